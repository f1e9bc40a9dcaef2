import PyProof.Rows.All
import Wide.All
import OpenK.AllK
import Wide.FinOn
import PySem.Challenge.RW_mq0159_01
open PySem PySem.W PyProof.Rows
set_option Elab.async false
set_option linter.unusedVariables false

/-! M1 -/
namespace Mine

/-- growth of a heap: everything is kept, but that the frames Fs may get other slots (their names stay) -/
structure Gr (Fs : List Addr) (h h' : Heap) : Prop where
  keep : ∀ b o, b ∉ Fs → h.get? b = some o → h'.get? b = some o
  names : ∀ b m, b ∈ Fs → h.Ns b m → h'.Ns b m

theorem Gr.refl (Fs : List Addr) (h : Heap) : Gr Fs h h := ⟨fun _ _ _ e => e, fun _ _ _ e => e⟩
theorem Gr.trans {Fs : List Addr} {h h' h'' : Heap} (a : Gr Fs h h') (b : Gr Fs h' h'') : Gr Fs h h'' :=
  ⟨fun x o n e => b.keep x o n (a.keep x o n e), fun x m n e => b.names x m n (a.names x m n e)⟩
theorem Gr.ns {Fs : List Addr} {h h' : Heap} (a : Gr Fs h h') {b : Addr} {m : Str → Option Value} (e : h.Ns b m) : h'.Ns b m := by
  by_cases hb : b ∈ Fs
  · exact a.names b m hb e
  · exact e.at' fun o x => a.keep b o hb x
theorem Gr.mono {Fs Gs : List Addr} {h h' : Heap} (a : Gr Fs h h') (hs : ∀ x ∈ Fs, x ∈ Gs) : Gr Gs h h' :=
  ⟨fun b o n e => a.keep b o (fun m => n (hs _ m)) e, fun _ _ _ e => a.ns e⟩
theorem Gr.of {Fs : List Addr} {h h' : Heap} (k : ∀ b o, h.get? b = some o → h'.get? b = some o) : Gr Fs h h' :=
  ⟨fun b o _ e => k b o e, fun _ _ _ e => e.keeps k⟩
theorem Gr.push {Fs : List Addr} {h : Heap} {o : Obj} : Gr Fs h (h.push o) :=
  .of fun _ _ e => Heap.get?_push_of_some _ e

/-- all objects of a heap but one -/
def others (h : Heap) (L : Addr) : List (Addr × Obj) := (List.range h.objs.size).filterMap fun a => if a = L then none else (h.get? a).map fun o => (a, o)
theorem mem_others {h : Heap} {L a : Addr} {o : Obj} : (a, o) ∈ others h L ↔ a ≠ L ∧ h.get? a = some o := by
  unfold others
  rw [List.mem_filterMap]
  constructor
  · rintro ⟨b, _, hb⟩
    by_cases e : b = L
    · rw [if_pos e] at hb; cases hb
    · rw [if_neg e] at hb
      cases q : h.get? b with
      | none => rw [q] at hb; cases hb
      | some o' => rw [q] at hb; cases hb; exact ⟨e, q⟩
  · rintro ⟨e, q⟩
    exact ⟨a, List.mem_range.mpr (Heap.lt_size q), by rw [if_neg e, q]; rfl⟩
/-- the library's rules over a frame and a ledger, in a plain heap -/
theorem asFr {h : Heap} {L : Addr} {m : Str → Option Value} (hn : h.Ns L m) : Fr {} L h m := ⟨hn, (fun b o e => by cases e), Nat.zero_le _⟩
theorem asNews {h : Heap} {L : Addr} : News {} L h (others h L) := fun _ hp => let q := mem_others.mp hp; ⟨q.2, q.1, rfl⟩
theorem gr_of_news {Fs : List Addr} {h h' : Heap} {L : Addr} {m : Str → Option Value} {news : List (Addr × Obj)} (hL : L ∈ Fs) (hn : h.Ns L m) (F : Fr {} L h' m) (N : News {} L h' news) (hs : ∀ p ∈ others h L, p ∈ news) : Gr Fs h h' :=
  ⟨fun b o n e => (N _ (hs _ (mem_others.mpr ⟨(fun (q : b = L) => n (by rw [q]; exact hL)), e⟩))).1, fun b m' _ e => by
    by_cases q : b = L
    · subst q
      have : m' = m := by
        obtain ⟨o, es, ep, e1, e2, _, e3⟩ := e
        obtain ⟨o', es', ep', f1, f2, _, f3⟩ := hn
        rw [e1] at f1; cases f1
        rw [e2] at f2; cases f2
        funext x; rw [← e3, ← f3]
      rw [this]; exact F.ns
    · exact e.at' fun o x => (N _ (hs _ (mem_others.mpr ⟨q, x⟩))).1⟩

def Gw (Fs : List Addr) (s s' : Shared) : Prop := ∃ h' tk, s' = { s with heap := h', toks := tk } ∧ Gr Fs s.heap h'
theorem Gw.refl (Fs : List Addr) (s : Shared) : Gw Fs s s := ⟨s.heap, s.toks, rfl, .refl ..⟩
theorem Gw.trans {Fs : List Addr} {s s' s'' : Shared} (a : Gw Fs s s') (b : Gw Fs s' s'') : Gw Fs s s'' := by
  obtain ⟨h, t, rfl, g⟩ := a
  obtain ⟨h', t', rfl, g'⟩ := b
  exact ⟨h', t', rfl, g.trans g'⟩
theorem Gw.gr {Fs : List Addr} {s s' : Shared} (a : Gw Fs s s') : Gr Fs s.heap s'.heap := by obtain ⟨h, t, rfl, g⟩ := a; exact g
theorem Gw.toks {Fs : List Addr} {s : Shared} {tk : Nat} : Gw Fs s { s with toks := tk } := ⟨s.heap, tk, rfl, .refl ..⟩
theorem Gw.push {Fs : List Addr} {s : Shared} {o : Obj} : Gw Fs s { s with heap := s.heap.push o } := ⟨_, s.toks, rfl, .push⟩
theorem Gw.mk {Fs : List Addr} {s : Shared} {h' : Heap} {tk : Nat} (g : Gr Fs s.heap h') : Gw Fs s { s with heap := h', toks := tk } := ⟨h', tk, rfl, g⟩
theorem Gw.of_keeps {Fs : List Addr} {s s' : Shared} (k : Keeps s s') : Gw Fs s s' := by
  obtain ⟨h, t, rfl, g⟩ := k
  exact ⟨h, t, rfl, .of g⟩

structure PW where
  prog : Program
  w : World

def strOf? : Value → Option Str
  | .str x _ => some x
  | _ => none

/-- a dict of texts under texts -/
def IsD (pw : PW) (h : Heap) (a : Addr) (es : List (Str × Str)) : Prop :=
  (a == sysModules) = false ∧ ∃ kvs : List (Str × Value), h.DictOf (strKind pw.prog pw.w) a kvs ∧ kvs.map (fun p => (p.1, strOf? p.2)) = es.map fun p => (p.1, some p.2)
def dictD (es : List (Str × Str)) : PyData := .dict (es.map fun p => (.str p.1, .str p.2))

mutual
inductive Rd (pw : PW) (h : Heap) : Value → PyData → Prop
  | bool (b) : Rd pw h (.bool b) (.bool b)
  | int (i t) : Rd pw h (.int i t) (.int i)
  | str (x t) : Rd pw h (.str x t) (.str x)
  | list {a o} {vs : List Value} {n xs} : h.get? a = some o → o.cls = .type "list" → o.data = .seq vs.toArray n → RdAll pw h vs xs → Rd pw h (.ref a) (.list xs)
  | tuple {a o} {vs : List Value} {n xs} : h.get? a = some o → o.cls = .type "tuple" → o.data = .seq vs.toArray n → RdAll pw h vs xs → Rd pw h (.ref a) (.tuple xs)
  | dict {a} {es : List (Str × Str)} {d} : IsD pw h a es → d = dictD es → Rd pw h (.ref a) d
inductive RdAll (pw : PW) (h : Heap) : List Value → List PyData → Prop
  | nil : RdAll pw h [] []
  | cons {v vs d ds} : Rd pw h v d → RdAll pw h vs ds → RdAll pw h (v :: vs) (d :: ds)
end

theorem IsD.keeps {pw : PW} {h h' : Heap} (hk : ∀ b o, h.get? b = some o → h'.get? b = some o) {a : Addr} {es : List (Str × Str)} (x : IsD pw h a es) : IsD pw h' a es :=
  let ⟨n, kvs, d, e⟩ := x; ⟨n, kvs, d.keep hk, e⟩
mutual
theorem Rd.keeps {pw : PW} {h h' : Heap} (hk : ∀ b o, h.get? b = some o → h'.get? b = some o) : ∀ {v : Value} {d : PyData}, Rd pw h v d → Rd pw h' v d
  | _, _, .bool b => .bool b
  | _, _, .int i t => .int i t
  | _, _, .str x t => .str x t
  | _, _, .list h1 h2 h3 h4 => .list (hk _ _ h1) h2 h3 (RdAll.keeps hk h4)
  | _, _, .tuple h1 h2 h3 h4 => .tuple (hk _ _ h1) h2 h3 (RdAll.keeps hk h4)
  | _, _, .dict x e => .dict (x.keeps hk) e
theorem RdAll.keeps {pw : PW} {h h' : Heap} (hk : ∀ b o, h.get? b = some o → h'.get? b = some o) : ∀ {vs : List Value} {ds : List PyData}, RdAll pw h vs ds → RdAll pw h' vs ds
  | _, _, .nil => .nil
  | _, _, .cons h1 h2 => .cons (Rd.keeps hk h1) (RdAll.keeps hk h2)
end
mutual
theorem Rd.reads {pw : PW} {h : Heap} : ∀ {v : Value} {d : PyData}, d.canLay0 = true → Rd pw h v d → ∃ as, Reads h v d as
  | _, _, _, .bool b => ⟨_, .bool b⟩
  | _, _, _, .int i t => ⟨_, .int i t⟩
  | _, _, _, .str x t => ⟨_, .str x t⟩
  | _, _, c, .list h1 h2 h3 h4 => let ⟨as, r⟩ := RdAll.reads c h4; ⟨_, .list h1 h2 h3 (by simpa using r)⟩
  | _, _, c, .tuple h1 h2 h3 h4 => let ⟨as, r⟩ := RdAll.reads c h4; ⟨_, .tuple h1 h2 h3 (by simpa using r)⟩
  | _, _, c, .dict x e => by rw [e] at c; cases c
theorem RdAll.reads {pw : PW} {h : Heap} : ∀ {vs : List Value} {ds : List PyData}, PyData.canLayAll0 ds = true → RdAll pw h vs ds → ∃ as, ReadsAll h vs ds as
  | _, _, _, .nil => ⟨_, .nil⟩
  | _, _, c, .cons h1 h2 => by
    have c' := Bool.and_eq_true_iff.mp c
    obtain ⟨_, r⟩ := Rd.reads c'.1 h1
    obtain ⟨_, q⟩ := RdAll.reads c'.2 h2
    exact ⟨_, .cons r q⟩
end

/-- v bears the datum d in the heap without the objects own -/
abbrev Den (pw : PW) (h : Heap) (own : List Addr) (v : Value) (d : PyData) : Prop := Rd pw (hideAll h own) v d
abbrev Dens (pw : PW) (h : Heap) (own : List Addr) (vs : List Value) (ds : List PyData) : Prop := RdAll pw (hideAll h own) vs ds

theorem hide_keeps {Fs own own' : List Addr} {h h' : Heap} (g : Gr Fs h h') (hf : ∀ a ∈ Fs, a ∈ own) (ho : ∀ a ∈ own', a ∈ own ∨ h.objs.size ≤ a) :
    ∀ b o, (hideAll h own).get? b = some o → (hideAll h' own').get? b = some o := fun b o e => by
  have hn : b ∉ own := fun m => by rw [hideAll_none own m] at e; cases e
  have e' := of_hideAll own e
  refine hideAll_get own' (g.keep b o (fun m => hn (hf b m)) e') fun m => ?_
  rcases ho b m with m | m
  · exact hn m
  · exact absurd (Heap.lt_size e') (Nat.not_lt.mpr m)
theorem hide_fewer {own own' : List Addr} {h : Heap} (hs : ∀ a ∈ own', a ∈ own) : ∀ b o, (hideAll h own).get? b = some o → (hideAll h own').get? b = some o := fun b o e =>
  hideAll_get own' (of_hideAll own e) fun m => by rw [hideAll_none own (hs _ m)] at e; cases e

section
variable {pw : PW} {h h' : Heap} {own own' Fs : List Addr} {v : Value} {vs ws : List Value} {d : PyData} {ds es : List PyData}

theorem Rd.gr' (x : Den pw h own v d) (g : Gr Fs h h') (hf : ∀ a ∈ Fs, a ∈ own) (ho : ∀ a ∈ own', a ∈ own ∨ h.objs.size ≤ a) : Den pw h' own' v d := Rd.keeps (hide_keeps g hf ho) x
theorem Rd.gr (x : Den pw h own v d) (g : Gr Fs h h') (hf : ∀ a ∈ Fs, a ∈ own) : Den pw h' own v d := x.gr' g hf fun _ m => .inl m
theorem RdAll.gr' (x : Dens pw h own vs ds) (g : Gr Fs h h') (hf : ∀ a ∈ Fs, a ∈ own) (ho : ∀ a ∈ own', a ∈ own ∨ h.objs.size ≤ a) : Dens pw h' own' vs ds := RdAll.keeps (hide_keeps g hf ho) x
theorem RdAll.gr (x : Dens pw h own vs ds) (g : Gr Fs h h') (hf : ∀ a ∈ Fs, a ∈ own) : Dens pw h' own vs ds := x.gr' g hf fun _ m => .inl m
/-- seen in the whole heap -/
theorem Rd.whole (x : Den pw h own v d) : Rd pw h v d := x.keeps fun _ _ e => of_hideAll own e
theorem RdAll.whole (x : Dens pw h own vs ds) : RdAll pw h vs ds := x.keeps fun _ _ e => of_hideAll own e
theorem Rd.fewer (x : Den pw h own v d) (hs : ∀ a ∈ own', a ∈ own) : Den pw h own' v d := x.keeps (hide_fewer hs)
theorem RdAll.fewer (x : Dens pw h own vs ds) (hs : ∀ a ∈ own', a ∈ own) : Dens pw h own' vs ds := x.keeps (hide_fewer hs)

theorem RdAll.uncons (x : RdAll pw h vs (d :: ds)) : ∃ v vs', vs = v :: vs' ∧ Rd pw h v d ∧ RdAll pw h vs' ds := by
  cases x with
  | cons r q => exact ⟨_, _, rfl, r, q⟩
theorem RdAll.unnil (x : RdAll pw h vs []) : vs = [] := by cases x; rfl
theorem RdAll.length (x : RdAll pw h vs ds) : vs.length = ds.length := by
  induction ds generalizing vs with
  | nil => rw [x.unnil]; rfl
  | cons d ds ih => obtain ⟨v, vs', rfl, _, q⟩ := x.uncons; rw [List.length_cons, List.length_cons, ih q]
theorem RdAll.append (x : RdAll pw h vs ds) (y : RdAll pw h ws es) : RdAll pw h (vs ++ ws) (ds ++ es) := by
  induction ds generalizing vs with
  | nil => rw [x.unnil]; exact y
  | cons d ds ih => obtain ⟨v, vs', rfl, p, q⟩ := x.uncons; exact .cons p (ih q)
theorem RdAll.get (x : RdAll pw h vs ds) {i : Nat} {d : PyData} (hi : ds[i]? = some d) : ∃ v, vs[i]? = some v ∧ Rd pw h v d := by
  induction ds generalizing vs i with
  | nil => cases hi
  | cons d' ds ih =>
    obtain ⟨v, vs', rfl, p, q⟩ := x.uncons
    cases i with
    | zero => cases hi; exact ⟨v, rfl, p⟩
    | succ i => exact ih q hi
theorem RdAll.get' (x : RdAll pw h vs ds) {i : Nat} {v : Value} (hi : vs[i]? = some v) : ∃ d, ds[i]? = some d ∧ Rd pw h v d := by
  induction ds generalizing vs i with
  | nil => rw [x.unnil] at hi; cases hi
  | cons d' ds ih =>
    obtain ⟨v', vs', rfl, p, q⟩ := x.uncons
    cases i with
    | zero => cases hi; exact ⟨d', rfl, p⟩
    | succ i => exact ih q hi
theorem RdAll.split {es : List PyData} (x : RdAll pw h vs (ds ++ es)) : ∃ ws us, vs = ws ++ us ∧ RdAll pw h ws ds ∧ RdAll pw h us es := by
  induction ds generalizing vs with
  | nil => exact ⟨[], vs, rfl, .nil, x⟩
  | cons d ds ih =>
    obtain ⟨v, vs', rfl, p, q⟩ := x.uncons
    obtain ⟨ws, us, rfl, a, b⟩ := ih q
    exact ⟨v :: ws, us, rfl, .cons p a, b⟩
theorem RdAll.drop (x : RdAll pw h vs ds) (n : Nat) : RdAll pw h (vs.drop n) (ds.drop n) := by
  induction n generalizing vs ds with
  | zero => exact x
  | succ n ih =>
    cases ds with
    | nil => rw [x.unnil]; exact .nil
    | cons d ds => obtain ⟨v, vs', rfl, _, q⟩ := x.uncons; exact ih q
theorem RdAll.take (x : RdAll pw h vs ds) (n : Nat) : RdAll pw h (vs.take n) (ds.take n) := by
  induction n generalizing vs ds with
  | zero => exact .nil
  | succ n ih =>
    cases ds with
    | nil => rw [x.unnil]; exact .nil
    | cons d ds => obtain ⟨v, vs', rfl, p, q⟩ := x.uncons; exact .cons p (ih q)

theorem Rd.inv_str {x : Str} (d : Rd pw h v (.str x)) : ∃ t, v = .str x t := by
  cases d with
  | str => exact ⟨_, rfl⟩
  | dict _ e => cases e
theorem Rd.inv_int {x : Int} (d : Rd pw h v (.int x)) : ∃ t, v = .int x t := by
  cases d with
  | int => exact ⟨_, rfl⟩
  | dict _ e => cases e
theorem Rd.inv_bool {x : Bool} (d : Rd pw h v (.bool x)) : v = .bool x := by
  cases d with
  | bool => rfl
  | dict _ e => cases e
theorem Rd.inv_list {xs : List PyData} (d : Rd pw h v (.list xs)) : ∃ a vs, v = .ref a ∧ h.IsList a vs.toArray ∧ RdAll pw h vs xs := by
  cases d with
  | @list a o vs n _ h1 h2 h3 h4 => exact ⟨a, vs, rfl, ⟨o, h1, h2, n, h3⟩, h4⟩
  | dict _ e => cases e
theorem Rd.inv_tuple {xs : List PyData} (d : Rd pw h v (.tuple xs)) : ∃ a o vs n, v = .ref a ∧ h.get? a = some o ∧ o.cls = .type "tuple" ∧ o.data = .seq (List.toArray vs) n ∧ RdAll pw h vs xs := by
  cases d with
  | @tuple a o vs n _ h1 h2 h3 h4 => exact ⟨a, o, vs, n, rfl, h1, h2, h3, h4⟩
  | dict _ e => cases e
theorem dictD_inj {es es' : List (Str × Str)} (e : dictD es = dictD es') : es = es' := by
  have e' : (es.map fun p => ((PyData.str p.1, PyData.str p.2) : PyData × PyData)) = es'.map fun p => (PyData.str p.1, PyData.str p.2) := by unfold dictD at e; injection e
  induction es generalizing es' with
  | nil => cases es' with
    | nil => rfl
    | cons => cases e'
  | cons p es ih => cases es' with
    | nil => cases e'
    | cons q es' =>
      simp only [List.map_cons, List.cons.injEq, Prod.mk.injEq, PyData.str.injEq] at e'
      rw [Prod.ext e'.1.1 e'.1.2, ih (by unfold dictD; rw [e'.2]) e'.2]
theorem Rd.inv_dict {es : List (Str × Str)} (d : Rd pw h v (dictD es)) : ∃ a, v = .ref a ∧ IsD pw h a es := by
  generalize hd : dictD es = d' at d
  cases d with
  | bool | int | str => cases hd
  | list => cases hd
  | tuple => cases hd
  | @dict a es' _ x e => rw [dictD_inj (hd.trans e)]; exact ⟨a, rfl, x⟩
theorem isList_of_hid {a : Addr} {vs : Array Value} (x : (hideAll h own).IsList a vs) : h.IsList a vs :=
  let ⟨o, e, r⟩ := x; ⟨o, of_hideAll own e, r⟩

/-- a made list, a made tuple -/
theorem Rd.mkList {a : Addr} {o : Obj} {n : Nat} (ho : h.get? a = some o) (hc : o.cls = .type "list") (hd : o.data = .seq vs.toArray n) (hn : a ∉ own) (x : Dens pw h own vs ds) : Den pw h own (.ref a) (.list ds) :=
  .list (hideAll_get own ho hn) hc hd x
theorem Rd.mkTuple {a : Addr} {o : Obj} {n : Nat} (ho : h.get? a = some o) (hc : o.cls = .type "tuple") (hd : o.data = .seq vs.toArray n) (hn : a ∉ own) (x : Dens pw h own vs ds) : Den pw h own (.ref a) (.tuple ds) :=
  .tuple (hideAll_get own ho hn) hc hd x
theorem Rd.newList (x : Dens pw h own vs ds) (hl : ∀ a ∈ own, a < h.objs.size) : Den pw (h.push { cls := .type "list", data := .seq vs.toArray }) own (.ref h.objs.size) (.list ds) :=
  .mkList (Heap.get?_push_size _ rfl) rfl rfl (fun m => Nat.lt_irrefl _ (hl _ m)) (x.gr (Fs := []) .push (by simp))
theorem Rd.newTuple (x : Dens pw h own vs ds) (hl : ∀ a ∈ own, a < h.objs.size) : Den pw (h.push { cls := .type "tuple", data := .seq vs.toArray }) own (.ref h.objs.size) (.tuple ds) :=
  .mkTuple (Heap.get?_push_size _ rfl) rfl rfl (fun m => Nat.lt_irrefl _ (hl _ m)) (x.gr (Fs := []) .push (by simp))
theorem Rd.mkDict {a : Addr} {es : List (Str × Str)} {kvs : List (Str × Value)} (hs : (a == sysModules) = false) (hd : h.DictOf (strKind pw.prog pw.w) a kvs) (he : kvs.map (fun p => (p.1, strOf? p.2)) = es.map fun p => (p.1, some p.2)) (hn : a ∉ own) :
    Den pw h own (.ref a) (dictD es) :=
  .dict ⟨hs, kvs, hd.at fun o e => hideAll_get own e hn, he⟩ rfl
end

end Mine

/-! M2 -/
namespace Mine

theorem mem_of_lookup {α : Type} {x : Str} {a : α} : ∀ {l : List (Str × α)}, l.lookup x = some a → (x, a) ∈ l
  | [], e => by cases e
  | (y, b) :: l, e => by
    rw [List.lookup_cons] at e
    cases q : x == y with
    | true => rw [q] at e; cases e; rw [eq_of_beq q]; exact .head _
    | false => rw [q] at e; exact .tail _ (mem_of_lookup e)

/-- where a piece of code runs -/
structure C extends PW where
  A : Around
  base : Heap
  mg : Str → Option Value
  frs : List Env
  env : Env
  room : Nat

def C.Fs (c : C) : List Addr := c.frs.filterMap (·.frame)

structure C.Ok (c : C) : Prop where
  handled : c.A.handled = none
  frames : c.A.frames = some c.frs
  depth : c.A.depth + c.room < recursionLimit
  units : c.A.units + 400 + 10 * c.room < cLine
  kind : c.env.scope.kind = .function
  glob : c.env.globals = mainGlobals
  blt : c.env.builtins = builtinsNs
  g : c.base.Ns mainGlobals c.mg
  b : ∃ mb : Str → Option Value, c.base.Ns builtinsNs mb ∧ ∀ x : Str, x ≠ "__name__" → mb x = bootBuiltins x
  lim : c.base.NoLimit
  fun_ : ∀ e ∈ c.frs, e.scope.kind ≠ .module ∧ ∃ L, e.frame = some L
  off : ∀ a ∈ c.Fs, c.base.get? a = none
  one : ∃ a, a ∈ c.Fs

/-- the name x holds v -/
def Has (env : Env) (h : Heap) (x : Str) (v : Value) : Prop :=
  (env.kindOf x = some .local ∧ ∃ m, h.Ns env.locals m ∧ m x = some v) ∨
  ((env.kindOf x = some .cell ∨ env.kindOf x = some .free) ∧ (x == ("__classdict__" : Str)) = false ∧ ∃ a, env.cells.lookup x = some a ∧ a ∉ [env.locals] ∧ h.IsCell a (some v))

structure C.Vs (c : C) (own : List Addr) (ρ : List (Str × PyData)) (h : Heap) : Prop where
  keep : ∀ b o, c.base.get? b = some o → h.get? b = some o
  fs : ∀ a ∈ c.Fs, a ∈ own
  ex : ∀ a ∈ own, ∃ o, h.get? a = some o
  frames : ∀ a ∈ c.Fs, ∃ m, h.Ns a m
  cells : ∀ p ∈ c.env.cells, p.2 ∉ c.Fs
  cex : ∀ p ∈ c.env.cells, ∃ o, h.get? p.2 = some o
  vars : ∀ p ∈ ρ, ∃ v, Has c.env h p.1 v ∧ Den c.toPW h own v p.2

theorem C.Vs.lt {c : C} {own : List Addr} {ρ : List (Str × PyData)} {h : Heap} (v : c.Vs own ρ h) : ∀ a ∈ own, a < h.objs.size := fun a m => let ⟨_, e⟩ := v.ex a m; Heap.lt_size e

theorem Has.gr {env : Env} {Fs : List Addr} {h h' : Heap} {x : Str} {v : Value} (a : Has env h x v) (g : Gr Fs h h') (hc : ∀ p ∈ env.cells, p.2 ∉ Fs) : Has env h' x v := by
  rcases a with ⟨k, m, n, e⟩ | ⟨k, hx, a, l, na, o, e, d⟩
  · exact .inl ⟨k, m, g.ns n, e⟩
  · refine .inr ⟨k, hx, a, l, na, o, g.keep a o (fun q => ?_) e, d⟩
    exact hc (x, a) (mem_of_lookup l) q

theorem C.Vs.gr {c : C} {own : List Addr} {ρ : List (Str × PyData)} {h h' : Heap} (v : c.Vs own ρ h) (hc : c.Ok) (g : Gr c.Fs h h') : c.Vs own ρ h' where
  keep := fun b o e => g.keep b o (fun m => by rw [hc.off b m] at e; cases e) (v.keep b o e)
  fs := v.fs
  ex := fun a m => by
    by_cases hf : a ∈ c.Fs
    · obtain ⟨x, n⟩ := v.frames a hf
      obtain ⟨o, _, _, e, _⟩ := g.ns n
      exact ⟨o, e⟩
    · obtain ⟨o, e⟩ := v.ex a m
      exact ⟨o, g.keep a o hf e⟩
  frames := fun a m => let ⟨x, n⟩ := v.frames a m; ⟨x, g.ns n⟩
  cells := v.cells
  cex := fun p m => let ⟨o, e⟩ := v.cex p m; ⟨o, g.keep _ o (v.cells p m) e⟩
  vars := fun p m => let ⟨x, e, d⟩ := v.vars p m; ⟨x, e.gr g v.cells, d.gr g v.fs⟩

theorem C.Vs.gw {c : C} {own : List Addr} {ρ : List (Str × PyData)} {s s' : Shared} (v : c.Vs own ρ s.heap) (hc : c.Ok) (g : Gw c.Fs s s') : c.Vs own ρ s'.heap := v.gr hc g.gr

/-- e gives a value that bears d; the heap only grows -/
def C.Ev (c : C) (own : List Addr) (ρ : List (Str × PyData)) (e : Expr) (d : PyData) : Prop :=
  ∀ E s, c.Vs own ρ s.heap → wpAny (model c.prog c.w) c.A (eval e c.env) (fun v s' => Gw c.Fs s s' ∧ Den c.toPW s'.heap own v d) E s
/-- a test -/
def C.Ts (c : C) (own : List Addr) (ρ : List (Str × PyData)) (e : Expr) (b : Bool) : Prop :=
  ∀ E s, c.Vs own ρ s.heap → wpAny (model c.prog c.w) c.A (isTrue e c.env (eval e c.env)) (fun b' s' => Gw c.Fs s s' ∧ b' = b) E s

section
variable {c : C} {own : List Addr} {ρ : List (Str × PyData)}

theorem Has.load {env : Env} {M : Model} {A : Around} {E : Value → Shared → Prop} {s : Shared} {x : Str} {v : Value} (a : Has env s.heap x v) (hk : env.scope.kind = .function) {Q : Value → Shared → Prop} (q : Q v s) :
    wpAny M A (loadName env x) Q E s := by
  rcases a with ⟨k, m, n, e⟩ | ⟨k | k, hx, a, l, _, i⟩
  · exact wpAny_loadName_local hk k n e q
  · exact wpAny_loadName_cell hk k l i q
  · exact wpAny_loadName_free hk k l i q hx

theorem Ev.name (hc : c.Ok) {x : Str} {pos : Pos} {d : PyData} (h : ρ.lookup x = some d) (hd : (x == ("__debug__" : Str)) = false := by decide) : c.Ev own ρ (.Name x pos) d := fun E s V => by
  obtain ⟨v, hv, hD⟩ := V.vars _ (mem_of_lookup h)
  refine wpAny_Name (hv.load hc.kind ?_) hd
  exact ⟨.refl .., hD⟩

theorem Ev.str {x : Str} {k : Nat} {pos : Pos} : c.Ev own ρ (.Constant (.str x) k pos) (.str x) := fun E s V => by
  show wpAny _ _ (mkText x) _ _ _
  exact wpAny_mkText ⟨.toks, .str ..⟩
theorem Ev.int {x : Int} {k : Nat} {pos : Pos} : c.Ev own ρ (.Constant (.int x) k pos) (.int x) := fun E s V => by
  show wpAny _ _ (mkInt x) _ _ _
  exact wpAny_mkInt ⟨.toks, .int ..⟩
theorem Ev.bool {x : Bool} {k : Nat} {pos : Pos} : c.Ev own ρ (.Constant (.bool x) k pos) (.bool x) := fun E s V => by
  show wpAny _ _ (pure (Value.bool x)) _ _ _
  exact wpAny_pure ⟨.refl .., .bool _⟩

/-- two expressions, one behind the other -/
theorem Ev.two (hc : c.Ok) {l r : Expr} {d₁ d₂ : PyData} (hl : c.Ev own ρ l d₁) (hr : c.Ev own ρ r d₂) {E : Value → Shared → Prop} {s : Shared} (V : c.Vs own ρ s.heap) {Q : Value → Value → Shared → Prop}
    (q : ∀ v₁ v₂ s₂, Gw c.Fs s s₂ → c.Vs own ρ s₂.heap → Den c.toPW s₂.heap own v₁ d₁ → Den c.toPW s₂.heap own v₂ d₂ → Q v₁ v₂ s₂) :
    wpAny (model c.prog c.w) c.A (eval l c.env) (fun a s₁ => wpAny (model c.prog c.w) c.A (eval r c.env) (fun b s₂ => Q a b s₂) E s₁) E s :=
  wpAny_mono (hl E s V) (fun a s₁ ⟨g₁, D₁⟩ => wpAny_mono (hr E s₁ (V.gw hc g₁)) (fun b s₂ ⟨g₂, D₂⟩ => q a b s₂ (g₁.trans g₂) (V.gw hc (g₁.trans g₂)) (D₁.gr g₂.gr V.fs) D₂) fun _ _ x => x) fun _ _ x => x

theorem Ev.binop (hc : c.Ok) {l r : Expr} {op : Operator} {pos : Pos} {d₁ d₂ d : PyData} (hl : c.Ev own ρ l d₁) (hr : c.Ev own ρ r d₂)
    (h : ∀ E s v₁ v₂, c.Vs own ρ s.heap → Den c.toPW s.heap own v₁ d₁ → Den c.toPW s.heap own v₂ d₂ → wpAny (model c.prog c.w) c.A (binaryOp op v₁ v₂) (fun v s' => Gw c.Fs s s' ∧ Den c.toPW s'.heap own v d) E s) :
    c.Ev own ρ (.BinOp l op r pos) d := fun E s V =>
  wpAny_BinOp (Ev.two hc hl hr V fun v₁ v₂ s₂ g V₂ D₁ D₂ => wpAny_mono (h E s₂ v₁ v₂ V₂ D₁ D₂) (fun _ _ ⟨g', D⟩ => ⟨g.trans g', D⟩) fun _ _ x => x)

theorem Ev.add_str (hc : c.Ok) {l r : Expr} {pos : Pos} {x y : Str} (hl : c.Ev own ρ l (.str x)) (hr : c.Ev own ρ r (.str y)) (hsz : x.length + y.length ≤ sizeLine) : c.Ev own ρ (.BinOp l .Add r pos) (.str (x ++ y)) :=
  Ev.binop hc hl hr fun E s v₁ v₂ V D₁ D₂ => by
    obtain ⟨_, rfl⟩ := D₁.inv_str
    obtain ⟨_, rfl⟩ := D₂.inv_str
    exact PyProof.Rows.add_str (fun t' tk => ⟨.toks, .str ..⟩) hsz

theorem Ev.sub_int (hc : c.Ok) {l r : Expr} {pos : Pos} {x y : Int} (hl : c.Ev own ρ l (.int x)) (hr : c.Ev own ρ r (.int y)) : c.Ev own ρ (.BinOp l .Sub r pos) (.int (x - y)) :=
  Ev.binop hc hl hr fun E s v₁ v₂ V D₁ D₂ => by
    obtain ⟨_, rfl⟩ := D₁.inv_int
    obtain ⟨_, rfl⟩ := D₂.inv_int
    exact PyProof.Rows.sub_int ⟨.toks, .int ..⟩
theorem Ev.mod_int (hc : c.Ok) {l r : Expr} {pos : Pos} {x y : Int} (hl : c.Ev own ρ l (.int x)) (hr : c.Ev own ρ r (.int y)) (hy : y ≠ 0) : c.Ev own ρ (.BinOp l .Mod r pos) (.int (x.fmod y)) :=
  Ev.binop hc hl hr fun E s v₁ v₂ V D₁ D₂ => by
    obtain ⟨_, rfl⟩ := D₁.inv_int
    obtain ⟨_, rfl⟩ := D₂.inv_int
    exact PyProof.Rows.mod_int' hy ⟨.toks, .int ..⟩
theorem Ev.div_int (hc : c.Ok) {l r : Expr} {pos : Pos} {x y : Int} (hl : c.Ev own ρ l (.int x)) (hr : c.Ev own ρ r (.int y)) (hy : y ≠ 0) (hp : y.natAbs < 2 ^ 20) : c.Ev own ρ (.BinOp l .FloorDiv r pos) (.int (x.fdiv y)) :=
  Ev.binop hc hl hr fun E s v₁ v₂ V D₁ D₂ => by
    obtain ⟨_, rfl⟩ := D₁.inv_int
    obtain ⟨_, rfl⟩ := D₂.inv_int
    exact PyProof.Rows.floordiv_int hy ⟨.toks, .int ..⟩ (Or.inl (PyProof.noPylong_small (Nat.lt_trans hp (by decide))))

theorem Ev.add_list (hc : c.Ok) {l r : Expr} {pos : Pos} {x y : List PyData} (hl : c.Ev own ρ l (.list x)) (hr : c.Ev own ρ r (.list y)) (hsz : x.length + y.length ≤ sizeLine) : c.Ev own ρ (.BinOp l .Add r pos) (.list (x ++ y)) :=
  Ev.binop hc hl hr fun E s v₁ v₂ V D₁ D₂ => by
    obtain ⟨a, vs, rfl, i₁, ds₁⟩ := D₁.inv_list
    obtain ⟨b, ws, rfl, i₂, ds₂⟩ := D₂.inv_list
    obtain ⟨L, hL⟩ := hc.one
    obtain ⟨m, hm⟩ := V.frames L hL
    refine add_lists (asFr hm) asNews (isList_of_hid i₁) (isList_of_hid i₂) (fun h' F N => ?_) (by rw [ds₁.length, ds₂.length]; exact hsz)
    have e := (N _ (.head _)).1
    have g : Gr c.Fs s.heap h' := gr_of_news hL hm F N (fun p hp => .tail _ hp)
    exact ⟨⟨h', s.toks, rfl, g⟩, .mkList e rfl rfl (fun q => Nat.lt_irrefl _ (V.lt _ q)) ((ds₁.append ds₂).gr g V.fs)⟩
end
end Mine

/-! M3 -/
namespace Mine
section
variable {c : C} {own : List Addr} {ρ : List (Str × PyData)}

/-- a comparison whose value is known -/
theorem Ts.cmp (hc : c.Ok) {l r : Expr} {op : CmpOp} {pos : Pos} {d₁ d₂ : PyData} {b : Bool} (hl : c.Ev own ρ l d₁) (hr : c.Ev own ρ r d₂)
    (h : ∀ (E : Value → Shared → Prop) (Q : Value → Shared → Prop) s v₁ v₂, c.Vs own ρ s.heap → Den c.toPW s.heap own v₁ d₁ → Den c.toPW s.heap own v₂ d₂ → (∀ tk, Q (.bool b) { s with toks := tk }) → wpAny (model c.prog c.w) c.A (compareOp op v₁ v₂) Q E s)
    (hm : behindInMarks op r = false := by with_unfolding_all rfl) : c.Ts own ρ (.Compare l [op] [r] pos) b := fun E s V =>
  wpAny_isTrue_Compare1 (Ev.two hc hl hr V fun v₁ v₂ s₂ g V₂ D₁ D₂ => h E _ s₂ v₁ v₂ V₂ D₁ D₂ fun tk => wpAny_truthy_bool ⟨g.trans .toks, rfl⟩) hm
theorem Ev.cmp (hc : c.Ok) {l r : Expr} {op : CmpOp} {pos : Pos} {d₁ d₂ : PyData} {b : Bool} (hl : c.Ev own ρ l d₁) (hr : c.Ev own ρ r d₂)
    (h : ∀ (E : Value → Shared → Prop) (Q : Value → Shared → Prop) s v₁ v₂, c.Vs own ρ s.heap → Den c.toPW s.heap own v₁ d₁ → Den c.toPW s.heap own v₂ d₂ → (∀ tk, Q (.bool b) { s with toks := tk }) → wpAny (model c.prog c.w) c.A (compareOp op v₁ v₂) Q E s)
    (hm : behindInMarks op r = false := by with_unfolding_all rfl) : c.Ev own ρ (.Compare l [op] [r] pos) (.bool b) := fun E s V =>
  wpAny_Compare1 (Ev.two hc hl hr V fun v₁ v₂ s₂ g V₂ D₁ D₂ => h E _ s₂ v₁ v₂ V₂ D₁ D₂ fun tk => ⟨g.trans .toks, .bool _⟩) hm

def CmpIs (c : C) (own : List Addr) (ρ : List (Str × PyData)) (op : CmpOp) (d₁ d₂ : PyData) (b : Bool) : Prop :=
  ∀ (E : Value → Shared → Prop) (Q : Value → Shared → Prop) s v₁ v₂, c.Vs own ρ s.heap → Den c.toPW s.heap own v₁ d₁ → Den c.toPW s.heap own v₂ d₂ → (∀ tk, Q (.bool b) { s with toks := tk }) → wpAny (model c.prog c.w) c.A (compareOp op v₁ v₂) Q E s

theorem CmpIs.eq (hc : c.Ok) {d₁ d₂ : PyData} (h₁ : d₁.canLay0 = true) (h₂ : d₂.canLay0 = true) (hd : d₁.depth ≤ 64) : CmpIs c own ρ .Eq d₁ d₂ (PyData.eqv d₁ d₂) := fun E Q s v₁ v₂ V D₁ D₂ q => by
  obtain ⟨_, r₁⟩ := D₁.whole.reads h₁
  obtain ⟨_, r₂⟩ := D₂.whole.reads h₂
  exact SeqAt.compareEq_reads r₁ r₂ h₁ h₂ (by have := hc.units; omega) (q s.toks)
theorem CmpIs.ne (hc : c.Ok) {d₁ d₂ : PyData} (h₁ : d₁.canLay0 = true) (h₂ : d₂.canLay0 = true) (hd : d₁.depth ≤ 64) : CmpIs c own ρ .NotEq d₁ d₂ (!PyData.eqv d₁ d₂) := fun E Q s v₁ v₂ V D₁ D₂ q => by
  obtain ⟨_, r₁⟩ := D₁.whole.reads h₁
  obtain ⟨_, r₂⟩ := D₂.whole.reads h₂
  exact SeqAt.compareNe_reads r₁ r₂ h₁ h₂ (by have := hc.units; omega) (q s.toks)
theorem CmpIs.in_list (hc : c.Ok) {d : PyData} {xs : List PyData} (h₁ : d.canLay0 = true) (h₂ : PyData.canLayAll0 xs = true) (hd : d.depth ≤ 64) : CmpIs c own ρ .In d (.list xs) (xs.any fun y => PyData.eqv y d) := fun E Q s v₁ v₂ V D₁ D₂ q => by
  obtain ⟨_, r₁⟩ := D₁.whole.reads h₁
  obtain ⟨_, r₂⟩ := D₂.whole.reads (d := .list xs) h₂
  exact SeqAt.in_list_reads r₂ r₁ h₂ h₁ (by have := hc.units; omega) (q s.toks)
theorem CmpIs.notIn_list (hc : c.Ok) {d : PyData} {xs : List PyData} (h₁ : d.canLay0 = true) (h₂ : PyData.canLayAll0 xs = true) (hd : d.depth ≤ 64) : CmpIs c own ρ .NotIn d (.list xs) (!xs.any fun y => PyData.eqv y d) := fun E Q s v₁ v₂ V D₁ D₂ q => by
  obtain ⟨_, r₁⟩ := D₁.whole.reads h₁
  obtain ⟨_, r₂⟩ := D₂.whole.reads (d := .list xs) h₂
  exact SeqAt.notIn_list_reads r₂ r₁ h₂ h₁ (by have := hc.units; omega) (q s.toks)
theorem CmpIs.in_str {x y : Str} : CmpIs c own ρ .In (.str y) (.str x) (Txt.contains x y) := fun E Q s v₁ v₂ V D₁ D₂ q => by
  obtain ⟨_, rfl⟩ := D₁.inv_str
  obtain ⟨_, rfl⟩ := D₂.inv_str
  exact PySem.SB.contains (q s.toks)
theorem CmpIs.eq_str {x y : Str} : CmpIs c own ρ .Eq (.str x) (.str y) (x == y) := fun E Q s v₁ v₂ V D₁ D₂ q => by
  obtain ⟨_, rfl⟩ := D₁.inv_str
  obtain ⟨_, rfl⟩ := D₂.inv_str
  refine PySem.P.eq_str ?_
  have e : (x.cps.toList == y.cps.toList) = (x == y) := by
    by_cases h : x = y
    · subst h; simp
    · have : ¬ x.cps.toList = y.cps.toList := fun e => h (Str.ext' (by simpa using congrArg List.toArray e))
      rw [beq_eq_false_iff_ne.mpr h, beq_eq_false_iff_ne.mpr this]
  rw [e]; exact q s.toks
theorem CmpIs.ne_str {x y : Str} : CmpIs c own ρ .NotEq (.str x) (.str y) (x != y) := fun E Q s v₁ v₂ V D₁ D₂ q => by
  obtain ⟨_, rfl⟩ := D₁.inv_str
  obtain ⟨_, rfl⟩ := D₂.inv_str
  refine PySem.P.ne_str ?_
  have e : (x.cps.toList != y.cps.toList) = (x != y) := by
    by_cases h : x = y
    · subst h; simp
    · have : ¬ x.cps.toList = y.cps.toList := fun e => h (Str.ext' (by simpa using congrArg List.toArray e))
      rw [bne_iff_ne.mpr h, bne_iff_ne.mpr this]
  rw [e]; exact q s.toks
theorem CmpIs.ne_int {x y : Int} : CmpIs c own ρ .NotEq (.int x) (.int y) (x != y) := fun E Q s v₁ v₂ V D₁ D₂ q => by
  obtain ⟨_, rfl⟩ := D₁.inv_int
  obtain ⟨_, rfl⟩ := D₂.inv_int
  exact PySem.P.ne_int (q s.toks)

theorem Ts.name_bool (hc : c.Ok) {x : Str} {pos : Pos} {b : Bool} (h : ρ.lookup x = some (.bool b)) (hd : (x == ("__debug__" : Str)) = false := by decide) : c.Ts own ρ (.Name x pos) b := fun E s V =>
  isTrue_plain (wpAny_mono (Ev.name hc h hd E s V) (fun v s' ⟨g, D⟩ => by
    rw [D.inv_bool]; exact wpAny_truthy_bool ⟨g, rfl⟩) fun _ _ x => x)
theorem Ts.name_str (hc : c.Ok) {x : Str} {pos : Pos} {y : Str} (h : ρ.lookup x = some (.str y)) (hy : y.length ≤ sizeLine) (hd : (x == ("__debug__" : Str)) = false := by decide) : c.Ts own ρ (.Name x pos) ((y.length : Int) != 0) := fun E s V =>
  isTrue_plain (wpAny_mono (Ev.name hc h hd E s V) (fun v s' ⟨g, D⟩ => by
    obtain ⟨_, rfl⟩ := D.inv_str
    exact PySem.P.truthy_str (by have : sizeLine = 2 ^ 24 := rfl; omega) ⟨g.trans .toks, rfl⟩) fun _ _ x => x)
theorem Ts.and2 (hc : c.Ok) {a b : Expr} {pos : Pos} {p q : Bool} (ha : c.Ts own ρ a p) (hb : p = true → c.Ts own ρ b q) : c.Ts own ρ (.BoolOp .And [a, b] pos) (p && q) := fun E s V =>
  isTrue_and (wpAny_mono (ha E s V) (fun b₁ s₁ ⟨g₁, e₁⟩ => by
    subst e₁
    cases b₁ with
    | false => exact ⟨g₁, rfl⟩
    | true => exact isTrue_and (wpAny_mono (hb rfl E s₁ (V.gw hc g₁)) (fun b₂ s₂ ⟨g₂, e₂⟩ => by
        subst e₂
        cases b₂ with
        | false => exact ⟨g₁.trans g₂, rfl⟩
        | true => exact isTrue_and_nil ⟨g₁.trans g₂, rfl⟩) fun _ _ x => x)) fun _ _ x => x)
theorem Ts.or2 (hc : c.Ok) {a b : Expr} {pos : Pos} {p q : Bool} (ha : c.Ts own ρ a p) (hb : p = false → c.Ts own ρ b q) : c.Ts own ρ (.BoolOp .Or [a, b] pos) (p || q) := fun E s V =>
  isTrue_or (wpAny_mono (ha E s V) (fun b₁ s₁ ⟨g₁, e₁⟩ => by
    subst e₁
    cases b₁ with
    | true => exact ⟨g₁, rfl⟩
    | false => exact isTrue_or (wpAny_mono (hb rfl E s₁ (V.gw hc g₁)) (fun b₂ s₂ ⟨g₂, e₂⟩ => by
        subst e₂
        cases b₂ with
        | true => exact ⟨g₁.trans g₂, rfl⟩
        | false => exact isTrue_or_nil ⟨g₁.trans g₂, rfl⟩) fun _ _ x => x)) fun _ _ x => x)
theorem Ev.ite (hc : c.Ok) {t a b : Expr} {pos : Pos} {p : Bool} {d : PyData} (ht : c.Ts own ρ t p) (ha : p = true → c.Ev own ρ a d) (hb : p = false → c.Ev own ρ b d) : c.Ev own ρ (.IfExp t a b pos) d := fun E s V =>
  wpAny_IfExp (wpAny_mono (ht E s V) (fun b₁ s₁ ⟨g₁, e₁⟩ => by
    subst e₁
    cases b₁ with
    | true => exact wpAny_mono (ha rfl E s₁ (V.gw hc g₁)) (fun _ _ ⟨g, D⟩ => ⟨g₁.trans g, D⟩) fun _ _ x => x
    | false => exact wpAny_mono (hb rfl E s₁ (V.gw hc g₁)) (fun _ _ ⟨g, D⟩ => ⟨g₁.trans g, D⟩) fun _ _ x => x) fun _ _ x => x)

/-- several expressions -/
def C.Evs (c : C) (own : List Addr) (ρ : List (Str × PyData)) (es : List (Bool × Sem Value)) (ds : List PyData) : Prop :=
  ∀ E s, c.Vs own ρ s.heap → wpAny (model c.prog c.w) c.A (spliced es) (fun vs s' => Gw c.Fs s s' ∧ Dens c.toPW s'.heap own vs ds) E s
theorem Evs.nil : c.Evs own ρ [] [] := fun E s V => Calls.spliced_nil ⟨.refl .., .nil⟩
theorem Evs.cons (hc : c.Ok) {e : Expr} {es : List (Bool × Sem Value)} {d : PyData} {ds : List PyData} (h : c.Ev own ρ e d) (hs : c.Evs own ρ es ds) : c.Evs own ρ ((false, eval e c.env) :: es) (d :: ds) := fun E s V =>
  Calls.spliced_cons (wpAny_mono (h E s V) (fun v s₁ ⟨g₁, D₁⟩ => wpAny_mono (hs E s₁ (V.gw hc g₁)) (fun vs s₂ ⟨g₂, D₂⟩ => ⟨g₁.trans g₂, .cons (D₁.gr g₂.gr V.fs) D₂⟩) fun _ _ x => x) fun _ _ x => x)

theorem Ev.list (hc : c.Ok) {es : List Expr} {pos : Pos} {ds : List PyData} {ts : List (Bool × Sem Value)} (ht : backTo pos (starEach es c.env) = ts) (h : c.Evs own ρ ts ds) (hsz : ds.length ≤ sizeLine := by first | decide | (simp; done)) : c.Ev own ρ (.List es pos) (.list ds) := fun E s V => by
  refine List_ ?_
  rw [ht]
  refine wpAny_mono (h E s V) (fun vs s₁ ⟨g₁, D₁⟩ => ?_) fun _ _ x => x
  have V₁ := V.gw hc g₁
  exact wpAny_newObj_type ⟨g₁.trans .push, .newList D₁ V₁.lt⟩ (by show vs.toArray.size ≤ sizeLine; rw [List.size_toArray, D₁.length]; exact hsz)
theorem Ev.tuple (hc : c.Ok) {es : List Expr} {k : Nat} {pos : Pos} {ds : List PyData} {ts : List (Bool × Sem Value)} (ht : backTo pos (starEach es c.env) = ts) (h : c.Evs own ρ ts ds) (hsz : ds.length ≤ sizeLine := by first | decide | (simp; done)) : c.Ev own ρ (.Tuple es k pos) (.tuple ds) := fun E s V => by
  refine Tuple_ ?_
  rw [ht]
  refine wpAny_mono (h E s V) (fun vs s₁ ⟨g₁, D₁⟩ => ?_) fun _ _ x => x
  have V₁ := V.gw hc g₁
  exact wpAny_newObj_type ⟨g₁.trans .push, .newTuple D₁ V₁.lt⟩ (by show vs.toArray.size ≤ sizeLine; rw [List.size_toArray, D₁.length]; exact hsz)

/-- items -/
theorem Ev.sub (hc : c.Ok) {l i : Expr} {pos : Pos} {d₁ d₂ d : PyData} (hl : c.Ev own ρ l d₁) (hi : c.Ev own ρ i d₂)
    (h : ∀ E s v₁ v₂, c.Vs own ρ s.heap → Den c.toPW s.heap own v₁ d₁ → Den c.toPW s.heap own v₂ d₂ → wpAny (model c.prog c.w) c.A (subscriptTail l i v₁ v₂) (fun v s' => Gw c.Fs s s' ∧ Den c.toPW s'.heap own v d) E s) :
    c.Ev own ρ (.Subscript l i pos) d := fun E s V =>
  Subscript_ (Ev.two hc hl hi V fun v₁ v₂ s₂ g V₂ D₁ D₂ => wpAny_mono (h E s₂ v₁ v₂ V₂ D₁ D₂) (fun _ _ ⟨g', D⟩ => ⟨g.trans g', D⟩) fun _ _ x => x)

theorem subscripted_plain {i : Expr} {o v : Value} (hi : ∀ a b p, i ≠ .Slice a b none p) : subscripted i false o v = operate [o, v] (getItem o v) := by
  unfold subscripted
  split
  · exact absurd rfl (hi _ _ _)
  · rename_i h; cases h
  · rfl

theorem Ev.item_list (hc : c.Ok) {l i : Expr} {pos : Pos} {xs : List PyData} {k : Int} {d : PyData} (hl : c.Ev own ρ l (.list xs)) (hi : c.Ev own ρ i (.int k)) (h0 : 0 ≤ k) (hk : k < 2 ^ 63) (hx : xs[k.toNat]? = some d)
    (hn : ∀ a b p, i ≠ .Slice a b none p := by intro _ _ _ h; cases h) : c.Ev own ρ (.Subscript l i pos) d :=
  Ev.sub hc hl hi fun E s v₁ v₂ V D₁ D₂ => by
    obtain ⟨a, vs, rfl, i₁, ds⟩ := D₁.inv_list
    obtain ⟨t, rfl⟩ := D₂.inv_int
    obtain ⟨v, hv, D⟩ := ds.get hx
    exact tail_any (isList_of_hid i₁).typeIs slot_list_getitem.lookup (wpAny_getItem_list (isList_of_hid i₁) h0 hk (by simpa using hv) ⟨.refl .., D⟩) (subscripted_plain hn)
theorem Ev.item_list_neg (hc : c.Ok) {l i : Expr} {pos : Pos} {xs : List PyData} {k : Int} {d : PyData} (hl : c.Ev own ρ l (.list xs)) (hi : c.Ev own ρ i (.int k)) (h0 : k < 0) (h1 : -(xs.length : Int) ≤ k) (hk : -(2 ^ 63) ≤ k) (hx : xs[(k + xs.length).toNat]? = some d)
    (hn : ∀ a b p, i ≠ .Slice a b none p := by intro _ _ _ h; cases h) : c.Ev own ρ (.Subscript l i pos) d :=
  Ev.sub hc hl hi fun E s v₁ v₂ V D₁ D₂ => by
    obtain ⟨a, vs, rfl, i₁, ds⟩ := D₁.inv_list
    obtain ⟨t, rfl⟩ := D₂.inv_int
    obtain ⟨v, hv, D⟩ := ds.get hx
    have hz : (vs.toArray.size : Int) = xs.length := by simp [ds.length]
    exact tail_any (isList_of_hid i₁).typeIs slot_list_getitem.lookup (wpAny_getItem_list_neg (isList_of_hid i₁) h0 (by omega) hk (by rw [hz]; simpa using hv) ⟨.refl .., D⟩) (subscripted_plain hn)
theorem Ev.item_tuple (hc : c.Ok) {l i : Expr} {pos : Pos} {xs : List PyData} {k : Int} {d : PyData} (hl : c.Ev own ρ l (.tuple xs)) (hi : c.Ev own ρ i (.int k)) (h0 : 0 ≤ k) (hk : k < 2 ^ 63) (hx : xs[k.toNat]? = some d)
    (hn : ∀ a b p, i ≠ .Slice a b none p := by intro _ _ _ h; cases h) : c.Ev own ρ (.Subscript l i pos) d :=
  Ev.sub hc hl hi fun E s v₁ v₂ V D₁ D₂ => by
    obtain ⟨a, o, vs, n, rfl, h1, h2, h3, ds⟩ := D₁.inv_tuple
    obtain ⟨t, rfl⟩ := D₂.inv_int
    obtain ⟨v, hv, D⟩ := ds.get hx
    have T : IsTup s.heap a vs.toArray := ⟨o, of_hideAll own h1, h2, n, h3⟩
    have hlt : k.toNat < vs.length := (List.getElem?_eq_some_iff.mp hv).1
    exact tail_any T.typeIs slot_tuple_getitem.lookup (PyProof.Rows.getItem_tuple (j := k.toNat) T (by omega) hk (by
      have e1 : ¬ k < 0 := by omega
      have e2 : k < (vs.length : Int) := by omega
      simp [seqIndex?, e1, e2, h0]) (by simpa using hv) ⟨.refl .., D⟩) (subscripted_plain hn)
theorem Ev.neg_int (hc : c.Ok) {e : Expr} {pos : Pos} {k : Int} (h : c.Ev own ρ e (.int k)) : c.Ev own ρ (.UnaryOp .USub e pos) (.int (-k)) := fun E s V =>
  wpAny_UnaryOp (wpAny_mono (h E s V) (fun v s₁ ⟨g₁, D₁⟩ => by
    obtain ⟨t, rfl⟩ := D₁.inv_int
    exact PySem.P.neg_int ⟨g₁.trans .toks, .int ..⟩) fun _ _ x => x)
end
end Mine

/-! M4 -/
namespace Mine
section
variable {c : C} {own : List Addr} {ρ : List (Str × PyData)}

theorem evalArgs_of {M : Model} {A : Around} {E : Value → Shared → Prop} {s : Shared} {f : Value} {ts : List (Bool × Sem Value)} (hp : ts.any (·.1) = false) {Q : Args → Shared → Prop}
    (h : wpAny M A (spliced ts) (fun vs s' => Q ⟨vs, []⟩ s') E s) : wpAny M A (evalArgs f true ts []) Q E s := by
  cases ts with
  | nil =>
    unfold evalArgs
    show wpAny M A (spliced [] >>= _) Q E s
    refine wpAny_bind (wpAny_mono h (fun vs s' h' => wpAny_bind (wpAny_pure (wpAny_holding (wpAny_bind (wpAny_pure (wpAny_bind (wpAny_pure (wpAny_pure h'))))))) ) fun _ _ x => x)
  | cons t ts =>
    obtain ⟨b, x⟩ := t
    cases b with
    | true => simp at hp
    | false => exact Calls.evalArgs_plain h

/-- a method of a built-in type -/
theorem Ev.meth (hc : c.Ok) {o : Expr} {name : Str} {apos pos : Pos} {args : List Expr} {ts : List (Bool × Sem Value)} {d₀ d : PyData} {ds : List PyData} {T id : String}
    (ho : c.Ev own ρ o d₀) (hts : backTo pos (starEach args c.env) = ts) (hargs : c.Evs own ρ ts ds) (pa : PlainAttrs T) (slot : Slot T name id) (hty : typeOf (.builtin id) = pure (.type "method_descriptor"))
    (hT : ∀ (s : Shared) v, Den c.toPW s.heap own v d₀ → s.TypeIs v T ∧ ∀ a, v = .ref a → ∃ ob, s.heap.get? a = some ob ∧ ob.dict = none)
    (hcall : ∀ E s v vs, c.Vs own ρ s.heap → Den c.toPW s.heap own v d₀ → Dens c.toPW s.heap own vs ds → wpAny (model c.prog c.w) c.A (call (.builtin id) (v :: vs)) (fun r s' => Gw c.Fs s s' ∧ Den c.toPW s'.heap own r d) E s)
    (hbase : attributeBase o name c.env (eval o c.env) = eval o c.env) (hline : (apos.endLine == pos.line) = true) (hplain : ts.any (·.1) = false)
    (hfew : ((backTo pos (starEach args c.env)).all (fun x => !x.1) && (backToKw pos (keywordEach [] c.env)).all (fun x => x.1.isSome)
      && decide (args.length + ([] : List Keyword).length + (if ([] : List Keyword).isEmpty then 0 else 1) < 30)) = true) :
    c.Ev own ρ (.Call (.Attribute o name apos) args [] pos) d := fun E s V => by
  refine wpAny_Call_method_late hbase hfew hline hts (wpAny_mono (ho E s V) (fun v s₁ ⟨g₁, D₁⟩ => ?_) fun _ _ x => x)
  have V₁ := V.gw hc g₁
  obtain ⟨t1, t2⟩ := hT s₁ v D₁
  refine ⟨T, id, pa, slot, hty, t1, t2, Calls.callWith_builtin hplain (evalArgs_of hplain (wpAny_mono (hargs E s₁ V₁) (fun vs s₂ ⟨g₂, D₂⟩ => ?_) fun _ _ x => x))⟩
  exact wpAny_mono (hcall E s₂ v vs (V₁.gw hc g₂) (D₁.gr g₂.gr V.fs) D₂) (fun _ _ ⟨g₃, D⟩ => ⟨g₁.trans (g₂.trans g₃), D⟩) fun _ _ x => x

theorem str_typed {pw : PW} {own : List Addr} {x : Str} (s : Shared) (v : Value) (D : Den pw s.heap own v (.str x)) : s.TypeIs v "str" ∧ ∀ a, v = .ref a → ∃ ob, s.heap.get? a = some ob ∧ ob.dict = none := by
  obtain ⟨t, rfl⟩ := D.inv_str
  exact ⟨typeIs_str s x t, fun _ h => by cases h⟩
theorem dict_typed {pw : PW} {own : List Addr} {es : List (Str × Str)} (s : Shared) (v : Value) (D : Den pw s.heap own v (dictD es)) : s.TypeIs v "dict" ∧ ∀ a, v = .ref a → ∃ ob, s.heap.get? a = some ob ∧ ob.dict = none := by
  obtain ⟨a, rfl, _, kvs, x, _⟩ := D.whole.inv_dict
  exact ⟨x.typeIs, x.mapOf.noDict⟩

theorem Ev.strip (hc : c.Ok) {o : Expr} {apos pos : Pos} {x : Str} (ho : c.Ev own ρ o (.str x)) (hx : x.length ≤ sizeLine)
    (hbase : attributeBase o (Str.ofString "strip") c.env (eval o c.env) = eval o c.env := by with_unfolding_all rfl) (hline : (apos.endLine == pos.line) = true := by rfl) :
    c.Ev own ρ (.Call (.Attribute o (Str.ofString "strip") apos) [] [] pos) (.str (Txt.strip x)) :=
  Ev.meth hc ho rfl Evs.nil PySem.F.plainAttrs_str PySem.F.slot_str_strip PySem.F.type_str_strip str_typed (fun E s v vs V D Ds => by
    obtain ⟨t, rfl⟩ := D.inv_str
    rw [Ds.unnil]
    exact PyProof.Rows.SCL.strip (fun t' k _ => ⟨.toks, .str ..⟩) hx) hbase hline rfl rfl

theorem rdAll_strValues {pw : PW} {h : Heap} : ∀ l : List (Str × Tok), RdAll pw h (strValues l) ((l.map (·.1)).map .str)
  | [] => .nil
  | _ :: l => .cons (.str ..) (rdAll_strValues l)

theorem Ev.split1 (hc : c.Ok) {o e f : Expr} {apos pos : Pos} {x y : Str} {k : Int} (ho : c.Ev own ρ o (.str x)) (he : c.Ev own ρ e (.str y)) (hf : c.Ev own ρ f (.int k)) (hy : (y.length == 0) = false)
    (hk : (decide (k < -(2 ^ 63 : Int)) || decide (k ≥ 2 ^ 63)) = false) (hx : x.length + 2 ≤ sizeLine)
    (hts : backTo pos (starEach [e, f] c.env) = [(false, eval e c.env), (false, eval f c.env)])
    (hbase : attributeBase o (Str.ofString "split") c.env (eval o c.env) = eval o c.env := by with_unfolding_all rfl) (hline : (apos.endLine == pos.line) = true := by rfl) :
    c.Ev own ρ (.Call (.Attribute o (Str.ofString "split") apos) [e, f] [] pos) (.list ((Txt.splitMax x y k).map .str)) :=
  Ev.meth hc ho hts (Evs.cons hc he (Evs.cons hc hf Evs.nil)) PySem.F.plainAttrs_str PySem.F.slot_str_split PySem.F.type_str_split str_typed (fun E s v vs V D Ds => by
    obtain ⟨t, rfl⟩ := D.inv_str
    obtain ⟨v1, _, rfl, D1, Ds⟩ := Ds.uncons
    obtain ⟨v2, _, rfl, D2, Ds⟩ := Ds.uncons
    rw [Ds.unnil]
    obtain ⟨_, rfl⟩ := D1.inv_str
    obtain ⟨_, rfl⟩ := D2.inv_int
    obtain ⟨L, hL⟩ := hc.one
    obtain ⟨m, hm⟩ := V.frames L hL
    refine splitN2A (asFr hm) asNews hy hk (fun l h' tk e _ _ il F N => ?_) hx
    have e1 := (N _ (.head _)).1
    have g : Gr c.Fs s.heap h' := gr_of_news hL hm F N (fun p hp => .tail _ hp)
    refine ⟨.mk g, .mkList e1 rfl rfl (fun q => Nat.lt_irrefl _ (V.lt _ q)) ?_⟩
    rw [← e]
    exact rdAll_strValues l) hbase hline rfl (by rw [hts]; rfl)

theorem strsAre_of {pw : PW} {h : Heap} : ∀ {vs : List Value} {ys : List Str}, RdAll pw h vs (ys.map .str) → StrsAre vs ys
  | vs, [], x => by rw [x.unnil]; exact .nil
  | vs, y :: ys, x => by
    obtain ⟨v, vs', rfl, D, q⟩ := x.uncons
    obtain ⟨t, rfl⟩ := D.inv_str
    exact .cons y t (strsAre_of q)

theorem Ev.join (hc : c.Ok) {o e : Expr} {apos pos : Pos} {x : Str} {ys : List Str} (ho : c.Ev own ρ o (.str x)) (he : c.Ev own ρ e (.list (ys.map .str))) (hok : (ys.map (·.length)).sum + ys.length * x.length ≤ 16777216)
    (hts : backTo pos (starEach [e] c.env) = [(false, eval e c.env)])
    (hbase : attributeBase o (Str.ofString "join") c.env (eval o c.env) = eval o c.env := by with_unfolding_all rfl) (hline : (apos.endLine == pos.line) = true := by rfl) :
    c.Ev own ρ (.Call (.Attribute o (Str.ofString "join") apos) [e] [] pos) (.str (Txt.join x ys)) :=
  Ev.meth hc ho hts (Evs.cons hc he Evs.nil) PySem.F.plainAttrs_str PySem.F.slot_str_join PySem.F.type_str_join str_typed (fun E s v vs V D Ds => by
    obtain ⟨t, rfl⟩ := D.inv_str
    obtain ⟨v1, _, rfl, D1, Ds⟩ := Ds.uncons
    rw [Ds.unnil]
    obtain ⟨a, ws, rfl, il, ds⟩ := D1.whole.inv_list
    exact join_list il (by simpa using strsAre_of ds) hok fun t' k => ⟨.toks, .str ..⟩) hbase hline rfl (by rw [hts]; rfl)

/-- .get of a dict of texts -/
def getOr (es : List (Str × Str)) (k dflt : Str) : Str := ((es.find? fun p => p.1 = k).map (·.2)).getD dflt
theorem valueAt_str : ∀ {kvs : List (Str × Value)} {es : List (Str × Str)}, kvs.map (fun p => (p.1, strOf? p.2)) = es.map (fun p => (p.1, some p.2)) → ∀ k,
    match (es.find? fun p => p.1 = k).map (·.2) with
    | some x => ∃ t, valueAt kvs k = some (.str x t)
    | none => valueAt kvs k = none
  | [], [], _, k => rfl
  | [], _ :: _, e, _ => by cases e
  | _ :: _, [], e, _ => by cases e
  | (k', v) :: kvs, (k'', x) :: es, e, k => by
    simp only [List.map_cons, List.cons.injEq, Prod.mk.injEq] at e
    obtain ⟨⟨rfl, e2⟩, e3⟩ := e
    by_cases hk : k' = k
    · have hv : ∃ t, v = .str x t := by cases v <;> simp [strOf?] at e2; exact ⟨_, by rw [e2]⟩
      obtain ⟨t, rfl⟩ := hv
      simp only [List.find?_cons, hk, decide_true, Option.map_some]
      exact ⟨t, by simp [valueAt]⟩
    · have ih := valueAt_str e3 k
      simp only [List.find?_cons, hk, decide_false]
      have e4 : valueAt ((k', v) :: kvs) k = valueAt kvs k := by simp [valueAt, hk]
      rw [e4]; exact ih

theorem Ev.get2 (hc : c.Ok) {o e f : Expr} {apos pos : Pos} {es : List (Str × Str)} {k y : Str} (ho : c.Ev own ρ o (dictD es)) (he : c.Ev own ρ e (.str k)) (hf : c.Ev own ρ f (.str y))
    (hts : backTo pos (starEach [e, f] c.env) = [(false, eval e c.env), (false, eval f c.env)])
    (hbase : attributeBase o (Str.ofString "get") c.env (eval o c.env) = eval o c.env := by with_unfolding_all rfl) (hline : (apos.endLine == pos.line) = true := by rfl) :
    c.Ev own ρ (.Call (.Attribute o (Str.ofString "get") apos) [e, f] [] pos) (.str (getOr es k y)) :=
  Ev.meth hc ho hts (Evs.cons hc he (Evs.cons hc hf Evs.nil)) PySem.F.plainAttrs_dict PySem.F.slot_dict_get PySem.F.type_dict_get dict_typed (fun E s v vs V D Ds => by
    obtain ⟨a, rfl, hs, kvs, x, e⟩ := D.whole.inv_dict
    obtain ⟨v1, _, rfl, D1, Ds⟩ := Ds.uncons
    obtain ⟨v2, _, rfl, D2, Ds⟩ := Ds.uncons
    rw [Ds.unnil]
    obtain ⟨t1, rfl⟩ := D1.inv_str
    obtain ⟨t2, rfl⟩ := D2.inv_str
    refine call_meetsIn PySem.F.slot_dict_get x.typeIs PySem.F.entry_dict_get (PySem.F.args_dict_get_3 _ _ _) (meets_dict_get_default (strKind c.prog c.w) a (strKind_is c.prog c.w k t1) hs _) ⟨_, x.mapOf, ?_⟩
    have q := valueAt_str e k
    unfold getOr
    cases hq : (es.find? fun p => p.1 = k).map (·.2) with
    | none =>
      rw [hq] at q
      rw [q]
      exact ⟨.toks, .str ..⟩
    | some z =>
      rw [hq] at q
      obtain ⟨t, q⟩ := q
      rw [q]
      exact ⟨.toks, .str ..⟩) hbase hline rfl (by rw [hts]; rfl)
end
end Mine

/-! M5 -/
namespace Mine

/-- objects that a call is still changing -/
inductive OD where
  | list (ds : List PyData)
  | dict (es : List (Str × Str))

def listObj (vs : List Value) (n : Nat) : Obj := { cls := .type "list", data := .seq vs.toArray n }

def OwnIs (pw : PW) (h : Heap) (own : List Addr) (a : Addr) : OD → Prop
  | .list ds => ∃ vs n, h.get? a = some (listObj vs n) ∧ Dens pw h own vs ds
  | .dict es => IsD pw h a es

/-- a list without an address -/
def less (own : List Addr) (a : Addr) : List Addr := own.filter fun b => decide (b ≠ a)
theorem mem_less {own : List Addr} {a b : Addr} : b ∈ less own a ↔ b ∈ own ∧ b ≠ a := by unfold less; rw [List.mem_filter]; simp

def put (ρ : List (Str × PyData)) (x : Str) (d : PyData) : List (Str × PyData) := (x, d) :: ρ.filter fun p => !(p.1 == x)
def drop (ρ : List (Str × PyData)) (x : Str) : List (Str × PyData) := ρ.filter fun p => !(p.1 == x)
theorem mem_drop {ρ : List (Str × PyData)} {x : Str} {p : Str × PyData} (h : p ∈ drop ρ x) : p ∈ ρ ∧ p.1 ≠ x := by
  obtain ⟨h1, h2⟩ := List.mem_filter.mp h
  exact ⟨h1, by simpa using h2⟩
theorem mem_put {ρ : List (Str × PyData)} {x : Str} {d : PyData} {p : Str × PyData} (h : p ∈ put ρ x d) : p = (x, d) ∨ (p ∈ ρ ∧ p.1 ≠ x) := by
  rcases List.mem_cons.mp h with h | h
  · exact .inl h
  · obtain ⟨h1, h2⟩ := List.mem_filter.mp h
    exact .inr ⟨h1, by simpa using h2⟩

/-- the state of a call: entered at h₀, the outer world's own objects O -/
structure C.StO (c : C) (h₀ : Heap) (s₀ : Shared) (O own : List Addr) (ρ : List (Str × PyData)) (ω : List (Str × Addr × OD)) (s : Shared) : Prop where
  vs : c.Vs own ρ s.heap
  gr : Gr c.Fs h₀ s.heap
  bot : ∀ b o, c.base.get? b = some o → h₀.get? b = some o
  eqs : ∃ h tk, s = { s₀ with heap := h, toks := tk }
  out : ∀ a ∈ O, a ∈ own
  fresh : ∀ a ∈ own, a ∈ O ∨ h₀.get? a = none
  loc : c.env.locals ∈ own ∧ h₀.get? c.env.locals = none ∧ ∃ m, s.heap.Ns c.env.locals m
  cell : ∀ p ∈ c.env.cells, p.2 ∈ own ∧ h₀.get? p.2 = none ∧ p.2 ≠ c.env.locals ∧ p.2 ∉ c.Fs ∧ ∃ v, s.heap.IsCell p.2 v
  owned : ∀ q ∈ ω, q.2.1 ∈ own ∧ h₀.get? q.2.1 = none ∧ q.2.1 ≠ c.env.locals ∧ q.2.1 ∉ c.Fs ∧ Has c.env s.heap q.1 (.ref q.2.1) ∧ OwnIs c.toPW s.heap own q.2.1 q.2.2
  apart : ω.Pairwise fun p q => p.2.1 ≠ q.2.1

def C.St (c : C) (h₀ : Heap) (s₀ : Shared) (O : List Addr) (ρ : List (Str × PyData)) (ω : List (Str × Addr × OD)) (s : Shared) : Prop := ∃ own, c.StO h₀ s₀ O own ρ ω s

/-- what a call's environment must be -/
structure C.Fn (c : C) : Prop where
  ok : c.Ok
  frame : c.env.locals ∈ c.Fs
  base : ∀ p ∈ c.env.cells, c.base.get? p.2 = none
  cells : c.env.cells.Pairwise fun p q => p.2 ≠ q.2
  kinds : ∀ x, c.env.kindOf x = some .cell → ∃ a, c.env.cells.lookup x = some a
  nofree : ∀ x, c.env.kindOf x ≠ some .free
  nocd : ∀ x, c.env.kindOf x = some .cell → (x == ("__classdict__" : Str)) = false
  top : ∃ r, c.frs = c.env :: r
  fr : c.env.frame = some c.env.locals

section
variable {c : C} {h₀ : Heap} {s₀ s : Shared} {O own : List Addr} {ρ : List (Str × PyData)} {ω : List (Str × Addr × OD)} {A : Around}

/-- one object of the call's own has changed -/
theorem hide_same {own : List Addr} {h h' : Heap} {a : Addr} (ha : a ∈ own) (hs : Heap.SameBut a h h') : ∀ b o, (hideAll h own).get? b = some o → (hideAll h' own).get? b = some o := fun b o e => by
  have hn : b ∉ own := fun m => by rw [hideAll_none own m] at e; cases e
  exact hideAll_get own ((hs.2 b fun q => hn (q ▸ ha)).trans (of_hideAll own e)) hn
theorem OwnIs.same {pw : PW} {own : List Addr} {h h' : Heap} {a b : Addr} {d : OD} (x : OwnIs pw h own b d) (ha : a ∈ own) (hb : b ≠ a) (hs : Heap.SameBut a h h') : OwnIs pw h' own b d := by
  cases d with
  | list ds => obtain ⟨vs, n, e, D⟩ := x; exact ⟨vs, n, (hs.2 b hb).trans e, D.keeps (hide_same ha hs)⟩
  | dict es => obtain ⟨n, kvs, e, q⟩ := x; exact ⟨n, kvs, e.sameBut hs hb, q⟩
theorem OwnIs.gr {pw : PW} {Fs own : List Addr} {h h' : Heap} {b : Addr} {d : OD} (x : OwnIs pw h own b d) (g : Gr Fs h h') (hf : ∀ a ∈ Fs, a ∈ own) (hb : b ∉ Fs) : OwnIs pw h' own b d := by
  cases d with
  | list ds => obtain ⟨vs, n, e, D⟩ := x; exact ⟨vs, n, g.keep b _ hb e, D.gr g hf⟩
  | dict es => obtain ⟨n, kvs, e, q⟩ := x; exact ⟨n, kvs, e.at fun o e => g.keep b o hb e, q⟩

theorem Has.same_other {env : Env} {h h' : Heap} {a : Addr} {x : Str} {v : Value} (p : Has env h x v) (hs : Heap.SameBut a h h') (h1 : a ≠ env.locals) (h2 : ∀ c, env.cells.lookup x = some c → c ≠ a) : Has env h' x v := by
  rcases p with ⟨k, m, n, e⟩ | ⟨k, hx, c, l, na, i⟩
  · exact .inl ⟨k, m, n.sameBut hs (Ne.symm h1), e⟩
  · obtain ⟨o, e, d⟩ := i
    exact .inr ⟨k, hx, c, l, na, o, (hs.2 c (h2 c l)).trans e, d⟩

theorem C.StO.grow (S : c.StO h₀ s₀ O own ρ ω s) (hc : c.Fn) {s' : Shared} (g : Gw c.Fs s s') : c.StO h₀ s₀ O own ρ ω s' where
  vs := S.vs.gw hc.ok g
  gr := S.gr.trans g.gr
  bot := S.bot
  eqs := by
    obtain ⟨h, t, rfl⟩ := S.eqs
    obtain ⟨h', t', rfl, _⟩ := g
    exact ⟨h', t', rfl⟩
  out := S.out
  fresh := S.fresh
  loc := ⟨S.loc.1, S.loc.2.1, let ⟨m, n⟩ := S.loc.2.2; ⟨m, g.gr.ns n⟩⟩
  cell := fun p hp => let ⟨a, b, d, e, v, o, f, k⟩ := S.cell p hp; ⟨a, b, d, e, v, o, g.gr.keep _ o e f, k⟩
  owned := fun q hq => let ⟨a, b, d, e, f, k⟩ := S.owned q hq; ⟨a, b, d, e, f.gr g.gr S.vs.cells, k.gr g.gr S.vs.fs e⟩
  apart := S.apart

theorem C.StO.sub (S : c.StO h₀ s₀ O own ρ ω s) {ρ' : List (Str × PyData)} (hs : ∀ p ∈ ρ', p ∈ ρ) : c.StO h₀ s₀ O own ρ' ω s :=
  { S with vs := { S.vs with vars := fun p hp => S.vs.vars p (hs p hp) } }
theorem C.St.sub (S : c.St h₀ s₀ O ρ ω s) {ρ' : List (Str × PyData)} (hs : ∀ p ∈ ρ', p ∈ ρ) : c.St h₀ s₀ O ρ' ω s := let ⟨own, S⟩ := S; ⟨own, S.sub hs⟩
theorem C.St.grow (S : c.St h₀ s₀ O ρ ω s) (hc : c.Fn) {s' : Shared} (g : Gw c.Fs s s') : c.St h₀ s₀ O ρ ω s' := let ⟨own, S⟩ := S; ⟨own, S.grow hc g⟩

/-- a local name is bound -/
theorem C.StO.storeLocal (S : c.StO h₀ s₀ O own ρ ω s) (hc : c.Fn) {x : Str} {v : Value} (hx : c.env.kindOf x = some .local) (hω : ∀ q ∈ ω, q.1 ≠ x) {E : Value → Shared → Prop} :
    wpAny (model c.prog c.w) A (storeName c.env x v) (fun _ s' => c.StO h₀ s₀ O own (drop ρ x) ω s' ∧ Has c.env s'.heap x v ∧ ∃ a ∈ own, (a = c.env.locals ∨ ∃ v, s.heap.IsCell a v) ∧ Heap.SameBut a s.heap s'.heap) E s := by
  obtain ⟨hL, hL0, m, hm⟩ := S.loc
  refine wpAny_storeName_local hx hm (fun h' hn hs => ?_) (by rw [hc.ok.kind]; rfl)
  have hH : ∀ y u, y ≠ x → Has c.env s.heap y u → Has c.env h' y u := fun y u hy a => by
    rcases a with ⟨k, m', n, e⟩ | ⟨k, hx', a, l, na, o, e, dd⟩
    · refine .inl ⟨k, _, hn, ?_⟩
      have : m' = m := by
        obtain ⟨o, es, ep, e1, e2, _, e3⟩ := n
        obtain ⟨o', es', ep', f1, f2, _, f3⟩ := hm
        rw [e1] at f1; cases f1
        rw [e2] at f2; cases f2
        funext z; rw [← e3, ← f3]
      show (if y = x then some v else m y) = some u
      rw [if_neg hy, ← this]; exact e
    · exact .inr ⟨k, hx', a, l, na, o, (hs.2 a (by simpa using na)).trans e, dd⟩
  refine ⟨{
    vs := {
      keep := fun b o e => (hs.2 b fun q => by rw [q, hc.ok.off _ hc.frame] at e; cases e).trans (S.vs.keep b o e)
      fs := S.vs.fs
      ex := fun a ha => by
        by_cases q : a = c.env.locals
        · obtain ⟨o, _, _, e, _⟩ := hn; exact ⟨o, q ▸ e⟩
        · obtain ⟨o, e⟩ := S.vs.ex a ha; exact ⟨o, (hs.2 a q).trans e⟩
      frames := fun a ha => by
        by_cases q : a = c.env.locals
        · exact ⟨_, q ▸ hn⟩
        · let ⟨m', n⟩ := S.vs.frames a ha; exact ⟨m', n.sameBut hs q⟩
      cells := S.vs.cells
      cex := fun p hp => let ⟨_, _, dd, _, _, o, f, _⟩ := S.cell p hp; ⟨o, (hs.2 _ dd).trans f⟩
      vars := fun p hp => by
        obtain ⟨hp, hne⟩ := mem_drop hp
        obtain ⟨u, a, D'⟩ := S.vs.vars p hp
        exact ⟨u, hH _ _ hne a, D'.keeps (hide_same hL hs)⟩ }
    gr := ⟨fun b o n e => (hs.2 b fun q => by rw [q, hL0] at e; cases e).trans (S.gr.keep b o n e), fun b m' n e => by
      have hb : b ≠ c.env.locals := fun q => by obtain ⟨o, _, _, e1, _⟩ := e; rw [q, hL0] at e1; cases e1
      exact (S.gr.names b m' n e).sameBut hs hb⟩
    bot := S.bot
    eqs := by obtain ⟨h, t, rfl⟩ := S.eqs; exact ⟨h', t + 1, rfl⟩
    out := S.out
    fresh := S.fresh
    loc := ⟨hL, hL0, _, hn⟩
    cell := fun p hp => let ⟨a, b, dd, e, u, o, f, k⟩ := S.cell p hp; ⟨a, b, dd, e, u, o, (hs.2 _ dd).trans f, k⟩
    owned := fun q hq => let ⟨a, b, dd, e, f, k⟩ := S.owned q hq; ⟨a, b, dd, e, hH _ _ (hω q hq) f, k.same hL dd hs⟩
    apart := S.apart }, .inl ⟨hx, _, hn, by simp⟩, _, hL, .inl rfl, hs⟩

/-- a captured name is bound -/
theorem C.StO.storeCell (S : c.StO h₀ s₀ O own ρ ω s) (hc : c.Fn) {x : Str} {v : Value} (hx : c.env.kindOf x = some .cell) (hω : ∀ q ∈ ω, q.1 ≠ x) {E : Value → Shared → Prop} :
    wpAny (model c.prog c.w) A (storeName c.env x v) (fun _ s' => c.StO h₀ s₀ O own (drop ρ x) ω s' ∧ Has c.env s'.heap x v ∧ ∃ a ∈ own, (a = c.env.locals ∨ ∃ v, s.heap.IsCell a v) ∧ Heap.SameBut a s.heap s'.heap) E s := by
  obtain ⟨a, ha⟩ := hc.kinds x hx
  obtain ⟨hO, h0, hL, hF, v₀, hv₀⟩ := S.cell (x, a) (mem_of_lookup ha)
  refine wpAny_storeName_cell hc.ok.kind hx ha hv₀ fun h' hn hs => ?_
  have hcells : ∀ y b, c.env.cells.lookup y = some b → y ≠ x → b ≠ a := fun y b l hy q => by
    have m1 := mem_of_lookup l
    have m2 := mem_of_lookup ha
    subst q
    have : ∀ {cs : List (Str × Addr)}, cs.Pairwise (fun p q => p.2 ≠ q.2) → (y, b) ∈ cs → (x, b) ∈ cs → y = x := by
      intro cs hp m1 m2
      induction hp with
      | nil => cases m1
      | @cons p cs h _ ih =>
        rcases List.mem_cons.mp m1 with e1 | e1 <;> rcases List.mem_cons.mp m2 with e2 | e2
        · exact congrArg Prod.fst (e1.trans e2.symm)
        · exact absurd (by rw [← e1]) (h _ e2)
        · exact absurd (by rw [← e2]) (h _ e1)
        · exact ih e1 e2
    exact hy (this hc.cells m1 m2)
  have hH : ∀ y u, y ≠ x → Has c.env s.heap y u → Has c.env h' y u := fun y u hy p => p.same_other hs hL fun b l => hcells y b l hy
  have howned : ∀ q ∈ ω, q.2.1 ≠ a := fun q hq e => by
    obtain ⟨_, _, _, _, _, k⟩ := S.owned q hq
    obtain ⟨o, e1, e2⟩ := hv₀
    rw [← e] at e1
    cases hd : q.2.2 with
    | list ds =>
      rw [hd] at k
      obtain ⟨vs, n, e3, _⟩ := k
      rw [e3] at e1; cases e1; cases e2
    | dict es =>
      rw [hd] at k
      obtain ⟨_, kvs, ⟨o', es', ep, e3, _, e4, _⟩, _⟩ := k
      rw [e3] at e1; cases e1; rw [e4] at e2; cases e2
  refine ⟨{
    vs := {
      keep := fun b o e => (hs.2 b fun q => by rw [q, hc.base (x, a) (mem_of_lookup ha)] at e; cases e).trans (S.vs.keep b o e)
      fs := S.vs.fs
      ex := fun b hb => by
        by_cases q : b = a
        · obtain ⟨o, e, _⟩ := hn; exact ⟨o, q ▸ e⟩
        · obtain ⟨o, e⟩ := S.vs.ex b hb; exact ⟨o, (hs.2 b q).trans e⟩
      frames := fun b hb => let ⟨m', n⟩ := S.vs.frames b hb; ⟨m', n.sameBut hs fun q => hF (q ▸ hb)⟩
      cells := S.vs.cells
      cex := fun p hp => by
        by_cases q : p.2 = a
        · obtain ⟨o, e, _⟩ := hn; exact ⟨o, q ▸ e⟩
        · obtain ⟨o, e⟩ := S.vs.cex p hp; exact ⟨o, (hs.2 _ q).trans e⟩
      vars := fun p hp => by
        obtain ⟨hp, hne⟩ := mem_drop hp
        obtain ⟨u, b, D'⟩ := S.vs.vars p hp
        exact ⟨u, hH _ _ hne b, D'.keeps (hide_same hO hs)⟩ }
    gr := ⟨fun b o n e => (hs.2 b fun q => by rw [q, h0] at e; cases e).trans (S.gr.keep b o n e), fun b m' n e => (S.gr.names b m' n e).sameBut hs fun q => by obtain ⟨o, _, _, e1, _⟩ := e; rw [q, h0] at e1; cases e1⟩
    bot := S.bot
    eqs := by obtain ⟨h, t, rfl⟩ := S.eqs; exact ⟨h', t, rfl⟩
    out := S.out
    fresh := S.fresh
    loc := ⟨S.loc.1, S.loc.2.1, let ⟨m, n⟩ := S.loc.2.2; ⟨m, n.sameBut hs (Ne.symm hL)⟩⟩
    cell := fun p hp => by
      obtain ⟨q1, q2, q3, q4, u, o, f, k⟩ := S.cell p hp
      refine ⟨q1, q2, q3, q4, ?_⟩
      by_cases e : p.2 = a
      · rw [e]; exact ⟨_, hn⟩
      · exact ⟨u, o, (hs.2 _ e).trans f, k⟩
    owned := fun q hq => let ⟨q1, q2, q3, q4, f, k⟩ := S.owned q hq; ⟨q1, q2, q3, q4, hH _ _ (hω q hq) f, k.same hO (howned q hq) hs⟩
    apart := S.apart }, .inr ⟨.inl hx, hc.nocd x hx, a, ha, by simpa using hL, hn⟩, _, hO, .inr ⟨_, hv₀⟩, hs⟩

theorem C.StO.storeRaw (S : c.StO h₀ s₀ O own ρ ω s) (hc : c.Fn) {x : Str} {v : Value} (hx : c.env.kindOf x = some .local ∨ c.env.kindOf x = some .cell) (hω : ∀ q ∈ ω, q.1 ≠ x) {E : Value → Shared → Prop} :
    wpAny (model c.prog c.w) A (storeName c.env x v) (fun _ s' => c.StO h₀ s₀ O own (drop ρ x) ω s' ∧ Has c.env s'.heap x v ∧ ∃ a ∈ own, (a = c.env.locals ∨ ∃ v, s.heap.IsCell a v) ∧ Heap.SameBut a s.heap s'.heap) E s :=
  hx.elim (fun h => S.storeLocal hc h hω) fun h => S.storeCell hc h hω
theorem C.StO.store' (S : c.StO h₀ s₀ O own ρ ω s) (hc : c.Fn) {x : Str} {v : Value} {d : PyData} (hx : c.env.kindOf x = some .local ∨ c.env.kindOf x = some .cell) (D : Den c.toPW s.heap own v d) (hω : ∀ q ∈ ω, q.1 ≠ x) {E : Value → Shared → Prop} :
    wpAny (model c.prog c.w) A (storeName c.env x v) (fun _ s' => c.StO h₀ s₀ O own (put ρ x d) ω s' ∧ ∃ a ∈ own, (a = c.env.locals ∨ ∃ v, s.heap.IsCell a v) ∧ Heap.SameBut a s.heap s'.heap) E s :=
  wpAny_mono (S.storeRaw hc hx hω) (fun _ s' ⟨S', hH, a, ha, hk, hs⟩ => by
    refine ⟨{ S' with vs := { S'.vs with vars := ?_ } }, a, ha, hk, hs⟩
    intro p hp
    rcases List.mem_cons.mp hp with rfl | hp
    · exact ⟨v, hH, D.keeps (hide_same ha hs)⟩
    · exact S'.vs.vars p hp) fun _ _ x => x
/-- a name is bound to a datum -/
theorem C.StO.store (S : c.StO h₀ s₀ O own ρ ω s) (hc : c.Fn) {x : Str} {v : Value} {d : PyData} (hx : c.env.kindOf x = some .local ∨ c.env.kindOf x = some .cell) (D : Den c.toPW s.heap own v d) (hω : ∀ q ∈ ω, q.1 ≠ x) {E : Value → Shared → Prop} :
    wpAny (model c.prog c.w) A (storeName c.env x v) (fun _ s' => c.StO h₀ s₀ O own (put ρ x d) ω s') E s :=
  wpAny_mono (S.storeRaw hc hx hω) (fun _ s' ⟨S', hH, a, ha, _, hs⟩ => by
    refine { S' with vs := { S'.vs with vars := ?_ } }
    intro p hp
    rcases List.mem_cons.mp hp with rfl | hp
    · exact ⟨v, hH, D.keeps (hide_same ha hs)⟩
    · exact S'.vs.vars p hp) fun _ _ x => x
end
end Mine

/-! M6 -/
namespace Mine
section
variable {c : C} {h₀ : Heap} {s₀ s : Shared} {O own : List Addr} {ρ : List (Str × PyData)} {ω pre post : List (Str × Addr × OD)}

theorem OwnIs.not_cell {pw : PW} {h : Heap} {a : Addr} {d : OD} {v : Option Value} (x : OwnIs pw h own a d) (y : h.IsCell a v) : False := by
  obtain ⟨o, e1, e2⟩ := y
  cases d with
  | list ds => obtain ⟨vs, n, e3, _⟩ := x; rw [e3] at e1; cases e1; cases e2
  | dict es => obtain ⟨_, kvs, ⟨o', es', ep, e3, _, e4, _⟩, _⟩ := x; rw [e3] at e1; cases e1; rw [e4] at e2; cases e2

/-- an object of the call's own has changed -/
theorem C.StO.update {x : Str} {a : Addr} {d d' : OD} (S : c.StO h₀ s₀ O own ρ (pre ++ (x, a, d) :: post) s) (hc : c.Fn) {h' : Heap} {tk : Nat} (hs : Heap.SameBut a s.heap h') (hn : OwnIs c.toPW h' own a d') (ho : ∃ o, h'.get? a = some o) :
    c.StO h₀ s₀ O own ρ (pre ++ (x, a, d') :: post) { s with heap := h', toks := tk } := by
  obtain ⟨q1, q2, q3, q4, q5, q6⟩ := S.owned (x, a, d) (List.mem_append_right _ (.head _))
  have hcell : ∀ p ∈ c.env.cells, p.2 ≠ a := fun p hp e => by
    obtain ⟨_, _, _, _, v, hv⟩ := S.cell p hp
    exact q6.not_cell (e ▸ hv)
  have hH : ∀ y u, Has c.env s.heap y u → Has c.env h' y u := fun y u p => p.same_other hs q3 fun b l => hcell (y, b) (mem_of_lookup l)
  have hne : ∀ q ∈ pre ++ post, q.2.1 ≠ a := by
    have hap := S.apart
    rw [List.pairwise_append, List.pairwise_cons] at hap
    intro q hq
    rcases List.mem_append.mp hq with m | m
    · exact hap.2.2 q m _ (.head _)
    · exact Ne.symm (hap.2.1.1 q m)
  exact {
    vs := {
      keep := fun b o e => (hs.2 b fun q => by
        rw [q] at e; rw [S.bot a o e] at q2; cases q2).trans (S.vs.keep b o e)
      fs := S.vs.fs
      ex := fun b hb => by
        by_cases q : b = a
        · rw [q]; exact ho
        · obtain ⟨o, e⟩ := S.vs.ex b hb; exact ⟨o, (hs.2 b q).trans e⟩
      frames := fun b hb => let ⟨m', n⟩ := S.vs.frames b hb; ⟨m', n.sameBut hs fun q => q4 (q ▸ hb)⟩
      cells := S.vs.cells
      cex := fun p hp => let ⟨o, e⟩ := S.vs.cex p hp; ⟨o, (hs.2 _ (hcell p hp)).trans e⟩
      vars := fun p hp => let ⟨u, b, D'⟩ := S.vs.vars p hp; ⟨u, hH _ _ b, D'.keeps (hide_same q1 hs)⟩ }
    gr := ⟨fun b o n e => (hs.2 b fun q => by rw [q, q2] at e; cases e).trans (S.gr.keep b o n e), fun b m' n e => (S.gr.names b m' n e).sameBut hs fun q => by obtain ⟨o, _, _, e1, _⟩ := e; rw [q, q2] at e1; cases e1⟩
    bot := S.bot
    eqs := by obtain ⟨h, t, rfl⟩ := S.eqs; exact ⟨h', tk, rfl⟩
    out := S.out
    fresh := S.fresh
    loc := ⟨S.loc.1, S.loc.2.1, let ⟨m, n⟩ := S.loc.2.2; ⟨m, n.sameBut hs (Ne.symm q3)⟩⟩
    cell := fun p hp => let ⟨a1, a2, a3, a4, u, o, f, k⟩ := S.cell p hp; ⟨a1, a2, a3, a4, u, o, (hs.2 _ (hcell p hp)).trans f, k⟩
    owned := fun q hq => by
      rcases List.mem_append.mp hq with m | m
      · obtain ⟨a1, a2, a3, a4, a5, a6⟩ := S.owned q (List.mem_append_left _ m)
        exact ⟨a1, a2, a3, a4, hH _ _ a5, a6.same q1 (hne q (List.mem_append_left _ m)) hs⟩
      · rcases List.mem_cons.mp m with rfl | m
        · exact ⟨q1, q2, q3, q4, hH _ _ q5, hn⟩
        · obtain ⟨a1, a2, a3, a4, a5, a6⟩ := S.owned q (List.mem_append_right _ (.tail _ m))
          exact ⟨a1, a2, a3, a4, hH _ _ a5, a6.same q1 (hne q (List.mem_append_right _ m)) hs⟩
    apart := by
      have hap := S.apart
      rw [List.pairwise_append, List.pairwise_cons] at hap ⊢
      exact ⟨hap.1, ⟨hap.2.1.1, hap.2.1.2⟩, fun p hp q hq => by
        rcases List.mem_cons.mp hq with rfl | hq
        · exact hap.2.2 p hp (x, a, d) (.head _)
        · exact hap.2.2 p hp q (.tail _ hq)⟩ }

theorem OwnIs.fewer {pw : PW} {own' : List Addr} {h : Heap} {b : Addr} {d : OD} (x : OwnIs pw h own b d) (hs : ∀ a ∈ own', a ∈ own) : OwnIs pw h own' b d := by
  cases d with
  | list ds => obtain ⟨vs, n, e, D⟩ := x; exact ⟨vs, n, e, D.fewer hs⟩
  | dict es => exact x

/-- a new object, for the call alone -/
theorem C.StO.ownNew (S : c.StO h₀ s₀ O own ρ ω s) (hc : c.Fn) {o : Obj} (hf : o.isFreed = false) {tk : Nat} :
    c.StO h₀ s₀ O (s.heap.objs.size :: own) ρ ω { s with heap := s.heap.push o, toks := tk } ∧ h₀.get? s.heap.objs.size = none ∧ s.heap.objs.size ≠ c.env.locals ∧ s.heap.objs.size ∉ c.Fs ∧ s.heap.objs.size ∉ own := by
  have hlt : s.heap.objs.size ∉ own := fun m => Nat.lt_irrefl _ (S.vs.lt _ m)
  have g : Gr c.Fs s.heap (s.heap.push o) := .push
  have hfr : ∀ a ∈ s.heap.objs.size :: own, a ∈ own ∨ s.heap.objs.size ≤ a := fun a m => (List.mem_cons.mp m).elim (fun e => .inr (Nat.le_of_eq e.symm)) .inl
  have hfs : s.heap.objs.size ∉ c.Fs := fun m => hlt (S.vs.fs _ m)
  have h0 : h₀.get? s.heap.objs.size = none := by
    cases e : h₀.get? s.heap.objs.size with
    | none => rfl
    | some o' => exact absurd (Heap.lt_size (S.gr.keep _ o' hfs e)) (Nat.lt_irrefl _)
  refine ⟨?_, h0, fun e => hlt (e ▸ S.loc.1), hfs, hlt⟩
  · have S' := S.grow hc (s' := { s with heap := s.heap.push o, toks := tk }) (.mk g)
    exact {
      vs := {
        keep := S'.vs.keep
        fs := fun a m => .tail _ (S.vs.fs a m)
        ex := fun a m => by
          rcases List.mem_cons.mp m with e | m
          · rw [e]; exact ⟨o, Heap.get?_push_size _ hf⟩
          · exact S'.vs.ex a m
        frames := S'.vs.frames
        cells := S'.vs.cells
        cex := S'.vs.cex
        vars := fun p hp => let ⟨v, e, D⟩ := S.vs.vars p hp; ⟨v, e.gr g S.vs.cells, D.gr' g S.vs.fs hfr⟩ }
      gr := S'.gr
      bot := S.bot
      eqs := S'.eqs
      out := fun a m => .tail _ (S.out a m)
      fresh := fun a m => (List.mem_cons.mp m).elim (fun e => .inr (e ▸ h0)) (S.fresh a)
      loc := ⟨.tail _ S.loc.1, S'.loc.2⟩
      cell := fun p hp => let ⟨a, b⟩ := S'.cell p hp; ⟨.tail _ a, b⟩
      owned := fun q hq => by
        obtain ⟨a1, a2, a3, a4, a5, a6⟩ := S.owned q hq
        refine ⟨.tail _ a1, a2, a3, a4, a5.gr g S.vs.cells, ?_⟩
        cases hd : q.2.2 with
        | list ds => rw [hd] at a6; obtain ⟨vs, n, e, D⟩ := a6; exact ⟨vs, n, g.keep _ _ a4 e, D.gr' g S.vs.fs hfr⟩
        | dict es => rw [hd] at a6; exact a6.gr g S.vs.fs a4
      apart := S.apart }

theorem C.StO.addOwned (S : c.StO h₀ s₀ O own ρ ω s) {x : Str} {a : Addr} {d : OD} (ha : a ∈ own) (h0 : h₀.get? a = none) (hL : a ≠ c.env.locals) (hF : a ∉ c.Fs) (hH : Has c.env s.heap x (.ref a)) (hd : OwnIs c.toPW s.heap own a d) (hne : ∀ q ∈ ω, q.2.1 ≠ a) :
    c.StO h₀ s₀ O own ρ ((x, a, d) :: ω) s :=
  { S with
    owned := fun q hq => by
      rcases List.mem_cons.mp hq with rfl | hq
      · exact ⟨ha, h0, hL, hF, hH, hd⟩
      · exact S.owned q hq
    apart := List.pairwise_cons.mpr ⟨fun q hq => Ne.symm (hne q hq), S.apart⟩ }

/-- a new list or dict is bound to a name -/
theorem C.StO.storeNew (S : c.StO h₀ s₀ O own ρ ω s) (hc : c.Fn) {x : Str} {o : Obj} {d : OD} {tk : Nat} (hf : o.isFreed = false) (hx : c.env.kindOf x = some .local ∨ c.env.kindOf x = some .cell) (hω : ∀ q ∈ ω, q.1 ≠ x)
    (hd : OwnIs c.toPW (s.heap.push o) (s.heap.objs.size :: own) s.heap.objs.size d) {E : Value → Shared → Prop} :
    wpAny (model c.prog c.w) c.A (storeName c.env x (.ref s.heap.objs.size)) (fun _ s' => c.StO h₀ s₀ O (s.heap.objs.size :: own) (drop ρ x) ((x, s.heap.objs.size, d) :: ω) s' ∧ s.heap.objs.size ∉ O) E { s with heap := s.heap.push o, toks := tk } := by
  obtain ⟨S₁, h0, hL, hF, hn⟩ := S.ownNew hc hf (tk := tk)
  refine wpAny_mono (S₁.storeRaw hc hx hω) (fun _ s' ⟨S₂, hH, b, hb, hk, hs⟩ => ⟨?_, fun m => hn (S.out _ m)⟩) fun _ _ x => x
  have hne : s.heap.objs.size ≠ b := by
    rintro rfl
    rcases hk with e | ⟨v, hv⟩
    · exact hL e
    · exact hd.not_cell hv
  exact S₂.addOwned (.head _) h0 hL hF hH (hd.same hb hne hs) fun q hq e => by
    have := (S.owned q hq).1
    rw [e] at this
    exact hn this

def OD.data : OD → PyData
  | .list ds => .list ds
  | .dict es => dictD es

/-- an object that is no longer changed -/
theorem C.StO.freeze {x : Str} {a : Addr} {d : OD} (S : c.StO h₀ s₀ O own ρ (pre ++ (x, a, d) :: post) s) (hc : c.Fn) (hO : a ∉ O) : c.StO h₀ s₀ O (less own a) ((x, d.data) :: ρ) (pre ++ post) s := by
  obtain ⟨q1, q2, q3, q4, q5, q6⟩ := S.owned (x, a, d) (List.mem_append_right _ (.head _))
  have hsub : ∀ b ∈ less own a, b ∈ own := fun b m => (mem_less.mp m).1
  have hin : ∀ b, b ≠ a → b ∈ own → b ∈ less own a := fun b h m => mem_less.mpr ⟨m, h⟩
  have hna : a ∉ less own a := fun m => (mem_less.mp m).2 rfl
  have hcell : ∀ p ∈ c.env.cells, p.2 ≠ a := fun p hp e => by
    obtain ⟨_, _, _, _, v, hv⟩ := S.cell p hp
    exact q6.not_cell (e ▸ hv)
  have hne : ∀ q ∈ pre ++ post, q.2.1 ≠ a := by
    have hap := S.apart
    rw [List.pairwise_append, List.pairwise_cons] at hap
    intro q hq
    rcases List.mem_append.mp hq with m | m
    · exact hap.2.2 q m _ (.head _)
    · exact Ne.symm (hap.2.1.1 q m)
  exact {
    vs := {
      keep := S.vs.keep
      fs := fun b m => hin b (fun e => q4 (e ▸ m)) (S.vs.fs b m)
      ex := fun b m => S.vs.ex b (hsub b m)
      frames := S.vs.frames
      cells := S.vs.cells
      cex := S.vs.cex
      vars := fun p hp => by
        rcases List.mem_cons.mp hp with rfl | hp
        · refine ⟨.ref a, q5, ?_⟩
          cases d with
          | list ds => obtain ⟨vs, n, e, D⟩ := q6; exact .mkList e rfl rfl hna (D.fewer hsub)
          | dict es => obtain ⟨hs, kvs, e, q⟩ := q6; exact .mkDict hs e q hna
        · obtain ⟨v, e, D⟩ := S.vs.vars p hp
          exact ⟨v, e, D.fewer hsub⟩ }
    gr := S.gr
    bot := S.bot
    eqs := S.eqs
    out := fun b m => hin b (fun e => hO (e ▸ m)) (S.out b m)
    fresh := fun b m => S.fresh b (hsub b m)
    loc := ⟨hin _ (Ne.symm q3) S.loc.1, S.loc.2⟩
    cell := fun p hp => let ⟨a1, a2⟩ := S.cell p hp; ⟨hin _ (hcell p hp) a1, a2⟩
    owned := fun q hq => by
      have hq' : q ∈ pre ++ (x, a, d) :: post := (List.mem_append.mp hq).elim (fun m => List.mem_append_left _ m) fun m => List.mem_append_right _ (.tail _ m)
      obtain ⟨a1, a2, a3, a4, a5, a6⟩ := S.owned q hq'
      exact ⟨hin _ (hne q hq) a1, a2, a3, a4, a5, a6.fewer hsub⟩
    apart := by
      have hap := S.apart
      rw [List.pairwise_append, List.pairwise_cons] at hap
      exact List.pairwise_append.mpr ⟨hap.1, hap.2.1.2, fun p hp q hq => hap.2.2 p hp q (.tail _ hq)⟩ }
theorem C.St.freeze {x : Str} {a : Addr} {d : OD} (S : c.St h₀ s₀ O ρ (pre ++ (x, a, d) :: post) s) (hc : c.Fn) (hO : a ∉ O) : c.St h₀ s₀ O ((x, d.data) :: ρ) (pre ++ post) s := let ⟨_, S⟩ := S; ⟨_, S.freeze hc hO⟩
end

/-- statements -/
def C.Tr (c : C) (P : Shared → Prop) (st : Stmt) (Q : Flow → Shared → Prop) : Prop := ∀ E s, P s → wpAny (model c.prog c.w) c.A (exec st c.env) Q E s
def C.Trs (c : C) (P : Shared → Prop) (b : List Stmt) (Q : Flow → Shared → Prop) : Prop := ∀ E s, P s → wpAny (model c.prog c.w) c.A (execs b c.env) Q E s
def Next (R : Shared → Prop) (f : Flow) (s : Shared) : Prop := f = .next ∧ R s
/-- a turn of a loop: it goes on -/
def Turn (R : Shared → Prop) (f : Flow) (s : Shared) : Prop := (f = .next ∨ f = .cont) ∧ R s

section
variable {c : C} {h₀ : Heap} {s₀ : Shared} {O : List Addr} {ρ : List (Str × PyData)} {ω pre post : List (Str × Addr × OD)} {P R : Shared → Prop} {Q : Flow → Shared → Prop}

theorem Trs.nil (h : ∀ s, P s → Q .next s) : c.Trs P [] Q := fun E s p => wpAny_execs_nil (h s p)
theorem Trs.cons {st : Stmt} {rest : List Stmt} (h : c.Tr P st (Next R)) (hr : c.Trs R rest Q) : c.Trs P (st :: rest) Q := fun E s p =>
  wpAny_execs_cons (wpAny_mono (h E s p) (fun f s' ⟨e, r⟩ => by subst e; exact hr E s' r) fun _ _ x => x)
theorem Trs.ex {α : Type} {P : α → Shared → Prop} {b : List Stmt} (h : ∀ a, c.Trs (P a) b Q) : c.Trs (fun s => ∃ a, P a s) b Q := fun E s ⟨a, p⟩ => h a E s p
theorem Trs.and {p : Prop} {b : List Stmt} (h : p → c.Trs P b Q) : c.Trs (fun s => p ∧ P s) b Q := fun E s ⟨x, y⟩ => h x E s y
theorem Trs.imp {P' : Shared → Prop} {b : List Stmt} (h : c.Trs P b Q) (hp : ∀ s, P' s → P s) : c.Trs P' b Q := fun E s p => h E s (hp s p)
theorem Trs.imp_to {Q' : Flow → Shared → Prop} {b : List Stmt} (h : c.Trs P b Q) (hq : ∀ f s, Q f s → Q' f s) : c.Trs P b Q' := fun E s p => wpAny_mono (h E s p) hq fun _ _ x => x
theorem Tr.imp {P' : Shared → Prop} {b : Stmt} (h : c.Tr P b Q) (hp : ∀ s, P' s → P s) : c.Tr P' b Q := fun E s p => h E s (hp s p)
theorem Tr.imp_to {Q' : Flow → Shared → Prop} {b : Stmt} (h : c.Tr P b Q) (hq : ∀ f s, Q f s → Q' f s) : c.Tr P b Q' := fun E s p => wpAny_mono (h E s p) hq fun _ _ x => x
/-- the last statement of a body -/
theorem Trs.last {st : Stmt} (h : c.Tr P st Q) : c.Trs P [st] Q := fun E s p =>
  wpAny_execs_cons (wpAny_mono (h E s p) (fun f s' q => by cases f <;> first | exact wpAny_execs_nil q | exact q) fun _ _ x => x)
/-- a statement that may leave -/
theorem Trs.leave {st : Stmt} {rest : List Stmt} (h : c.Tr P st (fun f s => match f with | .next => R s | f => Q f s)) (hr : c.Trs R rest Q) : c.Trs P (st :: rest) Q := fun E s p =>
  wpAny_execs_cons (wpAny_mono (h E s p) (fun f s' q => by cases f <;> first | exact hr E s' q | exact q) fun _ _ x => x)

theorem Tr.assign (hc : c.Fn) {x : Str} {p pos : Pos} {e : Expr} {d : PyData} (he : ∀ own, c.Ev own ρ e d) (hx : c.env.kindOf x = some .local ∨ c.env.kindOf x = some .cell) (hω : ∀ q ∈ ω, q.1 ≠ x)
    (hs : swapsWith e (some (.Name x p)) pos.line c.env = pure false) : c.Tr (c.St h₀ s₀ O ρ ω) (.Assign [.Name x p] e pos) (Next (c.St h₀ s₀ O (put ρ x d) ω)) := fun E s ⟨own, S⟩ =>
  wpAny_Assign_Name (wpAny_mono (he own E s S.vs) (fun v s₁ ⟨g, D⟩ => wpAny_mono ((S.grow hc g).store hc hx D hω) (fun _ s₂ S₂ => ⟨rfl, own, S₂⟩) fun _ _ x => x) fun _ _ x => x) hs

theorem Tr.assign2 (hc : c.Fn) {x y : Str} {p q pos : Pos} {e : Expr} {d : PyData} (he : ∀ own, c.Ev own ρ e d) (hx : c.env.kindOf x = some .local ∨ c.env.kindOf x = some .cell) (hy : c.env.kindOf y = some .local ∨ c.env.kindOf y = some .cell)
    (hω : ∀ q ∈ ω, q.1 ≠ x) (hω' : ∀ q ∈ ω, q.1 ≠ y) (hd : ∀ h own v, Den c.toPW h own v d → ∀ h' own', Den c.toPW h' own' v d) (hw : swappedStores [.Name x p, .Name y q] e c.env = pure none := by rfl) :
    c.Tr (c.St h₀ s₀ O ρ ω) (.Assign [.Name x p, .Name y q] e pos) (Next (c.St h₀ s₀ O (put (put ρ x d) y d) ω)) := fun E s ⟨own, S⟩ =>
  wpAny_Assign_two (wpAny_mono (he own E s S.vs) (fun v s₁ ⟨g, D⟩ => wpAny_assign_Name (wpAny_mono ((S.grow hc g).store hc hx D hω) (fun _ s₂ S₂ =>
    wpAny_assign_Name (wpAny_mono (S₂.store hc hy (hd _ _ _ D _ _) hω') (fun _ s₃ S₃ => ⟨rfl, own, S₃⟩) fun _ _ x => x)) fun _ _ x => x)) fun _ _ x => x) rfl hw

theorem Tr.newList (hc : c.Fn) {x : Str} {p lp pos : Pos} (hx : c.env.kindOf x = some .local ∨ c.env.kindOf x = some .cell) (hω : ∀ q ∈ ω, q.1 ≠ x) :
    c.Tr (c.St h₀ s₀ O ρ ω) (.Assign [.Name x p] (.List [] lp) pos) (Next fun s => ∃ a, a ∉ O ∧ c.St h₀ s₀ O (drop ρ x) ((x, a, .list []) :: ω) s) := fun E s ⟨own, S⟩ => by
  refine wpAny_Assign_Name (List_ ?_) rfl
  refine Calls.spliced_nil ?_
  refine wpAny_newObj_type ?_ (by show (([] : List Value).toArray).size ≤ sizeLine; decide)
  exact wpAny_mono (S.storeNew hc (o := listObj [] 0) (d := .list []) rfl hx hω ⟨[], 0, Heap.get?_push_size _ rfl, .nil⟩) (fun _ s' ⟨S', ho⟩ => ⟨rfl, _, ho, _, S'⟩) fun _ _ x => x

theorem Tr.ite (hc : c.Fn) {t : Expr} {a b : List Stmt} {pos : Pos} {p : Bool} (ht : ∀ own, c.Ts own ρ t p) (ha : p = true → c.Trs (c.St h₀ s₀ O ρ ω) a Q) (hb : p = false → c.Trs (c.St h₀ s₀ O ρ ω) b Q) : c.Tr (c.St h₀ s₀ O ρ ω) (.If t a b pos) Q := fun E s ⟨own, S⟩ =>
  wpAny_If (wpAny_mono (ht own E s S.vs) (fun b₁ s₁ ⟨g, e⟩ => by
    have S₁ := S.grow hc g
    cases b₁ with
    | true => exact ha e.symm E s₁ ⟨own, S₁⟩
    | false => exact hb e.symm E s₁ ⟨own, S₁⟩) fun _ _ x => x)

theorem Tr.ret (hc : c.Fn) {e : Expr} {pos : Pos} {d : PyData} (he : ∀ own, c.Ev own ρ e d) : c.Tr (c.St h₀ s₀ O ρ ω) (.Return (some e) pos) (fun f s => ∃ v, f = .ret v ∧ Den c.toPW s.heap O v d ∧ c.St h₀ s₀ O ρ ω s) := fun E s ⟨own, S⟩ =>
  wpAny_Return_some (wpAny_mono (he own E s S.vs) (fun v s₁ ⟨g, D⟩ => ⟨v, rfl, D.fewer S.out, own, S.grow hc g⟩) fun _ _ x => x)
theorem Tr.cont (pos : Pos) (h : ∀ s, P s → R s) : c.Tr P (.Continue pos) (Turn R) := fun E s p => wpAny_Continue ⟨.inr rfl, h s p⟩

theorem Tr.cont' {pos : Pos} (h : ∀ s, P s → Q .cont s) : c.Tr P (.Continue pos) Q := fun E s p => wpAny_Continue (h s p)

/-- x.append(e) -/
theorem Tr.append (hc : c.Fn) {x : Str} {a : Addr} {ds : List PyData} {e : Expr} {d : PyData} {p apos cp pos : Pos} (he : ∀ own, c.Ev own ρ e d) (hsz : ds.length ≤ sizeLine)
    (hts : backTo cp (starEach [e] c.env) = [(false, eval e c.env)]) (hline : (apos.endLine == cp.line) = true := by rfl) (hi : interactive c.env = false) (hd : (x == ("__debug__" : Str)) = false := by decide) :
    c.Tr (c.St h₀ s₀ O ρ (pre ++ (x, a, .list ds) :: post)) (.Expr (.Call (.Attribute (.Name x p) (Str.ofString "append") apos) [e] [] cp) pos) (Next (c.St h₀ s₀ O ρ (pre ++ (x, a, .list (ds ++ [d])) :: post))) := fun E s ⟨own, S⟩ => by
  obtain ⟨_, _, _, q4, q5, vs, n, ho, Ds⟩ := S.owned (x, a, .list ds) (List.mem_append_right _ (.head _))
  refine wpAny_Expr ?_ hi rfl
  refine wpAny_Call_method_late rfl (by rw [hts]; rfl) hline hts (wpAny_Name (q5.load hc.ok.kind ?_) hd)
  refine ⟨"list", "list.append", PySem.F.plainAttrs_list, PySem.F.slot_list_append, PySem.F.type_list_append, ⟨_, ho, rfl⟩, (fun b hb => by cases hb; exact ⟨_, ho, rfl⟩), Calls.callWith_builtin rfl (evalArgs_of rfl ?_)⟩
  refine Calls.spliced_cons (wpAny_mono (he own E s S.vs) (fun v s₁ ⟨g, D⟩ => Calls.spliced_nil ?_) fun _ _ x => x)
  have S₁ := S.grow hc g
  obtain ⟨_, _, _, _, _, vs₁, n₁, ho₁, Ds₁⟩ := S₁.owned (x, a, .list ds) (List.mem_append_right _ (.head _))
  refine wpAny_list_append_plain (items := vs₁.toArray) ⟨n₁, ho₁⟩ (fun h' ⟨n', hl'⟩ hs => ?_) (by rw [List.size_toArray, Ds₁.length]; exact hsz)
  refine ⟨rfl, own, S₁.update hc hs ⟨vs₁ ++ [v], n', by rw [hl']; simp [listObj], ?_⟩ ⟨_, hl'⟩⟩
  have hk := hide_same (S₁.owned (x, a, .list ds) (List.mem_append_right _ (.head _))).1 hs
  exact (Ds₁.keeps hk).append (.cons (D.keeps hk) .nil)
end
end Mine

/-! M7 -/
namespace Mine

def muts (c : C) (ω : List (Str × Addr × OD)) : List Addr := c.env.locals :: (c.env.cells.map (·.2) ++ ω.map (·.2.1))

section
variable {c : C} {h₀ : Heap} {s₀ s : Shared} {O own : List Addr} {ρ ρ' : List (Str × PyData)} {ω ω' : List (Str × Addr × OD)}

theorem C.StO.muts_in (S : c.StO h₀ s₀ O own ρ ω s) : ∀ a ∈ muts c ω, a ∈ own ∧ h₀.get? a = none := fun a m => by
  rcases List.mem_cons.mp m with rfl | m
  · exact ⟨S.loc.1, S.loc.2.1⟩
  · rcases List.mem_append.mp m with m | m
    · obtain ⟨p, hp, rfl⟩ := List.mem_map.mp m
      exact ⟨(S.cell p hp).1, (S.cell p hp).2.1⟩
    · obtain ⟨q, hq, rfl⟩ := List.mem_map.mp m
      exact ⟨(S.owned q hq).1, (S.owned q hq).2.1⟩

/-- a turn of a loop sees the rest of the heap as its world -/
theorem C.StO.turnIn (S : c.StO h₀ s₀ O own ρ ω s) (hc : c.Fn) : c.StO (hideAll s.heap (muts c ω)) s own own ρ ω s where
  vs := S.vs
  gr := ⟨fun b o _ e => of_hideAll _ e, fun b m _ e => e.at' fun o x => of_hideAll _ x⟩
  bot := fun b o e => hideAll_get _ (S.vs.keep b o e) fun m => by
    have := (S.muts_in b m).2
    rw [S.bot b o e] at this; cases this
  eqs := ⟨s.heap, s.toks, rfl⟩
  out := fun _ m => m
  fresh := fun _ m => .inl m
  loc := ⟨S.loc.1, hideAll_none _ (.head _), S.loc.2.2⟩
  cell := fun p hp => let ⟨a1, _, a3⟩ := S.cell p hp; ⟨a1, hideAll_none _ (.tail _ (List.mem_append_left _ (List.mem_map.mpr ⟨p, hp, rfl⟩))), a3⟩
  owned := fun q hq => let ⟨a1, _, a3⟩ := S.owned q hq; ⟨a1, hideAll_none _ (.tail _ (List.mem_append_right _ (List.mem_map.mpr ⟨q, hq, rfl⟩))), a3⟩
  apart := S.apart

theorem C.StO.turnOut {s' : Shared} {own' : List Addr} (S : c.StO h₀ s₀ O own ρ ω s) (S' : c.StO (hideAll s.heap (muts c ω)) s own own' ρ' ω' s') (hc : c.Fn) (hω : ω'.map (·.2.1) = ω.map (·.2.1)) : c.StO h₀ s₀ O own' ρ' ω' s' where
  vs := S'.vs
  gr := ⟨fun b o n e => S'.gr.keep b o n (hideAll_get _ (S.gr.keep b o n e) fun m => by have := (S.muts_in b m).2; rw [e] at this; cases this), fun b m n e =>
    S'.gr.names b m n ((S.gr.names b m n e).at' fun o x => hideAll_get _ x fun q => by
      have := (S.muts_in b q).2
      obtain ⟨o', _, _, e1, _⟩ := e
      rw [e1] at this; cases this)⟩
  bot := S.bot
  eqs := by
    obtain ⟨h, t, rfl⟩ := S.eqs
    obtain ⟨h', t', rfl⟩ := S'.eqs
    exact ⟨h', t', rfl⟩
  out := fun a m => S'.out a (S.out a m)
  fresh := fun a m => by
    rcases S'.fresh a m with m | m
    · exact S.fresh a m
    · by_cases hm : a ∈ muts c ω
      · exact .inr (S.muts_in a hm).2
      · by_cases hf : a ∈ c.Fs
        · exact S.fresh a (S.vs.fs a hf)
        · refine .inr ?_
          cases e : h₀.get? a with
          | none => rfl
          | some o => rw [hideAll_get _ (S.gr.keep a o hf e) hm] at m; cases m
  loc := ⟨S'.loc.1, S.loc.2.1, S'.loc.2.2⟩
  cell := fun p hp => let ⟨a1, _, a3⟩ := S'.cell p hp; ⟨a1, (S.cell p hp).2.1, a3⟩
  owned := fun q hq => by
    obtain ⟨a1, _, a3⟩ := S'.owned q hq
    refine ⟨a1, ?_, a3⟩
    have : q.2.1 ∈ ω.map (·.2.1) := hω ▸ List.mem_map.mpr ⟨q, hq, rfl⟩
    obtain ⟨q', hq', e⟩ := List.mem_map.mp this
    rw [← e]; exact (S.owned q' hq').2.1
  apart := S'.apart

/-- data of the world behind a turn stays -/
theorem C.StO.anchored {pw : PW} {vs : List Value} {ds : List PyData} (S : c.StO h₀ s₀ O own ρ ω s) (x : RdAll pw (hideAll h₀ O) vs ds) : Dens pw s.heap own vs ds :=
  x.keeps fun b o e => by
    have hO : b ∉ O := fun m => by rw [hideAll_none O m] at e; cases e
    have e' := of_hideAll O e
    have hn : b ∉ own := fun m => by
      rcases S.fresh b m with m | m
      · exact hO m
      · rw [e'] at m; cases m
    exact hideAll_get own (S.gr.keep b o (fun m => hn (S.vs.fs b m)) e') hn

/-- an iterator: apart from all that the call changes -/
structure Apart (c : C) (ω : List (Str × Addr × OD)) (I : Addr) : Prop where
  loc : I ≠ c.env.locals
  fs : I ∉ c.Fs
  cell : ∀ p ∈ c.env.cells, p.2 ≠ I
  owned : ∀ q ∈ ω, q.2.1 ≠ I
theorem Apart.muts {I : Addr} (a : Apart c ω I) : I ∉ muts c ω := fun m => by
  rcases List.mem_cons.mp m with e | m
  · exact a.loc e
  · rcases List.mem_append.mp m with m | m
    · obtain ⟨p, hp, e⟩ := List.mem_map.mp m; exact a.cell p hp e
    · obtain ⟨q, hq, e⟩ := List.mem_map.mp m; exact a.owned q hq e
theorem Apart.of {I : Addr} (a : Apart c ω I) (hω : ω'.map (·.2.1) = ω.map (·.2.1)) : Apart c ω' I :=
  ⟨a.loc, a.fs, a.cell, fun q hq e => by
    have : q.2.1 ∈ ω.map (·.2.1) := hω ▸ List.mem_map.mpr ⟨q, hq, rfl⟩
    obtain ⟨q', hq', e'⟩ := List.mem_map.mp this
    exact a.owned q' hq' (e'.trans e)⟩

theorem C.StO.poke {I : Addr} (S : c.StO h₀ s₀ O own ρ ω s) (hc : c.Fn) (a : Apart c ω I) (h0 : h₀.get? I = none) (hI : I ∈ own) {h' : Heap} {tk : Nat} (hk : ∀ b o, b ≠ I → s.heap.get? b = some o → h'.get? b = some o) {own' : List Addr}
    (hown : (own' = own ∧ ∃ o, h'.get? I = some o) ∨ (own' = less own I ∧ I ∉ O)) : c.StO h₀ s₀ O own' ρ ω { s with heap := h', toks := tk } := by
  have hsub : ∀ b ∈ own', b ∈ own := fun b m => by exact hown.elim (fun h => h.1 ▸ m) fun h => (mem_less.mp (h.1 ▸ m)).1
  have hin : ∀ b, b ≠ I → b ∈ own → b ∈ own' := fun b n m => by exact hown.elim (fun h => h.1 ▸ m) fun h => h.1 ▸ mem_less.mpr ⟨m, n⟩
  have hex : I ∈ own' → ∃ o, h'.get? I = some o := fun m => by
    rcases hown with ⟨_, e⟩ | ⟨rfl, _⟩
    · exact e
    · exact absurd rfl (mem_less.mp m).2
  have hO : ∀ b ∈ O, b ∈ own' := fun b m => by
    rcases hown with ⟨rfl, _⟩ | ⟨rfl, n⟩
    · exact S.out b m
    · exact mem_less.mpr ⟨S.out b m, fun (e : b = I) => n (e ▸ m)⟩
  have hH : ∀ y u, Has c.env s.heap y u → Has c.env h' y u := fun y u p => by
    rcases p with ⟨k, m, n, e⟩ | ⟨k, hx, b, l, na, o, e, d⟩
    · exact .inl ⟨k, m, n.at' fun o x => hk _ o (Ne.symm a.loc) x, e⟩
    · exact .inr ⟨k, hx, b, l, na, o, hk _ o (a.cell (y, b) (mem_of_lookup l)) e, d⟩
  have hD : ∀ b o, (hideAll s.heap own).get? b = some o → (hideAll h' own').get? b = some o := fun b o e => by
    have hn : b ∉ own := fun m => by rw [hideAll_none own m] at e; cases e
    exact hideAll_get own' (hk b o (fun q => hn (q ▸ hI)) (of_hideAll own e)) fun m => hn (hsub b m)
  exact {
    vs := {
      keep := fun b o e => hk b o (fun q => by rw [q] at e; rw [S.bot I o e] at h0; cases h0) (S.vs.keep b o e)
      fs := fun b m => hin b (fun e => a.fs (e ▸ m)) (S.vs.fs b m)
      ex := fun b m => by
        by_cases q : b = I
        · rw [q]; exact hex (q ▸ m)
        · obtain ⟨o, e⟩ := S.vs.ex b (hsub b m); exact ⟨o, hk b o q e⟩
      frames := fun b hb => let ⟨m', n⟩ := S.vs.frames b hb; ⟨m', n.at' fun o x => hk b o (fun q => a.fs (q ▸ hb)) x⟩
      cells := S.vs.cells
      cex := fun p hp => let ⟨o, e⟩ := S.vs.cex p hp; ⟨o, hk _ o (a.cell p hp) e⟩
      vars := fun p hp => let ⟨u, b, D⟩ := S.vs.vars p hp; ⟨u, hH _ _ b, D.keeps hD⟩ }
    gr := ⟨fun b o n e => hk b o (fun q => by rw [q, h0] at e; cases e) (S.gr.keep b o n e), fun b m n e => (S.gr.names b m n e).at' fun o x => hk b o (fun q => by obtain ⟨o', _, _, e1, _⟩ := e; rw [q, h0] at e1; cases e1) x⟩
    bot := S.bot
    eqs := by obtain ⟨h, t, rfl⟩ := S.eqs; exact ⟨h', tk, rfl⟩
    out := hO
    fresh := fun b m => S.fresh b (hsub b m)
    loc := ⟨hin _ (Ne.symm a.loc) S.loc.1, S.loc.2.1, let ⟨m, n⟩ := S.loc.2.2; ⟨m, n.at' fun o x => hk _ o (Ne.symm a.loc) x⟩⟩
    cell := fun p hp => let ⟨a1, a2, a3, a4, u, o, f, k⟩ := S.cell p hp; ⟨hin _ (a.cell p hp) a1, a2, a3, a4, u, o, hk _ o (a.cell p hp) f, k⟩
    owned := fun q hq => by
      obtain ⟨a1, a2, a3, a4, a5, a6⟩ := S.owned q hq
      refine ⟨hin _ (a.owned q hq) a1, a2, a3, a4, hH _ _ a5, ?_⟩
      cases hd : q.2.2 with
      | list ds => rw [hd] at a6; obtain ⟨vs, n, e, D⟩ := a6; exact ⟨vs, n, hk _ _ (a.owned q hq) e, D.keeps hD⟩
      | dict es => rw [hd] at a6; obtain ⟨n, kvs, e, q'⟩ := a6; exact ⟨n, kvs, e.at fun o e => hk _ o (a.owned q hq) e, q'⟩
    apart := S.apart }

/-- a loop over what an iterator gives -/
theorem for_core (hc : c.Fn) {target : Expr} {body : List Stmt} {I : Addr} {fp : List Addr} {P : Nat → Value → Prop} {St : Nat → Heap → Prop} {vs : List Value} {ws : List PyData} {ds : List PyData} {Q : Flow → Shared → Prop}
    (J : List PyData → List (Str × PyData)) (W : List PyData → List (Str × Addr × OD)) (bind : List (Str × PyData) → PyData → List (Str × PyData))
    (hW : ∀ l, (W l).map (·.2.1) = (W []).map (·.2.1)) (Wk : Walks c.prog c.w c.A I fp [I] ds.length P St) (hex : ∀ i h, St i h → ∃ o, h.get? I = some o)
    (hP : ∀ i v d h own, P i v → ds[i]? = some d → Dens c.toPW h own vs ws → Den c.toPW h own v d) (hfp : ∀ b ∈ fp, Apart c (W []) b) (hIfp : I ∈ fp)
    (hgo : ∀ i (s : Shared) v (Q : Unit → Shared → Prop) (E : Value → Shared → Prop), St i s.heap → Q () s → wpAny (model c.prog c.w) c.A (letOwnedTupleGo target (.ref I) v) Q E s)
    (hassign : ∀ h₀ s₀ O own l v d s E, d ∈ ds → c.StO h₀ s₀ O own (J l) (W l) s → Den c.toPW s.heap own v d → wpAny (model c.prog c.w) c.A (assign target c.env v) (fun _ s' => c.StO h₀ s₀ O own (bind (J l) d) (W l) s') E s)
    (turn : ∀ h₀ s₀ O pre d post, ds = pre ++ d :: post → c.Trs (c.St h₀ s₀ O (bind (J pre) d) (W pre)) body (Turn (c.St h₀ s₀ O (J (pre ++ [d])) (W (pre ++ [d])))))
    (S : c.StO h₀ s₀ O own (J []) (W []) s) (hI : I ∈ own) (hI0 : h₀.get? I = none) (hIO : I ∉ O) (hst : St 0 s.heap) (hD : Dens c.toPW s.heap own vs ws)
    (hQ : ∀ s', c.St h₀ s₀ O (J ds) (W ds) s' → Q .next s') {R : Result → Shared → Prop} (hR : ∀ f s', Q f s' → R (.ok f) s') :
    codeAny (model c.prog c.w) c.A (.forLoop target (.ref I) body [] c.env) R s := by
  refine codeAny_forLoop_any (fun k s' => ∃ pre post own', ds = pre ++ post ∧ k = post.length ∧ c.StO h₀ s₀ O own' (J pre) (W pre) s' ∧ I ∈ own' ∧ St pre.length s'.heap ∧ Dens c.toPW s'.heap own' vs ws) ?_ ds.length
    ⟨[], ds, own, rfl, rfl, S, hI, hst, hD⟩
  rintro k s' ⟨pre, post, own', hds, rfl, S', hI', hst', hD'⟩
  have aI : Apart c (W pre) I := (hfp I hIfp).of (hW pre)
  cases post with
  | nil =>
    have hn : pre.length = ds.length := by rw [hds]; simp
    refine Wk.done _ _ _ (hn ▸ hst') fun h₁ tk₁ hk₁ => ?_
    have S₁ := S'.poke hc aI hI0 hI' (h' := h₁) (tk := tk₁) (fun b o hb e => hk₁ b o (by simpa using hb) e) (.inr ⟨rfl, hIO⟩)
    have hpre : pre = ds := by rw [hds]; simp
    rw [hpre] at S₁
    exact wpAny_execs_nil (hR _ _ (hQ _ ⟨_, S₁⟩))
  | cons d post =>
    have hlt : pre.length < ds.length := by rw [hds]; simp
    have hget : ds[pre.length]? = some d := by rw [hds]; simp
    refine Wk.item pre.length _ _ _ hlt hst' fun v h₁ tk₁ hPv hst₁ hk₁ => ?_
    have hk₁' : ∀ b o, b ≠ I → s'.heap.get? b = some o → h₁.get? b = some o := fun b o hb e => hk₁ b o (by simpa using hb) e
    have S₁ := S'.poke hc aI hI0 hI' (h' := h₁) (tk := tk₁) hk₁' (.inl ⟨rfl, hex _ _ hst₁⟩)
    have hDk : ∀ b o, (hideAll s'.heap own').get? b = some o → (hideAll h₁ own').get? b = some o := fun b o e => by
      have hn : b ∉ own' := fun m => by rw [hideAll_none own' m] at e; cases e
      exact hideAll_get own' (hk₁' b o (fun q => hn (q ▸ hI')) (of_hideAll own' e)) hn
    have hD₁ : Dens c.toPW h₁ own' vs ws := hD'.keeps hDk
    refine hgo _ _ _ _ _ hst₁ ?_
    have S₁' := S₁.turnIn hc
    refine wpAny_mono (hassign _ _ _ _ pre v d _ _ (by rw [hds]; simp) S₁' (hP _ v d _ own' hPv hget hD₁)) (fun _ s₂ S₂ => ?_) fun _ _ x => x
    refine wpAny_mono (turn _ _ _ pre d post hds _ s₂ ⟨_, S₂⟩) (fun f s₃ ⟨hf, own₃, S₃⟩ => ?_) fun _ _ x => x
    have S₄ := S₁.turnOut S₃ hc (by rw [hW, hW pre])
    have hRd : RdAll c.toPW (hideAll (hideAll h₁ (muts c (W pre))) own') vs ws := hD₁.keeps fun b o e => by
      have hn : b ∉ own' := fun m => by rw [hideAll_none own' m] at e; cases e
      exact hideAll_get own' (hideAll_get _ (of_hideAll own' e) fun m => hn (S₁.muts_in b m).1) hn
    have hst₃ : St (pre ++ [d]).length s₃.heap := by
      rw [List.length_append]
      refine Wk.frame _ _ _ hst₁ fun b hb o e => S₃.gr.keep b o ((hfp b hb).fs) (hideAll_get _ e ((hfp b hb).of (hW pre)).muts)
    have fin : ∃ m, m < (d :: post).length ∧ ∃ pre' post' own₄, ds = pre' ++ post' ∧ m = post'.length ∧ c.StO h₀ s₀ O own₄ (J pre') (W pre') s₃ ∧ I ∈ own₄ ∧ St pre'.length s₃.heap ∧ Dens c.toPW s₃.heap own₄ vs ws :=
      ⟨post.length, by simp, pre ++ [d], post, own₃, by rw [hds]; simp, rfl, S₄, S₃.out I hI', hst₃, S₃.anchored hRd⟩
    rcases hf with rfl | rfl
    · exact fin
    · exact fin
end
end Mine

/-! M8 -/
namespace Mine

/-- dicts of texts -/
def setD (es : List (Str × Str)) (k v : Str) : List (Str × Str) :=
  if es.any (fun p => p.1 = k) then es.map (fun p => if p.1 = k then (p.1, v) else p) else es ++ [(k, v)]
def delD (es : List (Str × Str)) (k : Str) : List (Str × Str) := es.filter fun p => decide (p.1 ≠ k)
def hasD (es : List (Str × Str)) (k : Str) : Bool := es.any fun p => p.1 = k

abbrev Same (kvs : List (Str × Value)) (es : List (Str × Str)) : Prop := kvs.map (fun p => (p.1, strOf? p.2)) = es.map fun p => (p.1, some p.2)
theorem Same.any {kvs : List (Str × Value)} {es : List (Str × Str)} (h : Same kvs es) (k : Str) : kvs.any (fun p => p.1 = k) = es.any (fun p => p.1 = k) := by
  have e := congrArg (fun l : List (Str × Option Str) => l.any (fun p => p.1 = k)) h
  simpa [List.any_map, Function.comp_def] using e
theorem Same.length {kvs : List (Str × Value)} {es : List (Str × Str)} (h : Same kvs es) : kvs.length = es.length := by
  have e := congrArg List.length h
  simpa using e
theorem Same.stored {kvs : List (Str × Value)} {es : List (Str × Str)} (h : Same kvs es) (k v : Str) (t : Tok) : Same (PySem.stored kvs k (.str v t)) (setD es k v) := by
  unfold Same PySem.stored setD
  rw [h.any k]
  split
  · have e := congrArg (List.map fun p : Str × Option Str => if p.1 = k then (p.1, some v) else p) h
    rw [List.map_map, List.map_map] at e ⊢
    refine Eq.trans ?_ (e.trans ?_)
    · refine List.map_congr_left fun p _ => ?_
      by_cases hk : p.1 = k <;> simp [hk, strOf?]
    · refine List.map_congr_left fun p _ => ?_
      by_cases hk : p.1 = k <;> simp [hk]
  · rw [List.map_append, List.map_append, h]; rfl
theorem Same.without {kvs : List (Str × Value)} {es : List (Str × Str)} (h : Same kvs es) (k : Str) : Same (PySem.without kvs k) (delD es k) := by
  unfold Same PySem.without delD
  have e := congrArg (List.filter fun p : Str × Option Str => decide (p.1 ≠ k)) h
  rw [List.filter_map, List.filter_map] at e
  exact e
theorem Same.isSome {kvs : List (Str × Value)} {es : List (Str × Str)} (h : Same kvs es) (k : Str) : (valueAt kvs k).isSome = hasD es k := by
  unfold hasD
  rw [← h.any k]
  unfold valueAt
  rw [Option.isSome_map]
  clear h
  induction kvs with
  | nil => rfl
  | cons p kvs ih => rw [List.find?_cons, List.any_cons]; by_cases hk : p.1 = k <;> simp [hk, ih]

section
variable {c : C} {h₀ : Heap} {s₀ : Shared} {O : List Addr} {ρ : List (Str × PyData)} {ω pre post : List (Str × Addr × OD)} {P R : Shared → Prop} {Q : Flow → Shared → Prop}

/-- x += e, texts -/
theorem Tr.aug_str (hc : c.Fn) {x : Str} {p pos : Pos} {e : Expr} {a b : Str} (hx0 : ρ.lookup x = some (.str a)) (he : ∀ own, c.Ev own ρ e (.str b)) (hx : c.env.kindOf x = some .local ∨ c.env.kindOf x = some .cell) (hω : ∀ q ∈ ω, q.1 ≠ x) (hsz : a.length + b.length ≤ sizeLine) :
    c.Tr (c.St h₀ s₀ O ρ ω) (.AugAssign (.Name x p) .Add e pos) (Next (c.St h₀ s₀ O (put ρ x (.str (a ++ b))) ω)) := fun E s ⟨own, S⟩ => by
  obtain ⟨v, hv, D⟩ := S.vs.vars _ (mem_of_lookup hx0)
  obtain ⟨t, rfl⟩ := D.inv_str
  refine wpAny_AugAssign_Name (hv.load hc.ok.kind ?_)
  refine wpAny_mono (he own E s S.vs) (fun v₁ s₁ ⟨g, D₁⟩ => ?_) fun _ _ x => x
  obtain ⟨t₁, rfl⟩ := D₁.inv_str
  refine PySem.SB.iadd (fun t' k => ?_) hsz
  exact wpAny_mono (((S.grow hc g).grow hc .toks).store hc hx (.str ..) hω) (fun _ s₂ S₂ => ⟨rfl, own, S₂⟩) fun _ _ x => x

/-- two names at once -/
theorem C.StO.store2 {own : List Addr} {s : Shared} (S : c.StO h₀ s₀ O own ρ ω s) (hc : c.Fn) {x y : Str} {v u : Value} {d e : PyData} {p q : Pos} (hx : c.env.kindOf x = some .local ∨ c.env.kindOf x = some .cell) (hy : c.env.kindOf y = some .local ∨ c.env.kindOf y = some .cell)
    (hω : ∀ q ∈ ω, q.1 ≠ x) (hω' : ∀ q ∈ ω, q.1 ≠ y) (D : Den c.toPW s.heap own v d) (hD : ∀ h', (∀ b o, (hideAll s.heap own).get? b = some o → (hideAll h' own).get? b = some o) → Den c.toPW h' own u e) {E : Value → Shared → Prop} :
    wpAny (model c.prog c.w) c.A (assignInOrder [assign (.Name x p) c.env, assign (.Name y q) c.env] [v, u]) (fun _ s' => c.StO h₀ s₀ O own (put (put ρ x d) y e) ω s') E s := by
  refine assignInOrder_cons (wpAny_assign_Name (wpAny_mono (S.storeRaw hc hx hω) (fun _ s₁ ⟨S₁, hH, a, ha, _, hs⟩ => ?_) fun _ _ x => x))
  have hk := hide_same ha hs
  have S₁' : c.StO h₀ s₀ O own (put ρ x d) ω s₁ := { S₁ with vs := { S₁.vs with vars := fun p hp => (List.mem_cons.mp hp).elim (fun e => e ▸ ⟨v, hH, D.keeps hk⟩) (S₁.vs.vars p) } }
  refine assignInOrder_cons (wpAny_assign_Name (wpAny_mono (S₁'.store hc hy (hD _ hk) hω') (fun _ s₂ S₂ => assignInOrder_nil S₂) fun _ _ x => x))

/-- k, v = a list of two -/
theorem Tr.unpack (hc : c.Fn) {x y : Str} {k : Nat} {p q tp pos : Pos} {e : Expr} {d₁ d₂ : PyData} (he : ∀ own, c.Ev own ρ e (.list [d₁, d₂])) (hx : c.env.kindOf x = some .local ∨ c.env.kindOf x = some .cell) (hy : c.env.kindOf y = some .local ∨ c.env.kindOf y = some .cell)
    (hω : ∀ q ∈ ω, q.1 ≠ x) (hω' : ∀ q ∈ ω, q.1 ≠ y) (hs : swapsWithSole [.Tuple [.Name x p, .Name y q] k tp] e pos.line c.env = pure false) (hw : swappedStores [.Tuple [.Name x p, .Name y q] k tp] e c.env = pure none) :
    c.Tr (c.St h₀ s₀ O ρ ω) (.Assign [.Tuple [.Name x p, .Name y q] k tp] e pos) (Next (c.St h₀ s₀ O (put (put ρ x d₁) y d₂) ω)) := fun E s ⟨own, S⟩ => by
  refine Assign_Tuple (wpAny_mono (he own E s S.vs) (fun v s₁ ⟨g, D⟩ => ?_) fun _ _ x => x) hs hw
  have S₁ := S.grow hc g
  obtain ⟨l, vs, rfl, il, ds⟩ := D.inv_list
  obtain ⟨v1, _, rfl, D1, ds⟩ := ds.uncons
  obtain ⟨v2, _, rfl, D2, ds⟩ := ds.uncons
  rw [ds.unnil] at il
  rw [assign_Tuple]
  refine wpAny_bind (wpAny_standAt ?_)
  show wpAny _ _ (PySem.unpack (.ref l) [(false, PySem.assign (.Name x p) c.env), (false, PySem.assign (.Name y q) c.env)]) _ _ _
  unfold PySem.unpack
  refine wpAny_bind (wpAny_holding (kun_itemsOf (items := #[v1, v2]) hc.ok.handled (isList_of_hid il) fun h' hk => ?_))
  have g' : Gw c.Fs s₁ { s₁ with heap := h' } := ⟨h', s₁.toks, rfl, .of fun b o e => hk b o (Nat.ne_of_lt (Heap.lt_size e)) e⟩
  have S₂ := S₁.grow hc g'
  exact wpAny_mono (S₂.store2 hc hx hy hω hω' (D1.gr g'.gr S.vs.fs) fun h'' hh => (D2.gr g'.gr S.vs.fs).keeps hh) (fun _ s₃ S₃ => ⟨rfl, own, S₃⟩) fun _ _ x => x

/-- x[k] = v, a dict of the call's own -/
theorem Tr.setitem (hc : c.Fn) {x : Str} {a : Addr} {es : List (Str × Str)} {ev ek : Expr} {k v : Str} {p sp pos : Pos} (hv : ∀ own, c.Ev own ρ ev (.str v)) (hk : ∀ own, c.Ev own ρ ek (.str k)) (hsz : es.length ≤ sizeLine)
    (hs : swapsWith ev (some (.Subscript (.Name x p) ek sp)) pos.line c.env = pure false) (hd : (x == ("__debug__" : Str)) = false := by decide) :
    c.Tr (c.St h₀ s₀ O ρ (pre ++ (x, a, .dict es) :: post)) (.Assign [.Subscript (.Name x p) ek sp] ev pos) (Next (c.St h₀ s₀ O ρ (pre ++ (x, a, .dict (setD es k v)) :: post))) := fun E s ⟨own, S⟩ => by
  refine wpAny_Assign_Subscript (wpAny_mono (hv own E s S.vs) (fun v₁ s₁ ⟨g, D⟩ => ?_) fun _ _ x => x) hs
  have S₁ := S.grow hc g
  obtain ⟨_, _, _, _, q5, _⟩ := S₁.owned (x, a, .dict es) (List.mem_append_right _ (.head _))
  refine wpAny_Name (q5.load hc.ok.kind ?_) hd
  refine wpAny_mono (hk own E s₁ S₁.vs) (fun k₁ s₂ ⟨g₂, D₂⟩ => ?_) fun _ _ x => x
  have S₂ := S₁.grow hc g₂
  obtain ⟨_, _, _, _, _, hsm, kvs, hm, e⟩ := S₂.owned (x, a, .dict es) (List.mem_append_right _ (.head _))
  obtain ⟨t, rfl⟩ := D.inv_str
  obtain ⟨t₂, rfl⟩ := D₂.inv_str
  refine wpAny_setItem_pairs (strKind_is c.prog c.w k t₂) hm (fun h' hm' hs' => ⟨rfl, own, S₂.update hc hs' ⟨hsm, _, hm', Same.stored e k v t⟩ ?_⟩) (by rw [Same.length e]; exact hsz)
  obtain ⟨o, _, _, e1, _⟩ := hm'
  exact ⟨o, e1⟩

/-- del x[k] -/
theorem Tr.delitem (hc : c.Fn) {x : Str} {a : Addr} {es : List (Str × Str)} {ek : Expr} {k : Str} {p sp pos : Pos} (hk : ∀ own, c.Ev own ρ ek (.str k)) (hsz : es.length ≤ sizeLine) (hh : hasD es k = true) (hd : (x == ("__debug__" : Str)) = false := by decide) :
    c.Tr (c.St h₀ s₀ O ρ (pre ++ (x, a, .dict es) :: post)) (.Delete [.Subscript (.Name x p) ek sp] pos) (Next (c.St h₀ s₀ O ρ (pre ++ (x, a, .dict (delD es k)) :: post))) := fun E s ⟨own, S⟩ => by
  refine wpAny_Delete (wpAny_deleteEach_cons (delete_Subscript ?_))
  obtain ⟨_, _, _, _, q5, _⟩ := S.owned (x, a, .dict es) (List.mem_append_right _ (.head _))
  refine wpAny_Name (q5.load hc.ok.kind ?_) hd
  refine wpAny_mono (hk own E s S.vs) (fun k₁ s₂ ⟨g₂, D₂⟩ => ?_) fun _ _ x => x
  have S₂ := S.grow hc g₂
  obtain ⟨_, _, _, _, _, hsm, kvs, hm, e⟩ := S₂.owned (x, a, .dict es) (List.mem_append_right _ (.head _))
  obtain ⟨t₂, rfl⟩ := D₂.inv_str
  unfold delItem
  try with_reducible refine wpAny_holding ?_
  refine wpAny_bind (wpAny_sequenceKey hm.typeIs (by decide) ?_)
  refine wpAny_bind (wpAny_callSpecial?_slot (name := Str.ofString "__delitem__") hm.typeIs PySem.F.slot_dict_delitem
    (call_meetsIn PySem.F.slot_dict_delitem hm.typeIs PySem.F.entry_dict_delitem (PySem.F.args_dict_delitem_2 _ _) (meets_dict_delitem_pairs (strKind c.prog c.w) a (strKind_is c.prog c.w k t₂)) ⟨kvs, hm, (by rw [Same.length e]; exact hsz), (by rw [Same.isSome e]; exact hh), fun h' hm' hs' => ?_⟩))
  refine wpAny_pure (wpAny_deleteEach_nil ⟨rfl, own, S₂.update hc hs' ⟨hsm, _, hm', Same.without e k⟩ ?_⟩)
  obtain ⟨o, _, _, e1, _⟩ := hm'
  exact ⟨o, e1⟩

theorem low_of (hc : c.Fn) {own : List Addr} {s : Shared} (S : c.StO h₀ s₀ O own ρ ω s) : (s.heap.objs.size == sysModules) = false := by
  obtain ⟨o, _, _, e, _⟩ := hc.ok.g
  have h3 : 3 < s.heap.objs.size := Heap.lt_size (S.vs.keep _ o e)
  exact beq_eq_false_iff_ne.mpr fun q => by
    have h1 : s.heap.objs.size = 1 := q
    omega

/-- x = {} -/
theorem Tr.newDict (hc : c.Fn) {x : Str} {p lp pos : Pos} (hx : c.env.kindOf x = some .local ∨ c.env.kindOf x = some .cell) (hω : ∀ q ∈ ω, q.1 ≠ x) :
    c.Tr (c.St h₀ s₀ O ρ ω) (.Assign [.Name x p] (.Dict [] [] lp) pos) (Next fun s => ∃ a, a ∉ O ∧ c.St h₀ s₀ O (drop ρ x) ((x, a, .dict []) :: ω) s) := fun E s ⟨own, S⟩ => by
  refine wpAny_Assign_Name ?_ rfl
  show wpAny _ _ (do standAt lp; PySem.newDict) _ _ _
  refine wpAny_bind (wpAny_standAt (wpAny_newObj_type ?_ (by show (#[] : Array DictEntry).size ≤ sizeLine + 1; decide)))
  exact wpAny_mono (S.storeNew hc (o := { cls := .type "dict", data := .dict #[] }) (d := .dict []) rfl hx hω ⟨low_of hc S, [], Heap.DictOf.new _, rfl⟩) (fun _ s' ⟨S', ho⟩ => ⟨rfl, _, ho, _, S'⟩) fun _ _ x => x
end
end Mine

/-! M9 -/
namespace Mine

/-- expressions and tests that look at objects of the call's own too -/
def C.EvS (c : C) (ρ : List (Str × PyData)) (ω : List (Str × Addr × OD)) (e : Expr) (d : PyData) : Prop :=
  ∀ h₀ s₀ O own E s, c.StO h₀ s₀ O own ρ ω s → wpAny (model c.prog c.w) c.A (eval e c.env) (fun v s' => Gw c.Fs s s' ∧ Den c.toPW s'.heap own v d) E s
def C.TsS (c : C) (ρ : List (Str × PyData)) (ω : List (Str × Addr × OD)) (e : Expr) (b : Bool) : Prop :=
  ∀ h₀ s₀ O own E s, c.StO h₀ s₀ O own ρ ω s → wpAny (model c.prog c.w) c.A (isTrue e c.env (eval e c.env)) (fun b' s' => Gw c.Fs s s' ∧ b' = b) E s

section
variable {c : C} {h₀ : Heap} {s₀ : Shared} {O : List Addr} {ρ : List (Str × PyData)} {ω pre post : List (Str × Addr × OD)} {P R : Shared → Prop} {Q : Flow → Shared → Prop}

theorem EvS.of {e : Expr} {d : PyData} (h : ∀ own, c.Ev own ρ e d) : c.EvS ρ ω e d := fun _ _ _ own E s S => h own E s S.vs
theorem TsS.of {e : Expr} {b : Bool} (h : ∀ own, c.Ts own ρ e b) : c.TsS ρ ω e b := fun _ _ _ own E s S => h own E s S.vs

theorem Tr.iteS (hc : c.Fn) {t : Expr} {a b : List Stmt} {pos : Pos} {p : Bool} (ht : c.TsS ρ ω t p) (ha : p = true → c.Trs (c.St h₀ s₀ O ρ ω) a Q) (hb : p = false → c.Trs (c.St h₀ s₀ O ρ ω) b Q) : c.Tr (c.St h₀ s₀ O ρ ω) (.If t a b pos) Q := fun E s ⟨own, S⟩ =>
  wpAny_If (wpAny_mono (ht _ _ _ own E s S) (fun b₁ s₁ ⟨g, e⟩ => by
    have S₁ := S.grow hc g
    cases b₁ with
    | true => exact ha e.symm E s₁ ⟨own, S₁⟩
    | false => exact hb e.symm E s₁ ⟨own, S₁⟩) fun _ _ x => x)

/-- x.append(e) -/
theorem Tr.appendS (hc : c.Fn) {x : Str} {a : Addr} {ds : List PyData} {e : Expr} {d : PyData} {p apos cp pos : Pos} (he : c.EvS ρ (pre ++ (x, a, .list ds) :: post) e d) (hsz : ds.length ≤ sizeLine)
    (hts : backTo cp (starEach [e] c.env) = [(false, eval e c.env)]) (hline : (apos.endLine == cp.line) = true := by rfl) (hi : interactive c.env = false) (hd : (x == ("__debug__" : Str)) = false := by decide) :
    c.Tr (c.St h₀ s₀ O ρ (pre ++ (x, a, .list ds) :: post)) (.Expr (.Call (.Attribute (.Name x p) (Str.ofString "append") apos) [e] [] cp) pos) (Next (c.St h₀ s₀ O ρ (pre ++ (x, a, .list (ds ++ [d])) :: post))) := fun E s ⟨own, S⟩ => by
  obtain ⟨_, _, _, q4, q5, vs, n, ho, Ds⟩ := S.owned (x, a, .list ds) (List.mem_append_right _ (.head _))
  refine wpAny_Expr ?_ hi rfl
  refine wpAny_Call_method_late rfl (by rw [hts]; rfl) hline hts (wpAny_Name (q5.load hc.ok.kind ?_) hd)
  refine ⟨"list", "list.append", PySem.F.plainAttrs_list, PySem.F.slot_list_append, PySem.F.type_list_append, ⟨_, ho, rfl⟩, (fun b hb => by cases hb; exact ⟨_, ho, rfl⟩), Calls.callWith_builtin rfl (evalArgs_of rfl ?_)⟩
  refine Calls.spliced_cons (wpAny_mono (he _ _ _ own E s S) (fun v s₁ ⟨g, D⟩ => Calls.spliced_nil ?_) fun _ _ x => x)
  have S₁ := S.grow hc g
  obtain ⟨_, _, _, _, _, vs₁, n₁, ho₁, Ds₁⟩ := S₁.owned (x, a, .list ds) (List.mem_append_right _ (.head _))
  refine wpAny_list_append_plain (items := vs₁.toArray) ⟨n₁, ho₁⟩ (fun h' ⟨n', hl'⟩ hs => ?_) (by rw [List.size_toArray, Ds₁.length]; exact hsz)
  refine ⟨rfl, own, S₁.update hc hs ⟨vs₁ ++ [v], n', by rw [hl']; simp [listObj], ?_⟩ ⟨_, hl'⟩⟩
  have hk := hide_same (S₁.owned (x, a, .list ds) (List.mem_append_right _ (.head _))).1 hs
  exact (Ds₁.keeps hk).append (.cons (D.keeps hk) .nil)

/-- x = [e] -/
theorem Tr.newList1 (hc : c.Fn) {x : Str} {e : Expr} {d : PyData} {p lp pos : Pos} (he : c.EvS ρ ω e d) (hx : c.env.kindOf x = some .local ∨ c.env.kindOf x = some .cell) (hω : ∀ q ∈ ω, q.1 ≠ x)
    (hts : backTo lp (starEach [e] c.env) = [(false, eval e c.env)]) :
    c.Tr (c.St h₀ s₀ O ρ ω) (.Assign [.Name x p] (.List [e] lp) pos) (Next fun s => ∃ a, a ∉ O ∧ c.St h₀ s₀ O (drop ρ x) ((x, a, .list [d]) :: ω) s) := fun E s ⟨own, S⟩ => by
  refine wpAny_Assign_Name (List_ ?_) rfl
  rw [hts]
  refine Calls.spliced_cons (wpAny_mono (he _ _ _ own E s S) (fun v s₁ ⟨g, D⟩ => Calls.spliced_nil ?_) fun _ _ x => x)
  have S₁ := S.grow hc g
  refine wpAny_newObj_type ?_ (by show (1 : Nat) ≤ sizeLine; decide)
  refine wpAny_mono (S₁.storeNew hc (o := listObj [v] 0) (d := .list [d]) rfl hx hω ⟨[v], 0, Heap.get?_push_size _ rfl, .cons (D.gr' (Fs := c.Fs) .push S.vs.fs fun a m => ?_) .nil⟩) (fun _ s' ⟨S', ho⟩ => ⟨rfl, _, ho, _, S'⟩) fun _ _ x => x
  exact (List.mem_cons.mp m).elim (fun e => .inr (Nat.le_of_eq e.symm)) .inl

/-- k in x, x a dict of the call's own -/
theorem TsS.in_dict (hc : c.Fn) {x : Str} {a : Addr} {es : List (Str × Str)} {ek : Expr} {k : Str} {p pos : Pos} (hk : ∀ own, c.Ev own ρ ek (.str k)) (hω : (x, a, .dict es) ∈ ω) (hd : (x == ("__debug__" : Str)) = false := by decide) :
    c.TsS ρ ω (.Compare ek [.In] [.Name x p] pos) (hasD es k) := fun h₀ s₀ O own E s S => by
  refine wpAny_isTrue_Compare1 (wpAny_mono (hk own E s S.vs) (fun v s₁ ⟨g, D⟩ => ?_) fun _ _ x => x) (by with_unfolding_all rfl)
  have S₁ := S.grow hc g
  obtain ⟨_, _, _, _, q5, hsm, kvs, hm, e⟩ := S₁.owned _ hω
  refine wpAny_Name (q5.load hc.ok.kind ?_) hd
  obtain ⟨t, rfl⟩ := D.inv_str
  refine wpAny_in_of (strKind_is c.prog c.w k t) hsm hm.mapOf ?_
  exact wpAny_truthy_bool ⟨g.trans .toks, Same.isSome e k⟩

/-- k not in x, x a list of the call's own -/
theorem TsS.notIn_list (hc : c.Fn) {x : Str} {a : Addr} {ds : List PyData} {ek : Expr} {d : PyData} {p pos : Pos} (hk : ∀ own, c.Ev own ρ ek d) (hω : (x, a, .list ds) ∈ ω) (h₁ : d.canLay0 = true) (h₂ : PyData.canLayAll0 ds = true) (hdp : d.depth ≤ 64) (hd : (x == ("__debug__" : Str)) = false := by decide) :
    c.TsS ρ ω (.Compare ek [.NotIn] [.Name x p] pos) (!ds.any fun y => PyData.eqv y d) := fun h₀ s₀ O own E s S => by
  refine wpAny_isTrue_Compare1 (wpAny_mono (hk own E s S.vs) (fun v s₁ ⟨g, D⟩ => ?_) fun _ _ x => x) (by with_unfolding_all rfl)
  have S₁ := S.grow hc g
  obtain ⟨_, _, _, _, q5, vs, n, ho, Ds⟩ := S₁.owned _ hω
  refine wpAny_Name (q5.load hc.ok.kind ?_) hd
  obtain ⟨_, r₁⟩ := D.whole.reads h₁
  obtain ⟨_, r₂⟩ := Ds.whole.reads h₂
  refine SeqAt.notIn_list_reads (c := .ref a) (xs := ds) (.list ho rfl rfl (by simpa using r₂)) r₁ h₂ h₁ (by have := hc.ok.units; omega) ?_
  exact wpAny_truthy_bool ⟨g, rfl⟩

/-- for x in a list -/
theorem Tr.for_list (hc : c.Fn) {x : Str} {px pos : Pos} {iter : Expr} {body : List Stmt} {ds : List PyData} (J : List PyData → List (Str × PyData)) (W : List PyData → List (Str × Addr × OD))
    (hW : ∀ l, (W l).map (·.2.1) = (W []).map (·.2.1)) (hit : ∀ own, c.Ev own (J []) iter (.list ds)) (hx : c.env.kindOf x = some .local ∨ c.env.kindOf x = some .cell) (hω : ∀ l, ∀ q ∈ W l, q.1 ≠ x)
    (turn : ∀ h₀ s₀ O pre d post, ds = pre ++ d :: post → c.Trs (c.St h₀ s₀ O (put (J pre) x d) (W pre)) body (Turn (c.St h₀ s₀ O (J (pre ++ [d])) (W (pre ++ [d])))))
    (hs : ∀ v, foldedSetIterable iter c.env v = pure v := by intro _; rfl) :
    c.Tr (c.St h₀ s₀ O (J []) (W [])) (.For (.Name x px) iter body [] pos) (Next (c.St h₀ s₀ O (J ds) (W ds))) := fun E s ⟨own, S⟩ => by
  refine wpAny_For (wpAny_mono (hit own E s S.vs) (fun v s₁ ⟨g, D⟩ => ?_) fun _ _ x => x) hs
  have S₁ := S.grow hc g
  obtain ⟨l, vs, rfl, il, Ds⟩ := D.inv_list
  have hl := isList_of_hid il
  have hlo : l ∉ own := fun m => by obtain ⟨o, e, _⟩ := il; rw [hideAll_none own m] at e; cases e
  refine wpAny_pyIter_list hl ?_
  obtain ⟨S₂, h0, hL, hF, hn⟩ := S₁.ownNew hc (o := { cls := .type "list_iterator", data := .fields #[.ref l, .int 0 0] }) rfl (tk := s₁.toks)
  have hne : l ≠ s₁.heap.objs.size := by obtain ⟨o, e, _⟩ := hl; exact Nat.ne_of_lt (Heap.lt_size e)
  have aI : Apart c (W []) s₁.heap.objs.size := ⟨hL, hF, fun p hp e => hn (e ▸ (S₁.cell p hp).1), fun q hq e => hn (e ▸ (S₁.owned q hq).1)⟩
  have al : Apart c (W []) l := ⟨fun e => hlo (e ▸ S₁.loc.1), fun m => hlo (S.vs.fs _ m), fun p hp e => hlo (e ▸ (S₁.cell p hp).1), fun q hq e => hlo (e ▸ (S₁.owned q hq).1)⟩
  have Wk := Walks.list (prog := c.prog) (w := c.w) hc.ok.handled s₁.heap.objs.size l hne vs.toArray
  have hz : vs.toArray.size = ds.length := by simp [Ds.length]
  rw [hz] at Wk
  refine for_core hc (vs := vs) (ws := ds) J W (fun ρ d => put ρ x d) hW Wk (fun i h st => let ⟨⟨o, e, _⟩, _⟩ := st; ⟨o, e⟩) (fun i v d h own' hP hd Ds' => ?_) (fun b hb => ?_) (.head _) (fun i s v Q E _ q => wpAny_pure q)
    (fun h₀ s₀ O own l v d s E _ S D => wpAny_assign_Name (S.store hc hx D (hω l))) turn S₂ (.head _) h0 (fun m => hn (S₁.out _ m)) ⟨⟨_, Heap.get?_push_size _ rfl, rfl, rfl⟩, hl.push _⟩
    (Ds.gr' (Fs := c.Fs) .push S.vs.fs fun a m => (List.mem_cons.mp m).elim (fun e => .inr (Nat.le_of_eq e.symm)) .inl) (Q := Next (c.St h₀ s₀ O (J ds) (W ds))) (fun s' S' => ⟨rfl, S'⟩) (fun f s' q => q)
  · obtain ⟨v', e, D'⟩ := Ds'.get hd
    have hP' : vs[i]? = some v := by simpa using hP
    rw [hP'] at e; cases e; exact D'
  · rcases List.mem_cons.mp hb with rfl | hb
    · exact aI
    · rw [List.mem_singleton.mp hb]; exact al

/-- for a, b in a list of pairs -/
theorem Tr.for_pairs (hc : c.Fn) {x y : Str} {k : Nat} {px py pt pos : Pos} {iter : Expr} {body : List Stmt} {ds : List (PyData × PyData)} (J : List PyData → List (Str × PyData)) (W : List PyData → List (Str × Addr × OD))
    (hW : ∀ l, (W l).map (·.2.1) = (W []).map (·.2.1)) (hit : ∀ own, c.Ev own (J []) iter (.list (ds.map fun p => .tuple [p.1, p.2]))) (hx : c.env.kindOf x = some .local ∨ c.env.kindOf x = some .cell) (hy : c.env.kindOf y = some .local ∨ c.env.kindOf y = some .cell)
    (hω : ∀ l, ∀ q ∈ W l, q.1 ≠ x) (hω' : ∀ l, ∀ q ∈ W l, q.1 ≠ y)
    (turn : ∀ h₀ s₀ O pre p post, ds = pre ++ p :: post → c.Trs (c.St h₀ s₀ O (put (put (J (pre.map fun p => .tuple [p.1, p.2])) x p.1) y p.2) (W (pre.map fun p => .tuple [p.1, p.2]))) body
      (Turn (c.St h₀ s₀ O (J ((pre ++ [p]).map fun p => .tuple [p.1, p.2])) (W ((pre ++ [p]).map fun p => .tuple [p.1, p.2])))))
    (hs : ∀ v, foldedSetIterable iter c.env v = pure v := by intro _; rfl) :
    c.Tr (c.St h₀ s₀ O (J []) (W [])) (.For (.Tuple [.Name x px, .Name y py] k pt) iter body [] pos) (Next (c.St h₀ s₀ O (J (ds.map fun p => .tuple [p.1, p.2])) (W (ds.map fun p => .tuple [p.1, p.2])))) := fun E s ⟨own, S⟩ => by
  refine wpAny_For (wpAny_mono (hit own E s S.vs) (fun v s₁ ⟨g, D⟩ => ?_) fun _ _ x => x) hs
  have S₁ := S.grow hc g
  obtain ⟨l, vs, rfl, il, Ds⟩ := D.inv_list
  have hl := isList_of_hid il
  have hlo : l ∉ own := fun m => by obtain ⟨o, e, _⟩ := il; rw [hideAll_none own m] at e; cases e
  refine wpAny_pyIter_list hl ?_
  obtain ⟨S₂, h0, hL, hF, hn⟩ := S₁.ownNew hc (o := { cls := .type "list_iterator", data := .fields #[.ref l, .int 0 0] }) rfl (tk := s₁.toks)
  have hne : l ≠ s₁.heap.objs.size := by obtain ⟨o, e, _⟩ := hl; exact Nat.ne_of_lt (Heap.lt_size e)
  have aI : Apart c (W []) s₁.heap.objs.size := ⟨hL, hF, fun p hp e => hn (e ▸ (S₁.cell p hp).1), fun q hq e => hn (e ▸ (S₁.owned q hq).1)⟩
  have al : Apart c (W []) l := ⟨fun e => hlo (e ▸ S₁.loc.1), fun m => hlo (S.vs.fs _ m), fun p hp e => hlo (e ▸ (S₁.cell p hp).1), fun q hq e => hlo (e ▸ (S₁.owned q hq).1)⟩
  have Wk := Walks.list (prog := c.prog) (w := c.w) hc.ok.handled s₁.heap.objs.size l hne vs.toArray
  have hz : vs.toArray.size = (ds.map fun p => PyData.tuple [p.1, p.2]).length := by rw [← Ds.length]; simp
  rw [hz] at Wk
  refine for_core hc (vs := vs) (ws := ds.map fun p => .tuple [p.1, p.2]) J W (fun ρ d => match d with | .tuple [a, b] => put (put ρ x a) y b | _ => ρ) hW Wk (fun i h st => let ⟨⟨o, e, _⟩, _⟩ := st; ⟨o, e⟩) (fun i v d h own' hP hd Ds' => ?_) (fun b hb => ?_) (.head _)
    (fun i s v Q E st q => ?_) (fun h₀ s₀ O own l v d s E hd S D => ?_) (fun h₀ s₀ O pre d post e => ?_) S₂ (.head _) h0 (fun m => hn (S₁.out _ m)) ⟨⟨_, Heap.get?_push_size _ rfl, rfl, rfl⟩, hl.push _⟩
    (Ds.gr' (Fs := c.Fs) .push S.vs.fs fun a m => (List.mem_cons.mp m).elim (fun e => .inr (Nat.le_of_eq e.symm)) .inl) (Q := Next (c.St h₀ s₀ O (J (ds.map fun p => .tuple [p.1, p.2])) (W (ds.map fun p => .tuple [p.1, p.2])))) (fun s' S' => ⟨rfl, S'⟩) (fun f s' q => q)
  · obtain ⟨v', e, D'⟩ := Ds'.get hd
    have hP' : vs[i]? = some v := by simpa using hP
    rw [hP'] at e; cases e; exact D'
  · rcases List.mem_cons.mp hb with rfl | hb
    · exact aI
    · rw [List.mem_singleton.mp hb]; exact al
  · unfold letOwnedTupleGo
    obtain ⟨⟨o, e, hcl, hda⟩, _⟩ := st
    cases v with
    | ref b =>
      refine wpAny_bind (wpAny_load e ?_)
      rw [hcl, hda]
      exact wpAny_pure q
    | _ => exact wpAny_pure q
  · obtain ⟨p, hp, rfl⟩ := List.mem_map.mp hd
    obtain ⟨a, o, us, n, rfl, h1, h2, h3, ds'⟩ := D.inv_tuple
    obtain ⟨v1, _, rfl, D1, ds'⟩ := ds'.uncons
    obtain ⟨v2, _, rfl, D2, ds'⟩ := ds'.uncons
    rw [ds'.unnil] at h3
    refine assign_Tuple_tuple hc.ok.handled ⟨o, of_hideAll _ h1, h2, n, h3⟩ rfl rfl fun h' hk => ?_
    have g' : Gw c.Fs s { s with heap := h' } := ⟨h', s.toks, rfl, .of fun b o e => hk b o (Nat.ne_of_lt (Heap.lt_size e)) e⟩
    exact (S.grow hc g').store2 hc hx hy (hω l) (hω' l) (D1.gr g'.gr S.vs.fs) fun h'' hh => (D2.gr g'.gr S.vs.fs).keeps hh
  · obtain ⟨a, b, rfl, rfl, e2⟩ := List.map_eq_append_iff.mp e
    obtain ⟨p, b', rfl, rfl, rfl⟩ := List.map_eq_cons_iff.mp e2
    have := turn h₀ s₀ O a p b' rfl
    simpa using this

/-- the signs of a text -/
def signData (x : Str) : List PyData := x.cps.toList.map fun n => .str ⟨#[n]⟩

/-- for x in a text -/
theorem Tr.for_str (hc : c.Fn) {x : Str} {px pos : Pos} {iter : Expr} {body : List Stmt} {y : Str} (J : List PyData → List (Str × PyData)) (W : List PyData → List (Str × Addr × OD))
    (hW : ∀ l, (W l).map (·.2.1) = (W []).map (·.2.1)) (hit : ∀ own, c.Ev own (J []) iter (.str y)) (hx : c.env.kindOf x = some .local ∨ c.env.kindOf x = some .cell) (hω : ∀ l, ∀ q ∈ W l, q.1 ≠ x)
    (turn : ∀ h₀ s₀ O pre d post, signData y = pre ++ d :: post → c.Trs (c.St h₀ s₀ O (put (J pre) x d) (W pre)) body (Turn (c.St h₀ s₀ O (J (pre ++ [d])) (W (pre ++ [d])))))
    (hs : ∀ v, foldedSetIterable iter c.env v = pure v := by intro _; rfl) :
    c.Tr (c.St h₀ s₀ O (J []) (W [])) (.For (.Name x px) iter body [] pos) (Next (c.St h₀ s₀ O (J (signData y)) (W (signData y)))) := fun E s ⟨own, S⟩ => by
  refine wpAny_For (wpAny_mono (hit own E s S.vs) (fun v s₁ ⟨g, D⟩ => ?_) fun _ _ x => x) hs
  have S₁ := S.grow hc g
  obtain ⟨t, rfl⟩ := D.inv_str
  have hlen : (signData y).length = y.cps.size := by simp [signData]
  have key : ∀ (o : Obj) (St : Nat → Heap → Prop), o.isFreed = false → Walks c.prog c.w c.A s₁.heap.objs.size [s₁.heap.objs.size] [s₁.heap.objs.size] y.cps.size (SignAt y) St → St 0 (s₁.heap.push o) → (∀ i h, St i h → ∃ o, h.get? s₁.heap.objs.size = some o) →
      codeAny (model c.prog c.w) c.A (.forLoop (.Name x px) (.ref s₁.heap.objs.size) body [] c.env) (fun r s' => match r with | .ok f => Next (c.St h₀ s₀ O (J (signData y)) (W (signData y))) f s' | .error e => cameBackBy (model c.prog c.w) c.A c.env E e s') { s₁ with heap := s₁.heap.push o } := by
    intro o St hf Wk hst hex
    obtain ⟨S₂, h0, hL, hF, hn⟩ := S₁.ownNew hc (o := o) hf (tk := s₁.toks)
    have aI : Apart c (W []) s₁.heap.objs.size := ⟨hL, hF, fun p hp e => hn (e ▸ (S₁.cell p hp).1), fun q hq e => hn (e ▸ (S₁.owned q hq).1)⟩
    rw [← hlen] at Wk
    refine for_core hc (vs := []) (ws := []) J W (fun ρ d => put ρ x d) hW Wk hex (fun i v d h own' hP hd Ds' => ?_) (fun b hb => ?_) (.head _) (fun i s v Q E _ q => wpAny_pure q)
      (fun h₀ s₀ O own l v d s E _ S D => wpAny_assign_Name (S.store hc hx D (hω l))) turn S₂ (.head _) h0 (fun m => hn (S₁.out _ m)) hst .nil (Q := Next (c.St h₀ s₀ O (J (signData y)) (W (signData y)))) (fun s' S' => ⟨rfl, S'⟩) (fun f s' q => q)
    · obtain ⟨n, u, e1, rfl⟩ := hP
      have : d = .str ⟨#[n]⟩ := by
        unfold signData at hd
        rw [List.getElem?_map, Array.getElem?_toList, e1] at hd
        cases hd; rfl
      rw [this]; exact .str ..
    · rw [List.mem_singleton.mp hb]; exact aI
  cases ha : y.cps.all (· < 128)
  · exact wpAny_pyIter_wide ha (key _ _ rfl (Walks.strWide hc.ok.handled _ y t) ⟨_, Heap.get?_push_size _ rfl, rfl, rfl⟩ fun i h st => let ⟨o, e, _⟩ := st; ⟨o, e⟩)
  · exact wpAny_pyIter_ascii ha (key _ _ rfl (Walks.strAscii hc.ok.handled _ y t) ⟨_, Heap.get?_push_size _ rfl, rfl, rfl⟩ fun i h st => let ⟨o, e, _⟩ := st; ⟨o, e⟩)
end
end Mine

/-! M10 -/
namespace Mine

def pairD (p : Str × Str) : PyData := .tuple [.str p.1, .str p.2]
def pairsD (ps : List (Str × Str)) : PyData := .list (ps.map pairD)

section
variable {c : C} {own : List Addr} {ρ : List (Str × PyData)}

theorem glob_fn (hc : c.Ok) {s : Shared} (V : c.Vs own ρ s.heap) {x : Str} {p : Pos} {v : Value} (hx : c.env.kindOf x = some .globalImplicit) (hg : c.mg x = some v) {Q : Value → Shared → Prop} {E : Value → Shared → Prop} (q : Q v s)
    (hd : (x == ("__debug__" : Str)) = false) : wpAny (model c.prog c.w) c.A (eval (.Name x p) c.env) Q E s :=
  Calls.Name_function_global hc.kind hx (Calls.loadGlobal_global (hc.glob ▸ hc.g.keeps V.keep) hg q) hd
theorem glob_bi (hc : c.Ok) {s : Shared} (V : c.Vs own ρ s.heap) {x : Str} {p : Pos} {v : Value} (hx : c.env.kindOf x = some .globalImplicit) (hg : c.mg x = none) (hb : bootBuiltins x = some v) (hn : x ≠ "__name__") {Q : Value → Shared → Prop} {E : Value → Shared → Prop} (q : Q v s)
    (hd : (x == ("__debug__" : Str)) = false) : wpAny (model c.prog c.w) c.A (eval (.Name x p) c.env) Q E s := by
  obtain ⟨mb, m1, m2⟩ := hc.b
  exact Calls.Name_function_global hc.kind hx (Calls.loadGlobal_builtin (hc.glob ▸ hc.g.keeps V.keep) hg (hc.blt ▸ m1.keeps V.keep) ((m2 x hn).trans hb) q) hd

theorem low_vs (hc : c.Ok) {s : Shared} (V : c.Vs own ρ s.heap) : (s.heap.objs.size == sysModules) = false := by
  obtain ⟨o, _, _, e, _⟩ := hc.g
  have h3 : 3 < s.heap.objs.size := Heap.lt_size (V.keep _ o e)
  exact beq_eq_false_iff_ne.mpr fun q => by
    have h1 : s.heap.objs.size = 1 := q
    omega

/-- dict(x): a copy -/
theorem call_dict (hc : c.Ok) {s : Shared} (V : c.Vs own ρ s.heap) {a : Addr} {es : List (Str × Str)} (D : IsD c.toPW s.heap a es) (hsz : es.length ≤ sizeLine) {E : Value → Shared → Prop} :
    wpAny (model c.prog c.w) c.A (call (.type "dict") [.ref a]) (fun v s' => Gw c.Fs s s' ∧ Den c.toPW s'.heap own v (dictD es)) E s := by
  obtain ⟨hs, kvs, hm, e⟩ := D
  refine kt_call_dict hs hm (by rw [Same.length e]; exact hsz) fun h' hd hsb => ?_
  refine ⟨⟨h', s.toks, rfl, .of fun b o e => (hsb.2 b (Nat.ne_of_lt (Heap.lt_size e))).trans (Heap.get?_push_of_some _ e)⟩, .mkDict (low_vs hc V) hd e fun m => Nat.lt_irrefl _ (V.lt _ m)⟩

theorem Ev.dict (hc : c.Ok) {e : Expr} {p pos : Pos} {es : List (Str × Str)} (he : c.Ev own ρ e (dictD es)) (hsz : es.length ≤ sizeLine) (hx : c.env.kindOf (Str.ofString "dict") = some .globalImplicit) (hg : c.mg (Str.ofString "dict") = none)
    (hts : backTo pos (starEach [e] c.env) = [(false, eval e c.env)]) : c.Ev own ρ (.Call (.Name (Str.ofString "dict") p) [e] [] pos) (dictD es) := fun E s V => by
  rw [arm_eval_Call_Name', hts]
  refine wpAny_bind (glob_bi hc V hx hg PyProof.Rows.boot_dict (by decide) ?_ (by decide))
  refine PySem.callWith_type1 (wpAny_mono (he E s V) (fun v s₁ ⟨g, D⟩ => ?_) fun _ _ x => x)
  obtain ⟨a, rfl, D'⟩ := D.whole.inv_dict
  exact wpAny_mono (call_dict hc (V.gw hc g) D' hsz) (fun _ _ ⟨g', D⟩ => ⟨g.trans g', D⟩) fun _ _ x => x

theorem EvS.dict (hc : c.Fn) {ω : List (Str × Addr × OD)} {x : Str} {a : Addr} {px p pos : Pos} {es : List (Str × Str)} (hω : (x, a, .dict es) ∈ ω) (hsz : es.length ≤ sizeLine) (hx : c.env.kindOf (Str.ofString "dict") = some .globalImplicit) (hg : c.mg (Str.ofString "dict") = none)
    (hd : (x == ("__debug__" : Str)) = false := by decide) : c.EvS ρ ω (.Call (.Name (Str.ofString "dict") p) [.Name x px] [] pos) (dictD es) := fun h₀ s₀ O own E s S => by
  rw [arm_eval_Call_Name']
  refine wpAny_bind (glob_bi hc.ok S.vs hx hg PyProof.Rows.boot_dict (by decide) ?_ (by decide))
  obtain ⟨_, _, _, _, q5, q6⟩ := S.owned _ hω
  show wpAny _ _ (callWith pos (.type "dict") [] [(false, eval (.Name x px) c.env)] []) _ _ _
  exact PySem.callWith_type1 (wpAny_Name (q5.load hc.ok.kind (call_dict hc.ok S.vs q6 hsz)) hd)

theorem pairs_of {pw : PW} {h : Heap} : ∀ {kvs : List (Str × Value)} {es : List (Str × Str)} {as : List Addr}, Same kvs es → as.length = kvs.length →
    (∀ (j : Nat) (a : Addr), as[j]? = some a → ∃ key k x, kvs[j]? = some (k, x) ∧ (strKind pw.prog pw.w).is k key = true ∧ h.get? a = some { cls := .type "tuple", data := .seq #[key, x] }) → RdAll pw h (as.map Value.ref) (es.map pairD)
  | [], [], [], _, _, _ => .nil
  | [], [], _ :: _, _, e, _ => by cases e
  | [], _ :: _, _, e, _, _ => by cases e
  | _ :: _, [], _, e, _, _ => by cases e
  | _ :: _, _ :: _, [], _, e, _ => by cases e
  | (k, v) :: kvs, (k', x) :: es, a :: as, e, hl, hp => by
    simp only [Same, List.map_cons, List.cons.injEq, Prod.mk.injEq] at e
    obtain ⟨⟨rfl, e2⟩, e3⟩ := e
    have hv : ∃ t, v = .str x t := by cases v <;> simp [strOf?] at e2; exact ⟨_, by rw [e2]⟩
    obtain ⟨t, rfl⟩ := hv
    obtain ⟨key, k₁, x₁, e4, e5, e6⟩ := hp 0 a rfl
    cases e4
    have hkey : ∃ u, key = .str k u := Value.isStrOf_shape e5
    obtain ⟨u, rfl⟩ := hkey
    refine .cons (.tuple e6 rfl (vs := [.str k u, .str x t]) rfl (.cons (.str ..) (.cons (.str ..) .nil))) (pairs_of e3 (by simpa using hl) fun j b hj => hp (j + 1) b hj)

/-- list(x.items()) -/
theorem Ev.items (hc : c.Ok) {o : Expr} {apos cp p pos : Pos} {es : List (Str × Str)} (ho : c.Ev own ρ o (dictD es)) (hsz : es.length ≤ sizeLine) (hx : c.env.kindOf (Str.ofString "list") = some .globalImplicit) (hg : c.mg (Str.ofString "list") = none)
    (hbase : attributeBase o (Str.ofString "items") c.env (eval o c.env) = eval o c.env := by with_unfolding_all rfl) (hline : (apos.endLine == cp.line) = true := by rfl) :
    c.Ev own ρ (.Call (.Name (Str.ofString "list") p) [.Call (.Attribute o (Str.ofString "items") apos) [] [] cp] [] pos) (pairsD es) := fun E s V => by
  rw [arm_eval_Call_Name']
  refine wpAny_bind (glob_bi hc V hx hg PyProof.Rows.boot_list (by decide) ?_ (by decide))
  show wpAny _ _ (callWith pos (.type "list") [] [(false, eval (.Call (.Attribute o (Str.ofString "items") apos) [] [] cp) c.env)] []) _ _ _
  refine PySem.callWith_type1 ?_
  refine wpAny_Call_method_late hbase rfl hline rfl (wpAny_mono (ho E s V) (fun v s₁ ⟨g, D⟩ => ?_) fun _ _ x => x)
  have V₁ := V.gw hc g
  obtain ⟨a, rfl, hs, kvs, hm, e⟩ := D.whole.inv_dict
  refine ⟨"dict", "dict.items", PySem.F.plainAttrs_dict, PySem.F.slot_dict_items, PySem.F.type_dict_items, hm.typeIs, hm.mapOf.noDict, Calls.callWith_builtin rfl (evalArgs_of rfl (Calls.spliced_nil ?_))⟩
  refine call_meetsIn PySem.F.slot_dict_items hm.typeIs PySem.F.entry_dict_items (PySem.F.args_dict_items_1 _) (meets_dict_items (strKind c.prog c.w) a hs) ⟨⟨kvs, hm⟩, ?_⟩
  obtain ⟨ep, hat⟩ := (hm.push { cls := .type "dict_items", data := .fields #[.ref a] }).dictAt
  have g₂ : Gw c.Fs s₁ { s₁ with heap := s₁.heap.push { cls := .type "dict_items", data := .fields #[.ref a] } } := .push
  refine kdx_call (knd := strKind c.prog c.w) hc.handled ⟨_, Heap.get?_push_size _ rfl, rfl, rfl⟩ hat (by rw [Same.length e]; exact hsz) fun h' tk acc cc as hk hS hl hG hacc => ?_
  have g₃ : Gr c.Fs s.heap h' := (g.gr.trans g₂.gr).trans (.of hk)
  have V₂ := V₁.gw hc g₂
  refine ⟨by obtain ⟨h, t, rfl, _⟩ := g; exact ⟨h', tk, rfl, g₃⟩, .mkList (vs := as.map Value.ref) (n := cc) hS rfl (by rw [← hacc]) (fun m => Nat.lt_irrefl _ (V₂.lt _ m)) ?_⟩
  refine pairs_of (pw := c.toPW) e hl fun j b hj => ?_
  obtain ⟨key, k, x, e1, e2, e3⟩ := hG.pairs j b hj
  exact ⟨key, k, x, e1, e2, hideAll_get own e3 fun m => Nat.lt_asymm (V₂.lt _ m) (hG.above b (List.mem_of_getElem? hj))⟩

/-- len of a list -/
theorem Ev.len (hc : c.Ok) {e : Expr} {p pos : Pos} {xs : List PyData} (he : c.Ev own ρ e (.list xs)) (hsz : xs.length ≤ sizeLine) (hx : c.env.kindOf (Str.ofString "len") = some .globalImplicit) (hg : c.mg (Str.ofString "len") = none)
    (hts : backTo pos (starEach [e] c.env) = [(false, eval e c.env)]) : c.Ev own ρ (.Call (.Name (Str.ofString "len") p) [e] [] pos) (.int xs.length) := fun E s V => by
  rw [arm_eval_Call_Name', hts]
  refine wpAny_bind (glob_bi hc V hx hg boot_len (by decide) ?_ (by decide))
  refine PySem.callWith_builtin1 (wpAny_mono (he E s V) (fun v s₁ ⟨g, D⟩ => ?_) fun _ _ x => x)
  obtain ⟨a, vs, rfl, il, Ds⟩ := D.whole.inv_list
  have hz : (vs.toArray.size : Int) = xs.length := by simp [Ds.length]
  refine Calls.call_len_list il (by have : sizeLine = 2 ^ 24 := rfl; omega) ?_
  rw [hz]
  exact ⟨g.trans .toks, .int ..⟩

/-- a def of the text, for given data -/
def FnOK (pw : PW) (base : Heap) (mg : Str → Option Value) (n : Nat) (f : Addr) (ds : List PyData) (d : PyData) : Prop :=
  (∃ o fd, base.get? f = some o ∧ o.data = .func fd) ∧
  ∀ (c : C), c.toPW = pw → c.base = base → c.mg = mg → c.Ok → n ≤ c.room → ∀ own E s vs, c.Vs own [] s.heap → Dens pw s.heap own vs ds →
    wpAny (model c.prog c.w) c.A (call (.ref f) vs) (fun v s' => Gw c.Fs s s' ∧ Den pw s'.heap own v d) E s

theorem Ev.fn (hc : c.Ok) {x : Str} {p pos : Pos} {args : List Expr} {ts : List (Bool × Sem Value)} {f : Addr} {n : Nat} {ds : List PyData} {d : PyData} (F : FnOK c.toPW c.base c.mg n f ds d) (hn : n ≤ c.room) (hx : c.env.kindOf x = some .globalImplicit) (hg : c.mg x = some (.ref f))
    (hts : backTo pos (starEach args c.env) = ts) (hp : ts.any (·.1) = false) (hargs : c.Evs own ρ ts ds) (hd : (x == ("__debug__" : Str)) = false := by decide) : c.Ev own ρ (.Call (.Name x p) args [] pos) d := fun E s V => by
  rw [arm_eval_Call_Name', hts]
  refine wpAny_bind (glob_fn hc V hx hg ?_ hd)
  obtain ⟨⟨o, fd, h1, h2⟩, F⟩ := F
  refine Calls.callWith_function (o := o) (fd := fd) (evalArgs_of hp (wpAny_mono (hargs E s V) (fun vs s₁ ⟨g, Ds⟩ => ?_) fun _ _ x => x))
  have V₁ := V.gw hc g
  refine ⟨⟨V₁.keep _ _ h1, h2⟩, ?_⟩
  exact wpAny_mono (F c rfl rfl rfl hc hn own E s₁ vs { V₁ with vars := fun p hp => nomatch hp } Ds) (fun _ _ ⟨g', D⟩ => ⟨g.trans g', D⟩) fun _ _ x => x
end
end Mine

/-! M11 -/
namespace Mine

theorem cellsFrom_mono {x : Str} : ∀ (names : List (Str × NameKind)) (n : Nat) (acc : List (Str × Addr)), (∃ a, acc.lookup x = some a) → ∃ a, (cellsFrom n names acc).lookup x = some a
  | [], _, _, h => h
  | (y, k) :: r, n, acc, h => by
    unfold cellsFrom
    split
    · refine cellsFrom_mono r _ _ ?_
      rw [List.lookup_cons]
      cases q : x == y with
      | true => exact ⟨n, rfl⟩
      | false => exact h
    · exact cellsFrom_mono r _ _ h
theorem cellsFrom_has {x : Str} : ∀ (names : List (Str × NameKind)) (n : Nat) (acc : List (Str × Addr)), (x, NameKind.cell) ∈ names → ∃ a, (cellsFrom n names acc).lookup x = some a
  | (y, k) :: r, n, acc, h => by
    unfold cellsFrom
    rcases List.mem_cons.mp h with e | h
    · cases e
      exact cellsFrom_mono r _ _ ⟨n, by simp⟩
    · split
      · exact cellsFrom_has r _ _ h
      · exact cellsFrom_has r _ _ h

theorem bindL_other {kindOf : Str → Option NameKind} {x : Str} : ∀ (binds : List (Str × Value)) (m : Str → Option Value), x ∉ binds.map (·.1) → bindL kindOf binds m x = m x
  | [], _, _ => rfl
  | (y, u) :: r, m, h => by
    have h' : x ≠ y ∧ x ∉ r.map (·.1) := by simpa [List.map_cons, not_or] using h
    unfold bindL
    rw [bindL_other r _ h'.2]
    split
    · exact if_neg h'.1
    · rfl
theorem bindL_get {kindOf : Str → Option NameKind} {x : Str} {v : Value} : ∀ (binds : List (Str × Value)) (m : Str → Option Value), (binds.map (·.1)).Nodup → (x, v) ∈ binds → kindOf x = some .local → bindL kindOf binds m x = some v
  | (y, u) :: r, m, hn, h, hk => by
    rw [List.map_cons, List.nodup_cons] at hn
    unfold bindL
    rcases List.mem_cons.mp h with e | h
    · cases e
      rw [bindL_other r _ hn.1, if_pos hk]
      exact if_pos rfl
    · exact bindL_get r _ hn.2 h hk
theorem bindC_other {kindOf : Str → Option NameKind} {x : Str} : ∀ (binds : List (Str × Value)) (m : Str → Option Value), x ∉ binds.map (·.1) → bindC kindOf binds m x = m x
  | [], _, _ => rfl
  | (y, u) :: r, m, h => by
    have h' : x ≠ y ∧ x ∉ r.map (·.1) := by simpa [List.map_cons, not_or] using h
    unfold bindC
    rw [bindC_other r _ h'.2]
    split
    · rfl
    · exact if_neg h'.1
theorem bindC_get {kindOf : Str → Option NameKind} {x : Str} {v : Value} : ∀ (binds : List (Str × Value)) (m : Str → Option Value), (binds.map (·.1)).Nodup → (x, v) ∈ binds → kindOf x = some .cell → bindC kindOf binds m x = some v
  | (y, u) :: r, m, hn, h, hk => by
    rw [List.map_cons, List.nodup_cons] at hn
    unfold bindC
    rcases List.mem_cons.mp h with e | h
    · cases e
      rw [bindC_other r _ hn.1, if_neg (by rw [hk]; decide)]
      exact if_pos rfl
    · exact bindC_get r _ hn.2 h hk

theorem zip_mem {α β γ : Type} {xs : List α} {ys : List β} {zs : List γ} {P : β → γ → Prop} (hl : ys.length = zs.length) (h : ∀ (i : Nat) z, zs[i]? = some z → ∃ y, ys[i]? = some y ∧ P y z) {x : α} {z : γ} (m : (x, z) ∈ xs.zip zs) : ∃ y, (x, y) ∈ xs.zip ys ∧ P y z := by
  obtain ⟨i, hi⟩ := List.mem_iff_getElem?.mp m
  rw [List.getElem?_zip_eq_some] at hi
  obtain ⟨y, hy, p⟩ := h i z hi.2
  exact ⟨y, List.mem_iff_getElem?.mpr ⟨i, List.getElem?_zip_eq_some.mpr ⟨hi.1, hy⟩⟩, p⟩

/-- scopes that we meet -/
structure Plain (scope : Scope) (xs : List Str) : Prop where
  kind : scope.kind = .function
  co : scope.isCoroutine = false
  gen : scope.isGenerator = false
  free : ∀ p ∈ scope.names, p.2 ≠ .free
  cd : ∀ p ∈ scope.names, (p.1 == ("__classdict__" : Str)) = false
  args : ∀ x ∈ xs, scope.names.lookup x = some .local ∨ scope.names.lookup x = some .cell
  nd : xs.Nodup
  cnd : ((cellsFrom 0 scope.names []).map (·.1)).Nodup

/-- what a call asks of its caller -/
structure C.Cal (c : C) : Prop where
  handled : c.A.handled = none
  frames : c.A.frames = some c.frs
  depth : c.A.depth + c.room < recursionLimit
  units : c.A.units + 400 + 10 * c.room < cLine
  g : c.base.Ns mainGlobals c.mg
  b : ∃ mb : Str → Option Value, c.base.Ns builtinsNs mb ∧ ∀ x : Str, x ≠ "__name__" → mb x = bootBuiltins x
  lim : c.base.NoLimit
  fun_ : ∀ e ∈ c.frs, e.scope.kind ≠ .module ∧ ∃ L, e.frame = some L
  off : ∀ a ∈ c.Fs, c.base.get? a = none
theorem C.Ok.cal {c : C} (h : c.Ok) : c.Cal := ⟨h.handled, h.frames, h.depth, h.units, h.g, h.b, h.lim, h.fun_, h.off⟩

theorem FnOK.run {pw : PW} {base : Heap} {mg : Str → Option Value} {n : Nat} {f : Addr} {o : Obj} {name : Str} {params : Arguments} {body : List Stmt} {scope : Scope} {pm cd doc : Value} {xs : List Str} {ds : List PyData} {d : PyData}
    (ho : base.get? f = some o) (hdata : o.data = .func (Calls.docDef name params body scope pm cd doc)) (hcd : base.CodeRec cd name) (hs : Plain scope xs)
    (hbind : ∀ vs : List Value, vs.length = xs.length → bindArgs (Calls.docDef name params body scope pm cd doc) ⟨vs, []⟩ = pure (xs.zip vs)) (hlen : xs.length = ds.length)
    (hbody : ∀ (c : C) (L : Addr), c.toPW = pw → c.base = base → c.mg = mg → c.Fn → n ≤ c.room → c.env = envOfC name scope L f cd → ∀ h₀ s₀ O,
      c.Trs (c.St h₀ s₀ O (xs.zip ds) []) body (fun fl s => ∃ v, fl = .ret v ∧ Den pw s.heap O v d ∧ ∃ ρ' ω', c.St h₀ s₀ O ρ' ω' s)) :
    ∀ (c : C), c.toPW = pw → c.base = base → c.mg = mg → c.Cal → n + 1 ≤ c.room → ∀ own E s vs, c.Vs own [] s.heap → Dens pw s.heap own vs ds →
    wpAny (model c.prog c.w) c.A (call (.ref f) vs) (fun v s' => Gw c.Fs s s' ∧ Den pw s'.heap own v d) E s := by
  intro c hpw hb hmg hc hn own E s vs V Ds
  subst hpw hb hmg
  have hvl : vs.length = xs.length := by rw [Ds.length, hlen]
  have hks : ∀ x ∈ (xs.zip vs).map (·.1), scope.names.lookup x = some .local ∨ scope.names.lookup x = some .cell := fun x m => by
    obtain ⟨p, hp, rfl⟩ := List.mem_map.mp m
    exact hs.args _ (List.of_mem_zip hp).1
  have hnd : ((xs.zip vs).map (·.1)).Nodup := by
    rw [List.map_fst_zip (by omega)]; exact hs.nd
  refine wpAny_call (call_cells (by have := hc.depth; omega) (V.keep _ _ ho) hdata (hc.lim.keeps V.keep) (hcd.keeps V.keep) (hbind vs hvl) (fun p hp => ?_) (fun h₁ tk F X => ?_) hs.co hs.gen hs.kind)
  · rcases hks p.1 (List.mem_map.mpr ⟨p, hp, rfl⟩) with h | h
    · exact .inl h
    · obtain ⟨a, e⟩ := cellsFrom_has scope.names (s.heap.objs.size + 1) [] (mem_of_lookup h)
      exact .inr ⟨h, by rw [e]; rfl⟩
  · let L := s.heap.objs.size
    let env' := envOfC name scope L f cd
    let c' : C := { c with A := c.A.deeper env', frs := env' :: c.frs, env := env', room := c.room - 1 }
    have hFs : c'.Fs = L :: c.Fs := rfl
    have hLo : L ∉ own := fun m => Nat.lt_irrefl _ (V.lt _ m)
    have hbL : c.base.get? L = none := by
      cases e : c.base.get? L with
      | none => rfl
      | some o => exact absurd (Heap.lt_size (V.keep _ _ e)) (Nat.lt_irrefl _)
    have hOk : c'.Ok := {
      handled := hc.handled
      frames := by show (c.A.frames).map (env' :: ·) = _; rw [hc.frames]; rfl
      depth := by show c.A.depth + 1 + (c.room - 1) < _; have := hc.depth; omega
      units := by show c.A.units + 3 + 400 + 10 * (c.room - 1) < _; have := hc.units; omega
      kind := hs.kind
      glob := rfl
      blt := rfl
      g := hc.g
      b := hc.b
      lim := hc.lim
      fun_ := fun e he => by
        rcases List.mem_cons.mp he with rfl | he
        · exact ⟨by show scope.kind ≠ _; rw [hs.kind]; decide, L, rfl⟩
        · exact hc.fun_ e he
      off := fun a ha => by
        rw [hFs] at ha
        rcases List.mem_cons.mp ha with rfl | ha
        · exact hbL
        · exact hc.off a ha
      one := ⟨L, by rw [hFs]; exact .head _⟩ }
    have hcells : ∀ p ∈ env'.cells, L < p.2 := fun p hp => X.above p.1 p.2 hp
    have hbig : ∀ a, L < a → s.heap.get? a = none := fun a ha => by
      cases e : s.heap.get? a with
      | none => rfl
      | some o => exact absurd (Heap.lt_size e) (Nat.lt_asymm ha)
    have hsL : s.heap.get? L = none := by
      cases e : s.heap.get? L with
      | none => rfl
      | some o => exact absurd (Heap.lt_size e) (Nat.lt_irrefl _)
    have hFn : c'.Fn := {
      ok := hOk
      frame := by rw [hFs]; exact .head _
      base := fun p hp => by
        cases e : c.base.get? p.2 with
        | none => rfl
        | some o => have := V.keep _ _ e; rw [hbig _ (hcells p hp)] at this; cases this
      cells := X.apart
      kinds := fun x hx => cellsFrom_has scope.names _ [] (mem_of_lookup hx)
      nofree := fun x hx => hs.free _ (mem_of_lookup hx) rfl
      nocd := fun x hx => hs.cd _ (mem_of_lookup hx)
      top := ⟨c.frs, rfl⟩
      fr := rfl }
    have hIs : ∀ p ∈ env'.cells, h₁.IsCell p.2 (bindC env'.kindOf (xs.zip vs) (fun _ => none) p.1) := fun p hp =>
      X.cell p.1 p.2 (lookup_of_mem_nodup (cellsFrom_names scope.names 0 (L + 1) [] [] rfl ▸ hs.cnd) hp)
    have g₁ : Gr c'.Fs s.heap h₁ := .of F.keep
    let own' := L :: (env'.cells.map (·.2) ++ own)
    have hfr : ∀ a ∈ own', a ∈ own ∨ s.heap.objs.size ≤ a := fun a m => by
      rcases List.mem_cons.mp m with rfl | m
      · exact .inr (Nat.le_refl _)
      · rcases List.mem_append.mp m with m | m
        · obtain ⟨p, hp, rfl⟩ := List.mem_map.mp m
          exact .inr (Nat.le_of_lt (hcells p hp))
        · exact .inl m
    have hDen : ∀ {v : Value} {d : PyData}, Den c.toPW s.heap own v d → Den c.toPW h₁ own' v d := fun x => x.gr' (Fs := []) (.of F.keep) (by simp) hfr
    have S : c'.StO s.heap s own own' (xs.zip ds) [] { s with heap := h₁, toks := tk } := {
      vs := {
        keep := fun b o e => F.keep b o (V.keep b o e)
        fs := fun a m => by
          rw [hFs] at m
          rcases List.mem_cons.mp m with rfl | m
          · exact .head _
          · exact .tail _ (List.mem_append_right _ (V.fs a m))
        ex := fun a m => by
          rcases List.mem_cons.mp m with rfl | m
          · obtain ⟨o, _, _, e, _⟩ := F.ns; exact ⟨o, e⟩
          · rcases List.mem_append.mp m with m | m
            · obtain ⟨p, hp, rfl⟩ := List.mem_map.mp m
              obtain ⟨o, e, _⟩ := hIs p hp; exact ⟨o, e⟩
            · obtain ⟨o, e⟩ := V.ex a m; exact ⟨o, F.keep _ _ e⟩
        frames := fun a m => by
          rw [hFs] at m
          rcases List.mem_cons.mp m with rfl | m
          · exact ⟨_, F.ns⟩
          · obtain ⟨m', n⟩ := V.frames a m; exact ⟨m', n.keeps F.keep⟩
        cells := fun p hp m => by
          rw [hFs] at m
          rcases List.mem_cons.mp m with e | m
          · exact absurd (hcells p hp) (by rw [e]; exact Nat.lt_irrefl _)
          · exact absurd (hcells p hp) (Nat.lt_asymm (V.lt _ (V.fs _ m)))
        cex := fun p hp => let ⟨o, e, _⟩ := hIs p hp; ⟨o, e⟩
        vars := fun p hp => by
          obtain ⟨x, e⟩ := p
          obtain ⟨v, hv, D⟩ := zip_mem (P := fun v d => Den c.toPW s.heap own v d) Ds.length (fun i z hz => Ds.get hz) hp
          refine ⟨v, ?_, hDen D⟩
          have hx := hs.args x (List.of_mem_zip hv).1
          rcases hx with hk | hk
          · exact .inl ⟨hk, _, F.ns, bindL_get _ _ hnd hv hk⟩
          · obtain ⟨a, ha⟩ := cellsFrom_has scope.names (L + 1) [] (mem_of_lookup hk)
            have hm := mem_of_lookup ha
            have hi := hIs (x, a) hm
            rw [bindC_get _ _ hnd hv hk] at hi
            exact .inr ⟨.inl hk, hs.cd _ (mem_of_lookup hk), a, ha, (fun q => by
              have h1 := hcells (x, a) hm
              rw [List.mem_singleton.mp q] at h1
              exact Nat.lt_irrefl _ h1), hi⟩ }
      gr := g₁
      bot := V.keep
      eqs := ⟨h₁, tk, rfl⟩
      out := fun a m => .tail _ (List.mem_append_right _ m)
      fresh := fun a m => by
        rcases List.mem_cons.mp m with rfl | m
        · exact .inr hsL
        · rcases List.mem_append.mp m with m | m
          · obtain ⟨p, hp, rfl⟩ := List.mem_map.mp m
            exact .inr (hbig _ (hcells p hp))
          · exact .inl m
      loc := ⟨.head _, hsL, _, F.ns⟩
      cell := fun p hp => ⟨.tail _ (List.mem_append_left _ (List.mem_map.mpr ⟨p, hp, rfl⟩)), hbig _ (hcells p hp), Nat.ne_of_gt (hcells p hp), (fun m => by
          rw [hFs] at m
          rcases List.mem_cons.mp m with e | m
          · exact absurd (hcells p hp) (by rw [e]; exact Nat.lt_irrefl _)
          · exact absurd (hcells p hp) (Nat.lt_asymm (V.lt _ (V.fs _ m)))), _, hIs p hp⟩
      owned := fun q hq => nomatch hq
      apart := .nil }
    refine wpAny_mono (hbody c' L rfl rfl rfl hFn (by show n ≤ c.room - 1; omega) rfl s.heap s own _ _ ⟨_, S⟩) (fun fl s' h => ?_) fun _ _ x => x
    obtain ⟨v, rfl, D, ρ', ω', own'', S'⟩ := h
    refine ⟨?_, D⟩
    obtain ⟨h', t', rfl⟩ := S'.eqs
    refine ⟨h', t', rfl, fun b o nb e => S'.gr.keep b o (fun m => ?_) e, fun b m nb e => S'.gr.names b m (by rw [hFs]; exact .tail _ nb) e⟩
    rw [hFs] at m
    rcases List.mem_cons.mp m with rfl | m
    · rw [hsL] at e; cases e
    · exact nb m
theorem FnOK.mk {pw : PW} {base : Heap} {mg : Str → Option Value} {n : Nat} {f : Addr} {o : Obj} {name : Str} {params : Arguments} {body : List Stmt} {scope : Scope} {pm cd doc : Value} {xs : List Str} {ds : List PyData} {d : PyData}
    (ho : base.get? f = some o) (hdata : o.data = .func (Calls.docDef name params body scope pm cd doc)) (hcd : base.CodeRec cd name) (hs : Plain scope xs)
    (hbind : ∀ vs : List Value, vs.length = xs.length → bindArgs (Calls.docDef name params body scope pm cd doc) ⟨vs, []⟩ = pure (xs.zip vs)) (hlen : xs.length = ds.length)
    (hbody : ∀ (c : C) (L : Addr), c.toPW = pw → c.base = base → c.mg = mg → c.Fn → n ≤ c.room → c.env = envOfC name scope L f cd → ∀ h₀ s₀ O,
      c.Trs (c.St h₀ s₀ O (xs.zip ds) []) body (fun fl s => ∃ v, fl = .ret v ∧ Den pw s.heap O v d ∧ ∃ ρ' ω', c.St h₀ s₀ O ρ' ω' s)) : FnOK pw base mg (n + 1) f ds d :=
  ⟨⟨o, _, ho, hdata⟩, fun c hpw hb hmg hc => FnOK.run ho hdata hcd hs hbind hlen hbody c hpw hb hmg hc.cal⟩
end Mine

/-! M12 -/
namespace Mine

/-- what a comprehension's tests answer: it has none, or one -/
noncomputable def Tested (prog : Program) (w : World) (A : Around) (env : Env) (E : Value → Shared → Prop) : List Expr → (Bool → Shared → Prop) → Shared → Prop
  | [], Q, s => Q true s
  | [e], Q, s => wpAny (model prog w) A (isTrue e env (eval e env)) Q E s
  | _ :: _ :: _, _, _ => False
theorem Tested.mono {prog : Program} {w : World} {A : Around} {env : Env} {E : Value → Shared → Prop} {Q Q' : Bool → Shared → Prop} {s : Shared} : ∀ {ifs : List Expr}, Tested prog w A env E ifs Q s → (∀ b s', Q b s' → Q' b s') → Tested prog w A env E ifs Q' s
  | [], h, q => q _ _ h
  | [_], h, q => wpAny_mono h q fun _ _ x => x
  | _ :: _ :: _, h, _ => h

/-- what stands behind a drawing: the end, or one turn with its value -/
noncomputable def OneTurn (prog : Program) (w : World) (A : Around) (env : Env) (elt target : Expr) (ifs : List Expr) (it acc : Value) (stop go : Shared → Prop) (E : Value → Shared → Prop) : Option Value → Shared → Prop
  | none, s => stop s
  | some v, s => wpAny (model prog w) A (letOwnedTupleGo target it v) (fun _ s₁ => wpAny (model prog w) A (assign target env v) (fun _ s₂ => Tested prog w A env E ifs (fun ok s₃ =>
      if ok = true then wpAny (model prog w) A (eval elt env) (fun x s₄ => wpAny (model prog w) A (call (.builtin "list.append") [acc, x]) (fun _ s₅ => go s₅) E s₄) E s₃ else go s₃) s₂) E s₁) E s

/-- a comprehension's turns, whatever its target: the library's two rules, for no test and for one, as one -/
theorem compLoop_any {prog : Program} {w : World} {A : Around} {R : Result → Shared → Prop} {s : Shared} {elt target iter : Expr} {ifs : List Expr} {scope : Scope} {pos : Pos} {it acc : Value} {env : Env} (hifs : ifs.length < 2) (I : Nat → Shared → Prop)
    (turn : ∀ n s, I n s → ∀ E, wpAny (model prog w) A (pyNext it) (OneTurn prog w A env elt target ifs it acc (R (.ok .next)) (fun s' => ∃ m, m < n ∧ I m s') E) E s)
    (n : Nat) (h : I n s) : codeAny (model prog w) A (.compLoop (.ListComp elt [⟨target, iter, ifs, 0⟩] scope pos) 0 it acc env) R s := by
  match ifs, hifs, turn with
  | [], _, turn => exact kcp_loop I (fun n s x => wpAny_mono (turn n s x _) (fun r s₁ y => by cases r <;> exact y) fun _ _ y => y) n h
  | [e], _, turn => exact kct_loop I (fun n s x => wpAny_mono (turn n s x _) (fun r s₁ y => by cases r <;> exact y) fun _ _ y => y) n h
  | _ :: _ :: _, hl, _ => exact absurd hl (by simp only [List.length_cons]; omega)

section
variable {c : C} {own : List Addr} {ρ : List (Str × PyData)} {h h' : Heap}

theorem C.Vs.poke (V : c.Vs own ρ h) {I : Addr} (hI : I ∈ own) (hF : I ∉ c.Fs) (hb : c.base.get? I = none) (hL : I ≠ c.env.locals) (hcell : ∀ p ∈ c.env.cells, p.2 ≠ I) (hk : ∀ b o, b ≠ I → h.get? b = some o → h'.get? b = some o) (hex : ∃ o, h'.get? I = some o) : c.Vs own ρ h' where
  keep := fun b o e => hk b o (fun q => by rw [q, hb] at e; cases e) (V.keep b o e)
  fs := V.fs
  ex := fun b m => by
    by_cases q : b = I
    · rw [q]; exact hex
    · obtain ⟨o, e⟩ := V.ex b m; exact ⟨o, hk b o q e⟩
  frames := fun b m => let ⟨x, n⟩ := V.frames b m; ⟨x, n.at' fun o e => hk b o (fun q => hF (q ▸ m)) e⟩
  cells := V.cells
  cex := fun p hp => let ⟨o, e⟩ := V.cex p hp; ⟨o, hk _ o (hcell p hp) e⟩
  vars := fun p hp => by
    obtain ⟨v, e, D⟩ := V.vars p hp
    refine ⟨v, ?_, D.keeps fun b o e => ?_⟩
    · rcases e with ⟨k, m, n, e⟩ | ⟨k, hx, a, l, na, o, e, d⟩
      · exact .inl ⟨k, m, n.at' fun o e => hk _ o (Ne.symm hL) e, e⟩
      · exact .inr ⟨k, hx, a, l, na, o, hk _ o (hcell _ (mem_of_lookup l)) e, d⟩
    · have hn : b ∉ own := fun m => by rw [hideAll_none own m] at e; cases e
      exact hideAll_get own (hk b o (fun q => hn (q ▸ hI)) (of_hideAll own e)) hn

theorem C.Vs.storeL {s : Shared} (V : c.Vs own ρ s.heap) (hc : c.Ok) (hI : c.env.locals ∈ own) (hF : c.env.locals ∉ c.Fs) (hb : c.base.get? c.env.locals = none) (hcell : ∀ p ∈ c.env.cells, p.2 ≠ c.env.locals) {m : Str → Option Value} (hm : s.heap.Ns c.env.locals m)
    {x : Str} {v : Value} {d : PyData} (hx : c.env.kindOf x = some .local) (D : Den c.toPW s.heap own v d) {E : Value → Shared → Prop} :
    wpAny (model c.prog c.w) c.A (storeName c.env x v) (fun _ s' => c.Vs own (put ρ x d) s'.heap ∧ (∃ m', s'.heap.Ns c.env.locals m') ∧ Heap.SameBut c.env.locals s.heap s'.heap ∧ s' = { s with heap := s'.heap, toks := s'.toks }) E s := by
  refine wpAny_storeName_local hx hm (fun h' hn hs => ⟨?_, ⟨_, hn⟩, hs, rfl⟩) (by rw [hc.kind]; rfl)
  have hk : ∀ b o, b ≠ c.env.locals → s.heap.get? b = some o → h'.get? b = some o := fun b o n e => (hs.2 b n).trans e
  exact {
    keep := fun b o e => hk b o (fun q => by rw [q, hb] at e; cases e) (V.keep b o e)
    fs := V.fs
    ex := fun b mm => by
      by_cases q : b = c.env.locals
      · obtain ⟨o, _, _, e, _⟩ := hn; exact ⟨o, q ▸ e⟩
      · obtain ⟨o, e⟩ := V.ex b mm; exact ⟨o, hk b o q e⟩
    frames := fun b mm => let ⟨y, n⟩ := V.frames b mm; ⟨y, n.at' fun o e => hk b o (fun q => hF (q ▸ mm)) e⟩
    cells := V.cells
    cex := fun p hp => let ⟨o, e⟩ := V.cex p hp; ⟨o, hk _ o (hcell p hp) e⟩
    vars := fun p hp => by
      rcases mem_put hp with rfl | ⟨hp, hne⟩
      · exact ⟨v, .inl ⟨hx, _, hn, by simp⟩, D.keeps (hide_same hI hs)⟩
      · obtain ⟨u, a, D'⟩ := V.vars p hp
        refine ⟨u, ?_, D'.keeps (hide_same hI hs)⟩
        rcases a with ⟨k, m', n, e⟩ | ⟨k, hx', a, l, na, o, e, dd⟩
        · refine .inl ⟨k, _, hn, ?_⟩
          have : m' = m := by
            obtain ⟨o, es, ep, e1, e2, _, e3⟩ := n
            obtain ⟨o', es', ep', f1, f2, _, f3⟩ := hm
            rw [e1] at f1; cases f1
            rw [e2] at f2; cases f2
            funext z; rw [← e3, ← f3]
          show (if p.1 = x then some v else m p.1) = some u
          rw [if_neg hne, ← this]; exact e
        · exact .inr ⟨k, hx', a, l, na, o, hk _ o (hcell _ (mem_of_lookup l)) e, dd⟩ }

def C.comp (c : C) (scope : Scope) (cl : List (Str × Addr)) (L : Addr) : C := { c with env := compEnvC scope cl L c.env }

/-- what a comprehension's scope must be -/
structure Comp (c : C) (scope : Scope) (cl : List (Str × Addr)) : Prop where
  kind : scope.kind = .function
  nocell : ∀ y ∈ scope.names, y.2 ≠ .cell
  names : ∀ y ∈ scope.names, y.2 = .local → scope.names.lookup y.1 = some .local
  clos : closureFor scope c.env = pure cl
  sub : ∀ p ∈ cl, p ∈ c.env.cells

theorem Comp.ok {scope : Scope} {cl : List (Str × Addr)} {L : Addr} (k : Comp c scope cl) (hc : c.Ok) : (c.comp scope cl L).Ok where
  handled := hc.handled
  frames := hc.frames
  depth := hc.depth
  units := hc.units
  kind := k.kind
  glob := hc.glob
  blt := hc.blt
  g := hc.g
  b := hc.b
  lim := hc.lim
  fun_ := hc.fun_
  off := hc.off
  one := hc.one

/-- the turns of a comprehension -/
theorem comp_core (hc : c.Ok) {scope : Scope} {cl : List (Str × Addr)} (hk : Comp c scope cl) {elt target iter : Expr} {ifs : List Expr} {pos : Pos} {s₁ s₂ : Shared} {I : Addr} {fp : List Addr} {P : Nat → Value → Prop} {St : Nat → Heap → Prop} {vs : List Value} {ws ds : List PyData}
    (ρf : List (Str × PyData)) (bind : PyData → List (Str × PyData)) (p : PyData → Bool) (g : PyData → PyData) {RR : Value → Addr → Result → Shared → Prop}
    (V : c.Vs own ρ s₁.heap) (g₁₂ : Gw c.Fs s₁ s₂) (hI1 : s₁.heap.get? I = none) (hI2 : ∃ o, s₂.heap.get? I = some o) (hI3 : s₁.heap.objs.size ≤ I)
    (Wk : Walks c.prog c.w c.A I fp [I] ds.length P St) (hex : ∀ i h, St i h → ∃ o, h.get? I = some o) (hst : St 0 s₂.heap) (hfp : ∀ b ∈ fp, b = I ∨ (b ∉ own ∧ s₁.heap.get? b ≠ none)) (hD : Dens c.toPW s₁.heap own vs ws)
    (hP : ∀ i v d h own, P i v → ds[i]? = some d → Dens c.toPW h own vs ws → Den c.toPW h own v d) (hsz : ds.length ≤ sizeLine)
    (hcap : ∀ q ∈ ρf, q ∈ ρ ∧ c.env.kindOf q.1 = some .cell ∧ (c.comp scope cl 0).env.kindOf q.1 = some .cell ∧ cl.lookup q.1 = c.env.cells.lookup q.1)
    (hgo : ∀ i (s : Shared) v (Q : Unit → Shared → Prop) (E : Value → Shared → Prop), St i s.heap → Q () s → wpAny (model c.prog c.w) c.A (letOwnedTupleGo target (.ref I) v) Q E s)
    (hassign : ∀ L own' v d s E m, d ∈ ds → L ∈ own' → L ∉ c.Fs → c.base.get? L = none → (∀ q ∈ cl, q.2 ≠ L) → s.heap.Ns L m → (c.comp scope cl L).Vs own' ρf s.heap → Den c.toPW s.heap own' v d →
      wpAny (model c.prog c.w) c.A (assign target (compEnvC scope cl L c.env) v) (fun _ s' => (c.comp scope cl L).Vs own' (bind d) s'.heap ∧ (∃ m', s'.heap.Ns L m') ∧ (∀ b o, b ≠ L → s.heap.get? b = some o → s'.heap.get? b = some o) ∧ s' = { s with heap := s'.heap, toks := s'.toks }) E s)
    (hifs : ifs.length < 2) (htests : ∀ L own' d s E, d ∈ ds → (c.comp scope cl L).Vs own' (bind d) s.heap → Tested c.prog c.w c.A (compEnvC scope cl L c.env) E ifs (fun ok s' => Gw c.Fs s s' ∧ ok = p d) s)
    (hbf : ∀ d ∈ ds, ∀ q ∈ ρf, q ∈ bind d)
    (helt : ∀ L own' d, d ∈ ds → p d = true → (c.comp scope cl L).Ev own' (bind d) elt (g d))
    (hRR : ∀ D C s₃ m', s₂.heap.get? D = none → s₂.heap.get? C = none → s₂.heap.objs.size ≤ C → D ≠ C → s₃.heap.Ns C m' → Gw c.Fs s₁ s₃ → Den c.toPW s₃.heap (C :: own) (.ref D) (.list ((ds.filter p).map g)) → RR (.ref D) C (.ok .next) s₃) {E : Value → Shared → Prop} :
    wpAny (model c.prog c.w) c.A (newList []) (fun acc s₃ => wpAny (model c.prog c.w) c.A (newFunctionEnv scope c.env.globals cl [] c.env.qual none .none (some c.env)) (fun cenv s₄ =>
      codeAny (model c.prog c.w) c.A (.compStart (.ListComp elt [⟨target, iter, ifs, 0⟩] scope pos) 0 (.ref I) acc { cenv with scope := relabel scope c.env }) (RR acc cenv.locals) s₄) E s₃) E s₂ := by
  have V₂ := V.gw hc g₁₂
  refine wpAny_newObj_type (wpAny_newFunctionEnv hk.nocell (by intro y hy; simp at hy) (fun h₁ hns₁ hsb₁ => ?_) hk.kind)
  dsimp only at hns₁ hsb₁ ⊢
  generalize hH2 : s₂.heap.push { cls := .type "list", dict := none, data := .seq ([] : List Value).toArray } = H2 at hns₁ hsb₁ ⊢
  have hC : H2.objs.size = s₂.heap.objs.size + 1 := by rw [← hH2, Heap.size_push]
  obtain ⟨D, hDe⟩ : ∃ D : Nat, s₂.heap.objs.size = D := ⟨_, rfl⟩
  obtain ⟨C, hCe⟩ : ∃ C : Nat, H2.objs.size = C := ⟨_, rfl⟩
  rw [hCe] at hns₁ hsb₁
  rw [hCe, hDe] at hC
  rw [hDe, hCe]
  have hDC : D ≠ C := by omega
  have below : ∀ (b : Nat) (o : Obj), s₂.heap.get? b = some o → b < D := fun b o e => hDe ▸ Heap.lt_size e
  have hltC : ∀ b : Nat, b < D → b ≠ C := fun b hb => by omega
  have hCD : ¬ C < D := by omega
  have old : ∀ b o, s₂.heap.get? b = some o → h₁.get? b = some o := fun b o e => by
    exact hsb₁.extBut b o (hltC b (below b o e)) (Heap.get?_push_of_some _ (hH2 ▸ Heap.get?_push_of_some _ e))
  have hDn : s₂.heap.get? D = none := by
    cases e : s₂.heap.get? D with
    | none => rfl
    | some o => exact absurd (below _ _ e) (Nat.lt_irrefl _)
  have hCn : s₂.heap.get? C = none := by
    cases e : s₂.heap.get? C with
    | none => rfl
    | some o => exact absurd (below _ _ e) hCD
  have hacc : h₁.get? D = some (listObj [] 0) := by
    have e1 : H2.get? D = some (listObj [] 0) := by rw [← hH2, ← hDe]; exact Heap.get?_push_size _ rfl
    exact hsb₁.extBut _ _ hDC (Heap.get?_push_of_some _ e1)
  obtain ⟨oI, hoI⟩ := hI2
  have hID : I < D := below _ _ hoI
  have hIo : I ∉ own := fun m => by obtain ⟨o, e⟩ := V.ex I m; rw [hI1] at e; cases e
  have hDo : D ∉ own := fun m => by obtain ⟨o, e⟩ := V₂.ex D m; rw [hDn] at e; cases e
  have hCo : C ∉ own := fun m => by obtain ⟨o, e⟩ := V₂.ex C m; rw [hCn] at e; cases e
  have hbase : ∀ a, s₁.heap.get? a = none → c.base.get? a = none := fun a ha => by
    cases e : c.base.get? a with
    | none => rfl
    | some o => rw [V.keep a o e] at ha; cases ha
  have hbase₂ : ∀ a, s₂.heap.get? a = none → c.base.get? a = none := fun a ha => by
    cases e : c.base.get? a with
    | none => rfl
    | some o => rw [V₂.keep a o e] at ha; cases ha
  have hcells : ∀ q ∈ cl, q.2 ∉ c.Fs := fun q hq => V.cells q (hk.sub q hq)
  have hFC : C ∉ c.Fs := fun m => hCo (V.fs _ m)
  have hFD : D ∉ c.Fs := fun m => hDo (V.fs _ m)
  have hFI : I ∉ c.Fs := fun m => hIo (V.fs _ m)
  have hold : ∀ q ∈ cl, ∃ o, s₁.heap.get? q.2 = some o := fun q hq => V.cex q (hk.sub q hq)
  have hcl₁ : ∀ q ∈ cl, ∃ o, s₂.heap.get? q.2 = some o := fun q hq => let ⟨o, e⟩ := hold q hq; ⟨o, g₁₂.gr.keep _ o (hcells q hq) e⟩
  have hclI : ∀ q ∈ cl, q.2 ≠ I := fun q hq e => by obtain ⟨o, x⟩ := hold q hq; rw [e, hI1] at x; cases x
  have hclC : ∀ q ∈ cl, q.2 ≠ C := fun q hq e => by obtain ⟨o, x⟩ := hcl₁ q hq; rw [e, hCn] at x; cases x
  have hclD : ∀ q ∈ cl, q.2 ≠ D := fun q hq e => by obtain ⟨o, x⟩ := hcl₁ q hq; rw [e, hDn] at x; cases x
  have hnot : ∀ a, s₂.heap.get? a = none → s₁.heap.get? a = none ∨ a ∈ c.Fs := fun a ha => by
    by_cases hf : a ∈ c.Fs
    · exact .inr hf
    · refine .inl ?_
      cases e : s₁.heap.get? a with
      | none => rfl
      | some o => rw [g₁₂.gr.keep a o hf e] at ha; cases ha
  have hC1 : s₁.heap.get? C = none := (hnot C hCn).resolve_right hFC
  have hD1 : s₁.heap.get? D = none := (hnot D hDn).resolve_right hFD
  let own₂ := C :: D :: I :: own
  have hICne : I ≠ C := hltC I hID
  have hC2 : ∀ a : Nat, (a = C ∨ a = D) → s₁.heap.objs.size ≤ a := fun a ha => by
    have hDltC : D < C := by omega
    rcases ha with rfl | rfl
    · exact Nat.le_trans hI3 (Nat.le_of_lt (Nat.lt_trans hID hDltC))
    · exact Nat.le_trans hI3 (Nat.le_of_lt hID)
  have hIDne : I ≠ D := Nat.ne_of_lt hID
  -- the captured names' cells are old
  have hloop : ∀ s₄ : Shared, s₄ = { s₂ with heap := h₁, toks := s₂.toks + ([] : List (Str × Value)).length } →
      codeAny (model c.prog c.w) c.A (.compLoop (.ListComp elt [⟨target, iter, ifs, 0⟩] scope pos) 0 (.ref I) (.ref D) (compEnvC scope cl C c.env)) (RR (.ref D) C) s₄ := by
    rintro s₄ rfl
    have hk2 := hk.ok (L := C) hc
    have hFs : (c.comp scope cl C).Fs = c.Fs := rfl
    -- growing, seen from the start
    have grow : ∀ {h h' : Heap}, Gr c.Fs s₁.heap h → (∀ b o, b ≠ C → b ≠ D → b ≠ I → h.get? b = some o → h'.get? b = some o) → Gr c.Fs s₁.heap h' := fun g' hk' =>
      ⟨fun b o nb e => hk' b o (fun q => by rw [q, hC1] at e; cases e) (fun q => by rw [q, hD1] at e; cases e) (fun q => by rw [q, hI1] at e; cases e) (g'.keep b o nb e), fun b m nb e =>
        (g'.names b m nb e).at' fun o x => hk' b o (fun q => hFC (q ▸ nb)) (fun q => hFD (q ▸ nb)) (fun q => hFI (q ▸ nb)) x⟩
    have hfp' : ∀ b ∈ fp, b ≠ C ∧ b ≠ D ∧ b ∉ c.Fs := fun b hb => by
      rcases hfp b hb with rfl | ⟨h1, h2⟩
      · exact ⟨hICne, hIDne, hFI⟩
      · refine ⟨fun q => h2 (q ▸ hC1), fun q => h2 (q ▸ hD1), fun m => h1 (V.fs _ m)⟩
    refine compLoop_any hifs (fun k s' => ∃ pre post, ds = pre ++ post ∧ k = post.length ∧ Gw c.Fs s₁ s' ∧ (c.comp scope cl C).Vs own₂ ρf s'.heap ∧ St pre.length s'.heap ∧ (∃ m, s'.heap.Ns C m) ∧
      (∃ ys n, s'.heap.get? D = some (listObj ys n) ∧ Dens c.toPW s'.heap own₂ ys ((pre.filter p).map g)) ∧ Dens c.toPW s'.heap own₂ vs ws) ?_ ds.length ?_
    · rintro k s' ⟨pre, post, hds, rfl, gw, V', hst', ⟨m, hm⟩, ⟨ys, ny, hys, hysD⟩, hvs⟩ E'
      cases post with
      | nil =>
        have hn : pre.length = ds.length := by rw [hds]; simp
        have hpre : pre = ds := by rw [hds]; simp
        refine Wk.done _ _ _ (hn ▸ hst') fun ha ta hka => ?_
        have hka' : ∀ b o, b ≠ I → s'.heap.get? b = some o → ha.get? b = some o := fun b o hb e => hka b o (by simpa using hb) e
        show RR _ _ _ _
        refine hRR D C _ m hDn hCn (by omega) hDC (hm.at' fun o e => hka' _ o (Ne.symm hICne) e) ?_ ?_
        · have gg := grow gw.gr fun b o _ _ hb e => hka' b o hb e
          obtain ⟨x, y, rfl, _⟩ := gw
          exact ⟨ha, ta, rfl, gg⟩
        · rw [hpre] at hysD
          refine .mkList (hka' _ _ (Ne.symm hIDne) hys) rfl rfl (fun q => (List.mem_cons.mp q).elim hDC hDo) ?_
          refine hysD.keeps fun b o e => ?_
          have hn' : b ∉ own₂ := fun q => by rw [hideAll_none own₂ q] at e; cases e
          exact hideAll_get _ (hka' b o (fun q => hn' (q ▸ .tail _ (.tail _ (.head _)))) (of_hideAll own₂ e)) fun q => by
            rcases List.mem_cons.mp q with q | q
            · exact hn' (q ▸ .head _)
            · exact hn' (.tail _ (.tail _ (.tail _ q)))
      | cons d post =>
        have hlt : pre.length < ds.length := by rw [hds]; simp
        have hget : ds[pre.length]? = some d := by rw [hds]; simp
        have hdm : d ∈ ds := by rw [hds]; simp
        refine Wk.item pre.length _ _ _ hlt hst' fun v ha ta hPv hsta hka => ?_
        have hka' : ∀ b o, b ≠ I → s'.heap.get? b = some o → ha.get? b = some o := fun b o hb e => hka b o (by simpa using hb) e
        have hDk : ∀ b o, (hideAll s'.heap own₂).get? b = some o → (hideAll ha own₂).get? b = some o := fun b o e => by
          have hn' : b ∉ own₂ := fun q => by rw [hideAll_none own₂ q] at e; cases e
          exact hideAll_get own₂ (hka' b o (fun q => hn' (q ▸ .tail _ (.tail _ (.head _)))) (of_hideAll own₂ e)) hn'
        have Va := V'.poke (h' := ha) (I := I) (.tail _ (.tail _ (.head _))) hFI (hbase I hI1) hICne hclI hka' (hex _ _ hsta)
        show wpAny _ _ _ _ _ _
        refine hgo _ _ _ _ _ hsta ?_
        have hma : ha.Ns C m := hm.at' fun o e => hka' _ o (Ne.symm hICne) e
        refine wpAny_mono (hassign C own₂ v d _ _ m hdm (.head _) hFC (hbase C hC1) hclC hma Va (hP _ v d _ _ hPv hget (hvs.keeps hDk))) (fun _ sb hb => ?_) fun _ _ x => x
        obtain ⟨Vb, ⟨mb, hmb⟩, hkb, hsb⟩ := hb
        have hDkb : ∀ b o, (hideAll ha own₂).get? b = some o → (hideAll sb.heap own₂).get? b = some o := fun b o e => by
          have hn' : b ∉ own₂ := fun q => by rw [hideAll_none own₂ q] at e; cases e
          exact hideAll_get own₂ (hkb b o (fun q => hn' (q ▸ .head _)) (of_hideAll own₂ e)) hn'
        have hysb : sb.heap.get? D = some (listObj ys ny) := hkb _ _ hDC (hka' _ _ (Ne.symm hIDne) hys)
        have grb : Gr c.Fs s₁.heap sb.heap := grow gw.gr fun b o h1 h2 h3 e => hkb b o h1 (hka' b o h3 e)
        have gwb : Gw c.Fs s₁ sb := by
          rw [hsb]
          obtain ⟨x, y, rfl, _⟩ := gw
          exact ⟨_, _, rfl, grb⟩
        have hstb : St (pre.length + 1) sb.heap := Wk.frame _ _ _ hsta fun b hb o e => hkb b o (hfp' b hb).1 e
        refine Tested.mono (htests C own₂ d sb _ hdm Vb) (fun ok sc hc' => ?_)
        obtain ⟨gc, rfl⟩ := hc'
        have Vc := Vb.gw hk2 gc
        have hstc : St (pre.length + 1) sc.heap := Wk.frame _ _ _ hstb fun b hb o e => gc.gr.keep b o (hfp' b hb).2.2 e
        have hvsc : Dens c.toPW sc.heap own₂ vs ws := ((hvs.keeps hDk).keeps hDkb).gr gc.gr Vb.fs
        have hysc : Dens c.toPW sc.heap own₂ ys ((pre.filter p).map g) := ((hysD.keeps hDk).keeps hDkb).gr gc.gr Vb.fs
        have hds' : ds = (pre ++ [d]) ++ post := by rw [hds]; simp
        have Vρ : ∀ {h}, (c.comp scope cl C).Vs own₂ (bind d) h → (c.comp scope cl C).Vs own₂ ρf h := fun x => { x with vars := fun q hq => x.vars q (hbf d hdm q hq) }
        cases hp : p d with
        | false =>
          rw [if_neg (by decide)]
          refine ⟨post.length, by simp, pre ++ [d], post, hds', rfl, gwb.trans gc, Vρ Vc, by simpa using hstc, ⟨mb, gc.gr.ns hmb⟩, ⟨ys, ny, gc.gr.keep _ _ hFD hysb, ?_⟩, hvsc⟩
          simpa [List.filter_append, hp] using hysc
        | true =>
          rw [if_pos rfl]
          refine wpAny_mono (helt C own₂ d hdm hp _ sc Vc) (fun y sd hd => ?_) fun _ _ x => x
          obtain ⟨gd, Dy⟩ := hd
          have Vd := Vc.gw hk2 gd
          have hysd : sd.heap.get? D = some (listObj ys ny) := gd.gr.keep _ _ hFD (gc.gr.keep _ _ hFD hysb)
          have hsz' : ys.toArray.size ≤ sizeLine := by
            rw [List.size_toArray, hysc.length, List.length_map]
            have e1 := List.length_filter_le p pre
            omega
          refine wpAny_list_append_plain (items := ys.toArray) ⟨ny, hysd⟩ (fun h' ⟨n', hl'⟩ hs => ?_) hsz'
          have hD₂ : D ∈ own₂ := .tail _ (.head _)
          have hke : ∀ b o, b ≠ D → sd.heap.get? b = some o → h'.get? b = some o := fun b o nb e => (hs.2 b nb).trans e
          have Ve := (Vρ Vd).poke (h' := h') (I := D) hD₂ hFD (hbase₂ D hDn) hDC hclD hke ⟨_, hl'⟩
          have hks := hide_same hD₂ hs
          have gre : Gr c.Fs s₁.heap h' := grow ((grb.trans gc.gr).trans gd.gr) fun b o h1 h2 h3 e => hke b o h2 e
          have gwe : Gw c.Fs s₁ { sd with heap := h' } := by
            obtain ⟨x, y, rfl, _⟩ := (gwb.trans gc).trans gd
            exact ⟨h', y, rfl, gre⟩
          refine ⟨post.length, by simp, pre ++ [d], post, hds', rfl, gwe, Ve, ?_, ⟨mb, (gd.gr.ns (gc.gr.ns hmb)).at' fun o e => hke _ o (Ne.symm hDC) e⟩, ⟨ys ++ [y], n', by rw [hl']; simp [listObj], ?_⟩, (hvsc.gr gd.gr Vb.fs).keeps hks⟩
          · have := Wk.frame _ _ h' hstc fun b hb o e => hke b o (hfp' b hb).2.1 (gd.gr.keep b o (hfp' b hb).2.2 e)
            simpa using this
          · have e1 : ((pre ++ [d]).filter p).map g = (pre.filter p).map g ++ [g d] := by simp [List.filter_append, hp]
            rw [e1]
            exact ((hysc.gr gd.gr Vb.fs).keeps hks).append (.cons (Dy.keeps hks) .nil)
    · have hfr : ∀ a ∈ own₂, a ∈ own ∨ s₁.heap.objs.size ≤ a := fun a m => by
        rcases List.mem_cons.mp m with rfl | m
        · exact .inr (hC2 _ (.inl rfl))
        · rcases List.mem_cons.mp m with rfl | m
          · exact .inr (hC2 _ (.inr rfl))
          · rcases List.mem_cons.mp m with rfl | m
            · exact .inr hI3
            · exact .inl m
      have g₁ : Gr c.Fs s₁.heap h₁ := g₁₂.gr.trans (.of old)
      refine ⟨[], ds, rfl, rfl, ?_, ?_, Wk.frame _ _ _ hst fun b _ o e => old b o e, ⟨_, hns₁⟩, ⟨[], 0, hacc, .nil⟩, hD.gr' g₁ V.fs hfr⟩
      · obtain ⟨x, y, rfl, _⟩ := g₁₂
        exact ⟨h₁, _, rfl, g₁⟩
      · exact {
          keep := fun b o e => old b o (V₂.keep b o e)
          fs := fun a m => .tail _ (.tail _ (.tail _ (V.fs a m)))
          ex := fun a m => by
            rcases List.mem_cons.mp m with rfl | m
            · obtain ⟨o, _, _, e, _⟩ := hns₁; exact ⟨o, e⟩
            · rcases List.mem_cons.mp m with rfl | m
              · exact ⟨_, hacc⟩
              · rcases List.mem_cons.mp m with rfl | m
                · exact ⟨oI, old _ _ hoI⟩
                · obtain ⟨o, e⟩ := V₂.ex a m; exact ⟨o, old _ _ e⟩
          frames := fun a m => let ⟨x, n⟩ := V₂.frames a m; ⟨x, n.keeps old⟩
          cells := hcells
          cex := fun q hq => let ⟨o, e⟩ := hcl₁ q hq; ⟨o, old _ _ e⟩
          vars := fun q hq => by
            obtain ⟨q1, q2, q3, q4⟩ := hcap q hq
            obtain ⟨v, hv, Dv⟩ := V.vars q q1
            refine ⟨v, ?_, Dv.gr' g₁ V.fs hfr⟩
            rcases hv with ⟨k, _⟩ | ⟨_, hx, a, l, na, o, e, dd⟩
            · rw [q2] at k; cases k
            · have ha : a ∉ c.Fs := V.cells _ (mem_of_lookup l)
              refine .inr ⟨.inl q3, hx, a, q4.trans l, (fun q => by rw [List.mem_singleton.mp q] at e; exact absurd e (by rw [show (c.comp scope cl C).env.locals = C from rfl, hC1]; exact nofun)), o, g₁.keep a o ha e, dd⟩ }
  exact codeAny_compStart_list (hloop _ rfl) (Wk.self 0 _ _ _ (Wk.frame _ _ _ hst fun b _ o e => old b o e) (hloop _ rfl))
end
end Mine

/-! M13 -/
namespace Mine
section
variable {c : C} {own : List Addr} {ρ : List (Str × PyData)}

/-- the tests of a comprehension -/
def TestsAre (c : C) (scope : Scope) (cl : List (Str × Addr)) (ifs : List Expr) (ρ : List (Str × PyData)) (b : Bool) : Prop :=
  ∀ L own' s E, (c.comp scope cl L).Vs own' ρ s.heap → Tested c.prog c.w c.A (compEnvC scope cl L c.env) E ifs (fun ok s' => Gw c.Fs s s' ∧ ok = b) s
theorem TestsAre.nil {scope : Scope} {cl : List (Str × Addr)} : TestsAre c scope cl [] ρ true := fun L own' s E V => ⟨.refl .., rfl⟩
theorem TestsAre.one {scope : Scope} {cl : List (Str × Addr)} {e : Expr} {b : Bool} (h : ∀ L own', (c.comp scope cl L).Ts own' ρ e b) : TestsAre c scope cl [e] ρ b := fun L own' s E V => h L own' E s V

structure CompSpec (c : C) (scope : Scope) (cl : List (Str × Addr)) (ρ ρf : List (Str × PyData)) (elt target : Expr) (ifs : List Expr) (ds : List PyData) (bind : PyData → List (Str × PyData)) (p : PyData → Bool) (g : PyData → PyData) : Prop where
  comp : Comp c scope cl
  sz : ds.length ≤ sizeLine
  cap : ∀ q ∈ ρf, q ∈ ρ ∧ c.env.kindOf q.1 = some .cell ∧ (c.comp scope cl 0).env.kindOf q.1 = some .cell ∧ cl.lookup q.1 = c.env.cells.lookup q.1
  bf : ∀ d ∈ ds, ∀ q ∈ ρf, q ∈ bind d
  assign : ∀ L own' v d s E m, d ∈ ds → L ∈ own' → L ∉ c.Fs → c.base.get? L = none → (∀ q ∈ cl, q.2 ≠ L) → s.heap.Ns L m → (c.comp scope cl L).Vs own' ρf s.heap → Den c.toPW s.heap own' v d →
      wpAny (model c.prog c.w) c.A (assign target (compEnvC scope cl L c.env) v) (fun _ s' => (c.comp scope cl L).Vs own' (bind d) s'.heap ∧ (∃ m', s'.heap.Ns L m') ∧ (∀ b o, b ≠ L → s.heap.get? b = some o → s'.heap.get? b = some o) ∧ s' = { s with heap := s'.heap, toks := s'.toks }) E s
  go : ∀ (I : Addr) (s : Shared) v (Q : Unit → Shared → Prop) (E : Value → Shared → Prop), (∃ o, s.heap.get? I = some o ∧ (o.cls = .type "list_iterator" ∨ o.cls = .type "str_iterator" ∨ o.cls = .type "str_ascii_iterator")) → Q () s → wpAny (model c.prog c.w) c.A (letOwnedTupleGo target (.ref I) v) Q E s
  few : ifs.length < 2
  tests : ∀ d ∈ ds, TestsAre c scope cl ifs (bind d) (p d)
  elt : ∀ L own' d, d ∈ ds → p d = true → (c.comp scope cl L).Ev own' (bind d) elt (g d)

/-- the source has been iterated: the rest -/
theorem comp_list (hc : c.Ok) {scope : Scope} {cl : List (Str × Addr)} {elt target iter : Expr} {ifs : List Expr} {pos : Pos} {ds : List PyData} {ρf : List (Str × PyData)} {bind : PyData → List (Str × PyData)} {p : PyData → Bool} {g : PyData → PyData}
    (K : CompSpec c scope cl ρ ρf elt target ifs ds bind p g) {s₁ : Shared} (V : c.Vs own ρ s₁.heap) {v : Value} (D : Den c.toPW s₁.heap own v (.list ds)) {RR : Value → Addr → Result → Shared → Prop} {E : Value → Shared → Prop}
    (hRR : ∀ D C s₃ m', s₁.heap.get? C = none → s₁.heap.objs.size ≤ C → s₃.heap.Ns C m' → Gw c.Fs s₁ s₃ → Den c.toPW s₃.heap (C :: own) (.ref D) (.list ((ds.filter p).map g)) → RR (.ref D) C (.ok .next) s₃) :
    wpAny (model c.prog c.w) c.A (pyIter v) (fun it s₂ => wpAny (model c.prog c.w) c.A (newList []) (fun acc s₃ => wpAny (model c.prog c.w) c.A (newFunctionEnv scope c.env.globals cl [] c.env.qual none .none (some c.env)) (fun cenv s₄ =>
      codeAny (model c.prog c.w) c.A (.compStart (.ListComp elt [⟨target, iter, ifs, 0⟩] scope pos) 0 it acc { cenv with scope := relabel scope c.env }) (RR acc cenv.locals) s₄) E s₃) E s₂) E s₁ := by
  obtain ⟨l, vs, rfl, il, Ds⟩ := D.inv_list
  have hl := isList_of_hid il
  have hlo : l ∉ own := fun m => by obtain ⟨o, e, _⟩ := il; rw [hideAll_none own m] at e; cases e
  refine wpAny_pyIter_list hl ?_
  have hne : l ≠ s₁.heap.objs.size := by obtain ⟨o, e, _⟩ := hl; exact Nat.ne_of_lt (Heap.lt_size e)
  have Wk := Walks.list (prog := c.prog) (w := c.w) hc.handled s₁.heap.objs.size l hne vs.toArray
  have hz : vs.toArray.size = ds.length := by simp [Ds.length]
  rw [hz] at Wk
  have hI1 : s₁.heap.get? s₁.heap.objs.size = none := by
    cases e : s₁.heap.get? s₁.heap.objs.size with
    | none => rfl
    | some o => exact absurd (Heap.lt_size e) (Nat.lt_irrefl _)
  refine comp_core (vs := vs) (ws := ds) (s₁ := s₁) hc K.comp ρf bind p g V .push hI1 ⟨_, Heap.get?_push_size _ rfl⟩ (Nat.le_refl _) Wk (fun i h st => let ⟨⟨o, e, _⟩, _⟩ := st; ⟨o, e⟩) ⟨⟨_, Heap.get?_push_size _ rfl, rfl, rfl⟩, hl.push _⟩
    (fun b hb => ?_) Ds (fun i v d h own' hP hd Ds' => ?_) K.sz K.cap (fun i s v Q E st q => K.go _ s v Q E (let ⟨⟨o, e, hcl, _⟩, _⟩ := st; ⟨o, e, .inl hcl⟩) q) K.assign K.few (fun L own' d s E hd => K.tests d hd L own' s E) K.bf K.elt
    (fun D C s₃ m' hD hC hge hDC hn gw De => hRR D C s₃ m' ?_ (Nat.le_trans (by rw [Heap.size_push]; exact Nat.le_succ _) hge) hn gw De)
  · rcases List.mem_cons.mp hb with rfl | hb
    · exact .inl rfl
    · rw [List.mem_singleton.mp hb]
      refine .inr ⟨hlo, ?_⟩
      obtain ⟨o, e, _⟩ := hl
      rw [e]; exact nofun
  · obtain ⟨v', e, D'⟩ := Ds'.get hd
    have hP' : vs[i]? = some v := by simpa using hP
    rw [hP'] at e; cases e; exact D'
  · cases e : s₁.heap.get? C with
    | none => rfl
    | some o => rw [Heap.get?_push_of_some _ e] at hC; cases hC

theorem comp_str (hc : c.Ok) {scope : Scope} {cl : List (Str × Addr)} {elt target iter : Expr} {ifs : List Expr} {pos : Pos} {y : Str} {ρf : List (Str × PyData)} {bind : PyData → List (Str × PyData)} {p : PyData → Bool} {g : PyData → PyData}
    (K : CompSpec c scope cl ρ ρf elt target ifs (signData y) bind p g) {s₁ : Shared} (V : c.Vs own ρ s₁.heap) {v : Value} (D : Den c.toPW s₁.heap own v (.str y)) {RR : Value → Addr → Result → Shared → Prop} {E : Value → Shared → Prop}
    (hRR : ∀ D C s₃ m', s₁.heap.get? C = none → s₁.heap.objs.size ≤ C → s₃.heap.Ns C m' → Gw c.Fs s₁ s₃ → Den c.toPW s₃.heap (C :: own) (.ref D) (.list (((signData y).filter p).map g)) → RR (.ref D) C (.ok .next) s₃) :
    wpAny (model c.prog c.w) c.A (pyIter v) (fun it s₂ => wpAny (model c.prog c.w) c.A (newList []) (fun acc s₃ => wpAny (model c.prog c.w) c.A (newFunctionEnv scope c.env.globals cl [] c.env.qual none .none (some c.env)) (fun cenv s₄ =>
      codeAny (model c.prog c.w) c.A (.compStart (.ListComp elt [⟨target, iter, ifs, 0⟩] scope pos) 0 it acc { cenv with scope := relabel scope c.env }) (RR acc cenv.locals) s₄) E s₃) E s₂) E s₁ := by
  obtain ⟨t, rfl⟩ := D.inv_str
  have hlen : (signData y).length = y.cps.size := by simp [signData]
  have hI1 : s₁.heap.get? s₁.heap.objs.size = none := by
    cases e : s₁.heap.get? s₁.heap.objs.size with
    | none => rfl
    | some o => exact absurd (Heap.lt_size e) (Nat.lt_irrefl _)
  have key : ∀ (o : Obj) (St : Nat → Heap → Prop), o.isFreed = false → Walks c.prog c.w c.A s₁.heap.objs.size [s₁.heap.objs.size] [s₁.heap.objs.size] y.cps.size (SignAt y) St → St 0 (s₁.heap.push o) →
      (∀ i h, St i h → ∃ o, h.get? s₁.heap.objs.size = some o ∧ (o.cls = .type "list_iterator" ∨ o.cls = .type "str_iterator" ∨ o.cls = .type "str_ascii_iterator")) →
      wpAny (model c.prog c.w) c.A (newList []) (fun acc s₃ => wpAny (model c.prog c.w) c.A (newFunctionEnv scope c.env.globals cl [] c.env.qual none .none (some c.env)) (fun cenv s₄ =>
        codeAny (model c.prog c.w) c.A (.compStart (.ListComp elt [⟨target, iter, ifs, 0⟩] scope pos) 0 (.ref s₁.heap.objs.size) acc { cenv with scope := relabel scope c.env }) (RR acc cenv.locals) s₄) E s₃) E { s₁ with heap := s₁.heap.push o } := by
    intro o St hf Wk hst hex
    rw [← hlen] at Wk
    refine comp_core (vs := []) (ws := []) (s₁ := s₁) hc K.comp ρf bind p g V .push hI1 ⟨_, Heap.get?_push_size _ hf⟩ (Nat.le_refl _) Wk (fun i h st => let ⟨o, e, _⟩ := hex i h st; ⟨o, e⟩) hst
      (fun b hb => .inl (List.mem_singleton.mp hb)) .nil (fun i v d h own' hP hd Ds' => ?_) K.sz K.cap (fun i s v Q E st q => K.go _ s v Q E (hex i _ st) q) K.assign K.few (fun L own' d s E hd => K.tests d hd L own' s E) K.bf K.elt
      (fun D C s₃ m' hD hC hge hDC hn gw De => hRR D C s₃ m' ?_ (Nat.le_trans (by rw [Heap.size_push]; exact Nat.le_succ _) hge) hn gw De)
    · obtain ⟨n, u, e1, rfl⟩ := hP
      have : d = .str ⟨#[n]⟩ := by
        unfold signData at hd
        rw [List.getElem?_map, Array.getElem?_toList, e1] at hd
        cases hd; rfl
      rw [this]; exact .str ..
    · cases e : s₁.heap.get? C with
      | none => rfl
      | some o => rw [Heap.get?_push_of_some _ e] at hC; cases hC
  cases ha : y.cps.all (· < 128)
  · exact wpAny_pyIter_wide ha (key _ _ rfl (Walks.strWide hc.handled _ y t) ⟨_, Heap.get?_push_size _ rfl, rfl, rfl⟩ fun i h st => let ⟨o, e, hcl, _⟩ := st; ⟨o, e, .inr (.inl hcl)⟩)
  · exact wpAny_pyIter_ascii ha (key _ _ rfl (Walks.strAscii hc.handled _ y t) ⟨_, Heap.get?_push_size _ rfl, rfl, rfl⟩ fun i h st => let ⟨o, e, hcl, _⟩ := st; ⟨o, e, .inr (.inr hcl)⟩)

theorem comp_end {s s₁ s₃ : Shared} {C : Addr} {m' : Str → Option Value} {v : Value} {d : PyData} (V : c.Vs own ρ s₁.heap) (g : Gw c.Fs s s₁) (hC : s₁.heap.get? C = none) (hn : s₃.heap.Ns C m') (gw : Gw c.Fs s₁ s₃) (D : Den c.toPW s₃.heap (C :: own) v d) (hs0 : s.heap.get? C = none) (hCF : C ∉ c.Fs) :
    ∃ m, s₃.heap.Ns C m ∧ ∀ h', Heap.SameBut C s₃.heap h' → Gw c.Fs s { s₃ with heap := h' } ∧ Den c.toPW h' own v d := by
  refine ⟨m', hn, fun h' hs => ⟨?_, ?_⟩⟩
  · have g3 := g.trans gw
    have gr : Gr c.Fs s.heap h' := ⟨fun b o nb e => (hs.2 b fun q => by rw [q, hs0] at e; cases e).trans (g3.gr.keep b o nb e), fun b m nb e => (g3.gr.names b m nb e).sameBut hs fun q => hCF (q ▸ nb)⟩
    obtain ⟨x, y, rfl, _⟩ := g3
    exact ⟨h', y, rfl, gr⟩
  · have D' : Den c.toPW h' (C :: own) v d := D.keeps (hide_same (.head _) hs)
    exact D'.fewer fun a m => .tail _ m

theorem Ev.comp_list (hc : c.Ok) {scope : Scope} {cl : List (Str × Addr)} {elt target iter : Expr} {ifs : List Expr} {pos : Pos} {ds : List PyData} {ρf : List (Str × PyData)} {bind : PyData → List (Str × PyData)} {p : PyData → Bool} {g : PyData → PyData}
    (hit : c.Ev own ρ iter (.list ds)) (K : CompSpec c scope cl ρ ρf elt target ifs ds bind p g) (hs : ∀ x, foldedSetIterable iter c.env x = pure x := by intro _; rfl) :
    c.Ev own ρ (.ListComp elt [⟨target, iter, ifs, 0⟩] scope pos) (.list ((ds.filter p).map g)) := fun E s V => by
  rw [eval_ListComp]
  refine wpAny_comprehension_free (use := none) rfl hs K.comp.clos K.comp.kind K.comp.names (wpAny_mono (hit E s V) (fun v s₁ ⟨g₁, D⟩ => ?_) fun _ _ e => e)
  have V₁ := V.gw hc g₁
  refine Mine.comp_list hc K V₁ D (RR := fun acc C => compPost (model c.prog c.w) c.A E none (fun v s' => Gw c.Fs s s' ∧ Den c.toPW s'.heap own v (.list ((ds.filter p).map g))) acc C) fun D C s₃ m' hC _ hn gw De => ?_
  have hCF : C ∉ c.Fs := fun m => by obtain ⟨o, e⟩ := V₁.ex C (V.fs _ m); rw [hC] at e; cases e
  refine comp_end V₁ g₁ hC hn gw De ?_ hCF
  cases e : s.heap.get? C with
  | none => rfl
  | some o => rw [g₁.gr.keep C o hCF e] at hC; cases hC

theorem Ev.comp_str (hc : c.Ok) {scope : Scope} {cl : List (Str × Addr)} {elt target iter : Expr} {ifs : List Expr} {pos : Pos} {y : Str} {ρf : List (Str × PyData)} {bind : PyData → List (Str × PyData)} {p : PyData → Bool} {g : PyData → PyData}
    (hit : c.Ev own ρ iter (.str y)) (K : CompSpec c scope cl ρ ρf elt target ifs (signData y) bind p g) (hs : ∀ x, foldedSetIterable iter c.env x = pure x := by intro _; rfl) :
    c.Ev own ρ (.ListComp elt [⟨target, iter, ifs, 0⟩] scope pos) (.list (((signData y).filter p).map g)) := fun E s V => by
  rw [eval_ListComp]
  refine wpAny_comprehension_free (use := none) rfl hs K.comp.clos K.comp.kind K.comp.names (wpAny_mono (hit E s V) (fun v s₁ ⟨g₁, D⟩ => ?_) fun _ _ e => e)
  have V₁ := V.gw hc g₁
  refine Mine.comp_str hc K V₁ D (RR := fun acc C => compPost (model c.prog c.w) c.A E none (fun v s' => Gw c.Fs s s' ∧ Den c.toPW s'.heap own v (.list (((signData y).filter p).map g))) acc C) fun D C s₃ m' hC _ hn gw De => ?_
  have hCF : C ∉ c.Fs := fun m => by obtain ⟨o, e⟩ := V₁.ex C (V.fs _ m); rw [hC] at e; cases e
  refine comp_end V₁ g₁ hC hn gw De ?_ hCF
  cases e : s.heap.get? C with
  | none => rfl
  | some o => rw [g₁.gr.keep C o hCF e] at hC; cases hC
end
end Mine

/-! M14 -/
namespace Mine
section
variable {c : C} {own : List Addr} {ρ : List (Str × PyData)}

theorem CompSpec.name (hc : c.Ok) {scope : Scope} {cl : List (Str × Addr)} {ρf : List (Str × PyData)} {elt : Expr} {x : Str} {px : Pos} {ifs : List Expr} {ds : List PyData} {p : PyData → Bool} {g : PyData → PyData}
    (comp : Comp c scope cl) (sz : ds.length ≤ sizeLine) (hx : scope.names.lookup x = some .local) (hxf : ∀ q ∈ ρf, q.1 ≠ x)
    (cap : ∀ q ∈ ρf, q ∈ ρ ∧ c.env.kindOf q.1 = some .cell ∧ (c.comp scope cl 0).env.kindOf q.1 = some .cell ∧ cl.lookup q.1 = c.env.cells.lookup q.1)
    (tests : ∀ d ∈ ds, TestsAre c scope cl ifs (put ρf x d) (p d)) (elt_ : ∀ L own' d, d ∈ ds → p d = true → (c.comp scope cl L).Ev own' (put ρf x d) elt (g d)) (few : ifs.length < 2 := by decide) :
    CompSpec c scope cl ρ ρf elt (.Name x px) ifs ds (fun d => put ρf x d) p g where
  comp := comp
  sz := sz
  cap := cap
  bf := fun d _ q hq => .tail _ (List.mem_filter.mpr ⟨hq, by simpa using hxf q hq⟩)
  assign := fun L own' v d s E m _ hL hF hb hcl hm V D => wpAny_assign_Name (wpAny_mono (C.Vs.storeL (c := c.comp scope cl L) V (comp.ok hc) hL hF hb hcl hm (x := x) (d := d) (lookup_relabel_local hx) D) (fun _ s' h => ⟨h.1, h.2.1, fun b o nb e => (h.2.2.1.2 b nb).trans e, h.2.2.2⟩) fun _ _ x => x)
  go := fun I s v Q E _ q => wpAny_pure q
  few := few
  tests := tests
  elt := elt_

theorem letOwned_pure {M : Model} {A : Around} {I : Addr} {s : Shared} {target : Expr} {v : Value} {Q : Unit → Shared → Prop} {E : Value → Shared → Prop}
    (h : ∃ o, s.heap.get? I = some o ∧ (o.cls = .type "list_iterator" ∨ o.cls = .type "str_iterator" ∨ o.cls = .type "str_ascii_iterator")) (q : Q () s) : wpAny M A (letOwnedTupleGo target (.ref I) v) Q E s := by
  obtain ⟨o, e, hcl⟩ := h
  have way : ∀ {m : Obj → Sem Unit}, m o = pure () → wpAny M A (load I >>= m) Q E s := fun hm => wpAny_bind (wpAny_load e (by rw [hm]; exact wpAny_pure q))
  unfold letOwnedTupleGo
  cases target <;> cases v <;> first
    | exact wpAny_pure q
    | (refine way ?_
       rcases hcl with k | k | k <;> rw [k] <;> cases o.data <;> simp)

theorem CompSpec.pair (hc : c.Ok) {scope : Scope} {cl : List (Str × Addr)} {ρf : List (Str × PyData)} {elt : Expr} {x y : Str} {k : Nat} {px py pt : Pos} {ifs : List Expr} {ds : List (PyData × PyData)} {p : PyData → Bool} {g : PyData → PyData}
    (comp : Comp c scope cl) (sz : ds.length ≤ sizeLine) (hx : scope.names.lookup x = some .local) (hy : scope.names.lookup y = some .local) (hxf : ∀ q ∈ ρf, q.1 ≠ x) (hyf : ∀ q ∈ ρf, q.1 ≠ y)
    (cap : ∀ q ∈ ρf, q ∈ ρ ∧ c.env.kindOf q.1 = some .cell ∧ (c.comp scope cl 0).env.kindOf q.1 = some .cell ∧ cl.lookup q.1 = c.env.cells.lookup q.1)
    (tests : ∀ d ∈ ds, TestsAre c scope cl ifs (put (put ρf x d.1) y d.2) (p (.tuple [d.1, d.2]))) (elt_ : ∀ L own' d, d ∈ ds → p (.tuple [d.1, d.2]) = true → (c.comp scope cl L).Ev own' (put (put ρf x d.1) y d.2) elt (g (.tuple [d.1, d.2]))) (few : ifs.length < 2 := by decide) :
    CompSpec c scope cl ρ ρf elt (.Tuple [.Name x px, .Name y py] k pt) ifs (ds.map fun d => .tuple [d.1, d.2]) (fun d => match d with | .tuple [a, b] => put (put ρf x a) y b | _ => []) p g where
  comp := comp
  sz := by simpa using sz
  cap := cap
  bf := fun d hd q hq => by
    obtain ⟨e, he, rfl⟩ := List.mem_map.mp hd
    exact .tail _ (List.mem_filter.mpr ⟨.tail _ (List.mem_filter.mpr ⟨hq, by simpa using hxf q hq⟩), by simpa using hyf q hq⟩)
  assign := fun L own' v d s E m hd hL hF hb hcl hm V D => by
    obtain ⟨e, he, rfl⟩ := List.mem_map.mp hd
    obtain ⟨a, o, us, n, rfl, h1, h2, h3, ds'⟩ := D.inv_tuple
    obtain ⟨v1, _, rfl, D1, ds'⟩ := ds'.uncons
    obtain ⟨v2, _, rfl, D2, ds'⟩ := ds'.uncons
    rw [ds'.unnil] at h3
    have hok := comp.ok (L := L) hc
    refine assign_Tuple_tuple hc.handled ⟨o, of_hideAll _ h1, h2, n, h3⟩ rfl rfl fun h' hk => ?_
    have hk' : ∀ b o, s.heap.get? b = some o → h'.get? b = some o := fun b o e => hk b o (Nat.ne_of_lt (Heap.lt_size e)) e
    have g' : Gw c.Fs s { s with heap := h' } := ⟨h', s.toks, rfl, .of hk'⟩
    have V' := V.gw hok g'
    show wpAny _ _ (assignInOrder [PySem.assign (.Name x px) (compEnvC scope cl L c.env), PySem.assign (.Name y py) (compEnvC scope cl L c.env)] [v1, v2]) _ _ _
    refine assignInOrder_cons (wpAny_assign_Name (wpAny_mono (C.Vs.storeL (c := c.comp scope cl L) V' hok hL hF hb hcl (hm.keeps hk') (x := x) (d := e.1) (lookup_relabel_local hx) (D1.gr g'.gr V.fs)) (fun _ s₁ h => ?_) fun _ _ x => x))
    obtain ⟨V₁, ⟨m₁, hm₁⟩, hs₁, e₁⟩ := h
    refine assignInOrder_cons (wpAny_assign_Name (wpAny_mono (C.Vs.storeL (c := c.comp scope cl L) V₁ hok hL hF hb hcl hm₁ (x := y) (d := e.2) (lookup_relabel_local hy) ((D2.gr g'.gr V.fs).keeps (hide_same hL hs₁))) (fun _ s₂ h => assignInOrder_nil ?_) fun _ _ x => x))
    obtain ⟨V₂, hm₂, hs₂, e₂⟩ := h
    refine ⟨V₂, hm₂, fun b o nb e => (hs₂.2 b nb).trans ((hs₁.2 b nb).trans (hk' b o e)), ?_⟩
    rw [e₂, e₁]
  go := fun I s v Q E h q => letOwned_pure h q
  few := few
  tests := fun d hd => by
    obtain ⟨e, he, rfl⟩ := List.mem_map.mp hd
    exact tests e he
  elt := fun L own' d hd hp => by
    obtain ⟨e, he, rfl⟩ := List.mem_map.mp hd
    exact elt_ L own' e he hp
end

section
variable {c : C} {h₀ : Heap} {s₀ : Shared} {O : List Addr} {ρ : List (Str × PyData)} {ω : List (Str × Addr × OD)}

/-- an object that was made on the way becomes the call's own -/
theorem C.StO.growOwn {own : List Addr} {s s' : Shared} (S : c.StO h₀ s₀ O own ρ ω s) (hc : c.Fn) (g : Gw c.Fs s s') {C : Addr} (h0 : s.heap.get? C = none) (hex : ∃ o, s'.heap.get? C = some o) (hge : s.heap.objs.size ≤ C) : c.StO h₀ s₀ O (C :: own) ρ ω s' ∧ Apart c ω C ∧ h₀.get? C = none ∧ C ∉ O := by
  have S' := S.grow hc g
  have hCo : C ∉ own := fun m => by obtain ⟨o, e⟩ := S.vs.ex C m; rw [h0] at e; cases e
  have hfr : ∀ a ∈ C :: own, a ∈ own ∨ s.heap.objs.size ≤ a := fun a m => (List.mem_cons.mp m).elim (fun e => .inr (e ▸ hge)) .inl
  have hFC : C ∉ c.Fs := fun m => hCo (S.vs.fs _ m)
  have h00 : h₀.get? C = none := by
    cases e : h₀.get? C with
    | none => rfl
    | some o => rw [S.gr.keep C o hFC e] at h0; cases h0
  refine ⟨?_, ⟨fun e => hCo (e ▸ S.loc.1), hFC, fun p hp e => hCo (e ▸ (S.cell p hp).1), fun q hq e => hCo (e ▸ (S.owned q hq).1)⟩, h00, fun m => hCo (S.out _ m)⟩
  exact {
    vs := {
      keep := S'.vs.keep
      fs := fun a m => .tail _ (S.vs.fs a m)
      ex := fun a m => (List.mem_cons.mp m).elim (fun e => e ▸ hex) (S'.vs.ex a)
      frames := S'.vs.frames
      cells := S'.vs.cells
      cex := S'.vs.cex
      vars := fun p hp => let ⟨v, e, D⟩ := S.vs.vars p hp; ⟨v, e.gr g.gr S.vs.cells, D.gr' g.gr S.vs.fs hfr⟩ }
    gr := S'.gr
    bot := S.bot
    eqs := S'.eqs
    out := fun a m => .tail _ (S.out a m)
    fresh := fun a m => (List.mem_cons.mp m).elim (fun e => .inr (e ▸ h00)) (S.fresh a)
    loc := ⟨.tail _ S.loc.1, S'.loc.2⟩
    cell := fun p hp => let ⟨a, b⟩ := S'.cell p hp; ⟨.tail _ a, b⟩
    owned := fun q hq => by
      obtain ⟨a1, a2, a3, a4, a5, a6⟩ := S.owned q hq
      refine ⟨.tail _ a1, a2, a3, a4, a5.gr g.gr S.vs.cells, ?_⟩
      cases hd : q.2.2 with
      | list ds => rw [hd] at a6; obtain ⟨vs, n, e, D⟩ := a6; exact ⟨vs, n, g.gr.keep _ _ a4 e, D.gr' g.gr S.vs.fs hfr⟩
      | dict es => rw [hd] at a6; exact a6.gr g.gr S.vs.fs a4
    apart := S.apart }

/-- y = [.. for ..], the names of the comprehension let go behind the store -/
theorem Tr.assign_comp (hc : c.Fn) {scope : Scope} {cl : List (Str × Addr)} {elt target iter : Expr} {ifs : List Expr} {y : Str} {py pos spos : Pos} {ds : List PyData} {ρf : List (Str × PyData)} {bind : PyData → List (Str × PyData)} {p : PyData → Bool} {g : PyData → PyData}
    (hit : ∀ own, c.Ev own ρ iter (.list ds)) (K : CompSpec c scope cl ρ ρf elt target ifs ds bind p g) (hy : c.env.kindOf y = some .local) (hω : ∀ q ∈ ω, q.1 ≠ y)
    (hsw : swapsWith (.ListComp elt [⟨target, iter, ifs, 0⟩] scope pos) (some (.Name y py)) spos.line c.env = pure true) (hs : ∀ x, foldedSetIterable iter c.env x = pure x := by intro _; rfl) :
    c.Tr (c.St h₀ s₀ O ρ ω) (.Assign [.Name y py] (.ListComp elt [⟨target, iter, ifs, 0⟩] scope pos) spos) (Next (c.St h₀ s₀ O (put ρ y (.list ((ds.filter p).map g))) ω)) := fun E s ⟨own, S⟩ => by
  rw [exec_Assign_Name_used _ _ _ _ hsw]
  refine wpAny_bind (wpAny_standAt (wpAny_bind ?_))
  show wpAny _ c.A (do let _ ← comprehension (.ListComp elt [⟨target, iter, ifs, 0⟩] scope pos) scope c.env _ (PySem.newList []) false (eval iter c.env) (some (PySem.assign (.Name y py) c.env))) _ _ s
  refine wpAny_bind (wpAny_mono (wpAny_comprehension_free (use := some (PySem.assign (.Name y py) c.env)) (Q := fun _ s' => c.St h₀ s₀ O (put ρ y (.list ((ds.filter p).map g))) ω s') rfl hs K.comp.clos K.comp.kind K.comp.names
    (wpAny_mono (hit own E s S.vs) (fun v s₁ ⟨g₁, D⟩ => ?_) fun _ _ e => e)) (fun _ s' hq => wpAny_pure (wpAny_pure ⟨rfl, hq⟩)) fun _ _ e => e)
  have S₁ := S.grow hc g₁
  refine Mine.comp_list hc.ok K S₁.vs D (RR := fun acc C => compPost (model c.prog c.w) c.A E (some (PySem.assign (.Name y py) c.env)) (fun _ s' => c.St h₀ s₀ O (put ρ y (.list ((ds.filter p).map g))) ω s') acc C) fun D C s₃ m' hC hge hn gw De => ?_
  obtain ⟨S₃, aC, h0C, hCO⟩ := S₁.growOwn hc gw hC (let ⟨o, _, _, e, _⟩ := hn; ⟨o, e⟩) hge
  show wpAny _ c.A (PySem.assign (.Name y py) c.env (.ref D)) _ _ _
  refine wpAny_assign_Name (wpAny_mono (S₃.store' hc (.inl hy) De hω) (fun _ s₄ ⟨S₄, a, ha, hk, hs⟩ => ?_) fun _ _ e => e)
  have hCa : C ≠ a := fun q => by
    rcases hk with e | ⟨v, o, e1, e2⟩
    · exact aC.loc (q.trans e)
    · obtain ⟨o', es, ep, f1, f2, _⟩ := hn
      rw [← q, f1] at e1; cases e1; rw [f2] at e2; cases e2
  refine ⟨m', hn.sameBut hs hCa, fun h' hs' => ⟨_, S₄.poke hc aC h0C (.head _) (h' := h') (tk := s₄.toks) (fun b o nb e => (hs'.2 b nb).trans e) (.inr ⟨rfl, hCO⟩)⟩⟩
end
end Mine

/-! Top0159 -/
section
set_option maxRecDepth 100000
set_option maxHeartbeats 8000000
namespace Mine
open_top hd for PySem.Challenge.rw_mq0159_01
end Mine
end

/-! F1 -/
namespace Mine

/-- the law's world -/
structure Base (pw : PW) (base : Heap) (mg : Str → Option Value) : Prop where
  X : (hd.heap_39 pw.w.params).In base
  g : base.Ns mainGlobals mg
theorem Base.mg {pw : PW} {base : Heap} {mg : Str → Option Value} (B : Base pw base mg) {n : Str} {v : Value} (e : nsIn (hd.heap_39 pw.w.params) mainGlobals n = some (some v)) : mg n = some v := mg_of B.X B.g e
theorem Base.mg_none {pw : PW} {base : Heap} {mg : Str → Option Value} (B : Base pw base mg) {n : Str} (e : nsIn (hd.heap_39 pw.w.params) mainGlobals n = some none) : mg n = none := mg_none_of B.X B.g e

theorem kO {c : C} {e : Env} (h : c.env = e) {x : Str} {k : NameKind} (hk : e.kindOf x = some k) : c.env.kindOf x = some k := by rw [h]; exact hk
theorem ne0 {x : Str} : ∀ q ∈ ([] : List (Str × Addr × OD)), q.1 ≠ x := nofun
theorem ne1 {x y : Str} {a : Addr} {d : OD} (h : y ≠ x) : ∀ q ∈ [(y, a, d)], q.1 ≠ x := fun q hq => by rw [List.mem_singleton.mp hq]; exact h
theorem ne2 {x y z : Str} {a b : Addr} {d e : OD} (h : y ≠ x) (h' : z ≠ x) : ∀ q ∈ [(y, a, d), (z, b, e)], q.1 ≠ x := fun q hq => by
  rcases List.mem_cons.mp hq with rfl | hq
  · exact h
  · rw [List.mem_singleton.mp hq]; exact h'
theorem in0 {ρ : List (Str × PyData)} : ∀ p ∈ ([] : List (Str × PyData)), p ∈ ρ := nofun
theorem inC {ρ l : List (Str × PyData)} {x : Str} {d : PyData} (h : ρ.lookup x = some d) (r : ∀ p ∈ l, p ∈ ρ) : ∀ p ∈ (x, d) :: l, p ∈ ρ := fun p hp => (List.mem_cons.mp hp).elim (fun e => e ▸ mem_of_lookup h) (r p)

theorem Ts.is {c : C} {own : List Addr} {ρ : List (Str × PyData)} {e : Expr} {b b' : Bool} (h : c.Ts own ρ e b) (q : b = b') : c.Ts own ρ e b' := q ▸ h

structure HS where
  res : List Str
  part : Str
  esc : Bool
  quo : Bool
def hstep (st : HS) (cur : Str) : HS :=
  if st.esc then { st with part := st.part ++ cur, esc := false }
  else if st.quo then
    if cur == Str.ofString "\\" then { st with esc := true }
    else if cur == Str.ofString "\"" then { st with quo := false, part := st.part ++ cur }
    else { st with part := st.part ++ cur }
  else if cur == Str.ofString "," then { st with res := st.res ++ [st.part], part := Str.ofString "" }
  else if cur == Str.ofString "\"" then { st with quo := true, part := st.part ++ cur }
  else { st with part := st.part ++ cur }
def hstepD (st : HS) (d : PyData) : HS := match d with | .str x => hstep st x | _ => st
def hrun (ds : List PyData) : HS := ds.foldl hstepD ⟨[], Str.ofString "", false, false⟩
theorem hrun_snoc (pre : List PyData) (x : Str) : hrun (pre ++ [.str x]) = hstep (hrun pre) x := by simp [hrun, hstepD]
theorem hstep_len (st : HS) (x : Str) (hx : x.length = 1) : (hstep st x).part.length ≤ st.part.length + 1 ∧ (hstep st x).res.length ≤ st.res.length + 1 := by
  have e : ∀ a : Str, (a ++ x).length = a.length + 1 := fun a => by rw [Str.length_append, hx]
  unfold hstep
  repeat' split
  all_goals (simp only [e, List.length_append, List.length_cons, List.length_nil]; constructor <;> first | omega | (show (Str.ofString "").length ≤ _; exact Nat.zero_le _))
theorem hrun_len (ns : List Nat) : (hrun (ns.map fun n => .str ⟨#[n]⟩)).part.length ≤ ns.length ∧ (hrun (ns.map fun n => .str ⟨#[n]⟩)).res.length ≤ ns.length := by
  suffices h : ∀ (ns : List Nat) (st : HS), ((ns.map fun n => PyData.str ⟨#[n]⟩).foldl hstepD st).part.length ≤ st.part.length + ns.length ∧ ((ns.map fun n => PyData.str ⟨#[n]⟩).foldl hstepD st).res.length ≤ st.res.length + ns.length by
    have := h ns ⟨[], Str.ofString "", false, false⟩
    have e : (Str.ofString "").length = 0 := rfl
    simpa [hrun, e] using this
  intro ns
  induction ns with
  | nil => intro st; simp
  | cons n ns ih =>
    intro st
    have h1 := ih (hstep st ⟨#[n]⟩)
    have h2 := hstep_len st ⟨#[n]⟩ rfl
    simp only [List.map_cons, List.foldl_cons, List.length_cons]
    have e : hstepD st (.str ⟨#[n]⟩) = hstep st ⟨#[n]⟩ := rfl
    rw [e]
    omega

theorem hrun_parts (ns : List Nat) : ∀ x ∈ (hrun (ns.map fun n => .str ⟨#[n]⟩)).res, x.length ≤ ns.length := by
  suffices h : ∀ (ns : List Nat) (st : HS) (k : Nat), st.part.length ≤ k → (∀ x ∈ st.res, x.length ≤ k) → ∀ x ∈ ((ns.map fun n => PyData.str ⟨#[n]⟩).foldl hstepD st).res, x.length ≤ k + ns.length by
    have := h ns ⟨[], Str.ofString "", false, false⟩ 0 (Nat.le_refl _) nofun
    simpa [hrun] using this
  intro ns
  induction ns with
  | nil => intro st k _ h2; simpa using h2
  | cons n ns ih =>
    intro st k h1 h2
    have e : hstepD st (.str ⟨#[n]⟩) = hstep st ⟨#[n]⟩ := rfl
    have hl := hstep_len st ⟨#[n]⟩ rfl
    have := ih (hstep st ⟨#[n]⟩) (k + 1) (by omega) (fun x hx => ?_)
    · simp only [List.map_cons, List.foldl_cons, List.length_cons, e]
      intro x hx
      have := this x hx
      omega
    · have : x ∈ st.res ∨ x = st.part := by
        unfold hstep at hx
        repeat' split at hx
        all_goals first | exact .inl hx | (rcases List.mem_append.mp hx with h | h <;> first | exact .inl h | exact .inr (List.mem_singleton.mp h))
      rcases this with h | rfl
      · have := h2 x h; omega
      · omega

def hEnd (y : Str) : List Str :=
  let st := hrun (signData y)
  (if (st.part.length : Int) != 0 then st.res ++ [st.part] else st.res).map Txt.strip

abbrev jHttp (y : Str) (ds : List PyData) : List (Str × PyData) :=
  [(Str.ofString "s", .str y), (Str.ofString "part", .str (hrun ds).part), (Str.ofString "escape", .bool (hrun ds).esc), (Str.ofString "quote", .bool (hrun ds).quo)]

set_option maxRecDepth 100000 in
theorem http_ok {pw : PW} {base : Heap} {mg : Str → Option Value} (B : Base pw base mg) (y : Str) (hy : y.length ≤ 10000) : FnOK pw base mg 1 33 [.str y] (.list ((hEnd y).map .str)) := by
  refine FnOK.mk (xs := [Str.ofString "s"]) (B.X 33 _ rfl) rfl (codeRec_of B.X (by kernel_rfl)) ⟨rfl, rfl, rfl, by decide, by decide, by decide, by decide, by decide⟩ (fun vs hvs => ?_) rfl ?_
  · obtain ⟨v, rfl⟩ : ∃ v, vs = [v] := by
      cases vs with
      | nil => cases hvs
      | cons v vs => cases vs with
        | nil => exact ⟨v, rfl⟩
        | cons => cases hvs
    rfl
  · intro c L hpw hb hmg hc hn henv h₀ s₀ O
    have hsl : sizeLine = 16777216 := rfl
    refine Trs.cons (Tr.newList hc (.inl (kO henv rfl)) ne0) (Trs.ex fun a => Trs.and fun haO => ?_)
    refine Trs.cons (Tr.assign hc (fun own => Ev.str) (.inl (kO henv rfl)) (ne1 (by decide)) rfl) ?_
    refine Trs.cons (Tr.assign2 hc (fun own => Ev.bool) (.inl (kO henv rfl)) (.inl (kO henv rfl)) (ne1 (by decide)) (ne1 (by decide)) (fun h own v D h' own' => by rw [D.inv_bool]; exact .bool _)) ?_
    refine Trs.cons (Tr.imp (Tr.for_str hc (y := y) (jHttp y) (fun ds => [(Str.ofString "res", a, .list ((hrun ds).res.map .str))]) (fun l => rfl) (fun own => Ev.name hc.ok rfl) (.inl (kO henv rfl)) (fun l => ne1 (by decide)) ?_) fun s S => S.sub ?_) ?_
    · intro h₀ s₀ O pre d post hds
      obtain ⟨n, rfl, hpre⟩ : ∃ n, d = .str ⟨#[n]⟩ ∧ ∃ ms : List Nat, pre = ms.map (fun n => .str ⟨#[n]⟩) ∧ ms.length < y.length := by
        unfold signData at hds
        obtain ⟨a, b, e1, rfl, e2⟩ := List.map_eq_append_iff.mp hds
        obtain ⟨n, b', rfl, rfl, rfl⟩ := List.map_eq_cons_iff.mp e2
        refine ⟨n, rfl, a, rfl, ?_⟩
        have := congrArg List.length e1
        simp at this
        show a.length < y.cps.size
        omega
      obtain ⟨ms, rfl, hms⟩ := hpre
      have hl := hrun_len ms
      simp only [hrun_snoc, jHttp]
      generalize hrun (ms.map fun n => .str ⟨#[n]⟩) = st at hl ⊢
      obtain ⟨res, part, esc, quo⟩ := st
      generalize hcur : (⟨#[n]⟩ : Str) = cur
      have hcl : cur.length = 1 := by rw [← hcur]; rfl
      have hsz : part.length + cur.length ≤ sizeLine := by simp only at hl; omega
      have aug : ∀ (ρ : List (Str × PyData)), ρ.lookup (Str.ofString "part") = some (.str part) → ρ.lookup (Str.ofString "cur") = some (.str cur) → ∀ (p pc pos : Pos),
          c.Tr (c.St h₀ s₀ O ρ [(Str.ofString "res", a, .list (res.map .str))]) (.AugAssign (.Name (Str.ofString "part") p) .Add (.Name (Str.ofString "cur") pc) pos)
            (Next (c.St h₀ s₀ O (put ρ (Str.ofString "part") (.str (part ++ cur))) [(Str.ofString "res", a, .list (res.map .str))])) := fun ρ h1 h2 p pc pos =>
        Tr.aug_str hc h1 (fun own => Ev.name hc.ok h2) (.inl (kO henv rfl)) (ne1 (by decide)) hsz
      cases esc with
      | true =>
        have e : hstep ⟨res, part, true, quo⟩ cur = ⟨res, part ++ cur, false, quo⟩ := rfl
        rw [e]
        refine Trs.leave (R := fun _ => False) (Tr.ite hc (fun own => Ts.name_bool hc.ok rfl) (fun _ => ?_) nofun) fun E s h => h.elim
        refine Trs.cons (aug _ rfl rfl _ _ _) (Trs.cons (Tr.assign hc (fun own => Ev.bool) (.inl (kO henv rfl)) (ne1 (by decide)) rfl) (Trs.last ?_))
        exact Tr.cont' fun s S => ⟨.inr rfl, S.sub (inC rfl (inC rfl (inC rfl (inC rfl in0))))⟩
      | false =>
        refine Trs.leave (Tr.ite (Q := fun f s => match f with | .next => c.St h₀ s₀ O (put [(Str.ofString "s", .str y), (Str.ofString "part", .str part), (Str.ofString "escape", .bool false), (Str.ofString "quote", .bool quo)] (Str.ofString "cur") (.str cur)) [(Str.ofString "res", a, .list (res.map .str))] s | f => _) hc (fun own => Ts.name_bool hc.ok rfl) nofun (fun _ => Trs.nil fun s S => S)) ?_
        cases quo with
        | true =>
          refine Trs.leave (R := fun _ => False) (Tr.ite hc (fun own => Ts.name_bool hc.ok rfl) (fun _ => ?_) nofun) fun E s h => h.elim
          cases h1 : cur == Str.ofString "\\" with
          | true =>
            have e : hstep ⟨res, part, false, true⟩ cur = ⟨res, part, true, true⟩ := by simp [hstep, h1]
            rw [e]
            refine Trs.leave (R := fun _ => False) (Tr.ite hc (fun own => Ts.is (Ts.cmp hc.ok (Ev.name hc.ok rfl) Ev.str CmpIs.eq_str) h1) (fun _ => ?_) nofun) fun E s h => h.elim
            refine Trs.cons (Tr.assign hc (fun own => Ev.bool) (.inl (kO henv rfl)) (ne1 (by decide)) rfl) (Trs.last ?_)
            exact Tr.cont' fun s S => ⟨.inr rfl, S.sub (inC rfl (inC rfl (inC rfl (inC rfl in0))))⟩
          | false =>
            cases h2 : cur == Str.ofString "\"" with
            | true =>
              have e : hstep ⟨res, part, false, true⟩ cur = ⟨res, part ++ cur, false, false⟩ := by simp [hstep, h1, h2]
              rw [e]
              refine Trs.cons (Tr.ite hc (fun own => Ts.is (Ts.cmp hc.ok (Ev.name hc.ok rfl) Ev.str CmpIs.eq_str) h1) nofun (fun _ => Trs.last (Tr.ite hc (fun own => Ts.is (Ts.cmp hc.ok (Ev.name hc.ok rfl) Ev.str CmpIs.eq_str) h2)
                (fun _ => Trs.last (Tr.assign hc (fun own => Ev.bool) (.inl (kO henv rfl)) (ne1 (by decide)) rfl)) nofun))) ?_
              refine Trs.cons (aug _ rfl rfl _ _ _) (Trs.last ?_)
              exact Tr.cont' fun s S => ⟨.inr rfl, S.sub (inC rfl (inC rfl (inC rfl (inC rfl in0))))⟩
            | false =>
              have e : hstep ⟨res, part, false, true⟩ cur = ⟨res, part ++ cur, false, true⟩ := by simp [hstep, h1, h2]
              rw [e]
              refine Trs.cons (Tr.ite hc (fun own => Ts.is (Ts.cmp hc.ok (Ev.name hc.ok rfl) Ev.str CmpIs.eq_str) h1) nofun (fun _ => Trs.last (Tr.ite hc (fun own => Ts.is (Ts.cmp hc.ok (Ev.name hc.ok rfl) Ev.str CmpIs.eq_str) h2)
                nofun (fun _ => Trs.nil fun s S => ⟨rfl, S⟩)))) ?_
              refine Trs.cons (aug _ rfl rfl _ _ _) (Trs.last ?_)
              exact Tr.cont' fun s S => ⟨.inr rfl, S.sub (inC rfl (inC rfl (inC rfl (inC rfl in0))))⟩
        | false =>
          refine Trs.cons (Tr.ite hc (fun own => Ts.name_bool hc.ok rfl) nofun (fun _ => Trs.nil fun s S => ⟨rfl, S⟩)) ?_
          cases h1 : cur == Str.ofString "," with
          | true =>
            have e : hstep ⟨res, part, false, false⟩ cur = ⟨res ++ [part], Str.ofString "", false, false⟩ := by simp [hstep, h1]
            rw [e]
            refine Trs.leave (R := fun _ => False) (Tr.ite hc (fun own => Ts.is (Ts.cmp hc.ok (Ev.name hc.ok rfl) Ev.str CmpIs.eq_str) h1) (fun _ => ?_) nofun) fun E s h => h.elim
            refine Trs.cons (Tr.append hc (pre := []) (post := []) (fun own => Ev.name hc.ok rfl) (by simp only at hl; simp; omega) rfl rfl (by rw [henv]; rfl)) ?_
            refine Trs.cons (Tr.assign hc (fun own => Ev.str) (.inl (kO henv rfl)) (ne1 (by decide)) rfl) (Trs.last ?_)
            refine Tr.cont' fun s S => ⟨.inr rfl, ?_⟩
            have S' := S.sub (ρ' := [(Str.ofString "s", .str y), (Str.ofString "part", .str (Str.ofString "")), (Str.ofString "escape", .bool false), (Str.ofString "quote", .bool false)]) (inC rfl (inC rfl (inC rfl (inC rfl in0))))
            simpa using S'
          | false =>
            refine Trs.cons (Tr.ite hc (fun own => Ts.is (Ts.cmp hc.ok (Ev.name hc.ok rfl) Ev.str CmpIs.eq_str) h1) nofun (fun _ => Trs.nil fun s S => ⟨rfl, S⟩)) ?_
            cases h2 : cur == Str.ofString "\"" with
            | true =>
              have e : hstep ⟨res, part, false, false⟩ cur = ⟨res, part ++ cur, false, true⟩ := by simp [hstep, h1, h2]
              rw [e]
              refine Trs.cons (Tr.ite hc (fun own => Ts.is (Ts.cmp hc.ok (Ev.name hc.ok rfl) Ev.str CmpIs.eq_str) h2) (fun _ => Trs.last (Tr.assign hc (fun own => Ev.bool) (.inl (kO henv rfl)) (ne1 (by decide)) rfl)) nofun) ?_
              exact Trs.last (Tr.imp_to (aug _ rfl rfl _ _ _) fun f s ⟨hf, S⟩ => ⟨.inl hf, S.sub (inC rfl (inC rfl (inC rfl (inC rfl in0))))⟩)
            | false =>
              have e : hstep ⟨res, part, false, false⟩ cur = ⟨res, part ++ cur, false, false⟩ := by simp [hstep, h1, h2]
              rw [e]
              refine Trs.cons (Tr.ite hc (fun own => Ts.is (Ts.cmp hc.ok (Ev.name hc.ok rfl) Ev.str CmpIs.eq_str) h2) nofun (fun _ => Trs.nil fun s S => ⟨rfl, S⟩)) ?_
              exact Trs.last (Tr.imp_to (aug _ rfl rfl _ _ _) fun f s ⟨hf, S⟩ => ⟨.inl hf, S.sub (inC rfl (inC rfl (inC rfl (inC rfl in0))))⟩)
    · exact inC rfl (inC rfl (inC rfl (inC rfl in0)))
    · have hst : ∃ ms : List Nat, signData y = ms.map (fun n => .str ⟨#[n]⟩) ∧ ms.length = y.length := ⟨y.cps.toList, rfl, by simp [Str.length]⟩
      obtain ⟨ms, hms, hml⟩ := hst
      have hl := hrun_len ms
      have hp := hrun_parts ms
      unfold hEnd
      rw [hms]
      simp only [jHttp]
      generalize hrun (ms.map fun n => .str ⟨#[n]⟩) = st at hl hp ⊢
      obtain ⟨res, part, esc, quo⟩ := st
      simp only at hl hp ⊢
      have fin : ∀ l : List Str, (∀ x ∈ l, x.length ≤ y.length) → l.length ≤ y.length + 1 → ∀ (ρ : List (Str × PyData)) (tp tp2 ip ap cp sp rp : Pos), (ap.endLine == cp.line) = true →
          c.Trs (c.St h₀ s₀ O ρ [(Str.ofString "res", a, .list (l.map .str))])
            [.Return (some (.ListComp (.Call (.Attribute (.Name (Str.ofString "part") tp) (Str.ofString "strip") ap) [] [] cp) [⟨.Name (Str.ofString "part") tp2, .Name (Str.ofString "res") ip, [], 0⟩]
              { kind := .function, names := [(Str.ofString ".0", .local), (Str.ofString "part", .local)], isGenerator := false, isCoroutine := false, more := [] } sp)) rp]
            (fun fl s => ∃ v, fl = .ret v ∧ Den pw s.heap O v (.list ((l.map Txt.strip).map .str)) ∧ ∃ ρ' ω', c.St h₀ s₀ O ρ' ω' s) := by
        intro l h1 h2 ρ tp tp2 ip ap cp sp rp hline
        have cmp : Comp c { kind := .function, names := [(Str.ofString ".0", .local), (Str.ofString "part", .local)], isGenerator := false, isCoroutine := false, more := [] } [] := ⟨rfl, by decide, by decide, by rw [henv]; rfl, nofun⟩
        refine Trs.imp (Trs.last (Tr.imp_to (Tr.ret hc (d := .list ((l.map Txt.strip).map .str)) fun own => ?_) fun f s ⟨v, e, D, S⟩ => ⟨v, e, hpw ▸ D, _, _, S⟩)) fun s S => S.freeze (pre := []) (post := []) hc haO
        have e : ((l.map PyData.str).filter (fun _ => true)).map (fun d => match d with | .str x => PyData.str (Txt.strip x) | d => d) = (l.map Txt.strip).map .str := by
          rw [List.filter_eq_self.mpr (by simp)]; simp
        rw [← e]
        refine Ev.comp_list hc.ok (Ev.name hc.ok rfl) (CompSpec.name hc.ok (cl := []) (ρf := []) cmp (by simp; omega) rfl nofun nofun (fun d _ => TestsAre.nil) fun L own' d hd _ => ?_)
        obtain ⟨x, hx, rfl⟩ := List.mem_map.mp hd
        exact Ev.strip (cmp.ok hc.ok) (Ev.name (cmp.ok hc.ok) rfl) (by have := h1 x hx; omega) (by with_unfolding_all rfl) hline
      by_cases hp0 : (part.length : Int) != 0
      · rw [if_pos hp0]
        refine Trs.cons (Tr.ite hc (fun own => Ts.is (Ts.name_str hc.ok rfl (by omega)) hp0) (fun _ => Trs.last (Tr.append hc (pre := []) (post := []) (fun own => Ev.name hc.ok rfl) (by simp; omega) rfl rfl (by rw [henv]; rfl))) nofun) ?_
        have := fin (res ++ [part])
        simp only [List.map_append] at this ⊢
        exact this (by intro x hx; rcases List.mem_append.mp hx with h | h; (have := hp x h; omega); (rw [List.mem_singleton.mp h]; omega)) (by simp; omega) _ _ _ _ _ _ _ _ rfl
      · rw [if_neg hp0]
        refine Trs.cons (Tr.ite hc (fun own => Ts.is (b' := false) (Ts.name_str hc.ok rfl (by omega)) (by simpa using hp0)) nofun (fun _ => Trs.nil fun s S => ⟨rfl, S⟩)) ?_
        exact fin res (by intro x hx; have := hp x hx; omega) (by omega) _ _ _ _ _ _ _ _ rfl
end Mine

/-! M15 -/
namespace Mine
section
variable {c : C} {own : List Addr} {ρ : List (Str × PyData)}

theorem Ev.item_str (hc : c.Ok) {l i : Expr} {pos : Pos} {x : Str} {k : Int} (hl : c.Ev own ρ l (.str x)) (hi : c.Ev own ρ i (.int k)) (hr : fitsSsize k = true) (hin : (Txt.charAt x k).isSome = true)
    (hn : ∀ a b p, i ≠ .Slice a b none p := by intro _ _ _ h; cases h) : c.Ev own ρ (.Subscript l i pos) (.str (Txt.item x k)) :=
  Ev.sub hc hl hi fun E s v₁ v₂ V D₁ D₂ => by
    obtain ⟨t, rfl⟩ := D₁.inv_str
    obtain ⟨u, rfl⟩ := D₂.inv_int
    exact tail_any (typeIs_str s x t) PySem.F.slot_str_getitem.lookup (SB.getItem hr hin ⟨.toks, .str ..⟩) (subscripted_plain hn)

/-- a bound of a slice -/
def C.Part (c : C) (own : List Addr) (ρ : List (Str × PyData)) (e : Option Expr) (k : Option Int) : Prop :=
  ∀ E s, c.Vs own ρ s.heap → wpAny (model c.prog c.w) c.A (evalPart e c.env) (fun v s' => Gw c.Fs s s' ∧ IsPart v k) E s
theorem Part.none : c.Part own ρ none none := fun E s V => wpAny_pure ⟨.refl .., .none⟩
theorem Part.some {e : Expr} {k : Int} (h : c.Ev own ρ e (.int k)) : c.Part own ρ (some e) (some k) := fun E s V => by
  show wpAny _ _ (eval e c.env) _ _ _
  exact wpAny_mono (h E s V) (fun v s' ⟨g, D⟩ => ⟨g, by obtain ⟨t, rfl⟩ := D.inv_int; exact .int ..⟩) fun _ _ x => x

theorem Ev.slice (hc : c.Ok) {l : Expr} {lo hi : Option Expr} {p pos : Pos} {d₁ d : PyData} {a b : Option Int} (hl : c.Ev own ρ l d₁) (ha : c.Part own ρ lo a) (hb : c.Part own ρ hi b)
    (h : ∀ E s v va vb, c.Vs own ρ s.heap → Den c.toPW s.heap own v d₁ → IsPart va a → IsPart vb b →
      wpAny (model c.prog c.w) c.A (subscriptTail l (.Slice lo hi none p) v (.ref s.heap.objs.size)) (fun v s' => Gw c.Fs s s' ∧ Den c.toPW s'.heap own v d) E { s with heap := s.heap.push { cls := .type "slice", data := .fields #[va, vb, .none] } }) :
    c.Ev own ρ (.Subscript l (.Slice lo hi none p) pos) d := fun E s V => by
  refine Subscript_ (wpAny_mono (hl E s V) (fun v s₁ ⟨g₁, D⟩ => ?_) fun _ _ x => x)
  refine wpAny_Slice (wpAny_mono (ha E s₁ (V.gw hc g₁)) (fun va s₂ ⟨g₂, pa⟩ => wpAny_mono (hb E s₂ ((V.gw hc g₁).gw hc g₂)) (fun vb s₃ ⟨g₃, pb⟩ => wpAny_pure ?_) fun _ _ x => x) fun _ _ x => x)
  have V₃ := ((V.gw hc g₁).gw hc g₂).gw hc g₃
  exact wpAny_mono (h E s₃ v va vb V₃ ((D.gr g₂.gr (V.gw hc g₁).fs).gr g₃.gr (V.gw hc g₁).fs) pa pb) (fun _ _ ⟨g', D'⟩ => ⟨((g₁.trans g₂).trans g₃).trans g', D'⟩) fun _ _ x => x

theorem Ev.slice_str (hc : c.Ok) {l e f : Expr} {p pos : Pos} {x : Str} {a b : Int} (hl : c.Ev own ρ l (.str x)) (ha : c.Ev own ρ e (.int a)) (hb : c.Ev own ρ f (.int b)) (hx : x.length ≤ sizeLine) :
    c.Ev own ρ (.Subscript l (.Slice (some e) (some f) none p) pos) (.str (Txt.slice x (some a) (some b))) :=
  Ev.slice hc hl (Part.some ha) (Part.some hb) fun E s v va vb V D pa pb => by
    obtain ⟨t, rfl⟩ := D.inv_str
    cases pa with
    | int _ ta =>
    cases pb with
    | int _ tb =>
    obtain ⟨T, id, h1, h2, h3⟩ := SBH.sliceItem_ss (prog := c.prog) (w := c.w) (A := c.A) (E := E) (s := s) (x := x) (t := t) (i := a) (j := b) (ui := ta) (uj := tb) (P := fun h' => Gr c.Fs s.heap h') (Q := fun v s' => Gw c.Fs s s' ∧ Den c.toPW s'.heap own v (.str (Txt.slice x (some a) (some b)))) (fun _ _ g => g.trans .push) (Gr.refl ..) (fun h' t' k g => ⟨.mk g, .str ..⟩) hx
    exact tail_any h2 h1 h3 rfl

theorem RdAll.pick {pw : PW} {h : Heap} {vs : List Value} {ds : List PyData} (r : RdAll pw h vs ds) (lo hi : Option Int) : RdAll pw h (kms_pick vs lo hi) ((ds.drop (kms_lo lo ds.length)).take (kms_hi hi ds.length - kms_lo lo ds.length)) := by
  unfold kms_pick
  rw [r.length]
  exact (r.drop _).take _

theorem Ev.slice_list (hc : c.Ok) {l : Expr} {lo hi : Option Expr} {p pos : Pos} {xs : List PyData} {a b : Option Int} (hl : c.Ev own ρ l (.list xs)) (ha : c.Part own ρ lo a) (hb : c.Part own ρ hi b) (hx : xs.length ≤ sizeLine) :
    c.Ev own ρ (.Subscript l (.Slice lo hi none p) pos) (.list ((xs.drop (kms_lo a xs.length)).take (kms_hi b xs.length - kms_lo a xs.length))) :=
  Ev.slice hc hl ha hb fun E s v va vb V D pa pb => by
    obtain ⟨l, vs, rfl, i₁, ds⟩ := D.inv_list
    have il := isList_of_hid i₁
    have g : Gr c.Fs s.heap (s.heap.push { cls := .type "slice", data := .fields #[va, vb, .none] }) := .push
    have il' : (s.heap.push { cls := .type "slice", data := .fields #[va, vb, .none] }).IsList l vs.toArray := by
      obtain ⟨o, ho, r⟩ := il
      exact ⟨o, Heap.get?_push_of_some _ ho, r⟩
    refine tail_any il'.typeIs slot_list_getitem.lookup (wpAny_getItem_list_slice il' ⟨_, Heap.get?_push_size _ rfl, rfl, rfl⟩ pa pb .none nofun ?_ (by simp [ds.length]; exact hx)) rfl
    rw [kms_pick_eq]
    have V' := V.gr hc g
    exact ⟨.mk (g.trans .push), Rd.newList (RdAll.pick (RdAll.gr ds g V.fs) a b) V'.lt⟩
end
end Mine

/-! P0 -/
namespace Mine

abbrev Pr := Fin 4 × Fin 7
def keyS : Fin 4 → Str
  | 0 => Str.ofString "a" | 1 => Str.ofString "b" | 2 => Str.ofString "" | 3 => Str.ofString "c d"
def valS : Fin 7 → Str
  | 0 => Str.ofString "" | 1 => Str.ofString "a" | 2 => Str.ofString "\"" | 3 => Str.ofString "," | 4 => Str.ofString "\\\"" | 5 => Str.ofString " =" | 6 => Str.ofString "b,\"\\"
theorem keyS_inj : ∀ a b : Fin 4, keyS a = keyS b → a = b := by decide
theorem valS_inj : ∀ a b : Fin 7, valS a = valS b → a = b := by decide
def quoS (v : Fin 7) : Str := Str.ofString "\"" ++ valS v ++ Str.ofString "\""
def itemS (p : Pr) : Str := keyS p.1 ++ Str.ofString "=" ++ quoS p.2
def sP (p : Pr) : Str × Str := (keyS p.1, valS p.2)
def setP (l : List Pr) (p : Pr) : List Pr :=
  if l.any (fun q => q.1 = p.1) then l.map (fun q => if q.1 = p.1 then (q.1, p.2) else q) else l ++ [p]
def readP (l : List Pr) : List Pr := l.foldl setP []

theorem setD_sP (l : List Pr) (p : Pr) : setD (l.map sP) (keyS p.1) (valS p.2) = (setP l p).map sP := by
  have e1 : ∀ q : Pr, ((sP q).1 = keyS p.1) = (q.1 = p.1) := fun q => propext ⟨fun h => keyS_inj _ _ h, fun h => by rw [← h]; rfl⟩
  have e2 : (l.map sP).any (fun q => q.1 = keyS p.1) = l.any (fun q => q.1 = p.1) := by
    rw [List.any_map]; congr 1; funext q; simp only [Function.comp, e1 q]
  unfold setD setP
  rw [e2]
  split
  · rw [List.map_map, List.map_map]
    apply List.map_congr_left
    intro q _
    simp only [Function.comp]
    by_cases h : q.1 = p.1
    · rw [if_pos (by rw [e1]; exact h), if_pos h]; rfl
    · rw [if_neg (by rw [e1]; exact h), if_neg h]
  · rw [List.map_append]; rfl

theorem setP_len (l : List Pr) (p : Pr) : (setP l p).length ≤ l.length + 1 := by
  unfold setP; split <;> simp
theorem foldP_len (l : List Pr) : ∀ a : List Pr, (l.foldl setP a).length ≤ a.length + l.length := by
  induction l with
  | nil => intro a; simp
  | cons p l ih => intro a; have := ih (setP a p); have := setP_len a p; simp only [List.foldl_cons, List.length_cons]; omega
theorem readP_len (l : List Pr) : (readP l).length ≤ l.length := by simpa [readP] using foldP_len l []
theorem readP_snoc (l : List Pr) (p : Pr) : readP (l ++ [p]) = setP (readP l) p := by simp [readP]

theorem split_item' : ∀ (k : Fin 4) (v : Fin 7), Txt.splitMax (itemS (k, v)) (Str.ofString "=") 1 = [keyS k, quoS v] := by decide +kernel
theorem split_item (p : Pr) : Txt.splitMax (itemS p) (Str.ofString "=") 1 = [keyS p.1, quoS p.2] := split_item' p.1 p.2
theorem quo_first : ∀ v : Fin 7, Txt.item (quoS v) 0 = Str.ofString "\"" ∧ (Txt.charAt (quoS v) 0).isSome = true := by decide
theorem quo_last : ∀ v : Fin 7, Txt.item (quoS v) (-1) = Str.ofString "\"" ∧ (Txt.charAt (quoS v) (-1)).isSome = true := by decide
theorem quo_mid : ∀ v : Fin 7, Txt.slice (quoS v) (some 1) (some (-1)) = valS v := by decide
theorem item_len' : ∀ (k : Fin 4) (v : Fin 7), (itemS (k, v)).length ≤ 20 := by decide
theorem item_len (p : Pr) : (itemS p).length ≤ 20 := item_len' p.1 p.2
theorem quo_len : ∀ v : Fin 7, (quoS v).length ≤ 10 := by decide
/-- a prefix of a mapped list -/
theorem map_cut {α : Type} {f : α → PyData} {l : List α} {pre post : List PyData} {d : PyData} (h : l.map f = pre ++ d :: post) : ∃ l1 p l2, l = l1 ++ p :: l2 ∧ pre = l1.map f ∧ d = f p ∧ post = l2.map f := by
  obtain ⟨a, b, rfl, rfl, e2⟩ := List.map_eq_append_iff.mp h
  obtain ⟨n, b', rfl, rfl, rfl⟩ := List.map_eq_cons_iff.mp e2
  exact ⟨a, n, b', rfl, rfl, rfl, rfl⟩
theorem take_pre {α : Type} {f : α → PyData} {l l1 l2 : List α} {p : α} (h : l = l1 ++ p :: l2) : l.take (l1.map f).length = l1 := by rw [h]; simp
theorem take_snoc {α : Type} {f : α → PyData} {l l1 l2 : List α} {p : α} (h : l = l1 ++ p :: l2) (d : PyData) : l.take (l1.map f ++ [d]).length = l1 ++ [p] := by
  have e : l = (l1 ++ [p]) ++ l2 := by rw [h]; simp
  have e2 : (l1.map f ++ [d]).length = (l1 ++ [p]).length := by simp
  rw [e2, e, List.take_left]
end Mine

/-! F2 -/
namespace Mine
theorem one_arg {vs : List Value} (h : vs.length = 1) : ∃ v, vs = [v] := by
  cases vs with
  | nil => cases h
  | cons v vs => cases vs with
    | nil => exact ⟨v, rfl⟩
    | cons => cases h
theorem two_args {vs : List Value} (h : vs.length = 2) : ∃ v w, vs = [v, w] := by
  match vs, h with
  | [v, w], _ => exact ⟨v, w, rfl⟩

set_option maxRecDepth 100000 in
theorem keqv_ok {pw : PW} {base : Heap} {mg : Str → Option Value} (B : Base pw base mg) (l : List Pr) (hy : l.length ≤ 10000) : FnOK pw base mg 1 28 [.list (l.map fun p => .str (itemS p))] (dictD ((readP l).map sP)) := by
  refine FnOK.mk (xs := [Str.ofString "l"]) (B.X 28 _ rfl) rfl (codeRec_of B.X (by kernel_rfl)) ⟨rfl, rfl, rfl, by decide, by decide, by decide, by decide, by decide⟩ (fun vs hvs => ?_) rfl ?_
  · obtain ⟨v, rfl⟩ := one_arg hvs
    rfl
  · intro c L hpw hb hmg hc hn henv h₀ s₀ O
    have hsl : sizeLine = 16777216 := rfl
    refine Trs.cons (Tr.newDict hc (.inl (kO henv rfl)) ne0) (Trs.ex fun a => Trs.and fun haO => ?_)
    refine Trs.cons (Tr.imp (Tr.for_list hc (ds := l.map fun p => .str (itemS p)) (fun _ => [(Str.ofString "l", .list (l.map fun p => .str (itemS p)))]) (fun ds => [(Str.ofString "parsed", a, .dict ((readP (l.take ds.length)).map sP))]) (fun l => rfl) (fun own => Ev.name hc.ok rfl) (.inl (kO henv rfl)) (fun l => ne1 (by decide)) ?_) fun s S => S.sub (inC rfl in0)) ?_
    · intro h₀ s₀ O pre d post hds
      obtain ⟨l1, p, l2, hl, rfl, rfl, rfl⟩ := map_cut hds
      rw [take_pre hl, take_snoc hl, readP_snoc, ← setD_sP]
      have hlen : l1.length ≤ 10000 := by rw [hl] at hy; simp at hy; omega
      refine Trs.cons (Tr.unpack hc (d₁ := .str (keyS p.1)) (d₂ := .str (quoS p.2)) (fun own => ?_) (.inl (kO henv rfl)) (.inl (kO henv rfl)) (ne1 (by decide)) (ne1 (by decide)) rfl rfl) ?_
      · have h := split_item p
        have e : PyData.list [.str (keyS p.1), .str (quoS p.2)] = .list ((Txt.splitMax (itemS p) (Str.ofString "=") 1).map .str) := by rw [h]; rfl
        rw [e]
        exact Ev.split1 hc.ok (Ev.name hc.ok rfl) Ev.str Ev.int rfl rfl (by have := item_len p; omega) rfl
      · have hq := quo_len p.2
        refine Trs.cons (Tr.ite hc (p := true) (fun own => ?_) (fun _ => Trs.last (Tr.assign hc (d := .str (valS p.2)) (fun own => ?_) (.inl (kO henv rfl)) (ne1 (by decide)) rfl)) nofun) ?_
        · refine Ts.is (Ts.and2 hc.ok (p := true) (q := true) (Ts.is (Ts.cmp hc.ok (Ev.item_str hc.ok (Ev.name hc.ok rfl) Ev.int rfl (quo_first p.2).2) Ev.str CmpIs.eq_str) (by rw [(quo_first p.2).1]; decide)) fun _ =>
            Ts.is (Ts.cmp hc.ok (Ev.item_str hc.ok (Ev.name hc.ok rfl) (Ev.neg_int hc.ok Ev.int) rfl (quo_last p.2).2) Ev.str CmpIs.eq_str) (by rw [(quo_last p.2).1]; decide)) rfl
        · rw [← quo_mid p.2]
          exact Ev.slice_str hc.ok (Ev.name hc.ok rfl) Ev.int (Ev.neg_int hc.ok Ev.int) (by omega)
        · refine Trs.last (Tr.imp_to (Tr.setitem hc (pre := []) (post := []) (fun own => Ev.name hc.ok rfl) (fun own => Ev.name hc.ok rfl) (by have := readP_len l1; simp; omega) (by rw [henv]; rfl)) fun f s ⟨hf, S⟩ => ⟨.inl hf, S.sub (inC rfl in0)⟩)
    · have e : l.take (l.map fun p => PyData.str (itemS p)).length = l := by simp
      rw [e]
      refine Trs.imp (Trs.last (Tr.imp_to (Tr.ret hc (d := dictD ((readP l).map sP)) fun own => Ev.name hc.ok rfl) fun f s ⟨v, e, D, S⟩ => ⟨v, e, hpw ▸ D, _, _, S⟩)) fun s S => S.freeze (pre := []) (post := []) hc haO
end Mine

/-! F3 -/
namespace Mine
def escC (x : Str) : Str := if Txt.contains (Str.ofString "\"\\") x then Str.ofString "\\" ++ x else x
def escL (v : Fin 7) : List Str := (valS v).cps.toList.map fun n => escC ⟨#[n]⟩
def escS (v : Fin 7) : Str := Txt.join (Str.ofString "") (escL v)
def headS (p : Pr) : Str := keyS p.1 ++ Str.ofString "=\"" ++ escS p.2 ++ Str.ofString "\""
def headerS (l : List Pr) : Str := Txt.join (Str.ofString ", ") (l.map headS)
theorem escL_len : ∀ v : Fin 7, ((escL v).map (·.length)).sum ≤ 20 ∧ (escL v).length ≤ 10 := by decide +kernel
theorem head_len' : ∀ (k : Fin 4) (v : Fin 7), (headS (k, v)).length ≤ 20 := by decide +kernel
theorem head_len (p : Pr) : (headS p).length ≤ 20 := head_len' p.1 p.2
theorem head_sum (l : List Pr) : ((l.map headS).map (·.length)).sum ≤ 20 * l.length := by
  induction l with
  | nil => simp
  | cons p l ih => have := head_len p; simp only [List.map_cons, List.sum_cons, List.length_cons]; omega
theorem val_len : ∀ v : Fin 7, (valS v).length ≤ 5 := by decide
theorem key_len : ∀ v : Fin 4, (keyS v).length ≤ 5 := by decide
theorem esc_len : ∀ v : Fin 7, (escS v).length ≤ 15 := by decide +kernel

def prD (p : Pr) : PyData := .tuple [.str (keyS p.1), .str (valS p.2)]
theorem prD_pair (l : List Pr) : l.map prD = ((l.map fun p => (PyData.str (keyS p.1), PyData.str (valS p.2))).map fun p => .tuple [p.1, p.2]) := by simp [prD]

def gEsc (d : PyData) : PyData := match d with | .str x => .str (escC x) | d => d

set_option maxRecDepth 100000 in
theorem read_ok {pw : PW} {base : Heap} {mg : Str → Option Value} (B : Base pw base mg) (l : List Pr) (hy : l.length ≤ 100) (hE : hEnd (headerS l) = l.map itemS) (hL : (headerS l).length ≤ 10000) : FnOK pw base mg 2 45 [.list (l.map prD)] (.list ((readP l).map prD)) := by
  refine FnOK.mk (xs := [Str.ofString "pairs"]) (B.X 45 _ rfl) rfl (codeRec_of B.X (by kernel_rfl)) ⟨rfl, rfl, rfl, by decide, by decide, by decide, by decide, by decide⟩ (fun vs hvs => ?_) rfl ?_
  · obtain ⟨v, rfl⟩ := one_arg hvs
    rfl
  · intro c L hpw hb hmg hc hn henv h₀ s₀ O
    subst hpw hb hmg
    have hsl : sizeLine = 16777216 := rfl
    refine Trs.cons (Tr.newList hc (.inl (kO henv rfl)) ne0) (Trs.ex fun a => Trs.and fun haO => ?_)
    refine Trs.cons (Tr.imp (Tr.for_pairs hc (ds := l.map fun p => (PyData.str (keyS p.1), PyData.str (valS p.2))) (fun _ => [(Str.ofString "pairs", .list (l.map prD))]) (fun ds => [(Str.ofString "items", a, .list ((l.take ds.length).map fun p => .str (headS p)))]) (fun l => rfl) (fun own => by rw [← prD_pair]; exact Ev.name hc.ok rfl) (.inl (kO henv rfl)) (.inl (kO henv rfl)) (fun l => ne1 (by decide)) (fun l => ne1 (by decide)) ?_) fun s S => S.sub (inC rfl in0)) ?_
    · intro h₀ s₀ O pre d post hds
      obtain ⟨l1, l2', hl, rfl, e2⟩ := List.map_eq_append_iff.mp hds
      obtain ⟨p, l2, rfl, rfl, rfl⟩ := List.map_eq_cons_iff.mp e2
      have e1 : l.take ((l1.map fun p => (PyData.str (keyS p.1), PyData.str (valS p.2))).map fun p => PyData.tuple [p.1, p.2]).length = l1 := by rw [hl]; simp
      have e2 : l.take (((l1.map fun p => (PyData.str (keyS p.1), PyData.str (valS p.2))) ++ [(PyData.str (keyS p.1), PyData.str (valS p.2))]).map fun p => PyData.tuple [p.1, p.2]).length = l1 ++ [p] := by
        have e : l = (l1 ++ [p]) ++ l2 := by rw [hl]; simp
        have e2 : (((l1.map fun p => (PyData.str (keyS p.1), PyData.str (valS p.2))) ++ [(PyData.str (keyS p.1), PyData.str (valS p.2))]).map fun p => PyData.tuple [p.1, p.2]).length = (l1 ++ [p]).length := by simp
        rw [e2, e, List.take_left]
      rw [e1, e2, List.map_append]
      have hlen : l1.length ≤ 100 := by rw [hl] at hy; simp at hy; omega
      refine Trs.last (Tr.imp_to (Tr.append hc (pre := []) (post := []) (d := .str (headS p)) (fun own => ?_) (by simp; omega) rfl rfl (by rw [henv]; rfl)) fun f s ⟨hf, S⟩ => ⟨.inl hf, S.sub (inC rfl in0)⟩)
      have k1 := key_len p.1; have k2 := esc_len p.2; have k3 := escL_len p.2
      have q1 : (Str.ofString "=\"").length = 2 := rfl
      have q2 : (Str.ofString "\"").length = 1 := rfl
      have q3 : (Str.ofString "").length = 0 := rfl
      refine Ev.add_str hc.ok (Ev.add_str hc.ok (Ev.add_str hc.ok (Ev.name hc.ok rfl) Ev.str (by omega)) (Ev.join hc.ok Ev.str (ys := escL p.2) ?_ (by rw [q3]; omega) rfl) (by rw [Str.length_append]; show _ + (escS p.2).length ≤ _; omega)) Ev.str (by rw [Str.length_append, Str.length_append]; show _ + (escS p.2).length + _ ≤ _; omega)
      have e : ((signData (valS p.2)).filter (fun _ => true)).map gEsc = (escL p.2).map .str := by
        rw [List.filter_eq_self.mpr (by simp)]; simp [signData, escL, gEsc]
      rw [← e]
      refine Ev.comp_str hc.ok (Ev.name hc.ok rfl) (CompSpec.name hc.ok (cl := []) (ρf := []) ⟨rfl, by decide, by decide, by rw [henv]; rfl, nofun⟩ (by have := val_len p.2; simp [signData]; show (valS p.2).length ≤ _; omega) rfl nofun nofun (fun d _ => TestsAre.nil) fun L own' d hd _ => ?_)
      obtain ⟨n, hx, rfl⟩ := List.mem_map.mp hd
      refine Ev.ite (Comp.ok (cl := []) ⟨rfl, by decide, by decide, by rw [henv]; rfl, nofun⟩ hc.ok) (Ts.cmp (Comp.ok (cl := []) ⟨rfl, by decide, by decide, by rw [henv]; rfl, nofun⟩ hc.ok) (Ev.name (Comp.ok (cl := []) ⟨rfl, by decide, by decide, by rw [henv]; rfl, nofun⟩ hc.ok) rfl) Ev.str CmpIs.in_str) (fun h => ?_) (fun h => ?_)
      · have e : gEsc (.str ⟨#[n]⟩) = .str (Str.ofString "\\" ++ ⟨#[n]⟩) := by simp only [gEsc, escC]; rw [if_pos h]
        rw [e]
        exact Ev.add_str (Comp.ok (cl := []) ⟨rfl, by decide, by decide, by rw [henv]; rfl, nofun⟩ hc.ok) Ev.str (Ev.name (Comp.ok (cl := []) ⟨rfl, by decide, by decide, by rw [henv]; rfl, nofun⟩ hc.ok) rfl) (by show 1 + 1 ≤ _; omega)
      · have e : gEsc (.str ⟨#[n]⟩) = .str ⟨#[n]⟩ := by simp only [gEsc, escC]; rw [if_neg (by rw [h]; decide)]
        rw [e]
        exact Ev.name (Comp.ok (cl := []) ⟨rfl, by decide, by decide, by rw [henv]; rfl, nofun⟩ hc.ok) rfl
    · have e1 : l.take ((l.map fun p => (PyData.str (keyS p.1), PyData.str (valS p.2))).map fun p => PyData.tuple [p.1, p.2]).length = l := by simp
      rw [e1]
      refine Trs.imp (Trs.last (Tr.imp_to (Tr.ret hc (d := pairsD ((readP l).map sP)) fun own => ?_) fun f s ⟨v, e, D, S⟩ => ⟨v, e, ?_, _, _, S⟩)) fun s S => S.freeze (pre := []) (post := []) hc haO
      · have rl := readP_len l
        refine Ev.items hc.ok (Ev.fn hc.ok (keqv_ok B l (by omega)) hn (kO henv rfl) (B.mg (by kernel_rfl)) rfl rfl (Evs.cons hc.ok ?_ Evs.nil)) (by simp; omega) (kO henv rfl) (B.mg_none (by kernel_rfl))
        have h := http_ok B (headerS l) hL
        rw [hE, List.map_map] at h
        refine Ev.fn hc.ok h hn (kO henv rfl) (B.mg (by kernel_rfl)) rfl rfl (Evs.cons hc.ok (Ev.join hc.ok Ev.str (ys := l.map headS) (by rw [List.map_map]; exact Ev.name hc.ok rfl) ?_ rfl) Evs.nil)
        have := head_sum l
        have q : (Str.ofString ", ").length = 2 := rfl
        rw [q, List.length_map]
        omega
      · have e : pairsD ((readP l).map sP) = .list ((readP l).map prD) := by simp [pairsD, pairD, sP, prD, Function.comp_def]
        rw [← e]; exact D
end Mine

/-! P1 -/
namespace Mine
def keyD (k : Fin 4) : PyData := .str (keyS k)
theorem lay_key : ∀ k : Fin 4, (keyD k).canLay0 = true := by decide +kernel
theorem lay_pr' : ∀ (k : Fin 4) (v : Fin 7), (prD (k, v)).canLay0 = true := by decide +kernel
theorem lay_pr (p : Pr) : (prD p).canLay0 = true := lay_pr' p.1 p.2
theorem lay_map {α : Type} {f : α → PyData} (h : ∀ a, (f a).canLay0 = true) : ∀ l : List α, PyData.canLayAll0 (l.map f) = true
  | [] => rfl
  | a :: l => by
    show (PyData.canLay0 (f a) && PyData.canLayAll0 (l.map f)) = true
    rw [h a, lay_map h l]; rfl
theorem lay_list {α : Type} {f : α → PyData} (h : ∀ a, (f a).canLay0 = true) (l : List α) : PyData.canLay0 (.list (l.map f)) = true := lay_map h l
theorem eqv_key : ∀ a b : Fin 4, PyData.eqv (keyD a) (keyD b) = decide (a = b) := by decide
theorem eqv_pr' : ∀ (a c : Fin 4) (b d : Fin 7), PyData.eqv (prD (a, b)) (prD (c, d)) = (decide (a = c) && decide (b = d)) := by decide +kernel
theorem eqv_pr (p q : Pr) : PyData.eqv (prD p) (prD q) = decide (p = q) := by
  obtain ⟨a, b⟩ := p; obtain ⟨c, d⟩ := q
  rw [eqv_pr', ← Bool.decide_and]
  congr 1
  simp
theorem eqvAll_map {α : Type} [DecidableEq α] {f : α → PyData} (h : ∀ a b, PyData.eqv (f a) (f b) = decide (a = b)) : ∀ l m : List α, PyData.eqvAll (l.map f) (m.map f) = decide (l = m)
  | [], [] => by simp [PyData.eqvAll]
  | [], _ :: _ => by simp [PyData.eqvAll]
  | _ :: _, [] => by simp [PyData.eqvAll]
  | a :: l, b :: m => by
    show (PyData.eqv (f a) (f b) && PyData.eqvAll (l.map f) (m.map f)) = _
    rw [h, eqvAll_map h l m]; simp
theorem eqv_list {α : Type} [DecidableEq α] {f : α → PyData} (h : ∀ a b, PyData.eqv (f a) (f b) = decide (a = b)) (l m : List α) : PyData.eqv (.list (l.map f)) (.list (m.map f)) = decide (l = m) := eqvAll_map h l m
theorem any_map {α : Type} [DecidableEq α] {f : α → PyData} (h : ∀ a b, PyData.eqv (f a) (f b) = decide (a = b)) (l : List α) (b : α) : ((l.map f).any fun y => PyData.eqv y (f b)) = l.any fun a => decide (a = b) := by
  rw [List.any_map]; congr 1; funext a; exact h a b
/-- the change -/
def chgP (gone came : List Pr) : List Pr := ((gone.filter fun p => !(came.any fun q => decide (q.1 = p.1))).map fun p => (p.1, 0)) ++ came

abbrev dsP (l : List Pr) : List (PyData × PyData) := l.map fun p => (PyData.str (keyS p.1), PyData.str (valS p.2))
abbrev dsT (l : List Pr) : List PyData := (dsP l).map fun p => .tuple [p.1, p.2]
theorem Ev.to {c : C} {own : List Addr} {ρ : List (Str × PyData)} {e : Expr} {d d' : PyData} (h : c.Ev own ρ e d) (q : d = d') : c.Ev own ρ e d' := q ▸ h
theorem dsT_eq (l : List Pr) : PyData.list (l.map prD) = .list (dsT l) := by simp [dsT, dsP, prD]
def gKey (d : PyData) : PyData := match d with | .tuple [a, _] => a | d => d
def gGone (d : PyData) : PyData := match d with | .tuple [a, _] => .tuple [a, .str (Str.ofString "")] | d => d
def pGone (came : List Pr) (d : PyData) : Bool := match d with | .tuple [a, _] => !((came.map fun q => keyD q.1).any fun y => PyData.eqv y a) | _ => false

set_option maxRecDepth 100000 in
theorem change_ok {pw : PW} {base : Heap} {mg : Str → Option Value} (B : Base pw base mg) (gone came : List Pr) (hg : gone.length ≤ 100) (hk : came.length ≤ 100) : FnOK pw base mg 1 50 [.list (gone.map prD), .list (came.map prD)] (.list ((chgP gone came).map prD)) := by
  refine FnOK.mk (xs := [Str.ofString "gone", Str.ofString "came"]) (B.X 50 _ rfl) rfl (codeRec_of B.X (by kernel_rfl)) ⟨rfl, rfl, rfl, by decide, by decide, by decide, by decide, by decide⟩ (fun vs hvs => ?_) rfl ?_
  · obtain ⟨v, w, rfl⟩ := two_args hvs
    rfl
  · intro c L hpw hb hmg hc hn henv h₀ s₀ O
    subst hpw hb hmg
    have hsl : sizeLine = 16777216 := rfl
    have e0 : PyData.list (((dsT came).filter fun _ => true).map gKey) = .list (came.map fun q => keyD q.1) := by
      rw [List.filter_eq_self.mpr (by simp), List.map_map, List.map_map]; rfl
    refine Trs.cons (Tr.assign hc (d := .list (came.map fun q => keyD q.1)) (fun own => ?_) (.inr (kO henv rfl)) ne0 ?_) ?_
    · refine Ev.to (Ev.comp_list hc.ok (Ev.to (Ev.name hc.ok rfl) (dsT_eq came)) (CompSpec.pair hc.ok (cl := []) (ρf := []) ⟨rfl, by decide, by decide, by rw [henv]; rfl, nofun⟩ (by simp; omega) rfl rfl nofun nofun nofun (fun d _ => TestsAre.nil) fun L own' d hd _ => ?_)) e0
      obtain ⟨q, hq, rfl⟩ := List.mem_map.mp hd
      exact Ev.name (Comp.ok (cl := []) ⟨rfl, by decide, by decide, by rw [henv]; rfl, nofun⟩ hc.ok) rfl
    · rw [henv]; rfl
    · have e1 : ((dsT gone).filter (pGone came)).map gGone = ((gone.filter fun p => !(came.any fun q => decide (q.1 = p.1))).map fun p => ((p.1, 0) : Pr)).map prD := by
        rw [List.filter_map, List.filter_map, List.map_map, List.map_map, List.map_map]
        have : (pGone came ∘ fun p : PyData × PyData => PyData.tuple [p.1, p.2]) ∘ (fun p : Pr => (PyData.str (keyS p.1), PyData.str (valS p.2))) = fun p => !(came.any fun q => decide (q.1 = p.1)) := by
          funext p
          simp only [Function.comp, pGone]
          congr 1
          rw [List.any_map]
          congr 1
          funext q
          exact eqv_key q.1 p.1
        rw [this]
        rfl
      have e2 : (((dsT gone).filter (pGone came)).map gGone).length ≤ 100 := by
        rw [List.length_map]; exact Nat.le_trans (List.length_filter_le _ _) (by simpa using hg)
      refine Trs.last (Tr.imp_to (Tr.ret hc (d := .list ((chgP gone came).map prD)) fun own => ?_) fun f s ⟨v, e, D, S⟩ => ⟨v, e, D, _, _, S⟩)
      refine Ev.to (Ev.add_list hc.ok (Ev.comp_list hc.ok (p := pGone came) (g := gGone) (Ev.to (Ev.name hc.ok rfl) (dsT_eq gone)) (CompSpec.pair hc.ok (cl := [(Str.ofString "stays", L + 1)]) (ρf := [(Str.ofString "stays", .list (came.map fun q => keyD q.1))]) ⟨rfl, by decide, by decide, by rw [henv]; rfl, by rw [henv]; exact fun p hp => hp⟩ (by simp; omega) rfl rfl ?_ ?_ ?_ (fun d hd => TestsAre.one fun L' own' => ?_) fun L' own' d hd _ => ?_)) (Ev.name hc.ok rfl) (Nat.le_trans (Nat.add_le_add e2 (by simpa using hk)) (by omega))) (by rw [e1]; simp [chgP])
      · exact fun q hq => by rw [List.mem_singleton.mp hq]; show Str.ofString "stays" ≠ _; decide
      · exact fun q hq => by rw [List.mem_singleton.mp hq]; show Str.ofString "stays" ≠ _; decide
      · exact fun q hq => by
          rw [List.mem_singleton.mp hq]
          refine ⟨.head _, kO henv rfl, by show (relabel _ c.env).names.lookup _ = _; rw [henv]; rfl, by rw [henv]; rfl⟩
      · obtain ⟨q, hq, rfl⟩ := List.mem_map.mp hd
        exact Ts.cmp (Comp.ok (cl := [(Str.ofString "stays", L + 1)]) ⟨rfl, by decide, by decide, by rw [henv]; rfl, by rw [henv]; exact fun p hp => hp⟩ hc.ok) (Ev.name (Comp.ok (cl := [(Str.ofString "stays", L + 1)]) ⟨rfl, by decide, by decide, by rw [henv]; rfl, by rw [henv]; exact fun p hp => hp⟩ hc.ok) rfl) (Ev.name (Comp.ok (cl := [(Str.ofString "stays", L + 1)]) ⟨rfl, by decide, by decide, by rw [henv]; rfl, by rw [henv]; exact fun p hp => hp⟩ hc.ok) rfl) (CmpIs.notIn_list (Comp.ok (cl := [(Str.ofString "stays", L + 1)]) ⟨rfl, by decide, by decide, by rw [henv]; rfl, by rw [henv]; exact fun p hp => hp⟩ hc.ok) (lay_key q.1) (lay_map (fun q : Pr => lay_key q.1) came) (by show 0 ≤ 64; decide))
      · obtain ⟨q, hq, rfl⟩ := List.mem_map.mp hd
        exact Ev.tuple (ds := [.str (keyS q.1), .str (Str.ofString "")]) (Comp.ok (cl := [(Str.ofString "stays", L + 1)]) ⟨rfl, by decide, by decide, by rw [henv]; rfl, by rw [henv]; exact fun p hp => hp⟩ hc.ok) rfl (Evs.cons (Comp.ok (cl := [(Str.ofString "stays", L + 1)]) ⟨rfl, by decide, by decide, by rw [henv]; rfl, by rw [henv]; exact fun p hp => hp⟩ hc.ok) (Ev.name (Comp.ok (cl := [(Str.ofString "stays", L + 1)]) ⟨rfl, by decide, by decide, by rw [henv]; rfl, by rw [henv]; exact fun p hp => hp⟩ hc.ok) rfl) (Evs.cons (Comp.ok (cl := [(Str.ofString "stays", L + 1)]) ⟨rfl, by decide, by decide, by rw [henv]; rfl, by rw [henv]; exact fun p hp => hp⟩ hc.ok) Ev.str Evs.nil)) (by show 2 ≤ sizeLine; decide)
end Mine

/-! F5 -/
namespace Mine
def keyStep (ks : List (Fin 4)) (p : Pr) : List (Fin 4) := if ks.any (fun k => decide (k = p.1)) then ks else ks ++ [p.1]
def keysP (l : List Pr) : List (Fin 4) := l.foldl keyStep []
theorem keysP_snoc (l : List Pr) (p : Pr) : keysP (l ++ [p]) = keyStep (keysP l) p := by simp [keysP]
def getP (v : List Pr) (k : Fin 4) : Fin 7 := ((v.find? fun p => decide (p.1 = k)).map (·.2)).getD 0
def dueP (l v : List Pr) : List Pr := (keysP l).map fun k => (k, getP v k)
theorem keyStep_len (ks : List (Fin 4)) (p : Pr) : (keyStep ks p).length ≤ ks.length + 1 := by unfold keyStep; split <;> simp
theorem keysP_len (l : List Pr) : (keysP l).length ≤ l.length := by
  suffices h : ∀ (l : List Pr) (a : List (Fin 4)), (l.foldl keyStep a).length ≤ a.length + l.length by simpa [keysP] using h l []
  intro l
  induction l with
  | nil => intro a; simp
  | cons p l ih => intro a; have := ih (keyStep a p); have := keyStep_len a p; simp only [List.foldl_cons, List.length_cons]; omega
theorem getOr_sP (v : List Pr) (k : Fin 4) : getOr (v.map sP) (keyS k) (Str.ofString "") = valS (getP v k) := by
  unfold getOr getP
  have e : (v.map sP).find? (fun p => decide (p.1 = keyS k)) = (v.find? fun p => decide (p.1 = k)).map sP := by
    rw [List.find?_map]
    congr 1
    congr 1
    funext p
    have : (keyS p.1 = keyS k) = (p.1 = k) := propext ⟨fun h => keyS_inj _ _ h, fun h => by rw [h]⟩
    simp only [Function.comp, sP, this]
  rw [e]
  cases v.find? fun p => decide (p.1 = k) <;> rfl
theorem TsS.is {c : C} {ρ : List (Str × PyData)} {ω : List (Str × Addr × OD)} {e : Expr} {b b' : Bool} (h : c.TsS ρ ω e b) (q : b = b') : c.TsS ρ ω e b' := q ▸ h
def gDue (v : List Pr) (d : PyData) : PyData := match d with | .str k => .tuple [.str k, .str (getOr (v.map sP) k (Str.ofString ""))] | d => d

set_option maxRecDepth 100000 in
theorem due_ok {pw : PW} {base : Heap} {mg : Str → Option Value} (B : Base pw base mg) (l v : List Pr) (hl : l.length ≤ 1000) (hv : v.length ≤ 100) : FnOK pw base mg 1 55 [.list (l.map prD), dictD (v.map sP)] (.list ((dueP l v).map prD)) := by
  refine FnOK.mk (xs := [Str.ofString "pairs", Str.ofString "version"]) (B.X 55 _ rfl) rfl (codeRec_of B.X (by kernel_rfl)) ⟨rfl, rfl, rfl, by decide, by decide, by decide, by decide, by decide⟩ (fun vs hvs => ?_) rfl ?_
  · obtain ⟨v, w, rfl⟩ := two_args hvs
    rfl
  · intro c L hpw hb hmg hc hn henv h₀ s₀ O
    subst hpw hb hmg
    have hsl : sizeLine = 16777216 := rfl
    refine Trs.cons (Tr.newList hc (.inl (kO henv rfl)) ne0) (Trs.ex fun a => Trs.and fun haO => ?_)
    refine Trs.cons (Tr.imp (Tr.for_pairs hc (ds := dsP l) (fun _ => [(Str.ofString "pairs", .list (l.map prD)), (Str.ofString "version", dictD (v.map sP))]) (fun ds => [(Str.ofString "keys", a, .list ((keysP (l.take ds.length)).map keyD))]) (fun l => rfl) (fun own => Ev.to (Ev.name hc.ok rfl) (dsT_eq l)) (.inl (kO henv rfl)) (.inl (kO henv rfl)) (fun l => ne1 (by decide)) (fun l => ne1 (by decide)) ?_) fun s S => S.sub (inC rfl (inC rfl in0))) ?_
    · intro h₀ s₀ O pre d post hds
      obtain ⟨l1, l2', hl', rfl, e2⟩ := List.map_eq_append_iff.mp hds
      obtain ⟨p, l2, rfl, rfl, rfl⟩ := List.map_eq_cons_iff.mp e2
      have e1 : l.take (dsT l1).length = l1 := by rw [hl']; simp
      have e2 : l.take (((dsP l1) ++ [(PyData.str (keyS p.1), PyData.str (valS p.2))]).map fun p => PyData.tuple [p.1, p.2]).length = l1 ++ [p] := by
        have e : l = (l1 ++ [p]) ++ l2 := by rw [hl']; simp
        have e2 : (((dsP l1) ++ [(PyData.str (keyS p.1), PyData.str (valS p.2))]).map fun p => PyData.tuple [p.1, p.2]).length = (l1 ++ [p]).length := by simp
        rw [e2, e, List.take_left]
      rw [e1, e2, keysP_snoc]
      have hlen : l1.length ≤ 1000 := by rw [hl'] at hl; simp at hl; omega
      have hkl := keysP_len l1
      generalize keysP l1 = ks at hkl ⊢
      have hany := any_map eqv_key ks p.1
      unfold keyStep
      cases h : ks.any (fun k => decide (k = p.1)) with
      | true =>
        rw [if_pos rfl]
        refine Trs.last (Tr.iteS hc (p := false) (Q := Turn _) ?_ nofun fun _ => Trs.nil fun s S => ⟨.inl rfl, S.sub (inC rfl (inC rfl in0))⟩)
        exact TsS.is (TsS.notIn_list hc (fun own => Ev.name hc.ok rfl) (.head _) (lay_key p.1) (lay_map lay_key ks) (by show 0 ≤ 64; decide)) (by show (!(List.map keyD ks).any (fun y => y.eqv (keyD p.1))) = _; rw [hany, h]; rfl)
      | false =>
        rw [if_neg (by decide), List.map_append]
        refine Trs.last (Tr.iteS hc (p := true) (Q := Turn _) ?_ (fun _ => Trs.last (Tr.imp_to (Tr.append hc (pre := []) (post := []) (d := keyD p.1) (fun own => Ev.name hc.ok rfl) (by simp; omega) rfl rfl (by rw [henv]; rfl)) fun f s ⟨hf, S⟩ => ⟨.inl hf, S.sub (inC rfl (inC rfl in0))⟩)) nofun)
        exact TsS.is (TsS.notIn_list hc (fun own => Ev.name hc.ok rfl) (.head _) (lay_key p.1) (lay_map lay_key ks) (by show 0 ≤ 64; decide)) (by show (!(List.map keyD ks).any (fun y => y.eqv (keyD p.1))) = _; rw [hany, h]; rfl)
    · have e1 : l.take (dsT l).length = l := by simp
      rw [e1]
      have hkl := keysP_len l
      have e2 : ((((keysP l).map keyD).filter fun _ => true).map (gDue v)) = (dueP l v).map prD := by
        rw [List.filter_eq_self.mpr (by simp), List.map_map]
        unfold dueP
        rw [List.map_map]
        apply List.map_congr_left
        intro k _
        simp only [Function.comp, keyD, gDue, prD, getOr_sP]
      refine Trs.imp (Trs.last (Tr.imp_to (Tr.ret hc (d := .list ((dueP l v).map prD)) fun own => ?_) fun f s ⟨v, e, D, S⟩ => ⟨v, e, D, _, _, S⟩)) fun s S => S.freeze (pre := []) (post := []) hc haO
      refine Ev.to (Ev.comp_list hc.ok (g := gDue v) (Ev.name hc.ok rfl) (CompSpec.name hc.ok (cl := [(Str.ofString "version", L + 1)]) (ρf := [(Str.ofString "version", dictD (v.map sP))]) ⟨rfl, by decide, by decide, by rw [henv]; rfl, by rw [henv]; exact fun p hp => hp⟩ (by simp; omega) rfl ?_ ?_ (fun d hd => TestsAre.nil) fun L' own' d hd _ => ?_)) (congrArg PyData.list e2)
      · exact fun q hq => by rw [List.mem_singleton.mp hq]; show Str.ofString "version" ≠ _; decide
      · exact fun q hq => by
          rw [List.mem_singleton.mp hq]
          refine ⟨.tail _ (.tail _ (.head _)), kO henv rfl, by show (relabel _ c.env).names.lookup _ = _; rw [henv]; rfl, by rw [henv]; rfl⟩
      · obtain ⟨k, hk, rfl⟩ := List.mem_map.mp hd
        have cc : ∀ {scope : Scope}, Comp c scope [(Str.ofString "version", L + 1)] → (c.comp scope [(Str.ofString "version", L + 1)] L').Ok := fun k => k.ok hc.ok
        exact Ev.tuple (ds := [.str (keyS k), .str (getOr (v.map sP) (keyS k) (Str.ofString ""))]) (cc ⟨rfl, by decide, by decide, by rw [henv]; rfl, by rw [henv]; exact fun p hp => hp⟩) rfl
          (Evs.cons (cc ⟨rfl, by decide, by decide, by rw [henv]; rfl, by rw [henv]; exact fun p hp => hp⟩) (Ev.name (cc ⟨rfl, by decide, by decide, by rw [henv]; rfl, by rw [henv]; exact fun p hp => hp⟩) rfl)
          (Evs.cons (cc ⟨rfl, by decide, by decide, by rw [henv]; rfl, by rw [henv]; exact fun p hp => hp⟩) (Ev.get2 (cc ⟨rfl, by decide, by decide, by rw [henv]; rfl, by rw [henv]; exact fun p hp => hp⟩) (Ev.name (cc ⟨rfl, by decide, by decide, by rw [henv]; rfl, by rw [henv]; exact fun p hp => hp⟩) rfl) (Ev.name (cc ⟨rfl, by decide, by decide, by rw [henv]; rfl, by rw [henv]; exact fun p hp => hp⟩) rfl) Ev.str rfl) Evs.nil)) (by show 2 ≤ sizeLine; decide)
end Mine

/-! M16 -/
namespace Mine
theorem Dict2 {prog : Program} {w : World} {A : Around} {env : Env} {s : Shared} {E : Value → Shared → Prop} {k1 v1 k2 v2 : Str} {n1 n2 n3 n4 : Nat} {lp q1 q2 q3 q4 : Pos} {Q : Value → Shared → Prop} {e : Expr}
    (he : e = .Dict [some (.Constant (.str k1) n1 q1), some (.Constant (.str k2) n2 q2)] [.Constant (.str v1) n3 q3, .Constant (.str v2) n4 q4] lp)
    (h : ∀ h' tk t1 t2, h'.DictOf (strKind prog w) s.heap.objs.size (merged [] [(k1, .str v1 t1), (k2, .str v2 t2)]) → Heap.SameBut s.heap.objs.size (s.heap.push { cls := .type "dict", data := .dict #[] }) h' → Q (.ref s.heap.objs.size) { s with heap := h', toks := tk }) :
    wpAny (model prog w) A (eval e env) Q E s := by
  subst he
  refine wpAny_Dict_walk (knd := strKind prog w) ?a ?b ?c ?d ?e
  case a => rfl
  case b => rfl
  case c => exact List.cons_ne_nil _ _
  case d => exact (by decide : 2 ≤ 15)
  have ek : ∀ (z : Str) (n : Nat) (q : Pos) (Q : Value → Shared → Prop) (E : Value → Shared → Prop) (s : Shared), Q (.str z s.toks) { s with toks := s.toks + 1 } → wpAny (model prog w) A (eval (.Constant (.str z) n q) env) Q E s := fun z n q Q E s h => by
    show wpAny _ _ (mkText z) _ _ _
    exact wpAny_mkText h
  refine evalPairs_cons (ek _ _ _ _ _ _ (wpAny_bind (ek _ _ _ _ _ _ (wpAny_bind (wpAny_standAt (wpAny_pure ?_))))))
  refine evalPairs_cons (ek _ _ _ _ _ _ (wpAny_bind (ek _ _ _ _ _ _ (wpAny_bind (wpAny_standAt (wpAny_pure (evalPairs_nil ?_)))))))
  exact ⟨[(k1, _), (k2, _)], ⟨strKind_is _ _ _ _, rfl, strKind_is _ _ _ _, rfl, trivial⟩, Heap.DictOf.new _, fun h' hd hsb => h h' _ _ _ hd hsb⟩
section
variable {c : C} {h₀ : Heap} {s₀ : Shared} {O : List Addr} {ρ : List (Str × PyData)} {ω pre post : List (Str × Addr × OD)} {P R : Shared → Prop} {Q : Flow → Shared → Prop}

/-- a new object is bound to a name, the heap having grown -/
theorem C.StO.storeGrown {own : List Addr} {s s' : Shared} (S : c.StO h₀ s₀ O own ρ ω s) (hc : c.Fn) (g : Gw c.Fs s s') {x : Str} {a : Addr} {d : OD} (h0 : s.heap.get? a = none) (hge : s.heap.objs.size ≤ a) (hex : ∃ o, s'.heap.get? a = some o)
    (hx : c.env.kindOf x = some .local ∨ c.env.kindOf x = some .cell) (hω : ∀ q ∈ ω, q.1 ≠ x) (hd : OwnIs c.toPW s'.heap (a :: own) a d) {E : Value → Shared → Prop} :
    wpAny (model c.prog c.w) c.A (storeName c.env x (.ref a)) (fun _ s' => c.StO h₀ s₀ O (a :: own) (drop ρ x) ((x, a, d) :: ω) s' ∧ a ∉ O) E s' := by
  obtain ⟨S₁, ap, h00, hO⟩ := S.growOwn hc g h0 hex hge
  refine wpAny_mono (S₁.storeRaw hc hx hω) (fun _ s'' ⟨S₂, hH, b, hb, hk, hs⟩ => ⟨?_, hO⟩) fun _ _ x => x
  have hne : a ≠ b := by
    rintro rfl
    rcases hk with e | ⟨v, hv⟩
    · exact ap.loc e
    · exact hd.not_cell hv
  exact S₂.addOwned (.head _) h00 ap.loc ap.fs hH (hd.same hb hne hs) fun q hq => ap.owned q hq

theorem Tr.newOwn (hc : c.Fn) {x : Str} {p pos : Pos} {e : Expr} {d : OD} (he : ∀ own E s, c.StO h₀ s₀ O own ρ ω s → wpAny (model c.prog c.w) c.A (eval e c.env) (fun v s' => ∃ a, v = .ref a ∧ Gw c.Fs s s' ∧ s.heap.get? a = none ∧ s.heap.objs.size ≤ a ∧ (∃ o, s'.heap.get? a = some o) ∧ OwnIs c.toPW s'.heap (a :: own) a d) E s)
    (hx : c.env.kindOf x = some .local ∨ c.env.kindOf x = some .cell) (hω : ∀ q ∈ ω, q.1 ≠ x) (hs : swapsWith e (some (.Name x p)) pos.line c.env = pure false) :
    c.Tr (c.St h₀ s₀ O ρ ω) (.Assign [.Name x p] e pos) (Next fun s => ∃ a, a ∉ O ∧ c.St h₀ s₀ O (drop ρ x) ((x, a, d) :: ω) s) := fun E s ⟨own, S⟩ => by
  refine wpAny_Assign_Name (wpAny_mono (he own E s S) (fun v s' ⟨a, ev, g, h0, hge, hex, hd⟩ => ?_) fun _ _ x => x) hs
  subst ev
  exact wpAny_mono (S.storeGrown hc g h0 hge hex hx hω hd) (fun _ s' ⟨S', ho⟩ => ⟨rfl, _, ho, _, S'⟩) fun _ _ x => x

theorem evalDict2 (hc : c.Fn) {k1 v1 k2 v2 : Str} {n1 n2 n3 n4 : Nat} {lp q1 q2 q3 q4 : Pos} {own : List Addr} {E : Value → Shared → Prop} {s : Shared} {e : Expr} (S : c.StO h₀ s₀ O own ρ ω s)
    (he : e = .Dict [some (.Constant (.str k1) n1 q1), some (.Constant (.str k2) n2 q2)] [.Constant (.str v1) n3 q3, .Constant (.str v2) n4 q4] lp) :
    wpAny (model c.prog c.w) c.A (eval e c.env)
      (fun v s' => ∃ a, v = .ref a ∧ Gw c.Fs s s' ∧ s.heap.get? a = none ∧ s.heap.objs.size ≤ a ∧ (∃ o, s'.heap.get? a = some o) ∧ OwnIs c.toPW s'.heap (a :: own) a (.dict (setD (setD [] k1 v1) k2 v2))) E s := by
  refine Dict2 he fun h' tk t1 t2 hd hsb => ?_
  have g : Gr c.Fs s.heap h' := .of fun b o e => (hsb.2 b (Nat.ne_of_lt (Heap.lt_size e))).trans (Heap.get?_push_of_some _ e)
  have hnone : s.heap.get? s.heap.objs.size = none := by
    cases e : s.heap.get? s.heap.objs.size with
    | none => rfl
    | some o => exact absurd (Heap.lt_size e) (Nat.lt_irrefl _)
  have sm : Same (merged [] [(k1, .str v1 t1), (k2, .str v2 t2)]) (setD (setD [] k1 v1) k2 v2) := by
    have h1 := Same.stored (kvs := []) (es := []) (by rfl) k1 v1 t1
    have h2 := h1.stored k2 v2 t2
    have e : merged [] [(k1, Value.str v1 t1), (k2, .str v2 t2)] = PySem.stored (PySem.stored [] k1 (.str v1 t1)) k2 (.str v2 t2) := by simp only [merged, List.foldl_cons, List.foldl_nil]
    rw [e]; exact h2
  refine ⟨_, rfl, .mk g, hnone, Nat.le_refl _, ?_, low_of hc S, _, hd, sm⟩
  obtain ⟨o, _, _, e, _⟩ := hd
  exact ⟨o, e⟩
theorem Tr.newDict2 (hc : c.Fn) {x k1 v1 k2 v2 : Str} {n1 n2 n3 n4 : Nat} {p lp pos q1 q2 q3 q4 : Pos} {e : Expr} {d : OD} (he : e = .Dict [some (.Constant (.str k1) n1 q1), some (.Constant (.str k2) n2 q2)] [.Constant (.str v1) n3 q3, .Constant (.str v2) n4 q4] lp)
    (hx : c.env.kindOf x = some .local ∨ c.env.kindOf x = some .cell) (hω : ∀ q ∈ ω, q.1 ≠ x) (hs : swapsWith e (some (.Name x p)) pos.line c.env = pure false) (hd : OD.dict (setD (setD [] k1 v1) k2 v2) = d) :
    c.Tr (c.St h₀ s₀ O ρ ω) (.Assign [.Name x p] e pos) (Next fun s => ∃ a, a ∉ O ∧ c.St h₀ s₀ O (drop ρ x) ((x, a, d) :: ω) s) :=
  hd ▸ Tr.newOwn hc (fun own E s S => evalDict2 hc S he) hx hω hs
end
end Mine

/-! F6 -/
namespace Mine
def keyI (x : Int) : Fin 4 := ⟨(x.fmod 4).toNat, by have := Int.fmod_lt_of_pos x (show (0:Int) < 4 by decide); have := Int.fmod_nonneg_of_pos x (show (0:Int) < 4 by decide); omega⟩
def valI (x : Int) : Fin 7 := ⟨((x.fdiv 4).fmod 7).toNat, by have := Int.fmod_lt_of_pos (x.fdiv 4) (show (0:Int) < 7 by decide); have := Int.fmod_nonneg_of_pos (x.fdiv 4) (show (0:Int) < 7 by decide); omega⟩
def delP (l : List Pr) (k : Fin 4) : List Pr := l.filter fun p => decide (p.1 ≠ k)
def hasP (l : List Pr) (k : Fin 4) : Bool := l.any fun p => decide (p.1 = k)
def tabStep (t : List Pr) (x : Int) : List Pr := if valI x = 0 then delP t (keyI x) else setP t (keyI x, valI x)
structure VS where
  vs : List (List Pr)
  tab : List Pr
def vStep (st : VS) (x : Int) : VS := ⟨if (x.fdiv 28).fmod 3 = 0 then st.vs else st.vs ++ [tabStep st.tab x], tabStep st.tab x⟩
def tab0 : List Pr := [(1, 1), (2, 3)]
def vRun (l : List Int) : VS := l.foldl vStep ⟨[tab0], tab0⟩
theorem vRun_snoc (l : List Int) (x : Int) : vRun (l ++ [x]) = vStep (vRun l) x := by simp [vRun]
def verP (l : List Int) : List (List Pr) := (vRun l).vs ++ [(vRun l).tab]
def scr (l : List Int) : List Int := [2, 32] ++ l.take 7

theorem delD_sP (l : List Pr) (k : Fin 4) : delD (l.map sP) (keyS k) = (delP l k).map sP := by
  unfold delD delP
  rw [List.filter_map]
  congr 1
  apply List.filter_congr
  intro p _
  have : (keyS p.1 = keyS k) = (p.1 = k) := propext ⟨fun h => keyS_inj _ _ h, fun h => by rw [h]⟩
  simp only [Function.comp, sP, ne_eq, this]
theorem hasD_sP (l : List Pr) (k : Fin 4) : hasD (l.map sP) (keyS k) = hasP l k := by
  unfold hasD hasP
  rw [List.any_map]
  congr 1
  funext p
  have : (keyS p.1 = keyS k) = (p.1 = k) := propext ⟨fun h => keyS_inj _ _ h, fun h => by rw [h]⟩
  simp only [Function.comp, sP, this]
theorem delP_none (l : List Pr) (k : Fin 4) (h : hasP l k = false) : delP l k = l := by
  unfold delP
  rw [List.filter_eq_self]
  intro p hp
  have : hasP l k ≠ true := by rw [h]; decide
  simp only [decide_not, Bool.not_eq_true', decide_eq_false_iff_not]
  intro e
  exact this (List.any_eq_true.mpr ⟨p, hp, by simpa using e⟩)
theorem tabStep_len (t : List Pr) (x : Int) : (tabStep t x).length ≤ t.length + 1 := by
  unfold tabStep
  split
  · exact Nat.le_succ_of_le (List.length_filter_le _ _)
  · exact setP_len _ _
theorem vRun_len (l : List Int) : (vRun l).tab.length ≤ 2 + l.length ∧ (vRun l).vs.length ≤ 1 + l.length ∧ ∀ t ∈ (vRun l).vs, t.length ≤ 2 + l.length := by
  suffices h : ∀ (l : List Int) (st : VS) (n : Nat), st.tab.length ≤ n → (∀ t ∈ st.vs, t.length ≤ n) → (l.foldl vStep st).tab.length ≤ n + l.length ∧ (l.foldl vStep st).vs.length ≤ st.vs.length + l.length ∧ ∀ t ∈ (l.foldl vStep st).vs, t.length ≤ n + l.length by
    exact h l ⟨[tab0], tab0⟩ 2 (by decide) (by intro t ht; rw [List.mem_singleton.mp ht]; decide)
  intro l
  induction l with
  | nil => intro st n h1 h2; simpa using ⟨h1, h2⟩
  | cons x l ih =>
    intro st n h1 h2
    have ht := tabStep_len st.tab x
    have := ih (vStep st x) (n + 1) (by show (tabStep st.tab x).length ≤ _; omega) (by
      intro t ht'
      unfold vStep at ht'
      simp only at ht'
      split at ht'
      · have := h2 t ht'; omega
      · rcases List.mem_append.mp ht' with m | m
        · have := h2 t m; omega
        · rw [List.mem_singleton.mp m]; omega)
    have hv : (vStep st x).vs.length ≤ st.vs.length + 1 := by
      unfold vStep; simp only; split <;> simp
    simp only [List.foldl_cons, List.length_cons]
    refine ⟨by omega, by omega, fun t m => by have := this.2.2 t m; omega⟩

theorem keyI_get (x : Int) : ([PyData.str (Str.ofString "a"), .str (Str.ofString "b"), .str (Str.ofString ""), .str (Str.ofString "c d")] : List PyData)[(x.fmod 4).toNat]? = some (.str (keyS (keyI x))) := by
  have : ∀ k : Fin 4, ([PyData.str (Str.ofString "a"), .str (Str.ofString "b"), .str (Str.ofString ""), .str (Str.ofString "c d")] : List PyData)[k.val]? = some (.str (keyS k)) := by
    intro k; match k with
    | 0 => rfl
    | 1 => rfl
    | 2 => rfl
    | 3 => rfl
  exact this (keyI x)
theorem valI_get (x : Int) : ([PyData.str (Str.ofString ""), .str (Str.ofString "a"), .str (Str.ofString "\""), .str (Str.ofString ","), .str (Str.ofString "\\\""), .str (Str.ofString " ="), .str (Str.ofString "b,\"\\")] : List PyData)[((x.fdiv 4).fmod 7).toNat]? = some (.str (valS (valI x))) := by
  have : ∀ k : Fin 7, ([PyData.str (Str.ofString ""), .str (Str.ofString "a"), .str (Str.ofString "\""), .str (Str.ofString ","), .str (Str.ofString "\\\""), .str (Str.ofString " ="), .str (Str.ofString "b,\"\\")] : List PyData)[k.val]? = some (.str (valS k)) := by
    intro k; match k with
    | 0 => rfl
    | 1 => rfl
    | 2 => rfl
    | 3 => rfl
    | 4 => rfl
    | 5 => rfl
    | 6 => rfl
  exact this (valI x)
def tabD (t : List Pr) : PyData := dictD (t.map sP)
end Mine

/-! F7 -/
namespace Mine
theorem in_ne2 {x y z : Str} {a b : Addr} {d e : OD} (h : y ≠ x) (h' : z ≠ x) : ∀ q ∈ [(y, a, d), (z, b, e)], q.1 ≠ x := ne2 h h'

set_option maxRecDepth 100000 in
set_option maxHeartbeats 8000000 in
theorem versions_ok {pw : PW} {base : Heap} {mg : Str → Option Value} (B : Base pw base mg) (l : List Int) (hl : l.length ≤ 63) : FnOK pw base mg 1 40 [.list (l.map .int)] (.list ((verP (scr l)).map tabD)) := by
  refine FnOK.mk (xs := [Str.ofString "script"]) (B.X 40 _ rfl) rfl (codeRec_of B.X (by kernel_rfl)) ⟨rfl, rfl, rfl, by decide, by decide, by decide, by decide, by decide⟩ (fun vs hvs => ?_) rfl ?_
  · obtain ⟨v, rfl⟩ := one_arg hvs
    rfl
  · intro c L hpw hb hmg hc hn henv h₀ s₀ O
    subst hpw hb hmg
    have hsl : sizeLine = 16777216 := rfl
    refine Trs.cons (R := fun s => ∃ a, a ∉ O ∧ c.St h₀ s₀ O (drop [(Str.ofString "script", PyData.list (l.map .int))] (Str.ofString "table")) [(Str.ofString "table", a, .dict (tab0.map sP))] s) ?_ ?_
    · exact Tr.newDict2 hc (d := .dict (tab0.map sP)) rfl (.inl (kO henv rfl)) ne0 (by rw [henv]; rfl) (congrArg OD.dict (by decide +kernel))
    refine Trs.ex fun a => Trs.and fun haO => ?_
    refine Trs.cons (Tr.newList1 hc (d := tabD tab0) (EvS.dict hc (.head _) (by decide) (kO henv rfl) (B.mg_none (by kernel_rfl))) (.inl (kO henv rfl)) (ne1 (by decide)) rfl) (Trs.ex fun b => Trs.and fun hbO => ?_)
    have hsc : (scr l).length ≤ 9 := by simp [scr]; omega
    refine Trs.cons (Tr.imp (Tr.for_list hc (ds := (scr l).map .int) (fun _ => [(Str.ofString "script", .list (l.map .int))]) (fun ds => [(Str.ofString "versions", b, .list ((vRun ((scr l).take ds.length)).vs.map tabD)), (Str.ofString "table", a, .dict ((vRun ((scr l).take ds.length)).tab.map sP))]) (fun l => rfl) (fun own => ?_) (.inl (kO henv rfl)) (fun l => ne2 (by decide) (by decide)) ?_) fun s S => S.sub (inC rfl in0)) ?_
    · refine Ev.to (Ev.add_list hc.ok (Ev.list hc.ok rfl (ds := [.int 2, .int 32]) (Evs.cons hc.ok Ev.int (Evs.cons hc.ok Ev.int Evs.nil)) (by show 2 ≤ sizeLine; decide)) (Ev.slice_list hc.ok (Ev.name hc.ok rfl) Part.none (Part.some Ev.int) (by simp; omega)) ?_) ?_
      · simp [kms_lo, kms_hi]; omega
      · have e : kms_lo none (l.map PyData.int).length = 0 := rfl
        have e2 : (List.take (kms_hi (some 7) (l.map PyData.int).length - kms_lo none (l.map PyData.int).length) (List.drop (kms_lo none (l.map PyData.int).length) (l.map PyData.int))) = (l.take 7).map .int := by
          rw [e, List.drop_zero, Nat.sub_zero, ← List.map_take]
          congr 1
          have : kms_hi (some 7) (l.map PyData.int).length = min 7 l.length := by simp [kms_hi]
          rw [this]
          by_cases h : 7 ≤ l.length
          · rw [Nat.min_eq_left h]
          · rw [Nat.min_eq_right (by omega), List.take_of_length_le (Nat.le_refl _), List.take_of_length_le (by omega)]
        rw [e2]
        simp [scr]
    · intro h₀ s₀ O pre d post hds
      obtain ⟨l1, x, l2, hl', rfl, rfl, rfl⟩ := map_cut hds
      rw [take_pre hl', take_snoc hl', vRun_snoc]
      have hlen : l1.length ≤ 9 := by rw [hl'] at hsc; simp at hsc; omega
      have hv := vRun_len l1
      generalize vRun l1 = st at hv ⊢
      obtain ⟨vs, tab⟩ := st
      simp only at hv
      have m4 := Int.fmod_nonneg_of_pos x (show (0:Int) < 4 by decide)
      have m4' := Int.fmod_lt_of_pos x (show (0:Int) < 4 by decide)
      have m7 := Int.fmod_nonneg_of_pos (x.fdiv 4) (show (0:Int) < 7 by decide)
      have m7' := Int.fmod_lt_of_pos (x.fdiv 4) (show (0:Int) < 7 by decide)
      refine Trs.cons (Tr.assign hc (d := .str (keyS (keyI x))) (fun own => Ev.item_list hc.ok (Ev.list hc.ok rfl (ds := [PyData.str (Str.ofString "a"), .str (Str.ofString "b"), .str (Str.ofString ""), .str (Str.ofString "c d")]) (Evs.cons hc.ok Ev.str (Evs.cons hc.ok Ev.str (Evs.cons hc.ok Ev.str (Evs.cons hc.ok Ev.str Evs.nil)))) (by show 4 ≤ sizeLine; decide)) (Ev.mod_int hc.ok (Ev.name hc.ok rfl) Ev.int (by decide)) m4 (by omega) (keyI_get x)) (.inl (kO henv rfl)) (ne2 (by decide) (by decide)) rfl) ?_
      refine Trs.cons (Tr.assign hc (d := .str (valS (valI x))) (fun own => Ev.item_list hc.ok (Ev.list hc.ok rfl (ds := [PyData.str (Str.ofString ""), .str (Str.ofString "a"), .str (Str.ofString "\""), .str (Str.ofString ","), .str (Str.ofString "\\\""), .str (Str.ofString " ="), .str (Str.ofString "b,\"\\")]) (Evs.cons hc.ok Ev.str (Evs.cons hc.ok Ev.str (Evs.cons hc.ok Ev.str (Evs.cons hc.ok Ev.str (Evs.cons hc.ok Ev.str (Evs.cons hc.ok Ev.str (Evs.cons hc.ok Ev.str Evs.nil))))))) (by show 7 ≤ sizeLine; decide)) (Ev.mod_int hc.ok (Ev.div_int hc.ok (Ev.name hc.ok rfl) Ev.int (by decide) (by decide)) Ev.int (by decide)) m7 (by omega) (valI_get x)) (.inl (kO henv rfl)) (ne2 (by decide) (by decide)) rfl) ?_
      have htl := tabStep_len tab x
      simp only [vStep]
      refine Trs.cons (R := c.St h₀ s₀ O (put (put (put [(Str.ofString "script", PyData.list (List.map PyData.int l))] (Str.ofString "x") (PyData.int x)) (Str.ofString "key") (PyData.str (keyS (keyI x)))) (Str.ofString "value") (PyData.str (valS (valI x)))) [(Str.ofString "versions", b, .list (vs.map tabD)), (Str.ofString "table", a, .dict ((tabStep tab x).map sP))]) ?_ ?_
      · by_cases h0 : valI x = 0
        · have e : tabStep tab x = delP tab (keyI x) := by unfold tabStep; rw [if_pos h0]
          rw [e]
          refine Tr.ite hc (p := false) (fun own => Ts.is (Ts.cmp hc.ok (Ev.name hc.ok rfl) Ev.str CmpIs.ne_str) (by rw [h0]; decide)) nofun fun _ => Trs.last ?_
          refine Tr.iteS hc (p := hasP tab (keyI x)) (TsS.is (TsS.in_dict hc (fun own => Ev.name hc.ok rfl) (.tail _ (.head _))) (hasD_sP tab (keyI x))) (fun hh => ?_) fun hh => Trs.nil fun s S => ⟨rfl, by rw [delP_none _ _ hh]; exact S⟩
          rw [← delD_sP]
          exact Trs.last (Tr.delitem hc (pre := [(Str.ofString "versions", b, .list (vs.map tabD))]) (post := []) (fun own => Ev.name hc.ok rfl) (by simp; omega) (by rw [hasD_sP]; exact hh))
        · have e : tabStep tab x = setP tab (keyI x, valI x) := by unfold tabStep; rw [if_neg h0]
          have hne : (valS (valI x) != Str.ofString "") = true := by
            have : ∀ v : Fin 7, v ≠ 0 → (valS v != Str.ofString "") = true := by decide
            exact this _ h0
          rw [e, ← setD_sP]
          refine Tr.ite hc (p := true) (fun own => Ts.is (Ts.cmp hc.ok (Ev.name hc.ok rfl) Ev.str CmpIs.ne_str) hne) (fun _ => Trs.last ?_) nofun
          exact Tr.setitem hc (pre := [(Str.ofString "versions", b, .list (vs.map tabD))]) (post := []) (fun own => Ev.name hc.ok rfl) (fun own => Ev.name hc.ok rfl) (by simp; omega) (by rw [henv]; rfl)
      · generalize tabStep tab x = tab' at htl ⊢
        by_cases h3 : (x.fdiv 28).fmod 3 = 0
        · rw [if_pos h3]
          refine Trs.last (Tr.ite hc (p := false) (Q := Turn _) (fun own => Ts.is (Ts.cmp hc.ok (Ev.mod_int hc.ok (Ev.div_int hc.ok (Ev.name hc.ok rfl) Ev.int (by decide) (by decide)) Ev.int (by decide)) Ev.int CmpIs.ne_int) (by rw [h3]; decide)) nofun fun _ => Trs.nil fun s S => ⟨.inl rfl, S.sub (inC rfl in0)⟩)
        · rw [if_neg h3, List.map_append]
          refine Trs.last (Tr.ite hc (p := true) (Q := Turn _) (fun own => Ts.is (Ts.cmp hc.ok (Ev.mod_int hc.ok (Ev.div_int hc.ok (Ev.name hc.ok rfl) Ev.int (by decide) (by decide)) Ev.int (by decide)) Ev.int CmpIs.ne_int) (by simpa using h3)) (fun _ => Trs.last ?_) nofun)
          refine Tr.imp_to (Tr.appendS hc (pre := []) (post := [(Str.ofString "table", a, .dict (tab'.map sP))]) (d := tabD tab') (EvS.dict hc (.tail _ (.head _)) (by simp; omega) (kO henv rfl) (B.mg_none (by kernel_rfl))) (by simp; omega) rfl rfl (by rw [henv]; rfl)) fun f s ⟨hf, S⟩ => ⟨.inl hf, S.sub (inC rfl in0)⟩
    · have e1 : (scr l).take ((scr l).map PyData.int).length = scr l := by simp
      rw [e1]
      have hv := vRun_len (scr l)
      refine Trs.imp (Trs.last (Tr.imp_to (Tr.ret hc (d := .list ((verP (scr l)).map tabD)) fun own => ?_) fun f s ⟨v, e, D, S⟩ => ⟨v, e, D, _, _, S⟩)) fun s S => C.St.freeze (C.St.freeze S (pre := []) hc hbO) (pre := []) (post := []) hc haO
      refine Ev.to (Ev.add_list hc.ok (Ev.name hc.ok rfl) (Ev.list hc.ok rfl (ds := [tabD (vRun (scr l)).tab]) (Evs.cons hc.ok (Ev.name hc.ok rfl) Evs.nil) (by show 1 ≤ sizeLine; decide)) (by simp; omega)) ?_
      simp [verP]
end Mine

/-! M17 -/
namespace Mine
section
variable {prog : Program} {w : World} {A : Around} {E : Value → Shared → Prop} {s : Shared} {vs : List Value}

theorem list_sort_short {a : Addr} {n : Nat} {P : PySem.Fin → Shared → Prop} (ho : s.heap.get? a = some (seqObj "list" vs.toArray n)) (h2 : vs.length < 2)
    (h : ∀ h' c, (∀ b o, b ≠ a → s.heap.get? b = some o → h'.get? b = some o) → h'.get? a = some (seqObj "list" vs.toArray c) → P (.done (.ret .none)) { s with heap := h' }) :
    wpAny (model prog w) A (Builtin.«list.sort» ⟨[.ref a], []⟩) P E s := by
  have hsl : sizeLine = 16777216 := rfl
  have s1 := Heap.SameBut.update s.heap a (Obj.mapSeq fun _ => (#[] : Array Value))
  obtain ⟨e1, ho1⟩ : ∃ e1, (s.heap.update a (Obj.mapSeq fun _ => (#[] : Array Value))).get? a = some (seqObj "list" #[] e1) := ⟨_, get?_update_seq ho fun _ => #[]⟩
  rw [list_sort_plain]
  refine wpAny_bind (listItems_at ho rfl ?_)
  refine wpAny_bind (listUpdate_at ho rfl ?_ (by rw [List.size_toArray]; omega) (Nat.zero_le _))
  refine wpAny_bind (seqEpoch_at ho1 rfl ?_)
  refine wpAny_bind (wpAny_newTuple ?_ (by show vs.length ≤ _; omega))
  refine wpAny_bind (wpAny_newList ?_ (Nat.zero_le _))
  refine wpAny_holding ?_
  dsimp only
  have hn2 : vs.toArray.size < 2 := by rw [List.size_toArray]; omega
  rw [if_pos hn2, if_pos hn2]
  refine wpAny_bind (wpAny_pure (wpAny_bind (wpAny_pure ?_)))
  dsimp only
  have ho3 : (((s.heap.update a (Obj.mapSeq fun _ => (#[] : Array Value))).push (seqObj "tuple" vs.toArray 0)).push (seqObj "list" #[] 0)).get? a = some (seqObj "list" #[] e1) := Heap.get?_push_of_some _ (Heap.get?_push_of_some _ ho1)
  refine wpAny_bind (seqEpoch_at ho3 rfl ?_)
  refine wpAny_bind (listUpdate_at ho3 rfl ?_ (Nat.zero_le _) ?_)
  · simp only [bne_self_eq_false, Bool.false_eq_true, if_false]
    have har : (arrOf (SortSt.mk' general' (vs.toArray.zip vs.toArray) #[] 7 none)).map (·.2) = vs.toArray := by
      show ((vs.toArray.zip vs.toArray).map (·.2)) = vs.toArray
      apply Array.toList_inj.mp
      simp
      exact List.map_snd_zip (Nat.le_refl _)
    rw [har]
    obtain ⟨c2, hc2⟩ : ∃ c2, ((((s.heap.update a (Obj.mapSeq fun _ => (#[] : Array Value))).push (seqObj "tuple" vs.toArray 0)).push (seqObj "list" #[] 0)).update a (Obj.mapSeq fun _ => vs.toArray)).get? a = some (seqObj "list" vs.toArray c2) := ⟨_, get?_update_seq ho3 fun _ => vs.toArray⟩
    refine wpAny_pure (h _ c2 (fun b o nb e => ?_) hc2)
    rw [(Heap.SameBut.update _ a _).2 b nb]
    exact Heap.get?_push_of_some _ (Heap.get?_push_of_some _ ((s1.2 b nb).trans e))
  · have har : (arrOf (SortSt.mk' general' (vs.toArray.zip vs.toArray) #[] 7 none)).map (·.2) = vs.toArray := by
      show ((vs.toArray.zip vs.toArray).map (·.2)) = vs.toArray
      apply Array.toList_inj.mp
      simp
      exact List.map_snd_zip (Nat.le_refl _)
    rw [har, List.size_toArray]; omega

theorem sorted_short {l : Addr} {Q : Value → Shared → Prop} (hl : s.heap.IsList l vs.toArray) (h2 : vs.length < 2)
    (h : ∀ h' D c, (∀ b o, s.heap.get? b = some o → h'.get? b = some o) → s.heap.objs.size ≤ D → h'.get? D = some (seqObj "list" vs.toArray c) → Q (.ref D) { s with heap := h' }) :
    wpAny (model prog w) A (call (.builtin "sorted") [.ref l]) Q E s := by
  have hsl : sizeLine = 16777216 := rfl
  refine Calls.call_function_entry kind_sorted plain_sorted entry_sorted (args_sorted1 _) ?_
  unfold Builtin.«sorted»
  refine wpAny_bind (m := checkCount "sorted" 1 1 _) (wpAny_pure ?_)
  refine wpAny_bind (collect_list hl ?_ (by omega))
  refine wpAny_bind (wpAny_newList ?_ (by omega))
  have hsz : ((s.heap.push (seqObj "list" #[] 0)).update s.heap.objs.size (Obj.mapSeq (· ++ vs.toArray))).objs.size = s.heap.objs.size + 1 := by
    rw [Heap.size_update, size_push']
  have hoL := Heap.get?_push_size ((s.heap.push (seqObj "list" #[] 0)).update s.heap.objs.size (Obj.mapSeq (· ++ vs.toArray))) (o := seqObj "list" vs.toArray 0) rfl
  rw [hsz] at hoL
  have keep : ∀ b o, s.heap.get? b = some o → (((s.heap.push (seqObj "list" #[] 0)).update s.heap.objs.size (Obj.mapSeq (· ++ vs.toArray))).push (seqObj "list" vs.toArray 0)).get? b = some o := fun b o q => by
    have hlt : b < s.heap.objs.size := Heap.lt_size q
    refine Heap.get?_push_of_some _ ?_
    rw [(Heap.SameBut.update _ _ _).2 b (Nat.ne_of_lt hlt)]
    exact Heap.get?_push_of_some _ q
  show wpAny _ _ _ _ _ { s with heap := ((s.heap.push (seqObj "list" #[] 0)).update s.heap.objs.size (Obj.mapSeq (· ++ vs.toArray))).push (seqObj "list" vs.toArray 0) }
  rw [hsz]
  refine wpAny_bind (wpAny_holding (wpAny_call_entry slot_list_sort ⟨_, hoL, rfl⟩ entry_list_sort ?body (args_list_sort _)))
  case body =>
    refine list_sort_short hoL h2 fun h' c hk ho' => ?_
    exact ⟨_, rfl, wpAny_pure ⟨_, rfl, h h' _ c (fun b o e => hk b o (Nat.ne_of_lt (Nat.lt_succ_of_lt (Heap.lt_size e))) (keep b o e)) (Nat.le_succ _) ho'⟩⟩
end

/-- the way of a decision tree -/
noncomputable def runT {α : Type} (f : Nat → Nat → Bool) : KasT α → α
  | .ret a => a
  | .ask i j k => runT f (k (f i j))
noncomputable def okT {α : Type} (n : Nat) (f : Nat → Nat → Bool) : KasT α → Bool
  | .ret _ => true
  | .ask i j k => decide (i < n) && decide (j < n) && decide (i ≠ j) && okT n f (k (f i j))
theorem runT_wp {α : Type} {cmp : Nat → Nat → (Bool → Shared → Prop) → Shared → Prop} {n : Nat} {f : Nat → Nat → Bool} {I : Shared → Prop} (hcmp : ∀ i j C s, i < n → j < n → i ≠ j → I s → (∀ s', I s' → C (f i j) s') → cmp i j C s) {Q : α → Shared → Prop} :
    ∀ (t : KasT α) (s : Shared), okT n f t = true → I s → (∀ s', I s' → Q (runT f t) s') → t.kasWp cmp Q s
  | .ret a, s, _, hI, h => h s hI
  | .ask i j k, s, ho, hI, h => by
    simp only [okT, Bool.and_eq_true, decide_eq_true_eq] at ho
    exact hcmp i j _ s ho.1.1.1 ho.1.1.2 ho.1.2 hI fun s' hI' => runT_wp hcmp (k (f i j)) s' ho.2 hI' h
end Mine

/-! M18 -/
namespace Mine
def kLt (a b : Fin 4) : Bool := decide ((keyS a).cps.toList < (keyS b).cps.toList)
def ranks : List (Fin 4) := [2, 0, 1, 3]
def sortP (l : List Pr) : List Pr := (ranks.filter fun k => hasP l k).map fun k => (k, getP l k)
def askK (ks : List (Fin 4)) (i j : Nat) : Bool := kLt (ks.getD i 0) (ks.getD j 0)
noncomputable def chk (ks : List (Fin 4)) : Bool :=
  okT ks.length (askK ks) (kas_sort ks.length) && decide ((runT (askK ks) (kas_sort ks.length)).toList.map (fun i => ks.getD i 0) = ranks.filter fun k => ks.contains k) && (runT (askK ks) (kas_sort ks.length)).toList.all fun i => decide (i < ks.length)
theorem chk2 : ∀ a b : Fin 4, [a, b].Nodup → chk [a, b] = true := by decide +kernel
theorem chk3 : ∀ a b c : Fin 4, [a, b, c].Nodup → chk [a, b, c] = true := by decide +kernel
theorem chk4 : ∀ a b c d : Fin 4, [a, b, c, d].Nodup → chk [a, b, c, d] = true := by decide +kernel
theorem nodup4 (ks : List (Fin 4)) (h : ks.Nodup) : ks.length ≤ 4 := by
  have := List.Nodup.length_le_of_subset (l₁ := ks) (l₂ := [0, 1, 2, 3]) h (fun k _ => (by decide : ∀ k : Fin 4, k ∈ ([0, 1, 2, 3] : List (Fin 4))) k)
  simpa using this
theorem chk_all (ks : List (Fin 4)) (h : ks.Nodup) (h2 : 2 ≤ ks.length) : chk ks = true := by
  have h4 := nodup4 ks h
  match ks, h2, h4, h with
  | [a, b], _, _, h => exact chk2 a b h
  | [a, b, c], _, _, h => exact chk3 a b c h
  | [a, b, c, d], _, _, h => exact chk4 a b c d h
abbrev keysOf (l : List Pr) : List (Fin 4) := l.map (·.1)
theorem getP_at : ∀ (l : List Pr), (keysOf l).Nodup → ∀ p ∈ l, getP l p.1 = p.2
  | [], _, p, hp => by cases hp
  | q :: l, h, p, hp => by
    have h : q.1 ∉ keysOf l ∧ (keysOf l).Nodup := by simpa [keysOf] using h
    rcases List.mem_cons.mp hp with rfl | hp
    · simp [getP]
    · have hne : q.1 ≠ p.1 := fun e => h.1 (e ▸ List.mem_map.mpr ⟨p, hp, rfl⟩)
      have := getP_at l h.2 p hp
      simpa [getP, List.find?_cons, hne] using this
theorem hasP_keys (l : List Pr) (k : Fin 4) : hasP l k = (keysOf l).contains k := by
  unfold hasP keysOf
  induction l with
  | nil => rfl
  | cons p l ih =>
    simp only [List.any_cons, List.map_cons, List.contains_cons, ih]
    congr 1
    by_cases h : p.1 = k
    · simp [h]
    · have : ¬ k = p.1 := fun e => h e.symm
      simp [h, this]
theorem sort_run (l : List Pr) (h : (keysOf l).Nodup) (h2 : 2 ≤ l.length) :
    okT l.length (askK (keysOf l)) (kas_sort l.length) = true ∧ (runT (askK (keysOf l)) (kas_sort l.length)).toList.map (fun i => l.getD i (0, 0)) = sortP l ∧ ∀ i ∈ (runT (askK (keysOf l)) (kas_sort l.length)).toList, i < l.length := by
  have hc := chk_all (keysOf l) h (by simpa using h2)
  have e : (keysOf l).length = l.length := by simp
  unfold chk at hc
  rw [e] at hc
  simp only [Bool.and_eq_true, decide_eq_true_eq, List.all_eq_true] at hc
  refine ⟨hc.1.1, ?_, hc.2⟩
  have hf : (ranks.filter fun k => hasP l k) = ranks.filter fun k => (keysOf l).contains k := by
    congr 1; funext k; exact hasP_keys l k
  unfold sortP
  rw [hf, ← hc.1.2, List.map_map]
  apply List.map_congr_left
  intro i hi
  have hlt := hc.2 i hi
  have e1 : l.getD i (0, 0) = l[i] := by simp [hlt]
  have e2 : (keysOf l).getD i 0 = l[i].1 := by simp [hlt]
  simp only [Function.comp, e1, e2]
  rw [getP_at l h l[i] (List.getElem_mem hlt)]
theorem sort_short (l : List Pr) (h : (keysOf l).Nodup) (h2 : l.length < 2) : sortP l = l := by
  match l, h2 with
  | [], _ => decide
  | [(k, v)], _ =>
    have : ∀ (k : Fin 4) (v : Fin 7), sortP [(k, v)] = [(k, v)] := by decide
    exact this k v

theorem RdAll.perm {pw : PW} {h : Heap} {vs : List Value} {l : List Pr} (r : RdAll pw h vs (l.map prD)) : ∀ (p : List Nat), (∀ i ∈ p, i < l.length) → RdAll pw h (p.map fun i => vs.getD i Value.none) ((p.map fun i => l.getD i (0, 0)).map prD)
  | [], _ => .nil
  | i :: p, hp => by
    have hi := hp i (.head _)
    obtain ⟨v, hv, D⟩ := r.get (i := i) (d := prD l[i]) (by simp [hi])
    have e1 : vs.getD i Value.none = v := by simp [List.getD, hv]
    have e2 : l.getD i (0, 0) = l[i] := by simp [hi]
    simp only [List.map_cons, e1, e2]
    exact .cons D (RdAll.perm r p fun j hj => hp j (.tail _ hj))
end Mine

/-! M19 -/
namespace Mine
section
variable {c : C} {own : List Addr} {ρ : List (Str × PyData)}

theorem call_sorted (hc : c.Ok) {s : Shared} (V : c.Vs own ρ s.heap) {a : Addr} {vs : List Value} {l : List Pr} (il : s.heap.IsList a vs.toArray) (D : Dens c.toPW s.heap own vs (l.map prD)) (hn : (keysOf l).Nodup) {E : Value → Shared → Prop} :
    wpAny (model c.prog c.w) c.A (call (.builtin "sorted") [.ref a]) (fun v s' => Gw c.Fs s s' ∧ Den c.toPW s'.heap own v (.list ((sortP l).map prD))) E s := by
  have hlen : vs.length = l.length := by simpa using D.length
  have h4 := nodup4 _ hn
  simp only [List.length_map] at h4
  by_cases h2 : l.length < 2
  · refine sorted_short il (by omega) fun h' B e hk hge ho => ?_
    have g : Gr c.Fs s.heap h' := .of hk
    rw [sort_short l hn h2]
    exact ⟨.mk g, .mkList ho rfl rfl (fun m => Nat.not_le_of_lt (V.lt _ m) hge) (RdAll.gr D g V.fs)⟩
  · obtain ⟨ho, hr, hp⟩ := sort_run l hn (by omega)
    obtain ⟨L, hL⟩ := hc.one
    obtain ⟨m, hm⟩ := V.frames L hL
    refine kat_sorted (asFr hm) asNews il (by omega) (by omega) fun B e1 h' F' N' hB => ?_
    have g : Gr c.Fs s.heap h' := gr_of_news hL hm F' N' fun p hp => .tail _ hp
    have D' : RdAll c.toPW h' vs (l.map prD) := (RdAll.gr D g V.fs).whole
    -- the pairs
    have tup : ∀ i, i < l.length → ∃ b o n t1 t2, vs.getD i Value.none = .ref b ∧ h'.get? b = some o ∧ o.cls = .type "tuple" ∧ o.data = .seq #[.str (keyS (l.getD i (0,0)).1) t1, .str (valS (l.getD i (0,0)).2) t2] n := fun i hi => by
      obtain ⟨v, hv, Dv⟩ := D'.get (i := i) (d := prD l[i]) (by simp [hi])
      obtain ⟨b, o, ws, n, rfl, q1, q2, q3, q4⟩ := Dv.inv_tuple
      obtain ⟨w1, _, rfl, d1, q4⟩ := q4.uncons
      obtain ⟨w2, _, rfl, d2, q4⟩ := q4.uncons
      rw [q4.unnil] at q3
      obtain ⟨t1, rfl⟩ := d1.inv_str
      obtain ⟨t2, rfl⟩ := d2.inv_str
      refine ⟨b, o, n, t1, t2, by simp [List.getD, hv], q1, q2, ?_⟩
      rw [q3]
      simp [hi]
    have katT : ∀ (ws : List Value) (ds : List Pr), RdAll c.toPW h' ws (ds.map prD) → ∃ fs : List Value, KatTups h' ws fs ∧ fs.length = ds.length ∧ ∀ f ∈ fs, ∃ x t, f = Value.str x t := by
      intro ws ds
      induction ds generalizing ws with
      | nil => intro r; rw [r.unnil]; exact ⟨[], .nil, rfl, nofun⟩
      | cons d ds ih =>
        intro r
        obtain ⟨v, ws', rfl, Dv, r'⟩ := r.uncons
        obtain ⟨b, o, us, n, rfl, q1, q2, q3, q4⟩ := Dv.inv_tuple
        obtain ⟨w1, us', rfl, d1, _⟩ := q4.uncons
        obtain ⟨t1, rfl⟩ := d1.inv_str
        obtain ⟨fs, k1, k2, k3⟩ := ih ws' r'
        exact ⟨.str (keyS d.1) t1 :: fs, .cons q1 q2 q3 (by simp) k1, by simp [k2], fun f hf => (List.mem_cons.mp hf).elim (fun e => ⟨_, _, e⟩) (k3 f)⟩
    obtain ⟨fs, k1, k2, k3⟩ := katT vs l D'
    refine kat_kind (T := .type "str") k1 (by omega) (fun v hv => by obtain ⟨x, t, rfl⟩ := k3 v hv; exact fun A Q E s _ q => wpAny_pure q) rfl ?_
    rw [hlen]
    refine runT_wp (n := l.length) (f := askK (keysOf l)) (I := fun s' => s' = { s with heap := h' }) (fun i j C s' hi hj hij hI hC => ?_) _ _ ho rfl (fun s' hI => ?_)
    · subst hI
      obtain ⟨b, o, n, t1, t2, e1, e2, e3, e4⟩ := tup i hi
      obtain ⟨b', o', n', t1', t2', e1', e2', e3', e4'⟩ := tup j hj
      unfold kas_ask
      rw [e1, e1']
      refine kat_lt e2 e4 e2' e4' ?_
      refine kat_cons (eqBool_str ?_)
      have hne : (keyS (l.getD i (0,0)).1 == keyS (l.getD j (0,0)).1) = false := by
        rw [beq_eq_false_iff_ne]
        intro e
        have e := keyS_inj _ _ e
        have hi' : i < (keysOf l).length := by simpa using hi
        have hj' : j < (keysOf l).length := by simpa using hj
        have hpw := List.pairwise_iff_getElem.mp hn
        have e' : (keysOf l)[i] = (keysOf l)[j] := by simpa [hi, hj] using e
        rcases Nat.lt_or_gt_of_ne hij with h | h
        · exact hpw i j hi' hj' h e'
        · exact hpw j i hj' hi' h e'.symm
      rw [hne]
      refine kat_no ?_
      refine oneLt_str ?_
      have e : askK (keysOf l) i j = decide ((keyS (l.getD i (0,0)).1).cps.toList < (keyS (l.getD j (0,0)).1).cps.toList) := by
        unfold askK kLt
        simp [hi, hj]
      rw [← e]
      exact hC _ rfl
    · subst hI
      refine KasFin.intro F' N' (.head fun p hp => Nat.ne_of_lt (hB p hp)) fun h'' cc F'' N'' => ?_
      have g2 : Gr c.Fs s.heap h'' := gr_of_news hL hm F'' N'' fun p hp => .tail _ hp
      have hD := (N'' _ (.head _)).1
      refine ⟨.mk g2, .mkList hD rfl rfl (fun m => ?_) ?_⟩
      · obtain ⟨o, eo⟩ := V.ex _ m
        exact Nat.lt_irrefl _ (hB (B, o) (mem_others.mpr ⟨(N'' _ (.head _)).2.1, eo⟩))
      · rw [← hr]
        exact RdAll.perm (RdAll.gr D g2 V.fs) _ hp

theorem Ev.sorted (hc : c.Ok) {e : Expr} {p pos : Pos} {l : List Pr} (he : c.Ev own ρ e (.list (l.map prD))) (hn : (keysOf l).Nodup) (hx : c.env.kindOf (Str.ofString "sorted") = some .globalImplicit) (hg : c.mg (Str.ofString "sorted") = none)
    (hts : backTo pos (starEach [e] c.env) = [(false, eval e c.env)]) : c.Ev own ρ (.Call (.Name (Str.ofString "sorted") p) [e] [] pos) (.list ((sortP l).map prD)) := fun E s V => by
  rw [arm_eval_Call_Name', hts]
  refine wpAny_bind (glob_bi hc V hx hg boot_sorted (by decide) ?_ (by decide))
  refine PySem.callWith_builtin1 (wpAny_mono (he E s V) (fun v s₁ ⟨g, D⟩ => ?_) fun _ _ x => x)
  obtain ⟨a, vs, rfl, il, Ds⟩ := D.inv_list
  exact wpAny_mono (call_sorted hc (V.gw hc g) (isList_of_hid il) Ds hn) (fun _ _ ⟨g', D⟩ => ⟨g.trans g', D⟩) fun _ _ x => x
end
end Mine

/-! N1 -/
namespace Mine
def sLt (x y : Str) : Bool := decide (x.cps.toList < y.cps.toList)
def pLt (p q : Pr) : Bool := if p.1 = q.1 then (if p.2 = q.2 then false else sLt (valS p.2) (valS q.2)) else sLt (keyS p.1) (keyS q.1)
section
variable {prog : Program} {w : World} {A : Around} {E : Value → Shared → Prop} {s : Shared}

theorem lt_tree {a b : Addr} {oa ob : Obj} {na nb : Nat} {k1 v1 k2 v2 : Str} {t1 t2 u1 u2 : Tok} {P : PySem.Fin → Shared → Prop} (ha : s.heap.get? a = some oa) (hda : oa.data = .seq #[.str k1 t1, .str v1 t2] na)
    (hb : s.heap.get? b = some ob) (hcb : ob.cls = .type "tuple") (hdb : ob.data = .seq #[.str k2 u1, .str v2 u2] nb)
    (h : P (.done (.ret (.bool (if k1 = k2 then (if v1 = v2 then false else sLt v1 v2) else sLt k1 k2)))) s) :
    wpAny (model prog w) A (Builtin.«tuple.__lt__» ⟨[.ref a, .ref b], []⟩) P E s := by
  show wpAny _ _ (isInstance (.ref b) (.type "tuple") >>= _) _ _ s
  refine wpAny_bind (wpAny_isInstance (s := s) (T := "tuple") ⟨ob, hb, hcb⟩ isSubtype_tuple_tuple ?_)
  simp only [Bool.not_true, Bool.false_eq_true, if_false]
  refine wpAny_bind (wpAny_tupleItemsOf ha hda ?_)
  refine wpAny_bind (wpAny_tupleItemsOf hb hdb ?_)
  refine wpAny_bind ?_
  show wpAny _ _ (forIn [(Value.str k1 t1, Value.str k2 u1), (.str v1 t2, .str v2 u2)] _ _) _ _ _
  rw [List.forIn_cons]
  refine wpAny_bind (wpAny_bind (wpAny_eqBool_str ?_))
  by_cases hk : k1 = k2
  · rw [if_pos hk] at h
    rw [decide_eq_true hk]
    simp only [Bool.not_true, Bool.false_eq_true, if_false]
    refine wpAny_pure ?_
    dsimp only
    rw [List.forIn_cons]
    refine wpAny_bind (wpAny_bind (wpAny_eqBool_str ?_))
    by_cases hv : v1 = v2
    · rw [if_pos hv] at h
      rw [decide_eq_true hv]
      simp only [Bool.not_true, Bool.false_eq_true, if_false]
      refine wpAny_pure ?_
      dsimp only
      rw [List.forIn_nil]
      exact wpAny_pure (wpAny_pure h)
    · rw [if_neg hv] at h
      rw [decide_eq_false hv]
      simp only [Bool.not_false, if_true]
      refine wpAny_bind (wpAny_rule (wpAny_bind ?_))
      show wpAny _ _ (compareOp .Lt (.str v1 t2) (.str v2 u2)) _ _ _
      refine PySem.P.lt_str ?_
      exact wpAny_bind (wpAny_pure (wpAny_pure (wpAny_pure (wpAny_pure h))))
  · rw [if_neg hk] at h
    rw [decide_eq_false hk]
    simp only [Bool.not_false, if_true]
    refine wpAny_bind (wpAny_rule (wpAny_bind ?_))
    show wpAny _ _ (compareOp .Lt (.str k1 t1) (.str k2 u1)) _ _ _
    refine PySem.P.lt_str ?_
    exact wpAny_bind (wpAny_pure (wpAny_pure (wpAny_pure (wpAny_pure h))))
theorem gt_tree {a b : Addr} {oa ob : Obj} {na nb : Nat} {k1 v1 k2 v2 : Str} {t1 t2 u1 u2 : Tok} {P : PySem.Fin → Shared → Prop} (ha : s.heap.get? a = some oa) (hda : oa.data = .seq #[.str k1 t1, .str v1 t2] na)
    (hb : s.heap.get? b = some ob) (hcb : ob.cls = .type "tuple") (hdb : ob.data = .seq #[.str k2 u1, .str v2 u2] nb)
    (h : P (.done (.ret (.bool (if k1 = k2 then (if v1 = v2 then false else sLt v2 v1) else sLt k2 k1)))) s) :
    wpAny (model prog w) A (Builtin.«tuple.__gt__» ⟨[.ref a, .ref b], []⟩) P E s := by
  show wpAny _ _ (isInstance (.ref b) (.type "tuple") >>= _) _ _ s
  refine wpAny_bind (wpAny_isInstance (s := s) (T := "tuple") ⟨ob, hb, hcb⟩ isSubtype_tuple_tuple ?_)
  simp only [Bool.not_true, Bool.false_eq_true, if_false]
  refine wpAny_bind (wpAny_tupleItemsOf ha hda ?_)
  refine wpAny_bind (wpAny_tupleItemsOf hb hdb ?_)
  refine wpAny_bind ?_
  show wpAny _ _ (forIn [(Value.str k1 t1, Value.str k2 u1), (.str v1 t2, .str v2 u2)] _ _) _ _ _
  rw [List.forIn_cons]
  refine wpAny_bind (wpAny_bind (wpAny_eqBool_str ?_))
  by_cases hk : k1 = k2
  · rw [if_pos hk] at h
    rw [decide_eq_true hk]
    simp only [Bool.not_true, Bool.false_eq_true, if_false]
    refine wpAny_pure ?_
    dsimp only
    rw [List.forIn_cons]
    refine wpAny_bind (wpAny_bind (wpAny_eqBool_str ?_))
    by_cases hv : v1 = v2
    · rw [if_pos hv] at h
      rw [decide_eq_true hv]
      simp only [Bool.not_true, Bool.false_eq_true, if_false]
      refine wpAny_pure ?_
      dsimp only
      rw [List.forIn_nil]
      exact wpAny_pure (wpAny_pure h)
    · rw [if_neg hv] at h
      rw [decide_eq_false hv]
      simp only [Bool.not_false, if_true]
      refine wpAny_bind (wpAny_rule (wpAny_bind ?_))
      show wpAny _ _ (compareOp .Gt (.str v1 t2) (.str v2 u2)) _ _ _
      refine PySem.P.gt_str ?_
      exact wpAny_bind (wpAny_pure (wpAny_pure (wpAny_pure (wpAny_pure h))))
  · rw [if_neg hk] at h
    rw [decide_eq_false hk]
    simp only [Bool.not_false, if_true]
    refine wpAny_bind (wpAny_rule (wpAny_bind ?_))
    show wpAny _ _ (compareOp .Gt (.str k1 t1) (.str k2 u1)) _ _ _
    refine PySem.P.gt_str ?_
    exact wpAny_bind (wpAny_pure (wpAny_pure (wpAny_pure (wpAny_pure h))))

theorem pr_inv {pw : PW} {h : Heap} {v : Value} {p : Pr} (D : Rd pw h v (prD p)) : ∃ a o n t u, v = .ref a ∧ h.get? a = some o ∧ o.cls = .type "tuple" ∧ o.data = .seq #[.str (keyS p.1) t, .str (valS p.2) u] n := by
  obtain ⟨b, o, ws, n, rfl, q1, q2, q3, q4⟩ := Rd.inv_tuple D
  obtain ⟨w1, _, rfl, d1, q4⟩ := q4.uncons
  obtain ⟨w2, _, rfl, d2, q4⟩ := q4.uncons
  rw [q4.unnil] at q3
  obtain ⟨t1, rfl⟩ := d1.inv_str
  obtain ⟨t2, rfl⟩ := d2.inv_str
  exact ⟨b, o, n, t1, t2, rfl, q1, q2, q3⟩
theorem pLt_eq (p q : Pr) : (if keyS p.1 = keyS q.1 then (if valS p.2 = valS q.2 then false else sLt (valS p.2) (valS q.2)) else sLt (keyS p.1) (keyS q.1)) = pLt p q := by
  unfold pLt
  have e1 : (keyS p.1 = keyS q.1) = (p.1 = q.1) := propext ⟨keyS_inj _ _, fun h => by rw [h]⟩
  have e2 : (valS p.2 = valS q.2) = (p.2 = q.2) := propext ⟨valS_inj _ _, fun h => by rw [h]⟩
  simp only [e1, e2]
theorem cmp_lt {pw : PW} {v₁ v₂ : Value} {p q : Pr} {Q : Value → Shared → Prop} (hu : A.units < cLine) (D₁ : Rd pw s.heap v₁ (prD p)) (D₂ : Rd pw s.heap v₂ (prD q)) (h : Q (.bool (pLt p q)) s) : wpAny (model prog w) A (compareOp .Lt v₁ v₂) Q E s := by
  obtain ⟨a, oa, na, t1, t2, rfl, q1, q2, q3⟩ := pr_inv D₁
  obtain ⟨b, ob, nb, u1, u2, rfl, r1, r2, r3⟩ := pr_inv D₂
  refine wpAny_richCompare_same_room (op := .Lt) (T := "tuple") ⟨_, q1, q2⟩ ⟨_, r1, r2⟩ PySem.F.slot_tuple_lt ?_ hu
  refine wpAny_call_entry PySem.F.slot_tuple_lt ⟨_, q1, q2⟩ PySem.F.entry_tuple_lt ?_ (PySem.F.args_tuple_lt_2 _ _)
  refine lt_tree q1 q3 r1 r2 r3 ⟨_, rfl, nofun, ?_⟩
  rw [pLt_eq]; exact h
theorem cmp_gt {pw : PW} {v₁ v₂ : Value} {p q : Pr} {Q : Value → Shared → Prop} (hu : A.units < cLine) (D₁ : Rd pw s.heap v₁ (prD p)) (D₂ : Rd pw s.heap v₂ (prD q)) (h : Q (.bool (pLt q p)) s) : wpAny (model prog w) A (compareOp .Gt v₁ v₂) Q E s := by
  obtain ⟨a, oa, na, t1, t2, rfl, q1, q2, q3⟩ := pr_inv D₁
  obtain ⟨b, ob, nb, u1, u2, rfl, r1, r2, r3⟩ := pr_inv D₂
  refine wpAny_richCompare_same_room (op := .Gt) (T := "tuple") ⟨_, q1, q2⟩ ⟨_, r1, r2⟩ PySem.F.slot_tuple_gt ?_ hu
  refine wpAny_call_entry PySem.F.slot_tuple_gt ⟨_, q1, q2⟩ PySem.F.entry_tuple_gt ?_ (PySem.F.args_tuple_gt_2 _ _)
  refine gt_tree q1 q3 r1 r2 r3 ⟨_, rfl, nofun, ?_⟩
  rw [← pLt_eq] at h
  have e : (if keyS p.1 = keyS q.1 then (if valS p.2 = valS q.2 then false else sLt (valS q.2) (valS p.2)) else sLt (keyS q.1) (keyS p.1)) = (if keyS q.1 = keyS p.1 then (if valS q.2 = valS p.2 then false else sLt (valS q.2) (valS p.2)) else sLt (keyS q.1) (keyS p.1)) := by
    have e1 : (keyS p.1 = keyS q.1) = (keyS q.1 = keyS p.1) := propext ⟨Eq.symm, Eq.symm⟩
    have e2 : (valS p.2 = valS q.2) = (valS q.2 = valS p.2) := propext ⟨Eq.symm, Eq.symm⟩
    simp only [e1, e2]
  rw [e]; exact h
end
end Mine

/-! N2 -/
namespace Mine

/-- an object of the call's own that no name holds -/
structure Mine1 (c : C) (h₀ : Heap) (O own : List Addr) (ω : List (Str × Addr × OD)) (e : Addr) : Prop where
  mem : e ∈ own
  ap : Apart c ω e
  h0 : h₀.get? e = none
  out : e ∉ O
theorem Mine1.more {c : C} {h₀ : Heap} {O own own' : List Addr} {ω : List (Str × Addr × OD)} {e : Addr} (x : Mine1 c h₀ O own ω e) (h : ∀ a ∈ own, a ∈ own') : Mine1 c h₀ O own' ω e := { x with mem := h _ x.mem }

/-- an IndexError -/
structure Fl (c : C) (h₀ : Heap) (O own : List Addr) (ω : List (Str × Addr × OD)) (h : Heap) (e : Addr) (tr z : Bool) : Prop where
  me : Mine1 c h₀ O own ω e
  ob : ∃ oe vs, h.get? e = some oe ∧ oe.cls = .type "IndexError" ∧ oe.data = .fields vs ∧ 2 < vs.size ∧ (z = true → vs[2]? = some .none) ∧
    ((tr = false ∧ vs[1]? = some .none) ∨ ∃ T oT ts, vs[1]? = some (.ref T) ∧ T ≠ e ∧ Mine1 c h₀ O own ω T ∧ h.get? T = some oT ∧ oT.data = .fields ts ∧ 3 < ts.size)

theorem Gr.slots {Fs : List Addr} {h h' : Heap} (x : Heap.SlotsOnly Fs h h') : Gr Fs h h' where
  keep := fun b o n e => (x.2.1 b n).trans e
  names := fun b m n e => by
    obtain ⟨o, es, ep, e1, e2, e3, e4⟩ := e
    obtain ⟨sl, e5⟩ := x.2.2 b o e1
    exact ⟨_, es, ep, e5, e2, e3, e4⟩

theorem funFrames {c : C} (hc : c.Ok) {h : Heap} (hf : ∀ a ∈ c.Fs, ∃ m, h.Ns a m) : h.FunFrames {} c.frs := by
  have key : ∀ l : List Env, (∀ e ∈ l, e.scope.kind ≠ .module ∧ ∃ L, e.frame = some L) → (∀ a ∈ l.filterMap (·.frame), ∃ m, h.Ns a m) → h.FunFrames {} l := by
    intro l
    induction l with
    | nil => intro _ _; trivial
    | cons e l ih =>
      intro h1 h2
      obtain ⟨k, L, hL⟩ := h1 e (.head _)
      refine ⟨k, ?_, ih (fun e he => h1 e (.tail _ he)) fun a ha => h2 a ?_⟩
      · obtain ⟨m, o, es, ep, e1, e2, _⟩ := h2 L (by rw [List.filterMap_cons, hL]; exact .head _)
        exact ⟨L, o, hL, rfl, e1, fun vs q => by rw [e2] at q; cases q⟩
      · rw [List.filterMap_cons, hL]; exact .tail _ ha
  exact key c.frs hc.fun_ hf

/-- the state, an exception being there -/
def C.StX (c : C) (h₀ : Heap) (s₀ : Shared) (O : List Addr) (ρ : List (Str × PyData)) (ω : List (Str × Addr × OD)) (e : Addr) (tr z : Bool) (s : Shared) : Prop :=
  ∃ own, c.StO h₀ s₀ O own ρ ω s ∧ Fl c h₀ O own ω s.heap e tr z

section
variable {c : C} {M : Model} {A : Around} {E : Value → Shared → Prop} {s : Shared} {h₀ : Heap} {s₀ : Shared} {O own : List Addr} {ρ : List (Str × PyData)} {ω : List (Str × Addr × OD)} {e : Addr} {tr z : Bool}

theorem C.StX.st (x : c.StX h₀ s₀ O ρ ω e tr z s) : c.St h₀ s₀ O ρ ω s := ⟨_, x.choose_spec.1⟩
theorem C.StX.sub (x : c.StX h₀ s₀ O ρ ω e tr z s) {ρ' : List (Str × PyData)} (hs : ∀ p ∈ ρ', p ∈ ρ) : c.StX h₀ s₀ O ρ' ω e tr z s := let ⟨own, S, F⟩ := x; ⟨own, S.sub hs, F⟩

theorem StX.entry (x : c.StX h₀ s₀ O ρ ω e tr z s) (hc : c.Fn) (hA : A.frames = some c.frs) {head : Value} {had : Bool} {Q : Unit → Shared → Prop} (hQ : ∀ s', c.StX h₀ s₀ O ρ ω e true z s' → Q () s') :
    wpAny M A (do setField (.ref e) 1 (← EntryCells.newEntry head (← frameOf c.env) .none (rawInt c.env.locals) .none (← entryPlaceOf c.env.locals had))) Q E s := by
  obtain ⟨own, S, F⟩ := x
  obtain ⟨r, hr⟩ := hc.top
  have hFs : c.Fs = (c.env :: r).filterMap (·.frame) := by unfold C.Fs; rw [hr]
  have ff := funFrames hc.ok S.vs.frames
  rw [hr] at ff hA
  refine wpAny_bind (wpAny_frameOf_fun hA ff hc.fr fun h₁ hs₁ => ?_)
  rw [← hFs] at hs₁
  have S₁ := S.grow hc (s' := { s with heap := h₁ }) (.mk (Gr.slots hs₁))
  refine wpAny_bind (wpAny_entryPlaceOf fun pl hpl => ?_)
  unfold EntryCells.newEntry newFields
  refine wpAny_bind (wpAny_newObj_type ?_ (hpl.sizeOk5 _ _ _ _ _))
  obtain ⟨oe, vs, e1, e2, e3, e4, e5, e6⟩ := F.ob
  have he₁ : h₁.get? e = some oe := (hs₁.2.1 e F.me.ap.fs).trans e1
  generalize hob : ({ cls := .type "traceback", dict := none, data := .fields ([head, .ref c.env.locals, .none, rawInt c.env.locals, .none] ++ (if pl.isEmpty then List.replicate 6 Value.none else pl)).toArray } : Obj) = oT
  have hfr : oT.isFreed = false := by rw [← hob]; rfl
  obtain ⟨S₂, apT, h0T, hOT⟩ := S₁.growOwn hc (s' := { s with heap := h₁.push oT }) (.mk .push) (C := h₁.objs.size) (Heap.get?_none_of_le (Nat.le_refl _)) ⟨_, Heap.get?_push_size h₁ hfr⟩ (Nat.le_refl _)
  have he₂ := Heap.get?_push_of_some oT he₁
  have hT₂ := Heap.get?_push_size h₁ hfr
  have hTe : h₁.objs.size ≠ e := Nat.ne_of_gt (Heap.lt_size he₁)
  have hd₃ := Obj.data_mapFields e3 (·.setIfInBounds 1 (Value.ref h₁.objs.size))
  have he₃ := Heap.get?_update_self (Obj.mapFields (·.setIfInBounds 1 (Value.ref h₁.objs.size))) he₂ (Obj.isFreed_of_fields hd₃)
  refine wpAny_setField he₂ e3 (by omega) (hQ _ ⟨_, S₂.poke hc F.me.ap F.me.h0 (.tail _ F.me.mem) (fun b o nb eo => (Heap.get?_update_other _ _ (Ne.symm nb)).trans eo) (.inl ⟨rfl, _, he₃⟩), ?_⟩)
  refine ⟨F.me.more fun _ m => .tail _ m, _, _, he₃, (Obj.cls_mapFields _ _).trans e2, hd₃, by simpa using e4, fun hz => ?_, .inr ⟨h₁.objs.size, oT, ([head, .ref c.env.locals, .none, rawInt c.env.locals, .none] ++ (if pl.isEmpty then List.replicate 6 Value.none else pl)).toArray, ?_, hTe, ⟨.head _, apT, h0T, hOT⟩, ?_, ?_, ?_⟩⟩
  · have := e5 hz
    rw [Array.getElem?_setIfInBounds]
    simpa using this
  · rw [Array.getElem?_setIfInBounds]
    simp; omega
  · exact (Heap.get?_update_other _ _ (Ne.symm hTe)).trans hT₂
  · rw [← hob]
  · simp only [List.size_toArray, List.length_append, List.length_cons, List.length_nil]; omega

/-- the traceback's field is written -/
theorem StX.mark (x : c.StX h₀ s₀ O ρ ω e true z s) (hc : c.Fn) {T : Addr} {oT : Obj} {ts : Array Value} {y : Value} (hT : T ≠ e) (t4 : s.heap.get? T = some oT) (t5 : oT.data = .fields ts) (t6 : 3 < ts.size)
    (hx : ∃ own oe vs, c.StO h₀ s₀ O own ρ ω s ∧ Mine1 c h₀ O own ω e ∧ Mine1 c h₀ O own ω T ∧ s.heap.get? e = some oe ∧ oe.cls = .type "IndexError" ∧ oe.data = .fields vs ∧ 2 < vs.size ∧ (z = true → vs[2]? = some .none) ∧ vs[1]? = some (.ref T)) :
    c.StX h₀ s₀ O ρ ω e true z { s with heap := s.heap.update T (Obj.mapFields (·.setIfInBounds 3 y)) } := by
  obtain ⟨own, oe, vs, S, m1, m2, e1, e2, e3, e4, e5, e6⟩ := hx
  have hd₃ := Obj.data_mapFields t5 (·.setIfInBounds 3 y)
  have hT₃ := Heap.get?_update_self (Obj.mapFields (·.setIfInBounds 3 y)) t4 (Obj.isFreed_of_fields hd₃)
  refine ⟨own, S.poke hc m2.ap m2.h0 m2.mem (tk := s.toks) (fun b o nb eo => (Heap.get?_update_other _ _ (Ne.symm nb)).trans eo) (.inl ⟨rfl, _, hT₃⟩), m1, oe, vs, (Heap.get?_update_other _ _ hT).trans e1, e2, e3, e4, e5, .inr ⟨T, _, _, e6, hT, m2, hT₃, hd₃, by simpa using t6⟩⟩

theorem StX.note (x : c.StX h₀ s₀ O ρ ω e tr z s) (hc : c.Fn) (hA : A.frames = some c.frs) {Q : Unit → Shared → Prop} (hQ : ∀ s', c.StX h₀ s₀ O ρ ω e true z s' → Q () s') :
    wpAny M A (noteFrame (.ref e) c.env) Q E s := by
  obtain ⟨own, S, F⟩ := id x
  obtain ⟨oe, vs, e1, e2, e3, e4, e5, e6⟩ := F.ob
  unfold noteFrame
  simp only [hc.fr]
  rcases e6 with ⟨ht, e6⟩ | ⟨T, oT, ts, t1, t2, t3, t4, t5, t6⟩
  · refine wpAny_bind (wpAny_field e1 e3 e6 ?_)
    rw [if_neg (by decide)]
    exact StX.entry x hc hA hQ
  · refine wpAny_bind (wpAny_field e1 e3 t1 ?_)
    rw [if_pos (show (Value.ref T != Value.none) = true from by simp)]
    obtain ⟨y, hy⟩ : ∃ y, ts[3]? = some y := ⟨ts[3], by simp [t6]⟩
    have x' : c.StX h₀ s₀ O ρ ω e true z s := ⟨own, S, F.me, oe, vs, e1, e2, e3, e4, e5, .inr ⟨T, oT, ts, t1, t2, t3, t4, t5, t6⟩⟩
    refine wpAny_bind (wpAny_field t4 t5 hy ?_)
    by_cases hyl : (y == rawInt c.env.locals) = true
    · rw [if_pos hyl]
      exact wpAny_pure (hQ s x')
    · rw [if_neg hyl]
      refine wpAny_bind (wpAny_setField t4 t5 t6 ?_)
      exact StX.entry (StX.mark x' hc t2 t4 t5 t6 ⟨own, oe, vs, S, F.me, t3, e1, e2, e3, e4, e5, t1⟩) hc hA hQ

theorem StX.flight (x : c.StX h₀ s₀ O ρ ω e true z s) (hc : c.Fn) {f : Option Addr} {Q : Unit → Shared → Prop} (hQ : ∀ s', c.StX h₀ s₀ O ρ ω e true z s' → Q () s') : wpAny M A (setFlight (.ref e) f) Q E s := by
  obtain ⟨own, S, F⟩ := id x
  obtain ⟨oe, vs, e1, e2, e3, e4, e5, e6⟩ := F.ob
  rcases e6 with ⟨ht, _⟩ | ⟨T, oT, ts, t1, t2, t3, t4, t5, t6⟩
  · cases ht
  · unfold setFlight
    refine wpAny_bind (wpAny_field e1 e3 t1 ?_)
    rw [if_pos (show (Value.ref T != Value.none) = true from by simp)]
    exact wpAny_setField t4 t5 t6 (hQ _ (StX.mark x hc t2 t4 t5 t6 ⟨own, oe, vs, S, F.me, t3, e1, e2, e3, e4, e5, t1⟩))
theorem StX.has (x : c.StX h₀ s₀ O ρ ω e true z s) {Q : Value → Shared → Prop} (hQ : ∀ T, Q (.ref T) s) : wpAny M A (field (.ref e) 1) Q E s := by
  obtain ⟨own, S, F⟩ := id x
  obtain ⟨oe, vs, e1, e2, e3, e4, e5, e6⟩ := F.ob
  rcases e6 with ⟨ht, _⟩ | ⟨T, oT, ts, t1, t2, t3, t4, t5, t6⟩
  · cases ht
  · exact wpAny_field e1 e3 t1 (hQ T)
theorem StX.back (x : c.StX h₀ s₀ O ρ ω e true z s) (hc : c.Fn) {E' : Value → Shared → Prop} (hQ : ∀ s', c.StX h₀ s₀ O ρ ω e true z s' → E' (.ref e) s') : cameBackBy M A c.env E' (.ref e) s := by
  unfold cameBackBy
  refine wpAny_bind (StX.has x fun T => ?_)
  rw [if_neg (by simp)]
  exact StX.flight x hc hQ
theorem StX.noted (x : c.StX h₀ s₀ O ρ ω e tr z s) (hc : c.Fn) (hA : A.frames = some c.frs) {E' : Value → Shared → Prop} (hQ : ∀ s', c.StX h₀ s₀ O ρ ω e true z s' → E' (.ref e) s') : notedBy M A c.env E' (.ref e) s := by
  unfold notedBy
  exact StX.note x hc hA hQ
theorem StX.pass {α : Type} {what : String} (x : c.StX h₀ s₀ O ρ ω e true z s) (hc : c.Fn) {Q : α → Shared → Prop} (hQ : ∀ s', c.StX h₀ s₀ O ρ ω e true z s' → E (.ref e) s') : wpAny M A (PySem.passOn what (.ref e) c.env) Q E s := by
  unfold PySem.passOn
  refine wpAny_bind (StX.has x fun T => ?_)
  rw [if_neg (by simp)]
  exact wpAny_bind (StX.flight x hc fun s' x' => wpAny_throw (hQ s' x'))
theorem StX.typeIs (x : c.StX h₀ s₀ O ρ ω e tr z s) : s.TypeIs (.ref e) "IndexError" := by
  obtain ⟨own, S, F⟩ := x
  obtain ⟨oe, vs, e1, e2, _⟩ := F.ob
  exact ⟨oe, e1, e2⟩
theorem hide_keeps0 {Fs own own' : List Addr} {h h' : Heap} (g : Gr Fs h h') (hf : ∀ a ∈ Fs, a ∈ own) (ho : ∀ a ∈ own', a ∈ own ∨ h.get? a = none) :
    ∀ b o, (hideAll h own).get? b = some o → (hideAll h' own').get? b = some o := fun b o e => by
  have hn : b ∉ own := fun m => by rw [hideAll_none own m] at e; cases e
  have e' := of_hideAll own e
  refine hideAll_get own' (g.keep b o (fun m => hn (hf b m)) e') fun m => ?_
  rcases ho b m with m | m
  · exact hn m
  · rw [m] at e'; cases e'
theorem C.StO.growOwn0 {own : List Addr} {s s' : Shared} (S : c.StO h₀ s₀ O own ρ ω s) (hc : c.Fn) (g : Gw c.Fs s s') {C : Addr} (h0 : s.heap.get? C = none) (hex : ∃ o, s'.heap.get? C = some o) : c.StO h₀ s₀ O (C :: own) ρ ω s' ∧ Apart c ω C ∧ h₀.get? C = none ∧ C ∉ O := by
  have S' := S.grow hc g
  have hCo : C ∉ own := fun m => by obtain ⟨o, e⟩ := S.vs.ex C m; rw [h0] at e; cases e
  have hfr : ∀ a ∈ C :: own, a ∈ own ∨ s.heap.get? a = none := fun a m => (List.mem_cons.mp m).elim (fun e => .inr (e ▸ h0)) .inl
  have hFC : C ∉ c.Fs := fun m => hCo (S.vs.fs _ m)
  have h00 : h₀.get? C = none := by
    cases e : h₀.get? C with
    | none => rfl
    | some o => rw [S.gr.keep C o hFC e] at h0; cases h0
  refine ⟨?_, ⟨fun e => hCo (e ▸ S.loc.1), hFC, fun p hp e => hCo (e ▸ (S.cell p hp).1), fun q hq e => hCo (e ▸ (S.owned q hq).1)⟩, h00, fun m => hCo (S.out _ m)⟩
  exact {
    vs := {
      keep := S'.vs.keep
      fs := fun a m => .tail _ (S.vs.fs a m)
      ex := fun a m => (List.mem_cons.mp m).elim (fun e => e ▸ hex) (S'.vs.ex a)
      frames := S'.vs.frames
      cells := S'.vs.cells
      cex := S'.vs.cex
      vars := fun p hp => let ⟨v, e, D⟩ := S.vs.vars p hp; ⟨v, e.gr g.gr S.vs.cells, D.keeps (hide_keeps0 g.gr S.vs.fs hfr)⟩ }
    gr := S'.gr
    bot := S.bot
    eqs := S'.eqs
    out := fun a m => .tail _ (S.out a m)
    fresh := fun a m => (List.mem_cons.mp m).elim (fun e => .inr (e ▸ h00)) (S.fresh a)
    loc := ⟨.tail _ S.loc.1, S'.loc.2⟩
    cell := fun p hp => let ⟨a, b⟩ := S'.cell p hp; ⟨.tail _ a, b⟩
    owned := fun q hq => by
      obtain ⟨a1, a2, a3, a4, a5, a6⟩ := S.owned q hq
      refine ⟨.tail _ a1, a2, a3, a4, a5.gr g.gr S.vs.cells, ?_⟩
      cases hd : q.2.2 with
      | list ds => rw [hd] at a6; obtain ⟨vs, n, e, D⟩ := a6; exact ⟨vs, n, g.gr.keep _ _ a4 e, D.keeps (hide_keeps0 g.gr S.vs.fs hfr)⟩
      | dict es => rw [hd] at a6; exact a6.gr g.gr S.vs.fs a4
    apart := S.apart }

/-- a new one -/
theorem StX.of_new (S : c.St h₀ s₀ O ρ ω s) (hc : c.Fn) {h' : Heap} {tk : Nat} (n : Heap.NewExc s.heap h' e "IndexError") : c.StX h₀ s₀ O ρ ω e false true { s with heap := h', toks := tk } := by
  obtain ⟨own, S⟩ := S
  obtain ⟨ob, t, e1, e2, e3⟩ := n.there
  obtain ⟨S₂, ap, h0, hO⟩ := S.growOwn0 hc (s' := { s with heap := h', toks := tk }) (.mk (.of n.keeps)) n.new ⟨_, e1⟩
  exact ⟨_, S₂, ⟨.head _, ap, h0, hO⟩, ob, _, e1, e2, e3, by simp, fun _ => by simp, .inl ⟨rfl, by simp⟩⟩
end
end Mine

/-! N3 -/
namespace Mine
theorem entry_unchain : entryFor table "proto.unchain" = some Builtin.«proto.unchain» := entryFor_of_fast (by kernel_rfl)
section
variable {α : Type} {prog : Program} {w : World} {A : Around} {E : Value → Shared → Prop} {s : Shared}

theorem raise_held {msg : String} {Q : α → Shared → Prop} {c : C} {h₀ : Heap} {s₀ : Shared} {O : List Addr} {ρ : List (Str × PyData)} {ω : List (Str × Addr × OD)} {e₁ : Addr} {tr : Bool} (x : c.StX h₀ s₀ O ρ ω e₁ tr true s) (hc : c.Fn) (hA : A.handled = some (.ref e₁))
    (hE : ∀ s' e, c.StX h₀ s₀ O ρ ω e false false s' → E (.ref e) s') :
    wpAny (model prog w) A (raiseErrorWords "IndexError" msg : Sem α) Q E s := by
  obtain ⟨own, S, F⟩ := x
  unfold raiseErrorWords
  refine wpAny_bind (wpAny_mkText (wpAny_bind ?_))
  unfold newExc newTuple
  refine wpAny_bind (wpAny_newObj_type ?_)
  refine wpAny_bind (m := firstArgMember _ _) (wpAny_of_eq (a := Value.none) (by simp only [firstArgMember, plainExc_IndexError.first]; rfl) ?_)
  rw [plainExc_IndexError.own]
  refine wpAny_newObj_type ?_
  unfold raiseNew
  refine wpAny_bind (wpAny_handled ?_)
  rw [hA]
  obtain ⟨oe, vs, e1, e2, e3, e4, e5, e6⟩ := F.ob
  generalize hT : ({ cls := .type "tuple", dict := none, data := .seq [Value.str (msg : Str) s.toks].toArray } : Obj) = oT
  have k1 := Heap.get?_push_of_some oT e1
  have hne : e₁ ≠ (s.heap.push oT).objs.size := Nat.ne_of_lt (Heap.lt_size k1)
  dsimp only
  rw [if_pos (by simpa using hne)]
  generalize hN : ({ cls := .type "IndexError", dict := none, data := .fields (#[Value.ref s.heap.objs.size, .none, .none, .none, .bool false, .none] ++ #[]) } : Obj) = oN
  have hNd : oN.data = .fields (#[Value.ref s.heap.objs.size, .none, .none, .none, .bool false, .none] ++ #[]) := by rw [← hN]
  have hNf : oN.isFreed = false := by rw [← hN]; rfl
  have ko := Heap.get?_push_of_some oN k1
  refine wpAny_bind (wpAny_holding (wpAny_runValue (codeAny_builtin entry_unchain ?_)))
  show wpAny _ _ (field (.ref e₁) 2 >>= _) _ _ _
  refine wpAny_bind (wpAny_field ko e3 (e5 rfl) ?_)
  rw [if_pos (by rfl)]
  refine wpAny_pure ?_
  show wpAny _ _ (setField (.ref (s.heap.push oT).objs.size) 2 (.ref e₁) >>= _) _ _ _
  have kn := Heap.get?_push_size (s.heap.push oT) hNf
  have hd₃ := Obj.data_mapFields hNd (·.setIfInBounds 2 (Value.ref e₁))
  have kn₂ := Heap.get?_update_self (Obj.mapFields (·.setIfInBounds 2 (Value.ref e₁))) kn (Obj.isFreed_of_fields hd₃)
  obtain ⟨S₂, ap, h0, hO⟩ := (S.grow hc (s' := { s with heap := s.heap.push oT, toks := s.toks + 1 }) (.mk .push)).growOwn hc (s' := { s with heap := (s.heap.push oT).push oN, toks := s.toks + 1 }) (.mk .push) (C := (s.heap.push oT).objs.size) (Heap.get?_none_of_le (Nat.le_refl _)) ⟨_, kn⟩ (Nat.le_refl _)
  refine wpAny_bind (wpAny_setField kn hNd (by simp) (wpAny_throw (hE _ _ ⟨_, S₂.poke hc ap h0 (.head _) (fun b o nb eo => (Heap.get?_update_other _ _ (Ne.symm nb)).trans eo) (.inl ⟨rfl, _, kn₂⟩), ⟨.head _, ap, h0, hO⟩, _, _, kn₂, ?_, hd₃, by simp, nofun, .inl ⟨rfl, by simp⟩⟩)))
  rw [Obj.cls_mapFields, ← hN]

/-- an item behind the end, one exception being handled -/
theorem getItem_held {l : Addr} {items : Array Value} {j : Nat} {t : Tok} {Q : Value → Shared → Prop} {c : C} {h₀ : Heap} {s₀ : Shared} {O : List Addr} {ρ : List (Str × PyData)} {ω : List (Str × Addr × OD)} {e₁ : Addr} {tr : Bool} (x : c.StX h₀ s₀ O ρ ω e₁ tr true s) (hcf : c.Fn) (hA : A.handled = some (.ref e₁))
    {k : Int} (hk : k = Int.ofNat j) (hl : s.heap.IsList l items) (hout : items.size ≤ j) (hhi : k < 2 ^ 63)
    (hE : ∀ s' e, c.StX h₀ s₀ O ρ ω e false false s' → E (.ref e) s') :
    wpAny (model prog w) A (getItem (.ref l) (.int k t)) Q E s := by
  have hlo : -(2 ^ 63) ≤ k := by rw [hk]; simp only [Int.ofNat_eq_natCast]; omega
  obtain ⟨o, ho, hc, ne, hd⟩ := id hl
  unfold getItem
  try with_reducible refine wpAny_holding ?_
  first | refine wpAny_bind (wpAny_pure ?_) | skip
  refine wpAny_bind (wpAny_sequenceKey hl.typeIs (by decide) ?_)
  refine wpAny_bind (wpAny_callSpecial?_slot (name := Str.ofString "__getitem__") hl.typeIs slot_list_getitem
    (wpAny_call_entry slot_list_getitem hl.typeIs entry_list_getitem ?_ (args_list_getitem _ _)))
  show wpAny _ _ (Builtin.List.listSubscript? (.int k t) >>= _) _ _ s
  refine wpAny_bind (wpAny_listSubscript_int (fitsIndex_both hlo hhi) ?_)
  clear hlo hhi
  subst hk
  have hx : items[j]? = none := Array.getElem?_eq_none hout
  show wpAny _ _ ((seqItemAt l j >>= fun r => pure (r.map (j, ·))) >>= _) _ _ s
  refine wpAny_bind (wpAny_bind (wpAny_seqItemAt ho hd (wpAny_pure ?_)))
  rw [hx]
  first
    | exact wpAny_bind (wpAny_rule (raise_held x hcf hA hE))
    | exact wpAny_bind (wpAny_rule (wpAny_bind (raise_held x hcf hA hE)))
    | exact wpAny_bind (wpAny_bind (wpAny_rule (raise_held x hcf hA hE)))
    | exact wpAny_rule (raise_held x hcf hA hE)
end
end Mine

/-! N4 -/
namespace Mine
section
variable {c : C} {A : Around} {E : Value → Shared → Prop} {s : Shared} {h₀ : Heap} {s₀ : Shared} {O own : List Addr} {ρ : List (Str × PyData)} {ω pre post : List (Str × Addr × OD)} {e : Addr} {tr z : Bool}

theorem H.name (V : c.Vs own ρ s.heap) (hc : c.Ok) {x : Str} {p : Pos} {d : PyData} (h : ρ.lookup x = some d) {Q : Value → Shared → Prop} (q : ∀ v, Den c.toPW s.heap own v d → Q v s) (hd : (x == ("__debug__" : Str)) = false := by decide) :
    wpAny (model c.prog c.w) A (eval (.Name x p) c.env) Q E s := by
  obtain ⟨v, hv, hD⟩ := V.vars _ (mem_of_lookup h)
  exact wpAny_Name (hv.load hc.kind (q v hD)) hd

/-- x += 1 -/
theorem H.aug (S : c.StO h₀ s₀ O own ρ ω s) (hc : c.Fn) {x : Str} {n : Nat} {p q pos : Pos} {k : Int} (hk : ρ.lookup x = some (.int k)) (hx : c.env.kindOf x = some .local ∨ c.env.kindOf x = some .cell) (hω : ∀ q ∈ ω, q.1 ≠ x) :
    wpAny (model c.prog c.w) A (exec (.AugAssign (.Name x p) .Add (.Constant (.int 1) n q) pos) c.env)
      (fun f s' => f = .next ∧ c.StO h₀ s₀ O own (put ρ x (.int (k + 1))) ω s' ∧ ∃ a ∈ own, (a = c.env.locals ∨ ∃ v, s.heap.IsCell a v) ∧ Heap.SameBut a s.heap s'.heap) E s := by
  obtain ⟨v, hv, D⟩ := S.vs.vars _ (mem_of_lookup hk)
  obtain ⟨t, rfl⟩ := D.inv_int
  refine wpAny_AugAssign_Name (hv.load hc.ok.kind ?_)
  show wpAny _ _ (mkInt 1) _ _ _
  refine wpAny_mkInt (PySem.P.iadd_int ?_)
  have S₁ := S.grow hc (s' := { s with toks := s.toks + 1 + 1 }) .toks
  exact wpAny_mono (S₁.store' hc hx (d := .int (k + 1)) (.int ..) hω) (fun _ s₂ ⟨S₂, r⟩ => ⟨rfl, S₂, r⟩) fun _ _ x => x

theorem Fl.same (F : Fl c h₀ O own ω s.heap e tr z) {h' : Heap} {a : Addr} (ha : a = c.env.locals ∨ ∃ v, s.heap.IsCell a v) (hs : Heap.SameBut a s.heap h') : Fl c h₀ O own ω h' e tr z := by
  have ne : ∀ b o vs, Mine1 c h₀ O own ω b → s.heap.get? b = some o → o.data = .fields vs → h'.get? b = some o := fun b o vs m e1 e2 => (hs.2 b fun q => by
    rcases ha with e | ⟨v, o', e3, e4⟩
    · exact m.ap.loc (q.trans e)
    · rw [← q, e1] at e3; cases e3; rw [e2] at e4; cases e4).trans e1
  obtain ⟨me, oe, vs, e1, e2, e3, e4, e5, e6⟩ := F
  refine ⟨me, oe, vs, ne _ _ _ me e1 e3, e2, e3, e4, e5, e6.imp id fun ⟨T, oT, ts, t1, t2, t3, t4, t5, t6⟩ => ⟨T, oT, ts, t1, t2, t3, ne _ _ _ t3 t4 t5, t5, t6⟩⟩

theorem H.augX (x : c.StX h₀ s₀ O ρ ω e tr z s) (hc : c.Fn) {y : Str} {n : Nat} {p q pos : Pos} {k : Int} (hk : ρ.lookup y = some (.int k)) (hx : c.env.kindOf y = some .local ∨ c.env.kindOf y = some .cell) (hω : ∀ q ∈ ω, q.1 ≠ y) :
    wpAny (model c.prog c.w) A (exec (.AugAssign (.Name y p) .Add (.Constant (.int 1) n q) pos) c.env) (fun f s' => f = .next ∧ c.StX h₀ s₀ O (put ρ y (.int (k + 1))) ω e tr z s') E s := by
  obtain ⟨own, S, F⟩ := x
  exact wpAny_mono (H.aug S hc hk hx hω) (fun f s' ⟨hf, S', a, _, ha, hs⟩ => ⟨hf, own, S', F.same ha hs⟩) fun _ _ x => x
theorem H.augS (S : c.St h₀ s₀ O ρ ω s) (hc : c.Fn) {y : Str} {n : Nat} {p q pos : Pos} {k : Int} (hk : ρ.lookup y = some (.int k)) (hx : c.env.kindOf y = some .local ∨ c.env.kindOf y = some .cell) (hω : ∀ q ∈ ω, q.1 ≠ y) :
    wpAny (model c.prog c.w) A (exec (.AugAssign (.Name y p) .Add (.Constant (.int 1) n q) pos) c.env) (fun f s' => f = .next ∧ c.St h₀ s₀ O (put ρ y (.int (k + 1))) ω s') E s := by
  obtain ⟨own, S⟩ := S
  exact wpAny_mono (H.aug S hc hk hx hω) (fun f s' ⟨hf, S', _⟩ => ⟨hf, own, S'⟩) fun _ _ x => x

/-- x[y], in range -/
theorem H.item (V : c.Vs own ρ s.heap) (hc : c.Ok) {x y : Str} {p q pos : Pos} {l : List PyData} {j : Nat} {d : PyData} (hl : ρ.lookup x = some (.list l)) (hy : ρ.lookup y = some (.int j)) (hj : l[j]? = some d) (hk : (j : Int) < 2 ^ 63) {Q : Value → Shared → Prop} (hQ : ∀ v, Den c.toPW s.heap own v d → Q v s)
    (hd : (x == ("__debug__" : Str)) = false := by decide) (hd' : (y == ("__debug__" : Str)) = false := by decide) :
    wpAny (model c.prog c.w) A (eval (.Subscript (.Name x p) (.Name y q) pos) c.env) Q E s := by
  refine Subscript_ (H.name V hc hl (fun v D => H.name V hc hy (fun u D' => ?_) hd') hd)
  obtain ⟨a, vs, rfl, i₁, ds⟩ := D.inv_list
  obtain ⟨t, rfl⟩ := D'.inv_int
  obtain ⟨v, hv, Dv⟩ := ds.get hj
  exact tail_any (isList_of_hid i₁).typeIs slot_list_getitem.lookup (wpAny_getItem_list (isList_of_hid i₁) (by omega) hk (by simpa using hv) (hQ v Dv)) (subscripted_plain (by intro _ _ _ h; cases h))
/-- x[y], behind the end -/
theorem H.itemOut (S : c.StO h₀ s₀ O own ρ ω s) (hc : c.Fn) (hA : A.handled = none) {x y : Str} {p q pos : Pos} {l : List PyData} {j : Nat} (hl : ρ.lookup x = some (.list l)) (hy : ρ.lookup y = some (.int j)) (hj : l.length ≤ j) (hk : (j : Int) < 2 ^ 63) {Q : Value → Shared → Prop}
    (hE : ∀ s' e, c.StX h₀ s₀ O ρ ω e false true s' → E (.ref e) s')
    (hd : (x == ("__debug__" : Str)) = false := by decide) (hd' : (y == ("__debug__" : Str)) = false := by decide) :
    wpAny (model c.prog c.w) A (eval (.Subscript (.Name x p) (.Name y q) pos) c.env) Q E s := by
  refine Subscript_ (H.name S.vs hc.ok hl (fun v D => H.name S.vs hc.ok hy (fun u D' => ?_) hd') hd)
  obtain ⟨a, vs, rfl, i₁, ds⟩ := D.inv_list
  obtain ⟨t, rfl⟩ := D'.inv_int
  have hz : (vs.toArray.size : Int) = l.length := by simp [ds.length]
  exact tail_any (isList_of_hid i₁).typeIs slot_list_getitem.lookup (wpAny_getItem_list_out hA (isList_of_hid i₁) (.inr (by omega)) (by omega) hk fun h' tk e n => hE _ _ (StX.of_new ⟨own, S⟩ hc n)) (subscripted_plain (by intro _ _ _ h; cases h))
theorem H.itemHeld (X : c.StX h₀ s₀ O ρ ω e tr true s) (hc : c.Fn) (hA : A.handled = some (.ref e)) {x y : Str} {p q pos : Pos} {l : List PyData} {j : Nat} (hl : ρ.lookup x = some (.list l)) (hy : ρ.lookup y = some (.int j)) (hj : l.length ≤ j) (hk : (j : Int) < 2 ^ 63) {Q : Value → Shared → Prop}
    (hE : ∀ s' e, c.StX h₀ s₀ O ρ ω e false false s' → E (.ref e) s')
    (hd : (x == ("__debug__" : Str)) = false := by decide) (hd' : (y == ("__debug__" : Str)) = false := by decide) :
    wpAny (model c.prog c.w) A (eval (.Subscript (.Name x p) (.Name y q) pos) c.env) Q E s := by
  obtain ⟨own, S, F⟩ := id X
  refine Subscript_ (H.name S.vs hc.ok hl (fun v D => H.name S.vs hc.ok hy (fun u D' => ?_) hd') hd)
  obtain ⟨a, vs, rfl, i₁, ds⟩ := D.inv_list
  obtain ⟨t, rfl⟩ := D'.inv_int
  exact tail_any (isList_of_hid i₁).typeIs slot_list_getitem.lookup (getItem_held X hc hA rfl (isList_of_hid i₁) (by simp [ds.length]; exact hj) hk hE) (subscripted_plain (by intro _ _ _ h; cases h))

/-- a loop whose test fails at once -/
theorem H.whileNo {env : Env} {test : Expr} {body : List Stmt} {pos : Pos} {Q : Flow → Shared → Prop} {pw : PW} (h : wpAny (model pw.prog pw.w) A (isTrue test env (eval test env)) (fun b s₂ => b = false ∧ Q .next s₂) (notedBy (model pw.prog pw.w) A env (cameBackBy (model pw.prog pw.w) A env E)) s) :
    wpAny (model pw.prog pw.w) A (exec (.While test body [] pos) env) Q E s := by
  refine wpAny_While (codeAny_whileLoop (fun _ s' => s' = s) (fun n s' hs => ?_) 0 rfl)
  subst hs
  refine wpAny_mono h (fun b s₂ ⟨hb, hq⟩ => ?_) fun _ _ x => x
  subst hb
  simp only [Bool.false_eq_true, if_false]
  exact wpAny_execs_nil hq

/-- x[y] == w, for pairs, in range -/
theorem H.eqTest (V : c.Vs own ρ s.heap) (hc : c.Ok) (hu : A.units = c.A.units) {x y w : Str} {p q r pos pos' : Pos} {l : List Pr} {j : Nat} {a b : Pr} (hl : ρ.lookup x = some (.list (l.map prD))) (hy : ρ.lookup y = some (.int j)) (hj : l[j]? = some a) (hk : (j : Int) < 2 ^ 63) (hw : ρ.lookup w = some (prD b)) {whole : Sem Value} {Q : Bool → Shared → Prop}
    (hQ : ∀ tk, Q (decide (a = b)) { s with toks := tk })
    (hd : (x == ("__debug__" : Str)) = false := by decide) (hd' : (y == ("__debug__" : Str)) = false := by decide) (hd'' : (w == ("__debug__" : Str)) = false := by decide) :
    wpAny (model c.prog c.w) A (isTrue (.Compare (.Subscript (.Name x p) (.Name y q) pos) [.Eq] [.Name w r] pos') c.env whole) Q E s := by
  refine wpAny_isTrue_Compare1 (H.item V hc hl hy (d := prD a) (by simp [hj]) hk (fun v D => H.name V hc hw (fun u D' => ?_) hd'') hd hd') (by with_unfolding_all rfl)
  obtain ⟨_, r₁⟩ := D.whole.reads (lay_pr a)
  obtain ⟨_, r₂⟩ := D'.whole.reads (lay_pr b)
  have hdep : (prD a).depth ≤ 64 := by show (1 : Nat) ≤ 64; decide
  refine SeqAt.compareEq_reads r₁ r₂ (lay_pr a) (lay_pr b) (by have := hc.units; omega) ?_
  rw [eqv_pr]
  exact wpAny_truthy_bool (hQ s.toks)
end
end Mine

/-! N5 -/
namespace Mine
section
variable {c : C} {A : Around} {E : Value → Shared → Prop} {s : Shared} {h₀ : Heap} {s₀ : Shared} {O own : List Addr} {ρ : List (Str × PyData)} {ω pre post : List (Str × Addr × OD)} {e : Addr} {tr z : Bool}

/-- x[y:] -/
theorem H.from (V : c.Vs own ρ s.heap) (hc : c.Ok) {x y : Str} {p q sp pos : Pos} {l : List PyData} {j : Nat} (hl : ρ.lookup x = some (.list l)) (hy : ρ.lookup y = some (.int j)) (hj : j ≤ l.length) (hz : l.length ≤ sizeLine) {Q : Value → Shared → Prop}
    (hQ : ∀ h' B vs, Gr c.Fs s.heap h' → B ∉ own → s.heap.get? B = none → h'.get? B = some (listObj vs 0) → Dens c.toPW h' own vs (l.drop j) → Q (.ref B) { s with heap := h' })
    (hd : (x == ("__debug__" : Str)) = false := by decide) (hd' : (y == ("__debug__" : Str)) = false := by decide) :
    wpAny (model c.prog c.w) A (eval (.Subscript (.Name x p) (.Slice (some (.Name y q)) none none sp) pos) c.env) Q E s := by
  refine Subscript_ (H.name V hc hl (fun v D => ?_) hd)
  refine wpAny_Slice ?_
  show wpAny _ _ (eval (.Name y q) c.env) _ _ _
  refine H.name V hc hy (fun u D' => ?_) hd'
  refine wpAny_pure (wpAny_pure ?_)
  obtain ⟨a, vs, rfl, i₁, ds⟩ := D.inv_list
  obtain ⟨t, rfl⟩ := D'.inv_int
  have il := isList_of_hid i₁
  have g : Gr c.Fs s.heap (s.heap.push { cls := .type "slice", data := .fields #[.int j t, .none, .none] }) := .push
  have il' : (s.heap.push { cls := .type "slice", data := .fields #[.int j t, .none, .none] }).IsList a vs.toArray := by
    obtain ⟨o, ho, r⟩ := il
    exact ⟨o, Heap.get?_push_of_some _ ho, r⟩
  refine tail_any il'.typeIs slot_list_getitem.lookup (wpAny_getItem_list_slice il' ⟨_, Heap.get?_push_size _ rfl, rfl, rfl⟩ (.int _ _) .none .none nofun ?_ (by simp [ds.length]; exact hz)) rfl
  rw [kms_pick_eq]
  have e : kms_pick vs (some (j : Int)) none = vs.drop j := by
    unfold kms_pick
    have h1 : kms_lo (some (j : Int)) vs.length = j := by
      have := ds.length
      show (if (j : Int) < 0 then vs.length - (-(j : Int)).toNat else min (j : Int).toNat vs.length) = j
      rw [if_neg (by omega), Int.toNat_natCast]
      omega
    have h2 : kms_hi none vs.length = vs.length := rfl
    rw [h1, h2, List.take_of_length_le (by simp)]
  show Q _ _
  have V' := V.gr hc g
  have := hQ _ (s.heap.push { cls := .type "slice", data := .fields #[.int j t, .none, .none] }).objs.size (vs.drop j) (g.trans .push) (fun m => Nat.lt_irrefl _ (V'.lt _ m)) (Heap.get?_none_of_le (by simp)) (Heap.get?_push_size _ rfl) ?_
  · simpa [e, listObj] using this
  · exact (RdAll.gr' (ds.drop j) (g.trans .push) V.fs fun _ m => .inl m)

/-- x.extend(y[z:]) -/
theorem H.extend {x y w : Str} {a : Addr} {es l : List PyData} {j : Nat} (S : c.StO h₀ s₀ O own ρ (pre ++ (x, a, .list es) :: post) s) (hc : c.Fn) (hl : ρ.lookup y = some (.list l)) (hy : ρ.lookup w = some (.int j)) (hj : j ≤ l.length) (hz : es.length + l.length ≤ sizeLine)
    {p p1 p2 sp np apos cp pos : Pos} (hline : (apos.endLine == cp.line) = true) (hi : interactive c.env = false)
    (hts : backTo cp (starEach [.Subscript (.Name y p1) (.Slice (some (.Name w p2)) none none sp) np] c.env) = [(false, eval (.Subscript (.Name y p1) (.Slice (some (.Name w p2)) none none sp) np) c.env)])
    (hd : (x == ("__debug__" : Str)) = false := by decide) (hd1 : (y == ("__debug__" : Str)) = false := by decide) (hd2 : (w == ("__debug__" : Str)) = false := by decide) :
    wpAny (model c.prog c.w) A (exec (.Expr (.Call (.Attribute (.Name x p) (Str.ofString "extend") apos) [.Subscript (.Name y p1) (.Slice (some (.Name w p2)) none none sp) np] [] cp) pos) c.env)
      (fun f s' => f = .next ∧ c.StO h₀ s₀ O own ρ (pre ++ (x, a, .list (es ++ l.drop j)) :: post) s') E s := by
  obtain ⟨_, _, _, q4, q5, vs, n, ho, Ds⟩ := S.owned (x, a, .list es) (List.mem_append_right _ (.head _))
  refine wpAny_Expr ?_ hi rfl
  refine wpAny_Call_method_late rfl (by rw [hts]; rfl) hline hts (wpAny_Name (q5.load hc.ok.kind ?_) hd)
  refine ⟨"list", "list.extend", PySem.F.plainAttrs_list, PySem.F.slot_list_extend, PySem.F.type_list_extend, ⟨_, ho, rfl⟩, (fun b hb => by cases hb; exact ⟨_, ho, rfl⟩), Calls.callWith_builtin rfl (evalArgs_of rfl ?_)⟩
  refine Calls.spliced_cons (H.from S.vs hc.ok hl hy hj (by omega) (fun h' B us g hB hB0 hoB Dus => Calls.spliced_nil ?_) hd1 hd2)
  have S₁ := S.grow hc (s' := { s with heap := h' }) (.mk g)
  obtain ⟨m1, _, _, _, _, vs₁, n₁, ho₁, Ds₁⟩ := S₁.owned (x, a, .list es) (List.mem_append_right _ (.head _))
  have hlen1 : vs₁.length = es.length := Ds₁.length
  have hlen2 : us.length = l.length - j := by rw [Dus.length, List.length_drop]
  refine call_meets PySem.F.slot_list_extend (T := "list") ⟨_, ho₁, rfl⟩ PySem.F.entry_list_extend (PySem.F.args_list_extend_2 _ _) (PySem.AutoSeq1.list_extend_list_list_0 a vs₁.toArray n₁ B us.toArray 0 ?_ ?_ ?_) ⟨ho₁, hoB, ?_⟩
  · simp only [Builtin.List.listTooLong, List.size_toArray]
    simp only [Bool.and_eq_true, decide_eq_true_eq, not_and]
    intro _; omega
  · rw [List.size_toArray]; omega
  · rw [List.size_toArray, List.size_toArray]; omega
  · have hs := Heap.SameBut.update h' a (Obj.mapSeq fun x => x ++ us.toArray)
    obtain ⟨n', hl'⟩ : ∃ n', (h'.update a (Obj.mapSeq fun x => x ++ us.toArray)).get? a = some (listObj (vs₁ ++ us) n') := by
      have := get?_update_seq ho₁ fun x => x ++ us.toArray
      exact ⟨_, by simpa [listObj, seqObj] using this⟩
    refine ⟨rfl, S₁.update hc (h' := h'.update a (Obj.mapSeq fun x => x ++ us.toArray)) hs ⟨vs₁ ++ us, n', hl', ?_⟩ ⟨_, hl'⟩⟩
    have hk := hide_same m1 hs
    exact (Ds₁.keeps hk).append (Dus.keeps hk)
end
end Mine

/-! N6 -/
namespace Mine
/-- statements that may raise -/
def C.TrE (c : C) (A : Around) (P : Shared → Prop) (st : Stmt) (Q : Flow → Shared → Prop) (X : Addr → Shared → Prop) : Prop :=
  ∀ s, P s → wpAny (model c.prog c.w) A (exec st c.env) Q (fun v s' => ∃ e, v = .ref e ∧ X e s') s
def C.TrsE (c : C) (A : Around) (P : Shared → Prop) (b : List Stmt) (Q : Flow → Shared → Prop) (X : Addr → Shared → Prop) : Prop :=
  ∀ s, P s → wpAny (model c.prog c.w) A (execs b c.env) Q (fun v s' => ∃ e, v = .ref e ∧ X e s') s
section
variable {c : C} {A : Around} {E : Value → Shared → Prop} {s : Shared} {h₀ : Heap} {s₀ : Shared} {O own : List Addr} {ρ : List (Str × PyData)} {ω pre post : List (Str × Addr × OD)} {e : Addr} {tr z : Bool} {P R : Shared → Prop} {Q : Flow → Shared → Prop} {X : Addr → Shared → Prop}

theorem TrE.of {st : Stmt} (h : c.Tr P st Q) : c.TrE c.A P st Q X := fun s p => h _ s p
theorem TrsE.nil (h : ∀ s, P s → Q .next s) : c.TrsE A P [] Q X := fun s p => wpAny_execs_nil (h s p)
theorem TrsE.cons {st : Stmt} {rest : List Stmt} (h : c.TrE A P st (Next R) X) (hr : c.TrsE A R rest Q X) : c.TrsE A P (st :: rest) Q X := fun s p =>
  wpAny_execs_cons (wpAny_mono (h s p) (fun f s' ⟨e, r⟩ => by subst e; exact hr s' r) fun _ _ x => x)
theorem TrsE.last {st : Stmt} (h : c.TrE A P st Q X) : c.TrsE A P [st] Q X := fun s p =>
  wpAny_execs_cons (wpAny_mono (h s p) (fun f s' q => by cases f <;> first | exact wpAny_execs_nil q | exact q) fun _ _ x => x)
theorem TrE.imp_to {st : Stmt} {Q' : Flow → Shared → Prop} {X' : Addr → Shared → Prop} (h : c.TrE A P st Q X) (hq : ∀ f s, Q f s → Q' f s) (hx : ∀ e s, X e s → X' e s) : c.TrE A P st Q' X' := fun s p =>
  wpAny_mono (h s p) hq fun v s' ⟨e, he, x⟩ => ⟨e, he, hx e s' x⟩
theorem TrsE.imp_to {b : List Stmt} {Q' : Flow → Shared → Prop} {X' : Addr → Shared → Prop} (h : c.TrsE A P b Q X) (hq : ∀ f s, Q f s → Q' f s) (hx : ∀ e s, X e s → X' e s) : c.TrsE A P b Q' X' := fun s p =>
  wpAny_mono (h s p) hq fun v s' ⟨e, he, x⟩ => ⟨e, he, hx e s' x⟩

theorem TrE.ite (hc : c.Fn) {t : Expr} {a b : List Stmt} {pos : Pos} {p : Bool} (ht : ∀ own, c.Ts own ρ t p) (ha : p = true → c.TrsE c.A (c.St h₀ s₀ O ρ ω) a Q X) (hb : p = false → c.TrsE c.A (c.St h₀ s₀ O ρ ω) b Q X) : c.TrE c.A (c.St h₀ s₀ O ρ ω) (.If t a b pos) Q X := fun s ⟨own, S⟩ =>
  wpAny_If (wpAny_mono (ht own _ s S.vs) (fun b₁ s₁ ⟨g, e⟩ => by
    have S₁ := S.grow hc g
    cases b₁ with
    | true => exact ha e.symm s₁ ⟨own, S₁⟩
    | false => exact hb e.symm s₁ ⟨own, S₁⟩) fun _ _ x => x)

theorem TrE.aug (hc : c.Fn) {y : Str} {n : Nat} {p q pos : Pos} {k : Int} (hk : ρ.lookup y = some (.int k)) (hx : c.env.kindOf y = some .local ∨ c.env.kindOf y = some .cell) (hω : ∀ q ∈ ω, q.1 ≠ y) :
    c.TrE A (c.St h₀ s₀ O ρ ω) (.AugAssign (.Name y p) .Add (.Constant (.int 1) n q) pos) (Next (c.St h₀ s₀ O (put ρ y (.int (k + 1))) ω)) X := fun s S => H.augS S hc hk hx hω
theorem TrE.augX (hc : c.Fn) {y : Str} {n : Nat} {p q pos : Pos} {k : Int} (hk : ρ.lookup y = some (.int k)) (hx : c.env.kindOf y = some .local ∨ c.env.kindOf y = some .cell) (hω : ∀ q ∈ ω, q.1 ≠ y) :
    c.TrE A (c.StX h₀ s₀ O ρ ω e tr z) (.AugAssign (.Name y p) .Add (.Constant (.int 1) n q) pos) (Next (c.StX h₀ s₀ O (put ρ y (.int (k + 1))) ω e tr z)) X := fun s S => H.augX S hc hk hx hω

/-- w = x[y] -/
theorem TrE.item (hc : c.Fn) {x y w : Str} {p q r pos pos' : Pos} {l : List Pr} {j : Nat} (hl : ρ.lookup x = some (.list (l.map prD))) (hy : ρ.lookup y = some (.int j)) (hk : (j : Int) < 2 ^ 63) (hx : c.env.kindOf w = some .local ∨ c.env.kindOf w = some .cell) (hω : ∀ q ∈ ω, q.1 ≠ w)
    (hs : swapsWith (.Subscript (.Name x p) (.Name y q) pos) (some (.Name w r)) pos'.line c.env = pure false)
    (hd : (x == ("__debug__" : Str)) = false := by decide) (hd' : (y == ("__debug__" : Str)) = false := by decide) :
    c.TrE c.A (c.St h₀ s₀ O ρ ω) (.Assign [.Name w r] (.Subscript (.Name x p) (.Name y q) pos) pos') (fun f s => f = .next ∧ ∃ a, l[j]? = some a ∧ c.St h₀ s₀ O (put ρ w (prD a)) ω s) (fun e s => l.length ≤ j ∧ c.StX h₀ s₀ O ρ ω e false true s) := fun s ⟨own, S⟩ => by
  refine wpAny_Assign_Name ?_ hs
  cases hj : l[j]? with
  | some a => exact H.item S.vs hc.ok hl hy (d := prD a) (by simp [hj]) hk (fun v D => wpAny_mono (S.store hc hx D hω) (fun _ s₂ S₂ => ⟨rfl, a, rfl, own, S₂⟩) fun _ _ x => x) hd hd'
  | none =>
    have hlen := List.getElem?_eq_none_iff.mp hj
    exact H.itemOut S hc hc.ok.handled hl hy (by simpa using hlen) hk (fun s' e x => ⟨e, rfl, hlen, x⟩) hd hd'

/-- while x[y] == w: the next one is another one, or there is none -/
theorem TrE.while (hc : c.Fn) {x y w : Str} {p q r pos pos' wp : Pos} {body : List Stmt} {l : List Pr} {j : Nat} {b : Pr} (hl : ρ.lookup x = some (.list (l.map prD))) (hy : ρ.lookup y = some (.int (j : Int))) (hk : (j : Int) < 2 ^ 63) (hw : ρ.lookup w = some (prD b)) (hne : ∀ a, l[j]? = some a → a ≠ b)
    (hd : (x == ("__debug__" : Str)) = false := by decide) (hd' : (y == ("__debug__" : Str)) = false := by decide) (hd'' : (w == ("__debug__" : Str)) = false := by decide) :
    c.TrE c.A (c.St h₀ s₀ O ρ ω) (.While (.Compare (.Subscript (.Name x p) (.Name y q) pos) [.Eq] [.Name w r] pos') body [] wp) (fun f s => f = .next ∧ j < l.length ∧ c.St h₀ s₀ O ρ ω s) (fun e s => l.length ≤ j ∧ c.StX h₀ s₀ O ρ ω e true true s) := fun s ⟨own, S⟩ => by
  refine H.whileNo (pw := c.toPW) ?_
  cases hj : l[j]? with
  | some a =>
    have hlt := (List.getElem?_eq_some_iff.mp hj).1
    refine H.eqTest S.vs hc.ok rfl hl hy hj hk hw (fun tk => ⟨decide_eq_false (hne a hj), rfl, hlt, own, S.grow hc .toks⟩) hd hd' hd''
  | none =>
    have hlen := List.getElem?_eq_none_iff.mp hj
    refine wpAny_isTrue_Compare1 (H.itemOut S hc hc.ok.handled hl hy (by simpa using hlen) hk (fun s' e x => ?_) hd hd') (by with_unfolding_all rfl)
    exact StX.noted x hc hc.ok.frames fun s₂ x₂ => StX.back x₂ hc fun s₃ x₃ => ⟨e, rfl, hlen, x₃⟩
/-- the same, an exception being handled -/
theorem TrE.whileX (hc : c.Fn) {x y w : Str} {p q r pos pos' wp : Pos} {body : List Stmt} {l : List Pr} {j : Nat} {b : Pr} (hl : ρ.lookup x = some (.list (l.map prD))) (hy : ρ.lookup y = some (.int (j : Int))) (hk : (j : Int) < 2 ^ 63) (hw : ρ.lookup w = some (prD b)) (hne : ∀ a, l[j]? = some a → a ≠ b)
    (hd : (x == ("__debug__" : Str)) = false := by decide) (hd' : (y == ("__debug__" : Str)) = false := by decide) (hd'' : (w == ("__debug__" : Str)) = false := by decide) :
    c.TrE (c.A.mark (some (.ref e))) (c.StX h₀ s₀ O ρ ω e tr true) (.While (.Compare (.Subscript (.Name x p) (.Name y q) pos) [.Eq] [.Name w r] pos') body [] wp) (fun f s => f = .next ∧ j < l.length ∧ c.StX h₀ s₀ O ρ ω e tr true s) (fun e s => l.length ≤ j ∧ c.StX h₀ s₀ O ρ ω e true false s) := fun s X => by
  obtain ⟨own, S, F⟩ := id X
  refine H.whileNo (pw := c.toPW) ?_
  cases hj : l[j]? with
  | some a =>
    have hlt := (List.getElem?_eq_some_iff.mp hj).1
    refine H.eqTest (A := c.A.mark (some (.ref e))) S.vs hc.ok rfl hl hy hj hk hw (fun tk => ⟨decide_eq_false (hne a hj), rfl, hlt, own, S.grow hc .toks, F⟩) hd hd' hd''
  | none =>
    have hlen := List.getElem?_eq_none_iff.mp hj
    refine wpAny_isTrue_Compare1 (H.itemHeld X hc rfl hl hy (by simpa using hlen) hk (fun s' e' x => ?_) hd hd') (by with_unfolding_all rfl)
    exact StX.noted (A := c.A.mark (some (.ref e))) x hc hc.ok.frames fun s₂ x₂ => StX.back x₂ hc fun s₃ x₃ => ⟨e', rfl, hlen, x₃⟩
end
end Mine

/-! N7 -/
namespace Mine
section
variable {c : C} {A : Around} {E : Value → Shared → Prop} {s : Shared} {h₀ : Heap} {s₀ : Shared} {O own : List Addr} {ρ ρ' : List (Str × PyData)} {ω pre post : List (Str × Addr × OD)} {e : Addr} {tr z : Bool} {P R : Shared → Prop} {Q : Flow → Shared → Prop} {X : Addr → Shared → Prop}

theorem TrE.final (hc : c.Fn) {body fs : List Stmt} {f₀ : Stmt} {pos : Pos} {p1 p2 q1 q2 : Prop}
    (hb : c.TrsE c.A (c.St h₀ s₀ O ρ ω) body (fun f s => f = .next ∧ p1 ∧ c.St h₀ s₀ O ρ ω s) (fun e s => q1 ∧ ∃ tr, c.StX h₀ s₀ O ρ ω e tr true s))
    (hp : p1 → c.TrsE c.A (c.St h₀ s₀ O ρ ω) (f₀ :: fs) (fun f s => f = .next ∧ p2 ∧ c.St h₀ s₀ O ρ' ω s) (fun e s => q2 ∧ ∃ tr z, c.StX h₀ s₀ O ρ' ω e tr z s))
    (hh : q1 → ∀ e, c.TrsE (c.A.mark (some (.ref e))) (c.StX h₀ s₀ O ρ ω e true true) (f₀ :: fs) (fun f s => f = .next ∧ p2 ∧ c.StX h₀ s₀ O ρ' ω e true true s) (fun e s => q2 ∧ ∃ tr z, c.StX h₀ s₀ O ρ' ω e tr z s)) :
    c.TrE c.A (c.St h₀ s₀ O ρ ω) (.Try body [] [] (f₀ :: fs) pos) (fun f s => f = .next ∧ p1 ∧ p2 ∧ c.St h₀ s₀ O ρ' ω s) (fun e s => ((p1 ∧ q2) ∨ (q1 ∧ p2) ∨ (q1 ∧ q2)) ∧ ∃ tr z, c.StX h₀ s₀ O ρ' ω e tr z s) := fun s S => by
  refine wpAny_Try_finally (wpAny_mono (hb s S) (fun f s₁ ⟨hf, h1, S₁⟩ => ?_) fun v s₁ ⟨e, hv, h1, tr, x₁⟩ => ?_)
  · subst hf
    refine wpAny_execs_nil ?_
    refine wpAny_mono (hp h1 s₁ S₁) (fun g s₂ ⟨hg, h2, S₂⟩ => ?_) fun v s₂ ⟨e, hv, h2, tr, z, x₂⟩ => ?_
    · subst hg
      exact ⟨rfl, h1, h2, S₂⟩
    · subst hv
      exact StX.noted x₂ hc hc.ok.frames fun s₃ x₃ => StX.back x₃ hc fun s₄ x₄ => ⟨e, rfl, .inl ⟨h1, h2⟩, _, _, x₄⟩
  · subst hv
    refine StX.note x₁ hc hc.ok.frames fun s₂ x₂ => ⟨ref_ne_byPass e, StX.note x₂ hc hc.ok.frames fun s₃ x₃ => StX.flight x₃ hc fun s₄ x₄ => ?_⟩
    refine wpAny_mono (hh h1 e s₄ x₄) (fun g s₅ ⟨hg, h2, x₅⟩ => ?_) fun v s₅ ⟨e', hv, h2, tr, z, x₅⟩ => ?_
    · subst hg
      exact StX.pass x₅ hc fun s₆ x₆ => ⟨e, rfl, .inr (.inl ⟨h1, h2⟩), _, _, x₆⟩
    · subst hv
      exact StX.noted (A := c.A.mark (some (.ref e))) x₅ hc hc.ok.frames fun s₆ x₆ => StX.back x₆ hc fun s₇ x₇ => ⟨e', rfl, .inr (.inr ⟨h1, h2⟩), _, _, x₇⟩

theorem TrE.except (hc : c.Fn) {body suite : List Stmt} {b₀ : Stmt} {np hpos pos : Pos} {δ : Type} {rh : δ → List (Str × PyData)} {om : δ → List (Str × Addr × OD)} {good : δ → Prop}
    (hb : c.TrsE c.A P body Q (fun e s => ∃ d tr z, good d ∧ c.StX h₀ s₀ O (rh d) (om d) e tr z s))
    (hs : ∀ d e E s, good d → c.St h₀ s₀ O (rh d) (om d) s → wpAny (model c.prog c.w) (c.A.mark (some (.ref e))) (execs (b₀ :: suite) c.env) Q E s)
    (hx : c.env.kindOf (Str.ofString "IndexError") = some .globalImplicit) (hg : c.mg (Str.ofString "IndexError") = none) :
    c.Tr P (.Try body [.ExceptHandler (some (.Name (Str.ofString "IndexError") np)) none (b₀ :: suite) hpos] [] [] pos) Q := fun E s S => by
  refine wpAny_Try_except (wpAny_mono (hb s S) (fun f s₁ q => ?_) fun v s₁ ⟨e, hv, d, tr, z, gd, x₁⟩ => ?_)
  · cases f <;> first | exact wpAny_execs_nil q | exact q
  · subst hv
    refine StX.note x₁ hc hc.ok.frames fun s₂ x₂ => StX.flight x₂ hc fun s₃ x₃ => ?_
    refine wpAny_handleBy_builtin (X := "IndexError") (T := "IndexError") (b := true) PySem.F.isExc_IndexError PySem.F.notTuple_IndexError (by rw [isSubtype_type]; kernel_rfl) ?_
    obtain ⟨own, S₃, F₃⟩ := id x₃
    obtain ⟨mb, m1, m2⟩ := hc.ok.b
    refine Calls.Name_function_global hc.ok.kind hx (Calls.loadGlobal_builtin (hc.ok.glob ▸ hc.ok.g.keeps S₃.vs.keep) hg (hc.ok.blt ▸ m1.keeps S₃.vs.keep) ((m2 _ (by decide)).trans PyProof.Rows.Boot.«IndexError») ?_) (by decide)
    refine ⟨rfl, StX.typeIs x₃, ?_⟩
    rw [if_pos rfl]
    refine StX.flight x₃ hc fun s₄ x₄ => ?_
    exact hs d e _ s₄ gd x₄.st
end
end Mine

/-! N8 -/
namespace Mine
noncomputable def diffP : List Pr → List Pr → List Pr × List Pr
  | [], ys => ([], ys)
  | x :: xs, [] => (x :: xs, [])
  | x :: xs, y :: ys => if pLt x y then (x :: (diffP xs (y :: ys)).1, (diffP xs (y :: ys)).2) else if pLt y x then ((diffP (x :: xs) ys).1, y :: (diffP (x :: xs) ys).2) else diffP xs ys
termination_by xs ys => xs.length + ys.length

theorem Ts.tt {c : C} {own : List Addr} {ρ : List (Str × PyData)} {n : Nat} {p : Pos} : c.Ts own ρ (.Constant (.bool true) n p) true := fun E s V => by
  exact isTrue_plain (wpAny_mono (Ev.bool (own := own) (ρ := ρ) E s V) (fun v s' ⟨g, D⟩ => by rw [D.inv_bool]; exact wpAny_truthy_bool ⟨g, rfl⟩) fun _ _ x => x)

theorem Ts.lt_pr {c : C} (hc : c.Ok) {own : List Addr} {ρ : List (Str × PyData)} {x y : Str} {p q pos : Pos} {a b : Pr} (hx : ρ.lookup x = some (prD a)) (hy : ρ.lookup y = some (prD b)) (hd : (x == ("__debug__" : Str)) = false := by decide) (hd' : (y == ("__debug__" : Str)) = false := by decide) :
    c.Ts own ρ (.Compare (.Name x p) [.Lt] [.Name y q] pos) (pLt a b) := fun E s V => by
  refine wpAny_isTrue_Compare1 (H.name V hc hx (fun v D => H.name V hc hy (fun u D' => ?_) hd') hd) (by with_unfolding_all rfl)
  refine cmp_lt (pw := c.toPW) (by have := hc.units; omega) D.whole D'.whole (wpAny_truthy_bool ⟨.refl .., rfl⟩)
theorem Ts.gt_pr {c : C} (hc : c.Ok) {own : List Addr} {ρ : List (Str × PyData)} {x y : Str} {p q pos : Pos} {a b : Pr} (hx : ρ.lookup x = some (prD a)) (hy : ρ.lookup y = some (prD b)) (hd : (x == ("__debug__" : Str)) = false := by decide) (hd' : (y == ("__debug__" : Str)) = false := by decide) :
    c.Ts own ρ (.Compare (.Name x p) [.Gt] [.Name y q] pos) (pLt b a) := fun E s V => by
  refine wpAny_isTrue_Compare1 (H.name V hc hx (fun v D => H.name V hc hy (fun u D' => ?_) hd') hd) (by with_unfolding_all rfl)
  refine cmp_gt (pw := c.toPW) (by have := hc.units; omega) D.whole D'.whole (wpAny_truthy_bool ⟨.refl .., rfl⟩)

/-- while True -/
theorem Tr.forever {c : C} {P : Shared → Prop} {I : Nat → Shared → Prop} {Q : Shared → Prop} {n : Nat} {p pos : Pos} {body : List Stmt} (hI : ∀ k s, I k s → ∃ own ρ, c.Vs own ρ s.heap) (hg : ∀ k s s', I k s → Gw c.Fs s s' → I k s')
    (hP : ∀ s, P s → ∃ k, I k s) (hb : ∀ k, c.Trs (I k) body (fun f s => (f = .next ∧ ∃ m, m < k ∧ I m s) ∨ (f = .brk ∧ Q s))) :
    c.Tr P (.While (.Constant (.bool true) n p) body [] pos) (Next Q) := fun E s hp => by
  obtain ⟨k, hk⟩ := hP s hp
  refine wpAny_While (codeAny_whileLoop I (fun k s hI' => ?_) k hk)
  obtain ⟨own, ρ, V⟩ := hI k s hI'
  refine wpAny_mono (Ts.tt _ s V) (fun b s₂ ⟨g, hb'⟩ => ?_) fun _ _ x => x
  subst hb'
  simp only [if_true]
  refine wpAny_mono (hb k _ s₂ (hg k s s₂ hI' g)) (fun f s₃ h => ?_) fun _ _ x => x
  rcases h with ⟨rfl, m, hm, h⟩ | ⟨rfl, h⟩
  · exact ⟨m, hm, h⟩
  · exact ⟨rfl, h⟩
end Mine

/-! N9 -/
namespace Mine
structure DS where
  i : Nat
  j : Nat
  mis : List Pr
  une : List Pr
abbrev dRho (l1 l2 : List Pr) (i j : Nat) : List (Str × PyData) := [(Str.ofString "expected", .list (l1.map prD)), (Str.ofString "actual", .list (l2.map prD)), (Str.ofString "i", .int i), (Str.ofString "j", .int j)]
abbrev dOm (a b : Addr) (mis une : List Pr) : List (Str × Addr × OD) := [(Str.ofString "unexpected", b, .list (une.map prD)), (Str.ofString "missing", a, .list (mis.map prD))]
def DS.good (l1 l2 : List Pr) (d : DS) : Prop := d.i ≤ l1.length ∧ d.j ≤ l2.length ∧ d.mis.length ≤ d.i ∧ d.une.length ≤ d.j ∧ d.mis ++ (diffP (l1.drop d.i) (l2.drop d.j)).1 = (diffP l1 l2).1 ∧ d.une ++ (diffP (l1.drop d.i) (l2.drop d.j)).2 = (diffP l1 l2).2
def DS.end (l1 l2 : List Pr) (d : DS) : Prop := d.i ≤ l1.length ∧ d.j ≤ l2.length ∧ d.mis.length ≤ d.i ∧ d.une.length ≤ d.j ∧ d.mis ++ l1.drop d.i = (diffP l1 l2).1 ∧ d.une ++ l2.drop d.j = (diffP l1 l2).2

theorem diffP_nil1 (ys : List Pr) : diffP [] ys = ([], ys) := by unfold diffP; rfl
theorem diffP_nil2 (xs : List Pr) : diffP xs [] = (xs, []) := by cases xs <;> (unfold diffP; rfl)
theorem DS.fin (l1 l2 : List Pr) (d : DS) (g : d.good l1 l2) (h : l1.length ≤ d.i ∨ l2.length ≤ d.j) : d.end l1 l2 := by
  obtain ⟨g1, g2, g3, g4, g5, g6⟩ := g
  rcases h with h | h
  · rw [List.drop_of_length_le h, diffP_nil1] at g5 g6
    exact ⟨g1, g2, g3, g4, by rw [List.drop_of_length_le h]; exact g5, g6⟩
  · rw [List.drop_of_length_le h, diffP_nil2] at g5 g6
    exact ⟨g1, g2, g3, g4, g5, by rw [List.drop_of_length_le h]; exact g6⟩
theorem drop_at {l : List Pr} {i : Nat} {x : Pr} (h : l[i]? = some x) : l.drop i = x :: l.drop (i + 1) := by
  obtain ⟨hi, e⟩ := List.getElem?_eq_some_iff.mp h
  rw [List.drop_eq_getElem_cons hi, e]
theorem DS.lt {l1 l2 : List Pr} {d : DS} (g : d.good l1 l2) {x y : Pr} (hx : l1[d.i]? = some x) (hy : l2[d.j]? = some y) (h : pLt x y = true) : DS.good l1 l2 ⟨d.i + 1, d.j, d.mis ++ [x], d.une⟩ := by
  obtain ⟨g1, g2, g3, g4, g5, g6⟩ := g
  have hi := (List.getElem?_eq_some_iff.mp hx).1
  rw [drop_at hx, drop_at hy, diffP, if_pos h] at g5 g6
  refine ⟨hi, g2, by simp; omega, g4, ?_, ?_⟩
  · simp only [List.append_assoc, List.singleton_append]; rw [drop_at hy]; exact g5
  · rw [drop_at hy]; exact g6
theorem DS.gt {l1 l2 : List Pr} {d : DS} (g : d.good l1 l2) {x y : Pr} (hx : l1[d.i]? = some x) (hy : l2[d.j]? = some y) (h : pLt x y = false) (h' : pLt y x = true) : DS.good l1 l2 ⟨d.i, d.j + 1, d.mis, d.une ++ [y]⟩ := by
  obtain ⟨g1, g2, g3, g4, g5, g6⟩ := g
  have hi := (List.getElem?_eq_some_iff.mp hy).1
  rw [drop_at hx, drop_at hy, diffP, if_neg (by rw [h]; decide), if_pos h'] at g5 g6
  refine ⟨g1, hi, g3, by simp; omega, ?_, ?_⟩
  · rw [drop_at hx]; exact g5
  · simp only [List.append_assoc, List.singleton_append]; rw [drop_at hx]; exact g6
theorem DS.eq {l1 l2 : List Pr} {d : DS} (g : d.good l1 l2) {x y : Pr} (hx : l1[d.i]? = some x) (hy : l2[d.j]? = some y) (h : pLt x y = false) (h' : pLt y x = false) : DS.good l1 l2 ⟨d.i + 1, d.j + 1, d.mis, d.une⟩ := by
  obtain ⟨g1, g2, g3, g4, g5, g6⟩ := g
  have hi := (List.getElem?_eq_some_iff.mp hx).1
  have hj := (List.getElem?_eq_some_iff.mp hy).1
  rw [drop_at hx, drop_at hy, diffP, if_neg (by rw [h]; decide), if_neg (by rw [h']; decide)] at g5 g6
  exact ⟨hi, hj, by simp; omega, by simp; omega, g5, g6⟩
theorem next_ne {l : List Pr} (n : l.Nodup) {i : Nat} {x : Pr} (h : l[i]? = some x) : ∀ a, l[i + 1]? = some a → a ≠ x := fun a ha e => by
  obtain ⟨h1, e1⟩ := List.getElem?_eq_some_iff.mp h
  obtain ⟨h2, e2⟩ := List.getElem?_eq_some_iff.mp ha
  exact List.pairwise_iff_getElem.mp n i (i + 1) h1 h2 (by omega) (by rw [e1, e2, e])
end Mine

/-! N10 -/
namespace Mine
theorem TrsE.ex {c : C} {A : Around} {α : Type} {P : α → Shared → Prop} {b : List Stmt} {Q : Flow → Shared → Prop} {X : Addr → Shared → Prop} (h : ∀ a, c.TrsE A (P a) b Q X) : c.TrsE A (fun s => ∃ a, P a s) b Q X := fun s ⟨a, p⟩ => h a s p
theorem TrsE.and {c : C} {A : Around} {p : Prop} {P : Shared → Prop} {b : List Stmt} {Q : Flow → Shared → Prop} {X : Addr → Shared → Prop} (h : p → c.TrsE A P b Q X) : c.TrsE A (fun s => p ∧ P s) b Q X := fun s ⟨x, y⟩ => h x s y

set_option maxRecDepth 100000 in
theorem diff_ok {pw : PW} {base : Heap} {mg : Str → Option Value} (B : Base pw base mg) (l1 l2 : List Pr) (h1 : l1.length ≤ 100) (h2 : l2.length ≤ 100) (n1 : l1.Nodup) (n2 : l2.Nodup) :
    FnOK pw base mg 1 21 [.list (l1.map prD), .list (l2.map prD)] (.tuple [.list ((diffP l1 l2).1.map prD), .list ((diffP l1 l2).2.map prD)]) := by
  refine FnOK.mk (xs := [Str.ofString "expected", Str.ofString "actual"]) (B.X 21 _ rfl) rfl (codeRec_of B.X (by kernel_rfl)) ⟨rfl, rfl, rfl, by decide, by decide, by decide, by decide, by decide⟩ (fun vs hvs => ?_) rfl ?_
  · obtain ⟨v, w, rfl⟩ := two_args hvs
    rfl
  · intro c L hpw hb hmg hc hn henv h₀ s₀ O
    subst hpw hb hmg
    have hsl : sizeLine = 16777216 := rfl
    refine Trs.cons (Tr.assign2 hc (fun own => Ev.int) (.inl (kO henv rfl)) (.inl (kO henv rfl)) ne0 ne0 (fun h own v D h' own' => by obtain ⟨t, rfl⟩ := D.inv_int; exact .int ..)) ?_
    refine Trs.cons (Tr.newList hc (.inl (kO henv rfl)) ne0) (Trs.ex fun a => Trs.and fun haO => ?_)
    refine Trs.cons (Tr.newList hc (.inl (kO henv rfl)) (ne1 (by decide))) (Trs.ex fun b => Trs.and fun hbO => ?_)
    refine Trs.cons (R := c.St h₀ s₀ O [] (dOm a b (diffP l1 l2).1 (diffP l1 l2).2)) (Tr.forever (I := fun k s => ∃ d : DS, d.good l1 l2 ∧ (l1.length - d.i) + (l2.length - d.j) = k ∧ c.St h₀ s₀ O (dRho l1 l2 d.i d.j) (dOm a b d.mis d.une) s) ?_ ?_ ?_ fun k => Trs.last ?_) ?_
    · rintro k s ⟨d, _, _, own, S⟩; exact ⟨own, _, S.vs⟩
    · rintro k s s' ⟨d, g, e, S⟩ gw; exact ⟨d, g, e, S.grow hc gw⟩
    · intro s S
      exact ⟨_, ⟨0, 0, [], []⟩, ⟨Nat.zero_le _, Nat.zero_le _, Nat.le_refl _, Nat.le_refl _, rfl, rfl⟩, rfl, S.sub (inC rfl (inC rfl (inC rfl (inC rfl in0))))⟩
    · refine TrE.except hc (h₀ := h₀) (s₀ := s₀) (O := O) (δ := DS) (rh := fun d => dRho l1 l2 d.i d.j) (om := fun d => dOm a b d.mis d.une) (good := fun d => d.end l1 l2) ?_ ?_ (kO henv rfl) (B.mg_none (by kernel_rfl))
      · refine TrsE.ex fun d => TrsE.and fun g => TrsE.and fun hk => ?_
        obtain ⟨i, j, mis, une⟩ := d
        have gi := g.1; have gj := g.2.1; have gm := g.2.2.1; have gu := g.2.2.2.1
        simp only at gi gj gm gu hk ⊢
        refine TrsE.cons (TrE.imp_to (TrE.item hc rfl rfl (by omega) (.inl (kO henv rfl)) (ne2 (by decide) (by decide)) (by rw [henv]; rfl)) (fun f s q => q) (fun e s ⟨hl, x⟩ => ⟨⟨i, j, mis, une⟩, _, _, DS.fin _ _ _ g (.inl hl), x⟩)) (TrsE.ex fun x => TrsE.and fun hx => ?_)
        refine TrsE.cons (TrE.imp_to (TrE.item hc rfl rfl (by omega) (.inl (kO henv rfl)) (ne2 (by decide) (by decide)) (by rw [henv]; rfl)) (fun f s q => q) (fun e s ⟨hl, x⟩ => ⟨⟨i, j, mis, une⟩, _, _, DS.fin _ _ _ g (.inr hl), x.sub (inC rfl (inC rfl (inC rfl (inC rfl in0))))⟩)) (TrsE.ex fun y => TrsE.and fun hy => ?_)
        have hi := (List.getElem?_eq_some_iff.mp hx).1
        have hj := (List.getElem?_eq_some_iff.mp hy).1
        cases hlt : pLt x y with
        | true =>
          have g' := DS.lt g hx hy hlt
          refine TrsE.last (TrE.ite hc (p := true) (fun own => Ts.is (Ts.lt_pr hc.ok rfl rfl) hlt) (fun _ => ?_) nofun)
          refine TrsE.cons (TrE.of (Tr.append hc (pre := [(Str.ofString "unexpected", b, .list (une.map prD))]) (post := []) (d := prD x) (fun own => Ev.name hc.ok rfl) (by simp; omega) rfl rfl (by rw [henv]; rfl))) ?_
          refine TrsE.cons (TrE.aug hc rfl (.inl (kO henv rfl)) (ne2 (by decide) (by decide))) ?_
          refine TrsE.last (TrE.imp_to (TrE.while hc (l := l1) (j := i + 1) (b := x) rfl rfl (by omega) rfl (next_ne n1 hx)) ?_ ?_)
          · rintro f s ⟨hf, hlt', S⟩
            refine .inl ⟨hf, _, ?_, ⟨i + 1, j, mis ++ [x], une⟩, g', rfl, ?_⟩
            · simp only; omega
            · have := S.sub (ρ' := dRho l1 l2 (i + 1) j) (inC rfl (inC rfl (inC rfl (inC rfl in0))))
              simpa [dOm] using this
          · rintro e s ⟨hl, S⟩
            refine ⟨⟨i + 1, j, mis ++ [x], une⟩, true, true, DS.fin _ _ _ g' (.inl hl), ?_⟩
            have := S.sub (ρ' := dRho l1 l2 (i + 1) j) (inC rfl (inC rfl (inC rfl (inC rfl in0))))
            simpa [dOm] using this
        | false =>
          refine TrsE.last (TrE.ite hc (p := false) (fun own => Ts.is (Ts.lt_pr hc.ok rfl rfl) hlt) nofun fun _ => TrsE.last ?_)
          cases hgt : pLt y x with
          | true =>
            have g' := DS.gt g hx hy hlt hgt
            refine TrE.ite hc (p := true) (fun own => Ts.is (Ts.gt_pr hc.ok rfl rfl) hgt) (fun _ => ?_) nofun
            refine TrsE.cons (TrE.of (Tr.append hc (pre := []) (d := prD y) (fun own => Ev.name hc.ok rfl) (by simp; omega) rfl rfl (by rw [henv]; rfl))) ?_
            refine TrsE.cons (TrE.aug hc rfl (.inl (kO henv rfl)) (ne2 (by decide) (by decide))) ?_
            refine TrsE.last (TrE.imp_to (TrE.while hc (l := l2) (j := j + 1) (b := y) rfl rfl (by omega) rfl (next_ne n2 hy)) ?_ ?_)
            · rintro f s ⟨hf, hlt', S⟩
              refine .inl ⟨hf, _, ?_, ⟨i, j + 1, mis, une ++ [y]⟩, g', rfl, ?_⟩
              · simp only; omega
              · have := S.sub (ρ' := dRho l1 l2 i (j + 1)) (inC rfl (inC rfl (inC rfl (inC rfl in0))))
                simpa [dOm] using this
            · rintro e s ⟨hl, S⟩
              refine ⟨⟨i, j + 1, mis, une ++ [y]⟩, true, true, DS.fin _ _ _ g' (.inr hl), ?_⟩
              have := S.sub (ρ' := dRho l1 l2 i (j + 1)) (inC rfl (inC rfl (inC rfl (inC rfl in0))))
              simpa [dOm] using this
          | false =>
            have g' := DS.eq g hx hy hlt hgt
            refine TrE.ite hc (p := false) (fun own => Ts.is (Ts.gt_pr hc.ok rfl rfl) hgt) nofun fun _ => ?_
            refine TrsE.cons (TrE.aug hc rfl (.inl (kO henv rfl)) (ne2 (by decide) (by decide))) ?_
            refine TrsE.last (TrE.imp_to (TrE.final hc (p1 := i + 1 < l1.length) (q1 := l1.length ≤ i + 1) (p2 := j + 1 < l2.length) (q2 := l2.length ≤ j + 1)
              (TrsE.last (TrE.imp_to (TrE.while hc (l := l1) (j := i + 1) (b := x) rfl rfl (by omega) rfl (next_ne n1 hx)) (fun f s q => q) (fun e s ⟨h, x⟩ => ⟨h, true, x⟩)))
              (fun _ => TrsE.cons (TrE.aug hc rfl (.inl (kO henv rfl)) (ne2 (by decide) (by decide))) (TrsE.last (TrE.imp_to (TrE.while hc (l := l2) (j := j + 1) (b := y) rfl rfl (by omega) rfl (next_ne n2 hy)) (fun f s q => q) (fun e s ⟨h, x⟩ => ⟨h, true, true, x⟩))))
              (fun _ e => TrsE.cons (TrE.augX hc rfl (.inl (kO henv rfl)) (ne2 (by decide) (by decide))) (TrsE.last (TrE.imp_to (TrE.whileX hc (l := l2) (j := j + 1) (b := y) rfl rfl (by omega) rfl (next_ne n2 hy)) (fun f s q => q) (fun e s ⟨h, x⟩ => ⟨h, true, false, x⟩))))) ?_ ?_)
            · rintro f s ⟨hf, h1', h2', S⟩
              refine .inl ⟨hf, _, ?_, ⟨i + 1, j + 1, mis, une⟩, g', rfl, ?_⟩
              · simp only; omega
              · have := S.sub (ρ' := dRho l1 l2 (i + 1) (j + 1)) (inC rfl (inC rfl (inC rfl (inC rfl in0))))
                simpa [dOm] using this
            · rintro e s ⟨hl, tr, z, S⟩
              refine ⟨⟨i + 1, j + 1, mis, une⟩, tr, z, DS.fin _ _ _ g' (by rcases hl with ⟨_, h⟩ | ⟨h, _⟩ | ⟨h, _⟩; exact .inr h; exact .inl h; exact .inl h), ?_⟩
              have := S.sub (ρ' := dRho l1 l2 (i + 1) (j + 1)) (inC rfl (inC rfl (inC rfl (inC rfl in0))))
              simpa [dOm] using this
      · intro d e E s g S
        obtain ⟨i, j, mis, une⟩ := d
        obtain ⟨g1, g2, g3, g4, g5, g6⟩ := g
        simp only at g1 g2 g3 g4 g5 g6 S ⊢
        obtain ⟨own, S⟩ := S
        refine wpAny_execs_cons (wpAny_mono (H.extend (pre := [(Str.ofString "unexpected", b, .list (une.map prD))]) (post := []) S hc rfl rfl (by simpa using g1) (by simp; omega) rfl (by rw [henv]; rfl) rfl) (fun f s₁ ⟨hf, S₁⟩ => ?_) fun _ _ x => x)
        subst hf
        refine wpAny_execs_cons (wpAny_mono (H.extend (pre := []) S₁ hc rfl rfl (by simpa using g2) (by simp; omega) rfl (by rw [henv]; rfl) rfl) (fun f s₂ ⟨hf, S₂⟩ => ?_) fun _ _ x => x)
        subst hf
        refine wpAny_execs_cons (wpAny_Break ?_)
        refine .inr ⟨rfl, own, ?_⟩
        have S₃ := S₂.sub (ρ' := []) in0
        have e1 : mis.map prD ++ (l1.map prD).drop i = (diffP l1 l2).1.map prD := by rw [← g5, List.map_append, List.map_drop]
        have e2 : une.map prD ++ (l2.map prD).drop j = (diffP l1 l2).2.map prD := by rw [← g6, List.map_append, List.map_drop]
        rw [e1, e2] at S₃
        exact S₃
    · refine Trs.imp (Trs.last (Tr.imp_to (Tr.ret hc fun own => ?_) fun f s ⟨v, e, D, S⟩ => ⟨v, e, D, _, _, S⟩)) fun s S => C.St.freeze (C.St.freeze S (pre := []) hc hbO) (pre := []) (post := []) hc haO
      exact Ev.tuple hc.ok rfl (ds := [.list ((diffP l1 l2).1.map prD), .list ((diffP l1 l2).2.map prD)]) (Evs.cons hc.ok (Ev.name hc.ok rfl) (Evs.cons hc.ok (Ev.name hc.ok rfl) Evs.nil)) (by show 2 ≤ sizeLine; decide)
end Mine

/-! Q1 -/
namespace Mine
/-- the reader's state over signs -/
def hgo (st : HS) (ns : List Nat) : HS := ns.foldl (fun st n => hstep st ⟨#[n]⟩) st
theorem hgo_append (st : HS) (a b : List Nat) : hgo st (a ++ b) = hgo (hgo st a) b := by simp [hgo]
theorem hrun_go (y : Str) : hrun (signData y) = hgo ⟨[], Str.ofString "", false, false⟩ y.cps.toList := by
  unfold hrun signData hgo
  rw [List.foldl_map]
  rfl
theorem hgo_res (ns : List Nat) : ∀ st : HS, ∃ r, (hgo st ns).res = st.res ++ r := by
  induction ns with
  | nil => intro st; exact ⟨[], by simp [hgo]⟩
  | cons n ns ih =>
    intro st
    obtain ⟨r, hr⟩ := ih (hstep st ⟨#[n]⟩)
    have : ∃ q, (hstep st ⟨#[n]⟩).res = st.res ++ q := by
      unfold hstep
      repeat' split
      all_goals first | exact ⟨[], (List.append_nil _).symm⟩ | exact ⟨_, rfl⟩
    obtain ⟨q, hq⟩ := this
    refine ⟨q ++ r, ?_⟩
    show (hgo (hstep st ⟨#[n]⟩) ns).res = _
    rw [hr, hq, List.append_assoc]
theorem Str.append_nil' (x : Str) : x ++ Str.ofString "" = x := by
  apply Str.ext'
  show (x.cps ++ (Str.ofString "").cps) = x.cps
  have : (Str.ofString "").cps = #[] := by decide
  rw [this]; simp
theorem Str.append_assoc' (x y z : Str) : x ++ y ++ z = x ++ (y ++ z) := by
  apply Str.ext'
  show (x.cps ++ y.cps ++ z.cps) = (x.cps ++ (y.cps ++ z.cps))
  simp
/-- a piece without a comma outside of quotes -/
theorem hgo_part (ns : List Nat) : ∀ (res : List Str) (p q : Str) (e k e' k' : Bool) (p' : Str), hgo ⟨[], q, e, k⟩ ns = ⟨[], p', e', k'⟩ → hgo ⟨res, p ++ q, e, k⟩ ns = ⟨res, p ++ p', e', k'⟩ := by
  induction ns with
  | nil => intro res p q e k e' k' p' h; cases h; rfl
  | cons n ns ih =>
    intro res p q e k e' k' p' h
    have h' : hgo (hstep ⟨[], q, e, k⟩ ⟨#[n]⟩) ns = ⟨[], p', e', k'⟩ := h
    show hgo (hstep ⟨res, p ++ q, e, k⟩ ⟨#[n]⟩) ns = _
    unfold hstep at h' ⊢
    repeat' split at h'
    all_goals simp_all only [if_true, if_false, Bool.false_eq_true, Str.append_assoc']
    all_goals first
      | exact ih _ _ _ _ _ _ _ _ h'
      | (exfalso; obtain ⟨r, hr⟩ := hgo_res ns _; rw [h'] at hr; simp at hr)
      | skip

theorem head_go' : ∀ (k : Fin 4) (v : Fin 7), hgo ⟨[], Str.ofString "", false, false⟩ (headS (k, v)).cps.toList = ⟨[], itemS (k, v), false, false⟩ := by
  intro k v
  have h : ∀ (k : Fin 4) (v : Fin 7), let r := hgo ⟨[], Str.ofString "", false, false⟩ (headS (k, v)).cps.toList; r.res = [] ∧ r.part = itemS (k, v) ∧ r.esc = false ∧ r.quo = false := by decide +kernel
  obtain ⟨h1, h2, h3, h4⟩ := h k v
  generalize hgo ⟨[], Str.ofString "", false, false⟩ (headS (k, v)).cps.toList = r at h1 h2 h3 h4
  obtain ⟨a, b, c, d⟩ := r
  simp only at h1 h2 h3 h4
  rw [h1, h2, h3, h4]
theorem head_go (p : Pr) (res : List Str) (q : Str) : hgo ⟨res, q, false, false⟩ (headS p).cps.toList = ⟨res, q ++ itemS p, false, false⟩ := by
  have := hgo_part (headS p).cps.toList res q (Str.ofString "") false false false false (itemS p) (head_go' p.1 p.2)
  rwa [Str.append_nil'] at this
theorem sep_go (res : List Str) (q : Str) : hgo ⟨res, q, false, false⟩ (Str.ofString ", ").cps.toList = ⟨res ++ [q], Str.ofString " ", false, false⟩ := by
  have e : (Str.ofString ", ").cps.toList = [44, 32] := by decide
  rw [e]
  have c1 : ((⟨#[44]⟩ : Str) == Str.ofString ",") = true := by decide
  have c2 : ((⟨#[32]⟩ : Str) == Str.ofString ",") = false := by decide
  have c3 : ((⟨#[32]⟩ : Str) == Str.ofString "\"") = false := by decide
  have c4 : (Str.ofString "" ++ (⟨#[32]⟩ : Str)) = Str.ofString " " := by decide
  simp only [hgo, List.foldl_cons, List.foldl_nil, hstep, c1, c2, c3, c4, if_true, if_false, Bool.false_eq_true]
theorem strip_item' : ∀ (k : Fin 4) (v : Fin 7), Txt.strip (itemS (k, v)) = itemS (k, v) ∧ Txt.strip (Str.ofString " " ++ itemS (k, v)) = itemS (k, v) ∧ (itemS (k, v)).length ≠ 0 := by decide +kernel

abbrev hIni : HS := ⟨[], Str.ofString "", false, false⟩
theorem strip_sp (p : Pr) : Txt.strip (Str.ofString " " ++ itemS p) = itemS p := by
  obtain ⟨k, v⟩ := p
  obtain ⟨_, h, _⟩ := strip_item' k v
  exact h
theorem strip_it (p : Pr) : Txt.strip (itemS p) = itemS p := by
  obtain ⟨k, v⟩ := p
  obtain ⟨h, _, _⟩ := strip_item' k v
  exact h
theorem strip_all (rest : List Pr) : (rest.map fun p => Str.ofString " " ++ itemS p).map Txt.strip = rest.map itemS := by
  induction rest with
  | nil => rfl
  | cons p rest ih => rw [List.map_cons, List.map_cons, List.map_cons, ih, strip_sp]
theorem fold_go (rest : List Pr) : ∀ (acc : Array Nat) (res : List Str) (q : Str), q.length ≠ 0 → hgo hIni acc.toList = ⟨res, q, false, false⟩ →
    ∃ res' q', q'.length ≠ 0 ∧ hgo hIni ((rest.map headS).foldl (fun acc p => acc ++ (Str.ofString ", ").cps ++ p.cps) acc).toList = ⟨res', q', false, false⟩ ∧ res' ++ [q'] = res ++ [q] ++ rest.map fun p => Str.ofString " " ++ itemS p := by
  induction rest with
  | nil => intro acc res q hq h; exact ⟨res, q, hq, h, by simp⟩
  | cons p rest ih =>
    intro acc res q hq h
    have h' : hgo hIni (acc ++ (Str.ofString ", ").cps ++ (headS p).cps).toList = ⟨res ++ [q], Str.ofString " " ++ itemS p, false, false⟩ := by
      rw [Array.toList_append, Array.toList_append, hgo_append, hgo_append, h, sep_go, head_go]
    obtain ⟨res', q', e1, e2, e3⟩ := ih _ _ _ (by rw [Str.length_append]; have : (Str.ofString " ").length = 1 := rfl; omega) h'
    exact ⟨res', q', e1, e2, by rw [e3]; simp⟩
theorem header_end (l : List Pr) : hEnd (headerS l) = l.map itemS := by
  cases l with
  | nil => decide +kernel
  | cons p rest =>
    have hne : (itemS p).length ≠ 0 := (strip_item' p.1 p.2).2.2
    have h0 : hgo hIni (headS p).cps.toList = ⟨[], itemS p, false, false⟩ := head_go' p.1 p.2
    obtain ⟨res', q', e1, e2, e3⟩ := fold_go rest (headS p).cps [] (itemS p) hne h0
    have e : (headerS (p :: rest)).cps = (rest.map headS).foldl (fun acc p => acc ++ (Str.ofString ", ").cps ++ p.cps) (headS p).cps := rfl
    unfold hEnd
    rw [hrun_go, e, e2]
    simp only
    rw [if_pos (by simpa using e1), e3]
    rw [List.nil_append, List.singleton_append, List.map_cons, List.map_cons, strip_all, strip_it]
theorem header_len (l : List Pr) : (headerS l).length ≤ 22 * l.length := by
  have h : (headerS l).length = ((l.map headS).map (·.length)).sum + ((l.map headS).length - 1) * (Str.ofString ", ").length := PySem.size_glued _ _
  have h2 := head_sum l
  have h3 : (Str.ofString ", ").length = 2 := rfl
  rw [h, h3, List.length_map]
  omega
/-- what _law_read gives -/
theorem read_ok' {pw : PW} {base : Heap} {mg : Str → Option Value} (B : Base pw base mg) (l : List Pr) (hy : l.length ≤ 100) : FnOK pw base mg 2 45 [.list (l.map prD)] (.list ((readP l).map prD)) :=
  read_ok B l hy (header_end l) (by have := header_len l; omega)
end Mine

/-! Q2 -/
namespace Mine
theorem setP_keys (l : List Pr) (p : Pr) : keysOf (setP l p) = if p.1 ∈ keysOf l then keysOf l else keysOf l ++ [p.1] := by
  have e : l.any (fun q => decide (q.1 = p.1)) = true ↔ p.1 ∈ keysOf l := by
    simp only [keysOf, List.any_eq_true, decide_eq_true_eq, List.mem_map]
  unfold setP
  by_cases h : p.1 ∈ keysOf l
  · rw [if_pos (e.mpr h), if_pos h]
    unfold keysOf
    rw [List.map_map]
    apply List.map_congr_left
    intro q _
    simp only [Function.comp]
    split <;> rfl
  · rw [if_neg (fun h' => h (e.mp h')), if_neg h]
    simp [keysOf]
theorem setP_nodup (l : List Pr) (p : Pr) (h : (keysOf l).Nodup) : (keysOf (setP l p)).Nodup := by
  rw [setP_keys]
  split
  · exact h
  · rename_i hn
    rw [List.nodup_append]
    refine ⟨h, by simp, fun a ha b hb => ?_⟩
    rw [List.mem_singleton.mp hb]
    rintro rfl
    exact hn ha
theorem delP_nodup (l : List Pr) (k : Fin 4) (h : (keysOf l).Nodup) : (keysOf (delP l k)).Nodup := by
  unfold delP keysOf
  exact List.Nodup.sublist (List.Sublist.map _ (List.filter_sublist)) h
theorem tabStep_nodup (t : List Pr) (x : Int) (h : (keysOf t).Nodup) : (keysOf (tabStep t x)).Nodup := by
  unfold tabStep
  split
  · exact delP_nodup _ _ h
  · exact setP_nodup _ _ h
theorem vRun_nodup (l : List Int) : (keysOf (vRun l).tab).Nodup ∧ ∀ t ∈ (vRun l).vs, (keysOf t).Nodup := by
  suffices h : ∀ (l : List Int) (st : VS), (keysOf st.tab).Nodup → (∀ t ∈ st.vs, (keysOf t).Nodup) → (keysOf (l.foldl vStep st).tab).Nodup ∧ ∀ t ∈ (l.foldl vStep st).vs, (keysOf t).Nodup by
    exact h l ⟨[tab0], tab0⟩ (by decide) (by intro t ht; rw [List.mem_singleton.mp ht]; decide)
  intro l
  induction l with
  | nil => intro st h1 h2; exact ⟨h1, h2⟩
  | cons x l ih =>
    intro st h1 h2
    refine ih (vStep st x) (tabStep_nodup _ _ h1) ?_
    intro t ht
    unfold vStep at ht
    simp only at ht
    split at ht
    · exact h2 t ht
    · rcases List.mem_append.mp ht with m | m
      · exact h2 t m
      · rw [List.mem_singleton.mp m]; exact tabStep_nodup _ _ h1
theorem ver_nodup (l : List Int) : ∀ t ∈ verP l, (keysOf t).Nodup := by
  intro t ht
  rcases List.mem_append.mp ht with m | m
  · exact (vRun_nodup l).2 t m
  · rw [List.mem_singleton.mp m]; exact (vRun_nodup l).1
theorem readP_nodup (l : List Pr) (h : (keysOf l).Nodup) : readP l = l := by
  suffices key : ∀ (l a : List Pr), (keysOf (a ++ l)).Nodup → l.foldl setP a = a ++ l by simpa [readP] using key l [] h
  intro l
  induction l with
  | nil => intro a _; simp
  | cons p l ih =>
    intro a h
    have hn : p.1 ∉ keysOf a := by
      intro m
      simp only [keysOf, List.map_append, List.map_cons] at h m
      exact (List.nodup_append.mp h).2.2 _ m _ (.head _) rfl
    have e : setP a p = a ++ [p] := by
      unfold setP
      rw [if_neg]
      simp only [List.any_eq_true, decide_eq_true_eq]
      rintro ⟨q, hq, e⟩
      exact hn (e ▸ List.mem_map.mpr ⟨q, hq, rfl⟩)
    rw [List.foldl_cons, e, ih _ (by simpa using h)]
    simp
end Mine

/-! Q3 -/
namespace Mine
def upd (f : Fin 4 → Fin 7) (p : Pr) : Fin 4 → Fin 7 := fun k => if k = p.1 then p.2 else f k
def ap (f : Fin 4 → Fin 7) (l : List Pr) : Fin 4 → Fin 7 := l.foldl upd f
def zero : Fin 4 → Fin 7 := fun _ => 0
theorem ap_append (f : Fin 4 → Fin 7) (l m : List Pr) : ap f (l ++ m) = ap (ap f l) m := by simp [ap]
theorem ap_snoc (f : Fin 4 → Fin 7) (l : List Pr) (p : Pr) : ap f (l ++ [p]) = upd (ap f l) p := by simp [ap]
theorem read_ap (l : List Pr) : readP l = (keysP l).map fun k => (k, ap zero l k) := by
  suffices h : ∀ l : List Pr, readP l = (keysP l).map fun k => (k, ap zero l k) from h l
  intro l
  generalize hn : l.length = n
  induction n generalizing l with
  | zero => rw [List.length_eq_zero_iff.mp hn]; rfl
  | succ n ih =>
    have hne : l ≠ [] := by intro e; rw [e] at hn; cases hn
    obtain ⟨l, p, rfl⟩ : ∃ m p, l = m ++ [p] := ⟨l.dropLast, l.getLast hne, (List.dropLast_concat_getLast hne).symm⟩
    have hl := ih l (by simpa using hn)
    rw [readP_snoc, keysP_snoc, hl]
    have e : ((keysP l).map fun k => (k, ap zero l k)).any (fun q => decide (q.1 = p.1)) = (keysP l).any (fun k => decide (k = p.1)) := by
      rw [List.any_map]; rfl
    unfold setP keyStep
    rw [e]
    cases h : (keysP l).any (fun k => decide (k = p.1)) with
    | true =>
      rw [if_pos rfl, if_pos rfl, List.map_map]
      apply List.map_congr_left
      intro k _
      simp only [Function.comp, ap_snoc, upd]
      by_cases hk : k = p.1
      · rw [if_pos hk, if_pos hk]
      · rw [if_neg hk, if_neg hk]
    | false =>
      rw [if_neg (by decide), if_neg (by decide), List.map_append]
      have hnk : ∀ k ∈ keysP l, k ≠ p.1 := fun k hk e => by
        have : (keysP l).any (fun k => decide (k = p.1)) = true := List.any_eq_true.mpr ⟨k, hk, by simpa using e⟩
        rw [h] at this; cases this
      congr 1
      · apply List.map_congr_left
        intro k hk
        rw [ap_snoc]; unfold upd
        rw [if_neg (hnk k hk)]
      · simp only [List.map_cons, List.map_nil, ap_snoc, upd, if_true]
theorem get_ap (v : List Pr) (h : (keysOf v).Nodup) (k : Fin 4) : getP v k = ap zero v k := by
  suffices key : ∀ (v : List Pr) (f : Fin 4 → Fin 7), (keysOf v).Nodup → ap f v k = ((v.find? fun p => decide (p.1 = k)).map (·.2)).getD (f k) by
    exact (key v zero h).symm
  intro v
  induction v with
  | nil => intro f _; rfl
  | cons p v ih =>
    intro f h
    have h' : p.1 ∉ keysOf v ∧ (keysOf v).Nodup := by simpa [keysOf] using h
    show ap (upd f p) v k = _
    rw [ih _ h'.2, List.find?_cons]
    by_cases hk : p.1 = k
    · have hnone : (v.find? fun p => decide (p.1 = k)) = none := by
        rw [List.find?_eq_none]
        intro q hq e
        have hqk : q.1 = k := by simpa using e
        exact h'.1 (List.mem_map.mpr ⟨q, hq, hqk.trans hk.symm⟩)
      simp [hk, hnone, upd]
    · have : ¬ k = p.1 := fun e => hk e.symm
      simp [hk, upd, this]
theorem read_due (l v : List Pr) (h : (keysOf v).Nodup) (e : ap zero l = ap zero v) : readP l = dueP l v := by
  rw [read_ap]
  unfold dueP
  apply List.map_congr_left
  intro k _
  rw [get_ap v h, e]
end Mine

/-! Q4 -/
namespace Mine
theorem ap_not {k : Fin 4} : ∀ (l : List Pr) (f : Fin 4 → Fin 7), k ∉ keysOf l → ap f l k = f k
  | [], f, _ => rfl
  | p :: l, f, h => by
    have h' : k ≠ p.1 ∧ k ∉ keysOf l := by simpa [keysOf] using h
    show ap (upd f p) l k = f k
    rw [ap_not l _ h'.2]; unfold upd; rw [if_neg h'.1]
theorem ap_mem : ∀ (l : List Pr) (f : Fin 4 → Fin 7), (keysOf l).Nodup → ∀ p ∈ l, ap f l p.1 = p.2
  | [], f, _, p, hp => by cases hp
  | q :: l, f, h, p, hp => by
    have h' : q.1 ∉ keysOf l ∧ (keysOf l).Nodup := by simpa [keysOf] using h
    show ap (upd f q) l p.1 = p.2
    rcases List.mem_cons.mp hp with rfl | hp
    · rw [ap_not l _ h'.1]; unfold upd; rw [if_pos rfl]
    · exact ap_mem l _ h'.2 p hp
theorem mem_keys {l : List Pr} {k : Fin 4} (h : k ∈ keysOf l) : ∃ v, (k, v) ∈ l := by
  obtain ⟨⟨a, v⟩, hp, rfl⟩ := List.mem_map.mp h
  exact ⟨v, hp⟩
theorem keys_mem {l : List Pr} {p : Pr} (h : p ∈ l) : p.1 ∈ keysOf l := List.mem_map.mpr ⟨p, h, rfl⟩
theorem one_val {l : List Pr} (h : (keysOf l).Nodup) {k : Fin 4} {a b : Fin 7} (ha : (k, a) ∈ l) (hb : (k, b) ∈ l) : a = b := by
  have e1 := ap_mem l zero h _ ha
  have e2 := ap_mem l zero h _ hb
  exact e1.symm.trans e2
def minus (v w : List Pr) : List Pr := v.filter fun p => !(w.any fun q => decide (q = p))
theorem mem_minus {v w : List Pr} {p : Pr} : p ∈ minus v w ↔ p ∈ v ∧ p ∉ w := by
  unfold minus
  rw [List.mem_filter]
  refine and_congr_right fun _ => ?_
  rw [Bool.not_eq_true', List.any_eq_false]
  exact ⟨fun h m => h p m (by simp), fun h q hq e => h ((of_decide_eq_true e) ▸ hq)⟩
theorem minus_nodup {v w : List Pr} (h : (keysOf v).Nodup) : (keysOf (minus v w)).Nodup := List.Nodup.sublist (List.Sublist.map _ List.filter_sublist) h
theorem ap_chg (v w : List Pr) (hv : (keysOf v).Nodup) (hw : (keysOf w).Nodup) : ap (ap zero v) (chgP (minus v w) (minus w v)) = ap zero w := by
  funext k
  unfold chgP
  rw [ap_append]
  by_cases hc : k ∈ keysOf (minus w v)
  · obtain ⟨u, hu⟩ := mem_keys hc
    have hm := (mem_minus.mp hu).1
    exact (ap_mem _ _ (minus_nodup hw) _ hu).trans (ap_mem w zero hw _ hm).symm
  · rw [ap_not _ _ hc]
    generalize hG : ((minus v w).filter fun p => !((minus w v).any fun q => decide (q.1 = p.1))).map (fun p => ((p.1, 0) : Pr)) = G
    have hGn : (keysOf G).Nodup := by
      have e : keysOf G = keysOf ((minus v w).filter fun p => !((minus w v).any fun q => decide (q.1 = p.1))) := by rw [← hG]; simp [keysOf, Function.comp_def]
      rw [e]
      exact List.Nodup.sublist (List.Sublist.map _ List.filter_sublist) (minus_nodup hv)
    by_cases hg : k ∈ keysOf (minus v w)
    · obtain ⟨t, ht⟩ := mem_keys hg
      have hmem : ((k, 0) : Pr) ∈ G := by
        rw [← hG]
        refine List.mem_map.mpr ⟨(k, t), List.mem_filter.mpr ⟨ht, ?_⟩, rfl⟩
        simp only [Bool.not_eq_true', List.any_eq_false, decide_eq_true_eq]
        intro q hq e
        exact hc (e ▸ keys_mem hq)
      rw [show ap (ap zero v) G k = 0 from ap_mem G _ hGn _ hmem]
      have hkw : k ∉ keysOf w := fun m => by
        obtain ⟨u, hu⟩ := mem_keys m
        by_cases huv : (k, u) ∈ v
        · have := one_val hv huv (mem_minus.mp ht).1
          subst this
          exact (mem_minus.mp ht).2 hu
        · exact hc (keys_mem (mem_minus.mpr ⟨hu, huv⟩))
      rw [ap_not w zero hkw]; rfl
    · have hkG : k ∉ keysOf G := fun m => by
        rw [← hG] at m
        obtain ⟨u, hu⟩ := mem_keys m
        obtain ⟨q, hq, e⟩ := List.mem_map.mp hu
        have : q.1 = k := congrArg Prod.fst e
        exact hg (this ▸ keys_mem (List.mem_filter.mp hq).1)
      rw [ap_not G _ hkG]
      by_cases hkv : k ∈ keysOf v
      · obtain ⟨t, ht⟩ := mem_keys hkv
        have hw' : (k, t) ∈ w := by
          refine Classical.byContradiction fun hn => hg (keys_mem (mem_minus.mpr ⟨ht, hn⟩))
        exact (ap_mem v zero hv _ ht).trans (ap_mem w zero hw _ hw').symm
      · have hkw : k ∉ keysOf w := fun m => by
          obtain ⟨u, hu⟩ := mem_keys m
          exact hc (keys_mem (mem_minus.mpr ⟨hu, fun h => hkv (keys_mem h)⟩))
        rw [ap_not v zero hkv, ap_not w zero hkw]
end Mine

/-! Q5 -/
namespace Mine
def kRank : Fin 4 → Nat | 2 => 0 | 0 => 1 | 1 => 2 | 3 => 3
def vRank : Fin 7 → Nat | 0 => 0 | 5 => 1 | 2 => 2 | 3 => 3 | 4 => 4 | 1 => 5 | 6 => 6
def rk (p : Pr) : Nat := kRank p.1 * 10 + vRank p.2
theorem rk_lt' : ∀ (a : Fin 4) (b : Fin 7) (c : Fin 4) (d : Fin 7), pLt (a, b) (c, d) = decide (rk (a, b) < rk (c, d)) := by decide +kernel
theorem rk_lt (p q : Pr) : pLt p q = decide (rk p < rk q) := rk_lt' p.1 p.2 q.1 q.2
theorem rk_inj' : ∀ (a : Fin 4) (b : Fin 7) (c : Fin 4) (d : Fin 7), rk (a, b) = rk (c, d) → a = c ∧ b = d := by decide +kernel
theorem rk_inj (p q : Pr) (h : rk p = rk q) : p = q := by
  obtain ⟨a, b⟩ := p; obtain ⟨c, d⟩ := q
  obtain ⟨rfl, rfl⟩ := rk_inj' a b c d h
  rfl
def up (l : List Pr) : Prop := l.Pairwise fun p q => rk p < rk q
theorem minus_nil (l : List Pr) : minus l [] = l := by
  unfold minus; rw [List.filter_eq_self]; intro p _; rfl
theorem minus_cons_in {x : Pr} {xs ys : List Pr} (h : x ∈ ys) : minus (x :: xs) ys = minus xs ys := by
  unfold minus
  rw [List.filter_cons_of_neg]
  have : ys.any (fun q => decide (q = x)) = true := List.any_eq_true.mpr ⟨x, h, by simp⟩
  rw [this]; decide
theorem minus_cons_out {x : Pr} {xs ys : List Pr} (h : x ∉ ys) : minus (x :: xs) ys = x :: minus xs ys := by
  unfold minus
  rw [List.filter_cons_of_pos]
  have : ys.any (fun q => decide (q = x)) = false := by
    rw [List.any_eq_false]
    intro q hq e
    exact h ((of_decide_eq_true e) ▸ hq)
  rw [this]; rfl
theorem minus_skip {y : Pr} {xs ys : List Pr} (h : y ∉ xs) : minus xs (y :: ys) = minus xs ys := by
  unfold minus
  apply List.filter_congr
  intro p hp
  have : decide (y = p) = false := decide_eq_false fun e => h (e ▸ hp)
  rw [List.any_cons, this, Bool.false_or]
theorem diff_minus : ∀ (xs ys : List Pr), up xs → up ys → diffP xs ys = (minus xs ys, minus ys xs)
  | [], ys, _, _ => by rw [diffP_nil1, minus_nil]; rfl
  | x :: xs, [], _, _ => by rw [diffP_nil2, minus_nil]; rfl
  | x :: xs, y :: ys, hx, hy => by
    obtain ⟨hx1, hx2⟩ := List.pairwise_cons.mp hx
    obtain ⟨hy1, hy2⟩ := List.pairwise_cons.mp hy
    rw [diffP, rk_lt, rk_lt]
    by_cases h1 : rk x < rk y
    · have hxy : x ∉ y :: ys := fun m => by
        rcases List.mem_cons.mp m with e | m
        · rw [e] at h1; omega
        · have := hy1 x m; omega
      rw [if_pos (decide_eq_true h1), diff_minus xs (y :: ys) hx2 hy, minus_cons_out hxy, minus_skip hxy]
    · rw [if_neg (by simpa using h1)]
      by_cases h2 : rk y < rk x
      · have hyx : y ∉ x :: xs := fun m => by
          rcases List.mem_cons.mp m with e | m
          · rw [e] at h2; omega
          · have := hx1 y m; omega
        rw [if_pos (decide_eq_true h2), diff_minus (x :: xs) ys hx hy2, minus_cons_out hyx, minus_skip hyx]
      · rw [if_neg (by simpa using h2)]
        have e : x = y := rk_inj x y (by omega)
        subst e
        have hn1 : x ∉ xs := fun m => by have := hx1 x m; omega
        have hn2 : x ∉ ys := fun m => by have := hy1 x m; omega
        rw [diff_minus xs ys hx2 hy2, minus_cons_in (.head _), minus_cons_in (.head _), minus_skip hn1, minus_skip hn2]
termination_by xs ys => xs.length + ys.length
end Mine

/-! Q6 -/
namespace Mine
theorem vRank_lt : ∀ v : Fin 7, vRank v < 10 := by decide
theorem sort_keys (l : List Pr) : keysOf (sortP l) = ranks.filter fun k => hasP l k := by
  unfold keysOf sortP
  rw [List.map_map]
  exact List.map_id _
theorem sort_nodup (l : List Pr) : (keysOf (sortP l)).Nodup := by
  rw [sort_keys]
  exact List.Nodup.sublist List.filter_sublist (by decide)
theorem sort_up (l : List Pr) : up (sortP l) := by
  unfold up sortP
  rw [List.pairwise_map]
  have h : ranks.Pairwise fun a b => kRank a < kRank b := by decide
  refine List.Pairwise.imp ?_ (List.Pairwise.sublist List.filter_sublist h)
  intro a b hab
  have h1 := vRank_lt (getP l a)
  show kRank a * 10 + vRank (getP l a) < kRank b * 10 + vRank (getP l b)
  omega
theorem rank_all : ∀ k : Fin 4, k ∈ ranks := by decide
theorem hasP_iff (l : List Pr) (k : Fin 4) : hasP l k = true ↔ k ∈ keysOf l := by
  rw [hasP_keys]; simp
theorem sort_ap (l : List Pr) (h : (keysOf l).Nodup) : ap zero (sortP l) = ap zero l := by
  funext k
  by_cases hk : k ∈ keysOf l
  · have hm : ((k, getP l k) : Pr) ∈ sortP l := List.mem_map.mpr ⟨k, List.mem_filter.mpr ⟨rank_all k, (hasP_iff l k).mpr hk⟩, rfl⟩
    exact (ap_mem _ zero (sort_nodup l) _ hm).trans (get_ap l h k)
  · rw [ap_not l zero hk, ap_not]
    rw [sort_keys]
    intro m
    exact hk ((hasP_iff l k).mp (List.mem_filter.mp m).2)
theorem up_nodup {l : List Pr} (h : up l) : l.Nodup := List.Pairwise.imp (fun h e => by rw [e] at h; omega) h
theorem sort_len (l : List Pr) : (sortP l).length ≤ 4 := by
  have := nodup4 _ (sort_nodup l)
  simpa using this
/-- from a version to the next -/
theorem step_ap (v w : List Pr) (hv : (keysOf v).Nodup) (hw : (keysOf w).Nodup) :
    ap (ap zero v) (chgP (diffP (sortP v) (sortP w)).1 (diffP (sortP v) (sortP w)).2) = ap zero w := by
  rw [diff_minus _ _ (sort_up v) (sort_up w), ← sort_ap v hv, ← sort_ap w hw]
  exact ap_chg _ _ (sort_nodup v) (sort_nodup w)
end Mine

/-! Q7 -/
namespace Mine
/-- the version of number k, and its sorted pairs -/
def vAt (vs : List (List Pr)) (k : Nat) : List Pr := vs.getD k []
def rAt (vs : List (List Pr)) (k : Nat) : List Pr := sortP (vAt vs k)
/-- the change from one sorted list to another -/
noncomputable def stepP (a b : List Pr) : List Pr := chgP (diffP a b).1 (diffP a b).2
noncomputable def onw (vs : List (List Pr)) : Nat → List Pr
  | 0 => []
  | k + 1 => onw vs k ++ stepP (rAt vs k) (rAt vs (k + 1))
noncomputable def bck (vs : List (List Pr)) : Nat → List Pr
  | 0 => []
  | k + 1 => stepP (rAt vs (k + 1)) (rAt vs k) ++ bck vs k
theorem minus_len (a b : List Pr) : (minus a b).length ≤ a.length := List.length_filter_le _ _
theorem chg_len (a b : List Pr) : (chgP a b).length ≤ a.length + b.length := by
  have := List.length_filter_le (fun p : Pr => !(b.any fun q => decide (q.1 = p.1))) a
  simp only [chgP, List.length_append, List.length_map]; omega
theorem diff_len (v w : List Pr) : (diffP (sortP v) (sortP w)).1.length ≤ 4 ∧ (diffP (sortP v) (sortP w)).2.length ≤ 4 := by
  rw [diff_minus _ _ (sort_up v) (sort_up w)]
  have h1 := minus_len (sortP v) (sortP w); have h2 := minus_len (sortP w) (sortP v); have := sort_len v; have := sort_len w
  exact ⟨by show (minus (sortP v) (sortP w)).length ≤ 4; omega, by show (minus (sortP w) (sortP v)).length ≤ 4; omega⟩
theorem step_len (v w : List Pr) : (stepP (sortP v) (sortP w)).length ≤ 8 := by
  have := diff_len v w
  have := chg_len (diffP (sortP v) (sortP w)).1 (diffP (sortP v) (sortP w)).2
  unfold stepP; omega
theorem onw_len (vs : List (List Pr)) : ∀ k, (onw vs k).length ≤ 8 * k
  | 0 => Nat.le_refl _
  | k + 1 => by
    have := onw_len vs k; have := step_len (vAt vs k) (vAt vs (k + 1))
    simp only [onw, rAt, List.length_append]; omega
theorem bck_len (vs : List (List Pr)) : ∀ k, (bck vs k).length ≤ 8 * k
  | 0 => Nat.le_refl _
  | k + 1 => by
    have := bck_len vs k; have := step_len (vAt vs (k + 1)) (vAt vs k)
    simp only [bck, rAt, List.length_append]; omega
theorem vAt_nodup {vs : List (List Pr)} (h : ∀ t ∈ vs, (keysOf t).Nodup) (k : Nat) : (keysOf (vAt vs k)).Nodup := by
  unfold vAt
  by_cases hk : k < vs.length
  · rw [List.getD_eq_getElem?_getD, List.getElem?_eq_getElem hk]; exact h _ (List.getElem_mem hk)
  · rw [List.getD_eq_getElem?_getD, List.getElem?_eq_none (by omega)]; exact List.nodup_nil
theorem onw_ap {vs : List (List Pr)} (h : ∀ t ∈ vs, (keysOf t).Nodup) : ∀ k, ap zero (vAt vs 0 ++ onw vs k) = ap zero (vAt vs k)
  | 0 => by simp [onw]
  | k + 1 => by
    rw [onw, ← List.append_assoc, ap_append, onw_ap h k]
    exact step_ap _ _ (vAt_nodup h k) (vAt_nodup h (k + 1))
theorem bck_ap {vs : List (List Pr)} (h : ∀ t ∈ vs, (keysOf t).Nodup) : ∀ k (l : List Pr), ap zero l = ap zero (vAt vs k) → ap zero (l ++ bck vs k) = ap zero (vAt vs 0)
  | 0, l, e => by simpa [bck] using e
  | k + 1, l, e => by
    rw [bck, ← List.append_assoc]
    refine bck_ap h k _ ?_
    rw [ap_append, e]
    exact step_ap _ _ (vAt_nodup h (k + 1)) (vAt_nodup h k)
theorem leap_ap {vs : List (List Pr)} (h : ∀ t ∈ vs, (keysOf t).Nodup) (k : Nat) : ap zero (vAt vs 0 ++ stepP (rAt vs 0) (rAt vs k)) = ap zero (vAt vs k) := by
  rw [ap_append]; exact step_ap _ _ (vAt_nodup h 0) (vAt_nodup h k)
theorem ver_len (l : List Int) : (verP l).length ≤ l.length + 2 ∧ 0 < (verP l).length := by
  have := vRun_len l
  simp only [verP, List.length_append, List.length_singleton]
  omega
theorem nodup_len {t : List Pr} (h : (keysOf t).Nodup) : t.length ≤ 4 := by
  have := nodup4 _ h
  simpa using this
end Mine

/-! R1 -/
namespace Mine
def rangeD (a : Int) (n : Nat) : List PyData := (List.range n).map fun i : Nat => .int (a + (i : Int))
section
variable {c : C} {h₀ : Heap} {s₀ : Shared} {O : List Addr} {ρ : List (Str × PyData)} {ω pre post : List (Str × Addr × OD)} {P R : Shared → Prop} {Q : Flow → Shared → Prop}
/-- for x in range(a, b) -/
theorem Tr.for_range (hc : c.Fn) {x : Str} {px pos rp rpos : Pos} {e₁ e₂ : Expr} {body : List Stmt} {a b : Int} (n : Nat) (hn : n = (b - a).toNat) (J : List PyData → List (Str × PyData)) (W : List PyData → List (Str × Addr × OD))
    (hW : ∀ l, (W l).map (·.2.1) = (W []).map (·.2.1)) (h1 : ∀ own, c.Ev own (J []) e₁ (.int a)) (h2 : ∀ own, c.Ev own (J []) e₂ (.int b)) (ha : 0 ≤ a) (hab : a ≤ b) (hb : b < 2 ^ 62) (hx : c.env.kindOf x = some .local ∨ c.env.kindOf x = some .cell) (hω : ∀ l, ∀ q ∈ W l, q.1 ≠ x)
    (hr : c.env.kindOf (Str.ofString "range") = some .globalImplicit) (hg : c.mg (Str.ofString "range") = none)
    (turn : ∀ h₀ s₀ O pre d post, rangeD a n = pre ++ d :: post → c.Trs (c.St h₀ s₀ O (put (J pre) x d) (W pre)) body (Turn (c.St h₀ s₀ O (J (pre ++ [d])) (W (pre ++ [d])))))
    (hts : backTo rpos (starEach [e₁, e₂] c.env) = [(false, eval e₁ c.env), (false, eval e₂ c.env)])
    (hs : ∀ v, foldedSetIterable (.Call (.Name (Str.ofString "range") rp) [e₁, e₂] [] rpos) c.env v = pure v := by intro _; rfl) :
    c.Tr (c.St h₀ s₀ O (J []) (W [])) (.For (.Name x px) (.Call (.Name (Str.ofString "range") rp) [e₁, e₂] [] rpos) body [] pos) (Next (c.St h₀ s₀ O (J (rangeD a n)) (W (rangeD a n)))) := fun E s ⟨own, S⟩ => by
  refine wpAny_For ?_ hs
  rw [arm_eval_Call_Name', hts]
  refine wpAny_bind (glob_bi hc.ok S.vs hr hg PyProof.Rows.boot_range (by decide) ?_ (by decide))
  refine PySem.callWith_type rfl (evalArgs_of rfl (Calls.spliced_cons (wpAny_mono (h1 own E s S.vs) (fun v s₁ ⟨g₁, D₁⟩ => ?_) fun _ _ x => x)))
  have S₁ := S.grow hc g₁
  refine Calls.spliced_cons (wpAny_mono (h2 own E s₁ S₁.vs) (fun u s₂ ⟨g₂, D₂⟩ => Calls.spliced_nil ?_) fun _ _ x => x)
  have S₂ := S₁.grow hc g₂
  obtain ⟨t, rfl⟩ := D₁.inv_int
  obtain ⟨t', rfl⟩ := D₂.inv_int
  refine call_range_2 ?_
  have hrg := IsRange.new s₂.heap a b 1 t t' s₂.toks
  have hsz : Builtin.Range.rangeSize a b 1 = (n : Int) := by rw [rangeSize_one]; split <;> omega
  refine wpAny_pyIter_range (s := { s₂ with heap := s₂.heap.push { cls := .type "range", data := .fields #[.int a t, .int b t', .int 1 s₂.toks] }, toks := s₂.toks + 1 }) hrg (small_one (by omega) (by omega) (by omega) hb) ?_
  rw [hsz]
  have S₃ := S₂.grow hc (s' := { s₂ with heap := s₂.heap.push { cls := .type "range", data := .fields #[.int a t, .int b t', .int 1 s₂.toks] }, toks := s₂.toks + 1 }) (.mk .push)
  generalize hh : s₂.heap.push { cls := .type "range", data := .fields #[.int a t, .int b t', .int 1 s₂.toks] } = hp at S₃ ⊢
  obtain ⟨S₄, h0, hL, hF, hno⟩ := S₃.ownNew hc (o := { cls := .type "range_iterator", data := .fields #[rawInt a, rawInt n, rawInt 1] }) rfl (tk := s₂.toks + 1)
  have aI : Apart c (W []) hp.objs.size := ⟨hL, hF, fun p hp e => hno (e ▸ (S₃.cell p hp).1), fun q hq e => hno (e ▸ (S₃.owned q hq).1)⟩
  have Wk := Walks.range (prog := c.prog) (w := c.w) hc.ok.handled hp.objs.size a 1 n
  have hlen : (rangeD a n).length = n := by simp [rangeD]
  rw [← hlen] at Wk
  refine for_core hc (vs := []) (ws := []) J W (fun ρ d => put ρ x d) hW Wk (fun i h st => ⟨_, st⟩) (fun i v d h own' hP hd Ds' => ?_) (fun b hb => ?_) (.head _) (fun i s v Q E _ q => wpAny_pure q)
    (fun h₀ s₀ O own l v d s E _ S D => wpAny_assign_Name (S.store hc hx D (hω l))) turn S₄ (.head _) h0 (fun m => hno (S₃.out _ m)) ?_ .nil (Q := Next (c.St h₀ s₀ O (J (rangeD a n)) (W (rangeD a n)))) (fun s' S' => ⟨rfl, S'⟩) (fun f s' q => q)
  · obtain ⟨u, rfl⟩ := hP
    have hi : i < n := by have := (List.getElem?_eq_some_iff.mp hd).1; simpa [rangeD] using this
    have : d = .int (a + i) := by
      simp only [rangeD, List.getElem?_map, List.getElem?_range hi] at hd
      simpa using hd.symm
    rw [this, Int.mul_one]; exact .int ..
  · rw [List.mem_singleton.mp hb]; exact aI
  · have := Heap.get?_push_size hp (o := { cls := .type "range_iterator", data := .fields #[rawInt a, rawInt n, rawInt 1] }) rfl
    simpa [hlen] using this
end
end Mine

/-! L1 -/
namespace Mine
def rowD (t : List Pr) : PyData := .list ((sortP t).map prD)
theorem pairs_eq (t : List Pr) : pairsD (t.map sP) = .list (t.map prD) := by simp [pairsD, pairD, sP, prD, Function.comp_def]
theorem ne_self (l : List Pr) : (!PyData.eqv (.list (l.map prD)) (.list (l.map prD))) = false := by rw [eqv_list eqv_pr]; simp

theorem depth_map : ∀ l : List Pr, PyData.depthAll (l.map prD) ≤ 1
  | [] => Nat.zero_le _
  | p :: l => by
    have := depth_map l
    show max (PyData.depth (prD p)) (PyData.depthAll (l.map prD)) ≤ 1
    have e : PyData.depth (prD p) = 1 := rfl
    rw [e]; omega
theorem dep_list (l : List Pr) : (PyData.list (l.map prD)).depth ≤ 64 := by
  have := depth_map l
  show PyData.depthAll (l.map prD) + 1 ≤ 64
  omega
theorem range_cut {a : Int} {n : Nat} {pre post : List PyData} {d : PyData} (h : rangeD a n = pre ++ d :: post) : d = .int (a + pre.length) ∧ pre.length < n := by
  have hl : n = pre.length + (post.length + 1) := by have := congrArg List.length h; simpa [rangeD] using this
  have hk : pre.length < n := by omega
  have e : (rangeD a n)[pre.length]? = some d := by rw [h]; simp
  simp only [rangeD, List.getElem?_map, List.getElem?_range hk] at e
  exact ⟨by simpa using e.symm, hk⟩
def pNot (w : List Pr) (d : PyData) : Bool := !((w.map prD).any fun y => PyData.eqv y d)
theorem minus_eq (v w : List Pr) : PyData.list (((v.map prD).filter (pNot w)).map id) = .list ((minus v w).map prD) := by
  rw [List.map_id, List.filter_map]
  congr 2
  unfold minus
  congr 1
  funext p
  show (!((w.map prD).any fun y => PyData.eqv y (prD p))) = _
  rw [any_map eqv_pr]
theorem mem_two {α : Type} {a b p : α} (h : p ∈ [a, b]) : p ∈ [b, a] := by
  rcases List.mem_cons.mp h with rfl | h
  · exact .tail _ (.head _)
  · rw [List.mem_singleton.mp h]; exact .head _
theorem eq_self (l : List Pr) : PyData.bool (PyData.eqv (.list (l.map prD)) (.list (l.map prD))) = .bool true := by rw [eqv_list eqv_pr]; simp
def twoD (a b : List Pr) : PyData := .tuple [.list (a.map prD), .list (b.map prD)]
theorem lay_two (a b : List Pr) : (twoD a b).canLay0 = true := by
  show (PyData.canLay0 (.list (a.map prD)) && (PyData.canLay0 (.list (b.map prD)) && PyData.canLayAll0 [])) = true
  rw [lay_list lay_pr, lay_list lay_pr]; rfl
theorem dep_two (a b : List Pr) : (twoD a b).depth ≤ 64 := by
  have h1 := depth_map a; have h2 := depth_map b
  show max (PyData.depthAll (a.map prD) + 1) (max (PyData.depthAll (b.map prD) + 1) 0) + 1 ≤ 64
  omega
theorem ne_two {a b c d : List Pr} (h : (a, b) = (c, d)) : (!PyData.eqv (twoD a b) (twoD c d)) = false := by
  cases h
  show (!(PyData.eqv (.list (a.map prD)) (.list (a.map prD)) && (PyData.eqv (.list (b.map prD)) (.list (b.map prD)) && PyData.eqvAll [] []))) = false
  rw [eqv_list eqv_pr, eqv_list eqv_pr]; simp [PyData.eqvAll]
abbrev clK (L : Addr) : List (Str × Addr) := [(Str.ofString "rows", L + 1), (Str.ofString "k", L + 2)]
theorem at_some {vs : List (List Pr)} {k : Nat} (h : k < vs.length) : vs[k]? = some (vAt vs k) := by
  rw [List.getElem?_eq_getElem h]; simp [vAt, h]
theorem map_at {vs : List (List Pr)} {k : Nat} (h : k < vs.length) (f : List Pr → PyData) : (vs.map f)[k]? = some (f (vAt vs k)) := by
  rw [List.getElem?_map, at_some h]; rfl
set_option maxRecDepth 100000 in
set_option maxHeartbeats 4000000 in
theorem law_run {pw : PW} {base : Heap} {mg : Str → Option Value} (B : Base pw base mg) (l : List Int) (hl : l.length ≤ 63) :
    ∀ (c : C), c.toPW = pw → c.base = base → c.mg = mg → c.Cal → 3 ≤ c.room → ∀ own E s vs, c.Vs own [] s.heap → Dens pw s.heap own vs [.list (l.map .int)] →
    wpAny (model c.prog c.w) c.A (call (.ref 60) vs) (fun v s' => Gw c.Fs s s' ∧ Den pw s'.heap own v (.bool true)) E s := by
  refine FnOK.run (n := 2) (xs := [Str.ofString "script"]) (B.X 60 _ rfl) rfl (codeRec_of B.X (by kernel_rfl)) ⟨rfl, rfl, rfl, by decide, by decide, by decide, by decide, by decide⟩ (fun vs hvs => ?_) rfl ?_
  · obtain ⟨v, rfl⟩ := one_arg hvs
    rfl
  · intro c L hpw hb hmg hc hn henv h₀ s₀ O
    subst hpw hb hmg
    have hsl : sizeLine = 16777216 := rfl
    have hsc : (scr l).length ≤ 9 := by simp [scr]; omega
    have hvl := ver_len (scr l)
    have hvn := ver_nodup (scr l)
    refine Trs.cons (Tr.assign hc (d := .list ((verP (scr l)).map tabD)) (fun own => Ev.fn hc.ok (versions_ok B l hl) (by omega) (kO henv rfl) (B.mg (by kernel_rfl)) rfl rfl (Evs.cons hc.ok (Ev.name hc.ok rfl) Evs.nil)) (.inl (kO henv rfl)) ne0 (by rw [henv]; rfl)) ?_
    generalize verP (scr l) = V at hvl hvn ⊢
    refine Trs.cons (Tr.newList hc (.inr (kO henv rfl)) ne0) ?_
    refine Trs.ex fun a => Trs.and fun haO => ?_
    refine Trs.cons (Tr.imp (Tr.for_list hc (ds := V.map tabD) (fun _ => [(Str.ofString "versions", .list (V.map tabD))]) (fun ds => [(Str.ofString "rows", a, .list ((V.take ds.length).map rowD))]) (fun l => rfl) (fun own => Ev.name hc.ok rfl) (.inl (kO henv rfl)) (fun l => ne1 (by decide)) ?_) fun s S => S.sub (inC rfl in0)) ?_
    · intro h₀ s₀ O pre d post hds
      obtain ⟨l1, t, l2, hl', rfl, rfl, rfl⟩ := map_cut hds
      rw [take_pre hl', take_snoc hl']
      have ht : t ∈ V := by rw [hl']; simp
      have hn' := hvn t ht
      have hr := readP_nodup t hn'
      have ht4 := nodup_len hn'
      have hlen : l1.length ≤ 11 := by have := hvl.1; rw [hl'] at this; simp at this; omega
      refine Trs.cons (Tr.assign hc (d := .list (t.map prD)) (fun own => Ev.to (Ev.items hc.ok (es := t.map sP) (Ev.name hc.ok rfl) (by simp; omega) (kO henv rfl) (B.mg_none (by kernel_rfl))) (pairs_eq t)) (.inl (kO henv rfl)) (ne1 (by decide)) (by rw [henv]; rfl)) ?_
      have hf := read_ok' B t (by omega)
      rw [hr] at hf
      refine Trs.cons (Tr.assign hc (d := .list (t.map prD)) (fun own => Ev.fn hc.ok hf hn (kO henv rfl) (B.mg (by kernel_rfl)) rfl rfl (Evs.cons hc.ok (Ev.name hc.ok rfl) Evs.nil)) (.inl (kO henv rfl)) (ne1 (by decide)) (by rw [henv]; rfl)) ?_
      refine Trs.cons (Tr.ite hc (p := false) (fun own => Ts.is (Ts.cmp hc.ok (Ev.name hc.ok rfl) (Ev.name hc.ok rfl) (CmpIs.ne hc.ok (lay_list lay_pr t) (lay_list lay_pr t) (dep_list t))) (ne_self t)) nofun fun _ => Trs.nil fun s S => ⟨rfl, S⟩) ?_
      rw [List.map_append]
      exact Trs.last (Tr.imp_to (Tr.append hc (pre := []) (post := []) (d := rowD t) (fun own => Ev.sorted hc.ok (Ev.name hc.ok rfl) hn' (kO henv rfl) (B.mg_none (by kernel_rfl)) rfl) (by simp; omega) rfl rfl (by rw [henv]; rfl)) fun f s ⟨hf, S⟩ => ⟨.inl hf, S.sub (inC rfl in0)⟩)
    · have e1 : V.take (V.map tabD).length = V := by simp
      rw [e1]
      refine Trs.imp ?_ fun s S => S.freeze (pre := []) (post := []) hc haO
      show c.Trs (c.St h₀ s₀ O [(Str.ofString "rows", .list (V.map rowD)), (Str.ofString "versions", .list (V.map tabD))] []) _ _
      obtain ⟨hv1, hv0⟩ := hvl
      obtain ⟨m, hm⟩ : ∃ m, V.length = m + 1 := ⟨V.length - 1, by omega⟩
      have hm' : m ≤ 10 := by omega
      have hnd : ∀ k, (keysOf (vAt V k)).Nodup := vAt_nodup hvn
      have h4 : ∀ k, (vAt V k).length ≤ 4 := fun k => nodup_len (hnd k)
      refine Trs.cons (Tr.assign hc (d := .list ((vAt V 0).map prD)) (fun own => Ev.to (Ev.items hc.ok (es := (vAt V 0).map sP) (Ev.item_list hc.ok (Ev.name hc.ok rfl) Ev.int (by decide) (by decide) (map_at (k := 0) (by omega) tabD)) (by have := h4 0; simp; omega) (kO henv rfl) (B.mg_none (by kernel_rfl))) (pairs_eq _)) (.inl (kO henv rfl)) ne0 (by rw [henv]; rfl)) ?_
      have hneg : ∀ f : List Pr → PyData, (V.map f)[((-1 : Int) + (V.map f).length).toNat]? = some (f (vAt V m)) := fun f => by
        have e : ((-1 : Int) + (V.map f).length).toNat = m := by rw [List.length_map, hm]; omega
        rw [e]; exact map_at (by omega) f
      refine Trs.cons (Tr.assign hc (d := .list ((vAt V m).map prD)) (fun own => Ev.to (Ev.items hc.ok (es := (vAt V m).map sP) (Ev.item_list_neg hc.ok (Ev.name hc.ok rfl) (Ev.neg_int hc.ok Ev.int) (by decide) (by rw [List.length_map, hm]; omega) (by decide) (hneg tabD)) (by have := h4 m; simp; omega) (kO henv rfl) (B.mg_none (by kernel_rfl))) (pairs_eq _)) (.inl (kO henv rfl)) ne0 (by rw [henv]; rfl)) ?_
      refine Trs.cons (Tr.assign hc (d := .list []) (fun own => Ev.list hc.ok rfl Evs.nil (Nat.zero_le _)) (.inl (kO henv rfl)) ne0 (by rw [henv]; rfl)) ?_
      refine Trs.cons (Tr.assign hc (d := .list []) (fun own => Ev.list hc.ok rfl Evs.nil (Nat.zero_le _)) (.inl (kO henv rfl)) ne0 (by rw [henv]; rfl)) ?_
      refine Trs.cons (Tr.imp (Tr.for_range hc (a := 1) (b := (V.map rowD).length) m (by rw [List.length_map, hm]; omega) (fun ds => [(Str.ofString "rows", .list (V.map rowD)), (Str.ofString "versions", .list (V.map tabD)), (Str.ofString "first", .list ((vAt V 0).map prD)), (Str.ofString "last", .list ((vAt V m).map prD)), (Str.ofString "onward", .list ((onw V ds.length).map prD)), (Str.ofString "back", .list ((bck V ds.length).map prD))]) (fun _ => []) (fun l => rfl) (fun own => Ev.int) (fun own => Ev.len hc.ok (Ev.name hc.ok rfl) (by simp; omega) (kO henv rfl) (B.mg_none (by kernel_rfl)) rfl) (by decide) (by rw [List.length_map, hm]; omega) (by rw [List.length_map, hm]; omega) (.inr (kO henv rfl)) (fun l => ne0) (kO henv rfl) (B.mg_none (by kernel_rfl)) ?_ rfl) fun s S => S.sub (inC rfl (inC rfl (inC rfl (inC rfl (inC rfl (inC rfl in0))))))) ?_
      · intro h₀ s₀ O pre d post hds
        obtain ⟨rfl, hk⟩ := range_cut hds
        have ek : (pre ++ [PyData.int (1 + (pre.length : Int))]).length = pre.length + 1 := by simp
        simp only [ek]
        generalize pre.length = k at hk ⊢
        have i0 : (1 + (k : Int) - 1).toNat = k := by omega
        have i1 : (1 + (k : Int)).toNat = k + 1 := by omega
        have g0 : ∀ f : List Pr → PyData, (V.map f)[(1 + (k : Int) - 1).toNat]? = some (f (vAt V k)) := fun f => by rw [i0]; exact map_at (by omega) f
        have g1 : ∀ f : List Pr → PyData, (V.map f)[(1 + (k : Int)).toNat]? = some (f (vAt V (k + 1))) := fun f => by rw [i1]; exact map_at (by omega) f
        have e0 : ∀ {own : List Addr} {ρ : List (Str × PyData)} {p p' pos pos' q : Pos} {n : Nat}, ρ.lookup (Str.ofString "rows") = some (.list (V.map rowD)) → ρ.lookup (Str.ofString "k") = some (.int (1 + (k : Int))) → c.Ev own ρ (.Subscript (.Name (Str.ofString "rows") p) (.BinOp (.Name (Str.ofString "k") p') .Sub (.Constant (.int 1) n q) pos') pos) (.list ((rAt V k).map prD)) := fun h1 h2 => Ev.item_list hc.ok (Ev.name hc.ok h1) (Ev.sub_int hc.ok (Ev.name hc.ok h2) Ev.int) (by omega) (by omega) (g0 rowD)
        have e1 : ∀ {own : List Addr} {ρ : List (Str × PyData)} {p p' pos : Pos}, ρ.lookup (Str.ofString "rows") = some (.list (V.map rowD)) → ρ.lookup (Str.ofString "k") = some (.int (1 + (k : Int))) → c.Ev own ρ (.Subscript (.Name (Str.ofString "rows") p) (.Name (Str.ofString "k") p') pos) (.list ((rAt V (k + 1)).map prD)) := fun h1 h2 => Ev.item_list hc.ok (Ev.name hc.ok h1) (Ev.name hc.ok h2) (by omega) (by omega) (g1 rowD)
        have r4 : ∀ k, (rAt V k).length ≤ 4 := fun k => sort_len _
        refine Trs.cons (Tr.assign_comp hc (fun own => e0 rfl rfl) (CompSpec.name hc.ok (p := pNot (rAt V (k + 1))) (g := id) (cl := clK L) (ρf := [(Str.ofString "k", .int (1 + (k : Int))), (Str.ofString "rows", .list (V.map rowD))]) ⟨rfl, by decide, by decide, by rw [henv]; rfl, by rw [henv]; exact fun p hp => mem_two hp⟩ (by have := r4 k; simp; omega) rfl ?_ ?_ (fun d hd => TestsAre.one fun L' own' => ?_) fun L' own' d hd _ => ?_) (kO henv rfl) ne0 (by rw [henv]; rfl)) ?_
        · intro q hq
          rcases List.mem_cons.mp hq with rfl | hq
          · show Str.ofString "k" ≠ _; decide
          · rw [List.mem_singleton.mp hq]; show Str.ofString "rows" ≠ _; decide
        · intro q hq
          rcases List.mem_cons.mp hq with rfl | hq
          · exact ⟨.head _, kO henv rfl, by show (relabel _ c.env).names.lookup _ = _; rw [henv]; rfl, by rw [henv]; rfl⟩
          · rw [List.mem_singleton.mp hq]
            exact ⟨.tail _ (.head _), kO henv rfl, by show (relabel _ c.env).names.lookup _ = _; rw [henv]; rfl, by rw [henv]; rfl⟩
        · obtain ⟨q, hq, rfl⟩ := List.mem_map.mp hd
          have cc : ∀ {scope : Scope}, Comp c scope (clK L) → (c.comp scope (clK L) L').Ok := fun k => k.ok hc.ok
          refine Ts.cmp (cc ⟨rfl, by decide, by decide, by rw [henv]; rfl, by rw [henv]; exact fun p hp => mem_two hp⟩) (Ev.name (cc ⟨rfl, by decide, by decide, by rw [henv]; rfl, by rw [henv]; exact fun p hp => mem_two hp⟩) rfl) (Ev.item_list (cc ⟨rfl, by decide, by decide, by rw [henv]; rfl, by rw [henv]; exact fun p hp => mem_two hp⟩) (Ev.name (cc ⟨rfl, by decide, by decide, by rw [henv]; rfl, by rw [henv]; exact fun p hp => mem_two hp⟩) rfl) (Ev.name (cc ⟨rfl, by decide, by decide, by rw [henv]; rfl, by rw [henv]; exact fun p hp => mem_two hp⟩) rfl) (by omega) (by omega) (g1 rowD)) (CmpIs.notIn_list (cc ⟨rfl, by decide, by decide, by rw [henv]; rfl, by rw [henv]; exact fun p hp => mem_two hp⟩) (lay_pr q) (lay_map lay_pr _) (by show 1 ≤ 64; decide))
        · obtain ⟨q, hq, rfl⟩ := List.mem_map.mp hd
          exact Ev.name (Comp.ok (cl := clK L) ⟨rfl, by decide, by decide, by rw [henv]; rfl, by rw [henv]; exact fun p hp => mem_two hp⟩ hc.ok) rfl
        rw [minus_eq]
        refine Trs.cons (Tr.assign_comp hc (fun own => e1 rfl rfl) (CompSpec.name hc.ok (p := pNot (rAt V k)) (g := id) (cl := clK L) (ρf := [(Str.ofString "k", .int (1 + (k : Int))), (Str.ofString "rows", .list (V.map rowD))]) ⟨rfl, by decide, by decide, by rw [henv]; rfl, by rw [henv]; exact fun p hp => mem_two hp⟩ (by have := r4 (k + 1); simp; omega) rfl ?_ ?_ (fun d hd => TestsAre.one fun L' own' => ?_) fun L' own' d hd _ => ?_) (kO henv rfl) ne0 (by rw [henv]; rfl)) ?_
        · intro q hq
          rcases List.mem_cons.mp hq with rfl | hq
          · show Str.ofString "k" ≠ _; decide
          · rw [List.mem_singleton.mp hq]; show Str.ofString "rows" ≠ _; decide
        · intro q hq
          rcases List.mem_cons.mp hq with rfl | hq
          · exact ⟨.tail _ (.head _), kO henv rfl, by show (relabel _ c.env).names.lookup _ = _; rw [henv]; rfl, by rw [henv]; rfl⟩
          · rw [List.mem_singleton.mp hq]
            exact ⟨.tail _ (.tail _ (.head _)), kO henv rfl, by show (relabel _ c.env).names.lookup _ = _; rw [henv]; rfl, by rw [henv]; rfl⟩
        · obtain ⟨q, hq, rfl⟩ := List.mem_map.mp hd
          have cc : ∀ {scope : Scope}, Comp c scope (clK L) → (c.comp scope (clK L) L').Ok := fun k => k.ok hc.ok
          refine Ts.cmp (cc ⟨rfl, by decide, by decide, by rw [henv]; rfl, by rw [henv]; exact fun p hp => mem_two hp⟩) (Ev.name (cc ⟨rfl, by decide, by decide, by rw [henv]; rfl, by rw [henv]; exact fun p hp => mem_two hp⟩) rfl) (Ev.item_list (cc ⟨rfl, by decide, by decide, by rw [henv]; rfl, by rw [henv]; exact fun p hp => mem_two hp⟩) (Ev.name (cc ⟨rfl, by decide, by decide, by rw [henv]; rfl, by rw [henv]; exact fun p hp => mem_two hp⟩) rfl) (Ev.sub_int (cc ⟨rfl, by decide, by decide, by rw [henv]; rfl, by rw [henv]; exact fun p hp => mem_two hp⟩) (Ev.name (cc ⟨rfl, by decide, by decide, by rw [henv]; rfl, by rw [henv]; exact fun p hp => mem_two hp⟩) rfl) Ev.int) (by omega) (by omega) (g0 rowD)) (CmpIs.notIn_list (cc ⟨rfl, by decide, by decide, by rw [henv]; rfl, by rw [henv]; exact fun p hp => mem_two hp⟩) (lay_pr q) (lay_map lay_pr _) (by show 1 ≤ 64; decide))
        · obtain ⟨q, hq, rfl⟩ := List.mem_map.mp hd
          exact Ev.name (Comp.ok (cl := clK L) ⟨rfl, by decide, by decide, by rw [henv]; rfl, by rw [henv]; exact fun p hp => mem_two hp⟩ hc.ok) rfl
        rw [minus_eq]
        have d1 := diff_minus (rAt V k) (rAt V (k + 1)) (sort_up _) (sort_up _)
        have d2 := diff_minus (rAt V (k + 1)) (rAt V k) (sort_up _) (sort_up _)
        have l1 := diff_len (vAt V k) (vAt V (k + 1))
        have l2 := diff_len (vAt V (k + 1)) (vAt V k)
        have s1 := step_len (vAt V k) (vAt V (k + 1))
        have s2 := step_len (vAt V (k + 1)) (vAt V k)
        have o1 := onw_len V k
        have b1 := bck_len V k
        have F1 := diff_ok B (rAt V k) (rAt V (k + 1)) (by have := r4 k; omega) (by have := r4 (k + 1); omega) (up_nodup (sort_up _)) (up_nodup (sort_up _))
        have F2 := diff_ok B (rAt V (k + 1)) (rAt V k) (by have := r4 (k + 1); omega) (by have := r4 k; omega) (up_nodup (sort_up _)) (up_nodup (sort_up _))
        refine Trs.cons (Tr.assign hc (d := twoD (diffP (rAt V k) (rAt V (k + 1))).1 (diffP (rAt V k) (rAt V (k + 1))).2) (fun own => Ev.fn hc.ok F1 (by omega) (kO henv rfl) (B.mg (by kernel_rfl)) rfl rfl (Evs.cons hc.ok (e0 rfl rfl) (Evs.cons hc.ok (e1 rfl rfl) Evs.nil))) (.inl (kO henv rfl)) ne0 (by rw [henv]; rfl)) ?_
        refine Trs.cons (Tr.assign hc (d := twoD (diffP (rAt V (k + 1)) (rAt V k)).1 (diffP (rAt V (k + 1)) (rAt V k)).2) (fun own => Ev.fn hc.ok F2 (by omega) (kO henv rfl) (B.mg (by kernel_rfl)) rfl rfl (Evs.cons hc.ok (e1 rfl rfl) (Evs.cons hc.ok (e0 rfl rfl) Evs.nil))) (.inl (kO henv rfl)) ne0 (by rw [henv]; rfl)) ?_
        refine Trs.cons (Tr.ite hc (p := false) (fun own => Ts.is (Ts.or2 hc.ok (p := false) (q := false) ?_ fun _ => ?_) rfl) nofun fun _ => Trs.nil fun s S => ⟨rfl, S⟩) ?_
        · exact Ts.is (Ts.cmp hc.ok (Ev.name hc.ok rfl) (Ev.tuple hc.ok rfl (ds := [.list ((minus (rAt V k) (rAt V (k + 1))).map prD), .list ((minus (rAt V (k + 1)) (rAt V k)).map prD)]) (Evs.cons hc.ok (Ev.name hc.ok rfl) (Evs.cons hc.ok (Ev.name hc.ok rfl) Evs.nil)) (by show 2 ≤ sizeLine; decide)) (CmpIs.ne hc.ok (lay_two _ _) (lay_two _ _) (dep_two _ _))) (ne_two d1)
        · exact Ts.is (Ts.cmp hc.ok (Ev.name hc.ok rfl) (Ev.tuple hc.ok rfl (ds := [.list ((minus (rAt V (k + 1)) (rAt V k)).map prD), .list ((minus (rAt V k) (rAt V (k + 1))).map prD)]) (Evs.cons hc.ok (Ev.name hc.ok rfl) (Evs.cons hc.ok (Ev.name hc.ok rfl) Evs.nil)) (by show 2 ≤ sizeLine; decide)) (CmpIs.ne hc.ok (lay_two _ _) (lay_two _ _) (dep_two _ _))) (ne_two d2)
        have G1 := change_ok B (diffP (rAt V k) (rAt V (k + 1))).1 (diffP (rAt V k) (rAt V (k + 1))).2 (Nat.le_trans l1.1 (by decide)) (Nat.le_trans l1.2 (by decide))
        have G2 := change_ok B (diffP (rAt V (k + 1)) (rAt V k)).1 (diffP (rAt V (k + 1)) (rAt V k)).2 (Nat.le_trans l2.1 (by decide)) (Nat.le_trans l2.2 (by decide))
        have c1 : (chgP (diffP (rAt V k) (rAt V (k + 1))).1 (diffP (rAt V k) (rAt V (k + 1))).2).length ≤ 8 := s1
        have c2 : (chgP (diffP (rAt V (k + 1)) (rAt V k)).1 (diffP (rAt V (k + 1)) (rAt V k)).2).length ≤ 8 := s2
        refine Trs.cons (Tr.assign hc (d := .list ((onw V (k + 1)).map prD)) (fun own => Ev.to (Ev.add_list hc.ok (Ev.name hc.ok rfl) (Ev.fn hc.ok G1 (by omega) (kO henv rfl) (B.mg (by kernel_rfl)) rfl rfl (Evs.cons hc.ok (Ev.item_tuple hc.ok (Ev.name hc.ok rfl) Ev.int (by decide) (by decide) rfl) (Evs.cons hc.ok (Ev.item_tuple hc.ok (Ev.name hc.ok rfl) Ev.int (by decide) (by decide) rfl) Evs.nil))) (by rw [List.length_map, List.length_map]; omega)) (by rw [onw, List.map_append]; rfl)) (.inl (kO henv rfl)) ne0 (by rw [henv]; rfl)) ?_
        refine Trs.last (Tr.imp_to (Tr.assign hc (d := .list ((bck V (k + 1)).map prD)) (fun own => Ev.to (Ev.add_list hc.ok (Ev.fn hc.ok G2 (by omega) (kO henv rfl) (B.mg (by kernel_rfl)) rfl rfl (Evs.cons hc.ok (Ev.item_tuple hc.ok (Ev.name hc.ok rfl) Ev.int (by decide) (by decide) rfl) (Evs.cons hc.ok (Ev.item_tuple hc.ok (Ev.name hc.ok rfl) Ev.int (by decide) (by decide) rfl) Evs.nil))) (Ev.name hc.ok rfl) (by rw [List.length_map, List.length_map]; omega)) (by rw [bck, List.map_append]; rfl)) (.inl (kO henv rfl)) ne0 (by rw [henv]; rfl)) fun f s ⟨hf, S⟩ => ⟨.inl hf, S.sub (inC rfl (inC rfl (inC rfl (inC rfl (inC rfl (inC rfl in0))))))⟩)
      · have em : (rangeD 1 m).length = m := by simp [rangeD]
        simp only [em]
        have q0 : ∀ f : List Pr → PyData, (V.map f)[(0 : Int).toNat]? = some (f (vAt V 0)) := fun f => map_at (by omega) f
        have n0 : ∀ f : List Pr → PyData, -((V.map f).length : Int) ≤ -1 := fun f => by rw [List.length_map, hm]; omega
        have l1 := diff_len (vAt V 0) (vAt V m)
        have s1 : (stepP (rAt V 0) (rAt V m)).length ≤ 8 := step_len (vAt V 0) (vAt V m)
        have o1 := onw_len V m
        have b1 := bck_len V m
        have v0 := h4 0
        have vm := h4 m
        have F1 := diff_ok B (rAt V 0) (rAt V m) (Nat.le_trans (sort_len _) (by decide)) (Nat.le_trans (sort_len _) (by decide)) (up_nodup (sort_up _)) (up_nodup (sort_up _))
        have G1 := change_ok B (diffP (rAt V 0) (rAt V m)).1 (diffP (rAt V 0) (rAt V m)).2 (Nat.le_trans l1.1 (by decide)) (Nat.le_trans l1.2 (by decide))
        refine Trs.cons (Tr.assign hc (d := twoD (diffP (rAt V 0) (rAt V m)).1 (diffP (rAt V 0) (rAt V m)).2) (fun own => Ev.fn hc.ok F1 (by omega) (kO henv rfl) (B.mg (by kernel_rfl)) rfl rfl (Evs.cons hc.ok (Ev.item_list hc.ok (Ev.name hc.ok rfl) Ev.int (by decide) (by decide) (q0 rowD)) (Evs.cons hc.ok (Ev.item_list_neg hc.ok (Ev.name hc.ok rfl) (Ev.neg_int hc.ok Ev.int) (by decide) (n0 rowD) (by decide) (hneg rowD)) Evs.nil))) (.inl (kO henv rfl)) ne0 (by rw [henv]; rfl)) ?_
        refine Trs.cons (Tr.assign hc (d := .list ((vAt V 0 ++ stepP (rAt V 0) (rAt V m)).map prD)) (fun own => Ev.to (Ev.add_list hc.ok (Ev.name hc.ok rfl) (Ev.fn hc.ok G1 (by omega) (kO henv rfl) (B.mg (by kernel_rfl)) rfl rfl (Evs.cons hc.ok (Ev.item_tuple hc.ok (Ev.name hc.ok rfl) Ev.int (by decide) (by decide) rfl) (Evs.cons hc.ok (Ev.item_tuple hc.ok (Ev.name hc.ok rfl) Ev.int (by decide) (by decide) rfl) Evs.nil))) (by rw [List.length_map, List.length_map]; show _ + (stepP (rAt V 0) (rAt V m)).length ≤ _; omega)) (by rw [List.map_append]; rfl)) (.inl (kO henv rfl)) ne0 (by rw [henv]; rfl)) ?_
        have R1 := read_ok' B (vAt V 0 ++ stepP (rAt V 0) (rAt V m)) (by rw [List.length_append]; omega)
        have D1 := due_ok B (vAt V 0 ++ stepP (rAt V 0) (rAt V m)) (vAt V m) (by rw [List.length_append]; omega) (by omega)
        have E1 := read_due _ _ (hnd m) (leap_ap hvn m)
        have R2 := read_ok' B (vAt V 0 ++ onw V m) (by rw [List.length_append]; omega)
        have D2 := due_ok B (vAt V 0 ++ onw V m) (vAt V m) (by rw [List.length_append]; omega) (by omega)
        have E2 := read_due _ _ (hnd m) (onw_ap hvn m)
        have R3 := read_ok' B (vAt V m ++ bck V m) (by rw [List.length_append]; omega)
        have D3 := due_ok B (vAt V m ++ bck V m) (vAt V 0) (by rw [List.length_append]; omega) (by omega)
        have E3 := read_due _ _ (hnd 0) (bck_ap hvn m (vAt V m) rfl)
        rw [E1] at R1
        rw [E2] at R2
        rw [E3] at R3
        refine Trs.cons (Tr.ite hc (p := false) (fun own => Ts.is (Ts.cmp hc.ok (Ev.fn hc.ok R1 hn (kO henv rfl) (B.mg (by kernel_rfl)) rfl rfl (Evs.cons hc.ok (Ev.name hc.ok rfl) Evs.nil)) (Ev.fn hc.ok D1 (by omega) (kO henv rfl) (B.mg (by kernel_rfl)) rfl rfl (Evs.cons hc.ok (Ev.name hc.ok rfl) (Evs.cons hc.ok (Ev.item_list_neg hc.ok (Ev.name hc.ok rfl) (Ev.neg_int hc.ok Ev.int) (by decide) (n0 tabD) (by decide) (hneg tabD)) Evs.nil))) (CmpIs.ne hc.ok (lay_list lay_pr _) (lay_list lay_pr _) (dep_list _))) (ne_self _)) nofun fun _ => Trs.nil fun s S => ⟨rfl, S⟩) ?_
        have A2 : ∀ {own : List Addr} {ρ : List (Str × PyData)} {p p' pos : Pos}, ρ.lookup (Str.ofString "first") = some (.list ((vAt V 0).map prD)) → ρ.lookup (Str.ofString "onward") = some (.list ((onw V m).map prD)) → c.Ev own ρ (.BinOp (.Name (Str.ofString "first") p) .Add (.Name (Str.ofString "onward") p') pos) (.list ((vAt V 0 ++ onw V m).map prD)) := fun h1 h2 => Ev.to (Ev.add_list hc.ok (Ev.name hc.ok h1) (Ev.name hc.ok h2) (by rw [List.length_map, List.length_map]; omega)) (by rw [List.map_append])
        have A3 : ∀ {own : List Addr} {ρ : List (Str × PyData)} {p p' pos : Pos}, ρ.lookup (Str.ofString "last") = some (.list ((vAt V m).map prD)) → ρ.lookup (Str.ofString "back") = some (.list ((bck V m).map prD)) → c.Ev own ρ (.BinOp (.Name (Str.ofString "last") p) .Add (.Name (Str.ofString "back") p') pos) (.list ((vAt V m ++ bck V m).map prD)) := fun h1 h2 => Ev.to (Ev.add_list hc.ok (Ev.name hc.ok h1) (Ev.name hc.ok h2) (by rw [List.length_map, List.length_map]; omega)) (by rw [List.map_append])
        refine Trs.cons (Tr.ite hc (p := false) (fun own => Ts.is (Ts.cmp hc.ok (Ev.fn hc.ok R2 hn (kO henv rfl) (B.mg (by kernel_rfl)) rfl rfl (Evs.cons hc.ok (A2 rfl rfl) Evs.nil)) (Ev.fn hc.ok D2 (by omega) (kO henv rfl) (B.mg (by kernel_rfl)) rfl rfl (Evs.cons hc.ok (A2 rfl rfl) (Evs.cons hc.ok (Ev.item_list_neg hc.ok (Ev.name hc.ok rfl) (Ev.neg_int hc.ok Ev.int) (by decide) (n0 tabD) (by decide) (hneg tabD)) Evs.nil))) (CmpIs.ne hc.ok (lay_list lay_pr _) (lay_list lay_pr _) (dep_list _))) (ne_self _)) nofun fun _ => Trs.nil fun s S => ⟨rfl, S⟩) ?_
        refine Trs.last (Tr.imp_to (Tr.ret hc (d := .bool true) fun own => ?_) fun f s ⟨v, e, D, S⟩ => ⟨v, e, D, _, _, S⟩)
        exact Ev.to (Ev.cmp hc.ok (Ev.fn hc.ok R3 hn (kO henv rfl) (B.mg (by kernel_rfl)) rfl rfl (Evs.cons hc.ok (A3 rfl rfl) Evs.nil)) (Ev.fn hc.ok D3 (by omega) (kO henv rfl) (B.mg (by kernel_rfl)) rfl rfl (Evs.cons hc.ok (A3 rfl rfl) (Evs.cons hc.ok (Ev.item_list hc.ok (Ev.name hc.ok rfl) Ev.int (by decide) (by decide) (q0 tabD)) Evs.nil))) (CmpIs.eq hc.ok (lay_list lay_pr _) (lay_list lay_pr _) (dep_list _))) (eq_self _)
end Mine

/-! Z1 -/
namespace Mine
theorem rd_ints {pw : PW} {h : Heap} : ∀ {vs : List Value} {l : List Int}, IntsAre vs l → RdAll pw h vs (l.map .int)
  | _, _, .nil => .nil
  | _, _, .cons n t r => .cons (.int n t) (rd_ints r)
theorem rd_script {pw : PW} {h : Heap} {a : Addr} {vs : List Value} {l : List Int} (hL : h.IsList a vs.toArray) (hI : IntsAre vs l) : RdAll pw h [.ref a] [.list (l.map .int)] := by
  obtain ⟨o, e, hc, n, hd⟩ := hL
  exact .cons (.list e hc hd (rd_ints hI)) .nil

theorem rd_bool {pw : PW} {h : Heap} {v : Value} {b : Bool} (D : Rd pw h v (.bool b)) : v = .bool b := by
  cases D with
  | bool => rfl
  | dict _ e => cases e
/-- a caller without frames -/
def c0 (pw : PW) (base : Heap) (mg : Str → Option Value) : C := { pw with A := callerA, base := base, mg := mg, frs := [], env := { scope := ⟨.function, [], false, false, []⟩, locals := 0, globals := 0, cells := [] }, room := 3 }
theorem law_top {pw : PW} {s : Shared} {mg mb : Str → Option Value} (B : Base pw s.heap mg) (hb : s.heap.Ns builtinsNs mb) (hbb : ∀ x : Str, x ≠ "__name__" → mb x = bootBuiltins x) (hl : s.heap.NoLimit)
    {fa a : Addr} {vs : List Value} {l : List Int} (hf : mg (Str.ofString "law") = some (.ref fa)) (hL : s.heap.IsList a vs.toArray) (hI : IntsAre vs l) (hn : l.length ≤ 63) {E : Value → Shared → Prop} :
    wpAny (model pw.prog pw.w) callerA (call (.ref fa) [.ref a]) (fun v s' => v = .bool true ∧ ∃ h' tk, s' = { s with heap := h', toks := tk } ∧ ∀ b o, s.heap.get? b = some o → h'.get? b = some o) E s := by
  have e : mg (Str.ofString "law") = some (.ref 60) := B.mg (by kernel_rfl)
  rw [hf] at e
  cases e
  refine wpAny_mono (law_run B l hn (c0 pw s.heap mg) rfl rfl rfl ?_ (Nat.le_refl _) [] E s [.ref a] ?_ (rd_script hL hI)) (fun v s' ⟨g, D⟩ => ?_) fun _ _ x => x
  · exact { handled := rfl, frames := rfl, depth := by show 1 + claimMargin + 3 < recursionLimit; decide +kernel, units := by show 4 + 400 + 10 * 3 < cLine; decide +kernel, g := B.g, b := ⟨mb, hb, hbb⟩, lim := hl, fun_ := nofun, off := nofun }
  · exact { keep := fun _ _ e => e, fs := nofun, ex := nofun, frames := nofun, cells := nofun, cex := nofun, vars := nofun }
  · obtain ⟨h', tk, rfl, g⟩ := g
    exact ⟨rd_bool D, h', tk, rfl, fun b o e => g.keep b o nofun e⟩
end Mine
set_option maxRecDepth 100000 in
set_option maxHeartbeats 8000000 in
theorem PySem.Challenge.cw_mq0159_01_holds : PySem.Challenge.rw_mq0159_01.Holds := by
  refine Mine.hd ?_
  intro w s₀ s₁ mg mb G Y fa o pm cd doc dV kV ho hd hcd hD hmg hg args vals as hpre hlay hrd hwl hlo
  have KX := kIn_of Y
  refine Ground.open G ?_
  intro T B D TE TW
  clear hD hd hcd ho Y B D TE TW
  wrow_args hpre hlay hrd hwl hlo
  rename_i l _ _ _ _ _ _ _ a vs _ hL _ _ _ hI _ hc _
  refine wpAny_mono (Mine.law_top (pw := ⟨_, w⟩) ⟨KX, T.g⟩ T.b T.builtins T.nolimit hmg hL hI (by omega)) (fun v s' h => ?_) fun _ _ x => x
  obtain ⟨rfl, h', tk, rfl, hk⟩ := h
  refine GoodW.toG ⟨.inl ⟨_, _, [], rfl, raisesW_false ?_, .bool true, ?_, unshared_nil⟩, hk, rfl, hg⟩
  · wrow_none_raised
  · wrow_post
