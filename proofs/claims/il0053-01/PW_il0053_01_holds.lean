import PyProof.Rows.All
import PyProof.LetGo
import KE.BytesMake
import PyProof.TypeOfCall
import KE.KxDecode
import PyProof.SliceSyntax
import PyProof.EvalArms
import PyProof.WalksMore
import PyProof.CompFree
import PyProof.ListOps
import PyProof.Cells
import PyProof.Rows.TupAssign
import PyProof.ForAny
import PyProof.Raises
import PyProof.RulesTry
import OpenK.KLine
import PyProof.DefCall
import KE.KPar
import KE.KSortAsk
import KE.KSortTup
import PyProof.GenRules
import PyProof.GenObj
import PyProof.GenComp
import PyProof.GenQ
import Wide.All
import OpenK.AllK
import Wide.FinOn
import PySem.Challenge.RW_il0053_01
set_option Elab.async false

/-! part Ma -/
section
open PySem PySem.W PyProof.Rows PySem.Calls
set_option tactic.hygienic false
namespace Mine

/-! data, and how a heap bears it -/
inductive D where
  | none
  | bool (b : Bool)
  | int (i : Int)
  | str (x : Str)
  | bytes (b : Array UInt8)
  | typ (n : String)
  | bi (n : String)
  | glob (a : Addr)
  | rng (n : Nat)
  | tup (ds : List D)
  | list (ds : List D)

theorem ns {α : Type} {a : α} {P : Prop} (h : none = some a) : P := nomatch h
theorem nf {P : Prop} (h : false = true) : P := nomatch h
theorem ite_get {α : Type} {c : Prop} [Decidable c] {x : Option α} {b : α} (h : (if c then x else none) = some b) : c ∧ x = some b := by
  by_cases hc : c
  · rw [if_pos hc] at h; exact ⟨hc, h⟩
  · rw [if_neg hc] at h; exact ns h
theorem ite_some {α : Type} {c : Prop} [Decidable c] {x : α} {b : α} (h : (if c then some x else none) = some b) : c ∧ x = b := ⟨(ite_get h).1, Option.some.inj (ite_get h).2⟩
theorem bind_some {α β : Type} {x : Option α} {f : α → Option β} {b : β} (h : x.bind f = some b) : ∃ a, x = some a ∧ f a = some b := by
  induction x using Option.casesOn with
  | none => exact ns h
  | some a => exact ⟨a, rfl, h⟩
theorem map_some {α β : Type} {x : Option α} {f : α → β} {b : β} (h : x.map f = some b) : ∃ a, x = some a ∧ f a = b := by
  induction x using Option.casesOn with
  | none => exact ns h
  | some a => exact ⟨a, rfl, Option.some.inj h⟩
theorem ite_elim {α : Type} {c : Prop} [Decidable c] {x y : α} {b : α} {P : Prop} (h : (if c then x else y) = b) (k1 : c → x = b → P) (k2 : ¬ c → y = b → P) : P := by
  by_cases hc : c
  · rw [if_pos hc] at h; exact k1 hc h
  · rw [if_neg hc] at h; exact k2 hc h
theorem ite_none {α : Type} {c : Bool} {x : Option α} {b : α} (h : (if c = true then none else x) = some b) : c = false ∧ x = some b := by
  induction c using Bool.casesOn with
  | true => exact ns h
  | false => exact ⟨rfl, h⟩
theorem so {α : Type} {a b : α} (h : some a = some b) : a = b := Option.some.inj h

abbrev Sub (g h : Heap) : Prop := ∀ b o, g.get? b = some o → h.get? b = some o

theorem Sub.rfl' {g : Heap} : Sub g g := fun _ _ e => e
theorem Sub.trans' {g h k : Heap} (x : Sub g h) (y : Sub h k) : Sub g k := fun b o e => y b o (x b o e)

theorem isTup_sub {g h : Heap} {a : Addr} {its : Array Value} (x : IsTup g a its) (k : Sub g h) : IsTup h a its := let ⟨o, ho, r⟩ := x; ⟨o, k _ _ ho, r⟩
theorem isList_sub {g h : Heap} {a : Addr} {its : Array Value} (x : g.IsList a its) (k : Sub g h) : h.IsList a its := let ⟨o, ho, r⟩ := x; ⟨o, k _ _ ho, r⟩

abbrev lObj (vs : List Value) (n : Nat) : Obj := { cls := .type "list", data := .seq vs.toArray n }
abbrev tObj (vs : List Value) (n : Nat) : Obj := { cls := .type "tuple", data := .seq vs.toArray n }
theorem isList_of {g : Heap} {a : Addr} {vs : List Value} {n : Nat} (e : g.get? a = some (lObj vs n)) : g.IsList a vs.toArray := ⟨_, e, rfl, _, rfl⟩
theorem isTup_of {g : Heap} {a : Addr} {vs : List Value} {n : Nat} (e : g.get? a = some (tObj vs n)) : IsTup g a vs.toArray := ⟨_, e, rfl, _, rfl⟩

mutual
inductive Den (g : Heap) : Value → D → Prop
  | none : Den g .none .none
  | bool (b : Bool) : Den g (.bool b) (.bool b)
  | int (i : Int) (t : Tok) : Den g (.int i t) (.int i)
  | str (x : Str) (t : Tok) : Den g (.str x t) (.str x)
  | bytes (b : Array UInt8) (t : Tok) : Den g (.bytes b t) (.bytes b)
  | typ (n : String) : Den g (.type n) (.typ n)
  | bi (n : String) : Den g (.builtin n) (.bi n)
  | glob (a : Addr) : Den g (.ref a) (.glob a)
  | rng {a : Addr} {n : Nat} {t u v : Tok} : IsRange g a 0 (n : Int) 1 t u v → Den g (.ref a) (.rng n)
  | tup {a : Addr} {vs : List Value} {ds : List D} {n : Nat} : g.get? a = some (tObj vs n) → DenL g vs ds → Den g (.ref a) (.tup ds)
  | list {a : Addr} {vs : List Value} {ds : List D} {n : Nat} : g.get? a = some (lObj vs n) → DenL g vs ds → Den g (.ref a) (.list ds)
inductive DenL (g : Heap) : List Value → List D → Prop
  | nil : DenL g [] []
  | cons {v : Value} {vs : List Value} {d : D} {ds : List D} : Den g v d → DenL g vs ds → DenL g (v :: vs) (d :: ds)
end

mutual
theorem Den.sub {g h : Heap} (k : Sub g h) : ∀ {v : Value} {d : D}, Den g v d → Den h v d
  | _, _, .none => .none
  | _, _, .bool b => .bool b
  | _, _, .int i t => .int i t
  | _, _, .str x t => .str x t
  | _, _, .bytes b t => .bytes b t
  | _, _, .typ n => .typ n
  | _, _, .bi n => .bi n
  | _, _, .glob a => .glob a
  | _, _, .rng x => .rng (k _ _ x)
  | _, _, .tup x r => .tup (k _ _ x) (DenL.sub k r)
  | _, _, .list x r => .list (k _ _ x) (DenL.sub k r)
theorem DenL.sub {g h : Heap} (k : Sub g h) : ∀ {vs : List Value} {ds : List D}, DenL g vs ds → DenL h vs ds
  | _, _, .nil => .nil
  | _, _, .cons x r => .cons (x.sub k) (DenL.sub k r)
end

/-- what a denoted value looks like -/
noncomputable def DenV (g : Heap) (v : Value) : D → Prop
  | .none => v = .none
  | .bool b => v = .bool b
  | .int i => ∃ t, v = .int i t
  | .str x => ∃ t, v = .str x t
  | .bytes b => ∃ t, v = .bytes b t
  | .typ n => v = .type n
  | .bi n => v = .builtin n
  | .glob a => v = .ref a
  | .rng n => ∃ a t u w, v = .ref a ∧ IsRange g a 0 (n : Int) 1 t u w
  | .tup ds => ∃ a vs n, v = .ref a ∧ g.get? a = some (tObj vs n) ∧ DenL g vs ds
  | .list ds => ∃ a vs n, v = .ref a ∧ g.get? a = some (lObj vs n) ∧ DenL g vs ds
theorem Den.inv {g : Heap} {v : Value} {d : D} (h : Den g v d) : DenV g v d := by
  induction h using Den.casesOn with
  | none | bool | typ | bi | glob => exact rfl
  | int i t => exact ⟨t, rfl⟩
  | str x t => exact ⟨t, rfl⟩
  | bytes b t => exact ⟨t, rfl⟩
  | rng h => exact ⟨_, _, _, _, rfl, h⟩
  | tup h1 h2 => exact ⟨_, _, _, rfl, h1, h2⟩
  | list h1 h2 => exact ⟨_, _, _, rfl, h1, h2⟩
noncomputable def DenW (g : Heap) (vs : List Value) : List D → Prop
  | [] => vs = []
  | d :: ds => ∃ v r, vs = v :: r ∧ Den g v d ∧ DenL g r ds
theorem DenL.inv {g : Heap} {vs : List Value} {ds : List D} (h : DenL g vs ds) : DenW g vs ds := by
  induction h using DenL.casesOn with
  | nil => exact rfl
  | cons h r => exact ⟨_, _, rfl, h, r⟩
theorem DenL.one_inv {g : Heap} {vs : List Value} {d : D} (h : DenL g vs [d]) : ∃ v, vs = [v] ∧ Den g v d := by
  obtain ⟨v, r, rfl, h1, h2⟩ := h.inv
  obtain rfl := h2.inv
  exact ⟨v, rfl, h1⟩
theorem DenL.two_inv {g : Heap} {vs : List Value} {d e : D} (h : DenL g vs [d, e]) : ∃ v u, vs = [v, u] ∧ Den g v d ∧ Den g u e := by
  obtain ⟨v, r, rfl, h1, h2⟩ := h.inv
  obtain ⟨u, rfl, h3⟩ := h2.one_inv
  exact ⟨v, u, rfl, h1, h3⟩

section
variable {g : Heap} {v : Value} {d : D} {vs ws : List Value} {ds es : List D}
theorem DenL.length (h : DenL g vs ds) : vs.length = ds.length := by
  induction vs generalizing ds with
  | nil => cases h; rfl
  | cons v vs ih => cases h with | cons _ r => rw [List.length_cons, List.length_cons, ih r]
theorem DenL.append (h : DenL g vs ds) (k : DenL g ws es) : DenL g (vs ++ ws) (ds ++ es) := by
  induction vs generalizing ds with
  | nil => cases h; exact k
  | cons v vs ih => cases h with | cons h r => exact .cons h (ih r)
theorem DenL.one (h : Den g v d) : DenL g [v] [d] := .cons h .nil
theorem DenL.get (h : DenL g vs ds) {k : Nat} {d : D} (hk : ds[k]? = some d) : ∃ v, vs[k]? = some v ∧ Den g v d := by
  induction vs generalizing ds k with
  | nil => cases h; simp at hk
  | cons v vs ih =>
    cases h with
    | cons h r =>
      induction k using Nat.casesOn with
      | zero => simp at hk; subst hk; exact ⟨v, rfl, h⟩
      | succ k => simp at hk; obtain ⟨v', e, hv⟩ := ih r hk; exact ⟨v', by simpa using e, hv⟩
theorem DenL.getV (h : DenL g vs ds) {k : Nat} {v : Value} (hk : vs[k]? = some v) : ∃ d, ds[k]? = some d ∧ Den g v d := by
  have hlt : k < vs.length := by
    rcases Nat.lt_or_ge k vs.length with h | h
    · exact h
    · rw [List.getElem?_eq_none h] at hk; exact ns hk
  have hlt' : k < ds.length := h.length ▸ hlt
  obtain ⟨v', e, hv⟩ := h.get (List.getElem?_eq_getElem hlt')
  rw [hk] at e; obtain rfl := so e
  exact ⟨_, List.getElem?_eq_getElem hlt', hv⟩
theorem DenL.take (h : DenL g vs ds) (n : Nat) : DenL g (vs.take n) (ds.take n) := by
  induction vs generalizing ds n with
  | nil => cases h; simp; exact .nil
  | cons v vs ih =>
    cases h with
    | cons h r => induction n using Nat.casesOn with
      | zero => exact .nil
      | succ n => exact .cons h (ih r n)
theorem DenL.drop (h : DenL g vs ds) (n : Nat) : DenL g (vs.drop n) (ds.drop n) := by
  induction vs generalizing ds n with
  | nil => cases h; simp; exact .nil
  | cons v vs ih =>
    cases h with
    | cons h r => induction n using Nat.casesOn with
      | zero => exact .cons h r
      | succ n => exact ih r n
theorem DenL.snoc (h : DenL g vs ds) (k : Den g v d) : DenL g (vs ++ [v]) (ds ++ [d]) := h.append (.one k)
theorem DenL.flatRep (h : DenL g vs ds) (n : Nat) : DenL g (List.replicate n vs).flatten (List.replicate n ds).flatten := by
  induction n with
  | zero => exact .nil
  | succ n ih => rw [List.replicate_succ, List.replicate_succ, List.flatten_cons, List.flatten_cons]; exact h.append ih
end

/-! the room, the state's growth -/
structure Rm (A : Around) (k : Nat) : Prop where
  handled : A.handled = none
  depth : A.depth + k < recursionLimit
  units : A.units + 8 * k < cLine

theorem Rm.mono {A : Around} {k n : Nat} (h : Rm A n) (hk : k ≤ n) : Rm A k := ⟨h.handled, by have := h.depth; lia, by have := h.units; lia⟩
theorem Rm.in1 {A : Around} {k : Nat} (h : Rm A (k + 1)) : Rm A.in1 k := ⟨h.handled, by have := h.depth; show A.depth + k < _; (exact Nat.lt_of_succ_lt ‹_›), by have := h.units; show A.units + 1 + 8 * k < _; lia⟩
theorem Rm.deeper {A : Around} {k : Nat} (h : Rm A (k + 1)) (env : Env) : Rm (A.deeper env) k := ⟨h.handled, by have := h.depth; show A.depth + 1 + k < _; lia, by have := h.units; show A.units + 3 + 8 * k < _; lia⟩
theorem Rm.dp {A : Around} {k : Nat} (h : Rm A k) : A.depth < recursionLimit := by have := h.depth; lia
theorem Rm.un {A : Around} {k : Nat} (h : Rm A k) : A.units < cLine := by have := h.units; lia

theorem dead_of_kept {h h' : Heap} {b : Addr} (k : Sub h h') (e : h'.get? b = none) : h.get? b = none := by
  induction hb : h.get? b using Option.casesOn with
  | none => rfl
  | some o => rw [k b o hb] at e; contradiction
theorem dead_size (h : Heap) : h.get? h.objs.size = none := by
  induction hb : h.get? h.objs.size using Option.casesOn with
  | none => rfl
  | some o => exact absurd (Heap.lt_size hb) (Nat.lt_irrefl _)
/-- alike but for the heap, the tokens, and generators that are bare if they were -/
structure GenOK (a b : Array GenState) : Prop where
  old : ∀ (i : Nat) x, a[i]? = some x → b[i]? = some x
  bare : AllBare a → AllBare b
theorem GenOK.refl (a : Array GenState) : GenOK a a := ⟨fun _ _ e => e, id⟩
theorem GenOK.trans {a b c : Array GenState} (x : GenOK a b) (y : GenOK b c) : GenOK a c := ⟨fun i z e => y.old i z (x.old i z e), fun q => y.bare (x.bare q)⟩
noncomputable def SameB (s s' : Shared) : Prop := ∃ h tk G, s' = { s with heap := h, toks := tk, gens := G } ∧ GenOK s.gens G
theorem SameB.refl (s : Shared) : SameB s s := ⟨_, _, _, rfl, .refl _⟩
theorem SameB.at' {s s' : Shared} (x : SameB s s') (h : Heap) (tk : Nat) : SameB s { s' with heap := h, toks := tk } := by
  obtain ⟨_, _, G, rfl, b⟩ := x
  exact ⟨h, tk, G, rfl, b⟩
theorem SameB.trans {s s' s'' : Shared} (x : SameB s s') (y : SameB s' s'') : SameB s s'' := by
  obtain ⟨_, _, _, rfl, b⟩ := x
  obtain ⟨h, tk, G, rfl, c⟩ := y
  exact ⟨h, tk, G, rfl, b.trans c⟩
structure Ext (g : Heap) (s : Shared) (g' : Heap) (s' : Shared) : Prop where
  sub : Sub g g'
  low : Sub g' s'.heap
  new : ∀ b o, g'.get? b = some o → g.get? b = some o ∨ s.heap.get? b = none
  kept : Sub s.heap s'.heap
  same : SameB s s'

theorem Ext.refl {g : Heap} {s : Shared} (l : Sub g s.heap) : Ext g s g s := ⟨.rfl', l, fun _ _ e => .inl e, .rfl', ⟨_, _, _, rfl, .refl _⟩⟩
theorem Ext.trans {g g' g'' : Heap} {s s' s'' : Shared} (x : Ext g s g' s') (y : Ext g' s' g'' s'') : Ext g s g'' s'' where
  sub := x.sub.trans' y.sub
  low := y.low
  new := fun b o e => (y.new b o e).elim (fun e' => x.new b o e') fun l => .inr (dead_of_kept x.kept l)
  kept := x.kept.trans' y.kept
  same := x.same.trans y.same
theorem Ext.toks {g : Heap} {s : Shared} (l : Sub g s.heap) (n : Nat) : Ext g s g { s with toks := n } := ⟨.rfl', l, fun _ _ e => .inl e, .rfl', ⟨_, _, _, rfl, .refl _⟩⟩
theorem Ext.toksH {g : Heap} {s : Shared} (l : Sub g s.heap) {h : Heap} (e : h = s.heap) (n : Nat) : Ext g s g { s with heap := h, toks := n } := by
  subst e; exact .toks l n

/-- another heap, grown, the view as it was -/
theorem Ext.grown {g : Heap} {s : Shared} (l : Sub g s.heap) {h' : Heap} (k : Sub s.heap h') (n : Nat) : Ext g s g { s with heap := h', toks := n } :=
  ⟨.rfl', l.trans' k, fun _ _ e => .inl e, k, ⟨_, _, _, rfl, .refl _⟩⟩

noncomputable def dead : Obj := { cls := .none, data := .freed }
/-- the heap without one place -/
noncomputable def hide (L : Addr) (h : Heap) : Heap := h.update L fun _ => dead
theorem hide_at {L : Addr} {h : Heap} : (hide L h).get? L = none := by
  unfold hide Heap.update Heap.get?
  induction h using PySem.Heap.casesOn with
  | mk objs life =>
    simp only [Array.getElem?_modify, if_true]
    cases objs[L]? with
    | none => rfl
    | some o => rfl
theorem hide_ne {L b : Addr} {h : Heap} (hb : L ≠ b) : (hide L h).get? b = h.get? b := Heap.get?_update_other h _ hb
theorem hide_some {L b : Addr} {h : Heap} {o : Obj} (e : (hide L h).get? b = some o) : L ≠ b ∧ h.get? b = some o := by
  by_cases hb : L = b
  · subst hb; rw [hide_at] at e; contradiction
  · exact ⟨hb, by rwa [hide_ne hb] at e⟩

/-- the view with one more place of the heap -/
theorem view_add {g h : Heap} {a : Addr} {o : Obj} (l : Sub g h) (ho : h.get? a = some o) :
    ∃ g', Sub g g' ∧ Sub g' h ∧ g'.get? a = some o ∧ ∀ b o', g'.get? b = some o' → g.get? b = some o' ∨ b = a := by
  -- all places of h that are not in g, but a, are hidden
  let f : Nat → Heap := fun n => (List.range n).foldl (fun k b => if (g.get? b).isSome || b == a then k else hide b k) h
  have key : ∀ n, (∀ b, (g.get? b).isSome = true ∨ b = a → (f n).get? b = h.get? b) ∧ (∀ b, b < n → ¬ ((g.get? b).isSome = true ∨ b = a) → (f n).get? b = none) ∧ ∀ b, n ≤ b → (f n).get? b = h.get? b := by
    intro n
    induction n with
    | zero => exact ⟨fun _ _ => rfl, fun _ h => absurd h (Nat.not_lt_zero _), fun _ _ => rfl⟩
    | succ n ih =>
      obtain ⟨i1, i2, i3⟩ := ih
      have e : f (n + 1) = if (g.get? n).isSome || n == a then f n else hide n (f n) := by
        show (List.range (n + 1)).foldl _ h = _
        rw [List.range_succ, List.foldl_append]
        rfl
      rw [e]
      split
      · rename_i hc
        refine ⟨i1, fun b hb hn => ?_, fun b hb => i3 b (Nat.le_of_succ_le hb)⟩
        rcases Nat.lt_or_ge b n with hlt | hge
        · exact i2 b hlt hn
        · have : b = n := Nat.le_antisymm (Nat.le_of_lt_succ hb) hge
          subst this
          exfalso; apply hn
          simpa using hc
      · rename_i hc
        have hc' : ¬ ((g.get? n).isSome = true ∨ n = a) := by simpa using hc
        refine ⟨fun b hb => ?_, fun b hb hn => ?_, fun b hb => ?_⟩
        · have : n ≠ b := fun e => hc' (e ▸ hb)
          rw [hide_ne this]; exact i1 b hb
        · by_cases hbn : n = b
          · subst hbn; exact hide_at
          · rw [hide_ne hbn]; exact i2 b (by lia) hn
        · rw [hide_ne (Nat.ne_of_lt hb)]; exact i3 b (Nat.le_of_succ_le hb)
  obtain ⟨k1, k2, k3⟩ := key h.objs.size
  refine ⟨f h.objs.size, fun b o' e => ?_, fun b o' e => ?_, ?_, fun b o' e => ?_⟩
  · rw [k1 b (.inl (by rw [e]; rfl))]; exact l b o' e
  · by_cases hb : (g.get? b).isSome = true ∨ b = a
    · rwa [k1 b hb] at e
    · by_cases hs : b < h.objs.size
      · rw [k2 b hs hb] at e; contradiction
      · rwa [k3 b (Nat.le_of_not_lt hs)] at e
  · rw [k1 a (.inr rfl)]; exact ho
  · by_cases hb : (g.get? b).isSome = true ∨ b = a
    · rcases hb with hb | hb
      · left
        obtain ⟨o'', e''⟩ := Option.isSome_iff_exists.mp hb
        rw [k1 b (.inl hb), l b o'' e''] at e
        obtain rfl := so e; exact e''
      · exact .inr hb
    · by_cases hs : b < h.objs.size
      · rw [k2 b hs hb] at e; contradiction
      · rw [k3 b (Nat.le_of_not_lt hs)] at e; exact absurd (Heap.lt_size e) hs

theorem size_push (h : Heap) (o : Obj) : (h.push o).objs.size = h.objs.size + 1 := Heap.size_push h o

/-- a new thing, and it is in the view -/
theorem Ext.push {g : Heap} {s : Shared} (l : Sub g s.heap) (o : Obj) (n : Nat) (hf : o.isFreed = false := by rfl) :
    ∃ g', Ext g s g' { s with heap := s.heap.push o, toks := n } ∧ g'.get? s.heap.objs.size = some o := by
  have k : Sub s.heap (s.heap.push o) := fun b o' e => Heap.get?_push_of_some o e
  obtain ⟨g', h1, h2, h3, h4⟩ := view_add (l.trans' k) (Heap.get?_push_size s.heap hf)
  exact ⟨g', ⟨h1, h2, fun b o' e => (h4 b o' e).imp id (by rintro rfl; exact dead_size _), k, ⟨_, _, _, rfl, .refl _⟩⟩, h3⟩

/-- the tree ends in a value that is d -/
noncomputable def Ev (M : Model) (A : Around) (t : Sem Value) (g : Heap) (s : Shared) (d : D) : Prop :=
  ∀ (Q : Value → Shared → Prop) (E : Value → Shared → Prop), (∀ v g' s', Ext g s g' s' → Den g' v d → Q v s') → wpAny M A t Q E s
noncomputable def EvB (M : Model) (A : Around) (t : Sem Bool) (g : Heap) (s : Shared) (b : Bool) : Prop :=
  ∀ (Q : Bool → Shared → Prop) (E : Value → Shared → Prop), (∀ g' s', Ext g s g' s' → Q b s') → wpAny M A t Q E s
noncomputable def EvL (M : Model) (A : Around) (t : Sem (List Value)) (g : Heap) (s : Shared) (ds : List D) : Prop :=
  ∀ (Q : List Value → Shared → Prop) (E : Value → Shared → Prop), (∀ vs g' s', Ext g s g' s' → DenL g' vs ds → Q vs s') → wpAny M A t Q E s

section
variable {M : Model} {A : Around} {g : Heap} {s : Shared}
theorem Ev.int {t : Sem Value} {i : Int} (h : ∀ Q E, (∀ tk n, Q (.int i tk) { s with toks := n }) → wpAny M A t Q E s) (l : Sub g s.heap) : Ev M A t g s (.int i) :=
  fun Q E k => h Q E fun tk n => k _ g _ (.toks l n) (.int i tk)
theorem Ev.str {t : Sem Value} {x : Str} (h : ∀ Q E, (∀ tk n, Q (.str x tk) { s with toks := n }) → wpAny M A t Q E s) (l : Sub g s.heap) : Ev M A t g s (.str x) :=
  fun Q E k => h Q E fun tk n => k _ g _ (.toks l n) (.str x tk)
theorem Ev.bool {t : Sem Value} {b : Bool} (h : ∀ Q E, Q (.bool b) s → wpAny M A t Q E s) (l : Sub g s.heap) : Ev M A t g s (.bool b) :=
  fun Q E k => h Q E (k _ g _ (.refl l) (.bool b))
theorem Ev.newTuple {vs : List Value} {ds : List D} (l : Sub g s.heap) (h : DenL g vs ds) (hz : vs.length ≤ sizeLine) : Ev M A (newTuple vs) g s (.tup ds) := by
  intro Q E k
  obtain ⟨g', x, e⟩ := Ext.push l ({ cls := .type "tuple", data := .seq vs.toArray } : Obj) s.toks
  exact wpAny_newTuple (k _ g' _ x (.tup e (h.sub x.sub))) (by simpa using hz)
theorem Ev.newList {vs : List Value} {ds : List D} (l : Sub g s.heap) (h : DenL g vs ds) (hz : vs.length ≤ sizeLine) : Ev M A (newList vs) g s (.list ds) := by
  intro Q E k
  obtain ⟨g', x, e⟩ := Ext.push l ({ cls := .type "list", data := .seq vs.toArray } : Obj) s.toks
  exact wpAny_newList (k _ g' _ x (.list e (h.sub x.sub))) (by simpa using hz)
end
end Mine
end

/-! part Mb -/
section
open PySem PySem.W PyProof.Rows PySem.Calls
set_option maxHeartbeats 4000000
set_option tactic.hygienic false
namespace Mine
open PySem.SeqAt
open AutoSeq1 (wpAny_loadPart')
open MeetsSeq MeetsSeq2 MeetsSeq3 SeqRoads2

mutual
noncomputable def toPy : D → PyData
  | .none => .none
  | .bool b => .bool b
  | .int i => .int i
  | .str x => .str x
  | .list ds => .list (toPyL ds)
  | .tup ds => .tuple (toPyL ds)
  | .bytes _ => .none
  | .typ _ => .none
  | .bi _ => .none
  | .glob _ => .none
  | .rng _ => .none
noncomputable def toPyL : List D → List PyData
  | [] => []
  | d :: r => toPy d :: toPyL r
end
noncomputable def okA0 : D → Bool
  | .none => true
  | .bool _ => true
  | .int _ => true
  | .str x => PyData.strOk x
  | _ => false
noncomputable def okS (f : D → Bool) (d : D) : Bool := match d with
  | .list ds => ds.all f
  | .tup ds => ds.all f
  | d => okA0 d
noncomputable def okD : Nat → D → Bool
  | 0 => okA0
  | k + 1 => okS (okD k)
noncomputable def eqvD (a b : D) : Bool := PyData.eqv (toPy a) (toPy b)
theorem reads_listOf {g : Heap} {k : Nat} (ih : ∀ (v : Value) (d : D), Den g v d → okD k d = true → ∃ as, Reads g v (toPy d) as ∧ (toPy d).canLay0 = true ∧ (toPy d).depth ≤ k) :
    ∀ (vs : List Value) (ds : List D), DenL g vs ds → ds.all (okD k) = true → ∃ as, ReadsAll g vs (toPyL ds) as ∧ PyData.canLayAll0 (toPyL ds) = true ∧ PyData.depthAll (toPyL ds) ≤ k := by
  intro vs
  induction vs with
  | nil => intro ds h _; cases h; exact ⟨[], .nil, rfl, Nat.zero_le _⟩
  | cons v vs ihv =>
    intro ds h hk
    cases h with
    | cons h r =>
      rw [List.all_cons, Bool.and_eq_true] at hk
      obtain ⟨as, r1, c1, d1⟩ := ih _ _ h hk.1
      obtain ⟨bs, r2, c2, d2⟩ := ihv _ r hk.2
      exact ⟨as ++ bs, .cons r1 r2, by simp only [toPyL, PyData.canLayAll0, c1, c2, Bool.and_self], by simp only [toPyL, PyData.depthAll]; omega⟩
theorem reads_0 {g : Heap} {v : Value} {d : D} (h : Den g v d) (hk : okA0 d = true) (k : Nat) : ∃ as, Reads g v (toPy d) as ∧ (toPy d).canLay0 = true ∧ (toPy d).depth ≤ k := by
  induction h using Den.casesOn with
  | none => exact ⟨[], .none, rfl, Nat.zero_le _⟩
  | bool b => exact ⟨[], .bool b, rfl, Nat.zero_le _⟩
  | int i t => exact ⟨[], .int i t, rfl, Nat.zero_le _⟩
  | str x t => exact ⟨[], .str x t, hk, Nat.zero_le _⟩
  | _ => exact nf hk
theorem reads_of {g : Heap} : ∀ (k : Nat) (v : Value) (d : D), Den g v d → okD k d = true → ∃ as, Reads g v (toPy d) as ∧ (toPy d).canLay0 = true ∧ (toPy d).depth ≤ k := by
  intro k
  induction k with
  | zero => exact fun v d h hk => reads_0 h hk 0
  | succ k ih =>
    intro v d h hk
    induction h using Den.casesOn with
    | list x r =>
      obtain ⟨as, r2, c2, d2⟩ := reads_listOf ih _ _ r hk
      exact ⟨_ :: as, .list x rfl rfl (by simpa using r2), c2, Nat.succ_le_succ d2⟩
    | tup x r =>
      obtain ⟨as, r2, c2, d2⟩ := reads_listOf ih _ _ r hk
      exact ⟨as, .tuple x rfl rfl (by simpa using r2), c2, Nat.succ_le_succ d2⟩
    | none => exact reads_0 .none hk _
    | bool => exact reads_0 (.bool _) hk _
    | int => exact reads_0 (.int _ _) hk _
    | str => exact reads_0 (.str _ _) hk _
    | _ => exact nf hk

theorem Rm.un' {A : Around} {k n : Nat} (h : Rm A k) (hn : n ≤ 8 * k) : A.units + n < cLine := by have := h.units; omega

section
variable {prog : Program} {w : World} {A : Around} {E : Value → Shared → Prop} {s : Shared} {g : Heap} {a b : Value} {x y : D}
theorem eqAt_den {k : Nat} (l : Sub g s.heap) (ha : Den g a x) (hb : Den g b y) (kx : okD k x = true) (ky : okD k y = true) (hu : A.units + k < cLine) : EqAt A s a b (eqvD x y) := by
  obtain ⟨as, r1, c1, d1⟩ := reads_of k _ _ (ha.sub l) kx
  obtain ⟨bs, r2, c2, _⟩ := reads_of k _ _ (hb.sub l) ky
  exact eqAt_reads _ _ A s _ _ _ _ r1 r2 c1 c2 (by have := Nat.min_le_left (toPy x).depth (toPy y).depth; omega)
theorem eq_den {k : Nat} {Q : Value → Shared → Prop} (l : Sub g s.heap) (ha : Den g a x) (hb : Den g b y) (kx : okD k x = true) (ky : okD k y = true) (hu : A.units + k < cLine) (h : Q (.bool (eqvD x y)) s) :
    wpAny (model prog w) A (compareOp .Eq a b) Q E s := by
  obtain ⟨as, r1, c1, d1⟩ := reads_of k _ _ (ha.sub l) kx
  obtain ⟨bs, r2, c2, _⟩ := reads_of k _ _ (hb.sub l) ky
  exact compareEq_reads r1 r2 c1 c2 (by have := Nat.min_le_left (toPy x).depth (toPy y).depth; omega) h
theorem ne_den {k : Nat} {Q : Value → Shared → Prop} (l : Sub g s.heap) (ha : Den g a x) (hb : Den g b y) (kx : okD k x = true) (ky : okD k y = true) (hu : A.units + k < cLine) (h : Q (.bool (!eqvD x y)) s) :
    wpAny (model prog w) A (compareOp .NotEq a b) Q E s := by
  obtain ⟨as, r1, c1, d1⟩ := reads_of k _ _ (ha.sub l) kx
  obtain ⟨bs, r2, c2, _⟩ := reads_of k _ _ (hb.sub l) ky
  exact compareNe_reads r1 r2 c1 c2 (by have := Nat.min_le_left (toPy x).depth (toPy y).depth; omega) h
theorem any_toPyL (y : D) : ∀ ds : List D, (toPyL ds).any (fun z => PyData.eqv z (toPy y)) = ds.any fun d => eqvD d y
  | [] => rfl
  | d :: r => by rw [toPyL, List.any_cons, List.any_cons, any_toPyL y r]; rfl
theorem in_den {k : Nat} {ds : List D} {Q : Value → Shared → Prop} (l : Sub g s.heap) (ha : Den g a (.list ds)) (hb : Den g b y) (kx : okD k (.list ds) = true) (ky : okD k y = true) (hu : A.units + 1 + k < cLine) (h : Q (.bool (ds.any fun d => eqvD d y)) s) :
    wpAny (model prog w) A (compareOp .In b a) Q E s := by
  obtain ⟨as, r1, c1, d1⟩ := reads_of k _ _ (ha.sub l) kx
  obtain ⟨bs, r2, c2, d2⟩ := reads_of k _ _ (hb.sub l) ky
  rw [toPy] at r1 c1
  exact in_list_reads r1 r2 c1 c2 (by have := Nat.min_le_right (PyData.depthAll (toPyL ds)) (toPy y).depth; omega) (by rw [any_toPyL]; exact h)
theorem notIn_den {k : Nat} {ds : List D} {Q : Value → Shared → Prop} (l : Sub g s.heap) (ha : Den g a (.list ds)) (hb : Den g b y) (kx : okD k (.list ds) = true) (ky : okD k y = true) (hu : A.units + 1 + k < cLine) (h : Q (.bool (!ds.any fun d => eqvD d y)) s) :
    wpAny (model prog w) A (compareOp .NotIn b a) Q E s := by
  obtain ⟨as, r1, c1, d1⟩ := reads_of k _ _ (ha.sub l) kx
  obtain ⟨bs, r2, c2, d2⟩ := reads_of k _ _ (hb.sub l) ky
  rw [toPy] at r1 c1
  exact notIn_list_reads r1 r2 c1 c2 (by have := Nat.min_le_right (PyData.depthAll (toPyL ds)) (toPy y).depth; omega) (by rw [any_toPyL]; exact h)
end

/-! less and greater, of lists too -/
inductive LG | lt | gt
noncomputable def LG.op : LG → CmpOp | .lt => .Lt | .gt => .Gt
noncomputable def LG.code : LG → Int | .lt => 0 | .gt => 4
noncomputable def LG.isLt : LG → Bool | .lt => true | .gt => false

noncomputable def cmpL (o : LG) (k : D → D → Option Bool) : List D → List D → Option Bool
  | [], [] => some false
  | [], _ :: _ => some o.isLt
  | _ :: _, [] => some (!o.isLt)
  | x :: xs, y :: ys => if eqvD x y = true then cmpL o k xs ys else k x y
noncomputable def cmp0 (o : LG) : D → D → Option Bool
  | .int a, y => match y with
    | .int b => some (match o with | .lt => decide (a < b) | .gt => decide (a > b))
    | _ => none
  | .str x, y => match y with
    | .str y => some (match o with | .lt => decide (x.cps.toList < y.cps.toList) | .gt => decide (y.cps.toList < x.cps.toList))
    | _ => none
  | _, _ => none
noncomputable def cmpS (o : LG) (k : Nat) (f : D → D → Option Bool) (x y : D) : Option Bool := match x with
  | .list xs => match y with
    | .list ys => if xs.all (okD k) && ys.all (okD k) then cmpL o f xs ys else none
    | _ => none
  | x => cmp0 o x y
noncomputable def cmpD (o : LG) : Nat → D → D → Option Bool
  | 0 => cmp0 o
  | k + 1 => cmpS o k (cmpD o k)
noncomputable def CmpAt (o : LG) (A : Around) (s : Shared) (a b : Value) (r : Bool) : Prop :=
  ∀ (prog : Program) (w : World) (E : Value → Shared → Prop) (Q : Value → Shared → Prop), Q (.bool r) s → wpAny (model prog w) A (richCompare o.op a b) Q E s

theorem F_slot_list (o : LG) : ∃ id B, Slot "list" (cmpInfo o.op).2.1 id ∧ entryFor table id = some B ∧ (∀ a b, argsOk id ⟨[a, b], []⟩) ∧
    (id = "list.__lt__" ∧ o = .lt ∧ B = Builtin.«list.__lt__» ∨ id = "list.__gt__" ∧ o = .gt ∧ B = Builtin.«list.__gt__») := by
  cases o with
  | lt => exact ⟨_, _, F.slot_list_lt, F.entry_list_lt, F.args_list_lt_2, .inl ⟨rfl, rfl, rfl⟩⟩
  | gt => exact ⟨_, _, F.slot_list_gt, F.entry_list_gt, F.args_list_gt_2, .inr ⟨rfl, rfl, rfl⟩⟩

theorem den_drop {g : Heap} {vs : List Value} {xs : List D} (h : DenL g vs xs) (i : Nat) :
    (vs.length ≤ i ∧ xs.drop i = []) ∨ ∃ v x, vs[i]? = some v ∧ v ∈ vs ∧ x ∈ xs ∧ Den g v x ∧ xs.drop i = x :: xs.drop (i + 1) := by
  have hl := h.length
  rcases Nat.lt_or_ge i vs.length with hi | hi
  · right
    have hi' : i < xs.length := hl ▸ hi
    obtain ⟨d, e, hd⟩ := h.getV (List.getElem?_eq_getElem hi)
    rw [List.getElem?_eq_getElem hi'] at e
    cases e
    exact ⟨vs[i], xs[i], List.getElem?_eq_getElem hi, List.getElem_mem hi, List.getElem_mem hi', hd, by rw [List.drop_eq_getElem_cons hi']⟩
  · left
    exact ⟨hi, List.drop_eq_nil_of_le (hl ▸ hi)⟩
theorem none_of_le {vs : List Value} {i : Nat} (h : vs.length ≤ i) : vs.toArray[((i : Nat) : Int).toNat]? = none := by simp; omega
theorem some_of {vs : List Value} {i : Nat} {v : Value} (h : vs[i]? = some v) : vs.toArray[((i : Nat) : Int).toNat]? = some v := by simpa using h

theorem cmp_loopAt (o : LG) (l b : Addr) (vs ws : List Value) (xs ys : List D) (n n2 : Nat) (dd dd2 : Option Addr) (sl sl2 : Array (Option Value)) (g : Heap) (kf : D → D → Option Bool) (m : Nat) :
    ∀ (i : Nat) (r : Bool), i ≤ vs.length → i ≤ ws.length → vs.length - i = m → cmpL o kf (xs.drop i) (ys.drop i) = some r → Meets (Builtin.«list.__eq__.loop» ⟨[.ref l, .ref b, rawInt i, rawInt o.code], []⟩)
      (fun A R s => s.heap.get? l = some { cls := .type "list", dict := dd, data := .seq vs.toArray n, slots := sl } ∧ s.heap.get? b = some { cls := .type "list", dict := dd2, data := .seq ws.toArray n2, slots := sl2 } ∧
        DenL g vs xs ∧ DenL g ws ys ∧ (∀ (v u : Value) (x y : D), v ∈ vs → u ∈ ws → x ∈ xs → y ∈ ys → Den g v x → Den g u y → EqAt A.in1 s v u (eqvD x y) ∧ ∀ r, kf x y = some r → CmpAt o A.in1 s v u r) ∧
        R (.ok (.ret (.bool r))) s) := by
  induction m with
  | zero =>
    intro i r hi hi2 hm hr prog w A R s h
    obtain ⟨hp, gs, d, tk, os⟩ := s; obtain ⟨hl, hb, hx, hy, he, h⟩ := h
    have hlv : vs.length = i := by omega
    have hi1 := none_of_le (vs := vs) (i := i) (by omega)
    have hxd : xs.drop i = [] := List.drop_eq_nil_of_le (by rw [← hx.length]; omega)
    have hyd : ys.drop i = [] ∧ ws.length ≤ i ∨ (∃ y r, ys.drop i = y :: r) ∧ i < ws.length := by
      rcases Nat.lt_or_ge i ws.length with h | h
      · right; exact ⟨⟨_, _, List.drop_eq_getElem_cons (by rw [← hy.length]; exact h)⟩, h⟩
      · left; exact ⟨List.drop_eq_nil_of_le (by rw [← hy.length]; exact h), h⟩
    rw [hxd] at hr
    cases o with
    | lt =>
      simp only [LG.code]
      wp_walk using wpAny_loadPart' hl, wpAny_loadPart' hb
      rw [hi1]
      wp_walk using wpAny_loadPart' hl, wpAny_loadPart' hb
      show R (.ok (.ret (.bool (decide (vs.toArray.size < ws.toArray.size))))) _
      have e : decide (vs.toArray.size < ws.toArray.size) = r := by
        rcases hyd with ⟨e, e'⟩ | ⟨⟨y, r', e⟩, e'⟩
        · rw [e] at hr; simp [cmpL] at hr; subst hr; simp; omega
        · rw [e] at hr; simp [cmpL, LG.isLt] at hr; subst hr; simp; omega
      rw [e]; exact h
    | gt =>
      simp only [LG.code]
      wp_walk using wpAny_loadPart' hl, wpAny_loadPart' hb
      rw [hi1]
      wp_walk using wpAny_loadPart' hl, wpAny_loadPart' hb
      show R (.ok (.ret (.bool (decide (vs.toArray.size > ws.toArray.size))))) _
      have e : decide (vs.toArray.size > ws.toArray.size) = r := by
        rcases hyd with ⟨e, e'⟩ | ⟨⟨y, r', e⟩, e'⟩
        · rw [e] at hr; simp [cmpL] at hr; subst hr; simp; omega
        · rw [e] at hr; simp [cmpL, LG.isLt] at hr; subst hr; simp; omega
      rw [e]; exact h
  | succ m ih =>
    intro i r hi hi2 hm hr prog w A R s h
    obtain ⟨hp, gs, d, tk, os⟩ := s; obtain ⟨hl, hb, hx, hy, he, h⟩ := h
    rcases den_drop hx i with ⟨e, _⟩ | ⟨v, x, hv, hvm, hxm, hvx, hxd⟩
    · omega
    rw [hxd] at hr
    have hi1 := some_of hv
    have hc : ((i : Int) + 1) = ((i + 1 : Nat) : Int) := by push_cast; rfl
    rcases den_drop hy i with ⟨e, hyd⟩ | ⟨u, y, hu, hum, hym, huy, hyd⟩
    · have hi2 := none_of_le (vs := ws) (i := i) e
      rw [hyd] at hr
      cases o with
      | lt =>
        simp only [LG.code]
        wp_walk using wpAny_loadPart' hl, wpAny_loadPart' hb
        rw [hi1, hi2]
        wp_walk using wpAny_loadPart' hl, wpAny_loadPart' hb
        show R (.ok (.ret (.bool (decide (vs.toArray.size < ws.toArray.size))))) _
        have e : decide (vs.toArray.size < ws.toArray.size) = r := by
          simp [cmpL, LG.isLt] at hr; subst hr; simp; omega
        rw [e]; exact h
      | gt =>
        simp only [LG.code]
        wp_walk using wpAny_loadPart' hl, wpAny_loadPart' hb
        rw [hi1, hi2]
        wp_walk using wpAny_loadPart' hl, wpAny_loadPart' hb
        show R (.ok (.ret (.bool (decide (vs.toArray.size > ws.toArray.size))))) _
        have e : decide (vs.toArray.size > ws.toArray.size) = r := by
          simp [cmpL, LG.isLt] at hr; subst hr; simp; omega
        rw [e]; exact h
    · have hi2' := some_of hu
      have hlu : i < ws.length := by
        rcases Nat.lt_or_ge i ws.length with h | h
        · exact h
        · rw [List.getElem?_eq_none h] at hu; cases hu
      rw [hyd] at hr
      obtain ⟨q1, q2⟩ := he v u x y hvm hum hxm hym hvx huy
      cases o with
      | lt =>
        simp only [LG.code]
        wp_walk using wpAny_loadPart' hl, wpAny_loadPart' hb
        rw [hi1, hi2']
        refine wpAny_bind (q1 prog w _ _ ?_)
        cases hq : eqvD x y with
        | true =>
          simp only [cmpL, hq, if_true] at hr
          wp_walk
          rw [hc]
          exact ⟨plainId_quiet plain_eq_loop _, codeAny_builtin entry_eq_loop (by
            rw [Around.under_plainId plain_eq_loop _]
            exact ih (i + 1) r (by omega) (by omega) (by omega) hr prog w A R _ ⟨hl, hb, hx, hy, he, h⟩)⟩
        | false =>
          simp only [cmpL, hq, Bool.false_eq_true, if_false] at hr
          wp_walk using wpAny_loadPart' hl, wpAny_loadPart' hb
          rw [hi1, hi2']
          refine wpAny_bind (q2 _ hr prog w _ _ ?_)
          wp_walk
          exact h
      | gt =>
        simp only [LG.code]
        wp_walk using wpAny_loadPart' hl, wpAny_loadPart' hb
        rw [hi1, hi2']
        refine wpAny_bind (q1 prog w _ _ ?_)
        cases hq : eqvD x y with
        | true =>
          simp only [cmpL, hq, if_true] at hr
          wp_walk
          rw [hc]
          exact ⟨plainId_quiet plain_eq_loop _, codeAny_builtin entry_eq_loop (by
            rw [Around.under_plainId plain_eq_loop _]
            exact ih (i + 1) r (by omega) (by omega) (by omega) hr prog w A R _ ⟨hl, hb, hx, hy, he, h⟩)⟩
        | false =>
          simp only [cmpL, hq, Bool.false_eq_true, if_false] at hr
          wp_walk using wpAny_loadPart' hl, wpAny_loadPart' hb
          rw [hi1, hi2']
          refine wpAny_bind (q2 _ hr prog w _ _ ?_)
          wp_walk
          exact h
end Mine
end

/-! part Mc -/
section
open PySem PySem.W PyProof.Rows PySem.Calls
set_option maxHeartbeats 4000000
set_option tactic.hygienic false
namespace Mine
open PySem.SeqAt
open AutoSeq1 (wpAny_loadPart')
open MeetsSeq MeetsSeq2 MeetsSeq3 SeqRoads2

abbrev CmpSpec (l b : Addr) (vs ws : List Value) (xs ys : List D) (n n2 : Nat) (dd dd2 : Option Addr) (sl sl2 : Array (Option Value)) (g : Heap) (kf : D → D → Option Bool) (o : LG) (r : Bool) : PySem.Spec :=
  fun A R s => s.heap.get? l = some { cls := .type "list", dict := dd, data := .seq vs.toArray n, slots := sl } ∧ s.heap.get? b = some { cls := .type "list", dict := dd2, data := .seq ws.toArray n2, slots := sl2 } ∧
        DenL g vs xs ∧ DenL g ws ys ∧ (∀ (v u : Value) (x y : D), v ∈ vs → u ∈ ws → x ∈ xs → y ∈ ys → Den g v x → Den g u y → EqAt A.in1 s v u (eqvD x y) ∧ ∀ r, kf x y = some r → CmpAt o A.in1 s v u r) ∧
        R (.ok (.ret (.bool r))) s

section
variable (l b : Addr) (vs ws : List Value) (xs ys : List D) (n n2 : Nat) (dd dd2 : Option Addr) (sl sl2 : Array (Option Value)) (g : Heap) (kf : D → D → Option Bool) (r : Bool)
theorem list_ltAt (hr : cmpL .lt kf xs ys = some r) : Meets (Builtin.«list.__lt__» ⟨[.ref l, .ref b], []⟩) (CmpSpec l b vs ws xs ys n n2 dd dd2 sl sl2 g kf .lt r) := by
  intro prog w A R s h
  obtain ⟨hp, g, d, tk, os⟩ := s; obtain ⟨hl, hb, hx, hy, he, h⟩ := h
  have f3 := AutoSeq1.sub_list_list
  wp_walk using wpAny_loadPart' hl, wpAny_loadPart' hb
  exact ⟨plainId_quiet plain_eq_loop _, codeAny_builtin entry_eq_loop (by
    rw [Around.under_plainId plain_eq_loop _]
    exact cmp_loopAt .lt l b vs ws xs ys n n2 dd dd2 sl sl2 _ kf _ 0 r (Nat.zero_le _) (Nat.zero_le _) rfl (by simpa using hr) prog w A R _ ⟨hl, hb, hx, hy, he, h⟩)⟩
theorem list_gtAt (hr : cmpL .gt kf xs ys = some r) : Meets (Builtin.«list.__gt__» ⟨[.ref l, .ref b], []⟩) (CmpSpec l b vs ws xs ys n n2 dd dd2 sl sl2 g kf .gt r) := by
  intro prog w A R s h
  obtain ⟨hp, g, d, tk, os⟩ := s; obtain ⟨hl, hb, hx, hy, he, h⟩ := h
  have f3 := AutoSeq1.sub_list_list
  wp_walk using wpAny_loadPart' hl, wpAny_loadPart' hb
  exact ⟨plainId_quiet plain_eq_loop _, codeAny_builtin entry_eq_loop (by
    rw [Around.under_plainId plain_eq_loop _]
    exact cmp_loopAt .gt l b vs ws xs ys n n2 dd dd2 sl sl2 _ kf _ 0 r (Nat.zero_le _) (Nat.zero_le _) rfl (by simpa using hr) prog w A R _ ⟨hl, hb, hx, hy, he, h⟩)⟩
end

theorem gt_str' {prog : Program} {w : World} {A : Around} {E : Value → Shared → Prop} {s : Shared} {x y : Str} {t u : Tok} {Q : Value → Shared → Prop} (h : Q (.bool (decide (y.cps.toList < x.cps.toList))) s) :
    wpAny (model prog w) A (compareOp .Gt (.str x t) (.str y u)) Q E s :=
  compareOp_gives (op := .Gt) (typeIs_str s x t) (typeIs_str s y u) PyProof.Rows.slot_str_gt PyProof.Rows.entry_str_gt (PyProof.Rows.args_str_gt _ _) (gives_str_gt x y t u) (fun e => nomatch e) h

theorem cmp0_den {o : LG} {g : Heap} {A : Around} {s : Shared} {a b : Value} {x y : D} {r : Bool} (ha : Den g a x) (hb : Den g b y) (hr : cmp0 o x y = some r) : CmpAt o A s a b r := by
  intro prog w E Q hq
  induction ha using Den.casesOn with
  | int i t => induction hb using Den.casesOn with
    | int j u =>
      replace hr := so hr
      subst hr
      induction o using LG.casesOn with
      | lt => exact P.lt_int hq
      | gt => exact P.gt_int hq
    | _ => exact ns hr
  | str i t => induction hb using Den.casesOn with
    | str j u =>
      replace hr := so hr
      subst hr
      induction o using LG.casesOn with
      | lt => exact P.lt_str hq
      | gt => exact gt_str' hq
    | _ => exact ns hr
  | _ => exact ns hr
theorem cmpAt_list {o : LG} {g : Heap} {k : Nat} (ih : ∀ (A : Around) (s : Shared) (a b : Value) (x y : D) (r : Bool), Sub g s.heap → Den g a x → Den g b y → cmpD o k x y = some r → A.units + 2 * k < cLine → CmpAt o A s a b r)
    {A : Around} {s : Shared} {l1 l2 : Addr} {vs ws : List Value} {xs ys : List D} {n n2 : Nat} {r : Bool} (l : Sub g s.heap) (h1 : g.get? l1 = some (lObj vs n)) (d1 : DenL g vs xs) (h2 : g.get? l2 = some (lObj ws n2)) (d2 : DenL g ws ys)
    (hk : (xs.all (okD k) && ys.all (okD k)) = true) (hr : cmpL o (cmpD o k) xs ys = some r) (hu : A.units + 2 * (k + 1) < cLine) : CmpAt o A s (.ref l1) (.ref l2) r := by
  intro prog w E Q hq
  rw [Bool.and_eq_true] at hk
  have hxa := List.all_eq_true.mp hk.1
  have hya := List.all_eq_true.mp hk.2
  have hu2 : A.units + 1 + 2 * k < cLine := Nat.lt_of_succ_lt (Nat.add_right_comm .. ▸ hu)
  have hu1 : A.units + 1 + k < cLine := Nat.lt_of_le_of_lt (Nat.add_le_add_left (Nat.le_mul_of_pos_left k (by decide)) _) hu2
  have hu3 : A.units < cLine := Nat.lt_of_le_of_lt (Nat.le_add_right ..) hu
  have he' : ∀ (v u : Value) (x y : D), v ∈ vs → u ∈ ws → x ∈ xs → y ∈ ys → Den g v x → Den g u y → EqAt A.in1 s v u (eqvD x y) ∧ ∀ r, cmpD o k x y = some r → CmpAt o A.in1 s v u r := fun v u x y _ _ hx hy hvx huy =>
    ⟨eqAt_den l hvx huy (hxa x hx) (hya y hy) hu1, fun r hr => ih A.in1 s v u x y r l hvx huy hr hu2⟩
  induction o using LG.casesOn with
  | lt =>
    exact richCompare_meets_room (op := .Lt) ⟨_, l _ _ h1, rfl⟩ ⟨_, l _ _ h2, rfl⟩ F.slot_list_lt F.entry_list_lt (F.args_list_lt_2 _ _) (list_ltAt l1 l2 vs ws xs ys n n2 none none #[] #[] g _ r hr)
      ⟨l _ _ h1, l _ _ h2, d1, d2, he', show Value.bool r ≠ Value.notImplemented ∧ Q (.bool r) s from ⟨(fun x => nomatch x), hq⟩⟩ hu3
  | gt =>
    exact richCompare_meets_room (op := .Gt) ⟨_, l _ _ h1, rfl⟩ ⟨_, l _ _ h2, rfl⟩ F.slot_list_gt F.entry_list_gt (F.args_list_gt_2 _ _) (list_gtAt l1 l2 vs ws xs ys n n2 none none #[] #[] g _ r hr)
      ⟨l _ _ h1, l _ _ h2, d1, d2, he', show Value.bool r ≠ Value.notImplemented ∧ Q (.bool r) s from ⟨(fun x => nomatch x), hq⟩⟩ hu3
theorem cmpAt_den {o : LG} {g : Heap} : ∀ (k : Nat) (A : Around) (s : Shared) (a b : Value) (x y : D) (r : Bool), Sub g s.heap → Den g a x → Den g b y → cmpD o k x y = some r → A.units + 2 * k < cLine → CmpAt o A s a b r := by
  intro k
  induction k with
  | zero => exact fun A s a b x y r l ha hb hr hu => cmp0_den ha hb hr
  | succ k ih =>
    intro A s a b x y r l ha hb hr hu
    induction ha using Den.casesOn with
    | @list l1 vs xs n h1 d1 => induction hb using Den.casesOn with
      | @list l2 ws ys n2 h2 d2 => exact cmpAt_list ih l h1 d1 h2 d2 (ite_get hr).1 (ite_get (c := (xs.all (okD k) && ys.all (okD k)) = true) hr).2 hu
      | _ => exact ns hr
    | int i t => exact cmp0_den (.int i t) hb hr
    | str i t => exact cmp0_den (.str i t) hb hr
    | _ => exact ns hr
end Mine
end

/-! part Md -/
section
open PySem PySem.W PyProof.Rows PySem.Calls
set_option maxHeartbeats 1000000
set_option tactic.hygienic false
namespace Mine
abbrev lim : Nat := 65536
theorem lim_le {n : Nat} (h : n ≤ lim) : n ≤ sizeLine := by rw [sizeLine_eq]; exact Nat.le_trans h (by decide)
theorem lim_lt {n : Nat} (h : n ≤ lim) : ¬ (n : Int) ≥ 2 ^ 63 := Int.not_le.mpr (Int.lt_of_le_of_lt (Int.ofNat_le.mpr h) (by decide))

/-! slices, plainly -/
noncomputable def pyClip (n : Nat) (i : Int) : Nat := (max 0 (min (if i < 0 then i + n else i) n)).toNat
noncomputable def pySl {α : Type} (xs : List α) (lo hi : Option Int) : List α :=
  (xs.drop ((lo.map (pyClip xs.length)).getD 0)).take ((hi.map (pyClip xs.length)).getD xs.length - (lo.map (pyClip xs.length)).getD 0)
theorem pick_range {α : Type} (xs : List α) (a : Nat) : ∀ c : Nat, ((List.range c).map fun k => a + k).filterMap (xs[·]?) = (xs.drop a).take c
  | 0 => by simp
  | c + 1 => by
    rw [List.range_succ, List.map_append, List.filterMap_append, pick_range xs a c]
    simp only [List.map_cons, List.map_nil, List.filterMap_cons, List.filterMap_nil]
    rw [List.take_add_one]
    congr 1
    rw [List.getElem?_drop]
    cases xs[a + c]? <;> rfl
theorem sliceRange_one (a b : Nat) : sliceRange (a : Int) (b : Int) 1 = (List.range (b - a)).map fun k => a + k := by
  unfold sliceRange
  simp only [show (1 : Int) > 0 by decide, if_true]
  have e : (if (a : Int) < b then ((b : Int) - a + 1 - 1) / 1 else 0).toNat = b - a := by
    split
    · rw [Int.ediv_one]; simp
    · lia
  rw [e]
  apply List.map_congr_left
  intro k _
  lia
theorem clip_cast (n : Nat) (i : Int) : max (0 : Int) (min (if i < 0 then i + n else i) n) = ((pyClip n i : Nat) : Int) := by unfold pyClip; simp
theorem slicePick_eq (vs : List Value) (lo hi : Option Int) : slicePick vs.toArray lo hi none = (pySl vs lo hi).toArray := by
  unfold slicePick pySl
  have e : sliceBounds lo hi none vs.toArray.size = ((((lo.map (pyClip vs.length)).getD 0 : Nat) : Int), (((hi.map (pyClip vs.length)).getD vs.length : Nat) : Int), 1) := by
    unfold sliceBounds
    simp only [Option.getD_none, show (1 : Int) > 0 by decide, if_true, List.size_toArray]
    refine Prod.ext ?_ (Prod.ext ?_ rfl)
    · induction lo using Option.casesOn with
      | none => rfl
      | some i => exact clip_cast _ _
    · induction hi using Option.casesOn with
      | none => rfl
      | some i => exact clip_cast _ _
  rw [e]
  dsimp only
  rw [sliceRange_one]
  congr 1
  rw [← pick_range vs]
  congr 1
  funext i; simp
theorem strPick_eq (x : Str) (lo hi : Option Int) : (Builtin.Str.strSliceIndices lo hi 1 x.length).filterMap (x.cps[·]?) = pySl x.cps.toList lo hi := by
  unfold pySl
  have e : Builtin.Str.strSliceIndices lo hi 1 x.length = sliceRange (((lo.map (pyClip x.cps.toList.length)).getD 0 : Nat) : Int) (((hi.map (pyClip x.cps.toList.length)).getD x.cps.toList.length : Nat) : Int) 1 := by
    have hl : x.length = x.cps.toList.length := by simp [Str.length]
    unfold Builtin.Str.strSliceIndices
    rw [hl]
    simp only [show (1 : Int) > 0 by decide, if_true]
    congr 1
    · induction lo using Option.casesOn with
      | none => rfl
      | some i => exact clip_cast _ _
    · induction hi using Option.casesOn with
      | none => rfl
      | some i => exact clip_cast _ _
  rw [e, sliceRange_one, ← pick_range]
  congr 1
  funext i; simp
theorem pySl_length_le {α : Type} (xs : List α) (lo hi : Option Int) : (pySl xs lo hi).length ≤ xs.length := by
  unfold pySl; simp only [List.length_take, List.length_drop]; lia
theorem pySl_whole {α : Type} (xs : List α) (lo hi : Option Int) (h : (pySl xs lo hi).length = xs.length) : pySl xs lo hi = xs := by
  unfold pySl at *
  simp only [List.length_take, List.length_drop] at h
  by_cases h0 : xs.length = 0
  · have : xs = [] := List.eq_nil_of_length_eq_zero h0
    subst this; simp
  · have ha : (lo.map (pyClip xs.length)).getD 0 = 0 := by lia
    rw [ha] at h ⊢
    simp only [List.drop_zero]
    exact List.take_of_length_le (by lia)

noncomputable def strOf (l : List Nat) : Str := ⟨l.toArray⟩
theorem sliceMade_eq (x : Str) (t : Tok) (l u : Option (Int × Tok)) {s : Shared} {Q : Value → Shared → Prop} (hz : x.length ≤ sizeLine)
    (h : ∀ t' k, Q (.str (strOf (pySl x.cps.toList (l.map (·.1)) (u.map (·.1)))) t') { s with toks := k }) : (sliceMade x t l u none).post Q s := by
  unfold sliceMade slicePicked
  have e := strPick_eq x (l.map (·.1)) (u.map (·.1))
  have hle := pySl_length_le x.cps.toList (l.map (·.1)) (u.map (·.1))
  have hsz : x.cps.toList.length = x.length := by simp [Str.length]
  simp only [Option.map_none, Option.getD_none]
  split
  · rename_i hc
    have hlen : (Builtin.Str.strSliceIndices (l.map (·.1)) (u.map (·.1)) 1 x.length).length = x.length := by simpa using hc
    have key : pySl x.cps.toList (l.map (·.1)) (u.map (·.1)) = x.cps.toList := by
      apply pySl_whole
      rw [← e]
      -- as many indices as signs, each in bounds
      have hall : ∀ i ∈ Builtin.Str.strSliceIndices (l.map (·.1)) (u.map (·.1)) 1 x.length, (x.cps[i]?).isSome = true := by
        intro i hi
        have e2 : Builtin.Str.strSliceIndices (l.map (·.1)) (u.map (·.1)) 1 x.length = sliceRange ((((l.map (·.1)).map (pyClip x.cps.toList.length)).getD 0 : Nat) : Int) ((((u.map (·.1)).map (pyClip x.cps.toList.length)).getD x.cps.toList.length : Nat) : Int) 1 := by
          unfold Builtin.Str.strSliceIndices
          rw [← hsz]
          simp only [show (1 : Int) > 0 by decide, if_true]
          congr 1
          · induction l using Option.casesOn with
            | none => rfl
            | some i => exact clip_cast _ _
          · induction u using Option.casesOn with
            | none => rfl
            | some i => exact clip_cast _ _
        rw [e2, sliceRange_one] at hi
        obtain ⟨k, hk, rfl⟩ := List.mem_map.mp hi
        have hk' := List.mem_range.mp hk
        have hu : ((u.map (·.1)).map (pyClip x.cps.toList.length)).getD x.cps.toList.length ≤ x.cps.toList.length := by
          induction u using Option.casesOn with
          | none => exact Nat.le_refl _
          | some q => show pyClip _ _ ≤ _; unfold pyClip; (clear hz e hle hc e2 hk'; omega)
        have hss : x.cps.toList.length = x.cps.size := by simp
        have hlt : ((l.map (·.1)).map (pyClip x.cps.toList.length)).getD 0 + k < x.cps.size := by (clear hz h e hle hc hlen e2 hk hi; lia)
        rw [Array.getElem?_eq_getElem hlt]; rfl
      have : ∀ (is : List Nat), (∀ i ∈ is, (x.cps[i]?).isSome = true) → (is.filterMap (x.cps[·]?)).length = is.length := by
        intro is
        induction is with
        | nil => intro _; rfl
        | cons i r ih =>
          intro h
          have h1 := h i List.mem_cons_self
          obtain ⟨c, hc⟩ := Option.isSome_iff_exists.mp h1
          rw [List.filterMap_cons, hc]
          simp [ih fun j hj => h j (List.mem_cons_of_mem _ hj)]
      rw [this _ hall, hlen, hsz]
    have h' := h t s.toks
    rw [key] at h'
    exact h'
  · refine ⟨?_, ?_⟩
    · show (List.filterMap _ _).toArray.size ≤ sizeLine
      rw [e, List.size_toArray]; (exact Nat.le_trans ‹_› ‹_›)
    · rw [e]; exact h _ _

/-! the operators -/
noncomputable def addD : D → D → Option D
  | .int a, .int b => some (.int (a + b))
  | .str x, .str y => if x.length + y.length ≤ lim then some (.str (x ++ y)) else none
  | .list xs, .list ys => if xs.length + ys.length ≤ lim then some (.list (xs ++ ys)) else none
  | _, _ => none
noncomputable def subD : D → D → Option D
  | .int a, .int b => some (.int (a - b))
  | .bool p, .bool q => some (.int (b2i p - b2i q))
  | _, _ => none
noncomputable def mulD : D → D → Option D
  | .str x, .int n => if 0 ≤ n ∧ n ≤ lim ∧ x.length * n.toNat ≤ lim then some (.str (Txt.mul x n)) else none
  | .list xs, .int n => if 0 ≤ n ∧ n ≤ lim ∧ xs.length * n.toNat ≤ lim then some (.list (List.replicate n.toNat xs).flatten) else none
  | _, _ => none
noncomputable def intD (P : Int → Int → Bool) (f : Int → Int → Int) : D → D → Option D
  | .int a, .int b => if P a b = true then some (.int (f a b)) else none
  | _, _ => none
noncomputable def divOk (_ b : Int) : Bool := decide (0 < b ∧ b ≤ 1000000)
noncomputable def powOk (a n : Int) : Bool := decide (0 ≤ n ∧ n ≤ 64 ∧ 0 ≤ a ∧ a ≤ 64)
noncomputable def binD : Operator → D → D → Option D
  | .Add => addD
  | .Sub => subD
  | .Mult => mulD
  | .FloorDiv => intD divOk Int.fdiv
  | .Mod => intD divOk Int.fmod
  | .Pow => intD powOk fun a n => a ^ n.toNat
  | _ => fun _ _ => none
section
variable {a b : Int} {x y : Str} {xs ys : List D} {p q : Bool}
theorem bD_addI : binD .Add (.int a) (.int b) = some (.int (a + b)) := rfl
theorem bD_addS : binD .Add (.str x) (.str y) = if x.length + y.length ≤ lim then some (.str (x ++ y)) else none := rfl
theorem bD_addL : binD .Add (.list xs) (.list ys) = if xs.length + ys.length ≤ lim then some (.list (xs ++ ys)) else none := rfl
theorem bD_subI : binD .Sub (.int a) (.int b) = some (.int (a - b)) := rfl
theorem bD_subB : binD .Sub (.bool p) (.bool q) = some (.int (b2i p - b2i q)) := rfl
theorem bD_mulS : binD .Mult (.str x) (.int b) = if 0 ≤ b ∧ b ≤ lim ∧ x.length * b.toNat ≤ lim then some (.str (Txt.mul x b)) else none := rfl
theorem bD_mulL : binD .Mult (.list xs) (.int b) = if 0 ≤ b ∧ b ≤ lim ∧ xs.length * b.toNat ≤ lim then some (.list (List.replicate b.toNat xs).flatten) else none := rfl
theorem bD_div : binD .FloorDiv (.int a) (.int b) = if divOk a b = true then some (.int (a.fdiv b)) else none := rfl
theorem bD_mod : binD .Mod (.int a) (.int b) = if divOk a b = true then some (.int (a.fmod b)) else none := rfl
theorem bD_pow : binD .Pow (.int a) (.int b) = if powOk a b = true then some (.int (a ^ b.toNat)) else none := rfl
end
theorem bits_small (n : Nat) (h : n ≤ 64) : Builtin.Int.intBits (n : Int) ≤ 7 := by
  have : ∀ n : Nat, n ≤ 64 → Builtin.Int.intBits (n : Int) ≤ 7 := by
    intro n hn
    have hall : (List.range 65).all (fun n => decide (Builtin.Int.intBits ((n : Nat) : Int) ≤ 7)) = true := by decide +kernel
    exact of_decide_eq_true (List.all_eq_true.mp hall n (List.mem_range.mpr (by (exact Nat.lt_succ_of_le ‹_›))))
  exact this n h

theorem foldl_app (l : List (List Value)) : ∀ acc : Array Value, (l.map List.toArray).foldl (· ++ ·) acc = acc ++ l.flatten.toArray := by
  induction l with
  | nil => intro acc; simp
  | cons x r ih => intro acc; rw [List.map_cons, List.foldl_cons, ih]; simp

section
variable {prog : Program} {w : World} {A : Around} {s : Shared} {g : Heap}
theorem ev_add_str {x y : Str} {t u : Tok} (hz : x.length + y.length ≤ lim) (l : Sub g s.heap) : Ev (model prog w) A (binaryOp .Add (.str x t) (.str y u)) g s (.str (x ++ y)) :=
  .str (fun _ _ k => PyProof.Rows.add_str (fun t' k' => k t' k') (lim_le hz)) l
theorem ev_add_list {a b : Addr} {xs ys : List D} (hz : xs.length + ys.length ≤ lim) (l : Sub g s.heap) (ha : Den g (.ref a) (.list xs)) (hb : Den g (.ref b) (.list ys)) :
    Ev (model prog w) A (binaryOp .Add (.ref a) (.ref b)) g s (.list (xs ++ ys)) := by
  cases ha with
  | list a1 a2 =>
    cases hb with
    | list b1 b2 =>
      rw [← a2.length, ← b2.length] at hz
      intro Q E k
      obtain ⟨g', e, hg⟩ := Ext.push l (lObj (_ ++ _) 0) s.toks
      exact P.add_list (l _ _ a1) (l _ _ b1) (by
        have := k _ g' _ e (.list hg ((a2.append b2).sub e.sub))
        simpa using this) (by simpa using lim_le hz)
theorem ev_mul_str {x : Str} {n : Int} {t u : Tok} (h1 : 0 ≤ n) (h2 : n ≤ lim) (h3 : x.length * n.toNat ≤ lim) (l : Sub g s.heap) : Ev (model prog w) A (binaryOp .Mult (.str x t) (.int n u)) g s (.str (Txt.mul x n)) := by
  have hlim : lim = 65536 := rfl
  refine .str (fun Q E k => SB.mul ⟨by simp; lia, fun hn hne => ?_, fun _ _ => ?_⟩ (fun t' k' => k t' k')) l
  · have hn1 : 1 ≤ n.toNat := by (clear h1 h2 h3 hlim hne; omega)
    have hx : x.length ≤ x.length * n.toNat := Nat.le_mul_of_pos_right _ hn1
    have hq : (65536 : Int) ≤ (2 ^ 63 - 1) / n := by
      apply Int.le_ediv_of_mul_le (by (exact Int.not_lt.mp ‹_›))
      lia
    lia
  · exact decide_eq_false (by show ¬ x.length * n.toNat > 2 ^ 24; lia)
theorem ev_mul_list {a : Addr} {xs : List D} {n : Int} {u : Tok} (h1 : 0 ≤ n) (h2 : n ≤ lim) (h3 : xs.length * n.toNat ≤ lim) (l : Sub g s.heap) (ha : Den g (.ref a) (.list xs)) :
    Ev (model prog w) A (binaryOp .Mult (.ref a) (.int n u)) g s (.list (List.replicate n.toNat xs).flatten) := by
  have hlim : lim = 65536 := rfl
  cases ha with
  | @list _ vs _ k a1 a2 =>
    rw [← a2.length] at h3
    intro Q E q
    obtain ⟨g', e, hg⟩ := Ext.push l (lObj (List.replicate n.toNat vs).flatten 0) s.toks
    have hl := l _ _ a1
    have hq := q _ g' _ e (.list hg ((a2.flatRep n.toNat).sub e.sub))
    have hfl : List.foldl (fun x1 x2 => x1 ++ x2) #[] (List.replicate (if vs.toArray.isEmpty = true then 0 else n.toNat) vs.toArray) = (List.replicate n.toNat vs).flatten.toArray := by
      have e2 : List.replicate (if vs.toArray.isEmpty = true then 0 else n.toNat) vs.toArray = (List.replicate (if vs.toArray.isEmpty = true then 0 else n.toNat) vs).map List.toArray := by simp
      rw [e2, foldl_app]
      by_cases hv : vs = []
      · subst hv; simp
      · have : ¬ (vs.toArray.isEmpty = true) := by simpa using hv
        rw [if_neg this]; simp
    unfold lObj at hq
    rw [← hfl] at hq
    exact wpAny_binaryOp_repeat_ref (T := "list") (U := "int") (by decide) ⟨_, hl, rfl⟩ (fun s' => typeIs_int s' n u) noFill_list_mul F.fills_int_mul F.slot_int_rmul repeat_list F.slot_int_index.lookup
      (call_meets F.slot_int_rmul (typeIs_int s n u) F.entry_int_rmul (F.args_int_rmul_2 _ _) (int___rmul___int_list n u a vs.toArray k)
        ⟨hl, rfl, ⟨_, hl, rfl⟩, call_meets F.slot_list_mul ⟨_, hl, rfl⟩ F.entry_list_mul (F.args_list_mul_2 _ _)
          (AutoListH.list___mul___list_int_3 a vs.toArray k n u (by simp [Builtin.List.listFitsIndex]; lia) (by rw [List.size_toArray]; lia) (by simp [Builtin.List.listTooLong, sizeLine]; lia))
          ⟨hl, hq⟩⟩)
theorem ev_pow {a n : Int} {t u : Tok} (h1 : 0 ≤ n) (h2 : n ≤ 64) (h3 : 0 ≤ a) (h4 : a ≤ 64) (l : Sub g s.heap) : Ev (model prog w) A (binaryOp .Pow (.int a t) (.int n u)) g s (.int (a ^ n.toNat)) := by
  refine .int (fun Q E k => PyProof.Rows.pow_int h1 ?_ (k _ _)) l
  have h := bits_small a.toNat (by lia)
  rw [Int.toNat_of_nonneg h3] at h
  have h7 : ((Builtin.Int.intBits a : Nat) : Int) ≤ 7 := by (exact Int.ofNat_le.mpr ‹_›)
  have : ((Builtin.Int.intBits a : Nat) : Int) * n ≤ 7 * 64 := Int.mul_le_mul h7 h2 h1 (by (exact Int.ofNat_nonneg _))
  lia
theorem addD_ok {x y d : D} {v u : Value} (h : addD x y = some d) (l : Sub g s.heap) (a : Den g v x) (b : Den g u y) : Ev (model prog w) A (binaryOp .Add v u) g s d := by
  cases x with
  | int i =>
    induction y using Mine.D.casesOn with
    | int j =>
      obtain ⟨t, rfl⟩ := a.inv; obtain ⟨t', rfl⟩ := b.inv
      obtain rfl := Option.some.inj h
      exact .int (fun Q E k => P.add_int (k _ _)) l
    | _ => exact nomatch (show none = some d from h)
  | str x =>
    induction y using Mine.D.casesOn with
    | str y =>
      obtain ⟨t, rfl⟩ := a.inv; obtain ⟨t', rfl⟩ := b.inv
      obtain ⟨hz, rfl⟩ := ite_some (bD_addS.symm.trans h)
      exact ev_add_str hz l
    | _ => exact nomatch (show none = some d from h)
  | list xs =>
    cases y with
    | list ys =>
      obtain ⟨_, _, _, rfl, _⟩ := id a.inv; obtain ⟨_, _, _, rfl, _⟩ := id b.inv
      obtain ⟨hz, rfl⟩ := ite_some (bD_addL.symm.trans h)
      exact ev_add_list hz l a b
    | _ => exact nomatch (show none = some d from h)
  | _ => exact nomatch (show none = some d from h)
theorem subD_ok {x y d : D} {v u : Value} (h : subD x y = some d) (l : Sub g s.heap) (a : Den g v x) (b : Den g u y) : Ev (model prog w) A (binaryOp .Sub v u) g s d := by
  induction x using Mine.D.casesOn with
  | int i =>
    induction y using Mine.D.casesOn with
    | int j =>
      obtain ⟨t, rfl⟩ := a.inv; obtain ⟨t', rfl⟩ := b.inv
      obtain rfl := Option.some.inj h
      exact .int (fun Q E k => P.sub_int (k _ _)) l
    | _ => exact nomatch (show none = some d from h)
  | bool i =>
    induction y using Mine.D.casesOn with
    | bool j =>
      obtain rfl := a.inv; obtain rfl := b.inv
      obtain rfl := Option.some.inj h
      exact .int (fun Q E k => PyProof.Rows.sub_bool (k _ _)) l
    | _ => exact nomatch (show none = some d from h)
  | _ => exact nomatch (show none = some d from h)
theorem mulD_ok {x y d : D} {v u : Value} (h : mulD x y = some d) (l : Sub g s.heap) (a : Den g v x) (b : Den g u y) : Ev (model prog w) A (binaryOp .Mult v u) g s d := by
  cases x with
  | str i =>
    induction y using Mine.D.casesOn with
    | int j =>
      obtain ⟨t, rfl⟩ := a.inv; obtain ⟨t', rfl⟩ := b.inv
      obtain ⟨hz, rfl⟩ := ite_some (bD_mulS.symm.trans h)
      exact ev_mul_str hz.1 hz.2.1 hz.2.2 l
    | _ => exact nomatch (show none = some d from h)
  | list i =>
    cases y with
    | int j =>
      obtain ⟨_, _, _, rfl, _⟩ := id a.inv; obtain ⟨t', rfl⟩ := b.inv
      obtain ⟨hz, rfl⟩ := ite_some (bD_mulL.symm.trans h)
      exact ev_mul_list hz.1 hz.2.1 hz.2.2 l a
    | _ => exact nomatch (show none = some d from h)
  | _ => exact nomatch (show none = some d from h)
theorem intD_some {P : Int → Int → Bool} {f : Int → Int → Int} {x y d : D} {v u : Value} (h : intD P f x y = some d) (a : Den g v x) (b : Den g u y) : ∃ i j t t', v = .int i t ∧ u = .int j t' ∧ P i j = true ∧ D.int (f i j) = d := by
  induction x using Mine.D.casesOn with
  | int i =>
    induction y using Mine.D.casesOn with
    | int j =>
      obtain ⟨t, rfl⟩ := a.inv; obtain ⟨t', rfl⟩ := b.inv
      obtain ⟨hz, rfl⟩ := ite_some (show (if P i j = true then some (D.int (f i j)) else none) = some d from h)
      exact ⟨_, _, _, _, rfl, rfl, hz, rfl⟩
    | _ => exact nomatch (show none = some d from h)
  | _ => exact nomatch (show none = some d from h)
theorem binD_ok {op : Operator} {x y d : D} {v u : Value} (h : binD op x y = some d) (l : Sub g s.heap) (a : Den g v x) (b : Den g u y) : Ev (model prog w) A (binaryOp op v u) g s d := by
  induction op using PySem.Operator.casesOn with
  | Add => exact addD_ok h l a b
  | Sub => exact subD_ok h l a b
  | Mult => exact mulD_ok h l a b
  | FloorDiv =>
    obtain ⟨i, j, t, t', rfl, rfl, hz, rfl⟩ := intD_some h a b
    have hz := of_decide_eq_true hz
    exact .int (fun Q E k => PyProof.Rows.floordiv_int (Int.ne_of_gt hz.1) (k _ _) (.inl (PyProof.noPylong_small (by clear a b; omega)))) l
  | Mod =>
    obtain ⟨i, j, t, t', rfl, rfl, hz, rfl⟩ := intD_some h a b
    have hz := of_decide_eq_true hz
    exact .int (fun Q E k => PyProof.Rows.mod_int (Int.ne_of_gt hz.1) (k _ _)) l
  | Pow =>
    obtain ⟨i, j, t, t', rfl, rfl, hz, rfl⟩ := intD_some h a b
    have hz := of_decide_eq_true hz
    exact ev_pow hz.1 hz.2.1 hz.2.2.1 hz.2.2.2 l
  | _ => exact nomatch (show none = some d from h)
end
end Mine
end

/-! part Me -/
section
open PySem PySem.W PyProof.Rows PySem.Calls
set_option maxHeartbeats 1000000
set_option tactic.hygienic false
namespace Mine

noncomputable def isNoneD : D → Bool
  | .none => true
  | _ => false
noncomputable def isD (x : D) : D → Option Bool
  | .none => some (isNoneD x)
  | .typ b => match x with
    | .typ a => some (a == b)
    | _ => none
  | .glob b => match x with
    | .glob a => if a = b then some true else none
    | _ => none
  | _ => none
noncomputable def leD : D → D → Option Bool
  | .int a, y => match y with
    | .int b => some (decide (a ≤ b))
    | _ => none
  | _, _ => none
noncomputable def inD (x : D) : D → Option Bool
  | .list ds => if okD 8 (.list ds) && okD 8 x then some (ds.any fun d => eqvD d x) else none
  | _ => none
noncomputable def ccD (op : CmpOp) (x y : D) : Option Bool := match op with
  | .Eq => if okD 8 x && okD 8 y then some (eqvD x y) else none
  | .NotEq => if okD 8 x && okD 8 y then some (!eqvD x y) else none
  | .Lt => cmpD .lt 8 x y
  | .Gt => cmpD .gt 8 x y
  | .LtE => leD x y
  | .GtE => leD y x
  | .Is => isD x y
  | .IsNot => (isD x y).map (!·)
  | .In => inD x y
  | .NotIn => (inD x y).map (!·)
noncomputable def truD : D → Option Bool
  | .bool b => some b
  | .none => some false
  | .int i => some (i != 0)
  | .str x => if x.length ≤ lim then some ((x.length : Int) != 0) else none
  | .list ds => if ds.length ≤ lim then some (!ds.isEmpty) else none
  | _ => none
noncomputable def lenD : D → Option D
  | .str x => if x.length ≤ lim then some (.int x.length) else none
  | .list ds => if ds.length ≤ lim then some (.int ds.length) else none
  | _ => none
noncomputable def pyIdx (i : Int) (n : Nat) : Option Nat := if 0 ≤ i ∧ i < n then some i.toNat else if i < 0 ∧ -(n : Int) ≤ i then some (i + n).toNat else none
noncomputable def idxL (ds : List D) (i : Int) : Option D := if ds.length ≤ lim then (pyIdx i ds.length).bind (ds[·]?) else none
noncomputable def idxI (i : Int) : D → Option D
  | .list ds => idxL ds i
  | .tup ds => idxL ds i
  | .str x => if x.length ≤ lim then (pyIdx i x.length).bind fun j => (x.cps[j]?).map fun c => .str ⟨#[c]⟩ else none
  | _ => none
noncomputable def idxD (x : D) : D → Option D
  | .int i => idxI i x
  | _ => none
noncomputable def partD : D → Option (Option Int)
  | .none => some none
  | .int i => some (some i)
  | _ => none
noncomputable def slD (o lo hi : D) : Option D := (partD lo).bind fun a => (partD hi).bind fun b => match o with
  | .str x => if x.length ≤ lim then some (.str (strOf (pySl x.cps.toList a b))) else none
  | .list ds => if ds.length ≤ lim then some (.list (pySl ds a b)) else none
  | _ => none

theorem DenL.pySl {g : Heap} {vs : List Value} {ds : List D} (h : DenL g vs ds) (a b : Option Int) : DenL g (Mine.pySl vs a b) (Mine.pySl ds a b) := by
  unfold Mine.pySl
  rw [h.length]
  exact (h.drop _).take _

section
variable {prog : Program} {w : World} {A : Around} {s : Shared} {g : Heap} {x y d : D} {v u : Value}
theorem isD_ok {op : CmpOp} {b : Bool} (hop : op = .Is ∨ op = .IsNot) (h : isD x y = some b) (a : Den g v x) (c : Den g u y) (Q : Value → Shared → Prop) (E : Value → Shared → Prop)
    (k : Q (.bool (if op = .Is then b else !b)) s) : wpAny (model prog w) A (compareOp op v u) Q E s := by
  revert h
  induction c using Den.casesOn with
  | none =>
    intro h
    obtain rfl := so h
    have e : (v == Value.none) = isNoneD x := by induction a using Mine.Den.casesOn <;> rfl
    rcases hop with rfl | rfl
    · exact is_none_gen (by rw [e]; exact k)
    · exact isnot_none_gen (by rw [e]; exact k)
  | typ b =>
    induction a using Den.casesOn with
    | typ a =>
      intro h
      obtain rfl := so h
      have e : (Value.type a == Value.type b) = (a == b) := by
        by_cases h : a = b
        · rw [h, beq_self_eq_true, beq_self_eq_true]
        · rw [beq_eq_false_iff_ne.mpr (fun q : Value.type a = Value.type b => h (by injection q)), beq_eq_false_iff_ne.mpr h]
      rcases hop with rfl | rfl
      · exact wpAny_is_plain rfl (by rw [e]; exact k)
      · exact wpAny_isNot_plain rfl (by rw [e]; exact k)
    | _ => exact fun h => ns h
  | glob b =>
    induction a using Den.casesOn with
    | glob a =>
      intro h
      obtain ⟨rfl, rfl⟩ := ite_some (c := a = b) h
      rcases hop with rfl | rfl
      · exact wpAny_is_ref_self k
      · exact wpAny_isNot_ref_self k
    | _ => exact fun h => ns h
  | _ => exact fun h => ns h

theorem leD_inv {b : Bool} (h : leD x y = some b) (a : Den g v x) (c : Den g u y) : ∃ m n t t', v = .int m t ∧ u = .int n t' ∧ b = decide (m ≤ n) := by
  revert h
  induction a using Den.casesOn with
  | int m t =>
    induction c using Den.casesOn with
    | int n t' => exact fun h => ⟨m, n, t, t', rfl, rfl, (so h).symm⟩
    | _ => exact fun h => ns h
  | _ => exact fun h => ns h
theorem inD_inv {b : Bool} (h : inD x y = some b) : ∃ ds, y = .list ds ∧ okD 8 (.list ds) = true ∧ okD 8 x = true ∧ b = ds.any fun d => eqvD d x := by
  revert h
  induction y using Mine.D.casesOn with
  | list ds =>
    intro h
    obtain ⟨h1, h2⟩ := ite_get (c := (okD 8 (.list ds) && okD 8 x) = true) h
    rw [Bool.and_eq_true] at h1
    exact ⟨ds, rfl, h1.1, h1.2, (so h2).symm⟩
  | _ => exact fun h => ns h
theorem ite_and {p q : Bool} {e b : Bool} (h : (if p && q then some e else none) = some b) : p = true ∧ q = true ∧ e = b := by
  obtain ⟨h1, h2⟩ := ite_some h
  rw [Bool.and_eq_true] at h1
  exact ⟨h1.1, h1.2, h2⟩
theorem ccD_ok {op : CmpOp} {b : Bool} (hA : Rm A 3) (h : ccD op x y = some b) (l : Sub g s.heap) (a : Den g v x) (c : Den g u y) (Q : Value → Shared → Prop) (E : Value → Shared → Prop) (k : Q (.bool b) s) :
    wpAny (model prog w) A (compareOp op v u) Q E s := by
  have hu : ∀ n ≤ 24, A.units + n < cLine := fun n h => Nat.lt_of_le_of_lt (Nat.add_le_add_left h _) hA.units
  induction op using PySem.CmpOp.casesOn with
  | Eq => obtain ⟨h1, h2, rfl⟩ := ite_and (p := okD 8 x) h; exact eq_den l a c h1 h2 (hu 8 (by decide)) k
  | NotEq => obtain ⟨h1, h2, rfl⟩ := ite_and (p := okD 8 x) h; exact ne_den l a c h1 h2 (hu 8 (by decide)) k
  | Lt => exact cmpAt_den (o := .lt) 8 A s _ _ _ _ _ l a c h (hu 16 (by decide)) prog w E Q k
  | Gt => exact cmpAt_den (o := .gt) 8 A s _ _ _ _ _ l a c h (hu 16 (by decide)) prog w E Q k
  | LtE => obtain ⟨_, _, _, _, rfl, rfl, rfl⟩ := leD_inv h a c; exact P.le_int k
  | GtE => obtain ⟨_, _, _, _, rfl, rfl, rfl⟩ := leD_inv h c a; exact P.ge_int k
  | Is => exact isD_ok (.inl rfl) h a c Q E k
  | IsNot => obtain ⟨b', h1, rfl⟩ := map_some h; exact isD_ok (.inr rfl) h1 a c Q E k
  | In => obtain ⟨ds, rfl, h1, h2, rfl⟩ := inD_inv h; exact in_den l c a h1 h2 (hu 9 (by decide)) k
  | NotIn => obtain ⟨b', h0, rfl⟩ := map_some h; obtain ⟨ds, rfl, h1, h2, rfl⟩ := inD_inv h0; exact notIn_den l c a h1 h2 (hu 9 (by decide)) k

theorem list_len {vs : List Value} {ds : List D} {n : Nat} (a : DenL g vs ds) (h : ds.length ≤ lim) : (vs.toArray.size : Int) < 2 ^ 63 := by
  rw [List.size_toArray, a.length]; exact Int.lt_of_le_of_lt (Int.ofNat_le.mpr h) (by decide)
theorem truD_ok {b : Bool} (h : truD x = some b) (l : Sub g s.heap) (a : Den g v x) : EvB (model prog w) A (truthy v) g s b := by
  intro Q E k
  revert h
  induction a using Den.casesOn with
  | bool b => intro h; obtain rfl := so h; exact wpAny_truthy_bool (k g s (.refl l))
  | none => intro h; obtain rfl := so h; exact PyProof.Rows.truthy_none (k g s (.refl l))
  | int i t => intro h; obtain rfl := so h; exact P.truthy_int (k g s (.refl l))
  | str x t =>
    intro h
    obtain ⟨h1, h⟩ := ite_get (c := x.length ≤ lim) h
    obtain rfl := so h
    exact P.truthy_str (lim_lt h1) (k g _ (.toks l _))
  | @list _ vs ds n a1 a2 =>
    intro h
    obtain ⟨h1, h⟩ := ite_get (c := ds.length ≤ lim) h
    obtain rfl := so h
    have e : (!vs.toArray.isEmpty) = !ds.isEmpty := by induction a2 using Mine.DenL.casesOn <;> rfl
    exact wpAny_truthy_list (isList_of (l _ _ a1)) (list_len (n := n) a2 h1) (by rw [e]; exact k g _ (.toks l _))
  | _ => exact fun h => ns h

theorem lenD_ok (h : lenD x = some d) (l : Sub g s.heap) (a : Den g v x) : Ev (model prog w) A (call (.builtin "len") [v]) g s d := by
  intro Q E k
  revert h
  induction a using Den.casesOn with
  | str x t =>
    intro h
    obtain ⟨h1, h⟩ := ite_get (c := x.length ≤ lim) h
    obtain rfl := so h
    exact P.len_str (lim_lt h1) (k _ g _ (.toks l _) (.int _ _))
  | @list _ vs ds n a1 a2 =>
    intro h
    obtain ⟨h1, h⟩ := ite_get (c := ds.length ≤ lim) h
    obtain rfl := so h
    have e : ((vs.toArray.size : Nat) : Int) = ds.length := by rw [List.size_toArray, a2.length]
    exact Calls.call_len_list (isList_of (l _ _ a1)) (list_len (n := n) a2 h1) (by rw [e]; exact k _ g _ (.toks l _) (.int _ _))
  | _ => exact fun h => ns h

theorem pyIdx_lt {i : Int} {n j : Nat} (h : pyIdx i n = some j) : j < n ∧ ((0 ≤ i ∧ j = i.toNat) ∨ (i < 0 ∧ -(n : Int) ≤ i ∧ j = (i + n).toNat)) := by
  unfold pyIdx at h
  split at h
  · obtain rfl := so h; lia
  · split at h
    · obtain rfl := so h; omega
    · exact ns h

theorem pyIdx_fit {i : Int} {n j : Nat} (h : pyIdx i n = some j) (hz : n ≤ lim) : -(2 ^ 63) ≤ i ∧ i < 2 ^ 63 := by
  have hlim : lim = 65536 := rfl
  have := pyIdx_lt h
  lia
theorem seqIndex_of {i : Int} {n j : Nat} (h : pyIdx i n = some j) : seqIndex? i n = some j := by
  obtain ⟨hj, hcase⟩ := pyIdx_lt h
  unfold seqIndex?
  rcases hcase with ⟨h0, rfl⟩ | ⟨h0, h1, rfl⟩
  · have e : (if i < 0 then i + (n : Int) else i) = i := if_neg (by lia)
    simp only [e]
    rw [if_pos (by simp; lia)]
  · have e : (if i < 0 then i + (n : Int) else i) = i + n := if_pos h0
    simp only [e]
    rw [if_pos (by simp; lia)]
theorem idxI_ok {i : Int} {t : Tok} (h : idxI i x = some d) (l : Sub g s.heap) (a : Den g v x) : Ev (model prog w) A (getItem v (.int i t)) g s d := by
  intro Q E k
  revert h
  induction a using Den.casesOn with
  | @list _ vs ds n a1 a2 =>
    intro h
    obtain ⟨hz, h⟩ := ite_get (c := ds.length ≤ lim) h
    obtain ⟨j, hi, h⟩ := bind_some h
    obtain ⟨z, hz', hd⟩ := a2.get (k := j) h
    have hk := k z g s (.refl l) hd
    have e : vs.toArray.size = ds.length := (List.size_toArray ..).trans a2.length
    have hz' : vs.toArray[j]? = some z := (List.getElem?_toArray ..).trans hz'
    rcases (pyIdx_lt hi).2 with ⟨h0, rfl⟩ | ⟨h0, h1, rfl⟩
    · exact wpAny_getItem_list (isList_of (l _ _ a1)) h0 (pyIdx_fit hi hz).2 hz' hk
    · exact wpAny_getItem_list_neg (isList_of (l _ _ a1)) h0 (by rw [e]; exact h1) (pyIdx_fit hi hz).1 (by rw [e]; exact hz') hk
  | @tup _ vs ds n a1 a2 =>
    intro h
    obtain ⟨hz, h⟩ := ite_get (c := ds.length ≤ lim) h
    obtain ⟨j, hi, h⟩ := bind_some h
    obtain ⟨z, hz', hd⟩ := a2.get (k := j) h
    have e : vs.toArray.size = ds.length := (List.size_toArray ..).trans a2.length
    have hz'' : vs.toArray[j]? = some z := (List.getElem?_toArray ..).trans hz'
    refine PyProof.Rows.getItem_tuple (isTup_of (l _ _ a1)) (pyIdx_fit hi hz).1 (pyIdx_fit hi hz).2 (j := j) ?_ hz'' (k z g s (.refl l) hd)
    rw [e]
    exact seqIndex_of hi
  | str x t =>
    intro h
    obtain ⟨hz, h⟩ := ite_get (c := x.length ≤ lim) h
    obtain ⟨j, hi, h⟩ := bind_some h
    obtain ⟨c, hc, rfl⟩ := map_some h
    have hr : (decide (i < -(2 ^ 63 : Int)) || decide (i ≥ 2 ^ 63)) = false := by
      rw [decide_eq_false (Int.not_lt.mpr (pyIdx_fit hi hz).1), decide_eq_false (Int.not_le.mpr (pyIdx_fit hi hz).2)]; rfl
    exact PySem.P.getItem_str (c := c) hr (by rw [seqIndex_of hi]; exact hc) (k _ g _ (.toks l _) (.str _ _))
  | _ => exact fun h => ns h
theorem idxD_ok (h : idxD x y = some d) (l : Sub g s.heap) (a : Den g v x) (c : Den g u y) : Ev (model prog w) A (getItem v u) g s d := by
  revert h
  induction c using Den.casesOn with
  | int i t => exact fun h => idxI_ok h l a
  | _ => exact fun h => ns h

theorem isPart_of {lo : D} {p : Option Int} (h : partD lo = some p) (a : Den g v lo) : IsPart v p ∧ ∃ q : Option (Int × Tok), v = partValue q ∧ q.map (·.1) = p := by
  revert h
  induction a using Den.casesOn with
  | none => intro h; obtain rfl := so h; exact ⟨.none, none, rfl, rfl⟩
  | int i t => intro h; obtain rfl := so h; exact ⟨.int _ _, some (_, _), rfl, rfl⟩
  | _ => exact fun h => ns h

theorem slD_ok {lo hi : D} {vl vu : Value} {sl : Addr} (h : slD x lo hi = some d) (l : Sub g s.heap) (a : Den g v x) (b : Den g vl lo) (c : Den g vu hi) (hs : s.heap.IsSliceOf sl vl vu .none) :
    Ev (model prog w) A (getItem v (.ref sl)) g s d := by
  obtain ⟨p1, h1, h⟩ := bind_some h
  obtain ⟨p2, h2, h⟩ := bind_some h
  obtain ⟨i1, q1, rfl, rfl⟩ := isPart_of h1 b
  obtain ⟨i2, q2, rfl, rfl⟩ := isPart_of h2 c
  clear h1 h2 b c
  revert h
  induction a using Den.casesOn with
  | str x t =>
    intro h
    obtain ⟨hz, rfl⟩ := ite_some (c := x.length ≤ lim) h
    obtain ⟨o, e1, e2, e3⟩ := hs
    exact .str (fun Q E k => wpAny_getItem_str_slice (l := q1) (u := q2) (st := none) ⟨o, e1, e2, e3⟩ rfl (sliceMade_eq _ _ q1 q2 (lim_le hz) fun t' k' => k t' k')) l
  | @list _ vs ds n a1 a2 =>
    intro h
    obtain ⟨hz, rfl⟩ := ite_some (c := ds.length ≤ lim) h
    intro Q E k
    obtain ⟨g', e, hg⟩ := Ext.push l (lObj (pySl vs (q1.map (·.1)) (q2.map (·.1))) 0) s.toks
    refine wpAny_getItem_list_slice (isList_of (l _ _ a1)) hs i1 i2 .none nofun ?_ (by rw [List.size_toArray, a2.length]; exact lim_le hz)
    rw [slicePick_eq]
    exact k _ g' _ e (.list hg ((a2.pySl _ _).sub e.sub))
  | _ => exact fun h => ns h
end
end Mine
end

/-! part Mf -/
section
open PySem PySem.W PyProof.Rows PySem.Calls
set_option maxHeartbeats 1000000
set_option tactic.hygienic false
namespace Mine

abbrev Vars := Str → Option D
structure Cx where
  call : Addr → List D → Option D
  gl : Str → Option Value
  sort : List D → Option (List D)

noncomputable def constD (c : Const) : Option D := match c with
  | .none => some .none
  | .bool b => some (.bool b)
  | .int i => some (.int i)
  | .str x => some (.str x)
  | _ => none
noncomputable def valD (v : Value) : Option D := match v with
  | .ref a => some (.glob a)
  | .type n => some (.typ n)
  | .builtin n => some (.bi n)
  | .int i _ => some (.int i)
  | _ => none
noncomputable def kindD (cx : Cx) (x : Str) (σ : Vars) (o : Option NameKind) : Option D := match o with
  | none => none
  | some k => match k with
    | .local => σ x
    | .cell => σ x
    | .globalImplicit => (cx.gl x).bind valD
    | _ => none
noncomputable def nameD (cx : Cx) (x : Str) (sc : Scope) (σ : Vars) : Option D :=
  if (x == ("__debug__" : Str)) = true then none else kindD cx x σ (sc.names.lookup x)
noncomputable def negD : D → Option D
  | .int i => some (.int (-i))
  | _ => none
noncomputable def unD (op : UnaryOp) (x : D) : Option D := match op with
  | .Not => (truD x).map fun b => .bool (!b)
  | .USub => negD x
  | _ => none
noncomputable def sumD : List D → Int → Option Int
  | [], n => some n
  | x :: r, n => match x with
    | .int i => sumD r (n + i)
    | _ => none
noncomputable def isiD (x : D) (n : String) : Option Bool := match x with
  | .str _ => if n = "str" then some true else if n = "bytes" then some false else none
  | _ => none
noncomputable def issU (n a b : String) : Option Bool := if a = "str" ∧ b = "bytes" then (if n = "str" then some true else none) else none
noncomputable def typ1 {α : Type} (f : String → Option α) : D → Option α
  | .typ a => f a
  | _ => none
noncomputable def one {β α : Type} (f : β → Option α) : List β → Option α
  | [] => none
  | x :: r => match r with
    | [] => f x
    | _ :: _ => none
noncomputable def two {β α : Type} (f : β → β → Option α) : List β → Option α
  | [] => none
  | x :: r => one (f x) r
noncomputable def isSubD (n : String) (ds : List D) : Option Bool := two (fun x y => typ1 (fun a => typ1 (issU n a) y) x) ds
noncomputable def typeD : D → Option D
  | .str _ => some (.typ "str")
  | .bytes _ => some (.typ "bytes")
  | .int _ => some (.typ "int")
  | _ => none
noncomputable def octets : List D → Option (List UInt8)
  | [] => some []
  | x :: r => match x with
    | .int i => if 0 ≤ i ∧ i < 256 then (octets r).map (i.toNat.toUInt8 :: ·) else none
    | _ => none
noncomputable def list1 {α : Type} (f : List D → Option α) : D → Option α
  | .list xs => f xs
  | _ => none
noncomputable def issD (t ts : D) : Option D := typ1 (fun t => match ts with
  | .tup ts => (isSubD t ts).map .bool
  | _ => none) t
noncomputable def rangeD : D → Option D
  | .int i => if 0 ≤ i ∧ i ≤ lim then some (.rng i.toNat) else none
  | _ => none
noncomputable def biD (cx : Cx) (n : String) (ds : List D) : Option D :=
  if n = "len" then one lenD ds
  else if n = "sum" then one (list1 fun xs => if xs.length ≤ lim then (sumD xs 0).map .int else none) ds
  else if n = "sorted" then one (list1 fun xs => (cx.sort xs).map .list) ds
  else if n = "isinstance" then two (fun x t => typ1 (fun t => (isiD x t).map .bool) t) ds
  else if n = "issubclass" then two issD ds
  else none
noncomputable def tyD (n : String) (ds : List D) : Option D :=
  if n = "range" then one rangeD ds
  else if n = "type" then one typeD ds
  else if n = "bytes" then one (list1 fun xs => if xs.length ≤ 16 then (octets xs).map fun l => .bytes l.toArray else none) ds
  else none
noncomputable def callD (cx : Cx) (f : D) (ds : List D) : Option D := match f with
  | .glob a => cx.call a ds
  | .bi n => biD cx n ds
  | .typ n => tyD n ds
  | _ => none
noncomputable def strsD : List D → Option (List Str)
  | [] => some []
  | x :: r => match x with
    | .str x => (strsD r).map (x :: ·)
    | _ => none
/-- the four rows of octets, and what is made of them: lower hex, upper hex -/
noncomputable def hexTab : List (List UInt8 × String × String) := [([0], "00", "00"), ([0, 0], "0000", "0000"), ([0, 15], "000f", "000F"), ([240], "f0", "F0")]
noncomputable def ascii (x : String) : Array UInt8 := x.toUTF8.data
noncomputable def met0 (m : Str) : D → Option D
  | .bytes b =>
    if m = ("hex" : Str) then (hexTab.find? fun r => r.1.toArray == b).map fun r => .str (Str.ofString r.2.1)
    else if m = ("upper" : Str) then (hexTab.find? fun r => ascii r.2.1 == b).map fun r => .bytes (ascii r.2.2)
    else none
  | _ => none
noncomputable def strM (m : Str) (x y : Str) : Option D :=
  if m = ("startswith" : Str) then some (.bool (Txt.startswith x y))
  else if m = ("endswith" : Str) then some (.bool (Txt.endswith x y))
  else if m = ("rfind" : Str) then some (.int (Txt.rfind x y))
  else if m = ("rstrip" : Str) then some (.str (Txt.rstripChars x y))
  else if m = ("split" : Str) then (if y.length ≠ 0 ∧ (Txt.split x y).length ≤ lim ∧ (Builtin.Str.partsBetween x (Builtin.Str.occurrences x y 0 x.length (x.length + 1)) y.length).length ≤ lim then some (.list ((Txt.split x y).map .str)) else none)
  else if m = ("encode" : Str) then (if y = ("ascii" : Str) then (hexTab.find? fun r => Str.ofString r.2.1 == x).map fun r => .bytes (ascii r.2.1) else none)
  else none
noncomputable def strJ (m x : Str) (ds : List D) : Option D :=
  if m = ("join" : Str) then (strsD ds).bind fun ys => if JoinOk x ys = true then some (.str (Txt.join x ys)) else none else none
noncomputable def bytM (m : Str) (b : Array UInt8) (y : Str) : Option D :=
  if m = ("decode" : Str) then (if y = ("ascii" : Str) then (hexTab.find? fun r => ascii r.2.2 == b).map fun r => .str (Str.ofString r.2.2) else none) else none
noncomputable def met1 (m : Str) (x y : D) : Option D := match x with
  | .str x => match y with
    | .str y => if x.length ≤ lim then strM m x y else none
    | .list ds => strJ m x ds
    | _ => none
  | .bytes b => match y with
    | .str y => bytM m b y
    | _ => none
  | _ => none
noncomputable def nameP (e : Expr) : Option (Str × Pos) := by
  induction e using Expr.casesOn with
  | Name x p => exact some (x, p)
  | _ => exact none
noncomputable def tupV (e : Expr) : Option (List Expr) := by
  induction e using Expr.casesOn with
  | Tuple es k p => exact some es
  | _ => exact none
noncomputable def attrV (e : Expr) : Option (Expr × Str × Pos) := by
  induction e using Expr.casesOn with
  | Attribute o m ap => exact some (o, m, ap)
  | _ => exact none
noncomputable def tup1 {α : Type} (f : List D → Option α) : D → Option α
  | .tup ds => f ds
  | _ => none
noncomputable def str1 {α : Type} (f : Str → Option α) : D → Option α
  | .str x => f x
  | _ => none
theorem str1_str {α : Type} {f : Str → Option α} {x : Str} : str1 f (.str x) = f x := rfl
theorem one_one {β α : Type} {f : β → Option α} {x : β} : one f [x] = f x := rfl
noncomputable def itemsD : D → Option (List D)
  | .list ds => if ds.length ≤ lim then some ds else none
  | .tup ds => if ds.length ≤ lim then some ds else none
  | .rng n => if n ≤ lim then some ((List.range n).map fun (k : Nat) => D.int (k : Int)) else none
  | _ => none
noncomputable def isSet (e : Expr) : Bool := e.ctorIdx.beq 7
noncomputable def bareCall (e : Expr) : Bool := by
  induction e using Expr.casesOn with
  | Call f args kws p => exact f.ctorIdx.beq 23 && args.isEmpty && kws.isEmpty
  | _ => exact false
noncomputable def isAttr (e : Expr) : Bool := e.ctorIdx.beq 20
noncomputable def isSlice (e : Expr) : Bool := e.ctorIdx.beq 26
noncomputable def isStar (e : Expr) : Bool := e.ctorIdx.beq 22
noncomputable def badArgs (args : List Expr) : Bool := decide (15 < args.length) || (args.length == 1 && args.any isStar)
noncomputable def relabelS (inner outer : Scope) : Scope :=
  { inner with names := inner.names.map fun (n, k) => if (k == .free && outer.kind == .function && outer.names.lookup n == some .cell) then (n, .cell) else (n, k) }
noncomputable def scopeOk (inner outer : Scope) (x : Str) : Bool :=
  inner.kind == .function && inner.names.all (fun y => y.2 != .cell) && inner.names.all (fun y => y.2 != .local || inner.names.lookup y.1 == some .local) && inner.names.lookup x == some .local &&
  inner.names.all (fun y => y.2 != .free || outer.names.lookup y.1 == some .cell) && inner.names.all (fun y => inner.names.lookup y.1 == some y.2)
noncomputable def compGo (test : D → Option Bool) (elt : D → Option D) : List D → Option (List D)
  | [] => some []
  | d :: r => (test d).bind fun b => if b then (elt d).bind fun e => (compGo test elt r).map (e :: ·) else compGo test elt r
noncomputable def compVars (sc : Scope) (σ : Vars) (x : Str) (d : D) : Vars := fun y => if y = x then some d else if sc.names.lookup y = some .cell then σ y else none

mutual
noncomputable def evalE (cx : Cx) : Expr → Scope → Vars → Option D
  | .Constant c _ _, _, _ => constD c
  | .Name x _, sc, σ => nameD cx x sc σ
  | .BoolOp op vs _, sc, σ => boolE cx vs op sc σ
  | .BinOp l op r _, sc, σ => (evalE cx l sc σ).bind fun a => (evalE cx r sc σ).bind fun b => binD op a b
  | .UnaryOp op x _, sc, σ => (evalE cx x sc σ).bind (unD op)
  | .IfExp t b o _, sc, σ => (isT cx t (evalE cx t sc σ) sc σ).bind fun c => if c then evalE cx b sc σ else evalE cx o sc σ
  | .Compare l [op] [r] _, sc, σ => if behindInMarks op r then none else (evalE cx l sc σ).bind fun a => (evalE cx r sc σ).bind fun b => (ccD op a b).map .bool
  | .Call (.Attribute o m ap) args [] pos, sc, σ =>
    if bareCall o || !(ap.endLine == pos.line) then none else
    (evalE cx o sc σ).bind fun ov => match args with
      | [] => met0 m ov
      | [e] => if isStar e then none else (evalE cx e sc σ).bind fun a => met1 m ov a
      | _ => none
  | .Call f args [] _, sc, σ => if isAttr f || badArgs args then none else (evalE cx f sc σ).bind fun fd => (evalA cx args sc σ).bind fun as => callD cx fd as
  | .Subscript v (.Slice lo hi none _) _, sc, σ => (evalE cx v sc σ).bind fun o => (evalO cx lo sc σ).bind fun a => (evalO cx hi sc σ).bind fun b => slD o a b
  | .Subscript v i _, sc, σ => if isSlice i then none else (evalE cx v sc σ).bind fun o => (evalE cx i sc σ).bind fun k => idxD o k
  | .List es _, sc, σ => if es.any isStar then none else (evalA cx es sc σ).bind fun ds => if ds.length ≤ lim then some (.list ds) else none
  | .Tuple es _ _, sc, σ => if es.any isStar then none else (evalA cx es sc σ).bind fun ds => if ds.length ≤ lim then some (.tup ds) else none
  | .ListComp elt [⟨.Name x _, iter, ifs, as⟩] scope _, sc, σ =>
    if as != 0 || isSet iter || !scopeOk scope sc x then none else
    (evalE cx iter sc σ).bind fun src => (itemsD src).bind fun ds =>
      (compGo (fun d => allT cx ifs (relabelS scope sc) (compVars (relabelS scope sc) σ x d)) (fun d => evalE cx elt (relabelS scope sc) (compVars (relabelS scope sc) σ x d)) ds).map .list
  | _, _, _ => none
/-- the tests of a comprehension: none or one -/
noncomputable def allT (cx : Cx) : List Expr → Scope → Vars → Option Bool
  | [], _, _ => some true
  | [e], sc, σ => isT cx e (evalE cx e sc σ) sc σ
  | _, _, _ => none
noncomputable def evalO (cx : Cx) : Option Expr → Scope → Vars → Option D
  | none, _, _ => some .none
  | some e, sc, σ => evalE cx e sc σ
noncomputable def evalA (cx : Cx) : List Expr → Scope → Vars → Option (List D)
  | [], _, _ => some []
  | .Starred e _ :: r, sc, σ => (evalE cx e sc σ).bind fun d => match d with
    | .list xs => if xs.length ≤ lim then (evalA cx r sc σ).map (xs ++ ·) else none
    | _ => none
  | e :: r, sc, σ => (evalE cx e sc σ).bind fun d => (evalA cx r sc σ).map (d :: ·)
/-- and, or: the value -/
noncomputable def boolE (cx : Cx) : List Expr → BoolOp → Scope → Vars → Option D
  | [], _, _, _ => none
  | [e], _, sc, σ => evalE cx e sc σ
  | e :: r, op, sc, σ => (evalE cx e sc σ).bind fun d => (truD d).bind fun b => match op, b with
    | .And, false => some d
    | .Or, true => some d
    | _, _ => boolE cx r op sc σ
/-- a test; with what its value would be -/
noncomputable def isT (cx : Cx) : Expr → Option D → Scope → Vars → Option Bool
  | .UnaryOp .Not x _, _, sc, σ => (isT cx x (evalE cx x sc σ) sc σ).map (!·)
  | .BoolOp op vs _, _, sc, σ => allB cx vs op sc σ
  | .IfExp t b o _, _, sc, σ => (isT cx t (evalE cx t sc σ) sc σ).bind fun c => if c then isT cx b (evalE cx b sc σ) sc σ else isT cx o (evalE cx o sc σ) sc σ
  | .Compare l [op] [r] _, _, sc, σ => if behindInMarks op r then none else (evalE cx l sc σ).bind fun a => (evalE cx r sc σ).bind fun b => ccD op a b
  | .Compare _ _ _ _, _, _, _ => none
  | _, whole, _, _ => whole.bind truD
noncomputable def allB (cx : Cx) : List Expr → BoolOp → Scope → Vars → Option Bool
  | [], op, _, _ => some (op == .And)
  | e :: r, op, sc, σ => (isT cx e (evalE cx e sc σ) sc σ).bind fun b => match op, b with
    | .And, false => some false
    | .Or, true => some true
    | _, _ => allB cx r op sc σ
end

section
variable {cx : Cx} {sc : Scope} {σ : Vars}
theorem eE_Constant {c k p} : evalE cx (.Constant c k p) sc σ = constD c := rfl
theorem eE_Name {x p} : evalE cx (.Name x p) sc σ = nameD cx x sc σ := rfl
theorem eE_BoolOp {op vs p} : evalE cx (.BoolOp op vs p) sc σ = boolE cx vs op sc σ := rfl
theorem eE_BinOp {l op r p} : evalE cx (.BinOp l op r p) sc σ = (evalE cx l sc σ).bind fun a => (evalE cx r sc σ).bind fun b => binD op a b := rfl
theorem eE_UnaryOp {op x p} : evalE cx (.UnaryOp op x p) sc σ = (evalE cx x sc σ).bind (unD op) := rfl
theorem eE_IfExp {t b o p} : evalE cx (.IfExp t b o p) sc σ = (isT cx t (evalE cx t sc σ) sc σ).bind fun c => if c then evalE cx b sc σ else evalE cx o sc σ := rfl
theorem eE_Compare {l op r p} : evalE cx (.Compare l [op] [r] p) sc σ = if behindInMarks op r then none else (evalE cx l sc σ).bind fun a => (evalE cx r sc σ).bind fun b => (ccD op a b).map .bool := rfl
theorem eE_meth0 {o m ap pos} : evalE cx (.Call (.Attribute o m ap) [] [] pos) sc σ = if bareCall o || !(ap.endLine == pos.line) then none else (evalE cx o sc σ).bind fun ov => met0 m ov := rfl
theorem eE_meth1 {o m ap e pos} : evalE cx (.Call (.Attribute o m ap) [e] [] pos) sc σ =
    if bareCall o || !(ap.endLine == pos.line) then none else (evalE cx o sc σ).bind fun ov => if isStar e then none else (evalE cx e sc σ).bind fun a => met1 m ov a := rfl
theorem eE_meth2 {o m ap e f r pos} : evalE cx (.Call (.Attribute o m ap) (e :: f :: r) [] pos) sc σ = if bareCall o || !(ap.endLine == pos.line) then none else (evalE cx o sc σ).bind fun _ => none := rfl
theorem eE_call {x np args p} : evalE cx (.Call (.Name x np) args [] p) sc σ = if badArgs args then none else (nameD cx x sc σ).bind fun fd => (evalA cx args sc σ).bind fun as => callD cx fd as := rfl
theorem eE_slice {v lo hi sp p} : evalE cx (.Subscript v (.Slice lo hi none sp) p) sc σ = (evalE cx v sc σ).bind fun o => (evalO cx lo sc σ).bind fun a => (evalO cx hi sc σ).bind fun b => slD o a b := rfl
theorem eE_subN {v x ip p} : evalE cx (.Subscript v (.Name x ip) p) sc σ = (evalE cx v sc σ).bind fun o => (nameD cx x sc σ).bind fun k => idxD o k := rfl
theorem eE_subC {v c ck ip p} : evalE cx (.Subscript v (.Constant c ck ip) p) sc σ = (evalE cx v sc σ).bind fun o => (constD c).bind fun k => idxD o k := rfl
theorem eE_subU {v op x ip p} : evalE cx (.Subscript v (.UnaryOp op x ip) p) sc σ = (evalE cx v sc σ).bind fun o => (evalE cx (.UnaryOp op x ip) sc σ).bind fun k => idxD o k := rfl
theorem eE_subB {v l op r ip p} : evalE cx (.Subscript v (.BinOp l op r ip) p) sc σ = (evalE cx v sc σ).bind fun o => (evalE cx (.BinOp l op r ip) sc σ).bind fun k => idxD o k := rfl
theorem eE_subS {v a b c p} : evalE cx (.Subscript v (.Subscript a b c) p) sc σ = (evalE cx v sc σ).bind fun o => (evalE cx (.Subscript a b c) sc σ).bind fun k => idxD o k := rfl
theorem eE_List {es p} : evalE cx (.List es p) sc σ = if es.any isStar then none else (evalA cx es sc σ).bind fun ds => if ds.length ≤ lim then some (.list ds) else none := rfl
theorem eE_Tuple {es k p} : evalE cx (.Tuple es k p) sc σ = if es.any isStar then none else (evalA cx es sc σ).bind fun ds => if ds.length ≤ lim then some (.tup ds) else none := rfl
theorem eE_ListComp {elt x px iter ifs as scope p} : evalE cx (.ListComp elt [⟨.Name x px, iter, ifs, as⟩] scope p) sc σ =
    if as != 0 || isSet iter || !scopeOk scope sc x then none else
    (evalE cx iter sc σ).bind fun src => (itemsD src).bind fun ds =>
      (compGo (fun d => allT cx ifs (relabelS scope sc) (compVars (relabelS scope sc) σ x d)) (fun d => evalE cx elt (relabelS scope sc) (compVars (relabelS scope sc) σ x d)) ds).map .list := rfl
theorem eA_nil : evalA cx [] sc σ = some [] := rfl
theorem eA_star {e p r} : evalA cx (.Starred e p :: r) sc σ = (evalE cx e sc σ).bind fun d => match d with
    | .list xs => if xs.length ≤ lim then (evalA cx r sc σ).map (xs ++ ·) else none
    | _ => none := rfl
theorem eA_Name {x p r} : evalA cx (.Name x p :: r) sc σ = (nameD cx x sc σ).bind fun d => (evalA cx r sc σ).map (d :: ·) := rfl
theorem eA_Constant {c k p r} : evalA cx (.Constant c k p :: r) sc σ = (constD c).bind fun d => (evalA cx r sc σ).map (d :: ·) := rfl
theorem eA_BinOp {l op x p r} : evalA cx (.BinOp l op x p :: r) sc σ = (evalE cx (.BinOp l op x p) sc σ).bind fun d => (evalA cx r sc σ).map (d :: ·) := rfl
theorem eA_UnaryOp {op x p r} : evalA cx (.UnaryOp op x p :: r) sc σ = (evalE cx (.UnaryOp op x p) sc σ).bind fun d => (evalA cx r sc σ).map (d :: ·) := rfl
theorem eA_Call {f a k p r} : evalA cx (.Call f a k p :: r) sc σ = (evalE cx (.Call f a k p) sc σ).bind fun d => (evalA cx r sc σ).map (d :: ·) := rfl
theorem eA_Subscript {v i p r} : evalA cx (.Subscript v i p :: r) sc σ = (evalE cx (.Subscript v i p) sc σ).bind fun d => (evalA cx r sc σ).map (d :: ·) := rfl
theorem eA_List {a p r} : evalA cx (.List a p :: r) sc σ = (evalE cx (.List a p) sc σ).bind fun d => (evalA cx r sc σ).map (d :: ·) := rfl
theorem eA_Tuple {a k p r} : evalA cx (.Tuple a k p :: r) sc σ = (evalE cx (.Tuple a k p) sc σ).bind fun d => (evalA cx r sc σ).map (d :: ·) := rfl
theorem eA_ListComp {a b c p r} : evalA cx (.ListComp a b c p :: r) sc σ = (evalE cx (.ListComp a b c p) sc σ).bind fun d => (evalA cx r sc σ).map (d :: ·) := rfl
theorem eA_IfExp {a b c p r} : evalA cx (.IfExp a b c p :: r) sc σ = (evalE cx (.IfExp a b c p) sc σ).bind fun d => (evalA cx r sc σ).map (d :: ·) := rfl
theorem eO_none : evalO cx none sc σ = some .none := rfl
theorem eO_some {e} : evalO cx (some e) sc σ = evalE cx e sc σ := rfl
theorem eT_nil : allT cx [] sc σ = some true := rfl
theorem eT_one {e} : allT cx [e] sc σ = isT cx e (evalE cx e sc σ) sc σ := rfl
theorem eB_one {e op} : boolE cx [e] op sc σ = evalE cx e sc σ := rfl
theorem eB_more {e f r op} : boolE cx (e :: f :: r) op sc σ = (evalE cx e sc σ).bind fun d => (truD d).bind fun b => match op, b with
    | .And, false => some d
    | .Or, true => some d
    | _, _ => boolE cx (f :: r) op sc σ := rfl
theorem iT_not {x p wd} : isT cx (.UnaryOp .Not x p) wd sc σ = (isT cx x (evalE cx x sc σ) sc σ).map (!·) := rfl
theorem iT_bool {op vs p wd} : isT cx (.BoolOp op vs p) wd sc σ = allB cx vs op sc σ := rfl
theorem iT_if {t b o p wd} : isT cx (.IfExp t b o p) wd sc σ = (isT cx t (evalE cx t sc σ) sc σ).bind fun c => if c then isT cx b (evalE cx b sc σ) sc σ else isT cx o (evalE cx o sc σ) sc σ := rfl
theorem iT_cmp {l op r p wd} : isT cx (.Compare l [op] [r] p) wd sc σ = if behindInMarks op r then none else (evalE cx l sc σ).bind fun a => (evalE cx r sc σ).bind fun b => ccD op a b := rfl
theorem iT_Name {x p wd} : isT cx (.Name x p) wd sc σ = wd.bind truD := rfl
theorem iT_Call {f a k p wd} : isT cx (.Call f a k p) wd sc σ = wd.bind truD := rfl
theorem iT_Subscript {v i p wd} : isT cx (.Subscript v i p) wd sc σ = wd.bind truD := rfl
theorem iT_BinOp {l op r p wd} : isT cx (.BinOp l op r p) wd sc σ = wd.bind truD := rfl
theorem iT_Constant {c k p wd} : isT cx (.Constant c k p) wd sc σ = wd.bind truD := rfl
theorem aB_nil {op} : allB cx [] op sc σ = some (op == .And) := rfl
theorem aB_cons {e r op} : allB cx (e :: r) op sc σ = (isT cx e (evalE cx e sc σ) sc σ).bind fun b => match op, b with
    | .And, false => some false
    | .Or, true => some true
    | _, _ => allB cx r op sc σ := rfl
end
end Mine
end

/-! part Mg -/
section
open PySem PySem.W PyProof.Rows PySem.Calls
set_option maxHeartbeats 1000000
set_option tactic.hygienic false
namespace Mine

structure Wd (K : Frag) (mg mb : Str → Option Value) (g : Heap) : Prop where
  inK : K.In g
  nsG : g.Ns mainGlobals mg
  nsB : g.Ns builtinsNs mb
  nl : g.NoLimit
theorem Wd.sub {K : Frag} {mg mb : Str → Option Value} {g h : Heap} (x : Wd K mg mb g) (k : Sub g h) : Wd K mg mb h := ⟨x.inK.keeps k, x.nsG.keeps k, x.nsB.keeps k, x.nl.keeps k⟩

structure GlOK (gl : Str → Option Value) (mg mb : Str → Option Value) : Prop where
  ok : ∀ x v, gl x = some v → mg x = some v ∨ (mg x = none ∧ mb x = some v)

structure CallOK (prog : Program) (w : World) (K : Frag) (mg mb : Str → Option Value) (n : Nat) (call : Addr → List D → Option D) : Prop where
  fn : ∀ a ds d, call a ds = some d → ∀ g, Wd K mg mb g → ∃ o fd, g.get? a = some o ∧ o.data = .func fd
  ok : ∀ (a : Addr) (ds : List D) (d : D), call a ds = some d → ∀ (A : Around) (s : Shared) (g : Heap) (vs : List Value), Rm A n → Wd K mg mb g → Sub g s.heap → DenL g vs ds → Ev (model prog w) A (PySem.call (.ref a) vs) g s d
structure SortOK (prog : Program) (w : World) (sort : List D → Option (List D)) : Prop where
  ok : ∀ (ds es : List D), sort ds = some es → ∀ (A : Around) (s : Shared) (g : Heap) (v : Value), Rm A 8 → Sub g s.heap → Den g v (.list ds) → Ev (model prog w) A (PySem.call (.builtin "sorted") [v]) g s (.list es)

section
variable {M : Model} {A : Around} {E : Value → Shared → Prop} {s : Shared}
theorem callWith_ok {pos : Pos} {f : Value} {args : List (Bool × Sem Value)} {Q : Value → Shared → Prop} (hlone : ∀ x, args ≠ [(true, x)])
    (hk : ∀ (s' : Shared) (R : Keeper → Shared → Prop), Sub s.heap s'.heap → (∀ k, k = .frame ∨ k = .machine → R k s') → wpAny M A (keeperOf f) R E s')
    (h : wpAny M A (spliced args) (fun vs s₁ => Sub s.heap s₁.heap ∧ wpAny M A (call f vs) Q E s₁) E s) : wpAny M A (callWith pos f [] args []) Q E s := by
  have ha : wpAny M A (evalArgs f true args []) (fun a s₁ => a.kw = [] ∧ Sub s.heap s₁.heap ∧ wpAny M A (call f a.pos) Q E s₁) E s := by
    have fin : ∀ {vs : List Value} {s₁ : Shared}, (Sub s.heap s₁.heap ∧ wpAny M A (call f vs) Q E s₁) → (fun (a : Args) (s₁ : Shared) => a.kw = [] ∧ Sub s.heap s₁.heap ∧ wpAny M A (call f a.pos) Q E s₁) ⟨vs, []⟩ s₁ := fun h => ⟨rfl, h.1, h.2⟩
    clear hk
    match args, hlone, h with
    | [], _, h =>
      unfold evalArgs
      show wpAny M A (spliced [] >>= _) _ E s
      exact wpAny_bind (wpAny_mono h (fun vs s₁ h₁ => wpAny_bind (wpAny_pure (wpAny_holding (wpAny_bind (wpAny_pure (wpAny_bind (wpAny_pure (wpAny_pure (fin h₁)))))))) ) fun _ _ x => x)
    | [(true, x)], hl, _ => exact absurd rfl (hl x)
    | (false, x) :: r, _, h =>
      unfold evalArgs
      show wpAny M A (spliced ((false, x) :: r) >>= _) _ E s
      exact wpAny_bind (wpAny_mono h (fun vs s₁ h₁ => wpAny_bind (wpAny_pure (wpAny_holding (wpAny_bind (wpAny_pure (wpAny_bind (wpAny_pure (wpAny_pure (fin h₁)))))))) ) fun _ _ x => x)
    | (true, x) :: y :: r, _, h =>
      unfold evalArgs
      show wpAny M A (spliced ((true, x) :: y :: r) >>= _) _ E s
      exact wpAny_bind (wpAny_mono h (fun vs s₁ h₁ => wpAny_bind (wpAny_pure (wpAny_holding (wpAny_bind (wpAny_pure (wpAny_bind (wpAny_pure (wpAny_pure (fin h₁)))))))) ) fun _ _ x => x)
  unfold callWith
  refine wpAny_bind (wpAny_holding (wpAny_mono ha (fun a s₁ h₁ => wpAny_bind (wpAny_standAt ?_)) fun _ _ x => x))
  obtain ⟨p, kw⟩ := a
  obtain ⟨e1, h2, h3⟩ := h₁
  simp only at e1 h3
  subst e1
  have tail : ∀ {t : Sem Value}, wpAny M A t Q E s₁ → wpAny M A (t >>= fun r => holding [r] point >>= fun _ => pure r) Q E s₁ :=
    fun ht => wpAny_bind (wpAny_mono ht (fun r s₂ hr => wpAny_bind (wpAny_holding (wpAny_point (wpAny_pure hr)))) fun _ _ x => x)
  have marked (mk : Value) : wpAny M A (callMarked mk f ([] ++ p) []) Q E s₁ := by unfold callMarked; exact Calls.wpAny_keep h3
  refine wpAny_bind (hk s₁ _ h2 fun k hk' => ?_)
  have hop : ∀ l, wpAny M A (operate l (call f ([] ++ p) [])) Q E s₁ := fun l => wpAny_operating h3
  rcases hk' with rfl | rfl
  · cases (args.any fun x => x.1) || (([] : List (Option Str × Sem Value)).any fun x => x.1.isNone) with
    | true => exact tail (marked _)
    | false =>
      dsimp only
      split
      · exact tail h3
      · exact tail (marked _)
  · cases (args.any fun x => x.1) || (([] : List (Option Str × Sem Value)).any fun x => x.1.isNone) with
    | true => exact tail (hop _)
    | false => exact tail h3
end
end Mine
end

/-! part Mh -/
section
open PySem PySem.W PyProof.Rows PySem.Calls
set_option maxHeartbeats 2000000
set_option tactic.hygienic false
namespace Mine

theorem kind_issub_nested : builtinKind "issubclass.nested" = none := by decide +kernel
theorem plain_issub_nested : plainId "issubclass.nested" = true := by decide +kernel
theorem args_issub_nested_3 (a b c : Value) : argsOk "issubclass.nested" ⟨[a, b, c], []⟩ := by unfold argsOk; kernel_rfl
theorem entry_issub_nested : entryFor table "issubclass.nested" = some Builtin.«issubclass.nested» := entryFor_of_tree (by kernel_rfl)

section
variable {prog : Program} {w : World} {A : Around} {E : Value → Shared → Prop} {s : Shared}
theorem issub_str_str (dep : Int) (tk : Tok) : Meets (Builtin.«issubclass.nested» ⟨[.type "str", .type "str", .int dep tk], []⟩) (fun _ R s => R (.ok (.ret (.bool true))) s) := by
  intro prog w A R s hs
  have hm : typeOf (.type "str") = pure (.type "type") := by rfl
  have h2 := F.sub_str_str
  repeat (any_goals (first | assumption | (rw [if_pos rfl]) | (rw [h2]) | wp_step))
theorem issub_pair {tp : Addr} {n : Nat} {vs : List Value} (hv : vs = [.type "str", .type "bytes"]) (htp : s.heap.get? tp = some (tObj vs n)) {Q : Fin → Shared → Prop} (hq : Q (.done (.ret (.bool true))) s) :
    wpAny (model prog w) A (Builtin.«issubclass.nested» ⟨[.type "str", .ref tp, rawInt 0], []⟩) Q E s := by
  obtain ⟨h, g, d, t, os⟩ := s
  have hT2 : (⟨h, g, d, t, os⟩ : Shared).TypeIs (.ref tp) "tuple" := ⟨_, htp, rfl⟩
  have f1 := F.isi_sub_tuple
  repeat (any_goals (first | assumption | wp_step))
  refine wpAny_arrayLoop ?_
  subst hv
  simp only [Option.getD_some, List.forIn_cons]
  refine wpAny_bind (wpAny_bind (call_function_meets kind_issub_nested plain_issub_nested entry_issub_nested (args_issub_nested_3 _ _ _) (issub_str_str _ _) ?_))
  show wpAny _ _ (truthy (.bool true) >>= _) _ _ _
  refine wpAny_bind (m := truthy (.bool true)) (wpAny_pure ?_)
  refine wpAny_bind (wpAny_pure (wpAny_pure (wpAny_pure ?_)))
  repeat (any_goals (first | assumption | wp_step))
theorem call_issub {tp : Addr} {n : Nat} (htp : s.heap.get? tp = some (tObj [.type "str", .type "bytes"] n)) {Q : Value → Shared → Prop} (hq : Q (.bool true) s) :
    wpAny (model prog w) A (call (.builtin "issubclass") [.type "str", .ref tp]) Q E s := by
  refine call_issubclass (S := fun _ R s => s.heap.get? tp = some (tObj [.type "str", .type "bytes"] n) ∧ R (.ok (.ret (.bool true))) s) (fun prog w A R s hs => ?_) ⟨htp, hq⟩
  exact issubclass_outer (issub_pair rfl hs.1 hs.2)
end
end Mine
end

/-! part Mi -/
section
open PySem PySem.W PyProof.Rows PySem.Calls
set_option maxHeartbeats 2000000
set_option tactic.hygienic false
namespace Mine

theorem preSum_of (val : Nat → Int) (ns : List Int) (h : ∀ i n, ns[i]? = some n → val i = n) : ∀ k ≤ ns.length, preSum val k = (ns.take k).sum := by
  intro k
  induction k with
  | zero => intro _; rfl
  | succ k ih =>
    intro hk
    have hlt : k < ns.length := hk
    show preSum val k + val k = _
    rw [ih (by (exact Nat.le_of_lt ‹_›)), h k _ (List.getElem?_eq_getElem hlt), List.take_add_one, List.getElem?_eq_getElem hlt, List.sum_append]
    simp
theorem sumD_spec : ∀ (xs : List D) (n m : Int), sumD xs n = some m → ∃ ns : List Int, xs = ns.map D.int ∧ m = n + ns.sum
  | [], n, m, h => ⟨[], rfl, (so h).symm.trans (Int.add_zero n).symm⟩
  | x :: r, n, m, h => by
    induction x using D.casesOn with
    | int i =>
      obtain ⟨ns, rfl, rfl⟩ := sumD_spec r _ _ h
      exact ⟨_ :: ns, rfl, by rw [List.sum_cons, Int.add_assoc]⟩
    | _ => exact ns h
theorem den_ints {g : Heap} : ∀ {ns : List Int} {vs : List Value}, DenL g vs (ns.map D.int) → IntsAre vs ns
  | [], vs, h => by obtain rfl := h.inv; exact .nil
  | n :: ns, vs, h => by
    obtain ⟨v, r, rfl, h1, h2⟩ := h.inv
    obtain ⟨t, rfl⟩ := h1.inv
    exact .cons _ _ (den_ints h2)
theorem octets_spec : ∀ (xs : List D) (l : List UInt8), octets xs = some l → ∃ ns : List Int, xs = ns.map D.int ∧ (∀ n ∈ ns, 0 ≤ n ∧ n < 256) ∧ l = ns.map fun n => n.toNat.toUInt8
  | [], l, h => ⟨[], rfl, fun _ h => absurd h List.not_mem_nil, (so h).symm⟩
  | x :: r, l, h => by
    induction x using D.casesOn with
    | int i =>
      obtain ⟨hr, h⟩ := ite_get (c := 0 ≤ i ∧ i < 256) h
      obtain ⟨l', ho, rfl⟩ := map_some h
      obtain ⟨ns, rfl, h1, rfl⟩ := octets_spec r _ ho
      exact ⟨_ :: ns, rfl, fun n hn => (List.mem_cons.mp hn).elim (fun e => e ▸ hr) (h1 n), rfl⟩
    | _ => exact ns h

theorem one_inv {β α : Type} {f : β → Option α} {ds : List β} {d : α} (h : one f ds = some d) : ∃ x, ds = [x] ∧ f x = some d := by
  induction ds using List.casesOn with
  | nil => exact ns h
  | cons x r => induction r using List.casesOn with
    | nil => exact ⟨x, rfl, h⟩
    | cons => exact ns h
theorem two_inv {β α : Type} {f : β → β → Option α} {ds : List β} {d : α} (h : two f ds = some d) : ∃ x y, ds = [x, y] ∧ f x y = some d := by
  induction ds using List.casesOn with
  | nil => exact ns h
  | cons x r => obtain ⟨y, rfl, h⟩ := one_inv (f := f x) h; exact ⟨x, y, rfl, h⟩
theorem list1_inv {α : Type} {f : List D → Option α} {x : D} {d : α} (h : list1 f x = some d) : ∃ xs, x = .list xs ∧ f xs = some d := by
  induction x using D.casesOn with
  | list xs => exact ⟨xs, rfl, h⟩
  | _ => exact ns h
theorem tup1_inv {α : Type} {f : List D → Option α} {x : D} {d : α} (h : tup1 f x = some d) : ∃ xs, x = .tup xs ∧ f xs = some d := by
  induction x using D.casesOn with
  | tup xs => exact ⟨xs, rfl, h⟩
  | _ => exact ns h
theorem str1_inv {α : Type} {f : Str → Option α} {x : D} {d : α} (h : str1 f x = some d) : ∃ y, x = .str y ∧ f y = some d := by
  induction x using D.casesOn with
  | str y => exact ⟨y, rfl, h⟩
  | _ => exact ns h
theorem nameP_inv {e : Expr} {q : Str × Pos} (h : nameP e = some q) : e = .Name q.1 q.2 := by
  induction e using Expr.casesOn with
  | Name x p => obtain rfl := so h; rfl
  | _ => exact ns h
theorem tupV_inv {e : Expr} {es : List Expr} (h : tupV e = some es) : ∃ k p, e = .Tuple es k p := by
  induction e using Expr.casesOn with
  | Tuple x k p => obtain rfl := so h; exact ⟨k, p, rfl⟩
  | _ => exact ns h
theorem attrV_inv {e : Expr} {q : Expr × Str × Pos} (h : attrV e = some q) : e = .Attribute q.1 q.2.1 q.2.2 := by
  induction e using Expr.casesOn with
  | Attribute x k p => obtain rfl := so h; rfl
  | _ => exact ns h
theorem typ1_inv {α : Type} {f : String → Option α} {x : D} {d : α} (h : typ1 f x = some d) : ∃ n, x = .typ n ∧ f n = some d := by
  induction x using D.casesOn with
  | typ n => exact ⟨n, rfl, h⟩
  | _ => exact ns h

section
variable {prog : Program} {w : World} {K : Frag} {mg mb : Str → Option Value} {A : Around} {s : Shared} {g : Heap}

theorem sum_ok {xs : List D} {m : Int} {v : Value} (hA : A.handled = none) (hz : xs.length ≤ lim) (h : sumD xs 0 = some m) (l : Sub g s.heap) (da : Den g v (.list xs)) :
    Ev (model prog w) A (call (.builtin "sum") [v]) g s (.int m) := by
  obtain ⟨ns, rfl, rfl⟩ := sumD_spec _ _ _ h
  obtain ⟨a, vs, n, rfl, a1, a2⟩ := da.inv
  · have hi := den_ints a2
    intro Q E k
    refine call_sum_walkG (wpAny_pyIter_list (isList_of (l _ _ a1)) ?_)
    have hlen : vs.length = ns.length := hi.length
    have hne : a ≠ s.heap.objs.size := Nat.ne_of_lt (Heap.lt_size (l _ _ a1))
    refine ⟨_, _, _, _, _, _, fun i => ns.getD i 0, rfl, Walks.list (A := A.in1) hA s.heap.objs.size a hne vs.toArray, ⟨⟨_, Heap.get?_push_size _ rfl, rfl, rfl⟩, ⟨_, Heap.get?_push_of_some _ (l _ _ a1), rfl, _, rfl⟩⟩, ?_, ?_, ?_⟩
    · intro b hb
      simp only [List.mem_cons, List.not_mem_nil, or_false] at hb
      show b < (s.heap.push _).objs.size
      rw [size_push]
      rcases hb with rfl | rfl
      · exact Nat.lt_succ_self _
      · exact Nat.lt_succ_of_lt (Heap.lt_size (l _ _ a1))
    · intro i v hv
      obtain ⟨d, hd, hden⟩ := a2.getV (k := i) (by simpa using hv)
      rw [List.getElem?_map] at hd
      obtain ⟨n, hn, rfl⟩ := map_some hd
      obtain ⟨t, rfl⟩ := hden.inv
      exact ⟨_, by simp only [List.getD, hn]; rfl⟩
    · intro h' tk t' hk
      have e : preSum (fun i => ns.getD i 0) vs.toArray.size = 0 + ns.sum := by
        rw [List.size_toArray, hlen, preSum_of _ ns (fun i n h => by simp [List.getD, h]) _ (Nat.le_refl _)]
        simp
      rw [e]
      have kk : Sub s.heap h' := fun b o e => hk b o (by simp; exact Nat.ne_of_lt (Heap.lt_size e)) (Heap.get?_push_of_some _ e)
      exact k _ g _ (.grown l kk tk) (.int _ _)

theorem call_range_ok {i : Int} {t : Tok} (h0 : 0 ≤ i) (l : Sub g s.heap) : Ev (model prog w) A (call (.type "range") [.int i t]) g s (.rng i.toNat) := by
  intro Q E k
  obtain ⟨g', e, hg⟩ := Ext.push l ({ cls := .type "range", data := .fields #[.int 0 s.toks, .int i t, .int 1 (s.toks + 1)] } : Obj) (s.toks + 1 + 1)
  refine call_range_1 (k _ g' _ e (.rng (t := s.toks) (u := t) (v := s.toks + 1) ?_))
  rw [Int.toNat_of_nonneg h0]
  exact hg
theorem isi_ok {x : D} {n : String} {b : Bool} {v : Value} (h : isiD x n = some b) (l : Sub g s.heap) (a : Den g v x) : Ev (model prog w) A (call (.builtin "isinstance") [v, .type n]) g s (.bool b) := by
  intro Q E k
  induction a using Den.casesOn with
  | str x t =>
    refine ite_elim h (fun hn h => ?_) fun _ h => ?_
    · obtain rfl := so h; subst hn; exact IsiPair.str_str (k _ g _ (.refl l) (.bool _))
    · obtain ⟨hn, rfl⟩ := ite_some h; subst hn; exact IsiPair.str_bytes (k _ g _ (.toks l _) (.bool _))
  | _ => exact ns h
theorem type_ok {x d : D} {v : Value} (h : typeD x = some d) (l : Sub g s.heap) (a : Den g v x) : Ev (model prog w) A (call (.type "type") [v]) g s d := by
  intro Q E k
  induction a using Den.casesOn with
  | str => obtain rfl := so h; exact call_type_of (typeIs_str _ _ _) (by decide) (k _ g _ (.refl l) (.typ _))
  | bytes => obtain rfl := so h; exact call_type_of (PySem.W.typeIs_bytes _ _ _) (by decide) (k _ g _ (.refl l) (.typ _))
  | int => obtain rfl := so h; exact call_type_of (typeIs_int _ _ _) (by decide) (k _ g _ (.refl l) (.typ _))
  | _ => exact ns h
theorem den_typs {g : Heap} {vs : List Value} {a b : String} (h : DenL g vs [.typ a, .typ b]) : vs = [.type a, .type b] := by
  obtain ⟨v, u, rfl, h1, h2⟩ := h.two_inv
  obtain rfl := h1.inv
  obtain rfl := h2.inv
  rfl
theorem issub_ok {t : String} {ts : List D} {b : Bool} {v : Value} (h : isSubD t ts = some b) (l : Sub g s.heap) (da : Den g v (.tup ts)) : Ev (model prog w) A (call (.builtin "issubclass") [.type t, v]) g s (.bool b) := by
  intro Q E k
  obtain ⟨x, y, rfl, h1⟩ := two_inv h
  obtain ⟨m, rfl, h2⟩ := typ1_inv h1
  obtain ⟨n, rfl, h3⟩ := typ1_inv h2
  obtain ⟨⟨rfl, rfl⟩, h4⟩ := ite_get (c := m = "str" ∧ n = "bytes") h3
  obtain ⟨rfl, rfl⟩ := ite_some h4
  obtain ⟨a, vs, n, rfl, a1, a2⟩ := da.inv
  obtain rfl := den_typs a2
  exact call_issub (l _ _ a1) (k _ g _ (.refl l) (.bool _))
theorem bytes_ok {xs : List D} {o : List UInt8} {v : Value} (hA : A.handled = none) (hz : xs.length ≤ 16) (h : octets xs = some o) (l : Sub g s.heap) (da : Den g v (.list xs)) :
    Ev (model prog w) A (call (.type "bytes") [v]) g s (.bytes o.toArray) := by
  obtain ⟨ns, rfl, hr, rfl⟩ := octets_spec _ _ h
  obtain ⟨a, vs, n, rfl, a1, a2⟩ := da.inv
  intro Q E k
  exact call_bytes_ints (isList_of (l _ _ a1)) (den_ints a2) hr (by rw [a2.length, sizeLine_eq]; exact Nat.le_trans hz (by decide)) hA fun h' tk k' hk => k _ g _ (.grown l hk _) (.bytes _ _)

theorem bi_ok {cx : Cx} {n : Nat} {m : String} {d : D} {ds : List D} {vs : List Value} (S : SortOK prog w cx.sort) (hA : Rm A (n + 8)) (l : Sub g s.heap)
    (h : biD cx m ds = some d) (b : DenL g vs ds) : Ev (model prog w) A (call (.builtin m) vs) g s d := by
  refine ite_elim h (fun he h => ?_) fun _ h => ite_elim h (fun he h => ?_) fun _ h => ite_elim h (fun he h => ?_) fun _ h => ite_elim h (fun he h => ?_) fun _ h => ite_elim h (fun he h => ?_) fun _ h => ns h <;> subst he
  · obtain ⟨x, rfl, h1⟩ := one_inv h
    obtain ⟨v, rfl, b1⟩ := b.one_inv
    exact lenD_ok h1 l b1
  · obtain ⟨x, rfl, h1⟩ := one_inv h
    obtain ⟨v, rfl, b1⟩ := b.one_inv
    obtain ⟨xs, rfl, h2⟩ := list1_inv h1
    obtain ⟨hz, h3⟩ := ite_get h2
    obtain ⟨i, hs, rfl⟩ := map_some h3
    exact sum_ok hA.handled hz hs l b1
  · obtain ⟨x, rfl, h1⟩ := one_inv h
    obtain ⟨v, rfl, b1⟩ := b.one_inv
    obtain ⟨xs, rfl, h2⟩ := list1_inv h1
    obtain ⟨i, hs, rfl⟩ := map_some h2
    exact S.ok _ _ hs A s g _ (hA.mono (Nat.le_add_left ..)) l b1
  · obtain ⟨x, y, rfl, h1⟩ := two_inv h
    obtain ⟨v, u, rfl, b1, b2⟩ := b.two_inv
    obtain ⟨t, rfl, h2⟩ := typ1_inv h1
    obtain ⟨i, hs, rfl⟩ := map_some h2
    obtain rfl := b2.inv
    exact isi_ok hs l b1
  · obtain ⟨x, y, rfl, h1⟩ := two_inv h
    obtain ⟨v, u, rfl, b1, b2⟩ := b.two_inv
    obtain ⟨t, rfl, h2⟩ := typ1_inv h1
    obtain rfl := b1.inv
    induction y using D.casesOn with
    | tup ts =>
      obtain ⟨i, hs, rfl⟩ := map_some h2
      exact issub_ok hs l b2
    | _ => exact ns h2
theorem ty_ok {m : String} {d : D} {ds : List D} {vs : List Value} (hA : A.handled = none) (l : Sub g s.heap)
    (h : tyD m ds = some d) (b : DenL g vs ds) : Ev (model prog w) A (call (.type m) vs) g s d := by
  refine ite_elim h (fun he h => ?_) fun _ h => ite_elim h (fun he h => ?_) fun _ h => ite_elim h (fun he h => ?_) fun _ h => ns h <;> subst he
  · obtain ⟨x, rfl, h1⟩ := one_inv h
    obtain ⟨v, rfl, b1⟩ := b.one_inv
    induction b1 using Den.casesOn with
    | int i t =>
      obtain ⟨hz, rfl⟩ := ite_some (c := 0 ≤ i ∧ i ≤ lim) h1
      exact call_range_ok hz.1 l
    | _ => exact ns h1
  · obtain ⟨x, rfl, h1⟩ := one_inv h
    obtain ⟨v, rfl, b1⟩ := b.one_inv
    exact type_ok h1 l b1
  · obtain ⟨x, rfl, h1⟩ := one_inv h
    obtain ⟨v, rfl, b1⟩ := b.one_inv
    obtain ⟨xs, rfl, h2⟩ := list1_inv h1
    obtain ⟨hz, h3⟩ := ite_get h2
    obtain ⟨i, hs, rfl⟩ := map_some h3
    exact bytes_ok hA hz hs l b1
theorem callD_ok {cx : Cx} {n : Nat} {f d : D} {ds : List D} {fv : Value} {vs : List Value} (C : CallOK prog w K mg mb n cx.call) (S : SortOK prog w cx.sort) (hA : Rm A (n + 8)) (W : Wd K mg mb g) (l : Sub g s.heap)
    (h : callD cx f ds = some d) (a : Den g fv f) (b : DenL g vs ds) : Ev (model prog w) A (call fv vs) g s d := by
  induction a using Den.casesOn with
  | glob a => exact C.ok _ _ _ h A s g vs (hA.mono (Nat.le_add_right ..)) W l b
  | bi m => exact bi_ok S hA l h b
  | typ m => exact ty_ok hA.handled l h b
  | _ => exact ns h

/-- the function is a def of the text, or no object at all -/
theorem keeper_ok {cx : Cx} {n : Nat} {f d : D} {ds : List D} {fv : Value} (C : CallOK prog w K mg mb n cx.call) (W : Wd K mg mb g) (h : callD cx f ds = some d) (a : Den g fv f) {E : Value → Shared → Prop}
    (s' : Shared) (R : Keeper → Shared → Prop) (l : Sub g s'.heap) (hR : ∀ k, k = Keeper.frame ∨ k = Keeper.machine → R k s') : wpAny (model prog w) A (keeperOf fv) R E s' := by
  induction a using Den.casesOn with
  | glob a =>
    obtain ⟨o, fd, ho, hd⟩ := C.fn _ _ _ h g W
    unfold keeperOf
    refine wpAny_bind (wpAny_load (l _ _ ho) ?_)
    rw [hd]
    exact wpAny_pure (hR _ (.inl rfl))
  | bi => exact wpAny_pure (hR _ (.inr rfl))
  | typ => exact wpAny_pure (hR _ (.inr rfl))
  | _ => exact ns h
end
end Mine
end

/-! part Mj -/
section
open PySem PySem.W PyProof.Rows PySem.Calls
set_option maxHeartbeats 2000000
set_option tactic.hygienic false
namespace Mine
open Builtin Builtin.Str

theorem den_strs {g : Heap} : ∀ {ds : List D} {vs : List Value} {ys : List Str}, strsD ds = some ys → DenL g vs ds → ∃ l : List (Str × Tok), vs = strValues l ∧ l.map (·.1) = ys
  | [], vs, ys, h, a => by obtain rfl := so h; obtain rfl := a.inv; exact ⟨[], rfl, rfl⟩
  | d :: r, vs, ys, h, a => by
    induction d using D.casesOn with
    | str x =>
      obtain ⟨zs, hr, rfl⟩ := map_some h
      obtain ⟨v, vs', rfl, a1, a2⟩ := a.inv
      obtain ⟨l, rfl, rfl⟩ := den_strs hr a2
      obtain ⟨t, rfl⟩ := a1.inv
      exact ⟨(_, _) :: l, rfl, rfl⟩
    | _ => exact ns h
theorem den_strValues {g : Heap} : ∀ l : List (Str × Tok), DenL g (strValues l) ((l.map (·.1)).map .str)
  | [] => .nil
  | p :: r => .cons (.str _ _) (den_strValues r)

section
variable {prog : Program} {w : World} {A : Around} {s : Shared} {g : Heap}
theorem split_ok {x y : Str} {t : Tok} {pos : Pos} {ta : Sem Value} {Q E : Value → Shared → Prop} (hx : x.length ≤ lim) (hy : y.length ≠ 0) (hn : (partsBetween x (occurrences x y 0 x.length (x.length + 1)) y.length).length ≤ lim)
    (ha : Ev (model prog w) A ta g s (.str y)) (k : ∀ v g' s', Ext g s g' s' → Den g' v (.list ((Txt.split x y).map .str)) → Q v s') : MethodOnS prog w A E "split" (.str x t) pos [(false, ta)] Q s := by
  refine ⟨"str", _, F.plainAttrs_str, F.slot_str_split, F.type_str_split, typeIs_str _ _ _, (fun _ e => nomatch e),
    method1_meets F.slot_str_split F.entry_str_split (ha _ _ fun v g₁ s₁ x₁ hv => ?_)⟩
  obtain ⟨u, rfl⟩ := hv.inv
  · have hy' : (y.length == 0) = false := by simpa using hy
    refine ⟨typeIs_str _ _ _, F.args_str_split_2 _ _, ?_⟩
    have fin : ∀ (l : List (Str × Tok)) (k' : Nat), l.map (·.1) = Txt.split x y → Q (.ref s₁.heap.objs.size) { s₁ with heap := s₁.heap.push { cls := .type "list", data := .seq (strValues l).toArray }, toks := k' } := by
      intro l k' hl
      obtain ⟨g', e, hg⟩ := Ext.push x₁.low (lObj (strValues l) 0) k'
      exact k _ g' _ (x₁.trans e) (.list hg (hl ▸ den_strValues l))
    cases h1 : (decide (x.length < y.length) || decide (strKind x < strKind y))
    · cases hf : (occurrences x y 0 x.length (x.length + 1)).isEmpty
      · refine ⟨_, meets_str_split_sep x y t u h1 hy' hf (lim_le hx) (lim_le hn), ?_⟩
        show wants Q E _ { s₁ with toks := _, heap := s₁.heap.push { cls := .type "list", data := .seq (strsFrom s₁.toks (partsBetween x (occurrences x y 0 x.length (x.length + 1)) y.length)).toArray } }
        rw [strsFrom_eq]
        exact fin _ _ ((numbered_texts _ _).trans ((if_neg (ne_true_of_eq_false h1)).trans (if_neg (ne_true_of_eq_false hf))).symm)
      · exact ⟨_, meets_str_split_not_found x y t u h1 hy' hf, fin [(x, t)] _ ((if_neg (ne_true_of_eq_false h1)).trans (if_pos hf)).symm⟩
    · exact ⟨_, meets_str_split_cannot_occur x y t u h1, fin [(x, t)] _ (if_pos h1).symm⟩

theorem join_ok {x : Str} {t : Tok} {ds : List D} {ys : List Str} {pos : Pos} {ta : Sem Value} {Q E : Value → Shared → Prop} (hs : strsD ds = some ys) (hok : JoinOk x ys = true)
    (ha : Ev (model prog w) A ta g s (.list ds)) (k : ∀ v g' s', Ext g s g' s' → Den g' v (.str (Txt.join x ys)) → Q v s') : MethodOnS prog w A E "join" (.str x t) pos [(false, ta)] Q s := by
  refine SB.join (ha _ _ fun v g₁ s₁ x₁ hv => ?_)
  obtain ⟨_, _, _, rfl, a1, a2⟩ := hv.inv
  obtain ⟨l, rfl, rfl⟩ := den_strs hs a2
  exact ⟨_, l, rfl, isList_of (x₁.low _ _ a1), _, rfl, hok, fun t' k' => k _ g₁ _ (x₁.trans (.toks x₁.low k')) (.str _ _)⟩
end
end Mine
end

/-! part Mk -/
section
open PySem PySem.W PyProof.Rows PySem.Calls
set_option maxHeartbeats 2000000
set_option tactic.hygienic false
namespace Mine
open Builtin Builtin.Str
/-! hex, upper, encode, decode of the four rows -/
noncomputable def HexRow (r : List UInt8 × String × String) : Prop :=
  (∀ t : Tok, «bytes.hex» ⟨[.bytes r.1.toArray t], []⟩ = (mkStr (Str.ofString r.2.1) >>= fun v => ret v)) ∧
  (∀ t : Tok, «bytes.upper» ⟨[.bytes (ascii r.2.1) t], []⟩ = (mkBytes (ascii r.2.2) >>= fun v => ret v)) ∧
  (∀ t u : Tok, «str.encode» ⟨[.str (Str.ofString r.2.1) t, .str (Str.ofString "ascii") u], []⟩ = (mkBytes (ascii r.2.1) >>= fun v => ret v)) ∧
  (∀ id : String, _codecs.decodeRoad id (ascii r.2.2) (Str.ofString "ascii") none [] = mkStr (Str.ofString r.2.2)) ∧
  (∀ t u : Tok, «bytes.decode» ⟨[.bytes (ascii r.2.2) t, .str (Str.ofString "ascii") u], []⟩ = (mkStr (Str.ofString "utf-8") >>= fun _ => mkStr (Str.ofString "ascii") >>= fun e => mkStr (Str.ofString "bytes.decode") >>= fun d =>
    call (.builtin "_codecs.decode.text") [.bytes (ascii r.2.2) t, e, .none, d] >>= fun v => ret v))
theorem hexRows : ∀ r ∈ hexTab, HexRow r := by
  intro r hr
  simp only [hexTab, List.mem_cons, List.not_mem_nil, or_false] at hr
  rcases hr with rfl | rfl | rfl | rfl
  · exact ⟨fun _ => by kernel_rfl, fun _ => by kernel_rfl, fun _ _ => by kernel_rfl, fun _ => by kernel_rfl, fun _ _ => by kernel_rfl⟩
  · exact ⟨fun _ => by kernel_rfl, fun _ => by kernel_rfl, fun _ _ => by kernel_rfl, fun _ => by kernel_rfl, fun _ _ => by kernel_rfl⟩
  · exact ⟨fun _ => by kernel_rfl, fun _ => by kernel_rfl, fun _ _ => by kernel_rfl, fun _ => by kernel_rfl, fun _ _ => by kernel_rfl⟩
  · exact ⟨fun _ => by kernel_rfl, fun _ => by kernel_rfl, fun _ _ => by kernel_rfl, fun _ => by kernel_rfl, fun _ _ => by kernel_rfl⟩
theorem hexSizes : ∀ r ∈ hexTab, (Str.ofString r.2.1).length ≤ sizeLine ∧ (Str.ofString r.2.2).length ≤ sizeLine ∧ (ascii r.2.1).size ≤ sizeLine ∧ (ascii r.2.2).size ≤ sizeLine := by
  intro r hr
  simp only [hexTab, List.mem_cons, List.not_mem_nil, or_false] at hr
  rcases hr with rfl | rfl | rfl | rfl <;> decide +kernel

theorem gives_str_of {t : Sem PySem.Fin} {x : Str} (e : t = (mkStr x >>= fun v => ret v)) (hx : x.length ≤ sizeLine) : Gives t (.str x) := by
  subst e
  intro prog w A R s h
  exact wpAny_bind (wpAny_mkStr (wpAny_pure h.2) hx)
theorem wpAny_mkBytes' {M : Model} {A : Around} {E : Value → Shared → Prop} {s : Shared} {b : Array UInt8} {Q : Value → Shared → Prop} (h : Q (.bytes b s.toks) { s with toks := s.toks + 1 }) (hb : b.size ≤ sizeLine) : wpAny M A (mkBytes b) Q E s := by
  unfold mkBytes
  rw [if_neg (by omega)]
  exact fun _ _ _ => h

theorem slot_bytes_upper : Slot "bytes" "upper" "bytes.upper" :=
  .of (owner := "bytes") (n := "upper") (by rw [typeLookup_type, builtinLookup_eq_fast]; kernel_rfl) (by decide +kernel) (by decide +kernel) (by decide +kernel)
    (by first | exact .inl (by decide +kernel) | exact .inr (by decide +kernel)) (by rw [isSubtype_type]; kernel_rfl)
theorem type_bytes_upper : typeOf (.builtin "bytes.upper") = pure (.type "method_descriptor") := by show builtinType _ = _; rw [builtinType_eq_fast]; kernel_rfl
theorem entry_bytes_upper : entryFor table "bytes.upper" = some Builtin.«bytes.upper» := entryFor_of_tree (by kernel_rfl)
theorem args_bytes_upper_1 (a : Value) : argsOk "bytes.upper" ⟨[a], []⟩ := by unfold argsOk; kernel_rfl
theorem args_bytes_decode_2 (a b : Value) : argsOk "bytes.decode" ⟨[a, b], []⟩ := by unfold argsOk; kernel_rfl

section
variable {prog : Program} {w : World} {A : Around} {s : Shared} {g : Heap}
theorem str_lit (x : String) (y : Str) : (Str.ofString x == y) = true → y = Str.ofString x := fun h => (beq_iff_eq.mp h).symm

theorem tab_inv {p : List UInt8 × String × String → Bool} {f : List UInt8 × String × String → D} {d : D} (h : (hexTab.find? p).map f = some d) : ∃ r, r ∈ hexTab ∧ p r = true ∧ f r = d := by
  obtain ⟨r, h1, h2⟩ := map_some h
  exact ⟨r, List.mem_of_find?_eq_some h1, List.find?_some h1, h2⟩
theorem met0_ok {m : Str} {x d : D} {v : Value} {pos : Pos} {Q E : Value → Shared → Prop} (h : met0 m x = some d) (l : Sub g s.heap) (a : Den g v x)
    (k : ∀ v g' s', Ext g s g' s' → Den g' v d → Q v s') : MethodOnS prog w A E m v pos [] Q s := by
  induction a using Den.casesOn with
  | bytes b t =>
    refine ite_elim h (fun hm q => ?_) fun _ h1 => ite_elim h1 (fun hm q => ?_) fun _ h2 => ns h2 <;> clear h <;> try clear h1
    all_goals subst hm
    · obtain ⟨r, hr, hb, rfl⟩ := tab_inv q
      obtain rfl := beq_iff_eq.mp hb
      have hz := hexSizes r hr
      exact ⟨"bytes", _, FB.plainAttrs_bytes, FB.slot_bytes_hex, FB.type_bytes_hex, PySem.W.typeIs_bytes _ _ _, (fun _ e => nomatch e),
        method0_gives FB.slot_bytes_hex FB.entry_bytes_hex (PySem.W.typeIs_bytes _ _ _) (FB.args_bytes_hex_1 _) (gives_str_of ((hexRows r hr).1 t) hz.1) ⟨hz.1, k _ g _ (.toks l _) (.str _ _)⟩⟩
    · obtain ⟨r, hr, hb, rfl⟩ := tab_inv q
      obtain rfl := beq_iff_eq.mp hb
      have hz := hexSizes r hr
      refine ⟨"bytes", _, FB.plainAttrs_bytes, slot_bytes_upper, type_bytes_upper, PySem.W.typeIs_bytes _ _ _, (fun _ e => nomatch e), ?_⟩
      refine seqMethod0_meets slot_bytes_upper entry_bytes_upper (PySem.W.typeIs_bytes _ _ _) (args_bytes_upper_1 _) (S := fun _ R s => R (.ok (.ret (.bytes (ascii r.2.2) s.toks))) { s with toks := s.toks + 1 }) (fun prog w A R s hR => ?_) ?_
      · rw [(hexRows r hr).2.1 t]
        exact wpAny_bind (wpAny_mkBytes' (wpAny_pure hR) hz.2.2.2)
      · exact k _ g _ (.toks l _) (.bytes _ _)
  | _ => exact ns h

section
variable {m x y : Str} {d : D} {t : Tok} {ta : Sem Value} {pos : Pos} {Q E : Value → Shared → Prop}
theorem encode_ok (h : ((hexTab.find? fun r => Str.ofString r.2.1 == x).map fun r => D.bytes (ascii r.2.1)) = some d) (ha : Ev (model prog w) A ta g s (.str "ascii"))
    (k : ∀ v g' s', Ext g s g' s' → Den g' v d → Q v s') : MethodOnS prog w A E "encode" (.str x t) pos [(false, ta)] Q s := by
  obtain ⟨r, hr, hb, rfl⟩ := tab_inv h
  obtain rfl := beq_iff_eq.mp hb
  have hz := hexSizes r hr
  refine ⟨"str", _, F.plainAttrs_str, F.slot_str_encode, F.type_str_encode, typeIs_str _ _ _, (fun _ e => nomatch e),
    method1_meets F.slot_str_encode F.entry_str_encode (ha _ _ fun v g₁ s₁ x₁ hv => ?_)⟩
  obtain ⟨u, rfl⟩ := hv.inv
  refine ⟨typeIs_str _ _ _, F.args_str_encode_2 _ _, (fun _ R s => R (.ok (.ret (.bytes (ascii r.2.1) s.toks))) { s with toks := s.toks + 1 }), fun prog w A R s hR => ?_, k _ g₁ _ (x₁.trans (.toks x₁.low _)) (.bytes _ _)⟩
  rw [(hexRows r hr).2.2.1 t u]
  exact wpAny_bind (wpAny_mkBytes' (wpAny_pure hR) hz.2.2.1)
theorem decode_ok {b : Array UInt8} (h : ((hexTab.find? fun r => ascii r.2.2 == b).map fun r => D.str (Str.ofString r.2.2)) = some d) (ha : Ev (model prog w) A ta g s (.str "ascii"))
    (k : ∀ v g' s', Ext g s g' s' → Den g' v d → Q v s') : MethodOnS prog w A E "decode" (.bytes b t) pos [(false, ta)] Q s := by
  obtain ⟨r, hr, hb, rfl⟩ := tab_inv h
  obtain rfl := beq_iff_eq.mp hb
  have hz := hexSizes r hr
  refine ⟨"bytes", _, FB.plainAttrs_bytes, FB.slot_bytes_decode, FB.type_bytes_decode, PySem.W.typeIs_bytes _ _ _, (fun _ e => nomatch e),
    method1_meets FB.slot_bytes_decode FB.entry_bytes_decode (ha _ _ fun v g₁ s₁ x₁ hv => ?_)⟩
  obtain ⟨u, rfl⟩ := hv.inv
  refine ⟨PySem.W.typeIs_bytes _ _ _, args_bytes_decode_2 _ _, (fun _ R s => ∀ t' k, R (.ok (.ret (.str (Str.ofString r.2.2) t'))) { s with toks := k }), fun prog w A R s hR => ?_, fun t' k' => k _ g₁ _ (x₁.trans (.toks x₁.low _)) (.str _ _)⟩
  rw [(hexRows r hr).2.2.2.2 t u]
  refine wpAny_bind (wpAny_mkStr ?_ (by decide))
  refine wpAny_bind (wpAny_mkStr ?_ (by decide))
  refine wpAny_bind (wpAny_mkStr ?_ (by decide))
  refine wpAny_bind (call_function_meets KBd.kind_text KBd.plain_text KBd.entry_text (KBd.args_text _ _ _ _) (S := fun _ R s => R (.ok (.ret (.str (Str.ofString r.2.2) s.toks))) { s with toks := s.toks + 1 }) (fun prog w A R s hR => ?_) (wpAny_pure (hR _ _)))
  show wpAny _ _ (Bytes.bytesLike _ (.bytes _ t) >>= fun r => _) _ _ s
  refine wpAny_bind (wpAny_of_eq KBd.like_eq ?_)
  refine wpAny_bind (wpAny_of_eq KBd.held_eq ?_)
  show wpAny _ _ (_codecs.decodeRoad _ (ascii r.2.2) (Str.ofString "ascii") none [] >>= fun v => _) _ _ s
  rw [(hexRows r hr).2.2.2.1]
  exact wpAny_bind (wpAny_mkStr (wpAny_pure hR) hz.2.1)
theorem strM_ok (hx : x.length ≤ lim) (h : strM m x y = some d) (ha : Ev (model prog w) A ta g s (.str y))
    (k : ∀ v g' s', Ext g s g' s' → Den g' v d → Q v s') : MethodOnS prog w A E m (.str x t) pos [(false, ta)] Q s := by
  refine ite_elim h (fun hm q => ?_) fun _ h1 => ite_elim h1 (fun hm q => ?_) fun _ h2 => ite_elim h2 (fun hm q => ?_) fun _ h3 => ite_elim h3 (fun hm q => ?_) fun _ h4 => ite_elim h4 (fun hm q => ?_) fun _ h5 =>
    ite_elim h5 (fun hm q => ?_) fun _ h6 => ns h6 <;> clear h <;> try clear h1 <;> try clear h2 <;> try clear h3 <;> try clear h4 <;> try clear h5
  all_goals subst hm
  · obtain rfl := so q
    exact SB.startswith (ha _ _ fun v g₁ s₁ x₁ hv => by obtain ⟨u, rfl⟩ := hv.inv; exact ⟨_, _, rfl, k _ g₁ _ x₁ (.bool _)⟩)
  · obtain rfl := so q
    exact SB.endswith (ha _ _ fun v g₁ s₁ x₁ hv => by obtain ⟨u, rfl⟩ := hv.inv; exact ⟨_, _, rfl, k _ g₁ _ x₁ (.bool _)⟩)
  · obtain rfl := so q
    exact SB.rfind (ha _ _ fun v g₁ s₁ x₁ hv => by obtain ⟨u, rfl⟩ := hv.inv; exact ⟨_, _, rfl, k _ g₁ _ (x₁.trans (.toks x₁.low _)) (.int _ _)⟩)
  · obtain rfl := so q
    exact SB.rstripChars (ha _ _ fun v g₁ s₁ x₁ hv => by obtain ⟨u, rfl⟩ := hv.inv; exact ⟨_, _, rfl, fun t' k' => k _ g₁ _ (x₁.trans (.toks x₁.low _)) (.str _ _)⟩) (lim_le hx)
  · obtain ⟨hz, rfl⟩ := ite_some q
    exact split_ok hx hz.1 hz.2.2 ha k
  · obtain ⟨rfl, h2⟩ := ite_get q
    exact encode_ok h2 ha k
end
theorem met1_ok {m : Str} {x y d : D} {v : Value} {ta : Sem Value} {pos : Pos} {Q E : Value → Shared → Prop} (h : met1 m x y = some d) (a : Den g v x) (ha : Ev (model prog w) A ta g s y)
    (k : ∀ v g' s', Ext g s g' s' → Den g' v d → Q v s') : MethodOnS prog w A E m v pos [(false, ta)] Q s := by
  induction a using Den.casesOn with
  | str x t => induction y using D.casesOn with
    | str y => exact strM_ok (ite_get (c := x.length ≤ lim) h).1 (ite_get (c := x.length ≤ lim) h).2 ha k
    | list ds =>
      obtain ⟨hm, h1⟩ := ite_get (c := m = ("join" : Str)) h
      obtain ⟨ys, hs, h2⟩ := bind_some h1
      obtain ⟨hj, rfl⟩ := ite_some h2
      subst hm
      exact join_ok hs hj ha k
    | _ => exact ns h
  | bytes b t => induction y using D.casesOn with
    | str y =>
      obtain ⟨hm, h1⟩ := ite_get (c := m = ("decode" : Str)) h
      obtain ⟨rfl, h2⟩ := ite_get h1
      subst hm
      exact decode_ok h2 ha k
    | _ => exact ns h
  | _ => exact ns h
end
end Mine
end

/-! part Ml -/
section
open PySem PySem.W PyProof.Rows PySem.Calls
set_option maxHeartbeats 2000000
set_option linter.unusedVariables false
set_option linter.unusedSimpArgs false
set_option tactic.hygienic false
namespace Mine

structure Fs (K : Frag) (mg mb : Str → Option Value) (env : Env) (g : Heap) (σ : Vars) (s : Shared) : Prop where
  wd : Wd K mg mb g
  low : Sub g s.heap
  kind : env.scope.kind = .function
  glob : env.globals = mainGlobals
  blt : env.builtins = builtinsNs
  loc : ∃ m, s.heap.Ns env.locals m ∧ ∀ x d, σ x = some d → env.kindOf x = some .local → ∃ v, m x = some v ∧ Den g v d
  cel : ∀ x d, σ x = some d → env.kindOf x = some .cell → ∃ c v, env.cells.lookup x = some c ∧ s.heap.IsCell c (some v) ∧ Den g v d
  all : ∀ x, env.kindOf x = some .cell → ∃ c, env.cells.lookup x = some c
theorem Fs.ext {K : Frag} {mg mb : Str → Option Value} {env : Env} {g g' : Heap} {σ : Vars} {s s' : Shared} (F : Fs K mg mb env g σ s) (x : Ext g s g' s') : Fs K mg mb env g' σ s' where
  wd := F.wd.sub x.sub
  low := x.low
  kind := F.kind
  glob := F.glob
  blt := F.blt
  loc := let ⟨m, h1, h2⟩ := F.loc; ⟨m, h1.keeps x.kept, fun y d e k => let ⟨v, e1, e2⟩ := h2 y d e k; ⟨v, e1, e2.sub x.sub⟩⟩
  cel := fun y d e k => let ⟨c, v, e1, e2, e3⟩ := F.cel y d e k; ⟨c, v, e1, e2.keeps x.kept, e3.sub x.sub⟩
  all := F.all

section
variable {prog : Program} {w : World} {K : Frag} {mg mb : Str → Option Value} {A : Around} {s : Shared} {g : Heap} {env : Env} {σ : Vars} {cx : Cx} {d : D}

theorem valD_den {v : Value} {d : D} {g : Heap} (h : valD v = some d) : Den g v d := by
  induction v using Value.casesOn with
  | ref => obtain rfl := so h; exact .glob _
  | type => obtain rfl := so h; exact .typ _
  | builtin => obtain rfl := so h; exact .bi _
  | int => obtain rfl := so h; exact .int _ _
  | _ => exact ns h
theorem nameD_debug {x : Str} {sc : Scope} (h : nameD cx x sc σ = some d) : (x == ("__debug__" : Str)) = false := (ite_none h).1
theorem kindD_inv {x : Str} {o : Option NameKind} (h : kindD cx x σ o = some d) : (o = some .local ∨ o = some .cell) ∧ σ x = some d ∨ o = some .globalImplicit ∧ ∃ v, cx.gl x = some v ∧ valD v = some d := by
  induction o using Option.casesOn with
  | none => exact ns h
  | some k => induction k using NameKind.casesOn with
    | «local» => exact .inl ⟨.inl rfl, h⟩
    | cell => exact .inl ⟨.inr rfl, h⟩
    | globalImplicit => exact .inr ⟨rfl, bind_some h⟩
    | _ => exact ns h
theorem load_ok {x : Str} (G : GlOK cx.gl mg mb) (F : Fs K mg mb env g σ s) (h : nameD cx x env.scope σ = some d) : Ev (model prog w) A (loadName env x) g s d := by
  intro Q E k
  rcases kindD_inv (ite_none h).2 with ⟨hl | hl, h⟩ | ⟨hl, v, hg, h⟩
  · obtain ⟨m, hn, hm⟩ := F.loc
    obtain ⟨v, hv, hden⟩ := hm x d h hl
    exact wpAny_loadName_local F.kind hl hn hv (k v g s (.refl F.low) hden)
  · obtain ⟨c, v, hc, hv, hden⟩ := F.cel x d h hl
    exact wpAny_loadName_cell F.kind hl hc hv (k v g s (.refl F.low) hden)
  · rw [loadName_read F.kind hl]
    have hq := k v g s (.refl F.low) (valD_den h)
    rcases G.ok x v hg with e | ⟨e1, e2⟩
    · exact loadGlobal_global (mg := mg) (by rw [F.glob]; exact F.wd.nsG.keeps F.low) e hq
    · exact loadGlobal_builtin (mg := mg) (mb := mb) (by rw [F.glob]; exact F.wd.nsG.keeps F.low) e1 (by rw [F.blt]; exact F.wd.nsB.keeps F.low) e2 hq
theorem name_ok {x : Str} {pos : Pos} (G : GlOK cx.gl mg mb) (F : Fs K mg mb env g σ s) (h : nameD cx x env.scope σ = some d) : Ev (model prog w) A (eval (.Name x pos) env) g s d :=
  fun Q E k => wpAny_Name (load_ok G F h Q E k) (nameD_debug h)

theorem const_ok {c : Const} {k : Nat} {pos : Pos} (l : Sub g s.heap) (h : constD c = some d) : Ev (model prog w) A (eval (.Constant c k pos) env) g s d := by
  intro Q E q
  induction c using Const.casesOn with
  | none => obtain rfl := so h; exact wpAny_Constant_none (q _ g s (.refl l) .none)
  | bool => obtain rfl := so h; exact wpAny_Constant_bool (q _ g s (.refl l) (.bool _))
  | int => obtain rfl := so h; exact wpAny_Constant_int (q _ g _ (.toks l _) (.int _ _))
  | str => obtain rfl := so h; exact wpAny_Constant_str (q _ g _ (.toks l _) (.str _ _))
  | _ => exact ns h

theorem binop_ok {a b : D} {l r : Expr} {op : Operator} {pos : Pos} (ha : Ev (model prog w) A (eval l env) g s a) (hb : ∀ g' s', Ext g s g' s' → Ev (model prog w) A (eval r env) g' s' b) (h : binD op a b = some d) :
    Ev (model prog w) A (eval (.BinOp l op r pos) env) g s d := fun Q E k =>
  wpAny_BinOp (ha _ _ fun va g₁ s₁ x₁ da => hb g₁ s₁ x₁ _ _ fun vb g₂ s₂ x₂ db => binD_ok h x₂.low (da.sub x₂.sub) db _ _ fun v g₃ s₃ x₃ dv => k v g₃ s₃ (x₁.trans (x₂.trans x₃)) dv)

theorem neg_ok {a : D} {va : Value} (h : negD a = some d) (l : Sub g s.heap) (da : Den g va a) : Ev (model prog w) A (unaryOp .USub va) g s d := by
  intro Q E k
  induction da using Den.casesOn with
  | int i t => obtain rfl := so h; exact P.neg_int (k _ g _ (.toks l _) (.int _ _))
  | _ => exact ns h
theorem unop_ok {a : D} {x : Expr} {op : UnaryOp} {pos : Pos} (ha : Ev (model prog w) A (eval x env) g s a) (h : unD op a = some d) : Ev (model prog w) A (eval (.UnaryOp op x pos) env) g s d := by
  intro Q E k
  refine UnaryOp_ (ha _ _ fun va g₁ s₁ x₁ da => ?_)
  induction op using UnaryOp.casesOn with
  | Not =>
    obtain ⟨b, ht, rfl⟩ := map_some h
    exact not_of (truD_ok ht x₁.low da _ _ fun g₂ s₂ x₂ => k _ g₂ s₂ (x₁.trans x₂) (.bool _))
  | USub => exact neg_ok h x₁.low da _ _ fun v g₂ s₂ x₂ dv => k v g₂ s₂ (x₁.trans x₂) dv
  | _ => exact ns h

theorem ifexp_ok {t b o : Expr} {pos : Pos} {c : Bool} (ht : EvB (model prog w) A (isTrue t env (eval t env)) g s c) (hb : c = true → ∀ g' s', Ext g s g' s' → Ev (model prog w) A (eval b env) g' s' d)
    (ho : c = false → ∀ g' s', Ext g s g' s' → Ev (model prog w) A (eval o env) g' s' d) : Ev (model prog w) A (eval (.IfExp t b o pos) env) g s d := by
  intro Q E k
  refine IfExp_ (ht _ _ fun g₁ s₁ x₁ => ?_)
  induction c using Bool.casesOn with
  | true => exact hb rfl g₁ s₁ x₁ _ _ fun v g₂ s₂ x₂ dv => k v g₂ s₂ (x₁.trans x₂) dv
  | false => exact ho rfl g₁ s₁ x₁ _ _ fun v g₂ s₂ x₂ dv => k v g₂ s₂ (x₁.trans x₂) dv

theorem compare_ok {a b : D} {l r : Expr} {op : CmpOp} {pos : Pos} {c : Bool} (hA : Rm A 3) (hm : behindInMarks op r = false) (ha : Ev (model prog w) A (eval l env) g s a) (hb : ∀ g' s', Ext g s g' s' → Ev (model prog w) A (eval r env) g' s' b)
    (h : ccD op a b = some c) : Ev (model prog w) A (eval (.Compare l [op] [r] pos) env) g s (.bool c) := fun Q E k =>
  wpAny_Compare1 (ha _ _ fun va g₁ s₁ x₁ da => hb g₁ s₁ x₁ _ _ fun vb g₂ s₂ x₂ db => ccD_ok hA h x₂.low (da.sub x₂.sub) db _ _ (k _ g₂ s₂ (x₁.trans x₂) (.bool _))) hm
theorem compareT_ok {a b : D} {l r : Expr} {op : CmpOp} {pos : Pos} {c : Bool} {whole : Sem Value} (hA : Rm A 3) (hm : behindInMarks op r = false) (ha : Ev (model prog w) A (eval l env) g s a) (hb : ∀ g' s', Ext g s g' s' → Ev (model prog w) A (eval r env) g' s' b)
    (h : ccD op a b = some c) : EvB (model prog w) A (isTrue (.Compare l [op] [r] pos) env whole) g s c := fun Q E k =>
  wpAny_isTrue_Compare1 (ha _ _ fun va g₁ s₁ x₁ da => hb g₁ s₁ x₁ _ _ fun vb g₂ s₂ x₂ db => ccD_ok hA h x₂.low (da.sub x₂.sub) db _ _ (wpAny_truthy_bool (k g₂ s₂ (x₁.trans x₂)))) hm

theorem starEach_cons (e : Expr) (r : List Expr) (env : Env) : ∃ t, starEach (e :: r) env = (isStar e, t) :: starEach r env := by
  induction e using PySem.Expr.casesOn <;> exact ⟨_, rfl⟩
theorem lone_star {args : List Expr} {pos : Pos} {env : Env} {x : Sem Value} (h : backTo pos (starEach args env) = [(true, x)]) : badArgs args = true := by
  rcases args with _ | ⟨e, _ | ⟨f, r⟩⟩
  · exact nomatch congrArg List.length h
  · obtain ⟨t, ht⟩ := starEach_cons e [] env
    rw [ht] at h
    have h1 : some (isStar e) = some true := congrArg (fun l => l.head?.map Prod.fst) h
    injection h1 with h1
    show (false || (true && (isStar e || false))) = true
    rw [h1]; rfl
  · obtain ⟨t, ht⟩ := starEach_cons e (f :: r) env
    obtain ⟨u, hu⟩ := starEach_cons f r env
    rw [ht, hu] at h
    exact nomatch congrArg List.length h
theorem eval_call {f : Expr} {args : List Expr} {pos : Pos} {env : Env} (hf : isAttr f = false) : eval (.Call f args [] pos) env = (do callWith pos (← eval f env) [] (backTo pos (starEach args env)) []) := by
  induction f using Expr.casesOn with
  | Attribute => exact nf hf.symm
  | _ => rfl
theorem call_ok {f : Expr} {args : List Expr} {pos : Pos} {fd : D} {ds : List D} {n : Nat} (C : CallOK prog w K mg mb n cx.call) (S : SortOK prog w cx.sort) (hA : Rm A (n + 8)) (hf : isAttr f = false) (hbad : badArgs args = false) (F : Fs K mg mb env g σ s)
    (ha : Ev (model prog w) A (eval f env) g s fd) (hb : ∀ g' s', Ext g s g' s' → EvL (model prog w) A (spliced (backTo pos (starEach args env))) g' s' ds) (h : callD cx fd ds = some d) :
    Ev (model prog w) A (eval (.Call f args [] pos) env) g s d := by
  intro Q E k
  rw [eval_call hf]
  refine wpAny_bind (ha _ _ fun fv g₁ s₁ x₁ df => ?_)
  refine callWith_ok (fun x hx => by rw [lone_star hx] at hbad; exact nf hbad.symm) (fun s' R l hR => keeper_ok (g := g₁) C (F.ext x₁).wd h df s' R (x₁.low.trans' l) hR) (hb g₁ s₁ x₁ _ _ fun vs g₂ s₂ x₂ dv => ⟨x₂.kept, callD_ok C S hA ((F.ext x₁).ext x₂).wd x₂.low h (df.sub x₂.sub) dv _ _ fun v g₃ s₃ x₃ dv => k v g₃ s₃ (x₁.trans (x₂.trans x₃)) dv⟩)
end
end Mine
end

/-! part Mm -/
section
open PySem PySem.W PyProof.Rows PySem.Calls
set_option maxHeartbeats 2000000
set_option linter.unusedVariables false
set_option linter.unusedSimpArgs false
set_option tactic.hygienic false
namespace Mine

noncomputable def seqLike : D → Bool
  | .str _ => true
  | .list _ => true
  | .tup _ => true
  | _ => false

section
variable {prog : Program} {w : World} {K : Frag} {mg mb : Str → Option Value} {A : Around} {s : Shared} {g : Heap} {env : Env} {σ : Vars} {cx : Cx} {d : D}

/-- the tail of a subscript -/
theorem sub_tail {value slice : Expr} {o i : Value} {T id : String} {Q E : Value → Shared → Prop} (hT : s.TypeIs o T) (hl : typeLookup (.type T) "__getitem__" = pure (some (.builtin id)))
    (hg : wpAny (model prog w) A (getItem o i) Q E s) :
    wpAny (model prog w) A (do let r ← subscripted slice (← getitemInPython o) o i; letTemporaryGo value o r; pure r) Q E s := by
  refine wpAny_bind ?_
  rw [getitemInPython_of_ne hT.not_modules]
  refine wpAny_bind (wpAny_specialOf hT hl ?_)
  have fin : wpAny (model prog w) A (subscripted slice false o i) (fun r s₃ => wpAny (model prog w) A (letTemporaryGo value o r >>= fun _ => pure r) Q E s₃) E s := by
    have : ∃ ops, subscripted slice false o i = operate ops (getItem o i) := by
      unfold subscripted
      split
      · exact ⟨_, rfl⟩
      · rename_i h; contradiction
      · exact ⟨_, rfl⟩
    obtain ⟨ops, e⟩ := this
    rw [e]
    exact wpAny_operating (wpAny_mono hg (fun r s₃ h₃ => wpAny_bind (wpAny_letTemporaryGo (wpAny_pure h₃))) fun _ _ x => x)
  first
    | exact wpAny_pure (wpAny_bind fin)
    | exact wpAny_bind (wpAny_pure (wpAny_bind fin))
    | exact wpAny_bind fin

/-- the type that a subscripted thing has -/
theorem subT {v : Value} {x : D} (l : Sub g s.heap) (a : Den g v x) (hx : seqLike x = true) :
    ∃ T id, s.TypeIs v T ∧ typeLookup (.type T) "__getitem__" = pure (some (.builtin id)) := by
  induction a using Mine.Den.casesOn with
  | str x t => exact ⟨"str", _, typeIs_str _ _ _, F.slot_str_getitem.lookup⟩
  | list a1 a2 => exact ⟨"list", _, ⟨_, l _ _ a1, rfl⟩, F.slot_list_getitem.lookup⟩
  | tup a1 a2 => exact ⟨"tuple", _, ⟨_, l _ _ a1, rfl⟩, F.slot_tuple_getitem.lookup⟩
  | _ => exact nf hx

theorem idxD_seq {x y d : D} (h : idxD x y = some d) : seqLike x = true := by
  induction y using D.casesOn with
  | int i => induction x using D.casesOn with
    | list | tup | str => rfl
    | _ => exact ns h
  | _ => exact ns h
theorem slD_seq {x y z d : D} (h : slD x y z = some d) : seqLike x = true := by
  obtain ⟨_, _, h⟩ := bind_some h
  obtain ⟨_, _, h⟩ := bind_some h
  induction x using D.casesOn with
  | list | str => rfl
  | _ => exact ns h
theorem sub_ok {v i : Expr} {pos : Pos} {x y : D} (ha : Ev (model prog w) A (eval v env) g s x) (hb : ∀ g' s', Ext g s g' s' → Ev (model prog w) A (eval i env) g' s' y) (h : idxD x y = some d) :
    Ev (model prog w) A (eval (.Subscript v i pos) env) g s d := by
  intro Q E k
  rw [eval_Subscript]
  refine wpAny_bind (ha _ _ fun va g₁ s₁ x₁ da => wpAny_bind (wpAny_holding (hb g₁ s₁ x₁ _ _ fun vb g₂ s₂ x₂ db => wpAny_bind (wpAny_standAt ?_))))
  have hx : seqLike x = true := idxD_seq h
  obtain ⟨T, id, hT, hl⟩ := subT x₂.low (da.sub x₂.sub) hx
  exact sub_tail hT hl (idxD_ok h x₂.low (da.sub x₂.sub) db _ _ fun v g₃ s₃ x₃ dv => k v g₃ s₃ (x₁.trans (x₂.trans x₃)) dv)

theorem sl_ok {v : Expr} {lo hi : Option Expr} {p pos : Pos} {x y z : D} (ha : Ev (model prog w) A (eval v env) g s x) (hb : ∀ g' s', Ext g s g' s' → Ev (model prog w) A (evalPart lo env) g' s' y)
    (hc : ∀ g' s', Ext g s g' s' → Ev (model prog w) A (evalPart hi env) g' s' z) (h : slD x y z = some d) : Ev (model prog w) A (eval (.Subscript v (.Slice lo hi none p) pos) env) g s d := by
  intro Q E k
  rw [eval_Subscript]
  refine wpAny_bind (ha _ _ fun va g₁ s₁ x₁ da => wpAny_bind (wpAny_holding ?_))
  refine wpAny_Slice (hb g₁ s₁ x₁ _ _ fun vb g₂ s₂ x₂ db => hc g₂ s₂ (x₁.trans x₂) _ _ fun vc g₃ s₃ x₃ dc => evalPart_none_step (wpAny_bind (wpAny_standAt ?_)))
  obtain ⟨g₄, x₄, e₄⟩ := Ext.push x₃.low ({ cls := .type "slice", data := .fields #[vb, vc, .none] } : Obj) s₃.toks
  have x₂₄ := x₂.trans (x₃.trans x₄)
  have hx : seqLike x = true := slD_seq h
  obtain ⟨T, id, hT, hl⟩ := subT x₄.low (da.sub x₂₄.sub) hx
  refine sub_tail hT hl (slD_ok h x₄.low (da.sub x₂₄.sub) (db.sub (x₃.trans x₄).sub) (dc.sub x₄.sub) ⟨_, x₄.low _ _ e₄, rfl, rfl⟩ _ _ fun v g₅ s₅ x₅ dv => k v g₅ s₅ (x₁.trans (x₂₄.trans x₅)) dv)

theorem tup_ok {es : List Expr} {k : Nat} {pos : Pos} {ds : List D} (ha : EvL (model prog w) A (spliced (backTo pos (starEach es env))) g s ds) (hz : ds.length ≤ lim) :
    Ev (model prog w) A (eval (.Tuple es k pos) env) g s (.tup ds) := fun Q E k =>
  Tuple_ (ha _ _ fun vs g₁ s₁ x₁ dv => Ev.newTuple x₁.low dv (lim_le (by rw [dv.length]; exact hz)) _ _ fun v g₂ s₂ x₂ dv => k v g₂ s₂ (x₁.trans x₂) dv)
theorem list_ok {es : List Expr} {pos : Pos} {ds : List D} (ha : EvL (model prog w) A (spliced (backTo pos (starEach es env))) g s ds) (hz : ds.length ≤ lim) :
    Ev (model prog w) A (eval (.List es pos) env) g s (.list ds) := fun Q E k =>
  List_ (ha _ _ fun vs g₁ s₁ x₁ dv => Ev.newList x₁.low dv (lim_le (by rw [dv.length]; exact hz)) _ _ fun v g₂ s₂ x₂ dv => k v g₂ s₂ (x₁.trans x₂) dv)

theorem spl_nil {pos : Pos} (l : Sub g s.heap) : EvL (model prog w) A (spliced (backTo pos (starEach [] env))) g s [] := fun Q E k => spliced_none (k [] g s (.refl l) .nil)
theorem starEach_plain {e : Expr} {r : List Expr} (he : isStar e = false) : starEach (e :: r) env = (false, eval e env) :: starEach r env := by
  induction e using PySem.Expr.casesOn <;> first | rfl | contradiction
theorem spl_cons {e : Expr} {r : List Expr} {pos : Pos} {x : D} {ds : List D} (he : isStar e = false) (ha : Ev (model prog w) A (eval e env) g s x)
    (hb : ∀ g' s', Ext g s g' s' → EvL (model prog w) A (spliced (backTo pos (starEach r env))) g' s' ds) : EvL (model prog w) A (spliced (backTo pos (starEach (e :: r) env))) g s (x :: ds) := fun Q E k =>
  spliced_more (ha _ _ fun v g₁ s₁ x₁ dv => hb g₁ s₁ x₁ _ _ fun vs g₂ s₂ x₂ dvs => k (v :: vs) g₂ s₂ (x₁.trans x₂) (.cons (dv.sub x₂.sub) dvs)) (starEach_plain he)
theorem spl_star {e : Expr} {p pos : Pos} {r : List Expr} {xs ds : List D} (hz : xs.length ≤ lim) (ha : Ev (model prog w) A (eval e env) g s (.list xs))
    (hb : ∀ g' s', Ext g s g' s' → EvL (model prog w) A (spliced (backTo pos (starEach r env))) g' s' ds) : EvL (model prog w) A (spliced (backTo pos (starEach (.Starred e p :: r) env))) g s (xs ++ ds) := by
  intro Q E k
  refine items_star (ha _ _ fun v g₁ s₁ x₁ dv => ?_)
  cases dv with
  | @list a vs _ n a1 a2 =>
    have hT : s₁.TypeIs (.ref a) "list" := ⟨_, x₁.low _ _ a1, rfl⟩
    unfold StarOf notIterableAtAll
    refine wpAny_bind (wpAny_specialOf hT F.slot_list_iter.lookup (wpAny_pure ⟨rfl, ?_⟩))
    refine collect_list (isList_of (x₁.low _ _ a1)) ?_ (lim_le (by rw [a2.length]; exact hz))
    have hk : Sub s₁.heap ((s₁.heap.push (seqObj "list" #[] 0)).update s₁.heap.objs.size (Obj.mapSeq (· ++ vs.toArray))) := by
      intro b o e
      rw [Heap.get?_update_other]
      · exact Heap.get?_push_of_some _ e
      · exact Ne.symm (Nat.ne_of_lt (Heap.lt_size e))
    have x₂ : Ext g₁ s₁ g₁ { s₁ with heap := (s₁.heap.push (seqObj "list" #[] 0)).update s₁.heap.objs.size (Obj.mapSeq (· ++ vs.toArray)) } := Ext.grown x₁.low hk s₁.toks
    exact hb _ _ (x₁.trans x₂) _ _ fun ws g₃ s₃ x₃ dw => k (vs ++ ws) g₃ s₃ (x₁.trans (x₂.trans x₃)) ((a2.sub (x₂.trans x₃).sub).append dw)

theorem base_plain {o : Expr} {m : Str} (h : bareCall o = false) : attributeBase o m env (eval o env) = eval o env := by
  induction o using Expr.casesOn with
  | Call f args kws p => induction f using Expr.casesOn with
    | Name => induction args using List.casesOn with
      | nil => induction kws using List.casesOn with
        | nil => exact nf h.symm
        | cons => rfl
      | cons => rfl
    | _ => rfl
  | _ => rfl
theorem meth0_ok {o : Expr} {m : Str} {ap pos : Pos} {x : D} (hb : bareCall o = false) (hl : (ap.endLine == pos.line) = true) (ha : Ev (model prog w) A (eval o env) g s x) (h : met0 m x = some d) :
    Ev (model prog w) A (eval (.Call (.Attribute o m ap) [] [] pos) env) g s d := fun Q E k =>
  Call_method0 (base_plain hb) hl (ha _ _ fun v g₁ s₁ x₁ dv => met0_ok h x₁.low dv fun v g₂ s₂ x₂ dv => k v g₂ s₂ (x₁.trans x₂) dv)
theorem meth1_ok {o e : Expr} {m : Str} {ap pos : Pos} {x y : D} (hb : bareCall o = false) (hl : (ap.endLine == pos.line) = true) (hs : isStar e = false) (ha : Ev (model prog w) A (eval o env) g s x)
    (hy : ∀ g' s', Ext g s g' s' → Ev (model prog w) A (eval e env) g' s' y) (h : met1 m x y = some d) :
    Ev (model prog w) A (eval (.Call (.Attribute o m ap) [e] [] pos) env) g s d := fun Q E k =>
  Call_method1 (base_plain hb) (by rw [starEach_plain hs]; rfl) hl (ha _ _ fun v g₁ s₁ x₁ dv => met1_ok h dv (hy _ _ x₁) fun v g₂ s₂ x₂ dv => k v g₂ s₂ (x₁.trans x₂) dv)

theorem bool_more {e f : Expr} {r : List Expr} {op : BoolOp} {pos : Pos} {x : D} {b : Bool} (ha : Ev (model prog w) A (eval e env) g s x) (ht : truD x = some b)
    (hq : (op = .And ∧ b = false ∨ op = .Or ∧ b = true) → d = x)
    (hr : ¬ (op = .And ∧ b = false ∨ op = .Or ∧ b = true) → ∀ g' s', Ext g s g' s' → Ev (model prog w) A (eval (.BoolOp op (f :: r) pos) env) g' s' d) :
    Ev (model prog w) A (eval (.BoolOp op (e :: f :: r) pos) env) g s d := by
  intro Q E k
  induction op using PySem.BoolOp.casesOn with
  | And =>
    refine BoolOp_and (ha _ _ fun v g₁ s₁ x₁ dv => truD_ok ht x₁.low dv _ _ fun g₂ s₂ x₂ => ?_)
    cases b with
    | false => cases hq (.inl ⟨rfl, rfl⟩); exact k v g₂ s₂ (x₁.trans x₂) (dv.sub x₂.sub)
    | true => exact hr (by simp) _ _ (x₁.trans x₂) _ _ fun v g₃ s₃ x₃ dv => k v g₃ s₃ ((x₁.trans x₂).trans x₃) dv
  | Or =>
    refine BoolOp_or (ha _ _ fun v g₁ s₁ x₁ dv => truD_ok ht x₁.low dv _ _ fun g₂ s₂ x₂ => ?_)
    cases b with
    | true => cases hq (.inr ⟨rfl, rfl⟩); exact k v g₂ s₂ (x₁.trans x₂) (dv.sub x₂.sub)
    | false => exact hr (by simp) _ _ (x₁.trans x₂) _ _ fun v g₃ s₃ x₃ dv => k v g₃ s₃ ((x₁.trans x₂).trans x₃) dv

theorem isT_not {x : Expr} {pos : Pos} {whole : Sem Value} {b : Bool} (h : EvB (model prog w) A (isTrue x env (eval x env)) g s b) : EvB (model prog w) A (isTrue (.UnaryOp .Not x pos) env whole) g s (!b) :=
  fun Q E k => isTrue_not (h _ _ fun g₁ s₁ x₁ => k g₁ s₁ x₁)
theorem isT_if {t b o : Expr} {pos : Pos} {whole : Sem Value} {c r : Bool} (ht : EvB (model prog w) A (isTrue t env (eval t env)) g s c)
    (hb : c = true → ∀ g' s', Ext g s g' s' → EvB (model prog w) A (isTrue b env (eval b env)) g' s' r) (ho : c = false → ∀ g' s', Ext g s g' s' → EvB (model prog w) A (isTrue o env (eval o env)) g' s' r) :
    EvB (model prog w) A (isTrue (.IfExp t b o pos) env whole) g s r := by
  intro Q E k
  refine isTrue_IfExp (ht _ _ fun g₁ s₁ x₁ => ?_)
  induction c using Bool.casesOn with
  | true => exact hb rfl g₁ s₁ x₁ _ _ fun g₂ s₂ x₂ => k g₂ s₂ (x₁.trans x₂)
  | false => exact ho rfl g₁ s₁ x₁ _ _ fun g₂ s₂ x₂ => k g₂ s₂ (x₁.trans x₂)
theorem isT_plain {e : Expr} {x : D} {b : Bool} {whole : Sem Value} (h : Ev (model prog w) A whole g s x) (ht : truD x = some b)
    (he : isTrue e env whole = (do let v ← whole; standAt e.pos; holding [v] (truthy v))) : EvB (model prog w) A (isTrue e env whole) g s b :=
  fun Q E k => isTrue_plain (h _ _ fun v g₁ s₁ x₁ dv => truD_ok ht x₁.low dv _ _ fun g₂ s₂ x₂ => k g₂ s₂ (x₁.trans x₂)) he
theorem allB_nil {op : BoolOp} {pos : Pos} {whole : Sem Value} (l : Sub g s.heap) : EvB (model prog w) A (isTrue (.BoolOp op [] pos) env whole) g s (op == .And) := by
  intro Q E k
  induction op using PySem.BoolOp.casesOn with
  | And => exact isTrue_and_nil (k g s (.refl l))
  | Or => exact isTrue_or_nil (k g s (.refl l))
theorem allB_more {e : Expr} {r : List Expr} {op : BoolOp} {pos : Pos} {whole : Sem Value} {b c : Bool} (ha : EvB (model prog w) A (isTrue e env (eval e env)) g s b)
    (hq : (op = .And ∧ b = false ∨ op = .Or ∧ b = true) → c = b)
    (hr : ¬ (op = .And ∧ b = false ∨ op = .Or ∧ b = true) → ∀ g' s', Ext g s g' s' → EvB (model prog w) A (isTrue (.BoolOp op r pos) env whole) g' s' c) :
    EvB (model prog w) A (isTrue (.BoolOp op (e :: r) pos) env whole) g s c := by
  intro Q E k
  induction op using PySem.BoolOp.casesOn with
  | And =>
    refine isTrue_and (ha _ _ fun g₁ s₁ x₁ => ?_)
    cases b with
    | false => obtain rfl := hq (.inl ⟨rfl, rfl⟩); exact k g₁ s₁ x₁
    | true => exact hr (by simp) _ _ x₁ _ _ fun g₃ s₃ x₃ => k g₃ s₃ (x₁.trans x₃)
  | Or =>
    refine isTrue_or (ha _ _ fun g₁ s₁ x₁ => ?_)
    cases b with
    | true => obtain rfl := hq (.inr ⟨rfl, rfl⟩); exact k g₁ s₁ x₁
    | false => exact hr (by simp) _ _ x₁ _ _ fun g₃ s₃ x₃ => k g₃ s₃ (x₁.trans x₃)
end
end Mine
end

/-! part Mn -/
section
open PySem PySem.W PyProof.Rows PySem.Calls
set_option maxHeartbeats 2000000
set_option linter.unusedVariables false
set_option linter.unusedSimpArgs false
set_option tactic.hygienic false
namespace Mine

theorem mem_of_lookup {α β : Type} [BEq α] [LawfulBEq α] {x : α} {b : β} : ∀ {l : List (α × β)}, l.lookup x = some b → (x, b) ∈ l
  | [], h => by simp at h
  | (y, c) :: r, h => by
    rw [List.lookup_cons] at h
    split at h
    · rename_i hb; (injection h with h; subst h); rw [eq_of_beq hb]; exact List.mem_cons_self
    · exact List.mem_cons_of_mem _ (mem_of_lookup h)

theorem forIn_cells (env : Env) : ∀ (names : List (Str × NameKind)) (acc : List (Str × Addr)), (∀ y ∈ names, y.2 = .free → ∃ c, env.cells.lookup y.1 = some c) →
    ∃ cl, (forIn (m := Sem) names acc fun x r => (do
      if x.2 == .free then let a ← cellOf env x.1; pure (ForInStep.yield ((x.1, a) :: r)) else pure (ForInStep.yield r))) = pure cl ∧
      ∀ y, (acc.lookup y = env.cells.lookup y ∨ (y, NameKind.free) ∈ names) → cl.lookup y = env.cells.lookup y
  | [], acc, _ => ⟨acc, rfl, fun y h => h.elim id fun h => by simp at h⟩
  | (n, k) :: r, acc, h => by
    by_cases hk : k = .free
    · subst hk
      obtain ⟨c, hc⟩ := h _ List.mem_cons_self rfl
      obtain ⟨cl, e, hl⟩ := forIn_cells env r ((n, c) :: acc) fun y hy => h y (List.mem_cons_of_mem _ hy)
      refine ⟨cl, ?_, fun y hy => ?_⟩
      · rw [List.forIn_cons]
        simp only [beq_self_eq_true, if_true, cellOf, hc]
        exact e
      · by_cases hn : y = n
        · subst hn; exact hl y (.inl (by simpa using hc.symm))
        · refine hl y ?_
          rcases hy with hy | hy
          · refine .inl ?_
            rw [List.lookup_cons]
            have : (y == n) = false := by simpa using hn
            rw [this]; exact hy
          · rcases List.mem_cons.mp hy with e | hy
            · cases e; exact absurd rfl hn
            · exact .inr hy
    · have hb : (k == NameKind.free) = false := by simpa using hk
      obtain ⟨cl, e, hl⟩ := forIn_cells env r acc fun y hy => h y (List.mem_cons_of_mem _ hy)
      refine ⟨cl, ?_, fun y hy => hl y ?_⟩
      · rw [List.forIn_cons]
        simp only [hb, Bool.false_eq_true, if_false]
        exact e
      · rcases hy with hy | hy
        · exact .inl hy
        · rcases List.mem_cons.mp hy with e | hy
          · cases e; exact absurd rfl hk
          · exact .inr hy

theorem closure_ok {scope : Scope} {env : Env} (h : ∀ y ∈ scope.names, y.2 = .free → ∃ c, env.cells.lookup y.1 = some c) :
    ∃ cl, closureFor scope env = pure cl ∧ ∀ y, (y, NameKind.free) ∈ scope.names → cl.lookup y = env.cells.lookup y := by
  obtain ⟨cl, e, hl⟩ := forIn_cells env scope.names [] h
  refine ⟨cl, ?_, fun y hy => hl y (.inr hy)⟩
  have : closureFor scope env = (forIn (m := Sem) scope.names [] fun x r => (do
      if x.2 == .free then let a ← cellOf env x.1; pure (ForInStep.yield ((x.1, a) :: r)) else pure (ForInStep.yield r))) >>= fun r => pure r := by
    unfold closureFor
    rfl
  rw [this, e]; rfl

theorem lookup_relabelS {inner outer : Scope} {y : Str} : (relabelS inner outer).names.lookup y =
    (inner.names.lookup y).map fun k => if (k == .free && outer.kind == .function && outer.names.lookup y == some .cell) then .cell else k := by
  unfold relabelS
  show (inner.names.map _).lookup y = _
  induction inner.names with
  | nil => rfl
  | cons z r ih =>
    obtain ⟨n, k⟩ := z
    rw [List.map_cons]
    dsimp only
    by_cases hn : y = n
    · subst hn
      split
      · rename_i hc; simp only [List.lookup_cons, beq_self_eq_true, Option.map_some]; rw [if_pos hc]
      · rename_i hc; simp only [List.lookup_cons, beq_self_eq_true, Option.map_some]; rw [if_neg hc]
    · have hb : (y == n) = false := by simpa using hn
      split <;> (rw [List.lookup_cons, List.lookup_cons, hb]; exact ih)

noncomputable def testsOf (ifs : List Expr) (env : Env) : Sem Bool := forIn ifs true fun c r => if r = true then do let ok ← isTrue c env (eval c env); pure (ForInStep.yield ok) else pure (ForInStep.yield r)

section
variable {prog : Program} {w : World} {K : Frag} {mg mb : Str → Option Value} {A : Around} {s : Shared} {g : Heap} {env : Env} {σ : Vars} {cx : Cx} {d : D}

/-- an iterator's object -/
noncomputable def ItO (o : Obj) : Prop := ∃ n vs, o.cls = .type n ∧ o.data = .fields vs ∧ (n = "list_iterator" ∨ n = "tuple_iterator" ∨ n = "range_iterator")
/-- what an iterator over a denoted thing yields -/
theorem iter_ok {src : D} {ds : List D} {xv : Value} (hh : A.handled = none) (h : itemsD src = some ds) (l : Sub g s.heap) (a : Den g xv src) {Q E : Value → Shared → Prop}
    (k : ∀ (I : Addr) (fp : List Addr) (St : Nat → Heap → Prop) (s' : Shared), Walks prog w A I fp [I] ds.length (fun i v => ∃ d, ds[i]? = some d ∧ Den g v d) St → Ext g s g s' → s.heap.get? I = none → St 0 s'.heap →
      (∀ b ∈ fp, b = I ∨ ∃ o, g.get? b = some o) → (∀ i h, St i h → ∃ o, h.get? I = some o ∧ ItO o) → Q (.ref I) s') : wpAny (model prog w) A (pyIter xv) Q E s := by
  have hlim : lim = 65536 := rfl
  have hne : ∀ {b : Addr} {o : Obj}, g.get? b = some o → b ≠ s.heap.objs.size := fun e => Nat.ne_of_lt (Heap.lt_size (l _ _ e))
  unfold itemsD at h
  (set_option tactic.hygienic true in split at h)
  · split at h
    · cases h
      cases a with
      | @list ax vs _ n a1 a2 =>
        refine wpAny_pyIter_list (isList_of (l _ _ a1)) (k s.heap.objs.size [s.heap.objs.size, ax] (fun i h => h.IsListIter s.heap.objs.size ax i ∧ h.IsList ax vs.toArray) _ ?_ (Ext.grown l (fun b o e => Heap.get?_push_of_some _ e) s.toks) (dead_size _) ?_ ?_ ?_)
        · have W := Walks.list (prog := prog) (w := w) hh s.heap.objs.size ax (hne a1) vs.toArray
          have hz : vs.toArray.size = _ := (List.size_toArray ..).trans a2.length
          rw [hz] at W
          exact { sub := W.sub, frame := W.frame, done := W.done, self := W.self, item := fun i s Q E hi st hQ => W.item i s Q E hi st fun v h' tk hP => hQ v h' tk (by obtain ⟨d, e, hd⟩ := a2.getV (by simpa using hP); exact ⟨d, e, hd⟩) }
        · exact ⟨⟨_, Heap.get?_push_size _ rfl, rfl, rfl⟩, (isList_of (l _ _ a1)).push _⟩
        · intro b hb
          simp at hb
          rcases hb with rfl | rfl
          · exact .inl rfl
          · exact .inr ⟨_, a1⟩
        · rintro i h ⟨⟨o, e, hc, hd⟩, _⟩; exact ⟨o, e, _, _, hc, hd, .inl rfl⟩
    · cases h
  · split at h
    · cases h
      cases a with
      | @tup ax vs _ n a1 a2 =>
        have ht : s.heap.IsTuple ax vs.toArray := isTup_of (l _ _ a1)
        refine wpAny_pyIter_tuple ht (k s.heap.objs.size [s.heap.objs.size, ax] (fun i h => h.IsTupleIter s.heap.objs.size ax i ∧ h.IsTuple ax vs.toArray) _ ?_ (Ext.grown l (fun b o e => Heap.get?_push_of_some _ e) s.toks) (dead_size _) ?_ ?_ ?_)
        · have W := Walks.tuple (prog := prog) (w := w) hh s.heap.objs.size ax (hne a1) vs.toArray
          have hz : vs.toArray.size = _ := (List.size_toArray ..).trans a2.length
          rw [hz] at W
          exact { sub := W.sub, frame := W.frame, done := W.done, self := W.self, item := fun i s Q E hi st hQ => W.item i s Q E hi st fun v h' tk hP => hQ v h' tk (by obtain ⟨d, e, hd⟩ := a2.getV (by simpa using hP); exact ⟨d, e, hd⟩) }
        · exact ⟨⟨_, Heap.get?_push_size _ rfl, rfl, rfl⟩, ht.at fun o e => Heap.get?_push_of_some _ e⟩
        · intro b hb
          simp at hb
          rcases hb with rfl | rfl
          · exact .inl rfl
          · exact .inr ⟨_, a1⟩
        · rintro i h ⟨⟨o, e, hc, hd⟩, _⟩; exact ⟨o, e, _, _, hc, hd, .inr (.inl rfl)⟩
    · cases h
  · rename_i n
    split at h
    · cases h
      cases a with
      | @rng ax _ t u v a1 =>
        have hsz : Builtin.Range.rangeSize 0 (n : Int) 1 = ((n : Nat) : Int) := by
          unfold Builtin.Range.rangeSize
          rw [if_pos (by (exact Int.ofNat_nonneg _))]
          split <;> (try rw [Int.ediv_one]) <;> lia
        have fits : ∀ i : Int, 0 ≤ i → i ≤ 65536 → Builtin.Range.rangeFitsLong i = true := by
          intro i h0 h1
          unfold Builtin.Range.rangeFitsLong
          simp
          lia
        have hsm : Builtin.Range.small 0 (n : Int) 1 = true := by
          unfold Builtin.Range.small
          rw [hsz]
          simp [fits 0, fits 1, fits n (by omega) (by omega)]
        refine wpAny_pyIter_range (l _ _ a1) hsm (k s.heap.objs.size [s.heap.objs.size] (fun i h => IsRangeIter h s.heap.objs.size (0 + (i : Nat) * 1) ((n : Int) - (i : Nat)) 1) _ ?_ (Ext.grown l (fun b o e => Heap.get?_push_of_some _ e) _) (dead_size _) ?_ ?_ ?_)
        · have W := (Walks.range (prog := prog) (w := w) hh s.heap.objs.size 0 1 n).bound
          rw [List.length_map, List.length_range]
          exact { sub := W.sub, frame := W.frame, done := W.done, self := W.self, item := fun i s Q E hi st hQ => W.item i s Q E hi st fun v h' tk hP => hQ v h' tk (by
              obtain ⟨hi, t, rfl⟩ := hP
              have e : (0 : Int) + (i : Int) * 1 = i := by omega
              refine ⟨.int i, by simp [hi], ?_⟩
              show Den g (.int (0 + (i : Int) * 1) t) _
              rw [e]; exact .int _ _) }
        · show IsRangeIter _ _ _ _ _
          rw [hsz]
          simpa using Heap.get?_push_size _ rfl
        · intro b hb; simp at hb; exact .inl hb
        · intro i h e; exact ⟨_, e, _, _, rfl, rfl, .inr (.inr rfl)⟩
    · contradiction
  · contradiction

theorem compGo_len {tf : D → Option Bool} {ef : D → Option D} : ∀ {ds es : List D}, compGo tf ef ds = some es → es.length ≤ ds.length
  | [], es, h => by (injection h with h; subst h); exact Nat.le_refl _
  | d :: r, es, h => by
    unfold compGo at h
    induction h1 : tf d using Option.casesOn with
    | none => rw [h1] at h; contradiction
    | some b =>
      rw [h1] at h
      simp only [Option.bind_some] at h
      split at h
      · induction h2 : ef d using Option.casesOn with
        | none => rw [h2] at h; contradiction
        | some e =>
          rw [h2] at h
          induction h3 : compGo tf ef r using Option.casesOn with
          | none => rw [h3] at h; contradiction
          | some q => rw [h3] at h; (injection h with h; subst h); have := compGo_len h3; simp; exact this
      · exact Nat.le_succ_of_le (compGo_len h)

/-- the frame of a comprehension -/
theorem comp_frame {g' : Heap} {s' : Shared} {scope : Scope} {cl : List (Str × Addr)} {C : Addr} {m : Str → Option Value} {x : Str} {v : Value} (hsc : scopeOk scope env.scope x = true) (F : Fs K mg mb env g σ s)
    (hcl : ∀ y, (y, NameKind.free) ∈ scope.names → cl.lookup y = env.cells.lookup y) (hg : Sub g g') (l : Sub g' s'.heap) (hk : Sub s.heap s'.heap) (hn : s'.heap.Ns C m) (hm : m x = some v) (hd : Den g' v d) :
    Fs K mg mb (compEnvC scope cl C env) g' (compVars (relabelS scope env.scope) σ x d) s' := by
  unfold scopeOk at hsc
  simp only [Bool.and_eq_true, List.all_eq_true, beq_iff_eq, Bool.or_eq_true, bne_iff_ne, ne_eq] at hsc
  obtain ⟨⟨⟨⟨⟨h1, h2⟩, h3⟩, h5⟩, h4⟩, h6⟩ := hsc
  have hcell : ∀ y, (relabelS scope env.scope).names.lookup y = some .cell → (y, NameKind.free) ∈ scope.names ∧ env.kindOf y = some .cell := by
    intro y hy
    rw [lookup_relabelS] at hy
    induction hl : scope.names.lookup y using Option.casesOn with
    | none => rw [hl] at hy; exact ns hy
    | some k =>
      rw [hl] at hy
      simp only [Option.map_some, Option.some.injEq] at hy
      split at hy
      · rename_i hc
        simp only [Bool.and_eq_true, beq_iff_eq] at hc
        obtain ⟨⟨rfl, _⟩, hc⟩ := hc
        exact ⟨mem_of_lookup hl, hc⟩
      · exact absurd hy (h2 _ (mem_of_lookup hl))
  have hloc : ∀ y, (relabelS scope env.scope).names.lookup y = some .local → (relabelS scope env.scope).names.lookup y ≠ some .cell := fun y e q => by rw [e] at q; cases q
  exact
    { wd := F.wd.sub hg
      low := l
      kind := h1
      glob := F.glob
      blt := F.blt
      loc := ⟨m, hn, fun y e he hk => by
        unfold compVars at he
        split at he
        · rename_i hy; subst hy; obtain rfl := so he; exact ⟨v, hm, hd⟩
        · split at he
          · rename_i hc; exact absurd hc (hloc y hk)
          · exact ns he⟩
      cel := fun y e he hk' => by
        have hk' : (relabelS scope env.scope).names.lookup y = some .cell := hk'
        unfold compVars at he
        split at he
        · rename_i hy; subst hy
          rw [lookup_relabelS, h5] at hk'
          simp at hk'
        · try rw [if_pos hk'] at he
          obtain ⟨hf, hc⟩ := hcell y hk'
          obtain ⟨c, v', e1, e2, e3⟩ := F.cel y e he hc
          exact ⟨c, v', (hcl y hf).trans e1, e2.keeps hk, e3.sub hg⟩
      all := fun y hk' => by
        obtain ⟨hf, hc⟩ := hcell y hk'
        obtain ⟨c, e1⟩ := F.all y hc
        exact ⟨c, (hcl y hf).trans e1⟩ }

theorem items_le {src : D} {ds : List D} (hi : itemsD src = some ds) : ds.length ≤ lim := by
  have key : ∀ l : List D, (if l.length ≤ lim then some l else none) = some ds → ds.length ≤ lim := fun l h => by
    split at h
    · obtain rfl := so h; assumption
    · contradiction
  induction src using Mine.D.casesOn with
  | list l => exact key l hi
  | tup l => exact key l hi
  | rng n =>
    have h : (if n ≤ lim then some ((List.range n).map fun (k : Nat) => D.int (k : Int)) else none) = some ds := hi
    split at h
    · (injection h with h; subst h); rw [List.length_map, List.length_range]; assumption
    · contradiction
  | _ => exact ns hi
/-- the loop of a comprehension: what holds between two turns -/
inductive CInv (s₂ : Shared) (g₁ : Heap) (I R C : Addr) (St : Nat → Heap → Prop) (tf : D → Option Bool) (ef : D → Option D) (ds es : List D) : Nat → Shared → Prop
  | mk {h' : Heap} {tk : Nat} {G : Array GenState} {i : Nat} {ys : List Value} {n : Nat} {gi : Heap} {os rest : List D} {m' : Str → Option Value} (hG : GenOK s₂.gens G) (hi' : i ≤ ds.length) (hyl : ys.length ≤ i) (hst' : St i h') (hg1 : Sub g₁ gi) (hgl : Sub gi h')
      (hgn : ∀ b o, gi.get? b = some o → g₁.get? b = some o ∨ (s₂.heap.get? b = none ∧ b ≠ R ∧ b ≠ C)) (hkeep : ∀ b o, b ≠ I → s₂.heap.get? b = some o → h'.get? b = some o) (hn' : h'.Ns C m') (hR' : h'.get? R = some (lObj ys n))
      (hden : DenL gi ys os) (hrest : compGo tf ef (ds.drop i) = some rest) (hes : os ++ rest = es) : CInv s₂ g₁ I R C St tf ef ds es (ds.length + 1 - i) { s₂ with heap := h', toks := tk, gens := G }

theorem sub_next {n i : Nat} (h : i < n) : n + 1 - (i + 1) < n + 1 - i := by lia
theorem comp_core {elt iter : Expr} {x : Str} {px : Pos} {ifs : List Expr} {scope : Scope} {pos cpos : Pos} {use : Option (Value → Sem Unit)} {src : D} {ds es : List D} {tf : D → Option Bool} {ef : D → Option D} {Q E : Value → Shared → Prop}
    (hh : A.handled = none) (F : Fs K mg mb env g σ s) (hsc : scopeOk scope env.scope x = true) (hset : isSet iter = false) (ha : Ev (model prog w) A (eval iter env) g s src) (hi : itemsD src = some ds) (hgo : compGo tf ef ds = some es)
    (ht : ∀ d b cenv g' s', tf d = some b → cenv.scope = relabelS scope env.scope → Fs K mg mb cenv g' (compVars (relabelS scope env.scope) σ x d) s' → EvB (model prog w) A (testsOf ifs cenv) g' s' b)
    (he : ∀ d e cenv g' s', ef d = some e → cenv.scope = relabelS scope env.scope → Fs K mg mb cenv g' (compVars (relabelS scope env.scope) σ x d) s' → Ev (model prog w) A (eval elt cenv) g' s' e)
    (fin : ∀ g' s' R C m', Ext g s g' s' → Den g' (.ref R) (.list es) → g.get? R = none → s'.heap.Ns C m' → s.heap.get? C = none → g'.get? C = none → compPost (model prog w) A E use Q (.ref R) C (.ok .next) s') :
    wpAny (model prog w) A (comprehension (.ListComp elt [⟨.Name x px, iter, ifs, 0⟩] scope pos) scope env cpos (newList []) false (eval iter env) use) Q E s := by
  have hsc' := hsc
  unfold scopeOk at hsc
  simp only [Bool.and_eq_true, List.all_eq_true, beq_iff_eq, Bool.or_eq_true, bne_iff_ne, ne_eq] at hsc
  obtain ⟨⟨⟨⟨⟨h1, h2⟩, h3⟩, h5⟩, h4⟩, h6⟩ := hsc
  have hlim : lim = 65536 := rfl
  have hds := items_le hi
  obtain ⟨cl, hclos, hcl⟩ := closure_ok (scope := scope) (env := env) fun y hy hf => F.all y.1 (by
    rcases h4 y hy with h | h
    · exact absurd hf h
    · exact h)
  have hfold : ∀ v, foldedSetIterable iter env v = pure v := by
    intro v
    unfold foldedSetIterable
    induction iter using PySem.Expr.casesOn <;> first | rfl | contradiction
  refine wpAny_comprehension_free rfl hfold hclos h1 (fun y hy hl => by
    rcases h3 y hy with h | h
    · exact absurd hl h
    · exact h) (ha _ _ fun xv g₁ s₁ x₁ dx => iter_ok hh hi x₁.low dx fun I fp St s₂ W x₂ hI₁ hst hfp hIo' => ?_)
  have hIo : ∀ i h, St i h → ∃ o, h.get? I = some o := fun i h st => let ⟨o, e, _⟩ := hIo' i h st; ⟨o, e⟩
  refine wpAny_newObj_type (wpAny_newFunctionEnv (fun y hy => h2 y hy) (by intro y hy; simp at hy) (fun h₁ hns₁ hsb₁ => ?_) h1)
  dsimp only at hns₁ hsb₁ ⊢
  generalize hH2 : s₂.heap.push { cls := .type "list", dict := none, data := .seq ([] : List Value).toArray } = H2 at hns₁ hsb₁ ⊢
  have hC : H2.objs.size = s₂.heap.objs.size + 1 := by rw [← hH2, Heap.size_push]
  generalize hDd : s₂.heap.objs.size = R at hC ⊢
  generalize hCd : H2.objs.size = C at hC hns₁ hsb₁ ⊢
  have hR2 : s₂.heap.get? R = none := hDd ▸ dead_size _
  have hC2 : s₂.heap.get? C = none := by
    induction e : s₂.heap.get? C using Option.casesOn with
    | none => rfl
    | some o => exact absurd (Heap.lt_size e) (Nat.not_lt.mpr (by rw [hC, hDd]; exact Nat.le_succ _))
  have hRC : R ≠ C := by rw [hC]; exact Nat.ne_of_lt (Nat.lt_succ_self _)
  have hIalive : ∃ o, s₂.heap.get? I = some o := hIo _ _ hst
  have hIR : I ≠ R := by rintro rfl; obtain ⟨o, e⟩ := hIalive; rw [hR2] at e; contradiction
  have hIC : I ≠ C := by rintro rfl; obtain ⟨o, e⟩ := hIalive; rw [hC2] at e; contradiction
  have old : Sub s₂.heap h₁ := fun b o e => hsb₁.extBut b o (by rintro rfl; rw [hC2] at e; contradiction) (Heap.get?_push_of_some _ (hH2 ▸ Heap.get?_push_of_some _ e))
  have hacc : h₁.get? R = some (lObj [] 0) := hsb₁.extBut _ _ hRC (Heap.get?_push_of_some _ (hH2 ▸ hDd ▸ Heap.get?_push_size _ rfl))
  have gI : ∀ {gg : Heap}, Sub gg s₁.heap → gg.get? I = none := fun k => dead_of_kept k hI₁
  have fpR : ∀ b ∈ fp, (b ≠ R) ∧ (b ≠ C) := by
    intro b hb
    have : ∃ o, s₂.heap.get? b = some o := by
      rcases hfp b hb with rfl | ⟨o, e⟩
      · exact hIalive
      · exact ⟨o, x₂.low _ _ e⟩
    obtain ⟨o, e⟩ := this
    exact And.intro (fun q => by rw [q, hR2] at e; contradiction) (fun q => by rw [q, hC2] at e; contradiction)
  have hIfp : ∀ b, b ∉ [I] ↔ b ≠ I := fun b => by simp
  have loop : ∀ s₃ : Shared, s₃ = { s₂ with heap := h₁, toks := s₂.toks + ([] : List (Str × Value)).length } →
      codeAny (model prog w) A (.compLoop (.ListComp elt [⟨.Name x px, iter, ifs, 0⟩] scope pos) 0 (.ref I) (.ref R) (compEnvC scope cl C env)) (compPost (model prog w) A E use Q (.ref R) C) s₃ := by
    rintro s₃ rfl
    refine codeAny_compLoop_tests
      (CInv s₂ g₁ I R C St tf ef ds es) ?_ (ds.length + 1)
      (.mk (i := 0) (.refl _) (Nat.zero_le _) (Nat.le_refl _) (W.frame _ _ _ hst fun b _ o e => old b o e) .rfl' (x₂.low.trans' old) (fun b o e => .inl e) (fun b o _ e => old b o e) hns₁ hacc .nil hgo rfl)
    intro k s' Z
    (set_option tactic.hygienic true in obtain ⟨hG, hi', hyl, hst', hg1, hgl, hgn, hkeep, hn', hR', hden, hrest, hes⟩ := Z)
    rename_i h' tk G i ys n gi os rest m'
    have giI : gi.get? I = none := by
      induction e : gi.get? I using Option.casesOn with
      | none => rfl
      | some o =>
        rcases hgn I o e with e' | ⟨e', _⟩
        · have := gI x₁.low; rw [e'] at this; contradiction
        · obtain ⟨o', q⟩ := hIalive; rw [e'] at q; contradiction
    have gone : ∀ {b : Addr} {o : Obj}, gi.get? b = some o → b ≠ I ∧ b ≠ R ∧ b ≠ C := by
      intro b o e
      refine ⟨(by rintro rfl; rw [giI] at e; contradiction), ?_⟩
      rcases hgn b o e with e' | ⟨_, q⟩
      · have q := x₂.low _ _ e'
        exact ⟨(by rintro rfl; rw [hR2] at q; contradiction), by rintro rfl; rw [hC2] at q; contradiction⟩
      · exact q
    by_cases hlt : i < ds.length
    · have hdrop : ds.drop i = ds[i] :: ds.drop (i + 1) := List.drop_eq_getElem_cons hlt
      rw [hdrop] at hrest
      refine W.item i _ _ _ hlt hst' fun v h₂ tk₂ hPv hst₂ hk₂ => ?_
      obtain ⟨d, hd, hdv⟩ := hPv
      have hdd : ds[i] = d := by rw [List.getElem?_eq_getElem hlt] at hd; obtain rfl := so hd; rfl
      rw [hdd] at hrest
      have hk₂' : ∀ b o, b ≠ I → h'.get? b = some o → h₂.get? b = some o := fun b o hb e => hk₂ b o (by simpa using hb) e
      refine wpAny_assign_Name (wpAny_storeName_local (by show (relabelS scope env.scope).names.lookup x = _; rw [lookup_relabelS, h5]; rfl) (hn'.at' fun o e => hk₂' _ o (Ne.symm hIC) e) (fun h₃ hn₃ hs₃ => ?_) (by show ((relabelS scope env.scope).kind == .class || ((relabelS scope env.scope).kind == .module && _)) = false; show (scope.kind == .class || (scope.kind == .module && _)) = false; rw [h1]; rfl))
      have hk₃ : ∀ b o, b ≠ C → h₂.get? b = some o → h₃.get? b = some o := fun b o hb e => hs₃.extBut b o hb e
      have hk₃' : ∀ b o, b ≠ I → b ≠ C → h'.get? b = some o → h₃.get? b = some o := fun b o hb hc e => hk₃ b o hc (hk₂' b o hb e)
      have l₃ : Sub gi h₃ := fun b o e => hk₃' b o (gone e).1 (gone e).2.2 (hgl b o e)
      have hst₃ : St (i + 1) h₃ := W.frame _ _ _ hst₂ fun b hb o e => hk₃ b o (fpR b hb).2 e
      have F₃ : Fs K mg mb (compEnvC scope cl C env) gi (compVars (relabelS scope env.scope) σ x d) { s₂ with heap := h₃, toks := tk₂ + 1, gens := G } :=
        comp_frame hsc' F hcl (x₁.sub.trans' hg1) l₃ (fun b o e => by
          have e₁ := x₁.kept b o e
          have hbI : b ≠ I := by rintro rfl; rw [hI₁] at e₁; contradiction
          have e₂ := x₂.kept b o e₁
          exact hk₃' b o hbI (by rintro rfl; rw [hC2] at e₂; contradiction) (hkeep b o hbI e₂)) hn₃ (by simp) (hdv.sub hg1)
      unfold compGo at hrest
      induction hb : tf d using Option.casesOn with
      | none => rw [hb] at hrest; contradiction
      | some b =>
        rw [hb] at hrest
        simp only [Option.bind_some] at hrest
        refine ht d b _ gi _ hb rfl F₃ _ _ fun g₄ s₄ x₄ => ?_
        have hR₃ : h₃.get? R = some (lObj ys n) := hk₃' R _ (Ne.symm hIR) hRC hR'
        -- the places of the loop are not in the view
        have out : ∀ {g₅ : Heap} {s₅ : Shared}, Ext gi { s₂ with heap := h₃, toks := tk₂ + 1, gens := G } g₅ s₅ → ∀ b o, g₅.get? b = some o → g₁.get? b = some o ∨ (s₂.heap.get? b = none ∧ b ≠ R ∧ b ≠ C) := by
          intro g₅ s₅ x₅ b o e
          rcases x₅.new b o e with e' | e'
          · exact hgn b o e'
          · have e' : h₃.get? b = none := e'
            refine .inr ⟨?_, (by rintro rfl; rw [hR₃] at e'; contradiction), ?_⟩
            · induction q : s₂.heap.get? b using Option.casesOn with
              | none => rfl
              | some o' =>
                exfalso
                by_cases hbI : b = I
                · subst hbI; obtain ⟨o'', q'⟩ := hIo _ _ hst₃; rw [e'] at q'; contradiction
                · have := hk₃' b o' hbI (by rintro rfl; rw [hC2] at q; contradiction) (hkeep b o' hbI q)
                  rw [e'] at this; contradiction
            · rintro rfl
              obtain ⟨oC, es', ep, q, _⟩ := hn₃
              exact nomatch e'.symm.trans q
        have keepAll : ∀ {g₅ : Heap} {s₅ : Shared}, Ext gi { s₂ with heap := h₃, toks := tk₂ + 1, gens := G } g₅ s₅ → ∀ b o, b ≠ I → s₂.heap.get? b = some o → s₅.heap.get? b = some o := fun x₅ b o hbI q =>
          x₅.kept b o (hk₃' b o hbI (by rintro rfl; rw [hC2] at q; contradiction) (hkeep b o hbI q))
        induction b using Bool.casesOn with
        | false =>
          simp only [Bool.false_eq_true, if_false] at hrest ⊢
          obtain ⟨h₅, tk₅, G₅, e₅, b₅⟩ := x₄.same
          subst e₅
          exact ⟨_, sub_next hlt, .mk (i := i + 1) (hG.trans b₅) hlt (Nat.le_succ_of_le hyl) (W.frame _ _ _ hst₃ fun b _ o e => x₄.kept b o e) (hg1.trans' x₄.sub) x₄.low (out x₄) (keepAll x₄) (hn₃.keeps x₄.kept)
            (x₄.kept _ _ hR₃) (hden.sub x₄.sub) hrest hes⟩
        | true =>
          simp only [if_true] at hrest ⊢
          induction hy : ef d using Option.casesOn with
          | none => rw [hy] at hrest; contradiction
          | some y =>
            rw [hy] at hrest
            simp only [Option.bind_some] at hrest
            induction hq : compGo tf ef (ds.drop (i + 1)) using Option.casesOn with
            | none => rw [hq] at hrest; contradiction
            | some rest' =>
              rw [hq] at hrest
              (injection hrest with hrest; subst hrest)
              refine he d y _ g₄ _ hy rfl (F₃.ext x₄) _ _ fun yv g₅ s₅ x₅ dy => ?_
              have x₄₅ := x₄.trans x₅
              obtain ⟨h₅, tk₅, G₅, e₅, b₅⟩ := x₄₅.same
              have hR₅ : s₅.heap.get? R = some (lObj ys n) := x₄₅.kept _ _ hR₃
              refine append_at hR₅ (fun h₆ hs₆ hR₆ => ?_) (by rw [List.size_toArray]; exact lim_le (by lia))
              subst e₅
              have hk₆ : ∀ b o, b ≠ R → h₅.get? b = some o → h₆.get? b = some o := fun b o hb e => hs₆.extBut b o hb e
              refine ⟨_, sub_next hlt, .mk (i := i + 1) (hG.trans b₅) hlt (by rw [List.length_append]; exact Nat.succ_le_succ hyl) ?_ (hg1.trans' x₄₅.sub) ?_ (out x₄₅) ?_ (m' := fun z => if z = x then some v else m' z) ?_ (n := n + 1) ?_ ((hden.sub x₄₅.sub).snoc dy) hq ((List.append_assoc ..).trans hes)⟩
              · exact W.frame _ _ _ hst₃ fun b hb o e => hk₆ b o (fpR b hb).1 (x₄₅.kept b o e)
              · intro b o e
                refine hk₆ b o ?_ (x₄₅.low b o e)
                rcases out x₄₅ b o e with e' | ⟨_, q, _⟩
                · have q := x₂.low _ _ e'
                  rintro rfl; rw [hR2] at q; contradiction
                · exact q
              · exact fun b o hbI q => hk₆ b o (by rintro rfl; rw [hR2] at q; contradiction) (keepAll x₄₅ b o hbI q)
              · exact (hn₃.keeps x₄₅.kept).at' fun o e => hk₆ _ o (Ne.symm hRC) e
              · rw [hR₆, List.push_toArray]
    · obtain rfl : i = ds.length := Nat.le_antisymm hi' (Nat.not_lt.mp hlt)
      rw [List.drop_length] at hrest
      obtain rfl := so hrest
      simp only [List.append_nil] at hes
      subst hes
      refine W.done _ _ _ hst' fun h₂ tk₂ hk₂ => ?_
      have hk₂' : ∀ b o, b ≠ I → h'.get? b = some o → h₂.get? b = some o := fun b o hb e => hk₂ b o (by simpa using hb) e
      have hR₂ : h₂.get? R = some (lObj ys n) := hk₂' _ _ (Ne.symm hIR) hR'
      have l₂ : Sub gi h₂ := fun b o e => hk₂' b o (gone e).1 (hgl b o e)
      obtain ⟨g₃, k1, k2, k3, k4⟩ := view_add l₂ hR₂
      have hRs : s.heap.get? R = none := dead_of_kept x₁.kept (dead_of_kept x₂.kept hR2)
      have x₃ : Ext g s g₃ { s₂ with heap := h₂, toks := tk₂, gens := G } :=
        { sub := x₁.sub.trans' (hg1.trans' k1)
          low := k2
          new := fun b o e => by
            rcases k4 b o e with e' | rfl
            · rcases hgn b o e' with e'' | ⟨e'', _⟩
              · exact x₁.new b o e''
              · exact .inr (dead_of_kept x₁.kept (dead_of_kept x₂.kept e''))
            · exact .inr hRs
          kept := fun b o e => by
            have e₁ := x₁.kept b o e
            have hbI : b ≠ I := by rintro rfl; rw [hI₁] at e₁; contradiction
            exact hk₂' b o hbI (hkeep b o hbI (x₂.kept b o e₁))
          same := (x₁.trans x₂).same.trans ⟨h₂, tk₂, G, rfl, hG⟩ }
      refine fin g₃ _ R C m' x₃ (.list k3 (hden.sub k1)) (dead_of_kept F.low hRs) (hn'.at' fun o e => hk₂' _ o (Ne.symm hIC) e) (dead_of_kept x₁.kept (dead_of_kept x₂.kept hC2)) ?_
      induction e : g₃.get? C using Option.casesOn with
      | none => rfl
      | some o =>
        rcases k4 C o e with e' | e'
        · exact absurd rfl (gone e').2.2
        · exact absurd e'.symm hRC
  exact codeAny_compStart_list (loop _ rfl) (W.self 0 _ _ _ (W.frame _ _ _ hst fun b _ o e => old b o e) (loop _ rfl))
end
end Mine
end

/-! part Mo -/
section
open PySem PySem.W PyProof.Rows PySem.Calls
set_option maxHeartbeats 4000000
set_option linter.unusedVariables false
set_option linter.unusedSimpArgs false
set_option tactic.hygienic false
namespace Mine

theorem isAttr_of {f : Expr} (h : isAttr f = true) : ∃ o m p, f = .Attribute o m p := by
  induction f using Expr.casesOn <;> first | exact nf h | exact ⟨_, _, _, rfl⟩
theorem isSlice_of {f : Expr} (h : isSlice f = true) : ∃ a b c p, f = .Slice a b c p := by
  induction f using Expr.casesOn <;> first | exact nf h | exact ⟨_, _, _, _, rfl⟩
theorem isStar_of {f : Expr} (h : isStar f = true) : ∃ e p, f = .Starred e p := by
  induction f using Expr.casesOn <;> first | exact nf h | exact ⟨_, _, rfl⟩
theorem star_len {xs : List D} {o : Option (List D)} {ds : List D} (h : (if xs.length ≤ lim then o.map (xs ++ ·) else none) = some ds) : xs.length ≤ lim ∧ ∃ ds', o = some ds' ∧ xs ++ ds' = ds := by
  obtain ⟨hz, h⟩ := ite_get h
  obtain ⟨a, h1, h2⟩ := map_some h; exact ⟨hz, a, h1, h2⟩
theorem rm8 {A : Around} {n : Nat} (hA : Rm A (n + 8)) : Rm A 3 := hA.mono (by (exact Nat.le_add_left ..))
theorem or_false' {a b : Bool} (h : (a || b) = false) : a = false ∧ b = false := Bool.or_eq_false_iff.mp h
theorem not_false' {a : Bool} (h : (!a) = false) : a = true := by induction a using Bool.casesOn <;> first | rfl | contradiction
theorem not_true' {a : Bool} (h : ¬ a = true) : a = false := by induction a using Bool.casesOn <;> first | rfl | exact absurd rfl h

section
variable {cx : Cx} {sc : Scope} {σ : Vars}
theorem evalE_call {f : Expr} {args : List Expr} {pos : Pos} (hf : isAttr f = false) : evalE cx (.Call f args [] pos) sc σ =
    if isAttr f || badArgs args then none else (evalE cx f sc σ).bind fun fd => (evalA cx args sc σ).bind fun as => callD cx fd as := by
  induction f using Expr.casesOn <;> first | rfl | exact nf hf.symm
theorem evalE_sub {v i : Expr} {pos : Pos} (hf : isSlice i = false) : evalE cx (.Subscript v i pos) sc σ =
    (evalE cx v sc σ).bind fun o => (evalE cx i sc σ).bind fun k => idxD o k := by
  induction i using Expr.casesOn <;> first | rfl | exact nf hf.symm
theorem evalA_plain {e : Expr} {r : List Expr} (hf : isStar e = false) : evalA cx (e :: r) sc σ = (evalE cx e sc σ).bind fun d => (evalA cx r sc σ).map (d :: ·) := by
  induction e using Expr.casesOn <;> first | rfl | exact nf hf.symm
theorem kw_shape {f : Expr} {args : List Expr} {k : Keyword} {ks : List Keyword} {p : Pos} : evalE cx (.Call f args (k :: ks) p) sc σ = none := by
  induction f using Expr.casesOn <;> rfl
end
theorem cmp_shape {cx : Cx} {sc : Scope} {σ : Vars} {l : Expr} {ops : List CmpOp} {rs : List Expr} {p : Pos} {d : D} (h : evalE cx (.Compare l ops rs p) sc σ = some d) : ∃ op r, ops = [op] ∧ rs = [r] := by
  rcases ops with _ | ⟨op, _ | ⟨op2, ops⟩⟩
  · exact nomatch (show none = some d from h)
  · rcases rs with _ | ⟨r, _ | ⟨r2, rs⟩⟩
    · exact nomatch (show none = some d from h)
    · exact ⟨_, _, rfl, rfl⟩
    · exact nomatch (show none = some d from h)
  · exact nomatch (show none = some d from h)
theorem cmpT_shape {cx : Cx} {sc : Scope} {σ : Vars} {l : Expr} {ops : List CmpOp} {rs : List Expr} {p : Pos} {wd : Option D} {b : Bool} (h : isT cx (.Compare l ops rs p) wd sc σ = some b) : ∃ op r, ops = [op] ∧ rs = [r] := by
  rcases ops with _ | ⟨op, _ | ⟨op2, ops⟩⟩
  · exact nomatch (show none = some b from h)
  · rcases rs with _ | ⟨r, _ | ⟨r2, rs⟩⟩
    · exact nomatch (show none = some b from h)
    · exact ⟨_, _, rfl, rfl⟩
    · exact nomatch (show none = some b from h)
  · exact nomatch (show none = some b from h)
theorem lc_name {cx : Cx} {sc : Scope} {σ : Vars} {elt t iter : Expr} {ifs : List Expr} {as : Int} {scope : Scope} {p : Pos} (h : evalE cx (.ListComp elt [⟨t, iter, ifs, as⟩] scope p) sc σ ≠ none) :
    ∃ x px, t = .Name x px := by
  induction t using Expr.casesOn <;> first | exact ⟨_, _, rfl⟩ | exact absurd rfl h
theorem lc_shape {cx : Cx} {sc : Scope} {σ : Vars} {elt : Expr} {gens : List Comprehension} {scope : Scope} {p : Pos} {d : D} (h : evalE cx (.ListComp elt gens scope p) sc σ = some d) :
    ∃ x px iter ifs as, gens = [⟨.Name x px, iter, ifs, as⟩] := by
  rcases gens with _ | ⟨⟨t, iter, ifs, as⟩, _ | ⟨g2, gs⟩⟩
  · exact nomatch (show none = some d from h)
  · obtain ⟨x, px, rfl⟩ := lc_name (by rw [h]; exact nofun)
    exact ⟨_, _, _, _, _, rfl⟩
  · have : evalE cx (.ListComp elt (⟨t, iter, ifs, as⟩ :: g2 :: gs) scope p) sc σ = none := by induction t using Expr.casesOn <;> rfl
    rw [this] at h; exact ns h

section
variable (prog : Program) (w : World) (K : Frag) (mg mb : Str → Option Value) (A : Around) (cx : Cx)
def EOk (e : Expr) : Prop := ∀ (env : Env) (σ : Vars) (g : Heap) (s : Shared) (d : D), Fs K mg mb env g σ s → evalE cx e env.scope σ = some d → Ev (model prog w) A (eval e env) g s d
def TOk (e : Expr) : Prop := ∀ (whole : Sem Value) (wd : Option D) (env : Env) (σ : Vars) (g : Heap) (s : Shared) (b : Bool), Fs K mg mb env g σ s → isT cx e wd env.scope σ = some b →
    (∀ d, wd = some d → Ev (model prog w) A whole g s d) → EvB (model prog w) A (isTrue e env whole) g s b
structure XOk (e : Expr) : Prop where
  ev : EOk prog w K mg mb A cx e
  tv : TOk prog w K mg mb A cx e
  st : ∀ e' p, e = .Starred e' p → EOk prog w K mg mb A cx e'
end

section
variable {prog : Program} {w : World} {K : Frag} {mg mb : Str → Option Value} {A : Around} {cx : Cx} {n : Nat}
theorem XOk.te {e : Expr} (X : XOk prog w K mg mb A cx e) {env : Env} {σ : Vars} {g : Heap} {s : Shared} {b : Bool} (F : Fs K mg mb env g σ s) (h : isT cx e (evalE cx e env.scope σ) env.scope σ = some b) : EvB (model prog w) A (isTrue e env (eval e env)) g s b :=
  X.tv _ _ env σ g s b F h fun d hd => X.ev env σ g s d F hd
theorem allT_ok {es : List Expr} (H : ∀ e ∈ es, XOk prog w K mg mb A cx e) {env : Env} {σ : Vars} {g : Heap} {s : Shared} {b : Bool} (F : Fs K mg mb env g σ s) (h : allT cx es env.scope σ = some b) :
    EvB (model prog w) A (testsOf es env) g s b := by
  rcases es with _ | ⟨e, _ | ⟨f, r⟩⟩
  · cases (show some true = some b from h)
    exact fun Q E k => wpAny_tests_nil (k g s (.refl F.low))
  · exact fun Q E k => wpAny_tests_one ((H e (.head _)).te F h _ _ k)
  · exact nomatch (show none = some b from h)
theorem evalO_ok {o : Option Expr} (H : ∀ e, o = some e → XOk prog w K mg mb A cx e) {env : Env} {σ : Vars} {g : Heap} {s : Shared} {d : D} (F : Fs K mg mb env g σ s) (h : evalO cx o env.scope σ = some d) :
    Ev (model prog w) A (evalPart o env) g s d := by
  induction o using Option.casesOn with
  | none => cases (show some D.none = some d from h); exact fun Q E k => evalPart_none_step (k _ g s (.refl F.low) .none)
  | some e => exact fun Q E k => evalPart_some_step ((H e rfl).ev env σ g s d F h _ _ k)
theorem evalA_ok {pos : Pos} {env : Env} {σ : Vars} : ∀ {es : List Expr}, (∀ e ∈ es, XOk prog w K mg mb A cx e) → ∀ {g : Heap} {s : Shared} {ds : List D}, Fs K mg mb env g σ s → evalA cx es env.scope σ = some ds →
    EvL (model prog w) A (spliced (backTo pos (starEach es env))) g s ds
  | [], _, g, s, ds, F, h => by
    cases (show some [] = some ds from h)
    exact spl_nil F.low
  | e :: r, H, g, s, ds, F, h => by
    by_cases hf : isStar e = true
    · obtain ⟨e', ep, rfl⟩ := isStar_of hf
      obtain ⟨d, h1, h⟩ := bind_some (eA_star.symm.trans h)
      induction d using Mine.D.casesOn with
      | list xs =>
        obtain ⟨hz, ds', h2, rfl⟩ := star_len h
        exact spl_star hz ((H _ (.head _)).st e' ep rfl env σ g s _ F h1) fun g' s' x => evalA_ok (fun e he => H e (.tail _ he)) (F.ext x) h2
      | _ => exact ns h
    · obtain ⟨d, h1, h⟩ := bind_some ((evalA_plain (not_true' hf)).symm.trans h)
      obtain ⟨ds', h2, rfl⟩ := map_some h
      exact spl_cons (not_true' hf) ((H e (.head _)).ev env σ g s d F h1) fun g' s' x => evalA_ok (fun e he => H e (.tail _ he)) (F.ext x) h2
theorem boolE_ok {op : BoolOp} {pos : Pos} {env : Env} {σ : Vars} : ∀ {es : List Expr}, (∀ e ∈ es, XOk prog w K mg mb A cx e) → ∀ {g : Heap} {s : Shared} {d : D}, Fs K mg mb env g σ s → boolE cx es op env.scope σ = some d →
    Ev (model prog w) A (eval (.BoolOp op es pos) env) g s d
  | [], _, g, s, d, F, h => nomatch (show none = some d from h)
  | [e], H, g, s, d, F, h => fun Q E k => BoolOp_one ((H e (.head _)).ev env σ g s d F h _ _ k)
  | e :: f :: r, H, g, s, d, F, h => by
    obtain ⟨x, h1, h⟩ := bind_some (eB_more.symm.trans h)
    obtain ⟨b, h2, h⟩ := bind_some h
    refine bool_more ((H e (.head _)).ev env σ g s x F h1) h2 (fun hq => ?_) fun hq g' s' x' => boolE_ok (fun e he => H e (.tail _ he)) (F.ext x') ?_
    · rcases hq with ⟨rfl, rfl⟩ | ⟨rfl, rfl⟩ <;> exact (Option.some.inj h).symm
    · induction op using PySem.BoolOp.casesOn <;> induction b using Bool.casesOn <;> first | exact h | exact absurd (.inl ⟨rfl, rfl⟩) hq | exact absurd (.inr ⟨rfl, rfl⟩) hq
theorem allB_ok {op : BoolOp} {pos : Pos} {whole : Sem Value} {env : Env} {σ : Vars} : ∀ {es : List Expr}, (∀ e ∈ es, XOk prog w K mg mb A cx e) → ∀ {g : Heap} {s : Shared} {b : Bool}, Fs K mg mb env g σ s → allB cx es op env.scope σ = some b →
    EvB (model prog w) A (isTrue (.BoolOp op es pos) env whole) g s b
  | [], _, g, s, b, F, h => by
    cases (show some (op == .And) = some b from h)
    exact allB_nil F.low
  | e :: r, H, g, s, b, F, h => by
    obtain ⟨c, h1, h⟩ := bind_some (aB_cons.symm.trans h)
    refine allB_more ((H e (.head _)).te F h1) (fun hq => ?_) fun hq g' s' x' => allB_ok (fun e he => H e (.tail _ he)) (F.ext x') ?_
    · rcases hq with ⟨rfl, rfl⟩ | ⟨rfl, rfl⟩ <;> exact (Option.some.inj h).symm
    · induction op using PySem.BoolOp.casesOn <;> induction c using Bool.casesOn <;> first | exact h | exact absurd (.inl ⟨rfl, rfl⟩) hq | exact absurd (.inr ⟨rfl, rfl⟩) hq

theorem t_plain {e : Expr} (h1 : ∀ wd sc σ, isT cx e wd sc σ = wd.bind truD) (h2 : ∀ env whole, isTrue e env whole = (do let v ← whole; standAt e.pos; holding [v] (truthy v))) : TOk prog w K mg mb A cx e :=
  fun whole wd env σ g s b F h hw => let ⟨d, h3, h4⟩ := bind_some ((h1 wd env.scope σ).symm.trans h); isT_plain (hw d h3) h4 (h2 env whole)
theorem x_plain {e : Expr} (he : EOk prog w K mg mb A cx e) (h1 : ∀ wd sc σ, isT cx e wd sc σ = wd.bind truD) (h2 : ∀ env whole, isTrue e env whole = (do let v ← whole; standAt e.pos; holding [v] (truthy v)))
    (h3 : isStar e = false) : XOk prog w K mg mb A cx e := ⟨he, t_plain h1 h2, fun e' p h => by rw [h] at h3; contradiction⟩
theorem x_none {e : Expr} (he : ∀ sc σ, evalE cx e sc σ = none) (h1 : ∀ wd sc σ, isT cx e wd sc σ = wd.bind truD) (h2 : ∀ env whole, isTrue e env whole = (do let v ← whole; standAt e.pos; holding [v] (truthy v)))
    (h3 : isStar e = false) : XOk prog w K mg mb A cx e := x_plain (fun env σ g s d F h => nomatch (he env.scope σ).symm.trans h) h1 h2 h3

theorem x_BinOp {l r : Expr} {op : Operator} {p : Pos} (L : XOk prog w K mg mb A cx l) (R : XOk prog w K mg mb A cx r) : XOk prog w K mg mb A cx (.BinOp l op r p) := x_plain (fun env σ g s d F h => by
  obtain ⟨a, h1, h⟩ := bind_some (eE_BinOp.symm.trans h)
  obtain ⟨b, h2, h⟩ := bind_some h
  exact binop_ok (L.ev env σ g s a F h1) (fun g' s' x => R.ev env σ g' s' b (F.ext x) h2) h) (fun _ _ _ => rfl) (fun _ _ => rfl) rfl
theorem t_not {x : Expr} {p : Pos} (X : XOk prog w K mg mb A cx x) : TOk prog w K mg mb A cx (.UnaryOp .Not x p) := fun whole wd env σ g s b F h hw => by
  obtain ⟨c, h1, rfl⟩ := map_some (iT_not.symm.trans h)
  exact isT_not (X.te F h1)
theorem x_UnaryOp {x : Expr} {op : UnaryOp} {p : Pos} (X : XOk prog w K mg mb A cx x) : XOk prog w K mg mb A cx (.UnaryOp op x p) where
  ev := fun env σ g s d F h => by
    obtain ⟨a, h1, h⟩ := bind_some (eE_UnaryOp.symm.trans h)
    exact unop_ok (X.ev env σ g s a F h1) h
  tv := by
    induction op using PySem.UnaryOp.casesOn with
    | Not => exact t_not X
    | _ => exact t_plain (fun _ _ _ => rfl) (fun _ _ => rfl)
  st := nofun
theorem x_IfExp {t b o : Expr} {p : Pos} (T : XOk prog w K mg mb A cx t) (B : XOk prog w K mg mb A cx b) (O : XOk prog w K mg mb A cx o) : XOk prog w K mg mb A cx (.IfExp t b o p) := ⟨fun env σ g s d F h => by
  obtain ⟨c, h1, h⟩ := bind_some (eE_IfExp.symm.trans h)
  exact ifexp_ok (T.te F h1) (fun hc g' s' x => B.ev env σ g' s' d (F.ext x) (by subst hc; exact h)) (fun hc g' s' x => O.ev env σ g' s' d (F.ext x) (by subst hc; exact h)),
  fun whole wd env σ g s r F h hw => by
  obtain ⟨c, h1, h⟩ := bind_some (iT_if.symm.trans h)
  exact isT_if (T.te F h1) (fun hc g' s' x => B.te (F.ext x) (by subst hc; exact h)) (fun hc g' s' x => O.te (F.ext x) (by subst hc; exact h)), nofun⟩
theorem x_Compare {l : Expr} {ops : List CmpOp} {rs : List Expr} {p : Pos} (hA : Rm A (n + 8)) (L : XOk prog w K mg mb A cx l) (R : ∀ e ∈ rs, XOk prog w K mg mb A cx e) : XOk prog w K mg mb A cx (.Compare l ops rs p) := ⟨fun env σ g s d F h => by
  obtain ⟨op, r, rfl, rfl⟩ := cmp_shape h
  obtain ⟨hm, h⟩ := ite_none (eE_Compare.symm.trans h)
  obtain ⟨a, h1, h⟩ := bind_some h
  obtain ⟨b, h2, h⟩ := bind_some h
  obtain ⟨c, h3, rfl⟩ := map_some h
  exact compare_ok (rm8 hA) hm (L.ev env σ g s a F h1) (fun g' s' x => (R r (.head _)).ev env σ g' s' b (F.ext x) h2) h3,
  fun whole wd env σ g s c F h hw => by
  obtain ⟨op, r, rfl, rfl⟩ := cmpT_shape h
  obtain ⟨hm, h⟩ := ite_none (iT_cmp.symm.trans h)
  obtain ⟨a, h1, h⟩ := bind_some h
  obtain ⟨b, h2, h⟩ := bind_some h
  exact compareT_ok (rm8 hA) hm (L.ev env σ g s a F h1) (fun g' s' x => (R r (.head _)).ev env σ g' s' b (F.ext x) h2) h, nofun⟩
theorem x_meth {o : Expr} {m : Str} {ap p : Pos} {args : List Expr} (O : XOk prog w K mg mb A cx o) (R : ∀ e ∈ args, XOk prog w K mg mb A cx e) : EOk prog w K mg mb A cx (.Call (.Attribute o m ap) args [] p) := fun env σ g s d F h => by
  rcases args with _ | ⟨e, _ | ⟨e2, r⟩⟩
  · obtain ⟨hc, h⟩ := ite_none (eE_meth0.symm.trans h)
    obtain ⟨hc1, hc2⟩ := or_false' hc
    obtain ⟨ov, h1, h⟩ := bind_some h
    exact meth0_ok hc1 (not_false' hc2) (O.ev env σ g s ov F h1) h
  · obtain ⟨hc, h⟩ := ite_none (eE_meth1.symm.trans h)
    obtain ⟨hc1, hc2⟩ := or_false' hc
    obtain ⟨ov, h1, h⟩ := bind_some h
    obtain ⟨hs, h⟩ := ite_none h
    obtain ⟨a, h2, h⟩ := bind_some h
    exact meth1_ok hc1 (not_false' hc2) hs (O.ev env σ g s ov F h1) (fun g' s' x => (R e (.head _)).ev env σ g' s' a (F.ext x) h2) h
  · obtain ⟨hc, h⟩ := ite_none (eE_meth2.symm.trans h)
    obtain ⟨ov, h1, h⟩ := bind_some h
    exact ns h
theorem x_call (C : CallOK prog w K mg mb n cx.call) (S : SortOK prog w cx.sort) (hA : Rm A (n + 8)) {f : Expr} {args : List Expr} {p : Pos} (hf : isAttr f = false) (X : XOk prog w K mg mb A cx f) (R : ∀ e ∈ args, XOk prog w K mg mb A cx e) : EOk prog w K mg mb A cx (.Call f args [] p) := fun env σ g s d F h => by
  obtain ⟨hc, h⟩ := ite_none ((evalE_call hf).symm.trans h)
  obtain ⟨fd, h1, h⟩ := bind_some h
  obtain ⟨as, h2, h⟩ := bind_some h
  exact call_ok C S hA hf (or_false' hc).2 F (X.ev env σ g s fd F h1) (fun g' s' x => evalA_ok R (F.ext x) h2) h
theorem x_slice {v : Expr} {lo hi st : Option Expr} {sp p : Pos} (V : XOk prog w K mg mb A cx v) (L : ∀ e, lo = some e → XOk prog w K mg mb A cx e) (H : ∀ e, hi = some e → XOk prog w K mg mb A cx e) : EOk prog w K mg mb A cx (.Subscript v (.Slice lo hi st sp) p) := fun env σ g s d F h => by
  induction st using Option.casesOn with
  | none =>
    obtain ⟨o, h1, h⟩ := bind_some (eE_slice.symm.trans h)
    obtain ⟨a, h2, h⟩ := bind_some h
    obtain ⟨b, h3, h⟩ := bind_some h
    exact sl_ok (V.ev env σ g s o F h1) (fun g' s' x => evalO_ok L (F.ext x) h2) (fun g' s' x => evalO_ok H (F.ext x) h3) h
  | some e => exact nomatch (show none = some d from h)
theorem x_sub {v i : Expr} {p : Pos} (hf : isSlice i = false) (V : XOk prog w K mg mb A cx v) (I : XOk prog w K mg mb A cx i) : EOk prog w K mg mb A cx (.Subscript v i p) := fun env σ g s d F h => by
  obtain ⟨o, h1, h⟩ := bind_some ((evalE_sub hf).symm.trans h)
  obtain ⟨k, h2, h⟩ := bind_some h
  exact sub_ok (V.ev env σ g s o F h1) (fun g' s' x => I.ev env σ g' s' k (F.ext x) h2) h
theorem x_List {es : List Expr} {p : Pos} (R : ∀ e ∈ es, XOk prog w K mg mb A cx e) : XOk prog w K mg mb A cx (.List es p) := x_plain (fun env σ g s d F h => by
  obtain ⟨hc, h⟩ := ite_none (eE_List.symm.trans h)
  obtain ⟨ds, h1, h⟩ := bind_some h
  obtain ⟨hz, rfl⟩ := ite_some h
  exact list_ok (evalA_ok R F h1) hz) (fun _ _ _ => rfl) (fun _ _ => rfl) rfl
theorem x_Tuple {es : List Expr} {k : Nat} {p : Pos} (R : ∀ e ∈ es, XOk prog w K mg mb A cx e) : XOk prog w K mg mb A cx (.Tuple es k p) := x_plain (fun env σ g s d F h => by
  obtain ⟨hc, h⟩ := ite_none (eE_Tuple.symm.trans h)
  obtain ⟨ds, h1, h⟩ := bind_some h
  obtain ⟨hz, rfl⟩ := ite_some h
  exact tup_ok (evalA_ok R F h1) hz) (fun _ _ _ => rfl) (fun _ _ => rfl) rfl
theorem ext_cut {g g' : Heap} {s s' : Shared} {Ca : Addr} {h' : Heap} (x : Ext g s g' s') (hs' : Heap.SameBut Ca s'.heap h') (hCs : s.heap.get? Ca = none) (hCg : g'.get? Ca = none) : Ext g s g' { s' with heap := h' } :=
  { sub := x.sub
    low := fun b o e => hs'.extBut b o (by rintro rfl; rw [hCg] at e; exact ns e) (x.low b o e)
    new := x.new
    kept := fun b o e => hs'.extBut b o (by rintro rfl; rw [hCs] at e; exact ns e) (x.kept b o e)
    same := x.same.at' _ _ }
theorem x_ListComp (hA : Rm A (n + 8)) {elt iter : Expr} {x : Str} {px p : Pos} {ifs : List Expr} {as : Int} {scope : Scope} (T : XOk prog w K mg mb A cx elt) (I : XOk prog w K mg mb A cx iter) (R : ∀ e ∈ ifs, XOk prog w K mg mb A cx e) : EOk prog w K mg mb A cx (.ListComp elt [⟨.Name x px, iter, ifs, as⟩] scope p) := fun env σ g s d F h => by
  obtain ⟨hc, h0⟩ := ite_none (eE_ListComp.symm.trans h)
  clear h
  obtain ⟨hc, hsc⟩ := or_false' hc
  obtain ⟨has, hset⟩ := or_false' hc
  obtain rfl : as = 0 := bne_eq_false_iff_eq.mp has
  obtain ⟨src, h1, h⟩ := bind_some h0
  obtain ⟨ds, h2, h⟩ := bind_some h
  obtain ⟨es, h3, rfl⟩ := map_some h
  intro Q E k
  rw [eval_ListComp]
  exact comp_core (hA.handled) F (not_false' hsc) hset (I.ev env σ g s src F h1) h2 h3
    (fun d b cenv g' s' hb hsce F' => allT_ok R F' (by rw [hsce]; exact hb))
    (fun d e cenv g' s' hb hsce F' => T.ev cenv _ g' s' e F' (by rw [hsce]; exact hb)) fun g' s' R Ca m' x dR hR hn hCs hCg => ⟨m', hn, fun h' hs' => k _ g' _ (ext_cut x hs' hCs hCg) dR⟩

theorem sz {a b c : Nat} (h : b < c + 1) (hb : a < b) : a < c := Nat.lt_of_lt_of_le hb (Nat.le_of_lt_succ h)
theorem sz_mem {es : List Expr} {e : Expr} {b c : Nat} (h : b < c + 1) (hb : sizeOf es < b) (he : e ∈ es) : sizeOf e < c := Nat.lt_trans (List.sizeOf_lt_of_mem he) (sz h hb)
theorem sz_opt {o : Option Expr} {e : Expr} {b c : Nat} (h : b < c + 1) (hb : sizeOf o < b) (he : o = some e) : sizeOf e < c := by subst he; exact Nat.lt_trans (Nat.lt_add_of_pos_left Nat.one_pos) (sz h hb)

theorem x_all (C : CallOK prog w K mg mb n cx.call) (S : SortOK prog w cx.sort) (G : GlOK cx.gl mg mb) (hA : Rm A (n + 8)) : ∀ (N : Nat) (e : Expr), sizeOf e < N → XOk prog w K mg mb A cx e
  | 0, e, h => absurd h (Nat.not_lt_zero _)
  | N + 1, e, hN => by
    have IH := x_all C S G hA N
    induction e using PySem.Expr.casesOn with
    | Constant c k p => exact x_plain (fun env σ g s d F h => const_ok F.low h) (fun _ _ _ => rfl) (fun _ _ => rfl) rfl
    | Name x p => exact x_plain (fun env σ g s d F h => name_ok G F h) (fun _ _ _ => rfl) (fun _ _ => rfl) rfl
    | BinOp l op r p => exact x_BinOp (IH l (sz hN (by simp only [Expr.BinOp.sizeOf_spec]; lia))) (IH r (sz hN (by simp only [Expr.BinOp.sizeOf_spec]; lia)))
    | UnaryOp op x p => exact x_UnaryOp (IH x (sz hN (by simp only [Expr.UnaryOp.sizeOf_spec]; lia)))
    | IfExp t b o p => exact x_IfExp (IH t (sz hN (by simp only [Expr.IfExp.sizeOf_spec]; lia))) (IH b (sz hN (by simp only [Expr.IfExp.sizeOf_spec]; lia))) (IH o (sz hN (by simp only [Expr.IfExp.sizeOf_spec]; lia)))
    | BoolOp op vs p =>
      have R : ∀ e ∈ vs, XOk prog w K mg mb A cx e := fun e he => IH e (sz_mem hN (by simp only [Expr.BoolOp.sizeOf_spec]; lia) he)
      exact ⟨fun env σ g s d F h => boolE_ok R F h, fun whole wd env σ g s b F h hw => allB_ok R F h, nofun⟩
    | Compare l ops rs p => exact x_Compare hA (IH l (sz hN (by simp only [Expr.Compare.sizeOf_spec]; lia))) fun e he => IH e (sz_mem hN (by simp only [Expr.Compare.sizeOf_spec]; lia) he)
    | Call f args kws p =>
      refine x_plain ?_ (fun _ _ _ => rfl) (fun _ _ => rfl) rfl
      induction kws using List.casesOn with
      | cons k ks => exact fun env σ g s d F h => nomatch kw_shape.symm.trans h
      | nil =>
        have R : ∀ e ∈ args, XOk prog w K mg mb A cx e := fun e he => IH e (sz_mem hN (by simp only [Expr.Call.sizeOf_spec]; lia) he)
        by_cases hf : isAttr f = true
        · obtain ⟨o, m, ap, rfl⟩ := isAttr_of hf
          exact x_meth (IH o (sz hN (by simp only [Expr.Call.sizeOf_spec, Expr.Attribute.sizeOf_spec]; lia))) R
        · exact x_call C S hA (not_true' hf) (IH f (sz hN (by simp only [Expr.Call.sizeOf_spec]; lia))) R
    | Subscript v i p =>
      refine x_plain ?_ (fun _ _ _ => rfl) (fun _ _ => rfl) rfl
      have V := IH v (sz hN (by simp only [Expr.Subscript.sizeOf_spec]; lia))
      by_cases hf : isSlice i = true
      · obtain ⟨lo, hi, st, sp, rfl⟩ := isSlice_of hf
        exact x_slice V (fun e he => IH e (sz_opt hN (by simp only [Expr.Subscript.sizeOf_spec, Expr.Slice.sizeOf_spec]; lia) he)) (fun e he => IH e (sz_opt hN (by simp only [Expr.Subscript.sizeOf_spec, Expr.Slice.sizeOf_spec]; lia) he))
      · exact x_sub (not_true' hf) V (IH i (sz hN (by simp only [Expr.Subscript.sizeOf_spec]; lia)))
    | List es p => exact x_List fun e he => IH e (sz_mem hN (by simp only [Expr.List.sizeOf_spec]; lia) he)
    | Tuple es k p => exact x_Tuple fun e he => IH e (sz_mem hN (by simp only [Expr.Tuple.sizeOf_spec]; lia) he)
    | ListComp elt gens scope p =>
      refine x_plain (fun env σ g s d F h => ?_) (fun _ _ _ => rfl) (fun _ _ => rfl) rfl
      obtain ⟨x, px, iter, ifs, as, rfl⟩ := lc_shape h
      exact x_ListComp hA (IH elt (sz hN (by simp only [Expr.ListComp.sizeOf_spec]; lia))) (IH iter (sz hN (by simp only [Expr.ListComp.sizeOf_spec, List.cons.sizeOf_spec, Comprehension.mk.sizeOf_spec]; lia)))
        (fun e he => IH e (sz_mem hN (by simp only [Expr.ListComp.sizeOf_spec, List.cons.sizeOf_spec, Comprehension.mk.sizeOf_spec]; lia) he)) env σ g s d F h
    | Starred x p => exact ⟨fun env σ g s d F h => (nomatch (show none = some d from h)), t_plain (fun _ _ _ => rfl) (fun _ _ => rfl), fun e' p' h => by (injection h with h; subst h); exact (IH x (sz hN (by simp only [Expr.Starred.sizeOf_spec]; lia))).ev⟩
    | _ => exact x_none (fun _ _ => rfl) (fun _ _ _ => rfl) (fun _ _ => rfl) rfl
theorem x_ok (C : CallOK prog w K mg mb n cx.call) (S : SortOK prog w cx.sort) (G : GlOK cx.gl mg mb) (hA : Rm A (n + 8)) (e : Expr) : XOk prog w K mg mb A cx e := x_all C S G hA _ e (Nat.lt_succ_self _)
theorem evalE_ok (C : CallOK prog w K mg mb n cx.call) (S : SortOK prog w cx.sort) (G : GlOK cx.gl mg mb) (hA : Rm A (n + 8)) (e : Expr) (env : Env) (σ : Vars) (g : Heap) (s : Shared) (d : D) (F : Fs K mg mb env g σ s) (h : evalE cx e env.scope σ = some d) :
    Ev (model prog w) A (eval e env) g s d := (x_ok C S G hA e).ev env σ g s d F h
theorem isT_ok (C : CallOK prog w K mg mb n cx.call) (S : SortOK prog w cx.sort) (G : GlOK cx.gl mg mb) (hA : Rm A (n + 8)) (e : Expr) (whole : Sem Value) (wd : Option D) (env : Env) (σ : Vars) (g : Heap) (s : Shared) (b : Bool) (F : Fs K mg mb env g σ s) (h : isT cx e wd env.scope σ = some b)
    (hw : ∀ d, wd = some d → Ev (model prog w) A whole g s d) : EvB (model prog w) A (isTrue e env whole) g s b := (x_ok C S G hA e).tv whole wd env σ g s b F h hw
end
end Mine
end

/-! part Mp -/
section
open PySem PySem.W PyProof.Rows PySem.Calls
set_option maxHeartbeats 2000000
set_option linter.unusedVariables false
set_option linter.unusedSimpArgs false
set_option tactic.hygienic false
namespace Mine

structure Sto where
  σ : Vars
  own : Option (Str × List D)
noncomputable def updV (σ : Vars) (x : Str) (d : D) : Vars := fun y => if y = x then some d else σ y
noncomputable def offV (σ : Vars) (x : Str) : Vars := fun y => if y = x then none else σ y
inductive Fl where
  | next (st : Sto)
  | brk (st : Sto)
  | cont (st : Sto)
  | ret (d : D)
noncomputable def flatD : D → Bool
  | .tup _ => false
  | .list _ => false
  | .rng _ => false
  | _ => true
noncomputable def evalR (cx : Cx) (e : Expr) (sc : Scope) (st : Sto) : Option (D × Sto) :=
  match evalE cx e sc st.σ with
  | some d => some (d, st)
  | none => match st.own with
    | none => none
    | some (x, es) => (evalE cx e sc (updV st.σ x (.list es))).bind fun d => if flatD d then some (d, st) else some (d, ⟨updV st.σ x (.list es), none⟩)
noncomputable def testR (cx : Cx) (e : Expr) (sc : Scope) (st : Sto) : Option Bool :=
  match isT cx e (evalE cx e sc st.σ) sc st.σ with
  | some b => some b
  | none => match st.own with
    | none => none
    | some (x, es) => isT cx e (evalE cx e sc (updV st.σ x (.list es))) sc (updV st.σ x (.list es))
noncomputable def storeD (sc : Scope) (x : Str) (d : D) (st : Sto) : Option Sto :=
  if (st.own.map (·.1)) = some x then none else
  match sc.names.lookup x with
  | some .local => some ⟨updV st.σ x d, st.own⟩
  | some .cell => some ⟨updV st.σ x d, st.own⟩
  | _ => none
noncomputable def storeL (sc : Scope) : List Str → List D → Sto → Option Sto
  | [], ds, st => match ds with
    | [] => some st
    | _ :: _ => none
  | x :: xs, ds, st => match ds with
    | [] => none
    | d :: ds => (storeD sc x d st).bind fun st => storeL sc xs ds st
theorem storeL_nil {sc : Scope} {st : Sto} : storeL sc [] [] st = some st := rfl
theorem storeL_cons {sc : Scope} {x : Str} {xs : List Str} {d : D} {ds : List D} {st : Sto} : storeL sc (x :: xs) (d :: ds) st = (storeD sc x d st).bind fun st => storeL sc xs ds st := rfl
noncomputable def tNames : List Expr → Option (List (Str × Pos))
  | [] => some []
  | t :: r => (nameP t).bind fun q => (tNames r).map (q :: ·)
/-- names of a tuple target that the compiler stores in the turned order -/
noncomputable def swapNs (ts : List Expr) (sc : Scope) : List Str :=
  ts.filterMap fun
    | .Name id pos => if sc.names.lookup id == some .local && pos.line == (ts.head?.map (·.pos.line)).getD 0 then some id else none
    | _ => none
noncomputable def swapQ (ts vs : List Expr) (sc : Scope) : Bool :=
  !(!(ts.length == 2 || ts.length == 3) || vs.length != ts.length) && !(vs.any isStar) && !((swapNs ts sc).length != ts.length || (swapNs ts sc).eraseDups.length != (swapNs ts sc).length) && !(vs.all (foldedForSure 8))
noncomputable def swapE (ts : List Expr) (e : Expr) (sc : Scope) : Bool := (tupV e).elim false fun vs => swapQ ts vs sc
noncomputable def okTup (e : Expr) : Bool := (tupV e).elim true fun vs => vs.all (foldedForSure 8) || !(vs.all (constantsAlone 8))
noncomputable def compScope (e : Expr) : Option (Scope × Pos) := by
  induction e using Expr.casesOn with
  | ListComp elt gens s p => exact some (s, p)
  | _ => exact none
/-- a comprehension whose value goes straight into a local name -/
noncomputable def usedQ (x : Str) (xp : Pos) (e : Expr) (sc : Scope) : Bool :=
  match compScope e with
  | some (s, p) => sc.names.lookup x == some .local && xp.line == p.line && !(s.names.any fun (n, k) => n == x && (k == .local || k == .cell))
  | none => false

noncomputable def forGo (f : Sto → Option Fl) (store : D → Sto → Option Sto) : List D → Sto → Option Fl
  | [], st => some (.next st)
  | d :: r, st => (store d st).bind fun st => (f st).bind fun fl => match fl with
    | .next st => forGo f store r st
    | .cont st => forGo f store r st
    | .brk st => some (.next st)
    | .ret d => some (.ret d)
noncomputable def whileGo (test : Sto → Option Bool) (f : Sto → Option Fl) : Nat → Sto → Option Fl
  | 0, _ => none
  | n + 1, st => (test st).bind fun c => if c then (f st).bind fun fl => match fl with
    | .next st => whileGo test f n st
    | .cont st => whileGo test f n st
    | .brk st => some (.next st)
    | .ret d => some (.ret d) else some (.next st)
noncomputable def storeT (sc : Scope) (target : Expr) (d : D) (st : Sto) : Option Sto := by
  induction target using Expr.casesOn with
  | Name x p => exact storeD sc x d st
  | Tuple ts k p => exact (tNames ts).bind fun ns => tup1 (fun ds => if ds.length ≤ lim then storeL sc (ns.map (·.1)) ds st else none) d
  | _ => exact none
noncomputable def meth (e : Expr) : Option (Str × Str × Bool × List Expr) := by
  induction e using Expr.casesOn with
  | Call f args ks p => exact (attrV f).bind fun q => (nameP q.1).bind fun x => if ks.isEmpty then some (x.1, q.2.1, q.2.2.endLine == p.line, args) else none
  | _ => exact none
noncomputable def isNil (e : Expr) : Bool := by
  induction e using Expr.casesOn with
  | List es p => exact es.isEmpty
  | _ => exact false

noncomputable def assignName (cx : Cx) (mu : List Str) (x : Str) (xp : Pos) (e : Expr) (sc : Scope) (st : Sto) : Option Fl :=
  if isNil e && mu.contains x then
    if sc.names.lookup x == some .local && st.own.isNone then some (.next ⟨offV st.σ x, some (x, [])⟩) else none
  else if usedQ x xp e sc then (evalE cx e sc st.σ).bind fun d => (storeD sc x d st).map .next
  else (evalR cx e sc st).bind fun r => (storeD sc x r.1 r.2).map .next
/-- x, y = [], e with x a list that will be changed -/
noncomputable def newOwn (ts : List Expr) (e : Expr) (mu : List Str) : Option (Str × Str × Expr) :=
  two (fun t u => (nameP t).bind fun x => (nameP u).bind fun y => (tupV e).bind fun es => two (fun l e2 => if isNil l && mu.contains x.1 && !isStar e2 && x.1 != y.1 then some (x.1, y.1, e2) else none) es) ts
noncomputable def setAll (cx : Cx) (ts : List Expr) (e : Expr) (sc : Scope) (st : Sto) : Option Fl :=
  (tNames ts).bind fun ns => (evalR cx e sc st).bind fun r => tup1 (fun ds => if ds.length ≤ lim && ds.length == ns.length then
    (if swapE ts e sc then storeL sc (ns.map (·.1)).reverse ds.reverse r.2 else storeL sc (ns.map (·.1)) ds r.2).map .next else none) r.1
noncomputable def setOwn (cx : Cx) (q : Str × Str × Expr) (sc : Scope) (st : Sto) : Option Fl :=
  if sc.names.lookup q.1 == some .local && sc.names.lookup q.2.1 == some .local && st.own.isNone then
    (evalE cx q.2.2 sc st.σ).bind fun d => if flatD d then some (.next ⟨updV (offV st.σ q.1) q.2.1 d, some (q.1, [])⟩) else none
  else none
noncomputable def assignTup (cx : Cx) (mu : List Str) (ts : List Expr) (e : Expr) (sc : Scope) (st : Sto) : Option Fl :=
  if !okTup e then none else (newOwn ts e mu).elim (setAll cx ts e sc st) fun q => setOwn cx q sc st
noncomputable def augD (cx : Cx) (x : Str) (op : Operator) (e : Expr) (sc : Scope) (st : Sto) : Option Fl :=
  if op = .Add then (nameD cx x sc st.σ).bind fun a => (evalE cx e sc st.σ).bind fun b =>
    str1 (fun a => str1 (fun b => if a.length ≤ lim ∧ b.length ≤ lim then (storeD sc x (.str (a ++ b)) st).map .next else none) b) a
  else none
noncomputable def exprD (cx : Cx) (e : Expr) (sc : Scope) (st : Sto) : Option Fl :=
  (meth e).bind fun q => st.own.bind fun w =>
    if q.2.2.1 = true ∧ q.1 = w.1 ∧ sc.names.lookup q.1 = some .local ∧ (q.1 == ("__debug__" : Str)) = false ∧ w.2.length ≤ lim then
      if q.2.1 = ("append" : Str) then
        one (fun a => if isStar a then none else (evalE cx a sc st.σ).bind fun d => some (.next ⟨st.σ, some (w.1, w.2 ++ [d])⟩)) q.2.2.2
      else if q.2.1 = ("pop" : Str) then
        match q.2.2.2 with
        | [] => if w.2.isEmpty then none else some (.next ⟨st.σ, some (w.1, w.2.dropLast)⟩)
        | _ :: _ => none
      else none
    else none
theorem exprD_append {cx : Cx} {x : Str} {np ap p : Pos} {a : Expr} {sc : Scope} {σ : Vars} {y : Str} {es : List D} : exprD cx (.Call (.Attribute (.Name x np) "append" ap) [a] [] p) sc ⟨σ, some (y, es)⟩ =
    if (ap.endLine == p.line) = true ∧ x = y ∧ sc.names.lookup x = some .local ∧ (x == ("__debug__" : Str)) = false ∧ es.length ≤ lim then
      if isStar a then none else (evalE cx a sc σ).bind fun d => some (.next ⟨σ, some (y, es ++ [d])⟩)
    else none := rfl
theorem exprD_pop {cx : Cx} {x : Str} {np ap p : Pos} {sc : Scope} {σ : Vars} {y : Str} {es : List D} : exprD cx (.Call (.Attribute (.Name x np) "pop" ap) [] [] p) sc ⟨σ, some (y, es)⟩ =
    if (ap.endLine == p.line) = true ∧ x = y ∧ sc.names.lookup x = some .local ∧ (x == ("__debug__" : Str)) = false ∧ es.length ≤ lim then
      if es.isEmpty then none else some (.next ⟨σ, some (y, es.dropLast)⟩)
    else none := rfl

mutual
noncomputable def execS (cx : Cx) (mu : List Str) : Stmt → Scope → Sto → Option Fl
  | .Expr e _, sc, st => exprD cx e sc st
  | .Pass _, _, st => some (.next st)
  | .Break _, _, st => some (.brk st)
  | .Continue _, _, st => some (.cont st)
  | .Return (some e) _, sc, st => (evalR cx e sc st).bind fun r => some (.ret r.1)
  | .Return none _, _, _ => some (.ret .none)
  | .Assign [.Name x xp] e _, sc, st => assignName cx mu x xp e sc st
  | .Assign [.Tuple ts _ _] e _, sc, st => assignTup cx mu ts e sc st
  | .AugAssign (.Name x _) op e _, sc, st => augD cx x op e sc st
  | .If t b o _, sc, st => (testR cx t sc st).bind fun c => if c then execB cx mu b sc st else execB cx mu o sc st
  | .While t b [] _, sc, st => whileGo (fun st => testR cx t sc st) (fun st => execB cx mu b sc st) 64 st
  | .For target iter b [] _, sc, st => if isSet iter then none else (evalR cx iter sc st).bind fun r => (itemsD r.1).bind fun ds => forGo (fun st => execB cx mu b sc st) (storeT sc target) ds r.2
  | .Try b (_ :: _) [] [] _, sc, st => execB cx mu b sc st
  | _, _, _ => none
noncomputable def execB (cx : Cx) (mu : List Str) : List Stmt → Scope → Sto → Option Fl
  | [], _, st => some (.next st)
  | s :: r, sc, st => (execS cx mu s sc st).bind fun fl => match fl with
    | .next st => execB cx mu r sc st
    | fl => some fl
end

section
variable {cx : Cx} {mu : List Str} {sc : Scope} {st : Sto}
theorem eS_Expr {e p} : execS cx mu (.Expr e p) sc st = exprD cx e sc st := rfl
theorem eS_Pass {p} : execS cx mu (.Pass p) sc st = some (.next st) := rfl
theorem eS_Break {p} : execS cx mu (.Break p) sc st = some (.brk st) := rfl
theorem eS_Continue {p} : execS cx mu (.Continue p) sc st = some (.cont st) := rfl
theorem eS_Return {e p} : execS cx mu (.Return (some e) p) sc st = (evalR cx e sc st).bind fun r => some (.ret r.1) := rfl
theorem eS_ReturnN {p} : execS cx mu (.Return none p) sc st = some (.ret .none) := rfl
theorem eS_Assign {x xp e p} : execS cx mu (.Assign [.Name x xp] e p) sc st = assignName cx mu x xp e sc st := rfl
theorem eS_AssignT {ts k tp e p} : execS cx mu (.Assign [.Tuple ts k tp] e p) sc st = assignTup cx mu ts e sc st := rfl
theorem eS_Aug {x xp op e p} : execS cx mu (.AugAssign (.Name x xp) op e p) sc st = augD cx x op e sc st := rfl
theorem eS_If {t b o p} : execS cx mu (.If t b o p) sc st = (testR cx t sc st).bind fun c => if c then execB cx mu b sc st else execB cx mu o sc st := rfl
theorem eS_While {t b p} : execS cx mu (.While t b [] p) sc st = whileGo (fun st => testR cx t sc st) (fun st => execB cx mu b sc st) 64 st := rfl
theorem eS_For {t i b p} : execS cx mu (.For t i b [] p) sc st = if isSet i then none else (evalR cx i sc st).bind fun r => (itemsD r.1).bind fun ds => forGo (fun st => execB cx mu b sc st) (storeT sc t) ds r.2 := rfl
theorem eS_Try {b h hs p} : execS cx mu (.Try b (h :: hs) [] [] p) sc st = execB cx mu b sc st := rfl
theorem eK_nil : execB cx mu [] sc st = some (.next st) := rfl
theorem eK_cons {s r} : execB cx mu (s :: r) sc st = (execS cx mu s sc st).bind fun fl => match fl with
    | .next st => execB cx mu r sc st
    | fl => some fl := rfl
end

section
theorem isStar_Name {x p} : isStar (.Name x p) = false := rfl
theorem isSet_Name {x p} : isSet (.Name x p) = false := rfl
theorem behind_Name {x p q} : behindInMarks q (.Name x p) = false := rfl
theorem isNil_Name {x p} : isNil (.Name x p) = false := rfl
theorem bareCall_Name {x p} : bareCall (.Name x p) = false := rfl
theorem usedQ_Name {e p x xp sc} : usedQ x xp (.Name e p) sc = false := rfl
theorem isStar_Constant {c k p} : isStar (.Constant c k p) = false := rfl
theorem isSet_Constant {c k p} : isSet (.Constant c k p) = false := rfl
theorem behind_Constant {c k p q} : behindInMarks q (.Constant c k p) = false := rfl
theorem isNil_Constant {c k p} : isNil (.Constant c k p) = false := rfl
theorem bareCall_Constant {c k p} : bareCall (.Constant c k p) = false := rfl
theorem usedQ_Constant {c k p x xp sc} : usedQ x xp (.Constant c k p) sc = false := rfl
theorem isStar_BinOp {l o r p} : isStar (.BinOp l o r p) = false := rfl
theorem isSet_BinOp {l o r p} : isSet (.BinOp l o r p) = false := rfl
theorem behind_BinOp {l o r p q} : behindInMarks q (.BinOp l o r p) = false := rfl
theorem isNil_BinOp {l o r p} : isNil (.BinOp l o r p) = false := rfl
theorem bareCall_BinOp {l o r p} : bareCall (.BinOp l o r p) = false := rfl
theorem usedQ_BinOp {l o r p x xp sc} : usedQ x xp (.BinOp l o r p) sc = false := rfl
theorem isStar_UnaryOp {o x p} : isStar (.UnaryOp o x p) = false := rfl
theorem isSet_UnaryOp {o x p} : isSet (.UnaryOp o x p) = false := rfl
theorem behind_UnaryOp {o x p q} : behindInMarks q (.UnaryOp o x p) = false := rfl
theorem isNil_UnaryOp {o x p} : isNil (.UnaryOp o x p) = false := rfl
theorem bareCall_UnaryOp {o x p} : bareCall (.UnaryOp o x p) = false := rfl
theorem usedQ_UnaryOp {o e p x xp sc} : usedQ x xp (.UnaryOp o e p) sc = false := rfl
theorem isStar_Call {f a k p} : isStar (.Call f a k p) = false := rfl
theorem isSet_Call {f a k p} : isSet (.Call f a k p) = false := rfl
theorem behind_Call {f a k p q} : behindInMarks q (.Call f a k p) = false := rfl
theorem isNil_Call {f a k p} : isNil (.Call f a k p) = false := rfl
theorem bareCall_Call1 {n np a b k p} : bareCall (.Call (.Name n np) (a :: b) k p) = false := rfl
theorem usedQ_Call {f a k p x xp sc} : usedQ x xp (.Call f a k p) sc = false := rfl
theorem isStar_Subscript {v i p} : isStar (.Subscript v i p) = false := rfl
theorem isSet_Subscript {v i p} : isSet (.Subscript v i p) = false := rfl
theorem behind_Subscript {v i p q} : behindInMarks q (.Subscript v i p) = false := rfl
theorem isNil_Subscript {v i p} : isNil (.Subscript v i p) = false := rfl
theorem bareCall_Subscript {v i p} : bareCall (.Subscript v i p) = false := rfl
theorem usedQ_Subscript {v i p x xp sc} : usedQ x xp (.Subscript v i p) sc = false := rfl
theorem isStar_Tuple {a k p} : isStar (.Tuple a k p) = false := rfl
theorem isSet_Tuple {a k p} : isSet (.Tuple a k p) = false := rfl
theorem behind_Tuple {a k p q} : behindInMarks q (.Tuple a k p) = false := rfl
theorem isNil_Tuple {a k p} : isNil (.Tuple a k p) = false := rfl
theorem bareCall_Tuple {a k p} : bareCall (.Tuple a k p) = false := rfl
theorem usedQ_Tuple {a k p x xp sc} : usedQ x xp (.Tuple a k p) sc = false := rfl
theorem isStar_ListComp {a b c p} : isStar (.ListComp a b c p) = false := rfl
theorem isSet_ListComp {a b c p} : isSet (.ListComp a b c p) = false := rfl
theorem behind_ListComp {a b c p q} : behindInMarks q (.ListComp a b c p) = false := rfl
theorem isNil_ListComp {a b c p} : isNil (.ListComp a b c p) = false := rfl
theorem bareCall_ListComp {a b c p} : bareCall (.ListComp a b c p) = false := rfl
theorem usedQ_ListComp {a b c p x xp sc} : usedQ x xp (.ListComp a b c p) sc = (sc.names.lookup x == some .local && xp.line == p.line && !(c.names.any fun (n, k) => n == x && (k == .local || k == .cell))) := rfl
theorem isStar_IfExp {a b c p} : isStar (.IfExp a b c p) = false := rfl
theorem isSet_IfExp {a b c p} : isSet (.IfExp a b c p) = false := rfl
theorem behind_IfExp {a b c p q} : behindInMarks q (.IfExp a b c p) = false := rfl
theorem isNil_IfExp {a b c p} : isNil (.IfExp a b c p) = false := rfl
theorem bareCall_IfExp {a b c p} : bareCall (.IfExp a b c p) = false := rfl
theorem usedQ_IfExp {a b c p x xp sc} : usedQ x xp (.IfExp a b c p) sc = false := rfl
theorem isStar_Compare {l o r p} : isStar (.Compare l o r p) = false := rfl
theorem isSet_Compare {l o r p} : isSet (.Compare l o r p) = false := rfl
theorem behind_Compare {l o r p q} : behindInMarks q (.Compare l o r p) = false := rfl
theorem isNil_Compare {l o r p} : isNil (.Compare l o r p) = false := rfl
theorem bareCall_Compare {l o r p} : bareCall (.Compare l o r p) = false := rfl
theorem usedQ_Compare {l o r p x xp sc} : usedQ x xp (.Compare l o r p) sc = false := rfl
theorem isStar_BoolOp {o a p} : isStar (.BoolOp o a p) = false := rfl
theorem isSet_BoolOp {o a p} : isSet (.BoolOp o a p) = false := rfl
theorem behind_BoolOp {o a p q} : behindInMarks q (.BoolOp o a p) = false := rfl
theorem isNil_BoolOp {o a p} : isNil (.BoolOp o a p) = false := rfl
theorem bareCall_BoolOp {o a p} : bareCall (.BoolOp o a p) = false := rfl
theorem usedQ_BoolOp {o a p x xp sc} : usedQ x xp (.BoolOp o a p) sc = false := rfl
theorem isStar_List {a p} : isStar (.List a p) = false := rfl
theorem isSet_List {a p} : isSet (.List a p) = false := rfl
theorem behind_List {a p q} : behindInMarks q (.List a p) = false := rfl
theorem isNil_nil {p} : isNil (.List [] p) = true := rfl
theorem isNil_cons {a b p} : isNil (.List (a :: b) p) = false := rfl
theorem bareCall_List {a p} : bareCall (.List a p) = false := rfl
theorem usedQ_List {a p x xp sc} : usedQ x xp (.List a p) sc = false := rfl
theorem isStar_Starred {x p} : isStar (.Starred x p) = true := rfl
theorem badArgs_nil : badArgs [] = false := rfl
theorem badArgs_one {e} : badArgs [e] = (isStar e || false) := rfl
theorem badArgs_two {a b} : badArgs [a, b] = false := rfl
theorem badArgs_three {a b c} : badArgs [a, b, c] = false := rfl
theorem badArgs_four {a b c d} : badArgs [a, b, c, d] = false := rfl
theorem constD_none : constD .none = some .none := rfl
theorem constD_bool {b} : constD (.bool b) = some (.bool b) := rfl
theorem constD_int {b} : constD (.int b) = some (.int b) := rfl
theorem constD_str {b} : constD (.str b) = some (.str b) := rfl
theorem unD_not {x} : unD .Not x = (truD x).map fun b => .bool (!b) := rfl
theorem unD_neg {i} : unD .USub (.int i) = some (.int (-i)) := rfl
end
end Mine
end

/-! part Mq -/
section
open PySem PySem.W PyProof.Rows PySem.Calls
set_option maxHeartbeats 2000000
set_option linter.unusedVariables false
set_option linter.unusedSimpArgs false
set_option tactic.hygienic false
namespace Mine

structure Ok (prog : Program) (w : World) (K : Frag) (mg mb : Str → Option Value) (A : Around) (cx : Cx) (n : Nat) : Prop where
  C : CallOK prog w K mg mb n cx.call
  S : SortOK prog w cx.sort
  G : GlOK cx.gl mg mb
  hA : Rm A (n + 8)

structure In (K : Frag) (mg mb : Str → Option Value) (env : Env) (g₀ : Heap) (s₀ : Shared) (st : Sto) (g : Heap) (s : Shared) : Prop where
  fs : Fs K mg mb env g st.σ s
  ext : Ext g₀ s₀ g s
  dl : s₀.heap.get? env.locals = none
  gl : g.get? env.locals = none
  cs : ∀ x, env.kindOf x = some .cell → ∃ c ov, env.cells.lookup x = some c ∧ s.heap.IsCell c ov ∧ s₀.heap.get? c = none ∧ g.get? c = none
  inj : ∀ x y c, env.kindOf x = some .cell → env.kindOf y = some .cell → env.cells.lookup x = some c → env.cells.lookup y = some c → x = y
  own : ∀ x es, st.own = some (x, es) → env.kindOf x = some .local ∧ ∃ L vs n m, s.heap.Ns env.locals m ∧ m x = some (.ref L) ∧ s.heap.get? L = some (lObj vs n) ∧ s₀.heap.get? L = none ∧ g.get? L = none ∧ DenL g vs es

theorem ns_inj {h : Heap} {a : Addr} {m m' : Str → Option Value} (x : h.Ns a m) (y : h.Ns a m') : m = m' := by
  obtain ⟨o, es, ep, ho, hd, _, hf⟩ := x
  obtain ⟨o', es', ep', ho', hd', _, hf'⟩ := y
  rw [ho] at ho'; obtain rfl := so ho'
  rw [hd] at hd'; (injection hd' with hd'; subst hd')
  funext n
  rw [← hf n, ← hf' n]
theorem ns_ne_cell {h : Heap} {a c : Addr} {m : Str → Option Value} {ov : Option Value} (x : h.Ns a m) (y : h.IsCell c ov) : c ≠ a := by
  rintro rfl
  obtain ⟨o, es, ep, ho, hd, _⟩ := x
  obtain ⟨o', ho', hd'⟩ := y
  rw [ho] at ho'; (injection ho' with ho'; subst ho')
  rw [hd] at hd'; contradiction
theorem ns_ne_list {h : Heap} {a L : Addr} {m : Str → Option Value} {vs : List Value} {n : Nat} (x : h.Ns a m) (y : h.get? L = some (lObj vs n)) : L ≠ a := by
  rintro rfl
  obtain ⟨o, es, ep, ho, hd, _⟩ := x
  rw [ho] at y; (injection y with y; subst y)
  contradiction
theorem cell_ne_list {h : Heap} {c L : Addr} {ov : Option Value} {vs : List Value} {n : Nat} (x : h.IsCell c ov) (y : h.get? L = some (lObj vs n)) : L ≠ c := by
  rintro rfl
  obtain ⟨o, ho, hd⟩ := x
  rw [ho] at y; (injection y with y; subst y)
  contradiction
theorem Ext.none {g g' : Heap} {s s' : Shared} {b : Addr} (x : Ext g s g' s') (hg : g.get? b = none) (ha : ∃ o, s.heap.get? b = some o) : g'.get? b = none := by
  induction e : g'.get? b using Option.casesOn with
  | none => rfl
  | some o =>
    exfalso
    rcases x.new b o e with e' | e'
    · rw [hg] at e'; contradiction
    · obtain ⟨o', q⟩ := ha; rw [e'] at q; contradiction
theorem ns_alive {h : Heap} {a : Addr} {m : Str → Option Value} (x : h.Ns a m) : ∃ o, h.get? a = some o := let ⟨o, _, _, e, _⟩ := x; ⟨o, e⟩

theorem flat_den {g g' : Heap} {v : Value} {d : D} (h : flatD d = true) (a : Den g v d) : Den g' v d := by
  induction a using Mine.Den.casesOn with
  | none => exact .none
  | bool => exact .bool _
  | int => exact .int _ _
  | str => exact .str _ _
  | bytes => exact .bytes _ _
  | typ => exact .typ _
  | bi => exact .bi _
  | glob => exact .glob _
  | rng => exact nf h
  | tup => exact nf h
  | list => exact nf h

theorem updV_eq (σ : Vars) (x : Str) (d : D) : updV σ x d x = some d := if_pos rfl
theorem updV_ne {σ : Vars} {x y : Str} {d : D} (h : y ≠ x) : updV σ x d y = σ y := if_neg h
theorem offV_eq (σ : Vars) (x : Str) : offV σ x x = none := if_pos rfl
theorem offV_ne {σ : Vars} {x y : Str} (h : y ≠ x) : offV σ x y = σ y := if_neg h

mutual
theorem Den.hid {g : Heap} {I : Addr} (hI : ∀ o, g.get? I = some o → ItO o) : ∀ {v : Value} {d : D}, Den g v d → Den (hide I g) v d
  | _, _, .none => .none
  | _, _, .bool b => .bool b
  | _, _, .int i t => .int i t
  | _, _, .str x t => .str x t
  | _, _, .bytes b t => .bytes b t
  | _, _, .typ n => .typ n
  | _, _, .bi n => .bi n
  | _, _, .glob a => .glob a
  | _, _, .rng x => .rng (by
      rename_i a n t u v
      show (hide I g).get? a = _
      rw [hide_ne]
      · exact x
      · rintro rfl; obtain ⟨n, vs, e1, _, e3⟩ := hI _ x; (injection e1 with e1; subst e1); rcases e3 with h | h | h <;> (revert h; decide))
  | _, _, .tup x r => .tup (by
      rw [hide_ne]
      · exact x
      · rintro rfl; obtain ⟨n, vs, e1, e2, e3⟩ := hI _ x; contradiction) (DenL.hid hI r)
  | _, _, .list x r => .list (by
      rw [hide_ne]
      · exact x
      · rintro rfl; obtain ⟨n, vs, e1, e2, e3⟩ := hI _ x; contradiction) (DenL.hid hI r)
theorem DenL.hid {g : Heap} {I : Addr} (hI : ∀ o, g.get? I = some o → ItO o) : ∀ {vs : List Value} {ds : List D}, DenL g vs ds → DenL (hide I g) vs ds
  | _, _, .nil => .nil
  | _, _, .cons x r => .cons (x.hid hI) (DenL.hid hI r)
end
theorem Sub.hid {g h : Heap} {I : Addr} (k : Sub g h) : Sub (hide I g) h := fun b o e => k b o (hide_some e).2
theorem Sub.toHid {g h : Heap} {I : Addr} (k : Sub g h) (hI : g.get? I = none) : Sub g (hide I h) := fun b o e => by
  rw [hide_ne (by rintro rfl; rw [hI] at e; contradiction)]; exact k b o e

section
variable {prog : Program} {w : World} {K : Frag} {mg mb : Str → Option Value} {A : Around} {env : Env} {g₀ : Heap} {s₀ : Shared} {st st' : Sto} {g : Heap} {s : Shared} {cx : Cx} {n : Nat}

theorem In.ns (I : In K mg mb env g₀ s₀ st g s) : ∃ m, s.heap.Ns env.locals m := let ⟨m, h, _⟩ := I.fs.loc; ⟨m, h⟩
theorem In.go {g' : Heap} {s' : Shared} (I : In K mg mb env g₀ s₀ st g s) (x : Ext g s g' s') : In K mg mb env g₀ s₀ st g' s' where
  fs := I.fs.ext x
  ext := I.ext.trans x
  dl := I.dl
  gl := x.none I.gl (let ⟨m, h⟩ := I.ns; ns_alive h)
  cs := fun y hy => let ⟨c, ov, h1, h2, h3, h4⟩ := I.cs y hy; ⟨c, ov, h1, h2.keeps x.kept, h3, x.none h4 (let ⟨o, e, _⟩ := h2; ⟨o, e⟩)⟩
  inj := I.inj
  own := fun y es hy => let ⟨h0, L, vs, n, m, h1, h2, h3, h4, h5, h6⟩ := I.own y es hy; ⟨h0, L, vs, n, m, h1.keeps x.kept, h2, x.kept _ _ h3, h4, x.none h5 ⟨_, h3⟩, h6.sub x.sub⟩
theorem Ext.thin {g g' : Heap} {gL : Heap} {s s' : Shared} (l : Sub g s.heap) (k : Sub g gL) (x : Ext gL s g' s') : Ext g s g s' :=
  ⟨.rfl', l.trans' x.kept, fun _ _ e => .inl e, x.kept, x.same⟩

/-- the own list is laid into the view -/
theorem In.thaw {σ : Vars} {x : Str} {es : List D} (I : In K mg mb env g₀ s₀ ⟨σ, some (x, es)⟩ g s) : ∃ gL, Sub g gL ∧ In K mg mb env g₀ s₀ ⟨updV σ x (.list es), none⟩ gL s := by
  obtain ⟨hx, L, vs, n, m, h1, h2, h3, h4, h5, h6⟩ := I.own x es rfl
  obtain ⟨gL, k1, k2, k3, k4⟩ := view_add I.fs.low h3
  have nope : ∀ b, b ≠ L → g.get? b = none → gL.get? b = none := fun b hb e => by
    cases q : gL.get? b with
    | none => rfl
    | some o => rcases k4 b o q with q' | q'
                · rw [e] at q'; contradiction
                · exact absurd q' hb
  refine ⟨gL, k1, ?_⟩
  exact
    { fs :=
        { wd := I.fs.wd.sub k1
          low := k2
          kind := I.fs.kind
          glob := I.fs.glob
          blt := I.fs.blt
          loc := by
            obtain ⟨m', n1, n2⟩ := I.fs.loc
            have := ns_inj h1 n1
            subst this
            refine ⟨m, h1, fun y d e hk => ?_⟩
            have e : updV σ x (.list es) y = some d := e
            by_cases hy : y = x
            · subst hy; rw [updV_eq] at e; obtain rfl := so e; exact ⟨_, h2, .list k3 (h6.sub k1)⟩
            · rw [updV_ne hy] at e
              obtain ⟨v, e1, e2⟩ := n2 y d e hk; exact ⟨v, e1, e2.sub k1⟩
          cel := fun y d e hk => by
            have e : updV σ x (.list es) y = some d := e
            by_cases hy : y = x
            · subst hy; rw [updV_eq] at e; rw [hx] at hk; cases hk
            · rw [updV_ne hy] at e
              obtain ⟨c, v, e1, e2, e3⟩ := I.fs.cel y d e hk; exact ⟨c, v, e1, e2, e3.sub k1⟩
          all := I.fs.all }
      ext :=
        { sub := I.ext.sub.trans' k1
          low := k2
          new := fun b o e => by
            rcases k4 b o e with e' | rfl
            · exact I.ext.new b o e'
            · exact .inr h4
          kept := I.ext.kept
          same := I.ext.same }
      dl := I.dl
      gl := nope _ (Ne.symm (ns_ne_list h1 h3)) I.gl
      cs := fun y hy => let ⟨c, ov, c1, c2, c3, c4⟩ := I.cs y hy; ⟨c, ov, c1, c2, c3, nope _ (Ne.symm (cell_ne_list c2 h3)) c4⟩
      inj := I.inj
      own := fun y es' e => by contradiction }

theorem evalR_ok {e : Expr} {r : D × Sto} {Q : Value → Shared → Prop} {E : Value → Shared → Prop} (O : Ok prog w K mg mb A cx n) (I : In K mg mb env g₀ s₀ st g s) (h : evalR cx e env.scope st = some r)
    (k : ∀ v g' s', Sub g g' → In K mg mb env g₀ s₀ r.2 g' s' → Den g' v r.1 → Q v s') : wpAny (model prog w) A (eval e env) Q E s := by
  unfold evalR at h
  (set_option tactic.hygienic true in split at h)
  · rename_i d hd
    (injection h with h; subst h)
    exact evalE_ok O.C O.S O.G O.hA e env _ g s d I.fs hd _ _ fun v g' s' x dv => k v g' s' x.sub (I.go x) dv
  · obtain ⟨σ, own⟩ := st
    induction own using Option.casesOn with
    | none => exact ns h
    | some p =>
      obtain ⟨x, es⟩ := p
      simp only at h
      obtain ⟨d, h1, h⟩ := bind_some h
      obtain ⟨gL, k1, IL⟩ := I.thaw
      refine evalE_ok O.C O.S O.G O.hA e env _ gL s d IL.fs h1 _ _ fun v g' s' x' dv => ?_
      split at h
      · rename_i hf
        cases h
        exact k v g s' .rfl' (I.go (x'.thin I.fs.low k1)) (flat_den hf dv)
      · cases h
        exact k v g' s' (k1.trans' x'.sub) (IL.go x') dv
theorem testR_ok {e : Expr} {b : Bool} {Q : Bool → Shared → Prop} {E : Value → Shared → Prop} (O : Ok prog w K mg mb A cx n) (I : In K mg mb env g₀ s₀ st g s) (h : testR cx e env.scope st = some b)
    (k : ∀ g' s', Sub g g' → In K mg mb env g₀ s₀ st g' s' → Q b s') : wpAny (model prog w) A (isTrue e env (eval e env)) Q E s := by
  unfold testR at h
  (set_option tactic.hygienic true in split at h)
  · rename_i d hd
    (injection h with h; subst h)
    exact isT_ok O.C O.S O.G O.hA e _ _ env _ g s _ I.fs hd (fun d' h' => evalE_ok O.C O.S O.G O.hA e env _ g s d' I.fs h') _ _ fun g' s' x => k g' s' x.sub (I.go x)
  · obtain ⟨σ, own⟩ := st
    induction own using Option.casesOn with
    | none => exact ns h
    | some p =>
      obtain ⟨x, es⟩ := p
      simp only at h
      obtain ⟨gL, k1, IL⟩ := I.thaw
      exact isT_ok O.C O.S O.G O.hA e _ _ env _ gL s _ IL.fs h (fun d' h' => evalE_ok O.C O.S O.G O.hA e env _ gL s d' IL.fs h') _ _ fun g' s' x => k g s' .rfl' (I.go (x.thin I.fs.low k1))

/-- a change at one place that is nobody's -/
theorem In.chg {b : Addr} {h' : Heap} {tk : Nat} (I : In K mg mb env g₀ s₀ st g s) (hk : ∀ a o, a ≠ b → s.heap.get? a = some o → h'.get? a = some o) (hg : g.get? b = none) (hs : s₀.heap.get? b = none) (hl : b ≠ env.locals)
    (hc : ∀ ov, ¬ s.heap.IsCell b ov) (hL : ∀ vs n, s.heap.get? b ≠ some (lObj vs n)) : In K mg mb env g₀ s₀ st g { s with heap := h', toks := tk } := by
  have low : Sub g h' := fun a o e => hk a o (by rintro rfl; rw [hg] at e; contradiction) (I.fs.low a o e)
  have nsk : ∀ {m}, s.heap.Ns env.locals m → h'.Ns env.locals m := fun x => x.at' fun o e => hk _ o (Ne.symm hl) e
  have ck : ∀ {c ov}, s.heap.IsCell c ov → h'.IsCell c ov := fun {c ov} x => by
    obtain ⟨o, e, d⟩ := id x
    exact ⟨o, hk _ o (by rintro rfl; exact hc _ x) e, d⟩
  exact
    { fs :=
        { wd := I.fs.wd
          low := low
          kind := I.fs.kind
          glob := I.fs.glob
          blt := I.fs.blt
          loc := let ⟨m, h1, h2⟩ := I.fs.loc; ⟨m, nsk h1, h2⟩
          cel := fun y d e k => let ⟨c, v, e1, e2, e3⟩ := I.fs.cel y d e k; ⟨c, v, e1, ck e2, e3⟩
          all := I.fs.all }
      ext :=
        { sub := I.ext.sub
          low := low
          new := I.ext.new
          kept := fun a o e => hk a o (by rintro rfl; rw [hs] at e; contradiction) (I.ext.kept a o e)
          same := I.ext.same.at' _ _ }
      dl := I.dl
      gl := I.gl
      cs := fun y hy => let ⟨c, ov, c1, c2, c3, c4⟩ := I.cs y hy; ⟨c, ov, c1, ck c2, c3, c4⟩
      inj := I.inj
      own := fun y es hy => let ⟨h0, L, vs, n, m, h1, h2, h3, h4, h5, h6⟩ := I.own y es hy; ⟨h0, L, vs, n, m, nsk h1, h2, hk _ _ (by rintro rfl; exact hL _ _ h3) h3, h4, h5, h6⟩ }

theorem In.hid {gp : Heap} {sp : Shared} {stp : Sto} {J : Addr} (Ip : In K mg mb env g₀ s₀ stp gp sp) (I : In K mg mb env g₀ s₀ st g s) (k : Sub gp (hide J g)) (hJ : ∀ o, g.get? J = some o → ItO o) : In K mg mb env g₀ s₀ st (hide J g) s where
  fs :=
    { wd := Ip.fs.wd.sub k
      low := I.fs.low.hid
      kind := I.fs.kind
      glob := I.fs.glob
      blt := I.fs.blt
      loc := let ⟨m, h1, h2⟩ := I.fs.loc; ⟨m, h1, fun y d e k => let ⟨v, e1, e2⟩ := h2 y d e k; ⟨v, e1, e2.hid hJ⟩⟩
      cel := fun y d e k => let ⟨c, v, e1, e2, e3⟩ := I.fs.cel y d e k; ⟨c, v, e1, e2, e3.hid hJ⟩
      all := I.fs.all }
  ext :=
    { sub := Ip.ext.sub.trans' k
      low := I.fs.low.hid
      new := fun b o e => I.ext.new b o (hide_some e).2
      kept := I.ext.kept
      same := I.ext.same }
  dl := I.dl
  gl := by
    induction e : (hide J g).get? env.locals using Option.casesOn with
    | none => rfl
    | some o => have := (hide_some e).2; rw [I.gl] at this; contradiction
  cs := fun y hy => let ⟨c, ov, c1, c2, c3, c4⟩ := I.cs y hy; ⟨c, ov, c1, c2, c3, by
    induction e : (hide J g).get? c using Option.casesOn with
    | none => rfl
    | some o => have := (hide_some e).2; rw [c4] at this; contradiction⟩
  inj := I.inj
  own := fun y es hy => let ⟨h0, L, vs, n, m, h1, h2, h3, h4, h5, h6⟩ := I.own y es hy; ⟨h0, L, vs, n, m, h1, h2, h3, h4, by
    induction e : (hide J g).get? L using Option.casesOn with
    | none => rfl
    | some o => (have := (hide_some e).2; rw [h5] at this; contradiction), h6.hid hJ⟩

/-- a thing of the heap, laid into the view -/
theorem In.add {J : Addr} {o : Obj} (I : In K mg mb env g₀ s₀ st g s) (ho : s.heap.get? J = some o) (hs : s₀.heap.get? J = none) (hl : J ≠ env.locals) (hc : ∀ ov, ¬ s.heap.IsCell J ov) (hL : ∀ vs n, s.heap.get? J ≠ some (lObj vs n)) :
    ∃ gJ, Sub g gJ ∧ gJ.get? J = some o ∧ (∀ b o', gJ.get? b = some o' → g.get? b = some o' ∨ b = J) ∧ In K mg mb env g₀ s₀ st gJ s := by
  obtain ⟨gJ, k1, k2, k3, k4⟩ := view_add I.fs.low ho
  have nope : ∀ b, b ≠ J → g.get? b = none → gJ.get? b = none := fun b hb e => by
    cases q : gJ.get? b with
    | none => rfl
    | some o => rcases k4 b o q with q' | q'
                · rw [e] at q'; contradiction
                · exact absurd q' hb
  refine ⟨gJ, k1, k3, k4, ?_⟩
  exact
    { fs :=
        { wd := I.fs.wd.sub k1
          low := k2
          kind := I.fs.kind
          glob := I.fs.glob
          blt := I.fs.blt
          loc := let ⟨m, h1, h2⟩ := I.fs.loc; ⟨m, h1, fun y d e k => let ⟨v, e1, e2⟩ := h2 y d e k; ⟨v, e1, e2.sub k1⟩⟩
          cel := fun y d e k => let ⟨c, v, e1, e2, e3⟩ := I.fs.cel y d e k; ⟨c, v, e1, e2, e3.sub k1⟩
          all := I.fs.all }
      ext :=
        { sub := I.ext.sub.trans' k1
          low := k2
          new := fun b o e => by
            rcases k4 b o e with e' | rfl
            · exact I.ext.new b o e'
            · exact .inr hs
          kept := I.ext.kept
          same := I.ext.same }
      dl := I.dl
      gl := nope _ (Ne.symm hl) I.gl
      cs := fun y hy => let ⟨c, ov, c1, c2, c3, c4⟩ := I.cs y hy; ⟨c, ov, c1, c2, c3, nope _ (by rintro rfl; exact hc _ c2) c4⟩
      inj := I.inj
      own := fun y es e => let ⟨h0, L, vs, n, m, h1, h2, h3, h4, h5, h6⟩ := I.own y es e; ⟨h0, L, vs, n, m, h1, h2, h3, h4, nope _ (by rintro rfl; exact hL _ _ h3) h5, h6.sub k1⟩ }

theorem In.store {x : Str} {d : D} {v : Value} {Q : Unit → Shared → Prop} {E : Value → Shared → Prop} (I : In K mg mb env g₀ s₀ st g s) (hd : Den g v d) (h : storeD env.scope x d st = some st')
    (k : ∀ s', In K mg mb env g₀ s₀ st' g s' → (env.kindOf x = some .local → ∀ b o, b ≠ env.locals → s.heap.get? b = some o → s'.heap.get? b = some o) → Q () s') : wpAny (model prog w) A (storeName env x v) Q E s := by
  obtain ⟨σ, own⟩ := st
  unfold storeD at h
  split at h
  · contradiction
  · rename_i hne
    have hne : ∀ y es, own = some (y, es) → y ≠ x := by rintro y es rfl rfl; exact hne rfl
    obtain ⟨m, hn, hm⟩ := I.fs.loc
    split at h
    · rename_i hl
      cases h
      have hl : env.kindOf x = some .local := hl
      refine wpAny_storeName_local hl hn (fun h' hn' hs' => ?_) (by rw [I.fs.kind]; rfl)
      have hk : ∀ a o, a ≠ env.locals → s.heap.get? a = some o → h'.get? a = some o := fun a o ha e => hs'.extBut a o ha e
      have low : Sub g h' := fun a o e => hk a o (by rintro rfl; rw [I.gl] at e; contradiction) (I.fs.low a o e)
      have ck : ∀ {c ov}, s.heap.IsCell c ov → h'.IsCell c ov := fun {c ov} y => by
        obtain ⟨o, e, d⟩ := id y
        exact ⟨o, hk _ o (ns_ne_cell hn y) e, d⟩
      refine k _ ?_ fun _ => hk
      exact
        { fs :=
            { wd := I.fs.wd
              low := low
              kind := I.fs.kind
              glob := I.fs.glob
              blt := I.fs.blt
              loc := ⟨_, hn', fun y d' e hky => by
                have e : updV σ x d y = some d' := e
                by_cases hy : y = x
                · subst hy; rw [updV_eq] at e; obtain rfl := so e; exact ⟨v, by simp, hd⟩
                · rw [updV_ne hy] at e
                  obtain ⟨v', e1, e2⟩ := hm y d' e hky
                  exact ⟨v', by simp [hy, e1], e2⟩⟩
              cel := fun y d' e hky => by
                have e : updV σ x d y = some d' := e
                by_cases hy : y = x
                · subst hy; rw [updV_eq] at e; rw [hl] at hky; cases hky
                · rw [updV_ne hy] at e
                  obtain ⟨c, v', e1, e2, e3⟩ := I.fs.cel y d' e hky; exact ⟨c, v', e1, ck e2, e3⟩
              all := I.fs.all }
          ext :=
            { sub := I.ext.sub
              low := low
              new := I.ext.new
              kept := fun a o e => hk a o (by rintro rfl; rw [I.dl] at e; contradiction) (I.ext.kept a o e)
              same := I.ext.same.at' _ _ }
          dl := I.dl
          gl := I.gl
          cs := fun y hy => let ⟨c, ov, c1, c2, c3, c4⟩ := I.cs y hy; ⟨c, ov, c1, ck c2, c3, c4⟩
          inj := I.inj
          own := fun y es hy => by
            obtain ⟨h0, L, vs, n, m', h1, h2, h3, h4, h5, h6⟩ := I.own y es hy
            have := ns_inj h1 hn
            subst this
            exact ⟨h0, L, vs, n, _, hn', by rw [if_neg (hne y es hy)]; exact h2, hk _ _ (ns_ne_list hn h3) h3, h4, h5, h6⟩ }
    · rename_i hl
      cases h
      have hl : env.kindOf x = some .cell := hl
      obtain ⟨c, ov, c1, c2, c3, c4⟩ := I.cs x hl
      refine wpAny_storeName_cell I.fs.kind hl c1 c2 fun h' hc' hs' => ?_
      have hk : ∀ a o, a ≠ c → s.heap.get? a = some o → h'.get? a = some o := fun a o ha e => hs'.extBut a o ha e
      have low : Sub g h' := fun a o e => hk a o (by rintro rfl; rw [c4] at e; contradiction) (I.fs.low a o e)
      have nsk : ∀ {m}, s.heap.Ns env.locals m → h'.Ns env.locals m := fun y => y.at' fun o e => hk _ o (Ne.symm (ns_ne_cell hn c2)) e
      refine k _ ?_ fun q => by rw [hl] at q; cases q
      exact
        { fs :=
            { wd := I.fs.wd
              low := low
              kind := I.fs.kind
              glob := I.fs.glob
              blt := I.fs.blt
              loc := ⟨m, nsk hn, fun y d' e hky => by
                have e : updV σ x d y = some d' := e
                by_cases hy : y = x
                · subst hy; rw [updV_eq] at e; rw [hl] at hky; cases hky
                · rw [updV_ne hy] at e
                  exact hm y d' e hky⟩
              cel := fun y d' e hky => by
                have e : updV σ x d y = some d' := e
                by_cases hy : y = x
                · subst hy; rw [updV_eq] at e; (injection e with e; subst e); exact ⟨c, v, c1, hc', hd⟩
                · rw [updV_ne hy] at e
                  obtain ⟨c', v', e1, e2, e3⟩ := I.fs.cel y d' e hky
                  refine ⟨c', v', e1, ?_, e3⟩
                  obtain ⟨o, q, dq⟩ := e2
                  exact ⟨o, hk _ o (by rintro rfl; exact hy (I.inj y x _ hky hl e1 c1)) q, dq⟩
              all := I.fs.all }
          ext :=
            { sub := I.ext.sub
              low := low
              new := I.ext.new
              kept := fun a o e => hk a o (by rintro rfl; rw [c3] at e; contradiction) (I.ext.kept a o e)
              same := I.ext.same.at' _ _ }
          dl := I.dl
          gl := I.gl
          cs := fun y hy => by
            obtain ⟨c', ov', d1, d2, d3, d4⟩ := I.cs y hy
            by_cases hcc : c' = c
            · subst hcc; exact ⟨c', _, d1, hc', d3, d4⟩
            · obtain ⟨o, q, dq⟩ := d2
              exact ⟨c', ov', d1, ⟨o, hk _ o hcc q, dq⟩, d3, d4⟩
          inj := I.inj
          own := fun y es hy => by
            obtain ⟨h0, L, vs, n, m', h1, h2, h3, h4, h5, h6⟩ := I.own y es hy
            exact ⟨h0, L, vs, n, m', nsk h1, h2, hk _ _ (cell_ne_list c2 h3) h3, h4, h5, h6⟩ }
    · contradiction

/-- a fresh empty list becomes a name's own -/
theorem In.storeOwn {σ : Vars} {x : Str} {L : Addr} {vs : List Value} {es : List D} {nn : Nat} {Q : Unit → Shared → Prop} {E : Value → Shared → Prop} (I : In K mg mb env g₀ s₀ ⟨σ, none⟩ g s) (hl : env.kindOf x = some .local) (hL : s.heap.get? L = some (lObj vs nn)) (hs : s₀.heap.get? L = none)
    (hg : g.get? L = none) (hd : DenL g vs es) (k : ∀ s', In K mg mb env g₀ s₀ ⟨offV σ x, some (x, es)⟩ g s' → Q () s') : wpAny (model prog w) A (storeName env x (.ref L)) Q E s := by
  obtain ⟨m, hn, hm⟩ := I.fs.loc
  refine wpAny_storeName_local hl hn (fun h' hn' hs' => ?_) (by rw [I.fs.kind]; rfl)
  have hk : ∀ a o, a ≠ env.locals → s.heap.get? a = some o → h'.get? a = some o := fun a o ha e => hs'.extBut a o ha e
  have low : Sub g h' := fun a o e => hk a o (by rintro rfl; rw [I.gl] at e; contradiction) (I.fs.low a o e)
  have ck : ∀ {c ov}, s.heap.IsCell c ov → h'.IsCell c ov := fun {c ov} y => by
    obtain ⟨o, e, d⟩ := id y
    exact ⟨o, hk _ o (ns_ne_cell hn y) e, d⟩
  refine k _ ?_
  exact
    { fs :=
        { wd := I.fs.wd
          low := low
          kind := I.fs.kind
          glob := I.fs.glob
          blt := I.fs.blt
          loc := ⟨_, hn', fun y d' e hky => by
            have e : offV σ x y = some d' := e
            by_cases hy : y = x
            · subst hy; rw [offV_eq] at e; contradiction
            · rw [offV_ne hy] at e
              obtain ⟨v', e1, e2⟩ := hm y d' e hky
              exact ⟨v', by simp [hy, e1], e2⟩⟩
          cel := fun y d' e hky => by
            have e : offV σ x y = some d' := e
            by_cases hy : y = x
            · subst hy; rw [offV_eq] at e; contradiction
            · rw [offV_ne hy] at e
              obtain ⟨c, v', e1, e2, e3⟩ := I.fs.cel y d' e hky; exact ⟨c, v', e1, ck e2, e3⟩
          all := I.fs.all }
      ext :=
        { sub := I.ext.sub
          low := low
          new := I.ext.new
          kept := fun a o e => hk a o (by rintro rfl; rw [I.dl] at e; contradiction) (I.ext.kept a o e)
          same := I.ext.same.at' _ _ }
      dl := I.dl
      gl := I.gl
      cs := fun y hy => let ⟨c, ov, c1, c2, c3, c4⟩ := I.cs y hy; ⟨c, ov, c1, ck c2, c3, c4⟩
      inj := I.inj
      own := fun y es' hy => by
        cases hy
        exact ⟨hl, L, vs, nn, _, hn', by simp, hk _ _ (ns_ne_list hn hL) hL, hs, hg, hd⟩ }
end
end Mine
end

/-! part Mr -/
section
open PySem PySem.W PyProof.Rows PySem.Calls
set_option maxHeartbeats 2000000
set_option linter.unusedVariables false
set_option linter.unusedSimpArgs false
set_option tactic.hygienic false
namespace Mine

noncomputable def FlowOK (K : Frag) (mg mb : Str → Option Value) (env : Env) (g₀ : Heap) (s₀ : Shared) (g : Heap) (fl : Fl) (f : Flow) (s' : Shared) : Prop :=
  match fl, f with
  | .next st, .next => ∃ g', Sub g g' ∧ In K mg mb env g₀ s₀ st g' s'
  | .brk st, .brk => ∃ g', Sub g g' ∧ In K mg mb env g₀ s₀ st g' s'
  | .cont st, .cont => ∃ g', Sub g g' ∧ In K mg mb env g₀ s₀ st g' s'
  | .ret d, .ret v => ∃ g', Ext g₀ s₀ g' s' ∧ Den g' v d
  | _, _ => False
theorem FlowOK.mono {K : Frag} {mg mb : Str → Option Value} {env : Env} {g₀ : Heap} {s₀ : Shared} {g g' : Heap} {fl : Fl} {f : Flow} {s' : Shared} (k : Sub g g') (h : FlowOK K mg mb env g₀ s₀ g' fl f s') : FlowOK K mg mb env g₀ s₀ g fl f s' := by
  induction fl using Mine.Fl.casesOn <;> induction f using PySem.Flow.casesOn <;> first
    | exact h
    | (obtain ⟨g'', a, b⟩ := h; exact ⟨g'', k.trans' a, b⟩)

section
variable {prog : Program} {w : World} {K : Frag} {mg mb : Str → Option Value} {A : Around} {env : Env} {g₀ : Heap} {s₀ : Shared} {st st' : Sto} {g : Heap} {s : Shared} {cx : Cx} {n : Nat} {fl : Fl} {E : Value → Shared → Prop}

theorem block_fn (hk : env.scope.kind = .function) : env.blockKind = .function := by unfold Env.blockKind; rw [hk]; rfl
theorem swaps_used {x : Str} {xp : Pos} {e : Expr} {line : Nat} (hk : env.scope.kind = .function) (h : usedQ x xp e env.scope = true) : swapsWith e (some (.Name x xp)) line env = pure true := by
  induction e using Expr.casesOn with
  | ListComp elt gens s p =>
    show (pure (env.blockKind == .function && env.kindOf x == some .local && xp.line == p.line && !(s.names.any fun (n, k) => n == x && (k == .local || k == .cell))) : Sem Bool) = pure true
    rw [block_fn hk]
    exact congrArg pure h
  | _ => exact nf h
theorem swaps_plain {x : Str} {xp : Pos} {e : Expr} {line : Nat} {sc : Scope} {σ : Vars} {d : D} (hk : env.scope.kind = .function) (h : usedQ x xp e env.scope = false) (hd : evalE cx e sc σ = some d) : swapsWith e (some (.Name x xp)) line env = pure false := by
  induction e using Expr.casesOn with
  | ListComp elt gens s p =>
    show (pure (env.blockKind == .function && env.kindOf x == some .local && xp.line == p.line && !(s.names.any fun (n, k) => n == x && (k == .local || k == .cell))) : Sem Bool) = pure false
    rw [block_fn hk]
    exact congrArg pure h
  | SetComp => exact ns hd
  | DictComp => exact ns hd
  | _ => rfl
theorem isNil_inv {e : Expr} (h : isNil e = true) : ∃ p, e = .List [] p := by
  induction e using Expr.casesOn with
  | List es p => induction es using List.casesOn with
    | nil => exact ⟨p, rfl⟩
    | cons => exact nf h
  | _ => exact nf h
theorem usedQ_inv {x : Str} {xp : Pos} {e : Expr} {sc : Scope} (h : usedQ x xp e sc = true) : sc.names.lookup x = some .local ∧ ∃ elt gens s p, e = .ListComp elt gens s p := by
  induction e using Expr.casesOn with
  | ListComp elt gens s p =>
    have h : (sc.names.lookup x == some .local && xp.line == p.line && !(s.names.any fun (n, k) => n == x && (k == .local || k == .cell))) = true := h
    rw [Bool.and_eq_true, Bool.and_eq_true] at h
    exact ⟨beq_iff_eq.mp h.1.1, _, _, _, _, rfl⟩
  | _ => exact nf h
theorem evalR_some {e : Expr} {sc : Scope} {r : D × Sto} (h : evalR cx e sc st = some r) : ∃ σ d, evalE cx e sc σ = some d := by
  unfold evalR at h
  revert h
  induction hd : evalE cx e sc st.σ using Option.casesOn with
  | some d => exact fun _ => ⟨_, _, hd⟩
  | none =>
    induction st.own using Option.casesOn with
    | none => exact fun h => ns h
    | some q => intro h; obtain ⟨d, h1, _⟩ := bind_some h; exact ⟨_, _, h1⟩

theorem assignName_ok {x : Str} {xp pos : Pos} {e : Expr} {mu : List Str} (O : Ok prog w K mg mb A cx n) (I : In K mg mb env g₀ s₀ st g s) (h : assignName cx mu x xp e env.scope st = some fl) :
    wpAny (model prog w) A (exec (.Assign [.Name x xp] e pos) env) (FlowOK K mg mb env g₀ s₀ g fl) E s := by
  refine ite_elim h (fun hc q => ?_) fun _ h1 => ite_elim h1 (fun hu q => ?_) fun hu q => ?_ <;> clear h <;> try clear h1
  · obtain ⟨hk, hq⟩ := ite_some q
    · rw [Bool.and_eq_true] at hk hc
      obtain ⟨σ, own⟩ := st
      obtain ⟨hl, ho⟩ := hk
      obtain rfl := Option.isNone_iff_eq_none.mp ho
      replace hl := beq_iff_eq.mp hl
      obtain ⟨p, rfl⟩ := isNil_inv hc.1
      subst hq
      refine wpAny_Assign_Name (List_ (spliced_none (wpAny_newList ?_ (Nat.zero_le _)))) rfl
      have x₁ : Ext g s g { s with heap := s.heap.push ({ cls := .type "list", data := .seq ([] : List Value).toArray } : Obj), toks := s.toks } := Ext.grown I.fs.low (fun b o e => Heap.get?_push_of_some _ e) _
      exact (I.go x₁).storeOwn hl (L := s.heap.objs.size) (vs := []) (nn := 0) (es := []) (Heap.get?_push_size _ rfl) (dead_of_kept I.ext.kept (dead_size _)) (dead_of_kept I.fs.low (dead_size _)) .nil fun s' I' => ⟨g, .rfl', I'⟩
  · · obtain ⟨d, hd, h⟩ := bind_some q
      obtain ⟨st', hs, rfl⟩ := map_some h
      rw [exec_Assign_Name_used x xp e pos (swaps_used I.fs.kind hu)]
      refine wpAny_bind (wpAny_standAt (wpAny_bind ?_))
      obtain ⟨hl, elt, gens, scope, p, rfl⟩ := usedQ_inv hu
      · obtain ⟨y, px, iter, ifs, as, hge⟩ := lc_shape hd
        subst hge
        obtain ⟨hc, hh⟩ := ite_none (eE_ListComp.symm.trans hd)
        clear hd
        obtain ⟨hc, hsc⟩ := or_false' hc
        obtain ⟨has, hset⟩ := or_false' hc
        obtain rfl : as = 0 := bne_eq_false_iff_eq.mp has
        have hsc := not_false' hsc
        obtain ⟨src, h1, hh⟩ := bind_some hh
        obtain ⟨ds, h2, hh⟩ := bind_some hh
        obtain ⟨es, h3, rfl⟩ := map_some hh
        show wpAny _ A (do let _ ← comprehension (.ListComp elt [⟨.Name y px, iter, ifs, 0⟩] scope p) scope env _ (newList []) false (eval iter env) (some (assign (.Name x xp) env))) _ _ s
        refine wpAny_bind (wpAny_mono (comp_core (Q := fun _ s' => FlowOK K mg mb env g₀ s₀ g (.next st') .next s') (use := some (assign (.Name x xp) env)) O.hA.handled I.fs hsc hset (evalE_ok O.C O.S O.G O.hA iter env _ g s src I.fs h1) h2 h3
          (fun d b cenv g' s' hb hsce F' => allT_ok (fun e _ => x_ok O.C O.S O.G O.hA e) F' (by rw [hsce]; exact hb))
          (fun d e cenv g' s' hb hsce F' => evalE_ok O.C O.S O.G O.hA elt cenv _ g' s' e F' (by rw [hsce]; exact hb)) fun g' s' R Ca m' x' dR hR hn hCs hCg => ?_) (fun _ s' hq => wpAny_pure (wpAny_pure hq)) fun _ _ e => e)
        have hCl : Ca ≠ env.locals := by
          rintro rfl
          obtain ⟨m, q⟩ := I.ns
          obtain ⟨o, q⟩ := ns_alive q
          rw [hCs] at q; exact ns q
        refine assign_Name ((I.go x').store dR hs fun s'' I'' hk => ⟨m', hn.at' fun o e => hk hl _ o hCl e, fun h' hs' => ⟨g', x'.sub, ?_⟩⟩)
        have hn'' := hn.at' fun o e => hk hl _ o hCl e
        have I₃ := I''.chg (b := Ca) (h' := h') (tk := s''.toks) (fun a o ha e => hs'.extBut a o ha e) hCg (dead_of_kept I.ext.kept hCs) hCl (fun ov q => ns_ne_cell hn'' q rfl) (fun vs n q => ns_ne_list hn'' q rfl)
        exact I₃
  · · obtain ⟨r, hr, h⟩ := bind_some q
      obtain ⟨st', hs, rfl⟩ := map_some h
      obtain ⟨σ', d', hd'⟩ := evalR_some hr
      refine wpAny_Assign_Name (evalR_ok O I hr fun v g' s' k I' dv => I'.store dv hs fun s'' I'' _ => ⟨g', k, I''⟩) (swaps_plain I.fs.kind ((Bool.not_eq_true _).mp hu) hd')

theorem augD_ok {x : Str} {xp pos : Pos} {op : Operator} {e : Expr} (O : Ok prog w K mg mb A cx n) (I : In K mg mb env g₀ s₀ st g s) (h : augD cx x op e env.scope st = some fl) :
    wpAny (model prog w) A (exec (.AugAssign (.Name x xp) op e pos) env) (FlowOK K mg mb env g₀ s₀ g fl) E s := by
  obtain ⟨rfl, h0⟩ := ite_get h
  obtain ⟨a, h1, h3⟩ := bind_some h0
  obtain ⟨b, h2, h4⟩ := bind_some h3
  obtain ⟨a, rfl, h5⟩ := str1_inv h4
  obtain ⟨b, rfl, h6⟩ := str1_inv h5
  obtain ⟨hz, h7⟩ := ite_get h6
  obtain ⟨st', hs, rfl⟩ := map_some h7
  refine wpAny_AugAssign_Name ?_
  refine load_ok O.G I.fs h1 _ _ fun v g₁ s₁ x₁ dv => evalE_ok O.C O.S O.G O.hA e env _ g₁ s₁ _ (I.fs.ext x₁) h2 _ _ fun u g₂ s₂ x₂ du => ?_
  obtain ⟨t, rfl⟩ := dv.inv
  obtain ⟨t', rfl⟩ := du.inv
  refine PyProof.Rows.iadd_str (fun t' tk => ?_) (by have : lim = 65536 := rfl; rw [sizeLine_eq]; omega)
  exact ((I.go (x₁.trans x₂)).go (.toks x₂.low tk)).store (.str _ _) hs fun s'' I'' _ => ⟨g₂, (x₁.trans x₂).sub, I''⟩
end
end Mine
end

/-! part Ms -/
section
open PySem PySem.W PyProof.Rows PySem.Calls
set_option maxHeartbeats 2000000
set_option linter.unusedVariables false
set_option linter.unusedSimpArgs false
set_option tactic.hygienic false
namespace Mine

section
variable {prog : Program} {w : World} {K : Frag} {mg mb : Str → Option Value} {A : Around} {env : Env} {g₀ : Heap} {s₀ : Shared} {st st' : Sto} {g : Heap} {s : Shared} {cx : Cx} {n : Nat} {fl : Fl} {E : Value → Shared → Prop}

theorem In.mutOwn {σ : Vars} {x : Str} {es es' : List D} {L : Addr} {vs vs' : List Value} {k k' : Nat} {m : Str → Option Value} {h' : Heap} {tk : Nat} (I : In K mg mb env g₀ s₀ ⟨σ, some (x, es)⟩ g s) (hx : env.kindOf x = some .local) (hn : s.heap.Ns env.locals m)
    (hm : m x = some (.ref L)) (hL : s.heap.get? L = some (lObj vs k)) (hs : s₀.heap.get? L = none) (hg : g.get? L = none) (hk : ∀ a o, a ≠ L → s.heap.get? a = some o → h'.get? a = some o) (hL' : h'.get? L = some (lObj vs' k')) (hd : DenL g vs' es') :
    In K mg mb env g₀ s₀ ⟨σ, some (x, es')⟩ g { s with heap := h', toks := tk } := by
  have hl : L ≠ env.locals := ns_ne_list hn hL
  have low : Sub g h' := fun a o e => hk a o (by rintro rfl; rw [hg] at e; contradiction) (I.fs.low a o e)
  have nsk : ∀ {m}, s.heap.Ns env.locals m → h'.Ns env.locals m := fun x => x.at' fun o e => hk _ o (Ne.symm hl) e
  have ck : ∀ {c ov}, s.heap.IsCell c ov → h'.IsCell c ov := fun {c ov} x => by
    obtain ⟨o, e, d⟩ := id x
    exact ⟨o, hk _ o (Ne.symm (cell_ne_list x hL)) e, d⟩
  exact
    { fs :=
        { wd := I.fs.wd
          low := low
          kind := I.fs.kind
          glob := I.fs.glob
          blt := I.fs.blt
          loc := let ⟨m, h1, h2⟩ := I.fs.loc; ⟨m, nsk h1, h2⟩
          cel := fun y d e k => let ⟨c, v, e1, e2, e3⟩ := I.fs.cel y d e k; ⟨c, v, e1, ck e2, e3⟩
          all := I.fs.all }
      ext :=
        { sub := I.ext.sub
          low := low
          new := I.ext.new
          kept := fun a o e => hk a o (by rintro rfl; rw [hs] at e; contradiction) (I.ext.kept a o e)
          same := I.ext.same.at' _ _ }
      dl := I.dl
      gl := I.gl
      cs := fun y hy => let ⟨c, ov, c1, c2, c3, c4⟩ := I.cs y hy; ⟨c, ov, c1, ck c2, c3, c4⟩
      inj := I.inj
      own := fun y es hy => by
        cases hy
        exact ⟨hx, L, vs', k', m, nsk hn, hm, hL', hs, hg, hd⟩ }

theorem meth_of {e : Expr} {q : Str × Str × Bool × List Expr} (h : meth e = some q) : ∃ np ap p, e = .Call (.Attribute (.Name q.1 np) q.2.1 ap) q.2.2.2 [] p ∧ q.2.2.1 = (ap.endLine == p.line) := by
  induction e using Expr.casesOn with
  | Call f args ks p =>
    obtain ⟨r, h1, h2⟩ := bind_some h
    obtain ⟨x, h3, h4⟩ := bind_some h2
    obtain ⟨hk, rfl⟩ := ite_some h4
    obtain rfl := List.isEmpty_iff.mp hk
    rw [attrV_inv h1, nameP_inv h3]
    exact ⟨_, _, _, rfl, rfl⟩
  | _ => exact ns h

theorem eraseLast (vs : List Value) : vs.toArray.eraseIdxIfInBounds (vs.toArray.size - 1) = vs.dropLast.toArray := by
  apply Array.toList_inj.mp
  rw [Array.toList_eraseIdxIfInBounds]
  simp [List.eraseIdx_length_sub_one]

theorem DenL.dropLast {vs : List Value} {ds : List D} (h : DenL g vs ds) : DenL g vs.dropLast ds.dropLast := by
  rw [List.dropLast_eq_take, List.dropLast_eq_take, h.length]
  exact h.take _

theorem exprD_ok {e : Expr} {pos : Pos} (O : Ok prog w K mg mb A cx n) (I : In K mg mb env g₀ s₀ st g s) (h : exprD cx e env.scope st = some fl) :
    wpAny (model prog w) A (exec (.Expr e pos) env) (FlowOK K mg mb env g₀ s₀ g fl) E s := by
  obtain ⟨q, hm, h1⟩ := bind_some h
  obtain ⟨w', ho, h2⟩ := bind_some h1
  obtain ⟨hc, h3⟩ := ite_get h2
  clear h h1 h2
  obtain ⟨σ, own⟩ := st
  obtain ⟨y, es⟩ := w'
  obtain ⟨x, m, hl, args⟩ := q
  obtain ⟨hline, hxy, hx', hdb, hz⟩ := hc
  obtain rfl : x = y := hxy
  obtain rfl : own = some (x, es) := ho
  obtain ⟨np, ap, p, rfl, hl'⟩ := meth_of hm
  replace hline := hl'.symm.trans hline
  clear hm hl' hx'
  obtain ⟨hx, L, vs, nn, mm, h1, h2, h4, h5, h6, h7⟩ := I.own x es rfl
  have hlen := h7.length
  have hsz : vs.toArray.size ≤ sizeLine := by rw [List.size_toArray, hlen]; exact lim_le hz
  refine wpAny_Expr_any ?_ (by unfold interactive; rw [I.fs.kind]; rfl) rfl
  refine ite_elim h3 (fun hap h => ?_) fun _ h => ?_
  · obtain ⟨a, ha, h⟩ := one_inv h
    obtain rfl : args = [a] := ha
    obtain rfl : m = "append" := hap
    obtain ⟨hs, h⟩ := ite_none h
    obtain ⟨d, hd, h⟩ := bind_some h
    obtain rfl := so h
    refine wpAny_Call_method_lateS (base_plain rfl) (by rw [starEach_plain hs]; rfl) hline (wpAny_Name (wpAny_loadName_local I.fs.kind hx h1 h2 ?_) hdb)
    rw [starEach_plain hs]
    refine ⟨"list", "list.append", F.plainAttrs_list, F.slot_list_append, F.type_list_append, ⟨_, h4, rfl⟩, fun a e => by obtain rfl := Value.ref.inj e; exact ⟨_, h4, rfl⟩, P.append_list ?_⟩
    refine evalE_ok O.C O.S O.G O.hA a env _ g s d I.fs hd _ _ fun v g₁ s₁ x₁ dv => ?_
    have hL : s₁.heap.get? L = some (lObj vs nn) := x₁.kept _ _ h4
    refine ⟨vs.toArray, nn, hsz, hL, g₁, x₁.sub, ?_⟩
    have I₁ := I.go x₁
    have hup := IsL.update (f := fun xs => xs.push v) hL
    have e3 : vs.toArray.push v = (vs ++ [v]).toArray := List.push_toArray ..
    simp only [e3] at hup
    exact I₁.mutOwn (tk := s₁.toks) hx (h1.keeps x₁.kept) h2 hL h5 (x₁.none h6 ⟨_, h4⟩) (fun a o ha e => by rw [Heap.get?_update_other]; exact e; exact Ne.symm ha) (vs' := vs ++ [v]) hup ((h7.sub x₁.sub).snoc dv)
  · obtain ⟨hpop, h⟩ := ite_get h
    obtain rfl : m = "pop" := hpop
    induction args using List.casesOn with
    | cons => exact ns h
    | nil =>
      obtain ⟨he, h⟩ := ite_none (c := es.isEmpty) h
      obtain rfl := so h
      refine wpAny_Call_method_lateS (base_plain rfl) rfl hline (wpAny_Name (wpAny_loadName_local I.fs.kind hx h1 h2 ?_) hdb)
      have hne : vs ≠ [] := by
        rintro rfl
        obtain rfl : es = [] := List.length_eq_zero_iff.mp hlen.symm
        exact nf he.symm
      refine ⟨"list", "list.pop", F.plainAttrs_list, F.slot_list_pop, F.type_list_pop, ⟨_, h4, rfl⟩, fun a e => by obtain rfl := Value.ref.inj e; exact ⟨_, h4, rfl⟩, P.pop_list h4 (y := vs.getLast hne) ?_ ?_ hsz⟩
      · rw [List.size_toArray, List.getElem?_toArray, List.getLast_eq_getElem]
        exact List.getElem?_eq_getElem _
      · refine ⟨g, .rfl', ?_⟩
        have hup := IsL.update (f := fun xs => xs.eraseIdxIfInBounds (vs.toArray.size - 1)) h4
        rw [eraseLast] at hup
        exact I.mutOwn (tk := s.toks) hx h1 h2 h4 h5 h6 (fun a o ha e => by rw [Heap.get?_update_other]; exact e; exact Ne.symm ha) hup h7.dropLast

theorem while_ok {t : Expr} {b : List Stmt} {pos : Pos} {f : Sto → Option Fl} {k : Nat} (O : Ok prog w K mg mb A cx n) (I : In K mg mb env g₀ s₀ st g s) (h : whileGo (fun st => testR cx t env.scope st) f k st = some fl)
    (hb : ∀ st g s fl, In K mg mb env g₀ s₀ st g s → f st = some fl → ∀ E, wpAny (model prog w) A (execs b env) (FlowOK K mg mb env g₀ s₀ g fl) E s) :
    wpAny (model prog w) A (exec (.While t b [] pos) env) (FlowOK K mg mb env g₀ s₀ g fl) E s := by
  refine wpAny_While (codeAny_whileLoop (fun k s' => ∃ st g', Sub g g' ∧ In K mg mb env g₀ s₀ st g' s' ∧ whileGo (fun st => testR cx t env.scope st) f k st = some fl) ?_ k ⟨st, g, .rfl', I, h⟩)
  rintro k s' ⟨st, g', kg, I', hw⟩
  induction k using Nat.casesOn with
  | zero => exact ns hw
  | succ k =>
    obtain ⟨c, hc, hw⟩ := bind_some hw
    refine testR_ok O I' hc fun g₂ s₂ k₂ I₂ => ?_
    induction c using Bool.casesOn with
    | false =>
      obtain rfl := so hw
      exact wpAny_execs_nil ⟨g₂, kg.trans' k₂, I₂⟩
    | true =>
      obtain ⟨fl', hf, hw⟩ := bind_some hw
      refine wpAny_mono (hb _ _ _ _ I₂ hf _) (fun fo s₃ h₃ => ?_) fun _ _ e => e
      have kk := kg.trans' k₂
      induction fl' using Fl.casesOn <;> induction fo using Flow.casesOn <;> try exact h₃.elim
      · obtain ⟨g₃, k₃, I₃⟩ := h₃; exact ⟨k, Nat.lt_succ_self _, _, g₃, kk.trans' k₃, I₃, hw⟩
      · obtain ⟨g₃, k₃, I₃⟩ := h₃; obtain rfl := so hw; exact ⟨g₃, kk.trans' k₃, I₃⟩
      · obtain ⟨g₃, k₃, I₃⟩ := h₃; exact ⟨k, Nat.lt_succ_self _, _, g₃, kk.trans' k₃, I₃, hw⟩
      · obtain rfl := so hw; exact h₃
end
end Mine
end

/-! part Mt -/
section
open PySem PySem.W PyProof.Rows PySem.Calls
set_option maxHeartbeats 400000
set_option linter.unusedVariables false
set_option linter.unusedSimpArgs false
set_option tactic.hygienic false
namespace Mine

theorem DenL.reverse {g : Heap} {vs : List Value} {ds : List D} (h : DenL g vs ds) : DenL g vs.reverse ds.reverse := by
  induction ds generalizing vs with
  | nil => obtain rfl := h.inv; exact .nil
  | cons d ds ih =>
    obtain ⟨v, r, rfl, h1, h2⟩ := h.inv
    rw [List.reverse_cons, List.reverse_cons]
    exact (ih h2).append (.one h1)
theorem storeL_len {sc : Scope} : ∀ {xs : List Str} {ds : List D} {st st' : Sto}, storeL sc xs ds st = some st' → ds.length = xs.length
  | [], ds, st, st', h => by
    induction ds using List.casesOn with
    | nil => rfl
    | cons => exact ns h
  | x :: xs, ds, st, st', h => by
    induction ds using List.casesOn with
    | nil => exact ns h
    | cons d ds =>
      obtain ⟨st1, _, h1⟩ := bind_some h
      exact congrArg (· + 1) (storeL_len h1)
theorem tNames_eq : ∀ {ts : List Expr} {ns : List (Str × Pos)}, tNames ts = some ns → ts = ns.map fun p => .Name p.1 p.2
  | [], ns, h => by obtain rfl := so h; rfl
  | t :: r, ns, h => by
    obtain ⟨q, h1, h2⟩ := bind_some h
    obtain ⟨ns', h3, rfl⟩ := map_some h2
    rw [tNames_eq h3, nameP_inv h1]; rfl
theorem each_eq {env : Env} : ∀ (ns : List (Str × Pos)), assignEach (ns.map fun p => Expr.Name p.1 p.2) env = ns.map fun p => (false, assign (.Name p.1 p.2) env)
  | [] => rfl
  | p :: r => by
    show (false, assign (.Name p.1 p.2) env) :: assignEach (r.map fun p => Expr.Name p.1 p.2) env = _
    rw [each_eq r]; rfl
theorem swapNs_eq {sc : Scope} (line : Nat) : ∀ (ns : List (Str × Pos)),
    ((ns.map fun p => Expr.Name p.1 p.2).filterMap fun
      | .Name id pos => if sc.names.lookup id == some .local && pos.line == line then some id else none
      | _ => none).length = ns.length →
    ((ns.map fun p => Expr.Name p.1 p.2).filterMap fun
      | .Name id pos => if sc.names.lookup id == some .local && pos.line == line then some id else none
      | _ => none) = ns.map (·.1)
  | [], _ => rfl
  | p :: r, h => by
    rw [List.map_cons, List.filterMap_cons] at h ⊢
    dsimp only at h ⊢
    by_cases hc : (sc.names.lookup p.1 == some .local && p.2.line == line) = true
    · rw [if_pos hc] at h ⊢
      dsimp only at h ⊢
      rw [swapNs_eq line r (by simpa using h)]; rfl
    · rw [if_neg hc] at h
      dsimp only at h
      have := List.length_filterMap_le (fun
        | Expr.Name id pos => if sc.names.lookup id == some .local && pos.line == line then some id else none
        | _ => none) (r.map fun p => Expr.Name p.1 p.2)
      rw [List.length_map] at this
      rw [h] at this
      exact absurd this (Nat.not_succ_le_self _)

section
variable {prog : Program} {w : World} {K : Frag} {mg mb : Str → Option Value} {A : Around} {env : Env} {g₀ : Heap} {s₀ : Shared} {st st' : Sto} {g : Heap} {s : Shared} {cx : Cx} {n : Nat} {fl : Fl} {E : Value → Shared → Prop}

theorem stores_ok {α : Type} (key : α → Str) (op : α → Value → Sem Unit) (hop : ∀ a v (Q : Unit → Shared → Prop) (s : Shared), wpAny (model prog w) A (storeName env (key a) v) Q E s → wpAny (model prog w) A (op a v) Q E s) :
    ∀ (l : List α) (vs : List Value) (ds : List D) (st st' : Sto) (s : Shared), In K mg mb env g₀ s₀ st g s → DenL g vs ds → storeL env.scope (l.map key) ds st = some st' → ∀ {Q : Unit → Shared → Prop},
      (∀ s', In K mg mb env g₀ s₀ st' g s' → Q () s') → wpAny (model prog w) A (assignInOrder (l.map op) vs) Q E s
  | [], vs, ds, st, st', s, I, hd, h, Q, k => by
    induction ds using List.casesOn with
    | nil => obtain rfl := so h; obtain rfl := hd.inv; exact wpAny_pure (k _ I)
    | cons d ds => exact ns h
  | a :: l, vs, ds, st, st', s, I, hd, h, Q, k => by
    induction ds using List.casesOn with
    | nil => exact ns h
    | cons d ds =>
      obtain ⟨v, vs, rfl, h1, h2⟩ := hd.inv
      · obtain ⟨st1, hs, h⟩ := bind_some h
        show wpAny _ A (do holding vs (op a v); assignInOrder (l.map op) vs) Q E s
        exact wpAny_bind (wpAny_holding (hop a v _ _ (I.store h1 hs fun s' I' _ => stores_ok key op hop l vs ds st1 st' s' I' h2 h k)))

theorem unpack_ok {v : Value} {ds : List D} {k : Nat} {Q : List Value → Shared → Prop} (hh : A.handled = none) (I : In K mg mb env g₀ s₀ st g s) (hd : Den g v (.tup ds)) (hk : ds.length = k)
    (h : ∀ vs s', In K mg mb env g₀ s₀ st g s' → DenL g vs ds → (∀ b o, s.heap.get? b = some o → s'.heap.get? b = some o) → Q vs s') : wpAny (model prog w) A (unpackItems v k none) Q E s := by
  obtain ⟨a, vs, nn, rfl, a1, a2⟩ := hd.inv
  · have ht : IsTup s.heap a vs.toArray := isTup_of (I.fs.low _ _ a1)
    have hz : vs.toArray.size = k := by rw [List.size_toArray, a2.length, hk]
    rw [← hz]
    refine unpackItems_tuple hh ht fun h' he => ?_
    have kk : Sub s.heap h' := fun b o e => he b o (by rintro rfl; rw [dead_size] at e; exact ns e) e
    exact h _ _ (I.go (Ext.grown I.fs.low kk s.toks)) a2 kk

theorem storeT_tup {ts : List Expr} {kk : Nat} {tp : Pos} {v : Value} {ds : List D} {ns : List (Str × Pos)} {Q : Unit → Shared → Prop} (hh : A.handled = none) (I : In K mg mb env g₀ s₀ st g s) (hd : Den g v (.tup ds)) (hns : tNames ts = some ns)
    (h : storeL env.scope (ns.map (·.1)) ds st = some st') (k : ∀ s', In K mg mb env g₀ s₀ st' g s' → Q () s') : wpAny (model prog w) A (assign (.Tuple ts kk tp) env v) Q E s := by
  obtain rfl := tNames_eq hns
  rw [arm_assign_Tuple, each_eq]
  refine wpAny_bind (wpAny_standAt ?_)
  unfold unpack
  have hf : (ns.map fun p => (false, assign (.Name p.1 p.2) env)).findIdx? (·.1) = none := by
    rw [List.findIdx?_eq_none_iff]; intro x hx; obtain ⟨_, _, rfl⟩ := List.mem_map.mp hx; rfl
  rw [hf, List.length_map, List.map_map]
  have hlen := storeL_len h
  rw [List.length_map] at hlen
  refine wpAny_bind (wpAny_holding (unpack_ok hh I hd hlen fun vs s' I' dv _ => ?_))
  exact stores_ok (fun p : Str × Pos => p.1) (fun p => assign (.Name p.1 p.2) env) (fun a v Q s h => assign_Name h) ns vs ds st st' s' I' dv h k
theorem storeT_ok {target : Expr} {v : Value} {d : D} {Q : Unit → Shared → Prop} (hh : A.handled = none) (I : In K mg mb env g₀ s₀ st g s) (hd : Den g v d) (h : storeT env.scope target d st = some st')
    (k : ∀ s', In K mg mb env g₀ s₀ st' g s' → Q () s') : wpAny (model prog w) A (assign target env v) Q E s := by
  induction target using Expr.casesOn with
  | Name x p => exact assign_Name (I.store hd h fun s' I' _ => k s' I')
  | Tuple ts kk tp =>
    obtain ⟨ns, hns, h1⟩ := bind_some h
    obtain ⟨ds, rfl, h2⟩ := tup1_inv h1
    exact storeT_tup hh I hd hns (ite_get h2).2 k
  | _ => exact ns h

theorem sw_cases {b1 b2 b3 b4 b5 : Bool} {x : List Str} {y : Sem (Option (List Str))} (ho : (b4 || !b5) = true) :
    ((if (b1 || ScopeKind.function != ScopeKind.function) = true then pure none else if b2 = true then pure none else if b3 = true then pure none else if b4 = true then pure none else if b5 = true then y else pure (some x)) : Sem (Option (List Str))) =
      pure (if (!b1 && !b2 && !b3 && !b4) = true then some x else none) := by
  induction b1 using Bool.casesOn with
  | true => rfl
  | false => induction b2 using Bool.casesOn with
    | true => rfl
    | false => induction b3 using Bool.casesOn with
      | true => rfl
      | false => induction b4 using Bool.casesOn with
        | true => rfl
        | false => induction b5 using Bool.casesOn with
          | true => exact nf ho
          | false => rfl
theorem swapped_eq {ts : List Expr} {k : Nat} {p : Pos} {e : Expr} (hk : env.scope.kind = .function) (ho : okTup e = true) :
    swappedStores [.Tuple ts k p] e env = pure (if swapE ts e env.scope then some (swapNs ts env.scope) else none) := by
  induction e using Expr.casesOn with
  | Tuple vs k2 p2 =>
    unfold swappedStores
    dsimp only
    rw [block_fn hk]
    have key : ∀ f : Expr → Bool, (∀ e, f e = isStar e) → vs.any f = vs.any isStar := fun f h => by rw [funext h]
    rw [key]
    · exact sw_cases ho
    · intro e; induction e using Expr.casesOn <;> rfl
  | _ => rfl

theorem sole_plain {ts : List Expr} {k : Nat} {p : Pos} {e : Expr} {line : Nat} : swapsWithSole [.Tuple ts k p] e line env = pure false := by
  show swapsWith e (some (.Tuple ts k p)) line env = pure false
  induction e using Expr.casesOn <;> rfl

theorem Assign_Tuple' {elts : List Expr} {k : Nat} {tpos pos : Pos} {value : Expr} {Q : Flow → Shared → Prop} {M : Model}
    (h : wpAny M A (eval value env) (fun v s₁ => wpAny M A (assign (.Tuple elts k tpos) env v) (fun _ => Q .next) E s₁) E s)
    (hw : swappedStores [.Tuple elts k tpos] value env = pure none) : wpAny M A (exec (.Assign [.Tuple elts k tpos] value pos) env) Q E s := Assign_Tuple h sole_plain hw

theorem newOwn_inv {ts : List Expr} {e : Expr} {mu : List Str} {q : Str × Str × Expr} (h : newOwn ts e mu = some q) :
    ∃ xp yp lp k2 p2, ts = [.Name q.1 xp, .Name q.2.1 yp] ∧ e = .Tuple [.List [] lp, q.2.2] k2 p2 ∧ isStar q.2.2 = false ∧ q.1 ≠ q.2.1 := by
  obtain ⟨t, u, rfl, h1⟩ := two_inv h
  obtain ⟨x, hx, h2⟩ := bind_some h1
  obtain ⟨y, hy, h3⟩ := bind_some h2
  obtain ⟨es, he, h4⟩ := bind_some h3
  obtain ⟨l, e2, rfl, h5⟩ := two_inv h4
  obtain ⟨hc, rfl⟩ := ite_some h5
  rw [Bool.and_eq_true, Bool.and_eq_true, Bool.and_eq_true] at hc
  obtain ⟨lp, rfl⟩ := isNil_inv hc.1.1.1
  obtain ⟨k2, p2, rfl⟩ := tupV_inv he
  rw [nameP_inv hx, nameP_inv hy]
  exact ⟨_, _, _, _, _, rfl, rfl, not_true' fun h => by rw [h] at hc; exact nf hc.1.2, bne_iff_ne.mp hc.2⟩

/-- a fresh list beside a value -/
structure OwnAt (K : Frag) (mg mb : Str → Option Value) (env : Env) (g₀ : Heap) (s₀ : Shared) (σ : Vars) (g : Heap) (d : D) (L : Addr) (v : Value) (s₁ : Shared) : Prop where
  inv : In K mg mb env g₀ s₀ ⟨σ, none⟩ g s₁
  den : Den g v d
  own : s₁.heap.get? L = some (lObj [] 0)
  new₀ : s₀.heap.get? L = none
  new : g.get? L = none

section
variable {σ : Vars} {x y : Str} {xp yp lp p2 tp pos : Pos} {k k2 : Nat} {e2 : Expr} {d : D}
theorem own_pair (O : Ok prog w K mg mb A cx n) (I : In K mg mb env g₀ s₀ ⟨σ, none⟩ g s) (hstar : isStar e2 = false) (hd : evalE cx e2 env.scope σ = some d) (hf : flatD d = true) {Q : Value → Shared → Prop}
    (q : ∀ a L v s₁, IsTup s₁.heap a #[.ref L, v] → OwnAt K mg mb env g₀ s₀ σ g d L v s₁ → Q (.ref a) s₁) : wpAny (model prog w) A (eval (.Tuple [.List [] lp, e2] k2 p2) env) Q E s := by
  refine Tuple_ (spliced_more (List_ (spliced_none (wpAny_newList ?_ (Nat.zero_le _)))))
  have x₁ : Ext g s g { s with heap := s.heap.push ({ cls := .type "list", data := .seq ([] : List Value).toArray } : Obj), toks := s.toks } := Ext.grown I.fs.low (fun b o e => Heap.get?_push_of_some _ e) _
  refine spliced_more (evalE_ok O.C O.S O.G O.hA e2 env _ g _ d (I.fs.ext x₁) hd _ _ fun v g₂ s₂ x₂ dv => spliced_none (wpAny_newTuple ?_ (by show 2 ≤ sizeLine; rw [sizeLine_eq]; decide))) (starEach_plain hstar)
  have hL : s₂.heap.get? s.heap.objs.size = some (lObj [] 0) := x₂.kept _ _ (Heap.get?_push_size _ rfl)
  have x₃ : Ext g s₂ g { s₂ with heap := s₂.heap.push ({ cls := .type "tuple", data := .seq ([Value.ref s.heap.objs.size, v] : List Value).toArray } : Obj), toks := s₂.toks } := Ext.grown (x₁.trans (x₂.thin x₁.low .rfl')).low (fun b o e => Heap.get?_push_of_some _ e) _
  exact q _ s.heap.objs.size v _ ⟨_, Heap.get?_push_size _ rfl, rfl, _, rfl⟩ ⟨(I.go (x₁.trans (x₂.thin x₁.low .rfl'))).go x₃, flat_den hf dv, Heap.get?_push_of_some _ hL, dead_of_kept I.ext.kept (dead_size _), dead_of_kept I.fs.low (dead_size _)⟩
theorem own_unpack (hh : A.handled = none) {L : Addr} {v : Value} {s₁ : Shared} {a : Addr} {Q : List Value → Shared → Prop} (ht : IsTup s₁.heap a #[.ref L, v]) (H : OwnAt K mg mb env g₀ s₀ σ g d L v s₁)
    (q : ∀ s₂, OwnAt K mg mb env g₀ s₀ σ g d L v s₂ → Q [.ref L, v] s₂) : wpAny (model prog w) A (unpackItems (.ref a) 2 none) Q E s₁ := by
  refine unpackItems_tuple (items := #[.ref L, v]) hh ht fun h' he => ?_
  have kk : Sub s₁.heap h' := fun b o e => he b o (by rintro rfl; rw [dead_size] at e; exact ns e) e
  exact q _ ⟨H.inv.go (Ext.grown H.inv.fs.low kk s₁.toks), H.den, kk _ _ H.own, H.new₀, H.new⟩
theorem off_upd (hxy : x ≠ y) : offV (updV σ y d) x = updV (offV σ x) y d := by
  funext z
  by_cases hz : z = x
  · subst hz; rw [offV_eq, updV_ne hxy, offV_eq]
  · rw [offV_ne hz]
    by_cases hzy : z = y
    · subst hzy; rw [updV_eq, updV_eq]
    · rw [updV_ne hzy, updV_ne hzy, offV_ne hz]
theorem setOwn_ok (O : Ok prog w K mg mb A cx n) (I : In K mg mb env g₀ s₀ ⟨σ, none⟩ g s) (hstar : isStar e2 = false) (hxy : x ≠ y) (hx : env.scope.names.lookup x = some .local) (hy : env.scope.names.lookup y = some .local)
    (hd : evalE cx e2 env.scope σ = some d) (hf : flatD d = true)
    (hsw : swappedStores [.Tuple [.Name x xp, .Name y yp] k tp] (.Tuple [.List [] lp, e2] k2 p2) env = pure (if swapE [.Name x xp, .Name y yp] (.Tuple [.List [] lp, e2] k2 p2) env.scope then some (swapNs [.Name x xp, .Name y yp] env.scope) else none)) :
    wpAny (model prog w) A (exec (.Assign [.Tuple [.Name x xp, .Name y yp] k tp] (.Tuple [.List [] lp, e2] k2 p2) pos) env) (FlowOK K mg mb env g₀ s₀ g (.next ⟨updV (offV σ x) y d, some (x, [])⟩)) E s := by
  have hh := O.hA.handled
  revert hsw
  induction hq : swapE [.Name x xp, .Name y yp] (.Tuple [.List [] lp, e2] k2 p2) env.scope using Bool.casesOn with
  | false =>
    intro hsw
    have st1 : storeD env.scope y d ⟨offV σ x, some (x, [])⟩ = some ⟨updV (offV σ x) y d, some (x, [])⟩ := by
      unfold storeD
      show (if some x = some y then none else _) = _
      rw [if_neg fun h => hxy (Option.some.inj h), hy]
    refine Assign_Tuple' (own_pair O I hstar hd hf fun a L v s₁ ht H => ?_) hsw
    rw [arm_assign_Tuple]
    refine wpAny_bind (wpAny_standAt ?_)
    unfold unpack
    refine wpAny_bind (wpAny_holding (own_unpack hh ht H fun s₂ H₂ => ?_))
    show wpAny _ A (do holding [v] (assign (.Name x xp) env (.ref L)); (do holding [] (assign (.Name y yp) env v); pure ())) _ _ s₂
    exact wpAny_bind (wpAny_holding (assign_Name (H₂.inv.storeOwn hx H₂.own H₂.new₀ H₂.new .nil fun s₃ I₃ => wpAny_bind (wpAny_holding (assign_Name (I₃.store H.den st1 fun s₄ I₄ _ => wpAny_pure ⟨g, .rfl', I₄⟩))))))
  | true =>
    intro hsw
    have st2 : storeD env.scope y d ⟨σ, none⟩ = some ⟨updV σ y d, none⟩ := by
      unfold storeD
      rw [if_neg nofun, hy]
    have hns : swapNs [.Name x xp, .Name y yp] env.scope = [x, y] := by
      have hq' : swapQ [.Name x xp, .Name y yp] [.List [] lp, e2] env.scope = true := hq
      unfold swapQ at hq'
      simp only [Bool.and_eq_true, Bool.not_eq_true', Bool.or_eq_false_iff, bne_eq_false_iff_eq] at hq'
      exact swapNs_eq _ [(x, xp), (y, yp)] hq'.1.2.1
    rw [if_pos rfl, hns] at hsw
    refine Assign_Tuple_swapped (names := [x, y]) (own_pair O I hstar hd hf fun a L v s₁ ht H => ?_) sole_plain hsw
    refine own_unpack hh ht H fun s₂ H₂ => ?_
    show wpAny _ A (do holding [.ref L] (bindName env y v); (do holding [] (bindName env x (.ref L)); pure ())) _ _ s₂
    refine wpAny_bind (wpAny_holding (wpAny_bindName (H₂.inv.store H.den st2 fun s₃ I₃ hk => wpAny_bind (wpAny_holding (wpAny_bindName ?_)))))
    obtain ⟨m, hm⟩ := H₂.inv.ns
    exact I₃.storeOwn hx (hk hy _ _ (ns_ne_list hm H₂.own) H₂.own) H₂.new₀ H₂.new .nil fun s₄ I₄ => wpAny_pure ⟨g, .rfl', off_upd hxy ▸ I₄⟩
end

theorem setAll_ok {ts : List Expr} {k : Nat} {tp pos : Pos} {e : Expr} (O : Ok prog w K mg mb A cx n) (I : In K mg mb env g₀ s₀ st g s) (h : setAll cx ts e env.scope st = some fl)
    (hsw : swappedStores [.Tuple ts k tp] e env = pure (if swapE ts e env.scope then some (swapNs ts env.scope) else none)) :
    wpAny (model prog w) A (exec (.Assign [.Tuple ts k tp] e pos) env) (FlowOK K mg mb env g₀ s₀ g fl) E s := by
  obtain ⟨ns, hns, h1⟩ := bind_some h
  obtain ⟨⟨rd, rs⟩, hr, h2⟩ := bind_some h1
  obtain ⟨ds, hds, h3⟩ := tup1_inv h2
  obtain rfl : rd = .tup ds := hds
  obtain ⟨hz, h4⟩ := ite_get h3
  obtain ⟨st', hst, rfl⟩ := map_some h4
  rw [Bool.and_eq_true] at hz
  replace hz : ds.length ≤ lim ∧ ds.length = ns.length := ⟨of_decide_eq_true hz.1, beq_iff_eq.mp hz.2⟩
  clear h h1 h2 h3 h4
  have hh := O.hA.handled
  have hts := tNames_eq hns
  revert hsw hst
  induction hq : swapE ts e env.scope using Bool.casesOn with
  | false =>
    intro hsw hst
    exact Assign_Tuple' (evalR_ok O I hr fun v g' s' k I' dv => storeT_tup hh I' dv hns hst fun s'' I'' => ⟨g', k, I''⟩) hsw
  | true =>
    intro hsw hst
    have hns' : swapNs ts env.scope = ns.map (·.1) := by
      obtain ⟨vs, hq⟩ : ∃ vs, swapQ ts vs env.scope = true := by
        unfold swapE at hq
        revert hq
        induction tupV e using Option.casesOn with
        | none => exact fun h => nf h
        | some vs => exact fun h => ⟨vs, h⟩
      unfold swapQ at hq
      simp only [Bool.and_eq_true, Bool.not_eq_true', Bool.or_eq_false_iff, bne_eq_false_iff_eq] at hq
      have hlen := hq.1.2.1
      unfold swapNs at hlen ⊢
      have hl2 : ts.length = ns.length := by rw [hts, List.length_map]
      rw [hl2] at hlen
      revert hlen
      generalize (ts.head?.map (·.pos.line)).getD 0 = line
      rw [hts]
      exact swapNs_eq line ns
    rw [if_pos rfl, hns'] at hsw
    refine Assign_Tuple_swapped (names := ns.map (·.1)) (evalR_ok O I hr fun v g' s' k I' dv => ?_) sole_plain hsw
    refine unpack_ok hh I' dv (by rw [List.length_map]; exact hz.2) fun vs s'' I'' dvs _ => ?_
    have hst' : storeL env.scope ((ns.map (·.1)).reverse.map id) ds.reverse rs = some st' := by rw [List.map_id]; exact hst
    exact stores_ok (E := E) (Q := fun _ => FlowOK K mg mb env g₀ s₀ g (.next st') .next) id (fun x v => bindName env x v) (fun a v Q s h => wpAny_bindName h) (ns.map (·.1)).reverse vs.reverse ds.reverse rs st' s'' I'' dvs.reverse hst' fun s₃ I₃ => ⟨g', k, I₃⟩

theorem assignTup_ok {ts : List Expr} {k : Nat} {tp pos : Pos} {e : Expr} {mu : List Str} (O : Ok prog w K mg mb A cx n) (I : In K mg mb env g₀ s₀ st g s) (h : assignTup cx mu ts e env.scope st = some fl) :
    wpAny (model prog w) A (exec (.Assign [.Tuple ts k tp] e pos) env) (FlowOK K mg mb env g₀ s₀ g fl) E s := by
  obtain ⟨hok, h⟩ := ite_none h
  have hsw := swapped_eq (k := k) (p := tp) (ts := ts) I.fs.kind (not_false' hok)
  revert h
  induction hno : newOwn ts e mu using Option.casesOn with
  | none => exact fun h => setAll_ok O I h hsw
  | some q =>
    intro h
    obtain ⟨xp, yp, lp, k2, p2, rfl, rfl, hstar, hxy⟩ := newOwn_inv hno
    obtain ⟨hk, h1⟩ := ite_get h
    obtain ⟨d, hd, h2⟩ := bind_some h1
    obtain ⟨hf, rfl⟩ := ite_some h2
    rw [Bool.and_eq_true, Bool.and_eq_true] at hk
    obtain ⟨σ, own⟩ := st
    obtain rfl : own = none := Option.isNone_iff_eq_none.mp hk.2
    exact setOwn_ok O I hstar hxy (beq_iff_eq.mp hk.1.1) (beq_iff_eq.mp hk.1.2) hd hf hsw
end
end Mine
end

/-! part Mu -/
section
open PySem PySem.W PyProof.Rows PySem.Calls
set_option maxHeartbeats 2000000
set_option linter.unusedVariables false
set_option linter.unusedSimpArgs false
set_option tactic.hygienic false
namespace Mine

section
variable {prog : Program} {w : World} {K : Frag} {mg mb : Str → Option Value} {A : Around} {env : Env} {g₀ : Heap} {s₀ : Shared} {st st' : Sto} {g : Heap} {s : Shared} {cx : Cx} {n : Nat} {fl : Fl} {E : Value → Shared → Prop}

theorem letGo_ok {target : Expr} {I : Addr} {v : Value} {o : Obj} {Q : Unit → Shared → Prop} (ho : s.heap.get? I = some o) (hi : ItO o) (h : Q () s) : wpAny (model prog w) A (letOwnedTupleGo target (.ref I) v) Q E s := by
  obtain ⟨cn, vs, hc, hd, hn⟩ := hi
  have hcon : (["enumerate", "zip", "dict_itemiterator", "dict_reverseitemiterator", "odict_iterator", "itertools.zip_longest", "itertools.pairwise"].contains cn) = false := by
    rcases hn with rfl | rfl | rfl <;> decide
  unfold letOwnedTupleGo
  split
  · induction v using PySem.Value.casesOn <;> first
      | exact wpAny_pure h
      | (refine wpAny_bind (wpAny_load ho ?_)
         rw [hc, hd]
         dsimp only
         rw [hcon, Bool.false_and]
         simp only [Bool.false_eq_true, if_false]
         exact wpAny_pure h)
  · induction v using PySem.Value.casesOn <;> first
      | exact wpAny_pure h
      | (refine wpAny_bind (wpAny_load ho ?_)
         rw [hc, hd]
         dsimp only
         rw [hcon, Bool.false_and]
         simp only [Bool.false_eq_true, if_false]
         exact wpAny_pure h)
  · exact wpAny_pure h

theorem ito_cell {h : Heap} {I : Addr} {o : Obj} (ho : h.get? I = some o) (hi : ItO o) (ov : Option Value) : ¬ h.IsCell I ov := by
  rintro ⟨o', e, d⟩
  obtain ⟨cn, vs, hc, hd, hn⟩ := hi
  rw [ho] at e; (injection e with e; subst e)
  rw [hd] at d; contradiction
theorem ito_list {h : Heap} {I : Addr} {o : Obj} (ho : h.get? I = some o) (hi : ItO o) (vs : List Value) (n : Nat) : h.get? I ≠ some (lObj vs n) := by
  intro e
  obtain ⟨cn, us, hc, hd, hn⟩ := hi
  rw [ho] at e; obtain rfl := so e
  contradiction
theorem ito_ns {h : Heap} {I a : Addr} {o : Obj} {m : Str → Option Value} (ho : h.get? I = some o) (hi : ItO o) (hn : h.Ns a m) : I ≠ a := by
  rintro rfl
  obtain ⟨o', es, ep, e, d, _⟩ := hn
  obtain ⟨cn, us, hc, hd, hn⟩ := hi
  rw [ho] at e; (injection e with e; subst e)
  rw [hd] at d; contradiction

theorem for_ok {target iter : Expr} {b : List Stmt} {pos : Pos} {f : Sto → Option Fl} {r : D × Sto} {ds : List D} (O : Ok prog w K mg mb A cx n) (I : In K mg mb env g₀ s₀ st g s) (hset : isSet iter = false) (hr : evalR cx iter env.scope st = some r) (hi : itemsD r.1 = some ds)
    (h : forGo f (storeT env.scope target) ds r.2 = some fl) (hb : ∀ st g s fl, In K mg mb env g₀ s₀ st g s → f st = some fl → ∀ E, wpAny (model prog w) A (execs b env) (FlowOK K mg mb env g₀ s₀ g fl) E s) :
    wpAny (model prog w) A (exec (.For target iter b [] pos) env) (FlowOK K mg mb env g₀ s₀ g fl) E s := by
  have hh := O.hA.handled
  have hfold : ∀ v, foldedSetIterable iter env v = pure v := by
    intro v
    unfold foldedSetIterable
    induction iter using PySem.Expr.casesOn <;> first | rfl | contradiction
  refine wpAny_For (evalR_ok O I hr fun xv g₁ s₁ k₁ I₁ dx => iter_ok hh hi I₁.fs.low dx fun J fp St s₂ W x₂ hJ₁ hst hfp hIo => ?_) hfold
  have hJg₁ : g₁.get? J = none := dead_of_kept I₁.fs.low hJ₁
  have hJ₀ : s₀.heap.get? J = none := dead_of_kept I₁.ext.kept hJ₁
  refine codeAny_forLoop_any (fun k s' => ∃ i st g', i ≤ ds.length ∧ k = ds.length + 1 - i ∧ Sub g₁ g' ∧ g'.get? J = none ∧ In K mg mb env g₀ s₀ st g' s' ∧ St i s'.heap ∧ forGo f (storeT env.scope target) (ds.drop i) st = some fl) ?_ (ds.length + 1)
    ⟨0, r.2, g₁, Nat.zero_le _, rfl, .rfl', hJg₁, I₁.go x₂, hst, h⟩
  rintro k s' ⟨i, st, g', hi', rfl, kg, hJg, I', hst', hf⟩
  obtain ⟨oJ, hoJ, hito⟩ := hIo _ _ hst'
  obtain ⟨m, hm⟩ := I'.ns
  have hJl := ito_ns hoJ hito hm
  by_cases hlt : i < ds.length
  · rw [List.drop_eq_getElem_cons hlt] at hf
    unfold forGo at hf
    obtain ⟨st2, hs2, hf2⟩ := bind_some hf
    obtain ⟨fl2, hfl2, hf3⟩ := bind_some hf2
    refine W.item i _ _ _ hlt hst' fun v h₂ tk₂ hPv hst₂ hk₂ => ?_
    obtain ⟨d, hd, hdv⟩ := hPv
    have hdd : ds[i] = d := by rw [List.getElem?_eq_getElem hlt] at hd; obtain rfl := so hd; rfl
    rw [hdd] at hs2
    have hk₂' : ∀ b o, b ≠ J → s'.heap.get? b = some o → h₂.get? b = some o := fun b o hb e => hk₂ b o (by simpa using hb) e
    have I₂ := I'.chg (tk := tk₂) hk₂' hJg hJ₀ hJl (ito_cell hoJ hito) (ito_list hoJ hito)
    obtain ⟨oK, hoK, hitoK⟩ := hIo _ _ hst₂
    obtain ⟨gJ, c1, c2, c3, I₃⟩ := I₂.add hoK hJ₀ hJl (ito_cell hoK hitoK) (ito_list hoK hitoK)
    refine letGo_ok hoK hitoK ?_
    refine storeT_ok hh I₃ (hdv.sub (kg.trans' c1)) hs2 fun s₃ I₄ => ?_
    refine wpAny_mono (hb _ _ _ _ I₄ hfl2 _) (fun fo s₄ h₄ => ?_) fun _ _ e => e
    have next : ∀ {st4}, (∃ g', Sub gJ g' ∧ In K mg mb env g₀ s₀ st4 g' s₄) → forGo f (storeT env.scope target) (ds.drop (i + 1)) st4 = some fl →
        ∃ mm, mm < ds.length + 1 - i ∧ ∃ i st g', i ≤ ds.length ∧ mm = ds.length + 1 - i ∧ Sub g₁ g' ∧ g'.get? J = none ∧ In K mg mb env g₀ s₀ st g' s₄ ∧ St i s₄.heap ∧ forGo f (storeT env.scope target) (ds.drop i) st = some fl := by
      rintro st4 ⟨gB, kB, IB⟩ hgo
      have hgB : ∀ o, gB.get? J = some o → ItO o := by
        intro o e
        have := kB _ _ c2
        rw [e] at this; (injection this with this; subst this); exact hitoK
      have kh : Sub g' (hide J gB) := (c1.trans' kB).toHid hJg
      refine ⟨ds.length + 1 - (i + 1), by omega, i + 1, st4, hide J gB, hlt, rfl, kg.trans' kh, hide_at, I'.hid IB kh hgB, ?_, hgo⟩
      refine W.frame _ _ _ hst₂ fun b hbf o e => ?_
      rcases hfp b hbf with rfl | ⟨o', e'⟩
      · rw [hoK] at e; obtain rfl := so e; exact IB.fs.low _ _ (kB _ _ c2)
      · have e1 := (kg.trans' c1) _ _ e'
        have e2 := I₃.fs.low _ _ e1
        have e : h₂.get? b = some o := e
        have e2 : h₂.get? b = some o' := e2
        rw [e] at e2; obtain rfl := so e2
        exact IB.fs.low _ _ (kB _ _ e1)
    have up : Sub g gJ := k₁.trans' (kg.trans' c1)
    induction fl2 using Mine.Fl.casesOn <;> induction fo using PySem.Flow.casesOn <;> first
      | exact h₄.elim
      | exact next h₄ hf3
      | (obtain rfl := so hf3; obtain ⟨gB, kB, IB⟩ := h₄; exact ⟨gB, up.trans' kB, IB⟩)
      | ((injection hf3 with hf3; subst hf3); exact h₄)
  · obtain rfl : i = ds.length := Nat.le_antisymm hi' (Nat.not_lt.mp hlt)
    rw [List.drop_length] at hf
    obtain rfl := so hf
    refine W.done _ _ _ hst' fun h₂ tk₂ hk₂ => ?_
    have hk₂' : ∀ b o, b ≠ J → s'.heap.get? b = some o → h₂.get? b = some o := fun b o hb e => hk₂ b o (by simpa using hb) e
    exact wpAny_execs_nil ⟨g', k₁.trans' kg, I'.chg (tk := tk₂) hk₂' hJg hJ₀ hJl (ito_cell hoJ hito) (ito_list hoJ hito)⟩

theorem assign_shape {mu : List Str} {ts : List Expr} {e : Expr} {p : Pos} {sc : Scope} (h : execS cx mu (.Assign ts e p) sc st ≠ none) : (∃ x xp, ts = [.Name x xp]) ∨ ∃ us k tp, ts = [.Tuple us k tp] := by
  rcases ts with _ | ⟨t, _ | ⟨t2, r⟩⟩
  · exact absurd rfl h
  · induction t using PySem.Expr.casesOn <;> first | exact .inl ⟨_, _, rfl⟩ | exact .inr ⟨_, _, _, rfl⟩ | exact absurd rfl h
  · induction t using PySem.Expr.casesOn <;> exact absurd rfl h
theorem aug_shape {mu : List Str} {t : Expr} {op : Operator} {e : Expr} {p : Pos} {sc : Scope} (h : execS cx mu (.AugAssign t op e p) sc st ≠ none) : ∃ x xp, t = .Name x xp := by
  induction t using PySem.Expr.casesOn <;> first | exact ⟨_, _, rfl⟩ | exact absurd rfl h
theorem ne_none {α : Type} {x : Option α} {a : α} (h : x = some a) : x ≠ none := by rw [h]; exact nofun
theorem while_shape {mu : List Str} {t : Expr} {b o : List Stmt} {p : Pos} {sc : Scope} (h : execS cx mu (.While t b o p) sc st = some fl) : o = [] := by
  induction o using List.casesOn with
  | nil => rfl
  | cons => exact ns (show none = some fl from h)
theorem for_shape {mu : List Str} {t i : Expr} {b o : List Stmt} {p : Pos} {sc : Scope} (h : execS cx mu (.For t i b o p) sc st = some fl) : o = [] := by
  induction o using List.casesOn with
  | nil => rfl
  | cons => exact ns (show none = some fl from h)
theorem try_shape {mu : List Str} {b o fin : List Stmt} {hs : List ExceptHandler} {p : Pos} {sc : Scope} (h : execS cx mu (.Try b hs o fin p) sc st = some fl) : ∃ h₀ r, hs = h₀ :: r ∧ o = [] ∧ fin = [] := by
  rcases hs with _ | ⟨h₀, r⟩
  · exact ns (show none = some fl from h)
  · rcases o with _ | ⟨a, o⟩
    · rcases fin with _ | ⟨c, fin⟩
      · exact ⟨_, _, rfl, rfl, rfl⟩
      · exact nomatch (show none = some fl from h)
    · exact ns (show none = some fl from h)
end
section
variable (prog : Program) (w : World) (K : Frag) (mg mb : Str → Option Value) (A : Around) (env : Env) (g₀ : Heap) (s₀ : Shared) (cx : Cx) (mu : List Str)
def SOk (S : Stmt) : Prop := ∀ (st : Sto) (g : Heap) (s : Shared) (fl : Fl), In K mg mb env g₀ s₀ st g s → execS cx mu S env.scope st = some fl → ∀ E, wpAny (model prog w) A (exec S env) (FlowOK K mg mb env g₀ s₀ g fl) E s
def BOk (b : List Stmt) : Prop := ∀ (st : Sto) (g : Heap) (s : Shared) (fl : Fl), In K mg mb env g₀ s₀ st g s → execB cx mu b env.scope st = some fl → ∀ E, wpAny (model prog w) A (execs b env) (FlowOK K mg mb env g₀ s₀ g fl) E s
end
section
variable {prog : Program} {w : World} {K : Frag} {mg mb : Str → Option Value} {A : Around} {cx : Cx} {n : Nat} {env : Env} {g₀ : Heap} {s₀ : Shared} {mu : List Str}
theorem s_none {S : Stmt} (h1 : ∀ sc st, execS cx mu S sc st = none) : SOk prog w K mg mb A env g₀ s₀ cx mu S := fun st g s fl I h E => nomatch (h1 env.scope st).symm.trans h
theorem s_Return (O : Ok prog w K mg mb A cx n) {e : Option Expr} {p : Pos} : SOk prog w K mg mb A env g₀ s₀ cx mu (.Return e p) := fun st g s fl I h E => by
  induction e using Option.casesOn with
  | none =>
    cases (eS_ReturnN.symm.trans h)
    exact wpAny_Return_none ⟨g, I.ext, .none⟩
  | some e =>
    obtain ⟨r, hr, h⟩ := bind_some (eS_Return.symm.trans h)
    obtain rfl := so h
    exact wpAny_Return_some (evalR_ok O I hr fun v g' s' k I' dv => ⟨g', I'.ext, dv⟩)
theorem s_Assign (O : Ok prog w K mg mb A cx n) {ts : List Expr} {e : Expr} {p : Pos} : SOk prog w K mg mb A env g₀ s₀ cx mu (.Assign ts e p) := fun st g s fl I h E => by
  rcases assign_shape (ne_none h) with ⟨x, xp, rfl⟩ | ⟨us, k, tp, rfl⟩
  · exact assignName_ok O I h
  · exact assignTup_ok O I h
theorem s_Aug (O : Ok prog w K mg mb A cx n) {t : Expr} {op : Operator} {e : Expr} {p : Pos} : SOk prog w K mg mb A env g₀ s₀ cx mu (.AugAssign t op e p) := fun st g s fl I h E => by
  obtain ⟨x, xp, rfl⟩ := aug_shape (ne_none h)
  exact augD_ok O I h
theorem b_ok : ∀ {b : List Stmt}, (∀ S ∈ b, SOk prog w K mg mb A env g₀ s₀ cx mu S) → BOk prog w K mg mb A env g₀ s₀ cx mu b
  | [], _ => fun st g s fl I h E => by cases (eK_nil.symm.trans h); exact wpAny_execs_nil ⟨g, .rfl', I⟩
  | S :: r, H => fun st g s fl I h E => by
    obtain ⟨fl1, h1, h2⟩ := bind_some (eK_cons.symm.trans h)
    refine wpAny_execs_cons (wpAny_mono (H S (.head _) st g s fl1 I h1 E) (fun f s' q => ?_) fun _ _ e => e)
    have IH := b_ok (b := r) fun S hS => H S (.tail _ hS)
    induction fl1 using Mine.Fl.casesOn <;> induction f using PySem.Flow.casesOn <;> first
      | exact q.elim
      | (obtain ⟨g', k, I'⟩ := q; exact wpAny_mono (IH _ g' s' fl I' h2 E) (fun _ _ q => q.mono k) fun _ _ e => e)
      | ((injection h2 with h2; subst h2); exact q)
theorem s_If (O : Ok prog w K mg mb A cx n) {t : Expr} {b o : List Stmt} {p : Pos} (B : BOk prog w K mg mb A env g₀ s₀ cx mu b) (OO : BOk prog w K mg mb A env g₀ s₀ cx mu o) : SOk prog w K mg mb A env g₀ s₀ cx mu (.If t b o p) := fun st g s fl I h E => by
  obtain ⟨c, hc, h⟩ := bind_some (eS_If.symm.trans h)
  refine wpAny_If (testR_ok O I hc fun g' s' k I' => ?_)
  induction c using Bool.casesOn with
  | true => exact wpAny_mono (B st g' s' fl I' h E) (fun _ _ q => q.mono k) fun _ _ e => e
  | false => exact wpAny_mono (OO st g' s' fl I' h E) (fun _ _ q => q.mono k) fun _ _ e => e
theorem s_While (O : Ok prog w K mg mb A cx n) {t : Expr} {b o : List Stmt} {p : Pos} (B : BOk prog w K mg mb A env g₀ s₀ cx mu b) : SOk prog w K mg mb A env g₀ s₀ cx mu (.While t b o p) := fun st g s fl I h E => by
  obtain rfl := while_shape h
  exact while_ok O I (eS_While.symm.trans h) fun st g s fl I' hf E => B st g s fl I' hf E
theorem s_For (O : Ok prog w K mg mb A cx n) {t i : Expr} {b o : List Stmt} {p : Pos} (B : BOk prog w K mg mb A env g₀ s₀ cx mu b) : SOk prog w K mg mb A env g₀ s₀ cx mu (.For t i b o p) := fun st g s fl I h E => by
  obtain rfl := for_shape h
  obtain ⟨hset, h1⟩ := ite_none (eS_For.symm.trans h)
  obtain ⟨r, hr, h2⟩ := bind_some h1
  obtain ⟨ds, hd, h3⟩ := bind_some h2
  exact for_ok O I hset hr hd h3 fun st g s fl I' hf E => B st g s fl I' hf E
theorem s_Try {b o fin : List Stmt} {hs : List ExceptHandler} {p : Pos} (B : BOk prog w K mg mb A env g₀ s₀ cx mu b) : SOk prog w K mg mb A env g₀ s₀ cx mu (.Try b hs o fin p) := fun st g s fl I h E => by
  obtain ⟨h₀, r, rfl, rfl, rfl⟩ := try_shape h
  refine wpAny_Try_except (wpAny_mono (B st g s fl I (eS_Try.symm.trans h) _) (fun f s' q => ?_) fun _ _ e => e)
  induction f using PySem.Flow.casesOn <;> first | exact wpAny_execs_nil q | exact q
theorem sz_st {es : List Stmt} {e : Stmt} {b c : Nat} (h : b < c + 1) (hb : sizeOf es < b) (he : e ∈ es) : sizeOf e < c := Nat.lt_trans (List.sizeOf_lt_of_mem he) (sz h hb)
theorem s_all (O : Ok prog w K mg mb A cx n) : ∀ (N : Nat) (S : Stmt), sizeOf S < N → SOk prog w K mg mb A env g₀ s₀ cx mu S
  | 0, S, h => absurd h (Nat.not_lt_zero _)
  | N + 1, S, hN => by
    have IH := s_all O N
    induction S using PySem.Stmt.casesOn with
    | Expr e p => exact fun st g s fl I h E => exprD_ok O I h
    | Pass p => exact fun st g s fl I h E => by cases (eS_Pass.symm.trans h); exact wpAny_Pass ⟨g, .rfl', I⟩
    | Break p => exact fun st g s fl I h E => by cases (eS_Break.symm.trans h); exact wpAny_bind (wpAny_standAt (wpAny_pure ⟨g, .rfl', I⟩))
    | Continue p => exact fun st g s fl I h E => by cases (eS_Continue.symm.trans h); exact wpAny_bind (wpAny_standAt (wpAny_pure ⟨g, .rfl', I⟩))
    | Return e p => exact s_Return O
    | Assign ts e p => exact s_Assign O
    | AugAssign t op e p => exact s_Aug O
    | If t b o p => exact s_If O (b_ok fun S hS => IH S (sz_st hN (by simp only [Stmt.If.sizeOf_spec]; omega) hS)) (b_ok fun S hS => IH S (sz_st hN (by simp only [Stmt.If.sizeOf_spec]; omega) hS))
    | While t b o p => exact s_While O (b_ok fun S hS => IH S (sz_st hN (by simp only [Stmt.While.sizeOf_spec]; omega) hS))
    | For t i b o p => exact s_For O (b_ok fun S hS => IH S (sz_st hN (by simp only [Stmt.For.sizeOf_spec]; omega) hS))
    | Try b hs o fin p => exact s_Try (b_ok fun S hS => IH S (sz_st hN (by simp only [Stmt.Try.sizeOf_spec]; omega) hS))
    | _ => exact s_none fun _ _ => rfl
theorem execB_ok (O : Ok prog w K mg mb A cx n) (mu : List Str) (b : List Stmt) (st : Sto) (g : Heap) (s : Shared) (fl : Fl) (I : In K mg mb env g₀ s₀ st g s) (h : execB cx mu b env.scope st = some fl) (E : Value → Shared → Prop) :
    wpAny (model prog w) A (execs b env) (FlowOK K mg mb env g₀ s₀ g fl) E s := b_ok (fun S _ => s_all O _ S (Nat.lt_succ_self _)) st g s fl I h E
theorem execS_ok (O : Ok prog w K mg mb A cx n) (mu : List Str) (S : Stmt) (st : Sto) (g : Heap) (s : Shared) (fl : Fl) (I : In K mg mb env g₀ s₀ st g s) (h : execS cx mu S env.scope st = some fl) (E : Value → Shared → Prop) :
    wpAny (model prog w) A (exec S env) (FlowOK K mg mb env g₀ s₀ g fl) E s := s_all O _ S (Nat.lt_succ_self _) st g s fl I h E
end
end Mine
end

/-! part Mv -/
section
open PySem PySem.W PyProof.Rows PySem.Calls
set_option maxHeartbeats 2000000
set_option linter.unusedVariables false
set_option linter.unusedSimpArgs false
set_option tactic.hygienic false
namespace Mine

structure FnI where
  scope : Scope
  params : Arguments
  body : List Stmt
  mu : List Str
  bind : List D → Option (List (Str × D))
noncomputable def runF (cx : Cx) (f : FnI) (ds : List D) : Option D :=
  (f.bind ds).bind fun bs => (execB cx f.mu f.body f.scope ⟨fun y => bs.lookup y, none⟩).bind fun fl => match fl with
    | .ret d => some d
    | .next _ => some .none
    | _ => none
noncomputable def callN (base : Addr → List D → Option D) (tab : Addr → Option FnI) (gl : Str → Option Value) (sort : List D → Option (List D)) : Nat → Addr → List D → Option D
  | 0 => base
  | k + 1 => fun a ds => match base a ds with
    | some d => some d
    | none => (tab a).bind fun f => runF ⟨callN base tab gl sort k, gl, sort⟩ f ds
noncomputable def kindsOk (sc : Scope) (bs : List (Str × D)) : Bool := bs.all fun y => sc.names.lookup y.1 == some .local || sc.names.lookup y.1 == some .cell

structure FnGood (prog : Program) (w : World) (K : Frag) (mg mb : Str → Option Value) (a : Addr) (f : FnI) : Prop where
  look : ∃ oc od osl name qual dV kV doc pm an cdv ct, K.lookup a = some ⟨oc, od, .func (fnOf name qual f.params f.body f.scope dV kV doc pm an cdv ct), osl⟩ ∧ codeIn K cdv qual = true ∧
    ∀ (A : Around) (s : Shared) (g : Heap) (vs : List Value) (ds : List D) (bs : List (Str × D)) (Q : List (Str × Value) → Shared → Prop) (E : Value → Shared → Prop), Wd K mg mb g → Sub g s.heap → DenL g vs ds → f.bind ds = some bs →
      (∀ binds g' s', Ext g s g' s' → binds.map (·.1) = bs.map (·.1) → DenL g' (binds.map (·.2)) (bs.map (·.2)) → Q binds s') →
      wpAny (model prog w) A (bindArgs (fnOf name qual f.params f.body f.scope dV kV doc pm an cdv ct) ⟨vs, []⟩) Q E s
  kind : f.scope.kind = .function
  gen : f.scope.isGenerator = false
  co : f.scope.isCoroutine = false
  kinds : ∀ ds bs, f.bind ds = some bs → kindsOk f.scope bs = true ∧ (bs.map (·.1)).Nodup

theorem bindL_skip {kindOf : Str → Option NameKind} : ∀ (binds : List (Str × Value)) (m : Str → Option Value) (y : Str), y ∉ binds.map (·.1) → bindL kindOf binds m y = m y
  | [], m, y, _ => rfl
  | (n, v) :: r, m, y, h => by
    simp at h
    unfold bindL
    rw [bindL_skip r _ y (by simpa using h.2)]
    split
    · exact if_neg h.1
    · rfl
theorem bindC_skip {kindOf : Str → Option NameKind} : ∀ (binds : List (Str × Value)) (m : Str → Option Value) (y : Str), y ∉ binds.map (·.1) → bindC kindOf binds m y = m y
  | [], m, y, _ => rfl
  | (n, v) :: r, m, y, h => by
    simp at h
    unfold bindC
    rw [bindC_skip r _ y (by simpa using h.2)]
    split
    · rfl
    · exact if_neg h.1
theorem bindL_get {kindOf : Str → Option NameKind} {y : Str} {v : Value} (hk : kindOf y = some .local) : ∀ (binds : List (Str × Value)) (m : Str → Option Value), (binds.map (·.1)).Nodup → (y, v) ∈ binds → bindL kindOf binds m y = some v
  | (n, u) :: r, m, hnd, hm => by
    rw [List.map_cons, List.nodup_cons] at hnd
    unfold bindL
    rcases List.mem_cons.mp hm with e | hm
    · cases e
      rw [bindL_skip r _ _ hnd.1, if_pos hk]; exact if_pos rfl
    · exact bindL_get hk r _ hnd.2 hm
theorem bindC_get {kindOf : Str → Option NameKind} {y : Str} {v : Value} (hk : kindOf y ≠ some .local) : ∀ (binds : List (Str × Value)) (m : Str → Option Value), (binds.map (·.1)).Nodup → (y, v) ∈ binds → bindC kindOf binds m y = some v
  | (n, u) :: r, m, hnd, hm => by
    rw [List.map_cons, List.nodup_cons] at hnd
    unfold bindC
    rcases List.mem_cons.mp hm with e | hm
    · cases e
      rw [bindC_skip r _ _ hnd.1, if_neg hk]; exact if_pos rfl
    · exact bindC_get hk r _ hnd.2 hm
theorem binds_get {g : Heap} {y : Str} {d : D} : ∀ {binds : List (Str × Value)} {bs : List (Str × D)}, binds.map (·.1) = bs.map (·.1) → DenL g (binds.map (·.2)) (bs.map (·.2)) → bs.lookup y = some d → ∃ v, (y, v) ∈ binds ∧ Den g v d
  | [], [], _, _, h => by simp at h
  | [], _ :: _, e, _, _ => by simp at e
  | _ :: _, [], e, _, _ => by simp at e
  | (n, v) :: r, (n', d') :: r', e, hd, h => by
    simp at e
    obtain ⟨rfl, e⟩ := e
    cases hd with
    | cons h1 h2 =>
      rw [List.lookup_cons] at h
      split at h
      · rename_i hb; (injection h with h; subst h); rw [eq_of_beq hb]; exact ⟨v, List.mem_cons_self, h1⟩
      · obtain ⟨u, hm, hu⟩ := binds_get e h2 h
        exact ⟨u, List.mem_cons_of_mem _ hm, hu⟩

section
variable {prog : Program} {w : World} {K : Frag} {mg mb : Str → Option Value} {cx : Cx} {n : Nat}

theorem fn_ok {a : Addr} {f : FnI} {ds : List D} {d : D} {A : Around} {s : Shared} {g : Heap} {vs : List Value} (C : CallOK prog w K mg mb n cx.call) (S : SortOK prog w cx.sort) (G : GlOK cx.gl mg mb) (X : FnGood prog w K mg mb a f)
    (hA : Rm A (n + 9)) (W : Wd K mg mb g) (l : Sub g s.heap) (hd : DenL g vs ds) (h : runF cx f ds = some d) : Ev (model prog w) A (PySem.call (.ref a) vs) g s d := by
  intro Q E k
  unfold runF at h
  obtain ⟨bs, h1, h2⟩ := bind_some h
  obtain ⟨fl, h3, h4⟩ := bind_some h2
  obtain ⟨oc, od, osl, name, qual, dV, kV, doc, pm, an, cdv, ct, ho, hcd, hb⟩ := X.look
  obtain ⟨hkinds, hnd⟩ := X.kinds ds bs h1
  have hroom : A.depth < recursionLimit := hA.dp
  refine wpAny_call (codeAny_call_function hroom (l _ _ (W.inK _ _ ho)) rfl X.co X.gen rfl (codeRec_of (W.inK.keeps l) hcd) ?_)
  refine hb A.in1 s g vs ds bs _ _ W l hd h1 fun binds g' s₁ x₁ hn hdb => ?_
  have hkd : ∀ x ∈ binds, f.scope.names.lookup x.1 = some .local ∨ (f.scope.names.lookup x.1 = some .cell ∧ ((cellsFrom (s₁.heap.objs.size + 1) f.scope.names []).lookup x.1).isSome = true) := by
    refine kindsX ?_ _
    rw [List.all_eq_true]
    intro x hx
    have : x.1 ∈ bs.map (·.1) := hn ▸ List.mem_map_of_mem hx
    obtain ⟨y, hy, hxy⟩ := List.mem_map.mp this
    have := List.all_eq_true.mp hkinds y hy
    rw [hxy] at this
    exact this
  refine wpAny_newFunctionEnv_cells X.kind hkd fun env he s₂ xC => ?_
  subst he
  obtain ⟨h₂, tk, rfl, hkeep⟩ := xC.done
  refine ⟨(W.nl.keeps (l.trans' x₁.kept)).keeps hkeep, codeAny_func ?_⟩
  dsimp only at xC ⊢
  generalize henv : newEnv f.scope s₁.heap.objs.size mainGlobals (cellsFrom (s₁.heap.objs.size + 1) f.scope.names []) (qual ++ ".<locals>.") (some a) cdv none builtinsNs = env at xC ⊢
  have e1 : env.scope = f.scope := by rw [← henv]; rfl
  have e2 : env.globals = mainGlobals := by rw [← henv]; rfl
  have e3 : env.builtins = builtinsNs := by rw [← henv]; rfl
  have e4 : env.locals = s₁.heap.objs.size := by rw [← henv]; rfl
  have e5 : env.cells = cellsFrom (s₁.heap.objs.size + 1) f.scope.names [] := by rw [← henv]; rfl
  have ek : ∀ y, env.kindOf y = f.scope.names.lookup y := fun y => by unfold Env.kindOf; rw [e1]
  have hndb : (binds.map (·.1)).Nodup := hn ▸ hnd
  have hk2 : Sub s₁.heap h₂ := hkeep
  have hdeadL : s₁.heap.get? env.locals = none := by rw [e4]; exact dead_size _
  have allC : ∀ x, env.kindOf x = some .cell → ∃ c, env.cells.lookup x = some c := by
    intro x hx
    rw [ek] at hx
    have := cellsFrom_some (x := x) f.scope.names (s₁.heap.objs.size + 1) [] (.inl hx)
    rw [e5]
    exact Option.isSome_iff_exists.mp this
  have I : In K mg mb env g' s₁ ⟨fun y => bs.lookup y, none⟩ g' { s₁ with heap := h₂, toks := tk } :=
    { fs :=
        { wd := W.sub x₁.sub
          low := x₁.low.trans' hk2
          kind := by rw [e1]; exact X.kind
          glob := e2
          blt := e3
          loc := ⟨_, xC.toInCall.ns, fun y d' e hky => by
            have e : bs.lookup y = some d' := e
            obtain ⟨v, hm, hv⟩ := binds_get hn hdb e
            exact ⟨v, bindL_get hky binds _ hndb hm, hv⟩⟩
          cel := fun y d' e hky => by
            have e : bs.lookup y = some d' := e
            obtain ⟨v, hm, hv⟩ := binds_get hn hdb e
            obtain ⟨c, hc⟩ := allC y hky
            have := xC.cell y c hc
            rw [bindC_get (by rw [hky]; decide) binds _ hndb hm] at this
            exact ⟨c, v, hc, this, hv⟩
          all := allC }
      ext := ⟨.rfl', x₁.low.trans' hk2, fun _ _ e => .inl e, hk2, ⟨_, _, _, rfl, .refl _⟩⟩
      dl := hdeadL
      gl := dead_of_kept x₁.low hdeadL
      cs := fun x hx => by
        obtain ⟨c, hc⟩ := allC x hx
        have habove := xC.above x c (PySem.mem_of_lookup hc)
        rw [e4] at habove
        have hdc : s₁.heap.get? c = none := by
          induction e : s₁.heap.get? c using Option.casesOn with
          | none => rfl
          | some o => exact absurd (Heap.lt_size e) (Nat.not_lt.mpr (Nat.le_of_lt habove))
        exact ⟨c, _, hc, xC.cell x c hc, hdc, dead_of_kept x₁.low hdc⟩
      inj := fun x y c _ _ h1 h2 => name_of_addr xC.apart (PySem.mem_of_lookup h1) (PySem.mem_of_lookup h2)
      own := fun y es e => by exact ns e }
  have O : Ok prog w K mg mb (A.deeper env) cx n := ⟨C, S, G, hA.deeper env⟩
  refine wpAny_mono (execB_ok O f.mu f.body _ g' _ fl I (by rw [e1]; exact h3) _) (fun fo s₃ hf => ?_) fun _ _ e => e
  have fin : ∀ {g₃ : Heap} {v : Value}, Ext g' s₁ g₃ s₃ → Den g₃ v d → Q v s₃ := fun x dv => k _ _ _ (x₁.trans x) dv
  induction fl using Mine.Fl.casesOn <;> induction fo using PySem.Flow.casesOn <;> first
    | exact hf.elim
    | ((injection h4 with h4; subst h4); obtain ⟨g₃, x, dv⟩ := hf; exact fin x dv)
    | ((injection h4 with h4; subst h4); obtain ⟨g₃, _, I₃⟩ := hf; exact fin I₃.ext .none)
    | exact ns h4

theorem callN_ok {base : Addr → List D → Option D} {n₀ : Nat} {tab : Addr → Option FnI} {gl : Str → Option Value} {sort : List D → Option (List D)} (B : CallOK prog w K mg mb n₀ base) (S : SortOK prog w sort) (G : GlOK gl mg mb)
    (X : ∀ a f, tab a = some f → FnGood prog w K mg mb a f) : ∀ k, CallOK prog w K mg mb (n₀ + 9 * k) (callN base tab gl sort k)
  | 0 => B
  | k + 1 =>
    ⟨fun a ds d h g W => by
      unfold callN at h
      split at h
      · rename_i hb; (injection h with h; subst h); exact B.fn _ _ _ hb g W
      · obtain ⟨f, h1, _⟩ := bind_some h
        obtain ⟨oc, od, osl, name, qual, dV, kV, doc, pm, an, cdv, ct, ho, _⟩ := (X a f h1).look
        exact ⟨_, _, W.inK _ _ ho, rfl⟩,
    fun a ds d h A s g vs hA W l hd => by
      unfold callN at h
      split at h
      · rename_i hb; (injection h with h; subst h); exact B.ok _ _ _ hb A s g vs (hA.mono (by (exact Nat.le_add_right ..))) W l hd
      · obtain ⟨f, h1, h2⟩ := bind_some h
        exact fn_ok (cx := ⟨callN base tab gl sort k, gl, sort⟩) (callN_ok B S G X k) S G (X a f h1) hA W l hd h2⟩
end
end Mine
end

/-! part Mw -/
section
open PySem PySem.W PyProof.Rows PySem.Calls
set_option maxHeartbeats 4000000
set_option maxRecDepth 100000
set_option linter.unusedVariables false
set_option linter.unusedSimpArgs false
set_option tactic.hygienic false
namespace Mine

noncomputable abbrev PW : Program := Challenge.pw_il0053_01
noncomputable def bindP (names : List Str) : List D → Option (List (Str × D)) := fun ds => if ds.length = names.length then some (names.zip ds) else none
noncomputable def fnAt (i : Nat) (mu : List Str) (bind : List D → Option (List (Str × D))) : FnI :=
  match PW.main.body[i]? with
  | some (.FunctionDef _ args body _ _ _ scope _ _ _) => ⟨scope, args, body, mu, bind⟩
  | _ => ⟨{ kind := .function, names := [], isGenerator := false, isCoroutine := false, more := [] }, ⟨[], [], none, [], [], none, []⟩, [], mu, bind⟩
theorem fnAt_bind {i : Nat} {mu : List Str} {b : List D → Option (List (Str × D))} : (fnAt i mu b).bind = b := by
  unfold fnAt
  generalize PW.main.body[i]? = o
  induction o using Option.casesOn with
  | none => rfl
  | some s => induction s using PySem.Stmt.casesOn <;> rfl

theorem denL_zip {g : Heap} {vs : List Value} {ds : List D} (h : DenL g vs ds) (names : List Str) (hn : ds.length = names.length) :
    (names.zip vs).map (·.1) = (names.zip ds).map (·.1) ∧ DenL g ((names.zip vs).map (·.2)) ((names.zip ds).map (·.2)) := by
  have hv : vs.length = names.length := h.length.trans hn
  have e1 : (names.zip vs).map (·.1) = names := List.map_fst_zip (Nat.le_of_eq hv.symm)
  have e2 : (names.zip ds).map (·.1) = names := List.map_fst_zip (Nat.le_of_eq hn.symm)
  have e3 : (names.zip vs).map (·.2) = vs := List.map_snd_zip (Nat.le_of_eq hv)
  have e4 : (names.zip ds).map (·.2) = ds := List.map_snd_zip (Nat.le_of_eq hn)
  rw [e1, e2, e3, e4]
  exact ⟨rfl, h⟩

/-! what the head's part must hold: the text's own defs at their places, the global names -/
noncomputable def bindsAs : Nat → (List Value → Prop) → Prop
  | 0, k => k []
  | n + 1, k => ∀ v, bindsAs n fun vs => k (v :: vs)
theorem bindsAs_all : ∀ {n : Nat} {k : List Value → Prop}, bindsAs n k → ∀ vs : List Value, vs.length = n → k vs
  | 0, _, h, [], _ => h
  | 0, _, _, _ :: _, e => nomatch e
  | n + 1, _, _, [], e => nomatch e
  | n + 1, _, h, v :: vs, e => bindsAs_all (h v) vs (Nat.succ.inj e)
noncomputable def DefAt (K : Frag) (a : Addr) (f : FnI) (B : FuncData → Prop) : Prop :=
  ∃ oc od osl name qual dV kV doc pm an cdv ct, K.lookup a = some ⟨oc, od, .func (fnOf name qual f.params f.body f.scope dV kV doc pm an cdv ct), osl⟩ ∧ codeIn K cdv qual = true ∧ B (fnOf name qual f.params f.body f.scope dV kV doc pm an cdv ct)
noncomputable def BP (names : List Str) (F : FuncData) : Prop := bindsAs names.length fun vs => bindArgs F ⟨vs, []⟩ = pure (names.zip vs)
noncomputable def BJ (n : Nat) (F : FuncData) : Prop := ∀ v, bindsAs n fun vs => bindArgs F ⟨v :: vs, []⟩ = (do let x ← newTuple vs; pure [("a", v), ("p", x)])
noncomputable def BH (K : Frag) (F : FuncData) : Prop := ∃ t, ∀ S v, peek K S (bindArgs F ⟨[v], []⟩) = some [(("data" : Str), v), ("sep", .ref 43), ("bytes_per_sep", .int 1 t)]

noncomputable def f_strcoll : FnI := fnAt 2 [] (bindP ["a", "b"])
noncomputable def f_buffer : FnI := fnAt 6 [] (bindP ["data"])
noncomputable def f_b16encode : FnI := fnAt 11 [] (bindP ["s"])
noncomputable def f_fspath : FnI := fnAt 20 [] (bindP ["path"])
noncomputable def f_get_sep : FnI := fnAt 24 [] (bindP ["path"])
noncomputable def f_splitroot : FnI := fnAt 26 [] (bindP ["p"])
noncomputable def f_basename : FnI := fnAt 27 [] (bindP ["p"])
noncomputable def f_dirname : FnI := fnAt 28 [] (bindP ["p"])
noncomputable def f_normpath : FnI := fnAt 29 ["new_comps"] (bindP ["path"])
noncomputable def f_hex : FnI := fnAt 31 [] (bindP ["row"])
noncomputable def f_text : FnI := fnAt 32 [] (bindP ["place"])
noncomputable def f_path : FnI := fnAt 33 [] (bindP ["place", "front"])
noncomputable def f_place : FnI := fnAt 34 [] (bindP ["v"])
noncomputable def f_kinds : FnI := fnAt 35 [] (bindP [])
noncomputable def f_spot : FnI := fnAt 37 [] (bindP ["shelf", "text"])
noncomputable def f_beyond : FnI := fnAt 38 [] (bindP ["path"])
noncomputable def f_put : FnI := fnAt 39 [] (bindP ["shelf", "path", "value"])
noncomputable def f_page : FnI := fnAt 40 ["names"] (bindP ["shelf", "folder", "last", "size"])
noncomputable def f_told : FnI := fnAt 41 ["heads"] (bindP ["book", "folder", "last", "size"])
noncomputable def f_run : FnI := fnAt 42 [] (bindP ["numbers", "folder", "sizes"])
noncomputable def f_law : FnI := fnAt 43 [] (bindP ["script"])
noncomputable def f_grp : FnI := fnAt 4 [] (bindP ["grouping"])
noncomputable def f_taken : FnI := fnAt 36 ["taken"] (bindP ["given"])
noncomputable def bindHex : List D → Option (List (Str × D))
  | [d] => some [("data", d), ("sep", .glob 43), ("bytes_per_sep", .int 1)]
  | _ => none
noncomputable def f_b2a : FnI := fnAt 8 [] bindHex
noncomputable def bindJoin : List D → Option (List (Str × D))
  | a :: r => if r.length ≤ 4 then some [("a", a), ("p", .tup r)] else none
  | _ => none
noncomputable def f_join : FnI := fnAt 25 [] bindJoin
noncomputable def tabL : List (Addr × Nat × List Str × List Str) :=
  [(28, 2, [], ["a", "b"]), (42, 6, [], ["data"]), (58, 11, [], ["s"]), (131, 20, [], ["path"]), (145, 24, [], ["path"]), (159, 26, [], ["p"]), (166, 27, [], ["p"]), (173, 28, [], ["p"]), (180, 29, ["new_comps"], ["path"]), (185, 31, [], ["row"]), (190, 32, [], ["place"]), (195, 33, [], ["place", "front"]), (200, 34, [], ["v"]), (207, 35, [], []), (221, 37, [], ["shelf", "text"]), (228, 38, [], ["path"]), (235, 39, [], ["shelf", "path", "value"]), (242, 40, ["names"], ["shelf", "folder", "last", "size"]), (249, 41, ["heads"], ["book", "folder", "last", "size"]), (254, 42, [], ["numbers", "folder", "sizes"])]
noncomputable def plainF (r : Nat × List Str × List Str) : FnI := fnAt r.1 r.2.1 (bindP r.2.2)
noncomputable def tab (a : Addr) : Option FnI := if a = 51 then some f_b2a else if a = 152 then some f_join else (tabL.lookup a).map plainF
inductive AllR (K : Frag) : List (Addr × Nat × List Str × List Str) → Prop
  | nil : AllR K []
  | cons {a : Addr} {i : Nat} {mu names : List Str} {l : List (Addr × Nat × List Str × List Str)} : DefAt K a (fnAt i mu (bindP names)) (BP names) → AllR K l → AllR K ((a, i, mu, names) :: l)
theorem AllR.at {K : Frag} {a : Addr} {r : Nat × List Str × List Str} : ∀ {l : List (Addr × Nat × List Str × List Str)}, AllR K l → (a, r) ∈ l → DefAt K a (plainF r) (BP r.2.2)
  | _, .nil, h => nomatch h
  | _, .cons x y, h => by
    cases h with
    | head => exact x
    | tail _ h => exact y.at h
noncomputable def glR : List (Str × Addr) := [("_strcoll", 28), ("_buffer", 42), ("_NO_SEP", 43), ("b2a_hex", 51), ("hexlify", 51), ("b16encode", 58), ("fspath", 131), ("_get_sep", 145), ("join", 152), ("splitroot", 159), ("basename", 166), ("dirname", 173), ("normpath", 180), ("_law_hex", 185), ("_law_text", 190), ("_law_path", 195), ("_law_place", 200), ("_law_kinds", 207), ("_law_taken", 214), ("_law_spot", 221), ("_law_beyond", 228), ("_law_put", 235), ("_law_page", 242), ("_law_told_page", 249), ("_law_run", 254)]
noncomputable def glB : List (Str × Value) := [("len", .builtin "len"), ("range", .type "range"), ("sum", .builtin "sum"), ("sorted", .builtin "sorted"), ("type", .type "type"), ("bytes", .type "bytes"), ("str", .type "str"), ("isinstance", .builtin "isinstance"), ("issubclass", .builtin "issubclass"), ("int", .type "int")]
noncomputable def gl (x : Str) : Option Value :=
  match glR.lookup x with
  | some a => some (.ref a)
  | none => if x = "CHAR_MAX" then some (.int 127 204) else glB.lookup x
structure TopK (K : Frag) : Prop where
  rows : AllR K tabL
  law : DefAt K 261 f_law (BP ["script"])
  taken : DefAt K 214 f_taken (BP ["given"])
  grp : DefAt K 35 f_grp (BP ["grouping"])
  b2a : DefAt K 51 f_b2a (BH K)
  join : DefAt K 152 f_join fun F => BJ 0 F ∧ BJ 1 F ∧ BJ 2 F ∧ BJ 3 F ∧ BJ 4 F
  gR : glR.map (fun p => nsIn K mainGlobals p.1) = glR.map fun p => some (some (.ref p.2))
  gC : nsIn K mainGlobals "CHAR_MAX" = some (some (.int 127 204))
  gG : nsIn K mainGlobals "_grouping_intervals" = some (some (.ref 35))
  gL : nsIn K mainGlobals "law" = some (some (.ref 261))
  gB : glB.map (fun p => nsIn K mainGlobals p.1) = glB.map fun _ => some none

noncomputable def shapeOk (f : FnI) (names : List Str) : Bool :=
  f.scope.kind == .function && !f.scope.isGenerator && !f.scope.isCoroutine && names.all (fun y => f.scope.names.lookup y == some .local || f.scope.names.lookup y == some .cell) && decide names.Nodup
theorem and_true' {a b : Bool} (h : (a && b) = true) : a = true ∧ b = true := by induction a using Bool.casesOn <;> induction b using Bool.casesOn <;> first | exact ⟨rfl, rfl⟩ | exact nf h
theorem not_t {a : Bool} (h : (!a) = true) : a = false := by induction a using Bool.casesOn <;> first | rfl | contradiction

section
variable {prog : Program} {w : World} {K : Frag} {mg mb : Str → Option Value}
theorem bindP_some {names : List Str} {ds : List D} {bs : List (Str × D)} (h : bindP names ds = some bs) : ds.length = names.length ∧ names.zip ds = bs := by
  unfold bindP at h
  split at h
  · rename_i hn; (injection h with h; subst h); exact ⟨hn, rfl⟩
  · contradiction
theorem good_plain {a : Addr} {f : FnI} {names : List Str} (R : DefAt K a f (BP names)) (hf : f.bind = bindP names) (hs : shapeOk f names = true) : FnGood prog w K mg mb a f := by
  obtain ⟨hs, h5⟩ := and_true' hs
  obtain ⟨hs, h4⟩ := and_true' hs
  obtain ⟨hs, h3⟩ := and_true' hs
  obtain ⟨h1, h2⟩ := and_true' hs
  obtain ⟨oc, od, osl, name, qual, dV, kV, doc, pm, an, cdv, ct, hl, hc, hb⟩ := R
  refine ⟨⟨oc, od, osl, name, qual, dV, kV, doc, pm, an, cdv, ct, hl, hc, fun A s g vs ds bs Q E W l hd hbs k => ?_⟩, by simpa using h1, not_t h2, not_t h3, fun ds bs hbs => ?_⟩
  · rw [hf] at hbs
    obtain ⟨hn, rfl⟩ := bindP_some hbs
    rw [bindsAs_all hb vs (hd.length.trans hn)]
    obtain ⟨q1, q2⟩ := denL_zip hd names hn
    exact wpAny_pure (k _ g s (.refl l) q1 q2)
  · rw [hf] at hbs
    obtain ⟨hn, rfl⟩ := bindP_some hbs
    have e2 : (names.zip ds).map (·.1) = names := List.map_fst_zip (Nat.le_of_eq hn.symm)
    rw [e2]
    refine ⟨?_, of_decide_eq_true h5⟩
    unfold kindsOk
    rw [List.all_eq_true] at h4 ⊢
    intro y hy
    have : y.1 ∈ (names.zip ds).map (·.1) := List.mem_map_of_mem hy
    rw [e2] at this
    exact h4 _ this
theorem good_b2a (R : DefAt K 51 f_b2a (BH K)) : FnGood prog w K mg mb 51 f_b2a := by
  obtain ⟨oc, od, osl, name, qual, dV, kV, doc, pm, an, cdv, ct, hl, hc, t, hb⟩ := R
  refine ⟨⟨oc, od, osl, name, qual, dV, kV, doc, pm, an, cdv, ct, hl, hc, fun A s g vs ds bs Q E W l hd hbs k => ?_⟩, rfl, rfl, rfl, fun ds bs hbs => ?_⟩
  · rcases ds with _ | ⟨d, _ | ⟨d2, r⟩⟩
    · exact nomatch (show none = some bs from hbs)
    · cases (show some [(("data" : Str), d), ("sep", .glob 43), ("bytes_per_sep", .int 1)] = some bs from hbs)
      cases hd with
      | @cons v _ _ _ h1 h2 =>
        cases h2
        exact kp_binds (W.inK.keeps l) (fun S => hb S v) _ _ _ _ (k _ g s (.refl l) rfl (.cons h1 (.cons (.glob 43) (.cons (.int 1 _) .nil))))
    · exact nomatch (show none = some bs from hbs)
  · rcases ds with _ | ⟨d, _ | ⟨d2, r⟩⟩
    · exact nomatch (show none = some bs from hbs)
    · cases (show some [(("data" : Str), d), ("sep", .glob 43), ("bytes_per_sep", .int 1)] = some bs from hbs)
      exact ⟨rfl, by show [("data" : Str), "sep", "bytes_per_sep"].Nodup; decide⟩
    · exact nomatch (show none = some bs from hbs)
theorem bindJoin_some {ds : List D} {bs : List (Str × D)} (h : bindJoin ds = some bs) : ∃ d r, ds = d :: r ∧ r.length ≤ 4 ∧ bs = [(("a" : Str), d), ("p", .tup r)] := by
  induction ds using List.casesOn with
  | nil => contradiction
  | cons d r =>
    have h : (if r.length ≤ 4 then some [(("a" : Str), d), ("p", .tup r)] else none) = some bs := h
    split at h
    · rename_i hz; (injection h with h; subst h); exact ⟨d, r, rfl, hz, rfl⟩
    · contradiction
theorem joins {F : FuncData} {v : Value} {vs : List Value} (H : BJ 0 F ∧ BJ 1 F ∧ BJ 2 F ∧ BJ 3 F ∧ BJ 4 F) (h : vs.length ≤ 4) : bindArgs F ⟨v :: vs, []⟩ = (do let x ← newTuple vs; pure [(("a" : Str), v), ("p", x)]) := by
  obtain ⟨h0, h1, h2, h3, h4⟩ := H
  rcases Nat.lt_or_eq_of_le h with h | h
  · rcases Nat.lt_or_eq_of_le (Nat.le_of_lt_succ h) with h | h
    · rcases Nat.lt_or_eq_of_le (Nat.le_of_lt_succ h) with h | h
      · rcases Nat.lt_or_eq_of_le (Nat.le_of_lt_succ h) with h | h
        · exact bindsAs_all (h0 v) vs (Nat.lt_one_iff.mp h)
        · exact bindsAs_all (h1 v) vs h
      · exact bindsAs_all (h2 v) vs h
    · exact bindsAs_all (h3 v) vs h
  · exact bindsAs_all (h4 v) vs h
theorem four_line : 4 ≤ sizeLine := by rw [sizeLine_eq]; decide
theorem good_join (R : DefAt K 152 f_join fun F => BJ 0 F ∧ BJ 1 F ∧ BJ 2 F ∧ BJ 3 F ∧ BJ 4 F) : FnGood prog w K mg mb 152 f_join := by
  obtain ⟨oc, od, osl, name, qual, dV, kV, doc, pm, an, cdv, ct, hl, hc, hb⟩ := R
  refine ⟨⟨oc, od, osl, name, qual, dV, kV, doc, pm, an, cdv, ct, hl, hc, fun A s g vs ds bs Q E W l hd hbs k => ?_⟩, rfl, rfl, rfl, fun ds bs hbs => ?_⟩
  · obtain ⟨d, r, rfl, hz, rfl⟩ := bindJoin_some hbs
    cases hd with
    | @cons v vs _ _ h1 h2 =>
      have hz' : vs.length ≤ 4 := by rw [h2.length]; exact hz
      rw [joins hb hz']
      exact wpAny_bind (Ev.newTuple l h2 (Nat.le_trans hz' four_line) _ _ fun x g' s' e dx => wpAny_pure (k _ g' s' e rfl (.cons (h1.sub e.sub) (.cons dx .nil))))
  · obtain ⟨d, r, rfl, hz, rfl⟩ := bindJoin_some hbs
    exact ⟨rfl, by show [("a" : Str), "p"].Nodup; decide⟩
theorem tab_shapes : tabL.all (fun r => shapeOk (plainF r.2) r.2.2.2) = true := by kernel_rfl
theorem tab_ok (T : TopK K) : ∀ a f, tab a = some f → FnGood prog w K mg mb a f := by
  intro a f h
  unfold tab at h
  split at h
  · rename_i e; (injection h with h; subst h); subst e; exact good_b2a T.b2a
  · split at h
    · rename_i e; (injection h with h; subst h); subst e; exact good_join T.join
    · obtain ⟨r, h1, rfl⟩ := map_some h
      have hm := Mine.mem_of_lookup h1
      exact good_plain (T.rows.at hm) fnAt_bind (List.all_eq_true.mp tab_shapes _ hm)
end

theorem glB_ok : ∀ p ∈ glB, bootBuiltins p.1 = some p.2 ∧ p.1 ≠ "__name__" := by
  intro p hm
  simp only [glB, List.mem_cons, List.not_mem_nil, or_false] at hm
  rcases hm with rfl | rfl | rfl | rfl | rfl | rfl | rfl | rfl | rfl | rfl <;> exact ⟨by first | rfl | boot_by_name, by decide⟩
theorem gl_ok {K : Frag} (H : TopK K) {mg mb : Str → Option Value} {p : Program} {loose : List Str} {h : Heap} (X : K.In h) (T : TopRead p loose mg mb h) : GlOK gl mg mb where
  ok := fun x v e => by
    unfold gl at e
    (set_option tactic.hygienic true in split at e)
    · rename_i a ha
      (injection e with e; subst e)
      exact .inl (mg_of X T.g (List.map_inj_left.mp H.gR _ (Mine.mem_of_lookup ha)))
    · split at e
      · rename_i hx; subst hx; obtain rfl := so e; exact .inl (mg_of X T.g H.gC)
      · have hm := Mine.mem_of_lookup e
        have hb := glB_ok _ hm
        exact .inr ⟨mg_none_of X T.g (List.map_inj_left.mp H.gB _ hm), (T.builtins x hb.2).trans hb.1⟩
theorem mkTop {K : Frag} {h : Heap} (X : K.In h) (H : TopK K) : TopK K := H
end Mine
end

/-! part Mx -/
section
open PySem PySem.W PyProof.Rows PySem.Calls
set_option maxHeartbeats 2000000
set_option linter.unusedVariables false
set_option linter.unusedSimpArgs false
set_option linter.unusedSectionVars false
set_option tactic.hygienic false
namespace Mine

/-! the sort's tree of questions, in pure Lean -/
noncomputable def wpK (lt : Nat → Nat → Bool) (n : Nat) {α : Type} : KasT α → (α → Prop) → Prop
  | .ret a, Q => Q a
  | .ask i j k, Q => i < n ∧ j < n ∧ i ≠ j ∧ wpK lt n (k (lt i j)) Q
theorem wpK_bind {lt : Nat → Nat → Bool} {n : Nat} {α β : Type} {f : α → KasT β} {Q : β → Prop} : ∀ (t : KasT α), wpK lt n t (fun a => wpK lt n (f a) Q) → wpK lt n (t.bind f) Q
  | .ret _, h => h
  | .ask i j k, h => ⟨h.1, h.2.1, h.2.2.1, wpK_bind (k (lt i j)) h.2.2.2⟩
theorem wpK_mono {lt : Nat → Nat → Bool} {n : Nat} {α : Type} {Q Q' : α → Prop} (hq : ∀ a, Q a → Q' a) : ∀ (t : KasT α), wpK lt n t Q → wpK lt n t Q'
  | .ret _, h => hq _ h
  | .ask i j k, h => ⟨h.1, h.2.1, h.2.2.1, wpK_mono hq (k (lt i j)) h.2.2.2⟩
theorem wpK_kas {lt : Nat → Nat → Bool} {n : Nat} {α : Type} {Q : α → Prop} {cmp : Nat → Nat → (Bool → Shared → Prop) → Shared → Prop} {s : Shared} {G : α → Shared → Prop} (hc : ∀ i j C, i < n → j < n → i ≠ j → C (lt i j) s → cmp i j C s) (hG : ∀ a, Q a → G a s) :
    ∀ (t : KasT α), wpK lt n t Q → t.kasWp cmp G s
  | .ret a, h => hG a h
  | .ask i j k, h => hc i j _ h.1 h.2.1 h.2.2.1 (wpK_kas hc hG (k (lt i j)) h.2.2.2)

abbrev at0 (p : Array Nat) (k : Nat) : Nat := p.getD k 0
theorem at0_eq {p q : Array Nat} {i j : Nat} (h : p[i]? = q[j]?) : at0 p i = at0 q j := by
  simp only [at0, Array.getD_eq_getD_getElem?, h]

structure PermN (n : Nat) (p : Array Nat) : Prop where
  size : p.size = n
  perm : p.toList.Perm (List.range n)
theorem PermN.lt {n : Nat} {p : Array Nat} (h : PermN n p) {k : Nat} (hk : k < n) : at0 p k < n := by
  have hk' : k < p.size := by rw [h.size]; exact hk
  have : p[k] ∈ List.range n := h.perm.mem_iff.mp (by simp)
  simp only [at0, Array.getD, hk', dite_true]
  exact List.mem_range.mp this
theorem PermN.inj {n : Nat} {p : Array Nat} (h : PermN n p) {i j : Nat} (hi : i < n) (hj : j < n) (e : at0 p i = at0 p j) : i = j := by
  have hi' : i < p.size := by rw [h.size]; exact hi
  have hj' : j < p.size := by rw [h.size]; exact hj
  have hnd : p.toList.Nodup := h.perm.nodup_iff.mpr List.nodup_range
  simp only [at0, Array.getD, hi', hj', dite_true] at e
  have e' : p.toList[i] = p.toList[j] := by simpa using e
  exact (List.getElem_inj hnd).mp e'
theorem PermN.ne {n : Nat} {p : Array Nat} (h : PermN n p) {i j : Nat} (hi : i < n) (hj : j < n) (e : i ≠ j) : at0 p i ≠ at0 p j := fun q => e (h.inj hi hj q)
theorem PermN.of {n : Nat} {p q : Array Nat} (h : PermN n p) (hp : q.Perm p) : PermN n q :=
  ⟨hp.size_eq.trans h.size, (Array.perm_iff_toList_perm.mp hp).trans h.perm⟩

structure LtOk (lt : Nat → Nat → Bool) (n : Nat) : Prop where
  trans : ∀ i j k, i < n → j < n → k < n → lt i j = true → lt j k = true → lt i k = true
  tot : ∀ i j, i < n → j < n → i ≠ j → lt i j = false → lt j i = true

section
variable {lt : Nat → Nat → Bool} {n : Nat} (L : LtOk lt n)
noncomputable def Asc (lt : Nat → Nat → Bool) (p : Array Nat) (m : Nat) : Prop := ∀ i j, i < j → j < m → lt (at0 p i) (at0 p j) = true
noncomputable def Des (lt : Nat → Nat → Bool) (p : Array Nat) (m : Nat) : Prop := ∀ i j, i < j → j < m → lt (at0 p j) (at0 p i) = true
include L
theorem Asc.more {p : Array Nat} {m : Nat} (P : PermN n p) (hm : m < n) (h1 : 1 ≤ m) (h : Asc lt p m) (hc : lt (at0 p (m - 1)) (at0 p m) = true) : Asc lt p (m + 1) := by
  intro i j hij hj
  by_cases hjm : j = m
  · subst hjm
    by_cases hi : i = j - 1
    · rw [hi]; exact hc
    · exact L.trans _ _ _ (P.lt (by (exact Nat.lt_trans ‹_› ‹_›))) (P.lt (by (clear hij hc hj hi; omega))) (P.lt hm) (h i (j - 1) (by lia) (by (clear hij hm hc hj hi; omega))) hc
  · exact h i j hij (by lia)
theorem Des.more {p : Array Nat} {m : Nat} (P : PermN n p) (hm : m < n) (h1 : 1 ≤ m) (h : Des lt p m) (hc : lt (at0 p m) (at0 p (m - 1)) = true) : Des lt p (m + 1) := by
  intro i j hij hj
  by_cases hjm : j = m
  · subst hjm
    by_cases hi : i = j - 1
    · rw [hi]; exact hc
    · exact L.trans _ _ _ (P.lt hm) (P.lt (by (clear hij hc hj hi; omega))) (P.lt (by (exact Nat.lt_trans ‹_› ‹_›))) hc (h i (j - 1) (by lia) (by (clear hij hm hc hj hi; omega)))
  · exact h i j hij (by lia)
theorem asc_ok {p : Array Nat} (P : PermN n p) : ∀ (f m : Nat), 1 ≤ m → m + f ≤ n → Asc lt p m → wpK lt n (kas_asc p f m) (fun r => m ≤ r ∧ r ≤ m + f ∧ Asc lt p r)
  | 0, m, h1, h2, h => ⟨Nat.le_refl _, Nat.le_refl _, h⟩
  | f + 1, m, h1, h2, h => by
    refine ⟨P.lt (by (clear L P h1 h; lia)), P.lt (by omega), P.ne (by (clear L P h1 h; lia)) (by omega) (by (clear h2; omega)), ?_⟩
    dsimp only
    split
    · exact ⟨Nat.le_refl _, by (exact Nat.le_add_right ..), h⟩
    · rename_i hc
      have hne : at0 p m ≠ at0 p (m - 1) := fun e => by have := P.inj (by (clear L P h1 h hc e; lia)) (by (clear hc e; omega)) e; (clear h2 hc e; omega)
      have := L.tot _ _ (P.lt (k := m) (by (clear L P h1 h hc hne; lia))) (P.lt (k := m - 1) (by omega)) hne (by simpa using hc)
      exact wpK_mono (fun r hr => ⟨by lia, by lia, hr.2.2⟩) _ (asc_ok P f (m + 1) (by (exact Nat.succ_pos _)) (by lia) (Asc.more L P (by (clear L P h1 h hc hne this; lia)) h1 h this))
theorem desc_ok {p : Array Nat} (P : PermN n p) : ∀ (f m : Nat), 1 ≤ m → m + f ≤ n → Des lt p m → wpK lt n (kas_desc f p m 0) (fun r => r.1 = p ∧ r.2.2 = 0 ∧ m ≤ r.2.1 ∧ r.2.1 ≤ m + f ∧ Des lt p r.2.1)
  | 0, m, h1, h2, h => ⟨rfl, rfl, Nat.le_refl _, Nat.le_refl _, h⟩
  | f + 1, m, h1, h2, h => by
    refine ⟨P.lt (by (clear L P h1 h; lia)), P.lt (by omega), P.ne (by (clear L P h1 h; lia)) (by omega) (by (clear h2; omega)), ?_⟩
    dsimp only
    split
    · rename_i hc
      rw [if_neg (by decide)]
      exact wpK_mono (fun r hr => ⟨hr.1, hr.2.1, by lia, by lia, hr.2.2.2.2⟩) _ (desc_ok P f (m + 1) (by (exact Nat.succ_pos _)) (by lia) (Des.more L P (by (clear L P h1 h hc; lia)) h1 h hc))
    · rename_i hc
      have hne : at0 p m ≠ at0 p (m - 1) := fun e => by have := P.inj (by (clear L P h1 h hc e; lia)) (by (clear hc e; omega)) e; (clear h2 hc e; omega)
      have := L.tot _ _ (P.lt (k := m) (by (clear L P h1 h hc hne; lia))) (P.lt (k := m - 1) (by omega)) hne (by simpa using hc)
      refine ⟨P.lt (by omega), P.lt (by (clear L P h1 h hc hne this; lia)), P.ne (by omega) (by (clear L P h1 h hc hne this; lia)) (by (clear L P h2 h hc hne this; lia)), ?_⟩
      dsimp only
      rw [this, if_pos rfl]
      exact ⟨rfl, rfl, Nat.le_refl _, by show m ≤ m + (f + 1); (exact Nat.le_add_right ..), h⟩
theorem rev_asc {p : Array Nat} (P : PermN n p) {m : Nat} (hm : m ≤ n) (h : Des lt p m) : PermN n (kas_rev p 0 m) ∧ Asc lt (kas_rev p 0 m) m := by
  refine ⟨P.of (mirror_perm _ _ _ _), fun i j hij hj => ?_⟩
  have e : ∀ k, k < m → at0 (kas_rev p 0 m) k = at0 p (0 + m - 1 - k) := fun k hk => at0_eq (by
    unfold kas_rev
    rw [getElem?_mirror_all (by rw [P.size]; exact hm), if_pos ⟨Nat.zero_le _, hk⟩])
  rw [e i (by (exact Nat.lt_trans ‹_› ‹_›)), e j hj]
  exact h _ _ (by (clear hm; omega)) (by (clear hm; omega))
theorem tail3_ok {p : Array Nat} (P : PermN n p) {m : Nat} (h1 : 1 ≤ m) (hm : m ≤ n) (h : Des lt p m) : wpK lt n (kas_tail3 m n p) (fun r => 1 ≤ r.1 ∧ r.1 ≤ n ∧ PermN n r.2 ∧ Asc lt r.2 r.1) := by
  obtain ⟨P', h'⟩ := rev_asc L P hm h
  exact wpK_bind _ (wpK_mono (fun r hr => ⟨by lia, by lia, P', hr.2.2⟩) _ (asc_ok L P' (n - m) m h1 (by lia) h'))
theorem count_ok {p : Array Nat} (P : PermN n p) (hn : 2 ≤ n) : wpK lt n (kas_count n p) (fun r => 1 ≤ r.1 ∧ r.1 ≤ n ∧ PermN n r.2 ∧ Asc lt r.2 r.1) := by
  refine wpK_bind _ ?_
  -- the first question decides: 1 < m, or descending
  have h0 : Asc lt p 1 := fun i j hij hj => by (clear hn; omega)
  obtain ⟨f, hf⟩ : ∃ f, n - 1 = f + 1 := ⟨n - 2, by lia⟩
  rw [hf]
  refine ⟨P.lt (by assumption), P.lt (by (exact Nat.lt_of_succ_lt ‹_›)), P.ne (by assumption) (by (exact Nat.lt_of_succ_lt ‹_›)) (by decide), ?_⟩
  dsimp only
  split
  · rename_i hc
    show wpK lt n (if (1 == n) = true then _ else _) _
    rw [if_neg (by simp; (exact Nat.ne_of_lt ‹_›)), if_neg (by decide)]
    have hd : Des lt p 2 := Des.more L P (m := 1) (by assumption) (Nat.le_refl _) (fun i j hij hj => by (clear hn hf hc; omega)) hc
    refine wpK_bind _ (wpK_mono (fun r hr => ?_) _ (desc_ok L P (n - 2) 2 (by (exact Nat.le_succ _)) (by (clear hf hc; omega)) hd))
    obtain ⟨e1, e2, e3, e4, e5⟩ := hr
    rw [e2, if_neg (by decide), e1]
    exact tail3_ok L P (by (exact Nat.le_of_lt ‹_›)) (by (clear hf hc e1 e2 e3; omega)) e5
  · rename_i hc
    have hne : at0 p 1 ≠ at0 p (1 - 1) := fun e => by have := P.inj (by assumption) (by (exact Nat.lt_of_succ_lt ‹_›)) e; contradiction
    have h01 := L.tot _ _ (P.lt (k := 1) (by assumption)) (P.lt (k := 1 - 1) (by (exact Nat.lt_of_succ_lt ‹_›))) hne (by simpa using hc)
    refine wpK_mono (fun m hm => ?_) _ (asc_ok L P f 2 (by (exact Nat.le_succ _)) (by lia) (Asc.more L P (m := 1) (by assumption) (Nat.le_refl _) h0 h01))
    obtain ⟨m1, m2, m3⟩ := hm
    split
    · rename_i he
      have he : m = n := by simpa using he
      exact ⟨by show 1 ≤ m; (exact Nat.le_of_lt ‹_›), by show m ≤ n; lia, P, m3⟩
    · rw [if_pos (by assumption)]
      refine ⟨P.lt (by (exact Nat.lt_of_succ_lt ‹_›)), P.lt (by lia), P.ne (by (exact Nat.lt_of_succ_lt ‹_›)) (by lia) (by (clear L P hn h0 hf hc hne h01 m2 m3; lia)), ?_⟩
      dsimp only
      rw [m3 0 (m - 1) (by (clear hn hf hc hne h01 m2; omega)) (by (clear hn hf hc hne h01 m2; omega)), if_pos rfl]
      exact ⟨by (exact Nat.le_of_lt ‹_›), by lia, P, m3⟩
theorem place_ok {p : Array Nat} (P : PermN n p) {k : Nat} (hk : k < n) (ha : Asc lt p k) : ∀ (f l r : Nat), l ≤ r → r ≤ k → r - l ≤ f → (∀ i, i < l → lt (at0 p i) (at0 p k) = true) → (∀ i, r ≤ i → i < k → lt (at0 p k) (at0 p i) = true) →
    wpK lt n (kas_place p k f l r) (fun m => m ≤ k ∧ (∀ i, i < m → lt (at0 p i) (at0 p k) = true) ∧ ∀ i, m ≤ i → i < k → lt (at0 p k) (at0 p i) = true)
  | 0, l, r, h1, h2, h3, h4, h5 => ⟨by (exact Nat.le_trans ‹_› ‹_›), h4, fun i hi => h5 i (by lia)⟩
  | f + 1, l, r, h1, h2, h3, h4, h5 => by
    unfold kas_place
    split
    · exact ⟨by (exact Nat.le_trans ‹_› ‹_›), h4, fun i hi => h5 i (by (exact Nat.le_trans ‹_› ‹_›))⟩
    · rename_i hlr
      have hm1 : l ≤ (l + r) / 2 := by lia
      have hm2 : (l + r) / 2 < r := by lia
      refine ⟨P.lt hk, P.lt (by lia), P.ne hk (by lia) (by (clear hk h1 h3 hlr hm1; omega)), ?_⟩
      dsimp only
      split
      · rename_i hc
        refine place_ok P hk ha f l _ hm1 (by lia) (by omega) h4 fun i hi hik => ?_
        by_cases e : i = (l + r) / 2
        · rw [e]; exact hc
        · exact L.trans _ _ _ (P.lt hk) (P.lt (by lia)) (P.lt (by (exact Nat.lt_trans ‹_› ‹_›))) hc (ha _ _ (by lia) hik)
      · rename_i hc
        have hne : at0 p k ≠ at0 p ((l + r) / 2) := fun e => by have := P.inj hk (by lia) e; (clear hk h1 h3 hlr hm1 hc e; omega)
        have h01 := L.tot _ _ (P.lt hk) (P.lt (k := (l + r) / 2) (by lia)) hne (by simpa using hc)
        refine place_ok P hk ha f _ r (by assumption) h2 (by omega) (fun i hi => ?_) h5
        by_cases e : i = (l + r) / 2
        · rw [e]; exact h01
        · exact L.trans _ _ _ (P.lt (by lia)) (P.lt (by lia)) (P.lt hk) (ha _ _ (by lia) (by (exact Nat.lt_of_lt_of_le ‹_› ‹_›))) h01
theorem bub_asc {p : Array Nat} (P : PermN n p) {k l : Nat} (hk : k < n) (ha : Asc lt p k) (hl : l ≤ k) (h4 : ∀ i, i < l → lt (at0 p i) (at0 p k) = true) (h5 : ∀ i, l ≤ i → i < k → lt (at0 p k) (at0 p i) = true) :
    PermN n (bubble p k (k - l)) ∧ Asc lt (bubble p k (k - l)) (k + 1) := by
  refine ⟨P.of (bubble_perm _ _ _), fun i j hij hj => ?_⟩
  have e : ∀ x, x ≤ k → at0 (bubble p k (k - l)) x = at0 p (if x = l then k else if l < x then x - 1 else x) := fun x hx => at0_eq (by
    rw [getElem?_bubble (by rw [P.size]; exact hk) (k - l) (by simp) x]
    by_cases h1 : x = l
    · rw [if_pos (by (clear L P hk ha h4 h5 hij hj hx; lia)), if_pos h1]
    · rw [if_neg (by (clear L P hk ha h4 h5 hij hj hx; lia)), if_neg h1]
      by_cases h2 : l < x
      · rw [if_pos (by lia), if_pos h2]
      · rw [if_neg (by (clear hk hij hj hx h1; omega)), if_neg h2])
  rw [e i (by (clear L P hk ha hl h4 h5 e; lia)), e j (by (exact Nat.le_of_lt_succ ‹_›))]
  by_cases hj1 : j = l
  · rw [if_pos hj1, if_neg (by (clear L P hk ha hl h4 h5 hj e; lia)), if_neg (by lia)]; exact h4 i (by lia)
  · rw [if_neg hj1]
    by_cases hi1 : i = l
    · rw [if_pos hi1, if_pos (by lia)]; exact h5 _ (by (clear hk hl hj hj1; omega)) (by (clear L P hk ha hl h4 h5 e hj1; lia))
    · rw [if_neg hi1]
      by_cases hj2 : l < j
      · rw [if_pos hj2]
        by_cases hi2 : l < i
        · rw [if_pos hi2]; exact ha _ _ (by (clear hk hl hj hj1 hi1 hj2; omega)) (by (clear L P hk ha hl h4 h5 hij e hj1 hi1 hi2; lia))
        · rw [if_neg hi2]; exact ha _ _ (by lia) (by (clear L P hk ha hl h4 h5 hij e hj1 hi1 hi2; lia))
      · rw [if_neg hj2, if_neg (by lia)]; exact ha _ _ hij (by lia)
theorem bin_ok : ∀ (f k : Nat) (p : Array Nat), PermN n p → k + f = n → Asc lt p k → wpK lt n (kas_bin f p k) (fun q => PermN n q ∧ Asc lt q n)
  | 0, k, p, P, e, h => by
    have e : k = n := e
    subst e
    exact ⟨P, h⟩
  | f + 1, k, p, P, e, h => by
    refine wpK_bind _ (wpK_mono (fun l hl => ?_) _ (place_ok L P (k := k) (by lia) h k 0 k (Nat.zero_le _) (Nat.le_refl _) (by lia) (fun i hi => by lia) fun i hi hik => by (exact absurd ‹_› (Nat.not_lt.mpr ‹_›))))
    obtain ⟨P', h'⟩ := bub_asc L P (by lia) h hl.1 hl.2.1 hl.2.2
    exact bin_ok f (k + 1) _ P' (by lia) h'
theorem kas_ok (hn : 2 ≤ n) : wpK lt n (kas_sort n) (fun q => PermN n q ∧ Asc lt q n) := by
  have P0 : PermN n (List.toArray (List.range n)) := ⟨by simp, by simp⟩
  refine wpK_bind _ (wpK_mono (fun r hr => ?_) _ (count_ok L P0 hn))
  obtain ⟨r1, r2, r3, r4⟩ := hr
  split
  · rw [show max r.1 1 = r.1 by lia]
    exact bin_ok L _ _ _ r3 (by (clear L hn P0 r1 r2 r3 r4; lia)) r4
  · have : r.1 = n := by lia
    exact ⟨r3, this ▸ r4⟩
end
end Mine
end

/-! part My -/
section
open PySem PySem.W PyProof.Rows PySem.Calls
set_option maxHeartbeats 2000000
set_option linter.unusedVariables false
set_option linter.unusedSimpArgs false
set_option linter.unusedSectionVars false
set_option tactic.hygienic false
namespace Mine
open PySem.SeqAt

/-- how the sort compares: lists; pairs of a list and an int -/
noncomputable def int1 {α : Type} (f : Int → Option α) : D → Option α
  | .int i => f i
  | _ => none
noncomputable def pairV (x : D) : Option (List D × Int) := match x with
  | .tup ds => two (fun a b => (list1 some a).bind fun xs => (int1 some b).map fun i => (xs, i)) ds
  | _ => none
noncomputable def pairLt (xs : List D) (i : Int) (ys : List D) (j : Int) : Option Bool :=
  if okD 8 (.list xs) && okD 8 (.list ys) then (if eqvD (.list xs) (.list ys) then some (decide (i < j)) else cmpD .lt 8 (.list xs) (.list ys)) else none
noncomputable def ltK (x y : D) : Option Bool := match x with
  | .list _ => match y with
    | .list _ => cmpD .lt 8 x y
    | _ => none
  | .tup _ => (pairV x).bind fun p => (pairV y).bind fun q => pairLt p.1 p.2 q.1 q.2
  | _ => none
noncomputable def isLst (x : D) : Bool := (list1 some x).isSome
noncomputable def isPr (x : D) : Bool := (pairV x).isSome
theorem int1_inv {α : Type} {f : Int → Option α} {x : D} {d : α} (h : int1 f x = some d) : ∃ n, x = .int n ∧ f n = some d := by
  induction x using D.casesOn with
  | int n => exact ⟨n, rfl, h⟩
  | _ => exact ns h
theorem isLst_of {d : D} (h : isLst d = true) : ∃ xs, d = .list xs := by
  obtain ⟨xs, h⟩ := Option.isSome_iff_exists.mp h
  obtain ⟨xs, rfl, _⟩ := list1_inv h
  exact ⟨xs, rfl⟩
theorem isPr_of {d : D} (h : isPr d = true) : ∃ xs i, d = .tup [.list xs, .int i] := by
  obtain ⟨p, h⟩ := Option.isSome_iff_exists.mp h
  induction d using D.casesOn with
  | tup ds =>
    obtain ⟨a, b, rfl, h1⟩ := two_inv h
    obtain ⟨xs, h2, h3⟩ := bind_some h1
    obtain ⟨i, h4, _⟩ := map_some h3
    obtain ⟨xs, rfl, _⟩ := list1_inv h2
    obtain ⟨i, rfl, _⟩ := int1_inv h4
    exact ⟨xs, i, rfl⟩
  | _ => exact ns h

section
variable {prog : Program} {w : World} {A : Around} {s : Shared} {g : Heap} {a b : Value} {x y : D}

theorem truth_bool {c : Bool} {Q : Bool → Shared → Prop} {E : Value → Shared → Prop} {M : Model} (h : Q c s) : wpAny M A (truthOfDropped (.bool c)) Q E s := by
  unfold truthOfDropped
  exact wpAny_truthy_bool h

theorem oneLt_list {xs ys : List D} {r : Bool} {Q : Bool → Shared → Prop} {E : Value → Shared → Prop} (l : Sub g s.heap) (ha : Den g a (.list xs)) (hb : Den g b (.list ys)) (hr : cmpD .lt 8 (.list xs) (.list ys) = some r) (hu : A.units + 32 < cLine) (h : Q r s) :
    wpAny (model prog w) A (oneLt' true a b) Q E s := by
  have h1 : A.units + 1 + 7 < cLine := Nat.lt_of_le_of_lt (Nat.add_le_add_left (by decide : 8 ≤ 32) A.units) hu
  have h2 : A.units + 1 + 2 * 7 < cLine := Nat.lt_of_le_of_lt (Nat.add_le_add_left (by decide : 15 ≤ 32) A.units) hu
  have h3 : A.units < cLine := Nat.lt_of_le_of_lt (Nat.le_add_right A.units 32) hu
  clear hu
  obtain ⟨hk, hr⟩ := ite_get (c := (xs.all (okD 7) && ys.all (okD 7)) = true) hr
  rw [Bool.and_eq_true] at hk
  obtain ⟨l1, vs, n, rfl, ho, d1⟩ := ha.inv
  obtain ⟨l2, ws, n2, rfl, ho2, d2⟩ := hb.inv
  have hxa := List.all_eq_true.mp hk.1
  have hya := List.all_eq_true.mp hk.2
  replace ho := l _ _ ho
  replace ho2 := l _ _ ho2
  have he' : ∀ (v u : Value) (x y : D), v ∈ vs → u ∈ ws → x ∈ xs → y ∈ ys → Den g v x → Den g u y → EqAt A.in1 s v u (eqvD x y) ∧ ∀ r, cmpD .lt 7 x y = some r → CmpAt .lt A.in1 s v u r := fun v u x y _ _ hx hy hvx huy =>
    ⟨eqAt_den l hvx huy (hxa x hx) (hya y hy) h1, fun r hr => cmpAt_den 7 A.in1 s v u x y r l hvx huy hr h2⟩
  rw [oneLt'_eq, if_pos rfl]
  refine wpAny_bind (wpAny_cRoomFor h3 ?_)
  refine wpAny_bind (wpAny_callSpecialIfBound?_slot (T := "list") (id := "list.__lt__") ⟨_, ho, rfl⟩ F.slot_list_lt ?_)
  exact call_meets F.slot_list_lt ⟨_, ho, rfl⟩ F.entry_list_lt (F.args_list_lt_2 _ _) (list_ltAt l1 l2 vs ws xs ys n n2 none none #[] #[] g _ r hr) ⟨ho, ho2, d1, d2, he', wpAny_bind (truth_bool (wpAny_pure h))⟩

theorem den_pr {xs : List D} {i : Int} (h : Den g a (.tup [.list xs, .int i])) : ∃ t n p k, a = .ref t ∧ g.get? t = some (tObj [p, .int i k] n) ∧ Den g p (.list xs) := by
  obtain ⟨t, vs, n, rfl, h1, d1⟩ := h.inv
  obtain ⟨p, q, rfl, p1, p2⟩ := d1.two_inv
  obtain ⟨k, rfl⟩ := p2.inv
  exact ⟨_, _, _, _, rfl, h1, p1⟩

theorem pr_lt {xs ys : List D} {i j : Int} {r : Bool} {Q : Bool → Shared → Prop} {E : Value → Shared → Prop} (l : Sub g s.heap) (ha : Den g a (.tup [.list xs, .int i])) (hb : Den g b (.tup [.list ys, .int j])) (hr : ltK (.tup [.list xs, .int i]) (.tup [.list ys, .int j]) = some r)
    (hu : A.units + 32 < cLine) (h : Q r s) : wpAny (model prog w) A (keyLt' (tuples' true) a b) Q E s := by
  obtain ⟨t, n, p, k, rfl, h1, dp⟩ := den_pr ha
  obtain ⟨u, n', q, k', rfl, h2, dq⟩ := den_pr hb
  obtain ⟨hk, hr⟩ := ite_get (c := (okD 8 (.list xs) && okD 8 (.list ys)) = true) hr
  rw [Bool.and_eq_true] at hk
  have hu8 : A.units + 8 < cLine := Nat.lt_of_le_of_lt (Nat.add_le_add_left (by decide : 8 ≤ 32) A.units) hu
  refine kat_lt (l _ _ h1) rfl (l _ _ h2) rfl ?_
  show KatLex prog w A true _ Q [(p, q), (.int i k, .int j k')] 0 s
  refine kat_cons (eqAt_den l dp dq hk.1 hk.2 hu8 prog w _ _ ?_)
  refine ite_elim hr (fun he hr => ?_) fun he hr => ?_
  · obtain rfl := so hr
    rw [he]
    refine kat_yes (kat_cons (eqAt_den (x := .int i) (y := .int j) l (.int _ _) (.int _ _) (k := 8) rfl rfl hu8 prog w _ _ ?_))
    refine kat_go (fun he => kat_yes (kat_nil ?_)) (fun he => kat_no ?_)
    · have he : eqvD (.int i) (.int j) = true := he
      have hij : i = j := by simpa [eqvD, toPy, PyData.eqv] using he
      subst hij
      rw [decide_eq_false (Int.lt_irrefl i)] at h
      exact h
    · show wpAny (model prog w) A (oneLt' false (.int i k) (.int j k')) Q _ s
      exact kat_one _ _ (P.lt_int (show W.BoolBack Q (.bool (decide (i < j))) s from h))
  · rw [show eqvD (.list xs) (.list ys) = false from (Bool.not_eq_true _).mp he]
    exact kat_no (oneLt_list l dp dq hr hu h)
end
end Mine
end

/-! part Mz -/
section
open PySem PySem.W PyProof.Rows PySem.Calls
set_option maxHeartbeats 2000000
set_option linter.unusedVariables false
set_option linter.unusedSimpArgs false
set_option linter.unusedSectionVars false
set_option tactic.hygienic false
namespace Mine
open PySem.SeqAt

section
variable {prog : Program} {w : World} {A : Around} {E : Value → Shared → Prop} {s : Shared} {vs out : List Value}

theorem lsort {a : Addr} {n : Nat} {P : PySem.Fin → Shared → Prop} (ho : s.heap.get? a = some (seqObj "list" vs.toArray n)) (h64 : vs.length < 64) (hshort : vs.length < 2 → out = vs)
    (hask : 2 ≤ vs.length → ∃ lt, LtOk lt vs.length ∧ (∀ p, PermN vs.length p → Asc lt p vs.length → (p.toList.map fun i => vs.getD i Value.none) = out) ∧ ∃ κ, ∀ h', (∀ b o, b ≠ a → s.heap.get? b = some o → h'.get? b = some o) →
      (∀ (Q' : SortKind → Shared → Prop) (E' : Value → Shared → Prop), Q' κ { s with heap := h' } → wpAny (model prog w) A (keyKind' vs.toArray) Q' E' { s with heap := h' }) ∧
      ∀ i j (C : Bool → Shared → Prop), i < vs.length → j < vs.length → i ≠ j → C (lt i j) { s with heap := h' } → kas_ask prog w A κ vs i j C { s with heap := h' })
    (h : ∀ h' c, (∀ b o, b ≠ a → s.heap.get? b = some o → h'.get? b = some o) → h'.get? a = some (seqObj "list" out.toArray c) → P (.done (.ret .none)) { s with heap := h' }) :
    wpAny (model prog w) A (Builtin.«list.sort» ⟨[.ref a], []⟩) P E s := by
  have ha : a < s.heap.objs.size := Heap.lt_size ho
  have s1 := Heap.SameBut.update s.heap a (Obj.mapSeq fun _ => (#[] : Array Value))
  obtain ⟨e1, ho1⟩ : ∃ e1, (s.heap.update a (Obj.mapSeq fun _ => (#[] : Array Value))).get? a = some (seqObj "list" #[] e1) := ⟨_, get?_update_seq ho fun _ => #[]⟩
  generalize hH : ((s.heap.update a (Obj.mapSeq fun _ => (#[] : Array Value))).push (seqObj "tuple" vs.toArray 0)).push (seqObj "list" #[] 0) = H
  have hk : ∀ b o, b ≠ a → s.heap.get? b = some o → H.get? b = some o := fun b o hb e => by
    rw [← hH]; exact Heap.get?_push_of_some _ (Heap.get?_push_of_some _ (s1.extBut b o hb e))
  have ho6 : H.get? a = some (seqObj "list" #[] e1) := by rw [← hH]; exact Heap.get?_push_of_some _ (Heap.get?_push_of_some _ ho1)
  rw [list_sort_plain]
  refine wpAny_bind (listItems_at ho rfl ?_)
  refine wpAny_bind (listUpdate_at ho rfl ?_ (by rw [List.size_toArray, sizeLine_eq]; lia) (Nat.zero_le _))
  refine wpAny_bind (seqEpoch_at ho1 rfl ?_)
  refine wpAny_bind (wpAny_newTuple ?_ (by show vs.length ≤ _; rw [sizeLine_eq]; lia))
  refine wpAny_bind (wpAny_newList ?_ (Nat.zero_le _))
  refine wpAny_holding ?_
  show wpAny (model prog w) A _ P E { s with heap := ((s.heap.update a (Obj.mapSeq fun _ => (#[] : Array Value))).push (seqObj "tuple" vs.toArray 0)).push (seqObj "list" #[] 0) }
  rw [hH]
  dsimp only
  have fin : ∀ {xs : Array Keyed}, xs.map (·.2) = out.toArray → ∀ c, (H.update a (Obj.mapSeq fun _ => xs.map (·.2))).get? a = some (seqObj "list" (xs.map (·.2)) c) → P (.done (.ret .none)) { s with heap := H.update a (Obj.mapSeq fun _ => xs.map (·.2)) } := by
    intro xs hx c hc
    rw [hx] at hc ⊢
    exact h _ c (fun b o hb e => by rw [Heap.get?_update_other _ _ (Ne.symm hb)]; exact hk b o hb e) hc
  by_cases h2 : vs.toArray.size < 2
  · rw [if_pos h2, if_pos h2]
    have hout := hshort (by simpa using h2)
    refine wpAny_bind (wpAny_pure ?_)
    rw [StateT.run_pure]
    refine wpAny_bind (wpAny_pure ?_)
    dsimp only
    refine wpAny_bind (seqEpoch_at ho6 rfl ?_)
    have hmap : (arrOf (SortSt.mk' general' (vs.toArray.zip vs.toArray) #[] 7 none)).map (·.2) = out.toArray := by
      show (vs.toArray.zip vs.toArray).map (·.2) = _
      rw [hout]; simp [List.map_snd_zip]
    refine wpAny_bind (listUpdate_at ho6 rfl ?_ (Nat.zero_le _) (by rw [hmap, hout, List.size_toArray, sizeLine_eq]; lia))
    simp only [bne_self_eq_false, Bool.false_eq_true, if_false]
    exact wpAny_pure (fin hmap _ (get?_update_seq ho6 fun _ => (arrOf (SortSt.mk' general' (vs.toArray.zip vs.toArray) #[] 7 none)).map (·.2)))
  · rw [if_neg h2, if_neg h2]
    have h2' : 2 ≤ vs.length := by rw [List.size_toArray] at h2; (exact Nat.not_lt.mp ‹_›)
    obtain ⟨lt, L, hout, κ, hκ⟩ := hask h2'
    obtain ⟨kk, ask⟩ := hκ H hk
    refine wpAny_bind (kk _ _ ?_)
    have run : (kas_sort vs.length).kasWp (kas_ask prog w A κ vs) (fun p s' => s' = { s with heap := H } ∧ (p.toList.map fun i => vs.getD i Value.none) = out ∧ p.size = vs.length) { s with heap := H } :=
      wpK_kas (fun i j C hi hj hij hC => ask i j C hi hj hij hC) (fun p hp => ⟨rfl, hout p hp.1 hp.2, hp.1.size⟩) _ (kas_ok L h2')
    refine wpAny_bind (wpAny_mono (kat_run (Q := fun st' s' => s' = { s with heap := H } ∧ ∃ p : Array Nat, p.size = vs.length ∧ arrOf st' = p.map (kas_item (vs.toArray.zip vs.toArray)) ∧ failedOf st' = none ∧ (p.toList.map fun i => vs.getD i Value.none) = out)
      rfl h2' h64 (fun p' st' s' a1 a2 a3 a4 => ⟨a4.1, p', a1, a2, a3, a4.2.1⟩) run) ?_ fun _ _ e => e)
    rintro ⟨⟨⟩, st'⟩ s' ⟨rfl, p, hp, har, hf, hpo⟩
    dsimp only
    have hmap := kat_snds rfl har
    rw [hpo] at hmap
    have hol : out.length = vs.length := by rw [← hpo, List.length_map, Array.length_toList, hp]
    refine wpAny_bind (seqEpoch_at ho6 rfl ?_)
    refine wpAny_bind (listUpdate_at ho6 rfl ?_ (Nat.zero_le _) (by rw [hmap, List.size_toArray, hol, sizeLine_eq]; lia))
    rw [hf]
    simp only [bne_self_eq_false, Bool.false_eq_true, if_false]
    exact wpAny_pure (fin hmap _ (get?_update_seq ho6 fun _ => (arrOf st').map (·.2)))

theorem sorted_shell {l : Addr} {Q : Value → Shared → Prop} (hl : s.heap.IsList l vs.toArray) (h64 : vs.length < 64) (hshort : vs.length < 2 → out = vs)
    (hask : 2 ≤ vs.length → ∃ lt, LtOk lt vs.length ∧ (∀ p, PermN vs.length p → Asc lt p vs.length → (p.toList.map fun i => vs.getD i Value.none) = out) ∧ ∃ κ, ∀ h', Sub s.heap h' →
      (∀ (Q' : SortKind → Shared → Prop) (E' : Value → Shared → Prop), Q' κ { s with heap := h' } → wpAny (model prog w) A.in1.in1 (keyKind' vs.toArray) Q' E' { s with heap := h' }) ∧
      ∀ i j (C : Bool → Shared → Prop), i < vs.length → j < vs.length → i ≠ j → C (lt i j) { s with heap := h' } → kas_ask prog w A.in1.in1 κ vs i j C { s with heap := h' })
    (h : ∀ D h' n, Sub s.heap h' → h'.get? D = some (lObj out n) → s.heap.get? D = none → Q (.ref D) { s with heap := h' }) :
    wpAny (model prog w) A (call (.builtin "sorted") [.ref l]) Q E s := by
  refine Calls.call_function_entry kind_sorted plain_sorted entry_sorted (args_sorted1 _) ?_
  unfold Builtin.«sorted»
  refine wpAny_bind (m := checkCount "sorted" 1 1 _) (wpAny_pure ?_)
  refine wpAny_bind (collect_list hl ?_ (by rw [sizeLine_eq]; lia))
  refine wpAny_bind (wpAny_newList ?_ (by rw [sizeLine_eq]; lia))
  have hsz : ((s.heap.push (seqObj "list" #[] 0)).update s.heap.objs.size (Obj.mapSeq (· ++ vs.toArray))).objs.size = s.heap.objs.size + 1 := by
    rw [Heap.size_update, size_push']
  have hoL : (((s.heap.push (seqObj "list" #[] 0)).update s.heap.objs.size (Obj.mapSeq (· ++ vs.toArray))).push (seqObj "list" vs.toArray 0)).get? (s.heap.objs.size + 1) = some (seqObj "list" vs.toArray 0) := by
    rw [← hsz]; exact Heap.get?_push_size _ rfl
  have keep : ∀ b o, s.heap.get? b = some o → (((s.heap.push (seqObj "list" #[] 0)).update s.heap.objs.size (Obj.mapSeq (· ++ vs.toArray))).push (seqObj "list" vs.toArray 0)).get? b = some o := fun b o q => by
    have hlt : b < s.heap.objs.size := Heap.lt_size q
    rw [Heap.get?_push_ne _ _ _ (by rw [hsz]; exact Nat.ne_of_lt (Nat.lt_succ_of_lt hlt)), Heap.get?_update_ne _ _ _ _ (Nat.ne_of_lt hlt), Heap.get?_push_ne _ _ _ (Nat.ne_of_lt hlt)]
    exact q
  have hdead : s.heap.get? (s.heap.objs.size + 1) = none := by
    cases e : s.heap.get? (s.heap.objs.size + 1) with
    | none => rfl
    | some o => exact absurd (Heap.lt_size e) (Nat.not_lt.mpr (Nat.le_succ _))
  show wpAny _ _ _ _ _ { s with heap := ((s.heap.push (seqObj "list" #[] 0)).update s.heap.objs.size (Obj.mapSeq (· ++ vs.toArray))).push (seqObj "list" vs.toArray 0) }
  rw [hsz]
  have up : ∀ {h' : Heap}, (∀ b o, b ≠ s.heap.objs.size + 1 → (((s.heap.push (seqObj "list" #[] 0)).update s.heap.objs.size (Obj.mapSeq (· ++ vs.toArray))).push (seqObj "list" vs.toArray 0)).get? b = some o → h'.get? b = some o) → Sub s.heap h' :=
    fun k b o e => k b o (by rintro rfl; rw [hdead] at e; cases e) (keep b o e)
  refine wpAny_bind (wpAny_holding (wpAny_call_entry slot_list_sort ⟨_, hoL, rfl⟩ entry_list_sort ?body (args_list_sort _)))
  case body =>
    refine lsort (out := out) (s := { s with heap := ((s.heap.push (seqObj "list" #[] 0)).update s.heap.objs.size (Obj.mapSeq (· ++ vs.toArray))).push (seqObj "list" vs.toArray 0) }) hoL h64 hshort (fun h2 => ?_) fun h' c hk hc => ⟨_, rfl, wpAny_pure ⟨_, rfl, h _ h' c (up hk) hc hdead⟩⟩
    obtain ⟨lt, L, hout, κ, hκ⟩ := hask h2
    exact ⟨lt, L, hout, κ, fun h' hk => hκ h' (up hk)⟩
end
end Mine
end

/-! part Na -/
section
open PySem PySem.W PyProof.Rows PySem.Calls
set_option maxHeartbeats 2000000
set_option linter.unusedVariables false
set_option linter.unusedSimpArgs false
set_option linter.unusedSectionVars false
set_option tactic.hygienic false
namespace Mine

noncomputable def SortRel (x y : D) : Prop := ltK x y = some true ∧ ltK y x = some false
structure SortSpec (ds es : List D) : Prop where
  len : ds.length < 64
  kind : (∀ d ∈ ds, isLst d = true) ∨ (∀ d ∈ ds, isPr d = true)
  perm : es.Perm ds
  sorted : es.Pairwise SortRel

theorem sortRel_asym {x y : D} (h : SortRel x y) (k : SortRel y x) : False := by
  have := h.1; rw [k.2] at this; cases this
theorem sorted_unique : ∀ {l₁ l₂ : List D}, l₁.Perm l₂ → l₁.Pairwise SortRel → l₂.Pairwise SortRel → l₁ = l₂
  | [], l₂, hp, _, _ => (List.Perm.nil_eq hp)
  | a :: t₁, [], hp, _, _ => by have := hp.length_eq; simp at this
  | a :: t₁, b :: t₂, hp, h₁, h₂ => by
    obtain ⟨ha, k₁⟩ := List.pairwise_cons.mp h₁
    obtain ⟨hb, k₂⟩ := List.pairwise_cons.mp h₂
    have hab : a = b := by
      have m1 : a ∈ b :: t₂ := hp.mem_iff.mp List.mem_cons_self
      have m2 : b ∈ a :: t₁ := hp.mem_iff.mpr List.mem_cons_self
      rcases List.mem_cons.mp m1 with e | m1
      · exact e
      · rcases List.mem_cons.mp m2 with e | m2
        · exact e.symm
        · exact (sortRel_asym (ha b m2) (hb a m1)).elim
    subst hab
    rw [sorted_unique ((List.perm_cons a).mp hp) k₁ k₂]

open Classical in
noncomputable def sortD (ds : List D) : Option (List D) := if h : ∃ es, SortSpec ds es then some h.choose else none
theorem sortD_eq {ds es : List D} (h : SortSpec ds es) : sortD ds = some es := by
  have hx : ∃ es, SortSpec ds es := ⟨es, h⟩
  unfold sortD
  rw [dif_pos hx]
  have := hx.choose_spec
  rw [sorted_unique (this.perm.trans h.perm.symm) this.sorted h.sorted]
theorem sortD_spec {ds es : List D} (h : sortD ds = some es) : SortSpec ds es := by
  unfold sortD at h
  split at h
  · rename_i hx; (injection h with h; subst h); exact hx.choose_spec
  · exact ns h

theorem getD_lt {ds : List D} {i : Nat} (h : i < ds.length) : ds.getD i .none = ds[i] := by simp [h]

/-- the order of the indices -/
theorem spec_lt {ds es : List D} (h : SortSpec ds es) : ∃ lt, LtOk lt ds.length ∧ (∀ i j, i < ds.length → j < ds.length → i ≠ j → ltK (ds.getD i .none) (ds.getD j .none) = some (lt i j)) ∧
    (∀ p, PermN ds.length p → Asc lt p ds.length → (p.toList.map fun i => ds.getD i .none) = es) := by
  have hne : ∀ {x y}, SortRel x y → x ≠ y := by rintro x y hr rfl; exact sortRel_asym hr hr
  have hnd : es.Nodup := h.sorted.imp hne
  have hndd : ds.Nodup := h.perm.nodup_iff.mp hnd
  have hr : ∀ i : Nat, ∃ r : Nat, i < ds.length → es[r]? = some (ds.getD i .none) := by
    intro i
    by_cases hi : i < ds.length
    · have : ds.getD i .none ∈ es := h.perm.mem_iff.mpr (by rw [getD_lt hi]; exact List.getElem_mem hi)
      obtain ⟨r, hr⟩ := List.mem_iff_getElem?.mp this
      exact ⟨r, fun _ => hr⟩
    · exact ⟨0, fun q => absurd q hi⟩
  obtain ⟨R, hR⟩ := Classical.axiomOfChoice hr
  have rl : ∀ i, i < ds.length → R i < es.length := fun i hi => by
    have := hR i hi
    exact (List.getElem?_eq_some_iff.mp this).1
  have re : ∀ i (hi : i < ds.length), es[R i]'(rl i hi) = ds.getD i .none := fun i hi => (List.getElem?_eq_some_iff.mp (hR i hi)).2
  have rinj : ∀ i j, i < ds.length → j < ds.length → R i = R j → i = j := by
    intro i j hi hj e
    have e1 := hR i hi
    have e2 := hR j hj
    rw [e, e2] at e1
    have e1 := Option.some.inj e1
    rw [getD_lt hi, getD_lt hj] at e1
    exact ((List.getElem_inj hndd).mp e1.symm)
  have rel : ∀ i j, i < ds.length → j < ds.length → R i < R j → SortRel (ds.getD i .none) (ds.getD j .none) := by
    intro i j hi hj hlt
    have := List.pairwise_iff_getElem.mp h.sorted (R i) (R j) (rl i hi) (rl j hj) hlt
    rw [re i hi, re j hj] at this
    exact this
  refine ⟨fun i j => decide (R i < R j), ⟨?_, ?_⟩, ?_, ?_⟩
  · intro i j k _ _ _ h1 h2
    simp at h1 h2 ⊢; (exact Nat.lt_trans ‹_› ‹_›)
  · intro i j hi hj hij h1
    simp at h1 ⊢
    have : R i ≠ R j := fun e => hij (rinj i j hi hj e)
    lia
  · intro i j hi hj hij
    by_cases hlt : R i < R j
    · rw [(rel i j hi hj hlt).1]; simp [hlt]
    · have : R j < R i := by
        have : R i ≠ R j := fun e => hij (rinj i j hi hj e)
        lia
      rw [(rel j i hj hi this).2]; simp [hlt]
  · intro p P ha
    have hpm : (p.toList.map fun i => ds.getD i .none).Perm ds := by
      refine (P.perm.map _).trans (List.Perm.of_eq ?_)
      apply List.ext_getElem (by simp)
      intro i h1 h2
      simp [h2]
    refine sorted_unique (hpm.trans h.perm.symm) ?_ h.sorted
    rw [List.pairwise_iff_getElem]
    intro i j hi hj hij
    have hl : p.toList.length = ds.length := by rw [Array.length_toList, P.size]
    have hi' : i < ds.length := by simpa [hl, P.size] using hi
    have hj' : j < ds.length := by simpa [hl, P.size] using hj
    have e : ∀ k (hk : k < ds.length), p.toList[k]'(by rw [hl]; exact hk) = at0 p k := by
      intro k hk
      have hk' : k < p.size := by rw [P.size]; exact hk
      simp [at0, Array.getD, hk']
    have := ha i j hij hj'
    simp only [List.getElem_map, e i hi', e j hj']
    exact rel _ _ (P.lt hi') (P.lt hj') (by simpa using this)

theorem denL_getD {g : Heap} {vs : List Value} {ds : List D} (h : DenL g vs ds) {i : Nat} (hi : i < ds.length) : Den g (vs.getD i .none) (ds.getD i .none) := by
  obtain ⟨v, e, hv⟩ := h.get (List.getElem?_eq_getElem hi)
  rw [getD_lt hi]
  have : vs.getD i .none = v := by simp [e]
  rw [this]; exact hv
theorem denL_pick {g : Heap} {vs : List Value} {ds : List D} (h : DenL g vs ds) : ∀ (l : List Nat), (∀ i ∈ l, i < ds.length) → DenL g (l.map fun i => vs.getD i .none) (l.map fun i => ds.getD i .none)
  | [], _ => .nil
  | i :: l, hl => .cons (denL_getD h (hl i List.mem_cons_self)) (denL_pick h l fun j hj => hl j (List.mem_cons_of_mem _ hj))
theorem kat_tups {g h : Heap} (l : Sub g h) : ∀ {vs : List Value} {ds : List D}, DenL g vs ds → (∀ d ∈ ds, isPr d = true) → ∃ fs, KatTups h vs fs ∧ fs.length = vs.length ∧ ∀ f ∈ fs, ∃ xs, Den g f (.list xs)
  | _, _, .nil, _ => ⟨[], .nil, rfl, fun f hf => by simp at hf⟩
  | _, _, .cons (d := d) x r, hk => by
    obtain ⟨xs, i, rfl⟩ := isPr_of (hk d List.mem_cons_self)
    obtain ⟨t, n, p, k, rfl, h1, dp⟩ := den_pr x
    obtain ⟨fs, q1, q2, q3⟩ := kat_tups l r fun d hd => hk d (List.mem_cons_of_mem _ hd)
    refine ⟨p :: fs, KatTups.cons (l _ _ h1) rfl rfl rfl q1, by simp [q2], fun f hf => ?_⟩
    rcases List.mem_cons.mp hf with rfl | hf
    · exact ⟨xs, dp⟩
    · exact q3 f hf

theorem looks_list {M : Model} {g h : Heap} {v : Value} {xs : List D} (l : Sub g h) (a : Den g v (.list xs)) : Looks M h (typeOf v) (.type "list") := by
  cases a with
  | list a1 a2 => exact (Looks.ld (l _ _ a1)).andThen .now

theorem sort_ok (prog : Program) (w : World) : SortOK prog w sortD where
  ok := by
    intro ds es hs A s g v hA l hv Q E k
    have sp := sortD_spec hs
    obtain ⟨lt, L, hlt, hout⟩ := spec_lt sp
    have hu := hA.units
    cases hv with
    | @list a vs _ n a1 a2 =>
      have hlen := a2.length
      have h64 : vs.length < 64 := by rw [hlen]; exact sp.len
      -- the values, in their order
      have hex : ∃ out, DenL g out es ∧ (vs.length < 2 → out = vs) ∧ ∀ p, PermN vs.length p → Asc lt p vs.length → (p.toList.map fun i => vs.getD i Value.none) = out := by
        by_cases h2 : vs.length < 2
        · refine ⟨vs, ?_, fun _ => rfl, fun p P ha => ?_⟩
          · have : es = ds := by
              have hp := sp.perm
              match ds, hlen with
              | [], _ => exact List.Perm.eq_nil hp
              | [d], _ => exact List.perm_singleton.mp hp
              | _ :: _ :: _, hlen => simp at hlen; lia
            rw [this]; exact a2
          · have hp : (p.toList.map fun i => vs.getD i Value.none).Perm vs := by
              refine (P.perm.map _).trans (List.Perm.of_eq ?_)
              apply List.ext_getElem (by simp)
              intro i h1 h2
              simp [h2]
            match vs, h2 with
            | [], _ => exact List.Perm.eq_nil hp
            | [d], _ => exact List.perm_singleton.mp hp
            | _ :: _ :: _, h2 => simp at h2; lia
        · have wk := kas_ok (lt := lt) (n := ds.length) L (by lia)
          -- some answer of the tree
          have hp : ∃ p, PermN ds.length p ∧ Asc lt p ds.length := by
            have go : ∀ (t : KasT (Array Nat)), wpK lt ds.length t (fun q => PermN ds.length q ∧ Asc lt q ds.length) → ∃ p, PermN ds.length p ∧ Asc lt p ds.length := by
              intro t
              induction t with
              | ret a => intro h; exact ⟨a, h⟩
              | ask i j k ih => intro h; exact ih _ h.2.2.2
            exact go _ wk
          obtain ⟨p, P, ha⟩ := hp
          have e1 := hout p P ha
          have d1 := denL_pick a2 p.toList fun i hi => by
            have := P.perm.mem_iff.mp hi
            exact List.mem_range.mp this
          rw [e1] at d1
          refine ⟨_, d1, fun q => absurd q h2, fun p' P' ha' => ?_⟩
          -- two rising orders are the same
          rw [hlen] at P' ha'
          have : p'.toList = p.toList := by
            have e2 := hout p' P' ha'
            have key : ∀ (x : List Nat) (y : List Nat), (∀ i ∈ x, i < ds.length) → (∀ i ∈ y, i < ds.length) → (x.map fun i => ds.getD i .none) = (y.map fun i => ds.getD i .none) → x = y := by
              have hnd : ds.Nodup := by
                have hne : ∀ {x y}, SortRel x y → x ≠ y := by rintro x y hr rfl; exact sortRel_asym hr hr
                exact sp.perm.nodup_iff.mp (sp.sorted.imp hne)
              intro x
              induction x with
              | nil => intro y _ _ e; induction y using List.casesOn with
                | nil => rfl
                | cons b y => simp at e
              | cons a x ih =>
                intro y hx hy e
                induction y using List.casesOn with
                | nil => simp at e
                | cons b y =>
                  rw [List.map_cons, List.map_cons] at e
                  injection e with e1 e2
                  rw [getD_lt (hx a List.mem_cons_self), getD_lt (hy b List.mem_cons_self)] at e1
                  have := (List.getElem_inj hnd).mp e1
                  rw [this, ih y (fun i hi => hx i (List.mem_cons_of_mem _ hi)) (fun i hi => hy i (List.mem_cons_of_mem _ hi)) e2]
            exact key _ _ (fun i hi => List.mem_range.mp (P'.perm.mem_iff.mp hi)) (fun i hi => List.mem_range.mp (P.perm.mem_iff.mp hi)) (e2.trans e1.symm)
          rw [this]
      obtain ⟨out, dout, hsh, hpo⟩ := hex
      refine sorted_shell (out := out) (isList_of (l _ _ a1)) h64 hsh (fun h2 => ⟨lt, hlen ▸ L, hpo, ?_⟩) fun Dd h' nn hk hd hdead => ?_
      · have hA2 : (A.in1.in1).units + 32 < cLine := by show A.units + 1 + 1 + 32 < cLine; lia
        have q1 : ∀ h', Sub s.heap h' → Sub g h' := fun h' hk => l.trans' hk
        rcases sp.kind with hkl | hkp
        · refine ⟨oneType', fun h' hk => ⟨fun Q' E' q => ?_, fun i j C hi hj hij hC => ?_⟩⟩
          · refine kas_kind (T := .type "list") h2 (fun v hv => ?_) (by decide) (by decide) q
            obtain ⟨i, hi⟩ := List.mem_iff_getElem?.mp hv
            obtain ⟨d, hd, hdv⟩ := a2.getV hi
            obtain ⟨xs, rfl⟩ := isLst_of (hkl d (List.mem_of_getElem? hd))
            exact looks_list (l.trans' hk) hdv
          · unfold kas_ask
            rw [hlen] at hi hj
            have hc := hlt i j hi hj hij
            have di := denL_getD a2 hi
            have dj := denL_getD a2 hj
            obtain ⟨xs, ex⟩ := isLst_of (hkl _ (by rw [getD_lt hi]; exact List.getElem_mem hi) : isLst (ds.getD i .none) = true)
            obtain ⟨ys, ey⟩ := isLst_of (hkl _ (by rw [getD_lt hj]; exact List.getElem_mem hj) : isLst (ds.getD j .none) = true)
            rw [ex, ey] at hc
            rw [ex] at di
            rw [ey] at dj
            exact oneLt_list (q1 h' hk) di dj hc hA2 hC
        · obtain ⟨fs, t1, t2, t3⟩ := kat_tups l a2 hkp
          refine ⟨tuples' true, fun h' hk => ⟨fun Q' E' q => ?_, fun i j C hi hj hij hC => ?_⟩⟩
          · obtain ⟨fs, t1, t2, t3⟩ := kat_tups (l.trans' hk) a2 hkp
            exact kat_kind (T := .type "list") t1 (by lia) (fun v hv => by obtain ⟨xs, hx⟩ := t3 v hv; exact looks_list (l.trans' hk) hx) (by decide) q
          · unfold kas_ask
            rw [hlen] at hi hj
            have hc := hlt i j hi hj hij
            have di := denL_getD a2 hi
            have dj := denL_getD a2 hj
            obtain ⟨xs, i', ex⟩ := isPr_of (hkp _ (by rw [getD_lt hi]; exact List.getElem_mem hi) : isPr (ds.getD i .none) = true)
            obtain ⟨ys, j', ey⟩ := isPr_of (hkp _ (by rw [getD_lt hj]; exact List.getElem_mem hj) : isPr (ds.getD j .none) = true)
            rw [ex, ey] at hc
            rw [ex] at di
            rw [ey] at dj
            exact pr_lt (q1 h' hk) di dj hc hA2 hC
      · have x : Ext g s g { s with heap := h', toks := s.toks } := Ext.grown l hk s.toks
        obtain ⟨g', k1, k2, k3, k4⟩ := view_add x.low hd
        exact k _ g' _ ⟨k1, k2, fun b o e => (k4 b o e).imp id (by rintro rfl; exact hdead), hk, ⟨_, _, _, rfl, .refl _⟩⟩ (.list k3 (dout.sub k1))
end Mine
end

/-! part Nb -/
section
open PySem PySem.W PyProof.Rows PySem.Calls
set_option maxHeartbeats 4000000
set_option maxRecDepth 100000
set_option linter.unusedVariables false
set_option linter.unusedSimpArgs false
set_option tactic.hygienic false
namespace Mine

theorem well_ints {P : Params} {h : Heap} : ∀ {vs : List Value} {ns : List Int}, WellAll P h vs (ns.map WData.int) → DenL h vs (ns.map D.int)
  | [], [], _ => .nil
  | [], _ :: _, h => by cases h
  | _ :: _, [], h => by cases h
  | v :: vs, n :: ns, h => by
    cases h with
    | cons h1 h2 => cases h1; exact .cons (.int _ _) (well_ints h2)

theorem law_den {P : Params} {h : Heap} {l : Addr} {ns : List Int} (x : WellAll P h [.ref l] [ofPy (PyData.list (ns.map PyData.int))]) : Den h (.ref l) (.list (ns.map D.int)) := by
  cases x with
  | cons x1 _ =>
    have e : ofPy (PyData.list (ns.map PyData.int)) = WData.list (ns.map WData.int) := by
      have : ∀ l : List Int, ofPys (l.map PyData.int) = l.map WData.int := by
        intro l
        induction l with
        | nil => rfl
        | cons a l ih => rw [List.map_cons, List.map_cons, ofPys, ofPy, ih]
      rw [ofPy, this]
    rw [e] at x1
    cases x1 with
    | list e1 e2 => exact .list e1 (well_ints e2)

noncomputable abbrev cxN (base : Addr → List D → Option D) (k : Nat) : Cx := ⟨callN base tab gl sortD k, gl, sortD⟩

theorem rm_caller {k : Nat} (h : k ≤ 150) : Rm callerA k := by
  have e1 : callerA.depth + 150 < recursionLimit := by decide +kernel
  have e2 : callerA.units + 8 * 150 < cLine := by decide +kernel
  exact ⟨rfl, by omega, by omega⟩

theorem none_raised {args : List WData} (cls : ExcName) : Challenge.rw_il0053_01.row.claim.raises args cls = false := by
  first
    | rfl
    | exact allW_false_nil
    | (unfold ClaimW.raises; rfl)

end Mine
end

/-! part Nc -/
section
open PySem PySem.W PyProof.Rows PySem.Calls
set_option maxHeartbeats 2000000
set_option linter.unusedVariables false
set_option linter.unusedSimpArgs false
set_option tactic.hygienic false
namespace Mine
open PySem.Sem (wp)

section
variable {M : Model} {A : Around} {R : GenEnd} {Y : Protocol} {n : Nat} {s₀ : Shared} {c : Code} {fs : List PySem.Frame} {s : Shared} {env : Env}
  {K : Flow → Sem PySem.Fin} {H : Value → Sem PySem.Fin} {gd : Bool → Bool} {lv : List Value → List Value}

theorem seg_If {test : Expr} {body orelse : List Stmt} {pos : Pos}
    (h : wpAny M (A.over c fs) (isTrue test env (eval test env)) (fun b s' => if b = true then Seg M A R Y n s₀ c ((execs body env).wrap K H gd lv) fs s' else Seg M A R Y n s₀ c ((execs orelse env).wrap K H gd lv) fs s')
      (fun x s' => Seg M A R Y n s₀ c (H x) fs s') s) : Seg M A R Y n s₀ c ((exec (.If test body orelse pos) env).wrap K H gd lv) fs s := by
  rw [exec_If]
  show Seg M A R Y n s₀ c (.at pos fun _ => ((isTrue test env (eval test env) >>= fun b => if b = true then execs body env else execs orelse env)).wrap K H gd lv) fs s
  refine seg_at (seg_bind_wrap (wpAny_mono h (fun b s' hb => ?_) fun _ _ x => x))
  cases b with
  | true => exact hb
  | false => exact hb

theorem seg_For {target iter : Expr} {body orelse : List Stmt} {pos : Pos} (hfold : ∀ v, foldedSetIterable iter env v = pure v)
    (h : wpAny M (A.over c fs) (eval iter env) (fun x s₁ => wpAny M (A.over c fs) (pyIter x) (fun it s₂ => ∀ p, Seg M A R Y n s₀ (.forLoop target it body orelse env) (M.den (.forLoop target it body orelse env))
      (.ret (fun r => ((match r with | .ok f => (.pure f : Sem Flow) | .error e => .raise e).onRaise fun (x : Value) => do
        if (← field x 1) == Value.none then unsupported "frame.own-activation:exception-without-traceback"
        setFlight x env.frame).wrap K H gd lv) none (gd false) (lv []) c p [] :: fs) s₂) (fun x s' => Seg M A R Y n s₀ c (H x) fs s') s₁) (fun x s' => Seg M A R Y n s₀ c (H x) fs s') s) :
    Seg M A R Y n s₀ c ((exec (.For target iter body orelse pos) env).wrap K H gd lv) fs s := by
  rw [exec_For]
  refine seg_bind_wrap (wpAny_standAt ?_)
  refine seg_bind_wrap (wpAny_mono h (fun x s₁ h₁ => ?_) fun _ _ x => x)
  rw [hfold]
  refine seg_bind_wrap (wpAny_pure ?_)
  refine seg_bind_wrap (wpAny_standAt ?_)
  refine seg_bind_wrap (wpAny_holding (wpAny_mono h₁ (fun it s₂ h₂ => ?_) fun _ _ x => x))
  exact seg_call h₂
end

section
variable {prog : Program} {w : World} {A : Around} {R : GenEnd} {Y : Protocol} {n : Nat} {s₀ : Shared} {fs : List PySem.Frame} {s : Shared} {env : Env}

/-- one turn of a for loop inside a generator -/
theorem seg_forLoop {target : Expr} {it : Value} {body : List Stmt}
    (h : wpAny (model prog w) (A.over (.forLoop target it body [] env) fs) (pyNext it) (fun r s₁ => match r with
        | none => Seg (model prog w) A R Y n s₀ (.forLoop target it body [] env) (.pure (.again (.block [] env))) fs s₁
        | some v => wpAny (model prog w) (A.over (.forLoop target it body [] env) fs) (letOwnedTupleGo target it v) (fun _ s₂ =>
            wpAny (model prog w) (A.over (.forLoop target it body [] env) fs) (assign target env v) (fun _ s₃ =>
              Seg (model prog w) A R Y n s₀ (.forLoop target it body [] env) ((execs body env).wrap (fun f => match f with
                | .next | .cont => .pure (.again (.forLoop target it body [] env))
                | .brk => .pure (.done .next)
                | .ret v => .pure (.done (.ret v))) (fun e => (do noteFrame e env; theTreesLotGoes e : Sem Unit).wrap (fun _ => .raise e) .raise id id) id id) fs s₃) (fun _ _ => False) s₂) (fun _ _ => False) s₁) (fun _ _ => False) s) :
    Seg (model prog w) A R Y n s₀ (.forLoop target it body [] env) ((model prog w).den (.forLoop target it body [] env)) fs s := by
  show Seg _ A R Y n s₀ _ ((forTurn target it body [] env).onRaise (fun x => do noteFrame x env; theTreesLotGoes x)) fs s
  unfold forTurn
  rw [Sem.onRaise_eq_wrap]
  refine seg_bind_wrap (wpAny_standAt ?_)
  refine seg_bind_wrap (wpAny_onRaise (wpAny_mono h (fun r s₁ h₁ => ?_) fun _ _ x => x.elim))
  cases r with
  | none => exact h₁
  | some v =>
    refine seg_bind_wrap (wpAny_mono h₁ (fun _ s₂ h₂ => ?_) fun _ _ x => x.elim)
    refine seg_bind_wrap (wpAny_mono h₂ (fun _ s₃ h₃ => ?_) fun _ _ x => x.elim)
    rw [Sem.bind_eq_wrap', Sem.wrap_wrap]
    rw [Sem.wrap_congr (execs body env) _ _ (K' := fun f => match f with
            | .next | .cont => .pure (.again (.forLoop target it body [] env))
            | .brk => .pure (.done .next)
            | .ret v => .pure (.done (.ret v))) (H' := (fun e => (do noteFrame e env; theTreesLotGoes e : Sem Unit).wrap (fun _ => .raise e) .raise id id))
        (fun f => by cases f <;> rfl)
        (fun e => by first | exact Sem.bind_eq_wrap _ _ | (show (do noteFrame e env; theTreesLotGoes e : Sem Unit).bind (fun _ => .raise e) = _; rw [Sem.bind_eq_wrap]))]
    exact h₃
end
end Mine
end

/-! part Nd -/
section
open PySem PySem.W PyProof.Rows PySem.Calls
set_option maxHeartbeats 2000000
set_option linter.unusedVariables false
set_option linter.unusedSimpArgs false
set_option tactic.hygienic false
namespace Mine

/-! a heap cut down to some of its places -/
theorem cut_ex (P : Addr → Prop) (h : Heap) : ∃ k : Heap, ∀ b, (P b → k.get? b = h.get? b) ∧ (¬ P b → k.get? b = none) := by
  classical
  let f : Nat → Heap := fun n => (List.range n).foldl (fun k b => if P b then k else hide b k) h
  have key : ∀ n, (∀ b, P b → (f n).get? b = h.get? b) ∧ (∀ b, b < n → ¬ P b → (f n).get? b = none) ∧ ∀ b, n ≤ b → (f n).get? b = h.get? b := by
    intro n
    induction n with
    | zero => exact ⟨fun _ _ => rfl, fun _ h => absurd h (Nat.not_lt_zero _), fun _ _ => rfl⟩
    | succ n ih =>
      obtain ⟨i1, i2, i3⟩ := ih
      have e : f (n + 1) = if P n then f n else hide n (f n) := by
        show (List.range (n + 1)).foldl _ h = _
        rw [List.range_succ, List.foldl_append]
        rfl
      rw [e]
      split
      · rename_i hc
        refine ⟨i1, fun b hb hn => ?_, fun b hb => i3 b (Nat.le_of_succ_le hb)⟩
        rcases Nat.lt_or_ge b n with hlt | hge
        · exact i2 b hlt hn
        · obtain rfl : b = n := Nat.le_antisymm (Nat.le_of_lt_succ hb) hge
          exact absurd hc hn
      · rename_i hc
        refine ⟨fun b hb => ?_, fun b hb hn => ?_, fun b hb => ?_⟩
        · have hne : n ≠ b := (by rintro rfl; exact hc hb)
          rw [hide_ne hne]; exact i1 b hb
        · by_cases hbn : n = b
          · subst hbn; exact hide_at
          · rw [hide_ne hbn]; exact i2 b (by lia) hn
        · rw [hide_ne (Nat.ne_of_lt hb)]; exact i3 b (Nat.le_of_succ_le hb)
  obtain ⟨k1, k2, k3⟩ := key h.objs.size
  refine ⟨f h.objs.size, fun b => ⟨k1 b, fun hn => ?_⟩⟩
  by_cases hs : b < h.objs.size
  · exact k2 b hs hn
  · rw [k3 b (Nat.le_of_not_lt hs)]
    cases e : h.get? b with
    | none => rfl
    | some o => exact absurd (Heap.lt_size e) hs

abbrev Has (h : Heap) (b : Addr) : Prop := ∃ o, h.get? b = some o
noncomputable def cut (hs : Heap) (C : Addr) (h : Heap) : Heap := Classical.choose (cut_ex (fun b => Has hs b ∧ b ≠ C) h)
section
variable {hs h : Heap} {C b : Addr} {o : Obj}
theorem cut_in (h1 : Has hs b) (h2 : b ≠ C) : (cut hs C h).get? b = h.get? b := (Classical.choose_spec (cut_ex (fun b => Has hs b ∧ b ≠ C) h) b).1 ⟨h1, h2⟩
theorem cut_out (hn : ¬ (Has hs b ∧ b ≠ C)) : (cut hs C h).get? b = none := (Classical.choose_spec (cut_ex (fun b => Has hs b ∧ b ≠ C) h) b).2 hn
theorem cut_some (e : (cut hs C h).get? b = some o) : Has hs b ∧ b ≠ C ∧ h.get? b = some o := by
  by_cases hc : Has hs b ∧ b ≠ C
  · exact ⟨hc.1, hc.2, by rwa [cut_in hc.1 hc.2] at e⟩
  · rw [cut_out hc] at e; cases e
theorem cut_sub : Sub (cut hs C h) h := fun _ _ e => (cut_some e).2.2
end
noncomputable abbrev cutS (hs : Heap) (C : Addr) (s : Shared) : Shared := { s with heap := cut hs C s.heap }
noncomputable def Alive (hs h : Heap) : Prop := ∀ b, Has hs b → Has h b
noncomputable def Keep (hs : Heap) (C : Addr) (s₀ s : Shared) : Prop := Sub (cut hs C s₀.heap) s.heap ∧ Alive hs s.heap ∧ SameB s₀ s

/-- the generator's protocol: the values, whether it is run to its end -/
noncomputable def gY (hs gv : Heap) (C : Addr) (vals : List Int) (fin : Bool) : Protocol := fun m s₀ v s kap =>
  (∃ d t, vals[vals.length - 1 - m]? = some d ∧ v = .int d t) ∧ Keep hs C s₀ s ∧
    ((m ≠ 0 ∨ fin = true) → ∃ gp, (∀ b o, gp.get? b = some o → gv.get? b = some o ∨ b = C ∨ hs.get? b = none) ∧ Sub gp s.heap ∧ ∀ s'', Sub gp s''.heap → Alive hs s''.heap → kap (.send .none) s'')
noncomputable def gR (hs : Heap) (C : Addr) (fin : Bool) : GenEnd := fun n s₀ r s => r = .ok (.ret .none) ∧ (n = 0 ∧ fin = true ∧ Keep hs C s₀ s)

section
variable {prog : Program} {w : World} {K : Frag} {mg mb : Str → Option Value} {A : Around} {env : Env} {st : Sto} {hs gv g : Heap} {s₀ s : Shared} {cx : Cx} {n : Nat}

theorem sameB_heap {s s' : Shared} {h : Heap} (x : SameB { s with heap := h } s') : SameB s s' := by
  obtain ⟨h', tk, G, e, b⟩ := x
  exact ⟨h', tk, G, e, b⟩
theorem In.keep (I : In K mg mb env gv (cutS hs env.locals s₀) st g s) (al : Alive hs s₀.heap) : Keep hs env.locals s₀ s := by
  refine ⟨I.ext.kept, fun b hb => ?_, sameB_heap I.ext.same⟩
  by_cases hc : b = env.locals
  · subst hc; obtain ⟨m, hm⟩ := I.ns; exact ns_alive hm
  · obtain ⟨o, e⟩ := al b hb
    exact ⟨o, I.ext.kept _ _ (by rw [cut_in hb hc]; exact e)⟩
theorem In.newer (I : In K mg mb env gv (cutS hs env.locals s₀) st g s) (al : Alive hs s₀.heap) : ∀ b o, g.get? b = some o → gv.get? b = some o ∨ hs.get? b = none := by
  intro b o e
  rcases I.ext.new b o e with e' | e'
  · exact .inl e'
  · right
    have e' : (cut hs env.locals s₀.heap).get? b = none := e'
    cases q : hs.get? b with
    | none => rfl
    | some o' =>
      have hne : b ≠ env.locals := by rintro rfl; rw [I.gl] at e; cases e
      rw [cut_in ⟨_, q⟩ hne] at e'
      obtain ⟨o'', q'⟩ := al b ⟨_, q⟩
      rw [e'] at q'; cases q'

/-- the frame is taken up again in another state that keeps the view and the locals -/
theorem In.wake {g₀ : Heap} {sb s'' : Shared} {oC : Obj} (I : In K mg mb env g₀ sb st g s) (hown : st.own = none) (hcell : ∀ x, env.kindOf x ≠ some .cell) (hC : s.heap.get? env.locals = some oC)
    (hgv : Sub gv g) (hnew : ∀ b o, g.get? b = some o → gv.get? b = some o ∨ hs.get? b = none) (k : Sub g s''.heap) (kC : s''.heap.get? env.locals = some oC) : In K mg mb env gv (cutS hs env.locals s'') st g s'' where
  fs :=
    { wd := I.fs.wd
      low := k
      kind := I.fs.kind
      glob := I.fs.glob
      blt := I.fs.blt
      loc := by
        obtain ⟨m, ⟨o, es, ep, ho, r⟩, h2⟩ := I.fs.loc
        rw [hC] at ho; cases ho
        exact ⟨m, ⟨_, es, ep, kC, r⟩, h2⟩
      cel := fun y d e hy => absurd hy (hcell y)
      all := I.fs.all }
  ext := ⟨hgv, k, fun b o e => (hnew b o e).imp id fun q => cut_out (by rintro ⟨⟨o, e⟩, _⟩; rw [q] at e; cases e), cut_sub, ⟨_, _, _, rfl, .refl _⟩⟩
  dl := cut_out fun h => h.2 rfl
  gl := I.gl
  cs := fun y hy => absurd hy (hcell y)
  inj := I.inj
  own := fun y es hy => by rw [hown] at hy; cases hy

/-- a yield, and the frame after it -/
theorem gen_yield {e : Expr} {ypos pos : Pos} {R : GenEnd} {c : Code} {fs : List PySem.Frame} {vals : List Int} {fin : Bool} {l : Int} {k : Nat} {J : Addr} {oJ : Obj} {KK : Flow → Sem PySem.Fin} {H : Value → Sem PySem.Fin} {gd : Bool → Bool} {lv : List Value → List Value}
    (O : Ok prog w K mg mb (A.over c fs) cx n) (hfs : splitAtGen fs = none) (hfg : fs.any Frame.guarded = false) (hco : env.scope.isCoroutine = false) (hcell : ∀ x, env.kindOf x ≠ some .cell) (hgd : gd false = false)
    (hv : evalE cx e env.scope st.σ = some (.int l)) (hown : st.own = none) (hval : vals[vals.length - 1 - k]? = some l) (al : Alive hs s₀.heap) (I : In K mg mb env gv (cutS hs env.locals s₀) st g s)
    (hJ : J = env.locals ∨ hs.get? J = none) (hoJ : s.heap.get? J = some oJ)
    (hk : (k ≠ 0 ∨ fin = true) → ∀ g' s'', In K mg mb env gv (cutS hs env.locals s'') st g' s'' → Alive hs s''.heap → s''.heap.get? J = some oJ → (g.get? J = none → g'.get? J = none) → Sub g g' → Seg (model prog w) A R (gY hs gv env.locals vals fin) k s'' c (KK .next) fs s'') :
    Seg (model prog w) A R (gY hs gv env.locals vals fin) (k + 1) s₀ c ((exec (.Expr (.Yield (some e) ypos) pos) env).wrap KK H gd lv) fs s := by
  refine seg_Expr_Yield hfs hgd hfg (evalE_ok O.C O.S O.G O.hA e env _ g s _ I.fs hv _ _ fun v g' s' x dv => ?_) hco (by unfold interactive; rw [I.fs.kind]; rfl)
  intro kap hkap
  have I' := I.go x
  cases dv with
  | int _ t =>
    refine ⟨⟨l, t, hval, rfl⟩, I'.keep al, fun hm => ?_⟩
    obtain ⟨m, hm'⟩ := I'.ns
    obtain ⟨oC, hoC⟩ := ns_alive hm'
    obtain ⟨g1, a1, a2, a3, a4⟩ := view_add I'.fs.low hoC
    obtain ⟨g2, b1, b2, b3, b4⟩ := view_add a2 (x.kept _ _ hoJ)
    have nw := I'.newer al
    refine ⟨g2, fun b o e => ?_, b2, fun s'' k1 k2 => hkap .none s'' ?_⟩
    · rcases b4 b o e with e | rfl
      · rcases a4 b o e with e | e
        · exact (nw b o e).imp id .inr
        · exact .inr (.inl e)
      · exact .inr (hJ.imp id id)
    · exact hk hm g' s'' (I'.wake hown hcell hoC I'.ext.sub nw (a1.trans' (b1.trans' k1)) (k1 _ _ (b1 _ _ a3))) k2 (k1 _ _ b3) (fun hn => x.none hn ⟨_, hoJ⟩) x.sub

/-- while True: yield e, where e is one and the same int -/
theorem seg_forever {e : Expr} {ypos epos tpos : Pos} {l : Int} {R : GenEnd} {fs : List PySem.Frame} {vals : List Int} {tk : Nat} (O : Ok prog w K mg mb (A.over (.whileLoop (.Constant (.bool true) tk tpos) [.Expr (.Yield (some e) ypos) epos] [] env) fs) cx n)
    (hfs : splitAtGen fs = none) (hfg : fs.any Frame.guarded = false) (hco : env.scope.isCoroutine = false) (hcell : ∀ x, env.kindOf x ≠ some .cell) (hv : evalE cx e env.scope st.σ = some (.int l)) (hown : st.own = none) :
    ∀ (k : Nat) (g : Heap) (s₀ s : Shared), In K mg mb env gv (cutS hs env.locals s₀) st g s → Alive hs s₀.heap → (∀ j, j ≤ k → vals[vals.length - 1 - j]? = some l) →
      Seg (model prog w) A R (gY hs gv env.locals vals false) (k + 1) s₀ (.whileLoop (.Constant (.bool true) tk tpos) [.Expr (.Yield (some e) ypos) epos] [] env)
        ((model prog w).den (.whileLoop (.Constant (.bool true) tk tpos) [.Expr (.Yield (some e) ypos) epos] [] env)) fs s
  | k, g, s₀, s, I, al, hvals => by
    refine seg_whileLoop (isTrue_plain (Constant_bool (wpAny_truthy_bool ?_)))
    rw [if_pos rfl]
    obtain ⟨m, hm⟩ := I.ns
    obtain ⟨oC, hoC⟩ := ns_alive hm
    refine seg_execs_cons (gen_yield O hfs hfg hco hcell rfl hv hown (hvals k (Nat.le_refl _)) al I (.inl rfl) hoC fun hm g' s'' I' al' _ _ _ => ?_)
    obtain ⟨k', rfl⟩ : ∃ k', k = k' + 1 := ⟨k - 1, by rcases hm with h | h <;> first | omega | cases h⟩
    refine seg_again rfl ?_
    exact seg_forever O hfs hfg hco hcell hv hown k' g' s'' s'' I' al' (fun j hj => hvals j (by (exact Nat.le_succ_of_le ‹_›)))
  termination_by k => k

theorem seg_blockNil {R : GenEnd} {Y : Protocol} {k : Nat} {c c₁ : Code} {fs : List PySem.Frame} {kk : Result → Sem PySem.Fin} {h : Option Value} {gd : Bool} {l : List Value} {p₁ : Pos} {kp : List Value}
    (hk : Seg (model prog w) A R Y k s₀ c₁ (kk (.ok .next)) fs s) : Seg (model prog w) A R Y k s₀ c (.pure (.again (.block [] env))) (.ret kk h gd l c₁ p₁ kp :: fs) s :=
  seg_again rfl (show Seg (model prog w) A R Y k s₀ (.block [] env) (leafOf (.ok .next)) (.ret kk h gd l c₁ p₁ kp :: fs) s from seg_leaf (.ok .next) hk)
theorem seg_retOut {R : GenEnd} {Y : Protocol} {k : Nat} {c c₁ : Code} {fs : List PySem.Frame} {kk : Result → Sem PySem.Fin} {h : Option Value} {gd : Bool} {l : List Value} {p₁ : Pos} {kp : List Value} {f : Flow}
    (hk : Seg (model prog w) A R Y k s₀ c₁ (kk (.ok f)) fs s) : Seg (model prog w) A R Y k s₀ c (.pure (.done f)) (.ret kk h gd l c₁ p₁ kp :: fs) s :=
  seg_leaf (.ok f) hk
end
end Mine
end

/-! part Ne -/
section
open PySem PySem.W PyProof.Rows PySem.Calls
set_option maxHeartbeats 2000000
set_option linter.unusedVariables false
set_option linter.unusedSimpArgs false
set_option tactic.hygienic false
namespace Mine

/-- no defs, no sort -/
noncomputable def cx0 : Cx := ⟨fun _ _ => none, gl, fun _ => none⟩
/-- the generator's loop, at any places and with any raise -/
noncomputable def gBody (p : Nat → Pos) (rs : Stmt) : List Stmt :=
  [.If (.Compare (.Name "interval" (p 0)) [.Eq] [.Name "CHAR_MAX" (p 1)] (p 2)) [.Return none (p 3)] [] (p 4),
   .If (.Compare (.Name "interval" (p 5)) [.Eq] [.Constant (.int 0) 0 (p 6)] (p 7)) [.If (.Compare (.Name "last_interval" (p 8)) [.Is] [.Constant .none 0 (p 9)] (p 10)) [rs] [] (p 11),
      .While (.Constant (.bool true) 0 (p 12)) [.Expr (.Yield (some (.Name "last_interval" (p 13))) (p 14)) (p 15)] [] (p 16)] [] (p 17),
   .Expr (.Yield (some (.Name "interval" (p 18))) (p 19)) (p 20),
   .Assign [.Name "last_interval" (p 21)] (.Name "interval" (p 22)) (p 23)]
structure GSc (sc : Scope) : Prop where
  co : sc.isCoroutine = false
  cell : ∀ x, sc.names.lookup x ≠ some .cell
  l1 : sc.names.lookup ("last_interval" : Str) = some .local
  l2 : sc.names.lookup ("interval" : Str) = some .local
  l3 : sc.names.lookup ("CHAR_MAX" : Str) = some .globalImplicit
  l4 : sc.names.lookup ("grouping" : Str) = some .local

/-- what comes of the items: the values wanted, and whether it ends behind them -/
noncomputable def genOK : List Int → Option Int → List Int → Bool → Prop
  | [], _, outs, fin => outs = [] ∧ fin = true
  | x :: r, last, outs, fin => if x = 127 then outs = [] ∧ fin = true else if x = 0 then ∃ l, last = some l ∧ outs ≠ [] ∧ (∀ y ∈ outs, y = l) ∧ fin = false else
      ∃ outs', outs = x :: outs' ∧ ((outs' = [] ∧ fin = false) ∨ genOK r (some x) outs' fin)

section
variable {sc : Scope} {σ : Vars}
theorem ev_loc {x : Str} {p : Pos} {d : D} (hd : (x == ("__debug__" : Str)) = false) (hl : sc.names.lookup x = some .local) (h : σ x = some d) : evalE cx0 (.Name x p) sc σ = some d := by
  rw [eE_Name]; unfold nameD; rw [hd, hl]; exact h
theorem is127 {p : Nat → Pos} {x : Int} {o : Option D} (h : GSc sc) (hx : σ "interval" = some (.int x)) : isT cx0 (.Compare (.Name "interval" (p 0)) [.Eq] [.Name "CHAR_MAX" (p 1)] (p 2)) o sc σ = some (x == 127) := by
  have e1 : evalE cx0 (.Name "interval" (p 0)) sc σ = some (.int x) := ev_loc rfl h.l2 hx
  have e2 : evalE cx0 (.Name "CHAR_MAX" (p 1)) sc σ = some (.int 127) := by simp only [eE_Name, nameD, h.l3]; rfl
  simp only [iT_cmp, iT_Name, e1, e2]
  rfl
theorem is0 {p : Nat → Pos} {x : Int} {o : Option D} (h : GSc sc) (hx : σ "interval" = some (.int x)) : isT cx0 (.Compare (.Name "interval" (p 5)) [.Eq] [.Constant (.int 0) 0 (p 6)] (p 7)) o sc σ = some (x == 0) := by
  have e1 : evalE cx0 (.Name "interval" (p 5)) sc σ = some (.int x) := ev_loc rfl h.l2 hx
  have e2 : evalE cx0 (.Constant (.int 0) 0 (p 6)) sc σ = some (.int 0) := rfl
  simp only [iT_cmp, iT_Name, e1, e2]
  rfl
theorem isNo {p : Nat → Pos} {x : Int} {o : Option D} (h : GSc sc) (hx : σ "last_interval" = some (.int x)) : isT cx0 (.Compare (.Name "last_interval" (p 8)) [.Is] [.Constant .none 0 (p 9)] (p 10)) o sc σ = some false := by
  have e1 : evalE cx0 (.Name "last_interval" (p 8)) sc σ = some (.int x) := ev_loc rfl h.l1 hx
  have e2 : evalE cx0 (.Constant .none 0 (p 9)) sc σ = some .none := rfl
  simp only [iT_cmp, iT_Name, e1, e2]
  rfl
end

theorem rm_over {A : Around} {k : Nat} {c : Code} {fs : List PySem.Frame} (h : Rm A (k + 1)) (h1 : (marksOver fs (A.handled, A.handled)).1 = A.handled) (h2 : frameCount (fs.map Frame.where_) + c.weight ≤ 1) (h3 : PySem.unitsOf (fs.map Frame.where_) + c.cUnits ≤ 8) : Rm (A.over c fs) k where
  handled := h1.trans h.handled
  depth := by have := h.depth; show A.depth + frameCount (fs.map Frame.where_) + c.weight + k < _; lia
  units := by have := h.units; show A.units + PySem.unitsOf (fs.map Frame.where_) + c.cUnits + 8 * k < _; lia
theorem rm_loop {A : Around} {k : Nat} {env : Env} {e1 e2 b1 b2 cb kk gd l p} (h : Rm A (k + 1)) : Rm (A.over (.forLoop e1 e2 b1 b2 env) [.ret kk none gd l (.func cb env) p []]) k :=
  rm_over h rfl (by show 1 ≤ 1; (exact Nat.le_refl _)) (by show 3 ≤ 8; (exact Nat.le_add_left ..))
theorem rm_while {A : Around} {k : Nat} {env : Env} {e1 e2 e3 b1 b2 b3 b4 cb kk kk' gd gd' l l' p p'} (h : Rm A (k + 1)) :
    Rm (A.over (.whileLoop e3 b3 b4 env) [.ret kk' none gd' l' (.forLoop e1 e2 b1 b2 env) p' [], .ret kk none gd l (.func cb env) p []]) k :=
  rm_over h rfl (by show 1 ≤ 1; (exact Nat.le_refl _)) (by show 3 ≤ 8; (exact Nat.le_add_left ..))

section
variable {prog : Program} {w : World} {K : Frag} {mg mb : Str → Option Value} {A : Around} {env : Env} {hs gv : Heap}

theorem ok0 (G : GlOK gl mg mb) (h : Rm A 8) : Ok prog w K mg mb A cx0 0 :=
  ⟨⟨fun _ _ _ h => (nomatch h), fun _ _ _ h => (nomatch h)⟩, ⟨fun _ _ h => (nomatch h)⟩, G, h⟩

theorem suf_val {vals t : List Int} {y : Int} (h : (y :: t) <:+ vals) : vals[vals.length - 1 - t.length]? = some y := by
  obtain ⟨pre, rfl⟩ := h
  have : (pre ++ y :: t).length - 1 - t.length = pre.length := by simp
  rw [this, List.getElem?_append_right (Nat.le_refl _), Nat.sub_self]; rfl
theorem suf_all {vals outs : List Int} {l : Int} (h : outs <:+ vals) (ha : ∀ y ∈ outs, y = l) (j : Nat) (hj : j < outs.length) : vals[vals.length - 1 - j]? = some l := by
  obtain ⟨pre, rfl⟩ := h
  have e : (pre ++ outs).length - 1 - j = pre.length + (outs.length - 1 - j) := by simp; lia
  rw [e, List.getElem?_append_right (Nat.le_add_right _ _), Nat.add_sub_cancel_left]
  have hlt : outs.length - 1 - j < outs.length := by (clear e; omega)
  rw [List.getElem?_eq_getElem hlt, ha _ (List.getElem_mem hlt)]

theorem seg_loop {p : Nat → Pos} {rs : Stmt} {tp pf : Pos} {J ax : Addr} {items : List Value} {nn : Nat} {ns vals : List Int} {fin : Bool} {kk : Result → Sem PySem.Fin} {lf : List Value} {cb : List Stmt} {R : GenEnd}
    (sc : GSc env.scope) (hA : Rm A 9) (G : GlOK gl mg mb) (hax : gv.get? ax = some (lObj items nn)) (hit : DenL gv items (ns.map D.int)) (hJhs : hs.get? J = none)
    (hend : ∀ (s₀ s : Shared) (f : Flow), (f = .next ∨ f = .ret .none) → fin = true → Keep hs env.locals s₀ s → Seg (model prog w) A R (gY hs gv env.locals vals fin) 0 s₀ (.func cb env) (kk (.ok f)) [] s) :
    ∀ (r pre : List Int) (last : Option Int) (outs : List Int) (st : Sto) (g : Heap) (s₀ s : Shared), ns = pre ++ r → genOK r last outs fin → outs <:+ vals →
      s.heap.IsListIter J ax pre.length → In K mg mb env gv (cutS hs env.locals s₀) st g s → Alive hs s₀.heap → g.get? J = none → st.own = none → (∀ l, last = some l → st.σ "last_interval" = some (.int l)) →
      Seg (model prog w) A R (gY hs gv env.locals vals fin) outs.length s₀ (.forLoop (.Name "interval" tp) (.ref J) (gBody p rs) [] env) ((model prog w).den (.forLoop (.Name "interval" tp) (.ref J) (gBody p rs) [] env))
        [.ret kk none false lf (.func cb env) pf []] s := by
  intro r
  have hO : Rm (A.over (.forLoop (.Name "interval" tp) (.ref J) (gBody p rs) [] env) [.ret kk none false lf (.func cb env) pf []]) 8 := rm_loop hA
  have O := ok0 (prog := prog) (w := w) (K := K) G hO
  have hlen : items.length = ns.length := by rw [hit.length, List.length_map]
  have hcell : ∀ x, env.kindOf x ≠ some .cell := sc.cell
  have k1 : env.kindOf "interval" = some .local := sc.l2
  have k2 : env.kindOf "last_interval" = some .local := sc.l1
  induction r with
  | nil =>
    intro pre last outs st g s₀ s hr hgen hsuf hiter I al hJg hown hlast
    obtain ⟨rfl, hfin⟩ := hgen
    have hne : ax ≠ J := by rintro rfl; have := I.ext.sub _ _ hax; rw [hJg] at this; contradiction
    have hL : s.heap.IsList ax items.toArray := isList_of (I.fs.low _ _ (I.ext.sub _ _ hax))
    have hi : pre.length = items.toArray.size := by rw [List.size_toArray, hlen, hr, List.append_nil]
    have W := Walks.list (prog := prog) (w := w) hO.handled J ax hne items.toArray
    obtain ⟨oJ, hoJ, hc, hd⟩ := id hiter
    have hito : ItO oJ := ⟨_, _, hc, hd, .inl rfl⟩
    obtain ⟨m, hm⟩ := I.ns
    have hJl := ito_ns hoJ hito hm
    refine seg_forLoop (W.done _ _ _ ⟨hi ▸ hiter, hL⟩ fun h₂ tk₂ hk₂ => ?_)
    have hk₂' : ∀ b o, b ≠ J → s.heap.get? b = some o → h₂.get? b = some o := fun b o hb e => hk₂ b o (by simpa using hb) e
    have I₂ := I.chg (tk := tk₂) hk₂' hJg (cut_out fun h => by obtain ⟨o, e⟩ := h.1; rw [hJhs] at e; contradiction) hJl (ito_cell hoJ hito) (ito_list hoJ hito)
    exact seg_blockNil (hend s₀ _ .next (.inl rfl) hfin (I₂.keep al))
  | cons x r ih =>
    intro pre last outs st g s₀ s hr hgen hsuf hiter I al hJg hown hlast
    have hne : ax ≠ J := by rintro rfl; have := I.ext.sub _ _ hax; rw [hJg] at this; contradiction
    have hL : s.heap.IsList ax items.toArray := isList_of (I.fs.low _ _ (I.ext.sub _ _ hax))
    have hi : pre.length < items.toArray.size := by rw [List.size_toArray, hlen, hr, List.length_append, List.length_cons]; simp
    have W := Walks.list (prog := prog) (w := w) hO.handled J ax hne items.toArray
    obtain ⟨oJ, hoJ, hc, hd⟩ := id hiter
    have hito : ItO oJ := ⟨_, _, hc, hd, .inl rfl⟩
    obtain ⟨m, hm⟩ := I.ns
    have hJl := ito_ns hoJ hito hm
    have hJc : (cut hs env.locals s₀.heap).get? J = none := cut_out fun h => by obtain ⟨o, e⟩ := h.1; rw [hJhs] at e; contradiction
    refine seg_forLoop (W.item _ _ _ _ hi ⟨hiter, hL⟩ fun v h₂ tk₂ hPv hst₂ hk₂ => ?_)
    have hk₂' : ∀ b o, b ≠ J → s.heap.get? b = some o → h₂.get? b = some o := fun b o hb e => hk₂ b o (by simpa using hb) e
    have I₂ := I.chg (tk := tk₂) hk₂' hJg hJc hJl (ito_cell hoJ hito) (ito_list hoJ hito)
    obtain ⟨oK, hoK, hcK, hdK⟩ := id hst₂.1
    have hitoK : ItO oK := ⟨_, _, hcK, hdK, .inl rfl⟩
    have hv : Den g v (.int x) := by
      obtain ⟨d, e1, e2⟩ := hit.getV (by simpa using hPv)
      rw [hr, List.getElem?_map, List.getElem?_append_right (Nat.le_refl _), Nat.sub_self] at e1
      obtain rfl := so e1
      exact e2.sub I.ext.sub
    refine letGo_ok hoK hitoK ?_
    have hst1 : storeD env.scope "interval" (.int x) st = some ⟨updV st.σ "interval" (.int x), st.own⟩ := by
      unfold storeD
      rw [hown, if_neg (by simp), sc.l2]
    refine assign_Name (I₂.store hv hst1 fun s₃ I₃ hk₃ => ?_)
    have hJ₃ : s₃.heap.get? J = some oK := hk₃ k1 _ _ hJl hoK
    have hx₃ : updV st.σ "interval" (.int x) "interval" = some (.int x) := updV_eq ..
    unfold gBody
    refine seg_execs_cons (seg_If (isT_ok O.C O.S O.G O.hA _ _ none env _ g s₃ _ I₃.fs (is127 sc hx₃) (fun _ h => nomatch h) _ _ fun g₄ s₄ x₄ => ?_))
    have I₄ := I₃.go x₄
    have hJ₄ := x₄.kept _ _ hJ₃
    have hJg₄ := x₄.none hJg ⟨_, hJ₃⟩
    unfold genOK at hgen
    by_cases h127 : x = 127
    · rw [if_pos h127] at hgen
      obtain ⟨rfl, hfin⟩ := hgen
      have e1 : (x == 127) = true := by simpa using h127
      rw [e1]
      refine seg_execs_cons (seg_wrap (wpAny_Return_none ?_))
      exact seg_retOut (hend s₀ _ (.ret .none) (.inr rfl) hfin (I₄.keep al))
    · rw [if_neg h127] at hgen
      have e1 : (x == 127) = false := by simpa using h127
      rw [e1]
      refine seg_execs_nil ?_
      refine seg_execs_cons (seg_If (isT_ok O.C O.S O.G O.hA _ _ none env _ g₄ s₄ _ I₄.fs (is0 sc hx₃) (fun _ h => nomatch h) _ _ fun g₅ s₅ x₅ => ?_))
      have I₅ := I₄.go x₅
      have hJ₅ := x₅.kept _ _ hJ₄
      have hJg₅ := x₅.none hJg₄ ⟨_, hJ₄⟩
      by_cases h0 : x = 0
      · rw [if_pos h0] at hgen
        obtain ⟨l, hl, hne', hall, rfl⟩ := hgen
        have e2 : (x == 0) = true := by simpa using h0
        rw [e2]
        have hl₃ : updV st.σ "interval" (.int x) "last_interval" = some (.int l) := by
          rw [updV_ne (by decide)]; exact hlast l hl
        refine seg_execs_cons (seg_If (isT_ok O.C O.S O.G O.hA _ _ none env _ g₅ s₅ _ I₅.fs (isNo sc hl₃) (fun _ h => nomatch h) _ _ fun g₆ s₆ x₆ => ?_))
        have I₆ := I₅.go x₆
        refine seg_execs_nil ?_
        refine seg_execs_cons (seg_While fun p' => ?_)
        obtain ⟨k, hk⟩ : ∃ k, outs.length = k + 1 := ⟨outs.length - 1, by have := List.length_pos_iff.mpr hne'; lia⟩
        rw [hk]
        refine seg_forever (st := ⟨updV st.σ "interval" (.int x), st.own⟩) (ok0 (prog := prog) (w := w) (K := K) G (rm_while hA)) rfl rfl sc.co hcell (ev_loc rfl sc.l1 hl₃) hown k g₆ s₀ s₆ I₆ al fun j hj => suf_all hsuf hall j (by lia)
      · rw [if_neg h0] at hgen
        obtain ⟨outs', rfl, hrest⟩ := hgen
        have e2 : (x == 0) = false := by simpa using h0
        rw [e2]
        refine seg_execs_nil ?_
        refine seg_execs_cons (gen_yield (st := ⟨updV st.σ "interval" (.int x), st.own⟩) O rfl rfl sc.co hcell rfl (ev_loc rfl sc.l2 hx₃) hown (suf_val hsuf) al I₅ (.inr hJhs) hJ₅ fun hm g₆ s₆ I₆ al₆ hJ₆ hJg₆ _ => ?_)
        have hst2 : storeD env.scope "last_interval" (.int x) ⟨updV st.σ "interval" (.int x), st.own⟩ = some ⟨updV (updV st.σ "interval" (.int x)) "last_interval" (.int x), st.own⟩ := by
          unfold storeD
          rw [hown, if_neg (by simp), sc.l1]
        refine seg_execs_cons (seg_wrap (wpAny_Assign_Name (evalE_ok O.C O.S O.G O.hA (.Name "interval" (p 22)) env _ g₆ s₆ _ I₆.fs (ev_loc rfl sc.l2 hx₃) _ _ fun v₇ g₇ s₇ x₇ dv₇ => ?_) rfl))
        have I₇ := I₆.go x₇
        refine I₇.store dv₇ hst2 fun s₈ I₈ hk₈ => ?_
        refine seg_execs_nil (seg_again rfl ?_)
        have hJ₈ := hk₈ k2 _ _ hJl (x₇.kept _ _ hJ₆)
        have hJg₈ := x₇.none (hJg₆ hJg₅) ⟨_, hJ₆⟩
        refine ih (pre ++ [x]) (some x) outs' _ g₇ s₆ s₈ (by rw [hr]; simp) (hrest.resolve_left ?_) ?_ ?_ I₈ al₆ hJg₈ hown ?_
        · rintro ⟨rfl, rfl⟩
          rcases hm with h | h
          · exact h rfl
          · exact nf h
        · obtain ⟨q, rfl⟩ := hsuf
          exact ⟨q ++ [x], by simp⟩
        · have : (pre ++ [x]).length = pre.length + 1 := by simp
          rw [this]
          exact ⟨oK, hJ₈, hcK, hdK⟩
        · rintro l h
          obtain rfl := so h
          exact updV_eq (updV st.σ "interval" (.int x)) "last_interval" (.int x)
end
end Mine
end

/-! part Nf -/
section
open PySem PySem.W PyProof.Rows PySem.Calls
set_option maxHeartbeats 2000000
set_option linter.unusedVariables false
set_option linter.unusedSimpArgs false
set_option tactic.hygienic false
namespace Mine

noncomputable def gFun (p : Nat → Pos) (rs : Stmt) : List Stmt :=
  [.Assign [.Name "last_interval" (p 24)] (.Constant .none 0 (p 25)) (p 26), .For (.Name "interval" (p 27)) (.Name "grouping" (p 28)) (gBody p rs) [] (p 29)]

section
variable {prog : Program} {w : World} {K : Frag} {mg mb : Str → Option Value} {A : Around} {env : Env} {hs gv : Heap}

theorem seg_start {p : Nat → Pos} {rs : Stmt} {ns vals : List Int} {fin : Bool} {σ : Vars} {s₀ : Shared} (sc : GSc env.scope) (hA : Rm A 9) (G : GlOK gl mg mb) (I : In K mg mb env gv (cutS hs env.locals s₀) ⟨σ, none⟩ gv s₀) (al : Alive hs s₀.heap)
    (hσ : σ "grouping" = some (.list (ns.map D.int))) (hgen : genOK ns none vals fin) :
    Seg (model prog w) A (gR hs env.locals fin) (gY hs gv env.locals vals fin) vals.length s₀ (.func (gFun p rs) env) ((model prog w).den (.func (gFun p rs) env)) [] s₀ := by
  refine seg_func ?_
  unfold gFun
  refine seg_execs_cons (seg_wrap (wpAny_Assign_Name (wpAny_Constant_none ?_) rfl))
  have hst : storeD env.scope "last_interval" .none ⟨σ, none⟩ = some ⟨updV σ "last_interval" .none, none⟩ := by
    unfold storeD
    rw [if_neg (by simp), sc.l1]
  refine I.store .none hst fun s₁ I₁ _ => ?_
  refine seg_execs_cons (seg_For (fun v => rfl) ?_)
  obtain ⟨m, hm, hmv⟩ := I₁.fs.loc
  obtain ⟨v, hv, dv⟩ := hmv "grouping" (.list (ns.map D.int)) (by show updV σ "last_interval" .none "grouping" = _; rw [updV_ne (by decide)]; exact hσ) sc.l4
  refine wpAny_Name (wpAny_loadName_local I₁.fs.kind sc.l4 hm hv ?_) rfl
  cases dv with
  | @list ax items _ nn hax hit =>
    refine wpAny_pyIter_list (isList_of (I₁.fs.low _ _ hax)) fun pf => ?_
    have hdead : s₁.heap.get? s₁.heap.objs.size = none := dead_size _
    have k₂ := I₁.keep al
    have hJhs : hs.get? s₁.heap.objs.size = none := by
      cases q : hs.get? s₁.heap.objs.size with
      | none => rfl
      | some o => obtain ⟨o', e⟩ := k₂.2.1 _ ⟨_, q⟩; rw [hdead] at e; cases e
    have I₂ := I₁.go (Ext.grown I₁.fs.low (h' := s₁.heap.push { cls := .type "list_iterator", data := .fields #[.ref ax, .int 0 0] }) (fun b o e => Heap.get?_push_of_some _ e) s₁.toks)
    refine seg_loop (p := p) (rs := rs) (tp := p 27) (J := s₁.heap.objs.size) (ns := ns) sc hA G hax hit hJhs ?_ ns [] none vals _ gv s₀ _ rfl hgen List.suffix_rfl ⟨_, Heap.get?_push_size _ rfl, rfl, rfl⟩ I₂ al (dead_of_kept I₁.fs.low hdead) rfl (fun l h => nomatch h)
    rintro s₀' s' f hf hfin hk
    rcases hf with rfl | rfl
    · exact seg_end (.ok (.ret .none)) ⟨rfl, rfl, hfin, hk⟩
    · exact seg_end (.ok (.ret .none)) ⟨rfl, rfl, hfin, hk⟩
end
end Mine
end

/-! part Ng -/
section
open PySem PySem.W PyProof.Rows PySem.Calls
set_option maxHeartbeats 2000000
set_option linter.unusedVariables false
set_option linter.unusedSimpArgs false
set_option tactic.hygienic false
namespace Mine

section
variable {prog : Program} {w : World} {A : Around} {E : Value → Shared → Prop} {s : Shared}

/-- the next of a def's generator, with its bareness told -/
theorem next_bare {a : Addr} {g n : Nat} {gs : GenState} {P : Nat → Shared → Shared → Prop} {Y : Protocol} {Q : Option Value → Shared → Prop} (hh : A.handled = none)
    (hl : s.heap.NoLimit) (hroom : A.depth < recursionLimit) (hg : s.heap.IsGen a g) (hgs : s.gens[g]? = some gs)
    (hgo : gs.Goes (model prog w) A.in1 (fun n s₀ r s₁ => r = .ok (.ret .none) ∧ P n s₀ s₁) Y n (.send .none) (s.setGen g .running))
    (hY : ∀ v s₁ gs', gs'.bare = true → Y (n - 1) (s.setGen g .running) v s₁ (fun r' s'' => match n with
        | 0 => False
        | m + 1 => gs'.Goes (model prog w) A.in1 (fun n s₀ r s₁ => r = .ok (.ret .none) ∧ P n s₀ s₁) Y m r' s'') → Q (some v) (s₁.setGen g gs'))
    (hP : ∀ s₁, P n (s.setGen g .running) s₁ → ∀ h', (∀ b o, s₁.heap.get? b = some o → h'.get? b = some o) → Q none { s₁.setGen g .finished with heap := h' }) :
    wpAny (model prog w) A (pyNext (.ref a)) Q E s := by
  have quiet : A.in1.handled = none := hh
  unfold pyNext
  refine wpAny_bind (wpAny_attempt (wpAny_callSpecial?_slot (name := Str.ofString "__next__") hg.typeIs slot_gen_next (wpAny_call_entry slot_gen_next hg.typeIs entry_gen_next ?_ (args_gen_next _))))
  show wpAny _ A.in1 (Builtin.Generator.genWake (.ref a) (.send .none)) _ _ s
  unfold Builtin.Generator.genWake
  refine wpAny_bind (wpAny_holding (wpAny_genNumber hg (wpAny_bind (wpAny_genState hgs ?_))))
  have ended : ∀ s₁, P n (s.setGen g .running) s₁ → ∀ h', Sub s₁.heap h' → Q none { s₁.setGen g .finished with heap := h' } := hP
  rcases gs with c | ⟨k, l, c, p, fs, cl⟩ | _ | _
  case running => exact hgo.elim
  case finished => exact hgo.elim
  all_goals
    refine wpAny_bind (wpAny_roomToWake hl hroom ?_)
    show wpAny _ A.in1 (.resume g (.send .none) [] _) _ _ s
    refine wpAny_resumeQ hgs hgo (fun x s₁ hx => ?_) fun v s₁ gs' hb hv => wpAny_pure ⟨v, rfl, wpAny_pure (hY v s₁ gs' hb hv)⟩
    obtain ⟨rfl, hp⟩ := hx
    show wpAny _ A.in1 (newExc (.type "StopIteration") [] >>= _) _ _ _
    refine wpAny_bind ?_
    simp only [newExc, newTuple]
    refine wpAny_bind (wpAny_newObj_type ?_ (by size_fits))
    refine wpAny_bind (m := firstArgMember _ _) (wpAny_of_eq (a := Value.none) (by first | rfl | (simp only [firstArgMember]; rfl)) ?_)
    refine wpAny_newObj_type ?_ (by size_fits)
    simp only [raiseNew]
    refine wpAny_bind (wpAny_bind (wpAny_handled ?_))
    rw [quiet]
    refine wpAny_throw (wpAny_bind (wpAny_isInstance (T := "StopIteration") (b := true) ⟨_, Heap.get?_push_size _ rfl, rfl⟩ isSubtype_stop ?_))
    exact wpAny_pure (ended s₁ hp _ fun b o e => Heap.get?_push_of_some _ (Heap.get?_push_of_some _ e))
end
end Mine
end

/-! part Nh -/
section
open PySem PySem.W PyProof.Rows PySem.Calls
set_option maxHeartbeats 2000000
set_option maxRecDepth 100000
set_option linter.unusedVariables false
set_option linter.unusedSimpArgs false
set_option tactic.hygienic false
namespace Mine

section
variable {prog : Program} {w : World} {K : Frag} {mg mb : Str → Option Value} {A : Around}

/-- a frame is made for a def's body -/
theorem env_ok {f : FnI} {bs : List (Str × D)} {binds : List (Str × Value)} {g : Heap} {s : Shared} {qual : Str} {fa : Option Addr} {cdv : Value} {Q : Env → Shared → Prop} {E : Value → Shared → Prop} (hkind : f.scope.kind = .function) (hkinds : kindsOk f.scope bs = true)
    (hnd : (bs.map (·.1)).Nodup) (hn : binds.map (·.1) = bs.map (·.1)) (hdb : DenL g (binds.map (·.2)) (bs.map (·.2))) (W : Wd K mg mb g) (l : Sub g s.heap)
    (k : ∀ env h tk, env.scope = f.scope → In K mg mb env g s ⟨fun y => bs.lookup y, none⟩ g { s with heap := h, toks := tk } → Sub s.heap h → s.heap.get? env.locals = none → Q env { s with heap := h, toks := tk }) :
    wpAny (model prog w) A (newFunctionEnv f.scope mainGlobals [] binds qual fa cdv none builtinsNs) Q E s := by
  have hkd : ∀ x ∈ binds, f.scope.names.lookup x.1 = some .local ∨ (f.scope.names.lookup x.1 = some .cell ∧ ((cellsFrom (s.heap.objs.size + 1) f.scope.names []).lookup x.1).isSome = true) := by
    refine kindsX ?_ _
    rw [List.all_eq_true]
    intro x hx
    have : x.1 ∈ bs.map (·.1) := hn ▸ List.mem_map_of_mem hx
    obtain ⟨y, hy, hxy⟩ := List.mem_map.mp this
    have := List.all_eq_true.mp hkinds y hy
    rw [hxy] at this
    exact this
  refine wpAny_newFunctionEnv_cells hkind hkd fun env he s₂ xC => ?_
  subst he
  obtain ⟨h₂, tk, rfl, hkeep⟩ := xC.done
  generalize henv : newEnv f.scope s.heap.objs.size mainGlobals (cellsFrom (s.heap.objs.size + 1) f.scope.names []) qual fa cdv none builtinsNs = env at xC ⊢
  have e1 : env.scope = f.scope := by rw [← henv]; rfl
  have e2 : env.globals = mainGlobals := by rw [← henv]; rfl
  have e3 : env.builtins = builtinsNs := by rw [← henv]; rfl
  have e4 : env.locals = s.heap.objs.size := by rw [← henv]; rfl
  have e5 : env.cells = cellsFrom (s.heap.objs.size + 1) f.scope.names [] := by rw [← henv]; rfl
  have ek : ∀ y, env.kindOf y = f.scope.names.lookup y := fun y => by unfold Env.kindOf; rw [e1]
  have hndb : (binds.map (·.1)).Nodup := hn ▸ hnd
  have hk2 : Sub s.heap h₂ := hkeep
  have hdeadL : s.heap.get? env.locals = none := by rw [e4]; exact dead_size _
  have allC : ∀ x, env.kindOf x = some .cell → ∃ c, env.cells.lookup x = some c := by
    intro x hx
    rw [ek] at hx
    have := cellsFrom_some (x := x) f.scope.names (s.heap.objs.size + 1) [] (.inl hx)
    rw [e5]
    exact Option.isSome_iff_exists.mp this
  refine k env h₂ tk e1 ?_ hk2 hdeadL
  exact
    { fs :=
        { wd := W
          low := l.trans' hk2
          kind := by rw [e1]; exact hkind
          glob := e2
          blt := e3
          loc := ⟨_, xC.toInCall.ns, fun y d' e hky => by
            have e : bs.lookup y = some d' := e
            obtain ⟨v, hm, hv⟩ := binds_get hn hdb e
            exact ⟨v, bindL_get hky binds _ hndb hm, hv⟩⟩
          cel := fun y d' e hky => by
            have e : bs.lookup y = some d' := e
            obtain ⟨v, hm, hv⟩ := binds_get hn hdb e
            obtain ⟨c, hc⟩ := allC y hky
            have := xC.cell y c hc
            rw [bindC_get (by rw [hky]; decide) binds _ hndb hm] at this
            exact ⟨c, v, hc, this, hv⟩
          all := allC }
      ext := ⟨.rfl', l.trans' hk2, fun _ _ e => .inl e, hk2, ⟨_, _, _, rfl, .refl _⟩⟩
      dl := hdeadL
      gl := dead_of_kept l hdeadL
      cs := fun x hx => by
        obtain ⟨c, hc⟩ := allC x hx
        have habove := xC.above x c (PySem.mem_of_lookup hc)
        rw [e4] at habove
        have hdc : s.heap.get? c = none := by
          cases e : s.heap.get? c with
          | none => rfl
          | some o => exact absurd (Heap.lt_size e) (Nat.not_lt.mpr (Nat.le_of_lt habove))
        exact ⟨c, _, hc, xC.cell x c hc, hdc, dead_of_kept l hdc⟩
      inj := fun x y c _ _ h1 h2 => name_of_addr xC.apart (PySem.mem_of_lookup h1) (PySem.mem_of_lookup h2)
      own := fun y es e => by cases e }

/-- a def's call, its body left to the prover -/
theorem fn_enter {a : Addr} {f : FnI} {ds : List D} {d : D} {s : Shared} {g : Heap} {vs : List Value} {bs : List (Str × D)} (X : FnGood prog w K mg mb a f) (hA : A.depth < recursionLimit) (W : Wd K mg mb g) (l : Sub g s.heap) (hd : DenL g vs ds)
    (h1 : f.bind ds = some bs) (hexec : ∀ env g' s₁ s₂ E, env.scope = f.scope → Ext g s g' s₁ → In K mg mb env g' s₁ ⟨fun y => bs.lookup y, none⟩ g' s₂ →
      wpAny (model prog w) (A.deeper env) (execs f.body env) (fun fo s₃ => ∃ v g₃, fo = .ret v ∧ Ext g' s₁ g₃ s₃ ∧ Den g₃ v d) E s₂) : Ev (model prog w) A (PySem.call (.ref a) vs) g s d := by
  intro Q E k
  obtain ⟨oc, od, osl, name, qual, dV, kV, doc, pm, an, cdv, ct, ho, hcd, hb⟩ := X.look
  obtain ⟨hkinds, hnd⟩ := X.kinds ds bs h1
  refine wpAny_call (codeAny_call_function hA (l _ _ (W.inK _ _ ho)) rfl X.co X.gen rfl (codeRec_of (W.inK.keeps l) hcd) ?_)
  refine hb A.in1 s g vs ds bs _ _ W l hd h1 fun binds g' s₁ x₁ hn hdb => ?_
  refine env_ok (f := f) X.kind hkinds hnd hn hdb (W.sub x₁.sub) x₁.low fun env h tk he I hk hdead => ⟨(W.nl.keeps (l.trans' x₁.kept)).keeps hk, codeAny_func ?_⟩
  refine wpAny_mono (hexec env g' s₁ _ _ he x₁ I) (fun fo s₃ hf => ?_) fun _ _ e => e
  obtain ⟨v, g₃, rfl, x₃, dv⟩ := hf
  exact k _ _ _ (x₁.trans x₃) dv
end

theorem good_taken {K : Frag} (H : TopK K) {prog : Program} {w : World} {mg mb : Str → Option Value} : FnGood prog w K mg mb 214 f_taken := good_plain H.taken rfl (by kernel_rfl)
theorem grp_body : ∃ (l : List Pos) (rs : Stmt), f_grp.body = gFun (fun n => l.getD n ⟨0, 0, 0, 0⟩) rs :=
  ⟨[_, _, _, _, _, _, _, _, _, _, _, _, _, _, _, _, _, _, _, _, _, _, _, _, _, _, _, _, _, _], _, rfl⟩
theorem grp_sc : GSc f_grp.scope := ⟨rfl, fun x => by
  show List.lookup x [(("grouping" : Str), NameKind.local), ("last_interval", .local), ("interval", .local), ("CHAR_MAX", .globalImplicit), ("ValueError", .globalImplicit)] ≠ _
  intro h
  have := Mine.mem_of_lookup h
  simp at this, rfl, rfl, rfl, rfl⟩
end Mine
end

/-! part Ni -/
section
open PySem PySem.W PyProof.Rows PySem.Calls
set_option maxHeartbeats 2000000
set_option maxRecDepth 100000
set_option linter.unusedVariables false
set_option linter.unusedSimpArgs false
set_option tactic.hygienic false
namespace Mine

section
variable {prog : Program} {w : World} {K : Frag} {mg mb : Str → Option Value} {A : Around}

theorem grp_look (H : TopK K) : ∃ oc od osl name qual dV kV doc pm an cdv ct, K.lookup 35 = some ⟨oc, od, .func (fnOf name qual f_grp.params f_grp.body f_grp.scope dV kV doc pm an cdv ct), osl⟩ ∧ codeIn K cdv qual = true ∧
    ∀ v, bindArgs (fnOf name qual f_grp.params f_grp.body f_grp.scope dV kV doc pm an cdv ct) ⟨[v], []⟩ = pure [(("grouping" : Str), v)] := H.grp

theorem GenOK.push {a : Array GenState} {y : GenState} (hy : y.bare = true) : GenOK a (a.push y) :=
  ⟨fun i x e => by
    have hi : i < a.size := by
      rcases Nat.lt_or_ge i a.size with h | h
      · exact h
      · rw [Array.getElem?_eq_none h] at e; cases e
    rw [Array.getElem?_push_lt hi]; rw [Array.getElem?_eq_getElem hi] at e; exact e, fun h => h.push hy⟩

theorem gen_call (H : TopK K) {s : Shared} {g : Heap} {v : Value} {d : D} {Q E : Value → Shared → Prop} (hA : A.depth < recursionLimit) (W : Wd K mg mb g) (l : Sub g s.heap) (hv : Den g v d)
    (k : ∀ env s' a, env.scope = f_grp.scope → In K mg mb env g s ⟨fun y => [(("grouping" : Str), d)].lookup y, none⟩ g s' → s'.heap.IsGen a s.gens.size → s'.gens = s.gens.push (.fresh (.func f_grp.body env)) →
      Ext g s g s' → s.heap.get? env.locals = none → s.heap.get? a = none → Q (.ref a) s') : wpAny (model prog w) A (PySem.call (.ref 35) [v]) Q E s := by
  obtain ⟨oc, od, osl, name, qual, dV, kV, doc, pm, an, cdv, ct, ho, hcd, hb⟩ := grp_look H
  refine wpAny_call (codeAny_call_generator hA (l _ _ (W.inK _ _ ho)) rfl rfl rfl rfl (codeRec_of (W.inK.keeps l) hcd) ?_)
  rw [hb v]
  refine wpAny_pure ?_
  refine env_ok (f := f_grp) (bs := [(("grouping" : Str), d)]) rfl rfl (by simp) rfl (.cons hv .nil) W l fun env h tk he I hk hdead => ⟨(W.nl.keeps l).keeps hk, ?_⟩
  have hka : Sub h (h.push { cls := .type "generator", data := .fields #[.int s.gens.size 0, .str name tk, .str qual (tk + 1)] }) := fun b o e => Heap.get?_push_of_some _ e
  have x : Ext g { s with heap := h, toks := tk } g { s with heap := h.push { cls := .type "generator", data := .fields #[.int s.gens.size 0, .str name tk, .str qual (tk + 1)] }, toks := tk + 1 + 1, gens := s.gens.push (.fresh (.func f_grp.body env)) } :=
    ⟨.rfl', I.fs.low.trans' hka, fun _ _ e => .inl e, hka, ⟨_, _, _, rfl, .push rfl⟩⟩
  refine k env _ _ he (I.go x) ⟨_, _, _, Heap.get?_push_size _ rfl, rfl, rfl, rfl⟩ rfl ⟨.rfl', x.low, fun _ _ e => .inl e, hk.trans' hka, ⟨_, _, _, rfl, .push rfl⟩⟩ hdead ?_
  cases e : s.heap.get? h.objs.size with
  | none => rfl
  | some o => have := hk _ _ e; rw [dead_size] at this; cases this
end
end Mine
end

/-! part Nj -/
section
open PySem PySem.W PyProof.Rows PySem.Calls
set_option maxHeartbeats 2000000
set_option maxRecDepth 100000
set_option linter.unusedVariables false
set_option linter.unusedSimpArgs false
set_option tactic.hygienic false
namespace Mine

section
variable {prog : Program} {w : World} {K : Frag} {mg mb : Str → Option Value} {A : Around} {env : Env} {g₀ g : Heap} {s₀ s : Shared} {σ : Vars}

/-- a change at places that are nobody's -/
theorem In.chgN {P : Addr → Prop} {s' : Shared} (I : In K mg mb env g₀ s₀ ⟨σ, none⟩ g s) (hcell : ∀ x, env.kindOf x ≠ some .cell) (hk : ∀ a o, ¬ P a → s.heap.get? a = some o → s'.heap.get? a = some o) (hg : ∀ a o, g.get? a = some o → ¬ P a)
    (hs : ∀ a o, s₀.heap.get? a = some o → ¬ P a) (hl : ¬ P env.locals) (hb : SameB s₀ s') : In K mg mb env g₀ s₀ ⟨σ, none⟩ g s' where
  fs :=
    { wd := I.fs.wd
      low := fun a o e => hk a o (hg a o e) (I.fs.low a o e)
      kind := I.fs.kind
      glob := I.fs.glob
      blt := I.fs.blt
      loc := let ⟨m, h1, h2⟩ := I.fs.loc; ⟨m, h1.at' fun o e => hk _ o hl e, h2⟩
      cel := fun y d e k => absurd k (hcell y)
      all := I.fs.all }
  ext := ⟨I.ext.sub, fun a o e => hk a o (hg a o e) (I.fs.low a o e), I.ext.new, fun a o e => hk a o (hs a o e) (I.ext.kept a o e), hb⟩
  dl := I.dl
  gl := I.gl
  cs := fun y hy => absurd hy (hcell y)
  inj := I.inj
  own := fun y es hy => by contradiction

theorem In.storeN {x : Str} {d : D} {v : Value} {m : Str → Option Value} {Q : Unit → Shared → Prop} {E : Value → Shared → Prop} (I : In K mg mb env g₀ s₀ ⟨σ, none⟩ g s) (hcell : ∀ x, env.kindOf x ≠ some .cell) (hl : env.kindOf x = some .local) (hn : s.heap.Ns env.locals m)
    (hd : Den g v d) (k : ∀ s', s'.heap.Ns env.locals (fun y => if y = x then some v else m y) → (∀ b o, b ≠ env.locals → s.heap.get? b = some o → s'.heap.get? b = some o) → s'.gens = s.gens → In K mg mb env g₀ s₀ ⟨updV σ x d, none⟩ g s' → Q () s') :
    wpAny (model prog w) A (storeName env x v) Q E s := by
  refine wpAny_storeName_local hl hn (fun h' hn' hs' => ?_) (by rw [I.fs.kind]; rfl)
  have hk : ∀ a o, a ≠ env.locals → s.heap.get? a = some o → h'.get? a = some o := fun a o ha e => hs'.extBut a o ha e
  have low : Sub g h' := fun a o e => hk a o (by rintro rfl; rw [I.gl] at e; contradiction) (I.fs.low a o e)
  refine k _ hn' hk rfl ?_
  exact
    { fs :=
        { wd := I.fs.wd
          low := low
          kind := I.fs.kind
          glob := I.fs.glob
          blt := I.fs.blt
          loc := ⟨_, hn', fun y d' e hky => by
            have e : updV σ x d y = some d' := e
            by_cases hy : y = x
            · subst hy; rw [updV_eq] at e; obtain rfl := so e; exact ⟨v, by simp, hd⟩
            · rw [updV_ne hy] at e
              obtain ⟨m', hm', hm2⟩ := I.fs.loc
              have := ns_inj hn hm'
              subst this
              obtain ⟨v', e1, e2⟩ := hm2 y d' e hky
              exact ⟨v', by simp [hy, e1], e2⟩⟩
          cel := fun y d' e hky => absurd hky (hcell y)
          all := I.fs.all }
      ext :=
        { sub := I.ext.sub
          low := low
          new := I.ext.new
          kept := fun a o e => hk a o (by rintro rfl; rw [I.dl] at e; contradiction) (I.ext.kept a o e)
          same := I.ext.same.at' _ _ }
      dl := I.dl
      gl := I.gl
      cs := fun y hy => absurd hy (hcell y)
      inj := I.inj
      own := fun y es hy => by contradiction }

theorem In.bare {own : Option (Str × List D)} {σ' : Vars} (I : In K mg mb env g₀ s₀ ⟨σ, own⟩ g s) (h : ∀ x d, σ' x = some d → σ x = some d) : In K mg mb env g₀ s₀ ⟨σ', none⟩ g s where
  fs :=
    { wd := I.fs.wd
      low := I.fs.low
      kind := I.fs.kind
      glob := I.fs.glob
      blt := I.fs.blt
      loc := let ⟨m, h1, h2⟩ := I.fs.loc; ⟨m, h1, fun y d e k => h2 y d (h y d e) k⟩
      cel := fun y d e k => I.fs.cel y d (h y d e) k
      all := I.fs.all }
  ext := I.ext
  dl := I.dl
  gl := I.gl
  cs := I.cs
  inj := I.inj
  own := fun y es hy => by cases hy

/-- the consumer's state: its list at TL -/
structure Tk (K : Frag) (mg mb : Str → Option Value) (env : Env) (g₀ : Heap) (s₀ : Shared) (g : Heap) (TL : Addr) (σ : Vars) (es : List D) (s : Shared) : Prop where
  I : In K mg mb env g₀ s₀ ⟨σ, none⟩ g s
  k : env.kindOf "taken" = some .local
  ns : ∃ m, s.heap.Ns env.locals m ∧ m "taken" = some (.ref TL)
  tl : ∃ vs nn, s.heap.get? TL = some (lObj vs nn) ∧ DenL g vs es
  s0 : s₀.heap.get? TL = none
  g0 : g.get? TL = none
variable {TL : Addr} {es : List D}
theorem Tk.own (T : Tk K mg mb env g₀ s₀ g TL σ es s) : In K mg mb env g₀ s₀ ⟨σ, some ("taken", es)⟩ g s :=
  let I := T.I
  { fs := ⟨I.fs.wd, I.fs.low, I.fs.kind, I.fs.glob, I.fs.blt, I.fs.loc, I.fs.cel, I.fs.all⟩, ext := I.ext, dl := I.dl, gl := I.gl, cs := I.cs, inj := I.inj
    own := fun y es' hy => by
      cases hy
      obtain ⟨m, n1, n2⟩ := T.ns
      obtain ⟨vs, nn, t1, t2⟩ := T.tl
      exact ⟨T.k, TL, vs, nn, m, n1, n2, t1, T.s0, T.g0, t2⟩ }
theorem Tk.ext {s' : Shared} (T : Tk K mg mb env g₀ s₀ g TL σ es s) (x : Ext g s g s') : Tk K mg mb env g₀ s₀ g TL σ es s' where
  I := T.I.go x
  k := T.k
  ns := let ⟨m, h1, h2⟩ := T.ns; ⟨m, h1.keeps x.kept, h2⟩
  tl := let ⟨vs, nn, h1, h2⟩ := T.tl; ⟨vs, nn, x.kept _ _ h1, h2⟩
  s0 := T.s0
  g0 := T.g0
theorem Tk.ne (T : Tk K mg mb env g₀ s₀ g TL σ es s) : TL ≠ env.locals := let ⟨m, h1, _⟩ := T.ns; let ⟨vs, nn, h2, _⟩ := T.tl; ns_ne_list h1 h2
theorem Tk.done (T : Tk K mg mb env g₀ s₀ g TL σ es s) : ∃ gL, Ext g₀ s₀ gL s ∧ Den gL (.ref TL) (.list es) := by
  obtain ⟨gL, k1, IL⟩ := T.own.thaw
  obtain ⟨m, n1, n2⟩ := T.ns
  obtain ⟨m', h1, h2⟩ := IL.fs.loc
  have := ns_inj n1 h1
  subst this
  obtain ⟨v, e1, e2⟩ := h2 "taken" _ (updV_eq σ "taken" (.list es)) T.k
  rw [n2] at e1; obtain rfl := so e1
  exact ⟨gL, IL.ext, e2⟩

theorem letGo_gen {target : Expr} {I : Addr} {v : Value} {gi : Nat} {Q : Unit → Shared → Prop} {E : Value → Shared → Prop} (ho : s.heap.IsGen I gi) (h : Q () s) : wpAny (model prog w) A (letOwnedTupleGo target (.ref I) v) Q E s := by
  obtain ⟨o, nm, qn, ho, hc, hd, hn⟩ := ho
  have hcon : (["enumerate", "zip", "dict_itemiterator", "dict_reverseitemiterator", "odict_iterator", "itertools.zip_longest", "itertools.pairwise"].contains "generator") = false := by decide
  unfold letOwnedTupleGo
  split
  · induction v using PySem.Value.casesOn <;> first
      | exact wpAny_pure h
      | (refine wpAny_bind (wpAny_load ho ?_)
         rw [hc, hd]
         dsimp only
         rw [hcon, Bool.false_and]
         simp only [Bool.false_eq_true, if_false]
         exact wpAny_pure h)
  · induction v using PySem.Value.casesOn <;> first
      | exact wpAny_pure h
      | (refine wpAny_bind (wpAny_load ho ?_)
         rw [hc, hd]
         dsimp only
         rw [hcon, Bool.false_and]
         simp only [Bool.false_eq_true, if_false]
         exact wpAny_pure h)
  · exact wpAny_pure h
end
end Mine
end

/-! part Nk -/
section
open PySem PySem.W PyProof.Rows PySem.Calls
set_option maxHeartbeats 2000000
set_option maxRecDepth 100000
set_option linter.unusedVariables false
set_option linter.unusedSimpArgs false
set_option tactic.hygienic false
namespace Mine

noncomputable def tLoop (p : Nat → Pos) : List Stmt :=
  [.Expr (.Call (.Attribute (.Name "taken" (p 0)) "append" (p 1)) [.Name "size" (p 2)] [] (p 3)) (p 4),
   .If (.Compare (.Call (.Name "len" (p 5)) [.Name "taken" (p 6)] [] (p 7)) [.Eq] [.Constant (.int 12) 0 (p 8)] (p 9)) [.Break (p 10)] [] (p 11)]
noncomputable def tFun (p : Nat → Pos) : List Stmt :=
  [.Assign [.Name "taken" (p 12)] (.List [] (p 13)) (p 14), .For (.Name "size" (p 15)) (.Call (.Name "_grouping_intervals" (p 16)) [.Name "given" (p 17)] [] (p 18)) (tLoop p) [] (p 19), .Return (some (.Name "taken" (p 20))) (p 21)]
structure TSc (sc : Scope) : Prop where
  cell : ∀ x, sc.names.lookup x ≠ some .cell
  l1 : sc.names.lookup ("taken" : Str) = some .local
  l2 : sc.names.lookup ("size" : Str) = some .local
  l3 : sc.names.lookup ("given" : Str) = some .local
  l4 : sc.names.lookup ("_grouping_intervals" : Str) = some .globalImplicit
  l5 : sc.names.lookup ("len" : Str) = some .globalImplicit

theorem is12 {sc : Scope} {σ : Vars} {p : Nat → Pos} {es : List D} {o : Option D} (h : TSc sc) (hx : σ "taken" = some (.list es)) (hz : es.length ≤ 12) :
    isT cx0 (.Compare (.Call (.Name "len" (p 5)) [.Name "taken" (p 6)] [] (p 7)) [.Eq] [.Constant (.int 12) 0 (p 8)] (p 9)) o sc σ = some ((es.length : Int) == 12) := by
  have e1 : evalE cx0 (.Name "taken" (p 6)) sc σ = some (.list es) := ev_loc rfl h.l1 hx
  have e2 : evalE cx0 (.Name "len" (p 5)) sc σ = some (.bi "len") := by simp only [eE_Name, nameD, h.l5]; rfl
  have e3 : evalE cx0 (.Constant (.int 12) 0 (p 8)) sc σ = some (.int 12) := rfl
  have e4 : evalE cx0 (.Call (.Name "len" (p 5)) [.Name "taken" (p 6)] [] (p 7)) sc σ = some (.int es.length) := by
    have : evalE cx0 (.Call (.Name "len" (p 5)) [.Name "taken" (p 6)] [] (p 7)) sc σ = (evalE cx0 (.Name "len" (p 5)) sc σ).bind fun fd => (evalA cx0 [.Name "taken" (p 6)] sc σ).bind fun as => callD cx0 fd as := rfl
    rw [this, e2]
    have : evalA cx0 [.Name "taken" (p 6)] sc σ = some [.list es] := by rw [evalA_plain rfl, e1]; rfl
    rw [this]
    show (if es.length ≤ lim then some (D.int es.length) else none) = _
    rw [if_pos (by show _ ≤ 65536; omega)]
  simp only [iT_cmp, e4, e3]
  rfl

theorem genok_set {a b : Array GenState} {i : Nat} {y : GenState} (h : GenOK a b) (hi : a.size ≤ i) (hy : y.bare = true) : GenOK a (b.setIfInBounds i y) where
  old := fun k x e => by
    have hk : k < a.size := by
      rcases Nat.lt_or_ge k a.size with h | h
      · exact h
      · rw [Array.getElem?_eq_none h] at e; cases e
    rw [Array.getElem?_setIfInBounds_ne (by omega)]
    exact h.old k x e
  bare := fun hb x hx => by
    have hb' := h.bare hb
    obtain ⟨k, hk, rfl⟩ := Array.mem_iff_getElem.mp hx
    by_cases e : i = k
    · subst e; simp at hk ⊢; exact hy
    · rw [Array.getElem_setIfInBounds_ne (h := e)]
      · exact hb' _ (Array.getElem_mem _)
      · simpa using hk
theorem same_set {s₀ s : Shared} {i : Nat} {y : GenState} (h : SameB s₀ s) (hi : s₀.gens.size ≤ i) (hy : y.bare = true) : SameB s₀ (s.setGen i y) := by
  obtain ⟨hh, tk, G, rfl, b⟩ := h
  exact ⟨hh, tk, _, rfl, genok_set b hi hy⟩
end Mine
end

/-! part Nl -/
section
open PySem PySem.W PyProof.Rows PySem.Calls
set_option maxHeartbeats 2000000
set_option maxRecDepth 100000
set_option linter.unusedVariables false
set_option linter.unusedSimpArgs false
set_option tactic.hygienic false
namespace Mine

section
variable {prog : Program} {w : World} {K : Frag} {mg mb : Str → Option Value} {A : Around} {env : Env} {g₀ gv hs : Heap} {s₀ s : Shared} {σ : Vars} {TL C a : Addr} {gi : Nat} {vals : List Int} {fin : Bool}

noncomputable def LpInv (prog : Program) (w : World) (K : Frag) (mg mb : Str → Option Value) (A : Around) (env : Env) (g₀ : Heap) (s₀ : Shared) (gv hs : Heap) (TL C a : Addr) (gi : Nat) (vals : List Int) (fin : Bool) (j : Nat) (s : Shared) : Prop :=
  ∃ σ gs gp, Tk K mg mb env g₀ s₀ gv TL σ ((vals.take j).map .int) s ∧ s.heap.IsGen a gi ∧ s.gens[gi]? = some gs ∧ Sub gp s.heap ∧ (∀ b o, gp.get? b = some o → gv.get? b = some o ∨ b = C ∨ hs.get? b = none) ∧ Alive hs s.heap ∧
    ∀ s'', Sub gp s''.heap → Alive hs s''.heap → gs.Goes (model prog w) A.in1 (gR hs C fin) (gY hs gv C vals fin) (vals.length - j) (.send .none) s''

theorem take_loop {p : Nat → Pos} {tp : Pos} {R : Result → Shared → Prop} (sc : TSc env.scope) (hA : Rm A 9) (G : GlOK gl mg mb) (hline : ((p 1).endLine == (p 3).line) = true)
    (hgv : ∀ b o, gv.get? b = some o → Has hs b ∧ b ≠ C) (hs0 : ∀ b o, s₀.heap.get? b = some o → Has hs b ∧ b ≠ C) (hloc : Has hs env.locals ∧ env.locals ≠ C) (hTL : Has hs TL ∧ TL ≠ C) (ha : Has hs a ∧ a ≠ C) (hgi : s₀.gens.size ≤ gi)
    (hN : (fin = false ∧ vals.length = 12) ∨ (fin = true ∧ vals.length < 12)) (h0 : LpInv prog w K mg mb A env g₀ s₀ gv hs TL C a gi vals fin 0 s)
    (hR : ∀ s σ, Tk K mg mb env g₀ s₀ gv TL σ (vals.map .int) s → R (.ok .next) s) :
    codeAny (model prog w) A (.forLoop (.Name "size" tp) (.ref a) (tLoop p) [] env) R s := by
  have hcell : ∀ x, env.kindOf x ≠ some .cell := sc.cell
  have hh := hA.handled
  have hne : ("taken" : Str) ≠ "size" := by decide
  have hN12 : vals.length ≤ 12 := by rcases hN with h | h <;> omega
  refine codeAny_forLoop_any (fun k s' => ∃ j, j ≤ vals.length ∧ (j < vals.length ∨ fin = true) ∧ k = vals.length + 1 - j ∧ LpInv prog w K mg mb A env g₀ s₀ gv hs TL C a gi vals fin j s') ?_ (vals.length + 1)
    ⟨0, Nat.zero_le _, by rcases hN with h | h <;> first | (left; omega) | exact .inr h.1, rfl, h0⟩
  rintro k s ⟨j, hj, hjf, rfl, σ, gs, gp, T, hgen, hgs, kp, hnew, al, hgo⟩
  refine next_bare (P := fun n s₀ s => n = 0 ∧ fin = true ∧ Keep hs C s₀ s) hh (T.I.fs.wd.nl.keeps T.I.fs.low) hA.dp hgen hgs (hgo (s.setGen gi .running) kp al) (fun v s₁ gs' hb hY => ?_) (fun s₁ hP h' hk => ?_)
  · obtain ⟨⟨d, t, hd, rfl⟩, hkeep, hkap⟩ := hY
    by_cases hlt : j < vals.length
    · obtain ⟨m, hm⟩ : ∃ m, vals.length - j = m + 1 := ⟨vals.length - j - 1, by omega⟩
      rw [hm] at hd hkap
      have hidx : vals.length - 1 - (m + 1 - 1) = j := by omega
      rw [hidx] at hd
      have htake : vals.take (j + 1) = vals.take j ++ [d] := by rw [List.take_add_one, hd]; rfl
      have kk : ∀ b o, ¬ ¬ (Has hs b ∧ b ≠ C) → s.heap.get? b = some o → (s₁.setGen gi gs').heap.get? b = some o := fun b o hb e => by
        have hb := Classical.not_not.mp hb
        exact hkeep.1 b o (by show (cut hs C s.heap).get? b = _; rw [cut_in hb.1 hb.2]; exact e)
      have kk' : ∀ b o, (Has hs b ∧ b ≠ C) → s.heap.get? b = some o → (s₁.setGen gi gs').heap.get? b = some o := fun b o hb e => kk b o (Classical.not_not.mpr hb) e
      have hg₁ : s₁.gens[gi]? = some .running := by
        obtain ⟨_, _, G', e, b⟩ := hkeep.2.2
        rw [e]
        exact b.old _ _ (setGen_self hgs)
      have sm : SameB s₀ (s₁.setGen gi gs') := same_set ((same_set T.I.ext.same hgi (y := .running) rfl).trans hkeep.2.2) hgi hb
      have T₁ : Tk K mg mb env g₀ s₀ gv TL σ ((vals.take j).map .int) (s₁.setGen gi gs') :=
        { I := T.I.chgN (P := fun b => ¬ (Has hs b ∧ b ≠ C)) hcell kk (fun b o e => Classical.not_not.mpr (hgv b o e)) (fun b o e => Classical.not_not.mpr (hs0 b o e)) (Classical.not_not.mpr hloc) sm
          k := T.k
          ns := let ⟨m, h1, h2⟩ := T.ns; ⟨m, h1.at' fun o e => kk' _ o hloc e, h2⟩
          tl := let ⟨vs, nn, h1, h2⟩ := T.tl; ⟨vs, nn, kk' _ _ hTL h1, h2⟩
          s0 := T.s0
          g0 := T.g0 }
      have hgen₁ : (s₁.setGen gi gs').heap.IsGen a gi := let ⟨o, nm, qn, ho, r⟩ := hgen; ⟨o, nm, qn, kk' _ _ ha ho, r⟩
      have hgs₁ : (s₁.setGen gi gs').gens[gi]? = some gs' := setGen_self hg₁
      have al₁ : Alive hs (s₁.setGen gi gs').heap := hkeep.2.1
      have hkap' : (m ≠ 0 ∨ fin = true) → ∃ gp, (∀ b o, gp.get? b = some o → gv.get? b = some o ∨ b = C ∨ hs.get? b = none) ∧ Sub gp (s₁.setGen gi gs').heap ∧ ∀ s'', Sub gp s''.heap → Alive hs s''.heap →
          gs'.Goes (model prog w) A.in1 (gR hs C fin) (gY hs gv C vals fin) m (.send .none) s'' := hkap
      clear hkap hkeep
      generalize s₁.setGen gi gs' = s₂ at *
      refine letGo_gen hgen₁ ?_
      obtain ⟨mm, n1, n2⟩ := T₁.ns
      refine assign_Name (T₁.I.storeN hcell sc.l2 n1 (.int d t) fun s₃ hn₃ hk₃ hg₃ I₃ => ?_)
      have T₃ : Tk K mg mb env g₀ s₀ gv TL (updV σ "size" (.int d)) ((vals.take j).map .int) s₃ :=
        { I := I₃, k := T.k, ns := ⟨_, hn₃, (if_neg hne).trans n2⟩, tl := let ⟨vs, nn, h1, h2⟩ := T₁.tl; ⟨vs, nn, hk₃ _ _ T₁.ne h1, h2⟩, s0 := T.s0, g0 := T.g0 }
      unfold tLoop
      obtain ⟨vs, nn, t1, t2⟩ := T₃.tl
      have hvl : vs.length = j := by rw [t2.length]; simp; lia
      refine wpAny_execs_cons (wpAny_Expr_any ?_ (by unfold interactive; rw [I₃.fs.kind]; rfl) rfl)
      refine wpAny_Call_method_lateS (base_plain rfl) rfl hline (wpAny_Name (wpAny_loadName_local I₃.fs.kind sc.l1 hn₃ (v := .ref TL) ((if_neg hne).trans n2) ?_) rfl)
      refine ⟨"list", "list.append", F.plainAttrs_list, F.slot_list_append, F.type_list_append, ⟨_, t1, rfl⟩, fun a e => by (injection e with e; subst e); exact ⟨_, t1, rfl⟩, P.append_list ?_⟩
      refine wpAny_Name (wpAny_loadName_local I₃.fs.kind sc.l2 hn₃ (v := .int d t) (by simp) ?_) rfl
      refine ⟨vs.toArray, nn, by rw [List.size_toArray, hvl]; exact lim_le (by show j ≤ 65536; lia), t1, ?_⟩
      have hup := IsL.update (f := fun xs => xs.push (.int d t)) t1
      have e3 : vs.toArray.push (.int d t) = (vs ++ [Value.int d t]).toArray := by simp
      simp only [e3] at hup
      have k₄ : ∀ b o, b ≠ TL → s₃.heap.get? b = some o → (s₃.heap.update TL (Obj.mapSeq fun xs => xs.push (Value.int d t))).get? b = some o := fun b o hb e => by rw [Heap.get?_update_other]; exact e; exact Ne.symm hb
      have T₄ : Tk K mg mb env g₀ s₀ gv TL (updV σ "size" (.int d)) ((vals.take (j + 1)).map .int) { s₃ with heap := s₃.heap.update TL (Obj.mapSeq fun xs => xs.push (Value.int d t)) } :=
        { I := I₃.chgN (P := fun b => b = TL) hcell k₄ (fun b o e => by rintro rfl; rw [T.g0] at e; contradiction) (fun b o e => by rintro rfl; rw [T.s0] at e; contradiction) (Ne.symm T₃.ne) (I₃.ext.same.at' _ _)
          k := T.k
          ns := ⟨_, hn₃.at' fun o e => k₄ _ o (Ne.symm T₃.ne) e, (if_neg hne).trans n2⟩
          tl := ⟨_, _, hup, by rw [htake, List.map_append]; exact t2.snoc (.int d t)⟩
          s0 := T.s0
          g0 := T.g0 }
      have al₄ : Alive hs (s₃.heap.update TL (Obj.mapSeq fun xs => xs.push (Value.int d t))) := fun b hb => by
        by_cases h1 : b = TL
        · subst h1; exact ⟨_, hup⟩
        · by_cases h2 : b = env.locals
          · subst h2; obtain ⟨m, q⟩ := T₄.I.ns; exact ns_alive q
          · obtain ⟨o, e⟩ := al₁ b hb; exact ⟨o, k₄ _ _ h1 (hk₃ _ _ h2 e)⟩
      have k₂₄ : ∀ b o, b ≠ env.locals → b ≠ TL → s₂.heap.get? b = some o → (s₃.heap.update TL (Obj.mapSeq fun xs => xs.push (Value.int d t))).get? b = some o := fun b o h1 h2 e => k₄ _ _ h2 (hk₃ _ _ h1 e)
      have hg₄ : s₃.gens[gi]? = some gs' := by rw [hg₃]; exact hgs₁
      have hgen₄ : (s₃.heap.update TL (Obj.mapSeq fun xs => xs.push (Value.int d t))).IsGen a gi := by
        obtain ⟨o, nm, qn, ho, hc, hd', hsl⟩ := hgen₁
        refine ⟨o, nm, qn, k₂₄ _ _ ?_ ?_ ho, hc, hd', hsl⟩
        · rintro rfl
          obtain ⟨m, ⟨o', es, ep, ho', hd'', _⟩, _⟩ := T₁.ns
          rw [ho] at ho'; (injection ho' with ho'; subst ho'); rw [hd'] at hd''; contradiction
        · rintro rfl
          obtain ⟨vs, nn, h1, _⟩ := T₁.tl
          rw [ho] at h1; (injection h1 with h1; subst h1); contradiction
      clear hgen₁ hgs₁ al₁ kk kk' sm hg₁ t1 t2 hup hg₃ hn₃ T₃ I₃ k₄
      show wpAny _ A (execs _ env) _ _ { s₃ with heap := s₃.heap.update TL (Obj.mapSeq fun xs => xs.push (Value.int d t)) }
      have hgens : ({ s₃ with heap := s₃.heap.update TL (Obj.mapSeq fun xs => xs.push (Value.int d t)) } : Shared).gens[gi]? = some gs' := hg₄
      have k₂₅ : ∀ b o, b ≠ env.locals → b ≠ TL → s₂.heap.get? b = some o → ({ s₃ with heap := s₃.heap.update TL (Obj.mapSeq fun xs => xs.push (Value.int d t)) } : Shared).heap.get? b = some o := k₂₄
      have al₅ : Alive hs ({ s₃ with heap := s₃.heap.update TL (Obj.mapSeq fun xs => xs.push (Value.int d t)) } : Shared).heap := al₄
      have hgen₅ : ({ s₃ with heap := s₃.heap.update TL (Obj.mapSeq fun xs => xs.push (Value.int d t)) } : Shared).heap.IsGen a gi := hgen₄
      clear k₂₄ al₄ hgen₄ hg₄ hk₃
      generalize ({ s₃ with heap := s₃.heap.update TL (Obj.mapSeq fun xs => xs.push (Value.int d t)) } : Shared) = s₄ at *
      have O := ok0 (prog := prog) (w := w) (K := K) G (hA.mono (Nat.le_succ 8))
      obtain ⟨gL, kL, IL⟩ := T₄.own.thaw
      have hlen : ((vals.take (j + 1)).map D.int).length = j + 1 := by simp; lia
      refine wpAny_execs_cons (wpAny_If (isT_ok O.C O.S O.G O.hA _ _ none env _ gL s₄ _ IL.fs (is12 sc (updV_eq (updV σ "size" (.int d)) "taken" _) (by rw [hlen]; lia)) (fun _ h => nomatch h) _ _ fun g₅ s₅ x₅ => ?_))
      rw [hlen]
      have T₅ := T₄.ext (x₅.thin T₄.I.fs.low kL)
      by_cases h12 : j + 1 = 12
      · have e12 : (((j + 1 : Nat) : Int) == 12) = true := by rw [h12]; rfl
        rw [e12, if_pos rfl]
        have hall : vals.take (j + 1) = vals := by rw [List.take_of_length_le]; rcases hN with h | h <;> lia
        rw [hall] at T₅
        refine wpAny_execs_cons ?_
        show wpAny (model prog w) A (do standAt (p 10); pure Flow.brk) _ _ s₅
        exact wpAny_bind (wpAny_standAt (wpAny_pure (hR _ _ T₅)))
      · have e12 : (((j + 1 : Nat) : Int) == 12) = false := by simp; lia
        rw [e12, if_neg Bool.false_ne_true]
        have hnext : m ≠ 0 ∨ fin = true := by
          rcases hN with h | h
          · left; lia
          · exact .inr h.1
        obtain ⟨gp', hnew', kp', hgo'⟩ := hkap' hnext
        refine wpAny_execs_nil (wpAny_execs_nil ⟨vals.length + 1 - (j + 1), by omega, j + 1, hlt, ?_, rfl, _, gs', gp', T₅, ?_, ?_, ?_, hnew', ?_, ?_⟩)
        · rcases hN with h | h
          · left; lia
          · exact .inr h.1
        · obtain ⟨o, nm, qn, ho, r⟩ := hgen₅; exact ⟨o, nm, qn, x₅.kept _ _ ho, r⟩
        · obtain ⟨_, _, G', e, b⟩ := x₅.same
          rw [e]; exact b.old _ _ hgens
        · intro b o e
          refine x₅.kept _ _ (k₂₅ b o ?_ ?_ (kp' b o e))
          · rintro rfl
            rcases hnew' _ _ e with e' | e' | e'
            · rw [T.I.gl] at e'; contradiction
            · exact hloc.2 e'
            · obtain ⟨o', q⟩ := hloc.1; rw [e'] at q; contradiction
          · rintro rfl
            rcases hnew' _ _ e with e' | e' | e'
            · rw [T.g0] at e'; contradiction
            · exact hTL.2 e'
            · obtain ⟨o', q⟩ := hTL.1; rw [e'] at q; contradiction
        · intro b hb
          obtain ⟨o, e⟩ := al₅ b hb
          exact ⟨o, x₅.kept _ _ e⟩
        · have : vals.length - (j + 1) = m := by lia
          rw [this]; exact hgo'
    · obtain rfl : j = vals.length := by omega
      have hf : fin = true := hjf.resolve_left hlt
      obtain ⟨gp', _, k1, k2⟩ := hkap (.inr hf)
      rw [Nat.sub_self] at k2
      exact (k2 s₁ k1 hkeep.2.1).elim
  · obtain ⟨hn, hf, hkeep⟩ := hP
    obtain rfl : j = vals.length := by omega
    refine wpAny_execs_nil (hR _ σ ?_)
    rw [List.take_length] at T
    have kk' : ∀ b o, (Has hs b ∧ b ≠ C) → s.heap.get? b = some o → h'.get? b = some o := fun b o hb e => 
      hk b o (hkeep.1 b o (by show (cut hs C s.heap).get? b = _; rw [cut_in hb.1 hb.2]; exact e))
    have sm : SameB s₀ { s₁.setGen gi .finished with heap := h' } := (same_set ((same_set T.I.ext.same hgi (y := .running) rfl).trans hkeep.2.2) hgi (y := .finished) rfl).at' _ _
    exact
        { I := T.I.chgN (P := fun b => ¬ (Has hs b ∧ b ≠ C)) hcell (fun b o hb e => kk' b o (Classical.not_not.mp hb) e) (fun b o e => Classical.not_not.mpr (hgv b o e)) (fun b o e => Classical.not_not.mpr (hs0 b o e)) (Classical.not_not.mpr hloc) sm
          k := T.k
          ns := let ⟨m, h1, h2⟩ := T.ns; ⟨m, h1.at' fun o e => kk' _ o hloc e, h2⟩
          tl := let ⟨vs, nn, h1, h2⟩ := T.tl; ⟨vs, nn, kk' _ _ hTL h1, h2⟩
          s0 := T.s0
          g0 := T.g0 }
end
end Mine
end

/-! part Nm -/
section
open PySem PySem.W PyProof.Rows PySem.Calls
set_option maxHeartbeats 2000000
set_option maxRecDepth 100000
set_option linter.unusedVariables false
set_option linter.unusedSimpArgs false
set_option tactic.hygienic false
namespace Mine

theorem taken_bodyL : ∃ l : List Pos, f_taken.body = tFun (fun n => l.getD n ⟨0, 0, 0, 0⟩) ∧ ((l.getD 1 ⟨0, 0, 0, 0⟩).endLine == (l.getD 3 ⟨0, 0, 0, 0⟩).line) = true :=
  ⟨[_, _, _, _, _, _, _, _, _, _, _, _, _, _, _, _, _, _, _, _, _, _], rfl, rfl⟩
theorem taken_body : ∃ p : Nat → Pos, f_taken.body = tFun p ∧ ((p 1).endLine == (p 3).line) = true := let ⟨l, h1, h2⟩ := taken_bodyL; ⟨_, h1, h2⟩
theorem taken_sc : TSc f_taken.scope := ⟨fun x => by
  show List.lookup x [(("given" : Str), NameKind.local), ("taken", .local), ("size", .local), ("_grouping_intervals", .globalImplicit), ("len", .globalImplicit)] ≠ _
  intro h
  have := Mine.mem_of_lookup h
  simp at this, rfl, rfl, rfl, rfl, rfl⟩

section
variable {prog : Program} {w : World} {K : Frag} {mg mb : Str → Option Value} {A : Around}

theorem size_le {a b : Array GenState} (h : GenOK a b) : a.size ≤ b.size := by
  rcases Nat.lt_or_ge b.size a.size with hlt | hge
  · have := h.old b.size a[b.size] (Array.getElem?_eq_getElem hlt)
    rw [Array.getElem?_eq_none (Nat.le_refl _)] at this; exact ns this
  · exact hge
theorem SameB.size {s s' : Shared} (h : SameB s s') : s.gens.size ≤ s'.gens.size := by
  obtain ⟨_, _, G, rfl, b⟩ := h
  exact size_le b

theorem Tk.grow {K : Frag} {env : Env} {g₀ g g' : Heap} {s₀ s s' : Shared} {TL : Addr} {σ : Vars} {es : List D} (T : Tk K mg mb env g₀ s₀ g TL σ es s) (x : Ext g s g' s') : Tk K mg mb env g₀ s₀ g' TL σ es s' where
  I := T.I.go x
  k := T.k
  ns := let ⟨m, h1, h2⟩ := T.ns; ⟨m, h1.keeps x.kept, h2⟩
  tl := let ⟨vs, nn, h1, h2⟩ := T.tl; ⟨vs, nn, x.kept _ _ h1, h2.sub x.sub⟩
  s0 := T.s0
  g0 := let ⟨vs, nn, h1, h2⟩ := T.tl; x.none T.g0 ⟨_, h1⟩

theorem taken_ok (H : TopK K) {ns vals : List Int} {fin : Bool} {g : Heap} {s : Shared} {v : Value} (G : GlOK gl mg mb) (hgen : genOK ns none vals fin) (hN : (fin = false ∧ vals.length = 12) ∨ (fin = true ∧ vals.length < 12))
    (hA : Rm A 11) (W : Wd K mg mb g) (l : Sub g s.heap) (hv : Den g v (.list (ns.map .int))) : Ev (model prog w) A (PySem.call (.ref 214) [v]) g s (.list (vals.map .int)) := by
  refine fn_enter (good_taken H (mg := mg) (mb := mb)) (bs := [(("given" : Str), D.list (ns.map .int))]) hA.dp W l (.one hv) rfl fun env g₁ s₁ s₂ E he x₁ I => ?_
  obtain ⟨taP, hbody, hline⟩ := taken_body
  rw [hbody]
  have sc : TSc env.scope := he ▸ taken_sc
  have hcell : ∀ x, env.kindOf x ≠ some .cell := sc.cell
  have hA' : Rm (A.deeper env) 10 := hA.deeper env
  have O := ok0 (prog := prog) (w := w) (K := K) G (hA'.mono (by (exact Nat.le_add_left ..)))
  unfold tFun
  have has : assignName cx0 ["taken"] "taken" (taP 12) (.List [] (taP 13)) env.scope ⟨fun y => [(("given" : Str), D.list (ns.map .int))].lookup y, none⟩ =
      some (.next ⟨offV (fun y => [(("given" : Str), D.list (ns.map .int))].lookup y) "taken", some ("taken", [])⟩) := by
    unfold assignName
    rw [if_pos (by rfl), if_pos (by rw [sc.l1]; rfl)]
  refine wpAny_execs_cons (wpAny_mono (assignName_ok (pos := taP 14) O I has) (fun fo s₃ h₃ => ?_) fun _ _ e => e)
  induction fo using PySem.Flow.casesOn <;> try exact h₃.elim
  obtain ⟨g₃, k₃, I₃⟩ := h₃
  obtain ⟨hkl, TL, vs, nn, m, n1, n2, t1, t2, t3, t4⟩ := I₃.own _ _ rfl
  have T₃ : Tk K mg mb env g₁ s₁ g₃ TL (fun y => if y = "given" then some (D.list (ns.map .int)) else none) [] s₃ :=
    { I := I₃.bare (fun x d h => by
        split at h
        · rename_i hx; subst hx; obtain rfl := so h
          show offV _ _ _ = _
          rw [offV_ne (by decide)]; rfl
        · contradiction)
      k := hkl, ns := ⟨m, n1, n2⟩, tl := ⟨vs, nn, t1, t4⟩, s0 := t2, g0 := t3 }
  clear t4 t3 t2 t1 n1 n2 I₃
  have F := T₃.I.fs
  refine wpAny_execs_cons (wpAny_For ?_ fun _ => rfl)
  show wpAny _ _ (do callWith (taP 18) (← eval (.Name "_grouping_intervals" (taP 16)) env) [] (backTo (taP 18) (starEach [.Name "given" (taP 17)] env)) []) _ _ s₃
  have hmg : mg "_grouping_intervals" = some (.ref 35) := mg_of F.wd.inK F.wd.nsG H.gG
  have ld : ∀ (Q E : Value → Shared → Prop), Q (.ref 35) s₃ → wpAny (model prog w) (A.deeper env) (loadName env "_grouping_intervals") Q E s₃ := fun Q E hq => by
    rw [loadName_read F.kind sc.l4]
    exact loadGlobal_global (mg := mg) (by rw [F.glob]; exact F.wd.nsG.keeps F.low) hmg hq
  refine wpAny_bind (wpAny_Name (ld _ _ ?_) rfl)
  have hev : evalA cx0 [.Name "given" (taP 17)] env.scope (fun y => if y = "given" then some (D.list (ns.map .int)) else none) = some [.list (ns.map .int)] := by
    have e1 : evalE cx0 (.Name "given" (taP 17)) env.scope (fun y => if y = "given" then some (D.list (ns.map .int)) else none) = some (.list (ns.map .int)) := ev_loc rfl sc.l3 (if_pos rfl)
    rw [evalA_plain rfl, e1]; rfl
  refine callWith_ok (fun x hx => by cases hx) (fun s' R l' hR => ?_) (evalA_ok (pos := taP 18) (fun e _ => x_ok O.C O.S O.G O.hA e) F hev _ _ fun us g₄ s₄ x₄ du => ?_)
  · obtain ⟨oc, od, osl, name, qual, dV, kV, doc, pm, an, cdv, ct, ho, _⟩ := grp_look H
    unfold keeperOf
    refine wpAny_bind (wpAny_load (l' _ _ (F.low _ _ (F.wd.inK _ _ ho))) ?_)
    exact wpAny_pure (hR _ (.inl rfl))
  refine ⟨x₄.kept, ?_⟩
  have T₄ := T₃.grow x₄
  cases du with
  | @cons u us _ _ du du' =>
    cases du'
    refine gen_call H hA'.dp T₄.I.fs.wd T₄.I.fs.low du fun envG s₅ a heG IG hgenG hgens x₅ hdC hda => ?_
    refine wpAny_pyIter_gen hgenG ?_
    have T₅ := T₄.ext x₅
    have hC : ∀ {b : Addr} {o : Obj}, s₄.heap.get? b = some o → Has s₅.heap b ∧ b ≠ envG.locals := fun e => ⟨⟨_, x₅.kept _ _ e⟩, by rintro rfl; rw [hdC] at e; contradiction⟩
    obtain ⟨mC, hmC⟩ := IG.ns
    obtain ⟨oC, hoC⟩ := ns_alive hmC
    have hcellG : ∀ x, envG.kindOf x ≠ some .cell := (heG ▸ grp_sc : GSc envG.scope).cell
    have ha : Has s₅.heap a ∧ a ≠ envG.locals := by
      obtain ⟨o, nm, qn, ho, hc, hd, _⟩ := hgenG
      refine ⟨⟨o, ho⟩, ?_⟩
      rintro rfl
      obtain ⟨o', es, ep, ho', hd', _⟩ := hmC
      rw [ho] at ho'; obtain rfl := so ho'; rw [hd] at hd'; contradiction
    obtain ⟨gp, c1, c2, c3, c4⟩ := view_add IG.fs.low hoC
    refine take_loop (p := taP) (hs := s₅.heap) (gv := g₄) (C := envG.locals) (TL := TL) (gi := s₄.gens.size) (vals := vals) (fin := fin) (g₀ := g₁) (s₀ := s₁) (K := K) (mg := mg) (mb := mb) sc (hA'.mono (by (exact Nat.le_succ _))) G hline
      (fun b o e => hC (T₄.I.fs.low _ _ e)) (fun b o e => hC (T₄.I.ext.kept _ _ e)) (let ⟨m, h⟩ := T₄.I.ns; let ⟨o, e⟩ := ns_alive h; hC e) (let ⟨vs, nn, h, _⟩ := T₄.tl; hC h) ha T₄.I.ext.same.size hN ?_ fun s₆ σ₆ T₆ => ?_
    · refine ⟨_, .fresh (.func f_grp.body envG), gp, T₅, hgenG, by rw [hgens]; exact Array.getElem?_push_size .., c2, fun b o e => ?_, fun b h => h, fun s'' k1 k2 => ⟨rfl, ?_⟩⟩
      · rcases c4 b o e with h | h
        · exact .inl h
        · exact .inr (.inl h)
      · have I0 := IG.wake (hs := s₅.heap) (gv := g₄) (s'' := s'') rfl hcellG hoC .rfl' (fun b o e => .inl e) (c1.trans' k1) (k1 _ _ c3)
        obtain ⟨lg, rs, hb⟩ := grp_body
        rw [hb]
        exact seg_start (heG ▸ grp_sc) hA'.in1 G I0 k2 rfl hgen
    · obtain ⟨gL, xL, dL⟩ := T₆.done
      obtain ⟨m, n1, n2⟩ := T₆.ns
      exact wpAny_execs_cons (wpAny_Return_some (wpAny_Name (wpAny_loadName_local T₆.I.fs.kind sc.l1 n1 n2 ⟨_, _, rfl, xL, dL⟩) rfl))
end
end Mine
end

/-! part Nn -/
section
open PySem PySem.W PyProof.Rows PySem.Calls
set_option maxHeartbeats 2000000
set_option maxRecDepth 100000
set_option linter.unusedVariables false
set_option linter.unusedSimpArgs false
set_option tactic.hygienic false
namespace Mine

noncomputable def genTab : List (List Int × List Int) := [([1, 0, 3], List.replicate 12 1), ([2, 1], [2, 1]), ([1, 2, 127, 5], [1, 2]), ([2, 1, 0], 2 :: List.replicate 11 1)]
noncomputable def intsD : List D → Option (List Int)
  | [] => some []
  | .int i :: r => (intsD r).map (i :: ·)
  | _ :: _ => none
noncomputable def takenD : List D → Option D
  | [.list es] => (intsD es).bind fun ns => (genTab.lookup ns).map fun v => .list (v.map .int)
  | _ => none
noncomputable def baseG : Addr → List D → Option D := fun a ds => if a = 214 then takenD ds else none

theorem intsD_eq : ∀ {es : List D} {ns : List Int}, intsD es = some ns → es = ns.map .int
  | [], ns, h => by obtain rfl := so h; rfl
  | d :: es, ns, h => by
    (set_option tactic.hygienic true in induction d using Mine.D.casesOn <;> try (contradiction; done))
    rename_i i
    have h : (intsD es).map (i :: ·) = some ns := h
    obtain ⟨ns', h1, rfl⟩ := map_some h
    rw [intsD_eq h1]; rfl

theorem base_ok {prog : Program} {w : World} {K : Frag} (H : TopK K) {mg mb : Str → Option Value} (G : GlOK gl mg mb) : CallOK prog w K mg mb 11 baseG where
  fn := fun a ds d h g W => by
    unfold baseG at h
    split at h
    · rename_i ha
      subst ha
      obtain ⟨oc, od, osl, name, qual, dV, kV, doc, pm, an, cdv, ct, ho, _⟩ := (good_taken H (prog := prog) (w := w) (mg := mg) (mb := mb)).look
      exact ⟨_, _, W.inK _ _ ho, rfl⟩
    · contradiction
  ok := fun a ds d h A s g vs hA W l hd => by
    unfold baseG at h
    split at h
    · rename_i ha
      subst ha
      unfold takenD at h
      (set_option tactic.hygienic true in split at h)
      · rename_i es
        obtain ⟨ns, h1, h2⟩ := bind_some h
        obtain ⟨vals, h3, rfl⟩ := map_some h2
        obtain rfl := intsD_eq h1
        cases hd with
        | @cons v _ _ _ hv hn =>
          cases hn
          have hm := Mine.mem_of_lookup h3
          simp only [genTab, List.mem_cons, Prod.mk.injEq, List.not_mem_nil, or_false] at hm
          rcases hm with ⟨rfl, rfl⟩ | ⟨rfl, rfl⟩ | ⟨rfl, rfl⟩ | ⟨rfl, rfl⟩
          · exact taken_ok H (fin := false) G (by simp [genOK, List.replicate]) (.inl ⟨rfl, rfl⟩) hA W l hv
          · exact taken_ok H (fin := true) G (by simp [genOK]) (.inr ⟨rfl, by decide⟩) hA W l hv
          · exact taken_ok H (fin := true) G (by simp [genOK]) (.inr ⟨rfl, by decide⟩) hA W l hv
          · exact taken_ok H (fin := false) G (by simp [genOK, List.replicate]) (.inl ⟨rfl, rfl⟩) hA W l hv
      · contradiction
    · contradiction
end Mine
end

/-! part Pa -/
section
open PySem PySem.W PyProof.Rows PySem.Calls
set_option maxRecDepth 100000
set_option maxHeartbeats 4000000
set_option linter.unusedVariables false
set_option linter.unusedSimpArgs false
set_option tactic.hygienic false
namespace Mine

/-! names -/
section
variable {call : Addr → List D → Option D} {so : List D → Option (List D)} {x : Str} {sc : Scope} {σ : Vars} {d : D} {cx : Cx}
theorem nameD_loc (h1 : (x == ("__debug__" : Str)) = false) (h2 : sc.names.lookup x = some .local) : nameD cx x sc σ = σ x := by
  unfold nameD; rw [h1, h2]; rfl
theorem nameD_cel (h1 : (x == ("__debug__" : Str)) = false) (h2 : sc.names.lookup x = some .cell) : nameD cx x sc σ = σ x := by
  unfold nameD; rw [h1, h2]; rfl
theorem nameD_glo (h1 : (x == ("__debug__" : Str)) = false) (h2 : sc.names.lookup x = some .globalImplicit) (h3 : (gl x).bind valD = some d) : nameD ⟨call, gl, so⟩ x sc σ = some d := by
  unfold nameD; rw [h1, h2]; exact h3
theorem storeD_loc {own : Option (Str × List D)} (h : sc.names.lookup x = some .local) (ho : own = none) : storeD sc x d ⟨σ, own⟩ = some ⟨updV σ x d, own⟩ := by
  subst ho; unfold storeD; rw [if_neg (by simp), h]
theorem storeD_cel {own : Option (Str × List D)} (h : sc.names.lookup x = some .cell) (ho : own = none) : storeD sc x d ⟨σ, own⟩ = some ⟨updV σ x d, own⟩ := by
  subst ho; unfold storeD; rw [if_neg (by simp), h]
theorem storeD_own {y : Str} {es : List D} (h : sc.names.lookup x = some .local) (hy : y ≠ x) : storeD sc x d ⟨σ, some (y, es)⟩ = some ⟨updV σ x d, some (y, es)⟩ := by
  unfold storeD; rw [if_neg (by simpa using hy), h]
end

/-! strings -/
theorem strOf_list (l : List Nat) : (strOf l).cps.toList = l := rfl
theorem strOf_len (l : List Nat) : (strOf l).length = l.length := rfl
theorem strOf_eta (x : Str) : strOf x.cps.toList = x := rfl
theorem strOf_app (l m : List Nat) : strOf l ++ strOf m = strOf (l ++ m) := by
  show (⟨(strOf l).cps ++ (strOf m).cps⟩ : Str) = _
  simp [strOf]
theorem strOf_inj {l m : List Nat} : strOf l = strOf m ↔ l = m := ⟨fun h => by have := congrArg (fun s : Str => s.cps.toList) h; exact this, fun h => h ▸ rfl⟩
theorem lit_slash : ("/" : Str) = strOf [47] := by decide
theorem lit_empty : ("" : Str) = strOf [] := by decide
theorem lit_zero : ("0" : Str) = strOf [48] := by decide
theorem lit_dot : ("." : Str) = strOf [46] := by decide
theorem lit_dots : (".." : Str) = strOf [46, 46] := by decide

/-! methods -/
section
variable {x y : Str}
theorem m1_starts (h : x.length ≤ lim) : met1 "startswith" (.str x) (.str y) = some (.bool (Txt.startswith x y)) := by unfold met1; dsimp only; rw [if_pos h]; rfl
theorem m1_ends (h : x.length ≤ lim) : met1 "endswith" (.str x) (.str y) = some (.bool (Txt.endswith x y)) := by unfold met1; dsimp only; rw [if_pos h]; rfl
theorem m1_rfind (h : x.length ≤ lim) : met1 "rfind" (.str x) (.str y) = some (.int (Txt.rfind x y)) := by unfold met1; dsimp only; rw [if_pos h]; rfl
theorem m1_rstrip (h : x.length ≤ lim) : met1 "rstrip" (.str x) (.str y) = some (.str (Txt.rstripChars x y)) := by unfold met1; dsimp only; rw [if_pos h]; rfl
theorem m1_split (h : x.length ≤ lim) (h2 : y.length ≠ 0 ∧ (Txt.split x y).length ≤ lim ∧ (Builtin.Str.partsBetween x (Builtin.Str.occurrences x y 0 x.length (x.length + 1)) y.length).length ≤ lim) : met1 "split" (.str x) (.str y) = some (.list ((Txt.split x y).map .str)) := by
  unfold met1; dsimp only; rw [if_pos h]; unfold strM; rw [if_neg (by decide), if_neg (by decide), if_neg (by decide), if_neg (by decide), if_pos (by decide), if_pos h2]
theorem m1_join {ds : List D} {ys : List Str} (h : strsD ds = some ys) (h2 : JoinOk x ys = true) : met1 "join" (.str x) (.list ds) = some (.str (Txt.join x ys)) := by
  unfold met1; dsimp only; unfold strJ; rw [if_pos (by decide), h]; simp only [Option.bind_some]; rw [if_pos h2]
end
theorem strsD_map (l : List Str) : strsD (l.map .str) = some l := by
  induction l with
  | nil => rfl
  | cons a l ih => rw [List.map_cons, strsD, ih]; rfl

/-! calls at a level -/
noncomputable abbrev cN (so : List D → Option (List D)) (k : Nat) := callN baseG tab gl so k
noncomputable abbrev cX (so : List D → Option (List D)) (k : Nat) : Cx := ⟨cN so k, gl, so⟩
theorem cN_step {so : List D → Option (List D)} {k : Nat} {a : Addr} {ds : List D} {f : FnI} (h1 : (a = 214) = False) (h2 : tab a = some f) : cN so (k + 1) a ds = runF (cX so k) f ds := by
  show (match baseG a ds with | some d => some d | none => (tab a).bind fun f => runF (cX so k) f ds) = _
  have : baseG a ds = none := by unfold baseG; rw [if_neg (by rw [h1]; exact id)]
  rw [this, h2]; rfl

/-! the pure shapes -/
noncomputable abbrev Row := Fin 4
noncomputable def rowI : Row → List Int
  | 0 => [0]
  | 1 => [0, 0]
  | 2 => [0, 15]
  | 3 => [240]
noncomputable def hexL : Row → List Nat
  | 0 => [48, 48]
  | 1 => [48, 48, 48, 48]
  | 2 => [48, 48, 48, 70]
  | 3 => [70, 48]
noncomputable def rowD (r : Row) : D := .list ((rowI r).map .int)
noncomputable def hexS (r : Row) : Str := strOf (hexL r)
noncomputable def placeD (p : List Row) : D := .list (p.map rowD)
noncomputable def codes (p : List Row) : List Nat := p.flatMap fun r => 47 :: hexL r
noncomputable def textL (p : List Row) : List Nat := if p.isEmpty then [47] else codes p
noncomputable def textS (p : List Row) : Str := strOf (textL p)

theorem isS {o : Option D} {x : Str} (h : (match o with | some (.str y) => y.cps.toList == x.cps.toList | _ => false) = true) : o = some (.str x) := by
  (set_option tactic.hygienic true in split at h)
  · rename_i y
    have h : y.cps.toList = x.cps.toList := by simpa using h
    have : y = x := by rw [← strOf_eta y, h, strOf_eta]
    rw [this]
  · cases h
noncomputable def rws : List Row := [0, 1, 2, 3]
theorem rws_all (r : Row) : r ∈ rws := by revert r; decide

section
variable (so : List D → Option (List D)) (k : Nat)
noncomputable def isSb (o : Option D) (x : Str) : Bool := match o with | some (.str y) => y.cps.toList == x.cps.toList | _ => false
theorem hex_all : (rws.all fun a => isSb (cN so (k + 1) 185 [rowD a]) (hexS a)) = true := by kernel_rfl
theorem c_hex (r : Row) : cN so (k + 1) 185 [rowD r] = some (.str (hexS r)) := isS (List.all_eq_true.mp (hex_all so k) r (rws_all r))
end
end Mine
end

/-! part Pb -/
section
open PySem PySem.W PyProof.Rows PySem.Calls
set_option maxRecDepth 100000
set_option maxHeartbeats 4000000
set_option linter.unusedVariables false
set_option linter.unusedSimpArgs false
set_option tactic.hygienic false
namespace Mine

theorem bop1 : (BoolOp.Or == BoolOp.And) = false := rfl
theorem bop2 : (BoolOp.And == BoolOp.And) = true := rfl
section
variable {call : Addr → List D → Option D} {so : List D → Option (List D)}

theorem r_strcoll (a b : Str) : runF ⟨call, gl, so⟩ f_strcoll [.str a, .str b] = some (.int (b2i (decide (b.cps.toList < a.cps.toList)) - b2i (decide (a.cps.toList < b.cps.toList)))) := by
  unfold runF
  rw [show f_strcoll.bind [.str a, .str b] = some [(("a" : Str), .str a), ("b", .str b)] from rfl]
  have n1 : ∀ σ, nameD ⟨call, gl, so⟩ "a" f_strcoll.scope σ = σ "a" := fun σ => nameD_loc rfl rfl
  have n2 : ∀ σ, nameD ⟨call, gl, so⟩ "b" f_strcoll.scope σ = σ "b" := fun σ => nameD_loc rfl rfl
  simp only [Option.bind_some]
  obtain ⟨σ, hσ⟩ : ∃ σ : Vars, σ = fun y => [(("a" : Str), D.str a), ("b", .str b)].lookup y := ⟨_, rfl⟩
  have l1 : σ "a" = some (.str a) := by rw [hσ]; rfl
  have l2 : σ "b" = some (.str b) := by rw [hσ]; rfl
  rw [← hσ]
  conv in f_strcoll.body => whnf
  have q1 : ccD .Gt (.str a) (.str b) = some (decide (b.cps.toList < a.cps.toList)) := rfl
  have q2 : ccD .Lt (.str a) (.str b) = some (decide (a.cps.toList < b.cps.toList)) := rfl
  simp only [Option.bind_some, Option.map_some, Option.bind_none, Bool.false_eq_true, if_false, if_true, Bool.false_and, Bool.and_false, Bool.true_and, Bool.and_true, Bool.false_or, Bool.or_false, Bool.not_false, Bool.not_true, List.any_cons, List.any_nil, List.length_cons, List.length_nil, beq_self_eq_true, reduceCtorEq, Nat.reduceAdd, Nat.reduceLT, Nat.reduceLeDiff, Nat.reduceBEq, decide_false, decide_true, lim, truD, bop1, bop2, eK_nil, eK_cons, eS_Expr, eS_Pass, eS_Break, eS_Continue, eS_Return, eS_ReturnN, eS_Assign, eS_AssignT, eS_Aug, eS_If, eS_While, eS_For, eS_Try, evalR, testR, eE_Constant, eE_Name, eE_BoolOp, eE_BinOp, eE_UnaryOp, eE_IfExp, eE_Compare, eE_meth0, eE_meth1, eE_call, eE_slice, eE_subN, eE_subC, eE_subU, eE_subB, eE_subS, eE_List, eE_Tuple, eE_ListComp, eA_nil, eA_star, eA_Name, eA_Constant, eA_BinOp, eA_UnaryOp, eA_Call, eA_Subscript, eA_List, eA_Tuple, eA_ListComp, eA_IfExp, eO_none, eO_some, eT_nil, eT_one, eB_one, eB_more, iT_not, iT_bool, iT_if, iT_cmp, iT_Name, iT_Call, iT_Subscript, iT_BinOp, iT_Constant, aB_nil, aB_cons, assignName, constD_none, constD_bool, constD_int, constD_str, unD_not, unD_neg, badArgs_nil, badArgs_one, badArgs_two, badArgs_three, badArgs_four, isStar_Name, isStar_Constant, isStar_BinOp, isStar_UnaryOp, isStar_Call, isStar_Subscript, isStar_Tuple, isStar_ListComp, isStar_IfExp, isStar_Compare, isStar_BoolOp, isStar_List, isStar_Starred, isSet_Name, isSet_Constant, isSet_BinOp, isSet_UnaryOp, isSet_Call, isSet_Subscript, isSet_Tuple, isSet_ListComp, isSet_IfExp, isSet_Compare, isSet_BoolOp, isSet_List, behind_Name, behind_Constant, behind_BinOp, behind_UnaryOp, behind_Call, behind_Subscript, behind_Tuple, behind_ListComp, behind_IfExp, behind_Compare, behind_BoolOp, behind_List, isNil_Name, isNil_Constant, isNil_BinOp, isNil_UnaryOp, isNil_Call, isNil_Subscript, isNil_Tuple, isNil_ListComp, isNil_IfExp, isNil_Compare, isNil_BoolOp, isNil_nil, isNil_cons, bareCall_Name, bareCall_Constant, bareCall_BinOp, bareCall_UnaryOp, bareCall_Call1, bareCall_Subscript, bareCall_Tuple, bareCall_ListComp, bareCall_IfExp, bareCall_Compare, bareCall_BoolOp, bareCall_List, usedQ_Name, usedQ_Constant, usedQ_BinOp, usedQ_UnaryOp, usedQ_Call, usedQ_Subscript, usedQ_Tuple, usedQ_ListComp, usedQ_IfExp, usedQ_Compare, usedQ_BoolOp, usedQ_List, n1, n2, l1, l2, q1, q2, bD_addI, bD_addS, bD_addL, bD_subI, bD_subB, bD_mulS, bD_mulL]

theorem r_fspath (x : Str) : runF ⟨call, gl, so⟩ f_fspath [.str x] = some (.str x) := by
  unfold runF
  rw [show f_fspath.bind [.str x] = some [(("path" : Str), .str x)] from rfl]
  have n1 : ∀ σ, nameD ⟨call, gl, so⟩ "path" f_fspath.scope σ = σ "path" := fun σ => nameD_loc rfl rfl
  have n2 : ∀ σ, nameD ⟨call, gl, so⟩ "kind" f_fspath.scope σ = σ "kind" := fun σ => nameD_loc rfl rfl
  have g1 : ∀ σ, nameD ⟨call, gl, so⟩ "type" f_fspath.scope σ = some (.typ "type") := fun σ => nameD_glo rfl rfl rfl
  have g2 : ∀ σ, nameD ⟨call, gl, so⟩ "issubclass" f_fspath.scope σ = some (.bi "issubclass") := fun σ => nameD_glo rfl rfl rfl
  have g3 : ∀ σ, nameD ⟨call, gl, so⟩ "str" f_fspath.scope σ = some (.typ "str") := fun σ => nameD_glo rfl rfl rfl
  have g4 : ∀ σ, nameD ⟨call, gl, so⟩ "bytes" f_fspath.scope σ = some (.typ "bytes") := fun σ => nameD_glo rfl rfl rfl
  have c1 : ∀ cx x, callD cx (.typ "type") [.str x] = some (.typ "str") := fun _ _ => rfl
  have c2 : ∀ cx, callD cx (.bi "issubclass") [.typ "str", .tup [.typ "str", .typ "bytes"]] = some (.bool true) := fun _ => rfl
  have s1 : ∀ d σ, storeD f_fspath.scope "kind" d ⟨σ, none⟩ = some ⟨updV σ "kind" d, none⟩ := fun d σ => storeD_loc rfl rfl
  simp only [Option.bind_some]
  obtain ⟨σ, hσ⟩ : ∃ σ : Vars, σ = fun y => [(("path" : Str), D.str x)].lookup y := ⟨_, rfl⟩
  have l1 : σ "path" = some (.str x) := by rw [hσ]; rfl
  rw [← hσ]
  conv in f_fspath.body => whnf
  have l2 : ∀ d, updV σ "kind" d "path" = some (.str x) := fun d => (updV_ne (by decide)).trans l1
  simp only [Option.bind_some, Option.map_some, Option.bind_none, Bool.false_eq_true, if_false, if_true, Bool.false_and, Bool.and_false, Bool.true_and, Bool.and_true, Bool.false_or, Bool.or_false, Bool.not_false, Bool.not_true, List.any_cons, List.any_nil, List.length_cons, List.length_nil, beq_self_eq_true, reduceCtorEq, Nat.reduceAdd, Nat.reduceLT, Nat.reduceLeDiff, Nat.reduceBEq, decide_false, decide_true, lim, truD, bop1, bop2, eK_nil, eK_cons, eS_Expr, eS_Pass, eS_Break, eS_Continue, eS_Return, eS_ReturnN, eS_Assign, eS_AssignT, eS_Aug, eS_If, eS_While, eS_For, eS_Try, evalR, testR, eE_Constant, eE_Name, eE_BoolOp, eE_BinOp, eE_UnaryOp, eE_IfExp, eE_Compare, eE_meth0, eE_meth1, eE_call, eE_slice, eE_subN, eE_subC, eE_subU, eE_subB, eE_subS, eE_List, eE_Tuple, eE_ListComp, eA_nil, eA_star, eA_Name, eA_Constant, eA_BinOp, eA_UnaryOp, eA_Call, eA_Subscript, eA_List, eA_Tuple, eA_ListComp, eA_IfExp, eO_none, eO_some, eT_nil, eT_one, eB_one, eB_more, iT_not, iT_bool, iT_if, iT_cmp, iT_Name, iT_Call, iT_Subscript, iT_BinOp, iT_Constant, aB_nil, aB_cons, assignName, constD_none, constD_bool, constD_int, constD_str, unD_not, unD_neg, badArgs_nil, badArgs_one, badArgs_two, badArgs_three, badArgs_four, isStar_Name, isStar_Constant, isStar_BinOp, isStar_UnaryOp, isStar_Call, isStar_Subscript, isStar_Tuple, isStar_ListComp, isStar_IfExp, isStar_Compare, isStar_BoolOp, isStar_List, isStar_Starred, isSet_Name, isSet_Constant, isSet_BinOp, isSet_UnaryOp, isSet_Call, isSet_Subscript, isSet_Tuple, isSet_ListComp, isSet_IfExp, isSet_Compare, isSet_BoolOp, isSet_List, behind_Name, behind_Constant, behind_BinOp, behind_UnaryOp, behind_Call, behind_Subscript, behind_Tuple, behind_ListComp, behind_IfExp, behind_Compare, behind_BoolOp, behind_List, isNil_Name, isNil_Constant, isNil_BinOp, isNil_UnaryOp, isNil_Call, isNil_Subscript, isNil_Tuple, isNil_ListComp, isNil_IfExp, isNil_Compare, isNil_BoolOp, isNil_nil, isNil_cons, bareCall_Name, bareCall_Constant, bareCall_BinOp, bareCall_UnaryOp, bareCall_Call1, bareCall_Subscript, bareCall_Tuple, bareCall_ListComp, bareCall_IfExp, bareCall_Compare, bareCall_BoolOp, bareCall_List, usedQ_Name, usedQ_Constant, usedQ_BinOp, usedQ_UnaryOp, usedQ_Call, usedQ_Subscript, usedQ_Tuple, usedQ_ListComp, usedQ_IfExp, usedQ_Compare, usedQ_BoolOp, usedQ_List, n1, n2, l1, l2, g1, g2, g3, g4, c1, c2, s1, updV_eq]
end
end Mine
end

/-! part Pc -/
section
open PySem PySem.W PyProof.Rows PySem.Calls
set_option maxRecDepth 100000
set_option maxHeartbeats 4000000
set_option linter.unusedVariables false
set_option linter.unusedSimpArgs false
set_option tactic.hygienic false
namespace Mine

theorem execB_next {cx : Cx} {mu : List Str} {s : Stmt} {r : List Stmt} {sc : Scope} {st st' : Sto} (h : execS cx mu s sc st = some (.next st')) : execB cx mu (s :: r) sc st = execB cx mu r sc st' := by
  rw [eK_cons, h]; rfl
theorem execB_ret {cx : Cx} {mu : List Str} {s : Stmt} {r : List Stmt} {sc : Scope} {st : Sto} {d : D} (h : execS cx mu s sc st = some (.ret d)) : execB cx mu (s :: r) sc st = some (.ret d) := by
  rw [eK_cons, h]; rfl

theorem assign_any {cx : Cx} {mu : List Str} {ts : List Expr} {e : Expr} {sc : Scope} {st st' st'' : Sto} {ns : List (Str × Pos)} {ds : List D} (hok : okTup e = true) (hno : newOwn ts e mu = none) (hns : tNames ts = some ns) (hev : evalR cx e sc st = some (.tup ds, st'))
    (hl : (decide (ds.length ≤ lim) && ds.length == ns.length) = true) (hst : (if swapE ts e sc then storeL sc (ns.map (·.1)).reverse ds.reverse st' else storeL sc (ns.map (·.1)) ds st') = some st'') : assignTup cx mu ts e sc st = some (.next st'') := by
  unfold assignTup
  rw [hok, hno]
  show setAll cx ts e sc st = _
  unfold setAll
  rw [hns, hev]
  show (if (decide (ds.length ≤ lim) && ds.length == ns.length) = true then Option.map Fl.next (if swapE ts e sc = true then storeL sc (ns.map (·.1)).reverse ds.reverse st' else storeL sc (ns.map (·.1)) ds st') else none) = _
  rw [if_pos hl, hst]; rfl
theorem assign_plain {cx : Cx} {mu : List Str} {ts : List Expr} {e : Expr} {sc : Scope} {st st' st'' : Sto} {ns : List (Str × Pos)} {ds : List D} (hok : okTup e = true) (hno : newOwn ts e mu = none) (hns : tNames ts = some ns) (hev : evalR cx e sc st = some (.tup ds, st'))
    (hl : (decide (ds.length ≤ lim) && ds.length == ns.length) = true) (hsw : swapE ts e sc = false) (hst : storeL sc (ns.map (·.1)) ds st' = some st'') : assignTup cx mu ts e sc st = some (.next st'') :=
  assign_any hok hno hns hev hl (by rw [hsw]; exact hst)

section
variable {call : Addr → List D → Option D} {so : List D → Option (List D)}

theorem r_getsep (x : Str) : runF ⟨call, gl, so⟩ f_get_sep [.str x] = some (.str "/") := by
  unfold runF
  rw [show f_get_sep.bind [.str x] = some [(("path" : Str), .str x)] from rfl]
  have n1 : ∀ σ, nameD ⟨call, gl, so⟩ "path" f_get_sep.scope σ = σ "path" := fun σ => nameD_loc rfl rfl
  have g2 : ∀ σ, nameD ⟨call, gl, so⟩ "isinstance" f_get_sep.scope σ = some (.bi "isinstance") := fun σ => nameD_glo rfl rfl rfl
  have g4 : ∀ σ, nameD ⟨call, gl, so⟩ "bytes" f_get_sep.scope σ = some (.typ "bytes") := fun σ => nameD_glo rfl rfl rfl
  have c2 : ∀ cx x, callD cx (.bi "isinstance") [.str x, .typ "bytes"] = some (.bool false) := fun _ _ => rfl
  simp only [Option.bind_some]
  obtain ⟨σ, hσ⟩ : ∃ σ : Vars, σ = fun y => [(("path" : Str), D.str x)].lookup y := ⟨_, rfl⟩
  have l1 : σ "path" = some (.str x) := by rw [hσ]; rfl
  rw [← hσ]
  conv in f_get_sep.body => whnf
  simp only [Option.bind_some, Option.map_some, Option.bind_none, Bool.false_eq_true, if_false, if_true, Bool.false_and, Bool.and_false, Bool.true_and, Bool.and_true, Bool.false_or, Bool.or_false, Bool.not_false, Bool.not_true, List.any_cons, List.any_nil, List.length_cons, List.length_nil, beq_self_eq_true, reduceCtorEq, Nat.reduceAdd, Nat.reduceLT, Nat.reduceLeDiff, Nat.reduceBEq, decide_false, decide_true, lim, truD, bop1, bop2, eK_nil, eK_cons, eS_Expr, eS_Pass, eS_Break, eS_Continue, eS_Return, eS_ReturnN, eS_Assign, eS_AssignT, eS_Aug, eS_If, eS_While, eS_For, eS_Try, evalR, testR, eE_Constant, eE_Name, eE_BoolOp, eE_BinOp, eE_UnaryOp, eE_IfExp, eE_Compare, eE_meth0, eE_meth1, eE_call, eE_slice, eE_subN, eE_subC, eE_subU, eE_subB, eE_subS, eE_List, eE_Tuple, eE_ListComp, eA_nil, eA_star, eA_Name, eA_Constant, eA_BinOp, eA_UnaryOp, eA_Call, eA_Subscript, eA_List, eA_Tuple, eA_ListComp, eA_IfExp, eO_none, eO_some, eT_nil, eT_one, eB_one, eB_more, iT_not, iT_bool, iT_if, iT_cmp, iT_Name, iT_Call, iT_Subscript, iT_BinOp, iT_Constant, aB_nil, aB_cons, assignName, constD_none, constD_bool, constD_int, constD_str, unD_not, unD_neg, badArgs_nil, badArgs_one, badArgs_two, badArgs_three, badArgs_four, isStar_Name, isStar_Constant, isStar_BinOp, isStar_UnaryOp, isStar_Call, isStar_Subscript, isStar_Tuple, isStar_ListComp, isStar_IfExp, isStar_Compare, isStar_BoolOp, isStar_List, isStar_Starred, isSet_Name, isSet_Constant, isSet_BinOp, isSet_UnaryOp, isSet_Call, isSet_Subscript, isSet_Tuple, isSet_ListComp, isSet_IfExp, isSet_Compare, isSet_BoolOp, isSet_List, behind_Name, behind_Constant, behind_BinOp, behind_UnaryOp, behind_Call, behind_Subscript, behind_Tuple, behind_ListComp, behind_IfExp, behind_Compare, behind_BoolOp, behind_List, isNil_Name, isNil_Constant, isNil_BinOp, isNil_UnaryOp, isNil_Call, isNil_Subscript, isNil_Tuple, isNil_ListComp, isNil_IfExp, isNil_Compare, isNil_BoolOp, isNil_nil, isNil_cons, bareCall_Name, bareCall_Constant, bareCall_BinOp, bareCall_UnaryOp, bareCall_Call1, bareCall_Subscript, bareCall_Tuple, bareCall_ListComp, bareCall_IfExp, bareCall_Compare, bareCall_BoolOp, bareCall_List, usedQ_Name, usedQ_Constant, usedQ_BinOp, usedQ_UnaryOp, usedQ_Call, usedQ_Subscript, usedQ_Tuple, usedQ_ListComp, usedQ_IfExp, usedQ_Compare, usedQ_BoolOp, usedQ_List, n1, l1, g2, g4, c2]

/-! join -/
noncomputable def joinStep (P b : Str) : Str := if Txt.startswith b "/" = true ∨ P.length = 0 then b else if Txt.endswith P "/" = true then P ++ b else P ++ ("/" ++ b)
noncomputable def joinB : List Stmt := match f_join.body with
  | [_, _, _, .Try [.For _ _ b _ _] _ _ _ _, _] => b
  | _ => []

theorem join_step {σ : Vars} {P b : Str} (c1 : ∀ y, call 131 [.str y] = some (.str y)) (h1 : σ "path" = some (.str P)) (h2 : σ "sep" = some (.str "/")) (h3 : σ "b" = some (.str b)) (hP : P.length ≤ 1000) (hb : b.length ≤ 1000) :
    ∃ σ', execB ⟨call, gl, so⟩ f_join.mu joinB f_join.scope ⟨σ, none⟩ = some (.next ⟨σ', none⟩) ∧ σ' "path" = some (.str (joinStep P b)) ∧ σ' "sep" = some (.str "/") := by
  have n1 : ∀ σ, nameD ⟨call, gl, so⟩ "path" f_join.scope σ = σ "path" := fun σ => nameD_loc rfl rfl
  have n2 : ∀ σ, nameD ⟨call, gl, so⟩ "sep" f_join.scope σ = σ "sep" := fun σ => nameD_loc rfl rfl
  have n3 : ∀ σ, nameD ⟨call, gl, so⟩ "b" f_join.scope σ = σ "b" := fun σ => nameD_loc rfl rfl
  have g1 : ∀ σ, nameD ⟨call, gl, so⟩ "fspath" f_join.scope σ = some (.glob 131) := fun σ => nameD_glo rfl rfl rfl
  have s1 : ∀ d σ, storeD f_join.scope "b" d ⟨σ, none⟩ = some ⟨updV σ "b" d, none⟩ := fun d σ => storeD_loc rfl rfl
  have s2 : ∀ d σ, storeD f_join.scope "path" d ⟨σ, none⟩ = some ⟨updV σ "path" d, none⟩ := fun d σ => storeD_loc rfl rfl
  have e1 : ∀ y, callD ⟨call, gl, so⟩ (.glob 131) [.str y] = some (.str y) := fun y => c1 y
  have l1 : ∀ d, updV σ "b" d "path" = some (.str P) := fun d => (updV_ne (by decide)).trans h1
  have l2 : ∀ d, updV σ "b" d "sep" = some (.str "/") := fun d => (updV_ne (by decide)).trans h2
  have hl : ∀ x : Str, x.length ≤ 1000 → x.length ≤ 65536 := fun x h => by lia
  have q1 := m1_starts (x := b) (y := "/") (hl b hb)
  have q2 := m1_ends (x := P) (y := "/") (hl P hP)
  have hne : ("path" : Str) ≠ "sep" := by decide
  have h1l : ("/" : Str).length = 1 := by decide
  conv in joinB => whnf
  cases hs : Txt.startswith b "/" with
  | true =>
    refine ⟨updV (updV σ "b" (.str b)) "path" (.str b), ?_, ?_, ?_⟩
    · simp only [Option.bind_some, Option.map_some, Option.bind_none, Bool.false_eq_true, if_false, if_true, Bool.false_and, Bool.and_false, Bool.true_and, Bool.and_true, Bool.false_or, Bool.or_false, Bool.not_false, Bool.not_true, List.any_cons, List.any_nil, List.length_cons, List.length_nil, beq_self_eq_true, reduceCtorEq, Nat.reduceAdd, Nat.reduceLT, Nat.reduceLeDiff, Nat.reduceBEq, decide_false, decide_true, lim, truD, bop1, bop2, eK_nil, eK_cons, eS_Expr, eS_Pass, eS_Break, eS_Continue, eS_Return, eS_ReturnN, eS_Assign, eS_AssignT, eS_Aug, eS_If, eS_While, eS_For, eS_Try, evalR, testR, eE_Constant, eE_Name, eE_BoolOp, eE_BinOp, eE_UnaryOp, eE_IfExp, eE_Compare, eE_meth0, eE_meth1, eE_call, eE_slice, eE_subN, eE_subC, eE_subU, eE_subB, eE_subS, eE_List, eE_Tuple, eE_ListComp, eA_nil, eA_star, eA_Name, eA_Constant, eA_BinOp, eA_UnaryOp, eA_Call, eA_Subscript, eA_List, eA_Tuple, eA_ListComp, eA_IfExp, eO_none, eO_some, eT_nil, eT_one, eB_one, eB_more, iT_not, iT_bool, iT_if, iT_cmp, iT_Name, iT_Call, iT_Subscript, iT_BinOp, iT_Constant, aB_nil, aB_cons, assignName, constD_none, constD_bool, constD_int, constD_str, unD_not, unD_neg, badArgs_nil, badArgs_one, badArgs_two, badArgs_three, badArgs_four, isStar_Name, isStar_Constant, isStar_BinOp, isStar_UnaryOp, isStar_Call, isStar_Subscript, isStar_Tuple, isStar_ListComp, isStar_IfExp, isStar_Compare, isStar_BoolOp, isStar_List, isStar_Starred, isSet_Name, isSet_Constant, isSet_BinOp, isSet_UnaryOp, isSet_Call, isSet_Subscript, isSet_Tuple, isSet_ListComp, isSet_IfExp, isSet_Compare, isSet_BoolOp, isSet_List, behind_Name, behind_Constant, behind_BinOp, behind_UnaryOp, behind_Call, behind_Subscript, behind_Tuple, behind_ListComp, behind_IfExp, behind_Compare, behind_BoolOp, behind_List, isNil_Name, isNil_Constant, isNil_BinOp, isNil_UnaryOp, isNil_Call, isNil_Subscript, isNil_Tuple, isNil_ListComp, isNil_IfExp, isNil_Compare, isNil_BoolOp, isNil_nil, isNil_cons, bareCall_Name, bareCall_Constant, bareCall_BinOp, bareCall_UnaryOp, bareCall_Call1, bareCall_Subscript, bareCall_Tuple, bareCall_ListComp, bareCall_IfExp, bareCall_Compare, bareCall_BoolOp, bareCall_List, usedQ_Name, usedQ_Constant, usedQ_BinOp, usedQ_UnaryOp, usedQ_Call, usedQ_Subscript, usedQ_Tuple, usedQ_ListComp, usedQ_IfExp, usedQ_Compare, usedQ_BoolOp, usedQ_List, n1, n2, n3, g1, s1, s2, e1, h3, l1, l2, updV_eq, q1, hs]
    · rw [updV_eq]; unfold joinStep; rw [if_pos (.inl hs)]
    · rw [updV_ne (by decide)]; exact l2 _
  | false =>
    by_cases h0 : P.length = 0
    · refine ⟨updV (updV σ "b" (.str b)) "path" (.str b), ?_, ?_, ?_⟩
      · simp only [Option.bind_some, Option.map_some, Option.bind_none, Bool.false_eq_true, if_false, if_true, Bool.false_and, Bool.and_false, Bool.true_and, Bool.and_true, Bool.false_or, Bool.or_false, Bool.not_false, Bool.not_true, List.any_cons, List.any_nil, List.length_cons, List.length_nil, beq_self_eq_true, reduceCtorEq, Nat.reduceAdd, Nat.reduceLT, Nat.reduceLeDiff, Nat.reduceBEq, decide_false, decide_true, lim, truD, bop1, bop2, eK_nil, eK_cons, eS_Expr, eS_Pass, eS_Break, eS_Continue, eS_Return, eS_ReturnN, eS_Assign, eS_AssignT, eS_Aug, eS_If, eS_While, eS_For, eS_Try, evalR, testR, eE_Constant, eE_Name, eE_BoolOp, eE_BinOp, eE_UnaryOp, eE_IfExp, eE_Compare, eE_meth0, eE_meth1, eE_call, eE_slice, eE_subN, eE_subC, eE_subU, eE_subB, eE_subS, eE_List, eE_Tuple, eE_ListComp, eA_nil, eA_star, eA_Name, eA_Constant, eA_BinOp, eA_UnaryOp, eA_Call, eA_Subscript, eA_List, eA_Tuple, eA_ListComp, eA_IfExp, eO_none, eO_some, eT_nil, eT_one, eB_one, eB_more, iT_not, iT_bool, iT_if, iT_cmp, iT_Name, iT_Call, iT_Subscript, iT_BinOp, iT_Constant, aB_nil, aB_cons, assignName, constD_none, constD_bool, constD_int, constD_str, unD_not, unD_neg, badArgs_nil, badArgs_one, badArgs_two, badArgs_three, badArgs_four, isStar_Name, isStar_Constant, isStar_BinOp, isStar_UnaryOp, isStar_Call, isStar_Subscript, isStar_Tuple, isStar_ListComp, isStar_IfExp, isStar_Compare, isStar_BoolOp, isStar_List, isStar_Starred, isSet_Name, isSet_Constant, isSet_BinOp, isSet_UnaryOp, isSet_Call, isSet_Subscript, isSet_Tuple, isSet_ListComp, isSet_IfExp, isSet_Compare, isSet_BoolOp, isSet_List, behind_Name, behind_Constant, behind_BinOp, behind_UnaryOp, behind_Call, behind_Subscript, behind_Tuple, behind_ListComp, behind_IfExp, behind_Compare, behind_BoolOp, behind_List, isNil_Name, isNil_Constant, isNil_BinOp, isNil_UnaryOp, isNil_Call, isNil_Subscript, isNil_Tuple, isNil_ListComp, isNil_IfExp, isNil_Compare, isNil_BoolOp, isNil_nil, isNil_cons, bareCall_Name, bareCall_Constant, bareCall_BinOp, bareCall_UnaryOp, bareCall_Call1, bareCall_Subscript, bareCall_Tuple, bareCall_ListComp, bareCall_IfExp, bareCall_Compare, bareCall_BoolOp, bareCall_List, usedQ_Name, usedQ_Constant, usedQ_BinOp, usedQ_UnaryOp, usedQ_Call, usedQ_Subscript, usedQ_Tuple, usedQ_ListComp, usedQ_IfExp, usedQ_Compare, usedQ_BoolOp, usedQ_List, n1, n2, n3, g1, s1, s2, e1, h3, l1, l2, updV_eq, q1, hs, h0]
        rfl
      · rw [updV_eq]; unfold joinStep; rw [if_pos (.inr h0)]
      · rw [updV_ne (by decide)]; exact l2 _
    · have hz : (((P.length : Nat) : Int) != 0) = true := by simpa using h0
      have hP' := hl P hP
      have hb' := hl b hb
      cases he : Txt.endswith P "/" with
      | true =>
        refine ⟨updV (updV σ "b" (.str b)) "path" (.str (P ++ b)), ?_, ?_, ?_⟩
        · simp only [Option.bind_some, Option.map_some, Option.bind_none, Bool.false_eq_true, if_false, if_true, Bool.false_and, Bool.and_false, Bool.true_and, Bool.and_true, Bool.false_or, Bool.or_false, Bool.not_false, Bool.not_true, List.any_cons, List.any_nil, List.length_cons, List.length_nil, beq_self_eq_true, reduceCtorEq, Nat.reduceAdd, Nat.reduceLT, Nat.reduceLeDiff, Nat.reduceBEq, decide_false, decide_true, lim, truD, bop1, bop2, eK_nil, eK_cons, eS_Expr, eS_Pass, eS_Break, eS_Continue, eS_Return, eS_ReturnN, eS_Assign, eS_AssignT, eS_Aug, eS_If, eS_While, eS_For, eS_Try, evalR, testR, eE_Constant, eE_Name, eE_BoolOp, eE_BinOp, eE_UnaryOp, eE_IfExp, eE_Compare, eE_meth0, eE_meth1, eE_call, eE_slice, eE_subN, eE_subC, eE_subU, eE_subB, eE_subS, eE_List, eE_Tuple, eE_ListComp, eA_nil, eA_star, eA_Name, eA_Constant, eA_BinOp, eA_UnaryOp, eA_Call, eA_Subscript, eA_List, eA_Tuple, eA_ListComp, eA_IfExp, eO_none, eO_some, eT_nil, eT_one, eB_one, eB_more, iT_not, iT_bool, iT_if, iT_cmp, iT_Name, iT_Call, iT_Subscript, iT_BinOp, iT_Constant, aB_nil, aB_cons, assignName, constD_none, constD_bool, constD_int, constD_str, unD_not, unD_neg, badArgs_nil, badArgs_one, badArgs_two, badArgs_three, badArgs_four, isStar_Name, isStar_Constant, isStar_BinOp, isStar_UnaryOp, isStar_Call, isStar_Subscript, isStar_Tuple, isStar_ListComp, isStar_IfExp, isStar_Compare, isStar_BoolOp, isStar_List, isStar_Starred, isSet_Name, isSet_Constant, isSet_BinOp, isSet_UnaryOp, isSet_Call, isSet_Subscript, isSet_Tuple, isSet_ListComp, isSet_IfExp, isSet_Compare, isSet_BoolOp, isSet_List, behind_Name, behind_Constant, behind_BinOp, behind_UnaryOp, behind_Call, behind_Subscript, behind_Tuple, behind_ListComp, behind_IfExp, behind_Compare, behind_BoolOp, behind_List, isNil_Name, isNil_Constant, isNil_BinOp, isNil_UnaryOp, isNil_Call, isNil_Subscript, isNil_Tuple, isNil_ListComp, isNil_IfExp, isNil_Compare, isNil_BoolOp, isNil_nil, isNil_cons, bareCall_Name, bareCall_Constant, bareCall_BinOp, bareCall_UnaryOp, bareCall_Call1, bareCall_Subscript, bareCall_Tuple, bareCall_ListComp, bareCall_IfExp, bareCall_Compare, bareCall_BoolOp, bareCall_List, usedQ_Name, usedQ_Constant, usedQ_BinOp, usedQ_UnaryOp, usedQ_Call, usedQ_Subscript, usedQ_Tuple, usedQ_ListComp, usedQ_IfExp, usedQ_Compare, usedQ_BoolOp, usedQ_List, n1, n2, n3, g1, s1, s2, e1, h3, l1, l2, updV_eq, q1, hs, hz, hP', q2, he, augD, str1_str, hb', and_self]
        · rw [updV_eq]; unfold joinStep; rw [if_neg (by rw [hs]; simp [h0]), if_pos he]
        · rw [updV_ne (by decide)]; exact l2 _
      | false =>
        refine ⟨updV (updV σ "b" (.str b)) "path" (.str (P ++ ("/" ++ b))), ?_, ?_, ?_⟩
        · have hb2 : 1 + b.length ≤ 65536 := by lia
          have hb3 : ("/" ++ b : Str).length ≤ 65536 := by
            have : ("/" ++ b : Str).length = 1 + b.length := by
              rw [lit_slash, ← strOf_eta b, strOf_app, strOf_len, List.length_append]; rfl
            rw [this]; exact hb2
          simp only [Option.bind_some, Option.map_some, Option.bind_none, Bool.false_eq_true, if_false, if_true, Bool.false_and, Bool.and_false, Bool.true_and, Bool.and_true, Bool.false_or, Bool.or_false, Bool.not_false, Bool.not_true, List.any_cons, List.any_nil, List.length_cons, List.length_nil, beq_self_eq_true, reduceCtorEq, Nat.reduceAdd, Nat.reduceLT, Nat.reduceLeDiff, Nat.reduceBEq, decide_false, decide_true, lim, truD, bop1, bop2, eK_nil, eK_cons, eS_Expr, eS_Pass, eS_Break, eS_Continue, eS_Return, eS_ReturnN, eS_Assign, eS_AssignT, eS_Aug, eS_If, eS_While, eS_For, eS_Try, evalR, testR, eE_Constant, eE_Name, eE_BoolOp, eE_BinOp, eE_UnaryOp, eE_IfExp, eE_Compare, eE_meth0, eE_meth1, eE_call, eE_slice, eE_subN, eE_subC, eE_subU, eE_subB, eE_subS, eE_List, eE_Tuple, eE_ListComp, eA_nil, eA_star, eA_Name, eA_Constant, eA_BinOp, eA_UnaryOp, eA_Call, eA_Subscript, eA_List, eA_Tuple, eA_ListComp, eA_IfExp, eO_none, eO_some, eT_nil, eT_one, eB_one, eB_more, iT_not, iT_bool, iT_if, iT_cmp, iT_Name, iT_Call, iT_Subscript, iT_BinOp, iT_Constant, aB_nil, aB_cons, assignName, constD_none, constD_bool, constD_int, constD_str, unD_not, unD_neg, badArgs_nil, badArgs_one, badArgs_two, badArgs_three, badArgs_four, isStar_Name, isStar_Constant, isStar_BinOp, isStar_UnaryOp, isStar_Call, isStar_Subscript, isStar_Tuple, isStar_ListComp, isStar_IfExp, isStar_Compare, isStar_BoolOp, isStar_List, isStar_Starred, isSet_Name, isSet_Constant, isSet_BinOp, isSet_UnaryOp, isSet_Call, isSet_Subscript, isSet_Tuple, isSet_ListComp, isSet_IfExp, isSet_Compare, isSet_BoolOp, isSet_List, behind_Name, behind_Constant, behind_BinOp, behind_UnaryOp, behind_Call, behind_Subscript, behind_Tuple, behind_ListComp, behind_IfExp, behind_Compare, behind_BoolOp, behind_List, isNil_Name, isNil_Constant, isNil_BinOp, isNil_UnaryOp, isNil_Call, isNil_Subscript, isNil_Tuple, isNil_ListComp, isNil_IfExp, isNil_Compare, isNil_BoolOp, isNil_nil, isNil_cons, bareCall_Name, bareCall_Constant, bareCall_BinOp, bareCall_UnaryOp, bareCall_Call1, bareCall_Subscript, bareCall_Tuple, bareCall_ListComp, bareCall_IfExp, bareCall_Compare, bareCall_BoolOp, bareCall_List, usedQ_Name, usedQ_Constant, usedQ_BinOp, usedQ_UnaryOp, usedQ_Call, usedQ_Subscript, usedQ_Tuple, usedQ_ListComp, usedQ_IfExp, usedQ_Compare, usedQ_BoolOp, usedQ_List, n1, n2, n3, g1, s1, s2, e1, h3, l1, l2, updV_eq, q1, hs, hz, hP', q2, he, augD, str1_str, hb', bD_addI, bD_addS, bD_addL, bD_subI, bD_subB, bD_mulS, bD_mulL, h1l, hb2, hb3, and_self]
        · rw [updV_eq]; unfold joinStep; rw [if_neg (by rw [hs]; simp [h0]), if_neg (by rw [he]; simp)]
        · rw [updV_ne (by decide)]; exact l2 _
end
end Mine
end

/-! part Pd -/
section
open PySem PySem.W PyProof.Rows PySem.Calls
set_option maxRecDepth 100000
set_option maxHeartbeats 4000000
set_option linter.unusedVariables false
set_option linter.unusedSimpArgs false
set_option tactic.hygienic false
namespace Mine

theorem storeT_loc {x : Str} {p : Pos} {sc : Scope} {σ : Vars} {d : D} (h : sc.names.lookup x = some .local) : storeT sc (.Name x p) d ⟨σ, none⟩ = some ⟨updV σ x d, none⟩ := by
  show storeD sc x d ⟨σ, none⟩ = _
  exact storeD_loc h rfl
theorem for_run {cx : Cx} {mu : List Str} {t i : Expr} {b : List Stmt} {p : Pos} {sc : Scope} {st st' : Sto} {d : D} {ds : List D} {fl : Fl} (hset : isSet i = false) (hr : evalR cx i sc st = some (d, st')) (hi : itemsD d = some ds)
    (hf : forGo (fun st => execB cx mu b sc st) (storeT sc t) ds st' = some fl) : execS cx mu (.For t i b [] p) sc st = some fl := by
  simp only [eS_Expr, eS_Pass, eS_Break, eS_Continue, eS_Return, eS_ReturnN, eS_Assign, eS_AssignT, eS_Aug, eS_If, eS_While, eS_For, eS_Try, hset, hr, hi, Option.bind_some, Bool.false_eq_true, if_false]
  exact hf
theorem try_for {cx : Cx} {mu : List Str} {t i : Expr} {b : List Stmt} {p q : Pos} {sc : Scope} {st st' st'' : Sto} {d : D} {ds : List D} {h₀ : ExceptHandler} {hs : List ExceptHandler} (hset : isSet i = false) (hr : evalR cx i sc st = some (d, st')) (hi : itemsD d = some ds)
    (hf : forGo (fun st => execB cx mu b sc st) (storeT sc t) ds st' = some (.next st'')) : execS cx mu (.Try [.For t i b [] p] (h₀ :: hs) [] [] q) sc st = some (.next st'') := by
  simp only [eS_Expr, eS_Pass, eS_Break, eS_Continue, eS_Return, eS_ReturnN, eS_Assign, eS_AssignT, eS_Aug, eS_If, eS_While, eS_For, eS_Try]
  rw [execB_next (for_run hset hr hi hf)]
  simp only [eK_nil, eK_cons]

section
variable {call : Addr → List D → Option D} {so : List D → Option (List D)}

theorem joinStep_len (P b : Str) : (joinStep P b).length ≤ P.length + (b.length + 1) := by
  unfold joinStep
  split
  · lia
  · split
    · rw [← strOf_eta P, ← strOf_eta b, strOf_app]; simp only [strOf_len, List.length_append]; (exact Nat.le_succ _)
    · rw [lit_slash, ← strOf_eta P, ← strOf_eta b, strOf_app, strOf_app]; simp only [strOf_len, List.length_append, List.length_cons, List.length_nil]; lia

theorem join_loop (c1 : ∀ y, call 131 [.str y] = some (.str y)) {f : D → Sto → Option Sto} (hf : ∀ d σ, f d ⟨σ, none⟩ = some ⟨updV σ "b" d, none⟩) : ∀ (ps : List Str) (P : Str) (σ : Vars), P.length + (ps.map fun b => b.length + 1).sum ≤ 1000 → σ "path" = some (.str P) → σ "sep" = some (.str "/") →
    ∃ σ', forGo (fun st => execB ⟨call, gl, so⟩ f_join.mu joinB f_join.scope st) f (ps.map .str) ⟨σ, none⟩ = some (.next ⟨σ', none⟩) ∧ σ' "path" = some (.str (ps.foldl joinStep P))
  | [], P, σ, _, h1, _ => ⟨σ, rfl, h1⟩
  | b :: ps, P, σ, hz, h1, h2 => by
    rw [List.map_cons, List.sum_cons] at hz
    obtain ⟨σ1, e1, p1, p2⟩ := join_step (call := call) (so := so) (σ := updV σ "b" (.str b)) (P := P) (b := b) c1 ((updV_ne (by decide)).trans h1) ((updV_ne (by decide)).trans h2) (updV_eq ..) (by lia) (by lia)
    obtain ⟨σ2, e2, q1⟩ := join_loop c1 hf ps (joinStep P b) σ1 (by have := joinStep_len P b; lia) p1 p2
    refine ⟨σ2, ?_, q1⟩
    rw [List.map_cons]
    unfold forGo
    rw [hf]
    simp only [Option.bind_some, e1]
    exact e2

theorem r_join (c1 : ∀ y, call 131 [.str y] = some (.str y)) (c2 : ∀ y, call 145 [.str y] = some (.str "/")) (a : Str) (ps : List Str) (hn : ps.length ≤ 4) (hz : a.length + (ps.map fun b => b.length + 1).sum ≤ 1000) :
    runF ⟨call, gl, so⟩ f_join (.str a :: ps.map .str) = some (.str (ps.foldl joinStep a)) := by
  unfold runF
  have hb : f_join.bind (.str a :: ps.map .str) = some [(("a" : Str), .str a), ("p", .tup (ps.map .str))] := by
    show (if (ps.map D.str).length ≤ 4 then some [(("a" : Str), D.str a), ("p", .tup (ps.map .str))] else none) = _
    rw [if_pos (by simpa using hn)]
  rw [hb]
  have n1 : ∀ σ, nameD ⟨call, gl, so⟩ "a" f_join.scope σ = σ "a" := fun σ => nameD_loc rfl rfl
  have n2 : ∀ σ, nameD ⟨call, gl, so⟩ "p" f_join.scope σ = σ "p" := fun σ => nameD_loc rfl rfl
  have n3 : ∀ σ, nameD ⟨call, gl, so⟩ "path" f_join.scope σ = σ "path" := fun σ => nameD_loc rfl rfl
  have g1 : ∀ σ, nameD ⟨call, gl, so⟩ "fspath" f_join.scope σ = some (.glob 131) := fun σ => nameD_glo rfl rfl rfl
  have g2 : ∀ σ, nameD ⟨call, gl, so⟩ "_get_sep" f_join.scope σ = some (.glob 145) := fun σ => nameD_glo rfl rfl rfl
  have s1 : ∀ d σ, storeD f_join.scope "a" d ⟨σ, none⟩ = some ⟨updV σ "a" d, none⟩ := fun d σ => storeD_loc rfl rfl
  have s2 : ∀ d σ, storeD f_join.scope "sep" d ⟨σ, none⟩ = some ⟨updV σ "sep" d, none⟩ := fun d σ => storeD_loc rfl rfl
  have s3 : ∀ d σ, storeD f_join.scope "path" d ⟨σ, none⟩ = some ⟨updV σ "path" d, none⟩ := fun d σ => storeD_loc rfl rfl
  have e1 : ∀ y, callD ⟨call, gl, so⟩ (.glob 131) [.str y] = some (.str y) := fun y => c1 y
  have e2 : ∀ y, callD ⟨call, gl, so⟩ (.glob 145) [.str y] = some (.str "/") := fun y => c2 y
  simp only [Option.bind_some]
  obtain ⟨σ, hσ⟩ : ∃ σ : Vars, σ = fun y => [(("a" : Str), D.str a), ("p", .tup (ps.map .str))].lookup y := ⟨_, rfl⟩
  have l1 : σ "a" = some (.str a) := by rw [hσ]; rfl
  have l2 : σ "p" = some (.tup (ps.map .str)) := by rw [hσ]; rfl
  rw [← hσ]
  have hx : execB ⟨call, gl, so⟩ f_join.mu f_join.body f_join.scope ⟨σ, none⟩ = some (.ret (.str (ps.foldl joinStep a))) := by
    conv in f_join.body => whnf
    refine (execB_next (st' := ⟨updV σ "a" (.str a), none⟩) (by simp only [Option.bind_some, Option.map_some, Option.bind_none, Bool.false_eq_true, if_false, if_true, Bool.false_and, Bool.and_false, Bool.true_and, Bool.and_true, Bool.false_or, Bool.or_false, Bool.not_false, Bool.not_true, List.any_cons, List.any_nil, List.length_cons, List.length_nil, beq_self_eq_true, reduceCtorEq, Nat.reduceAdd, Nat.reduceLT, Nat.reduceLeDiff, Nat.reduceBEq, decide_false, decide_true, lim, truD, bop1, bop2, eK_nil, eK_cons, eS_Expr, eS_Pass, eS_Break, eS_Continue, eS_Return, eS_ReturnN, eS_Assign, eS_AssignT, eS_Aug, eS_If, eS_While, eS_For, eS_Try, evalR, testR, eE_Constant, eE_Name, eE_BoolOp, eE_BinOp, eE_UnaryOp, eE_IfExp, eE_Compare, eE_meth0, eE_meth1, eE_call, eE_slice, eE_subN, eE_subC, eE_subU, eE_subB, eE_subS, eE_List, eE_Tuple, eE_ListComp, eA_nil, eA_star, eA_Name, eA_Constant, eA_BinOp, eA_UnaryOp, eA_Call, eA_Subscript, eA_List, eA_Tuple, eA_ListComp, eA_IfExp, eO_none, eO_some, eT_nil, eT_one, eB_one, eB_more, iT_not, iT_bool, iT_if, iT_cmp, iT_Name, iT_Call, iT_Subscript, iT_BinOp, iT_Constant, aB_nil, aB_cons, assignName, constD_none, constD_bool, constD_int, constD_str, unD_not, unD_neg, badArgs_nil, badArgs_one, badArgs_two, badArgs_three, badArgs_four, isStar_Name, isStar_Constant, isStar_BinOp, isStar_UnaryOp, isStar_Call, isStar_Subscript, isStar_Tuple, isStar_ListComp, isStar_IfExp, isStar_Compare, isStar_BoolOp, isStar_List, isStar_Starred, isSet_Name, isSet_Constant, isSet_BinOp, isSet_UnaryOp, isSet_Call, isSet_Subscript, isSet_Tuple, isSet_ListComp, isSet_IfExp, isSet_Compare, isSet_BoolOp, isSet_List, behind_Name, behind_Constant, behind_BinOp, behind_UnaryOp, behind_Call, behind_Subscript, behind_Tuple, behind_ListComp, behind_IfExp, behind_Compare, behind_BoolOp, behind_List, isNil_Name, isNil_Constant, isNil_BinOp, isNil_UnaryOp, isNil_Call, isNil_Subscript, isNil_Tuple, isNil_ListComp, isNil_IfExp, isNil_Compare, isNil_BoolOp, isNil_nil, isNil_cons, bareCall_Name, bareCall_Constant, bareCall_BinOp, bareCall_UnaryOp, bareCall_Call1, bareCall_Subscript, bareCall_Tuple, bareCall_ListComp, bareCall_IfExp, bareCall_Compare, bareCall_BoolOp, bareCall_List, usedQ_Name, usedQ_Constant, usedQ_BinOp, usedQ_UnaryOp, usedQ_Call, usedQ_Subscript, usedQ_Tuple, usedQ_ListComp, usedQ_IfExp, usedQ_Compare, usedQ_BoolOp, usedQ_List, n1, g1, e1, l1, s1])).trans ?_
    refine (execB_next (st' := ⟨updV (updV σ "a" (.str a)) "sep" (.str "/"), none⟩) (by simp only [Option.bind_some, Option.map_some, Option.bind_none, Bool.false_eq_true, if_false, if_true, Bool.false_and, Bool.and_false, Bool.true_and, Bool.and_true, Bool.false_or, Bool.or_false, Bool.not_false, Bool.not_true, List.any_cons, List.any_nil, List.length_cons, List.length_nil, beq_self_eq_true, reduceCtorEq, Nat.reduceAdd, Nat.reduceLT, Nat.reduceLeDiff, Nat.reduceBEq, decide_false, decide_true, lim, truD, bop1, bop2, eK_nil, eK_cons, eS_Expr, eS_Pass, eS_Break, eS_Continue, eS_Return, eS_ReturnN, eS_Assign, eS_AssignT, eS_Aug, eS_If, eS_While, eS_For, eS_Try, evalR, testR, eE_Constant, eE_Name, eE_BoolOp, eE_BinOp, eE_UnaryOp, eE_IfExp, eE_Compare, eE_meth0, eE_meth1, eE_call, eE_slice, eE_subN, eE_subC, eE_subU, eE_subB, eE_subS, eE_List, eE_Tuple, eE_ListComp, eA_nil, eA_star, eA_Name, eA_Constant, eA_BinOp, eA_UnaryOp, eA_Call, eA_Subscript, eA_List, eA_Tuple, eA_ListComp, eA_IfExp, eO_none, eO_some, eT_nil, eT_one, eB_one, eB_more, iT_not, iT_bool, iT_if, iT_cmp, iT_Name, iT_Call, iT_Subscript, iT_BinOp, iT_Constant, aB_nil, aB_cons, assignName, constD_none, constD_bool, constD_int, constD_str, unD_not, unD_neg, badArgs_nil, badArgs_one, badArgs_two, badArgs_three, badArgs_four, isStar_Name, isStar_Constant, isStar_BinOp, isStar_UnaryOp, isStar_Call, isStar_Subscript, isStar_Tuple, isStar_ListComp, isStar_IfExp, isStar_Compare, isStar_BoolOp, isStar_List, isStar_Starred, isSet_Name, isSet_Constant, isSet_BinOp, isSet_UnaryOp, isSet_Call, isSet_Subscript, isSet_Tuple, isSet_ListComp, isSet_IfExp, isSet_Compare, isSet_BoolOp, isSet_List, behind_Name, behind_Constant, behind_BinOp, behind_UnaryOp, behind_Call, behind_Subscript, behind_Tuple, behind_ListComp, behind_IfExp, behind_Compare, behind_BoolOp, behind_List, isNil_Name, isNil_Constant, isNil_BinOp, isNil_UnaryOp, isNil_Call, isNil_Subscript, isNil_Tuple, isNil_ListComp, isNil_IfExp, isNil_Compare, isNil_BoolOp, isNil_nil, isNil_cons, bareCall_Name, bareCall_Constant, bareCall_BinOp, bareCall_UnaryOp, bareCall_Call1, bareCall_Subscript, bareCall_Tuple, bareCall_ListComp, bareCall_IfExp, bareCall_Compare, bareCall_BoolOp, bareCall_List, usedQ_Name, usedQ_Constant, usedQ_BinOp, usedQ_UnaryOp, usedQ_Call, usedQ_Subscript, usedQ_Tuple, usedQ_ListComp, usedQ_IfExp, usedQ_Compare, usedQ_BoolOp, usedQ_List, n1, g2, e2, updV_eq, s2])).trans ?_
    have u1 : updV (updV σ "a" (.str a)) "sep" (.str "/") "a" = some (.str a) := (updV_ne (by decide)).trans (updV_eq ..)
    refine (execB_next (st' := ⟨updV (updV (updV σ "a" (.str a)) "sep" (.str "/")) "path" (.str a), none⟩) (by simp only [Option.bind_some, Option.map_some, Option.bind_none, Bool.false_eq_true, if_false, if_true, Bool.false_and, Bool.and_false, Bool.true_and, Bool.and_true, Bool.false_or, Bool.or_false, Bool.not_false, Bool.not_true, List.any_cons, List.any_nil, List.length_cons, List.length_nil, beq_self_eq_true, reduceCtorEq, Nat.reduceAdd, Nat.reduceLT, Nat.reduceLeDiff, Nat.reduceBEq, decide_false, decide_true, lim, truD, bop1, bop2, eK_nil, eK_cons, eS_Expr, eS_Pass, eS_Break, eS_Continue, eS_Return, eS_ReturnN, eS_Assign, eS_AssignT, eS_Aug, eS_If, eS_While, eS_For, eS_Try, evalR, testR, eE_Constant, eE_Name, eE_BoolOp, eE_BinOp, eE_UnaryOp, eE_IfExp, eE_Compare, eE_meth0, eE_meth1, eE_call, eE_slice, eE_subN, eE_subC, eE_subU, eE_subB, eE_subS, eE_List, eE_Tuple, eE_ListComp, eA_nil, eA_star, eA_Name, eA_Constant, eA_BinOp, eA_UnaryOp, eA_Call, eA_Subscript, eA_List, eA_Tuple, eA_ListComp, eA_IfExp, eO_none, eO_some, eT_nil, eT_one, eB_one, eB_more, iT_not, iT_bool, iT_if, iT_cmp, iT_Name, iT_Call, iT_Subscript, iT_BinOp, iT_Constant, aB_nil, aB_cons, assignName, constD_none, constD_bool, constD_int, constD_str, unD_not, unD_neg, badArgs_nil, badArgs_one, badArgs_two, badArgs_three, badArgs_four, isStar_Name, isStar_Constant, isStar_BinOp, isStar_UnaryOp, isStar_Call, isStar_Subscript, isStar_Tuple, isStar_ListComp, isStar_IfExp, isStar_Compare, isStar_BoolOp, isStar_List, isStar_Starred, isSet_Name, isSet_Constant, isSet_BinOp, isSet_UnaryOp, isSet_Call, isSet_Subscript, isSet_Tuple, isSet_ListComp, isSet_IfExp, isSet_Compare, isSet_BoolOp, isSet_List, behind_Name, behind_Constant, behind_BinOp, behind_UnaryOp, behind_Call, behind_Subscript, behind_Tuple, behind_ListComp, behind_IfExp, behind_Compare, behind_BoolOp, behind_List, isNil_Name, isNil_Constant, isNil_BinOp, isNil_UnaryOp, isNil_Call, isNil_Subscript, isNil_Tuple, isNil_ListComp, isNil_IfExp, isNil_Compare, isNil_BoolOp, isNil_nil, isNil_cons, bareCall_Name, bareCall_Constant, bareCall_BinOp, bareCall_UnaryOp, bareCall_Call1, bareCall_Subscript, bareCall_Tuple, bareCall_ListComp, bareCall_IfExp, bareCall_Compare, bareCall_BoolOp, bareCall_List, usedQ_Name, usedQ_Constant, usedQ_BinOp, usedQ_UnaryOp, usedQ_Call, usedQ_Subscript, usedQ_Tuple, usedQ_ListComp, usedQ_IfExp, usedQ_Compare, usedQ_BoolOp, usedQ_List, n1, u1, s3])).trans ?_
    have u2 : updV (updV (updV σ "a" (.str a)) "sep" (.str "/")) "path" (.str a) "p" = some (.tup (ps.map .str)) := (updV_ne (by decide)).trans ((updV_ne (by decide)).trans ((updV_ne (by decide)).trans l2))
    have u3 : updV (updV (updV σ "a" (.str a)) "sep" (.str "/")) "path" (.str a) "sep" = some (.str "/") := (updV_ne (by decide)).trans (updV_eq ..)
    obtain ⟨σ', el, hp⟩ := join_loop (call := call) (so := so) c1 (f := storeT f_join.scope (.Name "b" _)) (fun d σ => storeT_loc rfl) ps a _ hz (updV_eq ..) u3
    refine (execB_next (st' := ⟨σ', none⟩) (try_for rfl (d := .tup (ps.map .str)) (ds := ps.map .str) (st' := ⟨updV (updV (updV σ "a" (.str a)) "sep" (.str "/")) "path" (.str a), none⟩) (by simp only [Option.bind_some, Option.map_some, Option.bind_none, Bool.false_eq_true, if_false, if_true, Bool.false_and, Bool.and_false, Bool.true_and, Bool.and_true, Bool.false_or, Bool.or_false, Bool.not_false, Bool.not_true, List.any_cons, List.any_nil, List.length_cons, List.length_nil, beq_self_eq_true, reduceCtorEq, Nat.reduceAdd, Nat.reduceLT, Nat.reduceLeDiff, Nat.reduceBEq, decide_false, decide_true, lim, truD, bop1, bop2, eK_nil, eK_cons, eS_Expr, eS_Pass, eS_Break, eS_Continue, eS_Return, eS_ReturnN, eS_Assign, eS_AssignT, eS_Aug, eS_If, eS_While, eS_For, eS_Try, evalR, testR, eE_Constant, eE_Name, eE_BoolOp, eE_BinOp, eE_UnaryOp, eE_IfExp, eE_Compare, eE_meth0, eE_meth1, eE_call, eE_slice, eE_subN, eE_subC, eE_subU, eE_subB, eE_subS, eE_List, eE_Tuple, eE_ListComp, eA_nil, eA_star, eA_Name, eA_Constant, eA_BinOp, eA_UnaryOp, eA_Call, eA_Subscript, eA_List, eA_Tuple, eA_ListComp, eA_IfExp, eO_none, eO_some, eT_nil, eT_one, eB_one, eB_more, iT_not, iT_bool, iT_if, iT_cmp, iT_Name, iT_Call, iT_Subscript, iT_BinOp, iT_Constant, aB_nil, aB_cons, assignName, constD_none, constD_bool, constD_int, constD_str, unD_not, unD_neg, badArgs_nil, badArgs_one, badArgs_two, badArgs_three, badArgs_four, isStar_Name, isStar_Constant, isStar_BinOp, isStar_UnaryOp, isStar_Call, isStar_Subscript, isStar_Tuple, isStar_ListComp, isStar_IfExp, isStar_Compare, isStar_BoolOp, isStar_List, isStar_Starred, isSet_Name, isSet_Constant, isSet_BinOp, isSet_UnaryOp, isSet_Call, isSet_Subscript, isSet_Tuple, isSet_ListComp, isSet_IfExp, isSet_Compare, isSet_BoolOp, isSet_List, behind_Name, behind_Constant, behind_BinOp, behind_UnaryOp, behind_Call, behind_Subscript, behind_Tuple, behind_ListComp, behind_IfExp, behind_Compare, behind_BoolOp, behind_List, isNil_Name, isNil_Constant, isNil_BinOp, isNil_UnaryOp, isNil_Call, isNil_Subscript, isNil_Tuple, isNil_ListComp, isNil_IfExp, isNil_Compare, isNil_BoolOp, isNil_nil, isNil_cons, bareCall_Name, bareCall_Constant, bareCall_BinOp, bareCall_UnaryOp, bareCall_Call1, bareCall_Subscript, bareCall_Tuple, bareCall_ListComp, bareCall_IfExp, bareCall_Compare, bareCall_BoolOp, bareCall_List, usedQ_Name, usedQ_Constant, usedQ_BinOp, usedQ_UnaryOp, usedQ_Call, usedQ_Subscript, usedQ_Tuple, usedQ_ListComp, usedQ_IfExp, usedQ_Compare, usedQ_BoolOp, usedQ_List, n2, u2]) (by show (if (ps.map D.str).length ≤ lim then some (ps.map D.str) else none) = _; rw [if_pos (by rw [List.length_map]; show _ ≤ 65536; lia)]) el)).trans ?_
    simp only [Option.bind_some, Option.map_some, Option.bind_none, Bool.false_eq_true, if_false, if_true, Bool.false_and, Bool.and_false, Bool.true_and, Bool.and_true, Bool.false_or, Bool.or_false, Bool.not_false, Bool.not_true, List.any_cons, List.any_nil, List.length_cons, List.length_nil, beq_self_eq_true, reduceCtorEq, Nat.reduceAdd, Nat.reduceLT, Nat.reduceLeDiff, Nat.reduceBEq, decide_false, decide_true, lim, truD, bop1, bop2, eK_nil, eK_cons, eS_Expr, eS_Pass, eS_Break, eS_Continue, eS_Return, eS_ReturnN, eS_Assign, eS_AssignT, eS_Aug, eS_If, eS_While, eS_For, eS_Try, evalR, testR, eE_Constant, eE_Name, eE_BoolOp, eE_BinOp, eE_UnaryOp, eE_IfExp, eE_Compare, eE_meth0, eE_meth1, eE_call, eE_slice, eE_subN, eE_subC, eE_subU, eE_subB, eE_subS, eE_List, eE_Tuple, eE_ListComp, eA_nil, eA_star, eA_Name, eA_Constant, eA_BinOp, eA_UnaryOp, eA_Call, eA_Subscript, eA_List, eA_Tuple, eA_ListComp, eA_IfExp, eO_none, eO_some, eT_nil, eT_one, eB_one, eB_more, iT_not, iT_bool, iT_if, iT_cmp, iT_Name, iT_Call, iT_Subscript, iT_BinOp, iT_Constant, aB_nil, aB_cons, assignName, constD_none, constD_bool, constD_int, constD_str, unD_not, unD_neg, badArgs_nil, badArgs_one, badArgs_two, badArgs_three, badArgs_four, isStar_Name, isStar_Constant, isStar_BinOp, isStar_UnaryOp, isStar_Call, isStar_Subscript, isStar_Tuple, isStar_ListComp, isStar_IfExp, isStar_Compare, isStar_BoolOp, isStar_List, isStar_Starred, isSet_Name, isSet_Constant, isSet_BinOp, isSet_UnaryOp, isSet_Call, isSet_Subscript, isSet_Tuple, isSet_ListComp, isSet_IfExp, isSet_Compare, isSet_BoolOp, isSet_List, behind_Name, behind_Constant, behind_BinOp, behind_UnaryOp, behind_Call, behind_Subscript, behind_Tuple, behind_ListComp, behind_IfExp, behind_Compare, behind_BoolOp, behind_List, isNil_Name, isNil_Constant, isNil_BinOp, isNil_UnaryOp, isNil_Call, isNil_Subscript, isNil_Tuple, isNil_ListComp, isNil_IfExp, isNil_Compare, isNil_BoolOp, isNil_nil, isNil_cons, bareCall_Name, bareCall_Constant, bareCall_BinOp, bareCall_UnaryOp, bareCall_Call1, bareCall_Subscript, bareCall_Tuple, bareCall_ListComp, bareCall_IfExp, bareCall_Compare, bareCall_BoolOp, bareCall_List, usedQ_Name, usedQ_Constant, usedQ_BinOp, usedQ_UnaryOp, usedQ_Call, usedQ_Subscript, usedQ_Tuple, usedQ_ListComp, usedQ_IfExp, usedQ_Compare, usedQ_BoolOp, usedQ_List, n3, hp]
  rw [hx]; rfl
end
end Mine
end

/-! part Pe -/
section
open PySem PySem.W PyProof.Rows PySem.Calls
set_option maxRecDepth 100000
set_option maxHeartbeats 4000000
set_option linter.unusedVariables false
set_option linter.unusedSimpArgs false
set_option tactic.hygienic false
namespace Mine

section
variable {call : Addr → List D → Option D} {so : List D → Option (List D)}

noncomputable def headE (x : Str) : Option D := slD (.str x) .none (.int (Txt.rfind x "/" + 1))
noncomputable def dirE (x : Str) : Option D :=
  (headE x).bind fun h => (truD h).bind fun b => if b then (lenD h).bind fun n => (binD .Mult (.str "/") n).bind fun m => (ccD .NotEq h m).bind fun c => if c then met1 "rstrip" h (.str "/") else some h else some h
noncomputable def baseE (x : Str) : Option D := slD (.str x) (.int (Txt.rfind x "/" + 1)) .none

theorem r_dirname {x : Str} {d : D} (c1 : ∀ y, call 131 [.str y] = some (.str y)) (c2 : ∀ y, call 145 [.str y] = some (.str "/")) (hx : x.length ≤ 1000) (h : dirE x = some d) : runF ⟨call, gl, so⟩ f_dirname [.str x] = some d := by
  unfold runF
  rw [show f_dirname.bind [.str x] = some [(("p" : Str), .str x)] from rfl]
  have n1 : ∀ σ, nameD ⟨call, gl, so⟩ "p" f_dirname.scope σ = σ "p" := fun σ => nameD_loc rfl rfl
  have n2 : ∀ σ, nameD ⟨call, gl, so⟩ "sep" f_dirname.scope σ = σ "sep" := fun σ => nameD_loc rfl rfl
  have n3 : ∀ σ, nameD ⟨call, gl, so⟩ "i" f_dirname.scope σ = σ "i" := fun σ => nameD_loc rfl rfl
  have n4 : ∀ σ, nameD ⟨call, gl, so⟩ "head" f_dirname.scope σ = σ "head" := fun σ => nameD_loc rfl rfl
  have g1 : ∀ σ, nameD ⟨call, gl, so⟩ "fspath" f_dirname.scope σ = some (.glob 131) := fun σ => nameD_glo rfl rfl rfl
  have g2 : ∀ σ, nameD ⟨call, gl, so⟩ "_get_sep" f_dirname.scope σ = some (.glob 145) := fun σ => nameD_glo rfl rfl rfl
  have g3 : ∀ σ, nameD ⟨call, gl, so⟩ "len" f_dirname.scope σ = some (.bi "len") := fun σ => nameD_glo rfl rfl rfl
  have s1 : ∀ d σ, storeD f_dirname.scope "p" d ⟨σ, none⟩ = some ⟨updV σ "p" d, none⟩ := fun d σ => storeD_loc rfl rfl
  have s2 : ∀ d σ, storeD f_dirname.scope "sep" d ⟨σ, none⟩ = some ⟨updV σ "sep" d, none⟩ := fun d σ => storeD_loc rfl rfl
  have s3 : ∀ d σ, storeD f_dirname.scope "i" d ⟨σ, none⟩ = some ⟨updV σ "i" d, none⟩ := fun d σ => storeD_loc rfl rfl
  have s4 : ∀ d σ, storeD f_dirname.scope "head" d ⟨σ, none⟩ = some ⟨updV σ "head" d, none⟩ := fun d σ => storeD_loc rfl rfl
  have e1 : ∀ y, callD ⟨call, gl, so⟩ (.glob 131) [.str y] = some (.str y) := fun y => c1 y
  have e2 : ∀ y, callD ⟨call, gl, so⟩ (.glob 145) [.str y] = some (.str "/") := fun y => c2 y
  have e3 : ∀ d, callD ⟨call, gl, so⟩ (.bi "len") [d] = lenD d := fun y => rfl
  simp only [Option.bind_some]
  obtain ⟨σ, hσ⟩ : ∃ σ : Vars, σ = fun y => [(("p" : Str), D.str x)].lookup y := ⟨_, rfl⟩
  have l1 : σ "p" = some (.str x) := by rw [hσ]; rfl
  rw [← hσ]
  have hx' : x.length ≤ lim := by show _ ≤ 65536; omega
  have q1 := m1_rfind (x := x) (y := "/") hx'
  unfold dirE at h
  obtain ⟨hd, h1, h⟩ := bind_some h
  obtain ⟨b, h2, h⟩ := bind_some h
  have h1' : slD (.str x) .none (.int (Txt.rfind x "/" + 1)) = some hd := h1
  have hx : execB ⟨call, gl, so⟩ f_dirname.mu f_dirname.body f_dirname.scope ⟨σ, none⟩ = some (.ret d) := by
    conv in f_dirname.body => whnf
    refine (execB_next (st' := ⟨updV σ "p" (.str x), none⟩) (by simp only [Option.bind_some, Option.map_some, Option.bind_none, Bool.false_eq_true, if_false, if_true, Bool.false_and, Bool.and_false, Bool.true_and, Bool.and_true, Bool.false_or, Bool.or_false, Bool.not_false, Bool.not_true, List.any_cons, List.any_nil, List.length_cons, List.length_nil, beq_self_eq_true, reduceCtorEq, Nat.reduceAdd, Nat.reduceLT, Nat.reduceLeDiff, Nat.reduceBEq, decide_false, decide_true, lim, truD, bop1, bop2, eK_nil, eK_cons, eS_Expr, eS_Pass, eS_Break, eS_Continue, eS_Return, eS_ReturnN, eS_Assign, eS_AssignT, eS_Aug, eS_If, eS_While, eS_For, eS_Try, evalR, testR, eE_Constant, eE_Name, eE_BoolOp, eE_BinOp, eE_UnaryOp, eE_IfExp, eE_Compare, eE_meth0, eE_meth1, eE_call, eE_slice, eE_subN, eE_subC, eE_subU, eE_subB, eE_subS, eE_List, eE_Tuple, eE_ListComp, eA_nil, eA_star, eA_Name, eA_Constant, eA_BinOp, eA_UnaryOp, eA_Call, eA_Subscript, eA_List, eA_Tuple, eA_ListComp, eA_IfExp, eO_none, eO_some, eT_nil, eT_one, eB_one, eB_more, iT_not, iT_bool, iT_if, iT_cmp, iT_Name, iT_Call, iT_Subscript, iT_BinOp, iT_Constant, aB_nil, aB_cons, assignName, constD_none, constD_bool, constD_int, constD_str, unD_not, unD_neg, badArgs_nil, badArgs_one, badArgs_two, badArgs_three, badArgs_four, isStar_Name, isStar_Constant, isStar_BinOp, isStar_UnaryOp, isStar_Call, isStar_Subscript, isStar_Tuple, isStar_ListComp, isStar_IfExp, isStar_Compare, isStar_BoolOp, isStar_List, isStar_Starred, isSet_Name, isSet_Constant, isSet_BinOp, isSet_UnaryOp, isSet_Call, isSet_Subscript, isSet_Tuple, isSet_ListComp, isSet_IfExp, isSet_Compare, isSet_BoolOp, isSet_List, behind_Name, behind_Constant, behind_BinOp, behind_UnaryOp, behind_Call, behind_Subscript, behind_Tuple, behind_ListComp, behind_IfExp, behind_Compare, behind_BoolOp, behind_List, isNil_Name, isNil_Constant, isNil_BinOp, isNil_UnaryOp, isNil_Call, isNil_Subscript, isNil_Tuple, isNil_ListComp, isNil_IfExp, isNil_Compare, isNil_BoolOp, isNil_nil, isNil_cons, bareCall_Name, bareCall_Constant, bareCall_BinOp, bareCall_UnaryOp, bareCall_Call1, bareCall_Subscript, bareCall_Tuple, bareCall_ListComp, bareCall_IfExp, bareCall_Compare, bareCall_BoolOp, bareCall_List, usedQ_Name, usedQ_Constant, usedQ_BinOp, usedQ_UnaryOp, usedQ_Call, usedQ_Subscript, usedQ_Tuple, usedQ_ListComp, usedQ_IfExp, usedQ_Compare, usedQ_BoolOp, usedQ_List, n1, g1, e1, l1, s1])).trans ?_
    refine (execB_next (st' := ⟨updV (updV σ "p" (.str x)) "sep" (.str "/"), none⟩) (by simp only [Option.bind_some, Option.map_some, Option.bind_none, Bool.false_eq_true, if_false, if_true, Bool.false_and, Bool.and_false, Bool.true_and, Bool.and_true, Bool.false_or, Bool.or_false, Bool.not_false, Bool.not_true, List.any_cons, List.any_nil, List.length_cons, List.length_nil, beq_self_eq_true, reduceCtorEq, Nat.reduceAdd, Nat.reduceLT, Nat.reduceLeDiff, Nat.reduceBEq, decide_false, decide_true, lim, truD, bop1, bop2, eK_nil, eK_cons, eS_Expr, eS_Pass, eS_Break, eS_Continue, eS_Return, eS_ReturnN, eS_Assign, eS_AssignT, eS_Aug, eS_If, eS_While, eS_For, eS_Try, evalR, testR, eE_Constant, eE_Name, eE_BoolOp, eE_BinOp, eE_UnaryOp, eE_IfExp, eE_Compare, eE_meth0, eE_meth1, eE_call, eE_slice, eE_subN, eE_subC, eE_subU, eE_subB, eE_subS, eE_List, eE_Tuple, eE_ListComp, eA_nil, eA_star, eA_Name, eA_Constant, eA_BinOp, eA_UnaryOp, eA_Call, eA_Subscript, eA_List, eA_Tuple, eA_ListComp, eA_IfExp, eO_none, eO_some, eT_nil, eT_one, eB_one, eB_more, iT_not, iT_bool, iT_if, iT_cmp, iT_Name, iT_Call, iT_Subscript, iT_BinOp, iT_Constant, aB_nil, aB_cons, assignName, constD_none, constD_bool, constD_int, constD_str, unD_not, unD_neg, badArgs_nil, badArgs_one, badArgs_two, badArgs_three, badArgs_four, isStar_Name, isStar_Constant, isStar_BinOp, isStar_UnaryOp, isStar_Call, isStar_Subscript, isStar_Tuple, isStar_ListComp, isStar_IfExp, isStar_Compare, isStar_BoolOp, isStar_List, isStar_Starred, isSet_Name, isSet_Constant, isSet_BinOp, isSet_UnaryOp, isSet_Call, isSet_Subscript, isSet_Tuple, isSet_ListComp, isSet_IfExp, isSet_Compare, isSet_BoolOp, isSet_List, behind_Name, behind_Constant, behind_BinOp, behind_UnaryOp, behind_Call, behind_Subscript, behind_Tuple, behind_ListComp, behind_IfExp, behind_Compare, behind_BoolOp, behind_List, isNil_Name, isNil_Constant, isNil_BinOp, isNil_UnaryOp, isNil_Call, isNil_Subscript, isNil_Tuple, isNil_ListComp, isNil_IfExp, isNil_Compare, isNil_BoolOp, isNil_nil, isNil_cons, bareCall_Name, bareCall_Constant, bareCall_BinOp, bareCall_UnaryOp, bareCall_Call1, bareCall_Subscript, bareCall_Tuple, bareCall_ListComp, bareCall_IfExp, bareCall_Compare, bareCall_BoolOp, bareCall_List, usedQ_Name, usedQ_Constant, usedQ_BinOp, usedQ_UnaryOp, usedQ_Call, usedQ_Subscript, usedQ_Tuple, usedQ_ListComp, usedQ_IfExp, usedQ_Compare, usedQ_BoolOp, usedQ_List, n1, g2, e2, updV_eq, s2])).trans ?_
    have u1 : updV (updV σ "p" (.str x)) "sep" (.str "/") "p" = some (.str x) := (updV_ne (by decide)).trans (updV_eq ..)
    have u2 : updV (updV σ "p" (.str x)) "sep" (.str "/") "sep" = some (.str "/") := updV_eq ..
    generalize updV (updV σ "p" (.str x)) "sep" (.str "/") = τ at u1 u2
    refine (execB_next (st' := ⟨updV τ "i" (.int (Txt.rfind x "/" + 1)), none⟩) (by simp only [Option.bind_some, Option.map_some, Option.bind_none, Bool.false_eq_true, if_false, if_true, Bool.false_and, Bool.and_false, Bool.true_and, Bool.and_true, Bool.false_or, Bool.or_false, Bool.not_false, Bool.not_true, List.any_cons, List.any_nil, List.length_cons, List.length_nil, beq_self_eq_true, reduceCtorEq, Nat.reduceAdd, Nat.reduceLT, Nat.reduceLeDiff, Nat.reduceBEq, decide_false, decide_true, lim, truD, bop1, bop2, eK_nil, eK_cons, eS_Expr, eS_Pass, eS_Break, eS_Continue, eS_Return, eS_ReturnN, eS_Assign, eS_AssignT, eS_Aug, eS_If, eS_While, eS_For, eS_Try, evalR, testR, eE_Constant, eE_Name, eE_BoolOp, eE_BinOp, eE_UnaryOp, eE_IfExp, eE_Compare, eE_meth0, eE_meth1, eE_call, eE_slice, eE_subN, eE_subC, eE_subU, eE_subB, eE_subS, eE_List, eE_Tuple, eE_ListComp, eA_nil, eA_star, eA_Name, eA_Constant, eA_BinOp, eA_UnaryOp, eA_Call, eA_Subscript, eA_List, eA_Tuple, eA_ListComp, eA_IfExp, eO_none, eO_some, eT_nil, eT_one, eB_one, eB_more, iT_not, iT_bool, iT_if, iT_cmp, iT_Name, iT_Call, iT_Subscript, iT_BinOp, iT_Constant, aB_nil, aB_cons, assignName, constD_none, constD_bool, constD_int, constD_str, unD_not, unD_neg, badArgs_nil, badArgs_one, badArgs_two, badArgs_three, badArgs_four, isStar_Name, isStar_Constant, isStar_BinOp, isStar_UnaryOp, isStar_Call, isStar_Subscript, isStar_Tuple, isStar_ListComp, isStar_IfExp, isStar_Compare, isStar_BoolOp, isStar_List, isStar_Starred, isSet_Name, isSet_Constant, isSet_BinOp, isSet_UnaryOp, isSet_Call, isSet_Subscript, isSet_Tuple, isSet_ListComp, isSet_IfExp, isSet_Compare, isSet_BoolOp, isSet_List, behind_Name, behind_Constant, behind_BinOp, behind_UnaryOp, behind_Call, behind_Subscript, behind_Tuple, behind_ListComp, behind_IfExp, behind_Compare, behind_BoolOp, behind_List, isNil_Name, isNil_Constant, isNil_BinOp, isNil_UnaryOp, isNil_Call, isNil_Subscript, isNil_Tuple, isNil_ListComp, isNil_IfExp, isNil_Compare, isNil_BoolOp, isNil_nil, isNil_cons, bareCall_Name, bareCall_Constant, bareCall_BinOp, bareCall_UnaryOp, bareCall_Call1, bareCall_Subscript, bareCall_Tuple, bareCall_ListComp, bareCall_IfExp, bareCall_Compare, bareCall_BoolOp, bareCall_List, usedQ_Name, usedQ_Constant, usedQ_BinOp, usedQ_UnaryOp, usedQ_Call, usedQ_Subscript, usedQ_Tuple, usedQ_ListComp, usedQ_IfExp, usedQ_Compare, usedQ_BoolOp, usedQ_List, n1, n2, u1, u2, q1, bD_addI, bD_addS, bD_addL, bD_subI, bD_subB, bD_mulS, bD_mulL, s3])).trans ?_
    have v1 : updV τ "i" (.int (Txt.rfind x "/" + 1)) "p" = some (.str x) := (updV_ne (by decide)).trans u1
    have v2 : updV τ "i" (.int (Txt.rfind x "/" + 1)) "sep" = some (.str "/") := (updV_ne (by decide)).trans u2
    have v3 : updV τ "i" (.int (Txt.rfind x "/" + 1)) "i" = some (.int (Txt.rfind x "/" + 1)) := updV_eq ..
    generalize updV τ "i" (.int (Txt.rfind x "/" + 1)) = τ at v1 v2 v3
    refine (execB_next (st' := ⟨updV τ "head" hd, none⟩) (by simp only [Option.bind_some, Option.map_some, Option.bind_none, Bool.false_eq_true, if_false, if_true, Bool.false_and, Bool.and_false, Bool.true_and, Bool.and_true, Bool.false_or, Bool.or_false, Bool.not_false, Bool.not_true, List.any_cons, List.any_nil, List.length_cons, List.length_nil, beq_self_eq_true, reduceCtorEq, Nat.reduceAdd, Nat.reduceLT, Nat.reduceLeDiff, Nat.reduceBEq, decide_false, decide_true, lim, truD, bop1, bop2, eK_nil, eK_cons, eS_Expr, eS_Pass, eS_Break, eS_Continue, eS_Return, eS_ReturnN, eS_Assign, eS_AssignT, eS_Aug, eS_If, eS_While, eS_For, eS_Try, evalR, testR, eE_Constant, eE_Name, eE_BoolOp, eE_BinOp, eE_UnaryOp, eE_IfExp, eE_Compare, eE_meth0, eE_meth1, eE_call, eE_slice, eE_subN, eE_subC, eE_subU, eE_subB, eE_subS, eE_List, eE_Tuple, eE_ListComp, eA_nil, eA_star, eA_Name, eA_Constant, eA_BinOp, eA_UnaryOp, eA_Call, eA_Subscript, eA_List, eA_Tuple, eA_ListComp, eA_IfExp, eO_none, eO_some, eT_nil, eT_one, eB_one, eB_more, iT_not, iT_bool, iT_if, iT_cmp, iT_Name, iT_Call, iT_Subscript, iT_BinOp, iT_Constant, aB_nil, aB_cons, assignName, constD_none, constD_bool, constD_int, constD_str, unD_not, unD_neg, badArgs_nil, badArgs_one, badArgs_two, badArgs_three, badArgs_four, isStar_Name, isStar_Constant, isStar_BinOp, isStar_UnaryOp, isStar_Call, isStar_Subscript, isStar_Tuple, isStar_ListComp, isStar_IfExp, isStar_Compare, isStar_BoolOp, isStar_List, isStar_Starred, isSet_Name, isSet_Constant, isSet_BinOp, isSet_UnaryOp, isSet_Call, isSet_Subscript, isSet_Tuple, isSet_ListComp, isSet_IfExp, isSet_Compare, isSet_BoolOp, isSet_List, behind_Name, behind_Constant, behind_BinOp, behind_UnaryOp, behind_Call, behind_Subscript, behind_Tuple, behind_ListComp, behind_IfExp, behind_Compare, behind_BoolOp, behind_List, isNil_Name, isNil_Constant, isNil_BinOp, isNil_UnaryOp, isNil_Call, isNil_Subscript, isNil_Tuple, isNil_ListComp, isNil_IfExp, isNil_Compare, isNil_BoolOp, isNil_nil, isNil_cons, bareCall_Name, bareCall_Constant, bareCall_BinOp, bareCall_UnaryOp, bareCall_Call1, bareCall_Subscript, bareCall_Tuple, bareCall_ListComp, bareCall_IfExp, bareCall_Compare, bareCall_BoolOp, bareCall_List, usedQ_Name, usedQ_Constant, usedQ_BinOp, usedQ_UnaryOp, usedQ_Call, usedQ_Subscript, usedQ_Tuple, usedQ_ListComp, usedQ_IfExp, usedQ_Compare, usedQ_BoolOp, usedQ_List, n1, n3, v1, v3, h1', s4])).trans ?_
    have w2 : updV τ "head" hd "sep" = some (.str "/") := (updV_ne (by decide)).trans v2
    have w3 : updV τ "head" hd "head" = some hd := updV_eq ..
    generalize updV τ "head" hd = τ at w2 w3
    have h2' := h2
    unfold truD at h2'
    cases b with
    | false =>
      simp only [Bool.false_eq_true, if_false] at h
      cases h
      refine (execB_next (st' := ⟨τ, none⟩) ?_).trans (by simp only [Option.bind_some, Option.map_some, Option.bind_none, Bool.false_eq_true, if_false, if_true, Bool.false_and, Bool.and_false, Bool.true_and, Bool.and_true, Bool.false_or, Bool.or_false, Bool.not_false, Bool.not_true, List.any_cons, List.any_nil, List.length_cons, List.length_nil, beq_self_eq_true, reduceCtorEq, Nat.reduceAdd, Nat.reduceLT, Nat.reduceLeDiff, Nat.reduceBEq, decide_false, decide_true, lim, truD, bop1, bop2, eK_nil, eK_cons, eS_Expr, eS_Pass, eS_Break, eS_Continue, eS_Return, eS_ReturnN, eS_Assign, eS_AssignT, eS_Aug, eS_If, eS_While, eS_For, eS_Try, evalR, testR, eE_Constant, eE_Name, eE_BoolOp, eE_BinOp, eE_UnaryOp, eE_IfExp, eE_Compare, eE_meth0, eE_meth1, eE_call, eE_slice, eE_subN, eE_subC, eE_subU, eE_subB, eE_subS, eE_List, eE_Tuple, eE_ListComp, eA_nil, eA_star, eA_Name, eA_Constant, eA_BinOp, eA_UnaryOp, eA_Call, eA_Subscript, eA_List, eA_Tuple, eA_ListComp, eA_IfExp, eO_none, eO_some, eT_nil, eT_one, eB_one, eB_more, iT_not, iT_bool, iT_if, iT_cmp, iT_Name, iT_Call, iT_Subscript, iT_BinOp, iT_Constant, aB_nil, aB_cons, assignName, constD_none, constD_bool, constD_int, constD_str, unD_not, unD_neg, badArgs_nil, badArgs_one, badArgs_two, badArgs_three, badArgs_four, isStar_Name, isStar_Constant, isStar_BinOp, isStar_UnaryOp, isStar_Call, isStar_Subscript, isStar_Tuple, isStar_ListComp, isStar_IfExp, isStar_Compare, isStar_BoolOp, isStar_List, isStar_Starred, isSet_Name, isSet_Constant, isSet_BinOp, isSet_UnaryOp, isSet_Call, isSet_Subscript, isSet_Tuple, isSet_ListComp, isSet_IfExp, isSet_Compare, isSet_BoolOp, isSet_List, behind_Name, behind_Constant, behind_BinOp, behind_UnaryOp, behind_Call, behind_Subscript, behind_Tuple, behind_ListComp, behind_IfExp, behind_Compare, behind_BoolOp, behind_List, isNil_Name, isNil_Constant, isNil_BinOp, isNil_UnaryOp, isNil_Call, isNil_Subscript, isNil_Tuple, isNil_ListComp, isNil_IfExp, isNil_Compare, isNil_BoolOp, isNil_nil, isNil_cons, bareCall_Name, bareCall_Constant, bareCall_BinOp, bareCall_UnaryOp, bareCall_Call1, bareCall_Subscript, bareCall_Tuple, bareCall_ListComp, bareCall_IfExp, bareCall_Compare, bareCall_BoolOp, bareCall_List, usedQ_Name, usedQ_Constant, usedQ_BinOp, usedQ_UnaryOp, usedQ_Call, usedQ_Subscript, usedQ_Tuple, usedQ_ListComp, usedQ_IfExp, usedQ_Compare, usedQ_BoolOp, usedQ_List, n4, w3])
      have : allB ⟨call, gl, so⟩ = allB ⟨call, gl, so⟩ := rfl
      simp only [eS_Expr, eS_Pass, eS_Break, eS_Continue, eS_Return, eS_ReturnN, eS_Assign, eS_AssignT, eS_Aug, eS_If, eS_While, eS_For, eS_Try, testR, iT_not, iT_bool, iT_if, iT_cmp, iT_Name, iT_Call, iT_Subscript, iT_BinOp, iT_Constant, aB_nil, aB_cons, eE_Constant, eE_Name, eE_BoolOp, eE_BinOp, eE_UnaryOp, eE_IfExp, eE_Compare, eE_meth0, eE_meth1, eE_call, eE_slice, eE_subN, eE_subC, eE_subU, eE_subB, eE_subS, eE_List, eE_Tuple, eE_ListComp, n4, w3, Option.bind_some, h2, bop1, bop2, if_true, if_false, Bool.false_eq_true, eK_nil, eK_cons]
    | true =>
      simp only [if_true] at h
      obtain ⟨n, h3, h⟩ := bind_some h
      obtain ⟨m, h4, h⟩ := bind_some h
      obtain ⟨c, h5, h⟩ := bind_some h
      have hcond : testR ⟨call, gl, so⟩ = testR ⟨call, gl, so⟩ := rfl
      cases c with
      | false =>
        simp only [Bool.false_eq_true, if_false] at h
        cases h
        refine (execB_next (st' := ⟨τ, none⟩) ?_).trans (by simp only [Option.bind_some, Option.map_some, Option.bind_none, Bool.false_eq_true, if_false, if_true, Bool.false_and, Bool.and_false, Bool.true_and, Bool.and_true, Bool.false_or, Bool.or_false, Bool.not_false, Bool.not_true, List.any_cons, List.any_nil, List.length_cons, List.length_nil, beq_self_eq_true, reduceCtorEq, Nat.reduceAdd, Nat.reduceLT, Nat.reduceLeDiff, Nat.reduceBEq, decide_false, decide_true, lim, truD, bop1, bop2, eK_nil, eK_cons, eS_Expr, eS_Pass, eS_Break, eS_Continue, eS_Return, eS_ReturnN, eS_Assign, eS_AssignT, eS_Aug, eS_If, eS_While, eS_For, eS_Try, evalR, testR, eE_Constant, eE_Name, eE_BoolOp, eE_BinOp, eE_UnaryOp, eE_IfExp, eE_Compare, eE_meth0, eE_meth1, eE_call, eE_slice, eE_subN, eE_subC, eE_subU, eE_subB, eE_subS, eE_List, eE_Tuple, eE_ListComp, eA_nil, eA_star, eA_Name, eA_Constant, eA_BinOp, eA_UnaryOp, eA_Call, eA_Subscript, eA_List, eA_Tuple, eA_ListComp, eA_IfExp, eO_none, eO_some, eT_nil, eT_one, eB_one, eB_more, iT_not, iT_bool, iT_if, iT_cmp, iT_Name, iT_Call, iT_Subscript, iT_BinOp, iT_Constant, aB_nil, aB_cons, assignName, constD_none, constD_bool, constD_int, constD_str, unD_not, unD_neg, badArgs_nil, badArgs_one, badArgs_two, badArgs_three, badArgs_four, isStar_Name, isStar_Constant, isStar_BinOp, isStar_UnaryOp, isStar_Call, isStar_Subscript, isStar_Tuple, isStar_ListComp, isStar_IfExp, isStar_Compare, isStar_BoolOp, isStar_List, isStar_Starred, isSet_Name, isSet_Constant, isSet_BinOp, isSet_UnaryOp, isSet_Call, isSet_Subscript, isSet_Tuple, isSet_ListComp, isSet_IfExp, isSet_Compare, isSet_BoolOp, isSet_List, behind_Name, behind_Constant, behind_BinOp, behind_UnaryOp, behind_Call, behind_Subscript, behind_Tuple, behind_ListComp, behind_IfExp, behind_Compare, behind_BoolOp, behind_List, isNil_Name, isNil_Constant, isNil_BinOp, isNil_UnaryOp, isNil_Call, isNil_Subscript, isNil_Tuple, isNil_ListComp, isNil_IfExp, isNil_Compare, isNil_BoolOp, isNil_nil, isNil_cons, bareCall_Name, bareCall_Constant, bareCall_BinOp, bareCall_UnaryOp, bareCall_Call1, bareCall_Subscript, bareCall_Tuple, bareCall_ListComp, bareCall_IfExp, bareCall_Compare, bareCall_BoolOp, bareCall_List, usedQ_Name, usedQ_Constant, usedQ_BinOp, usedQ_UnaryOp, usedQ_Call, usedQ_Subscript, usedQ_Tuple, usedQ_ListComp, usedQ_IfExp, usedQ_Compare, usedQ_BoolOp, usedQ_List, n4, w3])
        simp only [eS_Expr, eS_Pass, eS_Break, eS_Continue, eS_Return, eS_ReturnN, eS_Assign, eS_AssignT, eS_Aug, eS_If, eS_While, eS_For, eS_Try, testR, iT_not, iT_bool, iT_if, iT_cmp, iT_Name, iT_Call, iT_Subscript, iT_BinOp, iT_Constant, aB_nil, aB_cons, eE_Constant, eE_Name, eE_BoolOp, eE_BinOp, eE_UnaryOp, eE_IfExp, eE_Compare, eE_meth0, eE_meth1, eE_call, eE_slice, eE_subN, eE_subC, eE_subU, eE_subB, eE_subS, eE_List, eE_Tuple, eE_ListComp, eA_nil, eA_star, eA_Name, eA_Constant, eA_BinOp, eA_UnaryOp, eA_Call, eA_Subscript, eA_List, eA_Tuple, eA_ListComp, eA_IfExp, n2, n4, w2, w3, g3, e3, Option.bind_some, h2, h3, h4, h5, bop1, bop2, if_true, if_false, Bool.false_eq_true, eK_nil, eK_cons, behind_Name, behind_Constant, behind_BinOp, behind_UnaryOp, behind_Call, behind_Subscript, behind_Tuple, behind_ListComp, behind_IfExp, behind_Compare, behind_BoolOp, behind_List, badArgs_nil, badArgs_one, badArgs_two, badArgs_three, badArgs_four, List.length_cons, List.length_nil, List.any_cons, List.any_nil, isStar_Name, isStar_Constant, isStar_BinOp, isStar_UnaryOp, isStar_Call, isStar_Subscript, isStar_Tuple, isStar_ListComp, isStar_IfExp, isStar_Compare, isStar_BoolOp, isStar_List, isStar_Starred, Bool.or_false, Bool.and_false, decide_false, Nat.reduceAdd, Nat.reduceLT, Option.map_some]
      | true =>
        simp only [if_true] at h
        refine (execB_next (st' := ⟨updV τ "head" d, none⟩) ?_).trans (by simp only [Option.bind_some, Option.map_some, Option.bind_none, Bool.false_eq_true, if_false, if_true, Bool.false_and, Bool.and_false, Bool.true_and, Bool.and_true, Bool.false_or, Bool.or_false, Bool.not_false, Bool.not_true, List.any_cons, List.any_nil, List.length_cons, List.length_nil, beq_self_eq_true, reduceCtorEq, Nat.reduceAdd, Nat.reduceLT, Nat.reduceLeDiff, Nat.reduceBEq, decide_false, decide_true, lim, truD, bop1, bop2, eK_nil, eK_cons, eS_Expr, eS_Pass, eS_Break, eS_Continue, eS_Return, eS_ReturnN, eS_Assign, eS_AssignT, eS_Aug, eS_If, eS_While, eS_For, eS_Try, evalR, testR, eE_Constant, eE_Name, eE_BoolOp, eE_BinOp, eE_UnaryOp, eE_IfExp, eE_Compare, eE_meth0, eE_meth1, eE_call, eE_slice, eE_subN, eE_subC, eE_subU, eE_subB, eE_subS, eE_List, eE_Tuple, eE_ListComp, eA_nil, eA_star, eA_Name, eA_Constant, eA_BinOp, eA_UnaryOp, eA_Call, eA_Subscript, eA_List, eA_Tuple, eA_ListComp, eA_IfExp, eO_none, eO_some, eT_nil, eT_one, eB_one, eB_more, iT_not, iT_bool, iT_if, iT_cmp, iT_Name, iT_Call, iT_Subscript, iT_BinOp, iT_Constant, aB_nil, aB_cons, assignName, constD_none, constD_bool, constD_int, constD_str, unD_not, unD_neg, badArgs_nil, badArgs_one, badArgs_two, badArgs_three, badArgs_four, isStar_Name, isStar_Constant, isStar_BinOp, isStar_UnaryOp, isStar_Call, isStar_Subscript, isStar_Tuple, isStar_ListComp, isStar_IfExp, isStar_Compare, isStar_BoolOp, isStar_List, isStar_Starred, isSet_Name, isSet_Constant, isSet_BinOp, isSet_UnaryOp, isSet_Call, isSet_Subscript, isSet_Tuple, isSet_ListComp, isSet_IfExp, isSet_Compare, isSet_BoolOp, isSet_List, behind_Name, behind_Constant, behind_BinOp, behind_UnaryOp, behind_Call, behind_Subscript, behind_Tuple, behind_ListComp, behind_IfExp, behind_Compare, behind_BoolOp, behind_List, isNil_Name, isNil_Constant, isNil_BinOp, isNil_UnaryOp, isNil_Call, isNil_Subscript, isNil_Tuple, isNil_ListComp, isNil_IfExp, isNil_Compare, isNil_BoolOp, isNil_nil, isNil_cons, bareCall_Name, bareCall_Constant, bareCall_BinOp, bareCall_UnaryOp, bareCall_Call1, bareCall_Subscript, bareCall_Tuple, bareCall_ListComp, bareCall_IfExp, bareCall_Compare, bareCall_BoolOp, bareCall_List, usedQ_Name, usedQ_Constant, usedQ_BinOp, usedQ_UnaryOp, usedQ_Call, usedQ_Subscript, usedQ_Tuple, usedQ_ListComp, usedQ_IfExp, usedQ_Compare, usedQ_BoolOp, usedQ_List, n4, updV_eq])
        have hm : ∀ ap p p', (ap : Pos).endLine == p.line → evalE ⟨call, gl, so⟩ (.Call (.Attribute (.Name "head" p') "rstrip" ap) [.Name "sep" p'] [] p) f_dirname.scope τ = some d := by
          intro ap p p' hp
          simp only [eE_Constant, eE_Name, eE_BoolOp, eE_BinOp, eE_UnaryOp, eE_IfExp, eE_Compare, eE_meth0, eE_meth1, eE_call, eE_slice, eE_subN, eE_subC, eE_subU, eE_subB, eE_subS, eE_List, eE_Tuple, eE_ListComp, n2, n4, w2, w3, Option.bind_some, hp, bareCall_Name, bareCall_Constant, bareCall_BinOp, bareCall_UnaryOp, bareCall_Call1, bareCall_Subscript, bareCall_Tuple, bareCall_ListComp, bareCall_IfExp, bareCall_Compare, bareCall_BoolOp, bareCall_List, isStar_Name, isStar_Constant, isStar_BinOp, isStar_UnaryOp, isStar_Call, isStar_Subscript, isStar_Tuple, isStar_ListComp, isStar_IfExp, isStar_Compare, isStar_BoolOp, isStar_List, isStar_Starred, Bool.false_or, Bool.not_true, Bool.false_eq_true, if_false, h]
        simp only [eS_Expr, eS_Pass, eS_Break, eS_Continue, eS_Return, eS_ReturnN, eS_Assign, eS_AssignT, eS_Aug, eS_If, eS_While, eS_For, eS_Try, testR, iT_not, iT_bool, iT_if, iT_cmp, iT_Name, iT_Call, iT_Subscript, iT_BinOp, iT_Constant, aB_nil, aB_cons, eE_Constant, eE_Name, eE_BoolOp, eE_BinOp, eE_UnaryOp, eE_IfExp, eE_Compare, eE_meth0, eE_meth1, eE_call, eE_slice, eE_subN, eE_subC, eE_subU, eE_subB, eE_subS, eE_List, eE_Tuple, eE_ListComp, eA_nil, eA_star, eA_Name, eA_Constant, eA_BinOp, eA_UnaryOp, eA_Call, eA_Subscript, eA_List, eA_Tuple, eA_ListComp, eA_IfExp, n2, n4, w2, w3, g3, e3, Option.bind_some, h2, h3, h4, h5, bop1, bop2, if_true, if_false, Bool.false_eq_true, eK_nil, eK_cons, behind_Name, behind_Constant, behind_BinOp, behind_UnaryOp, behind_Call, behind_Subscript, behind_Tuple, behind_ListComp, behind_IfExp, behind_Compare, behind_BoolOp, behind_List, badArgs_nil, badArgs_one, badArgs_two, badArgs_three, badArgs_four, List.length_cons, List.length_nil, List.any_cons, List.any_nil, isStar_Name, isStar_Constant, isStar_BinOp, isStar_UnaryOp, isStar_Call, isStar_Subscript, isStar_Tuple, isStar_ListComp, isStar_IfExp, isStar_Compare, isStar_BoolOp, isStar_List, isStar_Starred, Bool.or_false, Bool.and_false, decide_false, Nat.reduceAdd, Nat.reduceLT, Option.map_some, assignName, isNil_Name, isNil_Constant, isNil_BinOp, isNil_UnaryOp, isNil_Call, isNil_Subscript, isNil_Tuple, isNil_ListComp, isNil_IfExp, isNil_Compare, isNil_BoolOp, isNil_nil, isNil_cons, Bool.false_and, usedQ_Name, usedQ_Constant, usedQ_BinOp, usedQ_UnaryOp, usedQ_Call, usedQ_Subscript, usedQ_Tuple, usedQ_ListComp, usedQ_IfExp, usedQ_Compare, usedQ_BoolOp, usedQ_List, compScope, evalR, h, s4, bareCall_Name, bareCall_Constant, bareCall_BinOp, bareCall_UnaryOp, bareCall_Call1, bareCall_Subscript, bareCall_Tuple, bareCall_ListComp, bareCall_IfExp, bareCall_Compare, bareCall_BoolOp, bareCall_List, beq_self_eq_true, Bool.false_or, Bool.not_true]
  rw [hx]; rfl

theorem r_basename {x : Str} {d : D} (c1 : ∀ y, call 131 [.str y] = some (.str y)) (c2 : ∀ y, call 145 [.str y] = some (.str "/")) (hx : x.length ≤ 1000) (h : baseE x = some d) : runF ⟨call, gl, so⟩ f_basename [.str x] = some d := by
  unfold runF
  rw [show f_basename.bind [.str x] = some [(("p" : Str), .str x)] from rfl]
  have n1 : ∀ σ, nameD ⟨call, gl, so⟩ "p" f_basename.scope σ = σ "p" := fun σ => nameD_loc rfl rfl
  have n2 : ∀ σ, nameD ⟨call, gl, so⟩ "sep" f_basename.scope σ = σ "sep" := fun σ => nameD_loc rfl rfl
  have n3 : ∀ σ, nameD ⟨call, gl, so⟩ "i" f_basename.scope σ = σ "i" := fun σ => nameD_loc rfl rfl
  have g1 : ∀ σ, nameD ⟨call, gl, so⟩ "fspath" f_basename.scope σ = some (.glob 131) := fun σ => nameD_glo rfl rfl rfl
  have g2 : ∀ σ, nameD ⟨call, gl, so⟩ "_get_sep" f_basename.scope σ = some (.glob 145) := fun σ => nameD_glo rfl rfl rfl
  have s1 : ∀ d σ, storeD f_basename.scope "p" d ⟨σ, none⟩ = some ⟨updV σ "p" d, none⟩ := fun d σ => storeD_loc rfl rfl
  have s2 : ∀ d σ, storeD f_basename.scope "sep" d ⟨σ, none⟩ = some ⟨updV σ "sep" d, none⟩ := fun d σ => storeD_loc rfl rfl
  have s3 : ∀ d σ, storeD f_basename.scope "i" d ⟨σ, none⟩ = some ⟨updV σ "i" d, none⟩ := fun d σ => storeD_loc rfl rfl
  have e1 : ∀ y, callD ⟨call, gl, so⟩ (.glob 131) [.str y] = some (.str y) := fun y => c1 y
  have e2 : ∀ y, callD ⟨call, gl, so⟩ (.glob 145) [.str y] = some (.str "/") := fun y => c2 y
  simp only [Option.bind_some]
  obtain ⟨σ, hσ⟩ : ∃ σ : Vars, σ = fun y => [(("p" : Str), D.str x)].lookup y := ⟨_, rfl⟩
  have l1 : σ "p" = some (.str x) := by rw [hσ]; rfl
  rw [← hσ]
  have hx' : x.length ≤ lim := by show _ ≤ 65536; omega
  have q1 := m1_rfind (x := x) (y := "/") hx'
  have h' : slD (.str x) (.int (Txt.rfind x "/" + 1)) .none = some d := h
  have hx : execB ⟨call, gl, so⟩ f_basename.mu f_basename.body f_basename.scope ⟨σ, none⟩ = some (.ret d) := by
    conv in f_basename.body => whnf
    refine (execB_next (st' := ⟨updV σ "p" (.str x), none⟩) (by simp only [Option.bind_some, Option.map_some, Option.bind_none, Bool.false_eq_true, if_false, if_true, Bool.false_and, Bool.and_false, Bool.true_and, Bool.and_true, Bool.false_or, Bool.or_false, Bool.not_false, Bool.not_true, List.any_cons, List.any_nil, List.length_cons, List.length_nil, beq_self_eq_true, reduceCtorEq, Nat.reduceAdd, Nat.reduceLT, Nat.reduceLeDiff, Nat.reduceBEq, decide_false, decide_true, lim, truD, bop1, bop2, eK_nil, eK_cons, eS_Expr, eS_Pass, eS_Break, eS_Continue, eS_Return, eS_ReturnN, eS_Assign, eS_AssignT, eS_Aug, eS_If, eS_While, eS_For, eS_Try, evalR, testR, eE_Constant, eE_Name, eE_BoolOp, eE_BinOp, eE_UnaryOp, eE_IfExp, eE_Compare, eE_meth0, eE_meth1, eE_call, eE_slice, eE_subN, eE_subC, eE_subU, eE_subB, eE_subS, eE_List, eE_Tuple, eE_ListComp, eA_nil, eA_star, eA_Name, eA_Constant, eA_BinOp, eA_UnaryOp, eA_Call, eA_Subscript, eA_List, eA_Tuple, eA_ListComp, eA_IfExp, eO_none, eO_some, eT_nil, eT_one, eB_one, eB_more, iT_not, iT_bool, iT_if, iT_cmp, iT_Name, iT_Call, iT_Subscript, iT_BinOp, iT_Constant, aB_nil, aB_cons, assignName, constD_none, constD_bool, constD_int, constD_str, unD_not, unD_neg, badArgs_nil, badArgs_one, badArgs_two, badArgs_three, badArgs_four, isStar_Name, isStar_Constant, isStar_BinOp, isStar_UnaryOp, isStar_Call, isStar_Subscript, isStar_Tuple, isStar_ListComp, isStar_IfExp, isStar_Compare, isStar_BoolOp, isStar_List, isStar_Starred, isSet_Name, isSet_Constant, isSet_BinOp, isSet_UnaryOp, isSet_Call, isSet_Subscript, isSet_Tuple, isSet_ListComp, isSet_IfExp, isSet_Compare, isSet_BoolOp, isSet_List, behind_Name, behind_Constant, behind_BinOp, behind_UnaryOp, behind_Call, behind_Subscript, behind_Tuple, behind_ListComp, behind_IfExp, behind_Compare, behind_BoolOp, behind_List, isNil_Name, isNil_Constant, isNil_BinOp, isNil_UnaryOp, isNil_Call, isNil_Subscript, isNil_Tuple, isNil_ListComp, isNil_IfExp, isNil_Compare, isNil_BoolOp, isNil_nil, isNil_cons, bareCall_Name, bareCall_Constant, bareCall_BinOp, bareCall_UnaryOp, bareCall_Call1, bareCall_Subscript, bareCall_Tuple, bareCall_ListComp, bareCall_IfExp, bareCall_Compare, bareCall_BoolOp, bareCall_List, usedQ_Name, usedQ_Constant, usedQ_BinOp, usedQ_UnaryOp, usedQ_Call, usedQ_Subscript, usedQ_Tuple, usedQ_ListComp, usedQ_IfExp, usedQ_Compare, usedQ_BoolOp, usedQ_List, n1, g1, e1, l1, s1])).trans ?_
    refine (execB_next (st' := ⟨updV (updV σ "p" (.str x)) "sep" (.str "/"), none⟩) (by simp only [Option.bind_some, Option.map_some, Option.bind_none, Bool.false_eq_true, if_false, if_true, Bool.false_and, Bool.and_false, Bool.true_and, Bool.and_true, Bool.false_or, Bool.or_false, Bool.not_false, Bool.not_true, List.any_cons, List.any_nil, List.length_cons, List.length_nil, beq_self_eq_true, reduceCtorEq, Nat.reduceAdd, Nat.reduceLT, Nat.reduceLeDiff, Nat.reduceBEq, decide_false, decide_true, lim, truD, bop1, bop2, eK_nil, eK_cons, eS_Expr, eS_Pass, eS_Break, eS_Continue, eS_Return, eS_ReturnN, eS_Assign, eS_AssignT, eS_Aug, eS_If, eS_While, eS_For, eS_Try, evalR, testR, eE_Constant, eE_Name, eE_BoolOp, eE_BinOp, eE_UnaryOp, eE_IfExp, eE_Compare, eE_meth0, eE_meth1, eE_call, eE_slice, eE_subN, eE_subC, eE_subU, eE_subB, eE_subS, eE_List, eE_Tuple, eE_ListComp, eA_nil, eA_star, eA_Name, eA_Constant, eA_BinOp, eA_UnaryOp, eA_Call, eA_Subscript, eA_List, eA_Tuple, eA_ListComp, eA_IfExp, eO_none, eO_some, eT_nil, eT_one, eB_one, eB_more, iT_not, iT_bool, iT_if, iT_cmp, iT_Name, iT_Call, iT_Subscript, iT_BinOp, iT_Constant, aB_nil, aB_cons, assignName, constD_none, constD_bool, constD_int, constD_str, unD_not, unD_neg, badArgs_nil, badArgs_one, badArgs_two, badArgs_three, badArgs_four, isStar_Name, isStar_Constant, isStar_BinOp, isStar_UnaryOp, isStar_Call, isStar_Subscript, isStar_Tuple, isStar_ListComp, isStar_IfExp, isStar_Compare, isStar_BoolOp, isStar_List, isStar_Starred, isSet_Name, isSet_Constant, isSet_BinOp, isSet_UnaryOp, isSet_Call, isSet_Subscript, isSet_Tuple, isSet_ListComp, isSet_IfExp, isSet_Compare, isSet_BoolOp, isSet_List, behind_Name, behind_Constant, behind_BinOp, behind_UnaryOp, behind_Call, behind_Subscript, behind_Tuple, behind_ListComp, behind_IfExp, behind_Compare, behind_BoolOp, behind_List, isNil_Name, isNil_Constant, isNil_BinOp, isNil_UnaryOp, isNil_Call, isNil_Subscript, isNil_Tuple, isNil_ListComp, isNil_IfExp, isNil_Compare, isNil_BoolOp, isNil_nil, isNil_cons, bareCall_Name, bareCall_Constant, bareCall_BinOp, bareCall_UnaryOp, bareCall_Call1, bareCall_Subscript, bareCall_Tuple, bareCall_ListComp, bareCall_IfExp, bareCall_Compare, bareCall_BoolOp, bareCall_List, usedQ_Name, usedQ_Constant, usedQ_BinOp, usedQ_UnaryOp, usedQ_Call, usedQ_Subscript, usedQ_Tuple, usedQ_ListComp, usedQ_IfExp, usedQ_Compare, usedQ_BoolOp, usedQ_List, n1, g2, e2, updV_eq, s2])).trans ?_
    have u1 : updV (updV σ "p" (.str x)) "sep" (.str "/") "p" = some (.str x) := (updV_ne (by decide)).trans (updV_eq ..)
    have u2 : updV (updV σ "p" (.str x)) "sep" (.str "/") "sep" = some (.str "/") := updV_eq ..
    generalize updV (updV σ "p" (.str x)) "sep" (.str "/") = τ at u1 u2
    refine (execB_next (st' := ⟨updV τ "i" (.int (Txt.rfind x "/" + 1)), none⟩) (by simp only [Option.bind_some, Option.map_some, Option.bind_none, Bool.false_eq_true, if_false, if_true, Bool.false_and, Bool.and_false, Bool.true_and, Bool.and_true, Bool.false_or, Bool.or_false, Bool.not_false, Bool.not_true, List.any_cons, List.any_nil, List.length_cons, List.length_nil, beq_self_eq_true, reduceCtorEq, Nat.reduceAdd, Nat.reduceLT, Nat.reduceLeDiff, Nat.reduceBEq, decide_false, decide_true, lim, truD, bop1, bop2, eK_nil, eK_cons, eS_Expr, eS_Pass, eS_Break, eS_Continue, eS_Return, eS_ReturnN, eS_Assign, eS_AssignT, eS_Aug, eS_If, eS_While, eS_For, eS_Try, evalR, testR, eE_Constant, eE_Name, eE_BoolOp, eE_BinOp, eE_UnaryOp, eE_IfExp, eE_Compare, eE_meth0, eE_meth1, eE_call, eE_slice, eE_subN, eE_subC, eE_subU, eE_subB, eE_subS, eE_List, eE_Tuple, eE_ListComp, eA_nil, eA_star, eA_Name, eA_Constant, eA_BinOp, eA_UnaryOp, eA_Call, eA_Subscript, eA_List, eA_Tuple, eA_ListComp, eA_IfExp, eO_none, eO_some, eT_nil, eT_one, eB_one, eB_more, iT_not, iT_bool, iT_if, iT_cmp, iT_Name, iT_Call, iT_Subscript, iT_BinOp, iT_Constant, aB_nil, aB_cons, assignName, constD_none, constD_bool, constD_int, constD_str, unD_not, unD_neg, badArgs_nil, badArgs_one, badArgs_two, badArgs_three, badArgs_four, isStar_Name, isStar_Constant, isStar_BinOp, isStar_UnaryOp, isStar_Call, isStar_Subscript, isStar_Tuple, isStar_ListComp, isStar_IfExp, isStar_Compare, isStar_BoolOp, isStar_List, isStar_Starred, isSet_Name, isSet_Constant, isSet_BinOp, isSet_UnaryOp, isSet_Call, isSet_Subscript, isSet_Tuple, isSet_ListComp, isSet_IfExp, isSet_Compare, isSet_BoolOp, isSet_List, behind_Name, behind_Constant, behind_BinOp, behind_UnaryOp, behind_Call, behind_Subscript, behind_Tuple, behind_ListComp, behind_IfExp, behind_Compare, behind_BoolOp, behind_List, isNil_Name, isNil_Constant, isNil_BinOp, isNil_UnaryOp, isNil_Call, isNil_Subscript, isNil_Tuple, isNil_ListComp, isNil_IfExp, isNil_Compare, isNil_BoolOp, isNil_nil, isNil_cons, bareCall_Name, bareCall_Constant, bareCall_BinOp, bareCall_UnaryOp, bareCall_Call1, bareCall_Subscript, bareCall_Tuple, bareCall_ListComp, bareCall_IfExp, bareCall_Compare, bareCall_BoolOp, bareCall_List, usedQ_Name, usedQ_Constant, usedQ_BinOp, usedQ_UnaryOp, usedQ_Call, usedQ_Subscript, usedQ_Tuple, usedQ_ListComp, usedQ_IfExp, usedQ_Compare, usedQ_BoolOp, usedQ_List, n1, n2, u1, u2, q1, bD_addI, bD_addS, bD_addL, bD_subI, bD_subB, bD_mulS, bD_mulL, s3])).trans ?_
    have v1 : updV τ "i" (.int (Txt.rfind x "/" + 1)) "p" = some (.str x) := (updV_ne (by decide)).trans u1
    have v3 : updV τ "i" (.int (Txt.rfind x "/" + 1)) "i" = some (.int (Txt.rfind x "/" + 1)) := updV_eq ..
    simp only [Option.bind_some, Option.map_some, Option.bind_none, Bool.false_eq_true, if_false, if_true, Bool.false_and, Bool.and_false, Bool.true_and, Bool.and_true, Bool.false_or, Bool.or_false, Bool.not_false, Bool.not_true, List.any_cons, List.any_nil, List.length_cons, List.length_nil, beq_self_eq_true, reduceCtorEq, Nat.reduceAdd, Nat.reduceLT, Nat.reduceLeDiff, Nat.reduceBEq, decide_false, decide_true, lim, truD, bop1, bop2, eK_nil, eK_cons, eS_Expr, eS_Pass, eS_Break, eS_Continue, eS_Return, eS_ReturnN, eS_Assign, eS_AssignT, eS_Aug, eS_If, eS_While, eS_For, eS_Try, evalR, testR, eE_Constant, eE_Name, eE_BoolOp, eE_BinOp, eE_UnaryOp, eE_IfExp, eE_Compare, eE_meth0, eE_meth1, eE_call, eE_slice, eE_subN, eE_subC, eE_subU, eE_subB, eE_subS, eE_List, eE_Tuple, eE_ListComp, eA_nil, eA_star, eA_Name, eA_Constant, eA_BinOp, eA_UnaryOp, eA_Call, eA_Subscript, eA_List, eA_Tuple, eA_ListComp, eA_IfExp, eO_none, eO_some, eT_nil, eT_one, eB_one, eB_more, iT_not, iT_bool, iT_if, iT_cmp, iT_Name, iT_Call, iT_Subscript, iT_BinOp, iT_Constant, aB_nil, aB_cons, assignName, constD_none, constD_bool, constD_int, constD_str, unD_not, unD_neg, badArgs_nil, badArgs_one, badArgs_two, badArgs_three, badArgs_four, isStar_Name, isStar_Constant, isStar_BinOp, isStar_UnaryOp, isStar_Call, isStar_Subscript, isStar_Tuple, isStar_ListComp, isStar_IfExp, isStar_Compare, isStar_BoolOp, isStar_List, isStar_Starred, isSet_Name, isSet_Constant, isSet_BinOp, isSet_UnaryOp, isSet_Call, isSet_Subscript, isSet_Tuple, isSet_ListComp, isSet_IfExp, isSet_Compare, isSet_BoolOp, isSet_List, behind_Name, behind_Constant, behind_BinOp, behind_UnaryOp, behind_Call, behind_Subscript, behind_Tuple, behind_ListComp, behind_IfExp, behind_Compare, behind_BoolOp, behind_List, isNil_Name, isNil_Constant, isNil_BinOp, isNil_UnaryOp, isNil_Call, isNil_Subscript, isNil_Tuple, isNil_ListComp, isNil_IfExp, isNil_Compare, isNil_BoolOp, isNil_nil, isNil_cons, bareCall_Name, bareCall_Constant, bareCall_BinOp, bareCall_UnaryOp, bareCall_Call1, bareCall_Subscript, bareCall_Tuple, bareCall_ListComp, bareCall_IfExp, bareCall_Compare, bareCall_BoolOp, bareCall_List, usedQ_Name, usedQ_Constant, usedQ_BinOp, usedQ_UnaryOp, usedQ_Call, usedQ_Subscript, usedQ_Tuple, usedQ_ListComp, usedQ_IfExp, usedQ_Compare, usedQ_BoolOp, usedQ_List, n1, n3, v1, v3, h']
  rw [hx]; rfl
end
end Mine
end

/-! part Pf -/
section
open PySem PySem.W PyProof.Rows PySem.Calls
set_option maxRecDepth 100000
set_option maxHeartbeats 4000000
set_option linter.unusedVariables false
set_option linter.unusedSimpArgs false
set_option tactic.hygienic false
namespace Mine

section
variable {call : Addr → List D → Option D} {so : List D → Option (List D)}

theorem r_splitroot {x : Str} {h r : D} (c1 : ∀ y, call 131 [.str y] = some (.str y)) (a1 : slD (.str x) .none (.int 1) = some (.str "/")) (a2 : slD (.str x) (.int 1) (.int 2) = some h) (a3 : ccD .NotEq h (.str "/") = some true) (a4 : slD (.str x) (.int 1) .none = some r) :
    runF ⟨call, gl, so⟩ f_splitroot [.str x] = some (.tup [.str "", .str "/", r]) := by
  unfold runF
  rw [show f_splitroot.bind [.str x] = some [(("p" : Str), .str x)] from rfl]
  have n1 : ∀ σ, nameD ⟨call, gl, so⟩ "p" f_splitroot.scope σ = σ "p" := fun σ => nameD_loc rfl rfl
  have n2 : ∀ σ, nameD ⟨call, gl, so⟩ "sep" f_splitroot.scope σ = σ "sep" := fun σ => nameD_loc rfl rfl
  have n3 : ∀ σ, nameD ⟨call, gl, so⟩ "empty" f_splitroot.scope σ = σ "empty" := fun σ => nameD_loc rfl rfl
  have g1 : ∀ σ, nameD ⟨call, gl, so⟩ "fspath" f_splitroot.scope σ = some (.glob 131) := fun σ => nameD_glo rfl rfl rfl
  have g2 : ∀ σ, nameD ⟨call, gl, so⟩ "isinstance" f_splitroot.scope σ = some (.bi "isinstance") := fun σ => nameD_glo rfl rfl rfl
  have g4 : ∀ σ, nameD ⟨call, gl, so⟩ "bytes" f_splitroot.scope σ = some (.typ "bytes") := fun σ => nameD_glo rfl rfl rfl
  have c2 : ∀ cx x, callD cx (.bi "isinstance") [.str x, .typ "bytes"] = some (.bool false) := fun _ _ => rfl
  have s1 : ∀ d σ, storeD f_splitroot.scope "p" d ⟨σ, none⟩ = some ⟨updV σ "p" d, none⟩ := fun d σ => storeD_loc rfl rfl
  have s2 : ∀ d σ, storeD f_splitroot.scope "sep" d ⟨σ, none⟩ = some ⟨updV σ "sep" d, none⟩ := fun d σ => storeD_loc rfl rfl
  have s3 : ∀ d σ, storeD f_splitroot.scope "empty" d ⟨σ, none⟩ = some ⟨updV σ "empty" d, none⟩ := fun d σ => storeD_loc rfl rfl
  have e1 : ∀ y, callD ⟨call, gl, so⟩ (.glob 131) [.str y] = some (.str y) := fun y => c1 y
  simp only [Option.bind_some]
  obtain ⟨σ, hσ⟩ : ∃ σ : Vars, σ = fun y => [(("p" : Str), D.str x)].lookup y := ⟨_, rfl⟩
  have l1 : σ "p" = some (.str x) := by rw [hσ]; rfl
  rw [← hσ]
  have a5 : ccD .NotEq (.str "/") (.str "/") = some false := by decide +kernel
  have hx : execB ⟨call, gl, so⟩ f_splitroot.mu f_splitroot.body f_splitroot.scope ⟨σ, none⟩ = some (.ret (.tup [.str "", .str "/", r])) := by
    conv in f_splitroot.body => whnf
    refine (execB_next (st' := ⟨updV σ "p" (.str x), none⟩) (by simp only [Option.bind_some, Option.map_some, Option.bind_none, Bool.false_eq_true, if_false, if_true, Bool.false_and, Bool.and_false, Bool.true_and, Bool.and_true, Bool.false_or, Bool.or_false, Bool.not_false, Bool.not_true, List.any_cons, List.any_nil, List.length_cons, List.length_nil, beq_self_eq_true, reduceCtorEq, Nat.reduceAdd, Nat.reduceLT, Nat.reduceLeDiff, Nat.reduceBEq, decide_false, decide_true, lim, truD, bop1, bop2, eK_nil, eK_cons, eS_Expr, eS_Pass, eS_Break, eS_Continue, eS_Return, eS_ReturnN, eS_Assign, eS_AssignT, eS_Aug, eS_If, eS_While, eS_For, eS_Try, evalR, testR, eE_Constant, eE_Name, eE_BoolOp, eE_BinOp, eE_UnaryOp, eE_IfExp, eE_Compare, eE_meth0, eE_meth1, eE_call, eE_slice, eE_subN, eE_subC, eE_subU, eE_subB, eE_subS, eE_List, eE_Tuple, eE_ListComp, eA_nil, eA_star, eA_Name, eA_Constant, eA_BinOp, eA_UnaryOp, eA_Call, eA_Subscript, eA_List, eA_Tuple, eA_ListComp, eA_IfExp, eO_none, eO_some, eT_nil, eT_one, eB_one, eB_more, iT_not, iT_bool, iT_if, iT_cmp, iT_Name, iT_Call, iT_Subscript, iT_BinOp, iT_Constant, aB_nil, aB_cons, assignName, constD_none, constD_bool, constD_int, constD_str, unD_not, unD_neg, badArgs_nil, badArgs_one, badArgs_two, badArgs_three, badArgs_four, isStar_Name, isStar_Constant, isStar_BinOp, isStar_UnaryOp, isStar_Call, isStar_Subscript, isStar_Tuple, isStar_ListComp, isStar_IfExp, isStar_Compare, isStar_BoolOp, isStar_List, isStar_Starred, isSet_Name, isSet_Constant, isSet_BinOp, isSet_UnaryOp, isSet_Call, isSet_Subscript, isSet_Tuple, isSet_ListComp, isSet_IfExp, isSet_Compare, isSet_BoolOp, isSet_List, behind_Name, behind_Constant, behind_BinOp, behind_UnaryOp, behind_Call, behind_Subscript, behind_Tuple, behind_ListComp, behind_IfExp, behind_Compare, behind_BoolOp, behind_List, isNil_Name, isNil_Constant, isNil_BinOp, isNil_UnaryOp, isNil_Call, isNil_Subscript, isNil_Tuple, isNil_ListComp, isNil_IfExp, isNil_Compare, isNil_BoolOp, isNil_nil, isNil_cons, bareCall_Name, bareCall_Constant, bareCall_BinOp, bareCall_UnaryOp, bareCall_Call1, bareCall_Subscript, bareCall_Tuple, bareCall_ListComp, bareCall_IfExp, bareCall_Compare, bareCall_BoolOp, bareCall_List, usedQ_Name, usedQ_Constant, usedQ_BinOp, usedQ_UnaryOp, usedQ_Call, usedQ_Subscript, usedQ_Tuple, usedQ_ListComp, usedQ_IfExp, usedQ_Compare, usedQ_BoolOp, usedQ_List, n1, g1, e1, l1, s1])).trans ?_
    have u1 : updV σ "p" (.str x) "p" = some (.str x) := updV_eq ..
    generalize updV σ "p" (.str x) = τ at u1
    refine (execB_next (st' := ⟨updV (updV τ "sep" (.str "/")) "empty" (.str ""), none⟩) (by simp only [Option.bind_some, Option.map_some, Option.bind_none, Bool.false_eq_true, if_false, if_true, Bool.false_and, Bool.and_false, Bool.true_and, Bool.and_true, Bool.false_or, Bool.or_false, Bool.not_false, Bool.not_true, List.any_cons, List.any_nil, List.length_cons, List.length_nil, beq_self_eq_true, reduceCtorEq, Nat.reduceAdd, Nat.reduceLT, Nat.reduceLeDiff, Nat.reduceBEq, decide_false, decide_true, lim, truD, bop1, bop2, eK_nil, eK_cons, eS_Expr, eS_Pass, eS_Break, eS_Continue, eS_Return, eS_ReturnN, eS_Assign, eS_AssignT, eS_Aug, eS_If, eS_While, eS_For, eS_Try, evalR, testR, eE_Constant, eE_Name, eE_BoolOp, eE_BinOp, eE_UnaryOp, eE_IfExp, eE_Compare, eE_meth0, eE_meth1, eE_call, eE_slice, eE_subN, eE_subC, eE_subU, eE_subB, eE_subS, eE_List, eE_Tuple, eE_ListComp, eA_nil, eA_star, eA_Name, eA_Constant, eA_BinOp, eA_UnaryOp, eA_Call, eA_Subscript, eA_List, eA_Tuple, eA_ListComp, eA_IfExp, eO_none, eO_some, eT_nil, eT_one, eB_one, eB_more, iT_not, iT_bool, iT_if, iT_cmp, iT_Name, iT_Call, iT_Subscript, iT_BinOp, iT_Constant, aB_nil, aB_cons, assignName, constD_none, constD_bool, constD_int, constD_str, unD_not, unD_neg, badArgs_nil, badArgs_one, badArgs_two, badArgs_three, badArgs_four, isStar_Name, isStar_Constant, isStar_BinOp, isStar_UnaryOp, isStar_Call, isStar_Subscript, isStar_Tuple, isStar_ListComp, isStar_IfExp, isStar_Compare, isStar_BoolOp, isStar_List, isStar_Starred, isSet_Name, isSet_Constant, isSet_BinOp, isSet_UnaryOp, isSet_Call, isSet_Subscript, isSet_Tuple, isSet_ListComp, isSet_IfExp, isSet_Compare, isSet_BoolOp, isSet_List, behind_Name, behind_Constant, behind_BinOp, behind_UnaryOp, behind_Call, behind_Subscript, behind_Tuple, behind_ListComp, behind_IfExp, behind_Compare, behind_BoolOp, behind_List, isNil_Name, isNil_Constant, isNil_BinOp, isNil_UnaryOp, isNil_Call, isNil_Subscript, isNil_Tuple, isNil_ListComp, isNil_IfExp, isNil_Compare, isNil_BoolOp, isNil_nil, isNil_cons, bareCall_Name, bareCall_Constant, bareCall_BinOp, bareCall_UnaryOp, bareCall_Call1, bareCall_Subscript, bareCall_Tuple, bareCall_ListComp, bareCall_IfExp, bareCall_Compare, bareCall_BoolOp, bareCall_List, usedQ_Name, usedQ_Constant, usedQ_BinOp, usedQ_UnaryOp, usedQ_Call, usedQ_Subscript, usedQ_Tuple, usedQ_ListComp, usedQ_IfExp, usedQ_Compare, usedQ_BoolOp, usedQ_List, n1, g2, g4, c2, u1, s2, s3])).trans ?_
    have v1 : updV (updV τ "sep" (.str "/")) "empty" (.str "") "p" = some (.str x) := (updV_ne (by decide)).trans ((updV_ne (by decide)).trans u1)
    have v2 : updV (updV τ "sep" (.str "/")) "empty" (.str "") "sep" = some (.str "/") := (updV_ne (by decide)).trans (updV_eq ..)
    have v3 : updV (updV τ "sep" (.str "/")) "empty" (.str "") "empty" = some (.str "") := updV_eq ..
    generalize updV (updV τ "sep" (.str "/")) "empty" (.str "") = τ at v1 v2 v3
    simp only [Option.bind_some, Option.map_some, Option.bind_none, Bool.false_eq_true, if_false, if_true, Bool.false_and, Bool.and_false, Bool.true_and, Bool.and_true, Bool.false_or, Bool.or_false, Bool.not_false, Bool.not_true, List.any_cons, List.any_nil, List.length_cons, List.length_nil, beq_self_eq_true, reduceCtorEq, Nat.reduceAdd, Nat.reduceLT, Nat.reduceLeDiff, Nat.reduceBEq, decide_false, decide_true, lim, truD, bop1, bop2, eK_nil, eK_cons, eS_Expr, eS_Pass, eS_Break, eS_Continue, eS_Return, eS_ReturnN, eS_Assign, eS_AssignT, eS_Aug, eS_If, eS_While, eS_For, eS_Try, evalR, testR, eE_Constant, eE_Name, eE_BoolOp, eE_BinOp, eE_UnaryOp, eE_IfExp, eE_Compare, eE_meth0, eE_meth1, eE_call, eE_slice, eE_subN, eE_subC, eE_subU, eE_subB, eE_subS, eE_List, eE_Tuple, eE_ListComp, eA_nil, eA_star, eA_Name, eA_Constant, eA_BinOp, eA_UnaryOp, eA_Call, eA_Subscript, eA_List, eA_Tuple, eA_ListComp, eA_IfExp, eO_none, eO_some, eT_nil, eT_one, eB_one, eB_more, iT_not, iT_bool, iT_if, iT_cmp, iT_Name, iT_Call, iT_Subscript, iT_BinOp, iT_Constant, aB_nil, aB_cons, assignName, constD_none, constD_bool, constD_int, constD_str, unD_not, unD_neg, badArgs_nil, badArgs_one, badArgs_two, badArgs_three, badArgs_four, isStar_Name, isStar_Constant, isStar_BinOp, isStar_UnaryOp, isStar_Call, isStar_Subscript, isStar_Tuple, isStar_ListComp, isStar_IfExp, isStar_Compare, isStar_BoolOp, isStar_List, isStar_Starred, isSet_Name, isSet_Constant, isSet_BinOp, isSet_UnaryOp, isSet_Call, isSet_Subscript, isSet_Tuple, isSet_ListComp, isSet_IfExp, isSet_Compare, isSet_BoolOp, isSet_List, behind_Name, behind_Constant, behind_BinOp, behind_UnaryOp, behind_Call, behind_Subscript, behind_Tuple, behind_ListComp, behind_IfExp, behind_Compare, behind_BoolOp, behind_List, isNil_Name, isNil_Constant, isNil_BinOp, isNil_UnaryOp, isNil_Call, isNil_Subscript, isNil_Tuple, isNil_ListComp, isNil_IfExp, isNil_Compare, isNil_BoolOp, isNil_nil, isNil_cons, bareCall_Name, bareCall_Constant, bareCall_BinOp, bareCall_UnaryOp, bareCall_Call1, bareCall_Subscript, bareCall_Tuple, bareCall_ListComp, bareCall_IfExp, bareCall_Compare, bareCall_BoolOp, bareCall_List, usedQ_Name, usedQ_Constant, usedQ_BinOp, usedQ_UnaryOp, usedQ_Call, usedQ_Subscript, usedQ_Tuple, usedQ_ListComp, usedQ_IfExp, usedQ_Compare, usedQ_BoolOp, usedQ_List, n1, n2, n3, v1, v2, v3, a1, a2, a3, a4, a5]
  rw [hx]; rfl

/-! normpath -/
noncomputable def normB : List Stmt := match f_normpath.body with
  | [_, _, _, _, _, _, .For _ _ b _ _, _, _, _] => b
  | _ => []

section
variable {σ : Vars} {acc : List D}
theorem norm_dot (h1 : σ "comp" = some (.str ".")) (h2 : σ "dot" = some (.str ".")) : execB ⟨call, gl, so⟩ f_normpath.mu normB f_normpath.scope ⟨σ, some ("new_comps", acc)⟩ = some (.cont ⟨σ, some ("new_comps", acc)⟩) := by
  have n1 : ∀ σ, nameD ⟨call, gl, so⟩ "comp" f_normpath.scope σ = σ "comp" := fun σ => nameD_loc rfl rfl
  have n2 : ∀ σ, nameD ⟨call, gl, so⟩ "dot" f_normpath.scope σ = σ "dot" := fun σ => nameD_loc rfl rfl
  have t1 : (("." : Str).length ≤ 65536) = True := by simp; decide
  have t2 : (((("." : Str).length : Nat) : Int) != 0) = true := by decide
  have t3 : ccD .Eq (.str ".") (.str ".") = some true := by decide +kernel
  conv in normB => whnf
  simp only [Option.bind_some, Option.map_some, Option.bind_none, Bool.false_eq_true, if_false, if_true, Bool.false_and, Bool.and_false, Bool.true_and, Bool.and_true, Bool.false_or, Bool.or_false, Bool.not_false, Bool.not_true, List.any_cons, List.any_nil, List.length_cons, List.length_nil, beq_self_eq_true, reduceCtorEq, Nat.reduceAdd, Nat.reduceLT, Nat.reduceLeDiff, Nat.reduceBEq, decide_false, decide_true, lim, truD, bop1, bop2, eK_nil, eK_cons, eS_Expr, eS_Pass, eS_Break, eS_Continue, eS_Return, eS_ReturnN, eS_Assign, eS_AssignT, eS_Aug, eS_If, eS_While, eS_For, eS_Try, evalR, testR, eE_Constant, eE_Name, eE_BoolOp, eE_BinOp, eE_UnaryOp, eE_IfExp, eE_Compare, eE_meth0, eE_meth1, eE_call, eE_slice, eE_subN, eE_subC, eE_subU, eE_subB, eE_subS, eE_List, eE_Tuple, eE_ListComp, eA_nil, eA_star, eA_Name, eA_Constant, eA_BinOp, eA_UnaryOp, eA_Call, eA_Subscript, eA_List, eA_Tuple, eA_ListComp, eA_IfExp, eO_none, eO_some, eT_nil, eT_one, eB_one, eB_more, iT_not, iT_bool, iT_if, iT_cmp, iT_Name, iT_Call, iT_Subscript, iT_BinOp, iT_Constant, aB_nil, aB_cons, assignName, constD_none, constD_bool, constD_int, constD_str, unD_not, unD_neg, badArgs_nil, badArgs_one, badArgs_two, badArgs_three, badArgs_four, isStar_Name, isStar_Constant, isStar_BinOp, isStar_UnaryOp, isStar_Call, isStar_Subscript, isStar_Tuple, isStar_ListComp, isStar_IfExp, isStar_Compare, isStar_BoolOp, isStar_List, isStar_Starred, isSet_Name, isSet_Constant, isSet_BinOp, isSet_UnaryOp, isSet_Call, isSet_Subscript, isSet_Tuple, isSet_ListComp, isSet_IfExp, isSet_Compare, isSet_BoolOp, isSet_List, behind_Name, behind_Constant, behind_BinOp, behind_UnaryOp, behind_Call, behind_Subscript, behind_Tuple, behind_ListComp, behind_IfExp, behind_Compare, behind_BoolOp, behind_List, isNil_Name, isNil_Constant, isNil_BinOp, isNil_UnaryOp, isNil_Call, isNil_Subscript, isNil_Tuple, isNil_ListComp, isNil_IfExp, isNil_Compare, isNil_BoolOp, isNil_nil, isNil_cons, bareCall_Name, bareCall_Constant, bareCall_BinOp, bareCall_UnaryOp, bareCall_Call1, bareCall_Subscript, bareCall_Tuple, bareCall_ListComp, bareCall_IfExp, bareCall_Compare, bareCall_BoolOp, bareCall_List, usedQ_Name, usedQ_Constant, usedQ_BinOp, usedQ_UnaryOp, usedQ_Call, usedQ_Subscript, usedQ_Tuple, usedQ_ListComp, usedQ_IfExp, usedQ_Compare, usedQ_BoolOp, usedQ_List, n1, n2, h1, h2, t1, t2, t3]
theorem norm_none (h1 : σ "comp" = some (.str "")) : execB ⟨call, gl, so⟩ f_normpath.mu normB f_normpath.scope ⟨σ, some ("new_comps", acc)⟩ = some (.cont ⟨σ, some ("new_comps", acc)⟩) := by
  have n1 : ∀ σ, nameD ⟨call, gl, so⟩ "comp" f_normpath.scope σ = σ "comp" := fun σ => nameD_loc rfl rfl
  have t1 : (("" : Str).length ≤ 65536) = True := by simp; decide
  have t2 : (((("" : Str).length : Nat) : Int) != 0) = false := by decide
  conv in normB => whnf
  simp only [Option.bind_some, Option.map_some, Option.bind_none, Bool.false_eq_true, if_false, if_true, Bool.false_and, Bool.and_false, Bool.true_and, Bool.and_true, Bool.false_or, Bool.or_false, Bool.not_false, Bool.not_true, List.any_cons, List.any_nil, List.length_cons, List.length_nil, beq_self_eq_true, reduceCtorEq, Nat.reduceAdd, Nat.reduceLT, Nat.reduceLeDiff, Nat.reduceBEq, decide_false, decide_true, lim, truD, bop1, bop2, eK_nil, eK_cons, eS_Expr, eS_Pass, eS_Break, eS_Continue, eS_Return, eS_ReturnN, eS_Assign, eS_AssignT, eS_Aug, eS_If, eS_While, eS_For, eS_Try, evalR, testR, eE_Constant, eE_Name, eE_BoolOp, eE_BinOp, eE_UnaryOp, eE_IfExp, eE_Compare, eE_meth0, eE_meth1, eE_call, eE_slice, eE_subN, eE_subC, eE_subU, eE_subB, eE_subS, eE_List, eE_Tuple, eE_ListComp, eA_nil, eA_star, eA_Name, eA_Constant, eA_BinOp, eA_UnaryOp, eA_Call, eA_Subscript, eA_List, eA_Tuple, eA_ListComp, eA_IfExp, eO_none, eO_some, eT_nil, eT_one, eB_one, eB_more, iT_not, iT_bool, iT_if, iT_cmp, iT_Name, iT_Call, iT_Subscript, iT_BinOp, iT_Constant, aB_nil, aB_cons, assignName, constD_none, constD_bool, constD_int, constD_str, unD_not, unD_neg, badArgs_nil, badArgs_one, badArgs_two, badArgs_three, badArgs_four, isStar_Name, isStar_Constant, isStar_BinOp, isStar_UnaryOp, isStar_Call, isStar_Subscript, isStar_Tuple, isStar_ListComp, isStar_IfExp, isStar_Compare, isStar_BoolOp, isStar_List, isStar_Starred, isSet_Name, isSet_Constant, isSet_BinOp, isSet_UnaryOp, isSet_Call, isSet_Subscript, isSet_Tuple, isSet_ListComp, isSet_IfExp, isSet_Compare, isSet_BoolOp, isSet_List, behind_Name, behind_Constant, behind_BinOp, behind_UnaryOp, behind_Call, behind_Subscript, behind_Tuple, behind_ListComp, behind_IfExp, behind_Compare, behind_BoolOp, behind_List, isNil_Name, isNil_Constant, isNil_BinOp, isNil_UnaryOp, isNil_Call, isNil_Subscript, isNil_Tuple, isNil_ListComp, isNil_IfExp, isNil_Compare, isNil_BoolOp, isNil_nil, isNil_cons, bareCall_Name, bareCall_Constant, bareCall_BinOp, bareCall_UnaryOp, bareCall_Call1, bareCall_Subscript, bareCall_Tuple, bareCall_ListComp, bareCall_IfExp, bareCall_Compare, bareCall_BoolOp, bareCall_List, usedQ_Name, usedQ_Constant, usedQ_BinOp, usedQ_UnaryOp, usedQ_Call, usedQ_Subscript, usedQ_Tuple, usedQ_ListComp, usedQ_IfExp, usedQ_Compare, usedQ_BoolOp, usedQ_List, n1, h1, t1, t2]
theorem norm_plain {c : Str} (h1 : σ "comp" = some (.str c)) (h2 : σ "dot" = some (.str ".")) (h3 : σ "dotdot" = some (.str "..")) (hz : acc.length ≤ 1000) (q1 : truD (.str c) = some true) (q2 : ccD .Eq (.str c) (.str ".") = some false) (q3 : ccD .NotEq (.str c) (.str "..") = some true) :
    execB ⟨call, gl, so⟩ f_normpath.mu normB f_normpath.scope ⟨σ, some ("new_comps", acc)⟩ = some (.next ⟨σ, some ("new_comps", acc ++ [.str c])⟩) := by
  have n1 : ∀ σ, nameD ⟨call, gl, so⟩ "comp" f_normpath.scope σ = σ "comp" := fun σ => nameD_loc rfl rfl
  have n2 : ∀ σ, nameD ⟨call, gl, so⟩ "dot" f_normpath.scope σ = σ "dot" := fun σ => nameD_loc rfl rfl
  have n3 : ∀ σ, nameD ⟨call, gl, so⟩ "dotdot" f_normpath.scope σ = σ "dotdot" := fun σ => nameD_loc rfl rfl
  have k1 : List.lookup ("new_comps" : Str) f_normpath.scope.names = some .local := rfl
  have k2 : (("new_comps" : Str) == ("__debug__" : Str)) = false := rfl
  have hz' : acc.length ≤ 65536 := by lia
  have q1' := q1
  unfold truD at q1'
  conv in normB => whnf
  refine (execB_next (st' := ⟨σ, some ("new_comps", acc)⟩) ?_).trans ?_
  · simp only [eK_nil, eK_cons, eS_Expr, eS_Pass, eS_Break, eS_Continue, eS_Return, eS_ReturnN, eS_Assign, eS_AssignT, eS_Aug, eS_If, eS_While, eS_For, eS_Try, testR, iT_not, iT_bool, iT_if, iT_cmp, iT_Name, iT_Call, iT_Subscript, iT_BinOp, iT_Constant, aB_nil, aB_cons, eE_Constant, eE_Name, eE_BoolOp, eE_BinOp, eE_UnaryOp, eE_IfExp, eE_Compare, eE_meth0, eE_meth1, eE_call, eE_slice, eE_subN, eE_subC, eE_subU, eE_subB, eE_subS, eE_List, eE_Tuple, eE_ListComp, n1, n2, n3, h1, h2, h3, Option.bind_some, q1, q2, q3, Option.map_some, bop1, bop2, if_true, if_false, Bool.false_eq_true, behind_Name, behind_Constant, behind_BinOp, behind_UnaryOp, behind_Call, behind_Subscript, behind_Tuple, behind_ListComp, behind_IfExp, behind_Compare, behind_BoolOp, behind_List, Bool.not_true, Bool.not_false]
  · simp only [eK_nil, eK_cons, eS_Expr, eS_Pass, eS_Break, eS_Continue, eS_Return, eS_ReturnN, eS_Assign, eS_AssignT, eS_Aug, eS_If, eS_While, eS_For, eS_Try, testR, iT_not, iT_bool, iT_if, iT_cmp, iT_Name, iT_Call, iT_Subscript, iT_BinOp, iT_Constant, aB_nil, aB_cons, eE_Constant, eE_Name, eE_BoolOp, eE_BinOp, eE_UnaryOp, eE_IfExp, eE_Compare, eE_meth0, eE_meth1, eE_call, eE_slice, eE_subN, eE_subC, eE_subU, eE_subB, eE_subS, eE_List, eE_Tuple, eE_ListComp, n1, n2, n3, h1, h2, h3, Option.bind_some, q1, q2, q3, Option.map_some, bop1, bop2, if_true, if_false, Bool.false_eq_true, behind_Name, behind_Constant, behind_BinOp, behind_UnaryOp, behind_Call, behind_Subscript, behind_Tuple, behind_ListComp, behind_IfExp, behind_Compare, behind_BoolOp, behind_List, Bool.not_true, Bool.not_false, exprD_append, exprD_pop, beq_self_eq_true, k1, k2, lim, hz', and_self, isStar_Name, isStar_Constant, isStar_BinOp, isStar_UnaryOp, isStar_Call, isStar_Subscript, isStar_Tuple, isStar_ListComp, isStar_IfExp, isStar_Compare, isStar_BoolOp, isStar_List, isStar_Starred]
theorem norm_up (h1 : σ "comp" = some (.str "..")) (h2 : σ "dot" = some (.str ".")) (h3 : σ "dotdot" = some (.str "..")) (h4 : σ "initial_slashes" = some (.str "/")) (h5 : σ "new_comps" = none) (ha : acc = [] ∨ acc = [.str "F0"]) :
    execB ⟨call, gl, so⟩ f_normpath.mu normB f_normpath.scope ⟨σ, some ("new_comps", acc)⟩ = some (.next ⟨σ, some ("new_comps", [])⟩) := by
  have n1 : ∀ σ, nameD ⟨call, gl, so⟩ "comp" f_normpath.scope σ = σ "comp" := fun σ => nameD_loc rfl rfl
  have n2 : ∀ σ, nameD ⟨call, gl, so⟩ "dot" f_normpath.scope σ = σ "dot" := fun σ => nameD_loc rfl rfl
  have n3 : ∀ σ, nameD ⟨call, gl, so⟩ "dotdot" f_normpath.scope σ = σ "dotdot" := fun σ => nameD_loc rfl rfl
  have n4 : ∀ σ, nameD ⟨call, gl, so⟩ "initial_slashes" f_normpath.scope σ = σ "initial_slashes" := fun σ => nameD_loc rfl rfl
  have n5 : ∀ σ, nameD ⟨call, gl, so⟩ "new_comps" f_normpath.scope σ = σ "new_comps" := fun σ => nameD_loc rfl rfl
  have k1 : List.lookup ("new_comps" : Str) f_normpath.scope.names = some .local := rfl
  have k2 : (("new_comps" : Str) == ("__debug__" : Str)) = false := rfl
  have q1 : truD (.str "..") = some true := by decide
  have q1' : truD (.str "/") = some true := by decide
  have q2 : ccD .Eq (.str "..") (.str ".") = some false := by decide +kernel
  have q3 : ccD .NotEq (.str "..") (.str "..") = some false := by decide +kernel
  have q4 : truD (.list []) = some false := by decide
  have q5 : truD (.list [.str "F0"]) = some true := by decide
  have q6 : idxD (.list [.str "F0"]) (.int (-1)) = some (.str "F0") := by rfl
  have kp : (("pop" : Str) = "append") = False := eq_false (by decide)
  have q7 : ccD .Eq (.str "F0") (.str "..") = some false := by decide +kernel
  have u1 : ∀ d, updV σ "new_comps" d "comp" = some (.str "..") := fun d => (updV_ne (by decide)).trans h1
  have u3 : ∀ d, updV σ "new_comps" d "dotdot" = some (.str "..") := fun d => (updV_ne (by decide)).trans h3
  have u4 : ∀ d, updV σ "new_comps" d "initial_slashes" = some (.str "/") := fun d => (updV_ne (by decide)).trans h4
  conv in normB => whnf
  refine (execB_next (st' := ⟨σ, some ("new_comps", acc)⟩) ?_).trans ?_
  · simp only [eK_nil, eK_cons, eS_Expr, eS_Pass, eS_Break, eS_Continue, eS_Return, eS_ReturnN, eS_Assign, eS_AssignT, eS_Aug, eS_If, eS_While, eS_For, eS_Try, testR, iT_not, iT_bool, iT_if, iT_cmp, iT_Name, iT_Call, iT_Subscript, iT_BinOp, iT_Constant, aB_nil, aB_cons, eE_Constant, eE_Name, eE_BoolOp, eE_BinOp, eE_UnaryOp, eE_IfExp, eE_Compare, eE_meth0, eE_meth1, eE_call, eE_slice, eE_subN, eE_subC, eE_subU, eE_subB, eE_subS, eE_List, eE_Tuple, eE_ListComp, n1, n2, n3, h1, h2, h3, Option.bind_some, q1, q2, q3, Option.map_some, bop1, bop2, if_true, if_false, Bool.false_eq_true, behind_Name, behind_Constant, behind_BinOp, behind_UnaryOp, behind_Call, behind_Subscript, behind_Tuple, behind_ListComp, behind_IfExp, behind_Compare, behind_BoolOp, behind_List, Bool.not_true, Bool.not_false]
  · rcases ha with rfl | rfl
    · simp only [eK_nil, eK_cons, eS_Expr, eS_Pass, eS_Break, eS_Continue, eS_Return, eS_ReturnN, eS_Assign, eS_AssignT, eS_Aug, eS_If, eS_While, eS_For, eS_Try, testR, iT_not, iT_bool, iT_if, iT_cmp, iT_Name, iT_Call, iT_Subscript, iT_BinOp, iT_Constant, aB_nil, aB_cons, eE_Constant, eE_Name, eE_BoolOp, eE_BinOp, eE_UnaryOp, eE_IfExp, eE_Compare, eE_meth0, eE_meth1, eE_call, eE_slice, eE_subN, eE_subC, eE_subU, eE_subB, eE_subS, eE_List, eE_Tuple, eE_ListComp, n1, n2, n3, n4, n5, h1, h2, h3, h4, h5, u1, u3, u4, updV_eq, Option.bind_some, Option.bind_none, q1, q1', q2, q3, q4, Option.map_some, bop1, bop2, if_true, if_false, Bool.false_eq_true, behind_Name, behind_Constant, behind_BinOp, behind_UnaryOp, behind_Call, behind_Subscript, behind_Tuple, behind_ListComp, behind_IfExp, behind_Compare, behind_BoolOp, behind_List, Bool.not_true, Bool.not_false]
    · simp only [eK_nil, eK_cons, eS_Expr, eS_Pass, eS_Break, eS_Continue, eS_Return, eS_ReturnN, eS_Assign, eS_AssignT, eS_Aug, eS_If, eS_While, eS_For, eS_Try, testR, iT_not, iT_bool, iT_if, iT_cmp, iT_Name, iT_Call, iT_Subscript, iT_BinOp, iT_Constant, aB_nil, aB_cons, eE_Constant, eE_Name, eE_BoolOp, eE_BinOp, eE_UnaryOp, eE_IfExp, eE_Compare, eE_meth0, eE_meth1, eE_call, eE_slice, eE_subN, eE_subC, eE_subU, eE_subB, eE_subS, eE_List, eE_Tuple, eE_ListComp, n1, n2, n3, n4, n5, h1, h2, h3, h4, h5, u1, u3, u4, updV_eq, Option.bind_some, Option.bind_none, q1, q1', q2, q3, q4, q5, q6, q7, constD_none, constD_bool, constD_int, constD_str, unD_not, unD_neg, Option.map_some, bop1, bop2, if_true, if_false, Bool.false_eq_true, behind_Name, behind_Constant, behind_BinOp, behind_UnaryOp, behind_Call, behind_Subscript, behind_Tuple, behind_ListComp, behind_IfExp, behind_Compare, behind_BoolOp, behind_List, Bool.not_true, Bool.not_false, exprD_append, exprD_pop, beq_self_eq_true, k1, k2, lim, and_self, List.length_cons, List.length_nil, Nat.reduceAdd, Nat.reduceLeDiff, List.isEmpty_cons, List.dropLast_singleton, kp]
end
end
end Mine
end

/-! part Pg -/
section
open PySem PySem.W PyProof.Rows PySem.Calls
set_option maxRecDepth 100000
set_option maxHeartbeats 4000000
set_option linter.unusedVariables false
set_option linter.unusedSimpArgs false
set_option tactic.hygienic false
namespace Mine

noncomputable def plainOk (c : Str) : Bool := truD (.str c) == some true && ccD .Eq (.str c) (.str ".") == some false && ccD .NotEq (.str c) (.str "..") == some true
noncomputable def nStep (acc : List Str) (c : Str) : Option (List Str) := if c = "." then some acc else if c = "" then some acc else if c = ".." then (if acc = [] ∨ acc = [("F0" : Str)] then some [] else none) else if plainOk c = true then some (acc ++ [c]) else none
noncomputable def nGo : List Str → List Str → Option (List Str)
  | [], acc => some acc
  | c :: r, acc => (nStep acc c).bind (nGo r)

theorem storeT_own {x y : Str} {p : Pos} {sc : Scope} {σ : Vars} {d : D} {es : List D} (h : sc.names.lookup x = some .local) (hy : y ≠ x) : storeT sc (.Name x p) d ⟨σ, some (y, es)⟩ = some ⟨updV σ x d, some (y, es)⟩ := by
  show storeD sc x d ⟨σ, some (y, es)⟩ = _
  exact storeD_own h hy
section
variable {call : Addr → List D → Option D} {so : List D → Option (List D)}

theorem nStep_len {acc out : List Str} {c : Str} (h : nStep acc c = some out) : out.length ≤ acc.length + 1 := by
  unfold nStep at h
  split at h
  · cases h; (exact Nat.le_succ _)
  · split at h
    · cases h; (exact Nat.le_succ _)
    · split at h
      · split at h
        · obtain rfl := so h; simp
        · contradiction
      · split at h
        · (injection h with h; subst h); simp
        · contradiction

theorem norm_loop {f : D → Sto → Option Sto} (hf : ∀ d σ acc, f d ⟨σ, some ("new_comps", acc)⟩ = some ⟨updV σ "comp" d, some ("new_comps", acc)⟩) : ∀ (cs acc out : List Str) (σ : Vars), nGo cs acc = some out → acc.length + cs.length ≤ 1000 →
    σ "dot" = some (.str ".") → σ "dotdot" = some (.str "..") → σ "initial_slashes" = some (.str "/") → σ "new_comps" = none → σ "sep" = some (.str "/") →
    ∃ σ', forGo (fun st => execB ⟨call, gl, so⟩ f_normpath.mu normB f_normpath.scope st) f (cs.map .str) ⟨σ, some ("new_comps", acc.map .str)⟩ = some (.next ⟨σ', some ("new_comps", out.map .str)⟩) ∧
      σ' "dot" = some (.str ".") ∧ σ' "initial_slashes" = some (.str "/") ∧ σ' "sep" = some (.str "/") ∧ σ' "new_comps" = none
  | [], acc, out, σ, h, hz, h1, h2, h3, h4, h5 => by (injection h with h; subst h); exact ⟨σ, rfl, h1, h3, h5, h4⟩
  | c :: cs, acc, out, σ, h, hz, h1, h2, h3, h4, h5 => by
    unfold nGo at h
    obtain ⟨acc', hs, h⟩ := bind_some h
    have hl := nStep_len hs
    rw [List.length_cons] at hz
    have w1 : updV σ "comp" (.str c) "dot" = some (.str ".") := (updV_ne (by decide)).trans h1
    have w2 : updV σ "comp" (.str c) "dotdot" = some (.str "..") := (updV_ne (by decide)).trans h2
    have w3 : updV σ "comp" (.str c) "initial_slashes" = some (.str "/") := (updV_ne (by decide)).trans h3
    have w4 : updV σ "comp" (.str c) "new_comps" = none := (updV_ne (by decide)).trans h4
    have w5 : updV σ "comp" (.str c) "sep" = some (.str "/") := (updV_ne (by decide)).trans h5
    have w6 : updV σ "comp" (.str c) "comp" = some (.str c) := updV_eq ..
    obtain ⟨σ', e', r⟩ := norm_loop hf cs acc' out (updV σ "comp" (.str c)) h (by lia) w1 w2 w3 w4 w5
    refine ⟨σ', ?_, r⟩
    rw [List.map_cons]
    unfold forGo
    rw [hf]
    simp only [Option.bind_some]
    unfold nStep at hs
    by_cases c1 : c = "."
    · rw [if_pos c1] at hs
      (injection hs with hs; subst hs)
      subst c1
      rw [norm_dot w6 w1]
      exact e'
    · rw [if_neg c1] at hs
      by_cases c0 : c = ""
      · rw [if_pos c0] at hs
        (injection hs with hs; subst hs)
        subst c0
        rw [norm_none w6]
        exact e'
      rw [if_neg c0] at hs
      by_cases c2 : c = ".."
      · rw [if_pos c2] at hs
        split at hs
        · rename_i ha
          (injection hs with hs; subst hs)
          subst c2
          rw [norm_up w6 w1 w2 w3 w4 (by rcases ha with rfl | rfl <;> simp)]
          exact e'
        · contradiction
      · rw [if_neg c2] at hs
        split at hs
        · rename_i hp
          (injection hs with hs; subst hs)
          unfold plainOk at hp
          simp only [Bool.and_eq_true, beq_iff_eq] at hp
          rw [norm_plain w6 w1 w2 (by rw [List.length_map]; lia) hp.1.1 hp.1.2 hp.2]
          have : acc.map D.str ++ [.str c] = (acc ++ [c]).map .str := by simp
          rw [this]
          exact e'
        · contradiction

theorem r_normpath {x rest j res : Str} {comps out : List Str} (c1 : ∀ y, call 131 [.str y] = some (.str y)) (c3 : call 159 [.str x] = some (.tup [.str "", .str "/", .str rest])) (hx : truD (.str x) = some true)
    (h1 : met1 "split" (.str rest) (.str "/") = some (.list (comps.map .str))) (hn : comps.length ≤ 1000) (h2 : nGo comps [] = some out) (h3 : met1 "join" (.str "/") (.list (out.map .str)) = some (.str j)) (h4 : binD .Add (.str "/") (.str j) = some (.str res)) (h5 : truD (.str res) = some true) :
    runF ⟨call, gl, so⟩ f_normpath [.str x] = some (.str res) := by
  unfold runF
  rw [show f_normpath.bind [.str x] = some [(("path" : Str), .str x)] from rfl]
  have n1 : ∀ σ, nameD ⟨call, gl, so⟩ "path" f_normpath.scope σ = σ "path" := fun σ => nameD_loc rfl rfl
  have n2 : ∀ σ, nameD ⟨call, gl, so⟩ "sep" f_normpath.scope σ = σ "sep" := fun σ => nameD_loc rfl rfl
  have n3 : ∀ σ, nameD ⟨call, gl, so⟩ "comps" f_normpath.scope σ = σ "comps" := fun σ => nameD_loc rfl rfl
  have n4 : ∀ σ, nameD ⟨call, gl, so⟩ "new_comps" f_normpath.scope σ = σ "new_comps" := fun σ => nameD_loc rfl rfl
  have n5 : ∀ σ, nameD ⟨call, gl, so⟩ "initial_slashes" f_normpath.scope σ = σ "initial_slashes" := fun σ => nameD_loc rfl rfl
  have g1 : ∀ σ, nameD ⟨call, gl, so⟩ "fspath" f_normpath.scope σ = some (.glob 131) := fun σ => nameD_glo rfl rfl rfl
  have g2 : ∀ σ, nameD ⟨call, gl, so⟩ "isinstance" f_normpath.scope σ = some (.bi "isinstance") := fun σ => nameD_glo rfl rfl rfl
  have g3 : ∀ σ, nameD ⟨call, gl, so⟩ "splitroot" f_normpath.scope σ = some (.glob 159) := fun σ => nameD_glo rfl rfl rfl
  have g4 : ∀ σ, nameD ⟨call, gl, so⟩ "bytes" f_normpath.scope σ = some (.typ "bytes") := fun σ => nameD_glo rfl rfl rfl
  have c2 : ∀ cx x, callD cx (.bi "isinstance") [.str x, .typ "bytes"] = some (.bool false) := fun _ _ => rfl
  have s1 : ∀ d σ, storeD f_normpath.scope "path" d ⟨σ, none⟩ = some ⟨updV σ "path" d, none⟩ := fun d σ => storeD_loc rfl rfl
  have s2 : ∀ d σ, storeD f_normpath.scope "sep" d ⟨σ, none⟩ = some ⟨updV σ "sep" d, none⟩ := fun d σ => storeD_loc rfl rfl
  have s3 : ∀ d σ, storeD f_normpath.scope "dot" d ⟨σ, none⟩ = some ⟨updV σ "dot" d, none⟩ := fun d σ => storeD_loc rfl rfl
  have s4 : ∀ d σ, storeD f_normpath.scope "dotdot" d ⟨σ, none⟩ = some ⟨updV σ "dotdot" d, none⟩ := fun d σ => storeD_loc rfl rfl
  have s5 : ∀ d σ, storeD f_normpath.scope "_" d ⟨σ, none⟩ = some ⟨updV σ "_" d, none⟩ := fun d σ => storeD_loc rfl rfl
  have s6 : ∀ d σ, storeD f_normpath.scope "initial_slashes" d ⟨σ, none⟩ = some ⟨updV σ "initial_slashes" d, none⟩ := fun d σ => storeD_loc rfl rfl
  have s7 : ∀ d σ, storeD f_normpath.scope "comps" d ⟨σ, none⟩ = some ⟨updV σ "comps" d, none⟩ := fun d σ => storeD_loc rfl rfl
  have e1 : ∀ y, callD ⟨call, gl, so⟩ (.glob 131) [.str y] = some (.str y) := fun y => c1 y
  have e3 : callD ⟨call, gl, so⟩ (.glob 159) [.str x] = some (.tup [.str "", .str "/", .str rest]) := c3
  have km : f_normpath.mu.contains ("new_comps" : Str) = true := rfl
  have kl : (f_normpath.scope.names.lookup ("new_comps" : Str) == some NameKind.local) = true := rfl
  simp only [Option.bind_some]
  obtain ⟨σ, hσ⟩ : ∃ σ : Vars, σ = fun y => [(("path" : Str), D.str x)].lookup y := ⟨_, rfl⟩
  have l1 : σ "path" = some (.str x) := by rw [hσ]; rfl
  have l2 : σ "new_comps" = none := by rw [hσ]; rfl
  rw [← hσ]
  have hx' := hx
  unfold truD at hx'
  have hfin : execB ⟨call, gl, so⟩ f_normpath.mu f_normpath.body f_normpath.scope ⟨σ, none⟩ = some (.ret (.str res)) := by
    conv in f_normpath.body => whnf
    refine (execB_next (st' := ⟨updV σ "path" (.str x), none⟩) (by simp only [Option.bind_some, Option.map_some, Option.bind_none, Bool.false_eq_true, if_false, if_true, Bool.false_and, Bool.and_false, Bool.true_and, Bool.and_true, Bool.false_or, Bool.or_false, Bool.not_false, Bool.not_true, List.any_cons, List.any_nil, List.length_cons, List.length_nil, beq_self_eq_true, reduceCtorEq, Nat.reduceAdd, Nat.reduceLT, Nat.reduceLeDiff, Nat.reduceBEq, decide_false, decide_true, lim, truD, bop1, bop2, eK_nil, eK_cons, eS_Expr, eS_Pass, eS_Break, eS_Continue, eS_Return, eS_ReturnN, eS_Assign, eS_AssignT, eS_Aug, eS_If, eS_While, eS_For, eS_Try, evalR, testR, eE_Constant, eE_Name, eE_BoolOp, eE_BinOp, eE_UnaryOp, eE_IfExp, eE_Compare, eE_meth0, eE_meth1, eE_call, eE_slice, eE_subN, eE_subC, eE_subU, eE_subB, eE_subS, eE_List, eE_Tuple, eE_ListComp, eA_nil, eA_star, eA_Name, eA_Constant, eA_BinOp, eA_UnaryOp, eA_Call, eA_Subscript, eA_List, eA_Tuple, eA_ListComp, eA_IfExp, eO_none, eO_some, eT_nil, eT_one, eB_one, eB_more, iT_not, iT_bool, iT_if, iT_cmp, iT_Name, iT_Call, iT_Subscript, iT_BinOp, iT_Constant, aB_nil, aB_cons, assignName, constD_none, constD_bool, constD_int, constD_str, unD_not, unD_neg, badArgs_nil, badArgs_one, badArgs_two, badArgs_three, badArgs_four, isStar_Name, isStar_Constant, isStar_BinOp, isStar_UnaryOp, isStar_Call, isStar_Subscript, isStar_Tuple, isStar_ListComp, isStar_IfExp, isStar_Compare, isStar_BoolOp, isStar_List, isStar_Starred, isSet_Name, isSet_Constant, isSet_BinOp, isSet_UnaryOp, isSet_Call, isSet_Subscript, isSet_Tuple, isSet_ListComp, isSet_IfExp, isSet_Compare, isSet_BoolOp, isSet_List, behind_Name, behind_Constant, behind_BinOp, behind_UnaryOp, behind_Call, behind_Subscript, behind_Tuple, behind_ListComp, behind_IfExp, behind_Compare, behind_BoolOp, behind_List, isNil_Name, isNil_Constant, isNil_BinOp, isNil_UnaryOp, isNil_Call, isNil_Subscript, isNil_Tuple, isNil_ListComp, isNil_IfExp, isNil_Compare, isNil_BoolOp, isNil_nil, isNil_cons, bareCall_Name, bareCall_Constant, bareCall_BinOp, bareCall_UnaryOp, bareCall_Call1, bareCall_Subscript, bareCall_Tuple, bareCall_ListComp, bareCall_IfExp, bareCall_Compare, bareCall_BoolOp, bareCall_List, usedQ_Name, usedQ_Constant, usedQ_BinOp, usedQ_UnaryOp, usedQ_Call, usedQ_Subscript, usedQ_Tuple, usedQ_ListComp, usedQ_IfExp, usedQ_Compare, usedQ_BoolOp, usedQ_List, n1, g1, e1, l1, s1])).trans ?_
    have u1 : updV σ "path" (.str x) "path" = some (.str x) := updV_eq ..
    have u2 : updV σ "path" (.str x) "new_comps" = none := (updV_ne (by decide)).trans l2
    generalize updV σ "path" (.str x) = τ at u1 u2
    refine (execB_next (st' := ⟨updV (updV (updV τ "sep" (.str "/")) "dot" (.str ".")) "dotdot" (.str ".."), none⟩) (by simp only [Option.bind_some, Option.map_some, Option.bind_none, Bool.false_eq_true, if_false, if_true, Bool.false_and, Bool.and_false, Bool.true_and, Bool.and_true, Bool.false_or, Bool.or_false, Bool.not_false, Bool.not_true, List.any_cons, List.any_nil, List.length_cons, List.length_nil, beq_self_eq_true, reduceCtorEq, Nat.reduceAdd, Nat.reduceLT, Nat.reduceLeDiff, Nat.reduceBEq, decide_false, decide_true, lim, truD, bop1, bop2, eK_nil, eK_cons, eS_Expr, eS_Pass, eS_Break, eS_Continue, eS_Return, eS_ReturnN, eS_Assign, eS_AssignT, eS_Aug, eS_If, eS_While, eS_For, eS_Try, evalR, testR, eE_Constant, eE_Name, eE_BoolOp, eE_BinOp, eE_UnaryOp, eE_IfExp, eE_Compare, eE_meth0, eE_meth1, eE_call, eE_slice, eE_subN, eE_subC, eE_subU, eE_subB, eE_subS, eE_List, eE_Tuple, eE_ListComp, eA_nil, eA_star, eA_Name, eA_Constant, eA_BinOp, eA_UnaryOp, eA_Call, eA_Subscript, eA_List, eA_Tuple, eA_ListComp, eA_IfExp, eO_none, eO_some, eT_nil, eT_one, eB_one, eB_more, iT_not, iT_bool, iT_if, iT_cmp, iT_Name, iT_Call, iT_Subscript, iT_BinOp, iT_Constant, aB_nil, aB_cons, assignName, constD_none, constD_bool, constD_int, constD_str, unD_not, unD_neg, badArgs_nil, badArgs_one, badArgs_two, badArgs_three, badArgs_four, isStar_Name, isStar_Constant, isStar_BinOp, isStar_UnaryOp, isStar_Call, isStar_Subscript, isStar_Tuple, isStar_ListComp, isStar_IfExp, isStar_Compare, isStar_BoolOp, isStar_List, isStar_Starred, isSet_Name, isSet_Constant, isSet_BinOp, isSet_UnaryOp, isSet_Call, isSet_Subscript, isSet_Tuple, isSet_ListComp, isSet_IfExp, isSet_Compare, isSet_BoolOp, isSet_List, behind_Name, behind_Constant, behind_BinOp, behind_UnaryOp, behind_Call, behind_Subscript, behind_Tuple, behind_ListComp, behind_IfExp, behind_Compare, behind_BoolOp, behind_List, isNil_Name, isNil_Constant, isNil_BinOp, isNil_UnaryOp, isNil_Call, isNil_Subscript, isNil_Tuple, isNil_ListComp, isNil_IfExp, isNil_Compare, isNil_BoolOp, isNil_nil, isNil_cons, bareCall_Name, bareCall_Constant, bareCall_BinOp, bareCall_UnaryOp, bareCall_Call1, bareCall_Subscript, bareCall_Tuple, bareCall_ListComp, bareCall_IfExp, bareCall_Compare, bareCall_BoolOp, bareCall_List, usedQ_Name, usedQ_Constant, usedQ_BinOp, usedQ_UnaryOp, usedQ_Call, usedQ_Subscript, usedQ_Tuple, usedQ_ListComp, usedQ_IfExp, usedQ_Compare, usedQ_BoolOp, usedQ_List, n1, g2, g4, c2, u1, s2, s3, s4])).trans ?_
    have v1 : updV (updV (updV τ "sep" (.str "/")) "dot" (.str ".")) "dotdot" (.str "..") "path" = some (.str x) := (updV_ne (by decide)).trans ((updV_ne (by decide)).trans ((updV_ne (by decide)).trans u1))
    have v2 : updV (updV (updV τ "sep" (.str "/")) "dot" (.str ".")) "dotdot" (.str "..") "sep" = some (.str "/") := (updV_ne (by decide)).trans ((updV_ne (by decide)).trans (updV_eq ..))
    have v3 : updV (updV (updV τ "sep" (.str "/")) "dot" (.str ".")) "dotdot" (.str "..") "dot" = some (.str ".") := (updV_ne (by decide)).trans (updV_eq ..)
    have v4 : updV (updV (updV τ "sep" (.str "/")) "dot" (.str ".")) "dotdot" (.str "..") "dotdot" = some (.str "..") := updV_eq ..
    have v5 : updV (updV (updV τ "sep" (.str "/")) "dot" (.str ".")) "dotdot" (.str "..") "new_comps" = none := (updV_ne (by decide)).trans ((updV_ne (by decide)).trans ((updV_ne (by decide)).trans u2))
    generalize updV (updV (updV τ "sep" (.str "/")) "dot" (.str ".")) "dotdot" (.str "..") = τ at v1 v2 v3 v4 v5
    refine (execB_next (st' := ⟨τ, none⟩) (by simp only [eK_nil, eK_cons, eS_Expr, eS_Pass, eS_Break, eS_Continue, eS_Return, eS_ReturnN, eS_Assign, eS_AssignT, eS_Aug, eS_If, eS_While, eS_For, eS_Try, testR, iT_not, iT_bool, iT_if, iT_cmp, iT_Name, iT_Call, iT_Subscript, iT_BinOp, iT_Constant, eE_Constant, eE_Name, eE_BoolOp, eE_BinOp, eE_UnaryOp, eE_IfExp, eE_Compare, eE_meth0, eE_meth1, eE_call, eE_slice, eE_subN, eE_subC, eE_subU, eE_subB, eE_subS, eE_List, eE_Tuple, eE_ListComp, n1, v1, hx, Option.bind_some, Option.map_some, Bool.not_true, Bool.false_eq_true, if_false])).trans ?_
    refine (execB_next (st' := ⟨updV (updV (updV τ "_" (.str "")) "initial_slashes" (.str "/")) "path" (.str rest), none⟩) (eS_AssignT.trans (assign_plain (st' := ⟨τ, none⟩) (ds := [.str "", .str "/", .str rest]) rfl rfl rfl (by simp only [Option.bind_some, Option.map_some, Option.bind_none, Bool.false_eq_true, if_false, if_true, Bool.false_and, Bool.and_false, Bool.true_and, Bool.and_true, Bool.false_or, Bool.or_false, Bool.not_false, Bool.not_true, List.any_cons, List.any_nil, List.length_cons, List.length_nil, beq_self_eq_true, reduceCtorEq, Nat.reduceAdd, Nat.reduceLT, Nat.reduceLeDiff, Nat.reduceBEq, decide_false, decide_true, lim, truD, bop1, bop2, eK_nil, eK_cons, eS_Expr, eS_Pass, eS_Break, eS_Continue, eS_Return, eS_ReturnN, eS_Assign, eS_AssignT, eS_Aug, eS_If, eS_While, eS_For, eS_Try, evalR, testR, eE_Constant, eE_Name, eE_BoolOp, eE_BinOp, eE_UnaryOp, eE_IfExp, eE_Compare, eE_meth0, eE_meth1, eE_call, eE_slice, eE_subN, eE_subC, eE_subU, eE_subB, eE_subS, eE_List, eE_Tuple, eE_ListComp, eA_nil, eA_star, eA_Name, eA_Constant, eA_BinOp, eA_UnaryOp, eA_Call, eA_Subscript, eA_List, eA_Tuple, eA_ListComp, eA_IfExp, eO_none, eO_some, eT_nil, eT_one, eB_one, eB_more, iT_not, iT_bool, iT_if, iT_cmp, iT_Name, iT_Call, iT_Subscript, iT_BinOp, iT_Constant, aB_nil, aB_cons, assignName, constD_none, constD_bool, constD_int, constD_str, unD_not, unD_neg, badArgs_nil, badArgs_one, badArgs_two, badArgs_three, badArgs_four, isStar_Name, isStar_Constant, isStar_BinOp, isStar_UnaryOp, isStar_Call, isStar_Subscript, isStar_Tuple, isStar_ListComp, isStar_IfExp, isStar_Compare, isStar_BoolOp, isStar_List, isStar_Starred, isSet_Name, isSet_Constant, isSet_BinOp, isSet_UnaryOp, isSet_Call, isSet_Subscript, isSet_Tuple, isSet_ListComp, isSet_IfExp, isSet_Compare, isSet_BoolOp, isSet_List, behind_Name, behind_Constant, behind_BinOp, behind_UnaryOp, behind_Call, behind_Subscript, behind_Tuple, behind_ListComp, behind_IfExp, behind_Compare, behind_BoolOp, behind_List, isNil_Name, isNil_Constant, isNil_BinOp, isNil_UnaryOp, isNil_Call, isNil_Subscript, isNil_Tuple, isNil_ListComp, isNil_IfExp, isNil_Compare, isNil_BoolOp, isNil_nil, isNil_cons, bareCall_Name, bareCall_Constant, bareCall_BinOp, bareCall_UnaryOp, bareCall_Call1, bareCall_Subscript, bareCall_Tuple, bareCall_ListComp, bareCall_IfExp, bareCall_Compare, bareCall_BoolOp, bareCall_List, usedQ_Name, usedQ_Constant, usedQ_BinOp, usedQ_UnaryOp, usedQ_Call, usedQ_Subscript, usedQ_Tuple, usedQ_ListComp, usedQ_IfExp, usedQ_Compare, usedQ_BoolOp, usedQ_List, n1, v1, g3, e3]) rfl rfl (by simp only [List.map_cons, List.map_nil, storeL_cons, storeL_nil, Option.bind_some, s5, s6, s1])))).trans ?_
    have w1 : updV (updV (updV τ "_" (.str "")) "initial_slashes" (.str "/")) "path" (.str rest) "path" = some (.str rest) := updV_eq ..
    have w2 : updV (updV (updV τ "_" (.str "")) "initial_slashes" (.str "/")) "path" (.str rest) "sep" = some (.str "/") := (updV_ne (by decide)).trans ((updV_ne (by decide)).trans ((updV_ne (by decide)).trans v2))
    have w3 : updV (updV (updV τ "_" (.str "")) "initial_slashes" (.str "/")) "path" (.str rest) "dot" = some (.str ".") := (updV_ne (by decide)).trans ((updV_ne (by decide)).trans ((updV_ne (by decide)).trans v3))
    have w4 : updV (updV (updV τ "_" (.str "")) "initial_slashes" (.str "/")) "path" (.str rest) "dotdot" = some (.str "..") := (updV_ne (by decide)).trans ((updV_ne (by decide)).trans ((updV_ne (by decide)).trans v4))
    have w5 : updV (updV (updV τ "_" (.str "")) "initial_slashes" (.str "/")) "path" (.str rest) "new_comps" = none := (updV_ne (by decide)).trans ((updV_ne (by decide)).trans ((updV_ne (by decide)).trans v5))
    have w6 : updV (updV (updV τ "_" (.str "")) "initial_slashes" (.str "/")) "path" (.str rest) "initial_slashes" = some (.str "/") := (updV_ne (by decide)).trans (updV_eq ..)
    generalize updV (updV (updV τ "_" (.str "")) "initial_slashes" (.str "/")) "path" (.str rest) = τ at w1 w2 w3 w4 w5 w6
    refine (execB_next (st' := ⟨updV τ "comps" (.list (comps.map .str)), none⟩) (by simp only [Option.bind_some, Option.map_some, Option.bind_none, Bool.false_eq_true, if_false, if_true, Bool.false_and, Bool.and_false, Bool.true_and, Bool.and_true, Bool.false_or, Bool.or_false, Bool.not_false, Bool.not_true, List.any_cons, List.any_nil, List.length_cons, List.length_nil, beq_self_eq_true, reduceCtorEq, Nat.reduceAdd, Nat.reduceLT, Nat.reduceLeDiff, Nat.reduceBEq, decide_false, decide_true, lim, truD, bop1, bop2, eK_nil, eK_cons, eS_Expr, eS_Pass, eS_Break, eS_Continue, eS_Return, eS_ReturnN, eS_Assign, eS_AssignT, eS_Aug, eS_If, eS_While, eS_For, eS_Try, evalR, testR, eE_Constant, eE_Name, eE_BoolOp, eE_BinOp, eE_UnaryOp, eE_IfExp, eE_Compare, eE_meth0, eE_meth1, eE_call, eE_slice, eE_subN, eE_subC, eE_subU, eE_subB, eE_subS, eE_List, eE_Tuple, eE_ListComp, eA_nil, eA_star, eA_Name, eA_Constant, eA_BinOp, eA_UnaryOp, eA_Call, eA_Subscript, eA_List, eA_Tuple, eA_ListComp, eA_IfExp, eO_none, eO_some, eT_nil, eT_one, eB_one, eB_more, iT_not, iT_bool, iT_if, iT_cmp, iT_Name, iT_Call, iT_Subscript, iT_BinOp, iT_Constant, aB_nil, aB_cons, assignName, constD_none, constD_bool, constD_int, constD_str, unD_not, unD_neg, badArgs_nil, badArgs_one, badArgs_two, badArgs_three, badArgs_four, isStar_Name, isStar_Constant, isStar_BinOp, isStar_UnaryOp, isStar_Call, isStar_Subscript, isStar_Tuple, isStar_ListComp, isStar_IfExp, isStar_Compare, isStar_BoolOp, isStar_List, isStar_Starred, isSet_Name, isSet_Constant, isSet_BinOp, isSet_UnaryOp, isSet_Call, isSet_Subscript, isSet_Tuple, isSet_ListComp, isSet_IfExp, isSet_Compare, isSet_BoolOp, isSet_List, behind_Name, behind_Constant, behind_BinOp, behind_UnaryOp, behind_Call, behind_Subscript, behind_Tuple, behind_ListComp, behind_IfExp, behind_Compare, behind_BoolOp, behind_List, isNil_Name, isNil_Constant, isNil_BinOp, isNil_UnaryOp, isNil_Call, isNil_Subscript, isNil_Tuple, isNil_ListComp, isNil_IfExp, isNil_Compare, isNil_BoolOp, isNil_nil, isNil_cons, bareCall_Name, bareCall_Constant, bareCall_BinOp, bareCall_UnaryOp, bareCall_Call1, bareCall_Subscript, bareCall_Tuple, bareCall_ListComp, bareCall_IfExp, bareCall_Compare, bareCall_BoolOp, bareCall_List, usedQ_Name, usedQ_Constant, usedQ_BinOp, usedQ_UnaryOp, usedQ_Call, usedQ_Subscript, usedQ_Tuple, usedQ_ListComp, usedQ_IfExp, usedQ_Compare, usedQ_BoolOp, usedQ_List, n1, n2, w1, w2, h1, s7])).trans ?_
    have x2 : updV τ "comps" (.list (comps.map .str)) "sep" = some (.str "/") := (updV_ne (by decide)).trans w2
    have x3 : updV τ "comps" (.list (comps.map .str)) "dot" = some (.str ".") := (updV_ne (by decide)).trans w3
    have x4 : updV τ "comps" (.list (comps.map .str)) "dotdot" = some (.str "..") := (updV_ne (by decide)).trans w4
    have x5 : updV τ "comps" (.list (comps.map .str)) "new_comps" = none := (updV_ne (by decide)).trans w5
    have x6 : updV τ "comps" (.list (comps.map .str)) "initial_slashes" = some (.str "/") := (updV_ne (by decide)).trans w6
    have x7 : updV τ "comps" (.list (comps.map .str)) "comps" = some (.list (comps.map .str)) := updV_eq ..
    generalize updV τ "comps" (.list (comps.map .str)) = τ at x2 x3 x4 x5 x6 x7
    refine (execB_next (st' := ⟨offV τ "new_comps", some ("new_comps", [])⟩) (by simp only [eS_Expr, eS_Pass, eS_Break, eS_Continue, eS_Return, eS_ReturnN, eS_Assign, eS_AssignT, eS_Aug, eS_If, eS_While, eS_For, eS_Try, assignName, isNil_Name, isNil_Constant, isNil_BinOp, isNil_UnaryOp, isNil_Call, isNil_Subscript, isNil_Tuple, isNil_ListComp, isNil_IfExp, isNil_Compare, isNil_BoolOp, isNil_nil, isNil_cons, Bool.true_and, km, kl, if_true, Option.isNone_none])).trans ?_
    have y2 : offV τ "new_comps" "sep" = some (.str "/") := (offV_ne (by decide)).trans x2
    have y3 : offV τ "new_comps" "dot" = some (.str ".") := (offV_ne (by decide)).trans x3
    have y4 : offV τ "new_comps" "dotdot" = some (.str "..") := (offV_ne (by decide)).trans x4
    have y5 : offV τ "new_comps" "new_comps" = none := offV_eq ..
    have y6 : offV τ "new_comps" "initial_slashes" = some (.str "/") := (offV_ne (by decide)).trans x6
    have y7 : offV τ "new_comps" "comps" = some (.list (comps.map .str)) := (offV_ne (by decide)).trans x7
    generalize offV τ "new_comps" = τ at y2 y3 y4 y5 y6 y7
    obtain ⟨σ', el, p1, p2, p3, p4⟩ := norm_loop (call := call) (so := so) (f := storeT f_normpath.scope (.Name "comp" _)) (fun d σ acc => storeT_own rfl (by decide)) comps [] out τ h2 (by simpa using hn) y3 y4 y6 y5 y2
    refine (execB_next (st' := ⟨σ', some ("new_comps", out.map .str)⟩) (for_run rfl (d := .list (comps.map .str)) (ds := comps.map .str) (st' := ⟨τ, some ("new_comps", [])⟩) (by simp only [Option.bind_some, Option.map_some, Option.bind_none, Bool.false_eq_true, if_false, if_true, Bool.false_and, Bool.and_false, Bool.true_and, Bool.and_true, Bool.false_or, Bool.or_false, Bool.not_false, Bool.not_true, List.any_cons, List.any_nil, List.length_cons, List.length_nil, beq_self_eq_true, reduceCtorEq, Nat.reduceAdd, Nat.reduceLT, Nat.reduceLeDiff, Nat.reduceBEq, decide_false, decide_true, lim, truD, bop1, bop2, eK_nil, eK_cons, eS_Expr, eS_Pass, eS_Break, eS_Continue, eS_Return, eS_ReturnN, eS_Assign, eS_AssignT, eS_Aug, eS_If, eS_While, eS_For, eS_Try, evalR, testR, eE_Constant, eE_Name, eE_BoolOp, eE_BinOp, eE_UnaryOp, eE_IfExp, eE_Compare, eE_meth0, eE_meth1, eE_call, eE_slice, eE_subN, eE_subC, eE_subU, eE_subB, eE_subS, eE_List, eE_Tuple, eE_ListComp, eA_nil, eA_star, eA_Name, eA_Constant, eA_BinOp, eA_UnaryOp, eA_Call, eA_Subscript, eA_List, eA_Tuple, eA_ListComp, eA_IfExp, eO_none, eO_some, eT_nil, eT_one, eB_one, eB_more, iT_not, iT_bool, iT_if, iT_cmp, iT_Name, iT_Call, iT_Subscript, iT_BinOp, iT_Constant, aB_nil, aB_cons, assignName, constD_none, constD_bool, constD_int, constD_str, unD_not, unD_neg, badArgs_nil, badArgs_one, badArgs_two, badArgs_three, badArgs_four, isStar_Name, isStar_Constant, isStar_BinOp, isStar_UnaryOp, isStar_Call, isStar_Subscript, isStar_Tuple, isStar_ListComp, isStar_IfExp, isStar_Compare, isStar_BoolOp, isStar_List, isStar_Starred, isSet_Name, isSet_Constant, isSet_BinOp, isSet_UnaryOp, isSet_Call, isSet_Subscript, isSet_Tuple, isSet_ListComp, isSet_IfExp, isSet_Compare, isSet_BoolOp, isSet_List, behind_Name, behind_Constant, behind_BinOp, behind_UnaryOp, behind_Call, behind_Subscript, behind_Tuple, behind_ListComp, behind_IfExp, behind_Compare, behind_BoolOp, behind_List, isNil_Name, isNil_Constant, isNil_BinOp, isNil_UnaryOp, isNil_Call, isNil_Subscript, isNil_Tuple, isNil_ListComp, isNil_IfExp, isNil_Compare, isNil_BoolOp, isNil_nil, isNil_cons, bareCall_Name, bareCall_Constant, bareCall_BinOp, bareCall_UnaryOp, bareCall_Call1, bareCall_Subscript, bareCall_Tuple, bareCall_ListComp, bareCall_IfExp, bareCall_Compare, bareCall_BoolOp, bareCall_List, usedQ_Name, usedQ_Constant, usedQ_BinOp, usedQ_UnaryOp, usedQ_Call, usedQ_Subscript, usedQ_Tuple, usedQ_ListComp, usedQ_IfExp, usedQ_Compare, usedQ_BoolOp, usedQ_List, n3, y7]) (by show (if (comps.map D.str).length ≤ lim then some (comps.map D.str) else none) = _; rw [if_pos (by rw [List.length_map]; show _ ≤ 65536; lia)]) el)).trans ?_
    refine (execB_next (st' := ⟨updV (updV σ' "new_comps" (.list (out.map .str))) "comps" (.list (out.map .str)), none⟩) (by simp only [Option.bind_some, Option.map_some, Option.bind_none, Bool.false_eq_true, if_false, if_true, Bool.false_and, Bool.and_false, Bool.true_and, Bool.and_true, Bool.false_or, Bool.or_false, Bool.not_false, Bool.not_true, List.any_cons, List.any_nil, List.length_cons, List.length_nil, beq_self_eq_true, reduceCtorEq, Nat.reduceAdd, Nat.reduceLT, Nat.reduceLeDiff, Nat.reduceBEq, decide_false, decide_true, lim, truD, bop1, bop2, eK_nil, eK_cons, eS_Expr, eS_Pass, eS_Break, eS_Continue, eS_Return, eS_ReturnN, eS_Assign, eS_AssignT, eS_Aug, eS_If, eS_While, eS_For, eS_Try, evalR, testR, eE_Constant, eE_Name, eE_BoolOp, eE_BinOp, eE_UnaryOp, eE_IfExp, eE_Compare, eE_meth0, eE_meth1, eE_call, eE_slice, eE_subN, eE_subC, eE_subU, eE_subB, eE_subS, eE_List, eE_Tuple, eE_ListComp, eA_nil, eA_star, eA_Name, eA_Constant, eA_BinOp, eA_UnaryOp, eA_Call, eA_Subscript, eA_List, eA_Tuple, eA_ListComp, eA_IfExp, eO_none, eO_some, eT_nil, eT_one, eB_one, eB_more, iT_not, iT_bool, iT_if, iT_cmp, iT_Name, iT_Call, iT_Subscript, iT_BinOp, iT_Constant, aB_nil, aB_cons, assignName, constD_none, constD_bool, constD_int, constD_str, unD_not, unD_neg, badArgs_nil, badArgs_one, badArgs_two, badArgs_three, badArgs_four, isStar_Name, isStar_Constant, isStar_BinOp, isStar_UnaryOp, isStar_Call, isStar_Subscript, isStar_Tuple, isStar_ListComp, isStar_IfExp, isStar_Compare, isStar_BoolOp, isStar_List, isStar_Starred, isSet_Name, isSet_Constant, isSet_BinOp, isSet_UnaryOp, isSet_Call, isSet_Subscript, isSet_Tuple, isSet_ListComp, isSet_IfExp, isSet_Compare, isSet_BoolOp, isSet_List, behind_Name, behind_Constant, behind_BinOp, behind_UnaryOp, behind_Call, behind_Subscript, behind_Tuple, behind_ListComp, behind_IfExp, behind_Compare, behind_BoolOp, behind_List, isNil_Name, isNil_Constant, isNil_BinOp, isNil_UnaryOp, isNil_Call, isNil_Subscript, isNil_Tuple, isNil_ListComp, isNil_IfExp, isNil_Compare, isNil_BoolOp, isNil_nil, isNil_cons, bareCall_Name, bareCall_Constant, bareCall_BinOp, bareCall_UnaryOp, bareCall_Call1, bareCall_Subscript, bareCall_Tuple, bareCall_ListComp, bareCall_IfExp, bareCall_Compare, bareCall_BoolOp, bareCall_List, usedQ_Name, usedQ_Constant, usedQ_BinOp, usedQ_UnaryOp, usedQ_Call, usedQ_Subscript, usedQ_Tuple, usedQ_ListComp, usedQ_IfExp, usedQ_Compare, usedQ_BoolOp, usedQ_List, n4, p4, updV_eq, flatD, s7])).trans ?_
    have z1 : updV (updV σ' "new_comps" (.list (out.map .str))) "comps" (.list (out.map .str)) "comps" = some (.list (out.map .str)) := updV_eq ..
    have z2 : updV (updV σ' "new_comps" (.list (out.map .str))) "comps" (.list (out.map .str)) "sep" = some (.str "/") := (updV_ne (by decide)).trans ((updV_ne (by decide)).trans p3)
    have z3 : updV (updV σ' "new_comps" (.list (out.map .str))) "comps" (.list (out.map .str)) "initial_slashes" = some (.str "/") := (updV_ne (by decide)).trans ((updV_ne (by decide)).trans p2)
    generalize updV (updV σ' "new_comps" (.list (out.map .str))) "comps" (.list (out.map .str)) = τ at z1 z2 z3
    refine (execB_next (st' := ⟨updV τ "path" (.str res), none⟩) (by simp only [Option.bind_some, Option.map_some, Option.bind_none, Bool.false_eq_true, if_false, if_true, Bool.false_and, Bool.and_false, Bool.true_and, Bool.and_true, Bool.false_or, Bool.or_false, Bool.not_false, Bool.not_true, List.any_cons, List.any_nil, List.length_cons, List.length_nil, beq_self_eq_true, reduceCtorEq, Nat.reduceAdd, Nat.reduceLT, Nat.reduceLeDiff, Nat.reduceBEq, decide_false, decide_true, lim, truD, bop1, bop2, eK_nil, eK_cons, eS_Expr, eS_Pass, eS_Break, eS_Continue, eS_Return, eS_ReturnN, eS_Assign, eS_AssignT, eS_Aug, eS_If, eS_While, eS_For, eS_Try, evalR, testR, eE_Constant, eE_Name, eE_BoolOp, eE_BinOp, eE_UnaryOp, eE_IfExp, eE_Compare, eE_meth0, eE_meth1, eE_call, eE_slice, eE_subN, eE_subC, eE_subU, eE_subB, eE_subS, eE_List, eE_Tuple, eE_ListComp, eA_nil, eA_star, eA_Name, eA_Constant, eA_BinOp, eA_UnaryOp, eA_Call, eA_Subscript, eA_List, eA_Tuple, eA_ListComp, eA_IfExp, eO_none, eO_some, eT_nil, eT_one, eB_one, eB_more, iT_not, iT_bool, iT_if, iT_cmp, iT_Name, iT_Call, iT_Subscript, iT_BinOp, iT_Constant, aB_nil, aB_cons, assignName, constD_none, constD_bool, constD_int, constD_str, unD_not, unD_neg, badArgs_nil, badArgs_one, badArgs_two, badArgs_three, badArgs_four, isStar_Name, isStar_Constant, isStar_BinOp, isStar_UnaryOp, isStar_Call, isStar_Subscript, isStar_Tuple, isStar_ListComp, isStar_IfExp, isStar_Compare, isStar_BoolOp, isStar_List, isStar_Starred, isSet_Name, isSet_Constant, isSet_BinOp, isSet_UnaryOp, isSet_Call, isSet_Subscript, isSet_Tuple, isSet_ListComp, isSet_IfExp, isSet_Compare, isSet_BoolOp, isSet_List, behind_Name, behind_Constant, behind_BinOp, behind_UnaryOp, behind_Call, behind_Subscript, behind_Tuple, behind_ListComp, behind_IfExp, behind_Compare, behind_BoolOp, behind_List, isNil_Name, isNil_Constant, isNil_BinOp, isNil_UnaryOp, isNil_Call, isNil_Subscript, isNil_Tuple, isNil_ListComp, isNil_IfExp, isNil_Compare, isNil_BoolOp, isNil_nil, isNil_cons, bareCall_Name, bareCall_Constant, bareCall_BinOp, bareCall_UnaryOp, bareCall_Call1, bareCall_Subscript, bareCall_Tuple, bareCall_ListComp, bareCall_IfExp, bareCall_Compare, bareCall_BoolOp, bareCall_List, usedQ_Name, usedQ_Constant, usedQ_BinOp, usedQ_UnaryOp, usedQ_Call, usedQ_Subscript, usedQ_Tuple, usedQ_ListComp, usedQ_IfExp, usedQ_Compare, usedQ_BoolOp, usedQ_List, n2, n3, n5, z1, z2, z3, h3, h4, s1])).trans ?_
    have a1 : updV τ "path" (.str res) "path" = some (.str res) := updV_eq ..
    simp only [eK_nil, eK_cons, eS_Expr, eS_Pass, eS_Break, eS_Continue, eS_Return, eS_ReturnN, eS_Assign, eS_AssignT, eS_Aug, eS_If, eS_While, eS_For, eS_Try, evalR, eE_Constant, eE_Name, eE_BoolOp, eE_BinOp, eE_UnaryOp, eE_IfExp, eE_Compare, eE_meth0, eE_meth1, eE_call, eE_slice, eE_subN, eE_subC, eE_subU, eE_subB, eE_subS, eE_List, eE_Tuple, eE_ListComp, eB_one, eB_more, n1, a1, h5, Option.bind_some]
  rw [hfin]; rfl
end
end Mine
end

/-! part Ph -/
section
open PySem PySem.W PyProof.Rows PySem.Calls
set_option maxRecDepth 100000
set_option maxHeartbeats 4000000
set_option linter.unusedVariables false
set_option linter.unusedSimpArgs false
set_option tactic.hygienic false
namespace Mine

theorem places3 {P : List Row → Bool} (h0 : P [] = true) (h1 : (rws.all fun a => P [a]) = true) (h2 : (rws.all fun a => rws.all fun b => P [a, b]) = true) (h3 : (rws.all fun a => rws.all fun b => rws.all fun c => P [a, b, c]) = true) : ∀ p, p.length ≤ 3 → P p = true
  | [], _ => h0
  | [a], _ => List.all_eq_true.mp h1 a (rws_all a)
  | [a, b], _ => List.all_eq_true.mp (List.all_eq_true.mp h2 a (rws_all a)) b (rws_all b)
  | [a, b, c], _ => List.all_eq_true.mp (List.all_eq_true.mp (List.all_eq_true.mp h3 a (rws_all a)) b (rws_all b)) c (rws_all c)
  | _ :: _ :: _ :: _ :: _, h => by simp at h

noncomputable def fr : Row → Str
  | 0 => ""
  | 1 => "./"
  | 2 => "F0/../"
  | 3 => "../"
noncomputable def joinX (p : List Row) (f : Row) : Str := (fr f :: p.map hexS).foldl joinStep "/"
noncomputable def restX (x : Str) : Str := strOf (pySl x.cps.toList (some 1) none)
noncomputable def pathChk (p : List Row) (f : Row) : Bool :=
  let x := joinX p f
  let rest := restX x
  pySl x.cps.toList none (some 1) == [47] && (ccD .NotEq (.str (strOf (pySl x.cps.toList (some 1) (some 2)))) (.str "/") == some true) && decide (x.length ≤ 1000) && decide (x.length ≠ 0) &&
    decide (rest.length ≤ 1000 ∧ (Txt.split rest "/").length ≤ 1000 ∧ (Builtin.Str.partsBetween rest (Builtin.Str.occurrences rest "/" 0 rest.length (rest.length + 1)) ("/" : Str).length).length ≤ 1000) && (nGo (Txt.split rest "/") [] == some (p.map hexS))
noncomputable def textChk (p : List Row) : Bool := JoinOk "/" (p.map hexS) && (("/" ++ Txt.join "/" (p.map hexS) : Str) == textS p) && decide ((Txt.join "/" (p.map hexS)).length ≤ 1000) && decide ((textS p).length ≠ 0 ∧ (textS p).length ≤ 1000)
theorem all4 {f : Row → Bool} (h0 : f 0 = true) (h1 : f 1 = true) (h2 : f 2 = true) (h3 : f 3 = true) : rws.all f = true := by
  show (f 0 && (f 1 && (f 2 && (f 3 && true)))) = true
  rw [h0, h1, h2, h3]; rfl
theorem text_chk : ∀ p, p.length ≤ 3 → textChk p = true := places3 (by kernel_rfl) (by kernel_rfl) (by kernel_rfl) (by kernel_rfl)
theorem path_chk00 : (rws.all fun b => rws.all fun c => pathChk [0, b, c] 0) = true := by kernel_rfl
theorem path_chk01 : (rws.all fun b => rws.all fun c => pathChk [1, b, c] 0) = true := by kernel_rfl
theorem path_chk02 : (rws.all fun b => rws.all fun c => pathChk [2, b, c] 0) = true := by kernel_rfl
theorem path_chk03 : (rws.all fun b => rws.all fun c => pathChk [3, b, c] 0) = true := by kernel_rfl
theorem path_chk0 : ∀ p, p.length ≤ 3 → pathChk p 0 = true := places3 (by kernel_rfl) (by kernel_rfl) (by kernel_rfl) (all4 path_chk00 path_chk01 path_chk02 path_chk03)
theorem path_chk10 : (rws.all fun b => rws.all fun c => pathChk [0, b, c] 1) = true := by kernel_rfl
theorem path_chk11 : (rws.all fun b => rws.all fun c => pathChk [1, b, c] 1) = true := by kernel_rfl
theorem path_chk12 : (rws.all fun b => rws.all fun c => pathChk [2, b, c] 1) = true := by kernel_rfl
theorem path_chk13 : (rws.all fun b => rws.all fun c => pathChk [3, b, c] 1) = true := by kernel_rfl
theorem path_chk1 : ∀ p, p.length ≤ 3 → pathChk p 1 = true := places3 (by kernel_rfl) (by kernel_rfl) (by kernel_rfl) (all4 path_chk10 path_chk11 path_chk12 path_chk13)
theorem path_chk20 : (rws.all fun b => rws.all fun c => pathChk [0, b, c] 2) = true := by kernel_rfl
theorem path_chk21 : (rws.all fun b => rws.all fun c => pathChk [1, b, c] 2) = true := by kernel_rfl
theorem path_chk22 : (rws.all fun b => rws.all fun c => pathChk [2, b, c] 2) = true := by kernel_rfl
theorem path_chk23 : (rws.all fun b => rws.all fun c => pathChk [3, b, c] 2) = true := by kernel_rfl
theorem path_chk2 : ∀ p, p.length ≤ 3 → pathChk p 2 = true := places3 (by kernel_rfl) (by kernel_rfl) (by kernel_rfl) (all4 path_chk20 path_chk21 path_chk22 path_chk23)
theorem path_chk30 : (rws.all fun b => rws.all fun c => pathChk [0, b, c] 3) = true := by kernel_rfl
theorem path_chk31 : (rws.all fun b => rws.all fun c => pathChk [1, b, c] 3) = true := by kernel_rfl
theorem path_chk32 : (rws.all fun b => rws.all fun c => pathChk [2, b, c] 3) = true := by kernel_rfl
theorem path_chk33 : (rws.all fun b => rws.all fun c => pathChk [3, b, c] 3) = true := by kernel_rfl
theorem path_chk3 : ∀ p, p.length ≤ 3 → pathChk p 3 = true := places3 (by kernel_rfl) (by kernel_rfl) (by kernel_rfl) (all4 path_chk30 path_chk31 path_chk32 path_chk33)
end Mine
end

/-! part Pi -/
section
open PySem PySem.W PyProof.Rows PySem.Calls
set_option maxRecDepth 100000
set_option maxHeartbeats 4000000
set_option linter.unusedVariables false
set_option linter.unusedSimpArgs false
set_option tactic.hygienic false
namespace Mine

theorem lc_run {cx : Cx} {sc : Scope} {σ : Vars} {elt iter : Expr} {x : Str} {px pos : Pos} {ifs : List Expr} {scope : Scope} {src : D} {ds es : List D} (hset : isSet iter = false) (hsc : scopeOk scope sc x = true) (hi : evalE cx iter sc σ = some src) (hd : itemsD src = some ds)
    (hc : compGo (fun d => allT cx ifs (relabelS scope sc) (compVars (relabelS scope sc) σ x d)) (fun d => evalE cx elt (relabelS scope sc) (compVars (relabelS scope sc) σ x d)) ds = some es) : evalE cx (.ListComp elt [⟨.Name x px, iter, ifs, 0⟩] scope pos) sc σ = some (.list es) := by
  rw [eE_ListComp, hset, hsc, hi]
  show ((itemsD src).bind _) = _
  rw [hd]
  show (compGo _ _ ds).map _ = _
  rw [hc]; rfl
theorem compGo_map {α : Type} {test : D → Option Bool} {elt : D → Option D} {f g : α → D} : ∀ (l : List α), (∀ a ∈ l, test (f a) = some true ∧ elt (f a) = some (g a)) → compGo test elt (l.map f) = some (l.map g)
  | [], _ => rfl
  | a :: l, h => by
    have ha := h a List.mem_cons_self
    rw [List.map_cons, compGo, ha.1]
    simp only [Option.bind_some, if_true, ha.2]
    rw [compGo_map l fun b hb => h b (List.mem_cons_of_mem _ hb)]; rfl
theorem compGo_filter {α : Type} {test : D → Option Bool} {elt : D → Option D} {f g : α → D} {p : α → Bool} : ∀ (l : List α), (∀ a ∈ l, test (f a) = some (p a) ∧ elt (f a) = some (g a)) → compGo test elt (l.map f) = some ((l.filter p).map g)
  | [], _ => rfl
  | a :: l, h => by
    have ha := h a List.mem_cons_self
    rw [List.map_cons, compGo, ha.1]
    have ih := compGo_filter (p := p) l fun b hb => h b (List.mem_cons_of_mem _ hb)
    simp only [Option.bind_some]
    cases hp : p a with
    | true => rw [if_pos rfl, ha.2, List.filter_cons, if_pos hp]; simp only [Option.bind_some]; rw [ih]; rfl
    | false => rw [if_neg Bool.false_ne_true, List.filter_cons, if_neg (by simp [hp])]; exact ih
theorem compVars_self {sc : Scope} {σ : Vars} {x : Str} {d : D} : compVars sc σ x d x = some d := if_pos rfl
theorem compVars_cel {sc : Scope} {σ : Vars} {x y : Str} {d : D} (h : y ≠ x) (hl : sc.names.lookup y = some .cell) : compVars sc σ x d y = σ y := by unfold compVars; rw [if_neg h, if_pos hl]


/-! rules, one a form -/
section
variable {call : Addr → List D → Option D} {so : List D → Option (List D)} {cx : Cx} {sc : Scope} {σ : Vars} {mu : List Str} {st st' : Sto} {p : Pos} {d a b : D} {l r e t : Expr} {x : Str}
theorem nameD_gl (h1 : (x == ("__debug__" : Str)) = false) (h2 : sc.names.lookup x = some .globalImplicit) : nameD ⟨call, gl, so⟩ x sc σ = (gl x).bind valD := by
  unfold nameD; rw [h1, h2]; rfl
theorem ev_ret (h : evalE cx e sc st.σ = some d) : execS cx mu (.Return (some e) p) sc st = some (.ret d) := by
  rw [eS_Return]; unfold evalR; rw [h]; rfl
theorem ev_set {xp : Pos} (hn : (isNil e && mu.contains x) = false) (h : evalE cx e sc st.σ = some d) (hs : storeD sc x d st = some st') : execS cx mu (.Assign [.Name x xp] e p) sc st = some (.next st') := by
  have e1 : evalR cx e sc st = some (d, st) := by unfold evalR; rw [h]
  rw [eS_Assign]; unfold assignName; rw [if_neg (by rw [hn]; exact Bool.false_ne_true), e1, h]
  show (if _ then (storeD sc x d st).map Fl.next else (storeD sc x d st).map Fl.next) = _
  rw [ite_self, hs]; rfl
theorem ev_if {c : Bool} {bt bo : List Stmt} (h : isT cx t (evalE cx t sc st.σ) sc st.σ = some c) : execS cx mu (.If t bt bo p) sc st = if c then execB cx mu bt sc st else execB cx mu bo sc st := by
  rw [eS_If]; unfold testR; rw [h]; rfl
theorem ev_name {xp : Pos} (h : nameD cx x sc σ = some d) : evalE cx (.Name x xp) sc σ = some d := h
theorem ev_con {c : Const} {k : Nat} (h : constD c = some d) : evalE cx (.Constant c k p) sc σ = some d := h
theorem ev_bin {op : Operator} (h1 : evalE cx l sc σ = some a) (h2 : evalE cx r sc σ = some b) (h3 : binD op a b = some d) : evalE cx (.BinOp l op r p) sc σ = some d := by
  rw [eE_BinOp, h1, h2]; exact h3
theorem ev_cmp {op : CmpOp} {c : Bool} (hm : behindInMarks op r = false) (h1 : evalE cx l sc σ = some a) (h2 : evalE cx r sc σ = some b) (h3 : ccD op a b = some c) : evalE cx (.Compare l [op] [r] p) sc σ = some (.bool c) := by
  rw [eE_Compare, hm, h1, h2]; show (ccD op a b).map _ = _; rw [h3]; rfl
theorem ist_cmp {op : CmpOp} {c : Bool} {o : Option D} (hm : behindInMarks op r = false) (h1 : evalE cx l sc σ = some a) (h2 : evalE cx r sc σ = some b) (h3 : ccD op a b = some c) : isT cx (.Compare l [op] [r] p) o sc σ = some c := by
  rw [iT_cmp, hm, h1, h2]; exact h3
theorem ev_meth1 {o : Expr} {m : Str} {ap : Pos} (hb : bareCall o = false) (hl : (ap.endLine == p.line) = true) (hs : isStar e = false) (h1 : evalE cx o sc σ = some a) (h2 : evalE cx e sc σ = some b) (h3 : met1 m a b = some d) :
    evalE cx (.Call (.Attribute o m ap) [e] [] p) sc σ = some d := by
  rw [eE_meth1, hb, hl, h1]; show (if isStar e = true then none else (evalE cx e sc σ).bind fun b => met1 m a b) = _; rw [hs, h2]; exact h3
theorem ev_call {f : Expr} {args : List Expr} {fd : D} {as : List D} (hf : isAttr f = false) (hb : badArgs args = false) (h1 : evalE cx f sc σ = some fd) (h2 : evalA cx args sc σ = some as) (h3 : callD cx fd as = some d) : evalE cx (.Call f args [] p) sc σ = some d := by
  rw [evalE_call hf, hf, hb, h1, h2]; exact h3
theorem ea_nil : evalA cx [] sc σ = some [] := rfl
theorem ea_cons {as : List Expr} {ds : List D} (hs : isStar e = false) (h1 : evalE cx e sc σ = some d) (h2 : evalA cx as sc σ = some ds) : evalA cx (e :: as) sc σ = some (d :: ds) := by
  rw [evalA_plain hs, h1, h2]; rfl
theorem ea_star {as : List Expr} {ds xs : List D} {q : Pos} (h1 : evalE cx e sc σ = some (.list xs)) (hx : xs.length ≤ 1000) (h2 : evalA cx as sc σ = some ds) : evalA cx (.Starred e q :: as) sc σ = some (xs ++ ds) := by
  have : xs.length ≤ lim := by show _ ≤ 65536; lia
  rw [eA_star, h1]; show (if xs.length ≤ lim then _ else none) = _; rw [if_pos this, h2]; rfl
theorem ev_sub {v i : Expr} (hi : isSlice i = false) (h1 : evalE cx v sc σ = some a) (h2 : evalE cx i sc σ = some b) (h3 : idxD a b = some d) : evalE cx (.Subscript v i p) sc σ = some d := by
  rw [evalE_sub hi, h1, h2]; exact h3
theorem ev_sli {v : Expr} {lo hi : Option Expr} {q : Pos} {bl bh : D} (h1 : evalE cx v sc σ = some a) (h2 : evalO cx lo sc σ = some bl) (h3 : evalO cx hi sc σ = some bh) (h4 : slD a bl bh = some d) : evalE cx (.Subscript v (.Slice lo hi none q) p) sc σ = some d := by
  rw [eE_slice, h1, h2, h3]; exact h4
theorem eo_none : evalO cx none sc σ = some .none := rfl
theorem eo_some (h : evalE cx e sc σ = some d) : evalO cx (some e) sc σ = some d := h
theorem ev_list {es : List Expr} {ds : List D} (hs : es.any isStar = false) (h : evalA cx es sc σ = some ds) (hz : ds.length ≤ 1000) : evalE cx (.List es p) sc σ = some (.list ds) := by
  have : ds.length ≤ lim := by show _ ≤ 65536; lia
  rw [eE_List, hs, h]; exact if_pos this
theorem ev_tup {es : List Expr} {ds : List D} {k : Nat} (hs : es.any isStar = false) (h : evalA cx es sc σ = some ds) (hz : ds.length ≤ 1000) : evalE cx (.Tuple es k p) sc σ = some (.tup ds) := by
  have : ds.length ≤ lim := by show _ ≤ 65536; lia
  rw [eE_Tuple, hs, h]; exact if_pos this
theorem ev_ifx {c : Bool} {bt bo : Expr} (h1 : isT cx t (evalE cx t sc σ) sc σ = some c) (h2 : (if c then evalE cx bt sc σ else evalE cx bo sc σ) = some d) : evalE cx (.IfExp t bt bo p) sc σ = some d := by
  rw [eE_IfExp, h1]; exact h2
theorem ist_name {xp : Pos} {c : Bool} (h1 : nameD cx x sc σ = some d) (h2 : truD d = some c) : isT cx (.Name x xp) (evalE cx (.Name x xp) sc σ) sc σ = some c := by
  rw [iT_Name, eE_Name, h1]; exact h2
end

section
variable {call : Addr → List D → Option D} {so : List D → Option (List D)}

theorem itemsD_list {l : List D} (h : l.length ≤ 1000) : itemsD (.list l) = some l := by show (if l.length ≤ lim then some l else none) = _; rw [if_pos (by show _ ≤ 65536; lia)]
theorem itemsD_rng {n : Nat} (h : n ≤ 1000) : itemsD (.rng n) = some ((List.range n).map fun (k : Nat) => D.int (k : Int)) := by show (if n ≤ lim then some _ else none) = _; rw [if_pos (by show _ ≤ 65536; lia)]

theorem r_text {p : List Row} (hp : p.length ≤ 3) (c1 : ∀ r, call 185 [rowD r] = some (.str (hexS r))) : runF ⟨call, gl, so⟩ f_text [placeD p] = some (.str (textS p)) := by
  unfold runF
  rw [show f_text.bind [placeD p] = some [(("place" : Str), placeD p)] from rfl]
  have n1 : ∀ σ, nameD ⟨call, gl, so⟩ "place" f_text.scope σ = σ "place" := fun σ => nameD_loc rfl rfl
  simp only [Option.bind_some]
  obtain ⟨σ, hσ⟩ : ∃ σ : Vars, σ = fun y => [(("place" : Str), placeD p)].lookup y := ⟨_, rfl⟩
  have l1 : σ "place" = some (placeD p) := by rw [hσ]; rfl
  rw [← hσ]
  have hc := text_chk p hp
  unfold textChk at hc
  simp only [Bool.and_eq_true, beq_iff_eq, decide_eq_true_eq] at hc
  obtain ⟨⟨⟨h1, h2⟩, h3⟩, h4⟩ := hc
  have hj : met1 "join" (.str "/") (.list (p.map fun r => .str (hexS r))) = some (.str (Txt.join "/" (p.map hexS))) := m1_join (by rw [show (p.map fun r => D.str (hexS r)) = (p.map hexS).map .str by rw [List.map_map]; rfl]; exact strsD_map _) h1
  have e1 : ∀ r, callD ⟨call, gl, so⟩ (.glob 185) [rowD r] = some (.str (hexS r)) := fun r => c1 r
  have hl1 : ("/" : Str).length = 1 := by decide
  have hfin : execB ⟨call, gl, so⟩ f_text.mu f_text.body f_text.scope ⟨σ, none⟩ = some (.ret (.str (textS p))) := by
    conv in f_text.body => whnf
    refine execB_ret (ev_ret (ev_bin (ev_con rfl) (ev_meth1 rfl rfl rfl (ev_con rfl) (lc_run rfl rfl (ev_name ((n1 _).trans l1)) (itemsD_list (by rw [List.length_map]; lia)) (compGo_map p fun r _ => ⟨by simp only [eT_nil, eT_one], ?_⟩)) hj) ?_))
    · exact ev_call rfl rfl (ev_name (nameD_glo rfl rfl rfl)) (ea_cons rfl (ev_name ((nameD_loc rfl rfl).trans compVars_self)) ea_nil) (e1 r)
    · show (if ("/" : Str).length + (Txt.join "/" (p.map hexS)).length ≤ lim then some (D.str ("/" ++ Txt.join "/" (p.map hexS))) else none) = _
      rw [h2, if_pos (by rw [hl1]; show _ ≤ 65536; lia)]
  rw [hfin]; rfl
end
end Mine
end

/-! part Pj -/
section
open PySem PySem.W PyProof.Rows PySem.Calls
set_option maxRecDepth 100000
set_option maxHeartbeats 4000000
set_option linter.unusedVariables false
set_option linter.unusedSimpArgs false
set_option tactic.hygienic false
namespace Mine

noncomputable def rowB : Row → Array UInt8
  | 0 => #[0]
  | 1 => #[0, 0]
  | 2 => #[0, 15]
  | 3 => #[240]
noncomputable def upB : Row → Array UInt8
  | 0 => #[48, 48]
  | 1 => #[48, 48, 48, 48]
  | 2 => #[48, 48, 48, 70]
  | 3 => #[70, 48]
theorem bytes_row (cx : Cx) : ∀ r, callD cx (.typ "bytes") [rowD r] = some (.bytes (rowB r))
  | 0 => by kernel_rfl
  | 1 => by kernel_rfl
  | 2 => by kernel_rfl
  | 3 => by kernel_rfl
theorem dec_row : ∀ r, met1 "decode" (.bytes (upB r)) (.str "ascii") = some (.str (hexS r))
  | 0 => by kernel_rfl
  | 1 => by kernel_rfl
  | 2 => by kernel_rfl
  | 3 => by kernel_rfl

section
variable {call : Addr → List D → Option D} {so : List D → Option (List D)}

theorem front_at (f : Row) : idxD (.list [.str "", .str "./", .str "F0/../", .str "../"]) (.int (f.val : Int)) = some (.str (fr f)) := by
  match f with
  | 0 => rfl
  | 1 => rfl
  | 2 => rfl
  | 3 => rfl

theorem r_path {p : List Row} {f : Row} {x : Str} (hp : p.length ≤ 3) (c1 : ∀ r, call 58 [.bytes (rowB r)] = some (.bytes (upB r))) (c2 : call 152 (.str "/" :: (fr f :: p.map hexS).map .str) = some (.str x)) (c3 : call 180 [.str x] = some (.str (textS p))) :
    runF ⟨call, gl, so⟩ f_path [placeD p, .int (f.val : Int)] = some (.str (textS p)) := by
  unfold runF
  rw [show f_path.bind [placeD p, .int (f.val : Int)] = some [(("place" : Str), placeD p), ("front", .int (f.val : Int))] from rfl]
  simp only [Option.bind_some]
  obtain ⟨σ, hσ⟩ : ∃ σ : Vars, σ = fun y => [(("place" : Str), placeD p), ("front", .int (f.val : Int))].lookup y := ⟨_, rfl⟩
  have l1 : σ "place" = some (placeD p) := by rw [hσ]; rfl
  have l2 : σ "front" = some (.int (f.val : Int)) := by rw [hσ]; rfl
  rw [← hσ]
  have e2 : callD ⟨call, gl, so⟩ (.glob 152) (.str "/" :: .str (fr f) :: (p.map fun r => .str (hexS r))) = some (.str x) := by
    show call 152 _ = _
    rw [← c2, List.map_cons, List.map_map]; rfl
  have hfin : execB ⟨call, gl, so⟩ f_path.mu f_path.body f_path.scope ⟨σ, none⟩ = some (.ret (.str (textS p))) := by
    conv in f_path.body => whnf
    refine (execB_next (ev_set (st' := ⟨updV σ "names" (.list (p.map fun r => .str (hexS r))), none⟩) rfl (lc_run rfl rfl (ev_name ((nameD_loc rfl rfl).trans l1)) (itemsD_list (by rw [List.length_map]; omega)) (compGo_map p fun r _ => ⟨by simp only [eT_nil, eT_one], ?_⟩)) (storeD_loc rfl rfl))).trans ?_
    · refine ev_meth1 rfl rfl rfl (ev_call rfl rfl (ev_name (nameD_glo rfl rfl rfl)) (ea_cons rfl (ev_call rfl rfl (ev_name (nameD_glo rfl rfl rfl)) (ea_cons rfl (ev_name ((nameD_loc rfl rfl).trans compVars_self)) ea_nil) (bytes_row _ r)) ea_nil) (c1 r)) (ev_con rfl) (dec_row r)
    · have u1 : updV σ "names" (.list (p.map fun r => .str (hexS r))) "names" = some (.list (p.map fun r => .str (hexS r))) := updV_eq ..
      have u2 : updV σ "names" (.list (p.map fun r => .str (hexS r))) "front" = some (.int (f.val : Int)) := (updV_ne (by decide)).trans l2
      exact execB_ret (ev_ret (ev_call rfl rfl (ev_name (nameD_glo rfl rfl rfl)) (ea_cons rfl (ev_call rfl rfl (ev_name (nameD_glo rfl rfl rfl)) (ea_cons rfl (ev_con rfl)
        (ea_cons rfl (ev_sub rfl (ev_list rfl (ea_cons rfl (ev_con rfl) (ea_cons rfl (ev_con rfl) (ea_cons rfl (ev_con rfl) (ea_cons rfl (ev_con rfl) ea_nil)))) (by simp only [List.length_cons, List.length_nil]; lia)) (ev_name ((nameD_loc rfl rfl).trans u2)) (front_at f))
          (ea_star (ev_name ((nameD_loc rfl rfl).trans u1)) (by rw [List.length_map]; omega) ea_nil))) (by rw [List.append_nil]; exact e2)) ea_nil) c3))
  rw [hfin]; rfl

theorem r_beyond {x y z : Str} {d : D} (c2 : call 152 [.str x, .str ""] = some (.str y)) (h1 : slD (.str y) .none (.int (-1)) = some (.str z)) (h2 : binD .Add (.str z) (.str "0") = some d) : runF ⟨call, gl, so⟩ f_beyond [.str x] = some d := by
  unfold runF
  rw [show f_beyond.bind [.str x] = some [(("path" : Str), .str x)] from rfl]
  simp only [Option.bind_some]
  obtain ⟨σ, hσ⟩ : ∃ σ : Vars, σ = fun y => [(("path" : Str), D.str x)].lookup y := ⟨_, rfl⟩
  have l1 : σ "path" = some (.str x) := by rw [hσ]; rfl
  rw [← hσ]
  have hfin : execB ⟨call, gl, so⟩ f_beyond.mu f_beyond.body f_beyond.scope ⟨σ, none⟩ = some (.ret d) := by
    conv in f_beyond.body => whnf
    refine execB_ret (ev_ret (ev_bin (ev_sli (ev_call rfl rfl (ev_name (nameD_glo rfl rfl rfl)) (ea_cons rfl (ev_name ((nameD_loc rfl rfl).trans l1)) (ea_cons rfl (ev_con rfl) ea_nil)) c2) eo_none (eo_some (by simp only [eE_Constant, eE_Name, eE_BoolOp, eE_BinOp, eE_UnaryOp, eE_IfExp, eE_Compare, eE_meth0, eE_meth1, eE_call, eE_slice, eE_subN, eE_subC, eE_subU, eE_subB, eE_subS, eE_List, eE_Tuple, eE_ListComp, constD_none, constD_bool, constD_int, constD_str, Option.bind_some, unD_not, unD_neg])) h1) (ev_con rfl) h2))
  rw [hfin]; rfl

noncomputable def rowAt (i : Int) : Row := if i = 0 then 0 else if i = 1 then 1 else if i = 2 then 2 else 3
noncomputable def placeOf (v : Int) : List Row := (List.range (1 + (v.fmod 3).toNat)).map fun j => rowAt (((v.fdiv 3).fdiv (4 ^ j)).fmod 4)
theorem placeOf_len (v : Int) : 1 ≤ (placeOf v).length ∧ (placeOf v).length ≤ 3 := by
  unfold placeOf
  rw [List.length_map, List.length_range]
  have := Int.fmod_nonneg_of_pos v (show (0 : Int) < 3 by decide)
  have := Int.fmod_lt_of_pos v (show (0 : Int) < 3 by decide)
  omega
theorem row_idx {i : Int} (h0 : 0 ≤ i) (h4 : i < 4) : idxD (.list (rws.map rowD)) (.int i) = some (rowD (rowAt i)) := by
  have : i = 0 ∨ i = 1 ∨ i = 2 ∨ i = 3 := by lia
  rcases this with rfl | rfl | rfl | rfl <;> rfl

theorem r_place (v : Int) : runF ⟨call, gl, so⟩ f_place [.int v] = some (placeD (placeOf v)) := by
  unfold runF
  rw [show f_place.bind [.int v] = some [(("v" : Str), .int v)] from rfl]
  simp only [Option.bind_some]
  obtain ⟨σ, hσ⟩ : ∃ σ : Vars, σ = fun y => [(("v" : Str), D.int v)].lookup y := ⟨_, rfl⟩
  have l1 : σ "v" = some (.int v) := by rw [hσ]; rfl
  rw [← hσ]
  have f0 := Int.fmod_nonneg_of_pos v (show (0 : Int) < 3 by decide)
  have f3 := Int.fmod_lt_of_pos v (show (0 : Int) < 3 by decide)
  have hfin : execB ⟨call, gl, so⟩ f_place.mu f_place.body f_place.scope ⟨σ, none⟩ = some (.ret (placeD (placeOf v))) := by
    conv in f_place.body => whnf
    refine (execB_next (st' := ⟨updV σ "rows" (.list (rws.map rowD)), none⟩) (ev_set rfl (d := .list (rws.map rowD)) (by simp only [Option.bind_some, Option.map_some, Option.bind_none, Bool.false_eq_true, if_false, if_true, Bool.false_and, Bool.and_false, Bool.true_and, Bool.and_true, Bool.false_or, Bool.or_false, Bool.not_false, Bool.not_true, List.any_cons, List.any_nil, List.length_cons, List.length_nil, beq_self_eq_true, reduceCtorEq, Nat.reduceAdd, Nat.reduceLT, Nat.reduceLeDiff, Nat.reduceBEq, decide_false, decide_true, lim, truD, bop1, bop2, eK_nil, eK_cons, eS_Expr, eS_Pass, eS_Break, eS_Continue, eS_Return, eS_ReturnN, eS_Assign, eS_AssignT, eS_Aug, eS_If, eS_While, eS_For, eS_Try, evalR, testR, eE_Constant, eE_Name, eE_BoolOp, eE_BinOp, eE_UnaryOp, eE_IfExp, eE_Compare, eE_meth0, eE_meth1, eE_call, eE_slice, eE_subN, eE_subC, eE_subU, eE_subB, eE_subS, eE_List, eE_Tuple, eE_ListComp, eA_nil, eA_star, eA_Name, eA_Constant, eA_BinOp, eA_UnaryOp, eA_Call, eA_Subscript, eA_List, eA_Tuple, eA_ListComp, eA_IfExp, eO_none, eO_some, eT_nil, eT_one, eB_one, eB_more, iT_not, iT_bool, iT_if, iT_cmp, iT_Name, iT_Call, iT_Subscript, iT_BinOp, iT_Constant, aB_nil, aB_cons, assignName, constD_none, constD_bool, constD_int, constD_str, unD_not, unD_neg, badArgs_nil, badArgs_one, badArgs_two, badArgs_three, badArgs_four, isStar_Name, isStar_Constant, isStar_BinOp, isStar_UnaryOp, isStar_Call, isStar_Subscript, isStar_Tuple, isStar_ListComp, isStar_IfExp, isStar_Compare, isStar_BoolOp, isStar_List, isStar_Starred, isSet_Name, isSet_Constant, isSet_BinOp, isSet_UnaryOp, isSet_Call, isSet_Subscript, isSet_Tuple, isSet_ListComp, isSet_IfExp, isSet_Compare, isSet_BoolOp, isSet_List, behind_Name, behind_Constant, behind_BinOp, behind_UnaryOp, behind_Call, behind_Subscript, behind_Tuple, behind_ListComp, behind_IfExp, behind_Compare, behind_BoolOp, behind_List, isNil_Name, isNil_Constant, isNil_BinOp, isNil_UnaryOp, isNil_Call, isNil_Subscript, isNil_Tuple, isNil_ListComp, isNil_IfExp, isNil_Compare, isNil_BoolOp, isNil_nil, isNil_cons, bareCall_Name, bareCall_Constant, bareCall_BinOp, bareCall_UnaryOp, bareCall_Call1, bareCall_Subscript, bareCall_Tuple, bareCall_ListComp, bareCall_IfExp, bareCall_Compare, bareCall_BoolOp, bareCall_List, usedQ_Name, usedQ_Constant, usedQ_BinOp, usedQ_UnaryOp, usedQ_Call, usedQ_Subscript, usedQ_Tuple, usedQ_ListComp, usedQ_IfExp, usedQ_Compare, usedQ_BoolOp, usedQ_List]; rfl) (storeD_cel rfl rfl))).trans ?_
    have u1 : updV σ "rows" (.list (rws.map rowD)) "rows" = some (.list (rws.map rowD)) := updV_eq ..
    have u2 : updV σ "rows" (.list (rws.map rowD)) "v" = some (.int v) := (updV_ne (by decide)).trans l1
    generalize updV σ "rows" (.list (rws.map rowD)) = τ at u1 u2
    have hr : callD ⟨call, gl, so⟩ (.typ "range") [.int (1 + v.fmod 3)] = some (.rng (1 + (v.fmod 3).toNat)) := by
      show (if 0 ≤ 1 + v.fmod 3 ∧ 1 + v.fmod 3 ≤ lim then some (D.rng (1 + v.fmod 3).toNat) else none) = _
      rw [if_pos ⟨by omega, by show _ ≤ (65536 : Int); omega⟩]
      congr 2
      lia
    have hm : binD .Mod (.int v) (.int 3) = some (.int (v.fmod 3)) := rfl
    have hval : placeD (placeOf v) = .list ((List.range (1 + (v.fmod 3).toNat)).map fun j => rowD (rowAt (((v.fdiv 3).fdiv (4 ^ j)).fmod 4))) := by
      unfold placeD placeOf
      rw [List.map_map]; rfl
    rw [hval]
    refine execB_ret (ev_ret (lc_run rfl rfl (ev_call rfl rfl (ev_name (nameD_glo rfl rfl rfl)) (ea_cons rfl (ev_bin (ev_con rfl) (ev_bin (ev_name ((nameD_cel rfl rfl).trans u2)) (ev_con rfl) hm) rfl) ea_nil) hr) (itemsD_rng (by omega)) (compGo_map _ fun j hj => ⟨by simp only [eT_nil, eT_one], ?_⟩)))
    · · have hj := List.mem_range.mp hj
        have hp : binD .Pow (.int 4) (.int (j : Int)) = some (.int (4 ^ j)) := by
          rw [bD_pow, if_pos (show powOk 4 (j : Int) = true from decide_eq_true ⟨by omega, by omega, by decide, by decide⟩)]; rfl
        have hd : binD .FloorDiv (.int (v.fdiv 3)) (.int (4 ^ j)) = some (.int ((v.fdiv 3).fdiv (4 ^ j))) := by
          have : j = 0 ∨ j = 1 ∨ j = 2 := by lia
          rw [bD_div, if_pos (by rcases this with rfl | rfl | rfl <;> rfl)]
        refine ev_sub rfl (ev_name ((nameD_cel rfl rfl).trans ((compVars_cel (by decide) rfl).trans u1))) (ev_bin (ev_bin (ev_bin (ev_name ((nameD_cel rfl rfl).trans ((compVars_cel (by decide) rfl).trans u2))) (ev_con rfl) rfl) (ev_bin (ev_con rfl) (ev_name ((nameD_loc rfl rfl).trans compVars_self)) hp) hd) (ev_con rfl) rfl) (row_idx (Int.fmod_nonneg_of_pos _ (by decide)) (Int.fmod_lt_of_pos _ (by decide)))
  rw [hfin]; rfl
end
end Mine
end

/-! part Pk -/
section
open PySem PySem.W PyProof.Rows PySem.Calls
set_option maxRecDepth 100000
set_option maxHeartbeats 4000000
set_option linter.unusedVariables false
set_option linter.unusedSimpArgs false
set_option tactic.hygienic false
namespace Mine

theorem isSb_eq {o : Option D} {x : Str} (h : isSb o x = true) : o = some (.str x) := isS h
noncomputable def beyChk (p : List Row) : Bool := pySl (joinStep (textS p) "").cps.toList none (some (-1)) == codes p && (joinStep (textS p) "").cps.toList == codes p ++ [47] && decide ((textL p).length ≤ 50 ∧ (codes p).length ≤ 50)
noncomputable def dirChk (p : List Row) : Bool := p.isEmpty || (isSb (dirE (textS p)) (textS p.dropLast) && isSb (baseE (textS p)) (hexS (p.getLastD 0)) && decide ((joinStep (textS p.dropLast) (hexS (p.getLastD 0))).cps.toList = textL p) )
theorem bey_chk : ∀ p, p.length ≤ 3 → beyChk p = true := places3 (by kernel_rfl) (by kernel_rfl) (by kernel_rfl) (by kernel_rfl)
theorem dir_chk0 : (rws.all fun b => rws.all fun c => dirChk [0, b, c]) = true := by kernel_rfl
theorem dir_chk1 : (rws.all fun b => rws.all fun c => dirChk [1, b, c]) = true := by kernel_rfl
theorem dir_chk2 : (rws.all fun b => rws.all fun c => dirChk [2, b, c]) = true := by kernel_rfl
theorem dir_chk3 : (rws.all fun b => rws.all fun c => dirChk [3, b, c]) = true := by kernel_rfl
theorem dir_chk : ∀ p, p.length ≤ 3 → dirChk p = true := places3 (by kernel_rfl) (by kernel_rfl) (by kernel_rfl) (all4 dir_chk0 dir_chk1 dir_chk2 dir_chk3)

section
variable {so : List D → Option (List D)} {k : Nat}
theorem c_strcoll (a b : Str) : cN so (k + 1) 28 [.str a, .str b] = some (.int (b2i (decide (b.cps.toList < a.cps.toList)) - b2i (decide (a.cps.toList < b.cps.toList)))) := (cN_step (by decide) rfl).trans (r_strcoll a b)
theorem c_fspath (y : Str) : cN so (k + 1) 131 [.str y] = some (.str y) := (cN_step (by decide) rfl).trans (r_fspath y)
theorem c_getsep (y : Str) : cN so (k + 1) 145 [.str y] = some (.str "/") := (cN_step (by decide) rfl).trans (r_getsep y)
theorem c_join (a : Str) (ps : List Str) (hn : ps.length ≤ 4) (hz : a.length + (ps.map fun b => b.length + 1).sum ≤ 1000) : cN so (k + 2) 152 (.str a :: ps.map .str) = some (.str (ps.foldl joinStep a)) :=
  (cN_step (by decide) rfl).trans (r_join (call := cN so (k + 1)) c_fspath c_getsep a ps hn hz)
theorem c_text {p : List Row} (hp : p.length ≤ 3) : cN so (k + 2) 190 [placeD p] = some (.str (textS p)) := (cN_step (by decide) rfl).trans (r_text (call := cN so (k + 1)) hp (c_hex so k))
theorem c_place (v : Int) : cN so (k + 1) 200 [.int v] = some (placeD (placeOf v)) := (cN_step (by decide) rfl).trans (r_place v)
noncomputable def isBb (o : Option D) (x : Array UInt8) : Bool := match o with | some (.bytes y) => decide (y = x) | _ => false
theorem isBb_eq {o : Option D} {x : Array UInt8} (h : isBb o x = true) : o = some (.bytes x) := by
  unfold isBb at h
  split at h
  · rw [of_decide_eq_true h]
  · cases h
theorem b16_all : (rws.all fun r => isBb (cN so (k + 3) 58 [.bytes (rowB r)]) (upB r)) = true := by kernel_rfl
theorem c_b16 (r : Row) : cN so (k + 3) 58 [.bytes (rowB r)] = some (.bytes (upB r)) := isBb_eq (List.all_eq_true.mp (b16_all (so := so) (k := k)) r (rws_all r))

theorem hexS_len (r : Row) : (hexS r).length ≤ 4 := by revert r; decide
theorem fr_len (r : Row) : (fr r).length ≤ 6 := by revert r; decide
theorem sum_hex : ∀ p : List Row, ((p.map hexS).map fun b => b.length + 1).sum ≤ 5 * p.length
  | [] => Nat.le_refl _
  | r :: p => by
    rw [List.map_cons, List.map_cons, List.sum_cons, List.length_cons]
    have := sum_hex p
    have := hexS_len r
    lia

theorem pathChk_all {p : List Row} (hp : p.length ≤ 3) : ∀ f : Row, pathChk p f = true
  | 0 => path_chk0 p hp
  | 1 => path_chk1 p hp
  | 2 => path_chk2 p hp
  | 3 => path_chk3 p hp

theorem c_path {p : List Row} (hp : p.length ≤ 3) (f : Row) : cN so (k + 4) 195 [placeD p, .int (f.val : Int)] = some (.str (textS p)) := by
  refine (cN_step (by decide) rfl).trans (r_path (call := cN so (k + 3)) hp c_b16 (x := joinX p f) (c_join (k := k + 1) "/" (fr f :: p.map hexS) (by rw [List.length_cons, List.length_map]; (exact Nat.lt_succ_of_le ‹_›)) ?_) ?_)
  · rw [List.map_cons, List.sum_cons]
    have := sum_hex p
    have := fr_len f
    have h1 : ("/" : Str).length = 1 := by decide
    lia
  · have hc := pathChk_all hp f
    unfold pathChk at hc
    simp only [Bool.and_eq_true, beq_iff_eq, decide_eq_true_eq] at hc
    obtain ⟨⟨⟨⟨⟨h1, h2⟩, h3⟩, h4⟩, h5, h6, h7⟩, h8⟩ := hc
    generalize joinX p f = x at *
    have hx : x.length ≤ lim := by show _ ≤ 65536; lia
    have sl : ∀ (lo hi : D) (a b : Option Int), partD lo = some a → partD hi = some b → slD (.str x) lo hi = some (.str (strOf (pySl x.cps.toList a b))) := by
      intro lo hi a b ha hb
      unfold slD
      rw [ha, hb]
      simp only [Option.bind_some]
      rw [if_pos hx]
    have ht := text_chk p hp
    unfold textChk at ht
    simp only [Bool.and_eq_true, beq_iff_eq, decide_eq_true_eq] at ht
    obtain ⟨⟨⟨t1, t2⟩, t3⟩, t4⟩ := ht
    have l1 : ("/" : Str).length = 1 := by decide
    have tr : ∀ y : Str, y.length ≠ 0 → y.length ≤ 1000 → truD (.str y) = some true := by
      intro y h0 h1
      show (if y.length ≤ lim then some ((y.length : Int) != 0) else none) = _
      rw [if_pos (by show _ ≤ 65536; lia)]
      have : ((y.length : Int) != 0) = true := by simpa using h0
      rw [this]
    refine (cN_step (by decide) rfl).trans (r_normpath (call := cN so (k + 2)) (rest := restX x) (comps := Txt.split (restX x) "/") (out := p.map hexS) (j := Txt.join "/" (p.map hexS)) c_fspath ?_ (tr x h4 h3) ?_ h6 h8 (m1_join (strsD_map _) t1) ?_ (tr _ t4.1 t4.2))
    · refine (cN_step (by decide) rfl).trans (r_splitroot (call := cN so (k + 1)) (h := .str (strOf (pySl x.cps.toList (some 1) (some 2)))) c_fspath ?_ (sl _ _ _ _ rfl rfl) h2 (sl _ _ _ _ rfl rfl))
      rw [sl _ _ none (some 1) rfl rfl, h1, lit_slash]
    · exact m1_split (by show _ ≤ 65536; lia) ⟨by rw [l1]; decide, by show _ ≤ 65536; lia, by show _ ≤ 65536; lia⟩
    · show (if ("/" : Str).length + (Txt.join "/" (p.map hexS)).length ≤ lim then some (D.str ("/" ++ Txt.join "/" (p.map hexS))) else none) = _
      rw [t2, if_pos (by rw [l1]; show _ ≤ 65536; lia)]

theorem bey {p : List Row} (hp : p.length ≤ 3) : pySl (joinStep (textS p) "").cps.toList none (some (-1)) = codes p ∧ joinStep (textS p) "" = strOf (codes p ++ [47]) ∧ (textS p).length ≤ 50 ∧ (codes p).length ≤ 50 := by
  have h := bey_chk p hp
  unfold beyChk at h
  simp only [Bool.and_eq_true, beq_iff_eq, decide_eq_true_eq] at h
  exact ⟨h.1.1, by rw [← h.1.2, strOf_eta], h.2⟩
theorem c_joinE {p : List Row} (hp : p.length ≤ 3) : cN so (k + 2) 152 [.str (textS p), .str ""] = some (.str (strOf (codes p ++ [47]))) := by
  obtain ⟨_, h2, h3, _⟩ := bey hp
  have := c_join (so := so) (k := k) (textS p) [""] (by decide) (by
    have : ("" : Str).length = 0 := by decide
    simp [this]; lia)
  rw [← h2]; exact this
theorem c_beyond {p : List Row} (hp : p.length ≤ 3) : cN so (k + 3) 228 [.str (textS p)] = some (.str (strOf (codes p ++ [48]))) := by
  obtain ⟨h1, h2, h3, h4⟩ := bey hp
  refine (cN_step (by decide) rfl).trans (r_beyond (call := cN so (k + 2)) (y := joinStep (textS p) "") (z := strOf (codes p)) (by rw [h2]; exact c_joinE hp) ?_ ?_)
  · unfold slD
    have : (joinStep (textS p) "").length ≤ lim := by
      rw [h2, strOf_len, List.length_append]; show _ ≤ 65536; simp; lia
    simp only [partD, Option.bind_some]
    rw [if_pos this, h1]
  · show (if (strOf (codes p)).length + ("0" : Str).length ≤ lim then some (D.str (strOf (codes p) ++ "0")) else none) = _
    rw [if_pos (by rw [strOf_len]; have : ("0" : Str).length = 1 := by decide
                   rw [this]; show _ ≤ 65536; lia), lit_zero, strOf_app]
theorem c_joinR {f : List Row} (hf : f.length ≤ 2) (r : Row) : cN so (k + 2) 152 [.str (textS f), .str (hexS r)] = some (.str (textS (f ++ [r]))) := by
  have h := dir_chk (f ++ [r]) (by simp; omega)
  unfold dirChk at h
  simp at h
  obtain ⟨_, h3⟩ := h
  have hl := (bey (p := f) (by (exact Nat.le_succ_of_le ‹_›))).2.2.1
  have := c_join (so := so) (k := k) (textS f) [hexS r] (by simp) (by have := hexS_len r; simp; lia)
  have e : joinStep (textS f) (hexS r) = textS (f ++ [r]) := by
    rw [← strOf_eta (joinStep (textS f) (hexS r))]
    exact congrArg strOf h3
  rw [← e]; exact this
theorem c_dir {f : List Row} (hf : f.length ≤ 2) (r : Row) : cN so (k + 2) 173 [.str (textS (f ++ [r]))] = some (.str (textS f)) := by
  have h := dir_chk (f ++ [r]) (by simp; omega)
  unfold dirChk at h
  have hl := (bey (p := f ++ [r]) (by simp; omega)).2.2.1
  rw [Bool.or_eq_true] at h
  rcases h with h | h
  · simp at h
  · simp only [Bool.and_eq_true] at h
    have e := isSb_eq h.1.1
    rw [List.dropLast_concat] at e
    exact (cN_step (by decide) rfl).trans (r_dirname (call := cN so (k + 1)) c_fspath c_getsep (by lia) e)
theorem c_base {f : List Row} (hf : f.length ≤ 2) (r : Row) : cN so (k + 2) 166 [.str (textS (f ++ [r]))] = some (.str (hexS r)) := by
  have h := dir_chk (f ++ [r]) (by simp; omega)
  unfold dirChk at h
  have hl := (bey (p := f ++ [r]) (by simp; omega)).2.2.1
  rw [Bool.or_eq_true] at h
  rcases h with h | h
  · simp at h
  · simp only [Bool.and_eq_true] at h
    have e := isSb_eq h.1.2
    have e2 : (f ++ [r]).getLastD 0 = r := by simp
    rw [e2] at e
    exact (cN_step (by decide) rfl).trans (r_basename (call := cN so (k + 1)) c_fspath c_getsep (by lia) e)
end
end Mine
end

/-! part Pl -/
section
open PySem PySem.W PyProof.Rows PySem.Calls
set_option maxRecDepth 100000
set_option maxHeartbeats 4000000
set_option linter.unusedVariables false
set_option linter.unusedSimpArgs false
set_option tactic.hygienic false
namespace Mine

theorem nil_lt_iff {α : Type} [LT α] {l : List α} : [] < l ↔ l ≠ [] := by
  induction l using List.casesOn with
  | nil => simp
  | cons a l => simp
theorem app_lt {a x y : List Nat} : a ++ x < a ++ y ↔ x < y := by
  induction a with
  | nil => rfl
  | cons a l ih => rw [List.cons_append, List.cons_append, List.cons_lt_cons_iff]; simp [ih]

theorem hex_cmp (s r : Row) {x y : List Nat} (hx : x = [] ∨ ∃ z, x = 47 :: z) (hy : y = [] ∨ (∃ z, y = 47 :: z) ∨ y = [48]) (h : s ≠ r) : (hexL s ++ x < hexL r ++ y) ↔ s < r := by
  rcases s with ⟨_ | _ | _ | _ | n, hs⟩ <;> rcases r with ⟨_ | _ | _ | _ | m, hr⟩ <;> first
    | (exact absurd rfl h)
    | omega
    | (rcases hx with rfl | ⟨z, rfl⟩ <;> rcases hy with rfl | ⟨w, rfl⟩ | rfl <;> simp [hexL, List.cons_lt_cons_iff])
theorem codes_cons (r : Row) (p : List Row) : codes (r :: p) = 47 :: (hexL r ++ codes p) := rfl
theorem codes_tail (p : List Row) : codes p = [] ∨ ∃ z, codes p = 47 :: z := by
  induction p using List.casesOn with
  | nil => exact .inl rfl
  | cons r p => exact .inr ⟨_, rfl⟩
theorem codes_ttail (p : List Row) (t : List Nat) (ht : t = [] ∨ t = [47] ∨ t = [48]) : codes p ++ t = [] ∨ (∃ z, codes p ++ t = 47 :: z) ∨ codes p ++ t = [48] := by
  induction p using List.casesOn with
  | nil => rcases ht with rfl | rfl | rfl <;> simp [codes]
  | cons r p => exact .inr (.inl ⟨_, rfl⟩)
theorem codes_step {s r : Row} {q p : List Row} {t : List Nat} (ht : t = [] ∨ t = [47] ∨ t = [48]) : codes (s :: q) < codes (r :: p) ++ t ↔ s < r ∨ (s = r ∧ codes q < codes p ++ t) := by
  rw [codes_cons, codes_cons, List.cons_append, List.cons_lt_cons_iff, List.append_assoc]
  by_cases h : s = r
  · subst h; rw [app_lt]; simp
  · rw [hex_cmp s r (codes_tail q) (codes_ttail p t ht) h]; simp [h]
theorem codes_lt : ∀ (q p : List Row), codes q < codes p ↔ q < p
  | [], p => by
    rw [nil_lt_iff]
    show codes [] < codes p ↔ _
    rw [show codes [] = [] from rfl, nil_lt_iff]
    cases p with
    | nil => simp [codes]
    | cons r p => simp [codes_cons]
  | s :: q, [] => by simp [codes]
  | s :: q, r :: p => by
    have := codes_step (s := s) (r := r) (q := q) (p := p) (t := []) (.inl rfl)
    rw [List.append_nil, List.append_nil, codes_lt q p] at this
    rw [this, List.cons_lt_cons_iff]
theorem codes_bey : ∀ (q p : List Row), codes q < codes p ++ [48] ↔ (q < p ∨ p <+: q)
  | [], p => by
    rw [show codes [] = [] from rfl, nil_lt_iff, nil_lt_iff]
    cases p with
    | nil => simp
    | cons r p => simp
  | s :: q, [] => by simp [codes, List.cons_lt_cons_iff]
  | s :: q, r :: p => by
    rw [codes_step (.inr (.inr rfl)), codes_bey q p, List.cons_lt_cons_iff, List.cons_prefix_cons]
    constructor
    · rintro (h | ⟨rfl, h | h⟩)
      · exact .inl (.inl h)
      · exact .inl (.inr ⟨rfl, h⟩)
      · exact .inr ⟨rfl, h⟩
    · rintro ((h | ⟨rfl, h⟩) | ⟨rfl, h⟩)
      · exact .inl h
      · exact .inr ⟨rfl, .inl h⟩
      · exact .inr ⟨rfl, .inr h⟩
theorem codes_dir : ∀ (q p : List Row), codes q < codes p ++ [47] ↔ (q < p ∨ q = p)
  | [], p => by
    rw [show codes [] = [] from rfl, nil_lt_iff, nil_lt_iff]
    cases p with
    | nil => simp
    | cons r p => simp
  | s :: q, [] => by simp [codes, List.cons_lt_cons_iff]
  | s :: q, r :: p => by
    rw [codes_step (.inr (.inl rfl)), codes_dir q p, List.cons_lt_cons_iff]
    constructor
    · rintro (h | ⟨rfl, h | h⟩)
      · exact .inl (.inl h)
      · exact .inl (.inr ⟨rfl, h⟩)
      · exact .inr (by rw [h])
    · rintro ((h | ⟨rfl, h⟩) | h)
      · exact .inl h
      · exact .inr ⟨rfl, .inl h⟩
      · injection h with h1 h2; exact .inr ⟨h1, .inr h2⟩

theorem ltN_asymm {a b : List Nat} (h : a < b) : ¬ b < a := fun h' => List.lt_irrefl a (List.lt_trans h h')
theorem ltN_tri (a b : List Nat) : a < b ∨ a = b ∨ b < a := by
  by_cases h : a < b
  · exact .inl h
  · by_cases h' : b < a
    · exact .inr (.inr h')
    · exact .inr (.inl (List.le_antisymm h' h))
theorem ltR_irrefl (a : List Row) : ¬ a < a := fun h => List.lt_irrefl _ ((codes_lt a a).mpr h)
theorem ltR_trans {a b c : List Row} (h : a < b) (h' : b < c) : a < c := (codes_lt a c).mp (List.lt_trans ((codes_lt a b).mpr h) ((codes_lt b c).mpr h'))
theorem ltR_asymm {a b : List Row} (h : a < b) : ¬ b < a := fun h' => ltR_irrefl a (ltR_trans h h')
theorem codes_inj {a b : List Row} (h : codes a = codes b) : a = b := by
  by_cases h1 : a < b
  · have := (codes_lt a b).mpr h1; rw [h] at this; exact absurd this (List.lt_irrefl _)
  · by_cases h2 : b < a
    · have := (codes_lt b a).mpr h2; rw [h] at this; exact absurd this (List.lt_irrefl _)
    · exact List.le_antisymm h2 h1
theorem ltR_tri (a b : List Row) : a < b ∨ a = b ∨ b < a := by
  rcases ltN_tri (codes a) (codes b) with h | h | h
  · exact .inl ((codes_lt a b).mp h)
  · exact .inr (.inl (codes_inj h))
  · exact .inr (.inr ((codes_lt b a).mp h))

/-- what _strcoll says -/
def colI (a b : List Nat) : Int := b2i (decide (b < a)) - b2i (decide (a < b))
theorem colI_lt (a b : List Nat) : (colI a b == -1) = decide (a < b) := by
  unfold colI
  by_cases h : a < b
  · have := ltN_asymm h; simp [h, this, b2i]
  · by_cases h' : b < a
    · simp [h, h', b2i]
    · simp [h, h', b2i]
theorem colI_eq (a b : List Nat) : (colI a b == 0) = decide (a = b) := by
  unfold colI
  rcases ltN_tri a b with h | h | h
  · have h2 := ltN_asymm h
    have : a ≠ b := by rintro rfl; exact List.lt_irrefl _ h
    simp [h, h2, b2i, this]
  · subst h; simp [List.lt_irrefl, b2i]
  · have h2 := ltN_asymm h
    have : a ≠ b := by rintro rfl; exact List.lt_irrefl _ h
    simp [h, h2, b2i, this]
theorem colI_gt (a b : List Nat) : (colI a b == 1) = decide (b < a) := by
  unfold colI
  by_cases h : a < b
  · have := ltN_asymm h; simp [h, this, b2i]
  · by_cases h' : b < a
    · simp [h, h', b2i]
    · simp [h, h', b2i]
end Mine
end

/-! part Pm -/
section
open PySem PySem.W PyProof.Rows PySem.Calls
set_option maxRecDepth 100000
set_option maxHeartbeats 4000000
set_option linter.unusedVariables false
set_option linter.unusedSimpArgs false
set_option tactic.hygienic false
namespace Mine

abbrev Ent := List Row × Int
noncomputable def entD (q : Ent) : D := .tup [.str (textS q.1), .int q.2]
noncomputable def shelfD (S : List Ent) : D := .list (S.map entD)
/-- a shelf: sorted, places of one to three names, few -/
structure Shelf (S : List Ent) : Prop where
  sorted : S.Pairwise fun a b => a.1 < b.1
  size : S.length ≤ 40
  len : ∀ q ∈ S, 1 ≤ q.1.length ∧ q.1.length ≤ 3
noncomputable def Down (L : List Row → Bool) : Prop := ∀ a b, a < b → L b = true → L a = true

theorem split_at {L : List Row → Bool} (hL : Down L) : ∀ {S : List Ent}, S.Pairwise (fun a b => a.1 < b.1) → S = S.filter (fun q => L q.1) ++ S.filter (fun q => !L q.1)
  | [], _ => rfl
  | a :: S, h => by
    obtain ⟨h1, h2⟩ := List.pairwise_cons.mp h
    have ih := split_at hL h2
    induction ha : L a.1 using Bool.casesOn with
    | true => simp only [List.filter_cons, ha, if_true, Bool.not_true, Bool.false_eq_true, if_false, List.cons_append]; rw [← ih]
    | false =>
      have : ∀ b ∈ S, L b.1 = false := fun b hb => by
        induction hb' : L b.1 using Bool.casesOn with
        | false => rfl
        | true => rw [hL _ _ (h1 b hb) hb'] at ha; contradiction
      have e1 : S.filter (fun q => L q.1) = [] := List.filter_eq_nil_iff.mpr fun b hb => by simp [this b hb]
      have e2 : S.filter (fun q => !L q.1) = S := List.filter_eq_self.mpr fun b hb => by simp [this b hb]
      simp only [List.filter_cons, ha, Bool.false_eq_true, if_false, Bool.not_false, if_true, e1, e2, List.nil_append]
noncomputable def cnt (L : List Row → Bool) (S : List Ent) : Nat := (S.filter fun q => L q.1).length
theorem cnt_take {L : List Row → Bool} (hL : Down L) {S : List Ent} (h : S.Pairwise (fun a b => a.1 < b.1)) : S.take (cnt L S) = S.filter (fun q => L q.1) := by
  conv => lhs; arg 2; rw [split_at hL h]
  unfold cnt; rw [List.take_left']; rfl
theorem cnt_drop {L : List Row → Bool} (hL : Down L) {S : List Ent} (h : S.Pairwise (fun a b => a.1 < b.1)) : S.drop (cnt L S) = S.filter (fun q => !L q.1) := by
  conv => lhs; arg 2; rw [split_at hL h]
  unfold cnt; rw [List.drop_left']; rfl
theorem cnt_le (L : List Row → Bool) (S : List Ent) : cnt L S ≤ S.length := List.length_filter_le ..
theorem cnt_lt {L : List Row → Bool} (hL : Down L) {S : List Ent} (h : S.Pairwise (fun a b => a.1 < b.1)) {i : Nat} {q : Ent} (hi : S[i]? = some q) : L q.1 = decide (i < cnt L S) := by
  by_cases hc : i < cnt L S
  · have : q ∈ S.take (cnt L S) := by
      rw [List.mem_take_iff_getElem]
      obtain ⟨h1, h2⟩ := List.getElem?_eq_some_iff.mp hi
      exact ⟨i, by (clear hL h hi h2; lia), h2⟩
    rw [cnt_take hL h] at this
    have := (List.mem_filter.mp this).2
    rw [this]; simp [hc]
  · have : q ∈ S.drop (cnt L S) := by
      rw [List.mem_drop_iff_getElem]
      obtain ⟨h1, h2⟩ := List.getElem?_eq_some_iff.mp hi
      exact ⟨i - cnt L S, by omega, by rw [← h2]; congr 1; omega⟩
    rw [cnt_drop hL h] at this
    have := (List.mem_filter.mp this).2
    simp only [Bool.not_eq_true'] at this
    rw [this]; simp [hc]

noncomputable def spotW : Expr × List Stmt := match f_spot.body with
  | [_, .While t b _ _, _] => (t, b)
  | _ => (.Constant .none 0 ⟨0, 0, 0, 0⟩, [])

theorem idx_nat {ds : List D} {i : Nat} {d : D} (hz : ds.length ≤ 1000) (h : ds[i]? = some d) : idxD (.list ds) (.int (i : Int)) = some d := by
  have hi : i < ds.length := (List.getElem?_eq_some_iff.mp h).1
  show (if ds.length ≤ lim then (pyIdx (i : Int) ds.length).bind (ds[·]?) else none) = _
  rw [if_pos (by show _ ≤ 65536; lia)]
  unfold pyIdx
  rw [if_pos (by lia)]
  simp only [Option.bind_some, Int.toNat_natCast, h]
theorem eq_int (a b : Int) : ccD .Eq (.int a) (.int b) = some (a == b) := rfl
theorem ne_int (a b : Int) : ccD .NotEq (.int a) (.int b) = some (!(a == b)) := rfl
theorem lt_int (a b : Int) : ccD .Lt (.int a) (.int b) = some (decide (a < b)) := rfl
theorem half (a b : Nat) : ((a : Int) + (b : Int)).fdiv 2 = (((a + b) / 2 : Nat) : Int) := by
  rw [Int.fdiv_eq_ediv_of_nonneg _ (by decide)]; lia

section
variable {call : Addr → List D → Option D} {so : List D → Option (List D)}

theorem spot_step {σ : Vars} {S : List Ent} {t : List Nat} {low high : Nat} {q : Ent} (c1 : ∀ a b, call 28 [.str a, .str b] = some (.int (colI a.cps.toList b.cps.toList))) (h1 : σ "shelf" = some (shelfD S)) (h2 : σ "text" = some (.str (strOf t))) (h3 : σ "low" = some (.int (low : Int))) (h4 : σ "high" = some (.int (high : Int)))
    (hz : S.length ≤ 40) (hq : S[(low + high) / 2]? = some q) (hq1 : 1 ≤ q.1.length) :
    ∃ σ', execB ⟨call, gl, so⟩ f_spot.mu spotW.2 f_spot.scope ⟨σ, none⟩ = some (.next ⟨σ', none⟩) ∧ σ' "shelf" = some (shelfD S) ∧ σ' "text" = some (.str (strOf t)) ∧
      σ' "low" = some (.int ((if codes q.1 < t then (low + high) / 2 + 1 else low : Nat) : Int)) ∧ σ' "high" = some (.int ((if codes q.1 < t then high else (low + high) / 2 : Nat) : Int)) := by
  conv in spotW.2 => whnf
  have s1 : ∀ d σ, storeD f_spot.scope "middle" d ⟨σ, none⟩ = some ⟨updV σ "middle" d, none⟩ := fun d σ => storeD_loc rfl rfl
  have u1 : updV σ "middle" (.int ((low + high) / 2 : Nat)) "shelf" = some (shelfD S) := (updV_ne (by decide)).trans h1
  have u2 : updV σ "middle" (.int ((low + high) / 2 : Nat)) "text" = some (.str (strOf t)) := (updV_ne (by decide)).trans h2
  have u3 : updV σ "middle" (.int ((low + high) / 2 : Nat)) "low" = some (.int (low : Int)) := (updV_ne (by decide)).trans h3
  have u4 : updV σ "middle" (.int ((low + high) / 2 : Nat)) "high" = some (.int (high : Int)) := (updV_ne (by decide)).trans h4
  have u5 : updV σ "middle" (.int ((low + high) / 2 : Nat)) "middle" = some (.int ((low + high) / 2 : Nat)) := updV_eq ..
  have hstep : ∀ σ', (if codes q.1 < t then updV (updV σ "middle" (.int ((low + high) / 2 : Nat))) "low" (.int (((low + high) / 2 + 1 : Nat) : Int)) else updV (updV σ "middle" (.int ((low + high) / 2 : Nat))) "high" (.int ((low + high) / 2 : Nat))) = σ' →
      σ' "shelf" = some (shelfD S) ∧ σ' "text" = some (.str (strOf t)) ∧
      σ' "low" = some (.int ((if codes q.1 < t then (low + high) / 2 + 1 else low : Nat) : Int)) ∧ σ' "high" = some (.int ((if codes q.1 < t then high else (low + high) / 2 : Nat) : Int)) := by
    rintro σ' rfl
    by_cases hc : codes q.1 < t
    · simp only [if_pos hc]
      exact ⟨(updV_ne (by decide)).trans u1, (updV_ne (by decide)).trans u2, updV_eq .., (updV_ne (by decide)).trans u4⟩
    · simp only [if_neg hc]
      exact ⟨(updV_ne (by decide)).trans u1, (updV_ne (by decide)).trans u2, (updV_ne (by decide)).trans u3, updV_eq ..⟩
  refine ⟨_, ?_, hstep _ rfl⟩
  refine (execB_next (ev_set rfl (ev_bin (ev_bin (ev_name ((nameD_loc rfl rfl).trans h3)) (ev_name ((nameD_loc rfl rfl).trans h4)) rfl) (ev_con rfl) (show binD .FloorDiv (.int ((low : Int) + high)) (.int 2) = some (.int ((low + high) / 2 : Nat)) by rw [← half]; rfl)) (s1 _ _))).trans ?_
  generalize updV σ "middle" (.int ((low + high) / 2 : Nat)) = τ at u1 u2 u3 u4 u5
  have hent : (S.map entD)[(low + high) / 2]? = some (entD q) := by rw [List.getElem?_map, hq]; rfl
  have htx : textS q.1 = strOf (codes q.1) := by
    unfold textS textL
    induction hq' : q.1 using List.casesOn with
    | nil => rw [hq'] at hq1; simp at hq1
    | cons a b => rfl
  refine (execB_next (st' := ⟨if codes q.1 < t then updV τ "low" (.int (((low + high) / 2 + 1 : Nat) : Int)) else updV τ "high" (.int ((low + high) / 2 : Nat)), none⟩) ?_).trans (by simp only [eK_nil, eK_cons])
  have k1 : callD ⟨call, gl, so⟩ (.glob 28) [.str (textS q.1), .str (strOf t)] = some (.int (colI (textS q.1).cps.toList t)) := c1 _ _
  have k2 : idxD (entD q) (.int 0) = some (.str (textS q.1)) := rfl
  refine (ev_if (c := decide (codes q.1 < t)) (ist_cmp (a := .int (colI (textS q.1).cps.toList t)) (b := .int (-1)) rfl (ev_call rfl rfl (ev_name (nameD_glo rfl rfl rfl)) (ea_cons rfl (ev_sub rfl (ev_sub rfl (ev_name ((nameD_loc rfl rfl).trans u1)) (ev_name ((nameD_loc rfl rfl).trans u5)) (idx_nat (by rw [List.length_map]; lia) hent)) (ev_con rfl) k2) (ea_cons rfl (ev_name ((nameD_loc rfl rfl).trans u2)) ea_nil)) k1) (by simp only [eE_Constant, eE_Name, eE_BoolOp, eE_BinOp, eE_UnaryOp, eE_IfExp, eE_Compare, eE_meth0, eE_meth1, eE_call, eE_slice, eE_subN, eE_subC, eE_subU, eE_subB, eE_subS, eE_List, eE_Tuple, eE_ListComp, constD_none, constD_bool, constD_int, constD_str, Option.bind_some, unD_not, unD_neg]) ?_)).trans ?_
  · rw [eq_int, htx, strOf_list, colI_lt]
  · by_cases hc : codes q.1 < t
    · simp only [hc, decide_true, if_true]
      exact (execB_next (ev_set rfl (ev_bin (ev_name ((nameD_loc rfl rfl).trans u5)) (ev_con rfl) rfl) (storeD_loc rfl rfl))).trans (by simp only [eK_nil, eK_cons]; rfl)
    · simp only [hc, decide_false, Bool.false_eq_true, if_false]
      exact (execB_next (ev_set rfl (ev_name ((nameD_loc rfl rfl).trans u5)) (storeD_loc rfl rfl))).trans (by simp only [eK_nil, eK_cons])
end
end Mine
end

/-! part Pn -/
section
open PySem PySem.W PyProof.Rows PySem.Calls
set_option maxRecDepth 100000
set_option maxHeartbeats 4000000
set_option linter.unusedVariables false
set_option linter.unusedSimpArgs false
set_option tactic.hygienic false
namespace Mine

theorem tup2 {cx : Cx} {mu : List Str} {sc : Scope} {σ : Vars} {x y : Str} {xp yp tp p : Pos} {k : Nat} {e : Expr} {a b : D} (hok : okTup e = true) (hno : newOwn [.Name x xp, .Name y yp] e mu = none) (hx : ∀ d σ, storeD sc x d ⟨σ, none⟩ = some ⟨updV σ x d, none⟩)
    (hy : ∀ d σ, storeD sc y d ⟨σ, none⟩ = some ⟨updV σ y d, none⟩) (hxy : x ≠ y) (h : evalE cx e sc σ = some (.tup [a, b])) :
    ∃ σ', execS cx mu (.Assign [.Tuple [.Name x xp, .Name y yp] k tp] e p) sc ⟨σ, none⟩ = some (.next ⟨σ', none⟩) ∧ σ' x = some a ∧ σ' y = some b ∧ ∀ z, z ≠ x → z ≠ y → σ' z = σ z := by
  have hev : evalR cx e sc ⟨σ, none⟩ = some (.tup [a, b], ⟨σ, none⟩) := by unfold evalR; rw [h]
  induction hs : swapE [.Name x xp, .Name y yp] e sc using Bool.casesOn with
  | true =>
    refine ⟨updV (updV σ y b) x a, ?_, updV_eq .., (updV_ne (Ne.symm hxy)).trans (updV_eq ..), fun z h1 h2 => (updV_ne h1).trans (updV_ne h2)⟩
    refine eS_AssignT.trans (assign_any hok hno (ns := [(x, xp), (y, yp)]) rfl hev rfl ?_)
    rw [hs]
    show (storeD sc y b ⟨σ, none⟩).bind (fun st => (storeD sc x a st).bind fun st => some st) = _
    rw [hy]
    exact congrArg (fun o => Option.bind o fun st => some st) (hx ..)
  | false =>
    refine ⟨updV (updV σ x a) y b, ?_, (updV_ne hxy).trans (updV_eq ..), updV_eq .., fun z h1 h2 => (updV_ne h2).trans (updV_ne h1)⟩
    refine eS_AssignT.trans (assign_any hok hno (ns := [(x, xp), (y, yp)]) rfl hev rfl ?_)
    rw [hs]
    show (storeD sc x a ⟨σ, none⟩).bind (fun st => (storeD sc y b st).bind fun st => some st) = _
    rw [hx]
    exact congrArg (fun o => Option.bind o fun st => some st) (hy ..)

theorem tup2_next {cx : Cx} {mu : List Str} {sc : Scope} {σ : Vars} {x y : Str} {xp yp tp p : Pos} {k : Nat} {e : Expr} {a b : D} {rest : List Stmt} {fl : Fl} (hok : okTup e = true) (hno : newOwn [.Name x xp, .Name y yp] e mu = none) (hx : ∀ d σ, storeD sc x d ⟨σ, none⟩ = some ⟨updV σ x d, none⟩)
    (hy : ∀ d σ, storeD sc y d ⟨σ, none⟩ = some ⟨updV σ y d, none⟩) (hxy : x ≠ y) (h : evalE cx e sc σ = some (.tup [a, b])) (kk : ∀ σ', σ' x = some a → σ' y = some b → (∀ z, z ≠ x → z ≠ y → σ' z = σ z) → execB cx mu rest sc ⟨σ', none⟩ = some fl) :
    execB cx mu (.Assign [.Tuple [.Name x xp, .Name y yp] k tp] e p :: rest) sc ⟨σ, none⟩ = some fl := by
  obtain ⟨σ', e1, h1, h2, h3⟩ := tup2 (mu := mu) (xp := xp) (yp := yp) (tp := tp) (p := p) (k := k) hok hno hx hy hxy h
  exact (execB_next e1).trans (kk σ' h1 h2 h3)
theorem set_next {cx : Cx} {mu : List Str} {sc : Scope} {σ : Vars} {x : Str} {xp p : Pos} {e : Expr} {d : D} {rest : List Stmt} {fl : Fl} (hn : (isNil e && mu.contains x) = false) (h : evalE cx e sc σ = some d) (hs : storeD sc x d ⟨σ, none⟩ = some ⟨updV σ x d, none⟩)
    (kk : ∀ σ', σ' x = some d → (∀ z, z ≠ x → σ' z = σ z) → execB cx mu rest sc ⟨σ', none⟩ = some fl) : execB cx mu (.Assign [.Name x xp] e p :: rest) sc ⟨σ, none⟩ = some fl :=
  (execB_next (ev_set hn h hs)).trans (kk _ (updV_eq ..) fun z hz => updV_ne hz)
theorem if_next {cx : Cx} {mu : List Str} {sc : Scope} {st : Sto} {t : Expr} {bt bo : List Stmt} {p : Pos} {c : Bool} {rest : List Stmt} {fl : Option Fl} (h : isT cx t (evalE cx t sc st.σ) sc st.σ = some c)
    (kk : (execB cx mu (if c then bt else bo) sc st).bind (fun f => match f with | .next st => execB cx mu rest sc st | f => some f) = fl) : execB cx mu (.If t bt bo p :: rest) sc st = fl := by
  rw [← kk]
  simp only [eK_nil, eK_cons]
  rw [ev_if h]
  cases c <;> rfl
theorem while_next {cx : Cx} {mu : List Str} {sc : Scope} {st st' : Sto} {t : Expr} {b : List Stmt} {p : Pos} {rest : List Stmt} {fl : Option Fl} (h : whileGo (fun st => testR cx t sc st) (fun st => execB cx mu b sc st) 64 st = some (.next st')) (kk : execB cx mu rest sc st' = fl) :
    execB cx mu (.While t b [] p :: rest) sc st = fl := by
  rw [← kk]
  refine execB_next ?_
  simp only [eS_Expr, eS_Pass, eS_Break, eS_Continue, eS_Return, eS_ReturnN, eS_Assign, eS_AssignT, eS_Aug, eS_If, eS_While, eS_For, eS_Try]; exact h
theorem tr_of {cx : Cx} {sc : Scope} {st : Sto} {t : Expr} {c : Bool} (h : isT cx t (evalE cx t sc st.σ) sc st.σ = some c) : testR cx t sc st = some c := by
  unfold testR; rw [h]

section
variable {call : Addr → List D → Option D} {so : List D → Option (List D)}

theorem spot_loop (c1 : ∀ a b, call 28 [.str a, .str b] = some (.int (colI a.cps.toList b.cps.toList))) {S : List Ent} (hS : Shelf S) {L : List Row → Bool} (hL : Down L) {t : List Nat} (ht : ∀ q ∈ S, decide (codes q.1 < t) = L q.1) :
    ∀ (fuel : Nat) (low high : Nat) (σ : Vars), high - low < fuel → low ≤ cnt L S → cnt L S ≤ high → high ≤ S.length → σ "shelf" = some (shelfD S) → σ "text" = some (.str (strOf t)) → σ "low" = some (.int (low : Int)) → σ "high" = some (.int (high : Int)) →
      ∃ σ', whileGo (fun st => testR ⟨call, gl, so⟩ spotW.1 f_spot.scope st) (fun st => execB ⟨call, gl, so⟩ f_spot.mu spotW.2 f_spot.scope st) fuel ⟨σ, none⟩ = some (.next ⟨σ', none⟩) ∧ σ' "low" = some (.int (cnt L S : Nat))
  | 0, low, high, σ, h, _, _, _, _, _, _, _ => absurd h (Nat.not_lt_zero _)
  | fuel + 1, low, high, σ, h, hlo, hhi, hlen, h1, h2, h3, h4 => by
    have htest : testR ⟨call, gl, so⟩ spotW.1 f_spot.scope ⟨σ, none⟩ = some (decide (low < high)) := by
      conv in spotW.1 => whnf
      exact tr_of (ist_cmp rfl (ev_name ((nameD_loc rfl rfl).trans h3)) (ev_name ((nameD_loc rfl rfl).trans h4)) (by rw [lt_int]; congr 1; exact decide_eq_decide.mpr (by simp)))
    unfold whileGo
    rw [htest]
    simp only [Option.bind_some]
    by_cases hc : low < high
    · have hmid : (low + high) / 2 < S.length := by lia
      have hq := List.getElem?_eq_getElem hmid
      have hmem := List.getElem_mem hmid
      obtain ⟨σ1, e1, p1, p2, p3, p4⟩ := spot_step (call := call) (so := so) (S := S) (t := t) c1 h1 h2 h3 h4 hS.size hq (hS.len _ hmem).1
      rw [decide_eq_true hc, if_pos rfl, e1]
      simp only [Option.bind_some]
      have hLq := cnt_lt hL hS.sorted hq
      have htq := ht _ hmem
      by_cases hlt : codes S[(low + high) / 2].1 < t
      · rw [if_pos hlt] at p3 p4
        have : (low + high) / 2 < cnt L S := by
          rw [decide_eq_true hlt] at htq
          rw [← htq] at hLq
          exact of_decide_eq_true hLq.symm
        exact spot_loop c1 hS hL ht fuel _ _ σ1 (by lia) (by assumption) hhi hlen p1 p2 p3 p4
      · rw [if_neg hlt] at p3 p4
        have : ¬ (low + high) / 2 < cnt L S := by
          rw [decide_eq_false hlt] at htq
          rw [← htq] at hLq
          exact of_decide_eq_false hLq.symm
        exact spot_loop c1 hS hL ht fuel _ _ σ1 (by lia) hlo (by (exact Nat.not_lt.mp ‹_›)) (by (exact Nat.le_of_lt ‹_›)) p1 p2 p3 p4
    · rw [decide_eq_false hc]
      simp only [Bool.false_eq_true, if_false]
      have : low = cnt L S := by lia
      exact ⟨σ, rfl, by rw [h3, this]⟩

theorem r_spot (c1 : ∀ a b, call 28 [.str a, .str b] = some (.int (colI a.cps.toList b.cps.toList))) {S : List Ent} (hS : Shelf S) {L : List Row → Bool} (hL : Down L) {t : List Nat} (ht : ∀ q ∈ S, decide (codes q.1 < t) = L q.1) :
    runF ⟨call, gl, so⟩ f_spot [shelfD S, .str (strOf t)] = some (.int (cnt L S : Nat)) := by
  unfold runF
  rw [show f_spot.bind [shelfD S, .str (strOf t)] = some [(("shelf" : Str), shelfD S), ("text", .str (strOf t))] from rfl]
  simp only [Option.bind_some]
  obtain ⟨σ, hσ⟩ : ∃ σ : Vars, σ = fun y => [(("shelf" : Str), shelfD S), ("text", .str (strOf t))].lookup y := ⟨_, rfl⟩
  have l1 : σ "shelf" = some (shelfD S) := by rw [hσ]; rfl
  have l2 : σ "text" = some (.str (strOf t)) := by rw [hσ]; rfl
  rw [← hσ]
  have hz := hS.size
  have hlen : lenD (shelfD S) = some (.int (S.length : Int)) := by
    show (if (S.map entD).length ≤ lim then some (D.int (S.map entD).length) else none) = _
    rw [List.length_map, if_pos (by show _ ≤ 65536; lia)]
  have hfin : execB ⟨call, gl, so⟩ f_spot.mu f_spot.body f_spot.scope ⟨σ, none⟩ = some (.ret (.int (cnt L S : Nat))) := by
    conv in f_spot.body => whnf
    refine tup2_next (a := .int (0 : Nat)) (b := .int (S.length : Int)) rfl rfl (fun d σ => storeD_loc rfl rfl) (fun d σ => storeD_loc rfl rfl) (by decide)
      (ev_tup rfl (ea_cons rfl (ev_con rfl) (ea_cons rfl (ev_call rfl rfl (ev_name (nameD_glo rfl rfl rfl)) (ea_cons rfl (ev_name ((nameD_loc rfl rfl).trans l1)) ea_nil) hlen) ea_nil)) (by simp only [List.length_cons, List.length_nil]; lia)) fun τ p1 p2 p3 => ?_
    obtain ⟨σ', e1, q1⟩ := spot_loop (call := call) (so := so) c1 hS hL ht 64 0 S.length τ (by lia) (Nat.zero_le _) (cnt_le L S) (Nat.le_refl _) ((p3 _ (by decide) (by decide)).trans l1) ((p3 _ (by decide) (by decide)).trans l2) p1 p2
    exact while_next e1 (execB_ret (ev_ret (ev_name ((nameD_loc rfl rfl).trans q1))))
  rw [hfin]; rfl
end
end Mine
end

/-! part Po -/
section
open PySem PySem.W PyProof.Rows PySem.Calls
set_option maxRecDepth 100000
set_option maxHeartbeats 4000000
set_option linter.unusedVariables false
set_option linter.unusedSimpArgs false
set_option tactic.hygienic false
namespace Mine

/-- and, of two -/
theorem be_and {cx : Cx} {sc : Scope} {σ : Vars} {a b : Expr} {p : Pos} {x : Bool} {d : D} (h1 : evalE cx a sc σ = some (.bool x)) (h2 : (if x then evalE cx b sc σ else some (.bool false)) = some d) : evalE cx (.BoolOp .And [a, b] p) sc σ = some d := by
  simp only [eE_Constant, eE_Name, eE_BoolOp, eE_BinOp, eE_UnaryOp, eE_IfExp, eE_Compare, eE_meth0, eE_meth1, eE_call, eE_slice, eE_subN, eE_subC, eE_subU, eE_subB, eE_subS, eE_List, eE_Tuple, eE_ListComp, eB_one, eB_more, h1, Option.bind_some, truD]
  induction x using Bool.casesOn with
  | true => exact h2
  | false => exact h2
/-! slices -/
theorem clip_nat {n i : Nat} (h : i ≤ n) : pyClip n (i : Int) = i := by unfold pyClip; lia
theorem pySl_take {α : Type} {xs : List α} {n : Nat} (h : n ≤ xs.length) : pySl xs none (some (n : Int)) = xs.take n := by
  unfold pySl
  simp only [Option.map_none, Option.map_some, Option.getD_none, Option.getD_some, clip_nat h, List.drop_zero, Nat.sub_zero]
theorem pySl_drop {α : Type} {xs : List α} {n : Nat} (h : n ≤ xs.length) : pySl xs (some (n : Int)) none = xs.drop n := by
  unfold pySl
  simp only [Option.map_none, Option.map_some, Option.getD_none, Option.getD_some, clip_nat h]
  rw [List.take_of_length_le (by rw [List.length_drop]; exact Nat.le_refl _)]
theorem pySl_mid {α : Type} {xs : List α} {m n : Nat} (h : m ≤ xs.length) (h' : n ≤ xs.length) : pySl xs (some (m : Int)) (some (n : Int)) = (xs.drop m).take (n - m) := by
  unfold pySl
  simp only [Option.map_some, Option.getD_some, clip_nat h, clip_nat h']
theorem sl_list {ds : List D} {lo hi : D} {a b : Option Int} (hz : ds.length ≤ 1000) (h1 : partD lo = some a) (h2 : partD hi = some b) : slD (.list ds) lo hi = some (.list (pySl ds a b)) := by
  unfold slD
  rw [h1, h2]
  simp only [Option.bind_some]
  rw [if_pos (by show _ ≤ 65536; lia)]
theorem add_list {xs ys : List D} (h : xs.length + ys.length ≤ 1000) : binD .Add (.list xs) (.list ys) = some (.list (xs ++ ys)) := by
  show (if xs.length + ys.length ≤ lim then some (D.list (xs ++ ys)) else none) = _
  rw [if_pos (by show _ ≤ 65536; lia)]
theorem len_list {xs : List D} (h : xs.length ≤ 1000) : lenD (.list xs) = some (.int (xs.length : Int)) := by
  show (if xs.length ≤ lim then some (D.int (xs.length : Int)) else none) = _
  rw [if_pos (by show _ ≤ 65536; lia)]

/-! put -/
noncomputable def lowS (S : List Ent) (p : List Row) : List Ent := S.filter fun q => decide (q.1 < p)
noncomputable def highS (S : List Ent) (p : List Row) : List Ent := S.filter fun q => decide (p < q.1)
noncomputable def put (S : List Ent) (p : List Row) (k : Int) : List Ent := lowS S p ++ (p, k) :: highS S p
theorem low_high (S : List Ent) (p : List Row) : (lowS S p).length + (highS S p).length ≤ S.length := by
  unfold lowS highS
  induction S with
  | nil => simp
  | cons a S ih =>
    simp only [List.filter_cons, List.length_cons]
    by_cases ha : a.1 < p
    · have := ltR_asymm ha; simp [ha, this]; lia
    · by_cases hb : p < a.1
      · simp [ha, hb]; (exact Nat.lt_succ_of_le ‹_›)
      · simp [ha, hb]; (exact Nat.le_succ_of_le ‹_›)
noncomputable def ltP (p : List Row) : List Row → Bool := fun q => decide (q < p)
theorem down_lt (p : List Row) : Down (ltP p) := fun a b h hb => by
  unfold ltP at *
  exact decide_eq_true (ltR_trans h (of_decide_eq_true hb))
theorem put_shelf {S : List Ent} {p : List Row} {k : Int} (hS : Shelf S) (h : S.length + 1 ≤ 40) (h1 : 1 ≤ p.length) (h3 : p.length ≤ 3) : Shelf (put S p k) where
  sorted := by
    unfold put
    rw [List.pairwise_append]
    refine ⟨hS.sorted.sublist (List.filter_sublist ..), ?_, fun a ha b hb => ?_⟩
    · rw [List.pairwise_cons]
      exact ⟨fun a ha => by simpa using (List.mem_filter.mp ha).2, hS.sorted.sublist (List.filter_sublist ..)⟩
    · have ha' : a.1 < p := by simpa using (List.mem_filter.mp ha).2
      rcases List.mem_cons.mp hb with rfl | hb
      · exact ha'
      · have hb' : p < b.1 := by simpa using (List.mem_filter.mp hb).2
        exact ltR_trans ha' hb'
  size := by
    unfold put
    rw [List.length_append, List.length_cons]
    have := low_high S p
    (exact Nat.lt_of_le_of_lt ‹_› ‹_›)
  len := fun q hq => by
    unfold put at hq
    rcases List.mem_append.mp hq with hq | hq
    · exact hS.len _ (List.mem_filter.mp hq).1
    · rcases List.mem_cons.mp hq with rfl | hq
      · exact ⟨h1, h3⟩
      · exact hS.len _ (List.mem_filter.mp hq).1

theorem put_tail {S : List Ent} {p : List Row} (hS : S.Pairwise fun a b => a.1 < b.1) :
    (S[cnt (ltP p) S]? = none → S.drop (cnt (ltP p) S) = highS S p) ∧
    (∀ q, S[cnt (ltP p) S]? = some q → S.drop (if q.1 = p then cnt (ltP p) S + 1 else cnt (ltP p) S) = highS S p) := by
  have hd := cnt_drop (down_lt p) hS
  have key : highS S p = (S.drop (cnt (ltP p) S)).filter (fun q => decide (p < q.1)) := by
    unfold highS
    rw [hd, List.filter_filter]
    apply List.filter_congr
    intro a _
    unfold ltP
    by_cases h : p < a.1
    · simp [h, ltR_asymm h]
    · simp [h]
  have hge : ∀ a ∈ S.drop (cnt (ltP p) S), ¬ a.1 < p := fun a ha => by
    rw [hd] at ha
    have := (List.mem_filter.mp ha).2
    simpa [ltP] using this
  have hsd : (S.drop (cnt (ltP p) S)).Pairwise fun a b => a.1 < b.1 := hS.sublist (List.drop_sublist ..)
  constructor
  · intro hn
    rw [key]
    have : S.drop (cnt (ltP p) S) = [] := List.drop_eq_nil_of_le (by simpa using hn)
    rw [this]; rfl
  · intro q hq
    obtain ⟨hlt, he⟩ := List.getElem?_eq_some_iff.mp hq
    have hdc : S.drop (cnt (ltP p) S) = q :: S.drop (cnt (ltP p) S + 1) := by rw [List.drop_eq_getElem_cons hlt, he]
    rw [key]
    rw [hdc] at hge hsd ⊢
    obtain ⟨h1, h2⟩ := List.pairwise_cons.mp hsd
    by_cases hp : q.1 = p
    · rw [if_pos hp, List.filter_cons, if_neg (by rw [hp]; simpa using ltR_irrefl p)]
      symm
      rw [List.filter_eq_self]
      intro a ha
      have := h1 a ha
      rw [hp] at this
      simpa using this
    · rw [if_neg hp, hdc]
      have hpq : p < q.1 := by
        rcases ltR_tri q.1 p with h | h | h
        · exact absurd h (hge q List.mem_cons_self)
        · exact absurd h hp
        · exact h
      symm
      rw [List.filter_eq_self]
      intro a ha
      rcases List.mem_cons.mp ha with rfl | ha
      · simpa using hpq
      · simpa using ltR_trans hpq (h1 a ha)

theorem textS_codes {p : List Row} (h : 1 ≤ p.length) : textS p = strOf (codes p) := by
  unfold textS textL
  induction p using List.casesOn with
  | nil => simp at h
  | cons a b => rfl

section
variable {call : Addr → List D → Option D} {so : List D → Option (List D)}
theorem r_put {S : List Ent} {p : List Row} {k : Int} (c1 : ∀ a b, call 28 [.str a, .str b] = some (.int (colI a.cps.toList b.cps.toList))) (hS : Shelf S) (hp : 1 ≤ p.length) (c2 : call 221 [shelfD S, .str (textS p)] = some (.int (cnt (ltP p) S : Nat))) :
    runF ⟨call, gl, so⟩ f_put [shelfD S, .str (textS p), .int k] = some (shelfD (put S p k)) := by
  unfold runF
  rw [show f_put.bind [shelfD S, .str (textS p), .int k] = some [(("shelf" : Str), shelfD S), ("path", .str (textS p)), ("value", .int k)] from rfl]
  simp only [Option.bind_some]
  obtain ⟨σ, hσ⟩ : ∃ σ : Vars, σ = fun y => [(("shelf" : Str), shelfD S), ("path", .str (textS p)), ("value", .int k)].lookup y := ⟨_, rfl⟩
  have l1 : σ "shelf" = some (shelfD S) := by rw [hσ]; rfl
  have l2 : σ "path" = some (.str (textS p)) := by rw [hσ]; rfl
  have l3 : σ "value" = some (.int k) := by rw [hσ]; rfl
  rw [← hσ]
  have hz := hS.size
  have hlen : lenD (shelfD S) = some (.int (S.length : Int)) := by
    rw [shelfD, len_list (by rw [List.length_map]; lia), List.length_map]
  have hcl := cnt_le (ltP p) S
  have htl := put_tail (p := p) hS.sorted
  generalize hn : cnt (ltP p) S = n at *
  have htk : S.take n = lowS S p := by rw [← hn]; exact cnt_take (down_lt p) hS.sorted
  have c3 : callD ⟨call, gl, so⟩ (.glob 221) [shelfD S, .str (textS p)] = some (.int (n : Int)) := c2
  have hfin : execB ⟨call, gl, so⟩ f_put.mu f_put.body f_put.scope ⟨σ, none⟩ = some (.ret (shelfD (put S p k))) := by
    conv in f_put.body => whnf
    refine set_next rfl (ev_call rfl rfl (ev_name (nameD_glo rfl rfl rfl)) (ea_cons rfl (ev_name ((nameD_loc rfl rfl).trans l1)) (ea_cons rfl (ev_name ((nameD_loc rfl rfl).trans l2)) ea_nil)) c3) (storeD_loc rfl rfl) fun τ p1 p2 => ?_
    have m1 : τ "shelf" = some (shelfD S) := (p2 _ (by decide)).trans l1
    have m2 : τ "path" = some (.str (textS p)) := (p2 _ (by decide)).trans l2
    have m3 : τ "value" = some (.int k) := (p2 _ (by decide)).trans l3
    -- the end, both ways
    have fin : ∀ (c : Bool) (m : Nat), (if c then n + 1 else n) = m → m ≤ S.length → S.drop m = highS S p → ∀ τ' : Vars, τ' "shelf" = some (shelfD S) → τ' "path" = some (.str (textS p)) → τ' "value" = some (.int k) → τ' "spot" = some (.int (n : Int)) → τ' "same" = some (.bool c) →
        execB ⟨call, gl, so⟩ f_put.mu (f_put.body.drop 2) f_put.scope ⟨τ', none⟩ = some (.ret (shelfD (put S p k))) := by
      intro c m hm hms hdr τ' a1 a2 a3 a4 a5
      conv in f_put.body.drop 2 => whnf
      have e1 : slD (shelfD S) .none (.int (n : Int)) = some (.list ((lowS S p).map entD)) := by
        rw [shelfD, sl_list (by rw [List.length_map]; lia) rfl rfl, pySl_take (by rw [List.length_map]; omega), ← List.map_take, htk]
      have e2 : slD (shelfD S) (.int (m : Int)) .none = some (.list ((highS S p).map entD)) := by
        rw [shelfD, sl_list (by rw [List.length_map]; lia) rfl rfl, pySl_drop (by rw [List.length_map]; omega), ← List.map_drop, hdr]
      have z1 : (lowS S p).length ≤ S.length := List.length_filter_le ..
      have z2 : (highS S p).length ≤ S.length := List.length_filter_le ..
      have e3 : shelfD (put S p k) = .list ((lowS S p).map entD ++ [.tup [.str (textS p), .int k]] ++ (highS S p).map entD) := by
        unfold shelfD put; simp [entD]
      rw [e3]
      refine execB_ret (ev_ret (ev_bin (ev_bin (ev_sli (ev_name ((nameD_loc rfl rfl).trans a1)) eo_none (eo_some (ev_name ((nameD_loc rfl rfl).trans a4))) e1)
        (ev_list rfl (ea_cons rfl (ev_tup rfl (ea_cons rfl (ev_name ((nameD_loc rfl rfl).trans a2)) (ea_cons rfl (ev_name ((nameD_loc rfl rfl).trans a3)) ea_nil)) (by simp only [List.length_cons, List.length_nil]; lia)) ea_nil) (by simp only [List.length_cons, List.length_nil]; lia))
        (add_list (by rw [List.length_map]; simp only [List.length_cons, List.length_nil]; lia)))
        (ev_sli (ev_name ((nameD_loc rfl rfl).trans a1)) (eo_some (ev_ifx (c := c) (ist_name ((nameD_loc rfl rfl).trans a5) rfl) ?hh)) eo_none e2)
        (add_list (by simp only [List.length_append, List.length_map, List.length_cons, List.length_nil]; lia))))
      subst hm
      induction c using Bool.casesOn with
      | true => rw [if_pos rfl]; exact ev_bin (ev_name ((nameD_loc rfl rfl).trans a4)) (ev_con rfl) rfl
      | false => rw [if_neg Bool.false_ne_true]; exact ev_name ((nameD_loc rfl rfl).trans a4)
    by_cases hc : n < S.length
    · have hq := List.getElem?_eq_getElem hc
      have hmem := List.getElem_mem hc
      have hent : (S.map entD)[n]? = some (entD S[n]) := by rw [List.getElem?_map, hq]; rfl
      have ht := htl.2 _ hq
      have k1 : callD ⟨call, gl, so⟩ (.glob 28) [.str (textS S[n].1), .str (textS p)] = some (.int (colI (textS S[n].1).cps.toList (textS p).cps.toList)) := c1 _ _
      have k2 : idxD (entD S[n]) (.int 0) = some (.str (textS S[n].1)) := rfl
      have heq : (colI (textS S[n].1).cps.toList (textS p).cps.toList == 0) = decide (S[n].1 = p) := by
        rw [colI_eq, textS_codes (hS.len _ hmem).1, textS_codes hp, strOf_list, strOf_list]
        exact decide_eq_decide.mpr ⟨codes_inj, fun h => by rw [h]⟩
      refine set_next rfl (d := .bool (decide (S[n].1 = p))) ?_ (storeD_loc rfl rfl) fun τ' q1 q2 => ?_
      · refine be_and (ev_cmp rfl (ev_name ((nameD_loc rfl rfl).trans p1)) (ev_call rfl rfl (ev_name (nameD_glo rfl rfl rfl)) (ea_cons rfl (ev_name ((nameD_loc rfl rfl).trans m1)) ea_nil) hlen) (lt_int _ _)) ?_
        rw [decide_eq_true (show (n : Int) < S.length by (exact Int.ofNat_lt.mpr ‹_›)), if_pos rfl]
        refine ev_cmp rfl (ev_call rfl rfl (ev_name (nameD_glo rfl rfl rfl)) (ea_cons rfl (ev_sub rfl (ev_sub rfl (ev_name ((nameD_loc rfl rfl).trans m1)) (ev_name ((nameD_loc rfl rfl).trans p1)) (idx_nat (by rw [List.length_map]; lia) hent)) (ev_con rfl) k2) (ea_cons rfl (ev_name ((nameD_loc rfl rfl).trans m2)) ea_nil)) k1) (ev_con rfl) ?_
        rw [eq_int, heq]
      · exact fin (decide (S[n].1 = p)) _ rfl (by split <;> assumption) (by simpa using ht) τ' ((q2 _ (by decide)).trans m1) ((q2 _ (by decide)).trans m2) ((q2 _ (by decide)).trans m3) ((q2 _ (by decide)).trans p1) q1
    · have hn' : n = S.length := by lia
      refine set_next rfl (d := .bool false) ?_ (storeD_loc rfl rfl) fun τ' q1 q2 => ?_
      · refine be_and (ev_cmp rfl (ev_name ((nameD_loc rfl rfl).trans p1)) (ev_call rfl rfl (ev_name (nameD_glo rfl rfl rfl)) (ea_cons rfl (ev_name ((nameD_loc rfl rfl).trans m1)) ea_nil) hlen) (lt_int _ _)) ?_
        rw [decide_eq_false (show ¬ (n : Int) < S.length by lia), if_neg Bool.false_ne_true]
      · exact fin false _ rfl (by simp; omega) (by simpa using htl.1 (by rw [hn']; simp)) τ' ((q2 _ (by decide)).trans m1) ((q2 _ (by decide)).trans m2) ((q2 _ (by decide)).trans m3) ((q2 _ (by decide)).trans p1) q1
  rw [hfin]; rfl
end
end Mine
end

/-! part Pp -/
section
open PySem PySem.W PyProof.Rows PySem.Calls
set_option maxRecDepth 100000
set_option maxHeartbeats 4000000
set_option linter.unusedVariables false
set_option linter.unusedSimpArgs false
set_option tactic.hygienic false
namespace Mine

theorem eqv_list {xs ys : List D} : eqvD (.list xs) (.list ys) = PyData.eqvAll (toPyL xs) (toPyL ys) := by
  show PyData.eqv (.list (toPyL xs)) (.list (toPyL ys)) = _
  rw [PyData.eqv]
theorem eqv_tup {xs ys : List D} : eqvD (.tup xs) (.tup ys) = PyData.eqvAll (toPyL xs) (toPyL ys) := by
  show PyData.eqv (.tuple (toPyL xs)) (.tuple (toPyL ys)) = _
  rw [PyData.eqv]
theorem eqvAll_cons {x y : D} {xs ys : List D} : PyData.eqvAll (toPyL (x :: xs)) (toPyL (y :: ys)) = (eqvD x y && PyData.eqvAll (toPyL xs) (toPyL ys)) := by
  rw [toPyL, toPyL, PyData.eqvAll]; rfl
theorem eqvAll_map {α : Type} [DecidableEq α] {f : α → D} (hf : ∀ a b, eqvD (f a) (f b) = decide (a = b)) : ∀ (xs ys : List α), PyData.eqvAll (toPyL (xs.map f)) (toPyL (ys.map f)) = decide (xs = ys)
  | [], [] => by rw [List.map_nil, toPyL, PyData.eqvAll]; rfl
  | [], y :: ys => by rw [List.map_nil, List.map_cons, toPyL, toPyL, PyData.eqvAll]; simp; all_goals simp
  | x :: xs, [] => by rw [List.map_nil, List.map_cons, toPyL, toPyL, PyData.eqvAll]; simp; all_goals simp
  | x :: xs, y :: ys => by
    rw [List.map_cons, List.map_cons, eqvAll_cons, hf, eqvAll_map hf xs ys]
    by_cases h : x = y <;> simp [h]
theorem eqv_row (a b : Row) : eqvD (rowD a) (rowD b) = decide (a = b) := by
  have : (rws.all fun a => rws.all fun b => eqvD (rowD a) (rowD b) == decide (a = b)) = true := by kernel_rfl
  exact eq_of_beq (List.all_eq_true.mp (List.all_eq_true.mp this a (rws_all a)) b (rws_all b))
theorem eqv_place (p q : List Row) : eqvD (.list (p.map rowD)) (.list (q.map rowD)) = decide (p = q) := by
  rw [eqv_list, eqvAll_map eqv_row]
theorem ok_row (k : Nat) (a : Row) : okD (k + 2) (rowD a) = true := by
  have : (rws.all fun a => okD (k + 2) (rowD a)) = true := by rfl
  exact List.all_eq_true.mp this a (rws_all a)
theorem ok_place (k : Nat) (p : List Row) : okD (k + 3) (.list (p.map rowD)) = true := by
  show (p.map rowD).all (okD (k + 2)) = true
  rw [List.all_eq_true]
  intro x hx
  obtain ⟨a, _, rfl⟩ := List.mem_map.mp hx
  exact ok_row k a
theorem eq_place (p q : List Row) : ccD .Eq (.list (p.map rowD)) (.list (q.map rowD)) = some (decide (p = q)) := by
  show (if okD 8 (.list (p.map rowD)) && okD 8 (.list (q.map rowD)) then some (eqvD (.list (p.map rowD)) (.list (q.map rowD))) else none) = _
  rw [ok_place 5 p, ok_place 5 q, eqv_place]; rfl
theorem ne_place (p q : List Row) : ccD .NotEq (.list (p.map rowD)) (.list (q.map rowD)) = some (!decide (p = q)) := by
  show (if okD 8 (.list (p.map rowD)) && okD 8 (.list (q.map rowD)) then some (!eqvD (.list (p.map rowD)) (.list (q.map rowD))) else none) = _
  rw [ok_place 5 p, ok_place 5 q, eqv_place]; rfl
theorem notin_row (r : Row) (acc : List Row) : ccD .NotIn (rowD r) (.list (acc.map rowD)) = some (!decide (r ∈ acc)) := by
  show (if okD 8 (.list (acc.map rowD)) && okD 8 (rowD r) then some ((acc.map rowD).any fun d => eqvD d (rowD r)) else none).map (!·) = _
  rw [ok_place 5 acc, ok_row 6 r, List.any_map]
  refine congrArg (fun b => some (!b)) ?_
  induction acc with
  | nil => simp
  | cons a acc ih =>
    rw [List.any_cons, ih]
    show (eqvD (rowD a) (rowD r) || _) = _
    rw [eqv_row]
    by_cases h : a = r
    · simp [h]
    · have h' : r ≠ a := fun e => h e.symm
      simp [h, h']
theorem gt_row (r l : Row) : ccD .Gt (rowD r) (rowD l) = some (decide (l < r)) := by
  have : (rws.all fun a => rws.all fun b => ccD .Gt (rowD a) (rowD b) == some (decide (b < a))) = true := by kernel_rfl
  exact eq_of_beq (List.all_eq_true.mp (List.all_eq_true.mp this r (rws_all r)) l (rws_all l))
theorem lt_row (k : Nat) (r l : Row) : cmpD .lt (k + 2) (rowD r) (rowD l) = some (decide (r < l)) := by
  have : (rws.all fun a => rws.all fun b => cmpD .lt (k + 2) (rowD a) (rowD b) == some (decide (a < b))) = true := by kernel_rfl
  exact eq_of_beq (List.all_eq_true.mp (List.all_eq_true.mp this r (rws_all r)) l (rws_all l))
theorem cmpL_place (k : Nat) : ∀ (p q : List Row), cmpL .lt (cmpD .lt (k + 2)) (p.map rowD) (q.map rowD) = some (decide (p < q))
  | [], [] => rfl
  | [], b :: q => by simp [cmpL, LG.isLt]
  | a :: p, [] => by simp [cmpL, LG.isLt]
  | a :: p, b :: q => by
    rw [List.map_cons, List.map_cons, cmpL, eqv_row, cmpL_place k p q, lt_row]
    by_cases h : a = b
    · subst h; simp [List.cons_lt_cons_iff]
    · simp [h, List.cons_lt_cons_iff]
theorem lt_place (p q : List Row) : cmpD .lt 8 (.list (p.map rowD)) (.list (q.map rowD)) = some (decide (p < q)) := by
  show (if (p.map rowD).all (okD 7) && (q.map rowD).all (okD 7) then cmpL .lt (cmpD .lt 7) (p.map rowD) (q.map rowD) else none) = _
  have h1 : (p.map rowD).all (okD 7) = true := ok_place 5 p
  have h2 : (q.map rowD).all (okD 7) = true := ok_place 5 q
  rw [h1, h2, cmpL_place 5 p q]; rfl

/-! sorting -/
theorem sort_rows {acc : List Row} (h : acc.Nodup) : sortD (acc.map rowD) = some ((rws.filter fun r => decide (r ∈ acc)).map rowD) := by
  have hp : (rws.filter fun r => decide (r ∈ acc)).Perm acc := by
    rw [List.perm_ext_iff_of_nodup (List.Nodup.sublist (List.filter_sublist ..) (by decide)) h]
    intro a
    simp [List.mem_filter, rws_all a]
  refine sortD_eq ⟨?_, .inl fun d hd => ?_, hp.map _, ?_⟩
  · rw [List.length_map, ← hp.length_eq]
    have := List.length_filter_le (fun r => decide (r ∈ acc)) rws
    have : rws.length = 4 := rfl
    omega
  · obtain ⟨a, _, rfl⟩ := List.mem_map.mp hd; rfl
  · rw [List.pairwise_map]
    refine List.Pairwise.sublist (List.filter_sublist ..) ?_
    have : rws.Pairwise fun a b => a < b := by decide
    refine this.imp fun {a b} hab => ⟨?_, ?_⟩
    · show cmpD .lt 8 (rowD a) (rowD b) = some true
      rw [lt_row 6, decide_eq_true hab]
    · show cmpD .lt 8 (rowD b) (rowD a) = some false
      rw [lt_row 6, decide_eq_false (show ¬ b < a from fun h => Nat.lt_asymm (show a.val < b.val from hab) h)]
noncomputable def bookE (q : Ent) : D := .tup [placeD q.1, .int q.2]
noncomputable def bookD (B : List Ent) : D := .list (B.map bookE)
theorem sort_book {B S : List Ent} (hp : S.Perm B) (hs : S.Pairwise fun a b => a.1 < b.1) (hz : S.length ≤ 40) : sortD (B.map bookE) = some (S.map bookE) := by
  refine sortD_eq ⟨?_, .inr fun d hd => ?_, hp.map _, ?_⟩
  · rw [List.length_map, ← hp.length_eq]; omega
  · obtain ⟨a, _, rfl⟩ := List.mem_map.mp hd; rfl
  · rw [List.pairwise_map]
    refine hs.imp fun {a b} hab => ?_
    have ne : a.1 ≠ b.1 := by intro h; rw [h] at hab; exact ltR_irrefl _ hab
    have e : ∀ x y : Ent, x.1 ≠ y.1 → ltK (bookE x) (bookE y) = some (decide (x.1 < y.1)) := by
      intro x y hxy
      show (if okD 8 (placeD x.1) && okD 8 (placeD y.1) then (if eqvD (placeD x.1) (placeD y.1) then some (decide (x.2 < y.2)) else cmpD .lt 8 (placeD x.1) (placeD y.1)) else none) = _
      unfold placeD
      rw [ok_place 5, ok_place 5, eqv_place, lt_place, decide_eq_false hxy]; rfl
    exact ⟨by rw [e a b ne, decide_eq_true hab], by rw [e b a (Ne.symm ne), decide_eq_false (ltR_asymm hab)]⟩
end Mine
end

/-! part Pq -/
section
open PySem PySem.W PyProof.Rows PySem.Calls
set_option maxRecDepth 100000
set_option maxHeartbeats 4000000
set_option linter.unusedVariables false
set_option linter.unusedSimpArgs false
set_option tactic.hygienic false
namespace Mine

noncomputable def lastD : Option Row → D
  | none => .none
  | some r => rowD r
noncomputable def gtL : Option Row → Row → Bool
  | none, _ => true
  | some l, r => decide (l < r)
noncomputable def kidOf (f p : List Row) : Option Row := if p.take f.length = f then p[f.length]? else none
noncomputable def headStep (f : List Row) (last : Option Row) (acc : List Row) (q : Ent) : List Row :=
  match kidOf f q.1 with
  | some r => if r ∉ acc ∧ gtL last r = true then acc ++ [r] else acc
  | none => acc

theorem pySl_take' {α : Type} {xs : List α} {n : Nat} : pySl xs none (some (n : Int)) = xs.take n := by
  unfold pySl
  have : pyClip xs.length (n : Int) = min n xs.length := by unfold pyClip; lia
  simp only [Option.map_none, Option.map_some, Option.getD_none, Option.getD_some, this, List.drop_zero, Nat.sub_zero]
  rcases Nat.le_total n xs.length with h | h
  · rw [Nat.min_eq_left h]
  · rw [Nat.min_eq_right h, List.take_of_length_le (Nat.le_refl _), List.take_of_length_le h]

section
variable {cx : Cx} {sc : Scope} {σ : Vars} {mu : List Str} {a b e : Expr} {es : List Expr} {p : Pos}
theorem ist_and {c : Bool} {o : Option D} (h : allB cx es .And sc σ = some c) : isT cx (.BoolOp .And es p) o sc σ = some c := by
  simp only [iT_not, iT_bool, iT_if, iT_cmp, iT_Name, iT_Call, iT_Subscript, iT_BinOp, iT_Constant, h]
theorem ist_or {c : Bool} {o : Option D} (h : allB cx es .Or sc σ = some c) : isT cx (.BoolOp .Or es p) o sc σ = some c := by
  simp only [iT_not, iT_bool, iT_if, iT_cmp, iT_Name, iT_Call, iT_Subscript, iT_BinOp, iT_Constant, h]
theorem ist_and_none {o : Option D} (h : allB cx es .And sc σ = none) : isT cx (.BoolOp .And es p) o sc σ = none := by
  simp only [iT_not, iT_bool, iT_if, iT_cmp, iT_Name, iT_Call, iT_Subscript, iT_BinOp, iT_Constant, h]
theorem and_t (h : isT cx a (evalE cx a sc σ) sc σ = some true) : allB cx (a :: es) .And sc σ = allB cx es .And sc σ := by
  simp only [aB_nil, aB_cons, h, Option.bind_some]
theorem and_f (h : isT cx a (evalE cx a sc σ) sc σ = some false) : allB cx (a :: es) .And sc σ = some false := by
  simp only [aB_nil, aB_cons, h, Option.bind_some]
theorem and_n (h : isT cx a (evalE cx a sc σ) sc σ = none) : allB cx (a :: es) .And sc σ = none := by
  simp only [aB_nil, aB_cons, h, Option.bind_none]
theorem and_e : allB cx [] .And sc σ = some true := by simp only [aB_nil, aB_cons]; rfl
theorem or_t (h : isT cx a (evalE cx a sc σ) sc σ = some true) : allB cx (a :: es) .Or sc σ = some true := by
  simp only [aB_nil, aB_cons, h, Option.bind_some]
theorem or_f (h : isT cx a (evalE cx a sc σ) sc σ = some false) : allB cx (a :: es) .Or sc σ = allB cx es .Or sc σ := by
  simp only [aB_nil, aB_cons, h, Option.bind_some]
theorem or_e : allB cx [] .Or sc σ = some false := by simp only [aB_nil, aB_cons]; rfl
theorem tr_own {x : Str} {ds : List D} {c : Bool} (h1 : isT cx e (evalE cx e sc σ) sc σ = none) (h2 : isT cx e (evalE cx e sc (updV σ x (.list ds))) sc (updV σ x (.list ds)) = some c) : testR cx e sc ⟨σ, some (x, ds)⟩ = some c := by
  unfold testR
  rw [show isT cx e (evalE cx e sc (Sto.mk σ (some (x, ds))).σ) sc (Sto.mk σ (some (x, ds))).σ = none from h1]
  exact h2
theorem if_testR {st : Sto} {bt bo rest : List Stmt} {c : Bool} {fl : Option Fl} (h : testR cx e sc st = some c) (kk : (execB cx mu (if c then bt else bo) sc st).bind (fun f => match f with | .next st => execB cx mu rest sc st | f => some f) = fl) :
    execB cx mu (.If e bt bo p :: rest) sc st = fl := by
  rw [← kk]
  simp only [eK_nil, eK_cons, eS_Expr, eS_Pass, eS_Break, eS_Continue, eS_Return, eS_ReturnN, eS_Assign, eS_AssignT, eS_Aug, eS_If, eS_While, eS_For, eS_Try, h, Option.bind_some]
  induction c using Bool.casesOn <;> rfl
theorem cmp_none {l r : Expr} {op : CmpOp} {x : D} {o : Option D} (hm : behindInMarks op r = false) (h1 : evalE cx l sc σ = some x) (h2 : evalE cx r sc σ = none) : isT cx (.Compare l [op] [r] p) o sc σ = none := by
  simp only [iT_not, iT_bool, iT_if, iT_cmp, iT_Name, iT_Call, iT_Subscript, iT_BinOp, iT_Constant, hm, h1, h2, Option.bind_some, Option.bind_none, Bool.false_eq_true, if_false]
theorem ev_name_none {x : Str} {xp : Pos} (h : nameD cx x sc σ = none) : evalE cx (.Name x xp) sc σ = none := by simp only [eE_Constant, eE_Name, eE_BoolOp, eE_BinOp, eE_UnaryOp, eE_IfExp, eE_Compare, eE_meth0, eE_meth1, eE_call, eE_slice, eE_subN, eE_subC, eE_subU, eE_subB, eE_subS, eE_List, eE_Tuple, eE_ListComp, h]
end

noncomputable def toldB : List Stmt := match f_told.body with
  | [_, .For _ _ b _ _, _] => b
  | _ => []

section
variable {call : Addr → List D → Option D} {so : List D → Option (List D)}
theorem told_step {σ : Vars} {p f : List Row} {k : Int} {last : Option Row} {acc : List Row} (h1 : σ "place" = some (placeD p)) (h2 : σ "folder" = some (placeD f)) (h3 : σ "depth" = some (.int (f.length : Int))) (h4 : σ "last" = some (lastD last)) (h5 : σ "heads" = none)
    (hp : p.length ≤ 3) (ha : acc.length ≤ 100) :
    execB ⟨call, gl, so⟩ f_told.mu toldB f_told.scope ⟨σ, some ("heads", acc.map rowD)⟩ = some (.next ⟨σ, some ("heads", (headStep f last acc (p, k)).map rowD)⟩) := by
  conv in toldB => whnf
  have n0 : nameD ⟨call, gl, so⟩ "heads" f_told.scope σ = none := (nameD_loc rfl rfl).trans h5
  have e1 : slD (placeD p) .none (.int (f.length : Int)) = some (.list ((p.take f.length).map rowD)) := by
    rw [placeD, sl_list (by rw [List.length_map]; lia) rfl rfl, pySl_take', ← List.map_take]
  have e2 : callD ⟨call, gl, so⟩ (.bi "len") [placeD p] = some (.int (p.length : Int)) := by
    show lenD (placeD p) = _
    rw [placeD, len_list (by rw [List.length_map]; lia), List.length_map]
  have gtI : ∀ a b : Int, ccD .Gt (.int a) (.int b) = some (decide (a > b)) := fun _ _ => rfl
  by_cases hf : p.take f.length = f
  · by_cases hl : f.length < p.length
    · have hr := List.getElem?_eq_getElem hl
      generalize hrr : p[f.length] = r at hr
      have hkid : kidOf f p = some r := by unfold kidOf; rw [if_pos hf, hr]
      have e3 : idxD (placeD p) (.int (f.length : Int)) = some (rowD r) := idx_nat (by rw [List.length_map]; lia) (by rw [List.getElem?_map, hr]; rfl)
      have hhs : headStep f last acc (p, k) = if r ∉ acc ∧ gtL last r = true then acc ++ [r] else acc := by unfold headStep; rw [show kidOf f (p, k).1 = some r from hkid]
      have v1 : ∀ d, updV σ "heads" d "place" = some (placeD p) := fun d => (updV_ne (by decide)).trans h1
      have v2 : ∀ d, updV σ "heads" d "folder" = some (placeD f) := fun d => (updV_ne (by decide)).trans h2
      have v3 : ∀ d, updV σ "heads" d "depth" = some (.int (f.length : Int)) := fun d => (updV_ne (by decide)).trans h3
      refine if_testR (c := decide (r ∉ acc)) (tr_own ?_ ?_) ?_
      · refine ist_and_none ((and_t (ist_cmp rfl (ev_sli (ev_name ((nameD_loc rfl rfl).trans h1)) eo_none (eo_some (ev_name ((nameD_loc rfl rfl).trans h3))) e1) (ev_name ((nameD_loc rfl rfl).trans h2)) (by rw [placeD, eq_place, decide_eq_true hf]))).trans
          ((and_t (ist_cmp rfl (ev_call rfl rfl (ev_name (nameD_glo rfl rfl rfl)) (ea_cons rfl (ev_name ((nameD_loc rfl rfl).trans h1)) ea_nil) e2) (ev_name ((nameD_loc rfl rfl).trans h3)) (by rw [gtI, decide_eq_true (by (exact Int.ofNat_lt.mpr ‹_›))]))).trans
          (and_n (cmp_none rfl (ev_sub rfl (ev_name ((nameD_loc rfl rfl).trans h1)) (ev_name ((nameD_loc rfl rfl).trans h3)) e3) (ev_name_none n0)))))
      · refine ist_and ((and_t (ist_cmp rfl (ev_sli (ev_name ((nameD_loc rfl rfl).trans (v1 _))) eo_none (eo_some (ev_name ((nameD_loc rfl rfl).trans (v3 _)))) e1) (ev_name ((nameD_loc rfl rfl).trans (v2 _))) (by rw [placeD, eq_place, decide_eq_true hf]))).trans
          ((and_t (ist_cmp rfl (ev_call rfl rfl (ev_name (nameD_glo rfl rfl rfl)) (ea_cons rfl (ev_name ((nameD_loc rfl rfl).trans (v1 _))) ea_nil) e2) (ev_name ((nameD_loc rfl rfl).trans (v3 _))) (by rw [gtI, decide_eq_true (by (exact Int.ofNat_lt.mpr ‹_›))]))).trans ?_))
        by_cases hm : r ∈ acc
        · rw [decide_eq_false (by simpa using hm)]
          exact and_f (ist_cmp rfl (ev_sub rfl (ev_name ((nameD_loc rfl rfl).trans (v1 _))) (ev_name ((nameD_loc rfl rfl).trans (v3 _))) e3) (ev_name ((nameD_loc rfl rfl).trans (updV_eq ..))) (by rw [notin_row, decide_eq_true hm]; rfl))
        · rw [decide_eq_true hm]
          exact (and_t (ist_cmp rfl (ev_sub rfl (ev_name ((nameD_loc rfl rfl).trans (v1 _))) (ev_name ((nameD_loc rfl rfl).trans (v3 _))) e3) (ev_name ((nameD_loc rfl rfl).trans (updV_eq ..))) (by rw [notin_row, decide_eq_false hm]; rfl))).trans and_e
      · by_cases hm : r ∈ acc
        · rw [decide_eq_false (by simpa using hm), if_neg Bool.false_ne_true, hhs, if_neg (by simp [hm])]
          simp only [eK_nil, eK_cons, Option.bind_some]
        · rw [decide_eq_true hm, if_pos rfl]
          have hcond : ∀ {o : Option D} {p1 p2 p3 p4 p5 p6 p7 p8 p9 : Pos}, isT ⟨call, gl, so⟩ (.BoolOp .Or [.Compare (.Name "last" p1) [.Is] [.Constant .none 0 p2] p3, .Compare (.Subscript (.Name "place" p4) (.Name "depth" p5) p6) [.Gt] [.Name "last" p7] p8] p9) o f_told.scope σ = some (gtL last r) := by
            intro o p1 p2 p3 p4 p5 p6 p7 p8 p9
            refine ist_or ?_
            induction last using Option.casesOn with
            | none => exact or_t (ist_cmp rfl (ev_name ((nameD_loc rfl rfl).trans h4)) (ev_con rfl) rfl)
            | some l =>
              refine (or_f (ist_cmp rfl (ev_name ((nameD_loc rfl rfl).trans h4)) (ev_con rfl) rfl)).trans ?_
              have hg := gt_row r l
              have e4 : ccD .Gt (rowD r) (lastD (some l)) = some (gtL (some l) r) := hg
              induction hv : gtL (some l) r using Bool.casesOn with
              | true => exact or_t (ist_cmp rfl (ev_sub rfl (ev_name ((nameD_loc rfl rfl).trans h1)) (ev_name ((nameD_loc rfl rfl).trans h3)) e3) (ev_name ((nameD_loc rfl rfl).trans h4)) (by rw [e4, hv]))
              | false => exact (or_f (ist_cmp rfl (ev_sub rfl (ev_name ((nameD_loc rfl rfl).trans h1)) (ev_name ((nameD_loc rfl rfl).trans h3)) e3) (ev_name ((nameD_loc rfl rfl).trans h4)) (by rw [e4, hv]))).trans or_e
          have hin : ∀ {rest : List Stmt} {fl : Fl}, execB ⟨call, gl, so⟩ f_told.mu rest f_told.scope ⟨σ, some ("heads", (headStep f last acc (p, k)).map rowD)⟩ = some fl → True := fun _ => trivial
          have k1 : List.lookup ("heads" : Str) f_told.scope.names = some .local := rfl
          have k2 : (("heads" : Str) == ("__debug__" : Str)) = false := rfl
          have hz : (acc.map rowD).length ≤ 65536 := by rw [List.length_map]; lia
          rw [if_testR (fl := some (.next ⟨σ, some ("heads", (headStep f last acc (p, k)).map rowD)⟩)) (tr_of hcond) ?_]
          · rfl
          · rw [hhs]
            induction hv : gtL last r using Bool.casesOn with
            | true =>
              rw [if_pos rfl, if_pos ⟨hm, rfl⟩]
              have ea : ∀ {q1 q2 q3 : Pos}, evalE ⟨call, gl, so⟩ (.Subscript (.Name "place" q1) (.Name "depth" q2) q3) f_told.scope σ = some (rowD r) := ev_sub rfl (ev_name ((nameD_loc rfl rfl).trans h1)) (ev_name ((nameD_loc rfl rfl).trans h3)) e3
              have ex : ∀ {q1 q2 q3 q4 q5 q6 : Pos}, (q2.endLine == q6.line) = true → execS ⟨call, gl, so⟩ f_told.mu (.Expr (.Call (.Attribute (.Name "heads" q1) "append" q2) [.Subscript (.Name "place" q3) (.Name "depth" q4) q5] [] q6) q6) f_told.scope ⟨σ, some ("heads", acc.map rowD)⟩ =
                  some (.next ⟨σ, some ("heads", (acc ++ [r]).map rowD)⟩) := by
                intro q1 q2 q3 q4 q5 q6 hq
                simp only [eS_Expr, eS_Pass, eS_Break, eS_Continue, eS_Return, eS_ReturnN, eS_Assign, eS_AssignT, eS_Aug, eS_If, eS_While, eS_For, eS_Try, exprD_append, exprD_pop, hq, if_true, k1, k2, lim, hz, and_self, isStar_Name, isStar_Constant, isStar_BinOp, isStar_UnaryOp, isStar_Call, isStar_Subscript, isStar_Tuple, isStar_ListComp, isStar_IfExp, isStar_Compare, isStar_BoolOp, isStar_List, isStar_Starred, Bool.false_eq_true, if_false, ea, Option.bind_some, List.map_append, List.map_cons, List.map_nil]
              simp only [eK_nil, eK_cons, eS_Expr, eS_Pass, eS_Break, eS_Continue, eS_Return, eS_ReturnN, eS_Assign, eS_AssignT, eS_Aug, eS_If, eS_While, eS_For, eS_Try, exprD_append, exprD_pop, beq_self_eq_true, if_true, k1, k2, lim, hz, and_self, isStar_Name, isStar_Constant, isStar_BinOp, isStar_UnaryOp, isStar_Call, isStar_Subscript, isStar_Tuple, isStar_ListComp, isStar_IfExp, isStar_Compare, isStar_BoolOp, isStar_List, isStar_Starred, Bool.false_eq_true, if_false, ea, Option.bind_some, List.map_append, List.map_cons, List.map_nil]
            | false =>
              rw [if_neg Bool.false_ne_true, if_neg (by simp)]
              simp only [eK_nil, eK_cons, Option.bind_some]
    · have hkid : kidOf f p = none := by unfold kidOf; rw [if_pos hf, List.getElem?_eq_none (by (exact Nat.not_lt.mp ‹_›))]
      have hhs : headStep f last acc (p, k) = acc := by unfold headStep; rw [show kidOf f (p, k).1 = none from hkid]
      rw [hhs]
      refine if_testR (c := false) (tr_of (ist_and ((and_t (ist_cmp rfl (ev_sli (ev_name ((nameD_loc rfl rfl).trans h1)) eo_none (eo_some (ev_name ((nameD_loc rfl rfl).trans h3))) e1) (ev_name ((nameD_loc rfl rfl).trans h2)) (by rw [placeD, eq_place, decide_eq_true hf]))).trans
          (and_f (ist_cmp rfl (ev_call rfl rfl (ev_name (nameD_glo rfl rfl rfl)) (ea_cons rfl (ev_name ((nameD_loc rfl rfl).trans h1)) ea_nil) e2) (ev_name ((nameD_loc rfl rfl).trans h3)) (by rw [gtI, decide_eq_false (by lia)])))))) ?_
      simp only [eK_nil, eK_cons, Option.bind_some, Bool.false_eq_true, if_false]
  · have hkid : kidOf f p = none := by unfold kidOf; rw [if_neg hf]
    have hhs : headStep f last acc (p, k) = acc := by unfold headStep; rw [show kidOf f (p, k).1 = none from hkid]
    rw [hhs]
    refine if_testR (c := false) (tr_of (ist_and (and_f (ist_cmp rfl (ev_sli (ev_name ((nameD_loc rfl rfl).trans h1)) eo_none (eo_some (ev_name ((nameD_loc rfl rfl).trans h3))) e1) (ev_name ((nameD_loc rfl rfl).trans h2)) (by rw [placeD, eq_place, decide_eq_false hf]))))) ?_
    simp only [eK_nil, eK_cons, Option.bind_some, Bool.false_eq_true, if_false]
end
end Mine
end

/-! part Pr -/
section
open PySem PySem.W PyProof.Rows PySem.Calls
set_option maxRecDepth 100000
set_option maxHeartbeats 4000000
set_option linter.unusedVariables false
set_option linter.unusedSimpArgs false
set_option tactic.hygienic false
namespace Mine

noncomputable def kids (f : List Row) (last : Option Row) (B : List Ent) : List Row := rws.filter fun r => gtL last r && B.any fun q => kidOf f q.1 == some r
theorem heads_fold (f : List Row) (last : Option Row) : ∀ (B : List Ent) (acc : List Row), acc.Nodup → (B.foldl (headStep f last) acc).Nodup ∧ ∀ r, r ∈ B.foldl (headStep f last) acc ↔ r ∈ acc ∨ (gtL last r = true ∧ ∃ q ∈ B, kidOf f q.1 = some r)
  | [], acc, h => ⟨h, fun r => by simp⟩
  | q :: B, acc, h => by
    have hs : (headStep f last acc q).Nodup ∧ ∀ r, r ∈ headStep f last acc q ↔ r ∈ acc ∨ (gtL last r = true ∧ kidOf f q.1 = some r) := by
      unfold headStep
      cases hk : kidOf f q.1 with
      | none => exact ⟨h, fun r => by simp⟩
      | some s =>
        dsimp only
        by_cases hc : s ∉ acc ∧ gtL last s = true
        · rw [if_pos hc]
          refine ⟨?_, fun r => ?_⟩
          · rw [List.nodup_append]
            exact ⟨h, by simp, fun a ha b hb => by simp at hb; rintro rfl; exact hc.1 (hb ▸ ha)⟩
          · rw [List.mem_append, List.mem_singleton]
            constructor
            · rintro (h1 | rfl)
              · exact .inl h1
              · exact .inr ⟨hc.2, rfl⟩
            · rintro (h1 | ⟨h1, h2⟩)
              · exact .inl h1
              · exact .inr (by injection h2 with h2; exact h2.symm)
        · rw [if_neg hc]
          refine ⟨h, fun r => ⟨.inl, ?_⟩⟩
          rintro (h1 | ⟨h1, h2⟩)
          · exact h1
          · injection h2 with h2
            subst h2
            rcases Classical.em (s ∈ acc) with h3 | h3
            · exact h3
            · exact absurd ⟨h3, h1⟩ hc
    obtain ⟨i1, i2⟩ := heads_fold f last B _ hs.1
    refine ⟨i1, fun r => ?_⟩
    rw [List.foldl_cons, i2, hs.2]
    constructor
    · rintro ((h1 | ⟨h1, h2⟩) | ⟨h1, q', h2, h3⟩)
      · exact .inl h1
      · exact .inr ⟨h1, q, List.mem_cons_self, h2⟩
      · exact .inr ⟨h1, q', List.mem_cons_of_mem _ h2, h3⟩
    · rintro (h1 | ⟨h1, q', h2, h3⟩)
      · exact .inl (.inl h1)
      · rcases List.mem_cons.mp h2 with rfl | h2
        · exact .inl (.inr ⟨h1, h3⟩)
        · exact .inr ⟨h1, q', h2, h3⟩
theorem heads_kids (f : List Row) (last : Option Row) (B : List Ent) : (rws.filter fun r => decide (r ∈ B.foldl (headStep f last) [])) = kids f last B := by
  unfold kids
  apply List.filter_congr
  intro r _
  have := (heads_fold f last B [] List.nodup_nil).2 r
  rw [Bool.eq_iff_iff, decide_eq_true_iff, this]
  simp
theorem nodup_row {l : List Row} (h : l.Nodup) : l.length ≤ 4 := by
  have hp : (rws.filter fun r => decide (r ∈ l)).Perm l := by
    rw [List.perm_ext_iff_of_nodup (List.Nodup.sublist (List.filter_sublist ..) (by decide)) h]
    intro a
    simp [List.mem_filter, rws_all a]
  rw [← hp.length_eq]
  have := List.length_filter_le (fun r => decide (r ∈ l)) rws
  have : rws.length = 4 := rfl
  assumption

theorem evR {cx : Cx} {sc : Scope} {st : Sto} {e : Expr} {d : D} (h : evalE cx e sc st.σ = some d) : evalR cx e sc st = some (d, st) := by
  unfold evalR; rw [h]
theorem ret_own {cx : Cx} {mu : List Str} {sc : Scope} {σ : Vars} {x : Str} {es : List D} {e : Expr} {p : Pos} {d : D} (h1 : evalE cx e sc σ = none) (h2 : evalE cx e sc (updV σ x (.list es)) = some d) : execS cx mu (.Return (some e) p) sc ⟨σ, some (x, es)⟩ = some (.ret d) := by
  simp only [eS_Expr, eS_Pass, eS_Break, eS_Continue, eS_Return, eS_ReturnN, eS_Assign, eS_AssignT, eS_Aug, eS_If, eS_While, eS_For, eS_Try, evalR, h1, h2, Option.bind_some]
  split <;> rfl
theorem own2_next {cx : Cx} {mu : List Str} {sc : Scope} {σ : Vars} {x y : Str} {xp yp tp p lp : Pos} {k k2 : Nat} {ep : Pos} {e2 : Expr} {d : D} {rest : List Stmt} {fl : Fl} (hok : okTup (.Tuple [.List [] lp, e2] k2 ep) = true) (hm : mu.contains x = true) (hs : isStar e2 = false) (hxy : (x != y) = true)
    (hx : sc.names.lookup x = some .local) (hy : sc.names.lookup y = some .local) (h : evalE cx e2 sc σ = some d) (hf : flatD d = true) (kk : ∀ σ', σ' x = none → σ' y = some d → (∀ z, z ≠ x → z ≠ y → σ' z = σ z) → execB cx mu rest sc ⟨σ', some (x, [])⟩ = some fl) :
    execB cx mu (.Assign [.Tuple [.Name x xp, .Name y yp] k tp] (.Tuple [.List [] lp, e2] k2 ep) p :: rest) sc ⟨σ, none⟩ = some fl := by
  have hne : x ≠ y := by simpa using hxy
  refine (execB_next (st' := ⟨updV (offV σ x) y d, some (x, [])⟩) ?_).trans (kk _ ((updV_ne hne).trans (offV_eq σ x)) (updV_eq ..) fun z h1 h2 => (updV_ne h2).trans (offV_ne h1))
  refine eS_AssignT.trans ?_
  unfold assignTup
  rw [hok, if_neg (by exact Bool.false_ne_true), show newOwn [.Name x xp, .Name y yp] (.Tuple [.List [] lp, e2] k2 ep) mu = if mu.contains x && !isStar e2 && x != y then some (x, y, e2) else none from rfl, hm, hs, hxy]
  show (if (sc.names.lookup x == some .local && sc.names.lookup y == some .local && Option.isNone (none : Option (Str × List D))) = true then (evalE cx e2 sc σ).bind fun d => if flatD d = true then some (Fl.next ⟨updV (offV σ x) y d, some (x, [])⟩) else none else none) = _
  rw [hx, hy, h]
  exact if_pos hf

section
variable {call : Addr → List D → Option D} {so : List D → Option (List D)}

theorem told_loop {g : D → Sto → Option Sto} (hg : ∀ (q : Ent) σ acc, g (bookE q) ⟨σ, some ("heads", acc)⟩ = some ⟨updV (updV σ "place" (placeD q.1)) "value" (.int q.2), some ("heads", acc)⟩) {f : List Row} {last : Option Row} : ∀ (B : List Ent) (acc : List Row) (σ : Vars), acc.Nodup → (∀ q ∈ B, q.1.length ≤ 3) →
    σ "folder" = some (placeD f) → σ "depth" = some (.int (f.length : Int)) → σ "last" = some (lastD last) → σ "heads" = none →
    ∃ σ', forGo (fun st => execB ⟨call, gl, so⟩ f_told.mu toldB f_told.scope st) g (B.map bookE) ⟨σ, some ("heads", acc.map rowD)⟩ = some (.next ⟨σ', some ("heads", (B.foldl (headStep f last) acc).map rowD)⟩) ∧ σ' "heads" = none ∧ σ' "size" = σ "size"
  | [], acc, σ, _, _, h2, h3, h4, h5 => ⟨σ, rfl, h5, rfl⟩
  | q :: B, acc, σ, hn, hp, h2, h3, h4, h5 => by
    have w1 : updV (updV σ "place" (placeD q.1)) "value" (.int q.2) "place" = some (placeD q.1) := (updV_ne (by decide)).trans (updV_eq ..)
    have w2 : updV (updV σ "place" (placeD q.1)) "value" (.int q.2) "folder" = some (placeD f) := (updV_ne (by decide)).trans ((updV_ne (by decide)).trans h2)
    have w3 : updV (updV σ "place" (placeD q.1)) "value" (.int q.2) "depth" = some (.int (f.length : Int)) := (updV_ne (by decide)).trans ((updV_ne (by decide)).trans h3)
    have w4 : updV (updV σ "place" (placeD q.1)) "value" (.int q.2) "last" = some (lastD last) := (updV_ne (by decide)).trans ((updV_ne (by decide)).trans h4)
    have w5 : updV (updV σ "place" (placeD q.1)) "value" (.int q.2) "heads" = none := (updV_ne (by decide)).trans ((updV_ne (by decide)).trans h5)
    have w6 : updV (updV σ "place" (placeD q.1)) "value" (.int q.2) "size" = σ "size" := (updV_ne (by decide)).trans (updV_ne (by decide))
    have hn' : (headStep f last acc q).Nodup := (heads_fold f last [q] acc hn).1
    have st := told_step (call := call) (so := so) (k := q.2) w1 w2 w3 w4 w5 (hp q List.mem_cons_self) (Nat.le_trans (nodup_row hn) (by (exact Nat.le_add_left ..)))
    obtain ⟨σ', e', r1, r2⟩ := told_loop hg B (headStep f last acc q) _ hn' (fun b hb => hp b (List.mem_cons_of_mem _ hb)) w2 w3 w4 w5
    refine ⟨σ', ?_, r1, r2.trans w6⟩
    rw [List.map_cons]
    unfold forGo
    rw [hg]
    simp only [Option.bind_some]
    rw [st]
    exact e'

theorem r_told {f : List Row} {last : Option Row} {B : List Ent} {size : Nat} (hB : ∀ q ∈ B, q.1.length ≤ 3) (hz : B.length ≤ 1000) (hf : f.length ≤ 3) :
    runF ⟨call, gl, sortD⟩ f_told [bookD B, placeD f, lastD last, .int (size : Int)] = some (.list (((kids f last B).take size).map rowD)) := by
  unfold runF
  rw [show f_told.bind [bookD B, placeD f, lastD last, .int (size : Int)] = some [(("book" : Str), bookD B), ("folder", placeD f), ("last", lastD last), ("size", .int (size : Int))] from rfl]
  simp only [Option.bind_some]
  obtain ⟨σ, hσ⟩ : ∃ σ : Vars, σ = fun y => [(("book" : Str), bookD B), ("folder", placeD f), ("last", lastD last), ("size", .int (size : Int))].lookup y := ⟨_, rfl⟩
  have l1 : σ "book" = some (bookD B) := by rw [hσ]; rfl
  have l2 : σ "folder" = some (placeD f) := by rw [hσ]; rfl
  have l3 : σ "last" = some (lastD last) := by rw [hσ]; rfl
  have l4 : σ "size" = some (.int (size : Int)) := by rw [hσ]; rfl
  rw [← hσ]
  have hlen : callD ⟨call, gl, sortD⟩ (.bi "len") [placeD f] = some (.int (f.length : Int)) := by
    show lenD (placeD f) = _
    rw [placeD, len_list (by rw [List.length_map]; lia), List.length_map]
  have hfin : execB ⟨call, gl, sortD⟩ f_told.mu f_told.body f_told.scope ⟨σ, none⟩ = some (.ret (.list (((kids f last B).take size).map rowD))) := by
    conv in f_told.body => whnf
    refine own2_next rfl rfl rfl rfl rfl rfl (ev_call rfl rfl (ev_name (nameD_glo rfl rfl rfl)) (ea_cons rfl (ev_name ((nameD_loc rfl rfl).trans l2)) ea_nil) hlen) rfl fun τ p1 p2 p3 => ?_
    obtain ⟨σ', el, q1, q2⟩ := told_loop (call := call) (so := sortD) (g := storeT f_told.scope (.Tuple [.Name "place" _, .Name "value" _] _ _)) (fun q σ acc => by
      show (if 2 ≤ lim then (storeD f_told.scope "place" (placeD q.1) ⟨σ, some ("heads", acc)⟩).bind fun st => (storeD f_told.scope "value" (.int q.2) st).bind fun st => some st else none) = _
      rw [if_pos (by decide), storeD_own rfl (by decide)]
      simp only [Option.bind_some]
      rw [storeD_own rfl (by decide)]; rfl) (f := f) (last := last) B [] τ List.nodup_nil hB ((p3 _ (by decide) (by decide)).trans l2) p2 ((p3 _ (by decide) (by decide)).trans l3) p1
    refine (execB_next (for_run rfl (d := bookD B) (ds := B.map bookE) (st' := ⟨τ, some ("heads", [])⟩) ?_ (itemsD_list (by rw [List.length_map]; omega)) el)).trans ?_
    · exact evR (ev_name ((nameD_loc rfl rfl).trans ((p3 _ (by decide) (by decide)).trans l1)))
    · have hsort : callD ⟨call, gl, sortD⟩ (.bi "sorted") [.list ((B.foldl (headStep f last) []).map rowD)] = some (.list ((kids f last B).map rowD)) := by
        show (sortD ((B.foldl (headStep f last) []).map rowD)).map D.list = _
        rw [sort_rows (heads_fold f last B [] List.nodup_nil).1, heads_kids]; rfl
      have hk4 : (kids f last B).length ≤ 4 := List.length_filter_le _ rws
      have hsl : slD (.list ((kids f last B).map rowD)) .none (.int (size : Int)) = some (.list (((kids f last B).take size).map rowD)) := by
        rw [sl_list (by rw [List.length_map]; lia) rfl rfl, pySl_take', ← List.map_take]
      refine execB_ret (ret_own ?_ (ev_sli (ev_call rfl rfl (ev_name (nameD_glo rfl rfl rfl)) (ea_cons rfl (ev_name ((nameD_loc rfl rfl).trans (updV_eq ..))) ea_nil) hsort) eo_none (eo_some (ev_name ((nameD_loc rfl rfl).trans ((updV_ne (by decide)).trans (q2.trans ((p3 _ (by decide) (by decide)).trans l4)))))) hsl))
      have n0 : nameD ⟨call, gl, sortD⟩ "heads" f_told.scope σ' = none := (nameD_loc rfl rfl).trans q1
      have n1 : nameD ⟨call, gl, sortD⟩ "sorted" f_told.scope σ' = some (.bi "sorted") := nameD_glo rfl rfl rfl
      simp only [eE_Constant, eE_Name, eE_BoolOp, eE_BinOp, eE_UnaryOp, eE_IfExp, eE_Compare, eE_meth0, eE_meth1, eE_call, eE_slice, eE_subN, eE_subC, eE_subU, eE_subB, eE_subS, eE_List, eE_Tuple, eE_ListComp, eA_nil, eA_star, eA_Name, eA_Constant, eA_BinOp, eA_UnaryOp, eA_Call, eA_Subscript, eA_List, eA_Tuple, eA_ListComp, eA_IfExp, n0, n1, badArgs_nil, badArgs_one, badArgs_two, badArgs_three, badArgs_four, List.length_cons, List.length_nil, List.any_cons, List.any_nil, isStar_Name, isStar_Constant, isStar_BinOp, isStar_UnaryOp, isStar_Call, isStar_Subscript, isStar_Tuple, isStar_ListComp, isStar_IfExp, isStar_Compare, isStar_BoolOp, isStar_List, isStar_Starred, Bool.or_false, Bool.and_false, decide_false, Nat.reduceAdd, Nat.reduceLT, Bool.false_eq_true, if_false, Option.bind_some, Option.bind_none]
  rw [hfin]; rfl
end
end Mine
end

/-! part Ps -/
section
open PySem PySem.W PyProof.Rows PySem.Calls
set_option maxRecDepth 100000
set_option maxHeartbeats 4000000
set_option linter.unusedVariables false
set_option linter.unusedSimpArgs false
set_option tactic.hygienic false
namespace Mine

theorem row_of {r l : Row} (h : ¬ l < r) (he : ¬ r = l) : r < l := by
  have h1 : ¬ l.val < r.val := h
  have h2 : ¬ r.val = l.val := fun e => he (Fin.ext e)
  exact (show r.val < l.val by omega)
theorem row_as {r l : Row} (h : l < r) (h' : r < l) : False := Nat.lt_asymm (show l.val < r.val from h) h'
theorem row_ne {r l : Row} (h : l < r) (h' : r = l) : False := by subst h'; exact Nat.lt_irrefl _ (show r.val < r.val from h)
theorem row_tr {a b c : Row} (h : a < b) (h' : b < c) : a < c := Nat.lt_trans (show a.val < b.val from h) h'
theorem row_le {a b : Row} (h : a < b ∨ a = b) : a ≤ b := by
  rcases h with h | rfl
  · exact Nat.le_of_lt (show a.val < b.val from h)
  · exact Nat.le_refl a.val
theorem hex_ne (s r : Row) {x y : List Nat} (hx : x = [] ∨ ∃ z, x = 47 :: z) (hy : y = [48] ∨ ∃ z, y = 47 :: z) (h : s ≠ r) : hexL s ++ x ≠ hexL r ++ y := by
  rcases s with ⟨_ | _ | _ | _ | n, hs⟩ <;> rcases r with ⟨_ | _ | _ | _ | m, hr⟩ <;> first
    | (exact absurd rfl h)
    | omega
    | (rcases hx with rfl | ⟨z, rfl⟩ <;> rcases hy with rfl | ⟨w, rfl⟩ <;> simp [hexL])
theorem codes_ne48 : ∀ q p : List Row, codes q ≠ codes p ++ [48]
  | [], p => by simp [codes]
  | s :: q, [] => by simp [codes]
  | s :: q, r :: p => by
    rw [codes_cons, codes_cons, List.cons_append, List.append_assoc]
    intro h
    injection h with _ h
    by_cases hs : s = r
    · subst hs
      exact codes_ne48 q p (List.append_cancel_left h)
    · refine hex_ne s r (codes_tail q) ?_ hs h
      induction p using List.casesOn with
      | nil => exact .inl rfl
      | cons a b => exact .inr ⟨_, rfl⟩
theorem pre_lt (p : List Row) (r : Row) (x : List Row) : p < p ++ r :: x := by
  rw [← codes_lt]
  have : codes (p ++ r :: x) = codes p ++ codes (r :: x) := by unfold codes; rw [List.flatMap_append]
  rw [this]
  have h := app_lt (a := codes p) (x := []) (y := codes (r :: x))
  rw [List.append_nil] at h
  rw [h, nil_lt_iff, codes_cons]
  simp
theorem app_ltR {p x y : List Row} : p ++ x < p ++ y ↔ x < y := by
  induction p with
  | nil => rfl
  | cons a p ih => rw [List.cons_append, List.cons_append, List.cons_lt_cons_iff]; simp [ih]

theorem kidOf_some {f p : List Row} {r : Row} : kidOf f p = some r ↔ ∃ x, p = f ++ r :: x := by
  unfold kidOf
  constructor
  · intro h
    split at h
    · rename_i ht
      obtain ⟨hl, he⟩ := List.getElem?_eq_some_iff.mp h
      refine ⟨p.drop (f.length + 1), ?_⟩
      conv => lhs; rw [← List.take_append_drop f.length p, ht, List.drop_eq_getElem_cons hl, he]
    · exact ns h
  · rintro ⟨x, rfl⟩
    rw [if_pos (by simp)]
    simp
/-- where a page's next name is looked for -/
noncomputable def fromT (f : List Row) : Option Row → List Nat
  | none => codes f ++ [47]
  | some r => codes (f ++ [r]) ++ [48]
noncomputable def ltT (t : List Nat) : List Row → Bool := fun q => decide (codes q < t)
theorem down_t (t : List Nat) : Down (ltT t) := fun a b h hb => by
  unfold ltT at *
  exact decide_eq_true (List.lt_trans ((codes_lt a b).mpr h) (of_decide_eq_true hb))

theorem key_kid (f : List Row) (last : Option Row) (q : List Row) : (ltT (fromT f last) q = false ∧ ¬ codes f ++ [48] < codes q) ↔ ∃ r, kidOf f q = some r ∧ gtL last r = true := by
  constructor
  · rintro ⟨h1, h2⟩
    have h3 : codes q < codes f ++ [48] := by
      rcases ltN_tri (codes q) (codes f ++ [48]) with h | h | h
      · exact h
      · exact absurd h (codes_ne48 q f)
      · exact absurd h h2
    have h1 : ¬ codes q < fromT f last := of_decide_eq_false h1
    have hpre : f <+: q := by
      rcases (codes_bey q f).mp h3 with h | h
      · exfalso
        apply h1
        induction last using Option.casesOn with
        | none => exact (codes_dir q f).mpr (.inl h)
        | some l => exact (codes_bey q (f ++ [l])).mpr (.inl (ltR_trans h (pre_lt f l [])))
      · exact h
    obtain ⟨x, rfl⟩ := hpre
    induction x using List.casesOn with
    | nil =>
      exfalso
      apply h1
      rw [List.append_nil]
      induction last using Option.casesOn with
      | none => exact (codes_dir f f).mpr (.inr rfl)
      | some l => exact (codes_bey f (f ++ [l])).mpr (.inl (pre_lt f l []))
    | cons r x =>
      refine ⟨r, kidOf_some.mpr ⟨x, rfl⟩, ?_⟩
      induction last using Option.casesOn with
      | none => rfl
      | some l =>
        show decide (l < r) = true
        refine decide_eq_true ?_
        by_cases hlr : l < r
        · exact hlr
        · exfalso
          apply h1
          refine (codes_bey (f ++ r :: x) (f ++ [l])).mpr ?_
          by_cases he : r = l
          · subst he; right; exact ⟨x, by simp⟩
          · left
            rw [app_ltR, List.cons_lt_cons_iff]
            exact .inl (row_of hlr he)
  · rintro ⟨r, hk, hg⟩
    obtain ⟨x, rfl⟩ := kidOf_some.mp hk
    refine ⟨decide_eq_false ?_, ?_⟩
    · intro h
      induction last using Option.casesOn with
      | none =>
        rcases (codes_dir _ f).mp h with h | h
        · exact ltR_asymm h (pre_lt f r x)
        · have := congrArg List.length h; simp at this
      | some l =>
        have hg : l < r := of_decide_eq_true hg
        rcases (codes_bey _ (f ++ [l])).mp h with h | h
        · rw [app_ltR, List.cons_lt_cons_iff] at h
          rcases h with h | ⟨h, _⟩
          · exact row_as hg h
          · exact row_ne hg h
        · rw [List.prefix_append_right_inj, List.cons_prefix_cons] at h
          exact row_ne hg h.1.symm
    · intro h
      exact ltN_asymm h ((codes_bey _ f).mpr (.inr ⟨r :: x, rfl⟩))

theorem least_filter (P : Row → Bool) (r : Row) (h1 : P r = true) (h2 : ∀ x, P x = true → r ≤ x) : rws.filter P = r :: rws.filter (fun x => decide (r < x) && P x) := by
  unfold rws
  have p0 := h2 0
  have p1 := h2 1
  have p2 := h2 2
  have p3 := h2 3
  rcases r with ⟨_ | _ | _ | _ | n, hr⟩
  · have h1 : P 0 = true := h1
    cases e1 : P 1 <;> cases e2 : P 2 <;> cases e3 : P 3 <;> simp [List.filter_cons, h1, e1, e2, e3]
  · have h1 : P 1 = true := h1
    cases e0 : P 0
    · cases e2 : P 2 <;> cases e3 : P 3 <;> simp [List.filter_cons, h1, e0, e2, e3]
    · exact absurd (show (1 : Nat) ≤ 0 from p0 e0) (by decide)
  · have h1 : P 2 = true := h1
    cases e0 : P 0
    · cases e1 : P 1
      · cases e3 : P 3 <;> simp [List.filter_cons, h1, e0, e1, e3]
      · exact absurd (show (2 : Nat) ≤ 1 from p1 e1) (by decide)
    · exact absurd (show (2 : Nat) ≤ 0 from p0 e0) (by decide)
  · have h1 : P 3 = true := h1
    cases e0 : P 0
    · cases e1 : P 1
      · cases e2 : P 2
        · simp [List.filter_cons, h1, e0, e1, e2]
        · exact absurd (show (3 : Nat) ≤ 2 from p2 e2) (by decide)
      · exact absurd (show (3 : Nat) ≤ 1 from p1 e1) (by decide)
    · exact absurd (show (3 : Nat) ≤ 0 from p0 e0) (by decide)
  · omega

theorem gtL_trans {last : Option Row} {r x : Row} (h : gtL last r = true) (hx : r < x) : gtL last x = true := by
  induction last using Option.casesOn with
  | none => rfl
  | some l =>
    have h : l < r := of_decide_eq_true h
    exact decide_eq_true (row_tr h hx)

/-- the next name of a page, or its end -/
theorem page_end {f : List Row} {last : Option Row} {S : List Ent} (hS : S.Pairwise fun a b => a.1 < b.1) (h : S[cnt (ltT (fromT f last)) S]? = none ∨ ∃ e, S[cnt (ltT (fromT f last)) S]? = some e ∧ codes f ++ [48] < codes e.1) : kids f last S = [] := by
  unfold kids
  rw [List.filter_eq_nil_iff]
  intro r _ hr
  rw [Bool.and_eq_true, List.any_eq_true] at hr
  obtain ⟨hg, q, hq, hk⟩ := hr
  have hk : kidOf f q.1 = some r := eq_of_beq hk
  obtain ⟨k1, k2⟩ := (key_kid f last q.1).mpr ⟨r, hk, hg⟩
  have hmem : q ∈ S.drop (cnt (ltT (fromT f last)) S) := by
    rw [cnt_drop (down_t _) hS]
    exact List.mem_filter.mpr ⟨hq, by simp [k1]⟩
  rcases h with h | ⟨e, he, hc⟩
  · rw [List.drop_eq_nil_of_le (by simpa using h)] at hmem
    cases hmem
  · obtain ⟨hlt, he⟩ := List.getElem?_eq_some_iff.mp he
    rw [List.drop_eq_getElem_cons hlt, he] at hmem
    have hsd := hS.sublist (List.drop_sublist (cnt (ltT (fromT f last)) S) S)
    rw [List.drop_eq_getElem_cons hlt, he] at hsd
    rcases List.mem_cons.mp hmem with rfl | hmem
    · exact k2 hc
    · have := (List.pairwise_cons.mp hsd).1 q hmem
      exact k2 (List.lt_trans hc ((codes_lt _ _).mpr this))
theorem page_more {f : List Row} {last : Option Row} {S : List Ent} {e : Ent} (hS : S.Pairwise fun a b => a.1 < b.1) (he : S[cnt (ltT (fromT f last)) S]? = some e) (hc : ¬ codes f ++ [48] < codes e.1) : ∃ r x, e.1 = f ++ r :: x ∧ kids f last S = r :: kids f (some r) S := by
  obtain ⟨hlt, he'⟩ := List.getElem?_eq_some_iff.mp he
  have hsd := hS.sublist (List.drop_sublist (cnt (ltT (fromT f last)) S) S)
  have hde : S.drop (cnt (ltT (fromT f last)) S) = e :: S.drop (cnt (ltT (fromT f last)) S + 1) := by rw [List.drop_eq_getElem_cons hlt, he']
  have hnl : ltT (fromT f last) e.1 = false := by
    rw [cnt_lt (down_t _) hS he]; simp
  obtain ⟨r, hk, hg⟩ := (key_kid f last e.1).mp ⟨hnl, hc⟩
  obtain ⟨x, hx⟩ := kidOf_some.mp hk
  have hmemS : e ∈ S := he' ▸ List.getElem_mem hlt
  refine ⟨r, x, hx, ?_⟩
  unfold kids
  rw [least_filter (fun r => gtL last r && S.any fun q => kidOf f q.1 == some r) r]
  · congr 1
    apply List.filter_congr
    intro y _
    show (decide (r < y) && (gtL last y && _)) = (decide (r < y) && _)
    by_cases hy : r < y
    · rw [gtL_trans hg hy]; simp
    · simp [hy]
  · rw [hg, Bool.true_and, List.any_eq_true]
    exact ⟨e, hmemS, by rw [hk]; simp⟩
  · intro y hy
    rw [Bool.and_eq_true, List.any_eq_true] at hy
    obtain ⟨hgy, q, hq, hky⟩ := hy
    have hky : kidOf f q.1 = some y := eq_of_beq hky
    obtain ⟨k1, k2⟩ := (key_kid f last q.1).mpr ⟨y, hky, hgy⟩
    have hmem : q ∈ S.drop (cnt (ltT (fromT f last)) S) := by
      rw [cnt_drop (down_t _) hS]
      exact List.mem_filter.mpr ⟨hq, by simp [k1]⟩
    rw [hde] at hmem hsd
    obtain ⟨z, hz⟩ := kidOf_some.mp hky
    rcases List.mem_cons.mp hmem with rfl | hmem
    · rw [hk] at hky
      injection hky with hky
      exact row_le (.inr hky)
    · have := (List.pairwise_cons.mp hsd).1 q hmem
      rw [hx, hz, app_ltR, List.cons_lt_cons_iff] at this
      exact row_le (this.imp id fun h => h.1)
end Mine
end

/-! part Pt -/
section
open PySem PySem.W PyProof.Rows PySem.Calls
set_option maxRecDepth 100000
set_option maxHeartbeats 4000000
set_option linter.unusedVariables false
set_option linter.unusedSimpArgs false
set_option tactic.hygienic false
namespace Mine

noncomputable def lastS : Option Row → D
  | none => .none
  | some r => .str (hexS r)
noncomputable def pageB : List Stmt := match f_page.body with
  | [_, .For _ _ b _ _, _] => b
  | _ => []
noncomputable def pageI : List Stmt := match pageB with
  | [_, _, _, .For _ _ b _ _, _, _] => b
  | _ => []

theorem hexL_len : ∀ r : Row, 2 ≤ (hexL r).length := by decide
theorem tlen (f : List Row) (r : Row) (x : List Row) : (textS f).length < (textS (f ++ r :: x)).length := by
  have h1 : (textS (f ++ r :: x)).length = (codes f).length + (codes (r :: x)).length := by
    rw [textS_codes (by simp; lia), strOf_len]
    unfold codes; rw [List.flatMap_append, List.length_append]
  have h2 : (codes (r :: x)).length ≥ 3 := by
    rw [codes_cons, List.length_cons, List.length_append]
    have := hexL_len r
    omega
  rw [h1]
  cases f with
  | nil => show 1 < _; omega
  | cons a f => rw [textS_codes (by simp), strOf_len]; omega
theorem len_str {x : Str} (h : x.length ≤ 1000) : lenD (.str x) = some (.int (x.length : Int)) := by
  show (if x.length ≤ lim then some (D.int (x.length : Int)) else none) = _
  rw [if_pos (by show _ ≤ 65536; omega)]
theorem gt_int (a b : Int) : ccD .Gt (.int a) (.int b) = some (decide (a > b)) := rfl

structure PgCall (call : Addr → List D → Option D) (S : List Ent) : Prop where
  c28 : ∀ a b, call 28 [.str a, .str b] = some (.int (colI a.cps.toList b.cps.toList))
  c221 : ∀ t, call 221 [shelfD S, .str (strOf t)] = some (.int (cnt (ltT t) S : Nat))
  c228 : ∀ p : List Row, p.length ≤ 3 → call 228 [.str (textS p)] = some (.str (strOf (codes p ++ [48])))
  c152E : ∀ p : List Row, p.length ≤ 3 → call 152 [.str (textS p), .str ""] = some (.str (strOf (codes p ++ [47])))
  c152R : ∀ (f : List Row) (r : Row), f.length ≤ 2 → call 152 [.str (textS f), .str (hexS r)] = some (.str (textS (f ++ [r])))
  c173 : ∀ (f : List Row) (r : Row), f.length ≤ 2 → call 173 [.str (textS (f ++ [r]))] = some (.str (textS f))
  c166 : ∀ (f : List Row) (r : Row), f.length ≤ 2 → call 166 [.str (textS (f ++ [r]))] = some (.str (hexS r))

section
variable {call : Addr → List D → Option D} {so : List D → Option (List D)}

theorem page_inner {S : List Ent} (C : PgCall call S) {σ : Vars} {f x : List Row} {r : Row} {acc : List D} (h1 : σ "path" = some (.str (textS (f ++ r :: x)))) (h2 : σ "folder" = some (.str (textS f))) (hl : (f ++ r :: x).length ≤ 3) :
    ∃ σ', execB ⟨call, gl, so⟩ f_page.mu pageI f_page.scope ⟨σ, some ("names", acc)⟩ = some (.next ⟨σ', some ("names", acc)⟩) ∧ σ' "path" = some (.str (textS (f ++ r :: x.dropLast))) ∧ ∀ z : Str, z ≠ "path" → σ' z = σ z := by
  rw [List.length_append, List.length_cons] at hl
  have hlf : lenD (.str (textS f)) = some (.int ((textS f).length : Int)) := len_str (by have := (bey (p := f) (by omega)).2.2.1; omega)
  conv in pageI => whnf
  rcases x.eq_nil_or_concat with rfl | ⟨y, b, rfl⟩
  · skip
    have hd : callD ⟨call, gl, so⟩ (.glob 173) [.str (textS (f ++ [r]))] = some (.str (textS f)) := C.c173 f r (by simp at hl; omega)
    refine ⟨σ, ?_, h1, fun z hz => rfl⟩
    refine if_testR (c := false) (tr_of (ist_cmp rfl (ev_call rfl rfl (ev_name (nameD_glo rfl rfl rfl)) (ea_cons rfl (ev_call rfl rfl (ev_name (nameD_glo rfl rfl rfl)) (ea_cons rfl (ev_name ((nameD_loc rfl rfl).trans h1)) ea_nil) hd) ea_nil) (show callD ⟨call, gl, so⟩ (.bi "len") [.str (textS f)] = _ from hlf))
      (ev_call rfl rfl (ev_name (nameD_glo rfl rfl rfl)) (ea_cons rfl (ev_name ((nameD_loc rfl rfl).trans h2)) ea_nil) (show callD ⟨call, gl, so⟩ (.bi "len") [.str (textS f)] = _ from hlf)) (by rw [gt_int, decide_eq_false (by omega)]))) ?_
    simp only [eK_nil, eK_cons, Option.bind_some, Bool.false_eq_true, if_false]
  · rw [List.concat_eq_append] at hl h1 ⊢
    rw [List.length_append, List.length_singleton] at hl
    have he : f ++ r :: (y ++ [b]) = (f ++ r :: y) ++ [b] := by simp
    rw [he] at h1
    have hd : callD ⟨call, gl, so⟩ (.glob 173) [.str (textS ((f ++ r :: y) ++ [b]))] = some (.str (textS (f ++ r :: y))) := C.c173 _ b (by rw [List.length_append, List.length_cons]; omega)
    have hlg : lenD (.str (textS (f ++ r :: y))) = some (.int ((textS (f ++ r :: y)).length : Int)) := len_str (by have := (bey (p := f ++ r :: y) (by rw [List.length_append, List.length_cons]; omega)).2.2.1; omega)
    have hlt := tlen f r y
    rw [List.dropLast_concat]
    refine ⟨updV σ "path" (.str (textS (f ++ r :: y))), ?_, updV_eq .., fun z hz => updV_ne hz⟩
    refine if_testR (c := true) (tr_of (ist_cmp rfl (ev_call rfl rfl (ev_name (nameD_glo rfl rfl rfl)) (ea_cons rfl (ev_call rfl rfl (ev_name (nameD_glo rfl rfl rfl)) (ea_cons rfl (ev_name ((nameD_loc rfl rfl).trans h1)) ea_nil) hd) ea_nil) (show callD ⟨call, gl, so⟩ (.bi "len") [.str (textS (f ++ r :: y))] = _ from hlg))
      (ev_call rfl rfl (ev_name (nameD_glo rfl rfl rfl)) (ea_cons rfl (ev_name ((nameD_loc rfl rfl).trans h2)) ea_nil) (show callD ⟨call, gl, so⟩ (.bi "len") [.str (textS f)] = _ from hlf)) (by rw [gt_int, decide_eq_true (by omega)]))) ?_
    rw [if_pos rfl, execB_next (ev_set rfl (ev_call rfl rfl (ev_name (nameD_glo rfl rfl rfl)) (ea_cons rfl (ev_name ((nameD_loc rfl rfl).trans h1)) ea_nil) hd) (storeD_own rfl (by decide)))]
    simp only [eK_nil, eK_cons, Option.bind_some]
end
end Mine
end

/-! part Pu -/
section
open PySem PySem.W PyProof.Rows PySem.Calls
set_option maxRecDepth 100000
set_option maxHeartbeats 4000000
set_option linter.unusedVariables false
set_option linter.unusedSimpArgs false
set_option tactic.hygienic false
namespace Mine

section
variable {call : Addr → List D → Option D} {so : List D → Option (List D)}

theorem page_inner2 {S : List Ent} (C : PgCall call S) {σ : Vars} {f x : List Row} {r : Row} {acc : List D} {g : D → Sto → Option Sto} (hg : ∀ d σ, g d ⟨σ, some ("names", acc)⟩ = some ⟨updV σ "step" d, some ("names", acc)⟩)
    (h1 : σ "path" = some (.str (textS (f ++ r :: x)))) (h2 : σ "folder" = some (.str (textS f))) (hl : (f ++ r :: x).length ≤ 3) :
    ∃ σ', forGo (fun st => execB ⟨call, gl, so⟩ f_page.mu pageI f_page.scope st) g ((List.range 2).map fun (k : Nat) => D.int (k : Int)) ⟨σ, some ("names", acc)⟩ = some (.next ⟨σ', some ("names", acc)⟩) ∧ σ' "path" = some (.str (textS (f ++ [r]))) ∧ ∀ z : Str, z ≠ "path" → z ≠ "step" → σ' z = σ z := by
  have hx : x.length ≤ 2 := by rw [List.length_append, List.length_cons] at hl; lia
  obtain ⟨σ1, e1, p1, q1⟩ := page_inner (so := so) C (σ := updV σ "step" (.int ((0 : Nat) : Int))) (acc := acc) ((updV_ne (by decide)).trans h1) ((updV_ne (by decide)).trans h2) hl
  obtain ⟨σ2, e2, p2, q2⟩ := page_inner (so := so) C (σ := updV σ1 "step" (.int ((1 : Nat) : Int))) (acc := acc) ((updV_ne (by decide)).trans p1) ((updV_ne (by decide)).trans ((q1 _ (by decide)).trans ((updV_ne (by decide)).trans h2))) (by
    rw [List.length_append, List.length_cons] at hl ⊢
    rw [List.length_dropLast]; (clear C hg h1 h2 hx e1 p1 q1; lia))
  have hd : x.dropLast.dropLast = [] := by
    apply List.eq_nil_of_length_eq_zero
    rw [List.length_dropLast, List.length_dropLast]; (clear h1 h2 hl e1 p1 e2 p2; omega)
  rw [hd] at p2
  refine ⟨σ2, ?_, p2, fun z hz hs => (q2 z hz).trans ((updV_ne hs).trans ((q1 z hz).trans (updV_ne hs)))⟩
  show forGo _ g [.int ((0 : Nat) : Int), .int ((1 : Nat) : Int)] _ = _
  unfold forGo
  rw [hg]
  simp only [Option.bind_some]
  rw [e1]
  simp only [Option.bind_some]
  unfold forGo
  rw [hg]
  simp only [Option.bind_some]
  rw [e2]
  simp only [Option.bind_some]
  unfold forGo
  rfl

/-- one name of a page: the page's end, or one name more -/
theorem page_step {S : List Ent} (C : PgCall call S) (hS : Shelf S) {σ : Vars} {f : List Row} {last : Option Row} {acc : List D} (hf : f.length ≤ 1) (ha : acc.length ≤ 200) (h1 : σ "shelf" = some (shelfD S)) (h2 : σ "folder" = some (.str (textS f))) (h3 : σ "end" = some (.str (strOf (codes f ++ [48]))))
    (h4 : σ "last" = some (lastS last)) (h5 : σ "names" = none) :
    ∃ σ', (match kids f last S with
      | [] => execB ⟨call, gl, so⟩ f_page.mu pageB f_page.scope ⟨σ, some ("names", acc)⟩ = some (.brk ⟨σ', some ("names", acc)⟩)
      | r :: _ => execB ⟨call, gl, so⟩ f_page.mu pageB f_page.scope ⟨σ, some ("names", acc)⟩ = some (.next ⟨σ', some ("names", acc ++ [.str (hexS r)])⟩) ∧ σ' "last" = some (lastS (some r)) ∧ kids f last S = r :: kids f (some r) S) ∧
      σ' "shelf" = some (shelfD S) ∧ σ' "folder" = some (.str (textS f)) ∧ σ' "end" = some (.str (strOf (codes f ++ [48]))) ∧ σ' "names" = none := by
  have hz := hS.size
  have hcl := cnt_le (ltT (fromT f last)) S
  have hend := page_end (f := f) (last := last) hS.sorted
  have hmore : ∀ {e}, S[cnt (ltT (fromT f last)) S]? = some e → _ := fun {e} => page_more (f := f) (last := last) (e := e) hS.sorted
  have c221 : callD ⟨call, gl, so⟩ (.glob 221) [shelfD S, .str (strOf (fromT f last))] = some (.int (cnt (ltT (fromT f last)) S : Nat)) := C.c221 _
  generalize cnt (ltT (fromT f last)) S = n at *
  have hlen : callD ⟨call, gl, so⟩ (.bi "len") [shelfD S] = some (.int (S.length : Int)) := by
    show lenD (shelfD S) = _
    rw [shelfD, len_list (by rw [List.length_map]; lia), List.length_map]
  -- the first statement
  have first : execB ⟨call, gl, so⟩ f_page.mu pageB f_page.scope ⟨σ, some ("names", acc)⟩ = execB ⟨call, gl, so⟩ f_page.mu (pageB.drop 1) f_page.scope ⟨updV σ "spot" (.int (n : Int)), some ("names", acc)⟩ := by
    conv in pageB => whnf
    conv in pageB.drop 1 => whnf
    refine execB_next (ev_set rfl (ev_call rfl rfl (ev_name (nameD_glo rfl rfl rfl)) (ea_cons rfl (ev_name ((nameD_loc rfl rfl).trans h1)) (ea_cons rfl ?_ ea_nil)) c221) (storeD_own rfl (by decide)))
    cases last with
    | none =>
      refine ev_ifx (c := true) (ist_cmp rfl (ev_name ((nameD_loc rfl rfl).trans h4)) (ev_con rfl) rfl) ?_
      rw [if_pos rfl]
      exact ev_call rfl rfl (ev_name (nameD_glo rfl rfl rfl)) (ea_cons rfl (ev_name ((nameD_loc rfl rfl).trans h2)) (ea_cons rfl (ev_con rfl) ea_nil)) (C.c152E f (by lia))
    | some l =>
      refine ev_ifx (c := false) (ist_cmp rfl (ev_name ((nameD_loc rfl rfl).trans h4)) (ev_con rfl) rfl) ?_
      rw [if_neg Bool.false_ne_true]
      exact ev_call rfl rfl (ev_name (nameD_glo rfl rfl rfl)) (ea_cons rfl (ev_call rfl rfl (ev_name (nameD_glo rfl rfl rfl)) (ea_cons rfl (ev_name ((nameD_loc rfl rfl).trans h2)) (ea_cons rfl (ev_name ((nameD_loc rfl rfl).trans h4)) ea_nil)) (C.c152R f l (by (exact Nat.le_succ_of_le ‹_›)))) ea_nil) (C.c228 (f ++ [l]) (by rw [List.length_append, List.length_singleton]; lia))
  rw [first]
  have u0 : updV σ "spot" (.int (n : Int)) "spot" = some (.int (n : Int)) := updV_eq ..
  have u1 : updV σ "spot" (.int (n : Int)) "shelf" = some (shelfD S) := (updV_ne (by decide)).trans h1
  have u2 : updV σ "spot" (.int (n : Int)) "folder" = some (.str (textS f)) := (updV_ne (by decide)).trans h2
  have u3 : updV σ "spot" (.int (n : Int)) "end" = some (.str (strOf (codes f ++ [48]))) := (updV_ne (by decide)).trans h3
  have u5 : updV σ "spot" (.int (n : Int)) "names" = none := (updV_ne (by decide)).trans h5
  generalize updV σ "spot" (.int (n : Int)) = τ at u0 u1 u2 u3 u5
  clear first c221
  have brk : ∀ {t : Expr} {p q : Pos} {rest : List Stmt} {st : Sto}, isT ⟨call, gl, so⟩ t (evalE ⟨call, gl, so⟩ t f_page.scope st.σ) f_page.scope st.σ = some true → execB ⟨call, gl, so⟩ f_page.mu (.If t [.Break p] [] q :: rest) f_page.scope st = some (.brk st) := by
    intro t p q rest st h
    refine if_testR (tr_of h) ?_
    simp only [if_true, eK_nil, eK_cons, eS_Expr, eS_Pass, eS_Break, eS_Continue, eS_Return, eS_ReturnN, eS_Assign, eS_AssignT, eS_Aug, eS_If, eS_While, eS_For, eS_Try, Option.bind_some]
  by_cases hc : n < S.length
  · have hq := List.getElem?_eq_getElem hc
    have hmem := List.getElem_mem hc
    generalize hee : S[n] = e at hq hmem
    have hent : (S.map entD)[n]? = some (entD e) := by rw [List.getElem?_map, hq]; rfl
    have k1 : callD ⟨call, gl, so⟩ (.glob 28) [.str (textS e.1), .str (strOf (codes f ++ [48]))] = some (.int (colI (textS e.1).cps.toList (codes f ++ [48]))) := C.c28 _ _
    have k2 : idxD (entD e) (.int 0) = some (.str (textS e.1)) := rfl
    have k3 : (colI (textS e.1).cps.toList (codes f ++ [48]) == 1) = decide (codes f ++ [48] < codes e.1) := by
      rw [colI_gt, textS_codes (hS.len _ hmem).1, strOf_list]
    have ht1 : ∀ {a b c d : Pos}, isT ⟨call, gl, so⟩ (.Compare (.Name "spot" a) [.Eq] [.Call (.Name "len" b) [.Name "shelf" c] [] d] d) (evalE ⟨call, gl, so⟩ (.Compare (.Name "spot" a) [.Eq] [.Call (.Name "len" b) [.Name "shelf" c] [] d] d) f_page.scope τ) f_page.scope τ = some false := by
      intro a b c d
      exact ist_cmp rfl (ev_name ((nameD_loc rfl rfl).trans u0)) (ev_call rfl rfl (ev_name (nameD_glo rfl rfl rfl)) (ea_cons rfl (ev_name ((nameD_loc rfl rfl).trans u1)) ea_nil) hlen) (by rw [eq_int]; congr 1; rw [beq_eq_false_iff_ne]; (clear C hS hf ha h1 h2 h3 h4 h5 hz hcl hend hmore hlen u0 u1 u2 u3 u5 brk hee hq hmem hent k1 k2 k3; lia))
    by_cases hcol : codes f ++ [48] < codes e.1
    · rw [hend (.inr ⟨e, hq, hcol⟩)]
      refine ⟨τ, ?_, u1, u2, u3, u5⟩
      conv in pageB.drop 1 => whnf
      refine brk (ist_or ((or_f (ist_cmp rfl (ev_name ((nameD_loc rfl rfl).trans u0)) (ev_call rfl rfl (ev_name (nameD_glo rfl rfl rfl)) (ea_cons rfl (ev_name ((nameD_loc rfl rfl).trans u1)) ea_nil) hlen) (by rw [eq_int]; congr 1; rw [beq_eq_false_iff_ne]; (clear C hS hf ha h1 h2 h3 h4 h5 hz hcl hend hmore hlen u0 u1 u2 u3 u5 brk hee hq hmem hent k1 k2 k3 ht1 hcol; lia)))).trans (or_t (ist_cmp rfl (ev_call rfl rfl (ev_name (nameD_glo rfl rfl rfl)) (ea_cons rfl (ev_sub rfl (ev_sub rfl (ev_name ((nameD_loc rfl rfl).trans u1)) (ev_name ((nameD_loc rfl rfl).trans u0)) (idx_nat (by rw [List.length_map]; lia) hent)) (ev_con rfl) k2) (ea_cons rfl (ev_name ((nameD_loc rfl rfl).trans u3)) ea_nil)) k1) (ev_con rfl) (by rw [eq_int, k3, decide_eq_true hcol])))))
    · obtain ⟨r, x, hx, hk⟩ := hmore hq hcol
      have hlen3 := (hS.len _ hmem).2
      rw [hk]
      dsimp only
      rw [hx] at k2 hlen3
      have w1 : updV τ "path" (.str (textS (f ++ r :: x))) "path" = some (.str (textS (f ++ r :: x))) := updV_eq ..
      obtain ⟨σ', el, p1, p2⟩ := page_inner2 (so := so) C (acc := acc) (g := storeT f_page.scope (.Name "step" _)) (fun d σ => storeT_own rfl (by decide)) w1 ((updV_ne (by decide)).trans u2) hlen3
      refine ⟨updV σ' "last" (.str (hexS r)), ⟨?_, updV_eq .., rfl⟩, (updV_ne (by decide)).trans ((p2 _ (by decide) (by decide)).trans ((updV_ne (by decide)).trans u1)), (updV_ne (by decide)).trans ((p2 _ (by decide) (by decide)).trans ((updV_ne (by decide)).trans u2)),
        (updV_ne (by decide)).trans ((p2 _ (by decide) (by decide)).trans ((updV_ne (by decide)).trans u3)), (updV_ne (by decide)).trans ((p2 _ (by decide) (by decide)).trans ((updV_ne (by decide)).trans u5))⟩
      conv in pageB.drop 1 => whnf
      refine if_testR (c := false) (tr_of (ist_or ((or_f (ist_cmp rfl (ev_name ((nameD_loc rfl rfl).trans u0)) (ev_call rfl rfl (ev_name (nameD_glo rfl rfl rfl)) (ea_cons rfl (ev_name ((nameD_loc rfl rfl).trans u1)) ea_nil) hlen) (by rw [eq_int]; congr 1; rw [beq_eq_false_iff_ne]; (clear C hS hf ha h1 h2 h3 h4 h5 hz hcl hend hmore hlen u0 u1 u2 u3 u5 brk hee hq hmem hent k1 k3 ht1 hcol k2 hx hk hlen3 w1 el p1 p2; lia)))).trans ((or_f (ist_cmp rfl (ev_call rfl rfl (ev_name (nameD_glo rfl rfl rfl)) (ea_cons rfl (ev_sub rfl (ev_sub rfl (ev_name ((nameD_loc rfl rfl).trans u1)) (ev_name ((nameD_loc rfl rfl).trans u0)) (idx_nat (by rw [List.length_map]; lia) hent)) (ev_con rfl) (show idxD (entD e) (.int 0) = some (.str (textS e.1)) from rfl)) (ea_cons rfl (ev_name ((nameD_loc rfl rfl).trans u3)) ea_nil)) k1) (ev_con rfl) (by rw [eq_int, k3, decide_eq_false hcol]))).trans or_e)))) ?_
      rw [if_neg Bool.false_ne_true]
      simp only [eK_nil, Option.bind_some]
      refine (execB_next (ev_set rfl (ev_sub rfl (ev_sub rfl (ev_name ((nameD_loc rfl rfl).trans u1)) (ev_name ((nameD_loc rfl rfl).trans u0)) (idx_nat (by rw [List.length_map]; lia) hent)) (ev_con rfl) k2) (storeD_own rfl (by decide)))).trans ?_
      refine (execB_next (for_run rfl (evR (ev_call rfl rfl (ev_name (nameD_glo rfl rfl rfl)) (ea_cons rfl (ev_con rfl) ea_nil) (show callD ⟨call, gl, so⟩ (.typ "range") [.int 2] = some (.rng 2) from rfl))) (itemsD_rng (by decide)) el)).trans ?_
      refine (execB_next (ev_set rfl (ev_call rfl rfl (ev_name (nameD_glo rfl rfl rfl)) (ea_cons rfl (ev_name ((nameD_loc rfl rfl).trans p1)) ea_nil) (show callD ⟨call, gl, so⟩ (.glob 166) [.str (textS (f ++ [r]))] = some (.str (hexS r)) from C.c166 f r (by (exact Nat.le_succ_of_le ‹_›)))) (storeD_own rfl (by decide)))).trans ?_
      have a1 : ∀ {q : Pos}, evalE ⟨call, gl, so⟩ (.Name "last" q) f_page.scope (updV σ' "last" (.str (hexS r))) = some (.str (hexS r)) := ev_name ((nameD_loc rfl rfl).trans (updV_eq ..))
      have k3' : List.lookup ("names" : Str) f_page.scope.names = some .local := rfl
      have k4' : (("names" : Str) == ("__debug__" : Str)) = false := rfl
      have hz' : acc.length ≤ 65536 := by lia
      simp only [eK_nil, eK_cons, eS_Expr, eS_Pass, eS_Break, eS_Continue, eS_Return, eS_ReturnN, eS_Assign, eS_AssignT, eS_Aug, eS_If, eS_While, eS_For, eS_Try, exprD_append, exprD_pop, beq_self_eq_true, if_true, k3', k4', lim, hz', and_self, isStar_Name, isStar_Constant, isStar_BinOp, isStar_UnaryOp, isStar_Call, isStar_Subscript, isStar_Tuple, isStar_ListComp, isStar_IfExp, isStar_Compare, isStar_BoolOp, isStar_List, isStar_Starred, Bool.false_eq_true, if_false, a1, Option.bind_some]
  · rw [hend (.inl (List.getElem?_eq_none (by (exact Nat.not_lt.mp ‹_›))))]
    refine ⟨τ, ?_, u1, u2, u3, u5⟩
    conv in pageB.drop 1 => whnf
    exact brk (ist_or (or_t (ist_cmp rfl (ev_name ((nameD_loc rfl rfl).trans u0)) (ev_call rfl rfl (ev_name (nameD_glo rfl rfl rfl)) (ea_cons rfl (ev_name ((nameD_loc rfl rfl).trans u1)) ea_nil) hlen) (by rw [eq_int]; congr 1; rw [beq_iff_eq]; lia))))
end
end Mine
end

/-! part Pv -/
section
open PySem PySem.W PyProof.Rows PySem.Calls
set_option maxRecDepth 100000
set_option maxHeartbeats 4000000
set_option linter.unusedVariables false
set_option linter.unusedSimpArgs false
set_option tactic.hygienic false
namespace Mine

noncomputable def namesD (l : List Row) : List D := l.map fun r => .str (hexS r)

section
variable {call : Addr → List D → Option D} {so : List D → Option (List D)}

theorem page_loop {S : List Ent} (C : PgCall call S) (hS : Shelf S) {f : List Row} (hf : f.length ≤ 1) {g : D → Sto → Option Sto} (hg : ∀ d σ acc, g d ⟨σ, some ("names", acc)⟩ = some ⟨updV σ "k" d, some ("names", acc)⟩) :
    ∀ (ks : List Nat) (last : Option Row) (acc : List D) (σ : Vars), acc.length + ks.length ≤ 200 → σ "shelf" = some (shelfD S) → σ "folder" = some (.str (textS f)) → σ "end" = some (.str (strOf (codes f ++ [48]))) → σ "last" = some (lastS last) → σ "names" = none →
      ∃ σ', forGo (fun st => execB ⟨call, gl, so⟩ f_page.mu pageB f_page.scope st) g (ks.map fun (k : Nat) => D.int (k : Int)) ⟨σ, some ("names", acc)⟩ = some (.next ⟨σ', some ("names", acc ++ namesD ((kids f last S).take ks.length))⟩) ∧ σ' "names" = none
  | [], last, acc, σ, hz, h1, h2, h3, h4, h5 => ⟨σ, by simp [forGo, namesD], h5⟩
  | k :: ks, last, acc, σ, hz, h1, h2, h3, h4, h5 => by
    rw [List.length_cons] at hz
    obtain ⟨σ', hm, p1, p2, p3, p4⟩ := page_step (so := so) C hS (σ := updV σ "k" (.int (k : Int))) (f := f) (last := last) (acc := acc) hf (by lia) ((updV_ne (by decide)).trans h1) ((updV_ne (by decide)).trans h2) ((updV_ne (by decide)).trans h3) ((updV_ne (by decide)).trans h4) ((updV_ne (by decide)).trans h5)
    rw [List.map_cons]
    cases hk : kids f last S with
    | nil =>
      rw [hk] at hm
      refine ⟨σ', ?_, p4⟩
      unfold forGo
      rw [hg]
      simp only [Option.bind_some]
      rw [hm]
      simp [namesD]
    | cons r rest =>
      rw [hk] at hm
      obtain ⟨e1, q1, q2⟩ := hm
      obtain ⟨σ2, e2, r2⟩ := page_loop C hS hf hg ks (some r) (acc ++ [.str (hexS r)]) σ' (by rw [List.length_append, List.length_singleton]; lia) p1 p2 p3 q1 p4
      refine ⟨σ2, ?_, r2⟩
      unfold forGo
      rw [hg]
      simp only [Option.bind_some]
      rw [e1]
      simp only [Option.bind_some]
      injection q2 with _ q2
      rw [e2, q2, List.length_cons, List.take_succ_cons]
      simp [namesD]

theorem r_page {S : List Ent} (C : PgCall call S) (hS : Shelf S) {f : List Row} {last : Option Row} {size : Nat} (hf : f.length ≤ 1) (hz : size ≤ 150) :
    runF ⟨call, gl, so⟩ f_page [shelfD S, .str (textS f), lastS last, .int (size : Int)] = some (.list (namesD ((kids f last S).take size))) := by
  unfold runF
  rw [show f_page.bind [shelfD S, .str (textS f), lastS last, .int (size : Int)] = some [(("shelf" : Str), shelfD S), ("folder", .str (textS f)), ("last", lastS last), ("size", .int (size : Int))] from rfl]
  simp only [Option.bind_some]
  obtain ⟨σ, hσ⟩ : ∃ σ : Vars, σ = fun y => [(("shelf" : Str), shelfD S), ("folder", .str (textS f)), ("last", lastS last), ("size", .int (size : Int))].lookup y := ⟨_, rfl⟩
  have l1 : σ "shelf" = some (shelfD S) := by rw [hσ]; rfl
  have l2 : σ "folder" = some (.str (textS f)) := by rw [hσ]; rfl
  have l3 : σ "last" = some (lastS last) := by rw [hσ]; rfl
  have l4 : σ "size" = some (.int (size : Int)) := by rw [hσ]; rfl
  rw [← hσ]
  have hfin : execB ⟨call, gl, so⟩ f_page.mu f_page.body f_page.scope ⟨σ, none⟩ = some (.ret (.list (namesD ((kids f last S).take size)))) := by
    conv in f_page.body => whnf
    refine own2_next rfl rfl rfl rfl rfl rfl (ev_call rfl rfl (ev_name (nameD_glo rfl rfl rfl)) (ea_cons rfl (ev_name ((nameD_loc rfl rfl).trans l2)) ea_nil) (show callD ⟨call, gl, so⟩ (.glob 228) [.str (textS f)] = some (.str (strOf (codes f ++ [48]))) from C.c228 f (by lia))) rfl fun τ p1 p2 p3 => ?_
    have m1 : τ "shelf" = some (shelfD S) := (p3 _ (by decide) (by decide)).trans l1
    have m2 : τ "folder" = some (.str (textS f)) := (p3 _ (by decide) (by decide)).trans l2
    have m3 : τ "last" = some (lastS last) := (p3 _ (by decide) (by decide)).trans l3
    have m4 : τ "size" = some (.int (size : Int)) := (p3 _ (by decide) (by decide)).trans l4
    obtain ⟨σ', el, q1⟩ := page_loop (so := so) C hS hf (g := storeT f_page.scope (.Name "k" _)) (fun d σ acc => storeT_own rfl (by decide)) (List.range size) last [] τ (by rw [List.length_nil, List.length_range]; lia) m1 m2 p2 m3 p1
    rw [List.length_range, List.nil_append] at el
    have hr : callD ⟨call, gl, so⟩ (.typ "range") [.int (size : Int)] = some (.rng size) := by
      show (if 0 ≤ (size : Int) ∧ (size : Int) ≤ lim then some (D.rng (size : Int).toNat) else none) = _
      rw [if_pos ⟨by (exact Int.ofNat_nonneg _), by show _ ≤ (65536 : Int); lia⟩]; rfl
    refine (execB_next (for_run rfl (evR (ev_call rfl rfl (ev_name (nameD_glo rfl rfl rfl)) (ea_cons rfl (ev_name ((nameD_loc rfl rfl).trans m4)) ea_nil) hr)) (itemsD_rng (by lia)) el)).trans ?_
    exact execB_ret (ret_own (ev_name_none ((nameD_loc rfl rfl).trans q1)) (ev_name ((nameD_loc rfl rfl).trans (updV_eq ..))))
  rw [hfin]; rfl
end
end Mine
end

/-! part Pw -/
section
open PySem PySem.W PyProof.Rows PySem.Calls
set_option maxRecDepth 100000
set_option maxHeartbeats 4000000
set_option linter.unusedVariables false
set_option linter.unusedSimpArgs false
set_option tactic.hygienic false
namespace Mine

/-! calls at a level, of the shelf's defs -/
section
variable {so : List D → Option (List D)} {k : Nat} {S : List Ent}
theorem c_spotL (hS : Shelf S) {L : List Row → Bool} (hL : Down L) {t : List Nat} (ht : ∀ q ∈ S, decide (codes q.1 < t) = L q.1) : cN so (k + 2) 221 [shelfD S, .str (strOf t)] = some (.int (cnt L S : Nat)) :=
  (cN_step (by decide) rfl).trans (r_spot (call := cN so (k + 1)) c_strcoll hS hL ht)
theorem c_spot (hS : Shelf S) (t : List Nat) : cN so (k + 2) 221 [shelfD S, .str (strOf t)] = some (.int (cnt (ltT t) S : Nat)) := c_spotL hS (down_t t) fun _ _ => rfl
theorem c_spotP (hS : Shelf S) {p : List Row} (hp : 1 ≤ p.length) : cN so (k + 2) 221 [shelfD S, .str (textS p)] = some (.int (cnt (ltP p) S : Nat)) := by
  rw [textS_codes hp]
  exact c_spotL hS (down_lt p) fun q _ => decide_eq_decide.mpr (codes_lt q.1 p)
theorem c_put (hS : Shelf S) {p : List Row} (hp : 1 ≤ p.length) (v : Int) : cN so (k + 3) 235 [shelfD S, .str (textS p), .int v] = some (shelfD (put S p v)) :=
  (cN_step (by decide) rfl).trans (r_put (call := cN so (k + 2)) c_strcoll hS hp (c_spotP hS hp))
theorem pg_call (hS : Shelf S) : PgCall (cN so (k + 3)) S where
  c28 := fun a b => c_strcoll a b
  c221 := fun t => c_spot hS t
  c228 := fun p hp => c_beyond hp
  c152E := fun p hp => c_joinE hp
  c152R := fun f r hf => c_joinR hf r
  c173 := fun f r hf => c_dir hf r
  c166 := fun f r hf => c_base hf r
theorem c_page (hS : Shelf S) {f : List Row} {last : Option Row} {size : Nat} (hf : f.length ≤ 1) (hz : size ≤ 150) : cN so (k + 4) 242 [shelfD S, .str (textS f), lastS last, .int (size : Int)] = some (.list (namesD ((kids f last S).take size))) :=
  (cN_step (by decide) rfl).trans (r_page (pg_call hS) hS hf hz)
theorem c_told {f : List Row} {last : Option Row} {B : List Ent} {size : Nat} (hB : ∀ q ∈ B, q.1.length ≤ 3) (hz : B.length ≤ 1000) (hf : f.length ≤ 3) : cN sortD (k + 1) 249 [bookD B, placeD f, lastD last, .int (size : Int)] = some (.list (((kids f last B).take size).map rowD)) :=
  (cN_step (by decide) rfl).trans (r_told (call := cN sortD k) hB hz hf)
end

/-! equal things -/
theorem eqvAll_refl' : ∀ {xs : List D}, (∀ x ∈ xs, eqvD x x = true) → PyData.eqvAll (toPyL xs) (toPyL xs) = true
  | [], _ => by rw [toPyL, PyData.eqvAll]
  | x :: xs, h => by
    rw [eqvAll_cons, h x List.mem_cons_self, eqvAll_refl' fun y hy => h y (List.mem_cons_of_mem _ hy)]; rfl
theorem eqv_str (x : Str) : eqvD (.str x) (.str x) = true := by
  show PyData.eqv (.str x) (.str x) = true
  rw [PyData.eqv]; simp
theorem eqv_int (x y : Int) : eqvD (.int x) (.int y) = decide (x = y) := by
  show PyData.eqv (.int x) (.int y) = _
  rw [PyData.eqv]; rfl
theorem ok_strL {l : List Nat} {k : Nat} (h : ∀ c ∈ l, c < 1114112) : okD k (.str (strOf l)) = true := by
  have : PyData.strOk (strOf l) = true := by
    unfold PyData.strOk strOf
    rw [Array.all_eq_true']
    intro c hc
    exact decide_eq_true (h c (by simpa using hc))
  cases k <;> exact this
theorem hexL_ok (r : Row) : ∀ c ∈ hexL r, c < 1114112 := by revert r; decide
theorem codes_ok (p : List Row) : ∀ c ∈ codes p, c < 1114112 := by
  intro c hc
  unfold codes at hc
  obtain ⟨r, _, h⟩ := List.mem_flatMap.mp hc
  rcases List.mem_cons.mp h with rfl | h
  · decide
  · exact hexL_ok r c h
theorem ok_text (p : List Row) (k : Nat) : okD k (.str (textS p)) = true := by
  unfold textS textL
  split
  · exact ok_strL (by simp)
  · exact ok_strL (codes_ok p)
theorem ok_hex (r : Row) (k : Nat) : okD k (.str (hexS r)) = true := ok_strL (hexL_ok r)
theorem same_str {x : Str} (h : okD 8 (.str x) = true) : ccD .NotEq (.str x) (.str x) = some false ∧ ccD .Eq (.str x) (.str x) = some true := by
  constructor
  · show (if okD 8 (.str x) && okD 8 (.str x) then some (!eqvD (.str x) (.str x)) else none) = _
    rw [h, eqv_str]; rfl
  · show (if okD 8 (.str x) && okD 8 (.str x) then some (eqvD (.str x) (.str x)) else none) = _
    rw [h, eqv_str]; rfl
theorem same_list {xs : List D} (h : ∀ x ∈ xs, okD 7 x = true ∧ eqvD x x = true) : ccD .NotEq (.list xs) (.list xs) = some false ∧ ccD .Eq (.list xs) (.list xs) = some true := by
  have ho : okD 8 (.list xs) = true := by
    show xs.all (okD 7) = true
    rw [List.all_eq_true]
    exact fun x hx => (h x hx).1
  have he : eqvD (.list xs) (.list xs) = true := by rw [eqv_list]; exact eqvAll_refl' fun x hx => (h x hx).2
  constructor
  · show (if okD 8 (.list xs) && okD 8 (.list xs) then some (!eqvD (.list xs) (.list xs)) else none) = _
    rw [ho, he]; rfl
  · show (if okD 8 (.list xs) && okD 8 (.list xs) then some (eqvD (.list xs) (.list xs)) else none) = _
    rw [ho, he]; rfl
theorem ent_self (q : Ent) : okD 7 (entD q) = true ∧ eqvD (entD q) (entD q) = true := by
  constructor
  · show ([D.str (textS q.1), D.int q.2].all (okD 6)) = true
    rw [List.all_cons, ok_text]; rfl
  · unfold entD
    rw [eqv_tup]
    refine eqvAll_refl' fun x hx => ?_
    simp only [List.mem_cons, List.not_mem_nil, or_false] at hx
    rcases hx with rfl | rfl
    · exact eqv_str _
    · rw [eqv_int]; simp
theorem same_shelf (G : List Ent) : ccD .NotEq (shelfD G) (shelfD G) = some false ∧ ccD .Eq (shelfD G) (shelfD G) = some true :=
  same_list fun x hx => by obtain ⟨q, _, rfl⟩ := List.mem_map.mp hx; exact ent_self q
theorem same_names (l : List Row) : ccD .NotEq (.list (namesD l)) (.list (namesD l)) = some false :=
  (same_list fun x hx => by
    obtain ⟨r, _, rfl⟩ := List.mem_map.mp hx
    exact ⟨ok_hex r 7, eqv_str _⟩).1
theorem eqv_ent (a b : Ent) : eqvD (bookE a) (bookE b) = decide (a = b) := by
  unfold bookE placeD
  rw [eqv_tup, eqvAll_cons, eqv_place, eqvAll_cons, eqv_int]
  have : PyData.eqvAll (toPyL []) (toPyL []) = true := by rw [toPyL, PyData.eqvAll]
  rw [this, Bool.and_true]
  obtain ⟨a1, a2⟩ := a
  obtain ⟨b1, b2⟩ := b
  by_cases h : a1 = b1 <;> simp [h]
theorem ok_ent (q : Ent) : okD 8 (bookE q) = true ∧ okD 7 (bookE q) = true := by
  have h7 : okD 7 (placeD q.1) = true := ok_place 4 q.1
  have h6 : okD 6 (placeD q.1) = true := ok_place 3 q.1
  constructor
  · show ([placeD q.1, D.int q.2].all (okD 7)) = true
    rw [List.all_cons, h7]; rfl
  · show ([placeD q.1, D.int q.2].all (okD 6)) = true
    rw [List.all_cons, h6]; rfl
theorem notin_ent (q : Ent) (G : List Ent) : ccD .NotIn (bookE q) (.list (G.map bookE)) = some (!decide (q ∈ G)) := by
  show (if okD 8 (.list (G.map bookE)) && okD 8 (bookE q) then some ((G.map bookE).any fun d => eqvD d (bookE q)) else none).map (!·) = _
  have ho : okD 8 (.list (G.map bookE)) = true := by
    show (G.map bookE).all (okD 7) = true
    rw [List.all_eq_true]
    intro x hx
    obtain ⟨a, _, rfl⟩ := List.mem_map.mp hx
    exact (ok_ent a).2
  rw [ho, (ok_ent q).1, List.any_map]
  refine congrArg (fun b => some (!b)) ?_
  induction G with
  | nil => simp
  | cons a G ih =>
    have ho' : okD 8 (.list (G.map bookE)) = true := by
      show (G.map bookE).all (okD 7) = true
      rw [List.all_eq_true]
      intro x hx
      obtain ⟨a, _, rfl⟩ := List.mem_map.mp hx
      exact (ok_ent a).2
    rw [List.any_cons, ih ho']
    show (eqvD (bookE a) (bookE q) || _) = _
    rw [eqv_ent]
    by_cases h : a = q
    · simp [h]
    · have h' : q ≠ a := fun e => h e.symm
      simp [h, h']

/-! taking away -/
noncomputable def preP (p : List Row) : List Row → Bool := fun q => decide (q.take p.length = p)
theorem preP_iff {p q : List Row} : preP p q = true ↔ p <+: q := by
  unfold preP
  rw [decide_eq_true_iff, List.prefix_iff_eq_take]
  exact eq_comm
noncomputable def away (S : List Ent) (p : List Row) : List Ent := S.filter fun q => !preP p q.1
noncomputable def gone (S : List Ent) (p : List Row) : List Ent := S.filter fun q => preP p q.1
theorem pre_nlt {p q : List Row} (h : p <+: q) : ¬ q < p := by
  obtain ⟨x, rfl⟩ := h
  cases x with
  | nil => rw [List.append_nil]; exact ltR_irrefl p
  | cons r x => exact ltR_asymm (pre_lt p r x)
theorem bey_split (p q : List Row) : ltT (codes p ++ [48]) q = (ltP p q || preP p q) := by
  rw [Bool.eq_iff_iff, Bool.or_eq_true, preP_iff]
  unfold ltT ltP
  rw [decide_eq_true_iff, decide_eq_true_iff]
  exact codes_bey q p
theorem take_away {S : List Ent} {p : List Row} (hS : S.Pairwise fun a b => a.1 < b.1) :
    (S.drop (cnt (ltP p) S)).take (cnt (ltT (codes p ++ [48])) S - cnt (ltP p) S) = gone S p ∧ S.take (cnt (ltP p) S) ++ S.drop (cnt (ltT (codes p ++ [48])) S) = away S p := by
  have t1 := cnt_take (down_lt p) hS
  have d1 := cnt_drop (down_lt p) hS
  have t2 := cnt_take (down_t (codes p ++ [48])) hS
  have d2 := cnt_drop (down_t (codes p ++ [48])) hS
  have hle : cnt (ltP p) S ≤ cnt (ltT (codes p ++ [48])) S := by
    unfold cnt
    have : S.filter (fun q => ltP p q.1) = (S.filter (fun q => ltT (codes p ++ [48]) q.1)).filter (fun q => ltP p q.1) := by
      rw [List.filter_filter]
      apply List.filter_congr
      intro q _
      rw [bey_split]
      cases ltP p q.1 <;> simp
    rw [this]
    exact List.length_filter_le ..
  have mid : (S.drop (cnt (ltP p) S)).take (cnt (ltT (codes p ++ [48])) S - cnt (ltP p) S) = gone S p := by
    rw [← List.drop_take, t2]
    have hT : (S.filter fun q => ltT (codes p ++ [48]) q.1).Pairwise fun a b => a.1 < b.1 := hS.sublist (List.filter_sublist ..)
    have hc : cnt (ltP p) S = cnt (ltP p) (S.filter fun q => ltT (codes p ++ [48]) q.1) := by
      unfold cnt
      rw [List.filter_filter]
      congr 1
      apply List.filter_congr
      intro q _
      rw [bey_split]
      cases ltP p q.1 <;> simp
    rw [hc, cnt_drop (down_lt p) hT, List.filter_filter]
    unfold gone
    apply List.filter_congr
    intro q _
    rw [bey_split]
    cases hp : preP p q.1 with
    | false => cases ltP p q.1 <;> simp
    | true =>
      have : ltP p q.1 = false := decide_eq_false (pre_nlt (preP_iff.mp hp))
      rw [this]; rfl
  refine ⟨mid, ?_⟩
  have hs : S = S.take (cnt (ltP p) S) ++ (gone S p ++ S.drop (cnt (ltT (codes p ++ [48])) S)) := by
    rw [← mid]
    conv => lhs; rw [← List.take_append_drop (cnt (ltP p) S) S]
    congr 1
    conv => lhs; rw [← List.take_append_drop (cnt (ltT (codes p ++ [48])) S - cnt (ltP p) S) (S.drop (cnt (ltP p) S))]
    rw [List.drop_drop]
    congr 2
    lia
  unfold away
  conv => rhs; arg 2; rw [hs]
  rw [List.filter_append, List.filter_append]
  have f1 : (S.take (cnt (ltP p) S)).filter (fun q => !preP p q.1) = S.take (cnt (ltP p) S) := by
    rw [t1, List.filter_eq_self]
    intro q hq
    have hq : ltP p q.1 = true := (List.mem_filter.mp hq).2
    have hq : q.1 < p := of_decide_eq_true hq
    cases hp : preP p q.1 with
    | false => rfl
    | true => exact absurd hq (pre_nlt (preP_iff.mp hp))
  have f2 : (gone S p).filter (fun q => !preP p q.1) = [] := by
    rw [List.filter_eq_nil_iff]
    intro q hq
    have := (List.mem_filter.mp hq).2
    simp [this]
  have f3 : (S.drop (cnt (ltT (codes p ++ [48])) S)).filter (fun q => !preP p q.1) = S.drop (cnt (ltT (codes p ++ [48])) S) := by
    rw [d2, List.filter_eq_self]
    intro q hq
    have hq := (List.mem_filter.mp hq).2
    rw [bey_split] at hq
    cases hp : preP p q.1 with
    | false => rfl
    | true => rw [hp] at hq; simp at hq
  rw [f1, f2, f3, List.nil_append]
theorem away_shelf {S : List Ent} {p : List Row} (hS : Shelf S) : Shelf (away S p) :=
  ⟨hS.sorted.sublist (List.filter_sublist ..), Nat.le_trans (List.length_filter_le ..) hS.size, fun q hq => hS.len q (List.mem_filter.mp hq).1⟩
theorem kids_perm {f : List Row} {last : Option Row} {S B : List Ent} (h : S.Perm B) : kids f last S = kids f last B := by
  unfold kids
  apply List.filter_congr
  intro r _
  congr 1
  rw [Bool.eq_iff_iff, List.any_eq_true, List.any_eq_true]
  constructor
  · rintro ⟨q, hq, h'⟩; exact ⟨q, h.mem_iff.mp hq, h'⟩
  · rintro ⟨q, hq, h'⟩; exact ⟨q, h.mem_iff.mpr hq, h'⟩
theorem put_perm {S B : List Ent} {p : List Row} {k : Int} (h : S.Perm B) : (put S p k).Perm (B.filter (fun q => !decide (q.1 = p)) ++ [(p, k)]) := by
  have h1 : (put S p k).Perm ((lowS S p ++ highS S p) ++ [(p, k)]) := by
    unfold put
    refine (List.perm_middle).trans ?_
    exact (List.perm_append_singleton _ _).symm
  refine h1.trans (List.Perm.append_right _ ?_)
  refine List.Perm.trans ?_ (h.filter _)
  clear h h1
  unfold lowS highS
  induction S with
  | nil => simp
  | cons a S ih =>
    simp only [List.filter_cons]
    rcases ltR_tri a.1 p with ha | ha | ha
    · have h2 := ltR_asymm ha
      have h3 : a.1 ≠ p := by intro e; rw [e] at ha; exact ltR_irrefl _ ha
      simp only [decide_eq_true ha, decide_eq_false h2, decide_eq_false h3, if_true, Bool.false_eq_true, if_false, Bool.not_false, List.cons_append]
      exact ih.cons a
    · have h2 : ¬ a.1 < p := by rw [ha]; exact ltR_irrefl _
      have h3 : ¬ p < a.1 := by rw [ha]; exact ltR_irrefl _
      simp only [decide_eq_false h2, decide_eq_false h3, decide_eq_true ha, Bool.false_eq_true, if_false, Bool.not_true]
      exact ih
    · have h2 := ltR_asymm ha
      have h3 : a.1 ≠ p := by intro e; rw [e] at ha; exact ltR_irrefl _ ha
      simp only [decide_eq_true ha, decide_eq_false h2, decide_eq_false h3, if_true, Bool.false_eq_true, if_false, Bool.not_false]
      exact (List.perm_middle).trans (ih.cons a)
theorem put_len {S : List Ent} {p : List Row} {k : Int} : (put S p k).length ≤ S.length + 1 := by
  unfold put
  rw [List.length_append, List.length_cons]
  have := low_high S p
  (exact Nat.lt_succ_of_le ‹_›)
end Mine
end

/-! part Px -/
section
open PySem PySem.W PyProof.Rows PySem.Calls
set_option maxRecDepth 100000
set_option maxHeartbeats 4000000
set_option linter.unusedVariables false
set_option linter.unusedSimpArgs false
set_option tactic.hygienic false
namespace Mine

noncomputable def runB : List Stmt := match f_run.body with
  | [_, .For _ _ b _ _, _, _] => b
  | _ => []
noncomputable def runPut : List Stmt := match runB with
  | [_, _, _, _, .If _ b _ _] => b
  | _ => []
noncomputable def runAway : List Stmt := match runB with
  | [_, _, _, _, .If _ _ [.If _ b _ _] _] => b
  | _ => []
noncomputable def runPage : List Stmt := match runB with
  | [_, _, _, _, .If _ _ [.If _ _ b _] _] => b
  | _ => []

structure RunI (N : List Int) (f : List Row) (sizes : List Int) (S B : List Ent) (last : Option Row) (turn : Nat) (σ : Vars) : Prop where
  numbers : σ "numbers" = some (.list (N.map .int))
  folder : σ "folder" = some (placeD f)
  sizes : σ "sizes" = some (.list (sizes.map .int))
  shelf : σ "shelf" = some (shelfD S)
  book : σ "book" = some (bookD B)
  last : σ "last" = some (lastD last)
  turn : σ "turn" = some (.int (turn : Int))
  here : σ "here" = some (.str (textS f))

noncomputable abbrev cR (n : Nat) : Cx := ⟨cN sortD (n + 4), gl, sortD⟩

theorem ex_tup2 {P : Vars → Prop} {cx : Cx} {mu : List Str} {sc : Scope} {σ : Vars} {x y : Str} {xp yp tp p : Pos} {k : Nat} {e : Expr} {a b : D} {rest : List Stmt} (hok : okTup e = true) (hno : newOwn [.Name x xp, .Name y yp] e mu = none) (hx : ∀ d σ, storeD sc x d ⟨σ, none⟩ = some ⟨updV σ x d, none⟩)
    (hy : ∀ d σ, storeD sc y d ⟨σ, none⟩ = some ⟨updV σ y d, none⟩) (hxy : x ≠ y) (h : evalE cx e sc σ = some (.tup [a, b])) (kk : ∀ σ', σ' x = some a → σ' y = some b → (∀ z, z ≠ x → z ≠ y → σ' z = σ z) → ∃ σ'', execB cx mu rest sc ⟨σ', none⟩ = some (.next ⟨σ'', none⟩) ∧ P σ'') :
    ∃ σ'', execB cx mu (.Assign [.Tuple [.Name x xp, .Name y yp] k tp] e p :: rest) sc ⟨σ, none⟩ = some (.next ⟨σ'', none⟩) ∧ P σ'' := by
  obtain ⟨σ', e1, h1, h2, h3⟩ := tup2 (mu := mu) (xp := xp) (yp := yp) (tp := tp) (p := p) (k := k) hok hno hx hy hxy h
  obtain ⟨σ'', e2, r⟩ := kk σ' h1 h2 h3
  exact ⟨σ'', (execB_next e1).trans e2, r⟩
theorem ex_set {P : Vars → Prop} {cx : Cx} {mu : List Str} {sc : Scope} {σ : Vars} {x : Str} {xp p : Pos} {e : Expr} {d : D} {rest : List Stmt} (hn : (isNil e && mu.contains x) = false) (h : evalE cx e sc σ = some d) (hs : storeD sc x d ⟨σ, none⟩ = some ⟨updV σ x d, none⟩)
    (kk : ∀ σ', σ' x = some d → (∀ z, z ≠ x → σ' z = σ z) → ∃ σ'', execB cx mu rest sc ⟨σ', none⟩ = some (.next ⟨σ'', none⟩) ∧ P σ'') : ∃ σ'', execB cx mu (.Assign [.Name x xp] e p :: rest) sc ⟨σ, none⟩ = some (.next ⟨σ'', none⟩) ∧ P σ'' := by
  obtain ⟨σ'', e2, r⟩ := kk _ (updV_eq ..) fun z hz => updV_ne hz
  exact ⟨σ'', (execB_next (ev_set hn h hs)).trans e2, r⟩
theorem ex_skip {P : Vars → Prop} {cx : Cx} {mu : List Str} {sc : Scope} {σ : Vars} {t : Expr} {bt : List Stmt} {p : Pos} {rest : List Stmt} (h : isT cx t (evalE cx t sc σ) sc σ = some false) (kk : ∃ σ'', execB cx mu rest sc ⟨σ, none⟩ = some (.next ⟨σ'', none⟩) ∧ P σ'') :
    ∃ σ'', execB cx mu (.If t bt [] p :: rest) sc ⟨σ, none⟩ = some (.next ⟨σ'', none⟩) ∧ P σ'' := by
  obtain ⟨σ'', e2, r⟩ := kk
  refine ⟨σ'', ?_, r⟩
  refine if_testR (tr_of h) ?_
  simp only [Bool.false_eq_true, if_false, eK_nil, eK_cons, Option.bind_some]
  exact e2

section
variable {n : Nat} {N : List Int} {f : List Row} {sizes : List Int} {S B : List Ent} {last : Option Row} {turn : Nat} {σ : Vars}

theorem run_put {p : List Row} {k : Int} (I : RunI N f sizes S B last turn σ) (hS : Shelf S) (hB : B.length ≤ 100) (hp : 1 ≤ p.length) (h1 : σ "path" = some (.str (textS p))) (h2 : σ "place" = some (placeD p)) (h3 : σ "k" = some (.int k)) :
    ∃ σ', execB (cR n) f_run.mu runPut f_run.scope ⟨σ, none⟩ = some (.next ⟨σ', none⟩) ∧ RunI N f sizes (put S p k) (B.filter (fun q => !decide (q.1 = p)) ++ [(p, k)]) last turn σ' := by
  have c1 : callD (cR n) (.glob 235) [shelfD S, .str (textS p), .int k] = some (shelfD (put S p k)) := c_put (k := n + 1) hS hp k
  refine ⟨updV (updV σ "shelf" (shelfD (put S p k))) "book" (bookD (B.filter (fun q => !decide (q.1 = p)) ++ [(p, k)])), ?_, ?_⟩
  · conv in runPut => whnf
    refine (execB_next (ev_set rfl (ev_call rfl rfl (ev_name (nameD_glo rfl rfl rfl)) (ea_cons rfl (ev_name ((nameD_loc rfl rfl).trans I.shelf)) (ea_cons rfl (ev_name ((nameD_loc rfl rfl).trans h1)) (ea_cons rfl (ev_name ((nameD_loc rfl rfl).trans h3)) ea_nil))) c1) (storeD_loc rfl rfl))).trans ?_
    have u1 : updV σ "shelf" (shelfD (put S p k)) "book" = some (bookD B) := (updV_ne (by decide)).trans I.book
    have u2 : updV σ "shelf" (shelfD (put S p k)) "place" = some (placeD p) := (updV_ne (by decide)).trans h2
    have u3 : updV σ "shelf" (shelfD (put S p k)) "k" = some (.int k) := (updV_ne (by decide)).trans h3
    generalize updV σ "shelf" (shelfD (put S p k)) = τ at u1 u2 u3
    have hl := List.length_filter_le (fun q : Ent => !decide (q.1 = p)) B
    have e1 : bookD (B.filter (fun q => !decide (q.1 = p)) ++ [(p, k)]) = .list ((B.filter (fun q => !decide (q.1 = p))).map bookE ++ [.tup [placeD p, .int k]]) := by
      unfold bookD; rw [List.map_append]; rfl
    rw [e1]
    refine (execB_next (ev_set rfl (ev_bin (lc_run rfl rfl (ev_name ((nameD_loc rfl rfl).trans u1)) (itemsD_list (by rw [List.length_map]; lia)) (compGo_filter (f := bookE) (g := bookE) (p := fun q => !decide (q.1 = p)) B fun q _ => ⟨?_, ev_name ((nameD_loc rfl rfl).trans compVars_self)⟩))
      (ev_list rfl (ea_cons rfl (ev_tup rfl (ea_cons rfl (ev_name ((nameD_cel rfl rfl).trans u2)) (ea_cons rfl (ev_name ((nameD_loc rfl rfl).trans u3)) ea_nil)) (by simp only [List.length_cons, List.length_nil]; (exact Nat.le_add_left ..))) ea_nil) (by simp only [List.length_cons, List.length_nil]; (exact Nat.succ_pos _)))
      (add_list (by simp only [List.length_map, List.length_cons, List.length_nil]; lia))) (storeD_loc rfl rfl))).trans (by simp only [eK_nil, eK_cons])
    simp only [eT_nil, eT_one]
    exact ist_cmp rfl (ev_sub rfl (ev_name ((nameD_loc rfl rfl).trans compVars_self)) (ev_con rfl) (show idxD (bookE q) (.int 0) = some (placeD q.1) from rfl)) (ev_name ((nameD_cel rfl rfl).trans ((compVars_cel (by decide) rfl).trans u2))) (ne_place q.1 p)
  · exact
      { numbers := (updV_ne (by decide)).trans ((updV_ne (by decide)).trans I.numbers)
        folder := (updV_ne (by decide)).trans ((updV_ne (by decide)).trans I.folder)
        sizes := (updV_ne (by decide)).trans ((updV_ne (by decide)).trans I.sizes)
        shelf := (updV_ne (by decide)).trans (updV_eq ..)
        book := updV_eq ..
        last := (updV_ne (by decide)).trans ((updV_ne (by decide)).trans I.last)
        turn := (updV_ne (by decide)).trans ((updV_ne (by decide)).trans I.turn)
        here := (updV_ne (by decide)).trans ((updV_ne (by decide)).trans I.here) }

theorem run_away {p : List Row} (I : RunI N f sizes S B last turn σ) (hS : Shelf S) (hP : S.Perm B) (hp : 1 ≤ p.length) (hp3 : p.length ≤ 3) (h1 : σ "path" = some (.str (textS p))) (h2 : σ "place" = some (placeD p)) :
    ∃ σ', execB (cR n) f_run.mu runAway f_run.scope ⟨σ, none⟩ = some (.next ⟨σ', none⟩) ∧ RunI N f sizes (away S p) (away B p) last turn σ' := by
  have hz := hS.size
  have hBl : B.length ≤ 40 := by rw [← hP.length_eq]; exact hz
  have c1 : callD (cR n) (.glob 221) [shelfD S, .str (textS p)] = some (.int (cnt (ltP p) S : Nat)) := c_spotP (k := n + 2) hS hp
  have c2 : callD (cR n) (.glob 228) [.str (textS p)] = some (.str (strOf (codes p ++ [48]))) := c_beyond (k := n + 1) hp3
  have c3 : callD (cR n) (.glob 221) [shelfD S, .str (strOf (codes p ++ [48]))] = some (.int (cnt (ltT (codes p ++ [48])) S : Nat)) := c_spot (k := n + 2) hS _
  obtain ⟨ta1, ta2⟩ := take_away (p := p) hS.sorted
  have hl1 := cnt_le (ltP p) S
  have hl2 := cnt_le (ltT (codes p ++ [48])) S
  generalize cnt (ltP p) S = low at *
  generalize cnt (ltT (codes p ++ [48])) S = high at *
  have hgl : (gone S p).length ≤ S.length := List.length_filter_le ..
  have hgp : (gone S p).Perm (gone B p) := hP.filter _
  have hgB : (gone B p).length ≤ B.length := List.length_filter_le ..
  have e1 : slD (shelfD S) (.int (low : Int)) (.int (high : Int)) = some (shelfD (gone S p)) := by
    rw [shelfD, sl_list (by rw [List.length_map]; lia) rfl rfl, pySl_mid (by rw [List.length_map]; omega) (by rw [List.length_map]; omega), ← List.map_drop, ← List.map_take, ta1]; rfl
  have e2 : slD (shelfD S) .none (.int (low : Int)) = some (.list ((S.take low).map entD)) := by
    rw [shelfD, sl_list (by rw [List.length_map]; lia) rfl rfl, pySl_take', ← List.map_take]
  have e3 : slD (shelfD S) (.int (high : Int)) .none = some (.list ((S.drop high).map entD)) := by
    rw [shelfD, sl_list (by rw [List.length_map]; lia) rfl rfl, pySl_drop (by rw [List.length_map]; omega), ← List.map_drop]
  have e4 : shelfD (away S p) = .list ((S.take low).map entD ++ (S.drop high).map entD) := by
    rw [← ta2, shelfD, List.map_append]
  have hsort : callD (cR n) (.bi "sorted") [.list ((gone B p).map bookE)] = some (.list ((gone S p).map bookE)) := by
    show (sortD ((gone B p).map bookE)).map D.list = _
    rw [sort_book hgp (hS.sorted.sublist (List.filter_sublist ..)) (by (exact Nat.le_trans ‹_› ‹_›))]; rfl
  have hlen : callD (cR n) (.bi "len") [placeD p] = some (.int (p.length : Int)) := by
    show lenD (placeD p) = _
    rw [placeD, len_list (by rw [List.length_map]; lia), List.length_map]
  have hfil : (B.filter fun q => !decide (q ∈ gone S p)) = away B p := by
    unfold away
    apply List.filter_congr
    intro q hq
    congr 1
    rw [Bool.eq_iff_iff, decide_eq_true_iff]
    unfold gone
    rw [List.mem_filter]
    exact ⟨fun h => h.2, fun h => ⟨hP.mem_iff.mpr hq, h⟩⟩
  conv in runAway => whnf
  refine ex_tup2 (a := .int (low : Int)) (b := .int (high : Int)) rfl rfl (fun d σ => storeD_loc rfl rfl) (fun d σ => storeD_loc rfl rfl) (by decide)
    (ev_tup rfl (ea_cons rfl (ev_call rfl rfl (ev_name (nameD_glo rfl rfl rfl)) (ea_cons rfl (ev_name ((nameD_loc rfl rfl).trans I.shelf)) (ea_cons rfl (ev_name ((nameD_loc rfl rfl).trans h1)) ea_nil)) c1)
      (ea_cons rfl (ev_call rfl rfl (ev_name (nameD_glo rfl rfl rfl)) (ea_cons rfl (ev_name ((nameD_loc rfl rfl).trans I.shelf)) (ea_cons rfl (ev_call rfl rfl (ev_name (nameD_glo rfl rfl rfl)) (ea_cons rfl (ev_name ((nameD_loc rfl rfl).trans h1)) ea_nil) c2) ea_nil)) c3) ea_nil)) (by simp only [List.length_cons, List.length_nil]; (exact Nat.le_add_left ..))) fun τ q1 q2 q3 => ?_
  have m1 : τ "shelf" = some (shelfD S) := (q3 _ (by decide) (by decide)).trans I.shelf
  have m2 : τ "book" = some (bookD B) := (q3 _ (by decide) (by decide)).trans I.book
  have m3 : τ "place" = some (placeD p) := (q3 _ (by decide) (by decide)).trans h2
  refine ex_set rfl (ev_call rfl rfl (ev_name (nameD_glo rfl rfl rfl)) (ea_cons rfl (lc_run rfl rfl (ev_name ((nameD_loc rfl rfl).trans m2)) (itemsD_list (by rw [List.length_map]; lia)) (compGo_filter (f := bookE) (g := bookE) (p := fun q => preP p q.1) B fun q hq => ⟨?_, ev_name ((nameD_loc rfl rfl).trans compVars_self)⟩)) ea_nil) hsort) (storeD_cel rfl rfl) fun ρ r1 r2 => ?_
  · simp only [eT_nil, eT_one]
    have hq3 : q.1.length ≤ 3 := (hS.len q (hP.mem_iff.mpr hq)).2
    refine ist_cmp rfl (ev_sli (ev_sub rfl (ev_name ((nameD_loc rfl rfl).trans compVars_self)) (ev_con rfl) (show idxD (bookE q) (.int 0) = some (placeD q.1) from rfl)) eo_none (eo_some (ev_call rfl rfl (ev_name (nameD_glo rfl rfl rfl)) (ea_cons rfl (ev_name ((nameD_cel rfl rfl).trans ((compVars_cel (by decide) rfl).trans m3))) ea_nil) hlen))
      (show slD (placeD q.1) .none (.int (p.length : Int)) = some (.list ((q.1.take p.length).map rowD)) by rw [placeD, sl_list (by rw [List.length_map]; lia) rfl rfl, pySl_take', ← List.map_take])) (ev_name ((nameD_cel rfl rfl).trans ((compVars_cel (by decide) rfl).trans m3))) (by rw [placeD, eq_place]; rfl)
  have u0 : ρ "gone" = some (.list ((gone S p).map bookE)) := r1
  have u1 : ρ "shelf" = some (shelfD S) := (r2 _ (by decide)).trans m1
  have u2 : ρ "book" = some (bookD B) := (r2 _ (by decide)).trans m2
  have u3 : ρ "low" = some (.int (low : Int)) := (r2 _ (by decide)).trans q1
  have u4 : ρ "high" = some (.int (high : Int)) := (r2 _ (by decide)).trans q2
  refine ex_skip (ist_cmp rfl (ev_sli (ev_name ((nameD_loc rfl rfl).trans u1)) (eo_some (ev_name ((nameD_loc rfl rfl).trans u3))) (eo_some (ev_name ((nameD_loc rfl rfl).trans u4))) e1)
    (lc_run rfl rfl (ev_name ((nameD_cel rfl rfl).trans u0)) (itemsD_list (by rw [List.length_map]; lia)) (compGo_map (f := bookE) (g := entD) (gone S p) fun q hq => ⟨by simp only [eT_nil, eT_one], ?_⟩)) (same_shelf _).1) ?_
  · have hq3 : q.1.length ≤ 3 := (hS.len q (List.mem_filter.mp hq).1).2
    exact ev_tup rfl (ea_cons rfl (ev_call rfl rfl (ev_name (nameD_glo rfl rfl rfl)) (ea_cons rfl (ev_sub rfl (ev_name ((nameD_loc rfl rfl).trans compVars_self)) (ev_con rfl) (show idxD (bookE q) (.int 0) = some (placeD q.1) from rfl)) ea_nil) (show callD (cR n) (.glob 190) [placeD q.1] = some (.str (textS q.1)) from c_text (k := n + 2) hq3))
      (ea_cons rfl (ev_sub rfl (ev_name ((nameD_loc rfl rfl).trans compVars_self)) (ev_con rfl) (show idxD (bookE q) (.int 1) = some (.int q.2) from rfl)) ea_nil)) (by simp only [List.length_cons, List.length_nil]; (exact Nat.le_add_left ..))
  refine ex_set rfl (ev_bin (ev_sli (ev_name ((nameD_loc rfl rfl).trans u1)) eo_none (eo_some (ev_name ((nameD_loc rfl rfl).trans u3))) e2) (ev_sli (ev_name ((nameD_loc rfl rfl).trans u1)) (eo_some (ev_name ((nameD_loc rfl rfl).trans u4))) eo_none e3) (add_list (by rw [List.length_map, List.length_map, List.length_take, List.length_drop]; lia))) (storeD_loc rfl rfl) fun π s1 s2 => ?_
  rw [← e4] at s1
  have v0 : π "gone" = some (.list ((gone S p).map bookE)) := (s2 _ (by decide)).trans u0
  have v2 : π "book" = some (bookD B) := (s2 _ (by decide)).trans u2
  refine ex_set rfl (lc_run rfl rfl (ev_name ((nameD_loc rfl rfl).trans v2)) (itemsD_list (by rw [List.length_map]; lia)) (compGo_filter (f := bookE) (g := bookE) (p := fun q => !decide (q ∈ gone S p)) B fun q hq => ⟨?_, ev_name ((nameD_loc rfl rfl).trans compVars_self)⟩)) (storeD_loc rfl rfl) fun χ t1 t2 => ?_
  · simp only [eT_nil, eT_one]
    exact ist_cmp rfl (ev_name ((nameD_loc rfl rfl).trans compVars_self)) (ev_name ((nameD_cel rfl rfl).trans ((compVars_cel (by decide) rfl).trans v0))) (notin_ent q _)
  rw [hfil] at t1
  refine ⟨χ, by simp only [eK_nil, eK_cons], ?_⟩
  have keep : ∀ z : Str, z ≠ "book" → z ≠ "shelf" → z ≠ "gone" → z ≠ "low" → z ≠ "high" → χ z = σ z := fun z a1 a2 a3 a4 a5 => (t2 z a1).trans ((s2 z a2).trans ((r2 z a3).trans (q3 z a4 a5)))
  exact
    { numbers := (keep _ (by decide) (by decide) (by decide) (by decide) (by decide)).trans I.numbers
      folder := (keep _ (by decide) (by decide) (by decide) (by decide) (by decide)).trans I.folder
      sizes := (keep _ (by decide) (by decide) (by decide) (by decide) (by decide)).trans I.sizes
      shelf := (t2 _ (by decide)).trans s1
      book := t1
      last := (keep _ (by decide) (by decide) (by decide) (by decide) (by decide)).trans I.last
      turn := (keep _ (by decide) (by decide) (by decide) (by decide) (by decide)).trans I.turn
      here := (keep _ (by decide) (by decide) (by decide) (by decide) (by decide)).trans I.here }
end
end Mine
end

/-! part Py -/
section
open PySem PySem.W PyProof.Rows PySem.Calls
set_option maxRecDepth 100000
set_option maxHeartbeats 4000000
set_option linter.unusedVariables false
set_option linter.unusedSimpArgs false
set_option tactic.hygienic false
namespace Mine

noncomputable def sizeAt (sizes : List Int) (turn : Nat) : Int := (sizes[turn]?).getD 9
noncomputable def lastOf (T : List Row) (last : Option Row) : Option Row := match T.getLast? with
  | some r => some r
  | none => last
theorem idx_last {T : List Row} {r : Row} (h : T.getLast? = some r) (hz : T.length ≤ 1000) : idxD (.list (T.map rowD)) (.int (-1)) = some (rowD r) := by
  have hne : T ≠ [] := by rintro rfl; simp at h
  have hpos := List.length_pos_iff.mpr hne
  show (if (T.map rowD).length ≤ lim then (pyIdx (-1) (T.map rowD).length).bind ((T.map rowD)[·]?) else none) = _
  rw [List.length_map, if_pos (by show _ ≤ 65536; lia)]
  unfold pyIdx
  rw [if_neg (by simp), if_pos (by lia)]
  have : (-1 + (T.length : Int)).toNat = T.length - 1 := by lia
  simp only [Option.bind_some, this]
  rw [List.getElem?_map, ← List.getLast?_eq_getElem?, h]; rfl

section
variable {n : Nat} {N : List Int} {f : List Row} {sizes : List Int} {S B : List Ent} {last : Option Row} {turn : Nat} {σ : Vars}

/-- a listing of a page, as the law compares it -/
theorem page_same (hS : Shelf S) (hP : S.Perm B) (hf : f.length ≤ 1) {sz : Nat} (hz : sz ≤ 150) : callD (cR n) (.glob 242) [shelfD S, .str (textS f), lastS last, .int (sz : Int)] = some (.list (namesD ((kids f last B).take sz))) ∧
    callD (cR n) (.glob 249) [bookD B, placeD f, lastD last, .int (sz : Int)] = some (.list (((kids f last B).take sz).map rowD)) := by
  have hz' := hS.size
  constructor
  · rw [← kids_perm hP]; exact c_page (k := n) hS hf hz
  · exact c_told (k := n + 3) (fun q hq => (hS.len q (hP.mem_iff.mpr hq)).2) (by rw [← hP.length_eq]; lia) (by lia)

theorem run_page (I : RunI N f sizes S B last turn σ) (hS : Shelf S) (hP : S.Perm B) (hf : f.length ≤ 1) (hsz : ∀ s ∈ sizes, 0 ≤ s ∧ s ≤ 100) (hsl : sizes.length ≤ 100) :
    ∃ σ', execB (cR n) f_run.mu runPage f_run.scope ⟨σ, none⟩ = some (.next ⟨σ', none⟩) ∧ RunI N f sizes S B (lastOf ((kids f last B).take (sizeAt sizes turn).toNat) last) (turn + 1) σ' := by
  have hs0 : 0 ≤ sizeAt sizes turn ∧ sizeAt sizes turn ≤ 100 := by
    unfold sizeAt
    induction h : sizes[turn]? using Option.casesOn with
    | none => exact ⟨by decide, by decide⟩
    | some s => exact hsz s (List.mem_of_getElem? h)
  obtain ⟨sz, hsz'⟩ : ∃ sz : Nat, sizeAt sizes turn = (sz : Int) := ⟨(sizeAt sizes turn).toNat, by lia⟩
  have hsz2 : sz ≤ 100 := by lia
  rw [hsz', Int.toNat_natCast]
  obtain ⟨pg, tl⟩ := page_same (n := n) (last := last) hS hP hf (sz := sz) (by lia)
  have hk4 : ((kids f last B).take sz).length ≤ 4 := by
    rw [List.length_take]
    have : (kids f last B).length ≤ 4 := List.length_filter_le _ rws
    (clear I hS hP hf hsz hsl hs0 hsz2 pg tl; lia)
  generalize (kids f last B).take sz = T at *
  have hlen : callD (cR n) (.bi "len") [.list (sizes.map .int)] = some (.int (sizes.length : Int)) := by
    show lenD (.list (sizes.map .int)) = _
    rw [len_list (by rw [List.length_map]; lia), List.length_map]
  conv in runPage => whnf
  refine ex_set (d := .int (sz : Int)) rfl (ev_ifx (c := decide (turn < sizes.length)) (ist_cmp rfl (ev_name ((nameD_loc rfl rfl).trans I.turn)) (ev_call rfl rfl (ev_name (nameD_glo rfl rfl rfl)) (ea_cons rfl (ev_name ((nameD_loc rfl rfl).trans I.sizes)) ea_nil) hlen) (by rw [lt_int]; congr 1; exact decide_eq_decide.mpr (by simp))) ?_) (storeD_loc rfl rfl) fun τ q1 q2 => ?_
  · by_cases hc : turn < sizes.length
    · rw [decide_eq_true hc, if_pos rfl]
      refine ev_sub rfl (ev_name ((nameD_loc rfl rfl).trans I.sizes)) (ev_name ((nameD_loc rfl rfl).trans I.turn)) (idx_nat (by rw [List.length_map]; lia) ?_)
      have hg := List.getElem?_eq_getElem hc
      unfold sizeAt at hsz'
      rw [hg] at hsz'
      have hsz' : sizes[turn] = (sz : Int) := hsz'
      rw [List.getElem?_map, hg, hsz']; rfl
    · rw [decide_eq_false hc, if_neg Bool.false_ne_true]
      unfold sizeAt at hsz'
      rw [List.getElem?_eq_none (by (exact Nat.not_lt.mp ‹_›))] at hsz'
      have hsz' : (9 : Int) = (sz : Int) := hsz'
      rw [← hsz']
      exact ev_con rfl
  have m1 : τ "book" = some (bookD B) := (q2 _ (by decide)).trans I.book
  have m2 : τ "folder" = some (placeD f) := (q2 _ (by decide)).trans I.folder
  have m3 : τ "last" = some (lastD last) := (q2 _ (by decide)).trans I.last
  have m4 : τ "shelf" = some (shelfD S) := (q2 _ (by decide)).trans I.shelf
  have m5 : τ "here" = some (.str (textS f)) := (q2 _ (by decide)).trans I.here
  have m6 : τ "turn" = some (.int (turn : Int)) := (q2 _ (by decide)).trans I.turn
  refine ex_set rfl (ev_call rfl rfl (ev_name (nameD_glo rfl rfl rfl)) (ea_cons rfl (ev_name ((nameD_loc rfl rfl).trans m1)) (ea_cons rfl (ev_name ((nameD_loc rfl rfl).trans m2)) (ea_cons rfl (ev_name ((nameD_loc rfl rfl).trans m3)) (ea_cons rfl (ev_name ((nameD_loc rfl rfl).trans q1)) ea_nil)))) tl) (storeD_loc rfl rfl) fun ρ r1 r2 => ?_
  have u1 : ρ "last" = some (lastD last) := (r2 _ (by decide)).trans m3
  have u2 : ρ "shelf" = some (shelfD S) := (r2 _ (by decide)).trans m4
  have u3 : ρ "here" = some (.str (textS f)) := (r2 _ (by decide)).trans m5
  have u4 : ρ "size" = some (.int (sz : Int)) := (r2 _ (by decide)).trans q1
  have u5 : ρ "turn" = some (.int (turn : Int)) := (r2 _ (by decide)).trans m6
  refine ex_skip (ist_cmp rfl (ev_call rfl rfl (ev_name (nameD_glo rfl rfl rfl)) (ea_cons rfl (ev_name ((nameD_loc rfl rfl).trans u2)) (ea_cons rfl (ev_name ((nameD_loc rfl rfl).trans u3)) (ea_cons rfl ?_ (ea_cons rfl (ev_name ((nameD_loc rfl rfl).trans u4)) ea_nil)))) pg)
    (lc_run rfl rfl (ev_name ((nameD_loc rfl rfl).trans r1)) (itemsD_list (by rw [List.length_map]; lia)) (compGo_map (f := rowD) (g := fun r => .str (hexS r)) T fun r hr => ⟨by simp only [eT_nil, eT_one], ev_call rfl rfl (ev_name (nameD_glo rfl rfl rfl)) (ea_cons rfl (ev_name ((nameD_loc rfl rfl).trans compVars_self)) ea_nil) (show callD (cR n) (.glob 185) [rowD r] = some (.str (hexS r)) from c_hex sortD (n + 3) r)⟩)) (same_names T)) ?_
  · cases last with
    | none =>
      refine ev_ifx (c := true) (ist_cmp rfl (ev_name ((nameD_loc rfl rfl).trans u1)) (ev_con rfl) rfl) ?_
      rw [if_pos rfl]
      exact ev_con rfl
    | some l =>
      refine ev_ifx (c := false) (ist_cmp rfl (ev_name ((nameD_loc rfl rfl).trans u1)) (ev_con rfl) rfl) ?_
      rw [if_neg Bool.false_ne_true]
      exact ev_call rfl rfl (ev_name (nameD_glo rfl rfl rfl)) (ea_cons rfl (ev_name ((nameD_loc rfl rfl).trans u1)) ea_nil) (show callD (cR n) (.glob 185) [rowD l] = some (.str (hexS l)) from c_hex sortD (n + 3) l)
  have hT : truD (.list (T.map rowD)) = some (!(T.map rowD).isEmpty) := by
    show (if (T.map rowD).length ≤ lim then some (!(T.map rowD).isEmpty) else none) = _
    rw [if_pos (by rw [List.length_map]; show _ ≤ 65536; lia)]
  refine ex_tup2 (a := lastD (lastOf T last)) (b := .int ((turn + 1 : Nat) : Int)) rfl rfl (fun d σ => storeD_loc rfl rfl) (fun d σ => storeD_loc rfl rfl) (by decide)
    (ev_tup rfl (ea_cons rfl ?_ (ea_cons rfl (ev_bin (ev_name ((nameD_loc rfl rfl).trans u5)) (ev_con rfl) rfl) ea_nil)) (by simp only [List.length_cons, List.length_nil]; lia)) fun χ t1 t2 t3 => ?_
  · induction hl : T.getLast? using Option.casesOn with
    | none =>
      have : T = [] := by simpa using hl
      subst this
      refine ev_ifx (c := false) (ist_name ((nameD_loc rfl rfl).trans r1) hT) ?_
      rw [if_neg Bool.false_ne_true]
      exact ev_name ((nameD_loc rfl rfl).trans u1)
    | some r =>
      have hne : (T.map rowD).isEmpty = false := by
        induction T using List.casesOn with
        | nil => simp at hl
        | cons a b => rfl
      rw [hne] at hT
      refine ev_ifx (c := true) (ist_name ((nameD_loc rfl rfl).trans r1) hT) ?_
      rw [if_pos rfl]
      have hlo : lastOf T last = some r := by unfold lastOf; rw [hl]
      rw [hlo]
      exact ev_sub rfl (ev_name ((nameD_loc rfl rfl).trans r1)) (by simp only [eE_Constant, eE_Name, eE_BoolOp, eE_BinOp, eE_UnaryOp, eE_IfExp, eE_Compare, eE_meth0, eE_meth1, eE_call, eE_slice, eE_subN, eE_subC, eE_subU, eE_subB, eE_subS, eE_List, eE_Tuple, eE_ListComp, constD_none, constD_bool, constD_int, constD_str, Option.bind_some, unD_not, unD_neg]) (idx_last hl (by lia))
  refine ⟨χ, by simp only [eK_nil, eK_cons], ?_⟩
  have keep : ∀ z : Str, z ≠ "last" → z ≠ "turn" → z ≠ "told" → z ≠ "size" → χ z = σ z := fun z a1 a2 a3 a4 => (t3 z a1 a2).trans ((r2 z a3).trans (q2 z a4))
  exact
    { numbers := (keep _ (by decide) (by decide) (by decide) (by decide)).trans I.numbers
      folder := (keep _ (by decide) (by decide) (by decide) (by decide)).trans I.folder
      sizes := (keep _ (by decide) (by decide) (by decide) (by decide)).trans I.sizes
      shelf := (keep _ (by decide) (by decide) (by decide) (by decide)).trans I.shelf
      book := (keep _ (by decide) (by decide) (by decide) (by decide)).trans I.book
      last := t1
      turn := t2
      here := (keep _ (by decide) (by decide) (by decide) (by decide)).trans I.here }
end
end Mine
end

/-! part Pz -/
section
open PySem PySem.W PyProof.Rows PySem.Calls
set_option maxRecDepth 100000
set_option maxHeartbeats 4000000
set_option linter.unusedVariables false
set_option linter.unusedSimpArgs false
set_option tactic.hygienic false
namespace Mine

theorem ex_if {P : Vars → Prop} {cx : Cx} {mu : List Str} {sc : Scope} {σ : Vars} {t : Expr} {bt bo : List Stmt} {p : Pos} {c : Bool} (h : isT cx t (evalE cx t sc σ) sc σ = some c) (kk : ∃ σ'', execB cx mu (if c then bt else bo) sc ⟨σ, none⟩ = some (.next ⟨σ'', none⟩) ∧ P σ'') :
    ∃ σ'', execB cx mu [.If t bt bo p] sc ⟨σ, none⟩ = some (.next ⟨σ'', none⟩) ∧ P σ'' := by
  obtain ⟨σ'', e2, r⟩ := kk
  refine ⟨σ'', ?_, r⟩
  refine if_testR (tr_of h) ?_
  rw [e2]
  simp only [Option.bind_some, eK_nil, eK_cons]
theorem range_ok (cx : Cx) {m : Nat} (h : m ≤ 1000) : callD cx (.typ "range") [.int (m : Int)] = some (.rng m) := by
  show (if 0 ≤ (m : Int) ∧ (m : Int) ≤ lim then some (D.rng (m : Int).toNat) else none) = _
  rw [if_pos ⟨by (exact Int.ofNat_nonneg _), by show _ ≤ (65536 : Int); lia⟩]; rfl
theorem rowAt_val {i : Int} (h0 : 0 ≤ i) (h4 : i < 4) : ((rowAt i).val : Int) = i := by
  have : i = 0 ∨ i = 1 ∨ i = 2 ∨ i = 3 := by lia
  rcases this with rfl | rfl | rfl | rfl <;> rfl

section
variable {n : Nat} {N : List Int} {f : List Row} {sizes : List Int} {S B : List Ent} {last : Option Row} {turn : Nat} {σ : Vars}

theorem run_step (I : RunI N f sizes S B last turn σ) (hS : Shelf S) (hP : S.Perm B) (hf : f.length ≤ 1) (hsz : ∀ s ∈ sizes, 0 ≤ s ∧ s ≤ 100) (hsl : sizes.length ≤ 100) {k : Nat} (hk : k ≤ N.length) (hN : N.length ≤ 30) (hSz : S.length + 1 ≤ 40) (h3 : σ "k" = some (.int (k : Int))) :
    ∃ σ', execB (cR n) f_run.mu runB f_run.scope ⟨σ, none⟩ = some (.next ⟨σ', none⟩) ∧ ∃ S' B' last' turn', RunI N f sizes S' B' last' turn' σ' ∧ Shelf S' ∧ S'.Perm B' ∧ S'.length ≤ S.length + 1 := by
  have hlen : callD (cR n) (.bi "len") [.list (N.map .int)] = some (.int (N.length : Int)) := by
    show lenD (.list (N.map .int)) = _
    rw [len_list (by rw [List.length_map]; lia), List.length_map]
  obtain ⟨a, v, hav, hav'⟩ : ∃ a v : Int, (∀ h : k < N.length, a = N[k].fmod 4 ∧ v = N[k].fdiv 4) ∧ (¬ k < N.length → a = 3 ∧ v = 0) := by
    by_cases h : k < N.length
    · exact ⟨N[k].fmod 4, N[k].fdiv 4, fun _ => ⟨rfl, rfl⟩, fun h' => absurd h h'⟩
    · exact ⟨3, 0, fun h' => absurd h' h, fun _ => ⟨rfl, rfl⟩⟩
  conv in runB => whnf
  refine ex_tup2 (a := .int a) (b := .int v) rfl rfl (fun d σ => storeD_loc rfl rfl) (fun d σ => storeD_loc rfl rfl) (by decide)
    (ev_ifx (c := decide (k < N.length)) (ist_cmp rfl (ev_name ((nameD_loc rfl rfl).trans h3)) (ev_call rfl rfl (ev_name (nameD_glo rfl rfl rfl)) (ea_cons rfl (ev_name ((nameD_loc rfl rfl).trans I.numbers)) ea_nil) hlen) (by rw [lt_int]; congr 1; exact decide_eq_decide.mpr (by simp))) ?_) fun τ q1 q2 q3 => ?_
  · by_cases hc : k < N.length
    · rw [decide_eq_true hc, if_pos rfl]
      obtain ⟨rfl, rfl⟩ := hav hc
      have hidx : idxD (.list (N.map .int)) (.int (k : Int)) = some (.int N[k]) := idx_nat (by rw [List.length_map]; lia) (by rw [List.getElem?_map, List.getElem?_eq_getElem hc]; rfl)
      exact ev_tup rfl (ea_cons rfl (ev_bin (ev_sub rfl (ev_name ((nameD_loc rfl rfl).trans I.numbers)) (ev_name ((nameD_loc rfl rfl).trans h3)) hidx) (ev_con rfl) rfl) (ea_cons rfl (ev_bin (ev_sub rfl (ev_name ((nameD_loc rfl rfl).trans I.numbers)) (ev_name ((nameD_loc rfl rfl).trans h3)) hidx) (ev_con rfl) rfl) ea_nil)) (by simp only [List.length_cons, List.length_nil]; (exact Nat.le_add_left ..))
    · rw [decide_eq_false hc, if_neg Bool.false_ne_true]
      obtain ⟨rfl, rfl⟩ := hav' hc
      exact ev_tup rfl (ea_cons rfl (ev_con rfl) (ea_cons rfl (ev_con rfl) ea_nil)) (by simp only [List.length_cons, List.length_nil]; (exact Nat.le_add_left ..))
  obtain ⟨hp1, hp3⟩ := placeOf_len v
  have c1 : callD (cR n) (.glob 200) [.int v] = some (placeD (placeOf v)) := c_place (k := n + 3) v
  generalize placeOf v = p at *
  refine ex_set rfl (ev_call rfl rfl (ev_name (nameD_glo rfl rfl rfl)) (ea_cons rfl (ev_name ((nameD_loc rfl rfl).trans q2)) ea_nil) c1) (storeD_cel rfl rfl) fun ρ r1 r2 => ?_
  have u1 : ρ "v" = some (.int v) := (r2 _ (by decide)).trans q2
  have g0 := Int.fmod_nonneg_of_pos (v.fdiv 192) (show (0 : Int) < 4 by decide)
  have g4 := Int.fmod_lt_of_pos (v.fdiv 192) (show (0 : Int) < 4 by decide)
  have c2 : callD (cR n) (.glob 195) [placeD p, .int ((v.fdiv 192).fmod 4)] = some (.str (textS p)) := by
    rw [← rowAt_val g0 g4]
    exact c_path (k := n) hp3 (rowAt ((v.fdiv 192).fmod 4))
  refine ex_set rfl (ev_call rfl rfl (ev_name (nameD_glo rfl rfl rfl)) (ea_cons rfl (ev_name ((nameD_cel rfl rfl).trans r1)) (ea_cons rfl (ev_bin (ev_bin (ev_name ((nameD_loc rfl rfl).trans u1)) (ev_con rfl) rfl) (ev_con rfl) rfl) ea_nil)) c2) (storeD_loc rfl rfl) fun χ t1 t2 => ?_
  have w1 : χ "place" = some (placeD p) := (t2 _ (by decide)).trans r1
  have w2 : χ "act" = some (.int a) := (t2 _ (by decide)).trans ((r2 _ (by decide)).trans q1)
  have keep : ∀ z : Str, z ≠ "path" → z ≠ "place" → z ≠ "act" → z ≠ "v" → χ z = σ z := fun z a1 a2 a3 a4 => (t2 z a1).trans ((r2 z a2).trans (q3 z a3 a4))
  have w3 : χ "k" = some (.int (k : Int)) := (keep _ (by decide) (by decide) (by decide) (by decide)).trans h3
  have IX : RunI N f sizes S B last turn χ :=
    { numbers := (keep _ (by decide) (by decide) (by decide) (by decide)).trans I.numbers
      folder := (keep _ (by decide) (by decide) (by decide) (by decide)).trans I.folder
      sizes := (keep _ (by decide) (by decide) (by decide) (by decide)).trans I.sizes
      shelf := (keep _ (by decide) (by decide) (by decide) (by decide)).trans I.shelf
      book := (keep _ (by decide) (by decide) (by decide) (by decide)).trans I.book
      last := (keep _ (by decide) (by decide) (by decide) (by decide)).trans I.last
      turn := (keep _ (by decide) (by decide) (by decide) (by decide)).trans I.turn
      here := (keep _ (by decide) (by decide) (by decide) (by decide)).trans I.here }
  refine ex_skip (ist_cmp rfl (ev_name ((nameD_loc rfl rfl).trans t1)) (ev_call rfl rfl (ev_name (nameD_glo rfl rfl rfl)) (ea_cons rfl (ev_name ((nameD_cel rfl rfl).trans w1)) ea_nil) (show callD (cR n) (.glob 190) [placeD p] = some (.str (textS p)) from c_text (k := n + 2) hp3)) (same_str (ok_text p 8)).1) ?_
  refine ex_if (c := decide (a < 2)) (ist_cmp rfl (ev_name ((nameD_loc rfl rfl).trans w2)) (ev_con rfl) (lt_int _ _)) ?_
  have hBl : B.length ≤ 100 := by rw [← hP.length_eq]; lia
  by_cases ha : a < 2
  · rw [decide_eq_true ha, if_pos rfl]
    obtain ⟨σ', e, I'⟩ := run_put (n := n) (k := (k : Int)) IX hS hBl hp1 t1 w1 w3
    exact ⟨σ', e, _, _, _, _, I', put_shelf hS hSz hp1 hp3, put_perm hP, put_len⟩
  · rw [decide_eq_false ha, if_neg Bool.false_ne_true]
    refine ex_if (c := (a == 2)) (ist_cmp rfl (ev_name ((nameD_loc rfl rfl).trans w2)) (ev_con rfl) (eq_int _ _)) ?_
    by_cases ha2 : a = 2
    · rw [beq_iff_eq.mpr ha2, if_pos rfl]
      obtain ⟨σ', e, I'⟩ := run_away (n := n) IX hS hP hp1 hp3 t1 w1
      exact ⟨σ', e, _, _, _, _, I', away_shelf hS, hP.filter _, Nat.le_succ_of_le (List.length_filter_le ..)⟩
    · rw [beq_eq_false_iff_ne.mpr ha2, if_neg Bool.false_ne_true]
      obtain ⟨σ', e, I'⟩ := run_page (n := n) IX hS hP hf hsz hsl
      exact ⟨σ', e, _, _, _, _, I', hS, hP, Nat.le_succ _⟩

theorem run_loop (hf : f.length ≤ 1) (hsz : ∀ s ∈ sizes, 0 ≤ s ∧ s ≤ 100) (hsl : sizes.length ≤ 100) (hN : N.length ≤ 30) {g : D → Sto → Option Sto} (hg : ∀ d σ, g d ⟨σ, none⟩ = some ⟨updV σ "k" d, none⟩) :
    ∀ (ks : List Nat) (S B : List Ent) (last : Option Row) (turn : Nat) (σ : Vars), RunI N f sizes S B last turn σ → Shelf S → S.Perm B → S.length + ks.length ≤ 40 → (∀ k ∈ ks, k ≤ N.length) →
      ∃ σ', forGo (fun st => execB (cR n) f_run.mu runB f_run.scope st) g (ks.map fun (k : Nat) => D.int (k : Int)) ⟨σ, none⟩ = some (.next ⟨σ', none⟩) ∧ ∃ S' B' last' turn', RunI N f sizes S' B' last' turn' σ' ∧ Shelf S' ∧ S'.Perm B'
  | [], S, B, last, turn, σ, I, hS, hP, _, _ => ⟨σ, rfl, S, B, last, turn, I, hS, hP⟩
  | k :: ks, S, B, last, turn, σ, I, hS, hP, hz, hk => by
    rw [List.length_cons] at hz
    have I1 : RunI N f sizes S B last turn (updV σ "k" (.int (k : Int))) :=
      { numbers := (updV_ne (by decide)).trans I.numbers
        folder := (updV_ne (by decide)).trans I.folder
        sizes := (updV_ne (by decide)).trans I.sizes
        shelf := (updV_ne (by decide)).trans I.shelf
        book := (updV_ne (by decide)).trans I.book
        last := (updV_ne (by decide)).trans I.last
        turn := (updV_ne (by decide)).trans I.turn
        here := (updV_ne (by decide)).trans I.here }
    obtain ⟨σ1, e1, S1, B1, l1, t1, I1, hS1, hP1, hz1⟩ := run_step (n := n) I1 hS hP hf hsz hsl (hk k List.mem_cons_self) hN (by lia) (updV_eq ..)
    obtain ⟨σ2, e2, r⟩ := run_loop hf hsz hsl hN hg ks S1 B1 l1 t1 σ1 I1 hS1 hP1 (by lia) fun j hj => hk j (List.mem_cons_of_mem _ hj)
    refine ⟨σ2, ?_, r⟩
    rw [List.map_cons]
    unfold forGo
    rw [hg]
    simp only [Option.bind_some]
    rw [e1]
    exact e2

theorem r_run (hf : f.length ≤ 1) (hsz : ∀ s ∈ sizes, 0 ≤ s ∧ s ≤ 100) (hsl : sizes.length ≤ 100) (hN : N.length ≤ 30) : runF (cR n) f_run [.list (N.map .int), placeD f, .list (sizes.map .int)] = some (.bool true) := by
  unfold runF
  rw [show f_run.bind [.list (N.map .int), placeD f, .list (sizes.map .int)] = some [(("numbers" : Str), .list (N.map .int)), ("folder", placeD f), ("sizes", .list (sizes.map .int))] from rfl]
  simp only [Option.bind_some]
  obtain ⟨σ, hσ⟩ : ∃ σ : Vars, σ = fun y => [(("numbers" : Str), D.list (N.map .int)), ("folder", placeD f), ("sizes", .list (sizes.map .int))].lookup y := ⟨_, rfl⟩
  have l1 : σ "numbers" = some (.list (N.map .int)) := by rw [hσ]; rfl
  have l2 : σ "folder" = some (placeD f) := by rw [hσ]; rfl
  have l3 : σ "sizes" = some (.list (sizes.map .int)) := by rw [hσ]; rfl
  rw [← hσ]
  have c1 : callD (cR n) (.glob 195) [placeD f, .int 0] = some (.str (textS f)) := c_path (k := n) (by lia) 0
  have hlen : callD (cR n) (.bi "len") [.list (N.map .int)] = some (.int (N.length : Int)) := by
    show lenD (.list (N.map .int)) = _
    rw [len_list (by rw [List.length_map]; lia), List.length_map]
  have hr : callD (cR n) (.typ "range") [.int ((N.length : Int) + 1)] = some (.rng (N.length + 1)) := by
    have h := range_ok (cR n) (m := N.length + 1) (by lia)
    rw [show ((N.length + 1 : Nat) : Int) = (N.length : Int) + 1 by omega] at h
    exact h
  have hfin : execB (cR n) f_run.mu f_run.body f_run.scope ⟨σ, none⟩ = some (.ret (.bool true)) := by
    conv in f_run.body => whnf
    have s1 : ∀ d σ, storeD f_run.scope "shelf" d ⟨σ, none⟩ = some ⟨updV σ "shelf" d, none⟩ := fun d σ => storeD_loc rfl rfl
    have s2 : ∀ d σ, storeD f_run.scope "book" d ⟨σ, none⟩ = some ⟨updV σ "book" d, none⟩ := fun d σ => storeD_loc rfl rfl
    have s3 : ∀ d σ, storeD f_run.scope "last" d ⟨σ, none⟩ = some ⟨updV σ "last" d, none⟩ := fun d σ => storeD_loc rfl rfl
    have s4 : ∀ d σ, storeD f_run.scope "turn" d ⟨σ, none⟩ = some ⟨updV σ "turn" d, none⟩ := fun d σ => storeD_loc rfl rfl
    have s5 : ∀ d σ, storeD f_run.scope "here" d ⟨σ, none⟩ = some ⟨updV σ "here" d, none⟩ := fun d σ => storeD_loc rfl rfl
    have n1 : nameD (cR n) "folder" f_run.scope σ = some (placeD f) := (nameD_loc rfl rfl).trans l2
    have g1 : nameD (cR n) "_law_path" f_run.scope σ = some (.glob 195) := nameD_glo rfl rfl rfl
    have hsw : ∀ {ts : List Expr} {e : Expr}, (ts.length = 5) → swapE ts e f_run.scope = false := by
      intro ts e h
      unfold swapE
      induction tupV e using Option.casesOn with
      | none => rfl
      | some vs => show swapQ ts vs f_run.scope = false; unfold swapQ; simp [h]
    refine (execB_next (st' := ⟨updV (updV (updV (updV (updV σ "shelf" (.list [])) "book" (.list [])) "last" .none) "turn" (.int 0)) "here" (.str (textS f)), none⟩) ?_).trans ?_
    · refine eS_AssignT.trans (assign_plain (st' := ⟨σ, none⟩) (ds := [.list [], .list [], .none, .int 0, .str (textS f)]) rfl rfl rfl ?_ rfl (hsw rfl) ?_)
      · simp only [Option.bind_some, Option.map_some, Option.bind_none, Bool.false_eq_true, if_false, if_true, Bool.false_and, Bool.and_false, Bool.true_and, Bool.and_true, Bool.false_or, Bool.or_false, Bool.not_false, Bool.not_true, List.any_cons, List.any_nil, List.length_cons, List.length_nil, beq_self_eq_true, reduceCtorEq, Nat.reduceAdd, Nat.reduceLT, Nat.reduceLeDiff, Nat.reduceBEq, decide_false, decide_true, lim, truD, bop1, bop2, eK_nil, eK_cons, eS_Expr, eS_Pass, eS_Break, eS_Continue, eS_Return, eS_ReturnN, eS_Assign, eS_AssignT, eS_Aug, eS_If, eS_While, eS_For, eS_Try, evalR, testR, eE_Constant, eE_Name, eE_BoolOp, eE_BinOp, eE_UnaryOp, eE_IfExp, eE_Compare, eE_meth0, eE_meth1, eE_call, eE_slice, eE_subN, eE_subC, eE_subU, eE_subB, eE_subS, eE_List, eE_Tuple, eE_ListComp, eA_nil, eA_star, eA_Name, eA_Constant, eA_BinOp, eA_UnaryOp, eA_Call, eA_Subscript, eA_List, eA_Tuple, eA_ListComp, eA_IfExp, eO_none, eO_some, eT_nil, eT_one, eB_one, eB_more, iT_not, iT_bool, iT_if, iT_cmp, iT_Name, iT_Call, iT_Subscript, iT_BinOp, iT_Constant, aB_nil, aB_cons, assignName, constD_none, constD_bool, constD_int, constD_str, unD_not, unD_neg, badArgs_nil, badArgs_one, badArgs_two, badArgs_three, badArgs_four, isStar_Name, isStar_Constant, isStar_BinOp, isStar_UnaryOp, isStar_Call, isStar_Subscript, isStar_Tuple, isStar_ListComp, isStar_IfExp, isStar_Compare, isStar_BoolOp, isStar_List, isStar_Starred, isSet_Name, isSet_Constant, isSet_BinOp, isSet_UnaryOp, isSet_Call, isSet_Subscript, isSet_Tuple, isSet_ListComp, isSet_IfExp, isSet_Compare, isSet_BoolOp, isSet_List, behind_Name, behind_Constant, behind_BinOp, behind_UnaryOp, behind_Call, behind_Subscript, behind_Tuple, behind_ListComp, behind_IfExp, behind_Compare, behind_BoolOp, behind_List, isNil_Name, isNil_Constant, isNil_BinOp, isNil_UnaryOp, isNil_Call, isNil_Subscript, isNil_Tuple, isNil_ListComp, isNil_IfExp, isNil_Compare, isNil_BoolOp, isNil_nil, isNil_cons, bareCall_Name, bareCall_Constant, bareCall_BinOp, bareCall_UnaryOp, bareCall_Call1, bareCall_Subscript, bareCall_Tuple, bareCall_ListComp, bareCall_IfExp, bareCall_Compare, bareCall_BoolOp, bareCall_List, usedQ_Name, usedQ_Constant, usedQ_BinOp, usedQ_UnaryOp, usedQ_Call, usedQ_Subscript, usedQ_Tuple, usedQ_ListComp, usedQ_IfExp, usedQ_Compare, usedQ_BoolOp, usedQ_List, n1, g1, c1]
      · simp only [List.map_cons, List.map_nil, storeL_cons, storeL_nil, Option.bind_some, s1, s2, s3, s4, s5]
    have I0 : RunI N f sizes [] [] none 0 (updV (updV (updV (updV (updV σ "shelf" (.list [])) "book" (.list [])) "last" .none) "turn" (.int 0)) "here" (.str (textS f))) :=
      { numbers := (updV_ne (by decide)).trans ((updV_ne (by decide)).trans ((updV_ne (by decide)).trans ((updV_ne (by decide)).trans ((updV_ne (by decide)).trans l1))))
        folder := (updV_ne (by decide)).trans ((updV_ne (by decide)).trans ((updV_ne (by decide)).trans ((updV_ne (by decide)).trans ((updV_ne (by decide)).trans l2))))
        sizes := (updV_ne (by decide)).trans ((updV_ne (by decide)).trans ((updV_ne (by decide)).trans ((updV_ne (by decide)).trans ((updV_ne (by decide)).trans l3))))
        shelf := (updV_ne (by decide)).trans ((updV_ne (by decide)).trans ((updV_ne (by decide)).trans ((updV_ne (by decide)).trans (updV_eq ..))))
        book := (updV_ne (by decide)).trans ((updV_ne (by decide)).trans ((updV_ne (by decide)).trans (updV_eq ..)))
        last := (updV_ne (by decide)).trans ((updV_ne (by decide)).trans (updV_eq ..))
        turn := (updV_ne (by decide)).trans (updV_eq ..)
        here := updV_eq .. }
    generalize updV (updV (updV (updV (updV σ "shelf" (.list [])) "book" (.list [])) "last" .none) "turn" (.int 0)) "here" (.str (textS f)) = τ at I0
    obtain ⟨σ', el, S, B, last, turn, I, hS, hP⟩ := run_loop (n := n) hf hsz hsl hN (g := storeT f_run.scope (.Name "k" _)) (fun d σ => storeT_loc rfl) (List.range (N.length + 1)) [] [] none 0 τ I0 ⟨List.Pairwise.nil, Nat.zero_le _, fun q hq => by cases hq⟩ (List.Perm.refl _) (by rw [List.length_range]; simp; omega) (fun k hk => by have := List.mem_range.mp hk; omega)
    refine (execB_next (for_run rfl (evR (ev_call rfl rfl (ev_name (nameD_glo rfl rfl rfl)) (ea_cons rfl (ev_bin (ev_call rfl rfl (ev_name (nameD_glo rfl rfl rfl)) (ea_cons rfl (ev_name ((nameD_loc rfl rfl).trans I0.numbers)) ea_nil) hlen) (ev_con rfl) rfl) ea_nil) hr)) (itemsD_rng (by omega)) el)).trans ?_
    obtain ⟨pg, tl⟩ := page_same (n := n) (last := none) hS hP hf (sz := 99) (by decide)
    have hk4 : ((kids f none B).take 99).length ≤ 4 := by
      rw [List.length_take]
      have : (kids f none B).length ≤ 4 := List.length_filter_le _ rws
      omega
    generalize (kids f none B).take 99 = T at *
    refine if_testR (c := false) (tr_of (ist_cmp rfl (ev_call rfl rfl (ev_name (nameD_glo rfl rfl rfl)) (ea_cons rfl (ev_name ((nameD_loc rfl rfl).trans I.shelf)) (ea_cons rfl (ev_name ((nameD_loc rfl rfl).trans I.here)) (ea_cons rfl (ev_con rfl) (ea_cons rfl (ev_con rfl) ea_nil)))) pg)
      (lc_run rfl rfl (ev_call rfl rfl (ev_name (nameD_glo rfl rfl rfl)) (ea_cons rfl (ev_name ((nameD_loc rfl rfl).trans I.book)) (ea_cons rfl (ev_name ((nameD_loc rfl rfl).trans I.folder)) (ea_cons rfl (ev_con rfl) (ea_cons rfl (ev_con rfl) ea_nil)))) tl) (itemsD_list (by rw [List.length_map]; omega))
        (compGo_map (f := rowD) (g := fun r => .str (hexS r)) T fun r hr => ⟨by simp only [eT_nil, eT_one], ev_call rfl rfl (ev_name (nameD_glo rfl rfl rfl)) (ea_cons rfl (ev_name ((nameD_loc rfl rfl).trans compVars_self)) ea_nil) (show callD (cR n) (.glob 185) [rowD r] = some (.str (hexS r)) from c_hex sortD (n + 3) r)⟩)) (same_names T))) ?_
    simp only [Bool.false_eq_true, if_false, eK_nil, Option.bind_some]
    have hz := hS.size
    have hsort : callD (cR n) (.bi "sorted") [bookD B] = some (.list (S.map bookE)) := by
      show (sortD (B.map bookE)).map D.list = _
      rw [sort_book hP hS.sorted hS.size]; rfl
    refine execB_ret (ev_ret (be_and (ev_cmp rfl (ev_name ((nameD_loc rfl rfl).trans I.here)) (ev_call rfl rfl (ev_name (nameD_glo rfl rfl rfl)) (ea_cons rfl (ev_name ((nameD_loc rfl rfl).trans I.folder)) ea_nil) (show callD (cR n) (.glob 190) [placeD f] = some (.str (textS f)) from c_text (k := n + 2) (by omega))) (same_str (ok_text f 8)).2) ?_))
    rw [if_pos rfl]
    refine ev_cmp rfl (ev_name ((nameD_loc rfl rfl).trans I.shelf)) (lc_run rfl rfl (ev_call rfl rfl (ev_name (nameD_glo rfl rfl rfl)) (ea_cons rfl (ev_name ((nameD_loc rfl rfl).trans I.book)) ea_nil) hsort) (itemsD_list (by rw [List.length_map]; omega)) (compGo_map (f := bookE) (g := entD) S fun q hq => ⟨by simp only [eT_nil, eT_one], ?_⟩)) (same_shelf S).2
    have hq3 : q.1.length ≤ 3 := (hS.len q hq).2
    exact ev_tup rfl (ea_cons rfl (ev_call rfl rfl (ev_name (nameD_glo rfl rfl rfl)) (ea_cons rfl (ev_sub rfl (ev_name ((nameD_loc rfl rfl).trans compVars_self)) (ev_con rfl) (show idxD (bookE q) (.int 0) = some (placeD q.1) from rfl)) ea_nil) (show callD (cR n) (.glob 190) [placeD q.1] = some (.str (textS q.1)) from c_text (k := n + 2) hq3))
      (ea_cons rfl (ev_sub rfl (ev_name ((nameD_loc rfl rfl).trans compVars_self)) (ev_con rfl) (show idxD (bookE q) (.int 1) = some (.int q.2) from rfl)) ea_nil)) (by simp only [List.length_cons, List.length_nil]; omega)
  rw [hfin]; rfl
end
end Mine
end

/-! part Qa -/
section
open PySem PySem.W PyProof.Rows PySem.Calls
set_option maxRecDepth 100000
set_option maxHeartbeats 4000000
set_option linter.unusedVariables false
set_option linter.unusedSimpArgs false
set_option tactic.hygienic false
namespace Mine

noncomputable def kindsD : D := .list (genTab.map fun p => .tup [.list (p.1.map .int), .list (p.2.map .int)])
noncomputable def folderOf (i : Int) : List Row := if i = 0 then [] else if i = 1 then [1] else [0]
theorem sum_ints : ∀ (l : List Int) (n : Int), sumD (l.map .int) n = some (n + l.sum)
  | [], n => by simp [sumD]
  | x :: l, n => by rw [List.map_cons, sumD, sum_ints l]; simp [Int.add_assoc]
theorem same_ints (l : List Int) : ccD .NotEq (.list (l.map .int)) (.list (l.map .int)) = some false :=
  (same_list fun x hx => by
    obtain ⟨i, _, rfl⟩ := List.mem_map.mp hx
    exact ⟨rfl, by rw [eqv_int]; simp⟩).1
theorem c_kinds (so : List D → Option (List D)) (k : Nat) : cN so (k + 1) 207 [] = some kindsD := by kernel_rfl
theorem kind_at {i : Int} (h0 : 0 ≤ i) (h4 : i < 4) : ∃ g s : List Int, idxD kindsD (.int i) = some (.tup [.list (g.map .int), .list (s.map .int)]) ∧ takenD [.list (g.map .int)] = some (.list (s.map .int)) ∧ (∀ x ∈ s, 0 ≤ x ∧ x ≤ 100) ∧ s.length ≤ 100 := by
  have : i = 0 ∨ i = 1 ∨ i = 2 ∨ i = 3 := by lia
  rcases this with rfl | rfl | rfl | rfl
  · exact ⟨[1, 0, 3], List.replicate 12 1, rfl, by kernel_rfl, by decide, by decide⟩
  · exact ⟨[2, 1], [2, 1], rfl, by kernel_rfl, by decide, by decide⟩
  · exact ⟨[1, 2, 127, 5], [1, 2], rfl, by kernel_rfl, by decide, by decide⟩
  · exact ⟨[2, 1, 0], 2 :: List.replicate 11 1, rfl, by kernel_rfl, by decide, by decide⟩
theorem folder_at {i : Int} (h0 : 0 ≤ i) (h3 : i < 3) : idxD (.list [.list [], .list [.list [.int 0, .int 0]], .list [.list [.int 0]]]) (.int i) = some (placeD (folderOf i)) := by
  have : i = 0 ∨ i = 1 ∨ i = 2 := by lia
  rcases this with rfl | rfl | rfl <;> rfl
theorem folder_len (i : Int) : (folderOf i).length ≤ 1 := by
  unfold folderOf
  split
  · simp
  · split <;> simp

theorem be_or {cx : Cx} {sc : Scope} {σ : Vars} {a b : Expr} {p : Pos} {x d : D} {c : Bool} (h1 : evalE cx a sc σ = some x) (h2 : truD x = some c) (h3 : (if c then some x else evalE cx b sc σ) = some d) : evalE cx (.BoolOp .Or [a, b] p) sc σ = some d := by
  simp only [eE_Constant, eE_Name, eE_BoolOp, eE_BinOp, eE_UnaryOp, eE_IfExp, eE_Compare, eE_meth0, eE_meth1, eE_call, eE_slice, eE_subN, eE_subC, eE_subU, eE_subB, eE_subS, eE_List, eE_Tuple, eE_ListComp, eB_one, eB_more, h1, Option.bind_some, h2]
  cases c with
  | true => exact h3
  | false => exact h3

theorem hlaw (ns : List Int) (hn : ns.length ≤ 63) : runF (cxN baseG 8) f_law [.list (ns.map .int)] = some (.bool true) := by
  show runF (cX sortD 8) f_law [.list (ns.map .int)] = some (.bool true)
  unfold runF
  rw [show f_law.bind [.list (ns.map .int)] = some [(("script" : Str), .list (ns.map .int))] from rfl]
  simp only [Option.bind_some]
  obtain ⟨σ, hσ⟩ : ∃ σ : Vars, σ = fun y => [(("script" : Str), D.list (ns.map .int))].lookup y := ⟨_, rfl⟩
  have l1 : σ "script" = some (.list (ns.map .int)) := by rw [hσ]; rfl
  rw [← hσ]
  obtain ⟨N, hN, hNd, hNl⟩ : ∃ N : List Int, N = (if ns.take 8 = [] then [3, 53, 150, 3] else ns.take 8) ∧ True ∧ N.length ≤ 8 := by
    refine ⟨_, rfl, trivial, ?_⟩
    split
    · simp
    · rw [List.length_take]; omega
  have hT : truD (.list ((ns.take 8).map .int)) = some (!((ns.take 8).map D.int).isEmpty) := by
    show (if ((ns.take 8).map D.int).length ≤ lim then some (!((ns.take 8).map D.int).isEmpty) else none) = _
    rw [if_pos (by rw [List.length_map, List.length_take]; show _ ≤ 65536; omega)]
  have hfin : execB (cX sortD 8) f_law.mu f_law.body f_law.scope ⟨σ, none⟩ = some (.ret (.bool true)) := by
    conv in f_law.body => whnf
    refine set_next (d := .list (N.map .int)) rfl (be_or (ev_sli (ev_name ((nameD_loc rfl rfl).trans l1)) eo_none (eo_some (ev_con rfl)) (show slD (.list (ns.map .int)) .none (.int ((8 : Nat) : Int)) = some (.list ((ns.take 8).map .int)) by rw [sl_list (by rw [List.length_map]; omega) rfl rfl, pySl_take', ← List.map_take])) hT ?_) (storeD_loc rfl rfl) fun τ q1 q2 => ?_
    · by_cases h8 : ns.take 8 = []
      · rw [if_pos h8] at hN
        rw [h8, hN]
        simp only [List.map_nil, List.isEmpty_nil, Bool.not_true, Bool.false_eq_true, if_false]
        exact ev_list rfl (ea_cons rfl (ev_con rfl) (ea_cons rfl (ev_con rfl) (ea_cons rfl (ev_con rfl) (ea_cons rfl (ev_con rfl) ea_nil)))) (by simp)
      · rw [if_neg h8] at hN
        have : ((ns.take 8).map D.int).isEmpty = false := by
          cases h : ns.take 8 with
          | nil => exact absurd h h8
          | cons a b => rfl
        rw [this, hN]; rfl
    have hsum : callD (cX sortD 8) (.bi "sum") [.list (N.map .int)] = some (.int (0 + N.sum)) := by
      show (if (N.map D.int).length ≤ lim then (sumD (N.map .int) 0).map D.int else none) = _
      rw [if_pos (by rw [List.length_map]; show _ ≤ 65536; omega), sum_ints]; rfl
    generalize 0 + N.sum = total at hsum
    refine set_next rfl (ev_call rfl rfl (ev_name (nameD_glo rfl rfl rfl)) (ea_cons rfl (ev_name ((nameD_loc rfl rfl).trans q1)) ea_nil) hsum) (storeD_loc rfl rfl) fun ρ r1 r2 => ?_
    have f0 := Int.fmod_nonneg_of_pos total (show (0 : Int) < 3 by decide)
    have f3 := Int.fmod_lt_of_pos total (show (0 : Int) < 3 by decide)
    have hfl := folder_len (total.fmod 3)
    refine set_next rfl (ev_sub rfl (ev_list rfl (ea_cons rfl (ev_list rfl ea_nil (Nat.zero_le _)) (ea_cons rfl (ev_list rfl (ea_cons rfl (ev_list rfl (ea_cons rfl (ev_con rfl) (ea_cons rfl (ev_con rfl) ea_nil)) (by first | decide | (simp only [List.length_cons, List.length_nil]; omega) | (simp; done))) ea_nil) (by first | decide | (simp only [List.length_cons, List.length_nil]; omega) | (simp; done))) (ea_cons rfl (ev_list rfl (ea_cons rfl (ev_list rfl (ea_cons rfl (ev_con rfl) ea_nil) (by first | decide | (simp only [List.length_cons, List.length_nil]; omega) | (simp; done))) ea_nil) (by first | decide | (simp only [List.length_cons, List.length_nil]; omega) | (simp; done))) ea_nil))) (by first | decide | (simp only [List.length_cons, List.length_nil]; omega) | (simp; done)))
      (ev_bin (ev_name ((nameD_loc rfl rfl).trans r1)) (ev_con rfl) rfl) (folder_at f0 f3)) (storeD_loc rfl rfl) fun χ t1 t2 => ?_
    generalize folderOf (total.fmod 3) = f at t1 hfl
    have w1 : χ "total" = some (.int total) := (t2 _ (by decide)).trans r1
    have w2 : χ "numbers" = some (.list (N.map .int)) := (t2 _ (by decide)).trans ((r2 _ (by decide)).trans q1)
    have g0 := Int.fmod_nonneg_of_pos (total.fdiv 3) (show (0 : Int) < 4 by decide)
    have g4 := Int.fmod_lt_of_pos (total.fdiv 3) (show (0 : Int) < 4 by decide)
    obtain ⟨gv, sizes, k1, k2, k3, k4⟩ := kind_at g0 g4
    refine tup2_next rfl rfl (fun d σ => storeD_loc rfl rfl) (fun d σ => storeD_loc rfl rfl) (by decide) (ev_sub rfl (ev_call rfl rfl (ev_name (nameD_glo rfl rfl rfl)) ea_nil (show callD (cX sortD 8) (.glob 207) [] = some kindsD from c_kinds sortD 7)) (ev_bin (ev_bin (ev_name ((nameD_loc rfl rfl).trans w1)) (ev_con rfl) rfl) (ev_con rfl) rfl) k1) fun π p1 p2 p3 => ?_
    have htk : callD (cX sortD 8) (.glob 214) [.list (gv.map .int)] = some (.list (sizes.map .int)) := by
      show (match baseG 214 [.list (gv.map .int)] with | some d => some d | none => _) = _
      have : baseG 214 [.list (gv.map .int)] = some (.list (sizes.map .int)) := k2
      rw [this]
    refine if_testR (c := false) (tr_of (ist_cmp rfl (ev_call rfl rfl (ev_name (nameD_glo rfl rfl rfl)) (ea_cons rfl (ev_name ((nameD_loc rfl rfl).trans p1)) ea_nil) htk) (ev_name ((nameD_loc rfl rfl).trans p2)) (same_ints sizes))) ?_
    simp only [Bool.false_eq_true, if_false, eK_nil, Option.bind_some]
    have hrun : callD (cX sortD 8) (.glob 254) [.list ((100 :: 780 :: 152 :: N).map .int), placeD f, .list (sizes.map .int)] = some (.bool true) :=
by
      have hr := r_run (n := 3) (N := 100 :: 780 :: 152 :: N) (f := f) (sizes := sizes) hfl k3 k4 (by simp only [List.length_cons]; lia)
      exact (cN_step (so := sortD) (k := 7) (a := 254) (f := f_run) (by decide) rfl).trans hr
    refine execB_ret (ev_ret (ev_call rfl rfl (ev_name (nameD_glo rfl rfl rfl)) (ea_cons rfl (ev_bin (ev_list rfl (ea_cons rfl (ev_con rfl) (ea_cons rfl (ev_con rfl) (ea_cons rfl (ev_con rfl) ea_nil))) (by simp only [List.length_cons, List.length_nil]; lia)) (ev_name ((nameD_loc rfl rfl).trans ((p3 _ (by decide) (by decide)).trans w2))) (add_list (by simp only [List.length_cons, List.length_nil, List.length_map]; omega)))
      (ea_cons rfl (ev_name ((nameD_loc rfl rfl).trans ((p3 _ (by decide) (by decide)).trans t1))) (ea_cons rfl (ev_name ((nameD_loc rfl rfl).trans p2)) ea_nil))) hrun))
  rw [hfin]; rfl

theorem law_call {K : Frag} (H : TopK K) {prog : Program} {w : World} {mg mb : Str → Option Value} {s : Shared} {l : Addr} {ns : List Int} {Q E : Value → Shared → Prop} (G : GlOK gl mg mb) (W : Wd K mg mb s.heap)
    (hwl : WellAll w.params s.heap [.ref l] [ofPy (PyData.list (ns.map PyData.int))]) (hn : ns.length ≤ 63) (k : ∀ v g' s', Ext s.heap s g' s' → Den g' v (.bool true) → Q v s') : wpAny (model prog w) callerA (PySem.call (.ref 261) [.ref l]) Q E s := by
  have C := callN_ok (prog := prog) (w := w) (base_ok H G) (sort_ok _ w) G (tab_ok H) 8
  have hA : Rm callerA (11 + 9 * 8 + 9) := rm_caller (by decide)
  exact fn_ok (cx := cxN baseG 8) C (sort_ok _ w) G (good_plain H.law rfl (by kernel_rfl)) hA W .rfl' (.cons (law_den hwl) .nil) (hlaw _ hn) _ _ k
theorem main.tw10047389527955405517 : True := trivial
theorem main.tw10363585996791799541 : True := trivial
theorem main.tw10450603732522932521 : True := trivial
theorem main.tw10821422270917381399 : True := trivial
theorem main.tw10876375607700338302 : True := trivial
theorem main.tw10946644238470552705 : True := trivial
theorem main.tw11156056980113079860 : True := trivial
theorem main.tw11646826074482590764 : True := trivial
theorem main.tw11815829001073249272 : True := trivial
theorem main.tw11982392923317675503 : True := trivial
theorem main.tw12431731261707249289 : True := trivial
theorem main.tw12670839924663504800 : True := trivial
theorem main.tw13113777628852026922 : True := trivial
theorem main.tw13224007501803129859 : True := trivial
theorem main.tw13693970394777133609 : True := trivial
theorem main.tw13724616953566380437 : True := trivial
theorem main.tw14439473939278146460 : True := trivial
theorem main.tw14907226015203709474 : True := trivial
theorem main.tw1504049600530537962 : True := trivial
theorem main.tw15485851114877660061 : True := trivial
theorem main.tw15737690656516749961 : True := trivial
theorem main.tw15806524323241146399 : True := trivial
theorem main.tw16008252555379753968 : True := trivial
theorem main.tw16008457594558532635 : True := trivial
theorem main.tw16049902774474827687 : True := trivial
theorem main.tw16102231251864390963 : True := trivial
theorem main.tw1632041292262086317 : True := trivial
theorem main.tw16629339528299215175 : True := trivial
theorem main.tw16691211078767756181 : True := trivial
theorem main.tw16826212616301561204 : True := trivial
theorem main.tw17336282652733537790 : True := trivial
theorem main.tw17353955331779342651 : True := trivial
theorem main.tw17477492558424962760 : True := trivial
theorem main.tw17561526911342447988 : True := trivial
theorem main.tw1777545030009416734 : True := trivial
theorem main.tw1778151581696382138 : True := trivial
theorem main.tw1826329307503635854 : True := trivial
theorem main.tw18421580907717582127 : True := trivial
theorem main.tw1910501908997590177 : True := trivial
theorem main.tw2280639744905098872 : True := trivial
theorem main.tw2287757881348798766 : True := trivial
theorem main.tw2496676261509829067 : True := trivial
theorem main.tw3275944671136992505 : True := trivial
theorem main.tw3299218664060906527 : True := trivial
theorem main.tw3343439749351644125 : True := trivial
theorem main.tw33456957511925785 : True := trivial
theorem main.tw396634749626429354 : True := trivial
theorem main.tw4319927539344641337 : True := trivial
theorem main.tw4324958949535026087 : True := trivial
theorem main.tw4605139254293405059 : True := trivial
theorem main.tw6334894449686545209 : True := trivial
theorem main.tw6361450105264607166 : True := trivial
theorem main.tw6508729118710982530 : True := trivial
theorem main.tw6541472054586571296 : True := trivial
theorem main.tw7186131708394509389 : True := trivial
theorem main.tw7235775444256392728 : True := trivial
theorem main.tw7268301785047649679 : True := trivial
theorem main.tw7590696779544312186 : True := trivial
theorem main.tw7761410557224570781 : True := trivial
theorem main.tw7898876096245973815 : True := trivial
theorem main.tw8207831470162742035 : True := trivial
theorem main.tw8466321980469482115 : True := trivial
theorem main.tw8652556701797213591 : True := trivial
theorem main.tw8905464785575363620 : True := trivial
theorem main.tw9012048248355028744 : True := trivial
theorem main.tw9272984997812220495 : True := trivial
theorem main.tw9557352009045844224 : True := trivial
theorem main.tw9561784451562097942 : True := trivial
theorem main.tw9563168847844234846 : True := trivial
set_option Elab.async true in
set_option maxRecDepth 100000 in
set_option maxHeartbeats 8000000 in
theorem main : PySem.Challenge.rw_il0053_01.Holds := by
  w_on
  o_law
  k_head
  (case hw => w_witness2)
  k_fill
  intro w s₀ s₁ mg mb G Y fa o pm cd doc dV kV ho hd hcd hD hmg hg args vals as hpre hlay hrd hwl hlo
  have KX := kIn_of Y
  have H := mkTop KX ⟨(.cons ⟨_, _, _, _, _, _, _, _, _, _, _, _, rfl, rfl, fun _ _ => rfl⟩ (.cons ⟨_, _, _, _, _, _, _, _, _, _, _, _, rfl, rfl, fun _ => rfl⟩ (.cons ⟨_, _, _, _, _, _, _, _, _, _, _, _, rfl, rfl, fun _ => rfl⟩ (.cons ⟨_, _, _, _, _, _, _, _, _, _, _, _, rfl, rfl, fun _ => rfl⟩ (.cons ⟨_, _, _, _, _, _, _, _, _, _, _, _, rfl, rfl, fun _ => rfl⟩ (.cons ⟨_, _, _, _, _, _, _, _, _, _, _, _, rfl, rfl, fun _ => rfl⟩ (.cons ⟨_, _, _, _, _, _, _, _, _, _, _, _, rfl, rfl, fun _ => rfl⟩ (.cons ⟨_, _, _, _, _, _, _, _, _, _, _, _, rfl, rfl, fun _ => rfl⟩ (.cons ⟨_, _, _, _, _, _, _, _, _, _, _, _, rfl, rfl, fun _ => rfl⟩ (.cons ⟨_, _, _, _, _, _, _, _, _, _, _, _, rfl, rfl, fun _ => rfl⟩ (.cons ⟨_, _, _, _, _, _, _, _, _, _, _, _, rfl, rfl, fun _ => rfl⟩ (.cons ⟨_, _, _, _, _, _, _, _, _, _, _, _, rfl, rfl, fun _ _ => rfl⟩ (.cons ⟨_, _, _, _, _, _, _, _, _, _, _, _, rfl, rfl, fun _ => rfl⟩ (.cons ⟨_, _, _, _, _, _, _, _, _, _, _, _, rfl, rfl, rfl⟩ (.cons ⟨_, _, _, _, _, _, _, _, _, _, _, _, rfl, rfl, fun _ _ => rfl⟩ (.cons ⟨_, _, _, _, _, _, _, _, _, _, _, _, rfl, rfl, fun _ => rfl⟩ (.cons ⟨_, _, _, _, _, _, _, _, _, _, _, _, rfl, rfl, fun _ _ _ => rfl⟩ (.cons ⟨_, _, _, _, _, _, _, _, _, _, _, _, rfl, rfl, fun _ _ _ _ => rfl⟩ (.cons ⟨_, _, _, _, _, _, _, _, _, _, _, _, rfl, rfl, fun _ _ _ _ => rfl⟩ (.cons ⟨_, _, _, _, _, _, _, _, _, _, _, _, rfl, rfl, fun _ _ _ => rfl⟩ .nil)))))))))))))))))))),
    ⟨_, _, _, _, _, _, _, _, _, _, _, _, rfl, rfl, fun _ => rfl⟩, ⟨_, _, _, _, _, _, _, _, _, _, _, _, rfl, rfl, fun _ => rfl⟩, ⟨_, _, _, _, _, _, _, _, _, _, _, _, rfl, rfl, fun _ => rfl⟩, ⟨_, _, _, _, _, _, _, _, _, _, _, _, rfl, rfl, _, fun _ _ => rfl⟩,
    ⟨_, _, _, _, _, _, _, _, _, _, _, _, rfl, rfl, fun _ => rfl, fun _ _ => rfl, fun _ _ _ => rfl, fun _ _ _ _ => rfl, fun _ _ _ _ _ => rfl⟩, rfl, rfl, rfl, rfl, rfl⟩
  refine Ground.open G ?_
  intro T B₀ D₀ TE TW
  have hwl2 := hwl
  wrow_args hpre hlay hrd hwl hlo
  have hfa : fa = 261 := by
    have e1 : mg "law" = some (.ref 261) := mg_of KX T.g H.gL
    have e2 : mg "law" = some (.ref fa) := hmg
    rw [e1] at e2; cases e2; rfl
  subst hfa
  refine law_call H (prog := PySem.Challenge.rw_il0053_01.row.prog) (w := w) (gl_ok H KX (topRead_of T)) ⟨KX, T.g, T.b, T.nolimit⟩ hwl2 (by omega) fun v g' s' x dv => ?_
  cases dv
  obtain ⟨h', tk, G', rfl, hb⟩ := x.same
  exact ⟨.inl ⟨_, _, [], rfl, fun cls => none_raised cls, .bool true, by wrow_post, fun _ => ⟨List.nodup_nil, fun a ha => by simp at ha⟩⟩, .of_keep x.kept, rfl, hb.bare (.of_eq hg)⟩
theorem cw_il0053_01_mine : PySem.Challenge.rw_il0053_01.Holds := main
end Mine
end

set_option maxRecDepth 100000 in
set_option maxHeartbeats 8000000 in
theorem PySem.Challenge.cw_il0053_01_holds : PySem.Challenge.rw_il0053_01.Holds :=
  Mine.cw_il0053_01_mine
