import PyProof.Rows.All
import Wide.All
import OpenK.AllK
import Wide.FinOn
import PyProof.AttrMissSeq
import PySem.Challenge.RW_jc0031_01
set_option Elab.async false
set_option linter.unusedVariables false
section
open PySem PySem.W PyProof.Rows
namespace Mine
noncomputable abbrev Fz := Addr → Option Obj
noncomputable def Fz.le (Z Z' : Fz) : Prop := ∀ a o, Z a = some o → Z' a = some o
theorem Fz.le.rfl {Z : Fz} : Z.le Z := fun _ _ e => e
theorem Fz.le.trans {Z Z' Z'' : Fz} (x : Z.le Z') (y : Z'.le Z'') : Z.le Z'' := fun a o e => y a o (x a o e)
noncomputable def Fz.put (Z : Fz) (a : Addr) (o : Obj) : Fz := fun b => if b = a then some o else Z b
theorem Fz.put_self {Z : Fz} {a : Addr} {o : Obj} : Z.put a o a = some o := if_pos rfl
theorem Fz.put_ne {Z : Fz} {a b : Addr} {o : Obj} (h : b ≠ a) : Z.put a o b = Z b := if_neg h
theorem Fz.le_put {Z : Fz} {a : Addr} {o : Obj} (h : Z a = none) : Z.le (Z.put a o) := fun b o' e => by
  by_cases hb : b = a
  · subst hb; rw [h] at e; cases e
  · rw [Fz.put_ne hb]; exact e
structure VP where
  ok : Fz → Value → Prop
  mono : ∀ {Z Z' : Fz} {v : Value}, Z.le Z' → ok Z v → ok Z' v
structure UP where
  ok : Fz → Obj → Prop
  mono : ∀ {Z Z' : Fz} {o : Obj}, Z.le Z' → ok Z o → ok Z' o
inductive Res where
  | ns (a : Addr) (m : Str → Option Value)
  | cell (a : Addr) (v : Option Value)
  | ob (x : Str) (a : Addr) (o : Obj)
  | it (a : Addr) (o : Obj)
noncomputable def Res.addr : Res → Addr
  | .ns a _ => a
  | .cell a _ => a
  | .ob _ a _ => a
  | .it a _ => a
noncomputable def Res.ok (h : Heap) : Res → Prop
  | .ns a m => h.Ns a m
  | .cell a v => h.IsCell a v
  | .ob _ a o => h.get? a = some o
  | .it a o => h.get? a = some o
theorem Res.lt {h : Heap} : ∀ {r : Res}, r.ok h → r.addr < h.objs.size
  | .ns _ _, x => Heap.Ns.lt x
  | .cell _ _, x => Heap.IsCell.lt x
  | .ob _ _ _, x => Heap.lt_size x
  | .it _ _, x => Heap.lt_size x
theorem Res.at {h h' : Heap} : ∀ {r : Res}, r.ok h → (∀ o, h.get? r.addr = some o → h'.get? r.addr = some o) → r.ok h'
  | .ns _ _, x, k => Heap.Ns.at' x k
  | .cell _ _, x, k => let ⟨o, ho, hd⟩ := x; ⟨o, k o ho, hd⟩
  | .ob _ _ _, x, k => k _ x
  | .it _ _, x, k => k _ x
structure Cx where
  prog : Program
  w : World
  s0 : Shared
  K : Frag
  mg : Str → Option Value
  mb : Str → Option Value
  kin : K.In s0.heap
  g : s0.heap.Ns mainGlobals mg
  b : s0.heap.Ns builtinsNs mb
  nolimit : s0.heap.NoLimit
  nodigits : ∃ mc, s0.heap.Ns cStatics mc ∧ mc "sys.int_max_str_digits" = none
  mbs : ∀ x : Str, x ≠ "__name__" → mb x = bootBuiltins x
  tab : Addr
  gok : Array GenState → Obj → Prop
noncomputable abbrev Cx.M (C : Cx) : Model := model C.prog C.w
structure NoteOk (C : Cx) (Z : Fz) (own : List Res) (s : Shared) : Prop where
  at_ : ∃ o, s.heap.get? C.tab = some o ∧ C.gok s.gens o
  z : Z C.tab = none
  off : C.tab ∉ own.map Res.addr
theorem NoteOk.ne {C : Cx} {Z : Fz} {own : List Res} {s : Shared} (h : NoteOk C Z own s) {r : Res} (hr : r ∈ own) : C.tab ≠ r.addr := fun e => h.off (e ▸ List.mem_map.mpr ⟨r, hr, rfl⟩)
theorem NoteOk.lt {C : Cx} {Z : Fz} {own : List Res} {s : Shared} (h : NoteOk C Z own s) : C.tab < s.heap.objs.size := let ⟨_, e, _⟩ := h.at_; Heap.lt_size e
theorem NoteOk.news {C : Cx} {Z : Fz} {own news : List Res} {s : Shared} (h : NoteOk C Z own s) (hge : ∀ r ∈ news, s.heap.objs.size ≤ r.addr) : C.tab ∉ (news ++ own).map Res.addr := fun hm => by
  obtain ⟨r, hr, e⟩ := List.mem_map.mp hm
  rcases List.mem_append.mp hr with q | q
  · exact Nat.lt_irrefl _ (Nat.lt_of_lt_of_le h.lt (e ▸ hge r q))
  · exact h.ne q e.symm
theorem NoteOk.keeps {C : Cx} {Z : Fz} {own : List Res} {s : Shared} (h : NoteOk C Z own s) {h' : Heap} {tk : Nat} (k : ∀ o, s.heap.get? C.tab = some o → h'.get? C.tab = some o) : NoteOk C Z own { s with heap := h', toks := tk } :=
  ⟨let ⟨o, e, g⟩ := h.at_; ⟨o, k o e, g⟩, h.z, h.off⟩
theorem NoteOk.put {C : Cx} {Z : Fz} {own : List Res} {s : Shared} (h : NoteOk C Z own s) {a : Addr} {o : Obj} (hne : C.tab ≠ a) : NoteOk C (Z.put a o) own s := ⟨h.at_, by rw [Fz.put_ne hne]; exact h.z, h.off⟩
structure Inv (C : Cx) (Z : Fz) (own : List Res) (s : Shared) : Prop where
  shape : ∃ h tk gs, s = { C.s0 with heap := h, toks := tk, gens := gs }
  bare : NoteOk C Z own s
  base : ∀ a o, C.s0.heap.get? a = some o → Z a = some o
  zle : ∀ a o, Z a = some o → s.heap.get? a = some o
  ok : ∀ r ∈ own, r.ok s.heap
  off : ∀ r ∈ own, Z r.addr = none
  nd : (own.map Res.addr).Nodup
variable {C : Cx} {Z : Fz} {own : List Res} {s : Shared}
theorem Inv.keep0 (I : Inv C Z own s) : ∀ a o, C.s0.heap.get? a = some o → s.heap.get? a = some o := fun a o e => I.zle a o (I.base a o e)
theorem Inv.kin (I : Inv C Z own s) : C.K.In s.heap := C.kin.keeps I.keep0
theorem Inv.g (I : Inv C Z own s) : s.heap.Ns mainGlobals C.mg := C.g.keeps I.keep0
theorem Inv.b (I : Inv C Z own s) : s.heap.Ns builtinsNs C.mb := C.b.keeps I.keep0
theorem Inv.nolimit (I : Inv C Z own s) : s.heap.NoLimit := C.nolimit.keeps I.keep0
theorem Inv.znone (I : Inv C Z own s) {a : Addr} (h : s.heap.objs.size ≤ a) : Z a = none := by
  cases e : Z a with
  | none => rfl
  | some o => exact absurd (Heap.lt_size (I.zle _ _ e)) (Nat.not_lt.mpr h)
theorem Inv.offown (I : Inv C Z own s) {a : Addr} (h : s.heap.objs.size ≤ a) : a ∉ own.map Res.addr := fun hm => by
  obtain ⟨r, hr, rfl⟩ := List.mem_map.mp hm
  exact absurd (Res.lt (I.ok r hr)) (Nat.not_lt.mpr h)
theorem Inv.keeps (I : Inv C Z own s) {h' : Heap} {tk : Nat} (k : ∀ b o, s.heap.get? b = some o → h'.get? b = some o) : Inv C Z own { s with heap := h', toks := tk } :=
  ⟨let ⟨_, _, gs, e⟩ := I.shape; ⟨h', tk, gs, by rw [e]⟩, I.bare.keeps (k _), I.base, fun a o e => k a o (I.zle a o e), fun r hr => Res.at (I.ok r hr) fun o e => k _ o e, I.off, I.nd⟩
theorem Inv.tok (I : Inv C Z own s) (tk : Nat) : Inv C Z own { s with toks := tk } := I.keeps fun _ _ e => e
theorem Inv.push (I : Inv C Z own s) (o : Obj) (hf : o.isFreed = false) {tk : Nat} : Inv C (Z.put s.heap.objs.size o) own { s with heap := s.heap.push o, toks := tk } := by
  have J := I.keeps (tk := tk) (h' := s.heap.push o) fun b o' e => Heap.get?_push_of_some o e
  refine ⟨J.shape, J.bare.put (Nat.ne_of_lt I.bare.lt), fun a o' e => Fz.le_put (I.znone (Nat.le_refl _)) a o' (J.base a o' e), fun a o' e => ?_, J.ok, fun r hr => ?_, J.nd⟩
  · by_cases ha : a = s.heap.objs.size
    · subst ha; rw [Fz.put_self] at e; cases e; exact Heap.get?_push_size _ hf
    · rw [Fz.put_ne ha] at e; exact J.zle a o' e
  · rw [Fz.put_ne]; · exact I.off r hr
    exact Nat.ne_of_lt (Res.lt (I.ok r hr))
theorem Inv.add (I : Inv C Z own s) {r : Res} (h1 : r.ok s.heap) (h2 : Z r.addr = none) (h3 : r.addr ∉ own.map Res.addr) (h4 : C.tab ≠ r.addr) : Inv C Z (r :: own) s :=
  ⟨I.shape, ⟨I.bare.at_, I.bare.z, fun hm => (List.mem_cons.mp hm).elim h4 I.bare.off⟩, I.base, I.zle, fun x hx => by
    rcases List.mem_cons.mp hx with rfl | hx
    · exact h1
    · exact I.ok x hx, fun x hx => by
    rcases List.mem_cons.mp hx with rfl | hx
    · exact h2
    · exact I.off x hx, by rw [List.map_cons, List.nodup_cons]; exact ⟨h3, I.nd⟩⟩
theorem Inv.pushOwn (I : Inv C Z own s) (x : Str) (o : Obj) (hf : o.isFreed = false) {tk : Nat} : Inv C Z (.ob x s.heap.objs.size o :: own) { s with heap := s.heap.push o, toks := tk } :=
  (I.keeps (tk := tk) (h' := s.heap.push o) fun _ _ e => Heap.get?_push_of_some o e).add (Heap.get?_push_size _ hf) (I.znone (Nat.le_refl _)) (I.offown (Nat.le_refl _)) (Nat.ne_of_lt I.bare.lt)
theorem Inv.pushIt (I : Inv C Z own s) (o : Obj) (hf : o.isFreed = false) {tk : Nat} : Inv C Z (.it s.heap.objs.size o :: own) { s with heap := s.heap.push o, toks := tk } :=
  (I.keeps (tk := tk) (h' := s.heap.push o) fun _ _ e => Heap.get?_push_of_some o e).add (Heap.get?_push_size _ hf) (I.znone (Nat.le_refl _)) (I.offown (Nat.le_refl _)) (Nat.ne_of_lt I.bare.lt)
theorem Inv.sub (I : Inv C Z own s) {own' : List Res} (h : own'.Sublist own) : Inv C Z own' s :=
  ⟨I.shape, ⟨I.bare.at_, I.bare.z, fun hm => I.bare.off ((h.map _).subset hm)⟩, I.base, I.zle, fun r hr => I.ok r (h.subset hr), fun r hr => I.off r (h.subset hr), List.Nodup.sublist (h.map _) I.nd⟩
theorem Inv.perm (I : Inv C Z own s) {own' : List Res} (h : own'.Perm own) : Inv C Z own' s :=
  ⟨I.shape, ⟨I.bare.at_, I.bare.z, fun hm => I.bare.off ((h.map _).mem_iff.mp hm)⟩, I.base, I.zle, fun r hr => I.ok r (h.mem_iff.mp hr), fun r hr => I.off r (h.mem_iff.mp hr), (h.map _).nodup_iff.mpr I.nd⟩
theorem Inv.freeze {x : Str} {a : Addr} {o : Obj} (I : Inv C Z (.ob x a o :: own) s) : Inv C (Z.put a o) own s ∧ Z.le (Z.put a o) := by
  have hz := I.off _ (List.Mem.head _)
  have nd := I.nd
  rw [List.map_cons, List.nodup_cons] at nd
  refine ⟨⟨I.shape, ⟨I.bare.at_, (I.bare.put (I.bare.ne (List.Mem.head _))).z, fun hm => I.bare.off (List.mem_cons_of_mem _ hm)⟩, fun b o' e => Fz.le_put hz b o' (I.base b o' e), fun b o' e => ?_, fun r hr => I.ok r (.tail _ hr), fun r hr => ?_, nd.2⟩, Fz.le_put hz⟩
  · by_cases hb : b = a
    · subst hb; rw [Fz.put_self] at e; cases e; exact I.ok _ (.head _)
    · rw [Fz.put_ne hb] at e; exact I.zle b o' e
  · rw [Fz.put_ne]; · exact I.off r (.tail _ hr)
    intro e; exact nd.1 (List.mem_map.mpr ⟨r, hr, e⟩)
noncomputable def setRes (r : Res) (own : List Res) : List Res := own.map fun x => if x.addr = r.addr then r else x
theorem setRes_addr (r : Res) (own : List Res) : (setRes r own).map Res.addr = own.map Res.addr := by
  unfold setRes; rw [List.map_map]; refine List.map_congr_left fun x _ => ?_
  show Res.addr (if x.addr = r.addr then r else x) = x.addr
  split
  · rename_i h; exact h.symm
  · rfl
theorem setRes_append (r : Res) (a b : List Res) : setRes r (a ++ b) = setRes r a ++ setRes r b := List.map_append ..
theorem mem_setRes {r x : Res} {own : List Res} (h : x ∈ own) (hne : x.addr ≠ r.addr) : x ∈ setRes r own :=
  List.mem_map.mpr ⟨x, h, if_neg hne⟩
theorem self_setRes {r : Res} {own : List Res} (h : r.addr ∈ own.map Res.addr) : r ∈ setRes r own := by
  obtain ⟨x, hx, e⟩ := List.mem_map.mp h
  exact List.mem_map.mpr ⟨x, hx, if_pos e⟩
theorem setRes_off {r : Res} {own : List Res} (h : r.addr ∉ own.map Res.addr) : setRes r own = own := by
  unfold setRes
  conv => rhs; rw [← List.map_id own]
  refine List.map_congr_left fun x hx => ?_
  show (if x.addr = r.addr then r else x) = x
  rw [if_neg fun e => h (List.mem_map.mpr ⟨x, hx, e⟩)]
theorem of_setRes {r x : Res} {own : List Res} (h : x ∈ setRes r own) : x = r ∨ (x ∈ own ∧ x.addr ≠ r.addr) := by
  obtain ⟨y, hy, e⟩ := List.mem_map.mp h
  split at e
  · exact .inl e.symm
  · rename_i hne; subst e; exact .inr ⟨hy, hne⟩
theorem Inv.turn (I : Inv C Z own s) {r : Res} {h' : Heap} {tk : Nat} (hm : r.addr ∈ own.map Res.addr) (h1 : r.ok h') (k : ∀ b o, b ≠ r.addr → s.heap.get? b = some o → h'.get? b = some o) :
    Inv C Z (setRes r own) { s with heap := h', toks := tk } := by
  have hz : Z r.addr = none := by
    obtain ⟨x, hx, e⟩ := List.mem_map.mp hm
    rw [← e]; exact I.off x hx
  refine ⟨let ⟨_, _, gs, e⟩ := I.shape; ⟨h', tk, gs, by rw [e]⟩, ⟨let ⟨o, e, g⟩ := I.bare.at_; ⟨o, k _ o (fun q => I.bare.off (q ▸ hm)) e, g⟩, I.bare.z, by rw [setRes_addr]; exact I.bare.off⟩, I.base, fun a o e => k a o (fun q => by rw [q, hz] at e; cases e) (I.zle a o e), fun x hx => ?_, fun x hx => ?_, by rw [setRes_addr]; exact I.nd⟩
  · rcases of_setRes hx with rfl | ⟨hx, hne⟩
    · exact h1
    · exact Res.at (I.ok x hx) fun o e => k _ o hne e
  · rcases of_setRes hx with rfl | ⟨hx, hne⟩
    · exact hz
    · exact I.off x hx
theorem Inv.same (I : Inv C Z own s) {r r' : Res} (h : r ∈ own) (h' : r' ∈ own) (e : r.addr = r'.addr) : r = r' := by
  have nd := I.nd
  clear I
  induction own with
  | nil => cases h
  | cons x l ih =>
    rw [List.map_cons, List.nodup_cons] at nd
    rcases List.mem_cons.mp h with q | q <;> rcases List.mem_cons.mp h' with q' | q'
    · rw [q, q']
    · exact absurd (List.mem_map.mpr ⟨r', q', by rw [← e, q]⟩) nd.1
    · exact absurd (List.mem_map.mpr ⟨r, q, by rw [e, q']⟩) nd.1
    · exact ih q q' nd.2
structure Room (n : Nat) (A : Around) : Prop where
  hh : A.handled = none
  d : A.depth + n < 900
  u : A.units + 10 * n < 5000
theorem Room.le {n m : Nat} {A : Around} (x : Room n A) (h : m ≤ n) : Room m A := ⟨x.hh, by have := x.d; omega, by have := x.u; omega⟩
theorem Room.in1 {n : Nat} {A : Around} (x : Room (n + 1) A) : Room n A.in1 := ⟨x.hh, by have := x.d; show A.depth + n < 900; omega, by have := x.u; show A.units + 1 + 10 * n < 5000; omega⟩
theorem Room.deeper {n : Nat} {A : Around} (x : Room (n + 1) A) (env : Env) : Room n (A.deeper env) := ⟨x.hh, by have := x.d; show A.depth + 1 + n < 900; omega, by have := x.u; show A.units + 3 + 10 * n < 5000; omega⟩
theorem Room.depth {n : Nat} {A : Around} (x : Room n A) : A.depth < recursionLimit := by have := x.d; show A.depth < 1000; omega
theorem Room.units {n : Nat} {A : Around} (x : Room n A) : A.units + 64 < cLine := by have := x.u; show A.units + 64 < 9900; omega
noncomputable def Post (C : Cx) (Z : Fz) (own : List Res) (P : VP) (v : Value) (s' : Shared) : Prop := ∃ Z', Z.le Z' ∧ Inv C Z' own s' ∧ P.ok Z' v
theorem Post.here {P : VP} {v : Value} (I : Inv C Z own s) (h : P.ok Z v) : Post C Z own P v s := ⟨Z, .rfl, I, h⟩
theorem Post.more {Z' : Fz} {P : VP} {v : Value} (z : Z.le Z') (h : Post C Z' own P v s) : Post C Z own P v s := let ⟨Z'', a, b, c⟩ := h; ⟨Z'', z.trans a, b, c⟩
inductive All2 {α β : Type} (R : α → β → Prop) : List α → List β → Prop
  | nil : All2 R [] []
  | cons {a b l m} : R a b → All2 R l m → All2 R (a :: l) (b :: m)
theorem All2.imp {α β : Type} {R S : α → β → Prop} {l : List α} {m : List β} (h : All2 R l m) (f : ∀ a b, R a b → S a b) : All2 S l m := by
  induction h with
  | nil => exact .nil
  | cons a _ ih => exact .cons (f _ _ a) ih
theorem All2.len {α β : Type} {R : α → β → Prop} {l : List α} {m : List β} (h : All2 R l m) : l.length = m.length := by
  induction h with
  | nil => rfl
  | cons _ _ ih => simp [ih]
theorem All2.append {α β : Type} {R : α → β → Prop} {l l' : List α} {m m' : List β} (h : All2 R l m) (h' : All2 R l' m') : All2 R (l ++ l') (m ++ m') := by
  induction h with
  | nil => exact h'
  | cons a _ ih => exact .cons a ih
theorem All2.get {α β : Type} {R : α → β → Prop} {l : List α} {m : List β} (h : All2 R l m) : ∀ {i : Nat} {a : α}, l[i]? = some a → ∃ b, m[i]? = some b ∧ R a b := by
  induction h with
  | nil => intro i a e; simp at e
  | cons a _ ih =>
    intro i x e
    cases i with
    | zero => simp at e; subst e; exact ⟨_, by simp, a⟩
    | succ i => simp at e; obtain ⟨b, h1, h2⟩ := ih e; exact ⟨b, by simpa using h1, h2⟩
theorem All2.get' {α β : Type} {R : α → β → Prop} {l : List α} {m : List β} (h : All2 R l m) : ∀ {i : Nat} {b : β}, m[i]? = some b → ∃ a, l[i]? = some a ∧ R a b := by
  induction h with
  | nil => intro i a e; simp at e
  | cons a _ ih =>
    intro i x e
    cases i with
    | zero => simp at e; subst e; exact ⟨_, by simp, a⟩
    | succ i => simp at e; obtain ⟨b, h1, h2⟩ := ih e; exact ⟨b, by simpa using h1, h2⟩
noncomputable abbrev Oks (Z : Fz) (ps : List VP) (vs : List Value) : Prop := All2 (fun p v => p.ok Z v) ps vs
theorem Oks.up {Z Z' : Fz} {ps : List VP} {vs : List Value} (h : Oks Z ps vs) (z : Z.le Z') : Oks Z' ps vs := h.imp fun p _ x => p.mono z x
noncomputable def Gives (C : Cx) (n : Nat) (ps : List VP) (t : List Value → Sem Value) (r : VP) : Prop :=
  ∀ (A : Around) (Z : Fz) (own : List Res) (s : Shared) (vs : List Value) (E : Value → Shared → Prop), Room n A → Inv C Z own s → Oks Z ps vs →
    wpAny C.M A (t vs) (Post C Z own r) E s
noncomputable def Fn (C : Cx) (n : Nat) (f : Value) (ps : List VP) (r : VP) : Prop := Gives C n ps (fun vs => call f vs []) r
end Mine
end

section
open PySem PySem.W PyProof.Rows
set_option autoImplicit false
namespace Mine
variable {C : Cx} {Z Z' : Fz} {own : List Res} {s : Shared}
noncomputable def VP.int (i : Int) : VP := ⟨fun _ v => ∃ t, v = .int i t, fun _ h => h⟩
noncomputable def VP.str (x : Str) : VP := ⟨fun _ v => ∃ t, v = .str x t, fun _ h => h⟩
noncomputable def VP.bool (b : Bool) : VP := ⟨fun _ v => v = .bool b, fun _ h => h⟩
noncomputable def VP.none : VP := ⟨fun _ v => v = .none, fun _ h => h⟩
noncomputable def VP.is (w : Value) : VP := ⟨fun _ v => v = w, fun _ h => h⟩
noncomputable def Nm (a : Addr) : Prop := (a == sysModules) = false
theorem Inv.nm (I : Inv C Z own s) : Nm s.heap.objs.size := by
  have h := I.g.lt
  have h1 : s.heap.objs.size ≠ 1 := fun e => by rw [e] at h; exact absurd h (by decide)
  exact beq_false_of_ne h1
noncomputable def VP.of (U : UP) : VP := ⟨fun Z v => ∃ a o, v = .ref a ∧ Z a = some o ∧ U.ok Z o ∧ Nm a, fun z ⟨a, o, h1, h2, h3, h4⟩ => ⟨a, o, h1, z a o h2, U.mono z h3, h4⟩⟩
noncomputable def UP.list (l : List VP) : UP := ⟨fun Z o => ∃ vs n, o = { cls := .type "list", data := .seq vs n } ∧ Oks Z l vs.toList, fun z ⟨vs, n, h1, h2⟩ => ⟨vs, n, h1, h2.up z⟩⟩
noncomputable def UP.tup (l : List VP) : UP := ⟨fun Z o => ∃ vs n, o.cls = .type "tuple" ∧ o.data = .seq vs n ∧ Oks Z l vs.toList, fun z ⟨vs, n, h1, h2, h3⟩ => ⟨vs, n, h1, h2, h3.up z⟩⟩
noncomputable def IsDict (C : Cx) (l : List (Str × VP)) (Z : Fz) (o : Obj) : Prop :=
  ∃ (es : Array DictEntry) (ep : Nat) (kvs : List (Str × Value)), o.ExactDict ∧ o.data = .dict es ep ∧ KeysOf (strKind C.prog C.w) es ∧ Pairs (strKind C.prog C.w) es.toList kvs ∧ (kvs.map Prod.fst).Nodup ∧
    All2 (fun (p : Str × VP) (q : Str × Value) => p.1 = q.1 ∧ p.2.ok Z q.2) l kvs
theorem IsDict.mono {C : Cx} {l : List (Str × VP)} {Z Z' : Fz} {o : Obj} (z : Z.le Z') (h : IsDict C l Z o) : IsDict C l Z' o := by
  obtain ⟨es, ep, kvs, h1, h2, h3, h4, h5, h6⟩ := h
  exact ⟨es, ep, kvs, h1, h2, h3, h4, h5, h6.imp fun p q x => ⟨x.1, p.2.mono z x.2⟩⟩
noncomputable def UP.dict (C : Cx) (l : List (Str × VP)) : UP := ⟨IsDict C l, IsDict.mono⟩
noncomputable abbrev VP.list (l : List VP) : VP := VP.of (UP.list l)
noncomputable abbrev VP.tup (l : List VP) : VP := VP.of (UP.tup l)
noncomputable abbrev VP.dict (C : Cx) (l : List (Str × VP)) : VP := VP.of (UP.dict C l)
inductive Ent where
  | val (P : VP)
  | own (U : UP)
noncomputable abbrev Gam := List (Str × Ent)
noncomputable def Ent.ok (Z : Fz) (own : List Res) (x : Str) (v : Value) : Ent → Prop
  | .val P => P.ok Z v
  | .own U => ∃ c o, v = .ref c ∧ Res.ob x c o ∈ own ∧ U.ok Z o ∧ Nm c
theorem Ent.up {x : Str} {v : Value} {own own' : List Res} (z : Z.le Z') (hs : ∀ r ∈ own, r ∈ own') : ∀ {e : Ent}, e.ok Z own x v → e.ok Z' own' x v
  | .val P, h => P.mono z h
  | .own U, ⟨c, o, h1, h2, h3, h4⟩ => ⟨c, o, h1, hs _ h2, U.mono z h3, h4⟩
noncomputable def Rd (env : Env) (own : List Res) (x : Str) (v : Value) : Prop :=
  (env.kindOf x = some .local ∧ ∃ m, Res.ns env.locals m ∈ own ∧ m x = some v) ∨
  ((env.kindOf x = some .cell ∨ env.kindOf x = some .free) ∧ ∃ c, env.cells.lookup x = some c ∧ Res.cell c (some v) ∈ own)
noncomputable def EnvOk (G : Gam) (env : Env) (Z : Fz) (rd ow : List Res) : Prop := ∀ x e, G.lookup x = some e → ∃ v, Rd env rd x v ∧ e.ok Z ow x v
theorem EnvOk.up {G : Gam} {env : Env} {own own' ow ow' : List Res} (h : EnvOk G env Z own ow) (z : Z.le Z') (hs : ∀ r ∈ own, r ∈ own') (hw : ∀ r ∈ ow, r ∈ ow') : EnvOk G env Z' own' ow' := fun x e q => by
  obtain ⟨v, r, k⟩ := h x e q
  refine ⟨v, ?_, Ent.up (e := e) z hw k⟩
  rcases r with ⟨a, m, b, c⟩ | ⟨a, c, b, d⟩
  · exact .inl ⟨a, m, hs _ b, c⟩
  · exact .inr ⟨a, c, b, hs _ d⟩
theorem EnvOk.z {G : Gam} {env : Env} {ow : List Res} (h : EnvOk G env Z own ow) (z : Z.le Z') : EnvOk G env Z' own ow := h.up z (fun _ q => q) fun _ q => q
noncomputable def GSub (G' G : Gam) : Prop := ∀ x e, G'.lookup x = some e → G.lookup x = some e
theorem EnvOk.sub {G G' : Gam} {env : Env} {ow : List Res} (h : EnvOk G env Z own ow) (g : GSub G' G) : EnvOk G' env Z own ow := fun x e q => h x e (g x e q)
structure EnvIs (sc : Scope) (env : Env) : Prop where
  sceq : env.scope = sc
  kind : sc.kind = .function
  g : env.globals = mainGlobals
  b : env.builtins = builtinsNs
noncomputable def Ev (C : Cx) (n : Nat) (sc : Scope) (G : Gam) (e : Expr) (P : VP) : Prop :=
  ∀ (A : Around) (Z : Fz) (own : List Res) (env : Env) (s : Shared) (E : Value → Shared → Prop), Room n A → EnvIs sc env → Inv C Z own s → EnvOk G env Z own own →
    wpAny C.M A (eval e env) (Post C Z own P) E s
noncomputable def PostO (C : Cx) (Z : Fz) (own : List Res) (U : UP) (v : Value) (s' : Shared) : Prop :=
  ∃ Z' a o, Z.le Z' ∧ Inv C Z' own s' ∧ v = .ref a ∧ (Z' a = some o ∨ ∃ x, Res.ob x a o ∈ own) ∧ U.ok Z' o ∧ Nm a
noncomputable def EvO (C : Cx) (n : Nat) (sc : Scope) (G : Gam) (e : Expr) (U : UP) : Prop :=
  ∀ (A : Around) (Z : Fz) (own : List Res) (env : Env) (s : Shared) (E : Value → Shared → Prop), Room n A → EnvIs sc env → Inv C Z own s → EnvOk G env Z own own →
    wpAny C.M A (eval e env) (PostO C Z own U) E s
theorem Inv.geto (I : Inv C Z own s) {a : Addr} {o : Obj} (h : Z a = some o ∨ ∃ x, Res.ob x a o ∈ own) : s.heap.get? a = some o := by
  rcases h with h | ⟨x, h⟩
  · exact I.zle _ _ h
  · exact I.ok _ h
variable {n : Nat} {sc : Scope} {G : Gam}
theorem EvO.of {e : Expr} {U : UP} (h : Ev C n sc G e (.of U)) : EvO C n sc G e U := fun A Z own env s E hA hE I g =>
  wpAny_mono (h A Z own env s E hA hE I g) (fun v s' ⟨Z', z, I', a, o, h1, h2, h3, h4⟩ => ⟨Z', a, o, z, I', h1, .inl h2, h3, h4⟩) fun _ _ e => e
theorem kindOf_eq {env : Env} (hE : EnvIs sc env) (x : Str) : env.kindOf x = sc.names.lookup x := by show env.scope.names.lookup x = _; rw [hE.sceq]
theorem rd_load {A : Around} {env : Env} {x : Str} {v : Value} {E : Value → Shared → Prop} {Q : Value → Shared → Prop} (hE : EnvIs sc env) (I : Inv C Z own s) (r : Rd env own x v) (h : Q v s)
    (hn : (x == ("__classdict__" : Str)) = false) : wpAny C.M A (loadName env x) Q E s := by
  have hk : env.scope.kind = .function := by rw [hE.sceq]; exact hE.kind
  rcases r with ⟨a, m, b, c⟩ | ⟨a | a, c, b, d⟩
  · exact wpAny_loadName_local hk a (I.ok _ b) c h
  · exact wpAny_loadName_cell hk a b (I.ok _ d) h
  · exact wpAny_loadName_free hk a b (I.ok _ d) h hn
theorem Ev.name {x : Str} {pos : Pos} {P : VP} (h : G.lookup x = some (.val P)) (hd : ((x == ("__debug__" : Str)) || (x == ("__classdict__" : Str))) = false := by rfl) : Ev C n sc G (.Name x pos) P := fun A Z own env s E hA hE I g => by
  obtain ⟨v, r, k⟩ := g x _ h
  rw [Bool.or_eq_false_iff] at hd
  exact wpAny_Name (rd_load hE I r (Post.here I k) hd.2) hd.1
theorem EvO.name {x : Str} {pos : Pos} {U : UP} (h : G.lookup x = some (.own U)) (hd : ((x == ("__debug__" : Str)) || (x == ("__classdict__" : Str))) = false := by rfl) : EvO C n sc G (.Name x pos) U := fun A Z own env s E hA hE I g => by
  obtain ⟨v, r, c, o, h1, h2, h3, h4⟩ := g x _ h
  rw [Bool.or_eq_false_iff] at hd
  exact wpAny_Name (rd_load hE I r ⟨Z, c, o, .rfl, I, h1, .inr ⟨x, h2⟩, h3, h4⟩ hd.2) hd.1
theorem glob_load {A : Around} {env : Env} {x : Str} {v : Value} {E : Value → Shared → Prop} {Q : Value → Shared → Prop} (hE : EnvIs sc env) (I : Inv C Z own s) (hk : sc.names.lookup x = some .globalImplicit)
    (hv : (C.mg x).or (C.mb x) = some v) (h : Q v s) : wpAny C.M A (loadName env x) Q E s := by
  have hk1 : env.scope.kind = .function := by rw [hE.sceq]; exact hE.kind
  have hk2 : env.kindOf x = some .globalImplicit := by rw [kindOf_eq hE]; exact hk
  unfold loadName
  simp only [Env.blockKind, hk1, hk2, ScopeKind.isAnnotationScope, Bool.false_and, Bool.false_eq_true, if_false]
  unfold loadGlobal
  rw [hE.g, hE.b]
  refine wpAny_bind (wpAny_nsGet I.g ?_)
  cases hm : C.mg x with
  | some u => rw [hm] at hv; cases hv; exact wpAny_pure h
  | none =>
    rw [hm] at hv
    refine wpAny_bind (wpAny_nsGet I.b ?_)
    rw [show C.mb x = some v from hv]
    exact wpAny_pure h
theorem Ev.glob {x : Str} {pos : Pos} {v : Value} (hv : (C.mg x).or (C.mb x) = some v) (hk : sc.names.lookup x = some .globalImplicit := by rfl) (hd : (x == ("__debug__" : Str)) = false := by rfl) : Ev C n sc G (.Name x pos) (.is v) := fun A Z own env s E hA hE I g =>
  wpAny_Name (glob_load hE I hk hv (Post.here I rfl)) hd
theorem Ev.cint {i : Int} {k : Nat} {pos : Pos} : Ev C n sc G (.Constant (.int i) k pos) (.int i) := fun A Z own env s E hA hE I g =>
  wpAny_Constant_int (Post.here (I.tok _) ⟨_, rfl⟩)
theorem Ev.cstr {i : Str} {k : Nat} {pos : Pos} : Ev C n sc G (.Constant (.str i) k pos) (.str i) := fun A Z own env s E hA hE I g =>
  fun _ _ _ => Post.here (I.tok _) ⟨_, rfl⟩
theorem Ev.cbool {b : Bool} {k : Nat} {pos : Pos} : Ev C n sc G (.Constant (.bool b) k pos) (.bool b) := fun A Z own env s E hA hE I g =>
  fun _ _ _ => Post.here I rfl
theorem Ev.cnone {k : Nat} {pos : Pos} : Ev C n sc G (.Constant .none k pos) .none := fun A Z own env s E hA hE I g =>
  fun _ _ _ => Post.here I rfl
noncomputable def Op1 (C : Cx) (n : Nat) (P : VP) (t : Value → Sem Value) (R : VP) : Prop :=
  ∀ (A : Around) (Z : Fz) (own : List Res) (s : Shared) (a : Value) (E : Value → Shared → Prop), Room n A → Inv C Z own s → P.ok Z a → wpAny C.M A (t a) (Post C Z own R) E s
noncomputable def Op2 (C : Cx) (n : Nat) (P Q : VP) (t : Value → Value → Sem Value) (R : VP) : Prop :=
  ∀ (A : Around) (Z : Fz) (own : List Res) (s : Shared) (a b : Value) (E : Value → Shared → Prop), Room n A → Inv C Z own s → P.ok Z a → Q.ok Z b → wpAny C.M A (t a b) (Post C Z own R) E s
noncomputable def Op2O (C : Cx) (n : Nat) (P : VP) (U : UP) (t : Value → Value → Sem Value) (R : VP) : Prop :=
  ∀ (A : Around) (Z : Fz) (own : List Res) (s : Shared) (a : Value) (b : Addr) (o : Obj) (E : Value → Shared → Prop), Room n A → Inv C Z own s → P.ok Z a → s.heap.get? b = some o → U.ok Z o → Nm b → wpAny C.M A (t a (.ref b)) (Post C Z own R) E s
theorem Ev.binop {l r : Expr} {op : Operator} {pos : Pos} {P Q R : VP} (hl : Ev C n sc G l P) (hr : Ev C n sc G r Q) (ho : Op2 C n P Q (binaryOp op) R) : Ev C n sc G (.BinOp l op r pos) R := fun A Z own env s E hA hE I g => by
  refine wpAny_BinOp (wpAny_mono (hl A Z own env s E hA hE I g) (fun a s1 ⟨Z1, z1, I1, p1⟩ => ?_) fun _ _ e => e)
  refine wpAny_mono (hr A Z1 own env s1 E hA hE I1 (g.z z1)) (fun b s2 ⟨Z2, z2, I2, p2⟩ => ?_) fun _ _ e => e
  exact wpAny_mono (ho A Z2 own s2 a b E hA I2 (P.mono z2 p1) p2) (fun v s3 h3 => h3.more (z1.trans z2)) fun _ _ e => e
theorem Ev.cmp {l r : Expr} {op : CmpOp} {pos : Pos} {P Q R : VP} (hl : Ev C n sc G l P) (hr : Ev C n sc G r Q) (ho : Op2 C n P Q (compareOp op) R) (hm : behindInMarks op r = false := by with_unfolding_all rfl) : Ev C n sc G (.Compare l [op] [r] pos) R := fun A Z own env s E hA hE I g => by
  refine wpAny_Compare1 (wpAny_mono (hl A Z own env s E hA hE I g) (fun a s1 ⟨Z1, z1, I1, p1⟩ => ?_) fun _ _ e => e) hm
  refine wpAny_mono (hr A Z1 own env s1 E hA hE I1 (g.z z1)) (fun b s2 ⟨Z2, z2, I2, p2⟩ => ?_) fun _ _ e => e
  exact wpAny_mono (ho A Z2 own s2 a b E hA I2 (P.mono z2 p1) p2) (fun v s3 h3 => h3.more (z1.trans z2)) fun _ _ e => e
noncomputable def Tst (C : Cx) (n : Nat) (sc : Scope) (G : Gam) (e : Expr) (b : Bool) : Prop :=
  ∀ (A : Around) (Z : Fz) (own : List Res) (env : Env) (s : Shared) (E : Value → Shared → Prop), Room n A → EnvIs sc env → Inv C Z own s → EnvOk G env Z own own →
    wpAny C.M A (isTrue e env (eval e env)) (fun r s' => r = b ∧ ∃ Z', Z.le Z' ∧ Inv C Z' own s') E s
theorem Tst.cmp {l r : Expr} {op : CmpOp} {pos : Pos} {P Q : VP} {b : Bool} (hl : Ev C n sc G l P) (hr : Ev C n sc G r Q) (ho : Op2 C n P Q (compareOp op) (.bool b)) (hm : behindInMarks op r = false := by with_unfolding_all rfl) : Tst C n sc G (.Compare l [op] [r] pos) b := fun A Z own env s E hA hE I g => by
  refine wpAny_isTrue_Compare1 (wpAny_mono (hl A Z own env s E hA hE I g) (fun a s1 ⟨Z1, z1, I1, p1⟩ => ?_) fun _ _ e => e) hm
  refine wpAny_mono (hr A Z1 own env s1 E hA hE I1 (g.z z1)) (fun c s2 ⟨Z2, z2, I2, p2⟩ => ?_) fun _ _ e => e
  refine wpAny_mono (ho A Z2 own s2 a c E hA I2 (P.mono z2 p1) p2) (fun v s3 ⟨Z3, z3, I3, p3⟩ => ?_) fun _ _ e => e
  subst p3
  exact wpAny_truthy_bool ⟨rfl, Z3, (z1.trans z2).trans z3, I3⟩
theorem Tst.cmpO {l r : Expr} {op : CmpOp} {pos : Pos} {P : VP} {U : UP} {b : Bool} (hl : Ev C n sc G l P) (hr : EvO C n sc G r U) (ho : Op2O C n P U (compareOp op) (.bool b)) (hm : behindInMarks op r = false := by with_unfolding_all rfl) : Tst C n sc G (.Compare l [op] [r] pos) b := fun A Z own env s E hA hE I g => by
  refine wpAny_isTrue_Compare1 (wpAny_mono (hl A Z own env s E hA hE I g) (fun a s1 ⟨Z1, z1, I1, p1⟩ => ?_) fun _ _ e => e) hm
  refine wpAny_mono (hr A Z1 own env s1 E hA hE I1 (g.z z1)) (fun c s2 ⟨Z2, a2, o2, z2, I2, e2, p2, u2, n2⟩ => ?_) fun _ _ e => e
  subst e2
  refine wpAny_mono (ho A Z2 own s2 a a2 o2 E hA I2 (P.mono z2 p1) (I2.geto p2) u2 n2) (fun v s3 ⟨Z3, z3, I3, p3⟩ => ?_) fun _ _ e => e
  subst p3
  exact wpAny_truthy_bool ⟨rfl, Z3, (z1.trans z2).trans z3, I3⟩
end Mine
end

section
open PySem PySem.W PyProof.Rows
set_option autoImplicit false
namespace Mine
variable {C : Cx} {Z Z' : Fz} {own mine R : List Res} {s : Shared} {n : Nat} {sc : Scope} {G : Gam}
structure Out where
  next : Gam → Prop := fun _ => False
  ret : VP → Prop := fun _ => False
  brk : Gam → Prop := fun _ => False
  cont : Gam → Prop := fun _ => False
noncomputable def OutOk (O : Out) (env : Env) (Z : Fz) (own ow : List Res) : Flow → Prop
  | .next => ∃ G', O.next G' ∧ EnvOk G' env Z own ow
  | .ret v => ∃ P, O.ret P ∧ P.ok Z v
  | .brk => ∃ G', O.brk G' ∧ EnvOk G' env Z own ow
  | .cont => ∃ G', O.cont G' ∧ EnvOk G' env Z own ow
structure StOk (W : Str → Prop) (env : Env) (mine : List Res) : Prop where
  ns : ∃ m, Res.ns env.locals m ∈ mine
  cells : ∀ x, W x → ∃ c v, env.cells.lookup x = some c ∧ Res.cell c v ∈ mine
  inj : ∀ x y c, W y → env.cells.lookup x = some c → env.cells.lookup y = some c → x = y
noncomputable def IsCellOf (sc : Scope) (x : Str) : Prop := sc.names.lookup x = some .cell
noncomputable def PostS (C : Cx) (Z : Fz) (R : List Res) (sc : Scope) (env : Env) (O : Out) (fl : Flow) (s' : Shared) : Prop :=
  ∃ Z' mine', Z.le Z' ∧ Inv C Z' (mine' ++ R) s' ∧ StOk (IsCellOf sc) env mine' ∧ OutOk O env Z' (mine' ++ R) mine' fl
noncomputable def Ex (C : Cx) (n : Nat) (sc : Scope) (G : Gam) (ss : List Stmt) (O : Out) : Prop :=
  ∀ (A : Around) (Z : Fz) (mine R : List Res) (env : Env) (s : Shared) (E : Value → Shared → Prop), Room n A → EnvIs sc env → Inv C Z (mine ++ R) s → StOk (IsCellOf sc) env mine → EnvOk G env Z (mine ++ R) mine →
    wpAny C.M A (execs ss env) (PostS C Z R sc env O) E s
theorem PostS.more {env : Env} {O : Out} {fl : Flow} (z : Z.le Z') (h : PostS C Z' R sc env O fl s) : PostS C Z R sc env O fl s :=
  let ⟨Z'', m, a, b⟩ := h; ⟨Z'', m, z.trans a, b⟩
theorem EnvOk.ev {env : Env} (g : EnvOk G env Z (mine ++ R) mine) : EnvOk G env Z (mine ++ R) (mine ++ R) := g.up .rfl (fun _ h => h) fun _ h => List.mem_append_left _ h
noncomputable def owl (f : Bool) (mine R : List Res) : List Res := if f = true then mine else mine ++ R
theorem owl_sub {f : Bool} {r : Res} (h : r ∈ owl f mine R) : r ∈ mine ++ R := by
  unfold owl at h; split at h
  · exact List.mem_append_left _ h
  · exact h
theorem EnvOk.ow {env : Env} {f : Bool} (g : EnvOk G env Z (mine ++ R) (owl f mine R)) : EnvOk G env Z (mine ++ R) (mine ++ R) := g.up .rfl (fun _ h => h) fun _ h => owl_sub h
theorem Inv.turnM (I : Inv C Z (mine ++ R) s) {r : Res} {h' : Heap} {tk : Nat} (hm : r.addr ∈ mine.map Res.addr) (h1 : r.ok h') (k : ∀ b o, b ≠ r.addr → s.heap.get? b = some o → h'.get? b = some o) :
    Inv C Z (setRes r mine ++ R) { s with heap := h', toks := tk } := by
  have J := I.turn (tk := tk) (r := r) (by rw [List.map_append]; exact List.mem_append_left _ hm) h1 k
  rw [setRes_append, setRes_off (own := R)] at J
  · exact J
  · have nd := I.nd
    rw [List.map_append, List.nodup_append] at nd
    exact fun h => nd.2.2 _ hm _ h rfl
theorem lookup_cons_eq {β : Type} {x : Str} {e : β} {G : List (Str × β)} : ((x, e) :: G).lookup x = some e := by rw [List.lookup_cons]; simp
theorem lookup_cons_ne {β : Type} {x y : Str} {e : β} {G : List (Str × β)} (h : y ≠ x) : ((x, e) :: G).lookup y = G.lookup y := by
  rw [List.lookup_cons, beq_false_of_ne h]
theorem st_storeF (f : Bool) (F : List Res) {W : Str → Prop} {A : Around} {env : Env} {x : Str} {v : Value} {e : Ent} {E : Value → Shared → Prop} {Q : Unit → Shared → Prop} (hE : EnvIs sc env) (I : Inv C Z (mine ++ (F ++ R)) s) (S : StOk W env mine) (g : EnvOk G env Z (mine ++ R) (owl f mine R))
    (hx : sc.names.lookup x = some .local ∨ (sc.names.lookup x = some .cell ∧ W x)) (he : e.ok Z (owl f mine R) x v)
    (h : ∀ mine' s', Inv C Z (mine' ++ (F ++ R)) s' → StOk W env mine' → EnvOk ((x, e) :: G) env Z (mine' ++ R) (owl f mine' R) → (∀ y a o, Res.ob y a o ∈ mine → Res.ob y a o ∈ mine') → Q () s') :
    wpAny C.M A (storeName env x v) Q E s := by
  have hk1 : env.scope.kind = .function := by rw [hE.sceq]; exact hE.kind
  have hin : ∀ r ∈ mine, r ∈ mine ++ (F ++ R) := fun r h => List.mem_append_left _ h
  have hinR : ∀ r ∈ mine ++ R, r ∈ mine ++ (F ++ R) := fun r h => by
    rcases List.mem_append.mp h with q | q
    · exact List.mem_append_left _ q
    · exact List.mem_append_right _ (List.mem_append_right _ q)
  -- what holds of any entry r that is turned
  have core : ∀ (r : Res) (s' : Shared), r.addr ∈ mine.map Res.addr → (∀ q ∈ mine ++ R, q.addr = r.addr → ∀ y a o, q ≠ .ob y a o) → Inv C Z (setRes r mine ++ (F ++ R)) s' →
      (∀ q ∈ mine ++ R, q.addr ≠ r.addr → q ∈ setRes r mine ++ R) ∧ (∀ y a o, Res.ob y a o ∈ owl f mine R → Res.ob y a o ∈ owl f (setRes r mine) R) ∧ (∀ y a o, Res.ob y a o ∈ mine → Res.ob y a o ∈ setRes r mine) := by
    intro r s' hm hq J
    have one : ∀ q ∈ mine ++ R, q.addr ≠ r.addr → q ∈ setRes r mine ++ R := fun q hq hne => by
      rcases List.mem_append.mp hq with a | a
      · exact List.mem_append_left _ (mem_setRes a hne)
      · exact List.mem_append_right _ a
    have two : ∀ y a o, Res.ob y a o ∈ mine → Res.ob y a o ∈ setRes r mine := fun y a o hm' => mem_setRes hm' fun e => hq _ (List.mem_append_left _ hm') e y a o rfl
    refine ⟨one, fun y a o hm' => ?_, two⟩
    unfold owl at hm' ⊢
    split
    · rename_i h; rw [if_pos h] at hm'; exact two y a o hm'
    · rename_i h; rw [if_neg h] at hm'; exact one _ hm' fun e => hq _ hm' e y a o rfl
  rcases hx with hx | ⟨hx, hw⟩
  · obtain ⟨m, hm⟩ := S.ns
    have hl : env.kindOf x = some .local := by rw [kindOf_eq hE]; exact hx
    refine wpAny_storeName_local hl (I.ok _ (hin _ hm)) (fun h' hn hs => ?_) (by rw [hk1]; rfl)
    have hmm : env.locals ∈ mine.map Res.addr := List.mem_map.mpr ⟨_, hm, rfl⟩
    have hself : Res.ns env.locals (fun y => if y = x then some v else m y) ∈ setRes (.ns env.locals fun y => if y = x then some v else m y) mine := self_setRes hmm
    have J := I.turnM (r := .ns env.locals fun y => if y = x then some v else m y) (tk := s.toks + 1) hmm hn fun b o hb q => (hs.2 b hb).trans q
    have uniq : ∀ q ∈ mine ++ R, q.addr = env.locals → q = .ns env.locals m := fun q hq e => I.same (hinR _ hq) (hin _ hm) e
    obtain ⟨one, obs, obs'⟩ := core (.ns env.locals fun y => if y = x then some v else m y) _ hmm (fun q hq e y a o e' => by have := uniq q hq e; rw [e'] at this; cases this) J
    have hce : ∀ c v, Res.cell c v ∈ mine ++ R → c ≠ env.locals := fun c v hm' q => by have := uniq _ hm' q; cases this
    refine h _ _ J ⟨⟨_, hself⟩, fun y hy => ?_, S.inj⟩ (fun y e' hy => ?_) obs'
    · obtain ⟨c, v', h1, h2⟩ := S.cells y hy
      exact ⟨c, v', h1, mem_setRes h2 (hce _ _ (List.mem_append_left _ h2))⟩
    · by_cases hyx : y = x
      · subst hyx
        rw [lookup_cons_eq] at hy; cases hy
        refine ⟨v, .inl ⟨hl, _, List.mem_append_left _ hself, if_pos rfl⟩, ?_⟩
        cases e with
        | val P => exact he
        | own U => obtain ⟨c, o, h1, h2, h3, h4⟩ := he; exact ⟨c, o, h1, obs _ _ _ h2, h3, h4⟩
      · rw [lookup_cons_ne hyx] at hy
        obtain ⟨v', r, k⟩ := g y e' hy
        refine ⟨v', ?_, ?_⟩
        · rcases r with ⟨a, m1, b, c⟩ | ⟨a, c, b, d⟩
          · have : m1 = m := by have := uniq _ b rfl; cases this; rfl
            subst this
            exact .inl ⟨a, _, List.mem_append_left _ hself, by rw [if_neg hyx]; exact c⟩
          · exact .inr ⟨a, c, b, one _ d (hce _ _ d)⟩
        · cases e' with
          | val P => exact k
          | own U => obtain ⟨c, o, h1, h2, h3, h4⟩ := k; exact ⟨c, o, h1, obs _ _ _ h2, h3, h4⟩
  · obtain ⟨c0, v0, hc0, hm⟩ := S.cells x hw
    have hl : env.kindOf x = some .cell := by rw [kindOf_eq hE]; exact hx
    refine wpAny_storeName_cell hk1 hl hc0 (I.ok _ (hin _ hm)) (fun h' hn hs => ?_)
    have hmm : c0 ∈ mine.map Res.addr := List.mem_map.mpr ⟨_, hm, rfl⟩
    have hself : Res.cell c0 (some v) ∈ setRes (.cell c0 (some v)) mine := self_setRes hmm
    have J := I.turnM (r := .cell c0 (some v)) (tk := s.toks) hmm hn fun b o hb q => (hs.2 b hb).trans q
    have uniq : ∀ q ∈ mine ++ R, q.addr = c0 → q = .cell c0 v0 := fun q hq e => I.same (hinR _ hq) (hin _ hm) e
    obtain ⟨one, obs, obs'⟩ := core (.cell c0 (some v)) _ hmm (fun q hq e y a o e' => by have := uniq q hq e; rw [e'] at this; cases this) J
    have hns : ∀ a m, Res.ns a m ∈ mine ++ R → a ≠ c0 := fun c v hm' q => by have := uniq _ hm' q; cases this
    refine h _ _ J ⟨?_, fun y hy => ?_, S.inj⟩ (fun y e' hy => ?_) obs'
    · obtain ⟨m, hm'⟩ := S.ns
      exact ⟨m, mem_setRes hm' (hns _ _ (List.mem_append_left _ hm'))⟩
    · by_cases hyx : y = x
      · subst hyx; exact ⟨c0, _, hc0, hself⟩
      · obtain ⟨c, v', h1, h2⟩ := S.cells y hy
        exact ⟨c, v', h1, mem_setRes h2 fun q => hyx (S.inj y x c0 hw (by rw [h1]; exact congrArg some q) hc0)⟩
    · by_cases hyx : y = x
      · subst hyx
        rw [lookup_cons_eq] at hy; cases hy
        refine ⟨v, .inr ⟨.inl hl, c0, hc0, List.mem_append_left _ hself⟩, ?_⟩
        cases e with
        | val P => exact he
        | own U => obtain ⟨c, o, h1, h2, h3, h4⟩ := he; exact ⟨c, o, h1, obs _ _ _ h2, h3, h4⟩
      · rw [lookup_cons_ne hyx] at hy
        obtain ⟨v', r, k⟩ := g y e' hy
        refine ⟨v', ?_, ?_⟩
        · rcases r with ⟨a, m1, b, c⟩ | ⟨a, c, b, d⟩
          · exact .inl ⟨a, _, one _ b (hns _ _ b), c⟩
          · exact .inr ⟨a, c, b, one _ d fun q => hyx (S.inj y x c0 hw (by rw [b]; exact congrArg some q) hc0)⟩
        · cases e' with
          | val P => exact k
          | own U => obtain ⟨c, o, h1, h2, h3, h4⟩ := k; exact ⟨c, o, h1, obs _ _ _ h2, h3, h4⟩
theorem st_store (f : Bool) {W : Str → Prop} {A : Around} {env : Env} {x : Str} {v : Value} {e : Ent} {E : Value → Shared → Prop} {Q : Unit → Shared → Prop} (hE : EnvIs sc env) (I : Inv C Z (mine ++ R) s) (S : StOk W env mine) (g : EnvOk G env Z (mine ++ R) (owl f mine R))
    (hx : sc.names.lookup x = some .local ∨ (sc.names.lookup x = some .cell ∧ W x)) (he : e.ok Z (owl f mine R) x v)
    (h : ∀ mine' s', Inv C Z (mine' ++ R) s' → StOk W env mine' → EnvOk ((x, e) :: G) env Z (mine' ++ R) (owl f mine' R) → (∀ y a o, Res.ob y a o ∈ mine → Res.ob y a o ∈ mine') → Q () s') :
    wpAny C.M A (storeName env x v) Q E s := st_storeF f [] hE I S g hx he h
theorem Ex.nil {O : Out} {G' : Gam} (h : O.next G') (hs : GSub G' G) : Ex C n sc G [] O := fun A Z mine R env s E hA hE I S g =>
  wpAny_execs_nil ⟨Z, mine, .rfl, I, S, G', h, g.sub hs⟩
theorem Ex.weak {ss : List Stmt} {O : Out} {G' : Gam} (h : Ex C n sc G' ss O) (hs : GSub G' G) : Ex C n sc G ss O := fun A Z mine R env s E hA hE I S g =>
  h A Z mine R env s E hA hE I S (g.sub hs)
noncomputable def OutLe (O O' : Out) : Prop := (∀ G, O.next G → O'.next G) ∧ (∀ P, O.ret P → O'.ret P) ∧ (∀ G, O.brk G → O'.brk G) ∧ (∀ G, O.cont G → O'.cont G)
theorem OutOk.le {O O' : Out} (h : OutLe O O') {env : Env} {ow : List Res} : ∀ {fl : Flow}, OutOk O env Z own ow fl → OutOk O' env Z own ow fl
  | .next, ⟨G', a, b⟩ => ⟨G', h.1 _ a, b⟩
  | .ret v, ⟨P, a, b⟩ => ⟨P, h.2.1 _ a, b⟩
  | .brk, ⟨G', a, b⟩ => ⟨G', h.2.2.1 _ a, b⟩
  | .cont, ⟨G', a, b⟩ => ⟨G', h.2.2.2 _ a, b⟩
theorem Ex.out {ss : List Stmt} {O O' : Out} (h : Ex C n sc G ss O) (ho : OutLe O O') : Ex C n sc G ss O' := fun A Z mine R env s E hA hE I S g =>
  wpAny_mono (h A Z mine R env s E hA hE I S g) (fun fl s' ⟨Z', m, a, b, c, d⟩ => ⟨Z', m, a, b, c, d.le ho⟩) fun _ _ e => e
noncomputable def ExS (C : Cx) (n : Nat) (sc : Scope) (G : Gam) (st : Stmt) (O : Out) : Prop :=
  ∀ (A : Around) (Z : Fz) (mine R : List Res) (env : Env) (s : Shared) (E : Value → Shared → Prop), Room n A → EnvIs sc env → Inv C Z (mine ++ R) s → StOk (IsCellOf sc) env mine → EnvOk G env Z (mine ++ R) mine →
    wpAny C.M A (exec st env) (PostS C Z R sc env O) E s
theorem Ex.cons {st : Stmt} {ss : List Stmt} {O : Out} {N : Gam → Prop} (h : ExS C n sc G st { O with next := N }) (k : ∀ G', N G' → Ex C n sc G' ss O) : Ex C n sc G (st :: ss) O := fun A Z mine R env s E hA hE I S g => by
  refine wpAny_execs_cons (wpAny_mono (h A Z mine R env s E hA hE I S g) (fun fl s' h' => ?_) fun _ _ e => e)
  obtain ⟨Z', m, a, b, c, d⟩ := h'
  cases fl with
  | next =>
    obtain ⟨G', e1, e2⟩ := d
    exact wpAny_mono (k G' e1 A Z' m R env s' E hA hE b c e2) (fun fl s'' h'' => h''.more a) fun _ _ e => e
  | ret v => exact ⟨Z', m, a, b, c, d⟩
  | brk => exact ⟨Z', m, a, b, c, d⟩
  | cont => exact ⟨Z', m, a, b, c, d⟩
theorem Ex.cons1 {st : Stmt} {ss : List Stmt} {O : Out} {G' : Gam} (h : ExS C n sc G st { O with next := fun X => X = G' }) (k : Ex C n sc G' ss O) : Ex C n sc G (st :: ss) O :=
  Ex.cons h fun X e => by subst e; exact k
theorem stable {x : Str} (hx : (sc.names.lookup x == some .local || sc.names.lookup x == some .cell) = true) : sc.names.lookup x = some .local ∨ (sc.names.lookup x = some .cell ∧ IsCellOf sc x) := by
  rcases Bool.or_eq_true_iff.mp hx with q | q
  · exact .inl (by simpa using q)
  · have q' : sc.names.lookup x = some .cell := by simpa using q
    exact .inr ⟨q', q'⟩
theorem ExS.assign {x : Str} {e : Expr} {p p' : Pos} {P : VP} {O : Out} (h : Ev C n sc G e P) (ho : O.next ((x, .val P) :: G)) (hx : (sc.names.lookup x == some .local || sc.names.lookup x == some .cell) = true)
    (hs : ∀ env, EnvIs sc env → swapsWith e (some (.Name x p')) p.line env = pure false) : ExS C n sc G (.Assign [.Name x p'] e p) O := fun A Z mine R env s E hA hE I S g => by
  refine wpAny_Assign_Name (wpAny_mono (h A Z _ env s E hA hE I g.ev) (fun v s1 ⟨Z1, z1, I1, p1⟩ => ?_) fun _ _ e => e) (hs env hE)
  refine st_store true (e := .val P) hE I1 S (g.z z1) (stable hx) p1 fun m' s' I' S' g' ob => ?_
  exact ⟨Z1, m', z1, I', S', _, ho, g'⟩
theorem ExS.ret {e : Expr} {p : Pos} {P : VP} {O : Out} (h : Ev C n sc G e P) (ho : O.ret P) : ExS C n sc G (.Return (some e) p) O := fun A Z mine R env s E hA hE I S g => by
  refine wpAny_Return_some (wpAny_mono (h A Z _ env s E hA hE I g.ev) (fun v s1 ⟨Z1, z1, I1, p1⟩ => ?_) fun _ _ e => e)
  exact ⟨Z1, mine, z1, I1, S, P, ho, p1⟩
theorem ExS.ite {t : Expr} {a b : List Stmt} {p : Pos} {c : Bool} {O : Out} (h : Tst C n sc G t c) (h1 : c = true → Ex C n sc G a O) (h2 : c = false → Ex C n sc G b O) : ExS C n sc G (.If t a b p) O := fun A Z mine R env s E hA hE I S g => by
  refine wpAny_If (wpAny_mono (h A Z _ env s E hA hE I g.ev) (fun r s1 ⟨q, Z1, z1, I1⟩ => ?_) fun _ _ e => e)
  subst q
  cases r with
  | true => simp only [if_true]; exact wpAny_mono (h1 rfl A Z1 mine R env s1 E hA hE I1 S (g.z z1)) (fun fl s'' h'' => h''.more z1) fun _ _ e => e
  | false => simp only [Bool.false_eq_true, if_false]; exact wpAny_mono (h2 rfl A Z1 mine R env s1 E hA hE I1 S (g.z z1)) (fun fl s'' h'' => h''.more z1) fun _ _ e => e
theorem zip_lookup {xs : List Str} {ps : List VP} {vs : List Value} (h : Oks Z ps vs) (hl : xs.length = ps.length) : ∀ {x : Str} {e : Ent}, (xs.zip (ps.map Ent.val)).lookup x = some e → ∃ P v, e = .val P ∧ (xs.zip vs).lookup x = some v ∧ P.ok Z v := by
  induction h generalizing xs with
  | nil => intro x e q; simp at q
  | @cons p v ps vs a _ ih =>
    intro x e q
    cases xs with
    | nil => simp at q
    | cons y ys =>
      simp only [List.map_cons, List.zip_cons_cons] at q ⊢
      by_cases hy : x = y
      · subst hy; rw [lookup_cons_eq] at q; cases q; exact ⟨p, v, rfl, lookup_cons_eq, a⟩
      · rw [lookup_cons_ne hy] at q
        obtain ⟨P, u, h1, h2, h3⟩ := ih (by simpa using hl) q
        exact ⟨P, u, h1, by rw [lookup_cons_ne hy]; exact h2, h3⟩
theorem bindL_spec (k : Str → Option NameKind) : ∀ (bs : List (Str × Value)) (m : Str → Option Value) (x : Str), (bs.map Prod.fst).Nodup → bindL k bs m x = if k x = some .local then (bs.lookup x).or (m x) else m x
  | [], m, x, _ => by simp [bindL]
  | (y, v) :: r, m, x, nd => by
    rw [List.map_cons, List.nodup_cons] at nd
    rw [bindL, bindL_spec k r _ x nd.2]
    by_cases hk : k x = some .local
    · rw [if_pos hk, if_pos hk]
      by_cases hxy : x = y
      · subst hxy
        rw [lookup_cons_eq, if_pos hk]
        have : r.lookup x = none := by
          rw [List.lookup_eq_none_iff]; intro p hp; simpa using fun q => nd.1 (List.mem_map.mpr ⟨p, hp, q.symm⟩)
        simp [this]
      · rw [lookup_cons_ne hxy]
        congr 1
        split
        · simp [hxy]
        · rfl
    · rw [if_neg hk, if_neg hk]
      split
      · rename_i h; have : x ≠ y := fun q => hk (q ▸ h)
        simp [this]
      · rfl
theorem bindC_spec (k : Str → Option NameKind) : ∀ (bs : List (Str × Value)) (m : Str → Option Value) (x : Str), (bs.map Prod.fst).Nodup → bindC k bs m x = if k x = some .local then m x else (bs.lookup x).or (m x)
  | [], m, x, _ => by simp [bindC]
  | (y, v) :: r, m, x, nd => by
    rw [List.map_cons, List.nodup_cons] at nd
    rw [bindC, bindC_spec k r _ x nd.2]
    by_cases hk : k x = some .local
    · rw [if_pos hk, if_pos hk]
      split
      · rfl
      · rename_i h; have : x ≠ y := fun q => h (q ▸ hk)
        simp [this]
    · rw [if_neg hk, if_neg hk]
      by_cases hxy : x = y
      · subst hxy
        rw [lookup_cons_eq, if_neg hk]
        have : r.lookup x = none := by
          rw [List.lookup_eq_none_iff]; intro p hp; simpa using fun q => nd.1 (List.mem_map.mpr ⟨p, hp, q.symm⟩)
        simp [this]
      · rw [lookup_cons_ne hxy]
        congr 1
        split
        · rfl
        · simp [hxy]
theorem cellsFrom_fst (k : Nat) : ∀ (names : List (Str × NameKind)) (n : Nat) (acc acc' : List (Str × Addr)), acc.map Prod.fst = acc'.map Prod.fst → (cellsFrom n names acc).map Prod.fst = (cellsFrom k names acc').map Prod.fst := by
  intro names
  induction names generalizing k with
  | nil => intro n acc acc' h; exact h
  | cons p r ih =>
    intro n acc acc' h
    obtain ⟨y, kd⟩ := p
    unfold cellsFrom
    split
    · exact ih _ _ _ _ (by simp [h])
    · exact ih _ _ _ _ h
theorem lookup_of_mem {β : Type} {l : List (Str × β)} (nd : (l.map Prod.fst).Nodup) {x : Str} {b : β} (h : (x, b) ∈ l) : l.lookup x = some b := by
  induction l with
  | nil => cases h
  | cons p l ih =>
    obtain ⟨y, c⟩ := p
    rw [List.map_cons, List.nodup_cons] at nd
    rcases List.mem_cons.mp h with q | q
    · cases q; exact lookup_cons_eq
    · have : x ≠ y := fun e => nd.1 (List.mem_map.mpr ⟨_, q, e⟩)
      rw [lookup_cons_ne this]; exact ih nd.2 q
noncomputable def RetOut (r : VP) : Out := { next := fun _ => ∀ Z, r.ok Z .none, ret := fun P => ∀ Z v, P.ok Z v → r.ok Z v }
theorem code_body {A : Around} {vs : List Value} {Rr : Result → Shared → Prop} {f : Addr} {o : Obj} {fd : FuncData} {body : List Stmt} {xs : List Str} {ps : List VP}
    (hK : C.K.lookup f = some o) (hd : o.data = .func fd) (hcd : codeIn C.K fd.code fd.qualname = true) (hb : fd.body = .stmts body) (hbind : ∀ vs : List Value, vs.length = ps.length → bindArgs fd ⟨vs, []⟩ = pure (xs.zip vs))
    (hg : fd.globals = mainGlobals) (hbl : fd.builtins = builtinsNs) (hclo : fd.closure = []) (hlen : xs.length = ps.length) (hxs : xs.Nodup)
    (hkind : (xs.all fun x => fd.scope.names.lookup x == some .local || fd.scope.names.lookup x == some .cell) = true) (hnd : ((cellsFrom 0 fd.scope.names []).map Prod.fst).Nodup)
    (hA : Room (n + 1) A) (I : Inv C Z own s) (hv : Oks Z ps vs)
    (h : ∀ (env : Env) (s₁ : Shared) (mine : List Res), Room n (A.deeper env) → EnvIs fd.scope env → Inv C Z (mine ++ own) s₁ → StOk (IsCellOf fd.scope) env mine → EnvOk (xs.zip (ps.map Ent.val)) env Z mine mine → env.code = fd.code →
      wpAny C.M (A.deeper env) (execs body env) (fun fl s' => Rr (.ok (.ret (match fl with | .ret v => v | _ => .none))) s') (fun e s' => wpAny C.M (A.deeper env) (leaving env e) (fun _ s'' => Rr (.error e) s'') (fun e' s'' => Rr (.error e') s'') s') s₁)
    (hco : fd.scope.isCoroutine = false := by rfl) (hgen : fd.scope.isGenerator = false := by rfl) (hk : fd.scope.kind = .function := by rfl) : codeAny C.M A (.call (.ref f) ⟨vs, []⟩) Rr s := by
  have hvl : vs.length = ps.length := hv.len.symm
  have hz : ((xs.zip vs).map Prod.fst) = xs := by rw [List.map_fst_zip]; omega
  have hkx : ∀ x ∈ xs.zip vs, fd.scope.names.lookup x.1 = some .local ∨ fd.scope.names.lookup x.1 = some .cell := fun x hx => by
    have hx' : x.1 ∈ xs := by rw [← hz]; exact List.mem_map.mpr ⟨x, hx, rfl⟩
    have := List.all_eq_true.mp hkind _ hx'
    rcases Bool.or_eq_true_iff.mp this with q | q
    · exact .inl (by simpa using q)
    · exact .inr (by simpa using q)
  have hcell : ∀ n x, fd.scope.names.lookup x = some .cell → ((cellsFrom n fd.scope.names []).lookup x).isSome = true := fun n x h => cellsFrom_some _ _ _ (.inl h)
  refine codeAny_call_cells hA.depth (I.kin _ _ hK) hd I.nolimit (codeRec_of I.kin hcd) hb (hbind vs hvl) hclo (fun x hx => (hkx x hx).imp id fun q => ⟨q, hcell _ _ q⟩) (fun s₁ X => ?_) hco hgen hk
  -- the new frame
  generalize hL : s.heap.objs.size = L at X ⊢
  generalize hEnv : callEnvC fd L f = env at X ⊢
  have eL : env.locals = L := by rw [← hEnv]; rfl
  have eC : env.cells = cellsFrom (L + 1) fd.scope.names [] := by rw [← hEnv]; rfl
  have eS : env.scope = fd.scope := by rw [← hEnv]; rfl
  have hE : EnvIs fd.scope env := ⟨eS, hk, by rw [← hEnv]; exact hg, by rw [← hEnv]; exact hbl⟩
  have cnd : (env.cells.map Prod.fst).Nodup := by rw [eC, cellsFrom_fst 0 fd.scope.names (L + 1) [] [] rfl]; exact hnd
  obtain ⟨h1, tk1, e1⟩ := X.toInCall.same
  have I1 : Inv C Z own s₁ := by
    have := I.keeps (tk := tk1) (h' := h1) (by have := X.toInCall.keep; rw [e1] at this; exact this)
    rw [e1]; exact this
  let mine : List Res := .ns env.locals (bindL env.kindOf (xs.zip vs) fun _ => none) :: env.cells.map fun p => .cell p.2 (bindC env.kindOf (xs.zip vs) (fun _ => none) p.1)
  have cmem : ∀ p ∈ env.cells, s₁.heap.IsCell p.2 (bindC env.kindOf (xs.zip vs) (fun _ => none) p.1) := fun p hp => X.cell p.1 p.2 (lookup_of_mem cnd hp)
  have hge : ∀ r ∈ mine, L ≤ r.addr := fun r hr => by
    rcases List.mem_cons.mp hr with q | q
    · subst q; exact Nat.le_of_eq eL.symm
    · obtain ⟨p, hp, rfl⟩ := List.mem_map.mp q
      have := X.above p.1 p.2 hp
      rw [eL] at this
      exact Nat.le_of_lt this
  have Inew : Inv C Z (mine ++ own) s₁ := by
    refine ⟨I1.shape, ⟨I1.bare.at_, I1.bare.z, I.bare.news (by rw [hL]; exact hge)⟩, I1.base, I1.zle, fun r hr => ?_, fun r hr => ?_, ?_⟩
    · rcases List.mem_append.mp hr with hr | hr
      · rcases List.mem_cons.mp hr with q | q
        · subst q; exact X.toInCall.ns
        · obtain ⟨p, hp, rfl⟩ := List.mem_map.mp q; exact cmem p hp
      · exact I1.ok r hr
    · rcases List.mem_append.mp hr with hr | hr
      · exact I.znone (by rw [hL]; exact hge r hr)
      · exact I1.off r hr
    · rw [List.map_append, List.nodup_append]
      refine ⟨?_, I1.nd, fun a ha b hb q => ?_⟩
      · show (env.locals :: _).Nodup
        rw [List.nodup_cons]
        constructor
        · intro hm
          obtain ⟨r, hr, e⟩ := List.mem_map.mp hm
          obtain ⟨p, hp, rfl⟩ := List.mem_map.mp hr
          have := X.above p.1 p.2 hp
          exact absurd e.symm (Nat.ne_of_lt this)
        · rw [List.map_map]
          have := X.apart
          exact List.pairwise_map.mpr this
      · obtain ⟨r, hr, rfl⟩ := List.mem_map.mp ha
        refine I.offown (a := r.addr) (by rw [hL]; exact hge r hr) (q ▸ hb)
  have S : StOk (IsCellOf fd.scope) env mine := by
    refine ⟨⟨_, .head _⟩, fun x hx => ?_, fun x y c _ hx hy => ?_⟩
    · have := hcell (L + 1) x hx
      rw [← eC] at this
      obtain ⟨c, hc⟩ := Option.isSome_iff_exists.mp this
      exact ⟨c, _, hc, .tail _ (List.mem_map.mpr ⟨(x, c), mem_of_lookup hc, rfl⟩)⟩
    · exact name_of_addr X.apart (mem_of_lookup hx) (mem_of_lookup hy)
  have nd' : ((xs.zip vs).map Prod.fst).Nodup := by rw [hz]; exact hxs
  have g : EnvOk (xs.zip (ps.map Ent.val)) env Z mine mine := fun x e q => by
    obtain ⟨P, v, rfl, h2, h3⟩ := zip_lookup hv hlen q
    refine ⟨v, ?_, h3⟩
    have hko := kindOf_eq hE x
    rcases hkx (x, v) (mem_of_lookup h2) with k1 | k1
    · refine .inl ⟨by rw [hko]; exact k1, _, .head _, ?_⟩
      rw [bindL_spec _ _ _ _ nd', if_pos (by rw [hko]; exact k1), h2]; rfl
    · have := hcell (L + 1) x k1
      rw [← eC] at this
      obtain ⟨c, hc⟩ := Option.isSome_iff_exists.mp this
      refine .inr ⟨.inl (by rw [hko]; exact k1), c, hc, .tail _ (List.mem_map.mpr ⟨(x, c), mem_of_lookup hc, ?_⟩)⟩
      show Res.cell c (bindC env.kindOf (xs.zip vs) (fun _ => none) x) = _
      rw [bindC_spec _ _ _ _ nd', if_neg (by rw [hko, k1]; decide), h2]; rfl
  exact h env s₁ mine (hA.deeper env) hE Inew S g (by rw [← hEnv]; rfl)
theorem Fn.body {f : Addr} {o : Obj} {fd : FuncData} {body : List Stmt} {xs : List Str} {ps : List VP} {r : VP}
    (hK : C.K.lookup f = some o) (hd : o.data = .func fd) (hcd : codeIn C.K fd.code fd.qualname = true) (hb : fd.body = .stmts body) (hbind : ∀ vs : List Value, vs.length = ps.length → bindArgs fd ⟨vs, []⟩ = pure (xs.zip vs))
    (hg : fd.globals = mainGlobals) (hbl : fd.builtins = builtinsNs) (hclo : fd.closure = []) (hlen : xs.length = ps.length) (hxs : xs.Nodup)
    (hkind : (xs.all fun x => fd.scope.names.lookup x == some .local || fd.scope.names.lookup x == some .cell) = true) (hnd : ((cellsFrom 0 fd.scope.names []).map Prod.fst).Nodup)
    (h : Ex C n fd.scope (xs.zip (ps.map Ent.val)) body (RetOut r))
    (hco : fd.scope.isCoroutine = false := by rfl) (hgen : fd.scope.isGenerator = false := by rfl) (hk : fd.scope.kind = .function := by rfl) : Fn C (n + 1) (.ref f) ps r := fun A Z own s vs E hA I hv => by
  refine wpAny_call (code_body hK hd hcd hb hbind hg hbl hclo hlen hxs hkind hnd hA I hv (fun env s₁ mine hA' hE Inew S g _ => ?_) hco hgen hk)
  refine wpAny_mono (h (A.deeper env) Z mine own env s₁ _ hA' hE Inew S (g.up .rfl (fun _ h => List.mem_append_left _ h) fun _ h => h)) (fun fl s' hl => ?_) fun _ _ e => e
  obtain ⟨Z', m', z, I', _, hf⟩ := hl
  have J := I'.sub (List.sublist_append_right m' own)
  cases fl with
  | ret v => obtain ⟨P, h1, h2⟩ := hf; exact ⟨Z', z, J, h1 _ _ h2⟩
  | next => obtain ⟨G', h1, h2⟩ := hf; exact ⟨Z', z, J, h1 _⟩
  | brk => obtain ⟨G', h1, h2⟩ := hf; exact h1.elim
  | cont => obtain ⟨G', h1, h2⟩ := hf; exact h1.elim
end Mine
end

section
open PySem PySem.W PyProof.Rows
set_option autoImplicit false
namespace Mine
variable {C : Cx} {Z Z' : Fz} {own mine R : List Res} {s : Shared} {n : Nat} {sc : Scope} {G : Gam}
noncomputable def EvA (C : Cx) (n : Nat) (sc : Scope) (G : Gam) (pos : Pos) (es : List Expr) (ps : List VP) : Prop :=
  ∀ (A : Around) (Z : Fz) (own : List Res) (env : Env) (s : Shared) (E : Value → Shared → Prop), Room n A → EnvIs sc env → Inv C Z own s → EnvOk G env Z own own →
    wpAny C.M A (spliced (backTo pos (starEach es env))) (fun vs s' => ∃ Z', Z.le Z' ∧ Inv C Z' own s' ∧ Oks Z' ps vs) E s
theorem EvA.nil {pos : Pos} : EvA C n sc G pos [] [] := fun A Z own env s E hA hE I g => Calls.spliced_nil ⟨Z, .rfl, I, .nil⟩
theorem EvA.cons {pos : Pos} {e : Expr} {es : List Expr} {P : VP} {ps : List VP} (h : Ev C n sc G e P) (hs : EvA C n sc G pos es ps) (he : ∀ env, starEach (e :: es) env = (false, eval e env) :: starEach es env := by intro _; rfl) : EvA C n sc G pos (e :: es) (P :: ps) := fun A Z own env s E hA hE I g => by
  rw [he env]
  refine Calls.spliced_cons (wpAny_mono (h A Z own env s E hA hE I g) (fun v s1 ⟨Z1, z1, I1, p1⟩ => ?_) fun _ _ e => e)
  refine wpAny_mono (hs A Z1 own env s1 E hA hE I1 (g.z z1)) (fun vs s2 ⟨Z2, z2, I2, p2⟩ => ?_) fun _ _ e => e
  exact ⟨Z2, z1.trans z2, I2, .cons (P.mono z2 p1) p2⟩
noncomputable def NoStar (es : List Expr) : Prop := ∀ (pos : Pos) (env : Env), (backTo pos (starEach es env)).any (·.1) = false
theorem evalArgs_of {A : Around} {env : Env} {pos : Pos} {es : List Expr} {f : Value} {E : Value → Shared → Prop} {Q : Args → Shared → Prop} (hn : NoStar es)
    (h : wpAny C.M A (spliced (backTo pos (starEach es env))) (fun vs s' => Q ⟨vs, []⟩ s') E s) : wpAny C.M A (evalArgs f true (backTo pos (starEach es env)) []) Q E s := by
  have hn := hn pos env
  generalize backTo pos (starEach es env) = l at hn h ⊢
  cases l with
  | nil =>
    exact fun Γ p hΓ => PySem.evalArgs_none (h Γ p hΓ) Γ p hΓ
  | cons x r =>
    obtain ⟨st, t⟩ := x
    cases st with
    | true => simp at hn
    | false => exact Calls.evalArgs_plain h
theorem Ev.callF {f : Expr} {es : List Expr} {pos : Pos} {a : Addr} {ps : List VP} {r : VP} (hf : Ev C n sc G f (.is (.ref a))) (hk : keepIn C.K (.ref a) = true) (hs : EvA C n sc G pos es ps) (hn : NoStar es) (hc : Fn C n (.ref a) ps r)
    (he : ∀ env, eval (.Call f es [] pos) env = (do callWith pos (← eval f env) [] (backTo pos (starEach es env)) (backToKw pos (keywordEach [] env))) := by intro _; rfl) : Ev C n sc G (.Call f es [] pos) r := fun A Z own env s E hA hE I g => by
  rw [he env]
  refine wpAny_bind (wpAny_mono (hf A Z own env s E hA hE I g) (fun v s1 ⟨Z1, z1, I1, p1⟩ => ?_) fun _ _ e => e)
  cases (show v = .ref a from p1)
  show wpAny C.M A (callWith pos (.ref a) [] (backTo pos (starEach es env)) []) _ _ _
  refine callWith_of (P := C.K.In) (by rw [hn pos env]; rfl) (fun h X => keeps_K hk h X) (evalArgs_of hn ?_)
  refine wpAny_mono (hs A Z1 own env s1 E hA hE I1 (g.z z1)) (fun vs s2 ⟨Z2, z2, I2, p2⟩ => ?_) fun _ _ e => e
  refine ⟨I2.kin, ?_⟩
  exact wpAny_mono (hc A Z2 own s2 vs E hA I2 p2) (fun v s3 h3 => h3.more (z1.trans z2)) fun _ _ e => e
theorem Ev.callB {f : Expr} {es : List Expr} {pos : Pos} {id : String} {ps : List VP} {r : VP} (hf : Ev C n sc G f (.is (.builtin id))) (hs : EvA C n sc G pos es ps) (hn : NoStar es) (hc : Fn C n (.builtin id) ps r)
    (he : ∀ env, eval (.Call f es [] pos) env = (do callWith pos (← eval f env) [] (backTo pos (starEach es env)) (backToKw pos (keywordEach [] env))) := by intro _; rfl) : Ev C n sc G (.Call f es [] pos) r := fun A Z own env s E hA hE I g => by
  rw [he env]
  refine wpAny_bind (wpAny_mono (hf A Z own env s E hA hE I g) (fun v s1 ⟨Z1, z1, I1, p1⟩ => ?_) fun _ _ e => e)
  cases (show v = .builtin id from p1)
  show wpAny C.M A (callWith pos (.builtin id) [] (backTo pos (starEach es env)) []) _ _ _
  refine Calls.callWith_builtin (hn pos env) (evalArgs_of hn ?_)
  refine wpAny_mono (hs A Z1 own env s1 E hA hE I1 (g.z z1)) (fun vs s2 ⟨Z2, z2, I2, p2⟩ => ?_) fun _ _ e => e
  exact wpAny_mono (hc A Z2 own s2 vs E hA I2 p2) (fun v s3 h3 => h3.more (z1.trans z2)) fun _ _ e => e
theorem Ev.callT {f : Expr} {es : List Expr} {pos : Pos} {id : String} {ps : List VP} {r : VP} (hf : Ev C n sc G f (.is (.type id))) (hs : EvA C n sc G pos es ps) (hn : NoStar es) (hc : Fn C n (.type id) ps r)
    (he : ∀ env, eval (.Call f es [] pos) env = (do callWith pos (← eval f env) [] (backTo pos (starEach es env)) (backToKw pos (keywordEach [] env))) := by intro _; rfl) : Ev C n sc G (.Call f es [] pos) r := fun A Z own env s E hA hE I g => by
  rw [he env]
  refine wpAny_bind (wpAny_mono (hf A Z own env s E hA hE I g) (fun v s1 ⟨Z1, z1, I1, p1⟩ => ?_) fun _ _ e => e)
  cases (show v = .type id from p1)
  show wpAny C.M A (callWith pos (.type id) [] (backTo pos (starEach es env)) []) _ _ _
  refine PySem.callWith_type (hn pos env) (evalArgs_of hn ?_)
  refine wpAny_mono (hs A Z1 own env s1 E hA hE I1 (g.z z1)) (fun vs s2 ⟨Z2, z2, I2, p2⟩ => ?_) fun _ _ e => e
  exact wpAny_mono (hc A Z2 own s2 vs E hA I2 p2) (fun v s3 h3 => h3.more (z1.trans z2)) fun _ _ e => e
structure IsOf (T : String) (v : Value) (s : Shared) : Prop where
  ty : s.TypeIs v T
  nd : ∀ a, v = .ref a → ∃ ob, s.heap.get? a = some ob ∧ ob.dict = none
theorem Ev.meth {o : Expr} {name : Str} {es : List Expr} {apos pos : Pos} {T id : String} {P : VP} {ps : List VP} {r : VP} (ho : Ev C n sc G o P) (hs : EvA C n sc G pos es ps)
    (pa : PlainAttrs T) (slot : Slot T name id) (hty : typeOf (.builtin id) = pure (.type "method_descriptor")) (hT : ∀ Z own s v, Inv C Z own s → P.ok Z v → IsOf T v s) (hn : NoStar es)
    (hc : ∀ (A : Around) (Z : Fz) (own : List Res) (s : Shared) (a : Value) (vs : List Value) (E : Value → Shared → Prop), Room n A → Inv C Z own s → P.ok Z a → Oks Z ps vs → wpAny C.M A (call (.builtin id) (a :: vs)) (Post C Z own r) E s)
    (hbase : ∀ env, attributeBase o name env (eval o env) = eval o env := by intro _; rfl) (hlen : decide (es.length < 29) = true := by rfl) (hline : (apos.endLine == pos.line) = true := by rfl) :
    Ev C n sc G (.Call (.Attribute o name apos) es [] pos) r := fun A Z own env s E hA hE I g => by
  refine wpAny_Call_method_lateS (hbase env) ?_ hline (wpAny_mono (ho A Z own env s E hA hE I g) (fun v s1 ⟨Z1, z1, I1, p1⟩ => ?_) fun _ _ e => e)
  · have h1 := hn pos env
    have h2 : es.length < 29 := of_decide_eq_true hlen
    have h3 : (backTo pos (starEach es env)).all (fun x => !x.1) = true := by
      rw [List.all_eq_true]; intro x hx
      have := List.any_eq_false.mp h1 x hx
      simpa using this
    rw [h3]
    show (true && true && decide (es.length + 0 + 0 < 30)) = true
    rw [Bool.true_and, Bool.true_and]; exact decide_eq_true (by omega)
  · obtain ⟨ty, nd⟩ := hT _ _ _ _ I1 p1
    refine ⟨T, id, pa, slot, hty, ty, nd, ?_⟩
    refine Calls.callWith_builtin (hn pos env) (evalArgs_of hn ?_)
    refine wpAny_mono (hs A Z1 own env s1 E hA hE I1 (g.z z1)) (fun vs s2 ⟨Z2, z2, I2, p2⟩ => ?_) fun _ _ e => e
    exact wpAny_mono (hc A Z2 own s2 v vs E hA I2 (P.mono z2 p1) p2) (fun v s3 h3 => h3.more (z1.trans z2)) fun _ _ e => e
theorem isOf_U {T : String} {U : UP} (h : ∀ Z o, U.ok Z o → o.cls = .type T ∧ o.dict = none) : ∀ Z own s v, Inv C Z own s → (VP.of U).ok Z v → IsOf T v s := fun Z own s v I ⟨a, o, h1, h2, h3, _⟩ => by
  subst h1
  obtain ⟨k1, k2⟩ := h Z o h3
  exact ⟨⟨o, I.zle _ _ h2, k1⟩, fun b e => by cases e; exact ⟨o, I.zle _ _ h2, k2⟩⟩
theorem Inv.turns (I : Inv C Z own s) {own' : List Res} {h' : Heap} {tk : Nat} (e : own'.map Res.addr = own.map Res.addr) (h1 : ∀ r ∈ own', r.ok h') (k : ∀ a o, Z a = some o → h'.get? a = some o) (kt : ∀ o, s.heap.get? C.tab = some o → h'.get? C.tab = some o) :
    Inv C Z own' { s with heap := h', toks := tk } :=
  ⟨let ⟨_, _, gs, e⟩ := I.shape; ⟨h', tk, gs, by rw [e]⟩, ⟨(I.bare.keeps (tk := tk) kt).at_, I.bare.z, by rw [e]; exact I.bare.off⟩, I.base, k, h1, fun r hr => by
    obtain ⟨x, hx, e'⟩ := List.mem_map.mp (e ▸ List.mem_map.mpr ⟨r, hr, rfl⟩ : r.addr ∈ own.map Res.addr)
    rw [← e']; exact I.off x hx, by rw [e]; exact I.nd⟩
noncomputable abbrev its (rs : List (Addr × Obj)) : List Res := rs.map fun p => .it p.1 p.2
noncomputable def rsOf (h : Heap) (wr : List Addr) : List (Addr × Obj) := wr.map fun a => (a, (h.get? a).getD default)
theorem rsOf_addr (h : Heap) (wr : List Addr) : (its (rsOf h wr)).map Res.addr = wr := by
  unfold rsOf its; rw [List.map_map, List.map_map]; exact List.map_id' wr
theorem mem_rsOf {h : Heap} {wr : List Addr} {a : Addr} (ha : a ∈ wr) : Res.it a ((h.get? a).getD default) ∈ its (rsOf h wr) := List.mem_map.mpr ⟨_, List.mem_map.mpr ⟨a, ha, rfl⟩, rfl⟩
theorem of_mem_rsOf {h : Heap} {wr : List Addr} {r : Res} (hr : r ∈ its (rsOf h wr)) : ∃ a ∈ wr, r = .it a ((h.get? a).getD default) := by
  obtain ⟨p, hp, rfl⟩ := List.mem_map.mp hr
  obtain ⟨a, ha, rfl⟩ := List.mem_map.mp hp
  exact ⟨a, ha, rfl⟩
theorem Inv.walked {X Y : List Res} {wr : List Addr} {h : Heap} (I : Inv C Z (X ++ its (rsOf h wr) ++ Y) s) {h' : Heap} {tk : Nat} (hw : ∀ a ∈ wr, ∃ o, h'.get? a = some o) (k : ∀ b o, b ∉ wr → s.heap.get? b = some o → h'.get? b = some o) :
    Inv C Z (X ++ its (rsOf h' wr) ++ Y) { s with heap := h', toks := tk } := by
  have nd := I.nd
  rw [List.map_append, List.map_append, rsOf_addr] at nd
  have hz : ∀ a ∈ wr, Z a = none := fun a ha => by
    have := I.off (.it a ((h.get? a).getD default)) (List.mem_append_left _ (List.mem_append_right _ (mem_rsOf ha)))
    exact this
  refine I.turns (by simp only [List.map_append, rsOf_addr]) (fun r hr => ?_) (fun a o e => k a o (fun ha => by rw [hz a ha] at e; cases e) (I.zle a o e)) fun o e => k _ o (fun ha => I.bare.ne (List.mem_append_left _ (List.mem_append_right _ (mem_rsOf ha))) rfl) e
  have out : ∀ r ∈ X ++ Y, r.addr ∉ wr := fun r hr ha => by
    rw [List.nodup_append, List.nodup_append] at nd
    rcases List.mem_append.mp hr with hr | hr
    · exact nd.1.2.2 _ (List.mem_map.mpr ⟨r, hr, rfl⟩) _ ha rfl
    · exact nd.2.2 _ (List.mem_append_right _ ha) _ (List.mem_map.mpr ⟨r, hr, rfl⟩) rfl
  rcases List.mem_append.mp hr with hr | hr
  · rcases List.mem_append.mp hr with hr | hr
    · exact Res.at (I.ok r (List.mem_append_left _ (List.mem_append_left _ hr))) fun o e => k _ o (out r (List.mem_append_left _ hr)) e
    · obtain ⟨a, ha, rfl⟩ := of_mem_rsOf hr
      obtain ⟨o, ho⟩ := hw a ha
      show h'.get? a = some ((h'.get? a).getD default)
      rw [ho]; rfl
  · exact Res.at (I.ok r (List.mem_append_right _ hr)) fun o e => k _ o (out r (List.mem_append_right _ hr)) e
theorem Inv.drop {X Y rs : List Res} (I : Inv C Z (X ++ rs ++ Y) s) : Inv C Z (X ++ Y) s :=
  I.sub (List.Sublist.append (List.sublist_append_left X rs) (List.Sublist.refl Y))
noncomputable def Yields (C : Cx) (tgt : Expr) (I : Addr) : List VP → Fz → List (Addr × Obj) → Prop
  | [], Z, rs => ∀ (A : Around) (Z1 : Fz) (X Y : List Res) (s : Shared) (Q : Option Value → Shared → Prop) (E : Value → Shared → Prop), A.handled = none → Z.le Z1 → Inv C Z1 (X ++ its rs ++ Y) s →
      (∀ s', Inv C Z1 (X ++ Y) s' → Q none s') → wpAny C.M A (pyNext (.ref I)) Q E s
  | p :: ps, Z, rs => ∀ (A : Around) (Z1 : Fz) (X Y : List Res) (s : Shared) (Q : Option Value → Shared → Prop) (E : Value → Shared → Prop), A.handled = none → Z.le Z1 → Inv C Z1 (X ++ its rs ++ Y) s →
      (∀ v s', (∀ (Q' : Unit → Shared → Prop) (E' : Value → Shared → Prop), (∀ Z2 rs' s'', Z1.le Z2 → Inv C Z2 (X ++ its rs' ++ Y) s'' → p.ok Z2 v → Yields C tgt I ps Z2 rs' → Q' () s'') → wpAny C.M A (letOwnedTupleGo tgt (.ref I) v) Q' E' s') → Q (some v) s') →
      wpAny C.M A (pyNext (.ref I)) Q E s
theorem Yields.z {tgt : Expr} {I : Addr} {rs : List (Addr × Obj)} (z : Z.le Z') : ∀ {ps : List VP}, Yields C tgt I ps Z rs → Yields C tgt I ps Z' rs
  | [], h => fun A Z1 X Y s Q E hh z1 => h A Z1 X Y s Q E hh (z.trans z1)
  | _ :: _, h => fun A Z1 X Y s Q E hh z1 => h A Z1 X Y s Q E hh (z.trans z1)
theorem Yields.walks {tgt : Expr} {I : Addr} {fp wr : List Addr} {k : Nat} {P : Nat → Value → Prop} {St : Nat → Heap → Prop} {ps : List VP}
    (W : ∀ A : Around, A.handled = none → Walks C.prog C.w A I fp wr k P St) (hlen : ps.length = k) (hp : ∀ i v p, P i v → ps[i]? = some p → p.ok Z v) (hfp : ∀ b ∈ fp, b ∈ wr ∨ ∃ o, Z b = some o)
    (hwr : ∀ i h, St i h → ∀ a ∈ wr, ∃ o, h.get? a = some o) (hgo : ∀ i v (A : Around) (s : Shared) (Q : Unit → Shared → Prop) (E : Value → Shared → Prop), P i v → St (i + 1) s.heap → Q () s → wpAny C.M A (letOwnedTupleGo tgt (.ref I) v) Q E s) :
    ∀ (j i : Nat) (Z1 : Fz) (h : Heap), Z.le Z1 → i + j = k → St i h → (∀ b ∈ fp, b ∉ wr → ∀ o, h.get? b = some o → Z1 b = some o) → Yields C tgt I (ps.drop i) Z1 (rsOf h wr) := by
  intro j
  induction j with
  | zero =>
    intro i Z1 h z1 e st hz
    have hi : i = k := by omega
    rw [show ps.drop i = [] from List.drop_eq_nil_of_le (by omega)]
    intro A Z2 X Y s Q E hh z2 I2 hQ
    have st' : St k s.heap := hi ▸ (W A hh).frame i h s.heap st fun b hb o eo => by
      by_cases hw : b ∈ wr
      · have := I2.ok (.it b ((h.get? b).getD default)) (List.mem_append_left _ (List.mem_append_right _ (mem_rsOf hw)))
        rw [eo] at this; exact this
      · exact I2.zle _ _ (z2 _ _ (hz b hb hw o eo))
    have J := I2.drop
    refine (W A hh).done s Q E st' fun h' tk hk => hQ _ ⟨?_, J.bare.keeps fun o e => hk _ o (fun ha => I2.bare.ne (List.mem_append_left _ (List.mem_append_right _ (mem_rsOf ha))) rfl) e, J.base, fun a o e => ?_, fun r hr => ?_, J.off, J.nd⟩
    · obtain ⟨_, _, gs, e⟩ := J.shape; exact ⟨h', tk, gs, by rw [e]⟩
    · refine hk a o (fun ha => ?_) (J.zle a o e)
      have := I2.off (.it a ((h.get? a).getD default)) (List.mem_append_left _ (List.mem_append_right _ (mem_rsOf ha)))
      rw [show Z2 a = none from this] at e; cases e
    · refine Res.at (J.ok r hr) fun o e => hk _ o (fun ha => ?_) e
      have nd := I2.nd
      rw [List.map_append, List.map_append, rsOf_addr, List.nodup_append, List.nodup_append] at nd
      rcases List.mem_append.mp hr with hr | hr
      · exact nd.1.2.2 _ (List.mem_map.mpr ⟨r, hr, rfl⟩) _ ha rfl
      · exact nd.2.2 _ (List.mem_append_right _ ha) _ (List.mem_map.mpr ⟨r, hr, rfl⟩) rfl
  | succ j ih =>
    intro i Z1 h z1 e st hz
    have hi : i < k := by omega
    have hi' : i < ps.length := by omega
    rw [List.drop_eq_getElem_cons hi']
    intro A Z2 X Y s Q E hh z2 I2 hQ
    have st' : St i s.heap := (W A hh).frame i h s.heap st fun b hb o eo => by
      by_cases hw : b ∈ wr
      · have := I2.ok (.it b ((h.get? b).getD default)) (List.mem_append_left _ (List.mem_append_right _ (mem_rsOf hw)))
        rw [eo] at this; exact this
      · exact I2.zle _ _ (z2 _ _ (hz b hb hw o eo))
    refine (W A hh).item i s Q E hi st' fun v h' tk hP st1 hk => hQ v _ fun Q' E' hq => hgo i v A _ Q' E' hP st1 ?_
    have I3 := I2.walked (tk := tk) (fun a ha => hwr _ _ st1 a ha) hk
    refine hq Z2 _ _ .rfl I3 ((ps[i]).mono (z1.trans z2) (hp i v _ hP (by simp [hi']))) (ih (i + 1) Z2 h' (z1.trans z2) (by omega) st1 fun b hb hw o eo => ?_)
    rcases hfp b hb with q | ⟨o', q⟩
    · exact absurd q hw
    · have := I3.zle _ _ ((z1.trans z2) _ _ q)
      rw [show h'.get? b = some o' from this] at eo; cases eo; exact (z1.trans z2) _ _ q
theorem Yields.walksT {elts : List Expr} {x1 : Nat} {tpos : Pos} {I : Addr} {fp wr : List Addr} {k : Nat} {Pt : Nat → Array Value → Prop} {St : Nat → Heap → Prop} {Mid : Nat → Addr → Heap → Prop} {ps : List (List VP)}
    (W : ∀ A : Around, A.handled = none → WalksT C.prog C.w A I fp wr k Pt St Mid) (hlen : ps.length = k) (hp : ∀ i vs p, Pt i vs → ps[i]? = some p → Oks Z p vs.toList) (hfp : ∀ b ∈ fp, b ∈ wr ∨ ∃ o, Z b = some o)
    (hwr : ∀ i h, St i h → ∀ a ∈ wr, ∃ o, h.get? a = some o) (hwr' : ∀ i T h, Mid i T h → ∀ a ∈ wr, ∃ o, h.get? a = some o) :
    ∀ (j i : Nat) (Z1 : Fz) (h : Heap), Z.le Z1 → i + j = k → St i h → (∀ b ∈ fp, b ∉ wr → ∀ o, h.get? b = some o → Z1 b = some o) → Yields C (.Tuple elts x1 tpos) I ((ps.drop i).map VP.tup) Z1 (rsOf h wr) := by
  intro j
  induction j with
  | zero =>
    intro i Z1 h z1 e st hz
    have hi : i = k := by omega
    rw [show ps.drop i = [] from List.drop_eq_nil_of_le (by omega)]
    intro A Z2 X Y s Q E hh z2 I2 hQ
    have st' : St k s.heap := hi ▸ (W A hh).frame i h s.heap st fun b hb o eo => by
      by_cases hw : b ∈ wr
      · have := I2.ok (.it b ((h.get? b).getD default)) (List.mem_append_left _ (List.mem_append_right _ (mem_rsOf hw)))
        rw [eo] at this; exact this
      · exact I2.zle _ _ (z2 _ _ (hz b hb hw o eo))
    have J := I2.drop
    refine (W A hh).done s Q E st' fun h' tk hk => hQ _ ⟨?_, J.bare.keeps fun o e => hk _ o (fun ha => I2.bare.ne (List.mem_append_left _ (List.mem_append_right _ (mem_rsOf ha))) rfl) e, J.base, fun a o e => ?_, fun r hr => ?_, J.off, J.nd⟩
    · obtain ⟨_, _, gs, e⟩ := J.shape; exact ⟨h', tk, gs, by rw [e]⟩
    · refine hk a o (fun ha => ?_) (J.zle a o e)
      have := I2.off (.it a ((h.get? a).getD default)) (List.mem_append_left _ (List.mem_append_right _ (mem_rsOf ha)))
      rw [show Z2 a = none from this] at e; cases e
    · refine Res.at (J.ok r hr) fun o e => hk _ o (fun ha => ?_) e
      have nd := I2.nd
      rw [List.map_append, List.map_append, rsOf_addr, List.nodup_append, List.nodup_append] at nd
      rcases List.mem_append.mp hr with hr | hr
      · exact nd.1.2.2 _ (List.mem_map.mpr ⟨r, hr, rfl⟩) _ ha rfl
      · exact nd.2.2 _ (List.mem_append_right _ ha) _ (List.mem_map.mpr ⟨r, hr, rfl⟩) rfl
  | succ j ih =>
    intro i Z1 h z1 e st hz
    have hi : i < k := by omega
    have hi' : i < ps.length := by omega
    rw [List.drop_eq_getElem_cons hi', List.map_cons]
    intro A Z2 X Y s Q E hh z2 I2 hQ
    have st' : St i s.heap := (W A hh).frame i h s.heap st fun b hb o eo => by
      by_cases hw : b ∈ wr
      · have := I2.ok (.it b ((h.get? b).getD default)) (List.mem_append_left _ (List.mem_append_right _ (mem_rsOf hw)))
        rw [eo] at this; exact this
      · exact I2.zle _ _ (z2 _ _ (hz b hb hw o eo))
    refine (W A hh).item i s Q E hi st' fun T vals h' tk hP hT hIT hM hk => hQ (.ref T) _ fun Q' E' hq => (W A hh).go elts x1 tpos i T _ Q' E' hM fun h'' st1 hk2 => ?_
    have I3 := I2.walked (tk := tk) (fun a ha => hwr' _ _ _ hM a ha) hk
    have I4 := I3.walked (tk := tk) (fun a ha => hwr _ _ st1 a ha) hk2
    obtain ⟨oT, hoT, hcT, nT, hdT⟩ := hIT
    have hTw : T ∉ wr := (W A hh).apart _ _ _ hM
    have hT2 : h''.get? T = some oT := hk2 T oT hTw hoT
    -- the new tuple stands as it is
    have zT : Z2 T = none := I2.znone hT
    have I5 : Inv C (Z2.put T oT) (X ++ its (rsOf h'' wr) ++ Y) { s with heap := h'', toks := tk } := by
      refine ⟨I4.shape, I4.bare.put fun e => Nat.lt_irrefl _ (Nat.lt_of_lt_of_le I2.bare.lt (e ▸ hT)), fun a o e => Fz.le_put zT a o (I4.base a o e), fun a o e => ?_, I4.ok, fun r hr => ?_, I4.nd⟩
      · by_cases ha : a = T
        · subst ha; rw [Fz.put_self] at e; cases e; exact hT2
        · rw [Fz.put_ne ha] at e; exact I4.zle a o e
      · by_cases ha : r.addr = T
        · exfalso
          have h1 : r.addr ∈ (X ++ its (rsOf h'' wr) ++ Y).map Res.addr := List.mem_map.mpr ⟨r, hr, rfl⟩
          have h2 : (X ++ its (rsOf h'' wr) ++ Y).map Res.addr = (X ++ its (rsOf h wr) ++ Y).map Res.addr := by simp only [List.map_append, rsOf_addr]
          rw [h2, ha] at h1
          exact I2.offown hT h1
        · rw [Fz.put_ne ha]; exact I4.off r hr
    have zz : Z.le (Z2.put T oT) := (z1.trans z2).trans (Fz.le_put zT)
    refine hq (Z2.put T oT) _ _ (Fz.le_put zT) I5 ⟨T, oT, rfl, Fz.put_self, ⟨vals, nT, hcT, hdT, (hp i vals _ hP (by simp [hi'])).up zz⟩, beq_false_of_ne fun e => Nat.lt_irrefl _ (Nat.lt_of_le_of_lt hT (by rw [e]; exact Nat.lt_of_lt_of_le (by decide : sysModules < mainGlobals) (Nat.le_of_lt I2.g.lt)))⟩ (ih (i + 1) _ h'' zz (by omega) st1 fun b hb hw o eo => ?_)
    rcases hfp b hb with q | ⟨o', q⟩
    · exact absurd q hw
    · have := I5.zle _ _ (zz _ _ q)
      rw [show h''.get? b = some o' from this] at eo; cases eo; exact zz _ _ q
end Mine
end

section
open PySem PySem.W PyProof.Rows
set_option autoImplicit false
namespace Mine
variable {C : Cx} {Z Z' : Fz} {own mine R : List Res} {s : Shared} {n : Nat} {sc : Scope} {G : Gam}
noncomputable def Selfs (C : Cx) (I : Addr) (Z : Fz) (rs : List (Addr × Obj)) : Prop :=
  ∀ (A : Around) (Z1 : Fz) (X Y : List Res) (s : Shared) (Q : Value → Shared → Prop) (E : Value → Shared → Prop), A.handled = none → Z.le Z1 → Inv C Z1 (X ++ its rs ++ Y) s → Q (.ref I) s → wpAny C.M A (pyIter (.ref I)) Q E s
noncomputable def OpIter (C : Cx) (n : Nat) (P : VP) (tgt : Expr) (ps : List VP) (b : Bool) : Prop :=
  ∀ (A : Around) (Z : Fz) (own : List Res) (s : Shared) (v : Value) (Q : Value → Shared → Prop) (E : Value → Shared → Prop), Room n A → Inv C Z own s → P.ok Z v →
    (∀ Z' I rs s', Z.le Z' → Inv C Z' (its rs ++ own) s' → Yields C tgt I ps Z' rs → (b = true → Selfs C I Z' rs) → Q (.ref I) s') → wpAny C.M A (pyIter v) Q E s
inductive Tgt : Expr → Prop
  | name {x : Str} {p : Pos} : Tgt (.Name x p)
  | tup {es : List Expr} {k : Nat} {p : Pos} : Tgt (.Tuple es k p)
theorem go_fields {tgt : Expr} (ht : Tgt tgt) {A : Around} {I : Addr} {v : Value} {o : Obj} {T : String} {vs : Array Value} {Q : Unit → Shared → Prop} {E : Value → Shared → Prop} (ho : s.heap.get? I = some o) (hc : o.cls = .type T) (hd : o.data = .fields vs)
    (hT : (["enumerate", "zip", "dict_itemiterator", "dict_reverseitemiterator", "odict_iterator", "itertools.zip_longest", "itertools.pairwise"].contains T) = false) (hQ : Q () s) : wpAny C.M A (letOwnedTupleGo tgt (.ref I) v) Q E s := by
  cases ht with
  | name => exact wpAny_pure hQ
  | tup =>
    unfold letOwnedTupleGo
    cases v with
    | ref a =>
      refine wpAny_bind (wpAny_load ho ?_)
      rw [hc, hd]
      show wpAny _ A (if (_ && _) = true then _ else _) Q E s
      rw [hT, Bool.false_and]
      exact wpAny_pure hQ
    | _ => exact wpAny_pure hQ
theorem OpIter.start {tgt : Expr} {ps : List VP} {Q : Value → Shared → Prop} (I : Inv C Z own s) {o : Obj} {k : Nat} {P : Nat → Value → Prop} {St : Nat → Heap → Prop} {fp : List Addr} {tk : Nat} {b : Bool} (hf : o.isFreed = false)
    (W : ∀ A : Around, A.handled = none → Walks C.prog C.w A s.heap.objs.size fp [s.heap.objs.size] k P St) (hlen : ps.length = k) (hp : ∀ i v p, P i v → ps[i]? = some p → p.ok Z v) (hfp : ∀ b ∈ fp, b = s.heap.objs.size ∨ ∃ o, Z b = some o)
    (hst : St 0 (s.heap.push o)) (hob : ∀ i h, St i h → ∃ o, h.get? s.heap.objs.size = some o) (hgo : ∀ i v (A : Around) (s' : Shared) (Q : Unit → Shared → Prop) (E : Value → Shared → Prop), P i v → St (i + 1) s'.heap → Q () s' → wpAny C.M A (letOwnedTupleGo tgt (.ref s.heap.objs.size) v) Q E s')
    (hQ : ∀ Z' I rs s', Z.le Z' → Inv C Z' (its rs ++ own) s' → Yields C tgt I ps Z' rs → (b = true → Selfs C I Z' rs) → Q (.ref I) s') : Q (.ref s.heap.objs.size) { s with heap := s.heap.push o, toks := tk } := by
  have J := I.pushIt (tk := tk) o hf
  have hrs : its (rsOf (s.heap.push o) [s.heap.objs.size]) = [.it s.heap.objs.size o] := by
    show [Res.it s.heap.objs.size (((s.heap.push o).get? s.heap.objs.size).getD default)] = _
    rw [Heap.get?_push_size _ hf]; rfl
  have hfp' : ∀ b ∈ fp, b ∈ [s.heap.objs.size] ∨ ∃ o, Z b = some o := fun b hb => (hfp b hb).imp (fun e => by simp [e]) id
  have hwr : ∀ i h, St i h → ∀ a ∈ [s.heap.objs.size], ∃ o, h.get? a = some o := fun i h st a ha => by
    rw [List.mem_singleton.mp ha]; exact hob i h st
  have hz : ∀ b ∈ fp, b ∉ [s.heap.objs.size] → ∀ o', (s.heap.push o).get? b = some o' → Z b = some o' := fun b hb hw o' eo => by
    rcases hfp' b hb with q | ⟨o'', q⟩
    · exact absurd q hw
    · have := J.zle _ _ q
      rw [show (s.heap.push o).get? b = some o'' from this] at eo; cases eo; exact q
  have Y := Yields.walks (tgt := tgt) W hlen hp hfp' hwr hgo k 0 Z (s.heap.push o) .rfl (by omega) hst hz
  refine hQ Z s.heap.objs.size (rsOf (s.heap.push o) [s.heap.objs.size]) _ .rfl (by rw [hrs]; exact J) (by simpa using Y) fun _ => ?_
  intro A Z1 X Y s' Q E hh z1 I1 hq
  refine (W A hh).self 0 s' Q E ((W A hh).frame 0 _ _ hst fun b hb o' eo => ?_) hq
  by_cases hw : b = s.heap.objs.size
  · subst hw
    have := I1.ok (.it s.heap.objs.size (((s.heap.push o).get? s.heap.objs.size).getD default)) (List.mem_append_left _ (List.mem_append_right _ (List.mem_cons_self ..)))
    rw [eo] at this; exact this
  · exact I1.zle _ _ (z1 _ _ (hz b hb (by simpa using hw) o' eo))
theorem Oks.toget {ps : List VP} {vs : Array Value} (h : Oks Z ps vs.toList) {i : Nat} {p : VP} {v : Value} (hv : vs[i]? = some v) (hp : ps[i]? = some p) : p.ok Z v := by
  obtain ⟨u, h1, h2⟩ := All2.get h hp
  have : vs.toList[i]? = some v := by simpa using hv
  rw [this] at h1; cases h1; exact h2
theorem Oks.sz {ps : List VP} {vs : Array Value} (h : Oks Z ps vs.toList) : ps.length = vs.size := by have := h.len; simpa using this
theorem OpIter.list {tgt : Expr} {ps : List VP} {b : Bool} (ht : Tgt tgt) : OpIter C n (.list ps) tgt ps b := fun A Z own s v Q E hA I ⟨a, o, h1, h2, ⟨vs, k, h3, h4⟩, nm⟩ hQ => by
  subst h1
  have hl : s.heap.IsList a vs := ⟨o, I.zle _ _ h2, by rw [h3], k, by rw [h3]⟩
  have hlt : a < s.heap.objs.size := Heap.lt_size (I.zle _ _ h2)
  refine wpAny_pyIter_list hl (OpIter.start (tk := s.toks) (b := b) I rfl (fun A hh => Walks.list hh _ a (Nat.ne_of_lt hlt) vs) h4.sz (fun i v p hv hp => h4.toget hv hp) (fun b hb => ?_)
    ⟨⟨_, Heap.get?_push_size _ rfl, rfl, rfl⟩, hl.push _⟩ (fun i h st => let ⟨o, ho, _⟩ := st.1; ⟨o, ho⟩) (fun i v A s' Q E _ st q => ?_) hQ)
  · simp at hb; rcases hb with rfl | rfl
    · exact .inl rfl
    · exact .inr ⟨o, h2⟩
  · obtain ⟨o', ho', hc', hd'⟩ := st.1
    exact go_fields ht ho' hc' hd' (by decide) q
theorem OpIter.tup {tgt : Expr} {ps : List VP} {b : Bool} (ht : Tgt tgt) : OpIter C n (.tup ps) tgt ps b := fun A Z own s v Q E hA I ⟨a, o, h1, h2, ⟨vs, k, h3, h3', h4⟩, nm⟩ hQ => by
  subst h1
  have hl : s.heap.IsTuple a vs := ⟨o, I.zle _ _ h2, h3, k, h3'⟩
  have hlt : a < s.heap.objs.size := Heap.lt_size (I.zle _ _ h2)
  refine wpAny_pyIter_tuple hl (OpIter.start (tk := s.toks) (b := b) I rfl (fun A hh => Walks.tuple hh _ a (Nat.ne_of_lt hlt) vs) h4.sz (fun i v p hv hp => h4.toget hv hp) (fun b hb => ?_)
    ⟨⟨_, Heap.get?_push_size _ rfl, rfl, rfl⟩, hl.push _⟩ (fun i h st => let ⟨o, ho, _⟩ := st.1; ⟨o, ho⟩) (fun i v A s' Q E _ st q => ?_) hQ)
  · simp at hb; rcases hb with rfl | rfl
    · exact .inl rfl
    · exact .inr ⟨o, h2⟩
  · obtain ⟨o', ho', hc', hd'⟩ := st.1
    exact go_fields ht ho' hc' hd' (by decide) q
noncomputable def signs (x : Str) : List Str := x.cps.toList.map fun c => ⟨#[c]⟩
theorem OpIter.str {y : Str} {p : Pos} {x : Str} {b : Bool} : OpIter C n (.str x) (.Name y p) ((signs x).map VP.str) b := fun A Z own s v Q E hA I ⟨t, h1⟩ hQ => by
  subst h1
  have hlen : ((signs x).map VP.str).length = x.cps.size := by simp [signs]
  have hp : ∀ i v p, SignAt x i v → ((signs x).map VP.str)[i]? = some p → p.ok Z v := fun i v p ⟨c, u, h1, h2⟩ h3 => by
    have h1' : x.cps.toList[i]? = some c := by simpa using h1
    simp only [signs, List.getElem?_map, h1', Option.map_some, Option.some.injEq] at h3
    subst h3; exact ⟨u, h2⟩
  cases ha : x.cps.all (· < 128)
  · refine wpAny_pyIter_wide ha (OpIter.start (tk := s.toks) (b := b) I rfl (fun A hh => Walks.strWide hh _ x t) hlen hp (fun b hb => by simp at hb; exact .inl hb) ⟨_, Heap.get?_push_size _ rfl, rfl, rfl⟩ (fun i h st => let ⟨o, ho, _⟩ := st; ⟨o, ho⟩) (fun i v A s' Q E _ st q => wpAny_pure q) hQ)
  · refine wpAny_pyIter_ascii ha (OpIter.start (tk := s.toks) (b := b) I rfl (fun A hh => Walks.strAscii hh _ x t) hlen hp (fun b hb => by simp at hb; exact .inl hb) ⟨_, Heap.get?_push_size _ rfl, rfl, rfl⟩ (fun i h st => let ⟨o, ho, _⟩ := st; ⟨o, ho⟩) (fun i v A s' Q E _ st q => wpAny_pure q) hQ)
noncomputable def UP.range (a b : Int) : UP := ⟨fun _ o => ∃ t u v, o = { cls := .type "range", dict := none, data := .fields #[.int a t, .int b u, .int 1 v], slots := #[] }, fun _ h => h⟩
noncomputable def upto (a b : Int) : List Int := (List.range (b - a).toNat).map fun (i : Nat) => a + (i : Int)
theorem OpIter.range {y : Str} {p : Pos} {a b : Int} {t : Bool} (ha : -(2 ^ 62) ≤ a) (ha' : a < 2 ^ 62) (hb : -(2 ^ 62) ≤ b) (hb' : b < 2 ^ 62) : OpIter C n (.of (.range a b)) (.Name y p) ((upto a b).map VP.int) t := fun A Z own s v Q E hA I ⟨r, o, h1, h2, ⟨t1, t2, t3, h3⟩, nm⟩ hQ => by
  subst h1; subst h3
  have hs : Builtin.Range.rangeSize a b 1 = ((b - a).toNat : Int) := by rw [rangeSize_one]; split <;> omega
  refine wpAny_pyIter_range (I.zle _ _ h2) (small_one ha ha' hb hb') ?_
  refine OpIter.start (tk := s.toks) (b := t) I rfl (fun A hh => Walks.range hh _ a 1 (b - a).toNat) (by simp [upto]) (fun i v p hv hp => ?_) (fun b hb => by simp at hb; exact .inl hb) ?_ (fun i h st => ⟨_, st⟩) (fun i v A s' Q E _ st q => wpAny_pure q) hQ
  · obtain ⟨tk, rfl⟩ := hv
    have hi : i < (b - a).toNat := by
      have := (List.getElem?_eq_some_iff.mp hp).1
      simpa [upto] using this
    simp only [upto, List.map_map, List.getElem?_map, List.getElem?_range hi, Option.map_some, Option.some.injEq] at hp
    subst hp
    exact ⟨tk, by simp⟩
  · have e1 : a + ((0 : Nat) : Int) * 1 = a := by simp
    have e2 : (((b - a).toNat : Int) - ((0 : Nat) : Int)) = Builtin.Range.rangeSize a b 1 := by rw [hs]; simp
    show IsRangeIter _ _ (a + ((0 : Nat) : Int) * 1) (((b - a).toNat : Int) - ((0 : Nat) : Int)) 1
    rw [e1, e2]
    exact Heap.get?_push_size _ rfl
theorem IsDict.at {l : List (Str × VP)} {o : Obj} {a : Addr} {h : Heap} (x : IsDict C l Z o) (ho : h.get? a = some o) : ∃ kvs ep, h.DictAt (strKind C.prog C.w) a kvs ep ∧ All2 (fun (p : Str × VP) (q : Str × Value) => p.1 = q.1 ∧ p.2.ok Z q.2) l kvs := by
  obtain ⟨es, ep, kvs, h1, h2, h3, h4, h5, h6⟩ := x
  exact ⟨kvs, ep, ⟨o, es, ho, h1, h2, h3, h4, h5⟩, h6⟩
theorem IsDict.zat {l : List (Str × VP)} {o : Obj} (x : IsDict C l Z o) : o.cls = .type "dict" ∧ o.dict = none := by
  obtain ⟨es, ep, kvs, h1, _⟩ := x; exact ⟨h1.1, h1.2.1⟩
theorem pairs_get {l : List (Str × VP)} {kvs : List (Str × Value)} (h : All2 (fun (p : Str × VP) (q : Str × Value) => p.1 = q.1 ∧ p.2.ok Z q.2) l kvs) {i : Nat} {k : Str} {v : Value} (e : kvs[i]? = some (k, v)) : ∃ P, l[i]? = some (k, P) ∧ P.ok Z v := by
  obtain ⟨p, h1, h2, h3⟩ := All2.get' h e
  obtain ⟨k', P⟩ := p
  cases h2; exact ⟨P, h1, h3⟩
theorem OpIter.dict {y : Str} {p : Pos} {l : List (Str × VP)} {b : Bool} : OpIter C n (.dict C l) (.Name y p) (l.map fun q => VP.str q.1) b := fun A Z own s v Q E hA I ⟨a, o, h1, h2, h3, nm⟩ hQ => by
  subst h1
  obtain ⟨kvs, ep, hd, hk⟩ := h3.at (I.zle _ _ h2)
  have hlt : a < s.heap.objs.size := Heap.lt_size (I.zle _ _ h2)
  refine wpAny_pyIter_dict nm hd (OpIter.start (tk := s.toks) (b := b) I rfl (fun A hh => Walks.dictKeys hh _ a (Nat.ne_of_lt hlt) kvs ep) (by simpa using hk.len) (fun i v p hv hp => ?_) (fun b hb => ?_)
    ⟨⟨_, Heap.get?_push_size _ rfl, rfl, rfl⟩, hd.push _⟩ (fun i h st => let ⟨o, ho, _⟩ := st.1; ⟨o, ho⟩) (fun i v A s' Q E _ st q => wpAny_pure q) hQ)
  · obtain ⟨k, x, e1, e2⟩ := hv
    obtain ⟨P, e3, _⟩ := pairs_get hk e1
    rw [List.getElem?_map, e3] at hp
    cases hp
    exact Value.isStrOf_shape e2
  · simp at hb; rcases hb with rfl | rfl
    · exact .inl rfl
    · exact .inr ⟨o, h2⟩
noncomputable def UP.view (C : Cx) (T : String) (l : List (Str × VP)) : UP := ⟨fun Z o => ∃ a od, o.cls = .type T ∧ o.data = .fields #[.ref a] ∧ Z a = some od ∧ IsDict C l Z od ∧ o.dict = none, fun z ⟨a, od, h1, h2, h3, h4, h5⟩ => ⟨a, od, h1, h2, z _ _ h3, h4.mono z, h5⟩⟩
theorem OpIter.values {y : Str} {p : Pos} {l : List (Str × VP)} {b : Bool} : OpIter C n (.of (.view C "dict_values" l)) (.Name y p) (l.map Prod.snd) b := fun A Z own s v Q E hA I ⟨a, o, h1, h2, ⟨d, od, h3, h4, h5, h6, h7⟩, nm⟩ hQ => by
  subst h1
  obtain ⟨kvs, ep, hd, hk⟩ := h6.at (I.zle _ _ h5)
  have hlt : d < s.heap.objs.size := Heap.lt_size (I.zle _ _ h5)
  refine wpAny_pyIter_values ⟨o, I.zle _ _ h2, h3, h4⟩ hd (OpIter.start (tk := s.toks) (b := b) I rfl (fun A hh => Walks.dictValues hh _ d (Nat.ne_of_lt hlt) kvs ep) (by simpa using hk.len) (fun i v p hv hp => ?_) (fun b hb => ?_)
    ⟨⟨_, Heap.get?_push_size _ rfl, rfl, rfl⟩, hd.push _⟩ (fun i h st => let ⟨o, ho, _⟩ := st.1; ⟨o, ho⟩) (fun i v A s' Q E _ st q => wpAny_pure q) hQ)
  · obtain ⟨k, e1⟩ := hv
    obtain ⟨P, e3, e4⟩ := pairs_get hk e1
    rw [List.getElem?_map, e3] at hp
    cases hp
    exact e4
  · simp at hb; rcases hb with rfl | rfl
    · exact .inl rfl
    · exact .inr ⟨od, h5⟩
theorem entry_dict_itemiterator_iter : entryFor table "dict_itemiterator.__iter__" = some Builtin.«dict_keyiterator.__iter__» :=
  entryFor_alias (id' := "dict_keyiterator.__iter__") (by kernel_rfl) rfl (by decide +kernel) (by kernel_rfl)
theorem WalksT.items {prog : Program} {w : World} {A : Around} (hh : A.handled = none) (I d : Addr) (hne : d ≠ I) (kvs : List (Str × Value)) (ep : Nat) :
    WalksT prog w A I [I, d] [I] kvs.length (fun i vs => ∃ k key v, kvs[i]? = some (k, v) ∧ (strKind prog w).is k key = true ∧ vs = #[key, v])
      (fun i h => (∃ ok ov, IsItemIter h I d i kvs.length ep ok ov) ∧ h.DictAt (strKind prog w) d kvs ep)
      (fun i T h => (∃ ok ov, IsItemIterOut h I d (i + 1) kvs.length ep ok ov T) ∧ h.DictAt (strKind prog w) d kvs ep ∧ T ≠ I) where
  sub := fun b hb => by simp at hb; simp [hb]
  frame := fun _ _ _ ⟨⟨ok, ov, st⟩, st'⟩ hk => ⟨⟨ok, ov, hk I (by simp) _ st⟩, st'.at' fun o e => hk d (by simp) o e⟩
  item := fun i s Q E hi ⟨⟨ok, ov, st⟩, st'⟩ hQ => by
    obtain ⟨⟨k, x⟩, hx⟩ : ∃ p, kvs[i]? = some p := ⟨kvs[i], by simp [hi]⟩
    refine wpAny_pyNext_items_item st st' hx fun key h' hkey hit' hT hsz hk => ?_
    have hI : I < s.heap.objs.size := Heap.lt_size st
    exact hQ _ #[key, x] h' s.toks ⟨k, key, x, hx, hkey, rfl⟩ (Nat.le_refl _) ⟨_, hT, rfl, 0, rfl⟩ ⟨⟨_, _, hit'⟩, st'.at' fun o e => hk d o hne e, Nat.ne_of_gt hI⟩ fun b o hb e => hk b o (fun q => hb (by simp [q])) e
  go := fun elts k pos i T s Q E ⟨⟨ok, ov, ho⟩, hd, hne'⟩ hQ => wpAny_letOwnedTupleGo_items ho fun h' he hs => hQ h' ⟨⟨ok, ov, he⟩, hd.at' fun o e => (hs.2 d hne).trans e⟩ fun b o hb e => (hs.2 b fun q => hb (by simp [q])).trans e
  apart := fun i T h ⟨_, _, hne'⟩ hm => by simp at hm; exact hne' hm
  done := fun s Q E ⟨⟨ok, ov, st⟩, st'⟩ hQ => wpAny_pyNext_items_end hh st st' (by simp) fun h' he => hQ h' s.toks fun b o hb e => he b o (fun q => hb (by simp [q])) e
  self := fun i s Q E ⟨⟨ok, ov, st⟩, st'⟩ hQ => by
    have hT : s.TypeIs (.ref I) "dict_itemiterator" := ⟨_, st, rfl⟩
    refine wpAny_pyIter_slot hT F.slot_dict_itemiterator_iter (wpAny_call_entry F.slot_dict_itemiterator_iter hT entry_dict_itemiterator_iter ?_ (F.args_dict_itemiterator_iter_1 _))
    exact wpAny_pure ⟨_, rfl, "dict_itemiterator", _, hT, F.slot_dict_itemiterator_next.lookup, hQ⟩
theorem OpIter.items {es : List Expr} {k : Nat} {p : Pos} {l : List (Str × VP)} : OpIter C n (.of (.view C "dict_items" l)) (.Tuple es k p) (l.map fun q => VP.tup [.str q.1, q.2]) false := fun A Z own s v Q E hA I ⟨a, o, h1, h2, ⟨d, od, h3, h4, h5, h6, h7⟩, nm⟩ hQ => by
  subst h1
  obtain ⟨kvs, ep, hd, hk⟩ := h6.at (I.zle _ _ h5)
  have hlt : d < s.heap.objs.size := Heap.lt_size (I.zle _ _ h5)
  refine wpAny_pyIter_items ⟨o, I.zle _ _ h2, h3, h4⟩ hd ?_
  let oi : Obj := { cls := .type "dict_itemiterator", data := .fields #[.none, .bool false, .ref d, .int 0 0, .int kvs.length 0, .int ep 0, .none, .none] }
  have J := I.pushIt (tk := s.toks) oi rfl
  have hrs : its (rsOf (s.heap.push oi) [s.heap.objs.size]) = [.it s.heap.objs.size oi] := by
    show [Res.it s.heap.objs.size (((s.heap.push oi).get? s.heap.objs.size).getD default)] = _
    rw [Heap.get?_push_size _ rfl]; rfl
  have Y := Yields.walksT (Z := Z) (C := C) (elts := es) (x1 := k) (tpos := p) (ps := l.map fun q => [.str q.1, q.2]) (fun A hh => WalksT.items hh s.heap.objs.size d (Nat.ne_of_lt hlt) kvs ep) (by simpa using hk.len) (fun i vs p hv hp => ?_)
    (fun b hb => by simp at hb; rcases hb with rfl | rfl; exact .inl (by simp); exact .inr ⟨od, h5⟩) (fun i h ⟨⟨ok, ov, st⟩, _⟩ a ha => by rw [List.mem_singleton.mp ha]; exact ⟨_, st⟩) (fun i T h ⟨⟨ok, ov, st⟩, _⟩ a ha => by rw [List.mem_singleton.mp ha]; exact ⟨_, st⟩)
    kvs.length 0 Z (s.heap.push oi) .rfl (by omega) ⟨⟨_, _, Heap.get?_push_size _ rfl⟩, hd.push _⟩ (fun b hb hw o' eo => ?_)
  · refine hQ Z s.heap.objs.size (rsOf (s.heap.push oi) [s.heap.objs.size]) _ .rfl (by rw [hrs]; exact J) ?_ (by intro h; cases h)
    simpa [List.map_map, Function.comp_def] using Y
  · obtain ⟨k, key, v, e1, e2, rfl⟩ := hv
    obtain ⟨P, e3, e4⟩ := pairs_get hk e1
    rw [List.getElem?_map, e3] at hp
    cases hp
    exact .cons (Value.isStrOf_shape e2) (.cons e4 .nil)
  · simp at hb hw
    rcases hb with rfl | rfl
    · exact absurd rfl hw
    · have := J.zle _ _ h5
      rw [show (s.heap.push oi).get? b = some od from this] at eo; cases eo; exact h5
noncomputable def EvIter (C : Cx) (n : Nat) (sc : Scope) (G : Gam) (e tgt : Expr) (ps : List VP) (b : Bool) : Prop :=
  ∀ (A : Around) (Z : Fz) (own : List Res) (env : Env) (s : Shared) (Q : Value → Shared → Prop) (E : Value → Shared → Prop), Room n A → EnvIs sc env → Inv C Z own s → EnvOk G env Z own own →
    (∀ Z' I rs s', Z.le Z' → Inv C Z' (its rs ++ own) s' → Yields C tgt I ps Z' rs → (b = true → Selfs C I Z' rs) → Q (.ref I) s') → wpAny C.M A (eval e env) (fun x s₁ => wpAny C.M A (pyIter x) Q E s₁) E s
theorem EvIter.of {e tgt : Expr} {P : VP} {ps : List VP} {b : Bool} (h : Ev C n sc G e P) (k : OpIter C n P tgt ps b) : EvIter C n sc G e tgt ps b := fun A Z own env s Q E hA hE I g hQ =>
  wpAny_mono (h A Z own env s E hA hE I g) (fun v s1 ⟨Z1, z1, I1, p1⟩ => k A Z1 own s1 v Q E hA I1 p1 fun Z' J rs s' z' => hQ Z' J rs s' (z1.trans z')) fun _ _ e => e
end Mine
end

section
open PySem PySem.W PyProof.Rows
set_option autoImplicit false
namespace Mine
variable {C : Cx} {Z Z' : Fz} {own mine R : List Res} {s : Shared} {n : Nat} {sc : Scope} {G : Gam}
noncomputable def Asg (C : Cx) (n : Nat) (sc : Scope) (f : Bool) (W : Str → Prop) (G : Gam) (tgt : Expr) (p : VP) (G' : Gam) : Prop :=
  ∀ (A : Around) (Z : Fz) (mine R : List Res) (env : Env) (s : Shared) (v : Value) (Q : Unit → Shared → Prop) (E : Value → Shared → Prop), Room n A → EnvIs sc env → Inv C Z (mine ++ R) s → StOk W env mine → EnvOk G env Z (mine ++ R) (owl f mine R) → p.ok Z v →
    (∀ Z' mine' s', Z.le Z' → Inv C Z' (mine' ++ R) s' → StOk W env mine' → EnvOk G' env Z' (mine' ++ R) (owl f mine' R) → (∀ y a o, Res.ob y a o ∈ mine → Res.ob y a o ∈ mine') → Q () s') → wpAny C.M A (assign tgt env v) Q E s
noncomputable def AsgL (C : Cx) (n : Nat) (sc : Scope) (f : Bool) (W : Str → Prop) (G : Gam) (ts : List Expr) (ps : List VP) (G' : Gam) : Prop :=
  ∀ (A : Around) (Z : Fz) (mine R : List Res) (env : Env) (s : Shared) (vs : List Value) (Q : Unit → Shared → Prop) (E : Value → Shared → Prop), Room n A → EnvIs sc env → Inv C Z (mine ++ R) s → StOk W env mine → EnvOk G env Z (mine ++ R) (owl f mine R) → Oks Z ps vs →
    (∀ Z' mine' s', Z.le Z' → Inv C Z' (mine' ++ R) s' → StOk W env mine' → EnvOk G' env Z' (mine' ++ R) (owl f mine' R) → (∀ y a o, Res.ob y a o ∈ mine → Res.ob y a o ∈ mine') → Q () s') → wpAny C.M A (assignInOrder (ts.map fun t => assign t env) vs) Q E s
noncomputable def Sto (sc : Scope) (W : Str → Prop) (x : Str) : Prop := sc.names.lookup x = some .local ∨ (sc.names.lookup x = some .cell ∧ W x)
theorem Asg.name {f : Bool} {W : Str → Prop} {x : Str} {p : Pos} {P : VP} (hx : Sto sc W x) : Asg C n sc f W G (.Name x p) P ((x, .val P) :: G) := fun A Z mine R env s v Q E hA hE I S g hv hQ =>
  wpAny_assign_Name (st_store f (e := .val P) hE I S g hx hv fun m' s' I' S' g' ob => hQ Z m' s' .rfl I' S' g' ob)
theorem AsgL.nil {f : Bool} {W : Str → Prop} : AsgL C n sc f W G [] [] G := fun A Z mine R env s vs Q E hA hE I S g hv hQ => by
  cases hv; exact wpAny_pure (hQ Z mine s .rfl I S g fun _ _ _ h => h)
theorem AsgL.cons {f : Bool} {W : Str → Prop} {G1 G2 : Gam} {t : Expr} {ts : List Expr} {P : VP} {ps : List VP} (h : Asg C n sc f W G t P G1) (hs : AsgL C n sc f W G1 ts ps G2) : AsgL C n sc f W G (t :: ts) (P :: ps) G2 := fun A Z mine R env s vs Q E hA hE I S g hv hQ => by
  cases hv with
  | cons h1 h2 =>
    rw [List.map_cons]
    unfold assignInOrder
    refine wpAny_bind (wpAny_holding (h A Z mine R env s _ _ E hA hE I S g h1 fun Z1 m1 s1 z1 I1 S1 g1 o1 => ?_))
    exact hs A Z1 m1 R env s1 _ Q E hA hE I1 S1 g1 (Oks.up h2 z1) fun Z2 m2 s2 z2 I2 S2 g2 o2 => hQ Z2 m2 s2 (z1.trans z2) I2 S2 g2 fun y a o h => o2 y a o (o1 y a o h)
theorem Asg.tup {f : Bool} {W : Str → Prop} {G' : Gam} {es : List Expr} {k : Nat} {p : Pos} {ps : List VP} (h : AsgL C n sc f W G es ps G') (hl : es.length = ps.length := by rfl) (he : ∀ env, assignEach es env = es.map fun t => (false, assign t env) := by intro _; rfl) : Asg C n sc f W G (.Tuple es k p) (.tup ps) G' := fun A Z mine R env s v Q E hA hE I S g hv hQ => by
  obtain ⟨a, o, h1, h2, ⟨vs, m, h3, h4, h5⟩, nm⟩ := hv
  subst h1
  have hsz := h5.sz
  refine wpAny_assign_Tuple hA.hh (items := vs) ⟨o, I.zle _ _ h2, h3, m, h4⟩ (by rw [he, List.length_map]; omega) ?_ fun h' hk => ?_
  · rw [he, List.findIdx?_eq_none_iff]; intro x hx; obtain ⟨t, _, rfl⟩ := List.mem_map.mp hx; rfl
  · rw [he, List.map_map]
    have J : Inv C Z (mine ++ R) { s with heap := h' } := I.keeps (tk := s.toks) fun b o e => hk b o (Nat.ne_of_lt (Heap.lt_size e)) e
    exact h A Z mine R env _ vs.toList Q E hA hE J S g h5 hQ
theorem Yields.one {tgt : Expr} {I : Addr} {p : VP} {ps : List VP} {rs : List (Addr × Obj)} (h : Yields C tgt I (p :: ps) Z rs) : ∀ (A : Around) (Z1 : Fz) (X Y : List Res) (s : Shared) (Q : Option Value → Shared → Prop) (E : Value → Shared → Prop), A.handled = none → Z.le Z1 → Inv C Z1 (X ++ its rs ++ Y) s →
      (∀ v s', (∀ (Q' : Unit → Shared → Prop) (E' : Value → Shared → Prop), (∀ Z2 rs' s'', Z1.le Z2 → Inv C Z2 (X ++ its rs' ++ Y) s'' → p.ok Z2 v → Yields C tgt I ps Z2 rs' → Q' () s'') → wpAny C.M A (letOwnedTupleGo tgt (.ref I) v) Q' E' s') → Q (some v) s') →
      wpAny C.M A (pyNext (.ref I)) Q E s := h
theorem Yields.fin {tgt : Expr} {I : Addr} {rs : List (Addr × Obj)} (h : Yields C tgt I [] Z rs) : ∀ (A : Around) (Z1 : Fz) (X Y : List Res) (s : Shared) (Q : Option Value → Shared → Prop) (E : Value → Shared → Prop), A.handled = none → Z.le Z1 → Inv C Z1 (X ++ its rs ++ Y) s →
      (∀ s', Inv C Z1 (X ++ Y) s' → Q none s') → wpAny C.M A (pyNext (.ref I)) Q E s := h
theorem EnvOk.upIt {env : Env} {m R ow : List Res} {rs : List (Addr × Obj)} (g : EnvOk G env Z (m ++ R) ow) : EnvOk G env Z (m ++ (its rs ++ R)) ow := g.up .rfl (hw := fun _ h => h) fun r hr => by
  rcases List.mem_append.mp hr with h | h
  · exact List.mem_append_left _ h
  · exact List.mem_append_right _ (List.mem_append_right _ h)
theorem EnvOk.downIt {env : Env} {m R ow : List Res} {rs : List (Addr × Obj)} (g : EnvOk G env Z (m ++ (its rs ++ R)) ow) : EnvOk G env Z (m ++ R) ow := fun x e hx => by
  obtain ⟨v, r, k⟩ := g x e hx
  have mem : ∀ q ∈ m ++ (its rs ++ R), (∀ a o, q ≠ .it a o) → q ∈ m ++ R := fun q hq hne => by
    rcases List.mem_append.mp hq with h | h
    · exact List.mem_append_left _ h
    · rcases List.mem_append.mp h with h | h
      · obtain ⟨p, _, rfl⟩ := List.mem_map.mp h; exact absurd rfl (hne _ _)
      · exact List.mem_append_right _ h
  refine ⟨v, ?_, k⟩
  rcases r with ⟨a, m, b, c⟩ | ⟨a, c, b, d⟩
  · exact .inl ⟨a, m, mem _ b (by intro _ _ e; cases e), c⟩
  · exact .inr ⟨a, c, b, mem _ d (by intro _ _ e; cases e)⟩
theorem Inv.dropM {m R rs : List Res} (I : Inv C Z (m ++ (rs ++ R)) s) : Inv C Z (m ++ R) s := by
  rw [← List.append_assoc] at I; exact I.drop
theorem for_core {A : Around} {env : Env} {E : Value → Shared → Prop} (hA : Room n A) (hE : EnvIs sc env) (I : Inv C Z (mine ++ R) s) (S : StOk (IsCellOf sc) env mine) (g : EnvOk G env Z (mine ++ R) mine) {tgt iter : Expr} {body : List Stmt} {p : Pos} {ps : List VP} {O : Out} (J : Nat → Gam) (hit : ∀ Q : Value → Shared → Prop, (∀ Z' I rs s', Z.le Z' → Inv C Z' (its rs ++ (mine ++ R)) s' → Yields C tgt I ps Z' rs → Q (.ref I) s') → wpAny C.M A (eval iter env) (fun x s₁ => wpAny C.M A (pyIter x) Q E s₁) E s) (h0 : GSub (J 0) G)
    (hb : ∀ i q, ps[i]? = some q → ∃ G1, Asg C n sc true (IsCellOf sc) (J i) tgt q G1 ∧ Ex C n sc G1 body { next := fun X => X = J (i + 1), cont := fun X => X = J (i + 1), brk := O.next, ret := O.ret })
    (hend : O.next (J ps.length)) (hs : ∀ env x, foldedSetIterable iter env x = pure x) : wpAny C.M A (exec (.For tgt iter body [] p) env) (PostS C Z R sc env O) E s := by
  refine wpAny_For ?_ (hs env)
  refine hit _ fun Z0 It rs s0 z0 I0 Y0 => ?_
  have I0' : Inv C Z0 (mine ++ (its rs ++ R)) s0 := I0.perm (by rw [← List.append_assoc, ← List.append_assoc]; exact List.Perm.append_right R List.perm_append_comm)
  refine codeAny_forLoop_any (fun k s' => ∃ (i : Nat) (Z1 : Fz) (m1 : List Res) (rs1 : List (Addr × Obj)), k = ps.length - i ∧ i ≤ ps.length ∧ Z.le Z1 ∧ Inv C Z1 (m1 ++ (its rs1 ++ R)) s' ∧ StOk (IsCellOf sc) env m1 ∧ EnvOk (J i) env Z1 (m1 ++ R) m1 ∧ Yields C tgt It (ps.drop i) Z1 rs1)
    ?_ ps.length ⟨0, Z0, mine, rs, by omega, by omega, z0, I0', S, (g.sub h0).z z0, Y0⟩
  rintro k s1 ⟨i, Z1, m1, rs1, hk, hi, z1, I1, S1, g1, Y1⟩
  by_cases hlt : i < ps.length
  · rw [List.drop_eq_getElem_cons hlt] at Y1
    refine Y1.one A Z1 m1 R s1 _ _ hA.hh .rfl (by rw [List.append_assoc]; exact I1) fun v s2 hgo => hgo _ _ fun Z2 rs2 s3 z2 I2 hv Y2 => ?_
    obtain ⟨G1, ha, hbd⟩ := hb i ps[i] (by simp [hlt])
    have I2' : Inv C Z2 (m1 ++ (its rs2 ++ R)) s3 := by rw [← List.append_assoc]; exact I2
    refine ha A Z2 m1 (its rs2 ++ R) env s3 v _ _ hA hE I2' S1 (g1.z z2).upIt hv fun Z3 m3 s4 z3 I3 S3 g3 _ => ?_
    refine wpAny_mono (hbd A Z3 m3 (its rs2 ++ R) env s4 _ hA hE I3 S3 g3) (fun fl s5 h5 => ?_) fun _ _ e => e
    obtain ⟨Z5, m5, z5, I5, S5, o5⟩ := h5
    have zz : Z.le Z5 := ((z1.trans z2).trans z3).trans z5
    have Y5 : Yields C tgt It (ps.drop (i + 1)) Z5 rs2 := Y2.z (z3.trans z5)
    have go : ∀ G', G' = J (i + 1) → EnvOk G' env Z5 (m5 ++ (its rs2 ++ R)) m5 → ∃ m, m < k ∧ ∃ (i : Nat) (Z1 : Fz) (m1 : List Res) (rs1 : List (Addr × Obj)), m = ps.length - i ∧ i ≤ ps.length ∧ Z.le Z1 ∧ Inv C Z1 (m1 ++ (its rs1 ++ R)) s5 ∧ StOk (IsCellOf sc) env m1 ∧ EnvOk (J i) env Z1 (m1 ++ R) m1 ∧ Yields C tgt It (ps.drop i) Z1 rs1 := by
      rintro _ rfl g5
      exact ⟨ps.length - (i + 1), by omega, i + 1, Z5, m5, rs2, rfl, by omega, zz, I5, S5, g5.downIt, Y5⟩
    cases fl with
    | next => obtain ⟨G', e, g5⟩ := o5; exact go G' e g5
    | cont => obtain ⟨G', e, g5⟩ := o5; exact go G' e g5
    | brk => obtain ⟨G', e, g5⟩ := o5; exact ⟨Z5, m5, zz, I5.dropM, S5, G', e, g5.downIt⟩
    | ret u => exact ⟨Z5, m5, zz, I5.dropM, S5, o5⟩
  · have hi' : i = ps.length := by omega
    rw [show ps.drop i = [] from List.drop_eq_nil_of_le (by omega)] at Y1
    refine Y1.fin A Z1 m1 R s1 _ _ hA.hh .rfl (by rw [List.append_assoc]; exact I1) fun s2 I2 => wpAny_execs_nil ?_
    exact ⟨Z1, m1, z1, I2, S1, J i, by rw [hi']; exact hend, g1⟩
theorem ExS.for_ {tgt iter : Expr} {body : List Stmt} {p : Pos} {ps : List VP} {O : Out} (J : Nat → Gam) (hit : EvIter C n sc G iter tgt ps false) (h0 : GSub (J 0) G)
    (hb : ∀ i q, ps[i]? = some q → ∃ G1, Asg C n sc true (IsCellOf sc) (J i) tgt q G1 ∧ Ex C n sc G1 body { next := fun X => X = J (i + 1), cont := fun X => X = J (i + 1), brk := O.next, ret := O.ret })
    (hend : O.next (J ps.length)) (hs : ∀ env x, foldedSetIterable iter env x = pure x := by intro _ _; rfl) : ExS C n sc G (.For tgt iter body [] p) O := fun A Z mine R env s E hA hE I S g =>
  for_core hA hE I S g J (fun Q hQ => hit A Z (mine ++ R) env s Q E hA hE I g.ev fun Z' I' rs s' z J Y _ => hQ Z' I' rs s' z J Y) h0 hb hend hs
theorem ExS.while_ {ι : Type} {t : Expr} {body : List Stmt} {p : Pos} {O : Out} (J : ι → Gam) (T : ι → Prop) (μ : ι → Nat) (i0 : ι) (h0 : GSub (J i0) G) (ht0 : T i0)
    (hb : ∀ i, T i → ∃ c, Tst C n sc (J i) t c ∧ (c = true → Ex C n sc (J i) body { next := fun X => ∃ i', T i' ∧ μ i' < μ i ∧ X = J i', cont := fun X => ∃ i', T i' ∧ μ i' < μ i ∧ X = J i', brk := O.next, ret := O.ret }) ∧ (c = false → O.next (J i))) :
    ExS C n sc G (.While t body [] p) O := fun A Z mine R env s E hA hE I S g => by
  refine wpAny_While (codeAny_whileLoop (fun k s' => ∃ (i : ι) (Z1 : Fz) (m1 : List Res), k = μ i ∧ T i ∧ Z.le Z1 ∧ Inv C Z1 (m1 ++ R) s' ∧ StOk (IsCellOf sc) env m1 ∧ EnvOk (J i) env Z1 (m1 ++ R) m1)
    ?_ (μ i0) ⟨i0, Z, mine, rfl, ht0, .rfl, I, S, g.sub h0⟩)
  rintro k s1 ⟨i, Z1, m1, hk, hi, z1, I1, S1, g1⟩
  obtain ⟨c, h1, h2, h3⟩ := hb i hi
  have hA' : Room n (A.mark none) := ⟨by show (none : Option Value).or A.handled = none; rw [hA.hh]; rfl, hA.d, hA.u⟩
  refine wpAny_mono (h1 _ Z1 _ env s1 _ hA' hE I1 g1.ev) (fun r s2 ⟨e, Z2, z2, I2⟩ => ?_) fun _ _ e => e
  subst e
  cases r with
  | true =>
    simp only [if_true]
    refine wpAny_mono (h2 rfl _ Z2 m1 R env s2 _ hA' hE I2 S1 (g1.z z2)) (fun fl s5 h5 => ?_) fun _ _ e => e
    obtain ⟨Z5, m5, z5, I5, S5, o5⟩ := h5
    have zz : Z.le Z5 := (z1.trans z2).trans z5
    cases fl with
    | next => obtain ⟨G', ⟨i', a, b, rfl⟩, g5⟩ := o5; exact ⟨μ i', by omega, i', Z5, m5, rfl, a, zz, I5, S5, g5⟩
    | cont => obtain ⟨G', ⟨i', a, b, rfl⟩, g5⟩ := o5; exact ⟨μ i', by omega, i', Z5, m5, rfl, a, zz, I5, S5, g5⟩
    | brk => exact ⟨Z5, m5, zz, I5, S5, o5⟩
    | ret u => exact ⟨Z5, m5, zz, I5, S5, o5⟩
  | false =>
    simp only [Bool.false_eq_true, if_false]
    exact wpAny_execs_nil ⟨Z2, m1, z1.trans z2, I2, S1, J i, h3 rfl, g1.z z2⟩
end Mine
end

section
open PySem PySem.W PyProof.Rows
set_option autoImplicit false
namespace Mine
variable {C : Cx} {Z Z' : Fz} {own mine R : List Res} {s : Shared} {n : Nat} {sc : Scope} {G : Gam}
theorem StOk.sup {W : Str → Prop} {env : Env} {m m' : List Res} (S : StOk W env m) (h : ∀ r ∈ m, r ∈ m') : StOk W env m' :=
  ⟨let ⟨k, hk⟩ := S.ns; ⟨k, h _ hk⟩, fun x hx => let ⟨c, v, a, b⟩ := S.cells x hx; ⟨c, v, a, h _ b⟩, S.inj⟩
theorem EnvOk.cons {env : Env} {r : Res} (g : EnvOk G env Z (mine ++ R) mine) : EnvOk G env Z ((r :: mine) ++ R) (r :: mine) :=
  g.up .rfl (fun _ h => .tail _ h) fun _ h => .tail _ h
theorem ExS.fresh {x : Str} {e : Expr} {p p' : Pos} {O : Out} {U : UP} (hx : (sc.names.lookup x == some .local || sc.names.lookup x == some .cell) = true)
    (h : ∀ (A : Around) (Z : Fz) (own : List Res) (env : Env) (s : Shared) (E : Value → Shared → Prop), Room n A → EnvIs sc env → Inv C Z own s → EnvOk G env Z own own →
      wpAny C.M A (eval e env) (fun v s' => ∃ Z' o, Z.le Z' ∧ (∃ s1, Inv C Z' own s1 ∧ o.isFreed = false ∧ (∃ tk, s' = { s1 with heap := s1.heap.push o, toks := tk }) ∧ v = .ref s1.heap.objs.size) ∧ U.ok Z' o) E s)
    (ho : O.next ((x, .own U) :: G)) (hs : ∀ env, EnvIs sc env → swapsWith e (some (.Name x p')) p.line env = pure false) : ExS C n sc G (.Assign [.Name x p'] e p) O := fun A Z mine R env s E hA hE I S g => by
  refine wpAny_Assign_Name (wpAny_mono (h A Z _ env s E hA hE I g.ev) (fun v s1 ⟨Z1, o, z1, ⟨s0, I1, hf, ⟨tk, e1⟩, e2⟩, u1⟩ => ?_) fun _ _ e => e) (hs env hE)
  subst e1; subst e2
  have J := I1.pushOwn (tk := tk) x o hf
  refine st_store true (mine := .ob x s0.heap.objs.size o :: mine) (e := .own U) hE J (S.sup fun _ h => .tail _ h) ((g.z z1).cons) (stable hx) ⟨s0.heap.objs.size, o, rfl, .head _, u1, I1.nm⟩ fun m' s' I' S' g' ob => ?_
  exact ⟨Z1, m', z1, I', S', _, ho, g'⟩
theorem ExS.dict0 {x : Str} {p p' p'' : Pos} {O : Out} (ho : O.next ((x, .own (.dict C [])) :: G)) (hx : (sc.names.lookup x == some .local || sc.names.lookup x == some .cell) = true := by rfl) : ExS C n sc G (.Assign [.Name x p'] (.Dict [] [] p'') p) O :=
  ExS.fresh hx (U := .dict C []) (fun A Z own env s E hA hE I g => wpAny_Dict_empty ⟨Z, { cls := .type "dict", data := .dict #[] }, .rfl, ⟨s, I, rfl, ⟨s.toks, rfl⟩, rfl⟩, ⟨#[], 0, [], ⟨rfl, rfl, rfl⟩, rfl, fun _ h => by simp at h, .nil, List.nodup_nil, .nil⟩⟩) ho fun _ _ => rfl
theorem ExS.list0 {x : Str} {p p' p'' : Pos} {O : Out} (ho : O.next ((x, .own (.list [])) :: G)) (hx : (sc.names.lookup x == some .local || sc.names.lookup x == some .cell) = true := by rfl) : ExS C n sc G (.Assign [.Name x p'] (.List [] p'') p) O :=
  ExS.fresh hx (U := .list []) (fun A Z own env s E hA hE I g => List_ (Calls.spliced_nil (wpAny_newObj_type ⟨Z, { cls := .type "list", data := .seq #[] }, .rfl, ⟨s, I, rfl, ⟨s.toks, rfl⟩, rfl⟩, ⟨#[], 0, rfl, .nil⟩⟩ (by show (0 : Nat) ≤ _; exact Nat.zero_le _)))) ho fun _ _ => rfl
theorem own_at {env : Env} {x : Str} {U : UP} {ow : List Res} (g : EnvOk G env Z own ow) (h : G.lookup x = some (.own U)) : ∃ c o, Rd env own x (.ref c) ∧ Res.ob x c o ∈ ow ∧ U.ok Z o ∧ Nm c := by
  obtain ⟨v, r, c, o, rfl, h2, h3, h4⟩ := g x _ h
  exact ⟨c, o, r, h2, h3, h4⟩
theorem Ex.freeze {x : Str} {U : UP} {ss : List Stmt} {O : Out} (h : G.lookup x = some (.own U)) (k : Ex C n sc ((x, .val (.of U)) :: G) ss O) : Ex C n sc G ss O := fun A Z mine R env s E hA hE I S g => by
  obtain ⟨c, o, r, h2, h3, h4⟩ := own_at g h
  obtain ⟨m1, m2, rfl⟩ := List.append_of_mem h2
  have I' : Inv C Z (.ob x c o :: ((m1 ++ m2) ++ R)) s := I.perm (by
    rw [List.append_assoc, List.append_assoc]
    exact (List.perm_middle (l₁ := m1) (l₂ := m2 ++ R)).symm)
  obtain ⟨J, z⟩ := I'.freeze
  have hne : ∀ q ∈ m1 ++ .ob x c o :: m2, q ≠ .ob x c o → q ∈ m1 ++ m2 := fun q hq hn => by
    rcases List.mem_append.mp hq with h | h
    · exact List.mem_append_left _ h
    · rcases List.mem_cons.mp h with h | h
      · exact absurd h hn
      · exact List.mem_append_right _ h
  have hne' : ∀ q ∈ (m1 ++ .ob x c o :: m2) ++ R, q ≠ .ob x c o → q ∈ (m1 ++ m2) ++ R := fun q hq hn => by
    rcases List.mem_append.mp hq with h | h
    · exact List.mem_append_left _ (hne q h hn)
    · exact List.mem_append_right _ h
  have S' : StOk (IsCellOf sc) env (m1 ++ m2) := ⟨let ⟨k, hk⟩ := S.ns; ⟨k, hne _ hk (by intro e; cases e)⟩, fun y hy => let ⟨c, v, a, b⟩ := S.cells y hy; ⟨c, v, a, hne _ b (by intro e; cases e)⟩, S.inj⟩
  have rd : ∀ {y v}, Rd env ((m1 ++ .ob x c o :: m2) ++ R) y v → Rd env ((m1 ++ m2) ++ R) y v := fun r => by
    rcases r with ⟨a, m, b, c⟩ | ⟨a, c, b, d⟩
    · exact .inl ⟨a, m, hne' _ b (by intro e; cases e), c⟩
    · exact .inr ⟨a, c, b, hne' _ d (by intro e; cases e)⟩
  refine wpAny_mono (k A _ (m1 ++ m2) R env s E hA hE J S' fun y e hy => ?_) (fun fl s' h' => h'.more z) fun _ _ e => e
  by_cases hyx : y = x
  · subst hyx
    rw [lookup_cons_eq] at hy; cases hy
    exact ⟨.ref c, rd r, c, o, rfl, Fz.put_self, U.mono z h3, h4⟩
  · rw [lookup_cons_ne hyx] at hy
    obtain ⟨v, r', k'⟩ := g y e hy
    refine ⟨v, rd r', ?_⟩
    cases e with
    | val P => exact P.mono z k'
    | own V =>
      obtain ⟨c', o', e1, e2, e3, e4⟩ := k'
      exact ⟨c', o', e1, hne _ e2 (by intro e; cases e; exact hyx rfl), V.mono z e3, e4⟩
theorem own_turn {env : Env} {x : Str} {c : Addr} {o o' : Obj} {U U' : UP} {h' : Heap} {tk : Nat} (I : Inv C Z (mine ++ R) s) (S : StOk (IsCellOf sc) env mine) (g : EnvOk G env Z (mine ++ R) mine) (hx : G.lookup x = some (.own U)) (r : Rd env (mine ++ R) x (.ref c)) (hm : Res.ob x c o ∈ mine) (hn : Nm c)
    (e : h'.get? c = some o') (u : U'.ok Z o') (k : ∀ b ob, b ≠ c → s.heap.get? b = some ob → h'.get? b = some ob) :
    ∃ mine', Inv C Z (mine' ++ R) { s with heap := h', toks := tk } ∧ StOk (IsCellOf sc) env mine' ∧ EnvOk ((x, .own U') :: G) env Z (mine' ++ R) mine' := by
  have hin : ∀ r ∈ mine, r ∈ mine ++ R := fun r h => List.mem_append_left _ h
  have hmm : c ∈ mine.map Res.addr := List.mem_map.mpr ⟨_, hm, rfl⟩
  have J := I.turnM (r := .ob x c o') (tk := tk) hmm e k
  have uniq : ∀ q ∈ mine ++ R, q.addr = c → q = .ob x c o := fun q hq e => I.same hq (hin _ hm) e
  have one : ∀ q ∈ mine ++ R, q.addr ≠ c → q ∈ setRes (.ob x c o') mine ++ R := fun q hq hne => by
    rcases List.mem_append.mp hq with a | a
    · exact List.mem_append_left _ (mem_setRes a hne)
    · exact List.mem_append_right _ a
  have hself : Res.ob x c o' ∈ setRes (.ob x c o') mine := self_setRes hmm
  have rd : ∀ {y v}, Rd env (mine ++ R) y v → Rd env (setRes (.ob x c o') mine ++ R) y v := fun r => by
    rcases r with ⟨a, m, b, d⟩ | ⟨a, d, b, f⟩
    · exact .inl ⟨a, m, one _ b fun e => (by have := uniq _ b e; cases this), d⟩
    · exact .inr ⟨a, d, b, one _ f fun e => (by have := uniq _ f e; cases this)⟩
  refine ⟨setRes (.ob x c o') mine, J, ⟨?_, fun y hy => ?_, S.inj⟩, fun y e' hy => ?_⟩
  · obtain ⟨m, hm'⟩ := S.ns; exact ⟨m, mem_setRes hm' fun e => (by have := uniq _ (hin _ hm') e; cases this)⟩
  · obtain ⟨d, v, a, b⟩ := S.cells y hy; exact ⟨d, v, a, mem_setRes b fun e => (by have := uniq _ (hin _ b) e; cases this)⟩
  · by_cases hyx : y = x
    · subst hyx
      rw [lookup_cons_eq] at hy; cases hy
      exact ⟨.ref c, rd r, c, o', rfl, hself, u, hn⟩
    · rw [lookup_cons_ne hyx] at hy
      obtain ⟨v, r', k'⟩ := g y e' hy
      refine ⟨v, rd r', ?_⟩
      cases e' with
      | val P => exact k'
      | own V =>
        obtain ⟨c', o'', e1, e2, e3, e4⟩ := k'
        exact ⟨c', o'', e1, mem_setRes e2 fun e => (by have := uniq _ (hin _ e2) e; cases this; exact hyx rfl), e3, e4⟩
noncomputable def dget {β : Type} (l : List (Str × β)) (k : Str) : Option β := (l.find? fun kv => decide (kv.1 = k)).map Prod.snd
noncomputable def dput {β : Type} (l : List (Str × β)) (k : Str) (v : β) : List (Str × β) := if l.any (fun kv => decide (kv.1 = k)) then l.map (fun kv => if kv.1 = k then (kv.1, v) else kv) else l ++ [(k, v)]
theorem stored_all2 {l : List (Str × VP)} {kvs : List (Str × Value)} (h : All2 (fun (p : Str × VP) (q : Str × Value) => p.1 = q.1 ∧ p.2.ok Z q.2) l kvs) {k : Str} {P : VP} {v : Value} (hv : P.ok Z v) :
    All2 (fun (p : Str × VP) (q : Str × Value) => p.1 = q.1 ∧ p.2.ok Z q.2) (dput l k P) (stored kvs k v) := by
  have hany : (l.any fun kv => decide (kv.1 = k)) = (kvs.any fun kv => decide (kv.1 = k)) := by
    induction h with
    | nil => rfl
    | cons a _ ih => rw [List.any_cons, List.any_cons, ih, a.1]
  have hmap : All2 (fun (p : Str × VP) (q : Str × Value) => p.1 = q.1 ∧ p.2.ok Z q.2) (l.map fun kv => if kv.1 = k then (kv.1, P) else kv) (kvs.map fun kv => if kv.1 = k then (kv.1, v) else kv) := by
    clear hany
    induction h with
    | nil => exact .nil
    | @cons p q l m a b ih =>
      refine .cons ?_ ih
      show (if p.1 = k then (p.1, P) else p).1 = (if q.1 = k then (q.1, v) else q).1 ∧ (if p.1 = k then (p.1, P) else p).2.ok Z (if q.1 = k then (q.1, v) else q).2
      rw [a.1]
      split
      · exact ⟨rfl, hv⟩
      · exact a
  unfold stored dput
  rw [hany]
  split
  · exact hmap
  · exact h.append (.cons ⟨rfl, hv⟩ .nil)
theorem valueAt_all2 {l : List (Str × VP)} {kvs : List (Str × Value)} (h : All2 (fun (p : Str × VP) (q : Str × Value) => p.1 = q.1 ∧ p.2.ok Z q.2) l kvs) (k : Str) :
    (∀ P, dget l k = some P → ∃ v, valueAt kvs k = some v ∧ P.ok Z v) ∧ (valueAt kvs k).isSome = (dget l k).isSome := by
  induction h with
  | nil => exact ⟨fun P e => by simp [dget] at e, rfl⟩
  | @cons p q l m a b ih =>
    unfold valueAt dget at ih ⊢
    rw [List.find?_cons, List.find?_cons, a.1]
    by_cases hk : q.1 = k
    · simp only [hk, decide_true]
      exact ⟨fun P e => by cases e; exact ⟨q.2, rfl, a.2⟩, rfl⟩
    · simp only [hk, decide_false]
      exact ih
theorem Op2O.inDict {x : Str} {l : List (Str × VP)} : Op2O C n (.str x) (.dict C l) (compareOp .In) (.bool (dget l x).isSome) := fun A Z own s a b o E hA I ⟨t, h1⟩ h2 h3 h4 => by
  subst h1
  obtain ⟨kvs, ep, hd, hk⟩ := IsDict.at h3 h2
  refine wpAny_in_of (knd := strKind C.prog C.w) (strKind_is _ _ x t) h4 hd.dictOf.mapOf ?_
  rw [(valueAt_all2 hk x).2]
  exact Post.here (I.tok _) rfl
theorem getDict {x : Str} {l : List (Str × VP)} {P : VP} {A : Around} {a : Value} {b : Addr} {o : Obj} {E : Value → Shared → Prop} (I : Inv C Z own s) (ha : (VP.str x).ok Z a) (hb : s.heap.get? b = some o) (ho : IsDict C l Z o) (hv : dget l x = some P) :
    wpAny C.M A (getItem (.ref b) a) (Post C Z own P) E s := by
  obtain ⟨t, rfl⟩ := ha
  obtain ⟨kvs, ep, hd, hk⟩ := IsDict.at ho hb
  obtain ⟨v, h1, h2⟩ := (valueAt_all2 hk x).1 P hv
  exact wpAny_getItem_of (knd := strKind C.prog C.w) (strKind_is _ _ x t) hd.dictOf.mapOf h1 (Post.here (I.tok _) h2)
theorem ExS.setDict {d : Str} {dp : Pos} {i e : Expr} {p p' : Pos} {l : List (Str × VP)} {k : Str} {P : VP} {O : Out} (hd : G.lookup d = some (.own (.dict C l))) (he : Ev C n sc G e P) (hi : Ev C n sc G i (.str k)) (hsz : l.length ≤ sizeLine)
    (ho : O.next ((d, .own (.dict C (dput l k P))) :: G)) (hn : ((d == ("__debug__" : Str)) || (d == ("__classdict__" : Str))) = false := by rfl)
    (hs : ∀ env, EnvIs sc env → swapsWith e (some (.Subscript (.Name d dp) i p')) p.line env = pure false := by intro _ _; rfl) : ExS C n sc G (.Assign [.Subscript (.Name d dp) i p'] e p) O := fun A Z mine R env s E hA hE I S g => by
  refine wpAny_Assign_Subscript (wpAny_mono (he A Z _ env s E hA hE I g.ev) (fun v s1 ⟨Z1, z1, I1, p1⟩ => ?_) fun _ _ e => e) (hs env hE)
  have g1 := g.z z1
  obtain ⟨c, o, r, h2, h3, h4⟩ := own_at g1 hd
  rw [Bool.or_eq_false_iff] at hn
  refine wpAny_Name (rd_load hE I1 r ?_ hn.2) hn.1
  refine wpAny_mono (hi A Z1 _ env s1 E hA hE I1 g1.ev) (fun kv s2 ⟨Z2, z2, I2, t, p2⟩ => ?_) fun _ _ e => e
  subst p2
  have ho2 : s2.heap.get? c = some o := I2.ok _ (List.mem_append_left _ h2)
  have h3' : IsDict C l Z2 o := IsDict.mono z2 h3
  obtain ⟨kvs, ep, hda, hk⟩ := h3'.at ho2
  refine wpAny_setItem_pairs (knd := strKind C.prog C.w) (hsz := by rw [← hk.len]; exact hsz) (strKind_is _ _ k t) hda.dictOf fun h' hd' hs' => ?_
  obtain ⟨o', es', ep', e1, e2, e3, e4, e5, e6⟩ := hd'
  obtain ⟨m', I', S', g'⟩ := own_turn (tk := s2.toks + 1) (U' := .dict C (dput l k P)) (o' := o') I2 S (g1.z z2) hd r h2 h4 e1 ⟨es', ep', _, e2, e3, e4, e5, e6, stored_all2 hk (P.mono z2 p1)⟩ fun b ob hb q => (hs'.2 b hb).trans q
  exact ⟨Z2, m', z1.trans z2, I', S', _, ho, g'⟩
theorem Op2.addInt {a b : Int} : Op2 C n (.int a) (.int b) (binaryOp .Add) (.int (a + b)) := fun A Z own s v w E hA I ⟨t, h1⟩ ⟨u, h2⟩ => by
  subst h1; subst h2; exact add_int (Post.here (I.tok _) ⟨_, rfl⟩)
end Mine
namespace Mine
variable {C : Cx} {Z Z' : Fz} {own mine R : List Res} {s : Shared} {n : Nat} {sc : Scope} {G : Gam}
theorem Post.push (I : Inv C Z own s) {U : UP} {o : Obj} {tk : Nat} (u : U.ok Z o) (hf : o.isFreed = false) : Post C Z own (.of U) (.ref s.heap.objs.size) { s with heap := s.heap.push o, toks := tk } :=
  have z : Z.le (Z.put s.heap.objs.size o) := Fz.le_put (I.znone (Nat.le_refl _))
  ⟨_, z, I.push o hf, _, o, rfl, Fz.put_self, U.mono z u, I.nm⟩
theorem Ev.values {o : Expr} {apos pos : Pos} {l : List (Str × VP)} (ho : Ev C n sc G o (.dict C l)) (hbase : ∀ env, attributeBase o "values" env (eval o env) = eval o env := by intro _; rfl) (hline : (apos.endLine == pos.line) = true := by rfl) :
    Ev C n sc G (.Call (.Attribute o "values" apos) [] [] pos) (.of (.view C "dict_values" l)) := by
  refine Ev.meth ho EvA.nil F.plainAttrs_dict F.slot_dict_values F.type_dict_values (isOf_U fun Z o h => IsDict.zat h) (fun _ _ => rfl) (fun A Z own s a vs E hA I ha hv => ?_) hbase rfl hline
  cases hv
  obtain ⟨d, od, rfl, h2, h3, h4⟩ := ha
  obtain ⟨kvs, ep, hd, hk⟩ := IsDict.at h3 (I.zle _ _ h2)
  exact call_meetsIn F.slot_dict_values hd.dictOf.typeIs F.entry_dict_values (F.args_dict_values_1 _) (meets_dict_values (strKind C.prog C.w) d h4) ⟨⟨kvs, hd.dictOf⟩, Post.push (tk := s.toks) I ⟨d, od, rfl, rfl, h2, h3, rfl⟩ rfl⟩
theorem Ev.items {o : Expr} {apos pos : Pos} {l : List (Str × VP)} (ho : Ev C n sc G o (.dict C l)) (hbase : ∀ env, attributeBase o "items" env (eval o env) = eval o env := by intro _; rfl) (hline : (apos.endLine == pos.line) = true := by rfl) :
    Ev C n sc G (.Call (.Attribute o "items" apos) [] [] pos) (.of (.view C "dict_items" l)) := by
  refine Ev.meth ho EvA.nil F.plainAttrs_dict F.slot_dict_items F.type_dict_items (isOf_U fun Z o h => IsDict.zat h) (fun _ _ => rfl) (fun A Z own s a vs E hA I ha hv => ?_) hbase rfl hline
  cases hv
  obtain ⟨d, od, rfl, h2, h3, h4⟩ := ha
  obtain ⟨kvs, ep, hd, hk⟩ := IsDict.at h3 (I.zle _ _ h2)
  exact call_meetsIn F.slot_dict_items hd.dictOf.typeIs F.entry_dict_items (F.args_dict_items_1 _) (meets_dict_items (strKind C.prog C.w) d h4) ⟨⟨kvs, hd.dictOf⟩, Post.push (tk := s.toks) I ⟨d, od, rfl, rfl, h2, h3, rfl⟩ rfl⟩
theorem ExS.augInt {x : Str} {e : Expr} {p p' : Pos} {op : Operator} {P Q R' : VP} {O : Out} (hx : G.lookup x = some (.val P)) (he : Ev C n sc G e Q) (hop : Op2 C n P Q (inplaceOp op) R') (ho : O.next ((x, .val R') :: G))
    (hk : (sc.names.lookup x == some .local || sc.names.lookup x == some .cell) = true := by rfl) (hn : (x == ("__classdict__" : Str)) = false := by rfl) : ExS C n sc G (.AugAssign (.Name x p') op e p) O := fun A Z mine R env s E hA hE I S g => by
  refine wpAny_AugAssign_Name ?_
  obtain ⟨v, r, k⟩ := g x _ hx
  refine rd_load hE I r ?_ hn
  refine wpAny_mono (he A Z _ env s E hA hE I g.ev) (fun u s1 ⟨Z1, z1, I1, p1⟩ => ?_) fun _ _ e => e
  refine wpAny_mono (hop A Z1 _ s1 v u E hA I1 (P.mono z1 k) p1) (fun r s2 ⟨Z2, z2, I2, p2⟩ => ?_) fun _ _ e => e
  refine st_store true (e := .val R') hE I2 S (g.z (z1.trans z2)) (stable hk) p2 fun m' s' I' S' g' ob => ?_
  exact ⟨Z2, m', z1.trans z2, I', S', _, ho, g'⟩
end Mine
namespace Mine
variable {C : Cx} {Z Z' : Fz} {own mine R : List Res} {s : Shared} {n : Nat} {sc : Scope} {G : Gam}
theorem Op2.iaddInt {a b : Int} : Op2 C n (.int a) (.int b) (inplaceOp .Add) (.int (a + b)) := fun A Z own s v w E hA I ⟨t, h1⟩ ⟨u, h2⟩ => by
  subst h1; subst h2; exact PyProof.Rows.iadd_int (Post.here (I.tok _) ⟨_, rfl⟩)
theorem ExS.forL {α : Type} {xs : List α} {P : α → VP} {tgt iter : Expr} {body : List Stmt} {p : Pos} {O : Out} {ps : List VP} (J : List α → Gam) (hit : EvIter C n sc G iter tgt ps false) (hps : ps = xs.map P) (h0 : GSub (J []) G)
    (hb : ∀ pre x post, xs = pre ++ x :: post → ∃ G1, Asg C n sc true (IsCellOf sc) (J pre) tgt (P x) G1 ∧ Ex C n sc G1 body { next := fun X => X = J (pre ++ [x]), cont := fun X => X = J (pre ++ [x]), brk := O.next, ret := O.ret })
    (hend : O.next (J xs)) (hs : ∀ env x, foldedSetIterable iter env x = pure x := by intro _ _; rfl) : ExS C n sc G (.For tgt iter body [] p) O := by
  subst hps
  refine ExS.for_ (fun i => J (xs.take i)) hit (by simpa using h0) (fun i q hq => ?_) (by simpa using hend) hs
  obtain ⟨x, hx, rfl⟩ : ∃ x, xs[i]? = some x ∧ P x = q := by
    rw [List.getElem?_map] at hq
    exact Option.map_eq_some_iff.mp hq
  obtain ⟨hi, hx'⟩ := List.getElem?_eq_some_iff.mp hx
  have e : xs = xs.take i ++ x :: xs.drop (i + 1) := by
    rw [← hx', ← List.drop_eq_getElem_cons hi, List.take_append_drop]
  obtain ⟨G1, h1, h2⟩ := hb _ x _ e
  refine ⟨G1, h1, ?_⟩
  have e2 : xs.take (i + 1) = xs.take i ++ [x] := by rw [List.take_add_one, hx]; rfl
  rw [e2]; exact h2
theorem Ex.retS {e : Expr} {p : Pos} {P : VP} {ss : List Stmt} {O : Out} (h : Ev C n sc G e P) (ho : O.ret P) : Ex C n sc G (.Return (some e) p :: ss) O :=
  Ex.cons (N := fun _ => False) (ExS.ret h ho) fun _ h => h.elim
theorem gsub_nil : GSub [] G := fun x e h => by simp at h
theorem gsub_cons {x : Str} {e : Ent} {G' : Gam} (h : G.lookup x = some e) (hs : GSub G' G) : GSub ((x, e) :: G') G := fun y e' q => by
  by_cases hy : y = x
  · subst hy; rw [lookup_cons_eq] at q; cases q; exact h
  · rw [lookup_cons_ne hy] at q; exact hs y e' q
end Mine
end

section
open PySem PySem.W PyProof.Rows
set_option autoImplicit false
namespace Mine
variable {C : Cx} {Z Z' : Fz} {own mine R : List Res} {s : Shared} {n : Nat} {sc : Scope} {G : Gam}
theorem ExS.augDict {d x : Str} {dp px : Pos} {e : Expr} {op : Operator} {p p' : Pos} {l : List (Str × VP)} {k : Str} {P Q R' : VP} {O : Out} (hd : G.lookup d = some (.own (.dict C l))) (hi : Ev C n sc G (.Name x px) (.str k)) (hk : dget l k = some P) (he : Ev C n sc G e Q) (hop : Op2 C n P Q (inplaceOp op) R') (hsz : l.length ≤ sizeLine)
    (ho : O.next ((d, .own (.dict C (dput l k R'))) :: G)) (hn : ((d == ("__debug__" : Str)) || (d == ("__classdict__" : Str))) = false := by rfl) : ExS C n sc G (.AugAssign (.Subscript (.Name d dp) (.Name x px) p') op e p) O := fun A Z mine R env s E hA hE I S g => by
  refine wpAny_AugAssign_Subscript ?_
  obtain ⟨c, o, r, h2, h3, h4⟩ := own_at g hd
  rw [Bool.or_eq_false_iff] at hn
  refine wpAny_Name (rd_load hE I r ?_ hn.2) hn.1
  refine wpAny_mono (hi A Z _ env s E hA hE I g.ev) (fun kv s1 ⟨Z1, z1, I1, p1⟩ => ?_) fun _ _ e => e
  have ho1 : s1.heap.get? c = some o := I1.ok _ (List.mem_append_left _ h2)
  refine wpAny_mono (getDict I1 p1 ho1 (IsDict.mono z1 h3) hk) (fun old s2 ⟨Z2, z2, I2, p2⟩ => ?_) fun _ _ e => e
  refine wpAny_mono (he A Z2 _ env s2 E hA hE I2 (g.z (z1.trans z2)).ev) (fun v s3 ⟨Z3, z3, I3, p3⟩ => ?_) fun _ _ e => e
  refine wpAny_mono (hop A Z3 _ s3 old v E hA I3 (P.mono z3 p2) p3) (fun new s4 ⟨Z4, z4, I4, p4⟩ => ?_) fun _ _ e => e
  have zz : Z.le Z4 := ((z1.trans z2).trans z3).trans z4
  have ho4 : s4.heap.get? c = some o := I4.ok _ (List.mem_append_left _ h2)
  have h3' : IsDict C l Z4 o := IsDict.mono zz h3
  obtain ⟨kvs, ep, hda, hkk⟩ := h3'.at ho4
  obtain ⟨t, rfl⟩ := p1
  refine wpAny_setItem_pairs (knd := strKind C.prog C.w) (hsz := by rw [← hkk.len]; exact hsz) (strKind_is _ _ k t) hda.dictOf fun h' hd' hs' => ?_
  obtain ⟨o', es', ep', e1, e2, e3, e4, e5, e6⟩ := hd'
  obtain ⟨m', I', S', g'⟩ := own_turn (tk := s4.toks + 1) (U' := .dict C (dput l k R')) (o' := o') I4 S (g.z zz) hd r h2 h4 e1 ⟨es', ep', _, e2, e3, e4, e5, e6, stored_all2 hkk p4⟩ fun b ob hb q => (hs'.2 b hb).trans q
  exact ⟨Z4, m', zz, I', S', _, ho, g'⟩
theorem Tst.val {e : Expr} {b : Bool} (h : Ev C n sc G e (.bool b)) (he : ∀ env, isTrue e env (eval e env) = (do let v ← eval e env; standAt e.pos; holding [v] (truthy v)) := by intro _; rfl) : Tst C n sc G e b := fun A Z own env s E hA hE I g => by
  rw [he env]
  refine wpAny_bind (wpAny_mono (h A Z own env s E hA hE I g) (fun v s1 ⟨Z1, z1, I1, p1⟩ => wpAny_bind (wpAny_standAt (wpAny_holding ?_))) fun _ _ e => e)
  subst p1
  exact wpAny_truthy_bool ⟨rfl, Z1, z1, I1⟩
theorem Tst.cast {e : Expr} {b b' : Bool} (h : Tst C n sc G e b) (e' : b = b') : Tst C n sc G e b' := e' ▸ h
theorem Ev.cast {e : Expr} {P P' : VP} (h : Ev C n sc G e P) (e' : P = P') : Ev C n sc G e P' := e' ▸ h
theorem Ev.weaken {e : Expr} {P P' : VP} (h : Ev C n sc G e P) (k : ∀ Z v, P.ok Z v → P'.ok Z v) : Ev C n sc G e P' := fun A Z own env s E hA hE I g =>
  wpAny_mono (h A Z own env s E hA hE I g) (fun v s' ⟨Z', a, b, c⟩ => ⟨Z', a, b, k _ _ c⟩) fun _ _ e => e
theorem Fn.le {m : Nat} {f : Value} {ps : List VP} {r : VP} (h : Fn C m f ps r) (hm : m ≤ n) : Fn C n f ps r := fun A Z own s vs E hA => h A Z own s vs E (hA.le hm)
theorem oks2 {a b : VP} {vs : List Value} (h : Oks Z [a, b] vs) : ∃ v w, vs = [v, w] ∧ a.ok Z v ∧ b.ok Z w := by
  cases h with
  | cons p q =>
    cases q with
    | cons p2 q2 => cases q2; exact ⟨_, _, rfl, p, p2⟩
theorem Fn.isiIntTuple {i : Int} : Fn C n (.builtin "isinstance") [.int i, .is (.type "tuple")] (.bool false) := fun A Z own s vs E hA I hv => by
  obtain ⟨v, w, rfl, ⟨t, h1⟩, h2⟩ := oks2 hv
  subst h1; cases (show _ = _ from h2); exact IsiPair.int_tuple (Post.here (I.tok _) rfl)
theorem Fn.isiIntInt {i : Int} : Fn C n (.builtin "isinstance") [.int i, .is (.type "int")] (.bool true) := fun A Z own s vs E hA I hv => by
  obtain ⟨v, w, rfl, ⟨t, h1⟩, h2⟩ := oks2 hv
  subst h1; cases (show _ = _ from h2); exact IsiPair.int_int (Post.here I rfl)
end Mine
namespace Mine
variable {C : Cx} {Z Z' : Fz} {own mine R : List Res} {s : Shared} {n : Nat} {sc : Scope} {G : Gam}
theorem execs_append (env : Env) (b : List Stmt) : ∀ a : List Stmt, execs (a ++ b) env = (execs a env >>= fun f => match f with | .next => execs b env | f => pure f)
  | [] => by rw [List.nil_append, execs_nil, pure_bind]
  | st :: a => by
    rw [List.cons_append, execs_cons, execs_cons, bind_assoc]
    congr 1; funext f
    cases f with
    | next => exact execs_append env b a
    | ret v => rw [pure_bind]
    | brk => rw [pure_bind]
    | cont => rw [pure_bind]
theorem Ex.ite {t : Expr} {a b ss : List Stmt} {p : Pos} {c : Bool} {O : Out} (h : Tst C n sc G t c) (h1 : c = true → Ex C n sc G (a ++ ss) O) (h2 : c = false → Ex C n sc G (b ++ ss) O) : Ex C n sc G (.If t a b p :: ss) O := fun A Z mine R env s E hA hE I S g => by
  have e : execs (.If t a b p :: ss) env = (do standAt p; if ← isTrue t env (eval t env) then execs (a ++ ss) env else execs (b ++ ss) env) := by
    rw [execs_cons, exec_If, bind_assoc]
    congr 1; funext _
    rw [bind_assoc]
    congr 1; funext r
    cases r
    · simp only [Bool.false_eq_true, if_false]; exact (execs_append env ss b).symm
    · simp only [if_true]; exact (execs_append env ss a).symm
  rw [e]
  refine wpAny_bind (wpAny_standAt (wpAny_bind (wpAny_mono (h A Z _ env s E hA hE I g.ev) (fun r s1 ⟨q, Z1, z1, I1⟩ => ?_) fun _ _ e => e)))
  subst q
  cases r with
  | true => simp only [if_true]; exact wpAny_mono (h1 rfl A Z1 mine R env s1 E hA hE I1 S (g.z z1)) (fun fl s'' h'' => h''.more z1) fun _ _ e => e
  | false => simp only [Bool.false_eq_true, if_false]; exact wpAny_mono (h2 rfl A Z1 mine R env s1 E hA hE I1 S (g.z z1)) (fun fl s'' h'' => h''.more z1) fun _ _ e => e
end Mine
end

section
open PySem PySem.W PyProof.Rows
set_option autoImplicit false
namespace Mine
variable {C : Cx} {Z Z' : Fz} {own mine R : List Res} {s : Shared} {n : Nat} {sc : Scope} {G : Gam} {W : Str → Prop}
theorem Ev.bind {e : Expr} {P : VP} {A : Around} {env : Env} {Q : Value → Shared → Prop} {E : Value → Shared → Prop} (h : Ev C n sc G e P) (hA : Room n A) (hE : EnvIs sc env) (I : Inv C Z own s) (g : EnvOk G env Z own own)
    (k : ∀ v Z1 s1, Z.le Z1 → Inv C Z1 own s1 → P.ok Z1 v → Q v s1) : wpAny C.M A (eval e env) Q E s :=
  wpAny_mono (h A Z own env s E hA hE I g) (fun v s1 h1 => h1.elim fun Z1 h => k v Z1 s1 h.1 h.2.1 h.2.2) fun _ _ e => e
noncomputable def turnForm (iter target : Expr) (ifs : List Expr) (inner : Sem Unit) (it : Value) (env : Env) (c : Code) : Sem Fin := do
  standAt iter.pos
  match ← pyNext it with
  | none => pure (.done .next)
  | some v =>
    letOwnedTupleGo target it v
    assign target env v
    let mut ok := true
    for c in ifs do
      if ok then ok ← isTrue c env (eval c env)
    if ok then
      inner
    again c
noncomputable def Ifs (C : Cx) (n : Nat) (sc : Scope) (G : Gam) (ifs : List Expr) (b : Bool) : Prop :=
  ∀ (A : Around) (Z : Fz) (own : List Res) (env : Env) (s : Shared) (E : Value → Shared → Prop), Room n A → EnvIs sc env → Inv C Z own s → EnvOk G env Z own own →
    wpAny C.M A (forIn ifs true fun c r => if r = true then do let ok ← isTrue c env (eval c env); pure (ForInStep.yield ok) else pure (ForInStep.yield r)) (fun r s' => r = b ∧ ∃ Z', Z.le Z' ∧ Inv C Z' own s') E s
theorem Ifs.nil : Ifs C n sc G [] true := fun A Z own env s E hA hE I g => wpAny_tests_nil ⟨rfl, Z, .rfl, I⟩
theorem Ifs.one {c : Expr} {b : Bool} (h : Tst C n sc G c b) : Ifs C n sc G [c] b := fun A Z own env s E hA hE I g => wpAny_tests_one (h A Z own env s E hA hE I g)
noncomputable def EmP (C : Cx) (G : Gam) (W : Str → Prop) (Z : Fz) (R : List Res) (env : Env) (D : Addr) (U : UP) (s' : Shared) : Prop :=
  ∃ Z' mine' o', Z.le Z' ∧ Inv C Z' (mine' ++ (.it D o' :: R)) s' ∧ U.ok Z' o' ∧ StOk W env mine' ∧ EnvOk G env Z' (mine' ++ (.it D o' :: R)) (mine' ++ (.it D o' :: R))
noncomputable def Em (C : Cx) (n : Nat) (sc : Scope) (W : Str → Prop) (G : Gam) (t : Env → Value → Sem Unit) (U U' : UP) : Prop :=
  ∀ (A : Around) (Z : Fz) (mine R : List Res) (env : Env) (s : Shared) (D : Addr) (o : Obj) (E : Value → Shared → Prop), Room n A → EnvIs sc env → Inv C Z (mine ++ (.it D o :: R)) s → U.ok Z o → Nm D → StOk W env mine → EnvOk G env Z (mine ++ (.it D o :: R)) (mine ++ (.it D o :: R)) →
    wpAny C.M A (t env (.ref D)) (fun _ s' => EmP C G W Z R env D U' s') E s
theorem EmP.more {R : List Res} {env : Env} {D : Addr} {U : UP} (z : Z.le Z') (h : EmP C G W Z' R env D U s) : EmP C G W Z R env D U s := let ⟨a, b, c, d, e⟩ := h; ⟨a, b, c, z.trans d, e⟩
theorem EnvOk.blind {env : Env} {a b a' b' : List Res} (g : EnvOk G env Z a a') (h : ∀ r ∈ a, (∃ x o, r = .it x o) ∨ r ∈ b) (h' : ∀ r ∈ a', (∃ x o, r = .it x o) ∨ r ∈ b') : EnvOk G env Z b b' := fun x e hx => by
  obtain ⟨v, r, k⟩ := g x e hx
  refine ⟨v, ?_, ?_⟩
  · rcases r with ⟨a, m, b, c⟩ | ⟨a, c, b, d⟩
    · exact .inl ⟨a, m, (h _ b).resolve_left (fun ⟨_, _, e⟩ => by cases e), c⟩
    · exact .inr ⟨a, c, b, (h _ d).resolve_left (fun ⟨_, _, e⟩ => by cases e)⟩
  · cases e with
    | val P => exact k
    | own U => obtain ⟨c, o, h1, h2, h3, h4⟩ := k; exact ⟨c, o, h1, (h' _ h2).resolve_left (fun ⟨_, _, e⟩ => by cases e), h3, h4⟩
theorem blind_it {m R : List Res} {D : Addr} {o o' : Obj} : ∀ r ∈ m ++ (.it D o :: R), (∃ x o, r = .it x o) ∨ r ∈ m ++ (.it D o' :: R) := fun r hr => by
  rcases List.mem_append.mp hr with h | h
  · exact .inr (List.mem_append_left _ h)
  · rcases List.mem_cons.mp h with h | h
    · exact .inl ⟨_, _, h⟩
    · exact .inr (List.mem_append_right _ (.tail _ h))
theorem blind_its {m R : List Res} {D : Addr} {o : Obj} {rs rs' : List (Addr × Obj)} : ∀ r ∈ m ++ (.it D o :: (its rs ++ R)), (∃ x o, r = .it x o) ∨ r ∈ m ++ (.it D o :: (its rs' ++ R)) := fun r hr => by
  rcases List.mem_append.mp hr with h | h
  · exact .inr (List.mem_append_left _ h)
  · rcases List.mem_cons.mp h with h | h
    · exact .inl ⟨_, _, h⟩
    · rcases List.mem_append.mp h with h | h
      · obtain ⟨p, _, e⟩ := List.mem_map.mp h; exact .inl ⟨_, _, e.symm⟩
      · exact .inr (List.mem_append_right _ (.tail _ (List.mem_append_right _ h)))
theorem blind_drop {m R : List Res} {D : Addr} {o : Obj} {rs : List (Addr × Obj)} : ∀ r ∈ m ++ (.it D o :: (its rs ++ R)), (∃ x o, r = .it x o) ∨ r ∈ m ++ (.it D o :: R) := fun r hr =>
  (blind_its (rs' := []) r hr).imp id fun h => h
theorem comp_loop {e : Expr} {d : Nat} {target iter : Expr} {ifs : List Expr} (inner : Env → Value → Sem Unit) {ps : List VP} (U : Nat → UP)
    (ht : ∀ env it D, compTurn e d it (.ref D) env = turnForm iter target ifs (inner env (.ref D)) it env (.compLoop e d it (.ref D) env)) (hf : ∀ it acc env, (Code.compLoop e d it acc env).isFrame = false)
    (hb : ∀ i q, ps[i]? = some q → ∃ G1 b, Asg C n sc false W G target q G1 ∧ GSub G G1 ∧ Ifs C n sc G1 ifs b ∧ (b = true → Em C n sc W G1 inner (U i) (U (i + 1))) ∧ (b = false → U (i + 1) = U i))
    {A : Around} {mine R : List Res} {env : Env} {D It : Addr} {o : Obj} {rs : List (Addr × Obj)} {RR : Result → Shared → Prop} (hA : Room n A) (hE : EnvIs sc env) (I : Inv C Z (mine ++ (.it D o :: (its rs ++ R))) s) (u : (U 0).ok Z o) (hD : Nm D) (S : StOk W env mine)
    (g : EnvOk G env Z (mine ++ (.it D o :: (its rs ++ R))) (mine ++ (.it D o :: (its rs ++ R)))) (Y : Yields C target It ps Z rs) (hR : ∀ s', EmP C G W Z R env D (U ps.length) s' → RR (.ok .next) s') :
    codeAny C.M A (.compLoop e d (.ref It) (.ref D) env) RR s := by
  refine codeAny_loop rfl (fun k s' => ∃ (i : Nat) (Z1 : Fz) (m1 : List Res) (o1 : Obj) (rs1 : List (Addr × Obj)), k = ps.length - i ∧ i ≤ ps.length ∧ Z.le Z1 ∧ Inv C Z1 (m1 ++ (.it D o1 :: (its rs1 ++ R))) s' ∧ (U i).ok Z1 o1 ∧ StOk W env m1 ∧
    EnvOk G env Z1 (m1 ++ (.it D o1 :: (its rs1 ++ R))) (m1 ++ (.it D o1 :: (its rs1 ++ R))) ∧ Yields C target It (ps.drop i) Z1 rs1) ?_ ps.length ⟨0, Z, mine, o, rs, by omega, by omega, .rfl, I, u, S, g, Y⟩
  rintro k s1 ⟨i, Z1, m1, o1, rs1, hk, hi, z1, I1, u1, S1, g1, Y1⟩
  have hw : (Code.compLoop e d (.ref It) (.ref D) env).weight = 0 ∧ (Code.compLoop e d (.ref It) (.ref D) env).cUnits = 0 := by
    have h0 := hf (.ref It) (.ref D) env
    constructor
    · simp [Code.weight, Code.frames, Code.isCreation, Code.isGuard, Code.isCaller, h0]
    · simp [Code.cUnits, Code.frames, h0]
  rw [Around.under_of_weight hw.1 hw.2]
  have hden : C.M.den (.compLoop e d (.ref It) (.ref D) env) = (compTurn e d (.ref It) (.ref D) env).onRaise (fun x => do noteFrame x env; theTreesLotGoes x) := by
    show (if (Code.compLoop e d (.ref It) (.ref D) env).isFrame then _ else _) = _
    rw [hf]; rfl
  rw [hden]
  refine wpAny_noted ?_
  rw [ht]
  unfold turnForm
  refine wpAny_bind (wpAny_standAt (wpAny_bind ?_))
  have perm1 : ∀ {m : List Res} {o : Obj} {rs : List (Addr × Obj)}, (m ++ [.it D o] ++ its rs ++ R) = m ++ (.it D o :: (its rs ++ R)) := by intro m o rs; simp
  by_cases hlt : i < ps.length
  · rw [List.drop_eq_getElem_cons hlt] at Y1
    refine Y1.one A Z1 (m1 ++ [.it D o1]) R s1 _ _ hA.hh .rfl (by rw [perm1]; exact I1) fun v s2 hgo => wpAny_bind (hgo _ _ fun Z2 rs2 s3 z2 I2 hv Y2 => wpAny_bind ?_)
    rw [perm1] at I2
    obtain ⟨G1, b, ha, hsub, hif, ht1, hf1⟩ := hb i ps[i] (by simp [hlt])
    have g2 : EnvOk G env Z2 (m1 ++ (.it D o1 :: (its rs2 ++ R))) (m1 ++ (.it D o1 :: (its rs2 ++ R))) := (g1.z z2).blind blind_its blind_its
    refine ha A Z2 m1 (.it D o1 :: (its rs2 ++ R)) env s3 v _ _ hA hE I2 S1 g2 hv fun Z3 m3 s4 z3 I3 S3 g3 _ => wpAny_bind ?_
    refine wpAny_mono (hif A Z3 _ env s4 _ hA hE I3 g3) (fun ok s5 ⟨e5, Z5, z5, I5⟩ => ?_) fun _ _ e => e
    subst e5
    have zz : Z.le Z5 := ((z1.trans z2).trans z3).trans z5
    cases ok with
    | false =>
      simp only [Bool.false_eq_true, if_false]
      refine wpAny_pure ⟨rfl, ps.length - (i + 1), by omega, i + 1, Z5, m3, o1, rs2, rfl, by omega, zz, I5, ?_, S3, (g3.z z5).sub hsub, Y2.z (z3.trans z5)⟩
      rw [hf1 rfl]; exact (U i).mono ((z2.trans z3).trans z5) u1
    | true =>
      simp only [if_true]
      refine wpAny_bind (wpAny_mono (ht1 rfl A Z5 m3 (its rs2 ++ R) env s5 D o1 _ hA hE I5 ((U i).mono ((z2.trans z3).trans z5) u1) hD S3 (g3.z z5)) (fun _ s6 ⟨Z6, m6, o6, z6, I6, u6, S6, g6⟩ => ?_) fun _ _ e => e)
      exact wpAny_pure ⟨rfl, ps.length - (i + 1), by omega, i + 1, Z6, m6, o6, rs2, rfl, by omega, zz.trans z6, I6, u6, S6, g6.sub hsub, Y2.z ((z3.trans z5).trans z6)⟩
  · have hi' : i = ps.length := by omega
    rw [show ps.drop i = [] from List.drop_eq_nil_of_le (by omega)] at Y1
    refine Y1.fin A Z1 (m1 ++ [.it D o1]) R s1 _ _ hA.hh .rfl (by rw [perm1]; exact I1) fun s2 I2 => wpAny_pure ?_
    refine hR _ ⟨Z1, m1, o1, z1, ?_, by rw [← hi']; exact u1, S1, g1.blind blind_drop blind_drop⟩
    rw [List.append_assoc] at I2; exact I2
end Mine
end

section
open PySem PySem.W PyProof.Rows
set_option autoImplicit false
namespace Mine
variable {C : Cx} {Z Z' : Fz} {own mine R : List Res} {s : Shared} {n : Nat} {sc : Scope} {G : Gam} {W : Str → Prop}
theorem compStart_of {e : Expr} {d : Nat} {it acc : Value} {env : Env} {A : Around} {RR : Result → Shared → Prop} (hf : (Code.compStart e d it acc env).isFrame = false) (hq : (Code.compLoop e d it acc env).quiet = true) (hq' : ∀ it', (Code.compLoop e d it' acc env).quiet = true)
    (ha : ((clausesOf e)[d]?).elim false (·.is_async != 0) = false) (h0 : codeAny C.M A (.compLoop e d it acc env) RR s) (h : ∀ E, wpAny C.M A (pyIter it) (fun it' s' => codeAny C.M A (.compLoop e d it' acc env) RR s') E s) :
    codeAny C.M A (.compStart e d it acc env) RR s := by
  refine codeAny_of_tree ?_
  have hw : (Code.compStart e d it acc env).weight = 0 ∧ (Code.compStart e d it acc env).cUnits = 0 := by
    constructor
    · simp [Code.weight, Code.frames, Code.isCreation, Code.isGuard, Code.isCaller, hf]
    · simp [Code.cUnits, Code.frames, hf]
  rw [Around.under_of_weight hw.1 hw.2]
  have hden : C.M.den (.compStart e d it acc env) = (compStart e d it acc env).onRaise (fun x => do noteFrame x env; standAt theWindowsPlace) := by
    show (if (Code.compStart e d it acc env).isFrame then _ else _) = _
    rw [hf]; rfl
  rw [hden]
  refine wpAny_notedAt ?_
  unfold compStart
  rw [if_neg (by rw [ha]; exact Bool.false_ne_true)]
  refine wpAny_bind (wpAny_askSetting (wpAny_ite ?_))
  split
  · exact wpAny_bind (wpAny_pure (wpAny_pure ⟨hq, h0⟩))
  · refine wpAny_bind (wpAny_rule ?_)
    cases hcl : (clausesOf e)[d]? with
    | none => exact wpAny_bind (wpAny_mono (h _) (fun it' s' h' => wpAny_pure ⟨hq' _, h'⟩) fun _ _ x => x)
    | some gc => exact wpAny_bind (wpAny_standAt (wpAny_bind (wpAny_mono (h _) (fun it' s' h' => wpAny_pure ⟨hq' _, h'⟩) fun _ _ x => x)))
theorem comp_start {e : Expr} {d : Nat} {target iter : Expr} {ifs : List Expr} (inner : Env → Value → Sem Unit) {ps : List VP} (U : Nat → UP)
    (ht : ∀ env it D, compTurn e d it (.ref D) env = turnForm iter target ifs (inner env (.ref D)) it env (.compLoop e d it (.ref D) env)) (hf : ∀ it acc env, (Code.compLoop e d it acc env).isFrame = false) (hf' : ∀ it acc env, (Code.compStart e d it acc env).isFrame = false)
    (ha : ((clausesOf e)[d]?).elim false (·.is_async != 0) = false)
    (hb : ∀ i q, ps[i]? = some q → ∃ G1 b, Asg C n sc false W G target q G1 ∧ GSub G G1 ∧ Ifs C n sc G1 ifs b ∧ (b = true → Em C n sc W G1 inner (U i) (U (i + 1))) ∧ (b = false → U (i + 1) = U i))
    {A : Around} {mine R : List Res} {env : Env} {D It : Addr} {o : Obj} {rs : List (Addr × Obj)} {RR : Result → Shared → Prop} (hA : Room n A) (hE : EnvIs sc env) (I : Inv C Z (mine ++ (.it D o :: (its rs ++ R))) s) (u : (U 0).ok Z o) (hD : Nm D) (S : StOk W env mine)
    (g : EnvOk G env Z (mine ++ (.it D o :: (its rs ++ R))) (mine ++ (.it D o :: (its rs ++ R)))) (Y : Yields C target It ps Z rs) (F : Selfs C It Z rs) (hR : ∀ s', EmP C G W Z R env D (U ps.length) s' → RR (.ok .next) s') :
    codeAny C.M A (.compStart e d (.ref It) (.ref D) env) RR s := by
  have L := comp_loop inner U ht hf hb hA hE I u hD S g Y hR
  refine compStart_of (hf' _ _ _) rfl (fun _ => rfl) ha L fun E => F A Z (mine ++ [.it D o]) R s _ E hA.hh .rfl (by simpa using I) L
theorem Em.list {elt : Expr} {l : List VP} {P : VP} (h : Ev C n sc G elt P) (hsz : l.length ≤ sizeLine) : Em C n sc W G (fun env acc => do let _ ← PySem.call (.builtin "list.append") [acc, ← eval elt env]) (.list l) (.list (l ++ [P])) := fun A Z mine R env s D o E hA hE I u hD S g => by
  refine wpAny_bind (h.bind hA hE I g fun v Z1 s1 z1 I1 p1 => wpAny_bind ?_)
  obtain ⟨vs, k, rfl, hv⟩ := (UP.list l).mono z1 u
  have ho : s1.heap.PlainList D vs := ⟨k, I1.ok (.it D _) (List.mem_append_right _ (.head _))⟩
  have hsz' : vs.size ≤ sizeLine := by have := hv.sz; omega
  refine wpAny_list_append_plain (hsz := hsz') ho fun h' hl' hs' => wpAny_pure ?_
  obtain ⟨k', ho'⟩ := hl'
  refine ⟨Z1, mine, { cls := .type "list", data := .seq (vs.push v) k' }, z1, ?_, ⟨_, _, rfl, by rw [Array.toList_push]; exact hv.append (.cons p1 .nil)⟩, S, (g.z z1).blind blind_it blind_it⟩
  have nd := I1.nd
  rw [List.map_append, List.map_cons, List.nodup_append] at nd
  refine I1.turns (tk := s1.toks) (by simp [Res.addr]) (fun r hr => ?_) (fun a ob e => hs'.extBut a ob (fun q => ?_) (I1.zle a ob e)) fun ob e => hs'.extBut _ ob (I1.bare.ne (r := .it D _) (List.mem_append_right _ (.head _))) e
  · rcases List.mem_append.mp hr with hr | hr
    · exact Res.at (I1.ok r (List.mem_append_left _ hr)) fun ob e => hs'.extBut _ ob (fun q => nd.2.2 _ (List.mem_map.mpr ⟨r, hr, rfl⟩) D (List.mem_cons_self ..) q) e
    · rcases List.mem_cons.mp hr with hr | hr
      · subst hr; exact ho'
      · exact Res.at (I1.ok r (List.mem_append_right _ (.tail _ hr))) fun ob e => hs'.extBut _ ob (fun q => (List.nodup_cons.mp nd.2.1).1 (List.mem_map.mpr ⟨r, hr, q⟩)) e
  · have := I1.off (.it D _) (List.mem_append_right _ (.head _))
    rw [q, show Z1 D = none from this] at e; cases e
theorem Em.dict {kx vx : Expr} {l : List (Str × VP)} {k : Str} {P : VP} (hk : Ev C n sc G kx (.str k)) (h : Ev C n sc G vx P) (hsz : l.length ≤ sizeLine) : Em C n sc W G (fun env acc => do
        let kv ← eval kx env
        let vv ← holding [kv] (eval vx env)
        match acc with
        | .ref d => do
          standAt { kx.pos with endLine := vx.pos.endLine, endCol := vx.pos.endCol }
          holding [kv, vv] (dictSet d kv vv)
        | _ => unsupported "internal:dictcomp") (.dict C l) (.dict C (dput l k P)) := fun A Z mine R env s D o E hA hE I u hD S g => by
  refine wpAny_bind (hk.bind hA hE I g fun kv Z1 s1 z1 I1 p1 => wpAny_bind (wpAny_holding (h.bind hA hE I1 (g.z z1) fun v Z2 s2 z2 I2 p2 => wpAny_bind (wpAny_standAt (wpAny_holding ?_)))))
  obtain ⟨t, rfl⟩ := p1
  have ho2 : s2.heap.get? D = some o := I2.ok (.it D o) (List.mem_append_right _ (.head _))
  have h3' : IsDict C l Z2 o := IsDict.mono (z1.trans z2) u
  obtain ⟨kvs, ep, hda, hkk⟩ := h3'.at ho2
  refine wpAny_dictSet_pairs (knd := strKind C.prog C.w) (hsz := by rw [← hkk.len]; exact hsz) (strKind_is _ _ k t) hda.dictOf fun h' hd' hs' => ?_
  obtain ⟨o', es', ep', e1, e2, e3, e4, e5, e6⟩ := hd'
  refine ⟨Z2, mine, o', z1.trans z2, ?_, ⟨es', ep', _, e2, e3, e4, e5, e6, stored_all2 hkk p2⟩, S, (g.z (z1.trans z2)).blind blind_it blind_it⟩
  have nd := I2.nd
  rw [List.map_append, List.map_cons, List.nodup_append] at nd
  refine I2.turns (tk := s2.toks + 1) (by simp [Res.addr]) (fun r hr => ?_) (fun a ob e => hs'.extBut a ob (fun q => ?_) (I2.zle a ob e)) fun ob e => hs'.extBut _ ob (I2.bare.ne (r := .it D _) (List.mem_append_right _ (.head _))) e
  · rcases List.mem_append.mp hr with hr | hr
    · exact Res.at (I2.ok r (List.mem_append_left _ hr)) fun ob e => hs'.extBut _ ob (fun q => nd.2.2 _ (List.mem_map.mpr ⟨r, hr, rfl⟩) D (List.mem_cons_self ..) q) e
    · rcases List.mem_cons.mp hr with hr | hr
      · subst hr; exact e1
      · exact Res.at (I2.ok r (List.mem_append_right _ (.tail _ hr))) fun ob e => hs'.extBut _ ob (fun q => (List.nodup_cons.mp nd.2.1).1 (List.mem_map.mpr ⟨r, hr, q⟩)) e
  · have := I2.off (.it D o) (List.mem_append_right _ (.head _))
    rw [q, show Z2 D = none from this] at e; cases e
theorem Em.nest {e : Expr} {d : Nat} {target iter : Expr} {ifs : List Expr} (inner : Env → Value → Sem Unit) {ps : List VP} (U : Nat → UP) {U0 U1 : UP} (h0 : U0 = U 0) (h1 : U1 = U ps.length)
    (ht : ∀ env it D, compTurn e d it (.ref D) env = turnForm iter target ifs (inner env (.ref D)) it env (.compLoop e d it (.ref D) env)) (hf : ∀ it acc env, (Code.compLoop e d it acc env).isFrame = false) (hf' : ∀ it acc env, (Code.compStart e d it acc env).isFrame = false)
    (ha : ((clausesOf e)[d]?).elim false (·.is_async != 0) = false) (hit : EvIter C n sc G iter target ps true) (hs : ∀ env x, foldedSetIterable iter env x = pure x)
    (hb : ∀ i q, ps[i]? = some q → ∃ G1 b, Asg C n sc false W G target q G1 ∧ GSub G G1 ∧ Ifs C n sc G1 ifs b ∧ (b = true → Em C n sc W G1 inner (U i) (U (i + 1))) ∧ (b = false → U (i + 1) = U i)) :
    Em C n sc W G (fun env acc => do
        let x ← eval iter env
        standAt iter.pos
        let x ← foldedSetIterable iter env x
        let _ ← runOwn (.compStart e d (← holding [x] (pyIter x)) acc env) env) U0 U1 := fun A Z mine R env s D o E hA hE I u hD S g => by
  subst h0; subst h1
  refine wpAny_bind (wpAny_mono (hit A Z _ env s (fun it s' => ∃ Z' I rs, it = .ref I ∧ Z.le Z' ∧ Inv C Z' (its rs ++ (mine ++ (.it D o :: R))) s' ∧ Yields C target I ps Z' rs ∧ Selfs C I Z' rs) E hA hE I g fun Z' It rs s' z' I' Y' F' => ⟨Z', It, rs, rfl, z', I', Y', F' rfl⟩) (fun x s1 h1 => wpAny_bind (wpAny_standAt (wpAny_bind ?_))) fun _ _ e => e)
  rw [hs]
  refine wpAny_pure (wpAny_bind (wpAny_holding (wpAny_mono h1 (fun it s2 ⟨Z2, It, rs, e1, z2, I2, Y2, F2⟩ => ?_) fun _ _ e => e)))
  subst e1
  have I2' : Inv C Z2 (mine ++ (.it D o :: (its rs ++ R))) s2 := I2.perm (by
    have : (mine ++ (.it D o :: (its rs ++ R))) = (mine ++ [.it D o]) ++ (its rs ++ R) := by simp
    rw [this, show its rs ++ (mine ++ (.it D o :: R)) = its rs ++ ((mine ++ [.it D o]) ++ R) by simp, ← List.append_assoc, ← List.append_assoc]
    exact List.Perm.append_right R List.perm_append_comm)
  have g2 : EnvOk G env Z2 (mine ++ (.it D o :: (its rs ++ R))) (mine ++ (.it D o :: (its rs ++ R))) := (g.z z2).blind (blind_its (rs := [])) (blind_its (rs := []))
  have hA' : Room n (A.mark none) := ⟨by show (none : Option Value).or A.handled = none; rw [hA.hh]; rfl, hA.d, hA.u⟩
  refine wpAny_bind (wpAny_runOwn (comp_start inner U ht hf hf' ha hb hA' hE I2' ((U 0).mono z2 u) hD S g2 Y2 F2 fun s' hs' => wpAny_pure ?_))
  exact hs'.more z2
end Mine
end

section
open PySem PySem.W PyProof.Rows
set_option autoImplicit false
namespace Mine
variable {C : Cx} {Z Z' : Fz} {own mine R : List Res} {s : Shared} {n : Nat} {sc : Scope} {G : Gam} {W : Str → Prop}
noncomputable def closOf (env : Env) : List (Str × NameKind) → List (Str × Addr) → List (Str × Addr)
  | [], acc => acc
  | (x, k) :: r, acc => closOf env r (if k == .free then (x, (env.cells.lookup x).getD 0) :: acc else acc)
theorem closureFor_eq {env : Env} {scope : Scope} (h : ∀ x, (x, NameKind.free) ∈ scope.names → (env.cells.lookup x).isSome = true) : closureFor scope env = pure (closOf env scope.names []) := by
  unfold closureFor
  suffices H : ∀ (l : List (Str × NameKind)) (acc : List (Str × Addr)), (∀ x, (x, NameKind.free) ∈ l → (env.cells.lookup x).isSome = true) →
      (forIn l acc fun x r => if (x.2 == NameKind.free) = true then (do let a ← cellOf env x.1; pure (ForInStep.yield ((x.1, a) :: r)) : Sem _) else pure (ForInStep.yield r)) = pure (closOf env l acc) by
    have := H scope.names [] h
    show (forIn scope.names [] _ >>= fun cs => pure cs) = _
    rw [bind_pure]
    exact this
  intro l
  induction l with
  | nil => intro acc _; rfl
  | cons p l ih =>
    intro acc hl
    obtain ⟨x, k⟩ := p
    rw [List.forIn_cons]
    unfold closOf
    cases hk : k == NameKind.free with
    | true =>
      have hk' : k = .free := by simpa using hk
      subst hk'
      have := hl x (List.mem_cons_self ..)
      obtain ⟨c, hc⟩ := Option.isSome_iff_exists.mp this
      simp only [if_true]
      rw [show cellOf env x = pure c by unfold cellOf; rw [hc]]
      simp only [pure_bind]
      rw [ih _ fun y hy => hl y (List.mem_cons_of_mem _ hy), hc]; rfl
    | false =>
      simp only [Bool.false_eq_true, if_false, pure_bind]
      exact ih _ fun y hy => hl y (List.mem_cons_of_mem _ hy)
theorem closOf_lookup {env : Env} {x : Str} : ∀ (l : List (Str × NameKind)) (acc : List (Str × Addr)), (acc.lookup x = env.cells.lookup x ∨ (acc.lookup x = none ∧ (x, NameKind.free) ∈ l)) → (env.cells.lookup x).isSome = true → (closOf env l acc).lookup x = env.cells.lookup x
  | [], acc, h, hs => by
    rcases h with h | ⟨_, h⟩
    · exact h
    · cases h
  | (y, k) :: l, acc, h, hs => by
    unfold closOf
    refine closOf_lookup l _ ?_ hs
    by_cases hk : (k == NameKind.free) = true
    · rw [if_pos hk]
      by_cases hxy : x = y
      · subst hxy
        refine .inl ?_
        rw [lookup_cons_eq]
        obtain ⟨c, hc⟩ := Option.isSome_iff_exists.mp hs
        rw [hc]; rfl
      · rw [lookup_cons_ne hxy]
        refine h.imp id fun ⟨a, b⟩ => ⟨a, ?_⟩
        rcases List.mem_cons.mp b with e | e
        · cases e; exact absurd rfl hxy
        · exact e
    · rw [if_neg hk]
      refine h.imp id fun ⟨a, b⟩ => ⟨a, ?_⟩
      rcases List.mem_cons.mp b with e | e
      · cases e; exact absurd rfl hk
      · exact e
theorem closOf_mem {env : Env} {p : Str × Addr} : ∀ (l : List (Str × NameKind)) (acc : List (Str × Addr)), p ∈ closOf env l acc → p ∈ acc ∨ ((p.1, NameKind.free) ∈ l ∧ p.2 = (env.cells.lookup p.1).getD 0)
  | [], acc, h => .inl h
  | (y, k) :: l, acc, h => by
    unfold closOf at h
    rcases closOf_mem l _ h with q | ⟨q, q'⟩
    · split at q
      · rename_i hk
        have hk' : k = .free := by simpa using hk
        rcases List.mem_cons.mp q with e | e
        · subst e; subst hk'; exact .inr ⟨List.mem_cons_self .., rfl⟩
        · exact .inl e
      · exact .inl q
    · exact .inr ⟨List.mem_cons_of_mem _ q, q'⟩
theorem cellsFrom_app : ∀ (names : List (Str × NameKind)) (n : Nat) (acc : List (Str × Addr)), cellsFrom n names acc = cellsFrom n names [] ++ acc
  | [], n, acc => rfl
  | (y, k) :: r, n, acc => by
    unfold cellsFrom
    split
    · rw [cellsFrom_app r (n + 1) ((y, n) :: acc), cellsFrom_app r (n + 1) [(y, n)]]; simp
    · exact cellsFrom_app r n acc
theorem cellsFrom_mem {x : Str} {c : Addr} : ∀ (names : List (Str × NameKind)) (n : Nat), (x, c) ∈ cellsFrom n names [] → (x, NameKind.cell) ∈ names
  | [], n, h => by cases h
  | (y, k) :: r, n, h => by
    unfold cellsFrom at h
    split at h
    · rename_i hk
      have hk' : k = .cell := by simpa using hk
      rw [cellsFrom_app] at h
      rcases List.mem_append.mp h with q | q
      · exact List.mem_cons_of_mem _ (cellsFrom_mem r (n + 1) q)
      · simp at q; obtain ⟨rfl, rfl⟩ := q; subst hk'; exact List.mem_cons_self ..
    · exact List.mem_cons_of_mem _ (cellsFrom_mem r n h)
noncomputable def relS (scope sc : Scope) : Scope := { scope with names := scope.names.map fun (x, k) => if (k == .free && sc.names.lookup x == some .cell) then (x, .cell) else (x, k) }
theorem relS_eq {scope : Scope} {env : Env} (hE : EnvIs sc env) : relabel scope env = relS scope sc := by
  unfold relabel relS
  have h1 : (env.scope.kind == ScopeKind.function) = true := by rw [hE.sceq, hE.kind]; rfl
  congr 1
  refine List.map_congr_left fun p _ => ?_
  obtain ⟨x, k⟩ := p
  show (if (k == .free && env.scope.kind == .function && env.kindOf x == some .cell) = true then _ else _) = _
  rw [h1, kindOf_eq hE, Bool.and_true]
theorem relS_lookup {scope : Scope} {x : Str} {k : NameKind} (h : scope.names.lookup x = some k) : (relS scope sc).names.lookup x = some (if (k == .free && sc.names.lookup x == some .cell) then .cell else k) := by
  unfold relS
  show (scope.names.map _).lookup x = _
  generalize scope.names = l at h
  induction l with
  | nil => cases h
  | cons p l ih =>
    obtain ⟨y, k'⟩ := p
    rw [List.map_cons]
    by_cases hxy : x = y
    · subst hxy
      rw [lookup_cons_eq] at h; cases h
      dsimp only
      split
      · rw [lookup_cons_eq]
      · rw [lookup_cons_eq]
    · rw [lookup_cons_ne hxy] at h
      dsimp only
      split
      · rw [lookup_cons_ne hxy]; exact ih h
      · rw [lookup_cons_ne hxy]; exact ih h
theorem Inv.addMany (I : Inv C Z own s) {news : List Res} {h' : Heap} {tk : Nat} (k : ∀ b o, s.heap.get? b = some o → h'.get? b = some o) (hge : ∀ r ∈ news, s.heap.objs.size ≤ r.addr) (hok : ∀ r ∈ news, r.ok h') (nd : (news.map Res.addr).Nodup) :
    Inv C Z (news ++ own) { s with heap := h', toks := tk } := by
  have J := I.keeps (tk := tk) k
  refine ⟨J.shape, ⟨J.bare.at_, J.bare.z, I.bare.news hge⟩, J.base, J.zle, fun r hr => ?_, fun r hr => ?_, ?_⟩
  · rcases List.mem_append.mp hr with h | h
    · exact hok r h
    · exact J.ok r h
  · rcases List.mem_append.mp hr with h | h
    · exact I.znone (hge r h)
    · exact J.off r h
  · rw [List.map_append, List.nodup_append]
    refine ⟨nd, J.nd, fun a ha b hb q => ?_⟩
    obtain ⟨r, hr, rfl⟩ := List.mem_map.mp ha
    exact I.offown (hge r hr) (q ▸ hb)
theorem cells_lookup_mem {l : List (Str × Addr)} {f : Str × Addr → Res} {x : Str} {c : Addr} (h : l.lookup x = some c) : f (x, c) ∈ l.map f := List.mem_map.mpr ⟨_, mem_of_lookup h, rfl⟩
theorem lookup_append {β : Type} {x : Str} {a b : List (Str × β)} : (a ++ b).lookup x = (a.lookup x).or (b.lookup x) := by
  induction a with
  | nil => rfl
  | cons p a ih =>
    obtain ⟨y, v⟩ := p
    rw [List.cons_append]
    by_cases h : x = y
    · subst h; rw [lookup_cons_eq, lookup_cons_eq]; rfl
    · rw [lookup_cons_ne h, lookup_cons_ne h]; exact ih
structure CompOk (scope sc : Scope) (G Gc : Gam) : Prop where
  kind : scope.kind = .function
  names : ∀ x ∈ scope.names, x.2 = .local → scope.names.lookup x.1 = some .local
  free : (scope.names.all fun p => p.2 != .free || ((G.lookup p.1).isSome && (sc.names.lookup p.1 == some .cell || sc.names.lookup p.1 == some .free))) = true
  sub : GSub Gc G
  gc : ∀ x e, Gc.lookup x = some e → scope.names.lookup x = some .free ∧ (scope.names.all fun p => !(p.1 == x && p.2 == .cell)) = true
theorem comp_core {e : Expr} {scope : Scope} {pos : Pos} {target iter : Expr} {ifs : List Expr} {gs : List Comprehension} {newAcc : Sem Value} {o0 : Obj} {use : Option (Value → Sem Unit)} {Gc : Gam} (inner : Env → Value → Sem Unit) {ps : List VP} (U : Nat → UP)
    (hc : CompOk scope sc G Gc) (hcl : clausesOf e = ⟨target, iter, ifs, 0⟩ :: gs) (hs : ∀ env x, foldedSetIterable iter env x = pure x) (hacc : ∀ (A : Around) (s : Shared) (Q : Value → Shared → Prop) (E : Value → Shared → Prop), Q (.ref s.heap.objs.size) { s with heap := s.heap.push o0 } → wpAny C.M A newAcc Q E s) (hf0 : o0.isFreed = false)
    (ht : ∀ env it D, compTurn e 0 it (.ref D) env = turnForm iter target ifs (inner env (.ref D)) it env (.compLoop e 0 it (.ref D) env)) (hf : ∀ it acc env, (Code.compLoop e 0 it acc env).isFrame = false) (hf' : ∀ it acc env, (Code.compStart e 0 it acc env).isFrame = false)
    (hit : EvIter C n sc G iter target ps true) (hu : ∀ Z, (U 0).ok Z o0)
    (hb : ∀ i q, ps[i]? = some q → ∃ G1 b, Asg C n (relS scope sc) false (IsCellOf scope) Gc target q G1 ∧ GSub Gc G1 ∧ Ifs C n (relS scope sc) G1 ifs b ∧ (b = true → Em C n (relS scope sc) (IsCellOf scope) G1 inner (U i) (U (i + 1))) ∧ (b = false → U (i + 1) = U i))
    {A : Around} {env : Env} {Q : Value → Shared → Prop} {E : Value → Shared → Prop} (hA : Room n A) (hE : EnvIs sc env) (I : Inv C Z own s) (g : EnvOk G env Z own own)
    (k : ∀ Z' mine' o' s' D L m, Z.le Z' → Inv C Z' (mine' ++ (.it D o' :: own)) s' → (U ps.length).ok Z' o' → Nm D → Res.ns L m ∈ mine' → compPost C.M A E use Q (.ref D) L (.ok .next) s') :
    wpAny C.M A (comprehension e scope env pos newAcc false (eval iter env) use) Q E s := by
  -- what is closed over
  have fr : ∀ x, (x, NameKind.free) ∈ scope.names → ∃ c v, env.cells.lookup x = some c ∧ Res.cell c v ∈ own := fun x hx => by
    have h1 := List.all_eq_true.mp hc.free _ hx
    simp only [bne_self_eq_false, Bool.false_or, Bool.and_eq_true, Bool.or_eq_true, beq_iff_eq] at h1
    obtain ⟨h2, h3⟩ := h1
    obtain ⟨en, hen⟩ := Option.isSome_iff_exists.mp h2
    obtain ⟨v, r, _⟩ := g x en hen
    rcases r with ⟨a, _⟩ | ⟨_, c, b, d⟩
    · rw [kindOf_eq hE] at a
      rcases h3 with h3 | h3 <;> (rw [h3] at a; cases a)
    · exact ⟨c, _, b, d⟩
  have hclos := closureFor_eq (env := env) (scope := scope) fun x hx => by obtain ⟨c, v, a, _⟩ := fr x hx; rw [a]; rfl
  refine wpAny_comprehension_free hcl (hs env) hclos hc.kind hc.names ?_
  refine hit A Z own env s _ _ hA hE I g fun Z1 It rs s1 z1 I1 Y1 F1 => hacc _ _ _ _ ?_
  have hD := I1.nm
  have I2 := I1.pushIt (tk := s1.toks) o0 hf0
  generalize hs2 : ({ s1 with heap := s1.heap.push o0 } : Shared) = s2 at I2 ⊢
  generalize s1.heap.objs.size = D at I2 hD ⊢
  have g2 : EnvOk G env Z1 own own := g.z z1
  unfold newFunctionEnv
  simp only [Option.isSome_some, if_true]
  refine wpAny_bind (wpAny_alloc (wpAny_bind (wpAny_layCells _ (fun name kind cells => by cases hkc : kind == NameKind.cell <;> simp) _ _ _ _ ?_)))
  simp only [List.forIn_nil, pure_bind]
  refine wpAny_pure ?_
  have ok := cellsFrom_ok scope.names (s2.heap.push { cls := .type "dict", data := .dict #[] }) (s2.heap.objs.size + 1) [] ⟨fun _ _ hm => (nomatch hm), List.Pairwise.nil⟩ (by rw [Heap.size_push]; exact Nat.le_refl _)
  have e2 : ({ s2 with heap := s2.heap.push { cls := .type "dict", data := .dict #[] } } : Shared).heap.objs.size = s2.heap.objs.size + 1 := Heap.size_push ..
  rw [Heap.size_push] at ok
  rw [e2, cellsFrom_app]
  generalize hoc : cellsFrom (s2.heap.objs.size + 1) scope.names [] = oc at ok ⊢
  generalize hL : s2.heap.objs.size = L at *
  let mc : List Res := .ns L (fun _ => none) :: oc.map fun p => .cell p.2 none
  have hkeep : ∀ b o, s2.heap.get? b = some o → (pushCells (s2.heap.push { cls := .type "dict", data := .dict #[] }) scope.names).get? b = some o := fun b o e => pushCells_keeps _ _ b o (Heap.get?_push_of_some _ e)
  have hge : ∀ r ∈ mc, s2.heap.objs.size ≤ r.addr := fun r hr => by
    rw [hL]
    rcases List.mem_cons.mp hr with q | q
    · subst q; exact Nat.le_refl _
    · obtain ⟨p, hp, rfl⟩ := List.mem_map.mp q
      exact Nat.le_of_lt (ok.empty p.1 p.2 hp).2
  have I3 : Inv C Z1 (mc ++ (.it D o0 :: (its rs ++ own))) { s2 with heap := pushCells (s2.heap.push { cls := .type "dict", data := .dict #[] }) scope.names } := by
    refine I2.addMany (tk := s2.toks) hkeep hge (fun r hr => ?_) ?_
    · rcases List.mem_cons.mp hr with q | q
      · subst q
        have := (Heap.Ns.new s2.heap (.type "dict")).keeps (pushCells_keeps scope.names _)
        rw [hL] at this; exact this
      · obtain ⟨p, hp, rfl⟩ := List.mem_map.mp q; exact (ok.empty p.1 p.2 hp).1
    · show (L :: _).Nodup
      rw [List.nodup_cons]
      constructor
      · intro hm
        obtain ⟨r, hr, e⟩ := List.mem_map.mp hm
        obtain ⟨p, hp, rfl⟩ := List.mem_map.mp hr
        have := (ok.empty p.1 p.2 hp).2
        exact absurd e.symm (Nat.ne_of_lt this)
      · rw [List.map_map]
        exact List.pairwise_map.mpr ok.apart
  generalize hcenv : ({ scope := relabel scope env, locals := L, globals := env.globals, cells := oc ++ closOf env scope.names [], qual := env.qual, func := none, code := env.code, frame := env.frame, builtins := env.builtins } : Env) = cenv
  have cS : cenv.scope = relS scope sc := by rw [← hcenv]; exact relS_eq hE
  have cL : cenv.locals = L := by rw [← hcenv]
  have cC : cenv.cells = oc ++ closOf env scope.names [] := by rw [← hcenv]
  have hEc : EnvIs (relS scope sc) cenv := ⟨cS, hc.kind, by rw [← hcenv]; exact hE.g, by rw [← hcenv]; exact hE.b⟩
  have ocNone : ∀ x, (scope.names.all fun p => !(p.1 == x && p.2 == .cell)) = true → oc.lookup x = none := fun x hx => by
    cases q : oc.lookup x with
    | none => rfl
    | some c =>
      have h1 := cellsFrom_mem scope.names (L + 1) (hoc ▸ mem_of_lookup q)
      have := List.all_eq_true.mp hx _ h1
      simp at this
  have S3 : StOk (IsCellOf scope) cenv mc := by
    refine ⟨⟨_, by rw [cL]; exact .head _⟩, fun x hx => ?_, fun x y c hw h1 h2 => ?_⟩
    · have h1 : (oc.lookup x).isSome = true := by rw [← hoc]; exact cellsFrom_some _ _ _ (.inl hx)
      obtain ⟨c, hc'⟩ := Option.isSome_iff_exists.mp h1
      refine ⟨c, none, by rw [cC, lookup_append, hc']; rfl, .tail _ (cells_lookup_mem (f := fun p => Res.cell p.2 none) hc')⟩
    · rw [cC, lookup_append] at h1 h2
      have h3 : (oc.lookup y).isSome = true := by rw [← hoc]; exact cellsFrom_some _ _ _ (.inl hw)
      obtain ⟨c', hc'⟩ := Option.isSome_iff_exists.mp h3
      rw [hc'] at h2; cases h2
      cases q : oc.lookup x with
      | some c'' =>
        rw [q] at h1; cases h1
        exact name_of_addr ok.apart (mem_of_lookup q) (mem_of_lookup hc')
      | none =>
        exfalso
        rw [q] at h1
        have h4 : (closOf env scope.names []).lookup x = some c := h1
        rcases closOf_mem _ _ (mem_of_lookup h4) with z | ⟨z, z'⟩
        · cases z
        · obtain ⟨c2, v, a, b⟩ := fr x z
          rw [show (x, c).2 = c from rfl, a] at z'
          have lt : c2 < s1.heap.objs.size := Res.lt (I1.ok _ (List.mem_append_right _ b))
          have ge := (ok.empty y c (mem_of_lookup hc')).2
          have e5 : s1.heap.objs.size + 1 = L := by rw [← hL, ← hs2]; exact (Heap.size_push ..).symm
          have e6 : c = c2 := z'
          rw [← e6] at lt
          have lt' : (c : Nat) < s1.heap.objs.size := lt
          have ge' : L + 1 ≤ (c : Nat) := ge
          rw [← e5] at ge'
          exact absurd lt' (Nat.not_lt.mpr (Nat.le_trans (Nat.le_trans (Nat.le_succ _) (Nat.le_succ _)) ge'))
  have gc : EnvOk Gc cenv Z1 (mc ++ (.it D o0 :: (its rs ++ own))) (mc ++ (.it D o0 :: (its rs ++ own))) := fun x en hx => by
    obtain ⟨v, r, kx⟩ := g2 x en (hc.sub x en hx)
    obtain ⟨hfr, hnc⟩ := hc.gc x en hx
    have inj : ∀ r ∈ own, r ∈ mc ++ (.it D o0 :: (its rs ++ own)) := fun r hr => List.mem_append_right _ (.tail _ (List.mem_append_right _ hr))
    refine ⟨v, ?_, Ent.up (e := en) .rfl inj kx⟩
    obtain ⟨c, v', a, b⟩ := fr x (mem_of_lookup hfr)
    have hk := relS_lookup (sc := sc) hfr
    refine .inr ⟨?_, c, ?_, inj _ ?_⟩
    · rw [kindOf_eq hEc, hk]
      split
      · exact .inl rfl
      · exact .inr rfl
    · rw [cC, lookup_append, ocNone x hnc]
      show (closOf env scope.names []).lookup x = _
      rw [closOf_lookup scope.names [] (.inr ⟨rfl, mem_of_lookup hfr⟩) (by rw [a]; rfl)]; exact a
    · rcases r with ⟨a', _⟩ | ⟨_, c', b', d'⟩
      · exfalso
        have h1 := List.all_eq_true.mp hc.free _ (mem_of_lookup hfr)
        simp only [bne_self_eq_false, Bool.false_or, Bool.and_eq_true, Bool.or_eq_true, beq_iff_eq] at h1
        rw [kindOf_eq hE] at a'
        rcases h1.2 with h3 | h3 <;> (rw [h3] at a'; cases a')
      · rw [a] at b'; cases b'; exact d'
  refine comp_start (W := IsCellOf scope) inner U ht hf hf' (by rw [hcl]; rfl) hb hA hEc I3 (hu _) hD S3 gc Y1 (F1 rfl) fun s' ⟨Z', m', o', z', I', u', S', _⟩ => ?_
  obtain ⟨m, hm⟩ := S'.ns
  have := k Z' m' o' s' D L m (z1.trans z') I' u' hD (by rw [← cL]; exact hm)
  exact this
end Mine
end

section
open PySem PySem.W PyProof.Rows
set_option autoImplicit false
namespace Mine
variable {C : Cx} {Z Z' : Fz} {own mine R : List Res} {s : Shared} {n : Nat} {sc : Scope} {G : Gam} {W : Str → Prop}
theorem Inv.retag {r r' : Res} (I : Inv C Z (r :: own) s) (h : r'.ok s.heap) (e : r'.addr = r.addr) : Inv C Z (r' :: own) s :=
  I.turns (tk := s.toks) (h' := s.heap) (by rw [List.map_cons, List.map_cons, e]) (fun x hx => by
    rcases List.mem_cons.mp hx with q | q
    · subst q; exact h
    · exact I.ok _ (.tail _ q)) I.zle fun _ e => e
theorem Inv.freezeIt {a : Addr} {o : Obj} (I : Inv C Z (.it a o :: own) s) : Inv C (Z.put a o) own s ∧ Z.le (Z.put a o) :=
  (I.retag (r' := .ob "" a o) (I.ok (.it a o) (.head _)) rfl).freeze
theorem comp_end {mine' : List Res} {r0 : Res} {L : Addr} {m : Str → Option Value} {h' : Heap} (I : Inv C Z (mine' ++ (r0 :: own)) s) (hm : Res.ns L m ∈ mine') (hs : Heap.SameBut L s.heap h') : Inv C Z (r0 :: own) { s with heap := h' } := by
  have J := I.sub (List.sublist_append_right mine' (r0 :: own))
  have nd := I.nd
  rw [List.map_append, List.nodup_append] at nd
  refine J.turns (tk := s.toks) rfl (fun r hr => Res.at (J.ok r hr) fun o e => hs.extBut _ o (fun q => ?_) e) (fun a o e => hs.extBut a o (fun q => ?_) (J.zle a o e)) fun o e => hs.extBut _ o (I.bare.ne (List.mem_append_left _ hm)) e
  · exact nd.2.2 _ (List.mem_map.mpr ⟨_, hm, rfl⟩) _ (List.mem_map.mpr ⟨r, hr, rfl⟩) q.symm
  · have := I.off _ (List.mem_append_left _ hm)
    rw [q, show Z L = none from this] at e; cases e
structure CompIs (C : Cx) (n : Nat) (sc : Scope) (G : Gam) (e : Expr) (scope : Scope) (pos : Pos) (iter : Expr) (newAcc : Sem Value) (U : UP) : Prop where
  run : ∀ {A : Around} {Z : Fz} {own : List Res} {s : Shared} {env : Env} {use : Option (Value → Sem Unit)} {Q : Value → Shared → Prop} {E : Value → Shared → Prop}, Room n A → EnvIs sc env → Inv C Z own s → EnvOk G env Z own own →
    (∀ Z' mine' o' s' D L m, Z.le Z' → Inv C Z' (mine' ++ (.it D o' :: own)) s' → U.ok Z' o' → Nm D → Res.ns L m ∈ mine' → compPost C.M A E use Q (.ref D) L (.ok .next) s') → wpAny C.M A (comprehension e scope env pos newAcc false (eval iter env) use) Q E s
theorem Ev.comp {e : Expr} {scope : Scope} {pos : Pos} {iter : Expr} {newAcc : Sem Value} {U : UP} (h : CompIs C n sc G e scope pos iter newAcc U) (he : ∀ env, eval e env = comprehension e scope env pos newAcc false (eval iter env) none) : Ev C n sc G e (.of U) := fun A Z own env s E hA hE I g => by
  rw [he env]
  refine h.run hA hE I g fun Z' m' o' s' D L m z I' u' hD hm => ?_
  refine ⟨m, I'.ok _ (List.mem_append_left _ hm), fun h' hs => ?_⟩
  obtain ⟨J, z2⟩ := (comp_end I' hm hs).freezeIt
  exact ⟨_, z.trans z2, J, D, o', rfl, Fz.put_self, U.mono z2 u', hD⟩
theorem ExS.compG (f : Bool) {e : Expr} {scope : Scope} {pos : Pos} {iter : Expr} {newAcc : Sem Value} {U : UP} {x : Str} {p p' : Pos} {O : Out} (h : CompIs C n sc G e scope pos iter newAcc U) (he : ∀ env use, evalThenUse e env use = (do let _ ← comprehension e scope env pos newAcc false (eval iter env) (some use)))
    (ho : O.next ((x, if f then .own U else .val (.of U)) :: G)) (hx : (sc.names.lookup x == some .local || sc.names.lookup x == some .cell) = true) (hs : ∀ env, EnvIs sc env → swapsWith e (some (.Name x p')) p.line env = pure true) : ExS C n sc G (.Assign [.Name x p'] e p) O := fun A Z mine R env s E hA hE I S g => by
  rw [exec_Assign_Name_used _ _ _ _ (hs env hE)]
  refine wpAny_bind (wpAny_standAt (wpAny_bind ?_))
  rw [he]
  refine wpAny_bind (h.run (Q := fun _ s' => wpAny C.M A (pure ()) (fun _ s' => wpAny C.M A (pure Flow.next) (PostS C Z R sc env O) E s') E s') hA hE I g.ev fun Z' m' o' s' D L m z I' u' hD hm => ?_)
  show wpAny C.M A (PySem.assign (.Name x p') env (.ref D)) _ E s'
  have I1 : Inv C Z' (.it D o' :: (mine ++ (m' ++ R))) s' := I'.perm (by
    have : (m' ++ Res.it D o' :: (mine ++ R)).Perm (Res.it D o' :: (m' ++ (mine ++ R))) := List.perm_middle
    refine List.Perm.trans ?_ this.symm
    refine List.Perm.cons _ ?_
    rw [← List.append_assoc, ← List.append_assoc]
    exact List.Perm.append_right R List.perm_append_comm)
  have gz := g.z z
  obtain ⟨Z2, mine1, z2, I2, S2, g2, en, hen⟩ : ∃ Z2 mine1, Z'.le Z2 ∧ Inv C Z2 (mine1 ++ (m' ++ R)) s' ∧ StOk (IsCellOf sc) env mine1 ∧ EnvOk G env Z2 (mine1 ++ R) mine1 ∧ ∃ en, en = (if f then Ent.own U else .val (.of U)) ∧ Ent.ok Z2 mine1 x (.ref D) en := by
    cases f with
    | false =>
      obtain ⟨J, z2⟩ := I1.freezeIt
      exact ⟨_, mine, z2, J, S, gz.z z2, _, rfl, D, o', rfl, Fz.put_self, U.mono z2 u', hD⟩
    | true =>
      exact ⟨Z', .ob x D o' :: mine, .rfl, I1.retag (r' := .ob x D o') (I1.ok (.it D o') (.head _)) rfl, ⟨let ⟨k, hk⟩ := S.ns; ⟨k, .tail _ hk⟩, fun y hy => let ⟨c, v, a, b⟩ := S.cells y hy; ⟨c, v, a, .tail _ b⟩, S.inj⟩,
        gz.up .rfl (fun _ h => .tail _ h) (fun _ h => .tail _ h), _, rfl, D, o', rfl, .head _, u', hD⟩
  refine wpAny_assign_Name (st_storeF true m' (e := en) hE I2 S2 g2 (stable hx) hen.2 fun mine2 s2 I3 S3 g3 _ => ?_)
  refine ⟨m, I3.ok _ (List.mem_append_right _ (List.mem_append_left _ hm)), fun h' hs' => wpAny_pure (wpAny_pure ?_)⟩
  have mem3 : Res.ns L m ∈ mine2 ++ (m' ++ R) := List.mem_append_right _ (List.mem_append_left _ hm)
  have I4 : Inv C Z2 (mine2 ++ R) s2 := by
    have := I3; rw [← List.append_assoc] at this; exact this.drop
  have nd := I3.nd
  rw [List.map_append, List.map_append, List.nodup_append, List.nodup_append] at nd
  have hL : ∀ r ∈ mine2 ++ R, r.addr ≠ L := fun r hr q => by
    rcases List.mem_append.mp hr with hr | hr
    · exact nd.2.2 _ (List.mem_map.mpr ⟨r, hr, rfl⟩) _ (List.mem_append_left _ (List.mem_map.mpr ⟨_, hm, rfl⟩)) q
    · exact nd.2.1.2.2 _ (List.mem_map.mpr ⟨_, hm, rfl⟩) _ (List.mem_map.mpr ⟨r, hr, rfl⟩) q.symm
  have zL : Z2 L = none := I3.off _ mem3
  refine ⟨Z2, mine2, z.trans z2, I4.turns (tk := s2.toks) rfl (fun r hr => Res.at (I4.ok r hr) fun o e => hs'.extBut _ o (hL r hr) e) (fun a o e => hs'.extBut a o (fun q => by rw [q, zL] at e; cases e) (I4.zle a o e)) fun o e => hs'.extBut _ o (I3.bare.ne mem3) e, S3, _, ho, ?_⟩
  rw [← hen.1]; exact g3
theorem CompIs.listF {α : Type} {xs : List α} {P f : α → VP} {b : α → Bool} {target iter elt : Expr} {ifs : List Expr} {scope : Scope} {pos : Pos} {ps : List VP} (Gc : Gam) (hc : CompOk scope sc G Gc) (hit : EvIter C n sc G iter target ps true) (hps : ps = xs.map P) (hsz : xs.length ≤ sizeLine)
    (hb : ∀ x ∈ xs, ∃ G1, Asg C n (relS scope sc) false (IsCellOf scope) Gc target (P x) G1 ∧ GSub Gc G1 ∧ Ifs C n (relS scope sc) G1 ifs (b x) ∧ (b x = true → Ev C n (relS scope sc) G1 elt (f x)))
    (hs : ∀ env x, foldedSetIterable iter env x = pure x := by intro _ _; rfl) : CompIs C n sc G (.ListComp elt [⟨target, iter, ifs, 0⟩] scope pos) scope (firstIterPos [⟨target, iter, ifs, 0⟩] pos) iter (newList []) (.list ((xs.filter b).map f)) := by
  subst hps
  constructor
  intro A Z own s env use Q E hA hE I g k
  refine comp_core (U := fun i => .list (((xs.take i).filter b).map f)) (o0 := { cls := .type "list", data := .seq #[] }) (fun env acc => do let _ ← PySem.call (.builtin "list.append") [acc, ← eval elt env]) hc rfl hs
    (fun A s Q E h => wpAny_newObj_type h (by show (0 : Nat) ≤ _; exact Nat.zero_le _)) rfl (fun _ _ _ => rfl) (fun _ _ _ => rfl) (fun _ _ _ => rfl) hit (fun Z => ⟨#[], 0, rfl, .nil⟩) (fun i q hq => ?_) hA hE I g fun Z' m' o' s' D L m z I' u' => k Z' m' o' s' D L m z I' (by simpa using u')
  obtain ⟨x, hx, rfl⟩ : ∃ x, xs[i]? = some x ∧ P x = q := by rw [List.getElem?_map] at hq; exact Option.map_eq_some_iff.mp hq
  obtain ⟨G1, h1, h2, h3, h4⟩ := hb x (List.mem_of_getElem? hx)
  have e2 : xs.take (i + 1) = xs.take i ++ [x] := by rw [List.take_add_one, hx]; rfl
  refine ⟨G1, b x, h1, h2, h3, fun hbx => ?_, fun hbx => ?_⟩
  · have : ((xs.take (i + 1)).filter b).map f = ((xs.take i).filter b).map f ++ [f x] := by rw [e2]; simp [hbx]
    rw [this]
    refine Em.list (h4 hbx) ?_
    have h5 : ((xs.take i).filter b).length ≤ (xs.take i).length := List.length_filter_le _ _
    have h6 : (xs.take i).length ≤ xs.length := List.length_take_le' _ _
    rw [List.length_map]; omega
  · rw [e2]; simp [hbx]
noncomputable def dputs {α β : Type} (key : α → Str) (f : α → β) (l : List (Str × β)) (xs : List α) : List (Str × β) := xs.foldl (fun l x => dput l (key x) (f x)) l
theorem dputs_length {α β : Type} (key : α → Str) (f : α → β) : ∀ (xs : List α) (l : List (Str × β)), (dputs key f l xs).length ≤ l.length + xs.length
  | [], l => Nat.le_refl _
  | x :: xs, l => by
    have h1 := dputs_length key f xs (dput l (key x) (f x))
    have h2 : (dput l (key x) (f x)).length ≤ l.length + 1 := by unfold dput; split <;> simp
    show (dputs key f (dput l (key x) (f x)) xs).length ≤ _
    simp only [List.length_cons]; omega
theorem CompIs.dictF {α : Type} {xs : List α} {P f : α → VP} {key : α → Str} {b : α → Bool} {target iter kx vx : Expr} {ifs : List Expr} {scope : Scope} {pos : Pos} {ps : List VP} (Gc : Gam) (hc : CompOk scope sc G Gc) (hit : EvIter C n sc G iter target ps true) (hps : ps = xs.map P) (hsz : xs.length ≤ sizeLine)
    (hb : ∀ x ∈ xs, ∃ G1, Asg C n (relS scope sc) false (IsCellOf scope) Gc target (P x) G1 ∧ GSub Gc G1 ∧ Ifs C n (relS scope sc) G1 ifs (b x) ∧ (b x = true → Ev C n (relS scope sc) G1 kx (.str (key x)) ∧ Ev C n (relS scope sc) G1 vx (f x)))
    (hs : ∀ env x, foldedSetIterable iter env x = pure x := by intro _ _; rfl) : CompIs C n sc G (.DictComp kx vx [⟨target, iter, ifs, 0⟩] scope pos) scope (firstIterPos [⟨target, iter, ifs, 0⟩] pos) iter newDict (.dict C (dputs key f [] (xs.filter b))) := by
  subst hps
  constructor
  intro A Z own s env use Q E hA hE I g k
  refine comp_core (U := fun i => .dict C (dputs key f [] ((xs.take i).filter b))) (o0 := { cls := .type "dict", data := .dict #[] }) (fun env acc => do
        let kv ← eval kx env
        let vv ← holding [kv] (eval vx env)
        match acc with
        | .ref d => do
          standAt { kx.pos with endLine := vx.pos.endLine, endCol := vx.pos.endCol }
          holding [kv, vv] (dictSet d kv vv)
        | _ => unsupported "internal:dictcomp") hc rfl hs
    (fun A s Q E h => wpAny_bind (wpAny_alloc (wpAny_pure h))) rfl (fun _ _ _ => rfl) (fun _ _ _ => rfl) (fun _ _ _ => rfl) hit (fun Z => ⟨#[], 0, [], ⟨rfl, rfl, rfl⟩, rfl, fun _ h => by simp at h, .nil, List.nodup_nil, .nil⟩) (fun i q hq => ?_) hA hE I g fun Z' m' o' s' D L m z I' u' => k Z' m' o' s' D L m z I' (by simpa using u')
  obtain ⟨x, hx, rfl⟩ : ∃ x, xs[i]? = some x ∧ P x = q := by rw [List.getElem?_map] at hq; exact Option.map_eq_some_iff.mp hq
  obtain ⟨G1, h1, h2, h3, h4⟩ := hb x (List.mem_of_getElem? hx)
  have e2 : xs.take (i + 1) = xs.take i ++ [x] := by rw [List.take_add_one, hx]; rfl
  refine ⟨G1, b x, h1, h2, h3, fun hbx => ?_, fun hbx => ?_⟩
  · have : dputs key f [] ((xs.take (i + 1)).filter b) = dput (dputs key f [] ((xs.take i).filter b)) (key x) (f x) := by rw [e2, List.filter_append]; simp [hbx, dputs]
    rw [this]
    refine Em.dict (h4 hbx).1 (h4 hbx).2 ?_
    have h5 : ((xs.take i).filter b).length ≤ (xs.take i).length := List.length_filter_le _ _
    have h6 : (xs.take i).length ≤ xs.length := List.length_take_le' _ _
    have h7 := dputs_length key f ((xs.take i).filter b) []
    simp only [List.length_nil] at h7; omega
  · rw [e2, List.filter_append]; simp [hbx]
end Mine
end

section
open PySem PySem.W PyProof.Rows
set_option autoImplicit false
namespace Mine
variable {C : Cx} {Z Z' : Fz} {own mine R : List Res} {s : Shared} {n : Nat} {sc : Scope} {G : Gam}
section
variable {a b : Int} {x y : Str}
theorem Op2.ints {t : Value → Value → Sem Value} {R : VP} (h : ∀ (A : Around) (Z : Fz) (own : List Res) (s : Shared) (i j : Tok) (E : Value → Shared → Prop), Room n A → Inv C Z own s → wpAny C.M A (t (.int a i) (.int b j)) (Post C Z own R) E s) : Op2 C n (.int a) (.int b) t R := fun A Z own s v w E hA I h1 h2 => by
  obtain ⟨i, rfl⟩ := h1
  obtain ⟨j, rfl⟩ := h2
  exact h A Z own s i j E hA I
theorem Op2.strs {t : Value → Value → Sem Value} {R : VP} (h : ∀ (A : Around) (Z : Fz) (own : List Res) (s : Shared) (i j : Tok) (E : Value → Shared → Prop), Room n A → Inv C Z own s → wpAny C.M A (t (.str x i) (.str y j)) (Post C Z own R) E s) : Op2 C n (.str x) (.str y) t R := fun A Z own s v w E hA I h1 h2 => by
  obtain ⟨i, rfl⟩ := h1
  obtain ⟨j, rfl⟩ := h2
  exact h A Z own s i j E hA I
theorem Op2.subInt : Op2 C n (.int a) (.int b) (binaryOp .Sub) (.int (a - b)) := .ints fun A Z own s i j E hA I => sub_int (Post.here (I.tok _) ⟨_, rfl⟩)
theorem Op2.mulInt (hm : IntMulOk a b) : Op2 C n (.int a) (.int b) (binaryOp .Mult) (.int (a * b)) := .ints fun A Z own s i j E hA I => mul_int (Post.here (I.tok _) ⟨_, rfl⟩) hm
theorem Op2.divInt (hb : b ≠ 0) (hs : b.natAbs < 1073741824) : Op2 C n (.int a) (.int b) (binaryOp .FloorDiv) (.int (a.fdiv b)) := .ints fun A Z own s i j E hA I => floordiv_int hb (Post.here (I.tok _) ⟨_, rfl⟩) (.inl (PyProof.noPylong_small hs))
theorem Op2.modInt (hb : b ≠ 0) : Op2 C n (.int a) (.int b) (binaryOp .Mod) (.int (a.fmod b)) := .ints fun A Z own s i j E hA I => mod_int hb (Post.here (I.tok _) ⟨_, rfl⟩)
theorem Op2.powInt (hn : 0 ≤ b) (hsz : (Builtin.Int.intBits a : Int) * b ≤ 2 ^ 27) : Op2 C n (.int a) (.int b) (binaryOp .Pow) (.int (a ^ b.toNat)) := .ints fun A Z own s i j E hA I => pow_int hn hsz (Post.here (I.tok _) ⟨_, rfl⟩)
theorem Op2.ltInt : Op2 C n (.int a) (.int b) (compareOp .Lt) (.bool (decide (a < b))) := .ints fun A Z own s i j E hA I => lt_int (Post.here I rfl)
theorem Op2.gtInt : Op2 C n (.int a) (.int b) (compareOp .Gt) (.bool (decide (b < a))) := .ints fun A Z own s i j E hA I => gt_int (Post.here I rfl)
theorem Op2.leInt : Op2 C n (.int a) (.int b) (compareOp .LtE) (.bool (decide (a ≤ b))) := .ints fun A Z own s i j E hA I => le_int (Post.here I rfl)
theorem Op2.geInt : Op2 C n (.int a) (.int b) (compareOp .GtE) (.bool (decide (b ≤ a))) := .ints fun A Z own s i j E hA I => ge_int (Post.here I rfl)
theorem Op2.eqInt : Op2 C n (.int a) (.int b) (compareOp .Eq) (.bool (a == b)) := .ints fun A Z own s i j E hA I => eq_int (Post.here I rfl)
theorem Op2.neInt : Op2 C n (.int a) (.int b) (compareOp .NotEq) (.bool (a != b)) := .ints fun A Z own s i j E hA I => ne_int (Post.here I rfl)
theorem Op2.eqStr : Op2 C n (.str x) (.str y) (compareOp .Eq) (.bool (x == y)) := .strs fun A Z own s i j E hA I => eq_str (Post.here I rfl)
theorem Op2.neStr : Op2 C n (.str x) (.str y) (compareOp .NotEq) (.bool (x != y)) := .strs fun A Z own s i j E hA I => ne_str (Post.here I rfl)
noncomputable def sLt (x y : Str) : Bool := decide (x.cps.toList < y.cps.toList)
theorem Op2.ltStr : Op2 C n (.str x) (.str y) (compareOp .Lt) (.bool (sLt x y)) := .strs fun A Z own s i j E hA I => lt_str (Post.here I rfl)
theorem Op2.gtStr : Op2 C n (.str x) (.str y) (compareOp .Gt) (.bool (sLt y x)) := .strs fun A Z own s i j E hA I => PySem.P.gt_str (Post.here I rfl)
theorem Op2.addStr (hsz : x.length + y.length ≤ sizeLine) : Op2 C n (.str x) (.str y) (binaryOp .Add) (.str (x ++ y)) := .strs fun A Z own s i j E hA I => add_str (fun t' tk => Post.here (I.tok _) ⟨_, rfl⟩) hsz
theorem Op2.notInStr : Op2 C n (.str y) (.str x) (compareOp .NotIn) (.bool (!(!(Builtin.Str.occurrences x y 0 x.length 1).isEmpty))) := .strs fun A Z own s i j E hA I => notIn_str (Post.here I rfl)
end
noncomputable def VP.nn (P : VP) (b : Bool) : Prop := ∀ Z v, P.ok Z v → (v == .none) = b
theorem VP.nn_none : VP.none.nn true := fun Z v h => by cases h; rfl
theorem VP.nn_str {x : Str} : (VP.str x).nn false := fun Z v ⟨t, h⟩ => by subst h; rfl
theorem VP.nn_of {U : UP} : (VP.of U).nn false := fun Z v ⟨a, o, h, _⟩ => by subst h; rfl
theorem Op2.isNone {P : VP} {b : Bool} (h : P.nn b) : Op2 C n P .none (compareOp .Is) (.bool b) := fun A Z own s v w E hA I h1 h2 => by
  cases h2; exact is_none_gen (Post.here I (by rw [h Z v h1]; rfl))
theorem Ev.unary {e : Expr} {op : UnaryOp} {pos : Pos} {P R : VP} (h : Ev C n sc G e P) (ho : Op1 C n P (unaryOp op) R) (he : ∀ env, eval (.UnaryOp op e pos) env = (do let v ← eval e env; standAt pos; holding [v] (unaryOp op v)) := by intro _; rfl) : Ev C n sc G (.UnaryOp op e pos) R := fun A Z own env s E hA hE I g => by
  rw [he env]
  refine wpAny_bind (wpAny_mono (h A Z own env s E hA hE I g) (fun v s1 ⟨Z1, z1, I1, p1⟩ => ?_) fun _ _ e => e)
  exact wpAny_bind (wpAny_standAt (wpAny_holding (wpAny_mono (ho A Z1 own s1 v E hA I1 p1) (fun v s3 h3 => h3.more z1) fun _ _ e => e)))
theorem Op1.negInt {a : Int} : Op1 C n (.int a) (unaryOp .USub) (.int (-a)) := fun A Z own s v E hA I ⟨t, h⟩ => by
  subst h; exact neg_int (Post.here (I.tok _) ⟨_, rfl⟩)
end Mine
end

section
open PySem PySem.W PyProof.Rows
set_option autoImplicit false
namespace Mine
variable {C : Cx} {Z Z' : Fz} {own mine R : List Res} {s : Shared} {n : Nat} {sc : Scope} {G : Gam}
theorem Tst.not {e : Expr} {pos : Pos} {b : Bool} (h : Tst C n sc G e b) : Tst C n sc G (.UnaryOp .Not e pos) (!b) := fun A Z own env s E hA hE I g =>
  wpAny_isTrue_Not (wpAny_mono (h A Z own env s E hA hE I g) (fun r s' ⟨h1, h2⟩ => ⟨by rw [h1], h2⟩) fun _ _ e => e)
noncomputable def TstA (C : Cx) (n : Nat) (sc : Scope) (G : Gam) (op : BoolOp) (es : List Expr) (b : Bool) : Prop :=
  ∀ (A : Around) (Z : Fz) (own : List Res) (env : Env) (s : Shared) (E : Value → Shared → Prop), Room n A → EnvIs sc env → Inv C Z own s → EnvOk G env Z own own →
    wpAny C.M A (allTrue op es env) (fun r s' => r = b ∧ ∃ Z', Z.le Z' ∧ Inv C Z' own s') E s
theorem TstA.nilAnd : TstA C n sc G .And [] true := fun A Z own env s E hA hE I g => wpAny_allTrue_And_nil ⟨rfl, Z, .rfl, I⟩
theorem TstA.nilOr : TstA C n sc G .Or [] false := fun A Z own env s E hA hE I g => wpAny_allTrue_Or_nil ⟨rfl, Z, .rfl, I⟩
theorem TstA.and {e : Expr} {es : List Expr} {b c : Bool} (h : Tst C n sc G e b) (hs : b = true → TstA C n sc G .And es c) : TstA C n sc G .And (e :: es) (b && c) := fun A Z own env s E hA hE I g => by
  refine wpAny_allTrue_And_cons (wpAny_mono (h A Z own env s E hA hE I g) (fun r s' q => ?_) fun _ _ e => e)
  obtain ⟨rfl, Z', z, I'⟩ := q
  cases r
  · exact ⟨rfl, Z', z, I'⟩
  · refine wpAny_mono (hs rfl A Z' own env s' E hA hE I' (g.z z)) (fun r s2 q => ?_) fun _ _ e => e
    obtain ⟨h1, Z2, z2, I2⟩ := q
    exact ⟨h1, Z2, z.trans z2, I2⟩
theorem TstA.or {e : Expr} {es : List Expr} {b c : Bool} (h : Tst C n sc G e b) (hs : b = false → TstA C n sc G .Or es c) : TstA C n sc G .Or (e :: es) (b || c) := fun A Z own env s E hA hE I g => by
  refine wpAny_allTrue_Or_cons (wpAny_mono (h A Z own env s E hA hE I g) (fun r s' q => ?_) fun _ _ e => e)
  obtain ⟨rfl, Z', z, I'⟩ := q
  cases r
  · refine wpAny_mono (hs rfl A Z' own env s' E hA hE I' (g.z z)) (fun r s2 q => ?_) fun _ _ e => e
    obtain ⟨h1, Z2, z2, I2⟩ := q
    exact ⟨h1, Z2, z.trans z2, I2⟩
  · exact ⟨rfl, Z', z, I'⟩
theorem Tst.bop {op : BoolOp} {es : List Expr} {pos : Pos} {b : Bool} (h : TstA C n sc G op es b) : Tst C n sc G (.BoolOp op es pos) b := fun A Z own env s E hA hE I g => wpAny_isTrue_BoolOp (h A Z own env s E hA hE I g)
theorem Ev.ite {t a b : Expr} {pos : Pos} {c : Bool} {P : VP} (ht : Tst C n sc G t c) (h1 : c = true → Ev C n sc G a P) (h2 : c = false → Ev C n sc G b P) : Ev C n sc G (.IfExp t a b pos) P := fun A Z own env s E hA hE I g => by
  refine wpAny_IfExp (wpAny_mono (ht A Z own env s E hA hE I g) (fun r s' q => ?_) fun _ _ e => e)
  obtain ⟨rfl, Z', z, I'⟩ := q
  cases r
  · exact wpAny_mono (h2 rfl A Z' own env s' E hA hE I' (g.z z)) (fun v s3 h3 => h3.more z) fun _ _ e => e
  · exact wpAny_mono (h1 rfl A Z' own env s' E hA hE I' (g.z z)) (fun v s3 h3 => h3.more z) fun _ _ e => e
theorem Ev.tupD {es : List Expr} {k : Nat} {pos : Pos} {ps : List VP} (h : EvA C n sc G pos es ps) (hl : ps.length ≤ sizeLine := by first | decide | (simp only [List.length_cons, List.length_nil]; decide)) : Ev C n sc G (.Tuple es k pos) (.tup ps) := fun A Z own env s E hA hE I g => by
  refine wpAny_Tuple (wpAny_mono (h A Z own env s E hA hE I g) (fun vs s1 ⟨Z1, z1, I1, p1⟩ => ?_) fun _ _ e => e)
  exact ⟨by rw [← p1.len]; exact hl, (Post.push (tk := s1.toks) I1 (U := .tup ps) ⟨vs.toArray, 0, rfl, rfl, p1⟩ rfl).more z1⟩
theorem Ev.listD {es : List Expr} {pos : Pos} {ps : List VP} (h : EvA C n sc G pos es ps) (hl : ps.length ≤ sizeLine := by first | decide | (simp only [List.length_cons, List.length_nil]; decide)) : Ev C n sc G (.List es pos) (.list ps) := fun A Z own env s E hA hE I g => by
  refine wpAny_List (wpAny_mono (h A Z own env s E hA hE I g) (fun vs s1 ⟨Z1, z1, I1, p1⟩ => ?_) fun _ _ e => e)
  exact ⟨by rw [← p1.len]; exact hl, (Post.push (tk := s1.toks) I1 (U := .list ps) ⟨vs.toArray, 0, rfl, p1⟩ rfl).more z1⟩
structure Has (C : Cx) (T : String) (P : VP) : Prop where
  is : ∀ Z own s v, Inv C Z own s → P.ok Z v → s.TypeIs v T
theorem Has.str {x : Str} : Has C "str" (.str x) := ⟨fun Z own s v I ⟨t, h⟩ => by subst h; exact typeIs_str _ _ _⟩
theorem Has.list {l : List VP} : Has C "list" (.list l) := ⟨fun Z own s v I ⟨a, o, h1, h2, ⟨vs, k, h3, _⟩, _⟩ => by subst h1; exact ⟨o, I.zle _ _ h2, by rw [h3]⟩⟩
theorem Has.tup {l : List VP} : Has C "tuple" (.tup l) := ⟨fun Z own s v I ⟨a, o, h1, h2, ⟨vs, k, h3, _⟩, _⟩ => by subst h1; exact ⟨o, I.zle _ _ h2, h3⟩⟩
theorem Has.dict {l : List (Str × VP)} : Has C "dict" (.dict C l) := ⟨fun Z own s v I ⟨a, o, h1, h2, h3, _⟩ => by subst h1; exact ⟨o, I.zle _ _ h2, h3.zat.1⟩⟩
theorem Ev.sub {v i : Expr} {pos : Pos} {P Q R : VP} {T id : String} (hv : Ev C n sc G v P) (hi : Ev C n sc G i Q) (hg : Op2 C n P Q getItem R) (hT : Has C T P) (hl : typeLookup (.type T) "__getitem__" = pure (some (.builtin id)))
    (hs : ∀ o j, ∃ l, subscripted i false o j = operate l (getItem o j) := by intro _ _; exact ⟨_, rfl⟩) : Ev C n sc G (.Subscript v i pos) R := fun A Z own env s E hA hE I g => by
  rw [eval_Subscript]
  refine wpAny_bind (wpAny_mono (hv A Z own env s E hA hE I g) (fun o s1 ⟨Z1, z1, I1, p1⟩ => wpAny_bind (wpAny_holding (wpAny_mono (hi A Z1 own env s1 E hA hE I1 (g.z z1)) (fun j s2 ⟨Z2, z2, I2, p2⟩ => wpAny_bind (wpAny_standAt ?_)) fun _ _ e => e))) fun _ _ e => e)
  have hh := hT.is Z2 own s2 o I2 (P.mono z2 p1)
  obtain ⟨l, hl'⟩ := hs o j
  refine wpAny_bind ?_
  rw [getitemInPython_of_ne hh.not_modules]
  refine wpAny_bind (wpAny_specialOf hh hl ?_)
  have fin : wpAny C.M A (operate l (getItem o j)) (fun r s3 => wpAny C.M A (letTemporaryGo v o r >>= fun _ => pure r) (Post C Z own R) E s3) E s2 :=
    wpAny_operating (wpAny_mono (hg A Z2 own s2 o j E hA I2 (P.mono z2 p1) p2) (fun r s3 h3 => wpAny_bind (wpAny_letTemporaryGo (wpAny_pure (h3.more (z1.trans z2))))) fun _ _ x => x)
  refine wpAny_pure ?_
  rw [hl']
  exact wpAny_bind fin
end Mine
end

section
open PySem PySem.W PyProof.Rows
set_option autoImplicit false
namespace Mine
variable {C : Cx} {Z Z' : Fz} {own mine R : List Res} {s : Shared} {n : Nat} {sc : Scope} {G : Gam}
theorem Ev.subDict {v i : Expr} {pos : Pos} {l : List (Str × VP)} {k : Str} {P : VP} (hv : EvO C n sc G v (.dict C l)) (hi : Ev C n sc G i (.str k)) (hk : dget l k = some P)
    (hs : ∀ o j, subscripted i false o j = operate [o, j] (getItem o j) := by intro _ _; rfl) : Ev C n sc G (.Subscript v i pos) P := fun A Z own env s E hA hE I g => by
  rw [eval_Subscript]
  refine wpAny_bind (wpAny_mono (hv A Z own env s E hA hE I g) (fun o s1 ⟨Z1, a, ob, z1, I1, e1, p1, u1, n1⟩ => wpAny_bind (wpAny_holding (wpAny_mono (hi A Z1 own env s1 E hA hE I1 (g.z z1)) (fun j s2 ⟨Z2, z2, I2, p2⟩ => wpAny_bind (wpAny_standAt ?_)) fun _ _ e => e))) fun _ _ e => e)
  subst e1
  have g2 : s2.heap.get? a = some ob := I2.geto (p1.imp (z2 _ _) fun h => h)
  have hh : s2.TypeIs (.ref a) "dict" := ⟨ob, g2, u1.zat.1⟩
  refine wpAny_bind ?_
  rw [getitemInPython_of_ne hh.not_modules]
  refine wpAny_bind (wpAny_specialOf hh F.slot_dict_getitem.lookup ?_)
  refine wpAny_pure ?_
  rw [hs]
  refine wpAny_bind ?_
  exact wpAny_operating (wpAny_mono (getDict I2 p2 g2 (IsDict.mono z2 u1) hk) (fun r s3 h3 => wpAny_bind (wpAny_letTemporaryGo (wpAny_pure (h3.more (z1.trans z2))))) fun _ _ x => x)
noncomputable def pickAt {α : Type} (l : List α) (k : Int) : Option α := (seqIndex? k l.length).bind (l[·]?)
theorem seqIndex_some {k : Int} {m j : Nat} (h : seqIndex? k m = some j) : j < m ∧ (0 ≤ k → k.toNat = j ∧ k < m) ∧ (k < 0 → -(m : Int) ≤ k ∧ (k + m).toNat = j) := by
  unfold seqIndex? at h
  split at h <;> simp only [Bool.and_eq_true, decide_eq_true_eq] at h
  · split at h
    · cases h; omega
    · cases h
  · split at h
    · cases h; omega
    · cases h
theorem Oks.pick {ps : List VP} {vs : Array Value} (h : Oks Z ps vs.toList) {k : Int} {P : VP} (hk : pickAt ps k = some P) : ∃ j v, seqIndex? k vs.size = some j ∧ vs[j]? = some v ∧ P.ok Z v := by
  unfold pickAt at hk
  rw [Option.bind_eq_some_iff] at hk
  obtain ⟨j, h1, h2⟩ := hk
  have hl := Oks.sz h
  have hj := (seqIndex_some h1).1
  rw [hl] at hj h1
  obtain ⟨v, hv⟩ : ∃ v, vs[j]? = some v := ⟨vs[j], Array.getElem?_eq_getElem hj⟩
  exact ⟨j, v, h1, hv, Oks.toget h hv h2⟩
theorem Op2.getTup {ps : List VP} {k : Int} {P : VP} (hk : pickAt ps k = some P) (hsz : ps.length ≤ sizeLine := by first | decide | (simp only [List.length_cons, List.length_nil]; decide)) : Op2 C n (.tup ps) (.int k) getItem P := fun A Z own s v w E hA I ⟨a, o, h1, h2, ⟨vs, m, h3, h3', h4⟩, nm⟩ ⟨t, h5⟩ => by
  subst h1; subst h5
  obtain ⟨j, x, e1, e2, e3⟩ := Oks.pick h4 hk
  have hb := seqIndex_some e1
  have hl := Oks.sz h4
  have : sizeLine < 2 ^ 62 := by decide
  exact getItem_tuple ⟨o, I.zle _ _ h2, h3, _, h3'⟩ (by omega) (by omega) e1 e2 (Post.here I e3)
theorem getList {ps : List VP} {k : Int} {P : VP} {A : Around} {a : Addr} {o : Obj} {t : Tok} {E : Value → Shared → Prop} (I : Inv C Z own s) (ho : s.heap.get? a = some o) (u : (UP.list ps).ok Z o) (hk : pickAt ps k = some P) (hsz : ps.length ≤ sizeLine) :
    wpAny C.M A (getItem (.ref a) (.int k t)) (Post C Z own P) E s := by
  obtain ⟨vs, m, h3, h4⟩ := u
  obtain ⟨j, x, e1, e2, e3⟩ := Oks.pick h4 hk
  have hb := seqIndex_some e1
  have hl := Oks.sz h4
  have : sizeLine < 2 ^ 62 := by decide
  have hL : s.heap.IsList a vs := ⟨o, ho, by rw [h3], m, by rw [h3]⟩
  by_cases h0 : 0 ≤ k
  · exact wpAny_getItem_list hL h0 (by omega) (by rw [(hb.2.1 h0).1]; exact e2) (Post.here I e3)
  · have := hb.2.2 (by omega)
    exact wpAny_getItem_list_neg hL (by omega) this.1 (by omega) (by rw [this.2]; exact e2) (Post.here I e3)
theorem Op2.getList {ps : List VP} {k : Int} {P : VP} (hk : pickAt ps k = some P) (hsz : ps.length ≤ sizeLine := by first | decide | (simp only [List.length_cons, List.length_nil]; decide)) : Op2 C n (.list ps) (.int k) getItem P := fun A Z own s v w E hA I ⟨a, o, h1, h2, h3, nm⟩ ⟨t, h5⟩ => by
  subst h1; subst h5
  exact Mine.getList I (I.zle _ _ h2) h3 hk hsz
theorem Op2.getStr {x : Str} {k : Int} {c : Nat} (hk : (seqIndex? k x.length).bind (x.cps[·]?) = some c) (hr : (decide (k < -(2 ^ 63 : Int)) || decide (k ≥ 2 ^ 63)) = false := by decide) : Op2 C n (.str x) (.int k) getItem (.str ⟨#[c]⟩) := fun A Z own s v w E hA I ⟨t, h1⟩ ⟨u, h2⟩ => by
  subst h1; subst h2
  exact PyProof.Rows.getItem_str hr hk (Post.here (I.tok _) ⟨_, rfl⟩)
theorem Ev.atTup {v i : Expr} {pos : Pos} {ps : List VP} {k : Int} {P : VP} (hv : Ev C n sc G v (.tup ps)) (hi : Ev C n sc G i (.int k)) (hk : pickAt ps k = some P) (hsz : ps.length ≤ sizeLine := by first | decide | (simp only [List.length_cons, List.length_nil]; decide))
    (hs : ∀ o j, ∃ l, subscripted i false o j = operate l (getItem o j) := by intro _ _; exact ⟨_, rfl⟩) : Ev C n sc G (.Subscript v i pos) P := Ev.sub hv hi (Op2.getTup hk hsz) .tup slot_tuple_getitem.lookup hs
theorem Ev.atList {v i : Expr} {pos : Pos} {ps : List VP} {k : Int} {P : VP} (hv : Ev C n sc G v (.list ps)) (hi : Ev C n sc G i (.int k)) (hk : pickAt ps k = some P) (hsz : ps.length ≤ sizeLine := by first | decide | (simp only [List.length_cons, List.length_nil]; decide))
    (hs : ∀ o j, ∃ l, subscripted i false o j = operate l (getItem o j) := by intro _ _; exact ⟨_, rfl⟩) : Ev C n sc G (.Subscript v i pos) P := Ev.sub hv hi (Op2.getList hk hsz) .list list_getitem_lookup hs
theorem Ev.atStr {v i : Expr} {pos : Pos} {x : Str} {k : Int} {c : Nat} (hv : Ev C n sc G v (.str x)) (hi : Ev C n sc G i (.int k)) (hk : (seqIndex? k x.length).bind (x.cps[·]?) = some c) (hr : (decide (k < -(2 ^ 63 : Int)) || decide (k ≥ 2 ^ 63)) = false := by decide)
    (hs : ∀ o j, ∃ l, subscripted i false o j = operate l (getItem o j) := by intro _ _; exact ⟨_, rfl⟩) : Ev C n sc G (.Subscript v i pos) (.str ⟨#[c]⟩) := Ev.sub hv hi (Op2.getStr hk hr) .str F.slot_str_getitem.lookup hs
noncomputable def partP : Option Int → VP
  | Option.none => VP.none
  | Option.some i => VP.int i
theorem part_is {p : Option Int} {v : Value} (h : (partP p).ok Z v) : IsPart v p := by
  cases p with
  | none => cases h; exact .none
  | some i => obtain ⟨t, rfl⟩ := h; exact .int i t
theorem part_val {p : Option Int} {v : Value} (h : (partP p).ok Z v) : ∃ q : Option (Int × Tok), v = partValue q ∧ q.map Prod.fst = p := by
  cases p with
  | none => cases h; exact ⟨none, rfl, rfl⟩
  | some i => obtain ⟨t, rfl⟩ := h; exact ⟨some (i, t), rfl, rfl⟩
noncomputable def UP.slice (lo hi st : Option Int) : UP := ⟨fun Z o => ∃ a b c, o = { cls := .type "slice", data := .fields #[a, b, c] } ∧ (partP lo).ok Z a ∧ (partP hi).ok Z b ∧ (partP st).ok Z c, fun z ⟨a, b, c, h, h1, h2, h3⟩ => ⟨a, b, c, h, VP.mono _ z h1, VP.mono _ z h2, VP.mono _ z h3⟩⟩
noncomputable def EvP (C : Cx) (n : Nat) (sc : Scope) (G : Gam) (e : Option Expr) (P : Option Int) : Prop :=
  ∀ (A : Around) (Z : Fz) (own : List Res) (env : Env) (s : Shared) (E : Value → Shared → Prop), Room n A → EnvIs sc env → Inv C Z own s → EnvOk G env Z own own →
    wpAny C.M A (evalPart e env) (Post C Z own (partP P)) E s
theorem EvP.no : EvP C n sc G none none := fun A Z own env s E hA hE I g => wpAny_pure (Post.here I rfl)
theorem EvP.at {e : Expr} {i : Int} (h : Ev C n sc G e (.int i)) : EvP C n sc G (some e) (some i) := fun A Z own env s E hA hE I g => h A Z own env s E hA hE I g
theorem Ev.slice {l u st : Option Expr} {p : Pos} {lo hi sp : Option Int} (hl : EvP C n sc G l lo) (hu : EvP C n sc G u hi) (hs : EvP C n sc G st sp) : Ev C n sc G (.Slice l u st p) (.of (.slice lo hi sp)) := fun A Z own env s E hA hE I g => by
  refine wpAny_Slice (wpAny_mono (hl A Z own env s E hA hE I g) (fun a s1 ⟨Z1, z1, I1, p1⟩ => ?_) fun _ _ e => e)
  refine wpAny_mono (hu A Z1 own env s1 E hA hE I1 (g.z z1)) (fun b s2 ⟨Z2, z2, I2, p2⟩ => ?_) fun _ _ e => e
  refine wpAny_mono (hs A Z2 own env s2 E hA hE I2 (g.z (z1.trans z2))) (fun c s3 ⟨Z3, z3, I3, p3⟩ => ?_) fun _ _ e => e
  exact (Post.push (tk := s3.toks) I3 (U := .slice lo hi sp) ⟨a, b, c, rfl, VP.mono _ (z2.trans z3) p1, VP.mono _ z3 p2, p3⟩ rfl).more ((z1.trans z2).trans z3)
noncomputable def sliceL {α : Type} (l : List α) (lo hi st : Option Int) : List α := (sliceRange (sliceBounds lo hi st l.length).1 (sliceBounds lo hi st l.length).2.1 (sliceBounds lo hi st l.length).2.2).filterMap (l[·]?)
theorem Oks.fm {ps : List VP} {vs : Array Value} (h : Oks Z ps vs.toList) : ∀ l : List Nat, Oks Z (l.filterMap (ps[·]?)) (l.filterMap (vs[·]?))
  | [] => .nil
  | i :: l => by
    have ih := Oks.fm h l
    rw [List.filterMap_cons, List.filterMap_cons]
    cases e : vs[i]? with
    | none =>
      have : ps[i]? = none := by
        rw [List.getElem?_eq_none_iff, Oks.sz h]; exact Array.getElem?_eq_none_iff.mp e
      rw [this]; exact ih
    | some v =>
      obtain ⟨hi, _⟩ := Array.getElem?_eq_some_iff.mp e
      have hi' : i < ps.length := by rw [Oks.sz h]; exact hi
      rw [List.getElem?_eq_getElem hi']
      exact .cons (Oks.toget h e (List.getElem?_eq_getElem hi')) ih
theorem Op2.sliceList {ps : List VP} {lo hi st : Option Int} (h0 : st ≠ some 0) (hsz : ps.length ≤ sizeLine := by first | decide | (simp only [List.length_cons, List.length_nil]; decide)) : Op2 C n (.list ps) (.of (.slice lo hi st)) getItem (.list (sliceL ps lo hi st)) := fun A Z own s v w E hA I h1 h2 => by
  obtain ⟨a, o, rfl, h3, ⟨vs, m, h4, h5⟩, nm⟩ := h1
  obtain ⟨b, q, rfl, h6, ⟨x, y, z, h7, p1, p2, p3⟩, nm'⟩ := h2
  have hL : s.heap.IsList a vs := ⟨o, I.zle _ _ h3, by rw [h4], m, by rw [h4]⟩
  have hl := Oks.sz h5
  refine wpAny_getItem_list_slice hL ⟨q, I.zle _ _ h6, by rw [h7], by rw [h7]⟩ (part_is p1) (part_is p2) (part_is p3) h0 ?_ (by omega)
  refine Post.push (tk := s.toks) I (U := .list _) ⟨_, 0, rfl, ?_⟩ rfl
  unfold slicePick sliceL
  rw [← hl]
  exact Oks.fm h5 _
theorem Ev.slList {v : Expr} {l u st : Option Expr} {p pos : Pos} {ps : List VP} {lo hi sp : Option Int} (hv : Ev C n sc G v (.list ps)) (hl : EvP C n sc G l lo) (hu : EvP C n sc G u hi) (hs : EvP C n sc G st sp) (h0 : sp ≠ some 0 := by decide) (hsz : ps.length ≤ sizeLine := by first | decide | (simp only [List.length_cons, List.length_nil]; decide))
    (hs' : ∀ o j, ∃ q, subscripted (.Slice l u st p) false o j = operate q (getItem o j) := by intro _ _; exact ⟨_, rfl⟩) : Ev C n sc G (.Subscript v (.Slice l u st p) pos) (.list (sliceL ps lo hi sp)) := Ev.sub hv (Ev.slice hl hu hs) (Op2.sliceList h0 hsz) .list list_getitem_lookup hs'
noncomputable def sliceS (x : Str) (lo hi : Option Int) : Str := if ((Builtin.Str.strSliceIndices lo hi 1 x.length).length == x.length) = true then x else ⟨((Builtin.Str.strSliceIndices lo hi 1 x.length).filterMap (x.cps[·]?)).toArray⟩
theorem Op2.sliceStr {x : Str} {lo hi : Option Int} (hsz : (sliceS x lo hi).length ≤ sizeLine) : Op2 C n (.str x) (.of (.slice lo hi none)) getItem (.str (sliceS x lo hi)) := fun A Z own s v w E hA I h1 h2 => by
  obtain ⟨t, rfl⟩ := h1
  obtain ⟨b, q, rfl, h6, ⟨x', y, z, h7, p1, p2, p3⟩, nm'⟩ := h2
  cases (show z = .none from p3)
  obtain ⟨l, rfl, rfl⟩ := part_val p1
  obtain ⟨u, rfl, rfl⟩ := part_val p2
  refine wpAny_getItem_str_slice (l := l) (u := u) (st := none) ⟨q, I.zle _ _ h6, by rw [h7], by rw [h7]; rfl⟩ rfl ?_
  unfold sliceMade
  unfold sliceS at hsz ⊢
  have e : (((none : Option (Int × Tok)).map (·.1)).getD 1 == 1 && (slicePicked x l u none).length == x.length) = ((Builtin.Str.strSliceIndices (l.map Prod.fst) (u.map Prod.fst) 1 x.length).length == x.length) := by
    show (true && _) = _; rw [Bool.true_and]; rfl
  rw [e]
  split
  · exact Post.here I ⟨_, rfl⟩
  · rename_i hne
    rw [if_neg hne] at hsz
    exact ⟨hsz, Post.here (I.tok _) ⟨_, rfl⟩⟩
theorem Ev.slStr {v : Expr} {l u : Option Expr} {p pos : Pos} {x : Str} {lo hi : Option Int} (hv : Ev C n sc G v (.str x)) (hl : EvP C n sc G l lo) (hu : EvP C n sc G u hi) (hsz : (sliceS x lo hi).length ≤ sizeLine)
    (hs' : ∀ o j, ∃ q, subscripted (.Slice l u none p) false o j = operate q (getItem o j) := by intro _ _; exact ⟨_, rfl⟩) : Ev C n sc G (.Subscript v (.Slice l u none p) pos) (.str (sliceS x lo hi)) := Ev.sub hv (Ev.slice hl hu .no) (Op2.sliceStr hsz) .str F.slot_str_getitem.lookup hs'
end Mine
end

section
open PySem PySem.W PyProof.Rows
set_option autoImplicit false
namespace Mine
variable {C : Cx} {Z Z' : Fz} {own mine R : List Res} {s : Shared} {n : Nat} {sc : Scope} {G : Gam}
theorem Post.new (I : Inv C Z own s) {h' : Heap} {tk : Nat} {a : Addr} {o : Obj} {U : UP} (k : ∀ b o, s.heap.get? b = some o → h'.get? b = some o) (ha : s.heap.objs.size ≤ a) (ho : h'.get? a = some o) (u : U.ok Z o) : Post C Z own (.of U) (.ref a) { s with heap := h', toks := tk } := by
  have z : Z.le (Z.put a o) := Fz.le_put (I.znone ha)
  have J : Inv C Z ([.it a o] ++ own) { s with heap := h', toks := tk } := I.addMany k (fun r hr => by cases List.mem_singleton.mp hr; exact ha) (fun r hr => by cases List.mem_singleton.mp hr; exact ho) (by simp)
  have nm : Nm a := by
    have h := I.g.lt
    have h2 : 3 < a := Nat.lt_of_lt_of_le h ha
    exact beq_false_of_ne fun e => by rw [e] at h2; exact absurd h2 (by decide)
  exact ⟨_, z, J.freezeIt.1, a, o, rfl, Fz.put_self, U.mono z u, nm⟩
theorem ints_are : ∀ {ns : List Int} {vs : List Value}, Oks Z (ns.map VP.int) vs → IntsAre vs ns
  | [], _, h => by cases h; exact .nil
  | i :: ns, _, h => by
    cases h with
    | cons a b => obtain ⟨t, rfl⟩ := a; exact .cons _ _ (ints_are b)
theorem strs_are : ∀ {ns : List Str} {vs : List Value}, Oks Z (ns.map VP.str) vs → StrsAre vs ns
  | [], _, h => by cases h; exact .nil
  | i :: ns, _, h => by
    cases h with
    | cons a b => obtain ⟨t, rfl⟩ := a; exact .cons _ _ (strs_are b)
theorem are_ints : ∀ {ns : List Int} {vs : List Value}, IntsAre vs ns → Oks Z (ns.map VP.int) vs
  | _, _, .nil => .nil
  | _, _, .cons _ _ h => .cons ⟨_, rfl⟩ (are_ints h)
theorem are_strs : ∀ {ns : List Str} {vs : List Value}, StrsAre vs ns → Oks Z (ns.map VP.str) vs
  | _, _, .nil => .nil
  | _, _, .cons _ _ h => .cons ⟨_, rfl⟩ (are_strs h)
theorem small (m : Nat) (h : m ≤ sizeLine) : (m : Int) < 2 ^ 63 := by
  have : sizeLine < 2 ^ 62 := by decide
  omega
theorem Fn.lenList {ps : List VP} (h : ps.length ≤ sizeLine := by first | decide | (simp only [List.length_cons, List.length_nil]; decide)) : Fn C n (.builtin "len") [.list ps] (.int ps.length) := fun A Z own s vs E hA I hv => by
  cases hv with
  | cons a b =>
    cases b
    obtain ⟨a, o, rfl, h2, ⟨vs, m, h3, h4⟩, nm⟩ := a
    have hl := Oks.sz h4
    rw [hl] at h ⊢
    exact PySem.Calls.call_len_list ⟨o, I.zle _ _ h2, by rw [h3], m, by rw [h3]⟩ (small _ h) (Post.here (I.tok _) ⟨_, rfl⟩)
theorem Fn.lenTup {ps : List VP} (h : ps.length ≤ sizeLine := by first | decide | (simp only [List.length_cons, List.length_nil]; decide)) : Fn C n (.builtin "len") [.tup ps] (.int ps.length) := fun A Z own s vs E hA I hv => by
  cases hv with
  | cons a b =>
    cases b
    obtain ⟨a, o, rfl, h2, ⟨vs, m, h3, h3', h4⟩, nm⟩ := a
    have hl := Oks.sz h4
    rw [hl] at h ⊢
    exact PyProof.Rows.len_tuple ⟨o, I.zle _ _ h2, h3, m, h3'⟩ (small _ h) (Post.here (I.tok _) ⟨_, rfl⟩)
theorem Fn.lenStr {x : Str} (h : x.length ≤ sizeLine) : Fn C n (.builtin "len") [.str x] (.int x.length) := fun A Z own s vs E hA I hv => by
  cases hv with
  | cons a b =>
    cases b
    obtain ⟨t, rfl⟩ := a
    exact PyProof.Rows.len_str (Int.not_le.mpr (small _ h)) (Post.here (I.tok _) ⟨_, rfl⟩)
theorem Fn.lenDict {l : List (Str × VP)} (h : l.length ≤ sizeLine := by first | decide | (simp only [List.length_cons, List.length_nil]; decide)) : Fn C n (.builtin "len") [.dict C l] (.int l.length) := fun A Z own s vs E hA I hv => by
  cases hv with
  | cons a b =>
    cases b
    obtain ⟨a, o, rfl, h2, h3, nm⟩ := a
    obtain ⟨kvs, ep, hd, hk⟩ := IsDict.at h3 (I.zle _ _ h2)
    rw [hk.len] at h ⊢
    exact PySem.call_len_dict nm hd.dictOf (small _ h) (Post.here (I.tok _) ⟨_, rfl⟩)
theorem Fn.max2 {a b : Int} : Fn C n (.builtin "max") [.int a, .int b] (.int (max a b)) := fun A Z own s vs E hA I hv => by
  cases hv with
  | cons p q =>
    cases q with
    | cons q r =>
      cases r
      obtain ⟨t, rfl⟩ := p
      obtain ⟨u, rfl⟩ := q
      refine max_two_ints hA.hh fun h' tk k => Post.here (I.keeps k) ?_
      split
      · exact ⟨u, by congr 1; omega⟩
      · exact ⟨t, by congr 1; omega⟩
theorem ints_items {ns : List Int} {vs : Array Value} (h : Oks Z (ns.map VP.int) vs.toList) : ∃ xs : Array (Int × Tok), vs = intItems xs ∧ ns = xs.toList.map (·.1) := by
  have hi := ints_are h
  obtain ⟨xs, e⟩ := hi.allInts.items
  have e' : vs = intItems xs := by simpa using e
  exact ⟨xs, e', by rw [← hi.numsOf, ← nums_intItems, ← e']⟩
theorem Fn.sumList {ns : List Int} : Fn C n (.builtin "sum") [.list (ns.map .int)] (.int ns.sum) := fun A Z own s vs E hA I hv => by
  cases hv with
  | cons a b =>
    cases b
    obtain ⟨a, o, rfl, h2, ⟨vs, m, h3, h4⟩, nm⟩ := a
    obtain ⟨xs, rfl, rfl⟩ := ints_items h4
    refine sum_intListG hA.hh ⟨o, I.zle _ _ h2, by rw [h3], m, by rw [h3]⟩ fun h' tk t' k => Post.here (I.keeps k) ⟨t', ?_⟩
    rw [preSum_eq, List.take_of_length_le (by simp)]
theorem Fn.maxList {ns : List Int} {M : Int} (hm : M ∈ ns) (hM : ∀ a ∈ ns, a ≤ M) : Fn C n (.builtin "max") [.list (ns.map .int)] (.int M) := fun A Z own s vs E hA I hv => by
  cases hv with
  | cons a b =>
    cases b
    obtain ⟨a, o, rfl, h2, ⟨vs, m, h3, h4⟩, nm⟩ := a
    obtain ⟨xs, rfl, rfl⟩ := ints_items h4
    have hsz : 0 < xs.size := by
      have := List.length_pos_of_mem hm
      rwa [List.length_map, Array.length_toList] at this
    refine max_intList hA.hh ⟨o, I.zle _ _ h2, by rw [h3], m, by rw [h3]⟩ hsz fun v h' tk hv k => Post.here (I.keeps k) ?_
    obtain ⟨t, rfl⟩ := intItems_at hv
    obtain ⟨h1, h2⟩ := argBest_gt (numAt xs) (xs.size - 1)
    refine ⟨t, ?_⟩
    congr 1
    obtain ⟨j, hj, e⟩ := PySem.mem_getD hm
    rw [List.length_map, Array.length_toList] at hj
    have h3 := h2 j (by omega)
    rw [numAt_eq] at h3
    refine Int.le_antisymm (hM _ ?_) (by rw [← e]; exact h3)
    rw [numAt_eq]; exact PySem.getD_mem (by rw [List.length_map, Array.length_toList]; omega)
theorem Fn.minList {ns : List Int} {M : Int} (hm : M ∈ ns) (hM : ∀ a ∈ ns, M ≤ a) : Fn C n (.builtin "min") [.list (ns.map .int)] (.int M) := fun A Z own s vs E hA I hv => by
  cases hv with
  | cons a b =>
    cases b
    obtain ⟨a, o, rfl, h2, ⟨vs, m, h3, h4⟩, nm⟩ := a
    obtain ⟨xs, rfl, rfl⟩ := ints_items h4
    have hsz : 0 < xs.size := by
      have := List.length_pos_of_mem hm
      rwa [List.length_map, Array.length_toList] at this
    refine min_intList hA.hh ⟨o, I.zle _ _ h2, by rw [h3], m, by rw [h3]⟩ hsz fun v h' tk hv k => Post.here (I.keeps k) ?_
    obtain ⟨t, rfl⟩ := intItems_at hv
    obtain ⟨h1, h2⟩ := argBest_lt (numAt xs) (xs.size - 1)
    refine ⟨t, ?_⟩
    congr 1
    obtain ⟨j, hj, e⟩ := PySem.mem_getD hm
    rw [List.length_map, Array.length_toList] at hj
    have h3 := h2 j (by omega)
    refine Int.le_antisymm (by rw [← e, ← numAt_eq]; exact h3) (hM _ ?_)
    rw [numAt_eq]; exact PySem.getD_mem (by rw [List.length_map, Array.length_toList]; omega)
theorem Fn.range1 {a : Int} : Fn C n (.type "range") [.int a] (.of (.range 0 a)) := fun A Z own s vs E hA I hv => by
  cases hv with
  | cons p q =>
    cases q
    obtain ⟨t, rfl⟩ := p
    exact call_range_1 (Post.push I (U := .range 0 a) ⟨_, _, _, rfl⟩ rfl)
theorem Fn.range2 {a b : Int} : Fn C n (.type "range") [.int a, .int b] (.of (.range a b)) := fun A Z own s vs E hA I hv => by
  cases hv with
  | cons p q =>
    cases q with
    | cons q r =>
      cases r
      obtain ⟨t, rfl⟩ := p
      obtain ⟨u, rfl⟩ := q
      exact call_range_2 (Post.push I (U := .range a b) ⟨_, _, _, rfl⟩ rfl)
theorem Fn.tupList {ps : List VP} (h : ps.length ≤ sizeLine := by first | decide | (simp only [List.length_cons, List.length_nil]; decide)) : Fn C n (.type "tuple") [.list ps] (.tup ps) := fun A Z own s vs E hA I hv => by
  cases hv with
  | cons a b =>
    cases b
    obtain ⟨a, o, rfl, h2, ⟨vs, m, h3, h4⟩, nm⟩ := a
    have hl := Oks.sz h4
    refine call_tuple_list ⟨o, I.zle _ _ h2, by rw [h3], m, by rw [h3]⟩ (fun h' k => ?_) (by omega)
    have J := I.keeps (tk := s.toks) k
    exact Post.push (tk := s.toks) J (U := .tup ps) ⟨vs, 0, rfl, rfl, h4⟩ rfl
end Mine
end

section
open PySem PySem.W PyProof.Rows PySem.SeqAt
set_option autoImplicit false
namespace Mine
variable {C : Cx} {Z Z' : Fz} {own mine R : List Res} {s : Shared} {n : Nat} {sc : Scope} {G : Gam}
structure EqD (k : Nat) (P Q : VP) (b : Bool) : Prop where
  rc : ∀ (A : Around) (Z : Fz) (s : Shared) (v w : Value), (∀ a o, Z a = some o → s.heap.get? a = some o) → A.units + k < cLine → P.ok Z v → Q.ok Z w → RcAt A s v w b
  eq : ∀ (A : Around) (Z : Fz) (s : Shared) (v w : Value), (∀ a o, Z a = some o → s.heap.get? a = some o) → A.units + k < cLine → P.ok Z v → Q.ok Z w → EqAt A s v w b
  one : ∀ (Z : Fz) (v : Value), P.ok Z v → Q.ok Z v → b = true
theorem EqD.cast {k : Nat} {P Q : VP} {b b' : Bool} (h : EqD k P Q b) (e : b = b') : EqD k P Q b' := e ▸ h
theorem EqD.int {k : Nat} {a b : Int} : EqD k (.int a) (.int b) (decide (a = b)) :=
  ⟨fun A Z s v w _ _ ⟨t, h1⟩ ⟨u, h2⟩ => by subst h1; subst h2; exact RcAt.int_int _ _ _ _, fun A Z s v w _ _ ⟨t, h1⟩ ⟨u, h2⟩ => by subst h1; subst h2; exact EqAt.int_int _ _ _ _,
   fun Z v ⟨t, h1⟩ ⟨u, h2⟩ => by rw [h1] at h2; injection h2 with h2; exact decide_eq_true h2⟩
theorem beq_str (x y : Str) : (x == y) = decide (x = y) := by
  by_cases h : x = y
  · subst h; simp
  · rw [decide_eq_false h]; exact beq_false_of_ne h
theorem EqD.str {k : Nat} {a b : Str} : EqD k (.str a) (.str b) (decide (a = b)) :=
  ⟨fun A Z s v w _ _ ⟨t, h1⟩ ⟨u, h2⟩ => by subst h1; subst h2; rw [← beq_str]; exact RcAt.str_str _ _ _ _, fun A Z s v w _ _ ⟨t, h1⟩ ⟨u, h2⟩ => by subst h1; subst h2; rw [← beq_str]; exact EqAt.str_str _ _ _ _,
   fun Z v ⟨t, h1⟩ ⟨u, h2⟩ => by rw [h1] at h2; injection h2 with h2; exact decide_eq_true h2⟩
theorem Oks.at2 {ps : List VP} {vs : Array Value} (h : Oks Z ps vs.toList) {i : Nat} (hi : i < vs.size) (hp : i < ps.length) : (ps[i]).ok Z vs[i] := Oks.toget h (Array.getElem?_eq_getElem hi) (List.getElem?_eq_getElem hp)
theorem all_range_eq {α : Type} [DecidableEq α] (xs ys : List α) (h : xs.length = ys.length) (e : Nat → Bool) (he : ∀ j (h1 : j < xs.length) (h2 : j < ys.length), e j = decide (xs[j] = ys[j])) : (List.range xs.length).all e = decide (xs = ys) := by
  by_cases q : xs = ys
  · subst q
    rw [decide_eq_true rfl, List.all_eq_true]
    intro j hj
    have hj' := List.mem_range.mp hj
    rw [he j hj' hj']; exact decide_eq_true rfl
  · rw [decide_eq_false q, Bool.eq_false_iff]
    intro hall
    refine q (List.ext_getElem h fun j h1 h2 => ?_)
    have := List.all_eq_true.mp hall j (List.mem_range.mpr h1)
    rw [he j h1 h2] at this
    exact of_decide_eq_true this
theorem EqD.list {α : Type} [DecidableEq α] {k : Nat} {P : α → VP} (h : ∀ x y, EqD k (P x) (P y) (decide (x = y))) {xs ys : List α} : EqD (k + 1) (.list (xs.map P)) (.list (ys.map P)) (decide (xs = ys)) := by
  have rc : ∀ (A : Around) (Z : Fz) (s : Shared) (v w : Value), (∀ a o, Z a = some o → s.heap.get? a = some o) → A.units + (k + 1) < cLine → (VP.list (xs.map P)).ok Z v → (VP.list (ys.map P)).ok Z w → RcAt A s v w (decide (xs = ys)) := fun A Z s v w z hu h1 h2 => by
    obtain ⟨a, o, rfl, g1, ⟨vs, m, e1, k1⟩, _⟩ := h1
    obtain ⟨b, q, rfl, g2, ⟨ws, m', e2, k2⟩, _⟩ := h2
    have l1 := Oks.sz k1
    have l2 := Oks.sz k2
    rw [List.length_map] at l1 l2
    have L1 : s.heap.IsList a vs := ⟨o, z _ _ g1, by rw [e1], m, by rw [e1]⟩
    have L2 : s.heap.IsList b ws := ⟨q, z _ _ g2, by rw [e2], m', by rw [e2]⟩
    by_cases hl : xs.length = ys.length
    · have := RcAt.lists (A := A) (e := fun j => if h : j < xs.length then (if h2 : j < ys.length then decide (xs[j] = ys[j]) else false) else false) L1 L2 (by omega) (by omega) (fun j h1 h2 => by
        have j1 : j < xs.length := by omega
        have j2 : j < ys.length := by omega
        rw [dif_pos j1, dif_pos j2]
        have p1 := Oks.at2 k1 h1 (by rw [List.length_map]; exact j1)
        have p2 := Oks.at2 k2 h2 (by rw [List.length_map]; exact j2)
        rw [List.getElem_map] at p1 p2
        exact (h _ _).eq A.in1 Z s _ _ z (by show A.units + 1 + k < _; omega) p1 p2)
      rwa [← l1, all_range_eq xs ys hl _ fun j h1 h2 => by rw [dif_pos h1, dif_pos h2]] at this
    · rw [decide_eq_false fun e => hl (by rw [e])]
      exact RcAt.lists_lengths L1 L2 (by simp only [bne_iff_ne]; omega) (by omega)
  have one : ∀ (Z : Fz) (v : Value), (VP.list (xs.map P)).ok Z v → (VP.list (ys.map P)).ok Z v → decide (xs = ys) = true := fun Z v h1 h2 => by
    obtain ⟨a, o, e, g1, ⟨vs, m, e1, k1⟩, _⟩ := h1
    obtain ⟨b, q, e', g2, ⟨ws, m', e2, k2⟩, _⟩ := h2
    rw [e] at e'; injection e' with e'; subst e'
    rw [g1] at g2; injection g2 with g2; subst g2
    rw [e1] at e2; injection e2 with _ _ e2; injection e2 with e2; subst e2
    have l1 := Oks.sz k1
    have l2 := Oks.sz k2
    rw [List.length_map] at l1 l2
    refine decide_eq_true (List.ext_getElem (by omega) fun j j1 j2 => ?_)
    have p1 := Oks.at2 k1 (i := j) (by omega) (by rw [List.length_map]; exact j1)
    have p2 := Oks.at2 k2 (i := j) (by omega) (by rw [List.length_map]; exact j2)
    rw [List.getElem_map] at p1 p2
    exact of_decide_eq_true ((h _ _).one Z _ p1 p2)
  refine ⟨rc, fun A Z s v w z hu h1 h2 => ?_, one⟩
  by_cases hvw : v = w
  · subst hvw; rw [one Z v h1 h2]; exact EqAt.same v
  · have h3 := rc A Z s v w z hu h1 h2
    obtain ⟨a, o, rfl, _⟩ := h1
    obtain ⟨b, q, rfl, _⟩ := h2
    exact EqAt.of_refs (fun e => hvw (by rw [e])) h3
inductive EqDs (k : Nat) : List VP → List VP → List Bool → Prop
  | nil : EqDs k [] [] []
  | cons {p q b ps qs bs} : EqD k p q b → EqDs k ps qs bs → EqDs k (p :: ps) (q :: qs) (b :: bs)
theorem EqDs.len {k : Nat} {ps qs : List VP} {bs : List Bool} (h : EqDs k ps qs bs) : ps.length = bs.length ∧ qs.length = bs.length := by
  induction h with
  | nil => exact ⟨rfl, rfl⟩
  | cons _ _ ih => exact ⟨by simp [ih.1], by simp [ih.2]⟩
theorem EqDs.at {k : Nat} {ps qs : List VP} {bs : List Bool} (h : EqDs k ps qs bs) : ∀ j (h1 : j < ps.length) (h2 : j < qs.length) (h3 : j < bs.length), EqD k ps[j] qs[j] bs[j] := by
  induction h with
  | nil => intro j h1; simp at h1
  | cons a _ ih =>
    intro j h1 h2 h3
    cases j with
    | zero => exact a
    | succ j => exact ih j (by simpa using h1) (by simpa using h2) (by simpa using h3)
theorem EqD.tup {k : Nat} {ps qs : List VP} {bs : List Bool} (h : EqDs k ps qs bs) : EqD (k + 1) (.tup ps) (.tup qs) (bs.all id) := by
  have hlen := h.len
  have rc : ∀ (A : Around) (Z : Fz) (s : Shared) (v w : Value), (∀ a o, Z a = some o → s.heap.get? a = some o) → A.units + (k + 1) < cLine → (VP.tup ps).ok Z v → (VP.tup qs).ok Z w → RcAt A s v w (bs.all id) := fun A Z s v w z hu h1 h2 => by
    obtain ⟨a, o, rfl, g1, ⟨vs, m, e1, e1', k1⟩, _⟩ := h1
    obtain ⟨b, q, rfl, g2, ⟨ws, m', e2, e2', k2⟩, _⟩ := h2
    have l1 := Oks.sz k1
    have l2 := Oks.sz k2
    have L1 : s.heap.IsTuple a vs := ⟨o, z _ _ g1, e1, m, e1'⟩
    have L2 : s.heap.IsTuple b ws := ⟨q, z _ _ g2, e2, m', e2'⟩
    have := RcAt.tuples (A := A) (e := fun j => (bs[j]?).getD true) L1 L2 (by omega) (fun j h1 h2 => by
      have j3 : j < bs.length := by omega
      rw [List.getElem?_eq_getElem j3]
      exact (h.at j (by omega) (by omega) j3).eq A.in1 Z s _ _ z (by show A.units + 1 + k < _; omega) (Oks.at2 k1 h1 (by omega)) (Oks.at2 k2 h2 (by omega)))
    have e3 : ((List.range (min vs.size ws.size)).all (fun j => (bs[j]?).getD true) && vs.size == ws.size) = bs.all id := by
      rw [show vs.size = bs.length by omega, show ws.size = bs.length by omega, Nat.min_self, beq_self_eq_true, Bool.and_true]
      rw [Bool.eq_iff_iff, List.all_eq_true, List.all_eq_true]
      constructor
      · intro q x hx
        obtain ⟨j, hj, rfl⟩ := List.getElem_of_mem hx
        have := q j (List.mem_range.mpr hj)
        rwa [List.getElem?_eq_getElem hj] at this
      · intro q j hj
        have hj' := List.mem_range.mp hj
        rw [List.getElem?_eq_getElem hj']
        exact q _ (List.getElem_mem hj')
    rwa [e3] at this
  have one : ∀ (Z : Fz) (v : Value), (VP.tup ps).ok Z v → (VP.tup qs).ok Z v → bs.all id = true := fun Z v h1 h2 => by
    obtain ⟨a, o, e, g1, ⟨vs, m, e1, e1', k1⟩, _⟩ := h1
    obtain ⟨b, q, e', g2, ⟨ws, m', e2, e2', k2⟩, _⟩ := h2
    rw [e] at e'; injection e' with e'; subst e'
    rw [g1] at g2; injection g2 with g2; subst g2
    rw [e1'] at e2'; injection e2' with e2'; subst e2'
    have l1 := Oks.sz k1
    rw [List.all_eq_true]
    intro x hx
    obtain ⟨j, hj, rfl⟩ := List.getElem_of_mem hx
    exact (h.at j (by omega) (by omega) hj).one Z _ (Oks.at2 k1 (i := j) (by omega) (by omega)) (Oks.at2 k2 (i := j) (by omega) (by omega))
  refine ⟨rc, fun A Z s v w z hu h1 h2 => ?_, one⟩
  by_cases hvw : v = w
  · subst hvw; rw [one Z v h1 h2]; exact EqAt.same v
  · have h3 := rc A Z s v w z hu h1 h2
    obtain ⟨a, o, rfl, _⟩ := h1
    obtain ⟨b, q, rfl, _⟩ := h2
    exact EqAt.of_refs (fun e => hvw (by rw [e])) h3
theorem Op2.eq {P Q : VP} {b : Bool} (h : EqD 40 P Q b) : Op2 C n P Q (compareOp .Eq) (.bool b) := fun A Z own s v w E hA I h1 h2 =>
  h.rc A Z s v w I.zle (by have := hA.units; omega) h1 h2 _ _ _ _ (Post.here I rfl)
theorem EqD.up {k k' : Nat} {P Q : VP} {b : Bool} (h : EqD k P Q b) (hk : k ≤ k') : EqD k' P Q b := ⟨fun A Z s v w z hu => h.rc A Z s v w z (by omega), fun A Z s v w z hu => h.eq A Z s v w z (by omega), h.one⟩
end Mine
end

section
open PySem PySem.W PyProof.Rows PySem.SeqAt
set_option autoImplicit false
namespace Mine
variable {C : Cx} {Z Z' : Fz} {own mine R : List Res} {s : Shared} {n : Nat} {sc : Scope} {G : Gam}
theorem Op2.neList {α : Type} [DecidableEq α] {P : α → VP} (h : ∀ x y, EqD 30 (P x) (P y) (decide (x = y))) {xs ys : List α} : Op2 C n (.list (xs.map P)) (.list (ys.map P)) (compareOp .NotEq) (.bool (!decide (xs = ys))) := fun A Z own s v w E hA I h1 h2 => by
  obtain ⟨a, o, rfl, g1, ⟨vs, m, e1, k1⟩, _⟩ := h1
  obtain ⟨b, q, rfl, g2, ⟨ws, m', e2, k2⟩, _⟩ := h2
  have l1 := Oks.sz k1
  have l2 := Oks.sz k2
  rw [List.length_map] at l1 l2
  have hu := hA.units
  have L1 : s.heap.IsList a vs := ⟨o, I.zle _ _ g1, by rw [e1], m, by rw [e1]⟩
  have L2 : s.heap.IsList b ws := ⟨q, I.zle _ _ g2, by rw [e2], m', by rw [e2]⟩
  by_cases hl : xs.length = ys.length
  · have := RcNeAt.lists (A := A) (e := fun j => if h : j < xs.length then (if h2 : j < ys.length then decide (xs[j] = ys[j]) else false) else false) L1 L2 (by omega) (by omega) (fun j h1 h2 => by
      have j1 : j < xs.length := by omega
      have j2 : j < ys.length := by omega
      rw [dif_pos j1, dif_pos j2]
      have p1 := Oks.at2 k1 h1 (by rw [List.length_map]; exact j1)
      have p2 := Oks.at2 k2 h2 (by rw [List.length_map]; exact j2)
      rw [List.getElem_map] at p1 p2
      exact (h _ _).eq A.in1 Z s _ _ I.zle (by show A.units + 1 + 30 < _; omega) p1 p2)
    rw [← l1, all_range_eq xs ys hl _ fun j h1 h2 => by rw [dif_pos h1, dif_pos h2]] at this
    exact this _ _ _ _ (Post.here I rfl)
  · rw [decide_eq_false fun e => hl (by rw [e])]
    exact RcNeAt.lists_lengths L1 L2 (by simp only [bne_iff_ne]; omega) (by omega) _ _ _ _ (Post.here I rfl)
theorem Op2.neTup {ps qs : List VP} {bs : List Bool} (h : EqDs 30 ps qs bs) : Op2 C n (.tup ps) (.tup qs) (compareOp .NotEq) (.bool (!bs.all id)) := fun A Z own s v w E hA I h1 h2 => by
  have hlen := h.len
  obtain ⟨a, o, rfl, g1, ⟨vs, m, e1, e1', k1⟩, _⟩ := h1
  obtain ⟨b, q, rfl, g2, ⟨ws, m', e2, e2', k2⟩, _⟩ := h2
  have l1 := Oks.sz k1
  have l2 := Oks.sz k2
  have hu := hA.units
  have L1 : s.heap.IsTuple a vs := ⟨o, I.zle _ _ g1, e1, m, e1'⟩
  have L2 : s.heap.IsTuple b ws := ⟨q, I.zle _ _ g2, e2, m', e2'⟩
  have := RcNeAt.tuples (A := A) (e := fun j => (bs[j]?).getD true) L1 L2 (by omega) (fun j h1 h2 => by
    have j3 : j < bs.length := by omega
    rw [List.getElem?_eq_getElem j3]
    exact (h.at j (by omega) (by omega) j3).eq A.in1 Z s _ _ I.zle (by show A.units + 1 + 30 < _; omega) (Oks.at2 k1 h1 (by omega)) (Oks.at2 k2 h2 (by omega)))
  have e3 : ((List.range (min vs.size ws.size)).all (fun j => (bs[j]?).getD true) && vs.size == ws.size) = bs.all id := by
    rw [show vs.size = bs.length by omega, show ws.size = bs.length by omega, Nat.min_self, beq_self_eq_true, Bool.and_true]
    rw [Bool.eq_iff_iff, List.all_eq_true, List.all_eq_true]
    constructor
    · intro q x hx
      obtain ⟨j, hj, rfl⟩ := List.getElem_of_mem hx
      have := q j (List.mem_range.mpr hj)
      rwa [List.getElem?_eq_getElem hj] at this
    · intro q j hj
      have hj' := List.mem_range.mp hj
      rw [List.getElem?_eq_getElem hj']
      exact q _ (List.getElem_mem hj')
  rw [e3] at this
  exact this _ _ _ _ (Post.here I rfl)
noncomputable def isI (x : Int) (v : Value) : Bool := match v with | .int i _ => i == x | _ => false
noncomputable def isS (x : Str) (v : Value) : Bool := match v with | .str i _ => i == x | _ => false
theorem anyI {x : Int} {t : Tok} {A : Around} {xs : List Int} {vs : Array Value} (k : Oks Z (xs.map VP.int) vs.toList) : (∀ y, y ∈ vs → EqAt A s y (.int x t) (isI x y)) ∧ vs.any (isI x) = decide (x ∈ xs) := by
  have h := ints_are k
  have e : vs.any (isI x) = vs.toList.any (isI x) := by simp
  have m : ∀ y, y ∈ vs ↔ y ∈ vs.toList := fun y => by simp
  rw [e]
  simp only [m]
  clear e m
  generalize vs.toList = l at h
  clear k
  induction h with
  | nil => exact ⟨fun y hy => by simp at hy, by simp⟩
  | cons i u _ ih =>
    refine ⟨fun y hy => ?_, ?_⟩
    · rcases List.mem_cons.mp hy with q | q
      · subst q; exact EqAt.int_int _ _ _ _
      · exact ih.1 y q
    · rw [List.any_cons, ih.2, Bool.eq_iff_iff]
      show (i == x || _) = true ↔ _
      rw [Bool.or_eq_true, beq_iff_eq, decide_eq_true_iff, decide_eq_true_iff, List.mem_cons]
      exact or_congr ⟨Eq.symm, Eq.symm⟩ Iff.rfl
theorem anyS {x : Str} {t : Tok} {A : Around} {xs : List Str} {vs : Array Value} (k : Oks Z (xs.map VP.str) vs.toList) : (∀ y, y ∈ vs → EqAt A s y (.str x t) (isS x y)) ∧ vs.any (isS x) = decide (x ∈ xs) := by
  have h := strs_are k
  have e : vs.any (isS x) = vs.toList.any (isS x) := by simp
  have m : ∀ y, y ∈ vs ↔ y ∈ vs.toList := fun y => by simp
  rw [e]
  simp only [m]
  clear e m
  generalize vs.toList = l at h
  clear k
  induction h with
  | nil => exact ⟨fun y hy => by simp at hy, by simp⟩
  | cons i u _ ih =>
    refine ⟨fun y hy => ?_, ?_⟩
    · rcases List.mem_cons.mp hy with q | q
      · subst q; exact EqAt.str_str _ _ _ _
      · exact ih.1 y q
    · rw [List.any_cons, ih.2, Bool.eq_iff_iff]
      show (i == x || _) = true ↔ _
      rw [Bool.or_eq_true, beq_iff_eq, decide_eq_true_iff, decide_eq_true_iff, List.mem_cons]
      exact or_congr ⟨Eq.symm, Eq.symm⟩ Iff.rfl
theorem Op2O.notInInts {x : Int} {xs : List Int} : Op2O C n (.int x) (.list (xs.map .int)) (compareOp .NotIn) (.bool (!decide (x ∈ xs))) := fun A Z own s a b o E hA I h1 ho h2 _ => by
  obtain ⟨t, rfl⟩ := h1
  obtain ⟨vs, m, e1, k⟩ := h2
  obtain ⟨q1, q2⟩ := anyI (s := s) (x := x) (t := t) (A := A.in1) k
  exact notIn_listAt (isI x) ⟨o, ho, by rw [e1], m, by rw [e1]⟩ q1 (by rw [q2]; exact Post.here I rfl)
theorem Op2O.notInStrs {x : Str} {xs : List Str} : Op2O C n (.str x) (.list (xs.map .str)) (compareOp .NotIn) (.bool (!decide (x ∈ xs))) := fun A Z own s a b o E hA I h1 ho h2 _ => by
  obtain ⟨t, rfl⟩ := h1
  obtain ⟨vs, m, e1, k⟩ := h2
  obtain ⟨q1, q2⟩ := anyS (s := s) (x := x) (t := t) (A := A.in1) k
  exact notIn_listAt (isS x) ⟨o, ho, by rw [e1], m, by rw [e1]⟩ q1 (by rw [q2]; exact Post.here I rfl)
theorem Op2O.notInStrT {x : Str} {xs : List Str} : Op2O C n (.str x) (.tup (xs.map .str)) (compareOp .NotIn) (.bool (!decide (x ∈ xs))) := fun A Z own s a b o E hA I h1 ho h2 _ => by
  obtain ⟨t, rfl⟩ := h1
  obtain ⟨vs, m, e1, e1', k⟩ := h2
  obtain ⟨q1, q2⟩ := anyS (s := s) (x := x) (t := t) (A := A.in1) k
  exact notIn_tupleAt (isS x) ⟨o, ho, e1, m, e1'⟩ q1 (by rw [q2]; exact Post.here I rfl)
theorem samePairs_true {A : Around} {id : String} {a b : Addr} {oa ob : Obj} {esa esb : Array DictEntry} {epa epb : Nat} {Q : Bool → Shared → Prop} {E : Value → Shared → Prop} (na : Nm a) (nb : Nm b)
    (ha : s.heap.get? a = some oa) (hda : oa.data = .dict esa epa) (hb : s.heap.get? b = some ob) (hdb : ob.data = .dict esb epb) (hkb : KeysOf (strKind C.prog C.w) esb) (hsz : esa.size = esb.size)
    (hk : ∀ i (h : i < esa.size), ∃ (k : Str) (j : Nat) (hj : j < esb.size), (strKind C.prog C.w).is k esa[i].key = true ∧ esa[i].hash = (strKind C.prog C.w).hash k ∧ (esb.findIdx? fun e => (strKind C.prog C.w).is k e.key) = some j ∧ ∀ (Q : Bool → Shared → Prop) (E : Value → Shared → Prop), Q true s → wpAny C.M A (eqBool esa[i].val esb[j].val) Q E s)
    (hQ : Q true s) : wpAny C.M A (Builtin.Dict.samePairs id a b) Q E s := by
  unfold Builtin.Dict.samePairs Builtin.Dict.showsAll
  rw [show (a == sysModules) = false from na, show (b == sysModules) = false from nb]
  refine wpAny_bind (wpAny_pure (wpAny_bind (wpAny_pure ?_)))
  refine wpAny_bind (wpAny_dictEntries ha hda (wpAny_bind (wpAny_dictEntries hb hdb ?_)))
  rw [if_neg (by simp [hsz])]
  refine wpAny_bind (wpAny_dictEpoch ha hda ?_)
  refine wpAny_bind ?_
  rw [Std.Legacy.Range.forIn_eq_forIn_range']
  simp only [Std.Legacy.Range.size, Nat.sub_zero, Nat.add_sub_cancel, Nat.div_one]
  refine wpAny_forIn_list _ (fun rest c s' => s' = s ∧ c = (none, ()) ∧ ∃ i, rest = List.range' i (esa.size - i) ∧ i ≤ esa.size) _ ?_ ?_ _ _ ⟨rfl, rfl, 0, by simp, Nat.zero_le _⟩
  · rintro x rest c s' ⟨rfl, rfl, i, hr, hi⟩
    have hlt : i < esa.size := by
      rcases Nat.lt_or_ge i esa.size with h | h
      · exact h
      · rw [Nat.sub_eq_zero_of_le h] at hr; simp at hr
    obtain ⟨rfl, hrest⟩ : x = i ∧ rest = List.range' (i + 1) (esa.size - (i + 1)) := by
      have e : esa.size - i = (esa.size - (i + 1)) + 1 := by omega
      rw [e, List.range'_succ] at hr
      injection hr with h1 h2
      exact ⟨h1, h2⟩
    obtain ⟨k, j, hj, h1, h2, h3, h4⟩ := hk x hlt
    refine wpAny_bind (wpAny_dictEntries ha hda ?_)
    rw [Array.getElem?_eq_getElem hlt]
    refine wpAny_bind (wpAny_holding ?_)
    rw [h2]
    refine wpAny_bind (wpAny_dictFind_of h1 hb hdb hkb ?_)
    rw [h3]
    refine wpAny_bind (wpAny_dictEntries hb hdb ?_)
    rw [Array.getElem?_eq_getElem hj]
    refine wpAny_holding (h4 _ _ ?_)
    rw [if_neg (by simp)]
    refine wpAny_bind (wpAny_dictEpoch ha hda ?_)
    rw [if_neg (by simp)]
    exact wpAny_pure ⟨rfl, rfl, x + 1, hrest, hlt⟩
  · rintro c s' ⟨rfl, rfl, _⟩
    exact wpAny_pure hQ
end Mine
end

section
open PySem PySem.W PyProof.Rows PySem.SeqAt
set_option autoImplicit false
namespace Mine
variable {C : Cx} {Z Z' : Fz} {own mine R : List Res} {s : Shared} {n : Nat} {sc : Scope} {G : Gam}
theorem samePairs_size {A : Around} {id : String} {a b : Addr} {oa ob : Obj} {esa esb : Array DictEntry} {epa epb : Nat} {Q : Bool → Shared → Prop} {E : Value → Shared → Prop} (na : Nm a) (nb : Nm b)
    (ha : s.heap.get? a = some oa) (hda : oa.data = .dict esa epa) (hb : s.heap.get? b = some ob) (hdb : ob.data = .dict esb epb) (hsz : esa.size ≠ esb.size)
    (hQ : Q false s) : wpAny C.M A (Builtin.Dict.samePairs id a b) Q E s := by
  unfold Builtin.Dict.samePairs Builtin.Dict.showsAll
  rw [show (a == sysModules) = false from na, show (b == sysModules) = false from nb]
  refine wpAny_bind (wpAny_pure (wpAny_bind (wpAny_pure ?_)))
  refine wpAny_bind (wpAny_dictEntries ha hda (wpAny_bind (wpAny_dictEntries hb hdb ?_)))
  rw [if_pos (by simp [hsz])]
  exact wpAny_bind (wpAny_rule (wpAny_pure hQ))
theorem dict_cmp {A : Around} {wanted r : Bool} {name id : String} {a b : Addr} {Q : Fin → Shared → Prop} {E : Value → Shared → Prop} (ha : s.TypeIs (.ref a) "dict") (hb : s.TypeIs (.ref b) "dict")
    (h : ∀ (Q : Bool → Shared → Prop), Q r s → wpAny C.M A (Builtin.Dict.samePairs id a b) Q E s) (hQ : Q (.done (.ret (.bool (r == wanted)))) s) (hslot : slotArgs name 1 ⟨[.ref a, .ref b], []⟩ = pure (.ref a, [.ref b])) :
    wpAny C.M A (do
      let (self, other) ← Builtin.Dict.dictSlotArgs name ⟨[.ref a, .ref b], []⟩
      if !(← isInstance other (.type "dict")) then rule s!"dict.{name}.not-a-dict"; return ← ret .notImplemented
      ret (.bool ((← Builtin.Dict.samePairs id (← Builtin.Dict.addrOf self) (← Builtin.Dict.addrOf other)) == wanted))) Q E s := by
  refine wpAny_bind ?_
  unfold Builtin.Dict.dictSlotArgs
  refine wpAny_bind (wpAny_notOrdered_dict ha ?_)
  rw [hslot]
  refine wpAny_bind (wpAny_pure (wpAny_pure ?_))
  refine wpAny_bind (wpAny_isInstance hb isSubtype_dict_dict ?_)
  simp only [Bool.not_true, Bool.false_eq_true, if_false]
  refine wpAny_bind (wpAny_pure (wpAny_bind (wpAny_pure (wpAny_bind (h _ ?_)))))
  exact wpAny_pure hQ
noncomputable def EqV (C : Cx) (k : Nat) (P Q : VP) : Prop :=
  ∀ (A : Around) (Z : Fz) (s : Shared) (v w : Value) (R : Bool → Shared → Prop) (E : Value → Shared → Prop), (∀ a o, Z a = some o → s.heap.get? a = some o) → A.units + k < cLine → P.ok Z v → Q.ok Z w → R true s → wpAny C.M A (eqBool v w) R E s
theorem EqV.of {k : Nat} {P Q : VP} (h : EqD k P Q true) : EqV C k P Q := fun A Z s v w R E z hu h1 h2 hR => h.eq A Z s v w z hu h1 h2 C.prog C.w E R hR
inductive DictEq (C : Cx) (k : Nat) : List (Str × VP) → List (Str × VP) → Bool → Prop
  | size {l m} : l.length ≠ m.length → DictEq C k l m false
  | same {l m} : l.length = m.length → (∀ i (h1 : i < l.length), ∃ j, ∃ (h2 : j < m.length), l[i].1 = m[j].1 ∧ EqV C k l[i].2 m[j].2) → DictEq C k l m true
theorem keys_all2 {l : List (Str × VP)} {kvs : List (Str × Value)} (h : All2 (fun (p : Str × VP) (q : Str × Value) => p.1 = q.1 ∧ p.2.ok Z q.2) l kvs) : l.map Prod.fst = kvs.map Prod.fst := by
  induction h with
  | nil => rfl
  | cons a _ ih => rw [List.map_cons, List.map_cons, a.1, ih]
theorem pairs_at {l : List (Str × VP)} {kvs : List (Str × Value)} {es : Array DictEntry} (hp : Pairs (strKind C.prog C.w) es.toList kvs) (hk : All2 (fun (p : Str × VP) (q : Str × Value) => p.1 = q.1 ∧ p.2.ok Z q.2) l kvs) {i : Nat} (h : i < es.size) (hl : i < l.length) :
    (strKind C.prog C.w).is (l[i]).1 es[i].key = true ∧ (l[i]).2.ok Z es[i].val := by
  have h1 : i < kvs.length := by rw [← hk.len]; exact hl
  obtain ⟨a, b⟩ := hp.get? (e := es[i]) (i := i) (by simp [h]) (List.getElem?_eq_getElem h1 : kvs[i]? = some (kvs[i].1, kvs[i].2))
  obtain ⟨P, c, d⟩ := pairs_get hk (i := i) (k := kvs[i].1) (v := kvs[i].2) (List.getElem?_eq_getElem h1)
  rw [List.getElem?_eq_getElem hl] at c
  injection c with c
  rw [c]
  exact ⟨a, by rw [b]; exact d⟩
theorem IsDict.pairs {k : Nat} {A : Around} {id : String} {l m : List (Str × VP)} {r : Bool} {a b : Addr} {oa ob : Obj} {Q : Bool → Shared → Prop} {E : Value → Shared → Prop} (h : DictEq C k l m r) (z : ∀ a o, Z a = some o → s.heap.get? a = some o) (hu : A.units + k < cLine) (na : Nm a) (nb : Nm b)
    (ha : s.heap.get? a = some oa) (hb : s.heap.get? b = some ob) (da : IsDict C l Z oa) (db : IsDict C m Z ob) (hQ : Q r s) : wpAny C.M A (Builtin.Dict.samePairs id a b) Q E s := by
  obtain ⟨esa, epa, kva, a1, a2, a3, a4, a5, a6⟩ := da
  obtain ⟨esb, epb, kvb, b1, b2, b3, b4, b5, b6⟩ := db
  have la := a4.length
  have lb := b4.length
  rw [← a6.len, Array.length_toList] at la
  rw [← b6.len, Array.length_toList] at lb
  cases h with
  | size hne => exact samePairs_size na nb ha a2 hb b2 (by omega) hQ
  | same hl hq =>
    refine samePairs_true na nb ha a2 hb b2 b3 (by omega) (fun i hi => ?_) hQ
    have i1 : i < l.length := by omega
    obtain ⟨t, i2, e1, e2⟩ := hq i i1
    have i3 : t < esb.size := by omega
    obtain ⟨p1, p2⟩ := pairs_at a4 a6 hi i1
    obtain ⟨q1, q2⟩ := pairs_at b4 b6 i3 i2
    obtain ⟨k', c1, c2⟩ := a3 esa[i] (Array.getElem_mem hi)
    obtain rfl : k' = l[i].1 := (strKind C.prog C.w).inj _ _ _ c1 p1
    refine ⟨l[i].1, t, i3, p1, c2, ?_, fun R E hR => e2 A Z s _ _ R E z hu p2 q2 hR⟩
    refine Array.findIdx?_eq_some_iff_getElem.mpr ⟨i3, by rw [e1]; exact q1, fun j hj => ?_⟩
    have j2 : j < m.length := by omega
    obtain ⟨r1, _⟩ := pairs_at b4 b6 (by omega : j < esb.size) j2
    intro hc
    have e3 := (strKind C.prog C.w).inj _ _ _ hc r1
    rw [e1] at e3
    have nd : (m.map Prod.fst).Nodup := by rw [keys_all2 b6]; exact b5
    have := List.pairwise_iff_getElem.mp nd j t (by rw [List.length_map]; exact j2) (by rw [List.length_map]; exact i2) hj
    rw [List.getElem_map, List.getElem_map] at this
    exact this e3.symm
theorem EqV.dict {k : Nat} {l m : List (Str × VP)} (h : DictEq C k l m true) : EqV C (k + 1) (.dict C l) (.dict C m) := fun A Z s v w R E z hu h1 h2 hR => by
  by_cases hvw : v = w
  · subst hvw; exact EqAt.same v C.prog C.w E R hR
  · obtain ⟨a, q, rfl, g1, da, na⟩ := h1
    obtain ⟨b, o, rfl, g2, db, nb⟩ := h2
    have ha := z _ _ g1
    have hb := z _ _ g2
    have Ta : s.TypeIs (.ref a) "dict" := ⟨q, ha, da.zat.1⟩
    have Tb : s.TypeIs (.ref b) "dict" := ⟨o, hb, db.zat.1⟩
    unfold eqBool
    refine wpAny_holding (wpAny_ite_split (fun hab => absurd (by have := eq_of_beq hab; exact this) hvw) fun _ => wpAny_bind ?_)
    refine wpAny_richCompare_same_room (op := .Eq) Ta Tb F.slot_dict_eq (wpAny_call_entry F.slot_dict_eq Ta F.entry_dict_eq ?_ (F.args_dict_eq_2 _ _)) (by omega)
    refine dict_cmp (wanted := true) (r := true) (name := "__eq__") (id := "dict.__eq__") Ta Tb (fun Q hQ => ?_) ?_ rfl
    · exact IsDict.pairs (A := A.in1) h z (by show A.units + 1 + k < _; omega) na nb ha hb da db hQ
    · exact ⟨_, rfl, nofun, wpAny_truthy_bool hR⟩
theorem Op2O.neDict {l m : List (Str × VP)} {r : Bool} (h : DictEq C 30 l m r) : Op2O C n (.dict C l) (.dict C m) (compareOp .NotEq) (.bool (!r)) := fun A Z own s a b o E hA I h1 hb h2 nb => by
  obtain ⟨a, q, rfl, g1, da, na⟩ := h1
  have ha := I.zle _ _ g1
  have Ta : s.TypeIs (.ref a) "dict" := ⟨q, ha, da.zat.1⟩
  have Tb : s.TypeIs (.ref b) "dict" := ⟨o, hb, h2.zat.1⟩
  have hu := hA.units
  refine wpAny_richCompare_same_room (op := .NotEq) Ta Tb F.slot_dict_ne (wpAny_call_entry F.slot_dict_ne Ta F.entry_dict_ne ?_ (F.args_dict_ne_2 _ _)) (by omega)
  refine dict_cmp (wanted := false) (r := r) (name := "__ne__") (id := "dict.__ne__") Ta Tb (fun Q hQ => ?_) ?_ rfl
  · exact IsDict.pairs (A := A.in1) h I.zle (by show A.units + 1 + 30 < _; omega) na nb ha hb da h2 hQ
  · refine ⟨_, rfl, nofun, Post.here I ?_⟩
    show Value.bool (r == false) = Value.bool (!r)
    cases r <;> rfl
end Mine
end

section
open PySem PySem.W PyProof.Rows PySem.SeqAt
set_option autoImplicit false
namespace Mine
variable {C : Cx} {Z Z' : Fz} {own mine R : List Res} {s : Shared} {n : Nat} {sc : Scope} {G : Gam}
theorem isOf_str {x : Str} : ∀ Z own s v, Inv C Z own s → (VP.str x).ok Z v → IsOf "str" v s := fun Z own s v I ⟨t, h⟩ => by subst h; exact ⟨typeIs_str _ _ _, nofun⟩
theorem Ev.starts {o e : Expr} {apos pos : Pos} {x y : Str} (ho : Ev C n sc G o (.str x)) (he : Ev C n sc G e (.str y)) (hn : NoStar [e]) (hbase : ∀ env, attributeBase o "startswith" env (eval o env) = eval o env := by intro _; rfl) (hline : (apos.endLine == pos.line) = true := by rfl) (hst : ∀ env, starEach [e] env = (false, eval e env) :: starEach [] env := by intro _; rfl) :
    Ev C n sc G (.Call (.Attribute o "startswith" apos) [e] [] pos) (.bool (0 + y.length ≤ x.length && Builtin.Str.subAt x y 0)) :=
  Ev.meth ho (.cons he .nil hst) F.plainAttrs_str F.slot_str_startswith F.type_str_startswith isOf_str hn (fun A Z own s a vs E hA I ha hv => by
    obtain ⟨t, rfl⟩ := ha
    cases hv with
    | cons p q =>
      cases q
      obtain ⟨u, rfl⟩ := p
      exact call_gives F.slot_str_startswith (typeIs_str _ _ _) F.entry_str_startswith (F.args_str_startswith_2 _ _) (gives_str_startswith x y t u) (Post.here I rfl)) hbase rfl hline
theorem Ev.ends {o e : Expr} {apos pos : Pos} {x y : Str} (ho : Ev C n sc G o (.str x)) (he : Ev C n sc G e (.str y)) (hn : NoStar [e]) (hbase : ∀ env, attributeBase o "endswith" env (eval o env) = eval o env := by intro _; rfl) (hline : (apos.endLine == pos.line) = true := by rfl) (hst : ∀ env, starEach [e] env = (false, eval e env) :: starEach [] env := by intro _; rfl) :
    Ev C n sc G (.Call (.Attribute o "endswith" apos) [e] [] pos) (.bool (0 + y.length ≤ x.length && Builtin.Str.subAt x y (x.length - y.length))) :=
  Ev.meth ho (.cons he .nil hst) F.plainAttrs_str F.slot_str_endswith F.type_str_endswith isOf_str hn (fun A Z own s a vs E hA I ha hv => by
    obtain ⟨t, rfl⟩ := ha
    cases hv with
    | cons p q =>
      cases q
      obtain ⟨u, rfl⟩ := p
      exact call_gives F.slot_str_endswith (typeIs_str _ _ _) F.entry_str_endswith (F.args_str_endswith_2 _ _) (gives_str_endswith x y t u) (Post.here I rfl)) hbase rfl hline
theorem Ev.index {o e : Expr} {apos pos : Pos} {x y : Str} {i : Nat} (ho : Ev C n sc G o (.str x)) (he : Ev C n sc G e (.str y)) (hn : NoStar [e]) (hi : (Builtin.Str.occurrences x y 0 x.length 1).head? = some i) (hbase : ∀ env, attributeBase o "index" env (eval o env) = eval o env := by intro _; rfl) (hline : (apos.endLine == pos.line) = true := by rfl) (hst : ∀ env, starEach [e] env = (false, eval e env) :: starEach [] env := by intro _; rfl) :
    Ev C n sc G (.Call (.Attribute o "index" apos) [e] [] pos) (.int i) :=
  Ev.meth ho (.cons he .nil hst) F.plainAttrs_str F.slot_str_index F.type_str_index isOf_str hn (fun A Z own s a vs E hA I ha hv => by
    obtain ⟨t, rfl⟩ := ha
    obtain ⟨rest, hr⟩ := List.head?_eq_some_iff.mp hi
    cases hv with
    | cons p q =>
      cases q
      obtain ⟨u, rfl⟩ := p
      exact call_gives F.slot_str_index (typeIs_str _ _ _) F.entry_str_index (F.args_str_index_2 _ _) (gives_str_index x y t u i rest hr) (Post.here (I.tok _) ⟨_, rfl⟩)) hbase rfl hline
theorem Ev.split {o e : Expr} {apos pos : Pos} {x y : Str} (ho : Ev C n sc G o (.str x)) (he : Ev C n sc G e (.str y)) (hn : NoStar [e]) (hy : (y.length == 0) = false) (hx : x.length + 2 ≤ sizeLine) (hbase : ∀ env, attributeBase o "split" env (eval o env) = eval o env := by intro _; rfl) (hline : (apos.endLine == pos.line) = true := by rfl) (hst : ∀ env, starEach [e] env = (false, eval e env) :: starEach [] env := by intro _; rfl) :
    Ev C n sc G (.Call (.Attribute o "split" apos) [e] [] pos) (.list ((Txt.split x y).map .str)) :=
  Ev.meth ho (.cons he .nil hst) F.plainAttrs_str F.slot_str_split F.type_str_split isOf_str hn (fun A Z own s a vs E hA I ha hv => by
    obtain ⟨t, rfl⟩ := ha
    cases hv with
    | cons p q =>
      cases q
      obtain ⟨u, rfl⟩ := p
      have one : Post C Z own (.list ([x].map VP.str)) (.ref s.heap.objs.size) { s with heap := s.heap.push { cls := .type "list", data := .seq [Value.str x t].toArray } } :=
        Post.push (tk := s.toks) I (U := .list _) ⟨_, 0, rfl, .cons ⟨_, rfl⟩ .nil⟩ rfl
      have hn : (Builtin.Str.partsBetween x (Builtin.Str.occurrences x y 0 x.length (x.length + 1)) y.length).length ≤ sizeLine := by
        have e1 := StrLaws.occ_length_le x y 0 x.length (x.length + 1)
        rw [length_partsBetween]; omega
      unfold Txt.split
      cases h1 : (decide (x.length < y.length) || decide (Builtin.Str.strKind x < Builtin.Str.strKind y))
      · cases hf : (Builtin.Str.occurrences x y 0 x.length (x.length + 1)).isEmpty
        · refine call_meets F.slot_str_split (typeIs_str _ _ _) F.entry_str_split (F.args_str_split_2 _ _) (meets_str_split_sep x y t u h1 hy hf (by omega) hn) ?_
          show wants _ E _ { s with toks := _, heap := s.heap.push { cls := .type "list", data := .seq (strsFrom s.toks _).toArray } }
          rw [strsFrom_eq]
          refine Post.push I (U := .list _) ⟨_, 0, rfl, ?_⟩ rfl
          simp only [Bool.false_eq_true, if_false]
          have := strsAre_of_values (numbered s.toks (Builtin.Str.partsBetween x (Builtin.Str.occurrences x y 0 x.length (x.length + 1)) y.length))
          rw [numbered_texts] at this
          exact are_strs this
        · exact call_meets F.slot_str_split (typeIs_str _ _ _) F.entry_str_split (F.args_str_split_2 _ _) (meets_str_split_not_found x y t u h1 hy hf) one
      · exact call_meets F.slot_str_split (typeIs_str _ _ _) F.entry_str_split (F.args_str_split_2 _ _) (meets_str_split_cannot_occur x y t u h1) one) hbase rfl hline
theorem Ev.join {o e : Expr} {apos pos : Pos} {x : Str} {ys : List Str} (ho : Ev C n sc G o (.str x)) (he : Ev C n sc G e (.list (ys.map .str))) (hn : NoStar [e]) (hok : (ys.map (·.length)).sum + ys.length * x.length ≤ 16777216) (hbase : ∀ env, attributeBase o "join" env (eval o env) = eval o env := by intro _; rfl) (hline : (apos.endLine == pos.line) = true := by rfl) (hst : ∀ env, starEach [e] env = (false, eval e env) :: starEach [] env := by intro _; rfl) :
    Ev C n sc G (.Call (.Attribute o "join" apos) [e] [] pos) (.str (Txt.join x ys)) :=
  Ev.meth ho (.cons he .nil hst) F.plainAttrs_str F.slot_str_join F.type_str_join isOf_str hn (fun A Z own s a vs E hA I ha hv => by
    obtain ⟨t, rfl⟩ := ha
    cases hv with
    | cons p q =>
      cases q
      obtain ⟨b, ob, rfl, g2, ⟨vs, m, h3, h4⟩, nm⟩ := p
      exact join_list ⟨ob, I.zle _ _ g2, by rw [h3], m, by rw [h3]⟩ (strs_are h4) hok fun t' k => Post.here (I.tok _) ⟨_, rfl⟩) hbase rfl hline
theorem Op2.mulStr {x : Str} {k : Int} (h : MulOk x k) : Op2 C n (.str x) (.int k) (binaryOp .Mult) (.str (Txt.mul x k)) := fun A Z own s v w E hA I ⟨t, h1⟩ ⟨u, h2⟩ => by
  subst h1; subst h2
  exact SB.mul h fun t' k => Post.here (I.tok _) ⟨_, rfl⟩
end Mine
end

section
open PySem PySem.W PyProof.Rows PySem.SeqAt
set_option autoImplicit false
namespace Mine
variable {C : Cx} {Z Z' : Fz} {own mine R : List Res} {s : Shared} {n : Nat} {sc : Scope} {G : Gam}
theorem Op2.addList {ps qs : List VP} (hsz : ps.length + qs.length ≤ sizeLine := by first | decide | (simp only [List.length_cons, List.length_nil]; decide)) : Op2 C n (.list ps) (.list qs) (binaryOp .Add) (.list (ps ++ qs)) := fun A Z own s v w E hA I h1 h2 => by
  obtain ⟨a, o, rfl, g1, ⟨vs, m, rfl, k1⟩, _⟩ := h1
  obtain ⟨b, q, rfl, g2, ⟨ws, m', rfl, k2⟩, _⟩ := h2
  have l1 := Oks.sz k1
  have l2 := Oks.sz k2
  refine concat_meets ⟨_, I.zle _ _ g1, rfl⟩ ⟨_, I.zle _ _ g2, rfl⟩ noFill_list_add seq_list_add PySem.F.slot_list_add PySem.F.entry_list_add (PySem.F.args_list_add_2 _ _) (AutoSeq1.list___add___list_list_0 a vs m b ws m' (by omega)) ⟨I.zle _ _ g1, I.zle _ _ g2, ?_⟩
  exact Post.push (tk := s.toks) I (U := .list _) ⟨_, 0, rfl, by rw [Array.toList_append]; exact k1.append k2⟩ rfl
theorem foldl_rep (items : Array Value) : ∀ (k : Nat) (acc : Array Value), (List.foldl (fun x1 x2 => x1 ++ x2) acc (List.replicate k items)).toList = acc.toList ++ (List.replicate k items.toList).flatten
  | 0, acc => by simp
  | k + 1, acc => by
    rw [List.replicate_succ, List.foldl_cons, foldl_rep items k, List.replicate_succ, List.flatten_cons, Array.toList_append, List.append_assoc]
theorem Oks.rep {ps : List VP} {vs : List Value} (h : Oks Z ps vs) : ∀ k : Nat, Oks Z (List.replicate k ps).flatten (List.replicate k vs).flatten
  | 0 => .nil
  | k + 1 => by rw [List.replicate_succ, List.replicate_succ, List.flatten_cons, List.flatten_cons]; exact h.append (Oks.rep h k)
theorem Op2.mulList {ps : List VP} {x : Int} (hne : ps ≠ []) (hlo : -(2 ^ 63 : Int) ≤ x) (hhi : x < 2 ^ 63) (hsz : ps.length * x.toNat ≤ 2 ^ 24) : Op2 C n (.list ps) (.int x) (binaryOp .Mult) (.list (List.replicate x.toNat ps).flatten) := fun A Z own s v w E hA I h1 h2 => by
  obtain ⟨a, o, rfl, g1, ⟨vs, m, rfl, k1⟩, _⟩ := h1
  obtain ⟨u, rfl⟩ := h2
  have l1 := Oks.sz k1
  have hl := I.zle _ _ g1
  have he : vs.isEmpty = false := by
    rw [Array.isEmpty_eq_false_iff]
    intro e
    rw [e] at l1
    exact hne (List.length_eq_zero_iff.mp l1)
  refine wpAny_binaryOp_repeat_ref (T := "list") (U := "int") (by decide) ⟨_, hl, rfl⟩ (fun s' => typeIs_int s' x u) noFill_list_mul F.fills_int_mul F.slot_int_rmul repeat_list F.slot_int_index.lookup
    (call_meets F.slot_int_rmul (typeIs_int s x u) F.entry_int_rmul (F.args_int_rmul_2 _ _) (int___rmul___int_list x u a vs m)
      ⟨hl, rfl, ⟨_, hl, rfl⟩, call_meets F.slot_list_mul ⟨_, hl, rfl⟩ F.entry_list_mul (F.args_list_mul_2 _ _)
        (AutoListH.list___mul___list_int_3 a vs m x u (by simp [Builtin.List.listFitsIndex]; omega) (by rw [← l1]; omega) (by simp [Builtin.List.listTooLong, sizeLine]; rw [← l1]; omega))
        ⟨hl, ?_⟩⟩)
  refine Post.push (tk := s.toks) I (U := .list _) ⟨_, 0, rfl, ?_⟩ rfl
  rw [if_neg (by rw [he]; exact Bool.false_ne_true), foldl_rep, Array.toList_empty, List.nil_append]
  exact Oks.rep k1 _
theorem ExS.append {x : Str} {e : Expr} {xp ap pos p : Pos} {l : List VP} {P : VP} {O : Out} (hx : G.lookup x = some (.own (.list l))) (he : Ev C n sc G e P) (hst : ∀ env, backTo pos (starEach [e] env) = [(false, eval e env)] := by intro _; rfl) (hsz : l.length ≤ sizeLine)
    (ho : O.next ((x, .own (.list (l ++ [P]))) :: G)) (hline : (ap.endLine == pos.line) = true := by rfl) (hn : ((x == ("__debug__" : Str)) || (x == ("__classdict__" : Str))) = false := by rfl)
    (hbase : ∀ env, attributeBase (.Name x xp) "append" env (eval (.Name x xp) env) = eval (.Name x xp) env := by intro _; rfl)
    (hi : ∀ env, EnvIs sc env → interactive env = false) (hs : ∀ env, EnvIs sc env → swapsWith (.Call (.Attribute (.Name x xp) "append" ap) [e] [] pos) none p.line env = pure false := by intro _ _; rfl) : ExS C n sc G (.Expr (.Call (.Attribute (.Name x xp) "append" ap) [e] [] pos) p) O := fun A Z mine R env s E hA hE I S g => by
  refine wpAny_Expr_any ?_ (hi env hE) (hs env hE)
  rw [Bool.or_eq_false_iff] at hn
  obtain ⟨c, o, r, h2, h3, h4⟩ := own_at g hx
  have hfew : ((backTo pos (starEach [e] env)).all (fun x => !x.1) && (backToKw pos (keywordEach [] env)).all (fun x => x.1.isSome)
      && decide (([e] : List Expr).length + ([] : List Keyword).length + (if ([] : List Keyword).isEmpty then 0 else 1) < 30)) = true := by rw [hst env]; rfl
  refine wpAny_Call_append (hbase env) hfew hline (hst env) (wpAny_Name (rd_load hE I r ?_ hn.2) hn.1)
  obtain ⟨vs, k, rfl, hv⟩ := h3
  refine ⟨c, vs, rfl, ⟨_, k, I.ok _ (List.mem_append_left _ h2), rfl, rfl, rfl⟩, ?_⟩
  refine wpAny_mono (he A Z _ env s E hA hE I g.ev) (fun v s1 q => ?_) fun _ _ e => e
  obtain ⟨Z1, z1, I1, p1⟩ := q
  have hv1 : Oks Z1 l vs.toList := hv.up z1
  refine wpAny_list_append_plain (items := vs) ⟨k, I1.ok (.ob x c _) (List.mem_append_left _ h2)⟩ (fun h' hl' hs' => ?_) (by have := Oks.sz hv; omega)
  obtain ⟨k', ho'⟩ := hl'
  obtain ⟨m', I', S', g'⟩ := own_turn (tk := s1.toks) (U' := .list (l ++ [P])) (o' := { cls := .type "list", data := .seq (vs.push v) k' }) I1 S (g.z z1) hx r h2 h4 ho' ⟨_, _, rfl, by rw [Array.toList_push]; exact hv1.append (.cons p1 .nil)⟩ fun b ob hb q => (hs'.2 b hb).trans q
  exact ⟨Z1, m', z1, I', S', _, ho, g'⟩
theorem setItem_plain {A : Around} {l : Addr} {items : Array Value} {m : Nat} {k : Int} {t : Tok} {v : Value} {Q : Unit → Shared → Prop} {E : Value → Shared → Prop} (ho : s.heap.get? l = some { cls := .type "list", data := .seq items m })
    (h0 : 0 ≤ k) (hfit : k < 2 ^ 63) (hn : k < items.size) (hQ : Q () { s with heap := s.heap.update l (Obj.mapSeq (·.setIfInBounds k.toNat v)) }) : wpAny C.M A (setItem (.ref l) (.int k t) v) Q E s := by
  have hl : s.heap.IsList l items := ⟨_, ho, rfl, m, rfl⟩
  unfold setItem
  try with_reducible refine wpAny_holding ?_
  first | refine wpAny_bind (wpAny_pure ?_) | skip
  refine wpAny_bind (wpAny_sequenceKey hl.typeIs (by decide) ?_)
  refine wpAny_bind (wpAny_callSpecial?_slot (name := Str.ofString "__setitem__") hl.typeIs slot_list_setitem
    (wpAny_call_entry slot_list_setitem hl.typeIs entry_list_setitem ?_ (args_list_setitem _ _ _)))
  show wpAny _ _ (Builtin.List.listSubscript? (.int k t) >>= _) _ _ s
  refine wpAny_bind (wpAny_listSubscript_int (fitsIndex_of h0 hfit) ?_)
  clear hfit
  obtain ⟨j, rfl⟩ := Int.eq_ofNat_of_zero_le h0
  have hj : j < items.size := by omega
  have hx' : items[j]? = some items[j] := Array.getElem?_eq_getElem hj
  show wpAny _ _ ((seqItemAt l j >>= fun r => pure (r.map (j, ·))) >>= _) _ _ s
  refine wpAny_bind (wpAny_bind (wpAny_seqItemAt ho rfl (wpAny_pure ?_)))
  rw [hx']
  show wpAny _ _ (setSeqItemAt l j v >>= _) _ _ s
  refine wpAny_bind (wpAny_setSeqItemAt ho rfl ?_)
  first
    | exact wpAny_bind (wpAny_pure (wpAny_pure ⟨.none, rfl, wpAny_pure hQ⟩))
    | exact wpAny_pure ⟨.none, rfl, wpAny_pure hQ⟩
theorem Oks.set {ps : List VP} {vs : List Value} (h : Oks Z ps vs) {P : VP} {v : Value} (hv : P.ok Z v) : ∀ j : Nat, Oks Z (ps.set j P) (vs.set j v) := by
  induction h with
  | nil => intro j; exact .nil
  | cons a b ih =>
    intro j
    cases j with
    | zero => exact .cons hv b
    | succ j => exact .cons a (ih j)
theorem ExS.setList {d : Str} {dp : Pos} {i e : Expr} {p p' : Pos} {l : List VP} {k : Int} {P : VP} {O : Out} (hd : G.lookup d = some (.own (.list l))) (he : Ev C n sc G e P) (hi : Ev C n sc G i (.int k)) (h0 : 0 ≤ k) (hk : k < l.length) (hsz : l.length ≤ sizeLine)
    (ho : O.next ((d, .own (.list (l.set k.toNat P))) :: G)) (hn : ((d == ("__debug__" : Str)) || (d == ("__classdict__" : Str))) = false := by rfl)
    (hs : ∀ env, EnvIs sc env → swapsWith e (some (.Subscript (.Name d dp) i p')) p.line env = pure false := by intro _ _; rfl) : ExS C n sc G (.Assign [.Subscript (.Name d dp) i p'] e p) O := fun A Z mine R env s E hA hE I S g => by
  refine wpAny_Assign_Subscript (wpAny_mono (he A Z _ env s E hA hE I g.ev) (fun v s1 q => ?_) fun _ _ e => e) (hs env hE)
  obtain ⟨Z1, z1, I1, p1⟩ := q
  have g1 := g.z z1
  obtain ⟨c, o, r, h2, h3, h4⟩ := own_at g1 hd
  rw [Bool.or_eq_false_iff] at hn
  refine wpAny_Name (rd_load hE I1 r ?_ hn.2) hn.1
  refine wpAny_mono (hi A Z1 _ env s1 E hA hE I1 g1.ev) (fun kv s2 q => ?_) fun _ _ e => e
  obtain ⟨Z2, z2, I2, t, p2⟩ := q
  subst p2
  obtain ⟨vs, m, rfl, hv⟩ := (UP.list l).mono z2 h3
  have hl := Oks.sz hv
  have : sizeLine < 2 ^ 62 := by decide
  have ho2 : s2.heap.get? c = some { cls := .type "list", data := .seq vs m } := I2.ok (.ob d c _) (List.mem_append_left _ h2)
  refine setItem_plain ho2 h0 (by omega) (by omega) ?_
  obtain ⟨m', I', S', g'⟩ := own_turn (tk := s2.toks) (U' := .list (l.set k.toNat P)) (h' := s2.heap.update c (Obj.mapSeq (·.setIfInBounds k.toNat v))) I2 S (g1.z z2) hd r h2 h4 (Heap.get?_update_self _ ho2 rfl)
    ⟨_, _, rfl, by rw [Array.toList_setIfInBounds]; exact hv.set (VP.mono _ z2 p1) _⟩ fun b ob hb q => (Heap.get?_update_other _ _ (Ne.symm hb)).trans q
  exact ⟨Z2, m', z1.trans z2, I', S', _, ho, g'⟩
theorem Ev.dict1 {k v : Expr} {pos : Pos} {x : Str} {P : VP} (hk : Ev C n sc G k (.str x)) (hv : Ev C n sc G v P) : Ev C n sc G (.Dict [some k] [v] pos) (.dict C [(x, P)]) := fun A Z own env s E hA hE I g => by
  refine wpAny_Dict_walk (knd := strKind C.prog C.w) rfl rfl (by simp) (show 1 ≤ 15 by decide) ?_
  have hD := I.nm
  have I1 := I.pushIt (tk := s.toks) { cls := .type "dict", data := .dict #[] } rfl
  have hsz : s.heap.objs.size < (s.heap.push { cls := .type "dict", data := .dict #[] }).objs.size := by rw [Heap.size_push]; exact Nat.lt_succ_self _
  generalize hs1 : ({ s with heap := s.heap.push { cls := .type "dict", data := .dict #[] } } : Shared) = s1 at I1 ⊢
  have g1 : EnvOk G env Z (.it s.heap.objs.size { cls := .type "dict", data := .dict #[] } :: own) (.it s.heap.objs.size { cls := .type "dict", data := .dict #[] } :: own) := g.up .rfl (fun _ h => .tail _ h) fun _ h => .tail _ h
  generalize s.heap.objs.size = D at *
  refine pairTrees_cons_walk (wpAny_mono (hk A Z _ env s1 E hA hE I1 g1) (fun kv s2 q => ?_) fun _ _ e => e)
  obtain ⟨Z2, z2, I2, t, rfl⟩ := q
  refine wpAny_mono (hv A Z2 _ env s2 E hA hE I2 (g1.z z2)) (fun vv s3 q => ?_) fun _ _ e => e
  obtain ⟨Z3, z3, I3, p3⟩ := q
  refine pairTrees_nil_walk ?_
  have ho3 : s3.heap.get? D = some { cls := .type "dict", data := .dict #[] } := I3.ok (.it D _) (.head _)
  refine ⟨[(x, vv)], ⟨strKind_is _ _ x t, rfl, trivial⟩, ⟨_, #[], 0, ho3, ⟨rfl, rfl, rfl⟩, rfl, fun _ h => by simp at h, .nil, List.nodup_nil⟩, fun h' hd' hs' => ?_⟩
  obtain ⟨o', es', ep', e1, e2, e3, e4, e5, e6⟩ := hd'
  have nd := I3.nd
  rw [List.map_cons, List.nodup_cons] at nd
  have J : Inv C Z3 (.it D o' :: own) { s3 with heap := h', toks := s3.toks + 1 } := I3.turns rfl (fun r hr => by
    rcases List.mem_cons.mp hr with q | q
    · subst q; exact e1
    · exact Res.at (I3.ok r (.tail _ q)) fun o e => hs'.extBut _ o (fun q' => nd.1 (List.mem_map.mpr ⟨r, q, q'⟩)) e) (fun a o e => hs'.extBut a o (fun q => by
      have := I3.off (.it D _) (.head _)
      rw [q, show Z3 D = none from this] at e; cases e) (I3.zle a o e)) fun o e => hs'.extBut _ o (I3.bare.ne (r := .it D _) (.head _)) e
  obtain ⟨J2, z4⟩ := J.freezeIt
  refine ⟨_, (z2.trans z3).trans z4, J2, D, o', rfl, Fz.put_self, ?_, hD⟩
  exact IsDict.mono z4 ⟨es', ep', _, e2, e3, e4, e5, e6, .cons ⟨rfl, p3⟩ .nil⟩
end Mine
end

section
open PySem PySem.W PyProof.Rows PySem.SeqAt
set_option autoImplicit false
namespace Mine
variable {C : Cx} {Z Z' : Fz} {own mine R : List Res} {s : Shared} {n : Nat} {sc : Scope} {G : Gam}
theorem oks_of : ∀ {ps : List VP} {vs : List Value}, ps.length = vs.length → (∀ (j : Nat) (P : VP) (v : Value), ps[j]? = some P → vs[j]? = some v → P.ok Z v) → Oks Z ps vs
  | [], [], _, _ => .nil
  | [], _ :: _, h, _ => by simp at h
  | _ :: _, [], h, _ => by simp at h
  | P :: ps, v :: vs, h, k => .cons (k 0 P v rfl rfl) (oks_of (by simpa using h) fun j Q w a b => k (j + 1) Q w (by simpa using a) (by simpa using b))
theorem Inv.freezeIts : ∀ {rs : List (Addr × Obj)} {Z : Fz} {own : List Res}, Inv C Z (its rs ++ own) s → ∃ Z', Z.le Z' ∧ Inv C Z' own s ∧ ∀ p ∈ rs, Z' p.1 = some p.2
  | [], Z, own, I => ⟨Z, .rfl, I, fun p h => by simp at h⟩
  | (a, o) :: rs, Z, own, I => by
    obtain ⟨I1, z1⟩ := Inv.freezeIt (a := a) (o := o) I
    obtain ⟨Z', z, I', h⟩ := Inv.freezeIts I1
    refine ⟨Z', z1.trans z, I', fun p hp => ?_⟩
    rcases List.mem_cons.mp hp with q | q
    · subst q; exact z _ _ Fz.put_self
    · exact h p q
theorem one_arg {P : VP} {vs : List Value} (h : Oks Z [P] vs) : ∃ v, vs = [v] ∧ P.ok Z v := by
  cases h with
  | cons a b => cases b; exact ⟨_, rfl, a⟩
theorem Fn.listDict {l : List (Str × VP)} (hl : l.length ≤ sizeLine := by first | decide | (simp only [List.length_cons, List.length_nil]; decide)) : Fn C n (.type "list") [.dict C l] (.list (l.map fun q => VP.str q.1)) := fun A Z own s vs E hA I hv => by
  obtain ⟨v, rfl, a, o, rfl, h2, h3, nm⟩ := one_arg hv
  obtain ⟨kvs, ep, hd, hk⟩ := IsDict.at h3 (I.zle _ _ h2)
  refine kdl_call (kdl_dict (knd := strKind C.prog C.w) (kvs := kvs) (ep := ep) nm) hA.hh hd (by rw [← hk.len]; exact hl) fun h' tk acc' c' k ho hacc => ?_
  refine Post.new I k (Nat.le_refl _) ho (U := .list _) ⟨acc', c', rfl, oks_of (by rw [List.length_map, hk.len]; exact hacc.1.symm) fun j P v hP hv => ?_⟩
  obtain ⟨k, x, e1, e2⟩ := hacc.2 j v (by rw [← Array.getElem?_toList]; exact hv)
  obtain ⟨Q, e3, e4⟩ := pairs_get hk e1
  rw [List.getElem?_map, e3] at hP
  cases hP
  obtain ⟨t, rfl⟩ := Value.isStrOf_shape e2
  exact ⟨t, rfl⟩
theorem Fn.listValues {l : List (Str × VP)} (hl : l.length ≤ sizeLine := by first | decide | (simp only [List.length_cons, List.length_nil]; decide)) : Fn C n (.type "list") [.of (.view C "dict_values" l)] (.list (l.map Prod.snd)) := fun A Z own s vs E hA I hv => by
  obtain ⟨v, rfl, a, o, rfl, h2, ⟨d, od, h3, h4, h5, h6, h7⟩, nm⟩ := one_arg hv
  obtain ⟨kvs, ep, hd, hk⟩ := IsDict.at h6 (I.zle _ _ h5)
  refine kdl_call (kdl_values (knd := strKind C.prog C.w) (kvs := kvs) (ep := ep)) hA.hh ⟨⟨o, I.zle _ _ h2, h3, h4⟩, hd⟩ (by rw [← hk.len]; exact hl) fun h' tk acc' c' k ho hacc => ?_
  refine Post.new I k (Nat.le_refl _) ho (U := .list _) ⟨acc', c', rfl, oks_of (by rw [List.length_map, hk.len]; exact hacc.1.symm) fun j P v hP hv => ?_⟩
  obtain ⟨k, e1⟩ := hacc.2 j v (by rw [← Array.getElem?_toList]; exact hv)
  obtain ⟨Q, e3, e4⟩ := pairs_get hk e1
  rw [List.getElem?_map, e3] at hP
  cases hP
  exact e4
theorem Fn.listItems {l : List (Str × VP)} (hl : l.length ≤ sizeLine := by first | decide | (simp only [List.length_cons, List.length_nil]; decide)) : Fn C n (.type "list") [.of (.view C "dict_items" l)] (.list (l.map fun q => VP.tup [.str q.1, q.2])) := fun A Z own s vs E hA I hv => by
  obtain ⟨v, rfl, a, o, rfl, h2, ⟨d, od, h3, h4, h5, h6, h7⟩, nm⟩ := one_arg hv
  obtain ⟨kvs, ep, hd, hk⟩ := IsDict.at h6 (I.zle _ _ h5)
  refine kdx_call (knd := strKind C.prog C.w) (kvs := kvs) (ep := ep) hA.hh ⟨o, I.zle _ _ h2, h3, h4⟩ hd (by rw [← hk.len]; exact hl) fun h' tk acc c as k ho hlen g hacc => ?_
  have hsz : s.heap.objs.size > 3 := I.g.lt
  have J : Inv C Z (its (rsOf h' (s.heap.objs.size :: as)) ++ own) { s with heap := h', toks := tk } := by
    refine I.addMany k (fun r hr => ?_) (fun r hr => ?_) ?_
    · obtain ⟨b, hb, rfl⟩ := of_mem_rsOf hr
      rcases List.mem_cons.mp hb with q | q
      · subst q; exact Nat.le_refl _
      · exact Nat.le_of_lt (g.above b q)
    · obtain ⟨b, hb, rfl⟩ := of_mem_rsOf hr
      show h'.get? b = some ((h'.get? b).getD default)
      have : ∃ o, h'.get? b = some o := by
        rcases List.mem_cons.mp hb with q | q
        · subst q; exact ⟨_, ho⟩
        · obtain ⟨j, hj⟩ := List.mem_iff_getElem?.mp q
          obtain ⟨_, _, _, _, _, e⟩ := g.pairs j b hj
          exact ⟨_, e⟩
      obtain ⟨o, e⟩ := this
      rw [e]; rfl
    · rw [rsOf_addr, List.nodup_cons]
      exact ⟨fun hm => Nat.lt_irrefl _ (g.above _ hm), g.rise.imp fun h e => by rw [e] at h; exact Nat.lt_irrefl _ h⟩
  obtain ⟨Z1, z1, J1, hz⟩ := J.freezeIts
  have hz' : ∀ b ∈ s.heap.objs.size :: as, ∀ o, h'.get? b = some o → Z1 b = some o := fun b hb o e => by
    have := hz (b, (h'.get? b).getD default) (List.mem_map.mpr ⟨b, hb, rfl⟩)
    rw [this, e]; rfl
  have nmOf : ∀ b, s.heap.objs.size ≤ b → Nm b := fun b hb => beq_false_of_ne fun e => by
    have : 3 < b := Nat.lt_of_lt_of_le hsz hb
    rw [e] at this; exact absurd this (by decide)
  refine ⟨Z1, z1, J1, s.heap.objs.size, _, rfl, hz' _ (.head _) _ ho, ⟨acc, c, rfl, oks_of (by rw [List.length_map, hacc, List.length_map, hlen, hk.len]) fun j P v hP hv => ?_⟩, nmOf _ (Nat.le_refl _)⟩
  rw [hacc, List.getElem?_map, Option.map_eq_some_iff] at hv
  obtain ⟨b, hb, rfl⟩ := hv
  obtain ⟨key, kk, x, e1, e2, e3⟩ := g.pairs j b hb
  obtain ⟨Q, e4, e5⟩ := pairs_get hk e1
  rw [List.getElem?_map, e4] at hP
  cases hP
  obtain ⟨t, rfl⟩ := Value.isStrOf_shape e2
  have hbm := List.mem_of_getElem? hb
  exact ⟨b, _, rfl, hz' b (.tail _ hbm) _ e3, ⟨#[.str kk t, x], 0, rfl, rfl, .cons ⟨t, rfl⟩ (.cons (VP.mono _ z1 e5) .nil)⟩, nmOf _ (Nat.le_of_lt (g.above b hbm))⟩
theorem Fn.dictDict {l : List (Str × VP)} (hl : l.length ≤ sizeLine := by first | decide | (simp only [List.length_cons, List.length_nil]; decide)) : Fn C n (.type "dict") [.dict C l] (.dict C l) := fun A Z own s vs E hA I hv => by
  obtain ⟨v, rfl, a, o, rfl, h2, h3, nm⟩ := one_arg hv
  obtain ⟨kvs, ep, hd, hk⟩ := IsDict.at h3 (I.zle _ _ h2)
  refine kt_call_dict (knd := strKind C.prog C.w) nm hd.dictOf (by rw [← hk.len]; exact hl) fun h' hd' hs => ?_
  obtain ⟨o', es', ep', e1, e2, e3, e4, e5, e6⟩ := hd'
  exact Post.new (tk := s.toks) I (fun b ob e => hs.extBut b ob (Nat.ne_of_lt (Heap.lt_size e)) (Heap.get?_push_of_some _ e)) (Nat.le_refl _) e1 (U := .dict C l) ⟨es', ep', kvs, e2, e3, e4, e5, e6, hk⟩
theorem Fn.sortedList {xs ys : List Str} (h64 : xs.length < 64) (hy : ∀ zs : List Str, zs.Perm xs → sortedS zs = true → zs = ys) : Fn C n (.builtin "sorted") [.list (xs.map .str)] (.list (ys.map .str)) := fun A Z own s vs E hA I hv => by
  obtain ⟨v, rfl, a, o, rfl, h2, ⟨vs, m, h3, h4⟩, nm⟩ := one_arg hv
  have hl := Oks.sz h4
  rw [List.length_map] at hl
  refine sorted_strs (vs := vs.toList) ⟨o, I.zle _ _ h2, by rw [h3], m, by rw [h3]⟩ (strs_are h4) (by rw [Array.length_toList]; omega) fun out ss' a1 a2 a3 => ?_
  obtain ⟨e, he⟩ := sortedAll_at s.heap vs.toList out
  have := hy ss' a2 a3
  subst this
  exact Post.new (tk := s.toks) I (fun _ _ => sortedAll_old) (Nat.le_succ _) he (U := .list _) ⟨out, e, rfl, are_strs a1⟩
end Mine
end

section
open PySem PySem.W PyProof.Rows PySem.SeqAt
set_option autoImplicit false
namespace Mine
variable {C : Cx} {Z Z' : Fz} {own mine R : List Res} {s : Shared} {n : Nat} {sc : Scope} {G : Gam}
theorem Fn.sortedDict {l : List (Str × VP)} {ys : List Str} (h64 : l.length < 64) (hy : ∀ zs : List Str, zs.Perm (l.map Prod.fst) → sortedS zs = true → zs = ys) : Fn C n (.builtin "sorted") [.dict C l] (.list (ys.map .str)) := fun A Z own s vs E hA I hv => by
  obtain ⟨v, rfl, a, o, rfl, h2, h3, nm⟩ := one_arg hv
  obtain ⟨kvs, ep, hd, hk⟩ := IsDict.at h3 (I.zle _ _ h2)
  have hlen := hk.len
  have hs64 : 64 ≤ sizeLine := by decide
  refine Calls.call_function_entry kind_sorted plain_sorted entry_sorted (args_sorted1 _) ?_
  unfold Builtin.«sorted»
  refine wpAny_bind (m := checkCount "sorted" 1 1 _) (wpAny_pure ?_)
  refine wpAny_bind (kdu_collect (A := A.in1) (kdl_dict (knd := strKind C.prog C.w) (kvs := kvs) (ep := ep) nm) hA.hh hd (by omega) fun h' tk acc k hacc => ?_)
  have hl : acc.toList.length = kvs.length := hacc.1
  have hS : StrsAre acc.toList (l.map Prod.fst) := by
    refine strs_are (Z := Z) (oks_of (by rw [List.length_map, List.length_map]; omega) fun j P v hP hv => ?_)
    obtain ⟨k, x, e1, e2⟩ := hacc.2 j v (by rw [← Array.getElem?_toList]; exact hv)
    obtain ⟨Q, e3, e4⟩ := pairs_get hk e1
    rw [List.getElem?_map, List.getElem?_map, e3] at hP
    cases hP
    obtain ⟨t, rfl⟩ := Value.isStrOf_shape e2
    exact ⟨t, rfl⟩
  have I1 := I.keeps (tk := tk) k
  refine wpAny_bind (wpAny_newList ?_ (by rw [hl]; omega))
  show wpAny _ _ _ _ _ { s with heap := h'.push (seqObj "list" acc.toList.toArray 0), toks := tk }
  have ho : (h'.push (seqObj "list" acc.toList.toArray 0)).get? h'.objs.size = some (seqObj "list" acc.toList.toArray 0) := Heap.get?_push_size _ rfl
  refine wpAny_bind (wpAny_holding (wpAny_call_entry (A := A.in1) slot_list_sort ⟨_, ho, rfl⟩ entry_list_sort (list_sort_treeK strKind_oneLt ho hS.keysOf (fun v₁ v₂ rest e => keyKind_strs (by rw [← e]; exact hS)) (by rw [hl]; omega) fun st' hp hs => ⟨_, rfl, ?_⟩) (args_list_sort _)))
  refine wpAny_pure ⟨_, rfl, ?_⟩
  obtain ⟨ss', a1, a2, a3⟩ := sorted_out_str hS hp hs
  have := hy ss' a2 a3
  subst this
  obtain ⟨e, he⟩ := sortedHeap_at (vs := acc.toList) (out := (arrOf st').map (·.2)) ho
  refine Post.new (tk := tk) I1 (fun b o e => ?_) (Nat.le_refl _) he (U := .list _) ⟨_, e, rfl, are_strs a1⟩
  have hb : b < h'.objs.size := Heap.lt_size e
  rw [sortedHeap_old (Nat.ne_of_lt hb) (by rw [size_push']; exact Nat.lt_succ_of_lt hb), Heap.get?_push_ne _ _ _ (Nat.ne_of_lt hb)]
  exact e
end Mine
end

section
open PySem PySem.W PyProof.Rows PySem.SeqAt
set_option autoImplicit false
namespace Mine
variable {C : Cx} {Z Z' : Fz} {own mine R : List Res} {s : Shared} {n : Nat} {sc : Scope} {G : Gam}
section
open Builtin Builtin.Str
set_option maxHeartbeats 2000000 in
theorem pct1 {A : Around} {y : Str} {t u : Tok} {E : Value → Shared → Prop} {Q : Value → Shared → Prop} (hy : y.length ≤ 1000) (h : ∀ (t' : Tok) (k : Nat), Q (.str (Str.ofString "{" ++ y ++ Str.ofString "}") t') { s with toks := k }) : wpAny C.M A (binaryOp .Mod (.str "{%s}" t) (.str y u)) Q E s := by
  refine' KPc.mod_str ?kpcF ?kpcl ?kpcm ?_
  case kpcF => kpc_eq
  case kpcl => omega
  case kpcm => k_dflt kpc_run_s
  intro t' k
  exact h _ _
theorem pctT {A : Around} {X X' T : Str} {t : Tok} {E : Value → Shared → Prop} {Q : Value → Shared → Prop} {b : Addr} {its : Array Value} (ht : IsTup s.heap b its) (hX : X = X')
    (hm : Meets («str.__mod__» ⟨[.str X' t, .ref b], []⟩) (fun _ R s => IsTup s.heap b its ∧ ∀ t' k, R (.ok (.ret (.str T t'))) { s with toks := k }))
    (h : ∀ t' k, Q (.str T t') { s with toks := k }) : wpAny C.M A (binaryOp .Mod (.str X t) (.ref b)) Q E s := by
  subst hX
  exact KPt.bin_left (T := "str") (U := "tuple") (op := .Mod) (by decide) (typeIs_str s X t) ht.typeIs F.fills_str_mod KPt.fills_tuple F.slot_str_mod
    (call_meets F.slot_str_mod (typeIs_str s X t) F.entry_str_mod (F.args_str_mod_2 _ _) hm ⟨ht, fun t' k => ⟨(fun e => nomatch e), h t' k⟩⟩)
set_option maxHeartbeats 4000000 in
theorem pct3 {A : Around} {x z : Str} {i : Int} {t t1 t2 t3 : Tok} {b : Addr} {E : Value → Shared → Prop} {Q : Value → Shared → Prop} (hx : x.length ≤ 1000) (hz : z.length ≤ 1000) (h0 : 0 ≤ i) (h1 : i < 1000)
    (ht : IsTup s.heap b #[.str x t1, .int i t2, .str z t3]) (h : ∀ (t' : Tok) (k : Nat), Q (.str (x ++ Str.ofString ":" ++ Str.ofString (toString i) ++ Str.ofString "(" ++ z ++ Str.ofString ")") t') { s with toks := k }) : wpAny C.M A (binaryOp .Mod (.str "%s:%d(%s)" t) (.ref b)) Q E s := by
  refine' pctT ht ?kptF ?kptm ?_
  case kptF => kpt_eq
  case kptm => k_dflt kpt_run
  intro t' k
  exact h _ _
end
theorem Op2.pct1 {y : Str} (hy : y.length ≤ 1000) : Op2 C n (.str "{%s}") (.str y) (binaryOp .Mod) (.str (Str.ofString "{" ++ y ++ Str.ofString "}")) := fun A Z own s v w E hA I h1 h2 => by
  obtain ⟨t, rfl⟩ := h1
  obtain ⟨u, rfl⟩ := h2
  exact Mine.pct1 hy fun t' k => Post.here (I.tok _) ⟨_, rfl⟩
theorem Op2.pct3 {x z : Str} {i : Int} (hx : x.length ≤ 1000) (hz : z.length ≤ 1000) (h0 : 0 ≤ i) (h1 : i < 1000) : Op2 C n (.str "%s:%d(%s)") (.tup [.str x, .int i, .str z]) (binaryOp .Mod) (.str (x ++ Str.ofString ":" ++ Str.ofString (toString i) ++ Str.ofString "(" ++ z ++ Str.ofString ")")) := fun A Z own s v w E hA I h3 h4 => by
  obtain ⟨t, rfl⟩ := h3
  obtain ⟨a, o, rfl, g, ⟨vs, m, e1, e2, k⟩, nm⟩ := h4
  obtain ⟨l⟩ := vs
  cases k with
  | cons p1 k =>
    cases k with
    | cons p2 k =>
      cases k with
      | cons p3 k =>
        cases k
        obtain ⟨t1, rfl⟩ := p1
        obtain ⟨t2, rfl⟩ := p2
        obtain ⟨t3, rfl⟩ := p3
        exact Mine.pct3 hx hz h0 h1 ⟨o, I.zle _ _ g, e1, m, e2⟩ fun t' k => Post.here (I.tok _) ⟨_, rfl⟩
theorem adjust_upto (b n : Nat) (hb : b ≤ n) : Builtin.Slice.sliceAdjust none (some (b : Int)) 1 (n : Int) = (0, (b : Int)) := by
  unfold Builtin.Slice.sliceAdjust
  have h1 : ¬ ((1 : Int) < 0) := by omega
  have h2 : ¬ ((b : Int) < 0) := by omega
  simp only [h1, h2, if_false]
  congr 1
  omega
theorem places_upto (b : Nat) : Builtin.Slice.slicePlaces 0 (b : Int) 1 = b := by
  unfold Builtin.Slice.slicePlaces
  have h1 : (1 : Int) > 0 := by omega
  simp only [h1, if_true, Int.ediv_one]
  split <;> omega
theorem sliceApplied_upto {A : Around} {E : Value → Shared → Prop} {sl : Addr} {b n : Nat} {u : Tok} {Q : Int × Int × Nat → Shared → Prop} (hs : s.heap.IsSliceOf sl .none (.int b u) .none) (hb : b ≤ n) (h : Q (0, 1, b) s) :
    wpAny C.M A (Builtin.Slice.sliceApplied (.ref sl) (pure (n : Int))) Q E s := by
  obtain ⟨os, hos, hcs, hds⟩ := id hs
  unfold Builtin.Slice.sliceApplied Builtin.Slice.sliceFields
  refine wpAny_bind (wpAny_bind (wpAny_field hos hds (x := .none) rfl (wpAny_bind (wpAny_field hos hds (x := .int b u) rfl (wpAny_bind (wpAny_field hos hds (x := .none) rfl (wpAny_pure ?_)))))))
  refine wpAny_bind (slicePart_none ?_)
  show wpAny _ _ (if ((1 : Int) == 0) = true then _ else _) _ _ s
  rw [if_neg (by decide)]
  refine wpAny_bind (slicePart_none (wpAny_bind (slicePart_int (wpAny_bind (wpAny_pure ?_)))))
  show wpAny _ _ (match Builtin.Slice.sliceAdjust none (some (b : Int)) 1 (n : Int) with | (lo, hi) => pure (lo, (1 : Int), Builtin.Slice.slicePlaces lo hi 1)) _ _ s
  rw [adjust_upto b n hb]
  show wpAny _ _ (pure ((0 : Int), (1 : Int), Builtin.Slice.slicePlaces (0 : Int) (b : Int) 1)) _ _ s
  rw [places_upto]
  exact wpAny_pure h
theorem pick_upto (xs : Array Value) (b : Nat) : ((List.range b).filterMap fun (k : Nat) => xs[((0 : Int) + (k : Int) * 1).toNat]?).toArray = (xs.toList.take b).toArray := by
  have e : (fun (k : Nat) => xs[((0 : Int) + (k : Int) * 1).toNat]?) = fun k => xs[k]? := by
    funext k
    have : ((0 : Int) + (k : Int) * 1).toNat = k := by omega
    rw [this]
  rw [e]
  have := pick_run xs 0 b
  rw [List.filterMap_map, List.drop_zero] at this
  have e2 : ((fun x => xs[x]?) ∘ fun x => 0 + x) = fun k => xs[k]? := by funext k; simp
  rw [e2] at this
  rw [this]
theorem Op2.tupUpto {ps : List VP} {b : Nat} (hb : b < ps.length) (hsz : ps.length ≤ sizeLine := by first | decide | (simp only [List.length_cons, List.length_nil]; decide)) : Op2 C n (.tup ps) (.of (.slice none (some b) none)) getItem (.tup (ps.take b)) := fun A Z own s v w E hA I h1 h2 => by
  obtain ⟨a, o, rfl, g, ⟨vs, m, e1, e2, k⟩, nm⟩ := h1
  obtain ⟨sl, os, rfl, g2, ⟨x, y, z, e3, p1, ⟨u, p2⟩, p3⟩, nm'⟩ := h2
  cases (show x = .none from p1); subst p2; cases (show z = .none from p3)
  have hl := Oks.sz k
  have ht : IsTup s.heap a vs := ⟨o, I.zle _ _ g, e1, m, e2⟩
  have hs : s.heap.IsSliceOf sl .none (.int b u) .none := ⟨os, I.zle _ _ g2, by rw [e3], by rw [e3]⟩
  have hTs : s.TypeIs (.ref sl) "slice" := ⟨os, I.zle _ _ g2, by rw [e3]⟩
  unfold getItem
  try with_reducible refine wpAny_holding ?_
  first | refine wpAny_bind (wpAny_pure ?_) | skip
  refine wpAny_bind (wpAny_sequenceKey ht.typeIs (by decide) ?_)
  refine wpAny_bind (wpAny_callSpecial?_slot (name := Str.ofString "__getitem__") ht.typeIs slot_tuple_getitem
    (wpAny_call_entry slot_tuple_getitem ht.typeIs entry_tuple_getitem ?_ (args_tuple_getitem _ _)))
  show wpAny _ _ (Builtin.Tuple.tupleItemsOf (.ref a) >>= _) _ _ s
  refine wpAny_bind (tupleItemsOf_ ht ?_)
  refine wpAny_bind (wpAny_typeOf hTs ?_)
  rw [if_pos (by decide)]
  refine wpAny_bind (sliceApplied_upto hs (by omega : b ≤ vs.size) ?_)
  have hno : ¬ (((0 : Int) == 0 && (1 : Int) == 1 && b == vs.size) = true) := by
    have : (b == vs.size) = false := by rw [beq_eq_false_iff_ne]; omega
    rw [this]; simp
  show wpAny _ _ (if ((0 : Int) == 0 && (1 : Int) == 1 && b == vs.size) = true then _ else _) _ _ s
  rw [if_neg hno, pick_upto vs b]
  have hd : sizeOk (.seq (vs.toList.take b).toArray) := by
    show (vs.toList.take b).toArray.size ≤ sizeLine
    rw [List.size_toArray, List.length_take]; omega
  have fin : Post C Z own (.tup (ps.take b)) (.ref s.heap.objs.size) { s with heap := s.heap.push { cls := .type "tuple", data := .seq (vs.toList.take b).toArray } } :=
    Post.push (tk := s.toks) I (U := .tup _) ⟨_, 0, rfl, rfl, oks_of (by simp; omega) fun j P v hP hv => by
      rw [List.getElem?_take] at hP hv
      split at hP
      · rename_i hj
        rw [if_pos hj] at hv
        exact Oks.toget k (by rw [← Array.getElem?_toList]; exact hv) hP
      · cases hP⟩ rfl
  first
    | exact wpAny_bind (m := Builtin.Tuple.tupleExact _) (wpAny_newObj_type (wpAny_pure ⟨_, rfl, wpAny_pure fin⟩) hd)
    | exact wpAny_bind (m := Builtin.Tuple.tupleExact _) (wpAny_newObj_type (wpAny_bind (wpAny_pure (wpAny_pure ⟨_, rfl, wpAny_pure fin⟩))) hd)
    | exact wpAny_bind (wpAny_bind (m := Builtin.Tuple.tupleExact _) (wpAny_newObj_type (wpAny_pure (wpAny_pure ⟨_, rfl, wpAny_pure fin⟩)) hd))
theorem Ev.slTup {v : Expr} {u : Expr} {p pos : Pos} {ps : List VP} {b : Nat} (hv : Ev C n sc G v (.tup ps)) (hu : Ev C n sc G u (.int b)) (hb : b < ps.length) (hsz : ps.length ≤ sizeLine := by first | decide | (simp only [List.length_cons, List.length_nil]; decide))
    (hs' : ∀ o j, ∃ q, subscripted (.Slice none (some u) none p) false o j = operate q (getItem o j) := by intro _ _; exact ⟨_, rfl⟩) : Ev C n sc G (.Subscript v (.Slice none (some u) none p) pos) (.tup (ps.take b)) := Ev.sub hv (Ev.slice .no (.at hu) .no) (Op2.tupUpto hb hsz) .tup slot_tuple_getitem.lookup hs'
end Mine
end

section
open PySem PySem.W PyProof.Rows PySem.SeqAt
set_option autoImplicit false
namespace Mine
variable {C : Cx} {Z Z' : Fz} {own mine R : List Res} {s : Shared} {n : Nat} {sc : Scope} {G : Gam}
noncomputable def AttrIs (l : List (Str × VP)) (Z : Fz) (o : Obj) : Prop := ∃ es m, o = dictOf es m ∧ All2 (fun (p : Str × VP) (e : DictEntry) => (∃ t, e.key = .str p.1 t) ∧ p.2.ok Z e.val) l es
noncomputable def UP.attrs (l : List (Str × VP)) : UP := ⟨AttrIs l, fun z h => by
  obtain ⟨es, m, h1, h2⟩ := h
  exact ⟨es, m, h1, h2.imp fun p e x => ⟨x.1, VP.mono _ z x.2⟩⟩⟩
noncomputable def VP.inst (cls : Addr) (l : List (Str × VP)) : VP := ⟨fun Z v => ∃ x dx od, v = .ref x ∧ Z x = some (instObj cls dx) ∧ Z dx = some od ∧ AttrIs l Z od, fun z h => by
  obtain ⟨x, dx, od, h1, h2, h3, h4⟩ := h
  exact ⟨x, dx, od, h1, z _ _ h2, z _ _ h3, UP.mono (.attrs l) z h4⟩⟩
noncomputable def VP.plain (P : VP) : Prop := ∀ Z v, P.ok Z v → handedIn v = true
theorem plain_int {i : Int} : (VP.int i).plain := fun Z v h => by obtain ⟨t, rfl⟩ := h; rfl
theorem plain_str {i : Str} : (VP.str i).plain := fun Z v h => by obtain ⟨t, rfl⟩ := h; rfl
theorem plain_of {U : UP} : (VP.of U).plain := fun Z v h => by obtain ⟨a, o, rfl, _⟩ := h; rfl
theorem getL_of {l : List (Str × VP)} {es : List DictEntry} (h : All2 (fun (p : Str × VP) (e : DictEntry) => (∃ t, e.key = .str p.1 t) ∧ p.2.ok Z e.val) l es) (k : Str) :
    (∀ P, dget l k = some P → ∃ v, getL k es = some (some v) ∧ P.ok Z v) ∧ (dget l k = none → getL k es = some none) := by
  have href : es.any (·.refKey) = false := by
    rw [List.any_eq_false]
    intro e he
    induction h with
    | nil => simp at he
    | cons a _ ih =>
      rcases List.mem_cons.mp he with q | q
      · subst q
        obtain ⟨⟨t, e1⟩, _⟩ := a
        unfold DictEntry.refKey; rw [e1]; exact Bool.false_ne_true
      · exact ih q
  have key : (∀ P, dget l k = some P → ∃ e, es.find? (·.key.isStr k) = some e ∧ P.ok Z e.val) ∧ (dget l k = none → es.find? (·.key.isStr k) = none) := by
    clear href
    induction h with
    | nil => exact ⟨fun P e => by simp [dget] at e, fun _ => rfl⟩
    | @cons p e l es a b ih =>
      obtain ⟨⟨t, e1⟩, e2⟩ := a
      have hk : e.key.isStr k = decide (p.1 = k) := by
        rw [e1]
        show (p.1 == k) = _
        exact beq_str _ _
      unfold dget at ih ⊢
      rw [List.find?_cons, List.find?_cons, hk]
      by_cases q : p.1 = k
      · rw [decide_eq_true q]
        exact ⟨fun P x => by cases x; exact ⟨e, rfl, e2⟩, fun x => by cases x⟩
      · rw [decide_eq_false q]; exact ih
  refine ⟨fun P e => ?_, fun e => ?_⟩
  · obtain ⟨e', h1, h2⟩ := key.1 P e
    exact ⟨e'.val, by unfold getL; rw [h1], h2⟩
  · unfold getL; rw [key.2 e, href]; rfl
theorem Inv.inst (I : Inv C Z own s) {cls x dx : Addr} {es : List DictEntry} {m : Nat} (h1 : Z x = some (instObj cls dx)) (h2 : s.heap.get? dx = some (dictOf es m)) : InstAt s.heap x (instObj cls dx) cls (some (dictOf es m)) := ⟨I.zle _ _ h1, rfl, rfl, h2⟩
theorem Ev.attr {v : Expr} {a : Str} {pos : Pos} {cls : Addr} {l : List (Str × VP)} {P : VP} {at_ : Option Value} (hv : Ev C n sc G v (.inst cls l)) (hl : dget l a = some P) (hp : P.plain) (hg : plainGet C.K cls a = true) (hh : hasDictIn C.K cls = true) (ha : findIn C.K (.ref cls) a = some at_) (hn : noGet C.K at_ = true)
    (hb : ∀ env, attributeBase v a env (eval v env) = eval v env := by intro _; rfl) : Ev C n sc G (.Attribute v a pos) P := fun A Z own env s E hA hE I g => by
  rw [arm_eval_Attribute, hb env]
  refine wpAny_bind (wpAny_mono (hv A Z own env s E hA hE I g) (fun o s1 q => ?_) fun _ _ e => e)
  obtain ⟨Z1, z1, I1, x, dx, od, rfl, h1, h2, es, m, rfl, h4⟩ := q
  obtain ⟨w, h5, h6⟩ := (getL_of h4 a).1 P hl
  refine wpAny_bind (wpAny_standAt (wpAny_bind (wpAny_holding ?_)))
  refine get_value I1.kin (I1.inst h1 (I1.zle _ _ h2)) (plainGet_of hg).1 (findObj_own hh ha hn h5) (hp _ _ h6) ?_
  refine wpAny_bind (wpAny_letTemporaryGo (wpAny_pure ?_))
  exact ⟨Z1, z1, I1.tok _, h6⟩
theorem Ev.methI {o : Expr} {name : Str} {es : List Expr} {apos pos : Pos} {cls f : Addr} {l : List (Str × VP)} {ps : List VP} {r : VP} (ho : Ev C n sc G o (.inst cls l)) (hs : EvA C n sc G pos es ps) (hl : dget l name = none) (hg : plainGet C.K cls name = true)
    (hf : findIn C.K (.ref cls) name = some (some (.ref f))) (ht : isFn C.K (.ref f) = true) (hk : keepIn C.K (.ref f) = true) (hn : NoStar es) (hc : Fn C n (.ref f) (.inst cls l :: ps) r)
    (hbase : ∀ env, attributeBase o name env (eval o env) = eval o env := by intro _; rfl) (hlen : decide (es.length < 29) = true := by rfl) (hline : (apos.endLine == pos.line) = true := by rfl) :
    Ev C n sc G (.Call (.Attribute o name apos) es [] pos) r := fun A Z own env s E hA hE I g => by
  have h1 := hn pos env
  have h2 : es.length < 29 := of_decide_eq_true hlen
  have h3 : (backTo pos (starEach es env)).all (fun x => !x.1) = true := by
    rw [List.all_eq_true]; intro x hx
    have := List.any_eq_false.mp h1 x hx
    simpa using this
  have hform : methodCallForm (es.length + ([] : List Keyword).length) (backTo pos (starEach es env)) (backToKw pos (keywordEach [] env)) = true := by
    show ((backTo pos (starEach es env)).all (fun x => !x.1) && true && decide (es.length + 0 + 0 < 30)) = true
    rw [h3, Bool.true_and, Bool.true_and]; exact decide_eq_true (by omega)
  have hpos : methodCallPos true o env apos pos = pure pos := by unfold methodCallPos; simp [hline]
  rw [arm_eval_Call, hbase]
  refine wpAny_bind (wpAny_mono (ho A Z own env s E hA hE I g) (fun v s1 q => ?_) fun _ _ e => e)
  obtain ⟨Z1, z1, I1, p1⟩ := q
  have p1' := p1
  obtain ⟨x, dx, od, rfl, h4, h5, es', m, rfl, h6⟩ := p1'
  refine wpAny_bind (wpAny_standAt ?_)
  unfold methodCall
  rw [hform]
  refine wpAny_bind (wpAny_holding (method_fn I1.kin (I1.inst h4 (I1.zle _ _ h5)) (plainGet_of hg).1 (plainGet_of hg).2 hf (beq_iff_eq.mp ht) (by show (lookIn name (dictOf es' m)).map _ = _; rw [lookIn_dict, (getL_of h6 name).2 hl]; rfl) ?_))
  refine wpAny_bind (wpAny_of_eq hpos ?_)
  refine callWith_of (P := C.K.In) (by rw [hn pos env]; rfl) (fun h X => keeps_K hk h X) (evalArgs_of hn ?_)
  refine wpAny_mono (hs A Z1 own env s1 E hA hE I1 (g.z z1)) (fun vs s2 q => ?_) fun _ _ e => e
  obtain ⟨Z2, z2, I2, p2⟩ := q
  refine ⟨I2.kin, ?_⟩
  exact wpAny_mono (hc A Z2 own s2 (.ref x :: vs) E hA I2 (.cons (VP.mono _ z2 p1) p2)) (fun v s3 h3 => h3.more (z1.trans z2)) fun _ _ e => e
end Mine
end

section
open PySem PySem.W PyProof.Rows PySem.SeqAt
set_option autoImplicit false
namespace Mine
variable {C : Cx} {Z Z' : Fz} {own mine R : List Res} {s : Shared} {n : Nat} {sc : Scope} {G : Gam}
noncomputable def restOf (h : Heap) (dx L : Addr) : List (Addr × Obj) := (List.range h.objs.size).filterMap fun b => if b = dx ∨ b = L then none else (h.get? b).map fun o => (b, o)
theorem in_rest {h : Heap} {dx L b : Addr} {o : Obj} (h1 : b ≠ dx) (h2 : b ≠ L) (h3 : h.get? b = some o) : (b, o) ∈ restOf h dx L := by
  refine List.mem_filterMap.mpr ⟨b, List.mem_range.mpr (Heap.lt_size h3), ?_⟩
  rw [if_neg (by rintro (q | q); exact h1 q; exact h2 q), h3]; rfl
theorem of_rest {h : Heap} {dx L : Addr} {p : Addr × Obj} (hp : p ∈ restOf h dx L) : h.get? p.1 = some p.2 ∧ p.1 ≠ dx ∧ p.1 ≠ L := by
  obtain ⟨b, _, e⟩ := List.mem_filterMap.mp hp
  split at e
  · cases e
  · rename_i hb
    obtain ⟨o, ho, rfl⟩ := Option.map_eq_some_iff.mp e
    exact ⟨ho, fun q => hb (.inl q), fun q => hb (.inr q)⟩
theorem setAttr_in {A : Around} {E : Value → Shared → Prop} {cls x dx L : Addr} {m : Str → Option Value} {es : List DictEntry} {k : Nat} {name : Str} {v : Value} {Q : Unit → Shared → Prop} (X : C.K.In s.heap) (hx : s.heap.get? x = some (instObj cls dx)) (hd : s.heap.get? dx = some (dictOf es k)) (hL : s.heap.Ns L m) (hne : dx ≠ L)
    (hs : findIn C.K (.ref cls) "__setattr__" = some (some (.builtin "object.__setattr__"))) (hp : plainOver C.K cls = true) (ht : takerIn C.K cls name = some none) (hh : hasDictIn C.K cls = true) (hl : (getL name es).isSome = true) (hz : es.length ≤ 900)
    (h : ∀ h', h'.Ns L m → (∀ b o, b ≠ dx → b ≠ L → s.heap.get? b = some o → h'.get? b = some o) → h'.get? dx = some (dictOf (putL name (PyData.keyHash C.w.params name) (.str name (s.toks + 1)) v es) (putN name es k)) → Q () { s with heap := h', toks := s.toks + 2 }) :
    wpAny C.M A (setAttr (.ref x) name v) Q E s := by
  have F : Fr ⟨#[], {}⟩ L s.heap m := ⟨hL, fun b o e => by simp [Heap.get?] at e, Nat.zero_le _⟩
  have N : News ⟨#[], {}⟩ L s.heap ([] ++ (dx, dictOf es k) :: restOf s.heap dx L) := fun p hp => by
    rcases List.mem_cons.mp hp with q | q
    · subst q; exact ⟨hd, hne, by simp [Heap.get?]⟩
    · obtain ⟨a, b, c⟩ := of_rest q; exact ⟨a, c, by simp [Heap.get?]⟩
  have I : InstAt s.heap x (instObj cls dx) cls (some (dictOf es k)) := ⟨hx, rfl, rfl, hd⟩
  have hlen : ∀ es : List DictEntry, (putL name (PyData.keyHash C.w.params name) (.str name (s.toks + 1)) v es).length ≤ es.length + 1 := fun es => by
    induction es with
    | nil => exact Nat.le_refl _
    | cons e r ih =>
      unfold putL
      split
      · simp
      · simp only [List.length_cons]; omega
  exact set_plain X I hs (osa_dict (s := { s with toks := s.toks + 1 }) F N X I rfl hp ht hh hl (fun p hp => by simp at hp) (fun p hp => (of_rest hp).2.1) (by rw [putName_dict]) rfl (Nat.le_trans (hlen es) (by omega)) fun h' F' N' =>
    h h' F'.ns (fun b o h1 h2 e => (N' _ (List.mem_append_right _ (.tail _ (in_rest h1 h2 e)))).1) (N' _ (List.mem_append_right _ (.head _))).1)
noncomputable def aput (k : Str) (P : VP) : List (Str × VP) → List (Str × VP)
  | [] => [(k, P)]
  | p :: r => if p.1 = k then (k, P) :: r else p :: aput k P r
theorem attr_put {k : Str} {P : VP} {hsh : Int} {t : Tok} {v : Value} (hv : P.ok Z v) : ∀ {l : List (Str × VP)} {es : List DictEntry}, All2 (fun (p : Str × VP) (e : DictEntry) => (∃ t, e.key = .str p.1 t) ∧ p.2.ok Z e.val) l es →
    All2 (fun (p : Str × VP) (e : DictEntry) => (∃ t, e.key = .str p.1 t) ∧ p.2.ok Z e.val) (aput k P l) (putL k hsh (.str k t) v es)
  | _, _, .nil => .cons ⟨⟨t, rfl⟩, hv⟩ .nil
  | _, _, .cons (a := p) (b := e) x y => by
    obtain ⟨⟨u, e1⟩, e2⟩ := x
    have hk : e.key.isStr k = decide (p.1 = k) := by
      rw [e1]; exact beq_str _ _
    unfold aput putL
    rw [hk]
    by_cases q : p.1 = k
    · rw [if_pos q, if_pos (decide_eq_true q)]
      exact .cons ⟨⟨u, by rw [← q]; exact e1⟩, hv⟩ y
    · rw [if_neg q, if_neg (by rw [decide_eq_false q]; exact Bool.false_ne_true)]
      exact .cons ⟨⟨u, e1⟩, e2⟩ (attr_put hv y)
structure ClsOk (C : Cx) (cls : Addr) : Prop where
  set : findIn C.K (.ref cls) "__setattr__" = some (some (.builtin "object.__setattr__"))
  over : plainOver C.K cls = true
  dict : hasDictIn C.K cls = true
theorem Inv.setAttr {A : Around} {E : Value → Shared → Prop} {cls x dx L : Addr} {m : Str → Option Value} {X Y : List Res} {od : Obj} {l : List (Str × VP)} {name : Str} {v : Value} {P : VP} {Q : Unit → Shared → Prop} (I : Inv C Z (X ++ (.it dx od :: Y)) s) (hx : Z x = some (instObj cls dx)) (hod : AttrIs l Z od) (hL : Res.ns L m ∈ X)
    (hv : P.ok Z v) (hc : ClsOk C cls) (ht : takerIn C.K cls name = some none) (hz : l.length ≤ 900)
    (h : ∀ s' od', Inv C Z (X ++ (.it dx od' :: Y)) s' → AttrIs (aput name P l) Z od' → Q () s') : wpAny C.M A (PySem.setAttr (.ref x) name v) Q E s := by
  obtain ⟨es, k, rfl, hes⟩ := hod
  have nd := I.nd
  rw [List.map_append, List.map_cons, List.nodup_append, List.nodup_cons] at nd
  have hd := I.ok (.it dx _) (List.mem_append_right _ (.head _))
  have hne : dx ≠ L := fun e => nd.2.2 L (List.mem_map.mpr ⟨_, hL, rfl⟩) dx (.head _) e.symm
  have hlen : es.length = l.length := hes.len.symm
  have hget : (getL name es).isSome = true := by
    cases q : dget l name with
    | none => rw [(getL_of hes name).2 q]; rfl
    | some P' => obtain ⟨w, e, _⟩ := (getL_of hes name).1 P' q; rw [e]; rfl
  refine setAttr_in I.kin (I.zle _ _ hx) hd (I.ok (.ns L m) (List.mem_append_left _ hL)) hne hc.set hc.over ht hc.dict hget (by omega) fun h' a b c => h _ (dictOf (putL name (PyData.keyHash C.w.params name) (.str name (s.toks + 1)) v es) (putN name es k)) ?_ ⟨_, _, rfl, attr_put hv hes⟩
  refine I.turns (tk := s.toks + 2) (by simp [Res.addr]) (fun r hr => ?_) (fun d o e => ?_) fun o e => b _ o (I.bare.ne (r := .it dx _) (List.mem_append_right _ (.head _))) (I.bare.ne (List.mem_append_left _ hL)) e
  · have keep : ∀ r ∈ X ++ (.it dx (dictOf es k) :: Y), r.addr ≠ dx → r.ok h' := fun r hr hne => by
      by_cases hLr : r.addr = L
      · have := I.same hr (List.mem_append_left _ hL) hLr
        subst this; exact a
      · exact Res.at (I.ok r hr) fun o e => b _ o hne hLr e
    rcases List.mem_append.mp hr with q | q
    · exact keep r (List.mem_append_left _ q) fun e => nd.2.2 r.addr (List.mem_map.mpr ⟨r, q, rfl⟩) dx (.head _) e
    · rcases List.mem_cons.mp q with q | q
      · subst q; exact c
      · exact keep r (List.mem_append_right _ (.tail _ q)) fun e => nd.2.1.1 (List.mem_map.mpr ⟨r, q, e⟩)
  · have h1 : Z dx = none := I.off _ (List.mem_append_right _ (.head _))
    have h2 : Z L = none := I.off _ (List.mem_append_left _ hL)
    exact b d o (fun q => by rw [q, h1] at e; cases e) (fun q => by rw [q, h2] at e; cases e) (I.zle _ _ e)
end Mine
end

section
open PySem PySem.W PyProof.Rows PySem.SeqAt
set_option autoImplicit false
namespace Mine
variable {C : Cx} {Z Z' : Fz} {own mine R : List Res} {s : Shared} {n : Nat} {sc : Scope} {G : Gam}
noncomputable def InitOk (C : Cx) (n : Nat) (fI cls : Addr) (ps : List VP) (l : List (Str × VP)) : Prop :=
  ∀ (A : Around) (Z : Fz) (own : List Res) (s : Shared) (x dx : Addr) (od : Obj) (vs : List Value) (Rr : Result → Shared → Prop), Room n A → Inv C Z (.it dx od :: own) s → Z x = some (instObj cls dx) → AttrIs [] Z od → Oks Z ps vs →
    (∀ s' Z' od', Z.le Z' → Inv C Z' (.it dx od' :: own) s' → AttrIs l Z' od' → Rr (.ok (.ret .none)) s') → codeAny C.M A (.call (.ref fI) ⟨.ref x :: vs, []⟩) Rr s
theorem Room.typeCall {A : Around} {c : Addr} {vs : List Value} (h : Room (n + 1) A) : Room n (A.under (.builtin "type.__call__" ⟨.ref c :: vs, []⟩)) := by
  have h1 := h.d
  have h2 := h.u
  refine ⟨h.hh, ?_, ?_⟩
  · show A.depth + 1 + n < 900
    omega
  · show A.units + 1 + 10 * n < 5000
    omega
theorem Fn.make {fI cls : Addr} {ps : List VP} {l : List (Str × VP)} (hm : makesIn C.K cls = true) (hi : findIn C.K (.ref cls) "__init__" = some (some (.ref fI))) (hf : typeIn C.K (.ref fI) = some (.type "function")) (h : InitOk C n fI cls ps l) : Fn C (n + 1) (.ref cls) ps (.inst cls l) := fun A Z own s vs E hA I hv => by
  refine wpAny_call ?_
  have I1 := I.pushIt (tk := s.toks) emptyDict rfl
  have I2 := I1.pushIt (tk := s.toks) (instObj cls s.heap.objs.size) rfl
  rw [show ({ s with heap := s.heap.push emptyDict, toks := s.toks } : Shared).heap.objs.size = s.heap.objs.size + 1 from Heap.size_push ..] at I2
  obtain ⟨I3, z3⟩ := I2.freezeIt
  have hx : (Z.put (s.heap.objs.size + 1) (instObj cls s.heap.objs.size)) (s.heap.objs.size + 1) = some (instObj cls s.heap.objs.size) := Fz.put_self
  have hk := I.kin
  obtain ⟨hh, g, d, t, os⟩ := s
  refine make_core (makes_of hk hm) (looks_findIn hk hi) (fun self => bind_fn hk self hf) (.inl rfl) ?_
  refine h _ _ own _ _ _ emptyDict vs _ hA.typeCall I3 hx ⟨[], 0, rfl, .nil⟩ (hv.up z3) fun s' Z' od' z I' ha => ⟨rfl, ?_⟩
  obtain ⟨J, z4⟩ := I'.freezeIt
  exact ⟨_, (z3.trans z).trans z4, J, _, _, od', rfl, z4 _ _ (z _ _ hx), Fz.put_self, UP.mono (.attrs l) z4 ha⟩
end Mine
end

section
open PySem PySem.W PyProof.Rows PySem.SeqAt
set_option autoImplicit false
namespace Mine
variable {C : Cx} {Z Z' : Fz} {own mine R : List Res} {s : Shared} {n : Nat} {sc : Scope} {G : Gam} {cls x dx : Addr} {l l' : List (Str × VP)}
noncomputable def ExI (C : Cx) (n : Nat) (sc : Scope) (cls x dx : Addr) (G : Gam) (l : List (Str × VP)) (ss : List Stmt) (l' : List (Str × VP)) : Prop :=
  ∀ (A : Around) (Z : Fz) (mine R : List Res) (env : Env) (s : Shared) (E : Value → Shared → Prop) (od : Obj), Room n A → EnvIs sc env → Inv C Z (mine ++ (.it dx od :: R)) s → StOk (IsCellOf sc) env mine → EnvOk G env Z (mine ++ (.it dx od :: R)) mine → Z x = some (instObj cls dx) → AttrIs l Z od →
    wpAny C.M A (execs ss env) (fun fl s' => fl = .next ∧ ∃ Z' mine' od', Z.le Z' ∧ Inv C Z' (mine' ++ (.it dx od' :: R)) s' ∧ AttrIs l' Z' od') E s
theorem ExI.nil : ExI C n sc cls x dx G l [] l := fun A Z mine R env s E od hA hE I S g hx hl => wpAny_execs_nil ⟨rfl, Z, mine, od, .rfl, I, hl⟩
theorem EnvOk.swap {env : Env} {o o' : Obj} (g : EnvOk G env Z (mine ++ (.it dx o :: R)) mine) : EnvOk G env Z (mine ++ (.it dx o' :: R)) mine := fun y e hy => by
  obtain ⟨v, r, k⟩ := g y e hy
  refine ⟨v, ?_, k⟩
  have up : ∀ r ∈ mine ++ (.it dx o :: R), (∀ b, r ≠ .it dx b) → r ∈ mine ++ (.it dx o' :: R) := fun r hr hne => by
    rcases List.mem_append.mp hr with q | q
    · exact List.mem_append_left _ q
    · rcases List.mem_cons.mp q with q | q
      · exact absurd q (hne _)
      · exact List.mem_append_right _ (.tail _ q)
  rcases r with ⟨a, m, b, d⟩ | ⟨a, d, b, f⟩
  · exact .inl ⟨a, m, up _ b (fun _ => nofun), d⟩
  · exact .inr ⟨a, d, b, up _ f (fun _ => nofun)⟩
theorem ExI.set {e : Expr} {self a : Str} {p p' p'' : Pos} {P : VP} {ss : List Stmt} (hs : G.lookup self = some (.val (.is (.ref x)))) (he : Ev C n sc G e P) (hc : ClsOk C cls) (ht : takerIn C.K cls a = some none) (hz : l.length ≤ 900) (k : ExI C n sc cls x dx G (aput a P l) ss l')
    (hd : ((self == ("__debug__" : Str)) || (self == ("__classdict__" : Str))) = false := by rfl) (hw : ∀ env, EnvIs sc env → swapsWith e (some (.Attribute (.Name self p') a p'')) p.line env = pure false := by intro _ _; rfl) : ExI C n sc cls x dx G l (.Assign [.Attribute (.Name self p') a p''] e p :: ss) l' := fun A Z mine R env s E od hA hE I S g hx hl => by
  refine wpAny_execs_cons (plainObj_wpAny_Assign_Attribute (wpAny_mono (he A Z _ env s E hA hE I g.ev) (fun v s1 q => ?_) fun _ _ e => e) (hw env hE))
  obtain ⟨Z1, z1, I1, p1⟩ := q
  obtain ⟨w, r, hw'⟩ := g self _ hs
  cases (show w = .ref x from hw')
  rw [Bool.or_eq_false_iff] at hd
  refine wpAny_Name (rd_load hE I1 r ?_ hd.2) hd.1
  obtain ⟨m, hm⟩ := S.ns
  refine Inv.setAttr I1 (z1 _ _ hx) (UP.mono (.attrs l) z1 hl) hm p1 hc ht hz fun s' od' I' hl' => ?_
  refine wpAny_mono (k A Z1 mine R env s' E od' hA hE I' S ((g.z z1).swap) (z1 _ _ hx) hl') (fun fl s2 q => ?_) fun _ _ e => e
  obtain ⟨h1, Z2, m2, od2, z2, I2, h2⟩ := q
  exact ⟨h1, Z2, m2, od2, z1.trans z2, I2, h2⟩
theorem ExI.cons {st : Stmt} {ss : List Stmt} {N : Gam → Prop} (h : ExS C n sc G st { next := N }) (k : ∀ G', N G' → ExI C n sc cls x dx G' l ss l') : ExI C n sc cls x dx G l (st :: ss) l' := fun A Z mine R env s E od hA hE I S g hx hl => by
  refine wpAny_execs_cons (wpAny_mono (h A Z mine (.it dx od :: R) env s E hA hE I S g) (fun fl s' q => ?_) fun _ _ e => e)
  obtain ⟨Z1, m1, z1, I1, S1, o1⟩ := q
  cases fl with
  | next =>
    obtain ⟨G', h1, g1⟩ := o1
    refine wpAny_mono (k G' h1 A Z1 m1 R env s' E od hA hE I1 S1 g1 (z1 _ _ hx) (UP.mono (.attrs l) z1 hl)) (fun fl s2 q => ?_) fun _ _ e => e
    obtain ⟨h1, Z2, m2, od2, z2, I2, h2⟩ := q
    exact ⟨h1, Z2, m2, od2, z1.trans z2, I2, h2⟩
  | ret v => obtain ⟨P, h, _⟩ := o1; exact h.elim
  | brk => obtain ⟨P, h, _⟩ := o1; exact h.elim
  | cont => obtain ⟨P, h, _⟩ := o1; exact h.elim
theorem ExI.forAttr {self a : Str} {p' p'' p : Pos} {tgt : Expr} {body : List Stmt} {ss : List Stmt} {P : VP} {ps : List VP} {N : Gam → Prop} (J : Nat → Gam) (hs : G.lookup self = some (.val (.is (.ref x)))) (hl : dget l a = some P) (hp : P.plain) (hg : plainGet C.K cls a = true) (hh : hasDictIn C.K cls = true) {at_ : Option Value} (ha : findIn C.K (.ref cls) a = some at_) (hn : noGet C.K at_ = true)
    (hit : OpIter C n P tgt ps false) (h0 : GSub (J 0) G)
    (hb : ∀ i q, ps[i]? = some q → ∃ G1, Asg C n sc true (IsCellOf sc) (J i) tgt q G1 ∧ Ex C n sc G1 body { next := fun X => X = J (i + 1), cont := fun X => X = J (i + 1), brk := N })
    (hend : N (J ps.length)) (k : ∀ G', N G' → ExI C n sc cls x dx G' l ss l') (hd : ((self == ("__debug__" : Str)) || (self == ("__classdict__" : Str))) = false := by rfl) (hs' : ∀ env x, foldedSetIterable (.Attribute (.Name self p') a p'') env x = pure x := by intro _ _; rfl)
    (hbase : ∀ env, attributeBase (.Name self p') a env (eval (.Name self p') env) = eval (.Name self p') env := by intro _; rfl) : ExI C n sc cls x dx G l (.For tgt (.Attribute (.Name self p') a p'') body [] p :: ss) l' := fun A Z mine R env s E od hA hE I S g hx hli => by
  refine wpAny_execs_cons (wpAny_mono (for_core (O := { next := N }) hA hE I S g J (fun Q hQ => ?_) h0 hb hend hs') (fun fl s' q => ?_) fun _ _ e => e)
  · rw [arm_eval_Attribute, hbase env]
    obtain ⟨w, r, hw'⟩ := g self _ hs
    cases (show w = .ref x from hw')
    rw [Bool.or_eq_false_iff] at hd
    refine wpAny_bind (wpAny_Name (rd_load hE I r ?_ hd.2) hd.1)
    obtain ⟨es, m, rfl, h4⟩ := hli
    obtain ⟨w, h5, h6⟩ := (getL_of h4 a).1 P hl
    refine wpAny_bind (wpAny_standAt (wpAny_bind (wpAny_holding ?_)))
    have hod := I.ok (.it dx _) (List.mem_append_right _ (.head _))
    refine get_value I.kin (I.inst hx hod) (plainGet_of hg).1 (findObj_own hh ha hn h5) (hp _ _ h6) ?_
    refine wpAny_bind (wpAny_letTemporaryGo (wpAny_pure ?_))
    exact hit A Z _ _ w Q E hA (I.tok _) h6 fun Z' It rs s' z J Y _ => hQ Z' It rs s' z J Y
  · obtain ⟨Z1, m1, z1, I1, S1, o1⟩ := q
    cases fl with
    | next =>
      obtain ⟨G', h1, g1⟩ := o1
      refine wpAny_mono (k G' h1 A Z1 m1 R env s' E od hA hE I1 S1 g1 (z1 _ _ hx) (UP.mono (.attrs l) z1 hli)) (fun fl s2 q => ?_) fun _ _ e => e
      obtain ⟨h1, Z2, m2, od2, z2, I2, h2⟩ := q
      exact ⟨h1, Z2, m2, od2, z1.trans z2, I2, h2⟩
    | ret v => obtain ⟨P, h, _⟩ := o1; exact h.elim
    | brk => obtain ⟨P, h, _⟩ := o1; exact h.elim
    | cont => obtain ⟨P, h, _⟩ := o1; exact h.elim
theorem InitOk.body {fI : Addr} {o : Obj} {fd : FuncData} {body : List Stmt} {xs : List Str} {ps : List VP}
    (hK : C.K.lookup fI = some o) (hd : o.data = .func fd) (hcd : codeIn C.K fd.code fd.qualname = true) (hb : fd.body = .stmts body) (hbind : ∀ vs : List Value, vs.length = ps.length + 1 → bindArgs fd ⟨vs, []⟩ = pure (xs.zip vs))
    (hg : fd.globals = mainGlobals) (hbl : fd.builtins = builtinsNs) (hclo : fd.closure = []) (hlen : xs.length = ps.length + 1) (hxs : xs.Nodup)
    (hkind : (xs.all fun x => fd.scope.names.lookup x == some .local || fd.scope.names.lookup x == some .cell) = true) (hnd : ((cellsFrom 0 fd.scope.names []).map Prod.fst).Nodup)
    (h : ∀ x dx, ExI C n fd.scope cls x dx (xs.zip (Ent.val (.is (.ref x)) :: ps.map Ent.val)) [] body l)
    (hco : fd.scope.isCoroutine = false := by rfl) (hgen : fd.scope.isGenerator = false := by rfl) (hk : fd.scope.kind = .function := by rfl) : InitOk C (n + 1) fI cls ps l := fun A Z own s x dx od vs Rr hA I hx hl hv hR => by
  refine code_body (ps := .is (.ref x) :: ps) hK hd hcd hb hbind hg hbl hclo hlen hxs hkind hnd hA I (.cons rfl hv) (fun env s₁ mine hA' hE Inew S g _ => ?_) hco hgen hk
  refine wpAny_mono (h x dx (A.deeper env) Z mine own env s₁ _ od hA' hE Inew S (g.up .rfl (fun _ h => List.mem_append_left _ h) fun _ h => h) hx hl) (fun fl s' q => ?_) fun _ _ e => e
  obtain ⟨rfl, Z', m', od', z, I', hl'⟩ := q
  exact hR s' Z' od' z (I'.sub (List.sublist_append_right m' _)) hl'
end Mine
end

section
open PySem PySem.W PyProof.Rows PySem.SeqAt
set_option autoImplicit false
namespace Mine
variable {C : Cx} {Z Z' : Fz} {own mine R : List Res} {s : Shared} {n : Nat} {sc : Scope} {G : Gam}
noncomputable def AsgS (C : Cx) (n : Nat) (sc : Scope) (G : Gam) (ts : List Expr) (P : VP) (G' : Gam) : Prop :=
  ∀ (A : Around) (Z : Fz) (mine R : List Res) (env : Env) (s : Shared) (v : Value) (Q : Unit → Shared → Prop) (E : Value → Shared → Prop), Room n A → EnvIs sc env → Inv C Z (mine ++ R) s → StOk (IsCellOf sc) env mine → EnvOk G env Z (mine ++ R) mine → P.ok Z v →
    (∀ Z' mine' s', Z.le Z' → Inv C Z' (mine' ++ R) s' → StOk (IsCellOf sc) env mine' → EnvOk G' env Z' (mine' ++ R) mine' → Q () s') → wpAny C.M A (assignAll v (ts.map fun t => assign t env)) Q E s
theorem AsgS.one {t : Expr} {P : VP} {G' : Gam} (h : Asg C n sc true (IsCellOf sc) G t P G') : AsgS C n sc G [t] P G' := fun A Z mine R env s v Q E hA hE I S g hv hQ =>
  h A Z mine R env s v Q E hA hE I S g hv fun Z' m' s' z I' S' g' _ => hQ Z' m' s' z I' S' g'
theorem AsgS.cons {t t2 : Expr} {ts : List Expr} {P : VP} {G1 G2 : Gam} (h : Asg C n sc true (IsCellOf sc) G t P G1) (hs : AsgS C n sc G1 (t2 :: ts) P G2) : AsgS C n sc G (t :: t2 :: ts) P G2 := fun A Z mine R env s v Q E hA hE I S g hv hQ => by
  show wpAny C.M A (do holding [v] (assign t env v); assignAll v ((t2 :: ts).map fun t => assign t env)) Q E s
  refine wpAny_bind (wpAny_holding (h A Z mine R env s v _ E hA hE I S g hv fun Z1 m1 s1 z1 I1 S1 g1 _ => ?_))
  exact hs A Z1 m1 R env s1 v Q E hA hE I1 S1 g1 (VP.mono _ z1 hv) fun Z2 m2 s2 z2 I2 S2 g2 => hQ Z2 m2 s2 (z1.trans z2) I2 S2 g2
theorem ExS.asgs {ts : List Expr} {e : Expr} {p : Pos} {P : VP} {G' : Gam} {O : Out} (he : Ev C n sc G e P) (ha : AsgS C n sc G ts P G') (ho : O.next G') (hsw : ∀ env, EnvIs sc env → swappedStores ts e env = pure none := by intro _ _; rfl) (hs : ∀ env, EnvIs sc env → swapsWithSole ts e p.line env = pure false := by intro _ _; rfl)
    (hat : ∀ env, assignEach ts env = ts.map fun t => (false, PySem.assign t env) := by intro _; rfl) : ExS C n sc G (.Assign ts e p) O := fun A Z mine R env s E hA hE I S g => by
  rw [arm_exec_Assign]
  refine wpAny_bind (wpAny_standAt (wpAny_bind (wpAny_of_eq (hs env hE) ?_)))
  rw [if_neg Bool.false_ne_true]
  refine wpAny_bind (wpAny_mono (he A Z _ env s E hA hE I g.ev) (fun v s1 q => ?_) fun _ _ e => e)
  obtain ⟨Z1, z1, I1, p1⟩ := q
  refine wpAny_bind (wpAny_of_eq (hsw env hE) ?_)
  rw [hat env, List.map_map]
  refine wpAny_bind ?_
  exact ha A Z1 mine R env s1 v _ E hA hE I1 S (g.z z1) p1 fun Z2 m2 s2 z2 I2 S2 g2 => wpAny_pure ⟨Z2, m2, z1.trans z2, I2, S2, _, ho, g2⟩
noncomputable def pushN : List Str → List VP → Gam → Gam
  | x :: xs, P :: ps, G => pushN xs ps ((x, .val P) :: G)
  | _, _, G => G
theorem bind_names {A : Around} {env : Env} {E : Value → Shared → Prop} (hE : EnvIs sc env) : ∀ {xs : List Str} {ps : List VP} {vs : List Value} {G : Gam} {Z : Fz} {mine : List Res} {s : Shared} {Q : Unit → Shared → Prop}, (xs.all fun x => sc.names.lookup x == some .local) = true → Inv C Z (mine ++ R) s → StOk (IsCellOf sc) env mine → EnvOk G env Z (mine ++ R) mine → Oks Z ps vs → xs.length = ps.length →
    (∀ mine' s', Inv C Z (mine' ++ R) s' → StOk (IsCellOf sc) env mine' → EnvOk (pushN xs ps G) env Z (mine' ++ R) mine' → Q () s') → wpAny C.M A (assignInOrder (xs.map fun x => bindName env x) vs) Q E s
  | [], _, _, _, _, _, _, _, _, I, S, g, hv, hl, hQ => by
    cases hv with
    | nil => exact wpAny_pure (hQ _ _ I S g)
    | cons a b => simp at hl
  | x :: xs, _, _, _, _, _, _, _, hx, I, S, g, hv, hl, hQ => by
    cases hv with
    | nil => simp at hl
    | @cons P v ps vs a b =>
      rw [List.all_cons, Bool.and_eq_true] at hx
      show wpAny C.M A (do holding vs (bindName env x v); assignInOrder (xs.map fun x => bindName env x) vs) _ E _
      refine wpAny_bind (wpAny_holding ?_)
      unfold bindName
      refine wpAny_bind (wpAny_holding (wpAny_point (wpAny_bind ?_)))
      refine st_store true (e := .val P) hE I S g (.inl (by simpa using hx.1)) a fun m' s' I' S' g' _ => wpAny_point ?_
      exact bind_names hE hx.2 I' S' g' b (by simpa using hl) hQ
theorem Oks.rev {ps : List VP} {vs : List Value} (h : Oks Z ps vs) : Oks Z ps.reverse vs.reverse := by
  induction h with
  | nil => exact .nil
  | cons a b ih => rw [List.reverse_cons, List.reverse_cons]; exact ih.append (.cons a .nil)
theorem ExS.swap {t e : Expr} {p : Pos} {xs : List Str} {ps : List VP} {O : Out} (he : Ev C n sc G e (.tup ps)) (hl : xs.length = ps.length) (hx : (xs.reverse.all fun x => sc.names.lookup x == some .local) = true := by rfl) (ho : O.next (pushN xs.reverse ps.reverse G)) (hsw : ∀ env, EnvIs sc env → swappedStores [t] e env = pure (some xs)) (hs : ∀ env, EnvIs sc env → swapsWithSole [t] e p.line env = pure false := by intro _ _; rfl) : ExS C n sc G (.Assign [t] e p) O := fun A Z mine R env s E hA hE I S g => by
  rw [arm_exec_Assign]
  refine wpAny_bind (wpAny_standAt (wpAny_bind (wpAny_of_eq (hs env hE) ?_)))
  rw [if_neg Bool.false_ne_true]
  refine wpAny_bind (wpAny_mono (he A Z _ env s E hA hE I g.ev) (fun v s1 q => ?_) fun _ _ e => e)
  obtain ⟨Z1, z1, I1, a, o, rfl, h2, ⟨vs, m, h3, h4, h5⟩, nm⟩ := q
  refine wpAny_bind (wpAny_of_eq (hsw env hE) ?_)
  have hsz := h5.sz
  refine wpAny_bind (wpAny_rule (wpAny_bind ?_))
  rw [show xs.length = vs.size by omega]
  refine wpAny_unpackItems_tuple hA.hh ⟨o, I1.zle _ _ h2, h3, m, h4⟩ fun h' hk => ?_
  have J : Inv C Z1 (mine ++ R) { s1 with heap := h' } := I1.keeps (tk := s1.toks) fun b o e => hk b o (Nat.ne_of_lt (Heap.lt_size e)) e
  refine wpAny_bind ?_
  exact bind_names hE hx J S (g.z z1) h5.rev (by simpa using hl) fun m' s' I' S' g' => wpAny_pure ⟨Z1, m', z1, I', S', _, ho, g'⟩
end Mine
end

section
open PySem PySem.W PyProof.Rows PySem.SeqAt
set_option autoImplicit false
namespace Mine
variable {C : Cx} {Z Z' : Fz} {own mine R : List Res} {s : Shared} {n : Nat} {sc : Scope} {G : Gam}
noncomputable def Fz.del (Z : Fz) (c : Addr) : Fz := fun a => if a = c then none else Z a
noncomputable def VP.thaws (P : VP) (U : UP) : Prop := ∀ (Z : Fz) (c : Addr) (o : Obj) (v : Value), Z c = some o → U.ok Z o → P.ok Z v → P.ok (Fz.del Z c) v
theorem thaws_int {i : Int} {U : UP} : (VP.int i).thaws U := fun _ _ _ _ _ _ h => h
theorem thaws_str {i : Str} {U : UP} : (VP.str i).thaws U := fun _ _ _ _ _ _ h => h
theorem Oks.flat {α : Type} {P : α → VP} (hP : ∀ x Z Z' v, (P x).ok Z v → (P x).ok Z' v) : ∀ {xs : List α} {vs : List Value}, Oks Z (xs.map P) vs → Oks Z' (xs.map P) vs
  | [], _, h => by cases h; exact .nil
  | x :: xs, _, h => by
    cases h with
    | cons a b => exact .cons (hP _ _ _ _ a) (Oks.flat hP b)
theorem thaws_tup {α : Type} {P : α → VP} (hP : ∀ x Z Z' v, (P x).ok Z v → (P x).ok Z' v) {xs : List α} {l : List VP} : (VP.tup (xs.map P)).thaws (.list l) := fun Z c o v hc hu hv => by
  obtain ⟨a, q, rfl, h2, ⟨vs, m, h3, h4, h5⟩, nm⟩ := hv
  obtain ⟨ws, k, e, _⟩ := hu
  have hne : a ≠ c := fun h => by
    rw [h, hc] at h2; cases h2
    rw [e] at h3; injection h3 with h3; exact absurd h3 (by decide)
  exact ⟨a, q, rfl, by unfold Fz.del; rw [if_neg hne]; exact h2, ⟨vs, m, h3, h4, Oks.flat hP h5⟩, nm⟩
theorem Inv.thaw {c : Addr} {o : Obj} {x : Str} (I : Inv C Z own s) (hc : Z c = some o) (h0 : C.s0.heap.get? c = none) : Inv C (Fz.del Z c) (.ob x c o :: own) s := by
  refine ⟨I.shape, ⟨I.bare.at_, by unfold Fz.del; split <;> first | rfl | exact I.bare.z, fun hm => (List.mem_cons.mp hm).elim (fun e => by have := I.bare.z; rw [e] at this; rw [show Z c = none from this] at hc; cases hc) I.bare.off⟩, fun a ob e => ?_, fun a ob e => ?_, fun r hr => ?_, fun r hr => ?_, ?_⟩
  · have hne : a ≠ c := fun h => by rw [h, h0] at e; cases e
    unfold Fz.del; rw [if_neg hne]; exact I.base a ob e
  · unfold Fz.del at e
    split at e
    · cases e
    · exact I.zle a ob e
  · rcases List.mem_cons.mp hr with q | q
    · subst q; exact I.zle _ _ hc
    · exact I.ok r q
  · rcases List.mem_cons.mp hr with q | q
    · subst q; show Fz.del Z c c = none; unfold Fz.del; rw [if_pos rfl]
    · show Fz.del Z c r.addr = none; unfold Fz.del; split
      · rfl
      · exact I.off r q
  · rw [List.map_cons, List.nodup_cons]
    refine ⟨fun hm => ?_, I.nd⟩
    obtain ⟨r, hr, e⟩ := List.mem_map.mp hm
    have := I.off r hr
    rw [show r.addr = c from e, hc] at this; cases this
theorem Ev.borrow {x : Str} {U : UP} {e : Expr} {P : VP} (hx : G.lookup x = some (.own U)) (h : Ev C n sc ((x, .val (.of U)) :: G) e P) (hp : P.thaws U) : Ev C n sc G e P := fun A Z own env s E hA hE I g => by
  obtain ⟨c, o, r, h2, h3, h4⟩ := own_at g hx
  obtain ⟨a, b, rfl⟩ := List.append_of_mem h2
  have hperm : (a ++ Res.ob x c o :: b).Perm (Res.ob x c o :: (a ++ b)) := List.perm_middle
  have hZ : Z c = none := I.off _ (List.mem_append_right _ (.head _))
  have h0 : C.s0.heap.get? c = none := by
    cases q : C.s0.heap.get? c with
    | none => rfl
    | some o' => have := I.base c o' q; rw [hZ] at this; cases this
  have I0 := I.perm hperm.symm
  obtain ⟨I1, z1⟩ := I0.freeze
  have up : ∀ r ∈ a ++ Res.ob x c o :: b, r ≠ .ob x c o → r ∈ a ++ b := fun r hr hne => by
    rcases List.mem_append.mp hr with q | q
    · exact List.mem_append_left _ q
    · rcases List.mem_cons.mp q with q | q
      · exact absurd q hne
      · exact List.mem_append_right _ q
  have rd : ∀ {y v}, Rd env (a ++ Res.ob x c o :: b) y v → Rd env (a ++ b) y v := fun r => by
    rcases r with ⟨k, m, d, f⟩ | ⟨k, d, f, i⟩
    · exact .inl ⟨k, m, up _ d nofun, f⟩
    · exact .inr ⟨k, d, f, up _ i nofun⟩
  have g1 : EnvOk ((x, .val (.of U)) :: G) env (Z.put c o) (a ++ b) (a ++ b) := fun y e hy => by
    by_cases hyx : y = x
    · subst hyx
      rw [lookup_cons_eq] at hy; cases hy
      exact ⟨.ref c, rd r, c, o, rfl, Fz.put_self, U.mono z1 h3, h4⟩
    · rw [lookup_cons_ne hyx] at hy
      obtain ⟨v, r', k'⟩ := g y e hy
      refine ⟨v, rd r', ?_⟩
      cases e with
      | val P => exact P.mono z1 k'
      | own V =>
        obtain ⟨c', o', e1, e2, e3, e4⟩ := k'
        exact ⟨c', o', e1, up _ e2 (by intro e; cases e; exact hyx rfl), V.mono z1 e3, e4⟩
  refine wpAny_mono (h A (Z.put c o) (a ++ b) env s E hA hE I1 g1) (fun v s' q => ?_) fun _ _ e => e
  obtain ⟨Z', z', I', p'⟩ := q
  have hc' : Z' c = some o := z' _ _ Fz.put_self
  refine ⟨Fz.del Z' c, fun d ob e => ?_, (I'.thaw (x := x) hc' h0).perm hperm, hp Z' c o v hc' (U.mono (z1.trans z') h3) p'⟩
  have hne : d ≠ c := fun q => by rw [q, hZ] at e; cases e
  unfold Fz.del; rw [if_neg hne]; exact z' _ _ (z1 _ _ e)
noncomputable def EvF (C : Cx) (n : Nat) (sc : Scope) (G : Gam) (e : Expr) (U : UP) : Prop :=
  ∀ (A : Around) (Z : Fz) (own : List Res) (env : Env) (s : Shared) (E : Value → Shared → Prop), Room n A → EnvIs sc env → Inv C Z own s → EnvOk G env Z own own →
    wpAny C.M A (eval e env) (fun v s' => ∃ Z' c o, Z.le Z' ∧ Inv C Z' (.it c o :: own) s' ∧ v = .ref c ∧ U.ok Z' o ∧ Nm c) E s
theorem ExS.ownF {x : Str} {e : Expr} {p p' : Pos} {O : Out} {U : UP} (h : EvF C n sc G e U) (ho : O.next ((x, .own U) :: G)) (hx : (sc.names.lookup x == some .local || sc.names.lookup x == some .cell) = true := by rfl)
    (hs : ∀ env, EnvIs sc env → swapsWith e (some (.Name x p')) p.line env = pure false := by intro _ _; rfl) : ExS C n sc G (.Assign [.Name x p'] e p) O := fun A Z mine R env s E hA hE I S g => by
  refine wpAny_Assign_Name (wpAny_mono (h A Z _ env s E hA hE I g.ev) (fun v s1 q => ?_) fun _ _ e => e) (hs env hE)
  obtain ⟨Z1, c, o, z1, I1, rfl, u1, nm⟩ := q
  have J : Inv C Z1 ((.ob x c o :: mine) ++ R) s1 := I1.retag (r' := .ob x c o) (I1.ok (.it c o) (.head _)) rfl
  refine st_store true (mine := .ob x c o :: mine) (e := .own U) hE J (S.sup fun _ h => .tail _ h) ((g.z z1).cons) (stable hx) ⟨c, o, rfl, .head _, u1, nm⟩ fun m' s' I' S' g' ob => ?_
  exact ⟨Z1, m', z1, I', S', _, ho, g'⟩
theorem EvF.listD {es : List Expr} {pos : Pos} {ps : List VP} (h : EvA C n sc G pos es ps) (hl : ps.length ≤ sizeLine := by first | decide | (simp only [List.length_cons, List.length_nil]; decide)) : EvF C n sc G (.List es pos) (.list ps) := fun A Z own env s E hA hE I g => by
  refine wpAny_List (wpAny_mono (h A Z own env s E hA hE I g) (fun vs s1 q => ?_) fun _ _ e => e)
  obtain ⟨Z1, z1, I1, p1⟩ := q
  exact ⟨by rw [← p1.len]; exact hl, Z1, _, _, z1, I1.pushIt (tk := s1.toks) _ rfl, rfl, ⟨vs.toArray, 0, rfl, p1⟩, I1.nm⟩
theorem EvF.addOwn {x : Str} {xp pos : Pos} {e : Expr} {ps qs : List VP} (hx : G.lookup x = some (.own (.list ps))) (he : Ev C n sc G e (.list qs)) (hsz : ps.length + qs.length ≤ sizeLine) (hn : ((x == ("__debug__" : Str)) || (x == ("__classdict__" : Str))) = false := by rfl) : EvF C n sc G (.BinOp (.Name x xp) .Add e pos) (.list (ps ++ qs)) := fun A Z own env s E hA hE I g => by
  rw [Bool.or_eq_false_iff] at hn
  obtain ⟨c, o, r, h2, h3, h4⟩ := own_at g hx
  refine wpAny_BinOp (wpAny_Name (rd_load hE I r ?_ hn.2) hn.1)
  refine wpAny_mono (he A Z own env s E hA hE I g) (fun v s1 q => ?_) fun _ _ e => e
  obtain ⟨Z1, z1, I1, p1⟩ := q
  obtain ⟨b, q, rfl, g2, ⟨ws, m', rfl, k2⟩, _⟩ := p1
  obtain ⟨vs, m, rfl, k1⟩ := (UP.list ps).mono z1 h3
  have l1 := Oks.sz k1
  have l2 := Oks.sz k2
  have ha := I1.ok (.ob x c _) h2
  have hb := I1.zle _ _ g2
  refine concat_meets ⟨_, ha, rfl⟩ ⟨_, hb, rfl⟩ noFill_list_add seq_list_add PySem.F.slot_list_add PySem.F.entry_list_add (PySem.F.args_list_add_2 _ _) (AutoSeq1.list___add___list_list_0 c vs m b ws m' (by omega)) ⟨ha, hb, ?_⟩
  exact ⟨Z1, _, _, z1, I1.pushIt (tk := s1.toks) _ rfl, rfl, ⟨_, 0, rfl, by rw [Array.toList_append]; exact k1.append k2⟩, I1.nm⟩
end Mine
end

section
open PySem PySem.W PyProof.Rows PySem.SeqAt
set_option autoImplicit false
namespace Mine
variable {C : Cx} {Z Z' : Fz} {own mine R : List Res} {s : Shared} {n : Nat} {sc : Scope} {G : Gam}
theorem ExS.try_ {body : List Stmt} {h0 : ExceptHandler} {hs : List ExceptHandler} {p : Pos} {O : Out} (h : Ex C n sc G body O) : ExS C n sc G (.Try body (h0 :: hs) [] [] p) O := fun A Z mine R env s E hA hE I S g => by
  refine wpAny_Try_except (wpAny_mono (h A Z mine R env s _ hA hE I S g) (fun fl s' q => ?_) fun _ _ e => e)
  cases fl with
  | next => exact wpAny_execs_nil q
  | ret v => exact q
  | brk => exact q
  | cont => exact q
noncomputable def enumP (ps : List VP) : List (List VP) := ps.zipIdx.map fun q => [VP.int q.2, q.1]
theorem EvIter.enum {f e : Expr} {pos : Pos} {es : List Expr} {k : Nat} {tp : Pos} {ps : List VP} {b : Bool} (hf : Ev C n sc G f (.is (.type "enumerate"))) (he : EvA C n sc G pos [e] [.list ps]) (hn : NoStar [e])
    (hev : ∀ env, eval (.Call f [e] [] pos) env = (do callWith pos (← eval f env) [] (backTo pos (starEach [e] env)) (backToKw pos (keywordEach [] env))) := by intro _; rfl) : EvIter C n sc G (.Call f [e] [] pos) (.Tuple es k tp) ((enumP ps).map VP.tup) b := fun A Z own env s Q E hA hE I g hQ => by
  rw [hev env]
  refine wpAny_bind (wpAny_mono (hf A Z own env s E hA hE I g) (fun v s1 q => ?_) fun _ _ e => e)
  obtain ⟨Z1, z1, I1, p1⟩ := q
  cases (show v = .type "enumerate" from p1)
  show wpAny C.M A (callWith pos (.type "enumerate") [] (backTo pos (starEach [e] env)) []) _ _ _
  refine PySem.callWith_type (hn pos env) (evalArgs_of hn ?_)
  refine wpAny_mono (he A Z1 own env s1 E hA hE I1 (g.z z1)) (fun vs s2 q => ?_) fun _ _ e => e
  obtain ⟨Z2, z2, I2, p2⟩ := q
  obtain ⟨v, rfl, l, o, rfl, h2, ⟨items, m, rfl, hk⟩, nm⟩ := one_arg p2
  have hlt : l < s2.heap.objs.size := Heap.lt_size (I2.zle _ _ h2)
  refine call_enumerate_list ⟨_, I2.zle _ _ h2, rfl, m, rfl⟩ fun h' hen hit hsz hkeep => ?_
  refine wpAny_pyIter_enum hen ?_
  generalize hIt : s2.heap.objs.size = it at hen hit hlt hsz
  have hgit : ∃ o, h'.get? it = some o := let ⟨o, a, _⟩ := hit; ⟨o, a⟩
  have J : Inv C Z2 (its (rsOf h' [it + 1, it]) ++ own) { s2 with heap := h', toks := s2.toks } := by
    refine I2.addMany hkeep (fun r hr => ?_) (fun r hr => ?_) ?_
    · obtain ⟨d, hd, rfl⟩ := of_mem_rsOf hr
      rw [hIt]
      rcases List.mem_cons.mp hd with q | q
      · subst q; exact Nat.le_succ _
      · rw [List.mem_singleton.mp q]; exact Nat.le_refl _
    · obtain ⟨d, hd, rfl⟩ := of_mem_rsOf hr
      show h'.get? d = some ((h'.get? d).getD default)
      have : ∃ o, h'.get? d = some o := by
        rcases List.mem_cons.mp hd with q | q
        · subst q; exact ⟨_, hen⟩
        · rw [List.mem_singleton.mp q]; exact hgit
      obtain ⟨o, e⟩ := this
      rw [e]; rfl
    · rw [rsOf_addr]; simp
  have hl2 := Oks.sz hk
  have W : ∀ A : Around, A.handled = none → _ := fun A hh => WalksT.enumerate (prog := C.prog) (w := C.w) (A := A) hh (it + 1) it l (Nat.succ_ne_self it) (Nat.ne_of_lt (Nat.lt_succ_of_lt hlt)) (Nat.ne_of_lt hlt) items
  have hst : (∃ old, IsEnum h' (it + 1) it ((0 : Nat) : Int) old) ∧ h'.IsListIter it l 0 ∧ h'.IsList l items := ⟨⟨_, hen⟩, hit, ⟨_, hkeep _ _ (I2.zle _ _ h2), rfl, m, rfl⟩⟩
  have hz : ∀ b ∈ [it + 1, it, l], b ∉ [it + 1, it] → ∀ o', h'.get? b = some o' → Z2 b = some o' := fun b hb hw o' eo => by
    have hbl : b = l := by
      rcases List.mem_cons.mp hb with q | q
      · exact absurd (by rw [q]; exact .head _) hw
      · rcases List.mem_cons.mp q with q | q
        · exact absurd (by rw [q]; exact .tail _ (.head _)) hw
        · exact List.mem_singleton.mp q
    subst hbl
    rw [hkeep _ _ (I2.zle _ _ h2)] at eo; cases eo; exact h2
  have Y := Yields.walksT (Z := Z2) (C := C) (elts := es) (x1 := k) (tpos := tp) (ps := enumP ps) W (by unfold enumP; simp; exact hl2) (fun i vs p hv hp => ?_)
    (fun b hb => ?_) (fun i h st a ha => ?_) (fun i T h st a ha => ?_) items.size 0 Z2 h' .rfl (by omega) hst hz
  · refine hQ Z2 (it + 1) (rsOf h' [it + 1, it]) _ (z1.trans z2) J (by simpa using Y) fun _ => ?_
    intro A Z3 X Y' s' Q E hh z3 I3 hq
    refine (W A hh).self 0 s' Q E ((W A hh).frame 0 _ _ hst fun b hb o' eo => ?_) hq
    by_cases hw : b ∈ [it + 1, it]
    · have := I3.ok (.it b ((h'.get? b).getD default)) (List.mem_append_left _ (List.mem_append_right _ (mem_rsOf hw)))
      rw [eo] at this; exact this
    · exact I3.zle _ _ (z3 _ _ (hz b hb hw o' eo))
  · obtain ⟨t, x, e1, rfl⟩ := hv
    unfold enumP at hp
    rw [List.getElem?_map, List.getElem?_zipIdx] at hp
    cases hpi : ps[i]? with
    | none => rw [hpi] at hp; cases hp
    | some P =>
      rw [hpi] at hp
      cases hp
      exact .cons ⟨t, by simp⟩ (.cons (Oks.toget hk e1 hpi) .nil)
  · rcases List.mem_cons.mp hb with q | q
    · subst q; exact .inl (.head _)
    · rcases List.mem_cons.mp q with q | q
      · subst q; exact .inl (.tail _ (.head _))
      · rw [List.mem_singleton.mp q]; exact .inr ⟨_, h2⟩
  · obtain ⟨⟨old, e1⟩, ⟨o, e2, _⟩, _⟩ := st
    rcases List.mem_cons.mp ha with q | q
    · subst q; exact ⟨_, e1⟩
    · rw [List.mem_singleton.mp q]; exact ⟨_, e2⟩
  · obtain ⟨⟨old, e1⟩, ⟨o, e2, _⟩, _⟩ := st
    rcases List.mem_cons.mp ha with q | q
    · subst q; exact ⟨_, e1⟩
    · rw [List.mem_singleton.mp q]; exact ⟨_, e2⟩
end Mine
end

section
open PySem PySem.W PyProof.Rows PySem.SeqAt
set_option autoImplicit false
namespace Mine
variable {C : Cx} {Z Z' : Fz} {own mine R : List Res} {s : Shared} {n : Nat} {sc : Scope} {G : Gam}
theorem flat_len {α β : Type} {k : Nat} {F : α → List β} : ∀ {l : List α}, (∀ x ∈ l, (F x).length ≤ k) → (l.flatMap F).length ≤ k * l.length
  | [], _ => by simp
  | x :: l, h => by
    rw [List.flatMap_cons, List.length_append, List.length_cons]
    have h1 := h x (.head _)
    have h2 := flat_len (F := F) (l := l) fun y hy => h y (.tail _ hy)
    rw [Nat.mul_succ]; omega
theorem turn2 {elt t0 it0 t1 it1 : Expr} {ifs0 ifs1 : List Expr} {scope : Scope} {pos : Pos} (env : Env) (it : Value) (D : Addr) : compTurn (.ListComp elt [⟨t0, it0, ifs0, 0⟩, ⟨t1, it1, ifs1, 0⟩] scope pos) 0 it (.ref D) env = turnForm it0 t0 ifs0 (do
        let x ← eval it1 env
        standAt it1.pos
        let x ← foldedSetIterable it1 env x
        let _ ← runOwn (.compStart (.ListComp elt [⟨t0, it0, ifs0, 0⟩, ⟨t1, it1, ifs1, 0⟩] scope pos) 1 (← holding [x] (pyIter x)) (.ref D) env) env) it env (.compLoop (.ListComp elt [⟨t0, it0, ifs0, 0⟩, ⟨t1, it1, ifs1, 0⟩] scope pos) 0 it (.ref D) env) := by
  unfold compTurn turnForm
  simp only [List.getElem?_cons_zero, List.getElem?_cons_succ, bne_self_eq_false, Bool.false_eq_true, if_false, bind_assoc, pure_bind, Nat.zero_add]
  rfl
theorem CompIs.list2 {α β : Type} {xs : List α} {ys : α → List β} {P : α → VP} {Q : α → β → VP} {f : α → β → VP} {b0 : α → Bool} {b1 : α → β → Bool} {t0 it0 t1 it1 elt : Expr} {ifs0 ifs1 : List Expr} {scope : Scope} {pos : Pos} {ps : List VP} (Gc : Gam) (hc : CompOk scope sc G Gc) (hit : EvIter C n sc G it0 t0 ps true) (hps : ps = xs.map P) (hsz : xs.length ≤ 1000) (hsz1 : ∀ x ∈ xs, (ys x).length ≤ 1000)
    (hb : ∀ x ∈ xs, ∃ G1, Asg C n (relS scope sc) false (IsCellOf scope) Gc t0 (P x) G1 ∧ GSub Gc G1 ∧ Ifs C n (relS scope sc) G1 ifs0 (b0 x) ∧ (b0 x = true → EvIter C n (relS scope sc) G1 it1 t1 ((ys x).map (Q x)) true ∧
      ∀ y ∈ ys x, ∃ G2, Asg C n (relS scope sc) false (IsCellOf scope) G1 t1 (Q x y) G2 ∧ GSub G1 G2 ∧ Ifs C n (relS scope sc) G2 ifs1 (b1 x y) ∧ (b1 x y = true → Ev C n (relS scope sc) G2 elt (f x y))))
    (hs : ∀ env x, foldedSetIterable it0 env x = pure x := by intro _ _; rfl) (hs1 : ∀ env x, foldedSetIterable it1 env x = pure x := by intro _ _; rfl) :
    CompIs C n sc G (.ListComp elt [⟨t0, it0, ifs0, 0⟩, ⟨t1, it1, ifs1, 0⟩] scope pos) scope (firstIterPos [⟨t0, it0, ifs0, 0⟩, ⟨t1, it1, ifs1, 0⟩] pos) it0 (newList []) (.list ((xs.filter b0).flatMap fun x => ((ys x).filter (b1 x)).map (f x))) := by
  subst hps
  have hbig : 1000 * 1000 + 1000 ≤ sizeLine := by decide
  constructor
  intro A Z own s env use Q' E hA hE I g k
  refine comp_core (U := fun i => .list (((xs.take i).filter b0).flatMap fun x => ((ys x).filter (b1 x)).map (f x))) (o0 := { cls := .type "list", data := .seq #[] }) (fun env acc => do
        let x ← eval it1 env
        standAt it1.pos
        let x ← foldedSetIterable it1 env x
        let _ ← runOwn (.compStart (.ListComp elt [⟨t0, it0, ifs0, 0⟩, ⟨t1, it1, ifs1, 0⟩] scope pos) 1 (← holding [x] (pyIter x)) acc env) env) hc rfl hs
    (fun A s Q E h => wpAny_newObj_type h (by show (0 : Nat) ≤ _; exact Nat.zero_le _)) rfl (fun env it D => turn2 env it D) (fun _ _ _ => rfl) (fun _ _ _ => rfl) hit (fun Z => ⟨#[], 0, rfl, .nil⟩) (fun i q hq => ?_) hA hE I g fun Z' m' o' s' D L m z I' u' => k Z' m' o' s' D L m z I' (by simpa using u')
  obtain ⟨x, hx, rfl⟩ : ∃ x, xs[i]? = some x ∧ P x = q := by rw [List.getElem?_map] at hq; exact Option.map_eq_some_iff.mp hq
  have hxm := List.mem_of_getElem? hx
  obtain ⟨G1, h1, h2, h3, h4⟩ := hb x hxm
  have e2 : xs.take (i + 1) = xs.take i ++ [x] := by rw [List.take_add_one, hx]; rfl
  refine ⟨G1, b0 x, h1, h2, h3, fun hbx => ?_, fun hbx => ?_⟩
  · obtain ⟨h5, h6⟩ := h4 hbx
    have e3 : ((xs.take (i + 1)).filter b0).flatMap (fun x => ((ys x).filter (b1 x)).map (f x)) = ((xs.take i).filter b0).flatMap (fun x => ((ys x).filter (b1 x)).map (f x)) ++ ((ys x).filter (b1 x)).map (f x) := by rw [e2]; simp [hbx]
    have hprev : (((xs.take i).filter b0).flatMap (fun x => ((ys x).filter (b1 x)).map (f x))).length ≤ 1000 * 1000 := by
      refine Nat.le_trans (flat_len (k := 1000) fun y hy => ?_) (Nat.mul_le_mul_left _ ?_)
      · rw [List.length_map]
        exact Nat.le_trans (List.length_filter_le _ _) (hsz1 y (List.mem_of_mem_take (List.mem_filter.mp hy).1))
      · exact Nat.le_trans (List.length_filter_le _ _) (Nat.le_trans (List.length_take_le' _ _) hsz)
    generalize ((xs.take i).filter b0).flatMap (fun x => ((ys x).filter (b1 x)).map (f x)) = prev at *
    refine Em.nest (ps := (ys x).map (Q x)) (fun env acc => do let _ ← PySem.call (.builtin "list.append") [acc, ← eval elt env]) (fun j => .list (prev ++ (((ys x).take j).filter (b1 x)).map (f x))) (by simp) (by rw [e3]; simp) (fun _ _ _ => rfl) (fun _ _ _ => rfl) (fun _ _ _ => rfl) rfl h5 hs1 (fun j q hq => ?_)
    obtain ⟨y, hy, rfl⟩ : ∃ y, (ys x)[j]? = some y ∧ Q x y = q := by rw [List.getElem?_map] at hq; exact Option.map_eq_some_iff.mp hq
    obtain ⟨G2, k1, k2, k3, k4⟩ := h6 y (List.mem_of_getElem? hy)
    have e4 : (ys x).take (j + 1) = (ys x).take j ++ [y] := by rw [List.take_add_one, hy]; rfl
    refine ⟨G2, b1 x y, k1, k2, k3, fun hby => ?_, fun hby => ?_⟩
    · have e5 : prev ++ (((ys x).take (j + 1)).filter (b1 x)).map (f x) = (prev ++ (((ys x).take j).filter (b1 x)).map (f x)) ++ [f x y] := by rw [e4]; simp [hby]
      rw [e5]
      refine Em.list (k4 hby) ?_
      have h7 : (((ys x).take j).filter (b1 x)).length ≤ ((ys x).take j).length := List.length_filter_le _ _
      have h8 : ((ys x).take j).length ≤ (ys x).length := List.length_take_le' _ _
      have h9 := hsz1 x hxm
      rw [List.length_append, List.length_map]; omega
    · rw [e4]; simp [hby]
  · rw [e2]; simp [hbx]
end Mine
end

section
open PySem PySem.W PyProof.Rows PySem.SeqAt
set_option autoImplicit false
namespace Mine
variable {C : Cx} {Z Z' : Fz} {own mine R : List Res} {s : Shared} {n : Nat} {sc : Scope} {G : Gam}
theorem ExS.swap2F {t e1 e2 : Expr} {k : Nat} {tp p : Pos} {x y : Str} {P : VP} {U : UP} {O : Out} (h1 : Ev C n sc G e1 P) (h2 : EvF C n sc G e2 U) (hx : (sc.names.lookup x == some .local) = true := by rfl) (hy : (sc.names.lookup y == some .local) = true := by rfl) (ho : O.next ((x, .val P) :: (y, .own U) :: G))
    (hsw : ∀ env, EnvIs sc env → swappedStores [t] (.Tuple [e1, e2] k tp) env = pure (some [x, y])) (hs : ∀ env, EnvIs sc env → swapsWithSole [t] (.Tuple [e1, e2] k tp) p.line env = pure false := by intro _ _; rfl)
    (hst : ∀ env, backTo tp (starEach [e1, e2] env) = [(false, eval e1 env), (false, eval e2 env)] := by intro _; rfl) : ExS C n sc G (.Assign [t] (.Tuple [e1, e2] k tp) p) O := fun A Z mine R env s E hA hE I S g => by
  rw [arm_exec_Assign]
  refine wpAny_bind (wpAny_standAt (wpAny_bind (wpAny_of_eq (hs env hE) ?_)))
  rw [if_neg Bool.false_ne_true]
  refine wpAny_bind (wpAny_Tuple ?_)
  rw [hst env]
  refine Calls.spliced_cons (wpAny_mono (h1 A Z _ env s E hA hE I g.ev) (fun v s1 q => ?_) fun _ _ e => e)
  obtain ⟨Z1, z1, I1, p1⟩ := q
  refine Calls.spliced_cons (wpAny_mono (h2 A Z1 _ env s1 E hA hE I1 (g.ev.z z1)) (fun w s2 q => ?_) fun _ _ e => e)
  obtain ⟨Z2, c, o, z2, I2, rfl, u2, nm⟩ := q
  refine Calls.spliced_nil ⟨(show 2 ≤ sizeLine by decide), ?_⟩
  have J : Inv C Z2 ((.ob y c o :: mine) ++ R) s2 := I2.retag (r' := .ob y c o) (I2.ok (.it c o) (.head _)) rfl
  have J2 := J.keeps (tk := s2.toks) (h' := s2.heap.push { cls := .type "tuple", data := .seq #[v, .ref c] }) fun b o e => Heap.get?_push_of_some _ e
  have hT : (s2.heap.push { cls := .type "tuple", data := .seq #[v, .ref c] }).IsTuple s2.heap.objs.size #[v, .ref c] := ⟨_, Heap.get?_push_size _ rfl, rfl, 0, rfl⟩
  refine wpAny_bind (wpAny_of_eq (hsw env hE) ?_)
  refine wpAny_bind (wpAny_rule (wpAny_bind ?_))
  refine wpAny_unpackItems_tuple (items := #[v, .ref c]) hA.hh hT fun h' hk => ?_
  have J3 := J2.keeps (tk := s2.toks) (h' := h') fun b o e => hk b o (Nat.ne_of_lt (Heap.lt_size e)) e
  have S1 : StOk (IsCellOf sc) env (.ob y c o :: mine) := S.sup fun _ h => .tail _ h
  have g3 : EnvOk G env Z2 ((.ob y c o :: mine) ++ R) (.ob y c o :: mine) := (g.z (z1.trans z2)).cons
  refine wpAny_bind ?_
  show wpAny C.M A (do holding [v] (bindName env y (.ref c)); assignInOrder [fun v => bindName env x v] [v]) _ E _
  refine wpAny_bind (wpAny_holding ?_)
  unfold bindName
  refine wpAny_bind (wpAny_holding (wpAny_point (wpAny_bind ?_)))
  refine st_store true (e := .own U) hE J3 S1 g3 (.inl (by simpa using hy)) ⟨c, o, rfl, .head _, u2, nm⟩ fun m' s' I' S' g' _ => wpAny_point ?_
  show wpAny C.M A (do holding [] (bindName env x v); assignInOrder [] []) _ E _
  refine wpAny_bind (wpAny_holding ?_)
  unfold bindName
  refine wpAny_bind (wpAny_holding (wpAny_point (wpAny_bind ?_)))
  refine st_store true (e := .val P) hE I' S' g' (.inl (by simpa using hx)) (P.mono z2 p1) fun m2 s3 I3 S3 g4 _ => wpAny_point (wpAny_pure (wpAny_pure ?_))
  exact ⟨Z2, m2, z1.trans z2, I3, S3, _, ho, g4⟩
theorem EvF.list0 {pos : Pos} : EvF C n sc G (.List [] pos) (.list []) := fun A Z own env s E hA hE I g =>
  List_ (Calls.spliced_nil (wpAny_newObj_type ⟨Z, _, _, .rfl, I.pushIt (tk := s.toks) _ rfl, rfl, ⟨#[], 0, rfl, .nil⟩, I.nm⟩ (by show (0 : Nat) ≤ _; exact Nat.zero_le _)))
end Mine
end

section
open PySem PySem.W PyProof.Rows PySem.SeqAt
set_option autoImplicit false
namespace Mine
theorem pick_list {α : Type} (l : List α) (a k : Nat) : ((List.range k).map (a + ·)).filterMap (l[·]?) = (l.drop a).take k := by
  have := pick_run l.toArray a k
  simpa using this
theorem sliceL_upto {α : Type} (l : List α) (k : Nat) (hk : k ≤ l.length) : sliceL l none (some (k : Int)) none = l.take k := by
  have e : sliceBounds none (some (k : Int)) none l.length = (((0 : Nat) : Int), (k : Int), 1) := by
    unfold sliceBounds
    simp only [Option.getD_none, show (1 : Int) > 0 by decide, if_true, show ¬ ((k : Int) < 0) by omega, if_false]
    congr 2
    omega
  unfold sliceL
  rw [e]
  dsimp only
  rw [sliceRange_one, Nat.sub_zero, pick_list, List.drop_zero]
theorem sliceL_from {α : Type} (l : List α) (k : Nat) (hk : k ≤ l.length) : sliceL l (some (k : Int)) none none = l.drop k := by
  have e : sliceBounds (some (k : Int)) none none l.length = ((k : Int), ((l.length : Nat) : Int), 1) := by
    unfold sliceBounds
    simp only [Option.getD_none, show (1 : Int) > 0 by decide, if_true, show ¬ ((k : Int) < 0) by omega, if_false]
    congr 1
    omega
  unfold sliceL
  rw [e]
  dsimp only
  rw [sliceRange_one, pick_list, List.take_of_length_le (by rw [List.length_drop]; omega)]
end Mine
end

section
open PySem PySem.W PyProof.Rows PySem.SeqAt
set_option autoImplicit false
namespace Mine
variable {C : Cx} {Z Z' : Fz} {own mine R : List Res} {s : Shared} {n : Nat} {sc : Scope} {G : Gam}
theorem EvF.dict1 {k v : Expr} {pos : Pos} {x : Str} {P : VP} (hk : Ev C n sc G k (.str x)) (hv : Ev C n sc G v P) : EvF C n sc G (.Dict [some k] [v] pos) (.dict C [(x, P)]) := fun A Z own env s E hA hE I g => by
  refine wpAny_Dict_walk (knd := strKind C.prog C.w) rfl rfl (by simp) (show 1 ≤ 15 by decide) ?_
  have hD := I.nm
  have I1 := I.pushIt (tk := s.toks) { cls := .type "dict", data := .dict #[] } rfl
  have hsz : s.heap.objs.size < (s.heap.push { cls := .type "dict", data := .dict #[] }).objs.size := by rw [Heap.size_push]; exact Nat.lt_succ_self _
  generalize hs1 : ({ s with heap := s.heap.push { cls := .type "dict", data := .dict #[] } } : Shared) = s1 at I1 ⊢
  have g1 : EnvOk G env Z (.it s.heap.objs.size { cls := .type "dict", data := .dict #[] } :: own) (.it s.heap.objs.size { cls := .type "dict", data := .dict #[] } :: own) := g.up .rfl (fun _ h => .tail _ h) fun _ h => .tail _ h
  generalize s.heap.objs.size = D at *
  refine pairTrees_cons_walk (wpAny_mono (hk A Z _ env s1 E hA hE I1 g1) (fun kv s2 q => ?_) fun _ _ e => e)
  obtain ⟨Z2, z2, I2, t, rfl⟩ := q
  refine wpAny_mono (hv A Z2 _ env s2 E hA hE I2 (g1.z z2)) (fun vv s3 q => ?_) fun _ _ e => e
  obtain ⟨Z3, z3, I3, p3⟩ := q
  refine pairTrees_nil_walk ?_
  have ho3 : s3.heap.get? D = some { cls := .type "dict", data := .dict #[] } := I3.ok (.it D _) (.head _)
  refine ⟨[(x, vv)], ⟨strKind_is _ _ x t, rfl, trivial⟩, ⟨_, #[], 0, ho3, ⟨rfl, rfl, rfl⟩, rfl, fun _ h => by simp at h, .nil, List.nodup_nil⟩, fun h' hd' hs' => ?_⟩
  obtain ⟨o', es', ep', e1, e2, e3, e4, e5, e6⟩ := hd'
  have nd := I3.nd
  rw [List.map_cons, List.nodup_cons] at nd
  have J : Inv C Z3 (.it D o' :: own) { s3 with heap := h', toks := s3.toks + 1 } := I3.turns rfl (fun r hr => by
    rcases List.mem_cons.mp hr with q | q
    · subst q; exact e1
    · exact Res.at (I3.ok r (.tail _ q)) fun o e => hs'.extBut _ o (fun q' => nd.1 (List.mem_map.mpr ⟨r, q, q'⟩)) e) (fun a o e => hs'.extBut a o (fun q => by
      have := I3.off (.it D _) (.head _)
      rw [q, show Z3 D = none from this] at e; cases e) (I3.zle a o e)) fun o e => hs'.extBut _ o (I3.bare.ne (r := .it D _) (.head _)) e
  exact ⟨Z3, D, o', z2.trans z3, J, rfl, ⟨es', ep', _, e2, e3, e4, e5, e6, .cons ⟨rfl, p3⟩ .nil⟩, hD⟩
end Mine
end

section
open PySem PySem.W PyProof.Rows PySem.SeqAt
set_option autoImplicit false
set_option maxRecDepth 100000
namespace Mine
theorem lk_list_keys : typeLookup (.type "list") "keys" = pure none := by rw [typeLookup_type, builtinLookup_eq_fast]; kernel_rfl
theorem keys_missing {prog : Program} {w : World} {A : Around} {E : Value → Shared → Prop} {s : Shared} {a : Addr} {vs : Array Value} {n : Nat} {Q : Option Value → Shared → Prop} (hA : A.handled = none) (hx : s.heap.get? a = some { cls := .type "list", data := .seq vs n })
    (h : ∀ h' tk, (∀ b o, s.heap.get? b = some o → h'.get? b = some o) → Q none { s with heap := h', toks := tk }) : wpAny (model prog w) A (getAttr? (.ref a) "keys") Q E s := by
  obtain ⟨hp, g, d, tk, os⟩ := s
  have hT : ∀ tk', (⟨hp, g, d, tk', os⟩ : Shared).TypeIs (.ref a) "list" := fun _ => ⟨_, hx, rfl⟩
  have f1 := sub_AttributeError
  have f3 := F.slot_list_getattribute.lookup
  have f4 := F.slot_list_getattribute.bind (.ref a)
  have f5 := am_list_getattr_none
  unfold getAttr? getAttrBy? getAttrBy
  repeat (any_goals (first | assumption | exact hT _ | ((with_reducible show wpAny _ _ (call (Value.builtin "list.__getattribute__") _ _) _ _ _); refine call_meets F.slot_list_getattribute (hT _) am_entry_list_getattribute (F.args_list_getattribute_2 _ _) (meets_getattribute_miss_list a vs n #[] (Str.ofString "keys") _ lk_list_keys (by decide) (by decide)) ⟨hx, hA, fun h' tk' e hx' => ?_⟩) | wp_step))
  obtain ⟨t', u', he⟩ := hx'.there
  show wpAny _ _ (getattributeRaised _ _ _ _ _ _ _) _ _ _
  unfold getattributeRaised
  repeat (any_goals (first | assumption | wp_step))
  exact h _ _ hx'.keeps
end Mine
end

section
open PySem PySem.W PyProof.Rows PySem.SeqAt
set_option autoImplicit false
set_option maxRecDepth 100000
namespace Mine
variable {C : Cx} {Z Z' : Fz} {own mine R : List Res} {s : Shared} {n : Nat} {sc : Scope} {G : Gam}
theorem entry_dict_update_loop : entryFor table "dict.update.loop" = some Builtin.«dict.update.loop» := entryFor_of_tree (by kernel_rfl)
theorem plain_dict_update_loop : plainId "dict.update.loop" = true := by decide +kernel
noncomputable def pairP (q : Str × VP) : VP := .tup [.str q.1, q.2]
theorem dput_take {l : List (Str × VP)} (nd : (l.map Prod.fst).Nodup) {i : Nat} (h : i < l.length) : dput (l.take i) l[i].1 l[i].2 = l.take (i + 1) := by
  rw [List.take_succ_eq_append_getElem h]
  unfold dput
  rw [if_neg]
  rw [List.any_eq_true]
  rintro ⟨q, hq, e⟩
  obtain ⟨j, hj, rfl⟩ := List.mem_take_iff_getElem.mp hq
  have := List.pairwise_iff_getElem.mp nd j i (by rw [List.length_map]; omega) (by rw [List.length_map]; exact h) (by omega)
  rw [List.getElem_map, List.getElem_map] at this
  exact this (of_decide_eq_true e)
theorem Inv.dset {X Y : List Res} {D : Addr} {o : Obj} {l : List (Str × VP)} {k : Str} {t : Tok} {v : Value} {P : VP} {A : Around} {Q : Unit → Shared → Prop} {E : Value → Shared → Prop} (I : Inv C Z (X ++ (.it D o :: Y)) s) (ho : IsDict C l Z o) (hsz : l.length ≤ sizeLine) (hv : P.ok Z v)
    (h : ∀ s' o', Inv C Z (X ++ (.it D o' :: Y)) s' → IsDict C (dput l k P) Z o' → (∀ b x, b ≠ D → s.heap.get? b = some x → s'.heap.get? b = some x) → Q () s') : wpAny C.M A (dictSet D (.str k t) v) Q E s := by
  have ho2 : s.heap.get? D = some o := I.ok (.it D o) (List.mem_append_right _ (.head _))
  obtain ⟨kvs, ep, hda, hkk⟩ := ho.at ho2
  refine wpAny_dictSet_pairs (knd := strKind C.prog C.w) (hsz := by rw [← hkk.len]; exact hsz) (strKind_is _ _ k t) hda.dictOf fun h' hd' hs' => ?_
  obtain ⟨o', es', ep', e1, e2, e3, e4, e5, e6⟩ := hd'
  refine h _ o' ?_ ⟨es', ep', _, e2, e3, e4, e5, e6, stored_all2 hkk hv⟩ fun b x hb e => hs'.extBut b x hb e
  have nd := I.nd
  rw [List.map_append, List.map_cons, List.nodup_append] at nd
  refine I.turns (tk := s.toks + 1) (by simp [Res.addr]) (fun r hr => ?_) (fun a ob e => hs'.extBut a ob (fun q => ?_) (I.zle a ob e)) fun ob e => hs'.extBut _ ob (I.bare.ne (r := .it D _) (List.mem_append_right _ (.head _))) e
  · rcases List.mem_append.mp hr with hr | hr
    · exact Res.at (I.ok r (List.mem_append_left _ hr)) fun ob e => hs'.extBut _ ob (fun q => nd.2.2 _ (List.mem_map.mpr ⟨r, hr, rfl⟩) D (List.mem_cons_self ..) q) e
    · rcases List.mem_cons.mp hr with hr | hr
      · subst hr; exact e1
      · exact Res.at (I.ok r (List.mem_append_right _ (.tail _ hr))) fun ob e => hs'.extBut _ ob (fun q => (List.nodup_cons.mp nd.2.1).1 (List.mem_map.mpr ⟨r, hr, q⟩)) e
  · have := I.off (.it D o) (List.mem_append_right _ (.head _))
    rw [q, show Z D = none from this] at e; cases e
theorem Inv.dropped {wr : List Addr} {Y : List Res} {h : Heap} (I : Inv C Z (its (rsOf h wr) ++ Y) s) {h' : Heap} {tk : Nat} (k : ∀ b o, b ∉ wr → s.heap.get? b = some o → h'.get? b = some o) : Inv C Z Y { s with heap := h', toks := tk } := by
  have J : Inv C Z Y s := I.sub (List.sublist_append_right _ _)
  have nd := I.nd
  rw [List.map_append, rsOf_addr, List.nodup_append] at nd
  refine J.turns rfl (fun r hr => Res.at (J.ok r hr) fun o e => k _ o (fun ha => nd.2.2 _ ha _ (List.mem_map.mpr ⟨r, hr, rfl⟩) rfl) e) (fun a o e => k a o (fun ha => ?_) (J.zle a o e)) fun o e => k _ o (fun ha => I.bare.ne (List.mem_append_left _ (mem_rsOf ha)) rfl) e
  have := I.off _ (List.mem_append_left _ (mem_rsOf (h := h) ha))
  rw [show Z a = none from this] at e; cases e
theorem dict_loop {l : List (Str × VP)} (nd : (l.map Prod.fst).Nodup) (hl : l.length ≤ 1000) {D la It : Addr} {vs : Array Value} {lo : Obj} (hla : Z la = some lo) (hlo : ∃ k, lo = { cls := .type "list", data := .seq vs k }) (hvs : Oks Z (l.map pairP) vs.toList) {A : Around} (hh : A.handled = none) {Rr : Result → Shared → Prop} :
    ∀ (k i : Nat) (s : Shared) (h : Heap) (o : Obj), l.length - i = k → i ≤ l.length → Inv C Z (its (rsOf h [It]) ++ (.it D o :: own)) s → s.heap.IsListIter It la i → IsDict C (l.take i) Z o → (∀ s' o', Inv C Z (.it D o' :: own) s' → IsDict C l Z o' → Rr (.ok (.ret .none)) s') →
      codeAny C.M A (.builtin "dict.update.loop" ⟨[.ref D, .ref It, rawInt i, .none], []⟩) Rr s := by
  obtain ⟨kk, rfl⟩ := hlo
  have hsz : l.length = vs.size := by have := Oks.sz hvs; rw [List.length_map] at this; exact this
  intro k
  induction k with
  | zero =>
    intro i s h o hk hi I hit ho hR
    have hin : i = l.length := by omega
    subst hin
    have hls : s.heap.IsList la vs := ⟨_, I.zle _ _ hla, rfl, kk, rfl⟩
    have hz := I.off (.it It _) (List.mem_append_left _ (mem_rsOf (.head _)))
    have hne : la ≠ It := fun e => by rw [e] at hla; rw [show Z It = none from hz] at hla; cases hla
    refine codeAny_builtin entry_dict_update_loop ?_
    rw [Around.under_plainId plain_dict_update_loop _]
    show wpAny _ A.in1 (pyNext (.ref It) >>= _) _ _ s
    refine wpAny_bind ((Walks.list (A := A.in1) hh It la hne vs).done s _ _ (hsz ▸ ⟨hit, hls⟩) fun h' tk hk' => ?_)
    exact wpAny_bind (wpAny_pure (wpAny_pure (hR _ o (I.dropped (tk := tk) hk') (by rw [List.take_length] at ho; exact ho))))
  | succ k ih =>
    intro i s h o hk hi I hit ho hR
    have hi' : i < l.length := by omega
    have hls : s.heap.IsList la vs := ⟨_, I.zle _ _ hla, rfl, kk, rfl⟩
    have hz := I.off (.it It _) (List.mem_append_left _ (mem_rsOf (.head _)))
    have hne : la ≠ It := fun e => by rw [e] at hla; rw [show Z It = none from hz] at hla; cases hla
    refine codeAny_builtin entry_dict_update_loop ?_
    rw [Around.under_plainId plain_dict_update_loop _]
    show wpAny _ A.in1 (pyNext (.ref It) >>= _) _ _ s
    refine wpAny_bind ((Walks.list (A := A.in1) hh It la hne vs).item i s _ _ (by omega) ⟨hit, hls⟩ fun v h' tk hv st1 hk' => ?_)
    have I1 := Inv.walked (X := []) I (tk := tk) (fun a ha => by rw [List.mem_singleton.mp ha]; obtain ⟨ob, hob, _⟩ := st1.1; exact ⟨ob, hob⟩) hk'
    obtain ⟨T, oT, rfl, hT, ⟨us, m, hc, hd, hus⟩, _⟩ := Oks.toget hvs hv (p := pairP l[i]) (by rw [List.getElem?_map, List.getElem?_eq_getElem hi']; rfl)
    have hT' := I1.zle _ _ hT
    refine wpAny_bind (wpAny_holding (wpAny_bind (wpAny_tryCatch ?_)))
    unfold Builtin.Dict.pairItems
    refine wpAny_bind (wpAny_typeOf (show Shared.TypeIs _ (.ref T) "tuple" from ⟨oT, hT', hc⟩) ?_)
    rw [if_pos (by decide)]
    refine wpAny_bind (wpAny_seqItems hT' hd (wpAny_pure ?_))
    show wpAny _ _ (match us.toList with | [k, v] => _ | l => _) _ _ _
    generalize us.toList = ul at hus
    cases hus with
    | cons a1 r1 => cases r1 with
      | cons a2 r2 => cases r2 with
        | nil =>
          obtain ⟨t, rfl⟩ := a1
          refine wpAny_holding (I1.dset (X := its (rsOf h' [It])) ho (by rw [List.length_take]; exact Nat.le_trans (Nat.min_le_left _ _) (Nat.le_trans (by omega) (show 1000 ≤ sizeLine by decide))) a2 fun s2 o2 I2 ho2 hk2 => ?_)
          rw [dput_take nd hi'] at ho2
          refine wpAny_pure ⟨plainId_quiet plain_dict_update_loop _, ih (i + 1) s2 h' o2 (by omega) hi' I2 ?_ ho2 hR⟩
          obtain ⟨ob, hob, hcl, hda⟩ := st1.1
          refine ⟨ob, hk2 _ _ (fun e => ?_) hob, hcl, hda⟩
          have nd' := I1.nd
          rw [List.nil_append, List.map_append, rsOf_addr, List.map_cons] at nd'
          rw [List.nodup_append] at nd'
          exact nd'.2.2 It (.head _) D (.head _) e
theorem Fn.dictList {l : List (Str × VP)} (nd : (l.map Prod.fst).Nodup) (hl : l.length ≤ 1000) : Fn C n (.type "dict") [.list (l.map pairP)] (.dict C l) := fun A Z own s vs E hA I hv => by
  obtain ⟨v, rfl, a, o, rfl, h2, ⟨us, k, rfl, hus⟩, nm⟩ := one_arg hv
  refine callType_codes (Q₁ := fun obj s₁ => obj = .ref s.heap.objs.size ∧ s₁ = { s with heap := s.heap.push { cls := .type "dict", data := .dict #[] } }) F.kt_called_dict (F.kt_typeCall_dict_1 _) F.entry_dict_init (kt_code_dict_new _ ⟨rfl, rfl⟩) ?_
  rintro obj s₁ ⟨rfl, rfl⟩
  have hDn := I.nm
  have I1 := I.pushIt (tk := s.toks) { cls := .type "dict", data := .dict #[] } rfl
  have hD := I1.ok (.it _ _) (.head _)
  have hT : Shared.TypeIs { s with heap := s.heap.push { cls := .type "dict", data := .dict #[] } } (.ref s.heap.objs.size) "dict" := ⟨_, hD, rfl⟩
  refine ⟨hT, F.args_dict_init_2 _ _, ?_⟩
  unfold Builtin.«dict.__init__»
  refine wpAny_bind ?_
  unfold Builtin.Dict.selfAndRest
  refine wpAny_bind (wpAny_notOrdered_dict hT ?_)
  show wpAny _ _ (pure (s.heap.objs.size, [Value.ref a])) _ _ _
  refine wpAny_pure ?_
  show wpAny _ _ (Builtin.Dict.updateFrom "dict.__init__" s.heap.objs.size (.ref a) [] .none) _ _ _
  unfold Builtin.Dict.updateFrom
  have ha := I1.zle _ _ h2
  refine wpAny_bind (wpAny_typeOf (show Shared.TypeIs _ (.ref a) "list" from ⟨_, ha, rfl⟩) ?_)
  rw [if_pos (by decide)]
  refine wpAny_bind ?_
  refine keys_missing hA.hh ha fun h' tk hk => ?_
  have I2 := I1.keeps (tk := tk) hk
  rw [if_pos (show Option.isNone (none : Option Value) = true from rfl)]
  refine wpAny_bind (wpAny_rule (wpAny_bind (wpAny_pyIter_list ⟨_, I2.zle _ _ h2, rfl, k, rfl⟩ ?_)))
  have I3 := I2.pushIt (tk := tk) { cls := .type "list_iterator", data := .fields #[.ref a, .int 0 0] } rfl
  have hio := I3.ok (.it _ _) (.head _)
  have hrs : its (rsOf (h'.push { cls := .type "list_iterator", data := .fields #[.ref a, .int 0 0] }) [h'.objs.size]) = [.it h'.objs.size { cls := .type "list_iterator", data := .fields #[.ref a, .int 0 0] }] := by
    show [Res.it h'.objs.size (((h'.push _).get? h'.objs.size).getD default)] = _
    rw [Heap.get?_push_size _ rfl]; rfl
  refine wpAny_pure ⟨plainId_quiet plain_dict_update_loop _, ?_⟩
  refine dict_loop nd hl h2 ⟨k, rfl⟩ hus (own := own) (A := A.in1) hA.hh l.length 0 _ (h'.push { cls := .type "list_iterator", data := .fields #[.ref a, .int 0 0] }) { cls := .type "dict", data := .dict #[] } rfl (Nat.zero_le _) (by rw [hrs]; exact I3) ⟨_, hio, rfl, rfl⟩ ⟨#[], 0, [], ⟨rfl, rfl, rfl⟩, rfl, fun _ h => by simp at h, .nil, List.nodup_nil, .nil⟩ fun s' o' J ho' => ?_
  obtain ⟨J', z⟩ := J.freezeIt
  exact ⟨rfl, _, z, J', _, o', rfl, Fz.put_self, IsDict.mono z ho', hDn⟩
end Mine
end

section
open PySem PySem.W PyProof.Rows
set_option maxRecDepth 100000
set_option maxHeartbeats 8000000
namespace Mine
noncomputable def top (i : Nat) : Stmt := PySem.Challenge.pw_jc0031_01.main.body.getD i (.Pass default)
noncomputable def inCls (s : Stmt) (j : Nat) : Stmt := match s with
  | .ClassDef _ _ _ b _ _ _ _ _ _ _ => b.getD j (.Pass default)
  | s => s
noncomputable def fA (s : Stmt) : Arguments := match s with
  | .FunctionDef _ a _ _ _ _ _ _ _ _ => a
  | _ => ⟨[], [], none, [], [], none, []⟩
noncomputable def fB (s : Stmt) : List Stmt := match s with
  | .FunctionDef _ _ b _ _ _ _ _ _ _ => b
  | _ => []
noncomputable def KK (P : Params) : Frag :=
  [(2, { cls := .none, data := .dict #[] }),
  (3, { cls := .type "dict", data := .dict #[{ hash := PyData.keyHash P "__name__", key := .str "__name__" 165, val := .str "law_jc0031_01" 396 }, { hash := PyData.keyHash P "__doc__", key := .str "__doc__" 166, val := .none }, { hash := PyData.keyHash P "__package__", key := .str "__package__" 167, val := .none }, { hash := PyData.keyHash P "__loader__", key := .str "__loader__" 168, val := .builtin "__main__.__loader__#opaque" }, { hash := PyData.keyHash P "__spec__", key := .str "__spec__" 169, val := .none }, { hash := PyData.keyHash P "__annotations__", key := .str "__annotations__" 170, val := .ref 6 }, { hash := PyData.keyHash P "__builtins__", key := .str "__builtins__" 171, val := .ref 4 }, { hash := PyData.keyHash P "__file__", key := .str "__file__" 173, val := .str "/claim/cut.py" 172 }, { hash := PyData.keyHash P "__cached__", key := .str "__cached__" 174, val := .none }, { hash := PyData.keyHash P "_wall", key := .str "_wall" 193, val := .ref 21 }, { hash := PyData.keyHash P "TupleComp", key := .str "TupleComp" 237, val := .ref 45 }, { hash := PyData.keyHash P "func_std_string", key := .str "func_std_string" 245, val := .ref 56 }, { hash := PyData.keyHash P "add_callers", key := .str "add_callers" 256, val := .ref 63 }, { hash := PyData.keyHash P "count_calls", key := .str "count_calls" 265, val := .ref 70 }, { hash := PyData.keyHash P "_strxfrm", key := .str "_strxfrm" 274, val := .ref 77 }, { hash := PyData.keyHash P "_build_localename", key := .str "_build_localename" 283, val := .ref 84 }, { hash := PyData.keyHash P "Whitespace", key := .str "Whitespace" 386, val := .ref 146 }, { hash := PyData.keyHash P "format_witnesses", key := .str "format_witnesses" 395, val := .ref 157 }, { hash := PyData.keyHash P "_law_text", key := .str "_law_text" 411, val := .ref 164 }, { hash := PyData.keyHash P "_law_columns", key := .str "_law_columns" 417, val := .ref 169 }, { hash := PyData.keyHash P "_law_unlike", key := .str "_law_unlike" 423, val := .ref 174 }, { hash := PyData.keyHash P "_law_tables", key := .str "_law_tables" 429, val := .ref 179 }, { hash := PyData.keyHash P "_law_tour", key := .str "_law_tour" 435, val := .ref 184 }, { hash := PyData.keyHash P "_law_in_turn", key := .str "_law_in_turn" 441, val := .ref 189 }, { hash := PyData.keyHash P "_law_least", key := .str "_law_least" 447, val := .ref 194 }, { hash := PyData.keyHash P "_law_melted", key := .str "_law_melted" 453, val := .ref 199 }, { hash := PyData.keyHash P "law", key := .str "law" 459, val := .ref 204 }] 27 }),
  (15, { cls := .type "tuple", data := .seq #[] }),
  (17, { cls := .type "tuple", data := .seq #[.str "k" 190] }),
  (18, { cls := .type "tuple", data := .seq #[] }),
  (20, { cls := .type "code", data := .fields #[.str "_wall" 187, .str "_wall" 188, .str "/claim/cut.py" 189, .int 1 0, .int 1 0, .int 0 0, .int 0 0, .int 3 0, .ref 15, .bool true, .int 181 0, .ref 16, .none, .ref 17, .ref 18, .ref 19, .int 191 0, .int 1 0, .str "/claim/cut.py" 192] }),
  (21, { cls := .type "function", data := .func { name := "_wall", qualname := "_wall", params := fA (top 0), body := .stmts (fB (top 0)), scope := { kind := .function, names := [(Str.ofString "k", NameKind.local)], isGenerator := false, isCoroutine := false }, globals := 3, closure := [], defaults := .none, kwdefaults := .none, pyModule := .str "__main__" 164, code := .ref 20 } }),
  (29, { cls := .type "tuple", data := .seq #[] }),
  (31, { cls := .type "tuple", data := .seq #[.str "self" 211, .str "comp_select_list" 212] }),
  (32, { cls := .type "tuple", data := .seq #[] }),
  (34, { cls := .type "code", data := .fields #[.str "__init__" 208, .str "TupleComp.__init__" 209, .str "/claim/cut.py" 210, .int 7 0, .int 2 0, .int 0 0, .int 0 0, .int 3 0, .ref 29, .bool true, .int 181 0, .ref 30, .none, .ref 31, .ref 32, .ref 33, .int 213 0, .int 7 0, .str "/claim/cut.py" 214] }),
  (35, { cls := .type "function", data := .func { name := "__init__", qualname := "TupleComp.__init__", params := fA (inCls (top 2) 0), body := .stmts (fB (inCls (top 2) 0)), scope := { kind := .function, names := [(Str.ofString "self", NameKind.local), (Str.ofString "comp_select_list", NameKind.local)], isGenerator := false, isCoroutine := false }, globals := 3, closure := [], defaults := .none, kwdefaults := .none, pyModule := .str "cpy313.pstats" 194, code := .ref 34 } }),
  (36, { cls := .type "tuple", data := .seq #[] }),
  (38, { cls := .type "tuple", data := .seq #[.str "self" 219, .str "left" 220, .str "right" 221, .str "index" 222, .str "direction" 223, .str "l" 224, .str "r" 225] }),
  (39, { cls := .type "tuple", data := .seq #[] }),
  (41, { cls := .type "code", data := .fields #[.str "compare" 216, .str "TupleComp.compare" 217, .str "/claim/cut.py" 218, .int 10 0, .int 3 0, .int 0 0, .int 0 0, .int 3 0, .ref 36, .bool true, .int 181 0, .ref 37, .none, .ref 38, .ref 39, .ref 40, .int 226 0, .int 10 0, .str "/claim/cut.py" 227] }),
  (42, { cls := .type "function", data := .func { name := "compare", qualname := "TupleComp.compare", params := fA (inCls (top 2) 1), body := .stmts (fB (inCls (top 2) 1)), scope := { kind := .function, names := [(Str.ofString "self", NameKind.local), (Str.ofString "left", NameKind.local), (Str.ofString "right", NameKind.local), (Str.ofString "index", NameKind.local), (Str.ofString "direction", NameKind.local), (Str.ofString "l", NameKind.local), (Str.ofString "r", NameKind.local)], isGenerator := false, isCoroutine := false }, globals := 3, closure := [], defaults := .none, kwdefaults := .none, pyModule := .str "cpy313.pstats" 194, code := .ref 41 } }),
  (43, { cls := .type "tuple", data := .seq #[.str "comp_select_list" 229] }),
  (44, { cls := .type "dict", data := .dict #[{ hash := PyData.keyHash P "__module__", key := .str "__module__" 203, val := .str "cpy313.pstats" 194 }, { hash := PyData.keyHash P "__firstlineno__", key := .str "__firstlineno__" 207, val := .int 5 206 }, { hash := PyData.keyHash P "__init__", key := .str "__init__" 215, val := .ref 35 }, { hash := PyData.keyHash P "compare", key := .str "compare" 228, val := .ref 42 }, { hash := PyData.keyHash P "__static_attributes__", key := .str "__static_attributes__" 230, val := .ref 43 }, { hash := PyData.keyHash P "__dict__", key := .str "__dict__" 232, val := .ref 46 }, { hash := PyData.keyHash P "__weakref__", key := .str "__weakref__" 234, val := .ref 47 }, { hash := PyData.keyHash P "__doc__", key := .str "__doc__" 235, val := .none }] 4 }),
  (45, { cls := .type "type", data := .cls { name := "TupleComp", bases := [.type "object"], mro := [.ref 45, .type "object"], ns := 44, qualname := "TupleComp" }, slots := #[none, none, some (.str "TupleComp" 196), some (.str "TupleComp" 204), some (.builtin "object.__new__"), some (.bool true)] }),
  (46, { cls := .type "getset_descriptor", data := .fields #[.str "__dict__" 231, .ref 45, .builtin "function.__dict__", .builtin "function.__dict__#set"] }),
  (47, { cls := .type "getset_descriptor", data := .fields #[.str "__weakref__" 233, .ref 45, .builtin "ExceptionGroup.__weakref__", .none] }),
  (50, { cls := .type "tuple", data := .seq #[] }),
  (52, { cls := .type "tuple", data := .seq #[.str "func_name" 241, .str "name" 242] }),
  (53, { cls := .type "tuple", data := .seq #[] }),
  (55, { cls := .type "code", data := .fields #[.str "func_std_string" 238, .str "func_std_string" 239, .str "/claim/cut.py" 240, .int 19 0, .int 1 0, .int 0 0, .int 0 0, .int 3 0, .ref 50, .bool true, .int 181 0, .ref 51, .none, .ref 52, .ref 53, .ref 54, .int 243 0, .int 19 0, .str "/claim/cut.py" 244] }),
  (56, { cls := .type "function", data := .func { name := "func_std_string", qualname := "func_std_string", params := fA (top 3), body := .stmts (fB (top 3)), scope := { kind := .function, names := [(Str.ofString "func_name", NameKind.local), (Str.ofString "name", NameKind.local)], isGenerator := false, isCoroutine := false }, globals := 3, closure := [], defaults := .none, kwdefaults := .none, pyModule := .str "cpy313.pstats" 194, code := .ref 55 } }),
  (57, { cls := .type "tuple", data := .seq #[] }),
  (59, { cls := .type "tuple", data := .seq #[.str "target" 249, .str "source" 250, .str "new_callers" 251, .str "func" 252, .str "caller" 253] }),
  (60, { cls := .type "tuple", data := .seq #[] }),
  (62, { cls := .type "code", data := .fields #[.str "add_callers" 246, .str "add_callers" 247, .str "/claim/cut.py" 248, .int 28 0, .int 2 0, .int 0 0, .int 0 0, .int 3 0, .ref 57, .bool true, .int 181 0, .ref 58, .none, .ref 59, .ref 60, .ref 61, .int 254 0, .int 28 0, .str "/claim/cut.py" 255] }),
  (63, { cls := .type "function", data := .func { name := "add_callers", qualname := "add_callers", params := fA (top 4), body := .stmts (fB (top 4)), scope := { kind := .function, names := [(Str.ofString "target", NameKind.local), (Str.ofString "source", NameKind.local), (Str.ofString "new_callers", NameKind.local), (Str.ofString "func", NameKind.local), (Str.ofString "caller", NameKind.local), (Str.ofString "isinstance", NameKind.globalImplicit), (Str.ofString "tuple", NameKind.globalImplicit), (Str.ofString "zip", NameKind.globalImplicit)], isGenerator := false, isCoroutine := false }, globals := 3, closure := [], defaults := .none, kwdefaults := .none, pyModule := .str "cpy313.pstats" 194, code := .ref 62 } }),
  (64, { cls := .type "tuple", data := .seq #[] }),
  (66, { cls := .type "tuple", data := .seq #[.str "callers" 260, .str "nc" 261, .str "calls" 262] }),
  (67, { cls := .type "tuple", data := .seq #[] }),
  (69, { cls := .type "code", data := .fields #[.str "count_calls" 257, .str "count_calls" 258, .str "/claim/cut.py" 259, .int 41 0, .int 1 0, .int 0 0, .int 0 0, .int 3 0, .ref 64, .bool true, .int 181 0, .ref 65, .none, .ref 66, .ref 67, .ref 68, .int 263 0, .int 41 0, .str "/claim/cut.py" 264] }),
  (70, { cls := .type "function", data := .func { name := "count_calls", qualname := "count_calls", params := fA (top 5), body := .stmts (fB (top 5)), scope := { kind := .function, names := [(Str.ofString "callers", NameKind.local), (Str.ofString "nc", NameKind.local), (Str.ofString "calls", NameKind.local)], isGenerator := false, isCoroutine := false }, globals := 3, closure := [], defaults := .none, kwdefaults := .none, pyModule := .str "cpy313.pstats" 194, code := .ref 69 } }),
  (71, { cls := .type "tuple", data := .seq #[] }),
  (73, { cls := .type "tuple", data := .seq #[.str "s" 271] }),
  (74, { cls := .type "tuple", data := .seq #[] }),
  (76, { cls := .type "code", data := .fields #[.str "_strxfrm" 268, .str "_strxfrm" 269, .str "/claim/cut.py" 270, .int 47 0, .int 1 0, .int 0 0, .int 0 0, .int 3 0, .ref 71, .bool true, .int 181 0, .ref 72, .none, .ref 73, .ref 74, .ref 75, .int 272 0, .int 47 0, .str "/claim/cut.py" 273] }),
  (77, { cls := .type "function", data := .func { name := "_strxfrm", qualname := "_strxfrm", params := fA (top 7), body := .stmts (fB (top 7)), scope := { kind := .function, names := [(Str.ofString "s", NameKind.local)], isGenerator := false, isCoroutine := false }, globals := 3, closure := [], defaults := .none, kwdefaults := .none, pyModule := .str "cpy313.locale" 266, code := .ref 76 } }),
  (78, { cls := .type "tuple", data := .seq #[] }),
  (80, { cls := .type "tuple", data := .seq #[.str "localetuple" 278, .str "language" 279, .str "encoding" 280] }),
  (81, { cls := .type "tuple", data := .seq #[] }),
  (83, { cls := .type "code", data := .fields #[.str "_build_localename" 275, .str "_build_localename" 276, .str "/claim/cut.py" 277, .int 49 0, .int 1 0, .int 0 0, .int 0 0, .int 3 0, .ref 78, .bool true, .int 181 0, .ref 79, .none, .ref 80, .ref 81, .ref 82, .int 281 0, .int 49 0, .str "/claim/cut.py" 282] }),
  (84, { cls := .type "function", data := .func { name := "_build_localename", qualname := "_build_localename", params := fA (top 8), body := .stmts (fB (top 8)), scope := { kind := .function, names := [(Str.ofString "localetuple", NameKind.local), (Str.ofString "language", NameKind.local), (Str.ofString "encoding", NameKind.local), (Str.ofString "TypeError", NameKind.globalImplicit), (Str.ofString "ValueError", NameKind.globalImplicit)], isGenerator := false, isCoroutine := false }, globals := 3, closure := [], defaults := .none, kwdefaults := .none, pyModule := .str "cpy313.locale" 266, code := .ref 83 } }),
  (95, { cls := .type "tuple", data := .seq #[] }),
  (97, { cls := .type "tuple", data := .seq #[.str "self" 306, .str "ws" 307, .str "S" 308, .str "T" 309, .str "count" 310, .str "b" 311, .str "n" 312, .str "nt" 313, .str "ch" 314] }),
  (98, { cls := .type "tuple", data := .seq #[] }),
  (100, { cls := .type "code", data := .fields #[.str "__init__" 303, .str "Whitespace.__init__" 304, .str "/claim/cut.py" 305, .int 64 0, .int 2 0, .int 0 0, .int 0 0, .int 3 0, .ref 95, .bool true, .int 181 0, .ref 96, .none, .ref 97, .ref 98, .ref 99, .int 315 0, .int 64 0, .str "/claim/cut.py" 316] }),
  (101, { cls := .type "function", data := .func { name := "__init__", qualname := "Whitespace.__init__", params := fA (inCls (top 10) 1), body := .stmts (fB (inCls (top 10) 1)), scope := { kind := .function, names := [(Str.ofString "self", NameKind.local), (Str.ofString "ws", NameKind.local), (Str.ofString "S", NameKind.local), (Str.ofString "T", NameKind.local), (Str.ofString "count", NameKind.local), (Str.ofString "b", NameKind.local), (Str.ofString "n", NameKind.local), (Str.ofString "nt", NameKind.local), (Str.ofString "ch", NameKind.local), (Str.ofString "Whitespace", NameKind.globalImplicit), (Str.ofString "len", NameKind.globalImplicit), (Str.ofString "tuple", NameKind.globalImplicit)], isGenerator := false, isCoroutine := false }, globals := 3, closure := [], defaults := .none, kwdefaults := .none, pyModule := .str "cpy313.tabnanny" 284, code := .ref 100 } }),
  (102, { cls := .type "tuple", data := .seq #[] }),
  (104, { cls := .type "tuple", data := .seq #[.str "self" 321, .str "count" 322, .str "trailing" 323] }),
  (105, { cls := .type "tuple", data := .seq #[] }),
  (107, { cls := .type "code", data := .fields #[.str "longest_run_of_spaces" 318, .str "Whitespace.longest_run_of_spaces" 319, .str "/claim/cut.py" 320, .int 87 0, .int 1 0, .int 0 0, .int 0 0, .int 3 0, .ref 102, .bool true, .int 181 0, .ref 103, .none, .ref 104, .ref 105, .ref 106, .int 324 0, .int 87 0, .str "/claim/cut.py" 325] }),
  (108, { cls := .type "function", data := .func { name := "longest_run_of_spaces", qualname := "Whitespace.longest_run_of_spaces", params := fA (inCls (top 10) 2), body := .stmts (fB (inCls (top 10) 2)), scope := { kind := .function, names := [(Str.ofString "self", NameKind.local), (Str.ofString "count", NameKind.local), (Str.ofString "trailing", NameKind.local), (Str.ofString "max", NameKind.globalImplicit), (Str.ofString "len", NameKind.globalImplicit)], isGenerator := false, isCoroutine := false }, globals := 3, closure := [], defaults := .none, kwdefaults := .none, pyModule := .str "cpy313.tabnanny" 284, code := .ref 107 } }),
  (109, { cls := .type "tuple", data := .seq #[] }),
  (111, { cls := .type "tuple", data := .seq #[.str "self" 330, .str "tabsize" 331, .str "count" 332, .str "trailing" 333, .str "il" 334, .str "i" 335] }),
  (112, { cls := .type "tuple", data := .seq #[] }),
  (114, { cls := .type "code", data := .fields #[.str "indent_level" 327, .str "Whitespace.indent_level" 328, .str "/claim/cut.py" 329, .int 91 0, .int 2 0, .int 0 0, .int 0 0, .int 3 0, .ref 109, .bool true, .int 181 0, .ref 110, .none, .ref 111, .ref 112, .ref 113, .int 336 0, .int 91 0, .str "/claim/cut.py" 337] }),
  (115, { cls := .type "function", data := .func { name := "indent_level", qualname := "Whitespace.indent_level", params := fA (inCls (top 10) 3), body := .stmts (fB (inCls (top 10) 3)), scope := { kind := .function, names := [(Str.ofString "self", NameKind.local), (Str.ofString "tabsize", NameKind.local), (Str.ofString "count", NameKind.local), (Str.ofString "trailing", NameKind.local), (Str.ofString "il", NameKind.local), (Str.ofString "i", NameKind.local), (Str.ofString "range", NameKind.globalImplicit), (Str.ofString "len", NameKind.globalImplicit)], isGenerator := false, isCoroutine := false }, globals := 3, closure := [], defaults := .none, kwdefaults := .none, pyModule := .str "cpy313.tabnanny" 284, code := .ref 114 } }),
  (116, { cls := .type "tuple", data := .seq #[] }),
  (118, { cls := .type "tuple", data := .seq #[.str "self" 342, .str "other" 343] }),
  (119, { cls := .type "tuple", data := .seq #[] }),
  (121, { cls := .type "code", data := .fields #[.str "equal" 339, .str "Whitespace.equal" 340, .str "/claim/cut.py" 341, .int 98 0, .int 2 0, .int 0 0, .int 0 0, .int 3 0, .ref 116, .bool true, .int 181 0, .ref 117, .none, .ref 118, .ref 119, .ref 120, .int 344 0, .int 98 0, .str "/claim/cut.py" 345] }),
  (122, { cls := .type "function", data := .func { name := "equal", qualname := "Whitespace.equal", params := fA (inCls (top 10) 4), body := .stmts (fB (inCls (top 10) 4)), scope := { kind := .function, names := [(Str.ofString "self", NameKind.local), (Str.ofString "other", NameKind.local), (Str.ofString "_wall", NameKind.globalImplicit)], isGenerator := false, isCoroutine := false }, globals := 3, closure := [], defaults := .none, kwdefaults := .none, pyModule := .str "cpy313.tabnanny" 284, code := .ref 121 } }),
  (123, { cls := .type "tuple", data := .seq #[] }),
  (125, { cls := .type "tuple", data := .seq #[.str "self" 350, .str "other" 351, .str "n" 352, .str "a" 353, .str "ts" 354] }),
  (126, { cls := .type "tuple", data := .seq #[] }),
  (128, { cls := .type "code", data := .fields #[.str "not_equal_witness" 347, .str "Whitespace.not_equal_witness" 348, .str "/claim/cut.py" 349, .int 101 0, .int 2 0, .int 0 0, .int 0 0, .int 3 0, .ref 123, .bool true, .int 181 0, .ref 124, .none, .ref 125, .ref 126, .ref 127, .int 355 0, .int 101 0, .str "/claim/cut.py" 356] }),
  (129, { cls := .type "function", data := .func { name := "not_equal_witness", qualname := "Whitespace.not_equal_witness", params := fA (inCls (top 10) 5), body := .stmts (fB (inCls (top 10) 5)), scope := { kind := .function, names := [(Str.ofString "self", NameKind.local), (Str.ofString "other", NameKind.local), (Str.ofString "n", NameKind.local), (Str.ofString "a", NameKind.local), (Str.ofString "ts", NameKind.local), (Str.ofString "max", NameKind.globalImplicit), (Str.ofString "range", NameKind.globalImplicit)], isGenerator := false, isCoroutine := false }, globals := 3, closure := [], defaults := .none, kwdefaults := .none, pyModule := .str "cpy313.tabnanny" 284, code := .ref 128 } }),
  (130, { cls := .type "tuple", data := .seq #[] }),
  (132, { cls := .type "tuple", data := .seq #[.str "self" 361, .str "other" 362] }),
  (133, { cls := .type "tuple", data := .seq #[] }),
  (135, { cls := .type "code", data := .fields #[.str "less" 358, .str "Whitespace.less" 359, .str "/claim/cut.py" 360, .int 109 0, .int 2 0, .int 0 0, .int 0 0, .int 3 0, .ref 130, .bool true, .int 181 0, .ref 131, .none, .ref 132, .ref 133, .ref 134, .int 363 0, .int 109 0, .str "/claim/cut.py" 364] }),
  (136, { cls := .type "function", data := .func { name := "less", qualname := "Whitespace.less", params := fA (inCls (top 10) 6), body := .stmts (fB (inCls (top 10) 6)), scope := { kind := .function, names := [(Str.ofString "self", NameKind.local), (Str.ofString "other", NameKind.local), (Str.ofString "_wall", NameKind.globalImplicit)], isGenerator := false, isCoroutine := false }, globals := 3, closure := [], defaults := .none, kwdefaults := .none, pyModule := .str "cpy313.tabnanny" 284, code := .ref 135 } }),
  (137, { cls := .type "tuple", data := .seq #[] }),
  (139, { cls := .type "tuple", data := .seq #[.str "self" 369, .str "other" 370] }),
  (140, { cls := .type "tuple", data := .seq #[] }),
  (142, { cls := .type "code", data := .fields #[.str "not_less_witness" 366, .str "Whitespace.not_less_witness" 367, .str "/claim/cut.py" 368, .int 112 0, .int 2 0, .int 0 0, .int 0 0, .int 3 0, .ref 137, .bool true, .int 181 0, .ref 138, .none, .ref 139, .ref 140, .ref 141, .int 371 0, .int 112 0, .str "/claim/cut.py" 372] }),
  (143, { cls := .type "function", data := .func { name := "not_less_witness", qualname := "Whitespace.not_less_witness", params := fA (inCls (top 10) 7), body := .stmts (fB (inCls (top 10) 7)), scope := { kind := .function, names := [(Str.ofString "self", NameKind.local), (Str.ofString "other", NameKind.local), (Str.ofString "_wall", NameKind.globalImplicit)], isGenerator := false, isCoroutine := false }, globals := 3, closure := [], defaults := .none, kwdefaults := .none, pyModule := .str "cpy313.tabnanny" 284, code := .ref 142 } }),
  (144, { cls := .type "tuple", data := .seq #[.str "is_simple" 374, .str "n" 375, .str "norm" 376, .str "nt" 377, .str "raw" 378] }),
  (145, { cls := .type "dict", data := .dict #[{ hash := PyData.keyHash P "__module__", key := .str "__module__" 293, val := .str "cpy313.tabnanny" 284 }, { hash := PyData.keyHash P "__firstlineno__", key := .str "__firstlineno__" 297, val := .int 61 296 }, { hash := PyData.keyHash P "S", key := .str "S" 301, val := .str " " 299 }, { hash := PyData.keyHash P "T", key := .str "T" 302, val := .str "\t" 300 }, { hash := PyData.keyHash P "__init__", key := .str "__init__" 317, val := .ref 101 }, { hash := PyData.keyHash P "longest_run_of_spaces", key := .str "longest_run_of_spaces" 326, val := .ref 108 }, { hash := PyData.keyHash P "indent_level", key := .str "indent_level" 338, val := .ref 115 }, { hash := PyData.keyHash P "equal", key := .str "equal" 346, val := .ref 122 }, { hash := PyData.keyHash P "not_equal_witness", key := .str "not_equal_witness" 357, val := .ref 129 }, { hash := PyData.keyHash P "less", key := .str "less" 365, val := .ref 136 }, { hash := PyData.keyHash P "not_less_witness", key := .str "not_less_witness" 373, val := .ref 143 }, { hash := PyData.keyHash P "__static_attributes__", key := .str "__static_attributes__" 379, val := .ref 144 }, { hash := PyData.keyHash P "__dict__", key := .str "__dict__" 381, val := .ref 147 }, { hash := PyData.keyHash P "__weakref__", key := .str "__weakref__" 383, val := .ref 148 }, { hash := PyData.keyHash P "__doc__", key := .str "__doc__" 384, val := .none }] 4 }),
  (146, { cls := .type "type", data := .cls { name := "Whitespace", bases := [.type "object"], mro := [.ref 146, .type "object"], ns := 145, qualname := "Whitespace" }, slots := #[none, none, some (.str "Whitespace" 286), some (.str "Whitespace" 294), some (.builtin "object.__new__"), some (.bool true)] }),
  (147, { cls := .type "getset_descriptor", data := .fields #[.str "__dict__" 380, .ref 146, .builtin "function.__dict__", .builtin "function.__dict__#set"] }),
  (148, { cls := .type "getset_descriptor", data := .fields #[.str "__weakref__" 382, .ref 146, .builtin "ExceptionGroup.__weakref__", .none] }),
  (151, { cls := .type "tuple", data := .seq #[] }),
  (153, { cls := .type "tuple", data := .seq #[.str "w" 390, .str "firsts" 391, .str "prefix" 392] }),
  (154, { cls := .type "tuple", data := .seq #[] }),
  (156, { cls := .type "code", data := .fields #[.str "format_witnesses" 387, .str "format_witnesses" 388, .str "/claim/cut.py" 389, .int 114 0, .int 1 0, .int 0 0, .int 0 0, .int 3 0, .ref 151, .bool true, .int 181 0, .ref 152, .none, .ref 153, .ref 154, .ref 155, .int 393 0, .int 114 0, .str "/claim/cut.py" 394] }),
  (157, { cls := .type "function", data := .func { name := "format_witnesses", qualname := "format_witnesses", params := fA (top 11), body := .stmts (fB (top 11)), scope := { kind := .function, names := [(Str.ofString "w", NameKind.local), (Str.ofString "firsts", NameKind.local), (Str.ofString "prefix", NameKind.local), (Str.ofString "len", NameKind.globalImplicit)], isGenerator := false, isCoroutine := false }, globals := 3, closure := [], defaults := .none, kwdefaults := .none, pyModule := .str "cpy313.tabnanny" 284, code := .ref 156 } }),
  (158, { cls := .type "tuple", data := .seq #[] }),
  (160, { cls := .type "tuple", data := .seq #[.str "place" 401, .str "dress" 402, .str "letter" 403, .str "front" 404, .str "back" 405, .str "both" 406, .str "given" 407, .str "due" 408] }),
  (161, { cls := .type "tuple", data := .seq #[] }),
  (163, { cls := .type "code", data := .fields #[.str "_law_text" 398, .str "_law_text" 399, .str "/claim/cut.py" 400, .int 121 0, .int 2 0, .int 0 0, .int 0 0, .int 3 0, .ref 158, .bool true, .int 181 0, .ref 159, .none, .ref 160, .ref 161, .ref 162, .int 409 0, .int 121 0, .str "/claim/cut.py" 410] }),
  (164, { cls := .type "function", data := .func { name := "_law_text", qualname := "_law_text", params := fA (top 13), body := .stmts (fB (top 13)), scope := { kind := .function, names := [(Str.ofString "place", NameKind.local), (Str.ofString "dress", NameKind.local), (Str.ofString "letter", NameKind.local), (Str.ofString "front", NameKind.local), (Str.ofString "back", NameKind.local), (Str.ofString "both", NameKind.local), (Str.ofString "given", NameKind.local), (Str.ofString "due", NameKind.local), (Str.ofString "func_std_string", NameKind.globalImplicit)], isGenerator := false, isCoroutine := false }, globals := 3, closure := [], defaults := .none, kwdefaults := .none, pyModule := .str "law_jc0031_01" 396, code := .ref 163 } }),
  (165, { cls := .type "tuple", data := .seq #[] }),
  (168, { cls := .type "code", data := .fields #[.str "_law_columns" 412, .str "_law_columns" 413, .str "/claim/cut.py" 414, .int 127 0, .int 1 0, .int 0 0, .int 0 0, .int 3 0, .ref 165, .bool true, .int 181 0, .ref 166, .none, .none, .none, .ref 167, .int 415 0, .int 127 0, .str "/claim/cut.py" 416] }),
  (169, { cls := .type "function", data := .func { name := "_law_columns", qualname := "_law_columns", params := fA (top 14), body := .stmts (fB (top 14)), scope := { kind := .function, names := [(Str.ofString "lead", NameKind.local), (Str.ofString "bare", NameKind.local), (Str.ofString "row", NameKind.local), (Str.ofString "size", NameKind.local), (Str.ofString "place", NameKind.local), (Str.ofString "sign", NameKind.local), (Str.ofString "max", NameKind.globalImplicit)], isGenerator := false, isCoroutine := false, more := [("fast", Const.str "lead"), ("fast", Const.str "bare"), ("fast", Const.str "row"), ("fast", Const.str "size"), ("fast", Const.str "place"), ("fast", Const.str "sign"), ("fast", Const.str "run")] }, globals := 3, closure := [], defaults := .none, kwdefaults := .none, pyModule := .str "law_jc0031_01" 396, code := .ref 168 } }),
  (170, { cls := .type "tuple", data := .seq #[] }),
  (173, { cls := .type "code", data := .fields #[.str "_law_unlike" 418, .str "_law_unlike" 419, .str "/claim/cut.py" 420, .int 135 0, .int 2 0, .int 0 0, .int 0 0, .int 3 0, .ref 170, .bool true, .int 181 0, .ref 171, .none, .none, .none, .ref 172, .int 421 0, .int 135 0, .str "/claim/cut.py" 422] }),
  (174, { cls := .type "function", data := .func { name := "_law_unlike", qualname := "_law_unlike", params := fA (top 15), body := .stmts (fB (top 15)), scope := { kind := .function, names := [(Str.ofString "one", NameKind.cell), (Str.ofString "other", NameKind.cell), (Str.ofString "range", NameKind.globalImplicit), (Str.ofString "max", NameKind.globalImplicit)], isGenerator := false, isCoroutine := false, more := [("fast", Const.str "one"), ("fast", Const.str "other"), ("fast", Const.str "k")] }, globals := 3, closure := [], defaults := .none, kwdefaults := .none, pyModule := .str "law_jc0031_01" 396, code := .ref 173 } }),
  (175, { cls := .type "tuple", data := .seq #[] }),
  (178, { cls := .type "code", data := .fields #[.str "_law_tables" 424, .str "_law_tables" 425, .str "/claim/cut.py" 426, .int 137 0, .int 3 0, .int 0 0, .int 0 0, .int 3 0, .ref 175, .bool true, .int 181 0, .ref 176, .none, .none, .none, .ref 177, .int 427 0, .int 137 0, .str "/claim/cut.py" 428] }),
  (179, { cls := .type "function", data := .func { name := "_law_tables", qualname := "_law_tables", params := fA (top 16), body := .stmts (fB (top 16)), scope := { kind := .function, names := [(Str.ofString "texts", NameKind.local), (Str.ofString "marks", NameKind.local), (Str.ofString "walks", NameKind.local), (Str.ofString "tables", NameKind.local), (Str.ofString "i", NameKind.local), (Str.ofString "j", NameKind.local), (Str.ofString "told", NameKind.local), (Str.ofString "words", NameKind.cell), (Str.ofString "due", NameKind.local), (Str.ofString "sizes", NameKind.local), (Str.ofString "ties", NameKind.local), (Str.ofString "range", NameKind.globalImplicit), (Str.ofString "format_witnesses", NameKind.globalImplicit), (Str.ofString "_law_unlike", NameKind.globalImplicit), (Str.ofString "len", NameKind.globalImplicit), (Str.ofString "max", NameKind.globalImplicit), (Str.ofString "add_callers", NameKind.globalImplicit)], isGenerator := false, isCoroutine := false, more := [("fast", Const.str "texts"), ("fast", Const.str "marks"), ("fast", Const.str "walks"), ("fast", Const.str "text"), ("fast", Const.str "tables"), ("fast", Const.str "i"), ("fast", Const.str "j"), ("fast", Const.str "told"), ("fast", Const.str "words"), ("fast", Const.str "due"), ("fast", Const.str "row"), ("fast", Const.str "sizes"), ("fast", Const.str "size"), ("fast", Const.str "ties")] }, globals := 3, closure := [], defaults := .none, kwdefaults := .none, pyModule := .str "law_jc0031_01" 396, code := .ref 178 } }),
  (180, { cls := .type "tuple", data := .seq #[] }),
  (183, { cls := .type "code", data := .fields #[.str "_law_tour" 430, .str "_law_tour" 431, .str "/claim/cut.py" 432, .int 151 0, .int 4 0, .int 0 0, .int 0 0, .int 3 0, .ref 180, .bool true, .int 181 0, .ref 181, .none, .none, .none, .ref 182, .int 433 0, .int 151 0, .str "/claim/cut.py" 434] }),
  (184, { cls := .type "function", data := .func { name := "_law_tour", qualname := "_law_tour", params := fA (top 17), body := .stmts (fB (top 17)), scope := { kind := .function, names := [(Str.ofString "names", NameKind.local), (Str.ofString "tables", NameKind.local), (Str.ofString "start", NameKind.local), (Str.ofString "judge", NameKind.local), (Str.ofString "row", NameKind.cell), (Str.ofString "pulls", NameKind.cell), (Str.ofString "name", NameKind.local), (Str.ofString "keys", NameKind.local), (Str.ofString "best", NameKind.local), (Str.ofString "answers", NameKind.local), (Str.ofString "both", NameKind.cell), (Str.ofString "len", NameKind.globalImplicit), (Str.ofString "add_callers", NameKind.globalImplicit)], isGenerator := false, isCoroutine := false, more := [("fast", Const.str "names"), ("fast", Const.str "tables"), ("fast", Const.str "start"), ("fast", Const.str "judge"), ("fast", Const.str "row"), ("fast", Const.str "pulls"), ("fast", Const.str "name"), ("fast", Const.str "keys"), ("fast", Const.str "best"), ("fast", Const.str "answers"), ("fast", Const.str "both")] }, globals := 3, closure := [], defaults := .none, kwdefaults := .none, pyModule := .str "law_jc0031_01" 396, code := .ref 183 } }),
  (185, { cls := .type "tuple", data := .seq #[] }),
  (188, { cls := .type "code", data := .fields #[.str "_law_in_turn" 436, .str "_law_in_turn" 437, .str "/claim/cut.py" 438, .int 168 0, .int 4 0, .int 0 0, .int 0 0, .int 3 0, .ref 185, .bool true, .int 181 0, .ref 186, .none, .none, .none, .ref 187, .int 439 0, .int 168 0, .str "/claim/cut.py" 440] }),
  (189, { cls := .type "function", data := .func { name := "_law_in_turn", qualname := "_law_in_turn", params := fA (top 18), body := .stmts (fB (top 18)), scope := { kind := .function, names := [(Str.ofString "row", NameKind.local), (Str.ofString "towns", NameKind.cell), (Str.ofString "ties", NameKind.cell), (Str.ofString "up", NameKind.local), (Str.ofString "k", NameKind.local), (Str.ofString "ahead", NameKind.cell), (Str.ofString "pulls", NameKind.local), (Str.ofString "j", NameKind.local), (Str.ofString "sorted", NameKind.globalImplicit), (Str.ofString "range", NameKind.globalImplicit), (Str.ofString "len", NameKind.globalImplicit)], isGenerator := false, isCoroutine := false, more := [("fast", Const.str "row"), ("fast", Const.str "towns"), ("fast", Const.str "ties"), ("fast", Const.str "up"), ("fast", Const.str "k"), ("fast", Const.str "name"), ("fast", Const.str "p"), ("fast", Const.str "ahead"), ("fast", Const.str "q"), ("fast", Const.str "pulls"), ("fast", Const.str "j")] }, globals := 3, closure := [], defaults := .none, kwdefaults := .none, pyModule := .str "law_jc0031_01" 396, code := .ref 188 } }),
  (190, { cls := .type "tuple", data := .seq #[] }),
  (193, { cls := .type "code", data := .fields #[.str "_law_least" 442, .str "_law_least" 443, .str "/claim/cut.py" 444, .int 178 0, .int 2 0, .int 0 0, .int 0 0, .int 3 0, .ref 190, .bool true, .int 181 0, .ref 191, .none, .none, .none, .ref 192, .int 445 0, .int 178 0, .str "/claim/cut.py" 446] }),
  (194, { cls := .type "function", data := .func { name := "_law_least", qualname := "_law_least", params := fA (top 19), body := .stmts (fB (top 19)), scope := { kind := .function, names := [(Str.ofString "ties", NameKind.cell), (Str.ofString "sides", NameKind.cell), (Str.ofString "cuts", NameKind.local), (Str.ofString "choice", NameKind.cell), (Str.ofString "near", NameKind.cell), (Str.ofString "range", NameKind.globalImplicit), (Str.ofString "len", NameKind.globalImplicit), (Str.ofString "sum", NameKind.globalImplicit), (Str.ofString "min", NameKind.globalImplicit)], isGenerator := false, isCoroutine := false, more := [("fast", Const.str "ties"), ("fast", Const.str "sides"), ("fast", Const.str "cuts"), ("fast", Const.str "choice"), ("fast", Const.str "k"), ("fast", Const.str "p"), ("fast", Const.str "near"), ("fast", Const.str "q")] }, globals := 3, closure := [], defaults := .none, kwdefaults := .none, pyModule := .str "law_jc0031_01" 396, code := .ref 193 } }),
  (195, { cls := .type "tuple", data := .seq #[] }),
  (198, { cls := .type "code", data := .fields #[.str "_law_melted" 448, .str "_law_melted" 449, .str "/claim/cut.py" 450, .int 184 0, .int 4 0, .int 0 0, .int 0 0, .int 3 0, .ref 195, .bool true, .int 181 0, .ref 196, .none, .none, .none, .ref 197, .int 451 0, .int 184 0, .str "/claim/cut.py" 452] }),
  (199, { cls := .type "function", data := .func { name := "_law_melted", qualname := "_law_melted", params := fA (top 20), body := .stmts (fB (top 20)), scope := { kind := .function, names := [(Str.ofString "tables", NameKind.cell), (Str.ofString "first", NameKind.cell), (Str.ofString "last", NameKind.cell), (Str.ofString "name", NameKind.local), (Str.ofString "both", NameKind.cell), (Str.ofString "other", NameKind.cell), (Str.ofString "after", NameKind.local), (Str.ofString "rest", NameKind.local), (Str.ofString "add_callers", NameKind.globalImplicit)], isGenerator := false, isCoroutine := false, more := [("fast", Const.str "tables"), ("fast", Const.str "first"), ("fast", Const.str "last"), ("fast", Const.str "name"), ("fast", Const.str "both"), ("fast", Const.str "other"), ("fast", Const.str "after"), ("fast", Const.str "town"), ("fast", Const.str "rest")] }, globals := 3, closure := [], defaults := .none, kwdefaults := .none, pyModule := .str "law_jc0031_01" 396, code := .ref 198 } }),
  (200, { cls := .type "tuple", data := .seq #[] }),
  (203, { cls := .type "code", data := .fields #[.str "law" 454, .str "law" 455, .str "/claim/cut.py" 456, .int 191 0, .int 1 0, .int 0 0, .int 0 0, .int 3 0, .ref 200, .bool true, .int 181 0, .ref 201, .none, .none, .none, .ref 202, .int 457 0, .int 191 0, .str "/claim/cut.py" 458] }),
  (204, { cls := .type "function", data := .func { name := "law", qualname := "law", params := fA (top 21), body := .stmts (fB (top 21)), scope := { kind := .function, names := [(Str.ofString "script", NameKind.cell), (Str.ofString "cells", NameKind.cell), (Str.ofString "pairs", NameKind.local), (Str.ofString "texts", NameKind.cell), (Str.ofString "alone", NameKind.local), (Str.ofString "leads", NameKind.local), (Str.ofString "walks", NameKind.cell), (Str.ofString "tables", NameKind.cell), (Str.ofString "ties", NameKind.local), (Str.ofString "up", NameKind.local), (Str.ofString "judge", NameKind.local), (Str.ofString "towns", NameKind.cell), (Str.ofString "kept", NameKind.local), (Str.ofString "row", NameKind.local), (Str.ofString "first", NameKind.cell), (Str.ofString "last", NameKind.cell), (Str.ofString "cut", NameKind.local), (Str.ofString "name", NameKind.local), (Str.ofString "after", NameKind.local), (Str.ofString "melted", NameKind.local), (Str.ofString "enumerate", NameKind.globalImplicit), (Str.ofString "range", NameKind.globalImplicit), (Str.ofString "_law_tables", NameKind.globalImplicit), (Str.ofString "TupleComp", NameKind.globalImplicit), (Str.ofString "len", NameKind.globalImplicit), (Str.ofString "_law_tour", NameKind.globalImplicit), (Str.ofString "list", NameKind.globalImplicit), (Str.ofString "_law_in_turn", NameKind.globalImplicit), (Str.ofString "count_calls", NameKind.globalImplicit), (Str.ofString "isinstance", NameKind.globalImplicit), (Str.ofString "int", NameKind.globalImplicit), (Str.ofString "_law_least", NameKind.globalImplicit), (Str.ofString "_build_localename", NameKind.globalImplicit), (Str.ofString "_strxfrm", NameKind.globalImplicit), (Str.ofString "_law_melted", NameKind.globalImplicit), (Str.ofString "dict", NameKind.globalImplicit)], isGenerator := false, isCoroutine := false, more := [("fast", Const.str "script"), ("fast", Const.str "k"), ("fast", Const.str "cell"), ("fast", Const.str "cells"), ("fast", Const.str "pairs"), ("fast", Const.str "told"), ("fast", Const.str "due"), ("fast", Const.str "texts"), ("fast", Const.str "text"), ("fast", Const.str "alone"), ("fast", Const.str "leads"), ("fast", Const.str "lead"), ("fast", Const.str "walks"), ("fast", Const.str "tables"), ("fast", Const.str "one"), ("fast", Const.str "other"), ("fast", Const.str "ties"), ("fast", Const.str "up"), ("fast", Const.str "judge"), ("fast", Const.str "towns"), ("fast", Const.str "town"), ("fast", Const.str "kept"), ("fast", Const.str "row"), ("fast", Const.str "first"), ("fast", Const.str "last"), ("fast", Const.str "cut"), ("fast", Const.str "name"), ("fast", Const.str "after"), ("fast", Const.str "melted")] }, globals := 3, closure := [], defaults := .none, kwdefaults := .none, pyModule := .str "law_jc0031_01" 396, code := .ref 203 } })]
noncomputable def asK : List Addr := [2, 3, 15, 17, 18, 20, 21, 29, 31, 32, 34, 35, 36, 38, 39, 41, 42, 43, 44, 45, 46, 47, 50, 52, 53, 55, 56, 57, 59, 60, 62, 63, 64, 66, 67, 69, 70, 71, 73, 74, 76, 77, 78, 80, 81, 83, 84, 95, 97, 98, 100, 101, 102, 104, 105, 107, 108, 109, 111, 112, 114, 115, 116, 118, 119, 121, 122, 123, 125, 126, 128, 129, 130, 132, 133, 135, 136, 137, 139, 140, 142, 143, 144, 145, 146, 147, 148, 151, 153, 154, 156, 157, 158, 160, 161, 163, 164, 165, 168, 169, 170, 173, 174, 175, 178, 179, 180, 183, 184, 185, 188, 189, 190, 193, 194, 195, 198, 199, 200, 203, 204]
noncomputable def q0 : Program := { PySem.Challenge.pw_jc0031_01 with main := { PySem.Challenge.pw_jc0031_01.main with body := [top 21] } }
noncomputable def loose : List Str := ["_wall", "TupleComp", "func_std_string", "add_callers", "count_calls", "_strxfrm", "_build_localename", "Whitespace", "format_witnesses", "_law_text", "_law_columns", "_law_unlike", "_law_tables", "_law_tour", "_law_in_turn", "_law_least", "_law_melted"]
noncomputable def KK2 (P : Params) : Frag := (152, { cls := .none, data := .fields #[] }) :: KK P
noncomputable def asK2 : List Addr := 152 :: asK
noncomputable abbrev HK : Hook := kHook KK2 asK2 (fun _ => by kernel_rfl)
noncomputable abbrev rr : OpenRow := PySem.Challenge.rw_jc0031_01.row
noncomputable def Xt (s : Shared) : Bool := xlAt q0 [] s && recOk (RowW.records rr.toRowW) s
theorem law_said : OpenLaw.wellSaid PySem.Challenge.rw_jc0031_01 = true := by decide +kernel
theorem left : LeftO rr.prog q0 loose Xt (Hook.obs HK) (Hook.val HK) 2618 :=
  LeftO.of_split "special-get-raises" (fun w => by kernel_rfl)
noncomputable def fS (s : Stmt) : Scope := match s with
  | .FunctionDef _ _ _ _ _ _ c _ _ _ => c
  | _ => { kind := .function, names := [], isGenerator := false, isCoroutine := false }
noncomputable def lawD : DefRec := { name := "law", params := fA (top 21), body := fB (top 21), scope := fS (top 21), pos := ⟨191, 0, 224, 109⟩ }
theorem hdef : defOf q0 rr.name = some (lawD, []) := by kernel_rfl
theorem hd (walk : WalkO q0 loose (XL q0 []) (Hook.says HK) rr.toRowW lawD [] fun f vs => PySem.call f vs) : PySem.Challenge.rw_jc0031_01.Holds :=
  holds_law law_said fun said => holds_open left (Hook.of HK) (Hook.keeps HK) (fun s e => xl_of s (Bool.and_eq_true_iff.mp e).1) XL.keeps hdef (by kernel_rfl) (by kernel_rfl) (fun s e => recFacts_of (Bool.and_eq_true_iff.mp e).2) (by kernel_rfl) said (by decide +kernel) ⟨rfl, rfl, rfl, rfl, rfl, by decide +kernel⟩
    (by w_witness2) walk
end Mine
end

section
open PySem PySem.W PyProof.Rows
set_option autoImplicit false
set_option maxRecDepth 100000
set_option pp.maxSteps 3000
namespace Mine
variable {C : Cx}
noncomputable def Cx.Ok (C : Cx) : Prop := C.K = KK C.w.params
theorem Cx.Ok.at {a : Addr} {o : Obj} (h : C.Ok) (e : (KK C.w.params).lookup a = some o) : C.K.lookup a = some o := by rw [show C.K = _ from h]; exact e
theorem Cx.Ok.code {cd : Value} {q : Str} (h : C.Ok) (e : codeIn (KK C.w.params) cd q = true) : codeIn C.K cd q = true := by rw [show C.K = _ from h]; exact e
theorem Cx.Ok.keep {v : Value} (h : C.Ok) (e : keepIn (KK C.w.params) v = true) : keepIn C.K v = true := by rw [show C.K = _ from h]; exact e
theorem Cx.Ok.mg {x : Str} {v : Value} (h : C.Ok) (e : nsIn (KK C.w.params) mainGlobals x = some (some v)) : (C.mg x).or (C.mb x) = some v := by
  rw [mg_of C.kin C.g (by rw [show C.K = _ from h]; exact e)]; rfl
theorem Cx.Ok.mb {x : Str} {v : Value} (h : C.Ok) (e : nsIn (KK C.w.params) mainGlobals x = some none) (hb : bootBuiltins x = some v) (hn : x ≠ "__name__") : (C.mg x).or (C.mb x) = some v := by
  rw [mg_none_of C.kin C.g (by rw [show C.K = _ from h]; exact e), C.mbs x hn, hb]; rfl
theorem g_isinstance (h : C.Ok) : (C.mg "isinstance").or (C.mb "isinstance") = some (.builtin "isinstance") := h.mb rfl (by decide +kernel) (by decide +kernel)
theorem g_tuple (h : C.Ok) : (C.mg "tuple").or (C.mb "tuple") = some (.type "tuple") := h.mb rfl (by decide +kernel) (by decide +kernel)
theorem g_add_callers (h : C.Ok) : (C.mg "add_callers").or (C.mb "add_callers") = some (.ref 63) := h.mg rfl
end Mine
end

section
open PySem PySem.W PyProof.Rows
set_option autoImplicit false
set_option maxRecDepth 100000
set_option pp.maxSteps 3000
namespace Mine
variable {C : Cx}
noncomputable def dI (l : List (Str × Int)) : List (Str × VP) := l.map fun q => (q.1, VP.int q.2)
theorem dget_map {α β : Type} (f : α → β) (l : List (Str × α)) (k : Str) : dget (l.map fun q => (q.1, f q.2)) k = (dget l k).map f := by
  induction l with
  | nil => rfl
  | cons p l ih =>
    unfold dget at ih ⊢
    rw [List.map_cons, List.find?_cons, List.find?_cons]
    by_cases h : p.1 = k
    · simp [h]
    · simp only [h, decide_false]; exact ih
theorem dput_map {α β : Type} (f : α → β) (l : List (Str × α)) (k : Str) (v : α) : dput (l.map fun q => (q.1, f q.2)) k (f v) = (dput l k v).map fun q => (q.1, f q.2) := by
  unfold dput
  rw [List.any_map]
  show (if (l.any fun kv => decide (kv.1 = k)) = true then _ else _) = _
  split
  · rw [List.map_map, List.map_map]
    refine List.map_congr_left fun q _ => ?_
    show (if q.1 = k then (q.1, f v) else (q.1, f q.2)) = _
    show _ = (fun q : Str × α => (q.1, f q.2)) (if q.1 = k then (q.1, v) else q)
    split <;> rfl
  · rw [List.map_append]; rfl
theorem dget_dI (l : List (Str × Int)) (k : Str) : dget (dI l) k = (dget l k).map VP.int := dget_map VP.int l k
theorem dput_dI (l : List (Str × Int)) (k : Str) (v : Int) : dput (dI l) k (.int v) = dI (dput l k v) := dput_map VP.int l k v
noncomputable def putAll (acc : List (Str × Int)) (l : List (Str × Int)) : List (Str × Int) := l.foldl (fun a q => dput a q.1 q.2) acc
noncomputable def addStep (a : List (Str × Int)) (q : Str × Int) : List (Str × Int) := dput a q.1 (match dget a q.1 with | some v => v + q.2 | none => q.2)
noncomputable def addC (a b : List (Str × Int)) : List (Str × Int) := b.foldl addStep (putAll [] a)
theorem dput_length {β : Type} (l : List (Str × β)) (k : Str) (v : β) : (dput l k v).length ≤ l.length + 1 := by
  unfold dput; split <;> simp
theorem putAll_length : ∀ (b a : List (Str × Int)), (putAll a b).length ≤ a.length + b.length
  | [], a => Nat.le_refl _
  | q :: b, a => by
    have := putAll_length b (dput a q.1 q.2)
    have := dput_length a q.1 q.2
    show (putAll (dput a q.1 q.2) b).length ≤ _
    simp only [List.length_cons]; omega
theorem addFold_length : ∀ (b a : List (Str × Int)), (b.foldl addStep a).length ≤ a.length + b.length
  | [], a => Nat.le_refl _
  | q :: b, a => by
    have := addFold_length b (addStep a q)
    have := dput_length a q.1 (match dget a q.1 with | some v => v + q.2 | none => q.2)
    have e : (addStep a q).length ≤ a.length + 1 := this
    simp only [List.foldl_cons, List.length_cons]; omega
theorem addC_length (a b : List (Str × Int)) : (addC a b).length ≤ a.length + b.length := by
  have := addFold_length b (putAll [] a); have := putAll_length a []; simp only [List.length_nil] at this; unfold addC; omega
theorem fits_small {k : Nat} (h : k ≤ 10000) : k ≤ sizeLine := by rw [sizeLine_eq]; omega
theorem add_callers_ok (hC : C.Ok) (a b : List (Str × Int)) (ha : a.length + b.length ≤ 1000) : Fn C 2 (.ref 63) [.dict C (dI a), .dict C (dI b)] (.dict C (dI (addC a b))) := by
  refine Fn.body (xs := [Str.ofString "target", Str.ofString "source"]) (hC.at rfl) rfl (hC.code rfl) rfl (fun vs h => match vs, h with | [a, b], _ => rfl) rfl rfl rfl rfl (by decide) rfl (by decide) ?_
  refine Ex.cons1 (ExS.dict0 rfl) ?_
  refine Ex.cons1 (ExS.forL (xs := a) (P := fun q => VP.tup [.str q.1, .int q.2]) (fun pre => ([("new_callers", .own (.dict C (dI (putAll [] pre)))), ("target", .val (.dict C (dI a))), ("source", .val (.dict C (dI b)))] : Gam))
    (EvIter.of (Ev.items (Ev.name rfl)) OpIter.items) (by simp [dI, Function.comp_def]) (gsub_cons rfl (gsub_cons rfl (gsub_cons rfl gsub_nil)))
    (fun pre x post e => ⟨_, Asg.tup (AsgL.cons (Asg.name (.inl rfl)) (AsgL.cons (Asg.name (.inl rfl)) AsgL.nil)), ?_⟩) rfl) ?_
  · refine Ex.cons1 (ExS.setDict rfl (Ev.name rfl) (Ev.name rfl) ?_ rfl) (Ex.nil rfl (gsub_cons ?_ (gsub_cons rfl (gsub_cons rfl gsub_nil))))
    · have := putAll_length pre []; have := congrArg List.length e; simp at this; refine fits_small ?_; simp only [dI, List.length_map, List.length_nil] at *; omega
    · rw [dput_dI, putAll, putAll, List.foldl_append]; rfl
  refine Ex.cons1 (ExS.forL (xs := b) (P := fun q => VP.tup [.str q.1, .int q.2]) (fun pre => ([("new_callers", .own (.dict C (dI (addC a pre)))), ("source", .val (.dict C (dI b)))] : Gam))
    (EvIter.of (Ev.items (Ev.name rfl)) OpIter.items) (by simp [dI, Function.comp_def]) (gsub_cons rfl (gsub_cons rfl gsub_nil))
    (fun pre x post e => ⟨_, Asg.tup (AsgL.cons (Asg.name (.inl rfl)) (AsgL.cons (Asg.name (.inl rfl)) AsgL.nil)), ?_⟩) rfl) ?_
  · have hsz : (dI (addC a pre)).length ≤ sizeLine := by
      have := addC_length a pre; have := congrArg List.length e; simp at this; refine fits_small ?_; simp only [dI, List.length_map] at *; omega
    have estep : addC a (pre ++ [x]) = addStep (addC a pre) x := by unfold addC; rw [List.foldl_append]; rfl
    refine Ex.ite (Tst.cmpO (Ev.name rfl) (EvO.name rfl) Op2O.inDict) (fun hc => ?_) (fun hc => ?_)
    · rw [dget_dI, Option.isSome_map] at hc
      obtain ⟨v, hv⟩ := Option.isSome_iff_exists.mp hc
      refine Ex.ite (Tst.val (Ev.callB (Ev.glob (g_isinstance hC)) (EvA.cons (Ev.name rfl) (EvA.cons (Ev.glob (g_tuple hC)) EvA.nil)) (fun _ _ => rfl) Fn.isiIntTuple)) (fun h => by cases h) (fun _ => ?_)
      refine Ex.cons1 (ExS.augDict rfl (Ev.name rfl) (by rw [dget_dI, hv]; rfl) (Ev.name rfl) Op2.iaddInt hsz rfl) (Ex.nil rfl (gsub_cons ?_ (gsub_cons rfl gsub_nil)))
      rw [dput_dI, estep, addStep, hv]; rfl
    · rw [dget_dI, Option.isSome_map] at hc
      have hv : dget (addC a pre) x.1 = none := by
        cases h : dget (addC a pre) x.1 with
        | none => rfl
        | some v => rw [h] at hc; cases hc
      refine Ex.cons1 (ExS.setDict rfl (Ev.name rfl) (Ev.name rfl) hsz rfl) (Ex.nil rfl (gsub_cons ?_ (gsub_cons rfl gsub_nil)))
      rw [dput_dI, estep, addStep, hv]; rfl
  · exact Ex.freeze (x := "new_callers") rfl (Ex.retS (Ev.name rfl) fun _ _ h => h)
end Mine
end

section
open PySem PySem.W PyProof.Rows
set_option autoImplicit false
set_option maxRecDepth 100000
namespace Mine
variable {C : Cx} {n : Nat}
theorem ExS.asg {sc : Scope} {G : Gam} {x : Str} {e : Expr} {p p' : Pos} {P : VP} {O : Out} (he : Ev C n sc G e P) (ho : O.next ((x, .val P) :: G)) (hx : (sc.names.lookup x == some .local || sc.names.lookup x == some .cell) = true := by rfl)
    (hs : ∀ env, EnvIs sc env → swapsWith e (some (.Name x p')) p.line env = pure false := by intro _ _; rfl) : ExS C n sc G (.Assign [.Name x p'] e p) O := ExS.assign he ho hx hs
theorem strxfrm_ok (hC : C.Ok) (x : Str) : Fn C 1 (.ref 77) [.str x] (.str x) := by
  refine Fn.body (xs := [Str.ofString "s"]) (hC.at rfl) rfl (hC.code rfl) rfl (fun vs h => match vs, h with | [a], _ => rfl) rfl rfl rfl rfl (by decide) rfl (by decide) ?_
  exact Ex.retS (Ev.name rfl) fun _ _ h => h
noncomputable def sumV (l : List (Str × Int)) : Int := (l.map (·.2)).sum
theorem count_calls_ok (hC : C.Ok) (l : List (Str × Int)) : Fn C 1 (.ref 70) [.dict C (dI l)] (.int (sumV l)) := by
  refine Fn.body (xs := [Str.ofString "callers"]) (hC.at rfl) rfl (hC.code rfl) rfl (fun vs h => match vs, h with | [a], _ => rfl) rfl rfl rfl rfl (by decide) rfl (by decide) ?_
  refine Ex.cons1 (ExS.asg Ev.cint rfl) ?_
  refine Ex.cons1 (ExS.forL (xs := l.map (·.2)) (P := fun i => VP.int i) (fun pre => ([("nc", .val (.int pre.sum))] : Gam)) (EvIter.of (Ev.values (Ev.name rfl)) OpIter.values) (by simp [dI, Function.comp_def]) (gsub_cons rfl gsub_nil)
    (fun pre x post e => ⟨_, Asg.name (.inl rfl), ?_⟩) rfl) ?_
  · refine Ex.cons1 (ExS.augInt rfl (Ev.name rfl) Op2.iaddInt rfl) (Ex.nil rfl (gsub_cons ?_ gsub_nil))
    rw [List.sum_append]; simp
  · exact Ex.retS (Ev.name rfl) fun _ _ h => h
noncomputable def VP.never : VP := ⟨fun _ _ => False, fun _ h => h⟩
theorem Ex.absurd {sc : Scope} {G : Gam} {x : Str} {ss : List Stmt} {O : Out} (h : G.lookup x = some (.val .never)) : Ex C n sc G ss O := fun A Z mine R env s E hA hE I S g => by
  obtain ⟨v, _, k⟩ := g x _ h
  exact k.elim
noncomputable def cmpK (d : Int) (p q : Int × Str) : Int := if p.1 < q.1 then 1 else if q.1 < p.1 then -1 else if sLt p.2 q.2 then -d else if sLt q.2 p.2 then d else 0
noncomputable def keyP (p : Int × Str) : VP := .tup [.int p.1, .str p.2]
noncomputable def judgeP (d : Int) : VP := .inst 45 [("comp_select_list", .tup [.tup [.int 0, .int (-1)], .tup [.int 1, .int d]])]
theorem compare_ok (hC : C.Ok) (d : Int) (p q : Int × Str) : Fn C 1 (.ref 42) [judgeP d, keyP p, keyP q] (.int (cmpK d p q)) := by
  refine Fn.body (xs := [Str.ofString "self", Str.ofString "left", Str.ofString "right"]) (hC.at rfl) rfl (hC.code rfl) rfl (fun vs h => match vs, h with | [a, b, c], _ => rfl) rfl rfl rfl rfl (by decide) rfl (by decide) ?_
  let base : Gam := [("left", .val (keyP p)), ("right", .val (keyP q))]
  let cond : Nat → Bool := fun i => if i = 0 then true else if i = 1 then decide (p.1 = q.1) else decide (p.1 = q.1) && !sLt p.2 q.2 && !sLt q.2 p.2
  refine Ex.cons1 (ExS.for_ (ps := [.tup [.int 0, .int (-1)], .tup [.int 1, .int d]]) (fun i => if cond i = true then base else [("left", .val .never)])
    (EvIter.of (Ev.attr (Ev.name rfl) rfl plain_of (by rw [show C.K = _ from hC]; rfl) (by rw [show C.K = _ from hC]; rfl) (at_ := none) (by rw [show C.K = _ from hC]; rfl) rfl) (OpIter.tup .tup)) (gsub_cons rfl (gsub_cons rfl gsub_nil)) (fun i x hx => ?_) rfl) ?_
  · match i, hx with
    | 0, hx =>
      cases hx
      refine ⟨_, Asg.tup (AsgL.cons (Asg.name (.inl rfl)) (AsgL.cons (Asg.name (.inl rfl)) AsgL.nil)), ?_⟩
      refine Ex.cons1 (ExS.asg (Ev.atTup (Ev.name rfl) (Ev.name rfl) rfl) rfl) (Ex.cons1 (ExS.asg (Ev.atTup (Ev.name rfl) (Ev.name rfl) rfl) rfl) ?_)
      refine Ex.ite (Tst.cmp (Ev.name rfl) (Ev.name rfl) Op2.ltInt) (fun h => Ex.retS (Ev.unary (Ev.name rfl) Op1.negInt) ?_) fun h => ?_
      · have h := of_decide_eq_true h
        intro Z v hv; rw [cmpK, if_pos h]; exact hv
      refine Ex.ite (Tst.cmp (Ev.name rfl) (Ev.name rfl) Op2.gtInt) (fun h' => Ex.retS (Ev.name rfl) ?_) fun h' => ?_
      · have h := of_decide_eq_false h
        have h' := of_decide_eq_true h'
        intro Z v hv; rw [cmpK, if_neg h, if_pos h']; exact hv
      · have h := of_decide_eq_false h
        have h' := of_decide_eq_false h'
        have e : cond 1 = true := decide_eq_true (by omega : p.1 = q.1)
        refine Ex.nil rfl ?_
        rw [if_pos e]
        exact gsub_cons rfl (gsub_cons rfl gsub_nil)
    | 1, hx =>
      cases hx
      refine ⟨_, Asg.tup (AsgL.cons (Asg.name (.inl rfl)) (AsgL.cons (Asg.name (.inl rfl)) AsgL.nil)), ?_⟩
      by_cases e : p.1 = q.1
      · rw [if_pos (show cond 1 = true from decide_eq_true e)]
        refine Ex.cons1 (ExS.asg (Ev.atTup (Ev.name rfl) (Ev.name rfl) rfl) rfl) (Ex.cons1 (ExS.asg (Ev.atTup (Ev.name rfl) (Ev.name rfl) rfl) rfl) ?_)
        have e1 : ¬ p.1 < q.1 := by omega
        have e2 : ¬ q.1 < p.1 := by omega
        refine Ex.ite (Tst.cmp (Ev.name rfl) (Ev.name rfl) Op2.ltStr) (fun h => Ex.retS (Ev.unary (Ev.name rfl) Op1.negInt) ?_) fun h => ?_
        · intro Z v hv; rw [cmpK, if_neg e1, if_neg e2, if_pos h]; exact hv
        refine Ex.ite (Tst.cmp (Ev.name rfl) (Ev.name rfl) Op2.gtStr) (fun h' => Ex.retS (Ev.name rfl) ?_) fun h' => ?_
        · intro Z v hv; rw [cmpK, if_neg e1, if_neg e2, if_neg (by rw [h]; exact Bool.false_ne_true), if_pos h']; exact hv
        · refine Ex.nil rfl ?_
          rw [if_pos (show cond 2 = true by show (decide (p.1 = q.1) && !sLt p.2 q.2 && !sLt q.2 p.2) = true; rw [h, h', decide_eq_true e]; rfl)]
          exact gsub_cons rfl (gsub_cons rfl gsub_nil)
      · rw [if_neg (show ¬ cond 1 = true by show ¬ decide (p.1 = q.1) = true; rw [decide_eq_false e]; exact Bool.false_ne_true)]
        exact Ex.absurd (x := "left") rfl
    | i + 2, hx => simp at hx
  · by_cases e : cond 2 = true
    · refine Ex.retS Ev.cint ?_
      have e' : (decide (p.1 = q.1) && !sLt p.2 q.2 && !sLt q.2 p.2) = true := e
      simp only [Bool.and_eq_true, decide_eq_true_eq, Bool.not_eq_true'] at e'
      intro Z v hv
      rw [cmpK, if_neg (by omega), if_neg (by omega), if_neg (by rw [e'.1.2]; exact Bool.false_ne_true), if_neg (by rw [e'.2]; exact Bool.false_ne_true)]; exact hv
    · show Ex C 0 _ (if cond 2 = true then base else _) _ _
      rw [if_neg e]
      exact Ex.absurd (x := "left") rfl
end Mine
end

section
open PySem PySem.W PyProof.Rows
set_option autoImplicit false
set_option maxRecDepth 100000
namespace Mine
variable {C : Cx} {n : Nat}
noncomputable def stdIn (x : Str) (i : Int) (z : Str) : VP := .tup [.str x, .int i, .str z]
noncomputable def startsS (x y : Str) : Bool := 0 + y.length ≤ x.length && Builtin.Str.subAt x y 0
noncomputable def endsS (x y : Str) : Bool := 0 + y.length ≤ x.length && Builtin.Str.subAt x y (x.length - y.length)
noncomputable def stdText (x : Str) (i : Int) (z : Str) : Str :=
  if decide (x = "~") && (decide (i = 0) && true) then
    (if startsS z "<" && (endsS z ">" && true) then Str.ofString "{" ++ sliceS z (some 1) (some (-1)) ++ Str.ofString "}" else z)
  else x ++ Str.ofString ":" ++ Str.ofString (toString i) ++ Str.ofString "(" ++ z ++ Str.ofString ")"
theorem func_std_ok (hC : C.Ok) (x z : Str) (i : Int) (hx : x.length ≤ 100) (hz : z.length ≤ 100) (hs : (sliceS z (some 1) (some (-1))).length ≤ 100) (h0 : 0 ≤ i) (h1 : i < 1000) : Fn C 1 (.ref 56) [stdIn x i z] (.str (stdText x i z)) := by
  refine Fn.body (xs := [Str.ofString "func_name"]) (hC.at rfl) rfl (hC.code rfl) rfl (fun vs h => match vs, h with | [a], _ => rfl) rfl rfl rfl rfl (by decide) rfl (by decide) ?_
  have e0 : (decide (x = "~") && (decide (i = 0) && true)) = [decide (x = "~"), decide (i = 0)].all id := rfl
  refine Ex.ite (Tst.cmp (Ev.slTup (b := 2) (Ev.name rfl) Ev.cint (show 2 < 3 by decide)) (Ev.tupD (.cons Ev.cstr (.cons Ev.cint .nil))) (Op2.eq (EqD.up (EqD.tup (k := 0) (.cons .str (.cons .int .nil))) (by decide)))) (fun h => ?_) fun h => ?_
  · refine Ex.cons1 (ExS.asg (Ev.atTup (k := 2) (Ev.name rfl) Ev.cint rfl) rfl) ?_
    refine Ex.ite (Tst.bop (.and (Tst.val (Ev.starts (Ev.name rfl) Ev.cstr (fun _ _ => rfl))) fun _ => .and (Tst.val (Ev.ends (Ev.name rfl) Ev.cstr (fun _ _ => rfl))) fun _ => .nilAnd)) (fun h2 => ?_) fun h2 => ?_
    · refine Ex.retS (Ev.binop Ev.cstr (Ev.slStr (Ev.name rfl) (.at Ev.cint) (.at (Ev.unary Ev.cint Op1.negInt)) ?_) (Op2.pct1 ?_)) ?_
      · exact Nat.le_trans hs (by decide)
      · omega
      · intro Z v hv
        rw [stdText, e0, if_pos h]
        rw [if_pos (show (startsS z "<" && (endsS z ">" && true)) = true from h2)]; exact hv
    · refine Ex.retS (Ev.name rfl) ?_
      intro Z v hv
      rw [stdText, e0, if_pos h]
      rw [if_neg (show ¬ (startsS z "<" && (endsS z ">" && true)) = true by rw [show (startsS z "<" && (endsS z ">" && true)) = false from h2]; exact Bool.false_ne_true)]; exact hv
  · refine Ex.retS (Ev.binop Ev.cstr (Ev.name rfl) (Op2.pct3 (by omega) (by omega) h0 h1)) ?_
    intro Z v hv
    rw [stdText, e0, if_neg (by rw [show _ = false from h]; exact Bool.false_ne_true)]; exact hv
noncomputable def optP : Option Str → VP
  | Option.none => VP.none
  | Option.some x => VP.str x
theorem nn_opt (o : Option Str) : (optP o).nn o.isNone := by
  cases o with
  | none => exact VP.nn_none
  | some x => exact VP.nn_str
noncomputable def locName (a b : Option Str) : Str := match b with
  | Option.none => a.getD "C"
  | Option.some e => a.getD "C" ++ Str.ofString "." ++ e
theorem loc_rest {sc : Scope} {G : Gam} {O : Out} {a b : Option Str} {pa pb pc pd pe pf pg ph pi pj pk pl : Pos} {k k' : Nat} (ha : (a.getD "C").length ≤ 1000) (hb : (b.getD "").length ≤ 1000) (h1 : G.lookup (Str.ofString "language") = some (.val (.str (a.getD "C")))) (h2 : G.lookup (Str.ofString "encoding") = some (.val (optP b))) (ho : O.ret = (RetOut (.str (locName a b))).ret) :
    Ex C n sc G [.If (.Compare (.Name (Str.ofString "encoding") pa) [.Is] [.Constant .none k pb] pc) [.Return (some (.Name (Str.ofString "language") pd)) pe] [.Return (some (.BinOp (.BinOp (.Name (Str.ofString "language") pf) .Add (.Constant (.str (Str.ofString ".")) k' pg) ph) .Add (.Name (Str.ofString "encoding") pi) pj)) pk] pl] O := by
  refine Ex.ite (Tst.cmp (Ev.name h2) Ev.cnone (Op2.isNone (nn_opt b))) (fun h => Ex.retS (Ev.name h1) ?_) fun h => ?_
  · rw [ho]
    intro Z v hv
    cases b with
    | none => exact hv
    | some e => cases h
  · cases b with
    | none => cases h
    | some e =>
      refine Ex.retS (Ev.binop (Ev.binop (Ev.name h1) Ev.cstr (Op2.addStr ?_)) (Ev.name h2) (Op2.addStr ?_)) (by rw [ho]; exact fun Z v hv => hv)
      · refine Nat.le_trans (Nat.add_le_add_right ha _) ?_; decide
      · have hb' : e.length ≤ 1000 := hb
        rw [Str.length_append]
        refine Nat.le_trans (Nat.add_le_add (Nat.add_le_add_right ha _) hb') ?_; decide
theorem localename_ok (hC : C.Ok) (a b : Option Str) (ha : (a.getD "C").length ≤ 1000) (hb : (b.getD "").length ≤ 1000) : Fn C 1 (.ref 84) [.tup [optP a, optP b]] (.str (locName a b)) := by
  refine Fn.body (xs := [Str.ofString "localetuple"]) (hC.at rfl) rfl (hC.code rfl) rfl (fun vs h => match vs, h with | [a], _ => rfl) rfl rfl rfl rfl (by decide) rfl (by decide) ?_
  refine Ex.cons (N := fun _ => False) (ExS.try_ ?_) fun _ h => h.elim
  refine Ex.cons1 (ExS.asgs (Ev.name rfl) (.one (Asg.tup (.cons (Asg.name (.inl rfl)) (.cons (Asg.name (.inl rfl)) .nil)))) rfl) ?_
  cases a with
  | none => exact Ex.ite (Tst.cmp (Ev.name rfl) Ev.cnone (Op2.isNone VP.nn_none)) (fun _ => Ex.cons1 (ExS.asg Ev.cstr rfl) (loc_rest (a := none) ha hb rfl rfl rfl)) fun h => by cases h
  | some x => exact Ex.ite (Tst.cmp (Ev.name rfl) Ev.cnone (Op2.isNone VP.nn_str)) (fun h => by cases h) fun _ => loc_rest (a := some x) ha hb rfl rfl rfl
end Mine
end

section
open PySem PySem.W PyProof.Rows
set_option autoImplicit false
set_option maxRecDepth 100000
namespace Mine
variable {C : Cx} {n : Nat}
theorem g_func_std (h : C.Ok) : (C.mg "func_std_string").or (C.mb "func_std_string") = some (.ref 56) := h.mg rfl
noncomputable def letter (p : Nat) : Str := ⟨#[("Cabcd" : Str).cps.getD p 0]⟩
noncomputable def digit (p : Nat) : Str := ⟨#[("12345" : Str).cps.getD p 0]⟩
noncomputable def frontT (p : Nat) : Str := "<" ++ letter p
noncomputable def backT (p : Nat) : Str := letter p ++ ">"
noncomputable def bothT (p : Nat) : Str := "<" ++ letter p ++ ">"
noncomputable def givenT (p : Nat) : List (Str × Int × Str) := [("~", 0, bothT p), ("~", 0, letter p), ("~", p + 1, bothT p), ("p", 0, frontT p), ("~", 0, frontT p), ("~", 0, backT p)]
noncomputable def dueT (p : Nat) : List Str := ["{" ++ letter p ++ "}", letter p, "~:" ++ digit p ++ "(" ++ bothT p ++ ")", "p:0(" ++ frontT p ++ ")", frontT p, backT p]
noncomputable def textOf (p d : Nat) : Str := (dueT p).getD d ""
theorem std_due : ∀ p : Fin 5, ∀ d : Fin 6, let t := (givenT p).getD d default; stdText t.1 t.2.1 t.2.2 = textOf p d ∧ t.1.length ≤ 100 ∧ t.2.2.length ≤ 100 ∧ (sliceS t.2.2 (some 1) (some (-1))).length ≤ 100 ∧ 0 ≤ t.2.1 ∧ t.2.1 < 1000 := by decide +kernel
theorem letter_at : ∀ p : Fin 5, (seqIndex? (p : Nat) ("Cabcd" : Str).length).bind (("Cabcd" : Str).cps[·]?) = some (("Cabcd" : Str).cps.getD p 0) := by decide +kernel
theorem digit_at : ∀ p : Fin 5, (seqIndex? (p : Nat) ("12345" : Str).length).bind (("12345" : Str).cps[·]?) = some (("12345" : Str).cps.getD p 0) := by decide +kernel
theorem fits5 : ∀ p : Fin 5, (decide (((p : Nat) : Int) < -(2 ^ 63 : Int)) || decide (((p : Nat) : Int) ≥ 2 ^ 63)) = false := by decide +kernel
theorem pickAt_nat {α : Type} {l : List α} {k : Nat} {x : α} (h : l[k]? = some x) : pickAt l (k : Int) = some x := by
  have hk : k < l.length := (List.getElem?_eq_some_iff.mp h).1
  have e : seqIndex? (k : Int) l.length = some k := by
    unfold seqIndex?
    have h0 : ¬ ((k : Int) < 0) := by omega
    have h1 : ((k : Int) < (l.length : Int)) := by omega
    simp only [h0, if_false]
    rw [if_pos (by rw [Bool.and_eq_true, decide_eq_true_iff, decide_eq_true_iff]; exact ⟨by omega, h1⟩)]; rfl
  unfold pickAt; rw [e]; exact h
theorem pickAt_map {α β : Type} [Inhabited α] {l : List α} (f : α → β) {k : Nat} {d : α} (h : k < l.length) : pickAt (l.map f) (k : Int) = some (f (l.getD k d)) := by
  refine pickAt_nat ?_
  rw [List.getElem?_map, List.getElem?_eq_getElem h, List.getD_eq_getElem?_getD, List.getElem?_eq_getElem h]; rfl
theorem lens : ∀ p : Fin 5, (("{" : Str).length + (letter p).length ≤ 100 ∧ (("{" : Str) ++ letter p).length + ("}" : Str).length ≤ 100) ∧ (("~:" : Str).length + (digit p).length ≤ 100 ∧ (("~:" : Str) ++ digit p).length + ("(" : Str).length ≤ 100 ∧ (("~:" : Str) ++ digit p ++ "(").length + (bothT p).length ≤ 100 ∧ (("~:" : Str) ++ digit p ++ "(" ++ bothT p).length + (")" : Str).length ≤ 100) ∧ (("p:0(" : Str).length + (frontT p).length ≤ 100 ∧ (("p:0(" : Str) ++ frontT p).length + (")" : Str).length ≤ 100) := by decide +kernel
theorem law_text_ok (hC : C.Ok) (p : Fin 5) (d : Fin 6) : Fn C 2 (.ref 164) [.int (p : Nat), .int (d : Nat)] (.tup [.str (textOf p d), .str (textOf p d)]) := by
  refine Fn.body (xs := [Str.ofString "place", Str.ofString "dress"]) (hC.at rfl) rfl (hC.code rfl) rfl (fun vs h => match vs, h with | [a, b], _ => rfl) rfl rfl rfl rfl (by decide) rfl (by decide) ?_
  have two : 2 ≤ sizeLine := by decide
  have three : 3 ≤ sizeLine := by decide
  have big : ∀ k, k ≤ 100 → k ≤ sizeLine := fun k h => Nat.le_trans h (by decide)
  refine Ex.cons1 (ExS.asg (P := .str (letter p)) (Ev.atStr Ev.cstr (Ev.name rfl) (letter_at p) (fits5 p)) rfl) ?_
  refine Ex.cons1 (ExS.swap (xs := ["front", "back", "both"]) (ps := [.str (frontT p), .str (backT p), .str (bothT p)]) (Ev.tupD (.cons (Ev.binop Ev.cstr (Ev.name rfl) (Op2.addStr two)) (.cons (Ev.binop (Ev.name rfl) Ev.cstr (Op2.addStr two)) (.cons (Ev.binop (Ev.binop Ev.cstr (Ev.name rfl) (Op2.addStr two)) Ev.cstr (Op2.addStr three)) .nil))))
    rfl rfl rfl (fun env hE => by obtain ⟨e, _, _, _⟩ := hE; cases env; cases e; rfl)) ?_
  have tup3 : ∀ {G : Gam} {sc : Scope} {x z : Str} {i : Int} {a b c : Expr} {k : Nat} {ps : Pos} (h1 : Ev C 1 sc G a (.str x)) (h2 : Ev C 1 sc G b (.int i)) (h3 : Ev C 1 sc G c (.str z)) (s1 : ∀ env, starEach [a, b, c] env = (false, eval a env) :: starEach [b, c] env) (s2 : ∀ env, starEach [b, c] env = (false, eval b env) :: starEach [c] env) (s3 : ∀ env, starEach [c] env = (false, eval c env) :: starEach [] env), Ev C 1 sc G (.Tuple [a, b, c] k ps) (stdIn x i z) :=
    fun h1 h2 h3 s1 s2 s3 => Ev.tupD (.cons h1 (.cons h2 (.cons h3 .nil s3) s2) s1)
  refine Ex.cons1 (ExS.asg (P := .list [stdIn "~" 0 (bothT p), stdIn "~" 0 (letter p), stdIn "~" ((p : Nat) + 1) (bothT p), stdIn "p" 0 (frontT p), stdIn "~" 0 (frontT p), stdIn "~" 0 (backT p)]) (Ev.listD
    (.cons (tup3 Ev.cstr Ev.cint (Ev.name rfl) (fun _ => rfl) (fun _ => rfl) (fun _ => rfl)) (.cons (tup3 Ev.cstr Ev.cint (Ev.name rfl) (fun _ => rfl) (fun _ => rfl) (fun _ => rfl)) (.cons (tup3 Ev.cstr (Ev.binop (Ev.name rfl) Ev.cint Op2.addInt) (Ev.name rfl) (fun _ => rfl) (fun _ => rfl) (fun _ => rfl))
    (.cons (tup3 Ev.cstr Ev.cint (Ev.name rfl) (fun _ => rfl) (fun _ => rfl) (fun _ => rfl)) (.cons (tup3 Ev.cstr Ev.cint (Ev.name rfl) (fun _ => rfl) (fun _ => rfl) (fun _ => rfl)) (.cons (tup3 Ev.cstr Ev.cint (Ev.name rfl) (fun _ => rfl) (fun _ => rfl) (fun _ => rfl)) .nil)))))) (show 6 ≤ sizeLine by decide)) rfl) ?_
  have add : ∀ {G : Gam} {sc : Scope} {x y : Str} {a b : Expr} {ps : Pos} (h1 : Ev C 1 sc G a (.str x)) (h2 : Ev C 1 sc G b (.str y)) (k : x.length + y.length ≤ 100), Ev C 1 sc G (.BinOp a .Add b ps) (.str (x ++ y)) := fun h1 h2 k => Ev.binop h1 h2 (Op2.addStr (big _ k))
  obtain ⟨⟨l1, l2⟩, ⟨l3, l4, l5, l6⟩, l7, l8⟩ := lens p
  refine Ex.cons1 (ExS.asg (P := .list [.str ("{" ++ letter p ++ "}"), .str (letter p), .str ("~:" ++ digit p ++ "(" ++ bothT p ++ ")"), .str ("p:0(" ++ frontT p ++ ")"), .str (frontT p), .str (backT p)]) (Ev.listD
    (.cons ?_ (.cons ?_ (.cons ?_ (.cons ?_ (.cons ?_ (.cons ?_ .nil)))))) (show 6 ≤ sizeLine by decide)) rfl) ?_
  · exact add (add Ev.cstr (Ev.name rfl) l1) Ev.cstr l2
  · exact Ev.name rfl
  · refine add (add (add (add Ev.cstr ?_ l3) Ev.cstr l4) (Ev.name rfl) l5) Ev.cstr l6
    exact Ev.atStr (k := (p : Nat)) Ev.cstr (Ev.name rfl) (digit_at p) (fits5 p)
  · exact add (add Ev.cstr (Ev.name rfl) l7) Ev.cstr l8
  · exact Ev.name rfl
  · exact Ev.name rfl
  obtain ⟨e1, e2, e3, e4, e5, e6⟩ := std_due p d
  refine Ex.retS (P := .tup [.str (stdText ((givenT p).getD d default).1 ((givenT p).getD d default).2.1 ((givenT p).getD d default).2.2), .str (textOf p d)]) (Ev.tupD (.cons (Ev.callF (Ev.glob (g_func_std hC)) (hC.keep rfl) (.cons ?_ .nil) (fun _ _ => rfl) (func_std_ok hC _ _ _ e2 e3 e4 e5 e6)) (.cons ?_ .nil))) ?_
  · refine Ev.atList (k := (d : Nat)) (Ev.name rfl) (Ev.name rfl) ?_ ?_
    · show pickAt ((givenT p).map fun t => stdIn t.1 t.2.1 t.2.2) _ = _
      exact pickAt_map (l := givenT p) (d := default) (fun t => stdIn t.1 t.2.1 t.2.2) d.2
    · exact (show 6 ≤ sizeLine by decide)
  · refine Ev.atList (k := (d : Nat)) (Ev.name rfl) (Ev.name rfl) ?_ ?_
    · show pickAt ((dueT p).map VP.str) _ = _
      exact pickAt_map (l := dueT p) (d := "") VP.str d.2
    · exact (show 6 ≤ sizeLine by decide)
  · rw [e1]; exact fun Z v h => h
end Mine
end

section
open PySem PySem.W PyProof.Rows
set_option autoImplicit false
set_option maxRecDepth 100000
namespace Mine
variable {C : Cx} {n : Nat}
structure Mk where
  raw : Str
  n : Int
  nt : Int
  count : List Int
  b : Int
  simple : Bool
noncomputable def normP (m : Mk) : VP := .tup [.tup (m.count.map VP.int), .int m.b]
noncomputable def markL (m : Mk) : List (Str × VP) := [("raw", .str m.raw), ("n", .int m.n), ("nt", .int m.nt), ("norm", normP m), ("is_simple", .bool m.simple)]
noncomputable def markP (m : Mk) : VP := .inst 146 (markL m)
theorem g_len (h : C.Ok) : (C.mg "len").or (C.mb "len") = some (.builtin "len") := h.mb rfl (by decide +kernel) (by decide +kernel)
theorem g_max (h : C.Ok) : (C.mg "max").or (C.mb "max") = some (.builtin "max") := h.mb rfl (by decide +kernel) (by decide +kernel)
theorem g_range (h : C.Ok) : (C.mg "range").or (C.mb "range") = some (.type "range") := h.mb rfl (by decide +kernel) (by decide +kernel)
noncomputable def runOf (m : Mk) : Int := max ((m.count.length : Int) - 1) m.b
theorem mk_norm {sc : Scope} {G : Gam} {x : Str} {px pos : Pos} {m : Mk} (hC : C.Ok) (h : G.lookup x = some (.val (markP m))) (hd : ((x == ("__debug__" : Str)) || (x == ("__classdict__" : Str))) = false := by rfl) : Ev C n sc G (.Attribute (.Name x px) (Str.ofString "norm") pos) (normP m) :=
  Ev.attr (Ev.name h hd) rfl plain_of (by rw [show C.K = _ from hC]; rfl) (by rw [show C.K = _ from hC]; rfl) (at_ := none) (by rw [show C.K = _ from hC]; rfl) rfl
theorem mk_nt {sc : Scope} {G : Gam} {x : Str} {px pos : Pos} {m : Mk} (hC : C.Ok) (h : G.lookup x = some (.val (markP m))) (hd : ((x == ("__debug__" : Str)) || (x == ("__classdict__" : Str))) = false := by rfl) : Ev C n sc G (.Attribute (.Name x px) (Str.ofString "nt") pos) (.int m.nt) :=
  Ev.attr (Ev.name h hd) rfl plain_int (by rw [show C.K = _ from hC]; rfl) (by rw [show C.K = _ from hC]; rfl) (at_ := none) (by rw [show C.K = _ from hC]; rfl) rfl
theorem longest_ok (hC : C.Ok) (m : Mk) (hl : m.count.length ≤ 1000) : Fn C 1 (.ref 108) [markP m] (.int (runOf m)) := by
  refine Fn.body (xs := [Str.ofString "self"]) (hC.at rfl) rfl (hC.code rfl) rfl (fun vs h => match vs, h with | [a], _ => rfl) rfl rfl rfl rfl (by decide) rfl (by decide) ?_
  refine Ex.cons1 (ExS.asgs (mk_norm hC rfl) (.one (Asg.tup (.cons (Asg.name (.inl rfl)) (.cons (Asg.name (.inl rfl)) .nil)))) rfl) ?_
  have e : (m.count.map VP.int).length ≤ sizeLine := by rw [List.length_map]; exact Nat.le_trans hl (by decide)
  refine Ex.retS (Ev.callB (Ev.glob (g_max hC)) (.cons (Ev.binop (Ev.callB (Ev.glob (g_len hC)) (.cons (Ev.name rfl) .nil) (fun _ _ => rfl) (Fn.lenTup e)) Ev.cint Op2.subInt) (.cons (Ev.name rfl) .nil)) (fun _ _ => rfl) Fn.max2) ?_
  intro Z v h
  rw [List.length_map] at h; exact h
theorem pickAt_int {α β : Type} [Inhabited α] {l : List α} (f : α → β) {i : Int} {d : α} (h0 : 0 ≤ i) (h : i < l.length) : pickAt (l.map f) i = some (f (l.getD i.toNat d)) := by
  obtain ⟨k, rfl⟩ := Int.eq_ofNat_of_zero_le h0
  exact pickAt_map f (by omega)
theorem mem_upto {a b i : Int} (h : i ∈ upto a b) : a ≤ i ∧ i < b := by
  unfold upto at h
  obtain ⟨k, hk, rfl⟩ := List.mem_map.mp h
  have := List.mem_range.mp hk
  omega
noncomputable def ilOf (ts : Int) (count : List Int) (l : List Int) : Int := (l.map fun i => i.fdiv ts * count.getD i.toNat 0).sum
noncomputable def indentOf (m : Mk) (ts : Int) : Int := m.b + ts * (ilOf ts m.count (upto ts m.count.length) + m.nt)
theorem indent_ok (hC : C.Ok) (m : Mk) (ts : Int) (hl : m.count.length ≤ 1000) (h0 : 1 ≤ ts) (h1 : ts ≤ 1000) : Fn C 1 (.ref 115) [markP m, .int ts] (.int (indentOf m ts)) := by
  refine Fn.body (xs := [Str.ofString "self", Str.ofString "tabsize"]) (hC.at rfl) rfl (hC.code rfl) rfl (fun vs h => match vs, h with | [a, b], _ => rfl) rfl rfl rfl rfl (by decide) rfl (by decide) ?_
  refine Ex.cons1 (ExS.asgs (mk_norm hC rfl) (.one (Asg.tup (.cons (Asg.name (.inl rfl)) (.cons (Asg.name (.inl rfl)) .nil)))) rfl) (Ex.cons1 (ExS.asg Ev.cint rfl) ?_)
  have e : (m.count.map VP.int).length ≤ sizeLine := by rw [List.length_map]; exact Nat.le_trans hl (by decide)
  refine Ex.cons1 (ExS.forL (xs := upto ts m.count.length) (P := fun i => VP.int i) (fun pre => ([("il", .val (.int (ilOf ts m.count pre))), ("count", .val (.tup (m.count.map VP.int))), ("tabsize", .val (.int ts)), ("self", .val (markP m)), ("trailing", .val (.int m.b))] : Gam))
    (EvIter.of (Ev.callT (Ev.glob (g_range hC)) (.cons (Ev.name rfl) (.cons (Ev.callB (Ev.glob (g_len hC)) (.cons (Ev.name rfl) .nil) (fun _ _ => rfl) (Fn.lenTup e)) .nil)) (fun _ _ => rfl) Fn.range2) (OpIter.range (by omega) (by omega) (by omega) (by rw [List.length_map]; omega))) (by rw [List.length_map]) (gsub_cons rfl (gsub_cons rfl (gsub_cons rfl (gsub_cons rfl (gsub_cons rfl gsub_nil)))))
    (fun pre i post hp => ⟨_, Asg.name (.inl rfl), ?_⟩) rfl) ?_
  · have hi := mem_upto (i := i) (a := ts) (b := m.count.length) (by rw [hp]; simp)
    refine Ex.cons1 (ExS.asg (Ev.binop (Ev.name rfl) (Ev.binop (Ev.binop (Ev.name rfl) (Ev.name rfl) (Op2.divInt (by omega) (by omega))) (Ev.atTup (P := .int (m.count.getD i.toNat 0)) (Ev.name rfl) (Ev.name rfl) (pickAt_int VP.int (by omega) hi.2) e) (Op2.mulInt ?_)) Op2.addInt) rfl) (Ex.nil rfl (gsub_cons ?_ (gsub_cons rfl (gsub_cons rfl (gsub_cons rfl (gsub_cons rfl gsub_nil))))))
    · refine IntMulOk.of_left (intBits_le_64 ?_ ?_)
      · have : 0 ≤ i.fdiv ts := Int.fdiv_nonneg (by omega) (by omega)
        omega
      · have : i.fdiv ts ≤ i := by rw [Int.fdiv_eq_ediv_of_nonneg _ (by omega)]; exact Int.ediv_le_self _ (by omega)
        omega
    · unfold ilOf; rw [List.map_append, List.sum_append]; simp
  · exact Ex.retS (Ev.binop (Ev.name rfl) (Ev.binop (Ev.name rfl) (Ev.binop (Ev.name rfl) (mk_nt hC rfl) Op2.addInt) (Op2.mulInt (IntMulOk.of_left (intBits_le_64 (by omega) (by omega))))) Op2.addInt) fun Z v h => h
end Mine
end

section
open PySem PySem.W PyProof.Rows
set_option autoImplicit false
set_option maxRecDepth 100000
namespace Mine
variable {C : Cx} {n : Nat}
theorem mk_longest {sc : Scope} {G : Gam} {x : Str} {px ap pos : Pos} {m : Mk} (hC : C.Ok) (hl : m.count.length ≤ 1000) (h : G.lookup x = some (.val (markP m))) (hd : ((x == ("__debug__" : Str)) || (x == ("__classdict__" : Str))) = false := by rfl) (hline : (ap.endLine == pos.line) = true := by rfl) :
    Ev C (n + 1) sc G (.Call (.Attribute (.Name x px) (Str.ofString "longest_run_of_spaces") ap) [] [] pos) (.int (runOf m)) :=
  Ev.methI (Ev.name h hd) .nil rfl (by rw [show C.K = _ from hC]; rfl) (f := 108) (by rw [show C.K = _ from hC]; rfl) (by rw [show C.K = _ from hC]; rfl) (hC.keep rfl) (fun _ _ => rfl) ((longest_ok hC m hl).le (by omega)) (fun _ => rfl) rfl hline
theorem mk_indent {sc : Scope} {G : Gam} {x y : Str} {px py ap pos : Pos} {m : Mk} {ts : Int} (hC : C.Ok) (hl : m.count.length ≤ 1000) (h0 : 1 ≤ ts) (h1 : ts ≤ 1000) (h : G.lookup x = some (.val (markP m))) (h' : G.lookup y = some (.val (.int ts))) (hd : ((x == ("__debug__" : Str)) || (x == ("__classdict__" : Str))) = false := by rfl) (hd' : ((y == ("__debug__" : Str)) || (y == ("__classdict__" : Str))) = false := by rfl) (hline : (ap.endLine == pos.line) = true := by rfl) :
    Ev C (n + 1) sc G (.Call (.Attribute (.Name x px) (Str.ofString "indent_level") ap) [.Name y py] [] pos) (.int (indentOf m ts)) :=
  Ev.methI (Ev.name h hd) (.cons (Ev.name h' hd') .nil (fun _ => rfl)) rfl (by rw [show C.K = _ from hC]; rfl) (f := 115) (by rw [show C.K = _ from hC]; rfl) (by rw [show C.K = _ from hC]; rfl) (hC.keep rfl) (fun _ _ => rfl) ((indent_ok hC m ts hl h0 h1).le (by omega)) (fun _ => rfl) rfl hline
noncomputable def row3 (t : Int × Int × Int) : VP := .tup [.int t.1, .int t.2.1, .int t.2.2]
noncomputable def witOf (m m' : Mk) (l : List Int) : List (Int × Int × Int) := (l.filter fun ts => indentOf m ts != indentOf m' ts).map fun ts => (ts, indentOf m ts, indentOf m' ts)
noncomputable def witness (m m' : Mk) : List (Int × Int × Int) := witOf m m' (upto 1 (max (runOf m) (runOf m') + 1 + 1))
theorem wit_len (m m' : Mk) (l : List Int) : (witOf m m' l).length ≤ l.length := by
  unfold witOf; rw [List.length_map]; exact List.length_filter_le _ _
theorem witness_ok (hC : C.Ok) (m m' : Mk) (hl : m.count.length ≤ 1000) (hl' : m'.count.length ≤ 1000) (hr : runOf m ≤ 900) (hr' : runOf m' ≤ 900) (hp : -900 ≤ runOf m) : Fn C 2 (.ref 129) [markP m, markP m'] (.list ((witness m m').map row3)) := by
  refine Fn.body (xs := [Str.ofString "self", Str.ofString "other"]) (hC.at rfl) rfl (hC.code rfl) rfl (fun vs h => match vs, h with | [a, b], _ => rfl) rfl rfl rfl rfl (by decide) rfl (by decide) ?_
  refine Ex.cons1 (ExS.asg (Ev.binop (Ev.callB (Ev.glob (g_max hC)) (.cons (mk_longest hC hl rfl) (.cons (mk_longest hC hl' rfl) .nil)) (fun _ _ => rfl) Fn.max2) Ev.cint Op2.addInt) rfl) (Ex.cons1 (ExS.list0 rfl) ?_)
  have hN : max (runOf m) (runOf m') + 1 + 1 ≤ 902 := by omega
  have hN' : -900 ≤ max (runOf m) (runOf m') + 1 + 1 := by omega
  have hlen : (upto 1 (max (runOf m) (runOf m') + 1 + 1)).length ≤ 1000 := by unfold upto; rw [List.length_map, List.length_range]; omega
  refine Ex.cons1 (ExS.forL (xs := upto 1 (max (runOf m) (runOf m') + 1 + 1)) (P := fun i => VP.int i) (fun pre => ([("a", .own (.list ((witOf m m' pre).map row3))), ("self", .val (markP m)), ("other", .val (markP m'))] : Gam))
    (EvIter.of (Ev.callT (Ev.glob (g_range hC)) (.cons Ev.cint (.cons (Ev.binop (Ev.name rfl) Ev.cint Op2.addInt) .nil)) (fun _ _ => rfl) Fn.range2) (OpIter.range (by decide) (by decide) (by omega) (by omega))) rfl (gsub_cons rfl (gsub_cons rfl (gsub_cons rfl gsub_nil)))
    (fun pre ts post e => ⟨_, Asg.name (.inl rfl), ?_⟩) rfl) (Ex.freeze (x := "a") rfl (Ex.retS (Ev.name rfl) fun Z v h => h))
  have hts := mem_upto (i := ts) (a := 1) (b := max (runOf m) (runOf m') + 1 + 1) (by rw [e]; simp)
  have hpre : (witOf m m' pre).length ≤ 1000 := by
    have h1 := wit_len m m' pre
    have h2 := congrArg List.length e
    rw [List.length_append] at h2; omega
  have step : witOf m m' (pre ++ [ts]) = witOf m m' pre ++ (if indentOf m ts != indentOf m' ts then [(ts, indentOf m ts, indentOf m' ts)] else []) := by
    unfold witOf; rw [List.filter_append, List.map_append]
    cases h : indentOf m ts != indentOf m' ts <;> simp [h]
  refine Ex.ite (Tst.cmp (mk_indent hC hl hts.1 (by omega) rfl rfl) (mk_indent hC hl' hts.1 (by omega) rfl rfl) Op2.neInt) (fun h => ?_) fun h => ?_
  · refine Ex.cons1 (ExS.append (P := row3 (ts, indentOf m ts, indentOf m' ts)) rfl (Ev.tupD (.cons (Ev.name rfl) (.cons (mk_indent hC hl hts.1 (by omega) rfl rfl) (.cons (mk_indent hC hl' hts.1 (by omega) rfl rfl) .nil)))) (fun _ => rfl) ?_ rfl rfl rfl (fun _ => rfl) (fun env hE => ?_)) (Ex.nil rfl (gsub_cons ?_ (gsub_cons rfl (gsub_cons rfl gsub_nil))))
    · rw [List.length_map]; exact Nat.le_trans hpre (by decide)
    · unfold interactive; rw [hE.1, hE.2]; rfl
    · rw [step, if_pos h, List.map_append]; rfl
  · refine Ex.nil rfl (gsub_cons ?_ (gsub_cons rfl (gsub_cons rfl gsub_nil)))
    rw [step, if_neg (by rw [h]; exact Bool.false_ne_true), List.append_nil]; rfl
end Mine
end

section
open PySem PySem.W PyProof.Rows
set_option autoImplicit false
set_option maxRecDepth 100000
namespace Mine
variable {C : Cx} {n : Nat}
structure Sc where
  count : List Int
  b : Int
  n : Int
  nt : Int
noncomputable def padC (c : List Int) (b : Int) : List Int := if (c.length : Int) ≤ b then c ++ List.replicate (b - c.length + 1).toNat 0 else c
noncomputable def tabC (c : List Int) (b : Int) : List Int := (padC c b).set b.toNat ((padC c b).getD b.toNat 0 + 1)
noncomputable def stepW (s : Sc) (c : Str) : Option Sc :=
  if c = " " then some ⟨s.count, s.b + 1, s.n + 1, s.nt⟩
  else if c = "\t" then some ⟨tabC s.count s.b, 0, s.n + 1, s.nt + 1⟩
  else none
noncomputable def scanW : List Str → Sc → Sc
  | [], s => s
  | c :: cs, s => match stepW s c with
    | some s' => scanW cs s'
    | none => s
noncomputable def sc0 : Sc := ⟨[], 0, 0, 0⟩
noncomputable def atW : List Str → Sc → Nat → Option Sc
  | _, s, 0 => some s
  | [], _, _ + 1 => none
  | c :: cs, s, i + 1 => match stepW s c with
    | some s' => atW cs s' i
    | none => none
theorem atW_succ : ∀ (xs : List Str) (s : Sc) (i : Nat) (c : Str) (s' : Sc), xs[i]? = some c → atW xs s i = some s' → atW xs s (i + 1) = stepW s' c
  | [], _, _, _, _, h, _ => by simp at h
  | x :: xs, s, 0, c, s', h, h' => by
    have e1 : x = c := by simpa using h
    have e2 : s = s' := by simpa [atW] using h'
    subst e1; subst e2
    show (match stepW s x with | some s' => atW xs s' 0 | none => none) = _
    cases stepW s x <;> cases xs <;> rfl
  | x :: xs, s, i + 1, c, s', h, h' => by
    have e1 : xs[i]? = some c := by simpa using h
    show (match stepW s x with | some s' => atW xs s' (i + 1) | none => none) = _
    have h2 : (match stepW s x with | some s' => atW xs s' i | none => none) = some s' := h'
    cases q : stepW s x with
    | none => rw [q] at h2; cases h2
    | some t => rw [q] at h2; exact atW_succ xs t i c s' e1 h2
theorem atW_scan : ∀ (xs : List Str) (s : Sc) (i : Nat) (s' : Sc), atW xs s i = some s' → scanW xs s = scanW (xs.drop i) s'
  | xs, s, 0, s', h => by
    have : s = s' := by cases xs <;> simpa [atW] using h
    rw [this]; rfl
  | [], _, i + 1, _, h => by simp [atW] at h
  | x :: xs, s, i + 1, s', h => by
    have h2 : (match stepW s x with | some s' => atW xs s' i | none => none) = some s' := h
    show (match stepW s x with | some s' => scanW xs s' | none => s) = scanW (xs.drop i) s'
    cases q : stepW s x with
    | none => rw [q] at h2; cases h2
    | some t => rw [q] at h2; exact atW_scan xs t i s' h2
theorem padC_length (c : List Int) (b : Int) (h0 : 0 ≤ b) (k : Nat) (h1 : b ≤ k) (h2 : c.length ≤ k + 1) : (padC c b).length ≤ k + 1 ∧ b < (padC c b).length := by
  unfold padC
  split
  · rw [List.length_append, List.length_replicate]; omega
  · constructor <;> omega
theorem stepW_ok {s s' : Sc} {c : Str} {k : Nat} (h : stepW s c = some s') (h0 : 0 ≤ s.b) (h1 : s.b ≤ k) (h2 : s.count.length ≤ k + 1) : 0 ≤ s'.b ∧ s'.b ≤ (k + 1 : Nat) ∧ s'.count.length ≤ k + 1 + 1 := by
  unfold stepW at h
  split at h
  · cases h; refine ⟨?_, ?_, ?_⟩ <;> simp <;> omega
  · split at h
    · cases h
      have := padC_length s.count s.b h0 k h1 h2
      refine ⟨by simp, by simp; omega, ?_⟩
      show (tabC s.count s.b).length ≤ _
      unfold tabC; rw [List.length_set]; omega
    · cases h
theorem atW_ok : ∀ (i : Nat) (xs : List Str) (s s' : Sc) (k : Nat), atW xs s i = some s' → 0 ≤ s.b → s.b ≤ k → s.count.length ≤ k + 1 → 0 ≤ s'.b ∧ s'.b ≤ (k + i : Nat) ∧ s'.count.length ≤ k + i + 1
  | 0, xs, s, s', k, h, h0, h1, h2 => by
    have : s = s' := by cases xs <;> simpa [atW] using h
    subst this; exact ⟨h0, h1, h2⟩
  | i + 1, [], s, s', k, h, _, _, _ => by simp [atW] at h
  | i + 1, x :: xs, s, s', k, h, h0, h1, h2 => by
    have h3 : (match stepW s x with | some s' => atW xs s' i | none => none) = some s' := h
    cases q : stepW s x with
    | none => rw [q] at h3; cases h3
    | some t =>
      rw [q] at h3
      obtain ⟨a, b, c⟩ := stepW_ok q h0 h1 h2
      have := atW_ok i xs t s' (k + 1) h3 a b c
      rw [show k + 1 + i = k + (i + 1) by omega] at this
      exact this
noncomputable def mkOf (raw : Str) : Mk := let s := scanW (signs raw) sc0; ⟨raw, s.n, s.nt, s.count, s.b, decide ((s.count.length : Int) ≤ 1)⟩
noncomputable def scG (x : Addr) (s : Sc) : Gam := [("count", .own (.list (s.count.map VP.int))), ("b", .val (.int s.b)), ("n", .val (.int s.n)), ("nt", .val (.int s.nt)), ("S", .val (.str " ")), ("T", .val (.str "\t")), ("self", .val (.is (.ref x)))]
theorem ExS.brk {sc : Scope} {G G' : Gam} {p : Pos} {O : Out} (h : O.brk G') (hs : GSub G' G) : ExS C n sc G (.Break p) O := fun A Z mine R env s E hA hE I S g => wpAny_Break ⟨Z, mine, .rfl, I, S, G', h, g.sub hs⟩
noncomputable def noG : Gam := [("n", .val .never)]
theorem signs_len (x : Str) : (signs x).length = x.length := by unfold signs; rw [List.length_map]; rfl
theorem Ev.clsAttr {sc : Scope} {G : Gam} {v : Expr} {a : Str} {pos : Pos} {cls : Addr} {mc w : Value} (hv : Ev C n sc G v (.is (.ref cls))) (hr : readsIn C.K cls mc = true) (e : findCls C.K (.ref cls) mc a = some (.val w)) (hh : handedIn w = true) (hb : ∀ env, attributeBase v a env (eval v env) = eval v env := by intro _; rfl) : Ev C n sc G (.Attribute v a pos) (.is w) := fun A Z own env s E hA hE I g => by
  rw [arm_eval_Attribute, hb env]
  refine wpAny_bind (wpAny_mono (hv A Z own env s E hA hE I g) (fun o s1 q => ?_) fun _ _ e => e)
  obtain ⟨Z1, z1, I1, p1⟩ := q
  cases (show o = .ref cls from p1)
  refine wpAny_bind (wpAny_standAt (wpAny_bind (wpAny_holding ?_)))
  refine cls_value I1.kin hr e hh ?_
  exact wpAny_bind (wpAny_letTemporaryGo (wpAny_pure ⟨Z1, z1, I1.tok _, rfl⟩))
theorem ExI.cons1 {sc : Scope} {G G' : Gam} {cls x dx : Addr} {l l' : List (Str × VP)} {st : Stmt} {ss : List Stmt} (h : ExS C n sc G st { next := fun X => X = G' }) (k : ExI C n sc cls x dx G' l ss l') : ExI C n sc cls x dx G l (st :: ss) l' := ExI.cons h fun _ e => by subst e; exact k
theorem scanW_len : ∀ (xs : List Str) (s : Sc) (k : Nat), 0 ≤ s.b → s.b ≤ k → s.count.length ≤ k + 1 → (scanW xs s).count.length ≤ k + xs.length + 1
  | [], s, k, _, _, h => by simpa [scanW] using h
  | c :: cs, s, k, h0, h1, h2 => by
    show (match stepW s c with | some s' => scanW cs s' | none => s).count.length ≤ _
    cases q : stepW s c with
    | none => simp only [List.length_cons]; omega
    | some t =>
      obtain ⟨a, b, d⟩ := stepW_ok q h0 h1 h2
      have := scanW_len cs t (k + 1) a b d
      simp only [List.length_cons]; omega
theorem ExI.absurd {sc : Scope} {G : Gam} {cls x dx : Addr} {l l' : List (Str × VP)} {ss : List Stmt} {y : Str} (h : G.lookup y = some (.val .never)) : ExI C n sc cls x dx G l ss l' := fun A Z mine R env s E od hA hE I S g hx hl => by
  obtain ⟨v, _, k⟩ := g y _ h
  exact k.elim
theorem ws_cls (hC : C.Ok) : ClsOk C 146 := ⟨by rw [show C.K = _ from hC]; rfl, by rw [show C.K = _ from hC]; rfl, by rw [show C.K = _ from hC]; rfl⟩
theorem g_Whitespace (h : C.Ok) : (C.mg "Whitespace").or (C.mb "Whitespace") = some (.ref 146) := h.mg rfl
theorem ws_init_ok (hC : C.Ok) (raw : Str) (hr : raw.length ≤ 800) : InitOk C 1 101 146 [.str raw] (markL (mkOf raw)) := by
  refine InitOk.body (xs := [Str.ofString "self", Str.ofString "ws"]) (hC.at rfl) rfl (hC.code rfl) rfl (fun vs h => match vs, h with | [a, b], _ => rfl) rfl rfl rfl rfl (by decide) rfl (by decide) fun x dx => ?_
  refine ExI.set rfl (Ev.name rfl) (ws_cls hC) (by rw [show C.K = _ from hC]; rfl) (by decide) ?_
  refine ExI.cons1 (ExS.swap (xs := ["S", "T"]) (ps := [.str " ", .str "\t"]) (Ev.tupD (.cons (Ev.weaken (Ev.clsAttr (mc := .type "type") (Ev.glob (g_Whitespace hC)) (by rw [show C.K = _ from hC]; rfl) (by rw [show C.K = _ from hC]; rfl) rfl) fun Z v h => ⟨_, h⟩) (.cons (Ev.weaken (Ev.clsAttr (mc := .type "type") (Ev.glob (g_Whitespace hC)) (by rw [show C.K = _ from hC]; rfl) (by rw [show C.K = _ from hC]; rfl) rfl) fun Z v h => ⟨_, h⟩) .nil)))
    rfl rfl rfl (fun env hE => by obtain ⟨e, _, _, _⟩ := hE; cases env; cases e; rfl)) ?_
  refine ExI.cons1 (ExS.list0 rfl) ?_
  refine ExI.cons1 (ExS.asgs Ev.cint (.cons (Asg.name (.inl rfl)) (.cons (Asg.name (.inl rfl)) (.one (Asg.name (.inl rfl))))) rfl) ?_
  have hlen := signs_len raw
  let J : Nat → Gam := fun i => match atW (signs raw) sc0 i with | some s => scG x s | none => noG
  have hJ0 : J 0 = scG x sc0 := by
    show (match atW (signs raw) sc0 0 with | some s => scG x s | none => _) = _
    cases (signs raw) <;> rfl
  have hJ : ∀ i s, atW (signs raw) sc0 i = some s → J i = scG x s := fun i s h => by
    show (match atW (signs raw) sc0 i with | some s => scG x s | none => _) = _
    rw [h]
  have hJn : ∀ i, atW (signs raw) sc0 i = none → J i = noG := fun i h => by
    show (match atW (signs raw) sc0 i with | some s => scG x s | none => _) = _
    rw [h]
  refine ExI.forAttr (N := fun X => X = scG x (scanW (signs raw) sc0) ∨ X = noG) J rfl rfl plain_str (by rw [show C.K = _ from hC]; rfl) (by rw [show C.K = _ from hC]; rfl) (at_ := none) (by rw [show C.K = _ from hC]; rfl) rfl OpIter.str ?_ (fun i q hq => ?_) ?_ (fun G' hG => ?_)
  · rw [hJ0]; exact gsub_cons rfl (gsub_cons rfl (gsub_cons rfl (gsub_cons rfl (gsub_cons rfl (gsub_cons rfl (gsub_cons rfl gsub_nil))))))
  · obtain ⟨c, hc, rfl⟩ : ∃ c, (signs raw)[i]? = some c ∧ VP.str c = q := by rw [List.getElem?_map] at hq; exact Option.map_eq_some_iff.mp hq
    have hi : i < 800 := by
      have := (List.getElem?_eq_some_iff.mp hc).1
      omega
    cases hs : atW (signs raw) sc0 i with
    | none => rw [hJn i hs]; exact ⟨_, Asg.name (.inl rfl), Ex.absurd (x := "n") rfl⟩
    | some s =>
      rw [hJ i s hs]
      refine ⟨_, Asg.name (.inl rfl), ?_⟩
      obtain ⟨b0, b1, b2⟩ := atW_ok i _ sc0 s 0 hs (by decide) (by decide) (by decide)
      have hstep := atW_succ _ _ i c s hc hs
      have hcl : (s.count.map VP.int).length ≤ sizeLine := by rw [List.length_map]; exact Nat.le_trans (by omega : s.count.length ≤ 1000) (by decide)
      refine Ex.ite (Tst.cmp (Ev.name rfl) (Ev.name rfl) Op2.eqStr) (fun h => ?_) fun h => ?_
      · have h' : c = " " := by simpa using h
        rw [show stepW s c = some ⟨s.count, s.b + 1, s.n + 1, s.nt⟩ by unfold stepW; rw [if_pos h']] at hstep
        refine Ex.cons1 (ExS.asg (Ev.binop (Ev.name rfl) Ev.cint Op2.addInt) rfl) (Ex.cons1 (ExS.asg (Ev.binop (Ev.name rfl) Ev.cint Op2.addInt) rfl) (Ex.nil rfl ?_))
        rw [hJ _ _ hstep]
        exact gsub_cons rfl (gsub_cons rfl (gsub_cons rfl (gsub_cons rfl (gsub_cons rfl (gsub_cons rfl (gsub_cons rfl gsub_nil))))))
      · have h' : ¬ c = " " := by simpa using h
        refine Ex.ite (Tst.cmp (Ev.name rfl) (Ev.name rfl) Op2.eqStr) (fun h2 => ?_) fun h2 => ?_
        · have h2' : c = "\t" := by simpa using h2
          rw [show stepW s c = some ⟨tabC s.count s.b, 0, s.n + 1, s.nt + 1⟩ by unfold stepW; rw [if_neg h', if_pos h2']] at hstep
          have hpl := padC_length s.count s.b b0 (0 + i) b1 b2
          refine Ex.cons1 (ExS.asg (Ev.binop (Ev.name rfl) Ev.cint Op2.addInt) rfl) (Ex.cons1 (ExS.asg (Ev.binop (Ev.name rfl) Ev.cint Op2.addInt) rfl) ?_)
          refine Ex.ite (Tst.cmp (Ev.name rfl) (Ev.borrow (x := "count") rfl (Ev.callB (Ev.glob (g_len hC)) (.cons (Ev.name rfl) .nil) (fun _ _ => rfl) (Fn.lenList hcl)) thaws_int) Op2.geInt) (fun h3 => ?_) fun h3 => ?_
          · have h3' : (s.count.length : Int) ≤ s.b := by have := of_decide_eq_true h3; rwa [List.length_map] at this
            have hpad : padC s.count s.b = s.count ++ List.replicate (s.b - s.count.length + 1).toNat 0 := by unfold padC; rw [if_pos h3']
            have hU : s.count.map VP.int ++ (List.replicate (s.b - (s.count.map VP.int).length + 1).toNat [VP.int 0]).flatten = (padC s.count s.b).map VP.int := by
              rw [hpad, List.map_append, List.map_replicate, List.length_map]
              congr 1
              generalize (s.b - s.count.length + 1).toNat = k
              induction k with
              | zero => rfl
              | succ k ih => rw [List.replicate_succ, List.replicate_succ, List.flatten_cons, ih]; rfl
            have hpsz : ((padC s.count s.b).map VP.int).length ≤ sizeLine := by rw [List.length_map]; exact Nat.le_trans (by omega : (padC s.count s.b).length ≤ 1000) (by decide)
            refine Ex.cons1 (ExS.ownF (U := .list ((padC s.count s.b).map VP.int)) (hU ▸ EvF.addOwn (x := "count") rfl (Ev.binop (Ev.listD (.cons Ev.cint .nil)) (Ev.binop (Ev.binop (Ev.name rfl) (Ev.borrow (x := "count") rfl (Ev.callB (Ev.glob (g_len hC)) (.cons (Ev.name rfl) .nil) (fun _ _ => rfl) (Fn.lenList hcl)) thaws_int) Op2.subInt) Ev.cint Op2.addInt) (Op2.mulList (by simp) ?_ ?_ ?_)) ?_) rfl) ?_
            · rw [List.length_map]; omega
            · rw [List.length_map]; omega
            · rw [List.length_map]; simp only [List.length_cons, List.length_nil]; omega
            · rw [← List.length_append, hU]; exact hpsz
            refine Ex.cons1 (ExS.setList (k := s.b) (P := .int ((padC s.count s.b).getD s.b.toNat 0 + 1)) rfl (Ev.binop (Ev.borrow (x := "count") rfl (Ev.atList (P := .int ((padC s.count s.b).getD s.b.toNat 0)) (Ev.name rfl) (Ev.name rfl) (pickAt_int VP.int b0 hpl.2) hpsz) thaws_int) Ev.cint Op2.addInt) (Ev.name rfl) b0 (by rw [List.length_map]; exact hpl.2) hpsz rfl) (Ex.cons1 (ExS.asg Ev.cint rfl) (Ex.nil rfl ?_))
            rw [hJ _ _ hstep]
            refine gsub_cons ?_ (gsub_cons rfl (gsub_cons rfl (gsub_cons rfl (gsub_cons rfl (gsub_cons rfl (gsub_cons rfl gsub_nil))))))
            show some (Ent.own (UP.list _)) = some (Ent.own (UP.list _))
            rw [tabC, List.map_set]
          · have h3' : ¬ (s.count.length : Int) ≤ s.b := by have := of_decide_eq_false h3; rwa [List.length_map] at this
            have hpad : padC s.count s.b = s.count := by unfold padC; rw [if_neg h3']
            rw [hpad] at hpl
            refine Ex.cons1 (ExS.setList (k := s.b) (P := .int (s.count.getD s.b.toNat 0 + 1)) rfl (Ev.binop (Ev.borrow (x := "count") rfl (Ev.atList (P := .int (s.count.getD s.b.toNat 0)) (Ev.name rfl) (Ev.name rfl) (pickAt_int VP.int b0 hpl.2) hcl) thaws_int) Ev.cint Op2.addInt) (Ev.name rfl) b0 (by rw [List.length_map]; exact hpl.2) hcl rfl) (Ex.cons1 (ExS.asg Ev.cint rfl) (Ex.nil rfl ?_))
            rw [hJ _ _ hstep]
            refine gsub_cons ?_ (gsub_cons rfl (gsub_cons rfl (gsub_cons rfl (gsub_cons rfl (gsub_cons rfl (gsub_cons rfl gsub_nil))))))
            show some (Ent.own (UP.list _)) = some (Ent.own (UP.list _))
            rw [tabC, hpad, List.map_set]
        · have h2' : ¬ c = "\t" := by simpa using h2
          have hn : stepW s c = none := by unfold stepW; rw [if_neg h', if_neg h2']
          have hd : (signs raw).drop i = c :: (signs raw).drop (i + 1) := by
            obtain ⟨hi', e⟩ := List.getElem?_eq_some_iff.mp hc
            rw [List.drop_eq_getElem_cons hi', e]
          have hf : scanW (signs raw) sc0 = s := by
            rw [atW_scan _ _ _ _ hs, hd]
            show (match stepW s c with | some s' => scanW _ s' | none => s) = s
            rw [hn]
          refine Ex.cons (N := fun _ => False) (ExS.brk (G' := scG x s) (.inl (by rw [hf])) (gsub_cons rfl (gsub_cons rfl (gsub_cons rfl (gsub_cons rfl (gsub_cons rfl (gsub_cons rfl (gsub_cons rfl gsub_nil)))))))) fun _ h => h.elim
  · show J _ = _ ∨ J _ = noG
    cases hs : atW (signs raw) sc0 ((signs raw).map VP.str).length with
    | none => exact .inr (hJn _ hs)
    | some s =>
      left
      rw [hJ _ s hs]
      have := atW_scan _ _ _ _ hs
      rw [List.length_map, List.drop_length] at this
      rw [this]; rfl
  · rcases hG with rfl | rfl
    · have hsl := scanW_len (signs raw) sc0 0 (by decide) (by decide) (by decide)
      have hcl : ((scanW (signs raw) sc0).count.map VP.int).length ≤ sizeLine := by rw [List.length_map]; exact Nat.le_trans (by omega : (scanW (signs raw) sc0).count.length ≤ 1000) (by decide)
      refine ExI.set rfl (Ev.name rfl) (ws_cls hC) (by rw [show C.K = _ from hC]; rfl) (show 1 ≤ 900 by decide) ?_
      refine ExI.set rfl (Ev.name rfl) (ws_cls hC) (by rw [show C.K = _ from hC]; rfl) (show 2 ≤ 900 by decide) ?_
      refine ExI.set (P := normP (mkOf raw)) rfl (Ev.tupD (.cons (Ev.borrow (x := "count") rfl (Ev.callT (Ev.glob (g_tuple hC)) (.cons (Ev.name rfl) .nil) (fun _ _ => rfl) (Fn.tupList hcl)) (thaws_tup fun _ _ _ _ h => h)) (.cons (Ev.name rfl) .nil))) (ws_cls hC) (by rw [show C.K = _ from hC]; rfl) (show 3 ≤ 900 by decide) ?_
      refine ExI.set (P := .bool (mkOf raw).simple) rfl (Ev.cast (Ev.cmp (Ev.borrow (x := "count") rfl (Ev.callB (Ev.glob (g_len hC)) (.cons (Ev.name rfl) .nil) (fun _ _ => rfl) (Fn.lenList hcl)) thaws_int) Ev.cint Op2.leInt) ?_) (ws_cls hC) (by rw [show C.K = _ from hC]; rfl) (show 4 ≤ 900 by decide) ?_
      · rw [List.length_map]; rfl
      · exact ExI.nil
    · exact ExI.absurd (y := "n") rfl
end Mine
end

section
open PySem PySem.W PyProof.Rows
set_option autoImplicit false
set_option maxRecDepth 100000
namespace Mine
variable {C : Cx} {n : Nat}
noncomputable def GcOk (scope : Scope) (Gc : Gam) : Prop := ∀ x e, Gc.lookup x = some e → scope.names.lookup x = some .free ∧ (scope.names.all fun p => !(p.1 == x && p.2 == .cell)) = true
theorem gc_nil {scope : Scope} : GcOk scope [] := fun x e h => by simp at h
theorem gc_cons {scope : Scope} {y : Str} {e0 : Ent} {Gc : Gam} (h1 : scope.names.lookup y = some .free) (h2 : (scope.names.all fun p => !(p.1 == y && p.2 == .cell)) = true) (h : GcOk scope Gc) : GcOk scope ((y, e0) :: Gc) := fun x e q => by
  by_cases hx : x = y
  · subst hx; exact ⟨h1, h2⟩
  · rw [lookup_cons_ne hx] at q; exact h x e q
noncomputable def walkP (w : List Int × Int) : VP := .tup [.list (w.1.map VP.int), .int w.2]
noncomputable def unlike (v w : List Int × Int) : List (Int × Int × Int) := ((upto 0 (max v.2 w.2)).filter fun k => v.1.getD k.toNat 0 != w.1.getD k.toNat 0).map fun k => (k + 1, v.1.getD k.toNat 0, w.1.getD k.toNat 0)
theorem unlike_ok (hC : C.Ok) (v w : List Int × Int) (hv : v.1.length ≤ 1000) (hw : w.1.length ≤ 1000) (h1 : max v.2 w.2 ≤ v.1.length) (h2 : max v.2 w.2 ≤ w.1.length) (h3 : -1000 ≤ v.2) : Fn C 1 (.ref 174) [walkP v, walkP w] (.list ((unlike v w).map row3)) := by
  refine Fn.body (xs := [Str.ofString "one", Str.ofString "other"]) (hC.at rfl) rfl (hC.code rfl) rfl (fun vs h => match vs, h with | [a, b], _ => rfl) rfl rfl rfl rfl (by decide) rfl (by decide) ?_
  have ev : (v.1.map VP.int).length ≤ sizeLine := by rw [List.length_map]; exact Nat.le_trans hv (by decide)
  have ew : (w.1.map VP.int).length ≤ sizeLine := by rw [List.length_map]; exact Nat.le_trans hw (by decide)
  refine Ex.retS (Ev.comp (CompIs.listF (xs := upto 0 (max v.2 w.2)) (P := fun k => VP.int k) (f := fun k => row3 (k + 1, v.1.getD k.toNat 0, w.1.getD k.toNat 0)) (b := fun k => v.1.getD k.toNat 0 != w.1.getD k.toNat 0) ([("one", .val (walkP v)), ("other", .val (walkP w))] : Gam)
    ⟨rfl, by decide, rfl, gsub_cons rfl (gsub_cons rfl gsub_nil), gc_cons rfl rfl (gc_cons rfl rfl gc_nil)⟩
    (EvIter.of (Ev.callT (Ev.glob (g_range hC)) (.cons (Ev.callB (Ev.glob (g_max hC)) (.cons (Ev.atTup (k := 1) (Ev.name rfl) Ev.cint rfl) (.cons (Ev.atTup (k := 1) (Ev.name rfl) Ev.cint rfl) .nil)) (fun _ _ => rfl) Fn.max2) .nil) (fun _ _ => rfl) Fn.range1) (OpIter.range (by decide) (by decide) (by omega) (by omega))) rfl (by unfold upto; rw [List.length_map, List.length_range]; exact Nat.le_trans (by omega : _ ≤ 1000) (by decide)) fun k hk => ?_) (fun _ => rfl)) ?_
  · have hk' := mem_upto hk
    refine ⟨_, Asg.name (.inl rfl), gsub_cons rfl (gsub_cons rfl gsub_nil), ?_, fun _ => ?_⟩
    · exact Ifs.one (Tst.cmp (Ev.atList (P := .int (v.1.getD k.toNat 0)) (Ev.atTup (k := 0) (Ev.name rfl) Ev.cint rfl) (Ev.name rfl) (pickAt_int VP.int hk'.1 (by omega)) ev) (Ev.atList (P := .int (w.1.getD k.toNat 0)) (Ev.atTup (k := 0) (Ev.name rfl) Ev.cint rfl) (Ev.name rfl) (pickAt_int VP.int hk'.1 (by omega)) ew) Op2.neInt)
    · exact Ev.tupD (.cons (Ev.binop (Ev.name rfl) Ev.cint Op2.addInt) (.cons (Ev.atList (P := .int (v.1.getD k.toNat 0)) (Ev.atTup (k := 0) (Ev.name rfl) Ev.cint rfl) (Ev.name rfl) (pickAt_int VP.int hk'.1 (by omega)) ev) (.cons (Ev.atList (P := .int (w.1.getD k.toNat 0)) (Ev.atTup (k := 0) (Ev.name rfl) Ev.cint rfl) (Ev.name rfl) (pickAt_int VP.int hk'.1 (by omega)) ew) .nil)))
  · unfold unlike; rw [List.map_map]; exact fun Z v h => h
end Mine
end

section
open PySem PySem.W PyProof.Rows
set_option autoImplicit false
set_option maxRecDepth 100000
namespace Mine
variable {C : Cx} {n : Nat}
noncomputable def colStep (size place : Int) (c : Str) : Int := if c = " " then place + 1 else (place.fdiv size + 1) * size
noncomputable def col (bare : Str) (size : Int) : Int := (signs bare).foldl (colStep size) 0
noncomputable def colsOf (bare : Str) : List Int := [1, 2, 3, 4].map (col bare)
theorem columns_ok (hC : C.Ok) (lead bare : Str) (idx : Nat) (M : Int) (hi : (Builtin.Str.occurrences lead "x" 0 lead.length 1).head? = some idx) (hb : sliceS lead none (some (idx : Int)) = bare) (hl : bare.length ≤ 1000)
    (hM : M ∈ (Txt.split bare "\t").map fun r => (r.length : Int)) (hM' : ∀ a ∈ (Txt.split bare "\t").map fun r => (r.length : Int), a ≤ M) (hs : (Txt.split bare "\t").length ≤ 1000) : Fn C 1 (.ref 169) [.str lead] (walkP (colsOf bare, 1 + M)) := by
  refine Fn.body (xs := [Str.ofString "lead"]) (hC.at rfl) rfl (hC.code rfl) rfl (fun vs h => match vs, h with | [a], _ => rfl) rfl rfl rfl rfl (by decide) rfl (by decide) ?_
  have big : 2000 ≤ sizeLine := by decide
  refine Ex.cons1 (ExS.swap2F (x := "bare") (y := "row") (P := .str bare) (hb ▸ Ev.slStr (Ev.name rfl) .no (.at (Ev.index (Ev.name rfl) Ev.cstr (fun _ _ => rfl) hi)) (by rw [hb]; omega)) EvF.list0 rfl rfl rfl (fun env hE => by obtain ⟨e, _, _, _⟩ := hE; cases env; cases e; rfl)) ?_
  refine Ex.cons1 (ExS.forL (xs := ([1, 2, 3, 4] : List Int)) (P := fun i => VP.int i) (fun pre => ([("row", .own (.list ((pre.map (col bare)).map VP.int))), ("bare", .val (.str bare))] : Gam)) (EvIter.of (Ev.tupD (.cons Ev.cint (.cons Ev.cint (.cons Ev.cint (.cons Ev.cint .nil))))) (OpIter.tup .name)) rfl (gsub_cons rfl (gsub_cons rfl gsub_nil))
    (fun pre size post e => ⟨_, Asg.name (.inl rfl), ?_⟩) rfl) ?_
  · have hsz : size = 1 ∨ size = 2 ∨ size = 3 ∨ size = 4 := by
      have : size ∈ ([1, 2, 3, 4] : List Int) := by rw [e]; simp
      simpa using this
    have hpl : pre.length ≤ 4 := by have := congrArg List.length e; simp at this; omega
    refine Ex.cons1 (ExS.asg Ev.cint rfl) ?_
    refine Ex.cons1 (ExS.forL (xs := signs bare) (P := fun c => VP.str c) (fun p2 => ([("place", .val (.int (p2.foldl (colStep size) 0))), ("size", .val (.int size)), ("row", .own (.list ((pre.map (col bare)).map VP.int))), ("bare", .val (.str bare))] : Gam)) (EvIter.of (Ev.name rfl) OpIter.str) rfl (gsub_cons rfl (gsub_cons rfl (gsub_cons rfl (gsub_cons rfl gsub_nil))))
      (fun p2 c post e2 => ⟨_, Asg.name (.inl rfl), ?_⟩) rfl) ?_
    · refine Ex.cons1 (ExS.asg (P := .int (colStep size (p2.foldl (colStep size) 0) c)) (Ev.ite (Tst.cmp (Ev.name rfl) Ev.cstr Op2.eqStr) (fun h => Ev.cast (Ev.binop (Ev.name rfl) Ev.cint Op2.addInt) ?_) fun h => Ev.cast (Ev.binop (Ev.binop (Ev.binop (Ev.name rfl) (Ev.name rfl) (Op2.divInt ?_ ?_)) Ev.cint Op2.addInt) (Ev.name rfl) (Op2.mulInt ?_)) ?_) rfl) (Ex.nil rfl (gsub_cons ?_ (gsub_cons rfl (gsub_cons rfl (gsub_cons rfl gsub_nil)))))
      · rw [colStep, if_pos (by simpa using h)]
      · omega
      · omega
      · exact IntMulOk.of_right (intBits_le_64 (by omega) (by omega))
      · rw [colStep, if_neg (by simpa using h)]
      · rw [List.foldl_append]; rfl
    · refine Ex.cons1 (ExS.append (P := .int (col bare size)) rfl (Ev.name rfl) (fun _ => rfl) ?_ rfl rfl rfl (fun _ => rfl) (fun env hE => by unfold interactive; rw [hE.1, hE.2]; rfl)) (Ex.nil rfl (gsub_cons ?_ (gsub_cons rfl gsub_nil)))
      · rw [List.length_map, List.length_map]; omega
      · rw [List.map_append, List.map_append]; rfl
  · have hcomp : VP.of (.list (((Txt.split bare "\t").filter fun _ => true).map fun r => VP.int (r.length : Int))) = VP.list (((Txt.split bare "\t").map fun r => (r.length : Int)).map VP.int) := by
      rw [List.filter_eq_self.mpr (fun _ _ => rfl), List.map_map]; rfl
    refine Ex.freeze (x := "row") rfl (Ex.retS (P := walkP (colsOf bare, 1 + M)) (Ev.tupD (.cons (Ev.name rfl) (.cons (Ev.binop (Q := .int M) Ev.cint (Ev.callB (Ev.glob (g_max hC)) (.cons (Ev.cast (Ev.comp (CompIs.listF (xs := Txt.split bare "\t") (P := fun r => VP.str r) (f := fun r => VP.int (r.length : Int)) (b := fun _ => true) [] ⟨rfl, by decide, rfl, gsub_nil, gc_nil⟩
      (EvIter.of (Ev.split (Ev.name rfl) Ev.cstr (fun _ _ => rfl) (by decide) (by omega)) (OpIter.list .name)) rfl (by omega) fun r hr => ⟨_, Asg.name (.inl rfl), gsub_nil, .nil, fun _ => Ev.callB (Ev.glob (g_len hC)) (.cons (Ev.name rfl) .nil) (fun _ _ => rfl) (Fn.lenStr ?_)⟩) (fun _ => rfl)) hcomp) .nil) (fun _ _ => rfl) (Fn.maxList hM hM')) Op2.addInt) .nil))) fun Z v h => h)
    have := part_short hr
    omega
end Mine
end

section
open PySem PySem.W PyProof.Rows
set_option autoImplicit false
set_option maxRecDepth 100000
namespace Mine
variable {C : Cx} {n : Nat}
theorem tc_cls (hC : C.Ok) : ClsOk C 45 := ⟨by rw [show C.K = _ from hC]; rfl, by rw [show C.K = _ from hC]; rfl, by rw [show C.K = _ from hC]; rfl⟩
noncomputable def selP (d : Int) : VP := .tup [.tup [.int 0, .int (-1)], .tup [.int 1, .int d]]
theorem tc_init_ok (hC : C.Ok) (d : Int) : InitOk C 1 35 45 [selP d] [("comp_select_list", selP d)] := by
  refine InitOk.body (xs := [Str.ofString "self", Str.ofString "comp_select_list"]) (hC.at rfl) rfl (hC.code rfl) rfl (fun vs h => match vs, h with | [a, b], _ => rfl) rfl rfl rfl rfl (by decide) rfl (by decide) fun x dx => ?_
  exact ExI.set rfl (Ev.name rfl) (tc_cls hC) (by rw [show C.K = _ from hC]; rfl) (by decide) ExI.nil
theorem tc_make (hC : C.Ok) (d : Int) : Fn C 2 (.ref 45) [selP d] (judgeP d) := Fn.make (fI := 35) (by rw [show C.K = _ from hC]; rfl) (by rw [show C.K = _ from hC]; rfl) (by rw [show C.K = _ from hC]; rfl) (tc_init_ok hC d)
theorem ws_make (hC : C.Ok) (raw : Str) (hr : raw.length ≤ 800) : Fn C 2 (.ref 146) [.str raw] (markP (mkOf raw)) := Fn.make (fI := 101) (by rw [show C.K = _ from hC]; rfl) (by rw [show C.K = _ from hC]; rfl) (by rw [show C.K = _ from hC]; rfl) (ws_init_ok hC raw hr)
end Mine
end

section
open PySem PySem.W PyProof.Rows PySem.Spec
set_option autoImplicit false
namespace Mine
noncomputable def leS (a b : Str) : Prop := a.cps.toList ≤ b.cps.toList
theorem leS_of {a b : Str} (h : ltCps b.cps.toList a.cps.toList = false) : leS a b := by
  rw [ltCps_eq] at h
  exact List.not_lt.mp (of_decide_eq_false h)
theorem leS_trans {a b c : Str} (h : leS a b) (h' : leS b c) : leS a c := List.le_trans h h'
theorem str_ext {a b : Str} (h : a.cps.toList = b.cps.toList) : a = b := congrArg Str.mk (Array.toList_inj.mp h)
theorem leS_anti {a b : Str} (h : leS a b) (h' : leS b a) : a = b := str_ext (List.le_antisymm h h')
theorem leS_total (a b : Str) : leS a b ∨ leS b a := List.le_total _ _
theorem sLt_iff {a b : Str} : sLt a b = true ↔ leS a b ∧ a ≠ b := by
  unfold sLt
  rw [decide_eq_true_iff]
  constructor
  · intro h
    exact ⟨List.le_of_lt h, fun e => by rw [e] at h; exact List.lt_irrefl _ h⟩
  · rintro ⟨h, hne⟩
    exact Decidable.byContradiction fun q => hne (leS_anti h (List.not_lt.mp q))
theorem sLt_false {a b : Str} : sLt a b = false ↔ leS b a := by
  unfold sLt
  rw [decide_eq_false_iff_not]
  exact List.not_lt
theorem rising_pairwise : ∀ (l : List Str) (p : Str), risingS p l = true → (∀ x ∈ l, leS p x) ∧ l.Pairwise leS
  | [], p, _ => ⟨fun _ h => by simp at h, .nil⟩
  | x :: r, p, h => by
    have h' : (!ltCps x.cps.toList p.cps.toList && risingS x r) = true := h
    rw [Bool.and_eq_true, Bool.not_eq_true'] at h'
    obtain ⟨h1, h2⟩ := h'
    obtain ⟨h3, h4⟩ := rising_pairwise r x h2
    have hp := leS_of h1
    refine ⟨fun y hy => ?_, .cons h3 h4⟩
    rcases List.mem_cons.mp hy with q | q
    · subst q; exact hp
    · exact leS_trans hp (h3 y q)
theorem sorted_pairwise {l : List Str} (h : sortedS l = true) : l.Pairwise leS := by
  cases l with
  | nil => exact .nil
  | cons x r => exact .cons (rising_pairwise r x h).1 (rising_pairwise r x h).2
theorem sorted_unique {l l' : List Str} (h : sortedS l = true) (h' : sortedS l' = true) (hp : l.Perm l') : l = l' :=
  hp.eq_of_pairwise (fun _ _ _ _ => leS_anti) (sorted_pairwise h) (sorted_pairwise h')
theorem sorted_is (xs : List Str) : ∃ ys : List Str, ∀ xs' : List Str, xs'.Perm xs → ∀ zs : List Str, zs.Perm xs' → sortedS zs = true → zs = ys := by
  classical
  by_cases h : ∃ ys : List Str, ys.Perm xs ∧ sortedS ys = true
  · obtain ⟨ys, h1, h2⟩ := h
    exact ⟨ys, fun xs' hx zs hz hs => sorted_unique hs h2 ((hz.trans hx).trans h1.symm)⟩
  · exact ⟨[], fun xs' hx zs hz hs => absurd ⟨zs, hz.trans hx, hs⟩ h⟩
end Mine
end

section
open PySem PySem.W PyProof.Rows
set_option autoImplicit false
set_option maxRecDepth 100000
namespace Mine
variable {C : Cx} {n : Nat}
theorem g_sorted (h : C.Ok) : (C.mg "sorted").or (C.mb "sorted") = some (.builtin "sorted") := h.mb rfl (by decide +kernel) (by decide +kernel)
theorem g_sum (h : C.Ok) : (C.mg "sum").or (C.mb "sum") = some (.builtin "sum") := h.mb rfl (by decide +kernel) (by decide +kernel)
noncomputable def dTn (t : List (Str × List Int)) : List (Str × VP) := t.map fun q => (q.1, .list (q.2.map VP.int))
theorem dget_dTn (t : List (Str × List Int)) (k : Str) : dget (dTn t) k = (dget t k).map fun l => VP.list (l.map VP.int) := by
  unfold dget dTn
  rw [List.find?_map]
  cases h : List.find? ((fun kv => decide (kv.1 = k)) ∘ fun q : Str × List Int => (q.1, VP.list (q.2.map VP.int))) t with
  | none =>
    have : List.find? (fun kv => decide (kv.1 = k)) t = none := h
    rw [this]; rfl
  | some q =>
    have : List.find? (fun kv => decide (kv.1 = k)) t = some q := h
    rw [this]; rfl
noncomputable def tiesP (ties : List (List Int)) : VP := .list (ties.map fun r => VP.list (r.map VP.int))
noncomputable def tieAt (ties : List (List Int)) (p q : Int) : Int := (ties.getD p.toNat []).getD q.toNat 0
noncomputable def ofT (t : List (Str × List Int)) (k : Str) : List Int := (dget t k).getD []
noncomputable def aheadOf (t : List (Str × List Int)) (row : List Str) : List Int := row.flatMap (ofT t)
noncomputable def pullOf (ties : List (List Int)) (l m : List Int) : Int := (l.flatMap fun p => m.map fun q => tieAt ties p q).sum
structure TownsOk (ties : List (List Int)) (t : List (Str × List Int)) (row : List Str) : Prop where
  has : ∀ nm ∈ row, ∃ l, dget t nm = some l
  small : ∀ nm l, dget t nm = some l → l.length ≤ 5 ∧ ∀ p ∈ l, 0 ≤ p ∧ p < 5
  rows : ties.length = 5 ∧ ∀ r ∈ ties, r.length = 5
  few : row.length ≤ 5 ∧ t.length ≤ 5
theorem Ev.tie {sc : Scope} {G : Gam} {ties : List (List Int)} {t p q : Str} {tp pp qp a b : Pos} {i j : Int} (h : ties.length = 5 ∧ ∀ r ∈ ties, r.length = 5) (hi : 0 ≤ i ∧ i < 5) (hj : 0 ≤ j ∧ j < 5) (ht : G.lookup t = some (.val (tiesP ties))) (hp : G.lookup p = some (.val (.int i))) (hq : G.lookup q = some (.val (.int j)))
    (d1 : ((t == ("__debug__" : Str)) || (t == ("__classdict__" : Str))) = false := by rfl) (d2 : ((p == ("__debug__" : Str)) || (p == ("__classdict__" : Str))) = false := by rfl) (d3 : ((q == ("__debug__" : Str)) || (q == ("__classdict__" : Str))) = false := by rfl) :
    Ev C n sc G (.Subscript (.Subscript (.Name t tp) (.Name p pp) a) (.Name q qp) b) (.int (tieAt ties i j)) := by
  have h5 : 5 ≤ sizeLine := by decide
  have hm : ties.getD i.toNat [] ∈ ties := by
    rw [List.getD_eq_getElem?_getD, List.getElem?_eq_getElem (by omega)]; exact List.getElem_mem _
  exact Ev.atList (Ev.atList (P := .list ((ties.getD i.toNat []).map VP.int)) (Ev.name ht d1) (Ev.name hp d2) (pickAt_int (fun r : List Int => VP.list (r.map VP.int)) hi.1 (by omega)) (by rw [List.length_map]; omega)) (Ev.name hq d3) (pickAt_int VP.int hj.1 (by rw [h.2 _ hm]; omega)) (by rw [List.length_map, h.2 _ hm]; exact h5)
theorem EqD.bool {k : Nat} {a b : Bool} : EqD k (.bool a) (.bool b) (a == b) :=
  ⟨fun A Z s v w _ _ h1 h2 => by cases h1; cases h2; exact PySem.SeqAt.RcAt.bool_bool _ _, fun A Z s v w _ _ h1 h2 => by cases h1; cases h2; exact PySem.SeqAt.EqAt.bool_bool _ _, fun Z v h1 h2 => by cases h1; cases h2; simp⟩
noncomputable def inTurn (ties : List (List Int)) (t : List (Str × List Int)) (row : List Str) (up : Bool) : Prop :=
  ∀ k, 1 ≤ k → k < row.length → ∀ j, 1 ≤ j → k + j < row.length →
    let pull := fun i => pullOf ties (ofT t (row.getD i "")) (aheadOf t (row.take k))
    ¬ pull k < pull (k + j) ∧ (pull (k + j) = pull k → (sLt (row.getD (k + j) "") (row.getD k "") == up) = false)
theorem in_turn_ok (hC : C.Ok) (ties : List (List Int)) (t : List (Str × List Int)) (row : List Str) (up : Bool) (h : TownsOk ties t row) (hp : row.Perm (t.map (·.1))) (hg : inTurn ties t row up) : Fn C 1 (.ref 189) [.list (row.map .str), .dict C (dTn t), tiesP ties, .bool up] (.bool true) := by
  refine Fn.body (xs := [Str.ofString "row", Str.ofString "towns", Str.ofString "ties", Str.ofString "up"]) (hC.at rfl) rfl (hC.code rfl) rfl (fun vs h => match vs, h with | [a, b, c, d], _ => rfl) rfl rfl rfl rfl (by decide) rfl (by decide) ?_
  obtain ⟨ys, hys⟩ := sorted_is (t.map (·.1))
  have h5 : 5 ≤ sizeLine := by decide
  have hk : (dTn t).map Prod.fst = t.map (·.1) := by unfold dTn; rw [List.map_map]; rfl
  refine Ex.ite (Tst.cmp (Ev.callB (Ev.glob (g_sorted hC)) (.cons (Ev.name rfl) .nil) (fun _ _ => rfl) (Fn.sortedList (ys := ys) (by have := h.few.1; omega) fun zs hz hs => hys row hp zs hz hs)) (Ev.callB (Ev.glob (g_sorted hC)) (.cons (Ev.name rfl) .nil) (fun _ _ => rfl) (Fn.sortedDict (ys := ys) (by have := h.few.2; unfold dTn; rw [List.length_map]; omega) fun zs hz hs => hys _ (.refl _) zs (hk ▸ hz) hs)) (Op2.neList fun x y => EqD.str)) (fun q => by simp at q) fun _ => ?_
  refine Ex.cons1 (ExS.forL (xs := upto 1 row.length) (P := fun k => VP.int k) (fun _ => ([("row", .val (.list (row.map .str))), ("towns", .val (.dict C (dTn t))), ("ties", .val (tiesP ties)), ("up", .val (.bool up))] : Gam))
    (EvIter.of (Ev.callT (Ev.glob (g_range hC)) (.cons Ev.cint (.cons (Ev.callB (Ev.glob (g_len hC)) (.cons (Ev.name rfl) .nil) (fun _ _ => rfl) (Fn.lenList (by rw [List.length_map]; have := h.few.1; omega))) .nil)) (fun _ _ => rfl) Fn.range2) (OpIter.range (by decide) (by decide) (by rw [List.length_map]; have := h.few.1; omega) (by rw [List.length_map]; have := h.few.1; omega))) (by rw [List.length_map]) (gsub_cons rfl (gsub_cons rfl (gsub_cons rfl (gsub_cons rfl gsub_nil))))
    (fun pre k post e => ⟨_, Asg.name (.inl rfl), ?_⟩) rfl) (Ex.retS Ev.cbool fun Z v h => h)
  have hk1 := mem_upto (i := k) (a := 1) (b := row.length) (by rw [e]; simp)
  obtain ⟨K, rfl⟩ := Int.eq_ofNat_of_zero_le (show 0 ≤ k by omega)
  have hK : K ≤ (row.map VP.str).length := by rw [List.length_map]; omega
  have hrl := h.few.1
  have hsz : (row.map VP.str).length ≤ sizeLine := by rw [List.length_map]; omega
  have e1 : sliceL (row.map VP.str) none (some (K : Int)) none = (row.take K).map VP.str := by rw [sliceL_upto _ K hK, List.map_take]
  have e2 : sliceL (row.map VP.str) (some (K : Int)) none none = (row.drop K).map VP.str := by rw [sliceL_from _ K hK, List.map_drop]
  have hof : ∀ nm ∈ row, dget (dTn t) nm = some (.list ((ofT t nm).map VP.int)) ∧ (ofT t nm).length ≤ 5 ∧ ∀ p ∈ ofT t nm, 0 ≤ p ∧ p < 5 := fun nm hm => by
    obtain ⟨l, hl⟩ := h.has nm hm
    have := h.small nm l hl
    unfold ofT
    rw [dget_dTn, hl]
    exact ⟨rfl, this⟩
  have hcast : VP.of (.list (((row.take K).filter fun _ => true).flatMap fun x => ((ofT t x).filter fun _ => true).map fun p => VP.int p)) = VP.list ((aheadOf t (row.take K)).map VP.int) := by
    have e3 : (fun x => ((ofT t x).filter fun _ => true).map fun p => VP.int p) = fun x => (ofT t x).map VP.int := by
      funext x; rw [List.filter_eq_self.mpr (fun _ _ => rfl)]
    rw [List.filter_eq_self.mpr (fun _ _ => rfl), e3, aheadOf, List.map_flatMap]
  refine Ex.cons1 (ExS.asg (P := .list ((aheadOf t (row.take K)).map VP.int)) (Ev.cast (Ev.comp (CompIs.list2 (xs := row.take K) (ys := ofT t) (P := VP.str) (Q := fun _ p => VP.int p) (f := fun _ p => VP.int p) (b0 := fun _ => true) (b1 := fun _ _ => true) ([("towns", .val (.dict C (dTn t)))] : Gam) ⟨rfl, by decide, rfl, gsub_cons rfl gsub_nil, gc_cons rfl rfl gc_nil⟩
    (EvIter.of (Ev.slList (Ev.name rfl) .no (.at (Ev.name rfl)) .no (by decide) hsz) (OpIter.list .name)) e1 (by have := List.length_take_le' K row; omega) (fun x hx => by have := (hof x (List.mem_of_mem_take hx)).2.1; omega)
    fun x hx => ⟨_, Asg.name (.inl rfl), gsub_cons rfl gsub_nil, .nil, fun _ => ⟨EvIter.of (Ev.subDict (EvO.of (Ev.name rfl)) (Ev.name rfl) (hof x (List.mem_of_mem_take hx)).1) (OpIter.list .name), fun y hy => ⟨_, Asg.name (.inl rfl), gsub_cons rfl (gsub_cons rfl gsub_nil), .nil, fun _ => Ev.name rfl⟩⟩⟩) (fun _ => rfl)) hcast) rfl rfl (fun env hE => by obtain ⟨e, _, _, _⟩ := hE; cases env; cases e; rfl)) ?_
  have hah : ∀ q ∈ aheadOf t (row.take K), 0 ≤ q ∧ q < 5 := fun q hq => by
    obtain ⟨nm, hm, hq'⟩ := List.mem_flatMap.mp hq
    exact (hof nm (List.mem_of_mem_take hm)).2.2 q hq'
  have hal : (aheadOf t (row.take K)).length ≤ 1000 := by
    have := flat_len (k := 5) (F := ofT t) (l := row.take K) fun x hx => (hof x (List.mem_of_mem_take hx)).2.1
    have h2 := List.length_take_le' K row
    unfold aheadOf
    omega
  have hcast2 : ∀ nm, VP.of (.list (((ofT t nm).filter fun _ => true).flatMap fun p => ((aheadOf t (row.take K)).filter fun _ => true).map fun q => VP.int (tieAt ties p q))) = VP.list (((ofT t nm).flatMap fun p => (aheadOf t (row.take K)).map fun q => tieAt ties p q).map VP.int) := fun nm => by
    rw [List.filter_eq_self.mpr (fun _ _ => rfl), List.filter_eq_self.mpr (fun _ _ => rfl), List.map_flatMap]
    simp only [List.map_map]; rfl
  refine Ex.cons1 (ExS.compG false (CompIs.listF (xs := row.drop K) (P := VP.str) (f := fun nm => VP.int (pullOf ties (ofT t nm) (aheadOf t (row.take K)))) (b := fun _ => true) ([("towns", .val (.dict C (dTn t))), ("ties", .val (tiesP ties)), ("ahead", .val (.list ((aheadOf t (row.take K)).map VP.int)))] : Gam) ⟨rfl, by decide, rfl, gsub_cons rfl (gsub_cons rfl (gsub_cons rfl gsub_nil)), gc_cons rfl rfl (gc_cons rfl rfl (gc_cons rfl rfl gc_nil))⟩
    (EvIter.of (Ev.slList (Ev.name rfl) (.at (Ev.name rfl)) .no .no (by decide) hsz) (OpIter.list .name)) e2 (by rw [List.length_drop]; omega)
    fun nm hm => ⟨_, Asg.name (.inl rfl), gsub_cons rfl (gsub_cons rfl (gsub_cons rfl gsub_nil)), .nil, fun _ => Ev.callB (Ev.glob (g_sum hC)) (.cons (Ev.cast (Ev.comp (CompIs.list2 (xs := ofT t nm) (ys := fun _ => aheadOf t (row.take K)) (P := VP.int) (Q := fun _ q => VP.int q) (f := fun p q => VP.int (tieAt ties p q)) (b0 := fun _ => true) (b1 := fun _ _ => true) ([("ties", .val (tiesP ties)), ("ahead", .val (.list ((aheadOf t (row.take K)).map VP.int)))] : Gam) ⟨rfl, by decide, rfl, gsub_cons rfl (gsub_cons rfl gsub_nil), gc_cons rfl rfl (gc_cons rfl rfl gc_nil)⟩
      (EvIter.of (Ev.subDict (EvO.of (Ev.name rfl)) (Ev.name rfl) (hof nm (List.mem_of_mem_drop hm)).1) (OpIter.list .name)) rfl (by have := (hof nm (List.mem_of_mem_drop hm)).2.1; omega) (fun _ _ => hal)
      fun p hp => ⟨_, Asg.name (.inl rfl), gsub_cons rfl (gsub_cons rfl gsub_nil), .nil, fun _ => ⟨EvIter.of (Ev.name rfl) (OpIter.list .name), fun q hq => ⟨_, Asg.name (.inl rfl), gsub_cons rfl (gsub_cons rfl (gsub_cons rfl gsub_nil)), .nil, fun _ => Ev.tie h.rows ((hof nm (List.mem_of_mem_drop hm)).2.2 p hp) (hah q hq) rfl rfl rfl⟩⟩⟩) (fun _ => rfl)) (hcast2 nm)) .nil) (fun _ _ => rfl) Fn.sumList⟩) (fun _ _ => rfl) rfl rfl (fun env hE => by obtain ⟨e, _, _, _⟩ := hE; cases env; cases e; rfl)) ?_
  rw [List.filter_eq_self.mpr (fun _ _ => rfl)]
  have hpm : (fun nm => VP.int (pullOf ties (ofT t nm) (aheadOf t (row.take K)))) = VP.int ∘ fun nm => pullOf ties (ofT t nm) (aheadOf t (row.take K)) := rfl
  rw [hpm, ← List.map_map]
  have hpl : ((row.drop K).map fun nm => pullOf ties (ofT t nm) (aheadOf t (row.take K))).length = row.length - K := by rw [List.length_map, List.length_drop]
  have hpd : ∀ j, K + j < row.length → ((row.drop K).map fun nm => pullOf ties (ofT t nm) (aheadOf t (row.take K))).getD j 0 = pullOf ties (ofT t (row.getD (K + j) "")) (aheadOf t (row.take K)) := fun j hj => by
    rw [List.getD_eq_getElem?_getD, List.getElem?_map, List.getElem?_drop, List.getElem?_eq_getElem hj, List.getD_eq_getElem?_getD, List.getElem?_eq_getElem hj]; rfl
  generalize hpv : ((row.drop K).map fun nm => pullOf ties (ofT t nm) (aheadOf t (row.take K))) = pl at hpl hpd
  have hplz : (pl.map VP.int).length ≤ sizeLine := by rw [List.length_map]; omega
  refine Ex.cons1 (ExS.forL (xs := upto 1 pl.length) (P := fun j => VP.int j) (fun _ => ([("pulls", .val (.list (pl.map VP.int))), ("row", .val (.list (row.map .str))), ("k", .val (.int (K : Int))), ("towns", .val (.dict C (dTn t))), ("ties", .val (tiesP ties)), ("up", .val (.bool up))] : Gam))
    (EvIter.of (Ev.callT (Ev.glob (g_range hC)) (.cons Ev.cint (.cons (Ev.callB (Ev.glob (g_len hC)) (.cons (Ev.name rfl) .nil) (fun _ _ => rfl) (Fn.lenList hplz)) .nil)) (fun _ _ => rfl) Fn.range2) (OpIter.range (by decide) (by decide) (by rw [List.length_map]; omega) (by rw [List.length_map]; omega))) (by rw [List.length_map]) (gsub_cons rfl (gsub_cons rfl (gsub_cons rfl (gsub_cons rfl (gsub_cons rfl (gsub_cons rfl gsub_nil))))))
    (fun pre2 j post2 e' => ⟨_, Asg.name (.inl rfl), ?_⟩) rfl) (Ex.nil rfl (gsub_cons rfl (gsub_cons rfl (gsub_cons rfl (gsub_cons rfl gsub_nil)))))
  have hj1 := mem_upto (i := j) (a := 1) (b := pl.length) (by rw [e']; simp)
  obtain ⟨J, rfl⟩ := Int.eq_ofNat_of_zero_le (show 0 ≤ j by omega)
  obtain ⟨g1, g2⟩ := hg K (by omega) (by omega) J (by omega) (by omega)
  have d0 := hpd 0 (by omega)
  have dJ := hpd J (by omega)
  rw [Nat.add_zero] at d0
  have pj := pickAt_map (l := pl) (d := 0) VP.int (k := J) (by omega)
  have p0 := pickAt_map (l := pl) (d := 0) VP.int (k := 0) (by omega)
  have rk := pickAt_map (l := row) (d := "") VP.str (k := K) (by omega)
  have rj := pickAt_map (l := row) (d := "") VP.str (k := K + J) (by omega)
  rw [Int.natCast_add] at rj
  rw [dJ] at pj
  rw [d0] at p0
  refine Ex.ite (Tst.bop (.or (Tst.cmp (Ev.atList (Ev.name rfl) (Ev.name rfl) pj hplz) (Ev.atList (Ev.name rfl) Ev.cint p0 hplz) Op2.gtInt) fun _ => .or (Tst.bop (.and (Tst.cmp (Ev.atList (Ev.name rfl) (Ev.name rfl) pj hplz) (Ev.atList (Ev.name rfl) Ev.cint p0 hplz) Op2.eqInt) fun _ => .and (Tst.cmp (Ev.cmp (Ev.atList (Ev.name rfl) (Ev.binop (Ev.name rfl) (Ev.name rfl) Op2.addInt) rj hsz) (Ev.atList (Ev.name rfl) (Ev.name rfl) rk hsz) Op2.ltStr) (Ev.name rfl) (Op2.eq EqD.bool)) fun _ => .nilAnd)) fun _ => .nilOr)) (fun q => ?_) fun _ => Ex.nil rfl (gsub_cons rfl (gsub_cons rfl (gsub_cons rfl (gsub_cons rfl (gsub_cons rfl (gsub_cons rfl gsub_nil))))))
  exfalso
  rw [Bool.or_eq_true, Bool.or_false, Bool.and_eq_true, Bool.and_true] at q
  rcases q with q | ⟨q1, q2⟩
  · exact g1 (of_decide_eq_true q)
  · rw [g2 (by simpa using q1)] at q2; cases q2
end Mine
end

section
open PySem PySem.W PyProof.Rows
set_option autoImplicit false
set_option maxRecDepth 100000
namespace Mine
variable {C : Cx} {n : Nat}
theorem g_min (h : C.Ok) : (C.mg "min").or (C.mb "min") = some (.builtin "min") := h.mb rfl (by decide +kernel) (by decide +kernel)
theorem pickAt_last {α β : Type} {l : List α} (f : α → β) {d : α} (h : l ≠ []) : pickAt (l.map f) (-1) = some (f (l.getLastD d)) := by
  have hl : 0 < l.length := List.length_pos_iff.mpr h
  have e : seqIndex? (-1) (l.map f).length = some (l.length - 1) := by
    unfold seqIndex?
    rw [List.length_map]
    simp only [show ((-1 : Int) < 0) from by decide, if_true]
    rw [if_pos (by rw [Bool.and_eq_true, decide_eq_true_iff, decide_eq_true_iff]; constructor <;> omega)]
    congr 1; omega
  unfold pickAt
  rw [e]
  show (l.map f)[l.length - 1]? = _
  rw [List.getElem?_map, List.getElem?_eq_getElem (by omega), List.getLastD_eq_getLast?, List.getLast?_eq_getElem?, List.getElem?_eq_getElem (by omega)]
  rfl
noncomputable def nearOf (sides : List (List Int)) (c : Int) : List Int := sides.getLastD [] ++ ((upto 0 ((sides.length : Int) - 2)).filter fun k => (c.fdiv (2 ^ k.toNat)).fmod 2 == 1).flatMap fun k => sides.getD k.toNat []
noncomputable def cutOf (ties : List (List Int)) (near : List Int) : Int := (near.flatMap fun p => ((upto 0 5).filter fun q => !decide (q ∈ near)).map fun q => tieAt ties p q).sum
noncomputable def cutsOf (ties sides : List (List Int)) : List Int := (upto 0 (2 ^ ((sides.length : Int) - 2).toNat)).map fun c => cutOf ties (nearOf sides c)
theorem least_ok (hC : C.Ok) (ties sides : List (List Int)) (M : Int) (h : ties.length = 5 ∧ ∀ r ∈ ties, r.length = 5) (hs : 2 ≤ sides.length ∧ sides.length ≤ 5) (hp : ∀ s ∈ sides, s.length ≤ 5 ∧ ∀ p ∈ s, 0 ≤ p ∧ p < 5) (hm : M ∈ cutsOf ties sides) (hM : ∀ a ∈ cutsOf ties sides, M ≤ a) : Fn C 1 (.ref 194) [tiesP ties, tiesP sides] (.int M) := by
  refine Fn.body (xs := [Str.ofString "ties", Str.ofString "sides"]) (hC.at rfl) rfl (hC.code rfl) rfl (fun vs h => match vs, h with | [a, b], _ => rfl) rfl rfl rfl rfl (by decide) rfl (by decide) ?_
  refine Ex.cons1 (ExS.list0 rfl) ?_
  have h5 : 5 ≤ sizeLine := by decide
  have hsz : (sides.map fun r => VP.list (r.map VP.int)).length ≤ sizeLine := by rw [List.length_map]; omega
  have hL : ((sides.map fun r => VP.list (r.map VP.int)).length : Int) = (sides.length : Int) := by rw [List.length_map]
  have hb : (2 : Int) ^ ((sides.length : Int) - 2).toNat ≤ 8 := by
    have h1 : ((sides.length : Int) - 2).toNat ≤ 3 := by omega
    generalize ((sides.length : Int) - 2).toNat = k at h1
    match k, h1 with
    | 0, _ => decide
    | 1, _ => decide
    | 2, _ => decide
    | 3, _ => decide
  have hb0 : 0 ≤ (2 : Int) ^ ((sides.length : Int) - 2).toNat := Int.pow_nonneg (by decide)
  have bits2 : Builtin.Int.intBits 2 = 2 := by decide +kernel
  refine Ex.cons1 (ExS.forL (xs := upto 0 (2 ^ ((sides.length : Int) - 2).toNat)) (P := fun c => VP.int c) (fun pre => ([("cuts", .own (.list ((pre.map fun c => cutOf ties (nearOf sides c)).map VP.int))), ("ties", .val (tiesP ties)), ("sides", .val (tiesP sides))] : Gam))
    (EvIter.of (Ev.cast (Ev.callT (Ev.glob (g_range hC)) (.cons (Ev.binop Ev.cint (Ev.binop (Ev.callB (Ev.glob (g_len hC)) (.cons (Ev.name rfl) .nil) (fun _ _ => rfl) (Fn.lenList hsz)) Ev.cint Op2.subInt) (Op2.powInt (by rw [hL]; omega) (by rw [hL, bits2]; omega))) .nil) (fun _ _ => rfl) Fn.range1) (by rw [hL])) (OpIter.range (by decide) (by decide) (by omega) (by omega))) rfl (gsub_cons rfl (gsub_cons rfl (gsub_cons rfl gsub_nil)))
    (fun pre c post e => ⟨_, Asg.name (.inr ⟨rfl, rfl⟩), ?_⟩) rfl) ?_
  · have hc := mem_upto (i := c) (a := 0) (b := 2 ^ ((sides.length : Int) - 2).toNat) (by rw [e]; simp)
    have hne : sides ≠ [] := by intro q; rw [q] at hs; simp at hs
    have hgd : ∀ k : Int, 0 ≤ k → k < sides.length → (sides.getD k.toNat []).length ≤ 5 ∧ ∀ p ∈ sides.getD k.toNat [], 0 ≤ p ∧ p < 5 := fun k h0 h1 => by
      refine hp _ ?_
      rw [List.getD_eq_getElem?_getD, List.getElem?_eq_getElem (by omega)]; exact List.getElem_mem _
    have hcast : VP.list ((sides.getLastD []).map VP.int ++ ((upto 0 ((sides.length : Int) - 2)).filter fun k => (c.fdiv (2 ^ k.toNat)).fmod 2 == 1).flatMap fun k => ((sides.getD k.toNat []).filter fun _ => true).map fun p => VP.int p) = VP.list ((nearOf sides c).map VP.int) := by
      have e3 : (fun k : Int => ((sides.getD k.toNat []).filter fun _ => true).map fun p => VP.int p) = fun k => (sides.getD k.toNat []).map VP.int := by
        funext x; rw [List.filter_eq_self.mpr (fun _ _ => rfl)]
      rw [e3, nearOf, List.map_append, List.map_flatMap]
    refine Ex.cons1 (ExS.asg (P := .list ((nearOf sides c).map VP.int)) (Ev.cast (Ev.binop (Ev.atList (P := .list ((sides.getLastD []).map VP.int)) (Ev.name rfl) (Ev.unary Ev.cint Op1.negInt) (pickAt_last (fun r : List Int => VP.list (r.map VP.int)) hne) hsz)
      (Ev.comp (CompIs.list2 (xs := upto 0 ((sides.length : Int) - 2)) (ys := fun k => sides.getD k.toNat []) (P := VP.int) (Q := fun _ p => VP.int p) (f := fun _ p => VP.int p) (b0 := fun k => (c.fdiv (2 ^ k.toNat)).fmod 2 == 1) (b1 := fun _ _ => true) ([("choice", .val (.int c)), ("sides", .val (tiesP sides))] : Gam) ⟨rfl, by decide, rfl, gsub_cons rfl (gsub_cons rfl gsub_nil), gc_cons rfl rfl (gc_cons rfl rfl gc_nil)⟩
        (EvIter.of (Ev.callT (Ev.glob (g_range hC)) (.cons (Ev.binop (Ev.callB (Ev.glob (g_len hC)) (.cons (Ev.name rfl) .nil) (fun _ _ => rfl) (Fn.lenList hsz)) Ev.cint Op2.subInt) .nil) (fun _ _ => rfl) Fn.range1) (OpIter.range (by decide) (by decide) (by rw [hL]; omega) (by rw [hL]; omega))) (by rw [hL]) (by unfold upto; rw [List.length_map, List.length_range]; omega) (fun k hk => by have hk' := mem_upto hk; have := (hgd k hk'.1 (by omega)).1; omega)
        fun k hk => ⟨_, Asg.name (.inl rfl), gsub_cons rfl (gsub_cons rfl gsub_nil), ?_, fun _ => ?_⟩) (fun _ => rfl)) (Op2.addList ?_)) hcast) rfl rfl (fun env hE => by obtain ⟨e, _, _, _⟩ := hE; cases env; cases e; rfl)) ?_
    · have hk' := mem_upto hk
      have hpk : (2 : Int) ^ k.toNat ≤ 8 ∧ (2 : Int) ^ k.toNat ≠ 0 := by
        have h1 : k.toNat ≤ 3 := by omega
        generalize k.toNat = j at h1
        match j, h1 with
        | 0, _ => decide
        | 1, _ => decide
        | 2, _ => decide
        | 3, _ => decide
      have hp0 : 0 ≤ (2 : Int) ^ k.toNat := Int.pow_nonneg (by decide)
      exact Ifs.one (Tst.cmp (Ev.binop (Ev.binop (Ev.name rfl) (Ev.binop Ev.cint (Ev.name rfl) (Op2.powInt hk'.1 (by rw [bits2]; omega))) (Op2.divInt hpk.2 (by omega))) Ev.cint (Op2.modInt (by decide))) Ev.cint Op2.eqInt)
    · have hk' := mem_upto hk
      have hg := hgd k hk'.1 (by omega)
      exact ⟨EvIter.of (Ev.atList (P := .list ((sides.getD k.toNat []).map VP.int)) (Ev.name rfl) (Ev.name rfl) (pickAt_int (fun r : List Int => VP.list (r.map VP.int)) hk'.1 (by omega)) hsz) (OpIter.list .name), fun y hy => ⟨_, Asg.name (.inl rfl), gsub_cons rfl (gsub_cons rfl (gsub_cons rfl gsub_nil)), .nil, fun _ => Ev.name rfl⟩⟩
    · have hlast : (sides.getLastD []).length ≤ 5 := by
        have : sides.getLastD [] ∈ sides := by rw [List.getLastD_eq_getLast?, List.getLast?_eq_some_getLast hne]; exact List.getLast_mem hne
        exact (hp _ this).1
      have hfl := flat_len (k := 5) (F := fun k : Int => ((sides.getD k.toNat []).filter fun _ => true).map fun p => VP.int p) (l := (upto 0 ((sides.length : Int) - 2)).filter fun k => (c.fdiv (2 ^ k.toNat)).fmod 2 == 1) fun k hk => by
        have hk' := mem_upto (List.mem_filter.mp hk).1
        rw [List.length_map]
        exact Nat.le_trans (List.length_filter_le _ _) (hgd k hk'.1 (by omega)).1
      have hu : ((upto 0 ((sides.length : Int) - 2)).filter fun k => (c.fdiv (2 ^ k.toNat)).fmod 2 == 1).length ≤ 3 := by
        refine Nat.le_trans (List.length_filter_le _ _) ?_
        unfold upto; rw [List.length_map, List.length_range]; omega
      have : 100 ≤ sizeLine := by decide
      rw [List.length_map]
      omega
    · have hlast' : sides.getLastD [] ∈ sides := by rw [List.getLastD_eq_getLast?, List.getLast?_eq_some_getLast hne]; exact List.getLast_mem hne
      have hnr : ∀ p ∈ nearOf sides c, 0 ≤ p ∧ p < 5 := fun p hpm => by
        rcases List.mem_append.mp hpm with q | q
        · exact (hp _ hlast').2 p q
        · obtain ⟨k, hk, hq⟩ := List.mem_flatMap.mp q
          have hk' := mem_upto (List.mem_filter.mp hk).1
          exact (hgd k hk'.1 (by omega)).2 p hq
      have hnl : (nearOf sides c).length ≤ 100 := by
        have hfl := flat_len (k := 5) (F := fun k : Int => sides.getD k.toNat []) (l := (upto 0 ((sides.length : Int) - 2)).filter fun k => (c.fdiv (2 ^ k.toNat)).fmod 2 == 1) fun k hk => by
          have hk' := mem_upto (List.mem_filter.mp hk).1
          exact (hgd k hk'.1 (by omega)).1
        have hu : ((upto 0 ((sides.length : Int) - 2)).filter fun k => (c.fdiv (2 ^ k.toNat)).fmod 2 == 1).length ≤ 3 := by
          refine Nat.le_trans (List.length_filter_le _ _) ?_
          unfold upto; rw [List.length_map, List.length_range]; omega
        have := (hp _ hlast').1
        unfold nearOf
        rw [List.length_append]
        omega
      have hcast2 : VP.of (.list (((nearOf sides c).filter fun _ => true).flatMap fun p => ((upto 0 5).filter fun q => !decide (q ∈ nearOf sides c)).map fun q => VP.int (tieAt ties p q))) = VP.list (((nearOf sides c).flatMap fun p => ((upto 0 5).filter fun q => !decide (q ∈ nearOf sides c)).map fun q => tieAt ties p q).map VP.int) := by
        rw [List.filter_eq_self.mpr (fun _ _ => rfl), List.map_flatMap]
        simp only [List.map_map]; rfl
      have hpre : pre.length ≤ 8 := by
        have h1 := congrArg List.length e
        unfold upto at h1
        rw [List.length_map, List.length_range, List.length_append] at h1
        omega
      refine Ex.cons1 (ExS.append (P := .int (cutOf ties (nearOf sides c))) rfl (Ev.callB (Ev.glob (g_sum hC)) (.cons (Ev.cast (Ev.comp (CompIs.list2 (xs := nearOf sides c) (ys := fun _ => upto 0 5) (P := VP.int) (Q := fun _ q => VP.int q) (f := fun p q => VP.int (tieAt ties p q)) (b0 := fun _ => true) (b1 := fun _ q => !decide (q ∈ nearOf sides c)) ([("ties", .val (tiesP ties)), ("near", .val (.list ((nearOf sides c).map VP.int)))] : Gam) ⟨rfl, by decide, rfl, gsub_cons rfl (gsub_cons rfl gsub_nil), gc_cons rfl rfl (gc_cons rfl rfl gc_nil)⟩
        (EvIter.of (Ev.name rfl) (OpIter.list .name)) rfl (by omega) (fun _ _ => by decide)
        fun p hpm => ⟨_, Asg.name (.inl rfl), gsub_cons rfl (gsub_cons rfl gsub_nil), .nil, fun _ => ⟨EvIter.of (Ev.callT (Ev.glob (g_range hC)) (.cons Ev.cint .nil) (fun _ _ => rfl) Fn.range1) (OpIter.range (by decide) (by decide) (by decide) (by decide)), fun q hq => ⟨_, Asg.name (.inl rfl), gsub_cons rfl (gsub_cons rfl (gsub_cons rfl gsub_nil)), .one (Tst.cmpO (Ev.name rfl) (EvO.of (Ev.name rfl)) Op2O.notInInts), fun _ => Ev.tie h (hnr p hpm) (mem_upto hq) rfl rfl rfl⟩⟩⟩) (fun _ => rfl)) hcast2) .nil) (fun _ _ => rfl) Fn.sumList) (fun _ => rfl) ?_ rfl rfl rfl (fun _ => rfl) (fun env hE => by unfold interactive; rw [hE.1, hE.2]; rfl)) (Ex.nil rfl (gsub_cons ?_ (gsub_cons rfl (gsub_cons rfl gsub_nil))))
      · have : 8 ≤ sizeLine := by decide
        rw [List.length_map, List.length_map]; omega
      · rw [List.map_append, List.map_append]; rfl
  · refine Ex.freeze (x := "cuts") rfl (Ex.retS (Ev.callB (Ev.glob (g_min hC)) (.cons (Ev.name rfl) .nil) (fun _ _ => rfl) (Fn.minList hm hM)) fun Z v h => h)
end Mine
end

section
open PySem PySem.W PyProof.Rows
set_option autoImplicit false
set_option maxRecDepth 100000
namespace Mine
variable {C : Cx} {n : Nat}
noncomputable abbrev Tab := List (Str × List (Str × Int))
noncomputable def dTab (C : Cx) (t : Tab) : List (Str × VP) := t.map fun q => (q.1, .dict C (dI q.2))
theorem dget_dTab (t : Tab) (k : Str) : dget (dTab C t) k = (dget t k).map fun l => VP.dict C (dI l) := by
  unfold dget dTab
  rw [List.find?_map]
  cases h : List.find? ((fun kv => decide (kv.1 = k)) ∘ fun q : Str × List (Str × Int) => (q.1, VP.dict C (dI q.2))) t with
  | none =>
    have : List.find? (fun kv => decide (kv.1 = k)) t = none := h
    rw [this]; rfl
  | some q =>
    have : List.find? (fun kv => decide (kv.1 = k)) t = some q := h
    rw [this]; rfl
theorem dput_dTab (t : Tab) (k : Str) (l : List (Str × Int)) : dput (dTab C t) k (.dict C (dI l)) = dTab C (dput t k l) := dput_map (fun l => VP.dict C (dI l)) t k l
noncomputable def tabOf (t : Tab) (k : Str) : List (Str × Int) := (dget t k).getD []
noncomputable def atI (l : List (Str × Int)) (k : Str) : Int := (dget l k).getD 0
theorem dput_new {β : Type} (l : List (Str × β)) (k : Str) (v : β) (h : k ∉ l.map (·.1)) : dput l k v = l ++ [(k, v)] := by
  unfold dput
  rw [if_neg]
  rw [List.any_eq_true]
  rintro ⟨q, hq, e⟩
  exact h (List.mem_map.mpr ⟨q, hq, of_decide_eq_true e⟩)
theorem dputs_fresh {α β : Type} (key : α → Str) (f : α → β) : ∀ (xs : List α) (l : List (Str × β)), (l.map (·.1) ++ xs.map key).Nodup → dputs key f l xs = l ++ xs.map fun x => (key x, f x)
  | [], l, _ => by simp [dputs]
  | x :: xs, l, h => by
    have h1 : key x ∉ l.map (·.1) := by
      intro hm
      rw [List.nodup_append] at h
      exact h.2.2 _ hm _ (List.mem_map.mpr ⟨x, .head _, rfl⟩) rfl
    have h2 := dputs_fresh key f xs (l ++ [(key x, f x)]) (by simpa [List.append_assoc] using h)
    show dputs key f (dput l (key x) (f x)) xs = _
    rw [dput_new _ _ _ h1, h2]; simp
noncomputable def without (l : List (Str × Int)) (a b : Str) : List (Str × Int) := l.filter fun q => !decide (q.1 ∈ [a, b])
noncomputable def meltStep (t : Tab) (first last name : Str) (after : Tab) (other : Str) : Tab :=
  dput after other (addC (without (tabOf t other) first last) (addC [(name, atI (tabOf t other) first)] [(name, atI (tabOf t other) last)]))
noncomputable def meltBase (t : Tab) (first last : Str) : List (Str × Int) := without (addC (tabOf t first) (tabOf t last)) first last
noncomputable def meltOf (t : Tab) (first last name : Str) : Tab := ((meltBase t first last).map (·.1)).foldl (meltStep t first last name) [(name, meltBase t first last)]
theorem without_len (l : List (Str × Int)) (a b : Str) : (without l a b).length ≤ l.length := List.length_filter_le _ _
end Mine
end

section
open PySem PySem.W PyProof.Rows
set_option autoImplicit false
set_option maxRecDepth 100000
namespace Mine
variable {C : Cx} {n : Nat}
theorem dput_nodup {β : Type} {l : List (Str × β)} {k : Str} {v : β} (h : (l.map (·.1)).Nodup) : ((dput l k v).map (·.1)).Nodup := by
  by_cases hk : k ∈ l.map (·.1)
  · unfold dput
    obtain ⟨q, hq, e⟩ := List.mem_map.mp hk
    rw [if_pos (List.any_eq_true.mpr ⟨q, hq, decide_eq_true e⟩), List.map_map]
    have e : ((fun q : Str × β => q.1) ∘ fun kv : Str × β => if kv.1 = k then (kv.1, v) else kv) = fun q => q.1 := by
      funext q; show Prod.fst (if q.1 = k then (q.1, v) else q) = q.1; split <;> rfl
    rw [e]; exact h
  · rw [dput_new l k v hk, List.map_append, List.nodup_append]
    exact ⟨h, by simp, fun a ha b hb => by simp at hb; subst hb; exact fun e => hk (e ▸ ha)⟩
theorem putAll_nodup : ∀ (b a : List (Str × Int)), (a.map (·.1)).Nodup → ((putAll a b).map (·.1)).Nodup
  | [], _, h => h
  | q :: b, a, h => putAll_nodup b _ (dput_nodup h)
theorem addFold_nodup : ∀ (b a : List (Str × Int)), (a.map (·.1)).Nodup → ((b.foldl addStep a).map (·.1)).Nodup
  | [], _, h => h
  | q :: b, a, h => addFold_nodup b _ (dput_nodup h)
theorem addC_nodup (a b : List (Str × Int)) : ((addC a b).map (·.1)).Nodup := addFold_nodup b _ (putAll_nodup a [] .nil)
theorem dget_mem {β : Type} {l : List (Str × β)} (nd : (l.map (·.1)).Nodup) {q : Str × β} (h : q ∈ l) : dget l q.1 = some q.2 := by
  induction l with
  | nil => cases h
  | cons p l ih =>
    rw [List.map_cons, List.nodup_cons] at nd
    unfold dget at ih ⊢
    rw [List.find?_cons]
    rcases List.mem_cons.mp h with e | h
    · subst e; simp
    · have : p.1 ≠ q.1 := fun e => nd.1 (e ▸ List.mem_map.mpr ⟨q, h, rfl⟩)
      simp only [this, decide_false]
      exact ih nd.2 h
theorem dget_in {β : Type} {l : List (Str × β)} {k : Str} {v : β} (h : dget l k = some v) : (k, v) ∈ l := by
  unfold dget at h
  obtain ⟨q, hq, e⟩ := Option.map_eq_some_iff.mp h
  have := List.find?_some hq
  have h2 := List.mem_of_find?_eq_some hq
  have h3 : q.1 = k := of_decide_eq_true this
  rw [← h3, ← e]; exact h2
theorem dputs_without {l : List (Str × Int)} (nd : (l.map (·.1)).Nodup) (b : Str × Int → Bool) : dputs (fun q : Str × Int => q.1) (fun q => VP.int q.2) [] (l.filter b) = dI (l.filter b) := by
  rw [dputs_fresh _ _ _ _ (by
    rw [List.map_nil, List.nil_append]
    exact nd.sublist (List.Sublist.map _ List.filter_sublist))]
  rfl
theorem meltFold_len (t : Tab) (first last name : Str) : ∀ (xs : List Str) (a : Tab), (xs.foldl (meltStep t first last name) a).length ≤ a.length + xs.length
  | [], a => Nat.le_refl _
  | x :: xs, a => by
    have h1 := meltFold_len t first last name xs (meltStep t first last name a x)
    have h2 : (meltStep t first last name a x).length ≤ a.length + 1 := dput_length _ _ _
    rw [List.foldl_cons, List.length_cons]; omega
structure MeltOk (t : Tab) (first last name : Str) : Prop where
  hf : ∃ l, dget t first = some l ∧ l.length ≤ 5
  hl : ∃ l, dget t last = some l ∧ l.length ≤ 5
  rest : ∀ o ∈ (meltBase t first last).map (·.1), ∃ l, dget t o = some l ∧ l.length ≤ 5 ∧ (l.map (·.1)).Nodup ∧ (dget l first).isSome ∧ (dget l last).isSome
theorem melted_ok (hC : C.Ok) (t : Tab) (first last name : Str) (h : MeltOk t first last name) : Fn C 3 (.ref 199) [.dict C (dTab C t), .str first, .str last, .str name] (.dict C (dTab C (meltOf t first last name))) := by
  obtain ⟨⟨lf, hf, hf5⟩, ⟨ll, hl, hl5⟩, hr⟩ := h
  refine Fn.body (xs := [Str.ofString "tables", Str.ofString "first", Str.ofString "last", Str.ofString "name"]) (hC.at rfl) rfl (hC.code rfl) rfl (fun vs h => match vs, h with | [a, b, c, d], _ => rfl) rfl rfl rfl rfl (by decide) rfl (by decide) ?_
  have hb : meltBase t first last = (addC lf ll).filter fun q => !decide (q.1 ∈ [first, last]) := by
    unfold meltBase tabOf without; rw [hf, hl]; rfl
  have h100 : 100 ≤ sizeLine := by decide
  have hlen := addC_length lf ll
  have hnd := addC_nodup lf ll
  refine Ex.cons1 (ExS.asg (Ev.callF (Ev.glob (g_add_callers hC)) (hC.keep rfl) (.cons (Ev.subDict (EvO.of (Ev.name rfl)) (Ev.name rfl) (by rw [dget_dTab, hf]; rfl)) (.cons (Ev.subDict (EvO.of (Ev.name rfl)) (Ev.name rfl) (by rw [dget_dTab, hl]; rfl)) .nil)) (fun _ _ => rfl) (add_callers_ok hC lf ll (by omega))) rfl) ?_
  refine Ex.cons1 (ExS.ownF (U := .dict C (dTab C [(name, meltBase t first last)])) (EvF.dict1 (Ev.name rfl) (Ev.cast (Ev.comp (CompIs.dictF (xs := addC lf ll) (P := fun q => VP.str q.1) (key := fun q => q.1) (f := fun q => VP.int q.2) (b := fun q => !decide (q.1 ∈ [first, last]))
    ([("both", .val (.dict C (dI (addC lf ll)))), ("first", .val (.str first)), ("last", .val (.str last))] : Gam) ⟨rfl, by decide, rfl, gsub_cons rfl (gsub_cons rfl (gsub_cons rfl gsub_nil)), gc_cons rfl rfl (gc_cons rfl rfl (gc_cons rfl rfl gc_nil))⟩
    (EvIter.of (Ev.name rfl) OpIter.dict) (by unfold dI; rw [List.map_map]; rfl) (by omega) fun q hq => ⟨_, Asg.name (.inl rfl), gsub_cons rfl (gsub_cons rfl (gsub_cons rfl gsub_nil)), ?_, fun _ => ⟨Ev.name rfl, ?_⟩⟩) (fun _ => rfl)) ?_)) rfl) ?_
  · exact Ifs.one (Tst.cmpO (Ev.name rfl) (EvO.of (Ev.tupD (.cons (Ev.name rfl) (.cons (Ev.name rfl) .nil)))) (Op2O.notInStrT (xs := [first, last])))
  · exact Ev.subDict (EvO.of (Ev.name rfl)) (Ev.name rfl) (by rw [dget_dI, dget_mem hnd hq]; rfl)
  · rw [dputs_without hnd, hb]
  refine Ex.cons1 (ExS.forL (xs := (meltBase t first last).map (·.1)) (P := VP.str) (fun pre => ([("after", .own (.dict C (dTab C (pre.foldl (meltStep t first last name) [(name, meltBase t first last)])))), ("tables", .val (.dict C (dTab C t))), ("first", .val (.str first)), ("last", .val (.str last)), ("name", .val (.str name))] : Gam))
    (EvIter.of (Ev.subDict (P := .dict C (dI (meltBase t first last))) (EvO.name rfl) (Ev.name rfl) (by rw [dget_dTab]; show Option.map _ (Option.map _ (List.find? _ _)) = _; rw [List.find?_cons]; simp)) OpIter.dict) (by unfold dI; rw [List.map_map, List.map_map]; rfl) (gsub_cons rfl (gsub_cons rfl (gsub_cons rfl (gsub_cons rfl (gsub_cons rfl gsub_nil)))))
    (fun pre other post e => ⟨_, Asg.name (.inr ⟨rfl, rfl⟩), ?_⟩) rfl) ?_
  · obtain ⟨l, ho, ho5, hno, hof, hol⟩ := hr other (by rw [e]; simp)
    obtain ⟨vf, hvf⟩ := Option.isSome_iff_exists.mp hof
    obtain ⟨vl, hvl⟩ := Option.isSome_iff_exists.mp hol
    have hto : dget (dTab C t) other = some (.dict C (dI l)) := by rw [dget_dTab, ho]; rfl
    refine Ex.cons1 (ExS.compG false (CompIs.dictF (xs := l) (P := fun q => VP.str q.1) (key := fun q => q.1) (f := fun q => VP.int q.2) (b := fun q => !decide (q.1 ∈ [first, last]))
      ([("tables", .val (.dict C (dTab C t))), ("other", .val (.str other)), ("first", .val (.str first)), ("last", .val (.str last))] : Gam) ⟨rfl, by decide, rfl, gsub_cons rfl (gsub_cons rfl (gsub_cons rfl (gsub_cons rfl gsub_nil))), gc_cons rfl rfl (gc_cons rfl rfl (gc_cons rfl rfl (gc_cons rfl rfl gc_nil)))⟩
      (EvIter.of (Ev.subDict (EvO.of (Ev.name rfl)) (Ev.name rfl) hto) OpIter.dict) (by unfold dI; rw [List.map_map]; rfl) (by omega) fun q hq => ⟨_, Asg.name (.inl rfl), gsub_cons rfl (gsub_cons rfl (gsub_cons rfl (gsub_cons rfl gsub_nil))), ?_, fun _ => ⟨Ev.name rfl, ?_⟩⟩) (fun _ _ => rfl) rfl rfl (fun env hE => by obtain ⟨e, _, _, _⟩ := hE; cases env; cases e; rfl)) ?_
    · exact Ifs.one (Tst.cmpO (Ev.name rfl) (EvO.of (Ev.tupD (.cons (Ev.name rfl) (.cons (Ev.name rfl) .nil)))) (Op2O.notInStrT (xs := [first, last])))
    · exact Ev.subDict (EvO.of (Ev.subDict (EvO.of (Ev.name rfl)) (Ev.name rfl) hto)) (Ev.name rfl) (by rw [dget_dI, dget_mem hno hq]; rfl)
    rw [dputs_without hno]
    have hw : (without l first last).length ≤ 5 := Nat.le_trans (without_len _ _ _) ho5
    have h2 := addC_length [(name, vf)] [(name, vl)]
    simp only [List.length_cons, List.length_nil] at h2
    refine Ex.cons1 (ExS.setDict rfl (Ev.callF (Ev.glob (g_add_callers hC)) (hC.keep rfl) (.cons (Ev.name rfl) (.cons (Ev.callF (Ev.glob (g_add_callers hC)) (hC.keep rfl) (.cons (Ev.dict1 (Ev.name rfl) (Ev.subDict (EvO.of (Ev.subDict (EvO.of (Ev.name rfl)) (Ev.name rfl) hto)) (Ev.name rfl) (by rw [dget_dI, hvf]; rfl))) (.cons (Ev.dict1 (Ev.name rfl) (Ev.subDict (EvO.of (Ev.subDict (EvO.of (Ev.name rfl)) (Ev.name rfl) hto)) (Ev.name rfl) (by rw [dget_dI, hvl]; rfl))) .nil)) (fun _ _ => rfl) (add_callers_ok hC [(name, vf)] [(name, vl)] (by simp))) .nil)) (fun _ _ => rfl) (add_callers_ok hC (without l first last) (addC [(name, vf)] [(name, vl)]) (by omega))) (Ev.name rfl) ?_ rfl) (Ex.nil rfl (gsub_cons ?_ (gsub_cons rfl (gsub_cons rfl (gsub_cons rfl (gsub_cons rfl gsub_nil))))))
    · have h3 := meltFold_len t first last name pre [(name, meltBase t first last)]
      have h4 := congrArg List.length e
      have h5 := without_len (addC lf ll) first last
      have h6 : (meltBase t first last).length ≤ (addC lf ll).length := by rw [hb]; exact List.length_filter_le _ _
      rw [List.length_map, List.length_append] at h4
      rw [List.length_singleton] at h3
      unfold dTab; rw [List.length_map]
      omega
    · rw [dput_dTab, List.foldl_append]
      show some (Ent.own (UP.dict C (dTab C _))) = some (Ent.own (UP.dict C (dTab C (meltStep t first last name _ other))))
      unfold meltStep tabOf atI
      rw [ho, Option.getD_some, hvf, hvl]; rfl
  · exact Ex.freeze (x := "after") rfl (Ex.retS (Ev.name rfl) fun Z v h => h)
end Mine
end

section
open PySem PySem.W PyProof.Rows
set_option autoImplicit false
namespace Mine
noncomputable def before (d : Int) (p q : Int × Str) : Prop := q.1 < p.1 ∨ (p.1 = q.1 ∧ (if d = 1 then sLt p.2 q.2 = true else sLt q.2 p.2 = true))
theorem sLt_asymm {a b : Str} (h : sLt a b = true) : sLt b a = false := sLt_false.mpr (sLt_iff.mp h).1
theorem sLt_tri {a b : Str} (h : a ≠ b) : sLt a b = true ∨ sLt b a = true := by
  rcases leS_total a b with q | q
  · exact .inl (sLt_iff.mpr ⟨q, h⟩)
  · exact .inr (sLt_iff.mpr ⟨q, h.symm⟩)
theorem sLt_irrefl (a : Str) : sLt a a = false := by
  cases h : sLt a a with
  | false => rfl
  | true => exact absurd rfl (sLt_iff.mp h).2
theorem sLt_trans {a b c : Str} (h : sLt a b = true) (h' : sLt b c = true) : sLt a c = true := by
  obtain ⟨h1, h2⟩ := sLt_iff.mp h
  obtain ⟨h3, h4⟩ := sLt_iff.mp h'
  exact sLt_iff.mpr ⟨leS_trans h1 h3, fun e => by subst e; exact h2 (leS_anti h1 h3)⟩
theorem before_cmp {d : Int} (hd : d = 1 ∨ d = -1) {p q : Int × Str} (h : before d p q) : cmpK d p q = -1 ∧ cmpK d q p = 1 := by
  unfold before at h
  unfold cmpK
  rcases h with h | ⟨h1, h2⟩
  · have h' : ¬ p.1 < q.1 := by omega
    rw [if_neg h', if_pos h, if_pos h]; exact ⟨rfl, rfl⟩
  · have e1 : ¬ p.1 < q.1 := by omega
    have e2 : ¬ q.1 < p.1 := by omega
    rw [if_neg e1, if_neg e2, if_neg e2, if_neg e1]
    rcases hd with rfl | rfl
    · rw [if_pos rfl] at h2
      rw [if_pos h2, sLt_asymm h2, if_neg Bool.false_ne_true, if_pos h2]; exact ⟨rfl, rfl⟩
    · rw [if_neg (by decide)] at h2
      rw [if_pos h2, sLt_asymm h2, if_neg Bool.false_ne_true, if_pos h2]; exact ⟨rfl, rfl⟩
theorem before_tri (d : Int) {p q : Int × Str} (h : p.2 ≠ q.2) : before d p q ∨ before d q p := by
  unfold before
  rcases Int.lt_trichotomy p.1 q.1 with h1 | h1 | h1
  · exact .inr (.inl h1)
  · split
    · rcases sLt_tri h with q | q
      · exact .inl (.inr ⟨h1, q⟩)
      · exact .inr (.inr ⟨h1.symm, q⟩)
    · rcases sLt_tri h with q | q
      · exact .inr (.inr ⟨h1.symm, q⟩)
      · exact .inl (.inr ⟨h1, q⟩)
  · exact .inl (.inl h1)
theorem before_trans {d : Int} {p q r : Int × Str} (h : before d p q) (h' : before d q r) : before d p r := by
  unfold before at *
  rcases h with h | ⟨h1, h2⟩ <;> rcases h' with h' | ⟨h3, h4⟩
  · exact .inl (by omega)
  · exact .inl (by omega)
  · exact .inl (by omega)
  · refine .inr ⟨by omega, ?_⟩
    split at h2 <;> rename_i hd
    · rw [if_pos hd] at h4 ⊢; exact sLt_trans h2 h4
    · rw [if_neg hd] at h4 ⊢; exact sLt_trans h4 h2
theorem cmpK_self (d : Int) (p : Int × Str) : cmpK d p p = 0 := by
  unfold cmpK; rw [if_neg (by omega), if_neg (by omega), sLt_irrefl]; rfl
theorem before_of_cmp {d : Int} (hd : d = 1 ∨ d = -1) {p q : Int × Str} (h : cmpK d p q < 0) : before d p q := by
  by_cases e : p.2 = q.2
  · unfold cmpK at h; unfold before
    by_cases h1 : q.1 < p.1
    · exact .inl h1
    · by_cases h2 : p.1 < q.1
      · rw [if_pos h2] at h; omega
      · rw [if_neg h2, if_neg h1, e, sLt_irrefl] at h; simp at h
  · rcases before_tri d e with q | q
    · exact q
    · have := (before_cmp hd q).2; omega
noncomputable abbrev keyOf (x : Str × Int) : Int × Str := (x.2, x.1)
noncomputable def bestF (d : Int) (acc : Option (Str × Int)) (x : Str × Int) : Option (Str × Int) := match acc with
  | none => some x
  | some b => if cmpK d (keyOf x) (keyOf b) < 0 then some x else some b
noncomputable def bestOf (d : Int) (l : List (Str × Int)) : Option (Str × Int) := l.foldl (bestF d) none
theorem best_from {d : Int} (hd : d = 1 ∨ d = -1) : ∀ (l S : List (Str × Int)) (b0 : Str × Int), (∀ y ∈ S ++ l, ∀ z ∈ S ++ l, y.1 = z.1 → y = z) → b0 ∈ S → (∀ y ∈ S, y ≠ b0 → before d (keyOf b0) (keyOf y)) →
    ∃ b, l.foldl (bestF d) (some b0) = some b ∧ b ∈ S ++ l ∧ ∀ y ∈ S ++ l, y ≠ b → before d (keyOf b) (keyOf y)
  | [], S, b0, _, h0, h => ⟨b0, rfl, by simpa using h0, by simpa using h⟩
  | x :: l, S, b0, hn, h0, h => by
    have hx : x ∈ S ++ x :: l := List.mem_append_right _ (.head _)
    have step : ∀ b1, b1 ∈ S ++ [x] → (∀ y ∈ S ++ [x], y ≠ b1 → before d (keyOf b1) (keyOf y)) → ∃ b, l.foldl (bestF d) (some b1) = some b ∧ b ∈ S ++ x :: l ∧ ∀ y ∈ S ++ x :: l, y ≠ b → before d (keyOf b) (keyOf y) := fun b1 m1 k1 => by
      have := best_from hd l (S ++ [x]) b1 (by simpa [List.append_assoc] using hn) m1 k1
      simpa [List.append_assoc] using this
    show ∃ b, l.foldl (bestF d) (if cmpK d (keyOf x) (keyOf b0) < 0 then some x else some b0) = some b ∧ _
    split
    · rename_i hc
      have hb := before_of_cmp hd hc
      refine step x (by simp) fun y hy hne => ?_
      rcases List.mem_append.mp hy with q | q
      · by_cases e : y = b0
        · subst e; exact hb
        · exact before_trans hb (h y q e)
      · simp at q; exact absurd q hne
    · rename_i hc
      refine step b0 (List.mem_append_left _ h0) fun y hy hne => ?_
      rcases List.mem_append.mp hy with q | q
      · exact h y q hne
      · simp at q; subst q
        rcases before_tri d (p := keyOf b0) (q := keyOf y) (fun q => hne (hn _ hx _ (List.mem_append_left _ h0) q.symm)) with r | r
        · exact r
        · exact absurd ((before_cmp hd r).1 ▸ (by decide : (-1 : Int) < 0)) hc
theorem inj_of_nodup {β : Type} {l : List (Str × β)} (nd : (l.map (·.1)).Nodup) : ∀ y ∈ l, ∀ z ∈ l, y.1 = z.1 → y = z := fun y hy z hz e => by
  have h1 := dget_mem nd hy
  have h2 := dget_mem nd hz
  rw [e, h2] at h1
  exact Prod.ext e (Option.some.inj h1).symm
theorem best_spec {d : Int} (hd : d = 1 ∨ d = -1) {l : List (Str × Int)} (nd : (l.map (·.1)).Nodup) (hne : l ≠ []) : ∃ b, bestOf d l = some b ∧ b ∈ l ∧ ∀ y ∈ l, y ≠ b → before d (keyOf b) (keyOf y) := by
  cases l with
  | nil => exact absurd rfl hne
  | cons x l =>
    have := best_from hd l [x] x (by simpa using inj_of_nodup nd) (.head _) (fun y hy h => by simp at hy; exact absurd hy h)
    exact this
noncomputable def pullsNext (t : Tab) (row : List Str) (pulls : List (Str × Int)) (b : Str) : List (Str × Int) := (addC pulls (tabOf t b)).filter fun q => !decide (q.1 ∈ row)
noncomputable def tourGo (t : Tab) (d : Int) : Nat → List Str → List (Str × Int) → List Str
  | 0, row, _ => row
  | k + 1, row, pulls => match bestOf d pulls with
    | none => row
    | some b => tourGo t d k (row ++ [b.1]) (pullsNext t (row ++ [b.1]) pulls b.1)
structure TabOk (t : Tab) (names : List Str) : Prop where
  nd : names.Nodup
  has : ∀ a ∈ names, ∃ l, dget t a = some l ∧ (l.map (·.1)).Nodup ∧ ∀ k, k ∈ l.map (·.1) ↔ k ∈ names ∧ k ≠ a
structure TourAt (t : Tab) (names : List Str) (row : List Str) (pulls : List (Str × Int)) : Prop where
  nd : row.Nodup
  sub : ∀ a ∈ row, a ∈ names
  pn : (pulls.map (·.1)).Nodup
  keys : ∀ k, k ∈ pulls.map (·.1) ↔ k ∈ names ∧ k ∉ row
theorem dput_keys {β : Type} (l : List (Str × β)) (k : Str) (v : β) (x : Str) : x ∈ (dput l k v).map (·.1) ↔ x ∈ l.map (·.1) ∨ x = k := by
  by_cases hk : k ∈ l.map (·.1)
  · unfold dput
    obtain ⟨q, hq, e⟩ := List.mem_map.mp hk
    rw [if_pos (List.any_eq_true.mpr ⟨q, hq, decide_eq_true e⟩), List.map_map]
    have e : ((fun q : Str × β => q.1) ∘ fun kv : Str × β => if kv.1 = k then (kv.1, v) else kv) = fun q => q.1 := by
      funext q; show Prod.fst (if q.1 = k then (q.1, v) else q) = q.1; split <;> rfl
    rw [e]
    exact ⟨.inl, fun h => h.elim id fun h => h ▸ hk⟩
  · rw [dput_new l k v hk, List.map_append, List.mem_append]; simp
theorem putAll_keys : ∀ (b a : List (Str × Int)) (x : Str), x ∈ (putAll a b).map (·.1) ↔ x ∈ a.map (·.1) ∨ x ∈ b.map (·.1)
  | [], a, x => by simp [putAll]
  | q :: b, a, x => by
    have := putAll_keys b (dput a q.1 q.2) x
    show x ∈ (putAll (dput a q.1 q.2) b).map (·.1) ↔ _
    rw [this, dput_keys, List.map_cons, List.mem_cons, or_assoc]
theorem addFold_keys : ∀ (b a : List (Str × Int)) (x : Str), x ∈ (b.foldl addStep a).map (·.1) ↔ x ∈ a.map (·.1) ∨ x ∈ b.map (·.1)
  | [], a, x => by simp
  | q :: b, a, x => by
    have := addFold_keys b (addStep a q) x
    rw [List.foldl_cons, this, List.map_cons, List.mem_cons, ← or_assoc]
    unfold addStep
    rw [dput_keys]
theorem addC_keys (a b : List (Str × Int)) (x : Str) : x ∈ (addC a b).map (·.1) ↔ x ∈ a.map (·.1) ∨ x ∈ b.map (·.1) := by
  unfold addC; rw [addFold_keys, putAll_keys]; simp
theorem filter_keys (l : List (Str × Int)) (p : Str → Bool) (x : Str) : x ∈ (l.filter fun q => p q.1).map (·.1) ↔ x ∈ l.map (·.1) ∧ p x = true := by
  constructor
  · intro h
    obtain ⟨q, hq, rfl⟩ := List.mem_map.mp h
    obtain ⟨h1, h2⟩ := List.mem_filter.mp hq
    exact ⟨List.mem_map.mpr ⟨q, h1, rfl⟩, h2⟩
  · rintro ⟨h1, h2⟩
    obtain ⟨q, hq, rfl⟩ := List.mem_map.mp h1
    exact List.mem_map.mpr ⟨q, List.mem_filter.mpr ⟨hq, h2⟩, rfl⟩
theorem filter_nodup {l : List (Str × Int)} (p : Str × Int → Bool) (h : (l.map (·.1)).Nodup) : ((l.filter p).map (·.1)).Nodup := h.sublist (List.Sublist.map _ List.filter_sublist)
theorem TourAt.next {t : Tab} {names row : List Str} {pulls : List (Str × Int)} {b : Str} (T : TabOk t names) (A : TourAt t names row pulls) (hb : b ∈ pulls.map (·.1)) : TourAt t names (row ++ [b]) (pullsNext t (row ++ [b]) pulls b) := by
  obtain ⟨b1, b2⟩ := (A.keys b).mp hb
  obtain ⟨l, hl, _, hk⟩ := T.has b b1
  refine ⟨?_, fun a ha => ?_, filter_nodup _ (addC_nodup _ _), fun k => ?_⟩
  · rw [List.nodup_append]; exact ⟨A.nd, by simp, fun x hx y hy => by simp at hy; subst hy; exact fun e => b2 (e ▸ hx)⟩
  · rcases List.mem_append.mp ha with q | q
    · exact A.sub a q
    · simp at q; subst q; exact b1
  · unfold pullsNext
    rw [filter_keys _ (fun x => !decide (x ∈ row ++ [b])), addC_keys, A.keys, tabOf, hl, Option.getD_some, hk]
    simp only [Bool.not_eq_true', decide_eq_false_iff_not, List.mem_append, List.mem_singleton, not_or]
    constructor
    · rintro ⟨h | h, h2⟩
      · exact ⟨h.1, h2⟩
      · exact ⟨h.1, h2⟩
    · rintro ⟨h, h2⟩; exact ⟨.inr ⟨h, h2.2⟩, h2⟩
theorem nodup_len : ∀ {l m : List Str}, l.Nodup → (∀ a ∈ l, a ∈ m) → l.length ≤ m.length
  | l, m, h, hs => h.length_le_of_subset hs
theorem TourAt.len {t : Tab} {names row : List Str} {pulls : List (Str × Int)} (A : TourAt t names row pulls) (hn : names.Nodup) : row.length + pulls.length = names.length := by
  have hp : (row ++ pulls.map (·.1)).Perm names := by
    refine (List.perm_ext_iff_of_nodup ?_ hn).mpr fun a => ?_
    · rw [List.nodup_append]; exact ⟨A.nd, A.pn, fun x hx y hy e => ((A.keys y).mp hy).2 (e ▸ hx)⟩
    · rw [List.mem_append, A.keys]
      constructor
      · rintro (h | h)
        · exact A.sub a h
        · exact h.1
      · intro h
        by_cases q : a ∈ row
        · exact .inl q
        · exact .inr ⟨h, q⟩
  have := hp.length_eq
  rw [List.length_append, List.length_map] at this; exact this
end Mine
end

section
open PySem PySem.W PyProof.Rows
set_option autoImplicit false
set_option maxRecDepth 100000
namespace Mine
variable {C : Cx} {n : Nat}
theorem Ev.dict0 {sc : Scope} {G : Gam} {p : Pos} : Ev C n sc G (.Dict [] [] p) (.dict C []) := fun A Z own env s E hA hE I g =>
  wpAny_Dict_empty (Post.push I (U := .dict C []) ⟨#[], 0, [], ⟨rfl, rfl, rfl⟩, rfl, fun _ h => by simp at h, .nil, List.nodup_nil, .nil⟩ rfl)
theorem g_add_c (h : C.Ok) : (C.mg "_strxfrm").or (C.mb "_strxfrm") = some (.ref 77) := h.mg rfl
noncomputable def dK (l : List (Str × Int)) : List (Str × VP) := l.map fun q => (q.1, keyP (keyOf q))
theorem dK_get {l : List (Str × Int)} (nd : (l.map (·.1)).Nodup) {q : Str × Int} (h : q ∈ l) : dget (dK l) q.1 = some (keyP (keyOf q)) := by
  unfold dK
  rw [show (l.map fun q => (q.1, keyP (keyOf q))) = (l.map fun q => (q.1, q)).map fun q => (q.1, keyP (keyOf q.2)) by rw [List.map_map]; rfl, dget_map (fun q : Str × Int => keyP (keyOf q))]
  have : dget (l.map fun q => (q.1, q)) q.1 = some q := dget_mem (l := l.map fun q => (q.1, q)) (q := (q.1, q)) (by rw [List.map_map]; exact nd) (List.mem_map.mpr ⟨q, h, rfl⟩)
  rw [this]; rfl
theorem Ev.judge (hC : C.Ok) {sc : Scope} {G : Gam} {j : Str} {jp ap pos : Pos} {a b : Expr} {d : Int} {p q : Int × Str} (hj : G.lookup j = some (.val (judgeP d))) (ha : Ev C (n + 1) sc G a (keyP p)) (hb : Ev C (n + 1) sc G b (keyP q))
    (h1 : ∀ env, starEach [a, b] env = (false, eval a env) :: starEach [b] env := by intro _; rfl) (h2 : ∀ env, starEach [b] env = (false, eval b env) :: starEach [] env := by intro _; rfl) (hn : NoStar [a, b] := by exact fun _ _ => rfl)
    (hd : ((j == ("__debug__" : Str)) || (j == ("__classdict__" : Str))) = false := by rfl) (hline : (ap.endLine == pos.line) = true := by rfl) :
    Ev C (n + 1) sc G (.Call (.Attribute (.Name j jp) (Str.ofString "compare") ap) [a, b] [] pos) (.int (cmpK d p q)) :=
  Ev.methI (Ev.name hj hd) (.cons ha (.cons hb .nil h2) h1) rfl (by rw [show C.K = _ from hC]; rfl) (f := 42) (by rw [show C.K = _ from hC]; rfl) (by rw [show C.K = _ from hC]; rfl) (hC.keep rfl) hn ((compare_ok hC d p q).le (by omega)) (fun _ => rfl) rfl hline
noncomputable def bestP : Option (Str × Int) → VP
  | none => VP.none
  | some b => VP.str b.1
theorem bestOf_snoc (d : Int) (l : List (Str × Int)) (x : Str × Int) : bestOf d (l ++ [x]) = bestF d (bestOf d l) x := by unfold bestOf; rw [List.foldl_append]; rfl
theorem bestOf_mem (d : Int) : ∀ (l : List (Str × Int)) (acc : Option (Str × Int)) (b : Str × Int), l.foldl (bestF d) acc = some b → acc = some b ∨ b ∈ l
  | [], acc, b, h => .inl h
  | x :: l, acc, b, h => by
    rcases bestOf_mem d l (bestF d acc x) b h with q | q
    · cases acc with
      | none => cases q; exact .inr (.head _)
      | some c =>
        have q' : (if cmpK d (keyOf x) (keyOf c) < 0 then some x else some c) = some b := q
        split at q'
        · cases q'; exact .inr (.head _)
        · exact .inl q'
    · exact .inr (.tail _ q)
theorem tour_ok (hC : C.Ok) (t : Tab) (names : List Str) (start d : Int) (hd : d = 1 ∨ d = -1) (T : TabOk t names) (h0 : names ≠ []) (h5 : names.length ≤ 5) (hs : ∀ a ∈ names, (tabOf t a).length ≤ 5) :
    Fn C 3 (.ref 184) [.list (names.map .str), .dict C (dTab C t), .int start, judgeP d] (.list ((tourGo t d (names.length - 1) [names.getD (start.fmod names.length).toNat ""] (tabOf t (names.getD (start.fmod names.length).toNat ""))).map .str)) := by
  refine Fn.body (xs := [Str.ofString "names", Str.ofString "tables", Str.ofString "start", Str.ofString "judge"]) (hC.at rfl) rfl (hC.code rfl) rfl (fun vs h => match vs, h with | [a, b, c, d], _ => rfl) rfl rfl rfl rfl (by decide) rfl (by decide) ?_
  have h100 : 100 ≤ sizeLine := by decide
  have hl : 0 < names.length := List.length_pos_iff.mpr h0
  have hm0 := Int.fmod_nonneg_of_pos start (b := (names.length : Int)) (by omega)
  have hm1 := Int.fmod_lt_of_pos start (b := (names.length : Int)) (by omega)
  generalize hi : start.fmod names.length = i at hm0 hm1
  have hn0 : names.getD i.toNat "" ∈ names := by rw [List.getD_eq_getElem?_getD, List.getElem?_eq_getElem (by omega)]; exact List.getElem_mem _
  have hpk : pickAt (names.map VP.str) i = some (.str (names.getD i.toNat "")) := pickAt_int VP.str hm0 (by omega)
  generalize names.getD i.toNat "" = nm at hn0 hpk
  have hsz : (names.map VP.str).length ≤ sizeLine := by rw [List.length_map]; omega
  have hget : ∀ a ∈ names, dget (dTab C t) a = some (.dict C (dI (tabOf t a))) := fun a ha => by
    obtain ⟨l, hl, _⟩ := T.has a ha
    rw [dget_dTab, tabOf, hl]; rfl
  refine Ex.cons1 (ExS.ownF (U := .list ([nm].map VP.str)) (EvF.listD (.cons (Ev.atList (Ev.name rfl) (Ev.cast (Ev.binop (Ev.name rfl) (Ev.callB (Ev.glob (g_len hC)) (.cons (Ev.name rfl) .nil) (fun _ _ => rfl) (Fn.lenList hsz)) (Op2.modInt (by rw [List.length_map]; omega))) (by rw [List.length_map, hi])) hpk hsz) .nil) (show 1 ≤ sizeLine by decide)) rfl) ?_
  refine Ex.cons1 (ExS.asg (Ev.subDict (EvO.of (Ev.name rfl)) (Ev.borrow (x := "row") rfl (Ev.atList (Ev.name rfl) Ev.cint rfl (show 1 ≤ sizeLine by decide)) thaws_str) (hget nm hn0)) rfl) ?_
  have start0 : TourAt t names [nm] (tabOf t nm) := by
    obtain ⟨l, hl, h1, h2⟩ := T.has nm hn0
    have e : tabOf t nm = l := by unfold tabOf; rw [hl]; rfl
    rw [e]
    exact ⟨by simp, by simpa using hn0, h1, fun k => by rw [h2]; simp⟩
  generalize hfin : tourGo t d (names.length - 1) [nm] (tabOf t nm) = fin
  refine Ex.cons (N := fun X => List.lookup (Str.ofString "row") X = some (Ent.own (.list (fin.map VP.str)))) (ExS.while_ (ι := List Str × List (Str × Int)) (fun i => ([("row", .own (.list (i.1.map VP.str))), ("pulls", .val (.dict C (dI i.2))), ("tables", .val (.dict C (dTab C t))), ("judge", .val (judgeP d))] : Gam))
    (fun i => TourAt t names i.1 i.2 ∧ tourGo t d (names.length - i.1.length) i.1 i.2 = fin) (fun i => names.length - i.1.length) ([nm], tabOf t nm) (gsub_cons rfl (gsub_cons rfl (gsub_cons rfl (gsub_cons rfl gsub_nil)))) ⟨start0, hfin⟩ ?_) fun G' hG => ?_
  · rintro ⟨row, pulls⟩ ⟨A, hT⟩
    have hlen : row.length + pulls.length = names.length := A.len T.nd
    by_cases hp : pulls = []
    · subst hp
      refine ⟨!true, Tst.cmpO (Ev.name rfl) (EvO.of Ev.dict0) (Op2O.neDict (.same rfl fun i h => by simp [dI] at h)), And.intro (fun q => by cases q) fun _ => ?_⟩
      have e : names.length - row.length = 0 := by rw [List.length_nil] at hlen; omega
      have hT' : tourGo t d (names.length - row.length) row [] = fin := hT
      rw [e] at hT'
      show some (Ent.own (.list (row.map VP.str))) = _
      rw [show row = fin from hT']
    · have hpl : 0 < pulls.length := List.length_pos_iff.mpr hp
      refine ⟨!false, Tst.cmpO (Ev.name rfl) (EvO.of Ev.dict0) (Op2O.neDict (.size (by show (dI pulls).length ≠ 0; unfold dI; rw [List.length_map]; omega))), And.intro (fun _ => ?_) fun q => by cases q⟩
      have hk : dputs (fun q : Str × Int => q.1) (fun q => keyP (keyOf q)) [] (pulls.filter fun _ => true) = dK pulls := by
        rw [List.filter_eq_self.mpr (fun _ _ => rfl), dputs_fresh _ _ _ _ (by rw [List.map_nil, List.nil_append]; exact A.pn)]; rfl
      refine Ex.cons1 (ExS.compG false (CompIs.dictF (xs := pulls) (P := fun q => VP.str q.1) (key := fun q => q.1) (f := fun q => keyP (keyOf q)) (b := fun _ => true) ([("pulls", .val (.dict C (dI pulls)))] : Gam) ⟨rfl, by decide, rfl, gsub_cons rfl gsub_nil, gc_cons rfl rfl gc_nil⟩
        (EvIter.of (Ev.name rfl) OpIter.dict) (by unfold dI; rw [List.map_map]; rfl) (by omega) fun q hq => ⟨_, Asg.name (.inl rfl), gsub_cons rfl gsub_nil, .nil, fun _ => ⟨Ev.name rfl, Ev.tupD (.cons (Ev.subDict (P := .int q.2) (EvO.of (Ev.name rfl)) (Ev.name rfl) (by rw [dget_dI, dget_mem A.pn hq]; rfl)) (.cons (Ev.callF (Ev.glob (g_add_c hC)) (hC.keep rfl) (.cons (Ev.name rfl) .nil) (fun _ _ => rfl) (Fn.le (n := 2) (strxfrm_ok hC q.1) (by decide))) .nil))⟩⟩) (fun _ _ => rfl) rfl rfl (fun env hE => by obtain ⟨e, _, _, _⟩ := hE; cases env; cases e; rfl)) ?_
      rw [hk]
      refine Ex.cons1 (ExS.asg Ev.cnone rfl) ?_
      have hdk : ∀ q ∈ pulls, dget (dK pulls) q.1 = some (keyP (keyOf q)) := fun q hq => dK_get A.pn hq
      refine Ex.cons1 (ExS.forL (xs := pulls) (P := fun q => VP.str q.1) (fun pre => ([("best", .val (bestP (bestOf d pre))), ("keys", .val (.dict C (dK pulls))), ("judge", .val (judgeP d)), ("pulls", .val (.dict C (dI pulls))), ("row", .own (.list (row.map VP.str))), ("tables", .val (.dict C (dTab C t)))] : Gam))
        (EvIter.of (Ev.name rfl) OpIter.dict) (by unfold dI; rw [List.map_map]; rfl) (gsub_cons rfl (gsub_cons rfl (gsub_cons rfl (gsub_cons rfl (gsub_cons rfl (gsub_cons rfl gsub_nil)))))) (fun pre x post e => ⟨_, Asg.name (.inl rfl), ?_⟩) rfl) ?_
      · have hx : x ∈ pulls := by rw [e]; simp
        have hsub : ∀ b, bestOf d pre = some b → b ∈ pulls := fun b h => by
          rcases bestOf_mem d pre none b h with q | q
          · cases q
          · rw [e]; exact List.mem_append_left _ q
        rw [bestOf_snoc]
        generalize bestOf d pre = acc at hsub
        cases acc with
        | none =>
          refine Ex.ite (Tst.bop (.or (c := false) (Tst.cmp (P := .none) (Ev.name rfl) Ev.cnone (Op2.isNone VP.nn_none)) fun h => by cases h)) (fun _ => ?_) fun h => by cases h
          exact Ex.cons1 (ExS.asg (Ev.name rfl) rfl) (Ex.nil rfl (gsub_cons rfl (gsub_cons rfl (gsub_cons rfl (gsub_cons rfl (gsub_cons rfl (gsub_cons rfl gsub_nil)))))))
        | some b =>
          have hb := hsub b rfl
          refine Ex.ite (Tst.bop (.or (Tst.cmp (P := .str b.1) (Ev.name rfl) Ev.cnone (Op2.isNone VP.nn_str)) fun _ => .or (Tst.cmp (Ev.judge hC (p := keyOf x) (q := keyOf b) rfl (Ev.subDict (EvO.of (Ev.name rfl)) (Ev.name rfl) (hdk x hx)) (Ev.subDict (EvO.of (Ev.name rfl)) (Ev.name (P := .str b.1) rfl) (hdk b hb))) Ev.cint Op2.ltInt) fun _ => .nilOr)) (fun h => ?_) fun h => ?_
          · have h' : cmpK d (keyOf x) (keyOf b) < 0 := by simpa using h
            refine Ex.cons1 (ExS.asg (Ev.name rfl) rfl) (Ex.nil rfl (gsub_cons ?_ (gsub_cons rfl (gsub_cons rfl (gsub_cons rfl (gsub_cons rfl (gsub_cons rfl gsub_nil)))))))
            show some (Ent.val (VP.str x.1)) = some (Ent.val (bestP (if cmpK d (keyOf x) (keyOf b) < 0 then some x else some b)))
            rw [if_pos h']; rfl
          · have h' : ¬ cmpK d (keyOf x) (keyOf b) < 0 := by simpa using h
            refine Ex.nil rfl (gsub_cons ?_ (gsub_cons rfl (gsub_cons rfl (gsub_cons rfl (gsub_cons rfl (gsub_cons rfl gsub_nil))))))
            show some (Ent.val (VP.str b.1)) = some (Ent.val (bestP (if cmpK d (keyOf x) (keyOf b) < 0 then some x else some b)))
            rw [if_neg h']; rfl
      obtain ⟨b, hb1, hb2, hb3⟩ := best_spec hd A.pn hp
      rw [hb1]
      refine Ex.cons1 (ExS.forL (xs := pulls) (P := fun q => VP.str q.1) (fun _ => ([("best", .val (.str b.1)), ("keys", .val (.dict C (dK pulls))), ("judge", .val (judgeP d)), ("pulls", .val (.dict C (dI pulls))), ("row", .own (.list (row.map VP.str))), ("tables", .val (.dict C (dTab C t)))] : Gam))
        (EvIter.of (Ev.name rfl) OpIter.dict) (by unfold dI; rw [List.map_map]; rfl) (gsub_cons rfl (gsub_cons rfl (gsub_cons rfl (gsub_cons rfl (gsub_cons rfl (gsub_cons rfl gsub_nil)))))) (fun pre x post e => ⟨_, Asg.name (.inl rfl), ?_⟩) rfl) ?_
      · have hx : x ∈ pulls := by rw [e]; simp
        have kx := hdk x hx
        have kb := hdk b hb2
        refine Ex.cons1 (ExS.asg (Ev.tupD (.cons (Ev.judge hC (p := keyOf b) (q := keyOf x) rfl (Ev.subDict (EvO.of (Ev.name rfl)) (Ev.name rfl) kb) (Ev.subDict (EvO.of (Ev.name rfl)) (Ev.name rfl) kx)) (.cons (Ev.judge hC (p := keyOf x) (q := keyOf b) rfl (Ev.subDict (EvO.of (Ev.name rfl)) (Ev.name rfl) kx) (Ev.subDict (EvO.of (Ev.name rfl)) (Ev.name rfl) kb)) .nil))) rfl) ?_
        by_cases hxb : x = b
        · subst hxb
          rw [cmpK_self]
          refine Ex.ite (Tst.cmp (Ev.name rfl) (Ev.ite (P := .tup [.int 0, .int 0]) (Tst.cmp (Ev.name rfl) (Ev.name rfl) Op2.eqStr) (fun _ => Ev.tupD (.cons Ev.cint (.cons Ev.cint .nil))) fun h => by simp at h) (Op2.neTup (.cons .int (.cons .int .nil)))) (fun h => by cases h) fun _ => Ex.nil rfl (gsub_cons rfl (gsub_cons rfl (gsub_cons rfl (gsub_cons rfl (gsub_cons rfl (gsub_cons rfl gsub_nil))))))
        · obtain ⟨c1, c2⟩ := before_cmp hd (hb3 x hx hxb)
          have hne : x.1 ≠ b.1 := fun q => hxb (inj_of_nodup A.pn x hx b hb2 q)
          rw [c1, c2]
          refine Ex.ite (Tst.cmp (Ev.name rfl) (Ev.ite (P := .tup [.int (-1), .int 1]) (Tst.cmp (Ev.name rfl) (Ev.name rfl) Op2.eqStr) (fun h => absurd (by simpa using h) hne) fun _ => Ev.tupD (.cons (Ev.unary Ev.cint Op1.negInt) (.cons Ev.cint .nil))) (Op2.neTup (.cons .int (.cons .int .nil)))) (fun h => by cases h) fun _ => Ex.nil rfl (gsub_cons rfl (gsub_cons rfl (gsub_cons rfl (gsub_cons rfl (gsub_cons rfl (gsub_cons rfl gsub_nil))))))
      have hbk : b.1 ∈ pulls.map (·.1) := List.mem_map.mpr ⟨b, hb2, rfl⟩
      obtain ⟨hbn, hbr⟩ := (A.keys b.1).mp hbk
      have hb5 := hs b.1 hbn
      have hadd := addC_length pulls (tabOf t b.1)
      have hcast : dputs (fun q : Str × Int => q.1) (fun q => VP.int q.2) [] ((addC pulls (tabOf t b.1)).filter fun q => !decide (q.1 ∈ row ++ [b.1])) = dI (pullsNext t (row ++ [b.1]) pulls b.1) := dputs_without (addC_nodup _ _) _
      refine Ex.cons1 (ExS.append (P := .str b.1) rfl (Ev.name rfl) (fun _ => rfl) (by rw [List.length_map]; omega) rfl rfl rfl (fun _ => rfl) (fun env hE => by unfold interactive; rw [hE.1, hE.2]; rfl)) ?_
      refine Ex.weak (G' := [("best", .val (.str b.1)), ("judge", .val (judgeP d)), ("pulls", .val (.dict C (dI pulls))), ("row", .own (.list ((row ++ [b.1]).map VP.str))), ("tables", .val (.dict C (dTab C t)))]) ?_ (gsub_cons rfl (gsub_cons rfl (gsub_cons rfl (gsub_cons (by rw [List.map_append]; rfl) (gsub_cons rfl gsub_nil)))))
      refine Ex.cons1 (ExS.asg (Ev.callF (Ev.glob (g_add_callers hC)) (hC.keep rfl) (.cons (Ev.name rfl) (.cons (Ev.subDict (EvO.of (Ev.name rfl)) (Ev.name rfl) (hget b.1 hbn)) .nil)) (fun _ _ => rfl) ((add_callers_ok hC pulls (tabOf t b.1) (by omega)).le (by omega))) rfl) ?_
      refine Ex.cons1 (ExS.asg (Ev.cast (Ev.comp (CompIs.dictF (xs := addC pulls (tabOf t b.1)) (P := fun q => VP.str q.1) (key := fun q => q.1) (f := fun q => VP.int q.2) (b := fun q => !decide (q.1 ∈ row ++ [b.1])) ([("both", .val (.dict C (dI (addC pulls (tabOf t b.1))))), ("row", .own (.list ((row ++ [b.1]).map VP.str)))] : Gam) ⟨rfl, by decide, rfl, gsub_cons rfl (gsub_cons rfl gsub_nil), gc_cons rfl rfl (gc_cons rfl rfl gc_nil)⟩
        (EvIter.of (Ev.name rfl) OpIter.dict) (by unfold dI; rw [List.map_map]; rfl) (by omega) fun q hq => ⟨_, Asg.name (.inl rfl), gsub_cons rfl (gsub_cons rfl gsub_nil), Ifs.one (Tst.cmpO (Ev.name rfl) (EvO.name rfl) Op2O.notInStrs), fun _ => ⟨Ev.name rfl, Ev.subDict (P := .int q.2) (EvO.of (Ev.name rfl)) (Ev.name rfl) (by rw [dget_dI, dget_mem (addC_nodup _ _) hq]; rfl)⟩⟩) (fun _ => rfl)) (congrArg (fun l => VP.dict C l) hcast)) rfl rfl (fun env hE => by obtain ⟨e, _, _, _⟩ := hE; cases env; cases e; rfl)) ?_
      have hT' : tourGo t d (names.length - row.length) row pulls = fin := hT
      have hN := A.next T hbk
      refine Ex.nil ⟨(row ++ [b.1], pullsNext t (row ++ [b.1]) pulls b.1), ⟨hN, ?_⟩, ?_, rfl⟩ (gsub_cons rfl (gsub_cons rfl (gsub_cons rfl (gsub_cons rfl gsub_nil))))
      · rw [← hT']
        rw [show names.length - row.length = (names.length - (row ++ [b.1]).length) + 1 by rw [List.length_append, List.length_singleton]; omega, tourGo, hb1]
      · show names.length - (row ++ [b.1]).length < names.length - row.length
        rw [List.length_append, List.length_singleton]; omega
  · exact Ex.freeze (x := "row") hG (Ex.retS (Ev.name lookup_cons_eq) fun Z v h => h)
end Mine
end

section
open PySem PySem.W PyProof.Rows
set_option autoImplicit false
set_option maxRecDepth 100000
namespace Mine
theorem rawGlob {C : Cx} {A : Around} {s : Shared} {env : Env} {x : Str} {v : Value} {mg mb : Str → Option Value} {E : Value → Shared → Prop} {Q : Value → Shared → Prop} (hk1 : env.scope.kind = .function) (hk2 : env.kindOf x = some .globalImplicit) (hg : env.globals = mainGlobals) (hb : env.builtins = builtinsNs)
    (ng : s.heap.Ns mainGlobals mg) (nb : s.heap.Ns builtinsNs mb) (hv : (mg x).or (mb x) = some v) (h : Q v s) : wpAny C.M A (loadName env x) Q E s := by
  unfold loadName
  simp only [Env.blockKind, hk1, hk2, ScopeKind.isAnnotationScope, Bool.false_and, Bool.false_eq_true, if_false]
  unfold loadGlobal
  rw [hg, hb]
  refine wpAny_bind (wpAny_nsGet ng ?_)
  cases hm : mg x with
  | some u => rw [hm] at hv; cases hv; exact wpAny_pure h
  | none =>
    rw [hm] at hv
    refine wpAny_bind (wpAny_nsGet nb ?_)
    rw [show mb x = some v from hv]
    exact wpAny_pure h
theorem gen_elt {C : Cx} {A : Around} {s : Shared} {env : Env} {m mg mb : Str → Option Value} {E : Value → Shared → Prop} {b : Addr} {vs : Array Value} {i : Int} {t : Tok} {p1 p2 p3 p4 p5 : Pos} {k : Nat} (hk1 : env.scope.kind = .function) (hk2 : env.kindOf (Str.ofString "str") = some .globalImplicit) (hk3 : env.kindOf (Str.ofString "tup") = some .local) (hg : env.globals = mainGlobals) (hb : env.builtins = builtinsNs)
    (ng : s.heap.Ns mainGlobals mg) (nb : s.heap.Ns builtinsNs mb) (hv : (mg (Str.ofString "str")).or (mb (Str.ofString "str")) = some (.type "str")) (nl : s.heap.Ns env.locals m) (hm : m (Str.ofString "tup") = some (.ref b)) (ht : s.heap.IsTuple b vs) (h0 : vs[0]? = some (.int i t)) (hsz : vs.size < 100) (hi : i.natAbs.log2 < 1920) :
    wpAny C.M A (eval (.Call (.Name (Str.ofString "str") p1) [.Subscript (.Name (Str.ofString "tup") p2) (.Constant (.int 0) k p3) p4] [] p5) env) (fun y s' => (∃ t, y = .str (Str.ofString (toString i)) t) ∧ Keeps s s') E s := by
  show wpAny _ _ (do callWith p5 (← eval (.Name (Str.ofString "str") p1) env) [] (backTo p5 (starEach [.Subscript (.Name (Str.ofString "tup") p2) (.Constant (.int 0) k p3) p4] env)) []) _ _ _
  refine wpAny_bind (wpAny_Name (rawGlob hk1 hk2 hg hb ng nb hv ?_) rfl)
  refine PySem.callWith_type rfl (evalArgs_of (fun _ _ => rfl) ?_)
  refine Calls.spliced_cons ?_
  rw [eval_Subscript]
  refine wpAny_bind (wpAny_Name (wpAny_loadName_local hk1 hk3 nl hm ?_) rfl)
  refine wpAny_bind (wpAny_holding (wpAny_Constant_int (wpAny_bind (wpAny_standAt ?_))))
  have hh : Shared.TypeIs { s with toks := s.toks + 1 } (.ref b) "tuple" := ht.typeIs
  refine wpAny_bind ?_
  rw [getitemInPython_of_ne hh.not_modules]
  refine wpAny_bind (wpAny_specialOf hh slot_tuple_getitem.lookup ?_)
  refine wpAny_pure ?_
  refine wpAny_bind (wpAny_operating ?_)
  have : sizeLine < 2 ^ 62 := by decide
  have hp : 0 < vs.size := (Array.getElem?_eq_some_iff.mp h0).1
  have e0 : seqIndex? 0 vs.size = some 0 := by
    unfold seqIndex?
    simp only [show ¬ ((0 : Int) < 0) from by decide, if_false]
    rw [if_pos (by rw [Bool.and_eq_true, decide_eq_true_iff, decide_eq_true_iff]; constructor <;> omega)]; rfl
  refine getItem_tuple (k := 0) (j := 0) ht (by omega) (by omega) e0 h0 ?_
  refine wpAny_bind (wpAny_letTemporaryGo (wpAny_pure ?_))
  refine Calls.spliced_nil ?_
  exact PySem.P.str_of_int hi ⟨⟨_, rfl⟩, _, _, rfl, fun _ _ e => e⟩
end Mine
end

section
open PySem PySem.W PyProof.Rows
set_option autoImplicit false
set_option maxRecDepth 100000
set_option maxHeartbeats 4000000
namespace Mine
noncomputable def IsTabO (o : Obj) : Prop := ∃ ps, o = { cls := .none, data := .fields ps } ∧ TriplesOk ps.toList
theorem genexprCodeT {M : Model} {A : Around} {E : Value → Shared → Prop} {s : Shared} {env : Env} {c P : Addr} {ps : Array Value} {pos : Pos} {qualname : Str} {scope : Scope} {Q : Value → Shared → Prop} (hc : env.code = .ref c) (hok : s.heap.IsCode c P ps) (htab : s.heap.TableAt c P ps)
    (hQ : ∀ code h' tk ps', Heap.ExtBut P s.heap h' → h'.IsCode c P ps' → h'.TableAt c P ps' → Q code { s with heap := h', toks := tk }) :
    wpAny M A (genexprCode env pos qualname scope) Q E s := by
  cases hnf : codeAmong pos ps.toList with
  | some cv => exact wpAny_genexprCode_hit hc hok hnf (hQ cv s.heap s.toks ps (Heap.ExtBut.refl _ _) hok htab)
  | none => exact wpAny_genexprCodeX hc hok htab hnf fun _ _ _ h1 _ _ h2 _ h3 _ => hQ _ _ _ _ h1 h2 h3
structure GenOk (C : Cx) : Prop where
  tab : C.tab = 152
  gok : ∀ gs o, C.gok gs o ↔ (∀ y ∈ gs, y.bare = true) ∧ IsTabO o
  bm : ∃ bm ob, C.mg "__builtins__" = some (.ref bm) ∧ bm ≠ builtinsNs ∧ C.s0.heap.get? bm = some ob ∧ ob.cls = .type "module" ∧ ob.dict = some builtinsNs ∧ ob.data = .plain
noncomputable def Cx.note (C : Cx) (g : Array GenState → Obj → Prop) : Cx := { C with gok := g }
variable {C : Cx} {Z : Fz} {own : List Res} {s : Shared}
theorem Inv.note (I : Inv C Z own s) {g : Array GenState → Obj → Prop} (h : ∀ o, C.gok s.gens o → g s.gens o) : Inv (C.note g) Z own s :=
  ⟨I.shape, ⟨let ⟨o, e, k⟩ := I.bare.at_; ⟨o, e, h o k⟩, I.bare.z, I.bare.off⟩, I.base, I.zle, I.ok, I.off, I.nd⟩
theorem Inv.noted (I : Inv C Z own s) {h' : Heap} {tk : Nat} {gs : Array GenState} (x : Heap.ExtBut C.tab s.heap h') {o : Obj} (ho : h'.get? C.tab = some o) (hg : C.gok gs o) : Inv C Z own { s with heap := h', toks := tk, gens := gs } :=
  ⟨let ⟨_, _, _, e⟩ := I.shape; ⟨h', tk, gs, by rw [e]⟩, ⟨⟨o, ho, hg⟩, I.bare.z, I.bare.off⟩, I.base, fun a o e => x a o (fun q => by have := I.bare.z; rw [← q, e] at this; cases this) (I.zle a o e), fun r hr => Res.at (I.ok r hr) fun o e => x _ o (fun q => I.bare.ne hr q.symm) e, I.off, I.nd⟩
theorem GenAt.at' {prog : Program} {w : World} {A : Around} {a : Addr} {g : Nat} {D : Addr} {fp wr : List Addr} {pz : Nat → Bool} {n₀ : Nat} {F : Nat → Value → Prop} {j : Nat} {s s' : Shared} (st : GenAt prog w A a g D fp wr pz n₀ F j s) (hgs : s'.gens = s.gens) (hcs : cStatics ∈ fp) (hk : ∀ b ∈ a :: D :: fp, ∀ o, s.heap.get? b = some o → s'.heap.get? b = some o) :
    GenAt prog w A a g D fp wr pz n₀ F j s' :=
  ⟨let ⟨o, nm, qn, ho, r⟩ := st.1; ⟨o, nm, qn, hk a (List.mem_cons_self ..) o ho, r⟩,
   (let ⟨mc, hns, hnn⟩ := st.2.1; ⟨mc, hns.at' fun o e => hk cStatics (List.mem_cons_of_mem _ (List.mem_cons_of_mem _ hcs)) o e, hnn⟩),
   let ⟨gs, hg, hgo⟩ := st.2.2; ⟨gs, by rw [hgs]; exact hg, fun s'' hal => hgo s'' fun b hb o e => hal b hb o (hk b (List.mem_cons_of_mem _ hb) o e)⟩⟩
theorem Inv.moved {g : Array GenState → Obj → Prop} {X : List Res} {wr : List Addr} {gi : Nat} {s' : Shared} (I : Inv (C.note g) Z (X ++ own) s) (M : Moved wr (GenOnlyQ gi) s s') (hwr : ∀ b ∈ wr, b ∈ X.map Res.addr) (hg : ∀ o, g s.gens o → (∀ y ∈ s.gens, y.bare = true) ∧ IsTabO o) (hG : GenOk C) : Inv C Z own s' := by
  have nd := I.nd
  rw [List.map_append, List.nodup_append] at nd
  have hX : ∀ b ∈ wr, Z b = none := fun b hb => by
    obtain ⟨r, hr, e⟩ := List.mem_map.mp (hwr b hb)
    rw [← e]; exact I.off r (List.mem_append_left _ hr)
  refine ⟨?_, ⟨?_, I.bare.z, fun h => I.bare.off (by rw [List.map_append]; exact List.mem_append_right _ h)⟩, I.base, fun a o e => M.heap a o (fun h => by rw [hX a h] at e; cases e) (I.zle a o e), fun r hr => Res.at (I.ok r (List.mem_append_right _ hr)) fun o e => M.heap _ o (fun h => nd.2.2 _ (hwr _ h) _ (List.mem_map.mpr ⟨r, hr, rfl⟩) rfl) e, fun r hr => I.off r (List.mem_append_right _ hr), nd.2.1⟩
  · obtain ⟨h, tk, gs, e⟩ := I.shape
    refine ⟨s'.heap, s'.toks, s'.gens, ?_⟩
    have h1 := M.drawn
    have h2 := M.os
    rw [e] at h1 h2
    cases s'
    simp only [Cx.note] at h1 h2 ⊢
    subst h1; subst h2; rfl
  · obtain ⟨o, e, k⟩ := I.bare.at_
    obtain ⟨k1, k2⟩ := hg o k
    refine ⟨o, M.heap _ o (fun h => I.bare.off ?_) e, (hG.gok _ _).mpr ⟨M.gens.bare k1, k2⟩⟩
    rw [List.map_append]; exact List.mem_append_left _ (hwr _ h)
theorem raw_step {n : Nat} {sc : Scope} {G G' : Gam} {st : Stmt} {ss : List Stmt} {A : Around} {mine R : List Res} {env : Env} {Q : Flow → Shared → Prop} {E : Value → Shared → Prop} (h : ExS C n sc G st { next := fun X => X = G' }) (hA : Room n A) (hE : EnvIs sc env) (I : Inv C Z (mine ++ R) s) (S : StOk (IsCellOf sc) env mine) (g : EnvOk G env Z (mine ++ R) mine)
    (k : ∀ Z' m' s', Z.le Z' → Inv C Z' (m' ++ R) s' → StOk (IsCellOf sc) env m' → EnvOk G' env Z' (m' ++ R) m' → wpAny C.M A (execs ss env) Q E s') : wpAny C.M A (execs (st :: ss) env) Q E s := by
  refine wpAny_execs_cons (wpAny_mono (h A Z mine R env s E hA hE I S g) (fun fl s' h' => ?_) fun _ _ e => e)
  obtain ⟨Z', m, a, b, c, d⟩ := h'
  cases fl with
  | next => obtain ⟨_, rfl, e2⟩ := d; exact k Z' m s' a b c e2
  | ret v => obtain ⟨_, e, _⟩ := d; exact e.elim
  | brk => obtain ⟨_, e, _⟩ := d; exact e.elim
  | cont => obtain ⟨_, e, _⟩ := d; exact e.elim
noncomputable def wordsOf (w : List (Int × Int × Int)) : Str := ((if (w.length : Int) > 1 then Str.ofString "at tab size" ++ Str.ofString "s" else Str.ofString "at tab size") ++ Str.ofString " ") ++ Txt.join (Str.ofString ", ") (w.map fun t => Str.ofString (toString t.1))
theorem g_str (h : C.Ok) : (C.mg (Str.ofString "str")).or (C.mb (Str.ofString "str")) = some (.type "str") := h.mb rfl (by decide +kernel) (by decide +kernel)
theorem words_ok (hC : C.Ok) (hG : GenOk C) (w : List (Int × Int × Int)) (hw : w.length ≤ 100) (hi : ∀ t ∈ w, t.1.natAbs.log2 < 1920) (hj : JoinOk (Str.ofString ", ") (w.map fun t => Str.ofString (toString t.1)) = true) (hsz : ∀ pre : Str, pre.length ≤ 20 → (pre ++ Str.ofString " ").length + (Txt.join (Str.ofString ", ") (w.map fun t => Str.ofString (toString t.1))).length ≤ sizeLine) : Fn C 2 (.ref 157) [.list (w.map row3)] (.str (wordsOf w)) := fun A Z own s vs E hA I hv => by
  refine wpAny_call (code_body (xs := [Str.ofString "w"]) (ps := [.list (w.map row3)]) (n := 1) (hC.at rfl) rfl (hC.code rfl) rfl (fun vs h => match vs, h with | [a], _ => rfl) rfl rfl rfl rfl (by decide) rfl (by decide) hA I hv (fun env s₁ mine hA' hE I1 S g hcode => ?_))
  obtain ⟨o156, ho156⟩ : ∃ o, (KK C.w.params).lookup 156 = some o := ⟨_, rfl⟩
  have g1 : EnvOk ([(Str.ofString "w", Ent.val (.list (w.map row3)))] : Gam) env Z (mine ++ own) mine := g.up .rfl (fun _ h => List.mem_append_left _ h) fun _ h => h
  refine wpAny_execs_cons (wpAny_Assign_Name ?_ rfl)
  refine wpAny_GeneratorExp_make rfl rfl (by decide) rfl rfl hA'.depth ?_ (fun _ => rfl)
  refine (Ev.name (P := .list (w.map row3)) (n := 1) rfl).bind hA' hE I1 g1.ev fun v Z2 s2 z2 I2 hv2 => ?_
  obtain ⟨la, lo, rfl, hla, ⟨vs', k', hlo, hvs'⟩, hnm⟩ := hv2
  have hl : s2.heap.IsList la vs' := ⟨lo, I2.zle _ _ hla, by rw [hlo], k', by rw [hlo]⟩
  have hlt : la < s2.heap.objs.size := Heap.lt_size (I2.zle _ _ hla)
  have hne : la ≠ s2.heap.objs.size := Nat.ne_of_lt hlt
  refine wpAny_pyIter_list hl ?_
  have I3 := I2.pushIt (tk := s2.toks) { cls := .type "list_iterator", data := .fields #[.ref la, .int 0 0] } rfl
  refine ⟨I3.nolimit, ?_⟩
  obtain ⟨op, hop, hg0⟩ := I3.bare.at_
  rw [hG.tab] at hop
  obtain ⟨hb0, ps, rfl, htr⟩ := (hG.gok _ _).mp hg0
  have hok : Heap.IsCode (s2.heap.push { cls := .type "list_iterator", data := .fields #[.ref la, .int 0 0] }) 156 152 ps := ⟨_, _, _, _, _, _, _, _, _, _, I3.kin 156 _ (hC.at (a := 156) rfl), rfl, rfl, rfl, rfl, rfl, rfl, hop, rfl, htr, by decide⟩
  have htb : Heap.TableAt (s2.heap.push { cls := .type "list_iterator", data := .fields #[.ref la, .int 0 0] }) 156 152 ps := ⟨⟨_, _, I3.kin 156 _ (hC.at (a := 156) rfl), rfl, rfl, rfl⟩, hop⟩
  refine genexprCodeT (c := 156) (P := 152) hcode hok htb fun code h4 tk4 ps4 hx4 hok4 htb4 => ?_
  obtain ⟨_, _, _, _, _, _, _, _, _, op4, _, _, _, _, _, _, _, hop4, hps4, htr4, _⟩ := id hok4
  obtain rfl : op4 = _ := Option.some.inj (hop4.symm.trans htb4.2)
  have I4 := I3.noted (h' := h4) (tk := tk4) (gs := s2.gens) (by rw [hG.tab]; exact hx4) (by rw [hG.tab]; exact hop4) ((hG.gok _ _).mpr ⟨hb0, ps4, rfl, htr4⟩)
  obtain ⟨bm, ob, hbm1, hbm2, hbm3, hbm4, hbm5, hbm6⟩ := hG.bm
  refine wpAny_builtinsFor (m := C.mg) (by rw [hE.g]; exact I4.g) hbm1 hbm2 (I4.keep0 _ _ hbm3) hbm4 hbm5 hbm6 ?_
  intro h5 hn5 hs5
  have hIt4 : s2.heap.objs.size < h4.objs.size := Heap.lt_size (I4.ok (.it _ _) (.head _))
  have keep5 : ∀ b o, h4.get? b = some o → h5.get? b = some o := fun b o e => hs5.extBut b o (Nat.ne_of_lt (Heap.lt_size e)) (Heap.get?_push_of_some _ e)
  have hsz5 : h5.objs.size = h4.objs.size + 1 := by rw [hs5.1, Heap.size_push]
  obtain ⟨fo, _, _, hfo, _⟩ := id hn5
  have I5 := I4.addMany (tk := tk4) (news := [.it h4.objs.size fo]) keep5 (fun r hr => by rw [List.mem_singleton.mp hr]; exact Nat.le_refl _) (fun r hr => by rw [List.mem_singleton.mp hr]; exact hfo) (by simp)
  generalize hgo : ({ cls := .type "generator", data := .fields #[.int s2.gens.size 0, .str "<genexpr>" (tk4 + 1), .str (env.qual ++ "<genexpr>") (tk4 + 1 + 1)] } : Obj) = go
  have hgf : go.isFreed = false := by rw [← hgo]; rfl
  have I6 := (I5.push (tk := tk4 + 1 + 1 + 1) go hgf).note (g := fun _ o => IsTabO o) (fun o h => ((hG.gok _ _).mp h).2)
  obtain ⟨ot, hot, htt⟩ := I6.bare.at_
  generalize hG0 : s2.gens.push _ = G0
  have I8 : Inv (C.note fun gs o => gs = G0 ∧ IsTabO o) (Z2.put h5.objs.size go) _ _ := (I6.noted (h' := h5.push go) (tk := tk4 + 1 + 1 + 1) (gs := G0) (fun _ _ _ e => e) hot htt).note (g := fun gs o => gs = G0 ∧ IsTabO o) (fun o h => ⟨rfl, h⟩)
  have hbare0 : ∀ y ∈ G0, y.bare = true := by
    rw [← hG0]; intro y hy
    rcases Array.mem_push.mp hy with q | q
    · exact hb0 y q
    · subst q; rfl
  have key : ∀ gx, s2.gens.push gx = G0 → G0[s2.gens.size]? = some gx := fun gx e => by rw [← e]; exact Array.getElem?_push_size
  have zp : Z2.le (Z2.put h5.objs.size go) := Fz.le_put (I5.znone (Nat.le_refl _))
  have hlio := I8.ok (.it s2.heap.objs.size _) (.tail _ (.head _))
  have hfro := I8.ok (.it h4.objs.size fo) (.head _)
  generalize hfp : s2.heap.objs.size :: (List.range h4.objs.size).filter (fun b => (Z2 b).isSome) = fp
  have hin : ∀ b o, Z2 b = some o → b ∈ fp := fun b o e => by
    rw [← hfp]; exact .tail _ (List.mem_filter.mpr ⟨List.mem_range.mpr (Heap.lt_size (I4.zle b o e)), by rw [e]; rfl⟩)
  have hout : ∀ b ∈ fp, b = s2.heap.objs.size ∨ ∃ o, Z2 b = some o := fun b hb => by
    rw [← hfp] at hb
    rcases List.mem_cons.mp hb with q | q
    · exact .inl q
    · exact .inr (Option.isSome_iff_exists.mp (List.mem_filter.mp q).2)
  have hlt4 : ∀ b ∈ fp, b < h4.objs.size := fun b hb => by
    rcases hout b hb with rfl | ⟨o, e⟩
    · exact hIt4
    · exact Heap.lt_size (I4.zle b o e)
  have hIt : s2.heap.objs.size ∈ fp := by rw [← hfp]; exact .head _
  have hzIt : Z2 s2.heap.objs.size = none := I2.znone (Nat.le_refl _)
  have hF : h4.objs.size ∉ fp := fun h => Nat.lt_irrefl _ (hlt4 _ h)
  have W0 : ∀ A', A'.handled = none → Walks C.prog C.w A' s2.heap.objs.size fp [s2.heap.objs.size] vs'.size (fun i v => vs'[i]? = some v) (fun i h => h.IsListIter s2.heap.objs.size la i ∧ h.IsList la vs') := fun A' hh => (Walks.list hh _ la hne vs').mono_fp (fun b hb => by
    rcases List.mem_cons.mp hb with rfl | q
    · exact hIt
    · rw [List.mem_singleton.mp q]; exact hin _ _ hla)
  have hZ8 : ∀ b o, Z2 b = some o → (h5.push go).get? b = some o := fun b o e => I8.zle b o (zp b o e)
  have GA : ∀ B : Around, B.handled = none → GenAt C.prog C.w B h5.objs.size s2.gens.size h4.objs.size fp [s2.heap.objs.size] (fun _ => true) vs'.size (fun i y => ∃ t, y = .str (Str.ofString (toString (w.getD i default).1)) t) 0 ({ s2 with heap := h5.push go, toks := tk4 + 1 + 1 + 1, gens := G0 } : Shared) := fun B hB => by
    refine GenAt.freshD hB W0 (fun _ => true) _ rfl rfl rfl hF ⟨fun A' E' i v s₃ m₃ _ _ _ _ _ _ _ => wpAny_pure ⟨rfl, s₃.heap, s₃.toks, rfl, fun _ _ e => e⟩, fun A' E' i v s₃ m₃ h1 _ _ hP _ hn3 hm3 hkp => ?_⟩ ⟨go, _, _, Heap.get?_push_size _ hgf, by rw [← hgo], by rw [← hgo], by rw [← hgo]⟩ (key _ hG0) ⟨⟨_, hlio, rfl, rfl⟩, ⟨lo, hZ8 _ _ hla, by rw [hlo], k', by rw [hlo]⟩⟩ (hn5.push _) I8.nolimit
    have hkz : ∀ b o, Z2 b = some o → s₃.heap.get? b = some o := fun b o e => hkp b (hin b o e) (fun q => by rw [List.mem_singleton.mp q, hzIt] at e; cases e) o (hZ8 b o e)
    have hlen := Oks.sz hvs'
    rw [List.length_map] at hlen
    have hi3 : i < w.length := by have := (Array.getElem?_eq_some_iff.mp hP).1; omega
    obtain ⟨b, ob', rfl, hb', ⟨us, k2, hc2, hd2, hus⟩, _⟩ := Oks.toget hvs' hP (p := row3 w[i]) (by rw [List.getElem?_map, List.getElem?_eq_getElem hi3]; rfl)
    have husz := Oks.sz hus
    obtain ⟨u0, hu0, t0, rfl⟩ := All2.get hus (i := 0) (a := .int w[i].1) rfl
    have hgd : w.getD i default = w[i] := by rw [List.getD_eq_getElem?_getD, List.getElem?_eq_getElem hi3]; rfl
    rw [hgd]
    exact gen_elt (C := C) rfl rfl rfl hE.g rfl (C.g.at' fun o e => hkz _ _ (I2.base _ _ e)) (C.b.at' fun o e => hkz _ _ (I2.base _ _ e)) (g_str hC) hn3 hm3 ⟨ob', hkz _ _ hb', hc2, k2, hd2⟩ (by simpa using hu0) (by rw [← husz]; show 3 < 100; decide) (hi _ (List.getElem_mem _))
  have GA0 := GA (A.deeper env).in1.in1 hA'.hh
  have I9 := I8.perm (own' := mine ++ ([.it h4.objs.size fo, .it s2.heap.objs.size { cls := .type "list_iterator", data := .fields #[.ref la, .int 0 0] }] ++ own)) (List.perm_append_comm_assoc _ _ _)
  generalize hR : ([.it h4.objs.size fo, .it s2.heap.objs.size { cls := .type "list_iterator", data := .fields #[.ref la, .int 0 0] }] ++ own : List Res) = R at I9
  have g9 : EnvOk ([(Str.ofString "w", Ent.val (.list (w.map row3)))] : Gam) env (Z2.put h5.objs.size go) (mine ++ R) mine := g.up (z2.trans zp) (fun r hr => List.mem_append_left _ hr) (fun _ h => h)
  refine st_store true (C := C.note fun gs o => gs = G0 ∧ IsTabO o) (e := .val (.is (.ref h5.objs.size))) hE I9 S g9 (stable rfl) rfl fun m10 s10 I10 S10 g10 _ => ?_
  have hC' : (C.note fun gs o => gs = G0 ∧ IsTabO o).Ok := hC
  refine raw_step (C := C.note fun gs o => gs = G0 ∧ IsTabO o) (n := 1) (ExS.asg Ev.cstr rfl) hA' hE I10 S10 g10 fun Z11 m11 s11 z11 I11 S11 g11 => ?_
  have hlw : (w.map row3).length ≤ sizeLine := by rw [List.length_map]; exact Nat.le_trans hw (by decide)
  generalize hpre : (if (w.length : Int) > 1 then Str.ofString "at tab size" ++ Str.ofString "s" else Str.ofString "at tab size") = pre
  refine raw_step (C := C.note fun gs o => gs = G0 ∧ IsTabO o) (n := 1) (G' := [(Str.ofString "prefix", .val (.str pre)), (Str.ofString "firsts", .val (.is (.ref h5.objs.size)))]) (ExS.ite (Tst.cmp (Ev.callB (Ev.glob (g_len hC')) (.cons (Ev.name rfl) .nil) (fun _ _ => rfl) (Fn.lenList hlw)) Ev.cint Op2.gtInt) (fun h => ?_) fun h => ?_) hA' hE I11 S11 g11 fun Z12 m12 s12 z12 I12 S12 g12 => ?_
  · refine Ex.cons1 (ExS.asg (Ev.binop (Ev.name rfl) Ev.cstr (Op2.addStr (by decide))) rfl) (Ex.nil rfl (gsub_cons ?_ (gsub_cons rfl gsub_nil)))
    rw [← hpre, if_pos (by simpa using h)]; rfl
  · refine Ex.nil rfl (gsub_cons ?_ (gsub_cons rfl gsub_nil))
    rw [← hpre, if_neg (by simpa using h)]; rfl
  have hword : wordsOf w = (pre ++ Str.ofString " ") ++ Txt.join (Str.ofString ", ") (w.map fun t => Str.ofString (toString t.1)) := by unfold wordsOf; rw [hpre]
  have hpl : pre.length ≤ 20 := by rw [← hpre]; split <;> decide
  have hadd : Op2 C 1 (.str (pre ++ Str.ofString " ")) (.str (Txt.join (Str.ofString ", ") (w.map fun t => Str.ofString (toString t.1)))) (binaryOp .Add) (.str (wordsOf w)) := by rw [hword]; exact Op2.addStr (hsz pre hpl)
  subst hR
  have hlw2 : w.length ≤ sizeLine := by rw [List.length_map] at hlw; exact hlw
  refine wpAny_execs_cons (wpAny_Return_some (wpAny_BinOp ?_))
  refine (Ev.binop (C := C.note fun gs o => gs = G0 ∧ IsTabO o) (n := 1) (Ev.name (P := .str pre) rfl) (Ev.cstr (i := Str.ofString " ")) (Op2.addStr (Nat.le_trans (Nat.add_le_add_right hpl _) (by decide)))).bind hA' hE I12 g12.ev fun vl Z13 s13 z13 I13 hl13 => ?_
  refine wpAny_Call_method_lateS rfl rfl rfl ?_
  refine (Ev.cstr (C := C.note fun gs o => gs = G0 ∧ IsTabO o) (n := 1) (i := Str.ofString ", ")).bind hA' hE I13 (g12.z z13).ev fun vc Z14 s14 z14 I14 ⟨tc, hvc⟩ => ?_
  subst hvc
  refine ⟨"str", "str.join", F.plainAttrs_str, F.slot_str_join, F.type_str_join, typeIs_str _ _ _, (fun a e => by cases e), ?_⟩
  refine Calls.callWith_builtin rfl (evalArgs_of (fun _ _ => rfl) ?_)
  refine wpAny_mono (EvA.cons (C := C.note fun gs o => gs = G0 ∧ IsTabO o) (n := 1) (Ev.name (P := .is (.ref h5.objs.size)) rfl) EvA.nil (fun _ => rfl) _ Z14 _ env s14 _ hA' hE I14 ((g12.z z13).z z14).ev) (fun vs15 s15 ⟨Z15, z15, I15, hv15⟩ => ?_) fun _ _ e => e
  cases hv15 with
  | cons p q =>
  cases q
  cases (show _ = _ from p)
  have zz : (Z2.put h5.objs.size go).le Z15 := (((z11.trans z12).trans z13).trans z14).trans z15
  have hcs : cStatics ∈ fp := by
    obtain ⟨mc, ⟨o, _, _, ho, _⟩, _⟩ := C.nolimit
    exact hin _ _ (I2.base _ _ ho)
  obtain ⟨ost, hst0⟩ : ∃ o, Z2 cStatics = some o := by
    obtain ⟨mc, ⟨o, _, _, ho, _⟩, _⟩ := C.nolimit
    exact ⟨o, I2.base _ _ ho⟩
  have hFr15 : s15.heap.get? h4.objs.size = some fo := I15.ok (.it h4.objs.size fo) (List.mem_append_right _ (.head _))
  have hIt15 := I15.ok (.it s2.heap.objs.size { cls := .type "list_iterator", data := .fields #[.ref la, .int 0 0] }) (List.mem_append_right _ (.tail _ (.head _)))
  have hgo15 : s15.heap.get? h5.objs.size = some go := I15.zle _ _ (zz _ _ Fz.put_self)
  have hall : ∀ b ∈ h5.objs.size :: h4.objs.size :: fp, ∀ o, (h5.push go).get? b = some o → s15.heap.get? b = some o := fun b hb o e => by
    rcases List.mem_cons.mp hb with rfl | hb
    · rw [Heap.get?_push_size _ hgf] at e; cases e; exact hgo15
    rcases List.mem_cons.mp hb with rfl | hb
    · rw [show (h5.push go).get? h4.objs.size = some fo from hfro] at e; cases e; exact hFr15
    · rcases hout b hb with rfl | ⟨o', e'⟩
      · rw [show (h5.push go).get? s2.heap.objs.size = _ from hlio] at e; cases e; exact hIt15
      · rw [hZ8 b o' e'] at e; cases e; exact I15.zle _ _ (zz _ _ (zp _ _ e'))
  obtain ⟨o15, _, hg15, _⟩ := I15.bare.at_
  have GA15 := Mine.GenAt.at' (s' := s15) GA0 hg15 hcs hall
  have hpass : passing (fun _ => true) vs'.size 0 = List.range vs'.size := by unfold passing; rw [List.drop_zero]; exact List.filter_eq_self.mpr fun _ _ => rfl
  have hlen : w.length = vs'.size := by have := Oks.sz hvs'; rw [List.length_map] at this; exact this
  have n1 : h5.objs.size ≠ h4.objs.size := by rw [hsz5]; exact Nat.succ_ne_self _
  have n2 : h5.objs.size ∉ fp := fun h => by have := hlt4 _ h; omega
  have n3 : cStatics ≠ h4.objs.size := fun e => hF (e ▸ hcs)
  have n4 : cStatics ∉ [s2.heap.objs.size] := fun h => by rw [List.mem_singleton.mp h, hzIt] at hst0; cases hst0
  have WS : WalksS C.prog C.w (A.deeper env).in1.in1 h5.objs.size (h5.objs.size :: h4.objs.size :: fp) [h4.objs.size, s2.heap.objs.size] (GenOnlyQ s2.gens.size) (passing (fun _ => true) vs'.size 0).length
      (fun j y => ∃ i, (passing (fun _ => true) vs'.size 0)[j]? = some i ∧ ∃ t, y = .str (Str.ofString (toString (w.getD i default).1)) t) (GenAt C.prog C.w (A.deeper env).in1.in1 h5.objs.size s2.gens.size h4.objs.size fp [s2.heap.objs.size] (fun _ => true) vs'.size (fun i y => ∃ t, y = .str (Str.ofString (toString (w.getD i default).1)) t)) :=
    WalksS.genexpQ (A := (A.deeper env).in1.in1) hA'.hh h5.objs.size s2.gens.size h4.objs.size fp [s2.heap.objs.size] (fun _ => true) vs'.size _ n1 n2 (fun b hb => by rw [List.mem_singleton.mp hb]; exact hIt) hA'.depth hcs n3 n4
  refine SC.joinGen WS (fun i s st => st.1.typeIs) GA15 (fun b hb => ?_) (.head _) (fun i v hP => by obtain ⟨_, _, t, e⟩ := hP; exact ⟨_, t, e⟩) (fun s16 l M hit => ?_) (by rw [hpass, List.length_range]; omega)
  · rcases List.mem_cons.mp hb with rfl | hb
    · exact Heap.lt_size hgo15
    rcases List.mem_cons.mp hb with rfl | hb
    · exact Heap.lt_size hFr15
    · rcases hout b hb with rfl | ⟨o', e'⟩
      · exact Heap.lt_size hIt15
      · exact Heap.lt_size (I15.zle _ _ (zz _ _ (zp _ _ e')))
  have hl16 : l.map (·.1) = w.map fun t => Str.ofString (toString t.1) := by
    obtain ⟨h1, h2⟩ := hit
    have e1 : l.length = w.length := by
      rw [hpass, List.length_range, List.size_toArray, strValues, List.length_map] at h1; omega
    refine List.ext_getElem (by rw [List.length_map, List.length_map]; exact e1) fun j hj1 hj2 => ?_
    rw [List.getElem_map, List.getElem_map]
    rw [List.length_map] at hj1 hj2
    obtain ⟨i, q1, t, q2⟩ := h2 j (.str l[j].1 l[j].2) (by rw [List.getElem?_toArray, strValues, List.getElem?_map, List.getElem?_eq_getElem hj1]; rfl)
    rw [hpass, List.getElem?_range (by omega)] at q1
    cases q1
    injection q2 with q2
    rw [q2, List.getD_eq_getElem?_getD, List.getElem?_eq_getElem hj2]; rfl
  rw [hl16]
  refine ⟨hj, fun t' tk' => ?_⟩
  have I15' : Inv (C.note fun gs o => gs = G0 ∧ IsTabO o) Z15 ((m12 ++ [.it h4.objs.size fo, .it s2.heap.objs.size { cls := .type "list_iterator", data := .fields #[.ref la, .int 0 0] }]) ++ own) s15 := by rw [List.append_assoc]; exact I15
  have J := I15'.moved M (fun b hb => by
    rw [List.map_append]
    refine List.mem_append_right _ ?_
    rcases List.mem_cons.mp hb with rfl | hb
    · exact .head _
    · rw [List.mem_singleton.mp hb]; exact .tail _ (.head _)) (fun o h => ⟨by rw [h.1]; exact hbare0, h.2⟩) hG
  have fin := fun E' => hadd _ Z15 own _ vl (.str (Txt.join (Str.ofString ", ") (w.map fun t => Str.ofString (toString t.1))) t') E' hA' (J.tok tk') ((VP.str _).mono (z14.trans z15) hl13) ⟨t', rfl⟩
  exact wpAny_mono (fin _) (fun v s17 h => h.more ((z2.trans zp).trans zz)) fun _ _ e => e
end Mine
end

section
open PySem PySem.W PyProof.Rows
set_option autoImplicit false
set_option maxRecDepth 100000
namespace Mine
noncomputable def dig (k : Int) : Str := ⟨#[(Str.ofString "1234").cps.getD (k - 1).toNat 0]⟩
noncomputable def fs (p : Int → Bool) (m : Int) : List Int := ((upto 0 m).filter p).map (· + 1)
noncomputable def pick4 (a b c d : Bool) (k : Int) : Bool := if k = 0 then a else if k = 1 then b else if k = 2 then c else d
theorem fs_pick (p : Int → Bool) (m : Int) (h : m ≤ 4) : fs p m = fs (pick4 (p 0) (p 1) (p 2) (p 3)) m := by
  unfold fs
  congr 1
  refine List.filter_congr fun k hk => ?_
  have := mem_upto hk
  rcases (by omega : k = 0 ∨ k = 1 ∨ k = 2 ∨ k = 3) with rfl | rfl | rfl | rfl <;> rfl
noncomputable def wordsF (F : List Int) : Str := ((if (F.length : Int) > 1 then Str.ofString "at tab size" ++ Str.ofString "s" else Str.ofString "at tab size") ++ Str.ofString " ") ++ Txt.join (Str.ofString ", ") (F.map fun k => Str.ofString (toString k))
noncomputable def freeF (F : List Int) (m : Int) : List Str := (signs (sliceS (Str.ofString "1234") none (some m))).filter fun c => !(!(Builtin.Str.occurrences (wordsF F) c 0 (wordsF F).length 1).isEmpty)
structure SizesOk (F : List Int) (m : Int) : Prop where
  join : JoinOk (Str.ofString ", ") (F.map fun k => Str.ofString (toString k)) = true
  len : (Txt.join (Str.ofString ", ") (F.map fun k => Str.ofString (toString k))).length ≤ 50
  dig : (F.map fun k => Str.ofString (toString k)) = F.map dig
  words : wordsF F = (if (F.length : Int) > 1 then Str.ofString "at tab sizes " else Str.ofString "at tab size ") ++ Txt.join (Str.ofString ", ") (F.map Mine.dig)
  free : ((freeF F m).length : Int) = m - F.length
  short : (sliceS (Str.ofString "1234") none (some m)).length ≤ 4
noncomputable def sizesB (F : List Int) (m : Int) : Bool :=
  JoinOk (Str.ofString ", ") (F.map fun k => Str.ofString (toString k)) && decide ((Txt.join (Str.ofString ", ") (F.map fun k => Str.ofString (toString k))).length ≤ 50) && decide ((F.map fun k => Str.ofString (toString k)) = F.map dig) &&
  decide (wordsF F = (if (F.length : Int) > 1 then Str.ofString "at tab sizes " else Str.ofString "at tab size ") ++ Txt.join (Str.ofString ", ") (F.map Mine.dig)) && decide (((freeF F m).length : Int) = m - F.length) && decide ((sliceS (Str.ofString "1234") none (some m)).length ≤ 4)
theorem sizes_all : ∀ a b c d : Bool, ∀ m : Fin 5, sizesB (fs (pick4 a b c d) ((m : Nat) : Int)) ((m : Nat) : Int) = true := by decide +kernel
theorem sizes_ok (p : Int → Bool) (m : Int) (h0 : 0 ≤ m) (h : m ≤ 4) : SizesOk (fs p m) m := by
  have := sizes_all (p 0) (p 1) (p 2) (p 3) ⟨m.toNat, by omega⟩
  rw [show (((⟨m.toNat, by omega⟩ : Fin 5) : Nat) : Int) = m from by show ((m.toNat : Nat) : Int) = m; omega, ← fs_pick p m h] at this
  unfold sizesB at this
  simp only [Bool.and_eq_true, decide_eq_true_eq] at this
  obtain ⟨⟨⟨⟨⟨h1, h2⟩, h3⟩, h4⟩, h5⟩, h6⟩ := this
  exact ⟨h1, h2, h3, h4, h5, h6⟩
theorem unlike_fst (v w : List Int × Int) : (unlike v w).map (·.1) = fs (fun k => v.1.getD k.toNat 0 != w.1.getD k.toNat 0) (max v.2 w.2) := by
  unfold unlike fs; rw [List.map_map]; rfl
theorem wordsOf_eq (l : List (Int × Int × Int)) : wordsOf l = wordsF (l.map (·.1)) := by
  unfold wordsOf wordsF; rw [List.length_map, List.map_map]; rfl
theorem unlike_small {v w : List Int × Int} (hm : max v.2 w.2 ≤ 4) {t : Int × Int × Int} (h : t ∈ unlike v w) : 1 ≤ t.1 ∧ t.1 ≤ 4 := by
  unfold unlike at h
  obtain ⟨k, hk, rfl⟩ := List.mem_map.mp h
  have := mem_upto (List.mem_filter.mp hk).1
  exact ⟨by show 1 ≤ k + 1; omega, by show k + 1 ≤ 4; omega⟩
theorem dig_at {k : Int} (h0 : 1 ≤ k) (h1 : k ≤ 4) : (seqIndex? (k - 1) (Str.ofString "1234").length).bind ((Str.ofString "1234").cps[·]?) = some ((Str.ofString "1234").cps.getD (k - 1).toNat 0) := by
  rcases (by omega : k = 1 ∨ k = 2 ∨ k = 3 ∨ k = 4) with rfl | rfl | rfl | rfl <;> decide +kernel
noncomputable def tieOf (v w : List Int × Int) : Int := max v.2 w.2 - ((unlike v w).length : Int)
theorem dget_mapIf {β : Type} (k : Str) (v : β) (x : Str) : ∀ l : List (Str × β), dget (l.map fun kv => if kv.1 = k then (kv.1, v) else kv) x = if x = k then (dget l x).map (fun _ => v) else dget l x
  | [] => by unfold dget; split <;> rfl
  | p :: l => by
    have ih := dget_mapIf k v x l
    unfold dget at ih ⊢
    rw [List.map_cons, List.find?_cons, List.find?_cons]
    by_cases hp : p.1 = k
    · rw [if_pos hp]
      by_cases hx : p.1 = x
      · have hxk : x = k := hx.symm.trans hp
        rw [decide_eq_true hx, if_pos hxk]; rfl
      · rw [decide_eq_false hx]; exact ih
    · rw [if_neg hp]
      by_cases hx : p.1 = x
      · have hxk : ¬ x = k := fun q => hp (hx.trans q)
        rw [decide_eq_true hx, if_neg hxk]
      · rw [decide_eq_false hx]; exact ih
theorem dget_none {β : Type} {l : List (Str × β)} {k : Str} (h : k ∉ l.map (·.1)) : dget l k = none := by
  unfold dget
  rw [List.find?_eq_none.mpr fun q hq => by
    rw [decide_eq_false fun e => h (List.mem_map.mpr ⟨q, hq, e⟩)]; exact Bool.false_ne_true]; rfl
theorem dget_isSome {β : Type} {l : List (Str × β)} {k : Str} (h : k ∈ l.map (·.1)) : ∃ v, dget l k = some v := by
  cases e : dget l k with
  | some v => exact ⟨v, rfl⟩
  | none =>
    obtain ⟨q, hq, rfl⟩ := List.mem_map.mp h
    unfold dget at e
    have := Option.map_eq_none_iff.mp e
    have := List.find?_eq_none.mp this q hq
    simp at this
theorem dget_dput {β : Type} (l : List (Str × β)) (k : Str) (v : β) (x : Str) : dget (dput l k v) x = if x = k then some v else dget l x := by
  by_cases hk : k ∈ l.map (·.1)
  · obtain ⟨q, hq, e⟩ := List.mem_map.mp hk
    have e1 : dput l k v = l.map fun kv => if kv.1 = k then (kv.1, v) else kv := by
      unfold dput; rw [if_pos (List.any_eq_true.mpr ⟨q, hq, decide_eq_true e⟩)]
    rw [e1, dget_mapIf]
    by_cases hx : x = k
    · obtain ⟨u, hu⟩ := dget_isSome hk
      rw [if_pos hx, if_pos hx, hx, hu]; rfl
    · rw [if_neg hx, if_neg hx]
  · rw [dput_new l k v hk]
    unfold dget
    rw [List.find?_append]
    by_cases hx : x = k
    · subst hx
      have h1 := dget_none hk
      unfold dget at h1
      rw [Option.map_eq_none_iff.mp h1, if_pos rfl, List.find?_cons, decide_eq_true rfl]; rfl
    · rw [if_neg hx, List.find?_cons, decide_eq_false (fun e => hx e.symm), List.find?_nil, Option.or_none]
noncomputable def tabStep (x y : Str) (c : Int) (t : Tab) : Tab :=
  let t1 := dput t x (addC (tabOf t x) [(y, c)])
  dput t1 y (addC (tabOf t1 y) [(x, c)])
theorem dput_same {β : Type} {l : List (Str × β)} {k : Str} (v : β) (hk : k ∈ l.map (·.1)) : (dput l k v).map (·.1) = l.map (·.1) := by
  unfold dput
  obtain ⟨q, hq, e⟩ := List.mem_map.mp hk
  rw [if_pos (List.any_eq_true.mpr ⟨q, hq, decide_eq_true e⟩), List.map_map]
  refine List.map_congr_left fun q _ => ?_
  show Prod.fst (if q.1 = k then (q.1, v) else q) = q.1
  split <;> rfl
structure Good (texts : List Str) (c : Nat) (t : Tab) : Prop where
  keys : t.map (·.1) = texts
  get : ∀ x ∈ texts, ∃ l, dget t x = some l ∧ l.length ≤ c
theorem Good.put {texts : List Str} {c : Nat} {t : Tab} (h : Good texts c t) {x y : Str} (hx : x ∈ texts) (k : Int) : Good texts (c + 1) (dput t x (addC (tabOf t x) [(y, k)])) := ⟨by rw [dput_same _ (by rw [h.keys]; exact hx), h.keys], fun z hz => by
  rw [dget_dput]
  split
  · obtain ⟨l, hl, hc⟩ := h.get x hx
    refine ⟨_, rfl, ?_⟩
    have := addC_length (tabOf t x) [(y, k)]
    rw [tabOf, hl] at this ⊢
    simp only [Option.getD_some, List.length_singleton] at this ⊢
    omega
  · obtain ⟨l, hl, hc⟩ := h.get z hz
    exact ⟨l, hl, by omega⟩⟩
theorem Good.step {texts : List Str} {c : Nat} {t : Tab} (h : Good texts c t) {x y : Str} (hx : x ∈ texts) (hy : y ∈ texts) (k : Int) : Good texts (c + 2) (tabStep x y k t) := (h.put hx k).put hy k
end Mine
end

section
open PySem PySem.W PyProof.Rows
set_option autoImplicit false
set_option maxRecDepth 100000
set_option maxHeartbeats 1000000
namespace Mine
variable {C : Cx} {n : Nat}
noncomputable abbrev W1 := List Int × Int
structure TablesOk (texts leads : List Str) (walks : List W1) : Prop where
  t5 : texts.length = 5
  l5 : leads.length = 5
  w5 : walks.length = 5
  nd : texts.Nodup
  mks : ∀ l ∈ leads, (mkOf l).count.length ≤ 1000 ∧ runOf (mkOf l) ≤ 900 ∧ -900 ≤ runOf (mkOf l)
  wk : ∀ v ∈ walks, v.1.length = 4 ∧ 1 ≤ v.2 ∧ v.2 ≤ 4
  same : ∀ i j : Nat, i < 5 → j < 5 → witness (mkOf (leads.getD i "")) (mkOf (leads.getD j "")) = unlike (walks.getD i default) (walks.getD j default)
noncomputable def txt (texts : List Str) (i : Int) : Str := texts.getD i.toNat ""
noncomputable def tieIJ (walks : List W1) (i j : Int) : Int := tieOf (walks.getD i.toNat default) (walks.getD j.toNat default)
noncomputable def tabCol (texts : List Str) (walks : List W1) (i : Int) (t : Tab) (j : Int) : Tab := tabStep (txt texts i) (txt texts j) (tieIJ walks i j) t
noncomputable def tabRow (texts : List Str) (walks : List W1) (t : Tab) (i : Int) : Tab := (upto 0 i).foldl (tabCol texts walks i) t
noncomputable def tabs0 (texts : List Str) : Tab := texts.map fun x => (x, [])
noncomputable def tabsOf (texts : List Str) (walks : List W1) : Tab := (upto 0 5).foldl (tabRow texts walks) (tabs0 texts)
theorem EqD.row3 {k : Nat} (x y : Int × Int × Int) : EqD (k + 1) (row3 x) (row3 y) (decide (x = y)) := by
  refine EqD.cast (EqD.tup (.cons .int (.cons .int (.cons .int .nil)))) ?_
  obtain ⟨a, b, c⟩ := x
  obtain ⟨d, e, f⟩ := y
  by_cases h1 : a = d <;> by_cases h2 : b = e <;> by_cases h3 : c = f <;> simp [h1, h2, h3]
theorem getD_mem' {l : List Str} {i : Nat} (h : i < l.length) : l.getD i "" ∈ l := by rw [List.getD_eq_getElem?_getD, List.getElem?_eq_getElem h]; exact List.getElem_mem _
theorem getDw_mem {l : List W1} {i : Nat} (h : i < l.length) : l.getD i default ∈ l := by rw [List.getD_eq_getElem?_getD, List.getElem?_eq_getElem h]; exact List.getElem_mem _
theorem upto_len (a b : Int) : (upto a b).length = (b - a).toNat := by unfold upto; rw [List.length_map, List.length_range]
theorem Good.col {texts : List Str} {walks : List W1} (h5 : texts.length = 5) {i : Int} (hi : 0 ≤ i ∧ i < 5) : ∀ (js : List Int) (c : Nat) (t : Tab), (∀ j ∈ js, 0 ≤ j ∧ j < 5) → Good texts c t → Good texts (c + 2 * js.length) (js.foldl (tabCol texts walks i) t)
  | [], c, t, _, h => by simpa using h
  | j :: js, c, t, hj, h => by
    have hj' := hj j (.head _)
    have := Good.col h5 hi (walks := walks) js (c + 2) (tabCol texts walks i t j) (fun k hk => hj k (.tail _ hk)) (h.step (getD_mem' (by omega)) (getD_mem' (by omega)) _)
    rw [List.foldl_cons, List.length_cons, show c + 2 * (js.length + 1) = c + 2 + 2 * js.length by omega]; exact this
theorem Good.rows {texts : List Str} {walks : List W1} (h5 : texts.length = 5) : ∀ (is : List Int) (c : Nat) (t : Tab), (∀ j ∈ is, 0 ≤ j ∧ j < 5) → Good texts c t → Good texts (c + 10 * is.length) (is.foldl (tabRow texts walks) t)
  | [], c, t, _, h => by simpa using h
  | i :: is, c, t, hj, h => by
    have hi := hj i (.head _)
    have h1 := Good.col h5 hi (walks := walks) (upto 0 i) c t (fun j hj => by have := mem_upto hj; omega) h
    have h2 : Good texts (c + 10) (tabRow texts walks t i) := ⟨h1.keys, fun x hx => by
      obtain ⟨l, hl, hc⟩ := h1.get x hx
      refine ⟨l, hl, ?_⟩
      rw [upto_len] at hc; omega⟩
    have := Good.rows h5 (walks := walks) is (c + 10) _ (fun k hk => hj k (.tail _ hk)) h2
    rw [List.foldl_cons, List.length_cons, show c + 10 * (is.length + 1) = c + 10 + 10 * is.length by omega]; exact this
theorem tabs0_good (texts : List Str) : Good texts 0 (tabs0 texts) := ⟨by unfold tabs0; rw [List.map_map]; exact List.map_id' _, fun x hx => by
  unfold tabs0
  obtain ⟨v, hv⟩ := dget_isSome (l := texts.map fun x => (x, ([] : List (Str × Int)))) (k := x) (by rw [List.map_map]; exact List.mem_map.mpr ⟨x, hx, rfl⟩)
  refine ⟨v, hv, ?_⟩
  obtain ⟨q, _, e⟩ := List.mem_map.mp (dget_in hv)
  cases e; exact Nat.le_refl _⟩
theorem g_fw (h : C.Ok) : (C.mg "format_witnesses").or (C.mb "format_witnesses") = some (.ref 157) := h.mg rfl
theorem g_unlike (h : C.Ok) : (C.mg "_law_unlike").or (C.mb "_law_unlike") = some (.ref 174) := h.mg rfl
theorem fits_k {k : Int} (h0 : 0 ≤ k) (h1 : k ≤ 10) : (decide (k < -(2 ^ 63 : Int)) || decide (k ≥ 2 ^ 63)) = false := by
  rw [Bool.or_eq_false_iff, decide_eq_false_iff_not, decide_eq_false_iff_not]; constructor <;> omega
theorem dig_sum (l : List (Int × Int × Int)) : ((l.map fun t => dig t.1).map (·.length)).sum = l.length := by
  rw [List.map_map, show ((fun x : Str => x.length) ∘ fun t : Int × Int × Int => dig t.1) = fun _ => 1 from rfl]
  induction l with
  | nil => rfl
  | cons x l ih => rw [List.map_cons, List.sum_cons, ih, List.length_cons]; omega
theorem tables_ok (hC : C.Ok) (hG : GenOk C) (texts leads : List Str) (walks : List W1) (H : TablesOk texts leads walks) :
    Fn C 3 (.ref 179) [.list (texts.map .str), .list (leads.map fun l => markP (mkOf l)), .list (walks.map walkP)] (.dict C (dTab C (tabsOf texts walks))) := by
  refine Fn.body (xs := [Str.ofString "texts", Str.ofString "marks", Str.ofString "walks"]) (hC.at rfl) rfl (hC.code rfl) rfl (fun vs h => match vs, h with | [a, b, c], _ => rfl) rfl rfl rfl rfl (by decide) rfl (by decide) ?_
  have h100 : 100 ≤ sizeLine := by decide
  have ht5 := H.t5
  have hl5 := H.l5
  have hw5 := H.w5
  have szt : (texts.map VP.str).length ≤ sizeLine := by rw [List.length_map]; omega
  have szl : (leads.map fun l => markP (mkOf l)).length ≤ sizeLine := by rw [List.length_map]; omega
  have szw : (walks.map walkP).length ≤ sizeLine := by rw [List.length_map]; omega
  refine Ex.cons1 (ExS.compG true (CompIs.dictF (xs := texts) (P := VP.str) (key := fun x => x) (f := fun _ => VP.dict C []) (b := fun _ => true) [] ⟨rfl, by decide, rfl, gsub_nil, gc_nil⟩
    (EvIter.of (Ev.name rfl) (OpIter.list .name)) rfl (by omega) fun x hx => ⟨_, Asg.name (.inl rfl), gsub_nil, .nil, fun _ => ⟨Ev.name rfl, Ev.dict0⟩⟩) (fun _ _ => rfl) rfl rfl (fun env hE => by obtain ⟨e, _, _, _⟩ := hE; cases env; cases e; rfl)) ?_
  have hk0 : dputs (fun x : Str => x) (fun _ => VP.dict C []) [] (texts.filter fun _ => true) = dTab C (tabs0 texts) := by
    rw [List.filter_eq_self.mpr (fun _ _ => rfl), dputs_fresh _ _ _ _ (by rw [List.map_nil, List.nil_append, List.map_id']; exact H.nd)]
    unfold dTab tabs0; rw [List.map_map]; rfl
  rw [hk0]
  refine Ex.cons1 (ExS.forL (xs := upto 0 5) (P := fun i => VP.int i) (fun pre => ([("tables", .own (.dict C (dTab C (pre.foldl (tabRow texts walks) (tabs0 texts))))), ("texts", .val (.list (texts.map .str))), ("marks", .val (.list (leads.map fun l => markP (mkOf l)))), ("walks", .val (.list (walks.map walkP)))] : Gam))
    (EvIter.of (Ev.callT (Ev.glob (g_range hC)) (.cons Ev.cint .nil) (fun _ _ => rfl) Fn.range1) (OpIter.range (by decide) (by decide) (by decide) (by decide))) rfl (gsub_cons rfl (gsub_cons rfl (gsub_cons rfl (gsub_cons rfl gsub_nil))))
    (fun pre i post e => ⟨_, Asg.name (.inl rfl), ?_⟩) rfl) (Ex.freeze (x := "tables") rfl (Ex.retS (Ev.name rfl) fun Z v h => h))
  have hi := mem_upto (i := i) (a := 0) (b := 5) (by rw [e]; simp)
  have hpre5 : pre.length ≤ 5 := by have := congrArg List.length e; rw [upto_len, List.length_append] at this; omega
  have hG1 : Good texts (0 + 10 * pre.length) (pre.foldl (tabRow texts walks) (tabs0 texts)) := Good.rows H.t5 pre 0 _ (fun j hj => mem_upto (i := j) (a := 0) (b := 5) (by rw [e]; exact List.mem_append_left _ hj)) (tabs0_good texts)
  generalize htp : pre.foldl (tabRow texts walks) (tabs0 texts) = tp at hG1
  refine Ex.cons1 (ExS.forL (xs := upto 0 i) (P := fun j => VP.int j) (fun pre2 => ([("tables", .own (.dict C (dTab C (pre2.foldl (tabCol texts walks i) tp)))), ("i", .val (.int i)), ("texts", .val (.list (texts.map .str))), ("marks", .val (.list (leads.map fun l => markP (mkOf l)))), ("walks", .val (.list (walks.map walkP)))] : Gam))
    (EvIter.of (Ev.callT (Ev.glob (g_range hC)) (.cons (Ev.name rfl) .nil) (fun _ _ => rfl) Fn.range1) (OpIter.range (by decide) (by decide) (by omega) (by omega))) rfl (gsub_cons rfl (gsub_cons rfl (gsub_cons rfl (gsub_cons rfl (gsub_cons rfl gsub_nil)))))
    (fun pre2 j post2 e2 => ⟨_, Asg.name (.inl rfl), ?_⟩) rfl) (Ex.nil rfl (gsub_cons ?_ (gsub_cons rfl (gsub_cons rfl (gsub_cons rfl gsub_nil)))))
  · have hj := mem_upto (i := j) (a := 0) (b := i) (by rw [e2]; simp)
    have hpre2 : pre2.length ≤ 5 := by have := congrArg List.length e2; rw [upto_len, List.length_append] at this; omega
    have hG2 := Good.col H.t5 (i := i) (by omega) (walks := walks) pre2 _ _ (fun k hk => by have := mem_upto (i := k) (a := 0) (b := i) (by rw [e2]; exact List.mem_append_left _ hk); omega) hG1
    rw [List.foldl_append, List.foldl_cons, List.foldl_nil]
    generalize pre2.foldl (tabCol texts walks i) tp = tq at hG2
    have pti := pickAt_int (l := texts) (d := "") VP.str (i := i) hi.1 (by omega)
    have ptj := pickAt_int (l := texts) (d := "") VP.str (i := j) hj.1 (by omega)
    have pmi := pickAt_int (l := leads) (d := "") (fun l => markP (mkOf l)) (i := i) hi.1 (by omega)
    have pmj := pickAt_int (l := leads) (d := "") (fun l => markP (mkOf l)) (i := j) hj.1 (by omega)
    have pwi := pickAt_int (l := walks) (d := default) walkP (i := i) hi.1 (by omega)
    have pwj := pickAt_int (l := walks) (d := default) walkP (i := j) hj.1 (by omega)
    have sm := H.same i.toNat j.toNat (by omega) (by omega)
    have mi := H.mks _ (getD_mem' (l := leads) (i := i.toNat) (by omega))
    have mj := H.mks _ (getD_mem' (l := leads) (i := j.toNat) (by omega))
    have wi := H.wk _ (getDw_mem (l := walks) (i := i.toNat) (by omega))
    have wj := H.wk _ (getDw_mem (l := walks) (i := j.toNat) (by omega))
    have hti : txt texts i ∈ texts := getD_mem' (by omega)
    have htj : txt texts j ∈ texts := getD_mem' (by omega)
    unfold tabCol tieIJ
    rw [show texts.getD i.toNat "" = txt texts i from rfl] at pti
    rw [show texts.getD j.toNat "" = txt texts j from rfl] at ptj
    generalize txt texts i = ti at pti hti
    generalize txt texts j = tj at ptj htj
    generalize leads.getD i.toNat "" = li at pmi mi sm
    generalize leads.getD j.toNat "" = lj at pmj mj sm
    generalize walks.getD i.toNat default = v at pwi wi sm
    generalize walks.getD j.toNat default = w at pwj wj sm
    have hmx : max v.2 w.2 ≤ 4 := by omega
    have SO := sizes_ok (fun k => v.1.getD k.toNat 0 != w.1.getD k.toNat 0) (max v.2 w.2) (by omega) hmx
    rw [← unlike_fst] at SO
    have hul : (unlike v w).length ≤ 4 := by unfold unlike; rw [List.length_map]; refine Nat.le_trans (List.length_filter_le _ _) ?_; rw [upto_len]; omega
    have hjm : ((unlike v w).map fun t => Str.ofString (toString t.1)) = ((unlike v w).map (·.1)).map fun k => Str.ofString (toString k) := by rw [List.map_map]; rfl
    refine Ex.cons1 (ExS.asg (P := .list ((unlike v w).map row3)) (Ev.cast (Ev.methI (cls := 146) (l := markL (mkOf li)) (Ev.atList (Ev.name rfl) (Ev.name rfl) pmi szl) (.cons (Ev.atList (Ev.name rfl) (Ev.name rfl) pmj szl) .nil) rfl (by rw [show C.K = _ from hC]; rfl) (f := 129) (by rw [show C.K = _ from hC]; rfl) (by rw [show C.K = _ from hC]; rfl) (hC.keep rfl) (fun _ _ => rfl) (witness_ok hC _ _ mi.1 mj.1 mi.2.1 mj.2.1 mi.2.2)) (by rw [sm])) rfl) ?_
    refine Ex.cons1 (ExS.asg (Ev.callF (Ev.glob (g_fw hC)) (hC.keep rfl) (.cons (Ev.name rfl) .nil) (fun _ _ => rfl) (words_ok hC hG (unlike v w) (by omega) (fun t ht => by
        have := unlike_small hmx ht
        rcases (by omega : t.1 = 1 ∨ t.1 = 2 ∨ t.1 = 3 ∨ t.1 = 4) with q | q | q | q <;> rw [q] <;> decide) (by rw [hjm]; exact SO.join) (fun pre hp => by
        have := SO.len
        rw [hjm, Str.length_append]
        have h1 : (Str.ofString " ").length = 1 := by decide
        omega))) rfl) ?_
    refine Ex.cons1 (ExS.asg (Ev.callF (Ev.glob (g_unlike hC)) (hC.keep rfl) (.cons (Ev.atList (Ev.name rfl) (Ev.name rfl) pwi szw) (.cons (Ev.atList (Ev.name rfl) (Ev.name rfl) pwj szw) .nil)) (fun _ _ => rfl) (Fn.le (unlike_ok hC v w (by omega) (by omega) (by omega) (by omega) (by omega)) (by decide))) rfl) ?_
    refine Ex.cons1 (ExS.asg (Ev.join (ys := (unlike v w).map fun t => dig t.1) (x := Str.ofString ", ") Ev.cstr (Ev.cast (Ev.comp (CompIs.listF (xs := unlike v w) (P := row3) (f := fun t => VP.str (dig t.1)) (b := fun _ => true) [] ⟨rfl, by decide, rfl, gsub_nil, gc_nil⟩
      (EvIter.of (Ev.name rfl) (OpIter.list .name)) rfl (by omega) fun t ht => ⟨_, Asg.name (.inl rfl), gsub_nil, .nil, fun _ => Ev.atStr (k := t.1 - 1) Ev.cstr (Ev.binop (Ev.atTup (ps := [.int t.1, .int t.2.1, .int t.2.2]) (P := .int t.1) (Ev.name rfl) Ev.cint rfl) Ev.cint Op2.subInt) (dig_at (unlike_small hmx ht).1 (unlike_small hmx ht).2) (fits_k (by have := (unlike_small hmx ht).1; omega) (by have := (unlike_small hmx ht).2; omega))⟩) (fun _ => rfl)) (by rw [List.filter_eq_self.mpr (fun _ _ => rfl), List.map_map]; rfl)) (fun _ _ => rfl) (by
        rw [dig_sum, List.length_map]
        rw [show (Str.ofString ", ").length = 2 from by decide]
        omega)) rfl) ?_
    have hdm : ((unlike v w).map (·.1)).map dig = (unlike v w).map fun t => dig t.1 := by rw [List.map_map]; rfl
    have hwd : wordsOf (unlike v w) = (if ((unlike v w).length : Int) > 1 then Str.ofString "at tab sizes " else Str.ofString "at tab size ") ++ Txt.join (Str.ofString ", ") ((unlike v w).map fun t => dig t.1) := by
      have := SO.words
      rw [← wordsOf_eq, hdm, List.length_map] at this; exact this
    have hfree := SO.free
    unfold freeF at hfree
    rw [← wordsOf_eq, List.length_map] at hfree
    have hjl : (Txt.join (Str.ofString ", ") ((unlike v w).map fun t => dig t.1)).length ≤ 50 := by have := SO.len; rw [SO.dig, hdm] at this; exact this
    have hul2 : ((unlike v w).map row3).length ≤ sizeLine := by rw [List.length_map]; omega
    refine Ex.ite (Tst.cast (b' := false) (Tst.bop (.or (Tst.cmp (Ev.name rfl) (Ev.name rfl) (Op2.neList (fun x y => EqD.row3 x y))) fun _ => .or (Tst.cmp (Ev.name rfl) (Ev.binop (Ev.ite (P := .str (if ((unlike v w).length : Int) > 1 then Str.ofString "at tab sizes " else Str.ofString "at tab size ")) (Tst.cmp (Ev.callB (Ev.glob (g_len hC)) (.cons (Ev.name rfl) .nil) (fun _ _ => rfl) (Fn.lenList hul2)) Ev.cint Op2.gtInt) (fun h => Ev.cast Ev.cstr (by rw [if_pos (by simpa using h)])) (fun h => Ev.cast Ev.cstr (by rw [if_neg (by simpa using h)]))) (Ev.name rfl) (Op2.addStr (by
        have : (if ((unlike v w).length : Int) > 1 then Str.ofString "at tab sizes " else Str.ofString "at tab size ").length ≤ 20 := by split <;> decide
        omega))) Op2.neStr) fun _ => .nilOr)) (by rw [hwd]; simp)) (fun h => by cases h) fun _ => ?_
    refine Ex.cons1 (ExS.asg (P := .int (tieOf v w)) (Ev.cast (Ev.callB (Ev.glob (g_len hC)) (.cons (Ev.comp (CompIs.listF (xs := signs (sliceS (Str.ofString "1234") none (some (max v.2 w.2)))) (P := VP.str) (f := VP.str) (b := fun c => !(!(Builtin.Str.occurrences (wordsOf (unlike v w)) c 0 (wordsOf (unlike v w)).length 1).isEmpty)) ([("words", .val (.str (wordsOf (unlike v w))))] : Gam) ⟨rfl, by decide, rfl, gsub_cons rfl gsub_nil, gc_cons rfl rfl gc_nil⟩
      (EvIter.of (Ev.slStr Ev.cstr .no (.at (Ev.callB (Ev.glob (g_max hC)) (.cons (Ev.atTup (ps := [.list (v.1.map VP.int), .int v.2]) (k := 1) (P := .int v.2) (Ev.atList (Ev.name rfl) (Ev.name rfl) pwi szw) Ev.cint rfl) (.cons (Ev.atTup (ps := [.list (w.1.map VP.int), .int w.2]) (k := 1) (P := .int w.2) (Ev.atList (Ev.name rfl) (Ev.name rfl) pwj szw) Ev.cint rfl) .nil)) (fun _ _ => rfl) Fn.max2)) (by have := SO.short; omega)) OpIter.str) rfl (by unfold signs; rw [List.length_map, Array.length_toList]; have := SO.short; show (sliceS _ _ _).length ≤ _; omega) fun c hc => ⟨_, Asg.name (.inl rfl), gsub_cons rfl gsub_nil, Ifs.one (Tst.cmp (Ev.name rfl) (Ev.name rfl) Op2.notInStr), fun _ => Ev.name rfl⟩) (fun _ => rfl)) .nil) (fun _ _ => rfl) (Fn.lenList (by
        rw [List.length_map]; refine Nat.le_trans (List.length_filter_le _ _) ?_
        unfold signs; rw [List.length_map, Array.length_toList]; have := SO.short; show (sliceS _ _ _).length ≤ _; omega))) (by rw [List.length_map, hfree]; rfl)) rfl) ?_
    obtain ⟨la, hla, hla5⟩ := hG2.get ti hti
    have G3 := hG2.put hti (y := tj) (tieOf v w)
    obtain ⟨lb, hlb, hlb5⟩ := G3.get tj htj
    have hk2 := congrArg List.length hG2.keys
    have hk3 := congrArg List.length G3.keys
    rw [List.length_map] at hk2 hk3
    have hta : tabOf tq ti = la := by unfold tabOf; rw [hla]; rfl
    refine Ex.cons1 (ExS.setDict rfl (Ev.callF (Ev.glob (g_add_callers hC)) (hC.keep rfl) (.cons (Ev.subDict (P := .dict C (dI (tabOf tq ti))) (EvO.name rfl) (Ev.atList (Ev.name rfl) (Ev.name rfl) pti szt) (by rw [dget_dTab, hla, hta]; rfl)) (.cons (Ev.dict1 (Ev.atList (Ev.name rfl) (Ev.name rfl) ptj szt) (Ev.name rfl)) .nil)) (fun _ _ => rfl) (add_callers_ok hC (tabOf tq ti) [(tj, tieOf v w)] (by rw [hta, List.length_singleton]; omega))) (Ev.atList (Ev.name rfl) (Ev.name rfl) pti szt) (by unfold dTab; rw [List.length_map]; omega) rfl) ?_
    rw [dput_dTab]
    generalize ht1 : dput tq ti (addC (tabOf tq ti) [(tj, tieOf v w)]) = t1 at G3 hlb hk3
    have htb : tabOf t1 tj = lb := by unfold tabOf; rw [hlb]; rfl
    refine Ex.cons1 (ExS.setDict rfl (Ev.callF (Ev.glob (g_add_callers hC)) (hC.keep rfl) (.cons (Ev.subDict (P := .dict C (dI (tabOf t1 tj))) (EvO.name rfl) (Ev.atList (Ev.name rfl) (Ev.name rfl) ptj szt) (by rw [dget_dTab, hlb, htb]; rfl)) (.cons (Ev.dict1 (Ev.atList (Ev.name rfl) (Ev.name rfl) pti szt) (Ev.name rfl)) .nil)) (fun _ _ => rfl) (add_callers_ok hC (tabOf t1 tj) [(ti, tieOf v w)] (by rw [htb, List.length_singleton]; omega))) (Ev.atList (Ev.name rfl) (Ev.name rfl) ptj szt) (by unfold dTab; rw [List.length_map]; omega) rfl) (Ex.nil rfl (gsub_cons ?_ (gsub_cons rfl (gsub_cons rfl (gsub_cons rfl (gsub_cons rfl gsub_nil))))))
    rw [dput_dTab, ← ht1]; rfl
  · rw [List.foldl_append, htp]; rfl
end Mine
end

section
open PySem PySem.W PyProof.Rows
set_option autoImplicit false
set_option maxRecDepth 100000
namespace Mine
noncomputable def sp (a : Int) : Str := Txt.mul (Str.ofString " ") a
noncomputable def bareOf (a b c : Int) : Str := sp a ++ Str.ofString "\t" ++ sp b ++ Str.ofString "\t" ++ sp c
noncomputable def leadOf (a b c : Int) : Str := bareOf a b c ++ Str.ofString "x\t"
noncomputable def runL (a b c : Int) : Int := max a (max b c)
noncomputable def walkOf (a b c : Int) : W1 := (colsOf (bareOf a b c), 1 + runL a b c)
structure LeadOk (a b c : Int) : Prop where
  hi : (Builtin.Str.occurrences (leadOf a b c) (Str.ofString "x") 0 (leadOf a b c).length 1).head? = some (a + b + c + 2).toNat
  hb : sliceS (leadOf a b c) none (some (((a + b + c + 2).toNat : Nat) : Int)) = bareOf a b c
  hl : (leadOf a b c).length ≤ 20
  split : (Txt.split (bareOf a b c) (Str.ofString "\t")).map (fun r => (r.length : Int)) = [a, b, c]
  cnt : (mkOf (leadOf a b c)).count.length ≤ 1000
  run : runOf (mkOf (leadOf a b c)) = runL a b c
  ind : ∀ k ∈ [1, 2, 3, 4], indentOf (mkOf (leadOf a b c)) k = col (bareOf a b c) k
noncomputable def leadB (a b c : Int) : Bool :=
  decide ((Builtin.Str.occurrences (leadOf a b c) (Str.ofString "x") 0 (leadOf a b c).length 1).head? = some (a + b + c + 2).toNat) && decide (sliceS (leadOf a b c) none (some (((a + b + c + 2).toNat : Nat) : Int)) = bareOf a b c) && decide ((leadOf a b c).length ≤ 20) &&
  decide ((Txt.split (bareOf a b c) (Str.ofString "\t")).map (fun r => (r.length : Int)) = [a, b, c]) && decide ((mkOf (leadOf a b c)).count.length ≤ 1000) && decide (runOf (mkOf (leadOf a b c)) = runL a b c) && [1, 2, 3, 4].all fun k => decide (indentOf (mkOf (leadOf a b c)) k = col (bareOf a b c) k)
theorem leads_all : ∀ a b c : Fin 4, leadB ((a : Nat) : Int) ((b : Nat) : Int) ((c : Nat) : Int) = true := by decide +kernel
theorem nat_of {a : Int} (h0 : 0 ≤ a) (h : a < 4) : ∃ k : Fin 4, ((k : Nat) : Int) = a := ⟨⟨a.toNat, by omega⟩, by show ((a.toNat : Nat) : Int) = a; omega⟩
theorem lead_ok {a b c : Int} (ha : 0 ≤ a ∧ a < 4) (hb : 0 ≤ b ∧ b < 4) (hc : 0 ≤ c ∧ c < 4) : LeadOk a b c := by
  obtain ⟨a', rfl⟩ := nat_of ha.1 ha.2
  obtain ⟨b', rfl⟩ := nat_of hb.1 hb.2
  obtain ⟨c', rfl⟩ := nat_of hc.1 hc.2
  have := leads_all a' b' c'
  unfold leadB at this
  simp only [Bool.and_eq_true, decide_eq_true_eq, List.all_eq_true] at this
  obtain ⟨⟨⟨⟨⟨⟨h1, h2⟩, h3⟩, h4⟩, h5⟩, h6⟩, h7⟩ := this
  exact ⟨h1, h2, h3, h4, h5, h6, h7⟩
theorem upto_shift (b : Int) : upto 1 (b + 1) = (upto 0 b).map (· + 1) := by
  unfold upto
  rw [List.map_map, show (b + 1 - 1).toNat = (b - 0).toNat by omega]
  refine List.map_congr_left fun i _ => ?_
  show (1 : Int) + i = 0 + (i : Int) + 1
  omega
theorem colsOf_getD (x : Str) {k : Int} (h0 : 0 ≤ k) (h : k < 4) : (colsOf x).getD k.toNat 0 = col x (k + 1) := by
  rcases (by omega : k = 0 ∨ k = 1 ∨ k = 2 ∨ k = 3) with rfl | rfl | rfl | rfl <;> rfl
theorem lead_same {a b c a' b' c' : Int} (L : LeadOk a b c) (L' : LeadOk a' b' c') (h : runL a b c ≤ 3) (h' : runL a' b' c' ≤ 3) :
    witness (mkOf (leadOf a b c)) (mkOf (leadOf a' b' c')) = unlike (walkOf a b c) (walkOf a' b' c') := by
  unfold witness unlike
  rw [L.run, L'.run]
  show witOf _ _ (upto 1 (max (runL a b c) (runL a' b' c') + 1 + 1)) = ((upto 0 (max (1 + runL a b c) (1 + runL a' b' c'))).filter fun k => (colsOf (bareOf a b c)).getD k.toNat 0 != (colsOf (bareOf a' b' c')).getD k.toNat 0).map fun k => (k + 1, (colsOf (bareOf a b c)).getD k.toNat 0, (colsOf (bareOf a' b' c')).getD k.toNat 0)
  rw [show max (1 + runL a b c) (1 + runL a' b' c') = max (runL a b c) (runL a' b' c') + 1 by omega, upto_shift]
  unfold witOf
  rw [List.filter_map, List.map_map]
  have hk : ∀ k ∈ upto 0 (max (runL a b c) (runL a' b' c') + 1), indentOf (mkOf (leadOf a b c)) (k + 1) = (colsOf (bareOf a b c)).getD k.toNat 0 ∧ indentOf (mkOf (leadOf a' b' c')) (k + 1) = (colsOf (bareOf a' b' c')).getD k.toNat 0 := fun k hk => by
    have := mem_upto hk
    have hm : k + 1 ∈ ([1, 2, 3, 4] : List Int) := by
      rcases (by omega : k = 0 ∨ k = 1 ∨ k = 2 ∨ k = 3) with rfl | rfl | rfl | rfl <;> decide
    rw [colsOf_getD _ this.1 (by omega), colsOf_getD _ this.1 (by omega), L.ind _ hm, L'.ind _ hm]; exact ⟨rfl, rfl⟩
  rw [show List.filter ((fun ts => indentOf (mkOf (leadOf a b c)) ts != indentOf (mkOf (leadOf a' b' c')) ts) ∘ fun x => x + 1) (upto 0 (max (runL a b c) (runL a' b' c') + 1)) = (upto 0 (max (runL a b c) (runL a' b' c') + 1)).filter fun k => (colsOf (bareOf a b c)).getD k.toNat 0 != (colsOf (bareOf a' b' c')).getD k.toNat 0 from List.filter_congr fun k hm => by
    obtain ⟨h1, h2⟩ := hk k hm
    show (indentOf _ (k + 1) != indentOf _ (k + 1)) = _
    rw [h1, h2]]
  refine List.map_congr_left fun k hm => ?_
  obtain ⟨h1, h2⟩ := hk k (List.mem_filter.mp hm).1
  show (k + 1, indentOf _ (k + 1), indentOf _ (k + 1)) = _
  rw [h1, h2]
end Mine
end

section
open PySem PySem.W PyProof.Rows
set_option autoImplicit false
namespace Mine
theorem atI_dput (l : List (Str × Int)) (k : Str) (v : Int) (x : Str) : atI (dput l k v) x = if x = k then v else atI l x := by
  unfold atI; rw [dget_dput]; split <;> rfl
theorem atI_none {l : List (Str × Int)} {k : Str} (h : k ∉ l.map (·.1)) : atI l k = 0 := by unfold atI; rw [dget_none h]; rfl
theorem atI_of {l : List (Str × Int)} (nd : (l.map (·.1)).Nodup) {q : Str × Int} (h : q ∈ l) : atI l q.1 = q.2 := by unfold atI; rw [dget_mem nd h]; rfl
theorem putAll_at : ∀ (b a : List (Str × Int)) (k : Str), (b.map (·.1)).Nodup → (∀ x ∈ b.map (·.1), x ∉ a.map (·.1)) → atI (putAll a b) k = atI a k + atI b k
  | [], a, k, _, _ => by show atI a k = atI a k + 0; omega
  | q :: b, a, k, nd, h => by
    rw [List.map_cons, List.nodup_cons] at nd
    have hq : q.1 ∉ a.map (·.1) := h q.1 (.head _)
    have := putAll_at b (dput a q.1 q.2) k nd.2 (fun x hx hm => by
      rcases (dput_keys a q.1 q.2 x).mp hm with r | r
      · exact h x (.tail _ hx) r
      · exact nd.1 (r ▸ hx))
    show atI (putAll (dput a q.1 q.2) b) k = _
    rw [this, atI_dput]
    have e : atI (q :: b) k = if k = q.1 then q.2 else atI b k := by
      unfold atI dget
      rw [List.find?_cons]
      by_cases hk : k = q.1
      · rw [if_pos hk, decide_eq_true hk.symm]; rfl
      · rw [if_neg hk, decide_eq_false fun r => hk r.symm]
    rw [e]
    by_cases hk : k = q.1
    · rw [if_pos hk, if_pos hk, hk, atI_none hq, atI_none nd.1]; omega
    · rw [if_neg hk, if_neg hk]
theorem addFold_at : ∀ (b a : List (Str × Int)) (k : Str), (b.map (·.1)).Nodup → atI (b.foldl addStep a) k = atI a k + atI b k
  | [], a, k, _ => by show atI a k = atI a k + 0; omega
  | q :: b, a, k, nd => by
    rw [List.map_cons, List.nodup_cons] at nd
    rw [List.foldl_cons, addFold_at b _ k nd.2]
    have e1 : atI (addStep a q) k = if k = q.1 then atI a k + q.2 else atI a k := by
      unfold addStep
      rw [atI_dput]
      by_cases hk : k = q.1
      · rw [if_pos hk, if_pos hk, hk]; unfold atI
        cases dget a q.1 with
        | none => show q.2 = 0 + q.2; omega
        | some v => rfl
      · rw [if_neg hk, if_neg hk]
    have e2 : atI (q :: b) k = if k = q.1 then q.2 else atI b k := by
      unfold atI dget
      rw [List.find?_cons]
      by_cases hk : k = q.1
      · rw [if_pos hk, decide_eq_true hk.symm]; rfl
      · rw [if_neg hk, decide_eq_false fun r => hk r.symm]
    rw [e1, e2]
    by_cases hk : k = q.1
    · rw [if_pos hk, if_pos hk, hk, atI_none nd.1]; omega
    · rw [if_neg hk, if_neg hk]
theorem addC_at {a b : List (Str × Int)} (ha : (a.map (·.1)).Nodup) (hb : (b.map (·.1)).Nodup) (k : Str) : atI (addC a b) k = atI a k + atI b k := by
  unfold addC
  rw [addFold_at b _ k hb, putAll_at a [] k ha (fun _ _ h => by simp at h)]
  show 0 + atI a k + atI b k = _
  omega
theorem filter_at {l : List (Str × Int)} (p : Str → Bool) {k : Str} (hk : p k = true) : atI (l.filter fun q => p q.1) k = atI l k := by
  unfold atI dget
  induction l with
  | nil => rfl
  | cons q l ih =>
    by_cases h : p q.1 = true
    · rw [List.filter_cons_of_pos (p := fun q : Str × Int => p q.1) h, List.find?_cons, List.find?_cons]
      by_cases e : q.1 = k
      · rw [decide_eq_true e]
      · rw [decide_eq_false e]; exact ih
    · rw [List.filter_cons_of_neg (p := fun q : Str × Int => p q.1) h, List.find?_cons, decide_eq_false (fun e : q.1 = k => h (e ▸ hk))]; exact ih
theorem sum_perm {l m : List Int} (h : l.Perm m) : l.sum = m.sum := by
  induction h with
  | nil => rfl
  | cons x _ ih => rw [List.sum_cons, List.sum_cons, ih]
  | swap x y l => rw [List.sum_cons, List.sum_cons, List.sum_cons, List.sum_cons]; omega
  | trans _ _ ih1 ih2 => rw [ih1, ih2]
noncomputable def rowSum (ties : List (List Int)) (p : Int) (m : List Int) : Int := (m.map fun q => tieAt ties p q).sum
theorem pull_cons (ties : List (List Int)) (p : Int) (l m : List Int) : pullOf ties (p :: l) m = rowSum ties p m + pullOf ties l m := by
  unfold pullOf rowSum; rw [List.flatMap_cons, List.sum_append]
theorem pull_nil (ties : List (List Int)) (m : List Int) : pullOf ties [] m = 0 := rfl
theorem pull_app (ties : List (List Int)) (a b m : List Int) : pullOf ties (a ++ b) m = pullOf ties a m + pullOf ties b m := by
  unfold pullOf; rw [List.flatMap_append, List.sum_append]
theorem row_app (ties : List (List Int)) (p : Int) (a b : List Int) : rowSum ties p (a ++ b) = rowSum ties p a + rowSum ties p b := by
  unfold rowSum; rw [List.map_append, List.sum_append]
theorem pull_app2 (ties : List (List Int)) (l a b : List Int) : pullOf ties l (a ++ b) = pullOf ties l a + pullOf ties l b := by
  induction l with
  | nil => rfl
  | cons p l ih => rw [pull_cons, pull_cons, pull_cons, ih, row_app]; omega
theorem pull_nil2 (ties : List (List Int)) (l : List Int) : pullOf ties l [] = 0 := by
  induction l with
  | nil => rfl
  | cons p l ih => rw [pull_cons, ih]; rfl
theorem pull_perm2 (ties : List (List Int)) (l : List Int) {a b : List Int} (h : a.Perm b) : pullOf ties l a = pullOf ties l b := by
  induction l with
  | nil => rfl
  | cons p l ih => rw [pull_cons, pull_cons, ih]; unfold rowSum; rw [sum_perm (h.map _)]
structure TiesOk (ties : List (List Int)) : Prop where
  rows : ties.length = 5 ∧ ∀ r ∈ ties, r.length = 5
  sym : ∀ p q : Int, 0 ≤ p → p < 5 → 0 ≤ q → q < 5 → tieAt ties p q = tieAt ties q p
  pos : ∀ p q : Int, 0 ≤ p → p < 5 → 0 ≤ q → q < 5 → 0 ≤ tieAt ties p q
noncomputable def Places (l : List Int) : Prop := ∀ p ∈ l, 0 ≤ p ∧ p < 5
variable {ties : List (List Int)}
theorem pull_col (T : TiesOk ties) (p : Int) (hp : 0 ≤ p ∧ p < 5) : ∀ (l : List Int), Places l → pullOf ties l [p] = rowSum ties p l
  | [], _ => rfl
  | q :: l, h => by
    rw [pull_cons, pull_col T p hp l fun x hx => h x (.tail _ hx)]
    have hq := h q (.head _)
    show (tieAt ties q p + 0) + rowSum ties p l = _
    unfold rowSum
    rw [List.map_cons, List.sum_cons, T.sym q p hq.1 hq.2 hp.1 hp.2]; omega
theorem pull_sym (T : TiesOk ties) {l : List Int} (hl : Places l) : ∀ {m : List Int}, Places m → pullOf ties l m = pullOf ties m l
  | [], _ => by rw [pull_nil2]; rfl
  | p :: m, h => by
    rw [pull_cons, ← pull_col T p (h p (.head _)) l hl, ← pull_sym T hl fun x hx => h x (.tail _ hx), ← pull_app2]; rfl
theorem pull_pos (T : TiesOk ties) : ∀ {l m : List Int}, Places l → Places m → 0 ≤ pullOf ties l m
  | [], m, _, _ => Int.le_refl _
  | p :: l, m, hl, hm => by
    rw [pull_cons]
    have h1 := pull_pos T (l := l) (m := m) (fun x hx => hl x (.tail _ hx)) hm
    have h2 : 0 ≤ rowSum ties p m := by
      have hp := hl p (.head _)
      clear h1
      induction m with
      | nil => exact Int.le_refl _
      | cons q m ih =>
        have hq := hm q (.head _)
        have := ih fun x hx => hm x (.tail _ hx)
        have h3 := T.pos p q hp.1 hp.2 hq.1 hq.2
        unfold rowSum at *
        rw [List.map_cons, List.sum_cons]; omega
    omega
end Mine
end

section
open PySem PySem.W PyProof.Rows
set_option autoImplicit false
namespace Mine
noncomputable abbrev Tw := List (Str × List Int)
structure TownTab (ties : List (List Int)) (t : Tab) (tw : Tw) (names : List Str) : Prop where
  nd : names.Nodup
  pl : ∀ a ∈ names, Places (ofT tw a)
  has : ∀ a ∈ names, ∃ l, dget t a = some l ∧ (l.map (·.1)).Nodup ∧ (∀ k, k ∈ l.map (·.1) ↔ k ∈ names ∧ k ≠ a) ∧ ∀ b ∈ names, b ≠ a → atI l b = pullOf ties (ofT tw a) (ofT tw b)
variable {ties : List (List Int)} {t : Tab} {tw : Tw} {names : List Str} {d : Int}
theorem TownTab.tabOk (T : TownTab ties t tw names) : TabOk t names := ⟨T.nd, fun a ha => by
  obtain ⟨l, h1, h2, h3, _⟩ := T.has a ha
  exact ⟨l, h1, h2, h3⟩⟩
noncomputable def PullsOk (ties : List (List Int)) (tw : Tw) (row : List Str) (pulls : List (Str × Int)) : Prop := ∀ b ∈ pulls.map (·.1), atI pulls b = pullOf ties (ofT tw b) (aheadOf tw row)
theorem ahead_snoc (tw : Tw) (row : List Str) (b : Str) : aheadOf tw (row ++ [b]) = aheadOf tw row ++ ofT tw b := by
  unfold aheadOf; rw [List.flatMap_append, List.flatMap_singleton]
theorem PullsOk.next (O : TiesOk ties) (T : TownTab ties t tw names) {row : List Str} {pulls : List (Str × Int)} {b : Str} (A : TourAt t names row pulls) (P : PullsOk ties tw row pulls) (hb : b ∈ pulls.map (·.1)) : PullsOk ties tw (row ++ [b]) (pullsNext t (row ++ [b]) pulls b) := fun k hk => by
  obtain ⟨b1, b2⟩ := (A.keys b).mp hb
  obtain ⟨l, hl, hn, hki, hv⟩ := T.has b b1
  have A' := A.next T.tabOk hb
  obtain ⟨k1, k2⟩ := (A'.keys k).mp hk
  have hkr : k ∉ row := fun h => k2 (List.mem_append_left _ h)
  have hkb : k ≠ b := fun h => k2 (by rw [h]; exact List.mem_append_right _ (.head _))
  have hkp : k ∈ pulls.map (·.1) := (A.keys k).mpr ⟨k1, hkr⟩
  have hto : tabOf t b = l := by unfold tabOf; rw [hl]; rfl
  unfold pullsNext
  rw [filter_at (fun x => !decide (x ∈ row ++ [b])) (by rw [decide_eq_false k2]; rfl), addC_at A.pn (by rw [hto]; exact hn), hto, P k hkp, hv k k1 hkb, ahead_snoc, pull_app2, pull_sym O (T.pl b b1) (T.pl k k1)]
noncomputable def Turned (ties : List (List Int)) (tw : Tw) (names : List Str) (d : Int) (row : List Str) : Prop :=
  ∀ k, 1 ≤ k → k < row.length → ∀ b ∈ names, b ∉ row.take (k + 1) → before d (pullOf ties (ofT tw (row.getD k "")) (aheadOf tw (row.take k)), row.getD k "") (pullOf ties (ofT tw b) (aheadOf tw (row.take k)), b)
theorem getD_app_left {row : List Str} {b : Str} {k : Nat} (h : k < row.length) : (row ++ [b]).getD k "" = row.getD k "" := by
  rw [List.getD_eq_getElem?_getD, List.getD_eq_getElem?_getD, List.getElem?_append_left h]
theorem tour_spec (O : TiesOk ties) (hd : d = 1 ∨ d = -1) (T : TownTab ties t tw names) : ∀ (k : Nat) (row : List Str) (pulls : List (Str × Int)), names.length - row.length = k → TourAt t names row pulls → PullsOk ties tw row pulls → Turned ties tw names d row →
    (tourGo t d k row pulls).Perm names ∧ Turned ties tw names d (tourGo t d k row pulls) := by
  intro k
  induction k with
  | zero =>
    intro row pulls hk A P Q
    refine ⟨(List.perm_ext_iff_of_nodup A.nd T.nd).mpr fun a => ⟨A.sub a, fun ha => ?_⟩, Q⟩
    have hl := A.len T.nd
    have hp : pulls = [] := List.length_eq_zero_iff.mp (by omega)
    refine Decidable.byContradiction fun h => ?_
    have := (A.keys a).mpr ⟨ha, h⟩
    rw [hp] at this; simp at this
  | succ k ih =>
    intro row pulls hk A P Q
    have hl := A.len T.nd
    have hne : pulls ≠ [] := fun e => by rw [e, List.length_nil] at hl; omega
    obtain ⟨b, hb1, hb2, hb3⟩ := best_spec hd A.pn hne
    have hbk : b.1 ∈ pulls.map (·.1) := List.mem_map.mpr ⟨b, hb2, rfl⟩
    show (match bestOf d pulls with | none => row | some b => tourGo t d k (row ++ [b.1]) (pullsNext t (row ++ [b.1]) pulls b.1)).Perm names ∧ Turned ties tw names d (match bestOf d pulls with | none => row | some b => tourGo t d k (row ++ [b.1]) (pullsNext t (row ++ [b.1]) pulls b.1))
    rw [hb1]
    refine ih _ _ (by rw [List.length_append, List.length_singleton]; omega) (A.next T.tabOk hbk) (P.next O T A hbk) fun j j1 j2 c hc hcr => ?_
    rw [List.length_append, List.length_singleton] at j2
    rcases Nat.lt_or_ge j row.length with h | h
    · rw [getD_app_left h, List.take_append_of_le_length (Nat.le_of_lt h)]
      refine Q j j1 h c hc fun hm => hcr ?_
      rw [List.take_append_of_le_length h]; exact hm
    · have hj : j = row.length := by omega
      subst hj
      have e1 : (row ++ [b.1]).getD row.length "" = b.1 := by rw [List.getD_eq_getElem?_getD, List.getElem?_append_right (Nat.le_refl _), Nat.sub_self]; rfl
      have e2 : (row ++ [b.1]).take row.length = row := by rw [List.take_append_of_le_length (Nat.le_refl _), List.take_length]
      have e3 : (row ++ [b.1]).take (row.length + 1) = row ++ [b.1] := List.take_of_length_le (by rw [List.length_append]; exact Nat.le_refl _)
      rw [e3] at hcr
      rw [e1, e2]
      have hcp : c ∈ pulls.map (·.1) := (A.keys c).mpr ⟨hc, fun h => hcr (List.mem_append_left _ h)⟩
      obtain ⟨q, hq, rfl⟩ := List.mem_map.mp hcp
      have hqb : q ≠ b := fun e => hcr (by rw [e]; exact List.mem_append_right _ (.head _))
      have h1 := P b.1 hbk
      have h2 := P q.1 hcp
      rw [atI_of A.pn hb2] at h1
      rw [atI_of A.pn hq] at h2
      have := hb3 q hq hqb
      unfold keyOf at this
      rw [h1, h2] at this; exact this
theorem turned_inTurn {row : List Str} {up : Bool} (nd : row.Nodup) (hs : ∀ a ∈ row, a ∈ names) (h : Turned ties tw names (if up = true then 1 else -1) row) : inTurn ties tw row up := fun k k1 k2 j j1 j2 => by
  have hmem : row.getD (k + j) "" = row[k + j] := by rw [List.getD_eq_getElem?_getD, List.getElem?_eq_getElem j2]; rfl
  have := h k k1 k2 (row.getD (k + j) "") (by rw [hmem]; exact hs _ (List.getElem_mem _)) (fun hm => by
    rw [hmem] at hm
    obtain ⟨i, hi, e⟩ := List.mem_take_iff_getElem.mp hm
    exact List.pairwise_iff_getElem.mp nd i (k + j) (by omega) j2 (by omega) e)
  unfold before at this
  show ¬ pullOf ties (ofT tw (row.getD k "")) (aheadOf tw (row.take k)) < pullOf ties (ofT tw (row.getD (k + j) "")) (aheadOf tw (row.take k)) ∧ (pullOf ties (ofT tw (row.getD (k + j) "")) (aheadOf tw (row.take k)) = pullOf ties (ofT tw (row.getD k "")) (aheadOf tw (row.take k)) → (sLt (row.getD (k + j) "") (row.getD k "") == up) = false)
  dsimp only at this
  generalize pullOf ties (ofT tw (row.getD k "")) (aheadOf tw (row.take k)) = x at this ⊢
  generalize pullOf ties (ofT tw (row.getD (k + j) "")) (aheadOf tw (row.take k)) = y at this ⊢
  refine ⟨fun hl => ?_, fun he => ?_⟩
  · rcases this with q | ⟨q, _⟩ <;> omega
  · rcases this with q | ⟨_, q⟩
    · omega
    · cases up with
      | true =>
        rw [if_pos (by rfl)] at q
        rw [sLt_asymm q]; rfl
      | false =>
        rw [if_neg (by decide)] at q
        rw [q]; rfl
end Mine
end

section
open PySem PySem.W PyProof.Rows
set_option autoImplicit false
namespace Mine
variable {ties : List (List Int)}
noncomputable def nearB (a b c e : List Int) (x y z : Bool) : List Int := e ++ ((if x = true then a else []) ++ ((if y = true then b else []) ++ ((if z = true then c else []) ++ [])))
noncomputable def farB (a b c d : List Int) (x y z : Bool) : List Int := d ++ ((if x = true then [] else a) ++ ((if y = true then [] else b) ++ ((if z = true then [] else c) ++ [])))
theorem nearfar (a b c d e : List Int) (x y z : Bool) : (nearB a b c e x y z ++ farB a b c d x y z).Perm (a ++ (b ++ (c ++ (d ++ (e ++ []))))) := by
  refine List.perm_iff_count.mpr fun u => ?_
  unfold nearB farB
  cases x <;> cases y <;> cases z <;> simp only [if_true, if_false, Bool.false_eq_true, List.count_append, List.count_nil] <;> omega
structure Order5 (ties : List (List Int)) (a b c d e : List Int) : Prop where
  h1 : pullOf ties c a ≤ pullOf ties b a ∧ pullOf ties d a ≤ pullOf ties b a ∧ pullOf ties e a ≤ pullOf ties b a
  h2 : pullOf ties d a + pullOf ties d b ≤ pullOf ties c a + pullOf ties c b ∧ pullOf ties e a + pullOf ties e b ≤ pullOf ties c a + pullOf ties c b
  h3 : pullOf ties e a + pullOf ties e b + pullOf ties e c ≤ pullOf ties d a + pullOf ties d b + pullOf ties d c
theorem phase5 (O : TiesOk ties) {a b c d e : List Int} (ha : Places a) (hb : Places b) (hc : Places c) (hd : Places d) (he : Places e) (H : Order5 ties a b c d e) (x y z : Bool) :
    pullOf ties e a + pullOf ties e b + pullOf ties e c + pullOf ties e d ≤ pullOf ties (nearB a b c e x y z) (farB a b c d x y z) := by
  obtain ⟨⟨h1, h2, h3⟩, ⟨h4, h5⟩, h6⟩ := H
  have p1 := pull_pos O hb ha
  have p2 := pull_pos O hc ha
  have p3 := pull_pos O hd ha
  have p4 := pull_pos O he ha
  have p5 := pull_pos O hc hb
  have p6 := pull_pos O hd hb
  have p7 := pull_pos O he hb
  have p8 := pull_pos O hd hc
  have p9 := pull_pos O he hc
  have p10 := pull_pos O he hd
  have s1 := pull_sym O ha hb
  have s2 := pull_sym O ha hc
  have s3 := pull_sym O ha hd
  have s5 := pull_sym O hb hc
  have s6 := pull_sym O hb hd
  have s8 := pull_sym O hc hd
  unfold nearB farB
  cases x <;> cases y <;> cases z <;> simp only [if_true, if_false, Bool.false_eq_true, pull_app, pull_app2, pull_nil, pull_nil2, s1, s2, s3, s5, s6, s8] <;> omega
theorem upto5_nodup : (upto 0 5).Nodup := by decide
theorem cut_eq {near far : List Int} (h : (near ++ far).Perm (upto 0 5)) : cutOf ties near = pullOf ties near far := by
  have nd : (near ++ far).Nodup := h.nodup_iff.mpr upto5_nodup
  have hf : ((upto 0 5).filter fun q => !decide (q ∈ near)).Perm far := by
    refine (h.symm.filter _).trans ?_
    rw [List.filter_append, List.filter_eq_nil_iff.mpr (fun q hq => by rw [decide_eq_true hq]; decide), List.nil_append, List.filter_eq_self.mpr fun q hq => ?_]
    rw [decide_eq_false fun hm => (List.nodup_append.mp nd).2.2 q hm q hq rfl]; rfl
  exact pull_perm2 ties near hf
theorem pow_small : ∀ k : Int, 0 ≤ k → k < 8 → k = 0 ∨ k = 1 ∨ k = 2 ∨ k = 3 ∨ k = 4 ∨ k = 5 ∨ k = 6 ∨ k = 7 := by omega
structure CutOk (ties sides : List (List Int)) (M : Int) : Prop where
  mem : M ∈ cutsOf ties sides
  least : ∀ a ∈ cutsOf ties sides, M ≤ a
theorem cut_of (O : TiesOk ties) {a b c d e : List Int} (ha : Places a) (hb : Places b) (hc : Places c) (hd : Places d) (he : Places e) (H : Order5 ties a b c d e) (hp : (a ++ (b ++ (c ++ (d ++ (e ++ []))))).Perm (upto 0 5)) {sides : List (List Int)} {N : Int} (hN : cutsOf ties sides = (upto 0 N).map fun c => cutOf ties (nearOf sides c)) (h0 : 0 < N)
    (hn : ∀ k, 0 ≤ k → k < N → ∃ x y z, nearOf sides k = nearB a b c e x y z) (hz : nearOf sides 0 = nearB a b c e false false false) : CutOk ties sides (pullOf ties e a + pullOf ties e b + pullOf ties e c + pullOf ties e d) := by
  constructor
  · rw [hN]
    refine List.mem_map.mpr ⟨0, ?_, ?_⟩
    · unfold upto
      exact List.mem_map.mpr ⟨0, List.mem_range.mpr (by omega), rfl⟩
    · rw [hz, cut_eq ((nearfar a b c d e false false false).trans hp)]
      unfold nearB farB
      simp only [if_false, Bool.false_eq_true, pull_app, pull_app2, pull_nil, pull_nil2]
      omega
  · intro v hv
    rw [hN] at hv
    obtain ⟨k, hk, rfl⟩ := List.mem_map.mp hv
    have := mem_upto hk
    obtain ⟨x, y, z, e'⟩ := hn k this.1 this.2
    rw [e', cut_eq ((nearfar a b c d e x y z).trans hp)]
    exact phase5 O ha hb hc hd he H x y z
theorem places_nil : Places [] := fun p h => by simp at h
theorem cut5 (O : TiesOk ties) {a b c d e : List Int} (ha : Places a) (hb : Places b) (hc : Places c) (hd : Places d) (he : Places e) (H : Order5 ties a b c d e) (hp : (a ++ (b ++ (c ++ (d ++ (e ++ []))))).Perm (upto 0 5)) : CutOk ties [a, b, c, d, e] (pullOf ties e a + pullOf ties e b + pullOf ties e c + pullOf ties e d) := by
  refine cut_of O ha hb hc hd he H hp (N := 8) rfl (by decide) (fun k h0 h1 => ?_) rfl
  rcases pow_small k h0 h1 with rfl | rfl | rfl | rfl | rfl | rfl | rfl | rfl
  · exact ⟨false, false, false, by kernel_rfl⟩
  · exact ⟨true, false, false, by kernel_rfl⟩
  · exact ⟨false, true, false, by kernel_rfl⟩
  · exact ⟨true, true, false, by kernel_rfl⟩
  · exact ⟨false, false, true, by kernel_rfl⟩
  · exact ⟨true, false, true, by kernel_rfl⟩
  · exact ⟨false, true, true, by kernel_rfl⟩
  · exact ⟨true, true, true, by kernel_rfl⟩
theorem cut4 (O : TiesOk ties) {b c d e : List Int} (hb : Places b) (hc : Places c) (hd : Places d) (he : Places e) (H : Order5 ties [] b c d e) (hp : (b ++ (c ++ (d ++ (e ++ [])))).Perm (upto 0 5)) : CutOk ties [b, c, d, e] (pullOf ties e [] + pullOf ties e b + pullOf ties e c + pullOf ties e d) := by
  refine cut_of O places_nil hb hc hd he H hp (N := 4) rfl (by decide) (fun k h0 h1 => ?_) rfl
  rcases (by omega : k = 0 ∨ k = 1 ∨ k = 2 ∨ k = 3) with rfl | rfl | rfl | rfl
  · exact ⟨false, false, false, by kernel_rfl⟩
  · exact ⟨false, true, false, by kernel_rfl⟩
  · exact ⟨false, false, true, by kernel_rfl⟩
  · exact ⟨false, true, true, by kernel_rfl⟩
theorem cut3 (O : TiesOk ties) {c d e : List Int} (hc : Places c) (hd : Places d) (he : Places e) (H : Order5 ties [] [] c d e) (hp : (c ++ (d ++ (e ++ []))).Perm (upto 0 5)) : CutOk ties [c, d, e] (pullOf ties e [] + pullOf ties e [] + pullOf ties e c + pullOf ties e d) := by
  refine cut_of O places_nil places_nil hc hd he H hp (N := 2) rfl (by decide) (fun k h0 h1 => ?_) rfl
  rcases (by omega : k = 0 ∨ k = 1) with rfl | rfl
  · exact ⟨false, false, false, by kernel_rfl⟩
  · exact ⟨false, false, true, by kernel_rfl⟩
theorem cut2 (O : TiesOk ties) {d e : List Int} (hd : Places d) (he : Places e) (hp : (d ++ (e ++ [])).Perm (upto 0 5)) : CutOk ties [d, e] (pullOf ties e [] + pullOf ties e [] + pullOf ties e [] + pullOf ties e d) := by
  refine cut_of O places_nil places_nil places_nil hd he ⟨?_, ?_, ?_⟩ hp (N := 1) rfl (by decide) (fun k h0 h1 => ?_) rfl
  · simp only [pull_nil, pull_nil2]; omega
  · simp only [pull_nil, pull_nil2]; omega
  · simp only [pull_nil, pull_nil2]; omega
  · obtain rfl : k = 0 := by omega
    exact ⟨false, false, false, by kernel_rfl⟩
end Mine
end

section
open PySem PySem.W PyProof.Rows
set_option autoImplicit false
set_option maxRecDepth 100000
namespace Mine
theorem str_assoc (a b c : Str) : a ++ b ++ c = a ++ (b ++ c) := congrArg Str.mk (Array.append_assoc ..)
theorem mem_app (a b : Str) (c : Nat) : c ∈ (a ++ b).cps.toList ↔ c ∈ a.cps.toList ∨ c ∈ b.cps.toList := by
  show c ∈ (a.cps ++ b.cps).toList ↔ _
  rw [Array.toList_append, List.mem_append]
noncomputable def dot : Str := Str.ofString "."
noncomputable def joinT (l : List Str) : Str := Txt.join dot l
theorem joinT_cons (x y : Str) (l : List Str) : joinT (x :: y :: l) = x ++ dot ++ joinT (y :: l) := by
  unfold joinT Txt.join
  rw [StrLaws.glued_eq_join, StrLaws.glued_eq_join]; rfl
theorem joinT_one (x : Str) : joinT [x] = x := by
  unfold joinT Txt.join
  rw [StrLaws.glued_eq_join]; rfl
theorem joinT_app : ∀ (l m : List Str), l ≠ [] → m ≠ [] → joinT (l ++ m) = joinT l ++ dot ++ joinT m
  | [], _, h, _ => absurd rfl h
  | [x], [], _, h => absurd rfl h
  | [x], y :: m, _, _ => by rw [List.singleton_append, joinT_cons, joinT_one]
  | x :: y :: l, m, _, h => by
    rw [List.cons_append, List.cons_append, joinT_cons, joinT_cons, ← List.cons_append, joinT_app (y :: l) m (by simp) h, str_assoc, str_assoc, str_assoc, str_assoc, str_assoc]
theorem mem_joinT (c : Nat) (hc : c ∉ dot.cps.toList) : ∀ (l : List Str), c ∈ (joinT l).cps.toList ↔ ∃ x ∈ l, c ∈ x.cps.toList
  | [] => by
    unfold joinT Txt.join
    rw [StrLaws.glued_eq_join]
    show c ∈ (#[] : Array Nat).toList ↔ _
    simp
  | [x] => by rw [joinT_one]; simp
  | x :: y :: l => by
    rw [joinT_cons, mem_app, mem_app, mem_joinT c hc (y :: l)]
    simp only [hc, or_false, List.mem_cons]
    constructor
    · rintro (h | ⟨z, hz, h⟩)
      · exact ⟨x, .inl rfl, h⟩
      · exact ⟨z, .inr hz, h⟩
    · rintro ⟨z, rfl | hz, h⟩
      · exact .inl h
      · exact .inr ⟨z, hz, h⟩
theorem joinT_len : ∀ (l : List Str), (∀ x ∈ l, x.length ≤ 20) → (joinT l).length ≤ 21 * l.length
  | [], _ => by
    unfold joinT Txt.join
    rw [StrLaws.glued_eq_join]; exact Nat.le_refl _
  | [x], h => by rw [joinT_one]; have := h x (.head _); rw [List.length_singleton]; omega
  | x :: y :: l, h => by
    have h1 := joinT_len (y :: l) fun z hz => h z (.tail _ hz)
    have h2 := h x (.head _)
    rw [joinT_cons, Str.length_append, Str.length_append, show dot.length = 1 from by decide]
    simp only [List.length_cons] at h1 ⊢
    omega
noncomputable def codeL (p : Nat) : Nat := (Str.ofString "Cabcd").cps.getD p 0
theorem letters : ∀ k : Fin 5, ∀ d : Fin 6, ∀ p : Fin 5, decide (codeL p ∈ (textOf k d).cps.toList) = decide (p = k) := by decide +kernel
theorem codeL_dot : ∀ p : Fin 5, codeL p ∉ dot.cps.toList := by decide +kernel
theorem text_len : ∀ k : Fin 5, ∀ d : Fin 6, (textOf k d).length ≤ 20 := by decide +kernel
structure TextsOk (texts : List Str) : Prop where
  len : texts.length = 5
  own : ∀ k p : Nat, k < 5 → p < 5 → (codeL p ∈ (texts.getD k "").cps.toList ↔ p = k)
  short : ∀ k : Nat, (texts.getD k "").length ≤ 20
variable {texts : List Str}
noncomputable def nameOf (texts : List Str) (l : List Int) : Str := joinT (l.map (txt texts))
theorem name_letter (T : TextsOk texts) {l : List Int} (hl : Places l) {p : Int} (hp : 0 ≤ p ∧ p < 5) : codeL p.toNat ∈ (nameOf texts l).cps.toList ↔ p ∈ l := by
  unfold nameOf
  rw [mem_joinT _ (codeL_dot ⟨p.toNat, by omega⟩)]
  constructor
  · rintro ⟨x, hx, h⟩
    obtain ⟨k, hk, rfl⟩ := List.mem_map.mp hx
    have := hl k hk
    have e := (T.own k.toNat p.toNat (by omega) (by omega)).mp h
    have : p = k := by omega
    exact this ▸ hk
  · intro h
    exact ⟨txt texts p, List.mem_map.mpr ⟨p, h, rfl⟩, (T.own p.toNat p.toNat (by omega) (by omega)).mpr rfl⟩
theorem name_len (T : TextsOk texts) (l : List Int) : (nameOf texts l).length ≤ 21 * l.length := by
  unfold nameOf
  have := joinT_len (l.map (txt texts)) fun x hx => by
    obtain ⟨k, _, rfl⟩ := List.mem_map.mp hx
    exact T.short k.toNat
  rw [List.length_map] at this; exact this
theorem name_app {l m : List Int} (hl : l ≠ []) (hm : m ≠ []) : nameOf texts (l ++ m) = nameOf texts l ++ dot ++ nameOf texts m := by
  unfold nameOf
  rw [List.map_append, joinT_app _ _ (by simpa using hl) (by simpa using hm)]
end Mine
end

section
open PySem PySem.W PyProof.Rows
set_option autoImplicit false
namespace Mine
structure World (ties : List (List Int)) (texts : List Str) (t : Tab) (tw : Tw) : Prop where
  nm : (tw.map (·.1)).Nodup
  part : (tw.flatMap (·.2)).Perm (upto 0 5)
  ne : ∀ q ∈ tw, q.2 ≠ []
  name : ∀ q ∈ tw, q.1 = nameOf texts q.2
  tk : (t.map (·.1)).Perm (tw.map (·.1))
  tab : TownTab ties t tw (tw.map (·.1))
variable {ties : List (List Int)} {texts : List Str} {t : Tab} {tw : Tw} {d : Int}
theorem ofT_mem (nm : (tw.map (·.1)).Nodup) {q : Str × List Int} (h : q ∈ tw) : ofT tw q.1 = q.2 := by unfold ofT; rw [dget_mem nm h]; rfl
theorem flat_count : ∀ (l : Tw), (∀ q ∈ l, q.2 ≠ []) → l.length ≤ (l.flatMap (·.2)).length
  | [], _ => Nat.le_refl _
  | q :: l, h => by
    have h1 := flat_count l fun x hx => h x (.tail _ hx)
    have h2 : 0 < q.2.length := List.length_pos_iff.mpr (h q (.head _))
    rw [List.flatMap_cons, List.length_append, List.length_cons]; omega
theorem World.few (W : World ties texts t tw) : tw.length ≤ 5 := by
  have h1 := flat_count tw W.ne
  have h2 := W.part.length_eq
  rw [upto_len] at h2
  omega
theorem World.places (W : World ties texts t tw) {q : Str × List Int} (h : q ∈ tw) : Places q.2 := fun p hp => mem_upto (W.part.mem_iff.mp (List.mem_flatMap.mpr ⟨q, h, hp⟩))
theorem World.short (W : World ties texts t tw) {q : Str × List Int} (h : q ∈ tw) : q.2.length ≤ 5 := by
  have h2 := W.part.length_eq
  rw [upto_len] at h2
  have : (q.2).Sublist (tw.flatMap (·.2)) := by
    rw [List.flatMap_def]
    exact List.sublist_flatten_of_mem (List.mem_map.mpr ⟨q, h, rfl⟩)
  have := this.length_le
  omega
theorem World.tableLen (W : World ties texts t tw) {a : Str} (h : a ∈ tw.map (·.1)) : (tabOf t a).length ≤ 5 := by
  obtain ⟨l, hl, hn, hk, _⟩ := W.tab.has a h
  have e : tabOf t a = l := by unfold tabOf; rw [hl]; rfl
  rw [e]
  have := nodup_len hn (m := tw.map (·.1)) fun x hx => ((hk x).mp hx).1
  rw [List.length_map, List.length_map] at this
  have := W.few
  omega
structure Tour (ties : List (List Int)) (tw : Tw) (d : Int) (row : List Str) : Prop where
  perm : row.Perm (tw.map (·.1))
  turn : Turned ties tw (tw.map (·.1)) d row
theorem World.tour (O : TiesOk ties) (W : World ties texts t tw) (hd : d = 1 ∨ d = -1) {nm0 : Str} (h : nm0 ∈ tw.map (·.1)) : Tour ties tw d (tourGo t d ((tw.map (·.1)).length - 1) [nm0] (tabOf t nm0)) := by
  obtain ⟨l, hl, hn, hk, hv⟩ := W.tab.has nm0 h
  have e : tabOf t nm0 = l := by unfold tabOf; rw [hl]; rfl
  rw [e]
  have := tour_spec O hd W.tab ((tw.map (·.1)).length - 1) [nm0] l (by rw [List.length_singleton]) ⟨by simp, by simpa using h, hn, fun k => by rw [hk]; simp⟩ (fun b hb => by
    obtain ⟨b1, b2⟩ := (hk b).mp hb
    rw [hv b b1 b2, pull_sym O (W.tab.pl nm0 h) (W.tab.pl b b1)]
    show _ = pullOf ties (ofT tw b) (ofT tw nm0 ++ [])
    rw [List.append_nil]) (fun k k1 k2 => by rw [List.length_singleton] at k2; omega)
  exact ⟨this.1, this.2⟩
theorem Tour.nodup {row : List Str} (T : Tour ties tw d row) (nm : (tw.map (·.1)).Nodup) : row.Nodup := T.perm.nodup_iff.mpr nm
theorem Tour.le {row : List Str} (T : Tour ties tw d row) (nm : (tw.map (·.1)).Nodup) {k j : Nat} (h1 : 1 ≤ k) (h2 : k < j) (h3 : j < row.length) :
    pullOf ties (ofT tw (row.getD j "")) (aheadOf tw (row.take k)) ≤ pullOf ties (ofT tw (row.getD k "")) (aheadOf tw (row.take k)) := by
  have hj : row.getD j "" = row[j] := by rw [List.getD_eq_getElem?_getD, List.getElem?_eq_getElem h3]; rfl
  have := T.turn k h1 (by omega) (row.getD j "") (by rw [hj]; exact T.perm.mem_iff.mp (List.getElem_mem _)) (fun hm => by
    rw [hj] at hm
    obtain ⟨i, hi, e⟩ := List.mem_take_iff_getElem.mp hm
    exact List.pairwise_iff_getElem.mp (T.nodup nm) i j (by omega) h3 (by omega) e)
  unfold before at this
  dsimp only at this
  rcases this with q | ⟨q, _⟩ <;> omega
theorem Tour.sides {row : List Str} (T : Tour ties tw d row) (nm : (tw.map (·.1)).Nodup) : ((row.map (ofT tw)).flatten).Perm (tw.flatMap (·.2)) := by
  have h1 : (row.map (ofT tw)).Perm ((tw.map (·.1)).map (ofT tw)) := T.perm.map _
  have h2 : (tw.map (·.1)).map (ofT tw) = tw.map (·.2) := by
    rw [List.map_map]; exact List.map_congr_left fun q hq => ofT_mem nm hq
  rw [h2] at h1
  rw [List.flatMap_def]
  exact h1.flatten
theorem World.townsOk (O : TiesOk ties) (W : World ties texts t tw) {row : List Str} (T : Tour ties tw d row) : TownsOk ties tw row :=
  ⟨fun nm hm => dget_isSome (T.perm.mem_iff.mp hm), fun nm l h => by
    have hq := dget_in h
    exact ⟨W.short hq, W.places hq⟩, O.rows, by
    have h1 := T.perm.length_eq
    rw [List.length_map] at h1
    have := W.few
    omega⟩
theorem World.cutSum (W : World ties texts t tw) {rest : List Str} {last : Str} (T : Tour ties tw d (rest ++ [last])) : sumV (tabOf t last) = (rest.map fun r => pullOf ties (ofT tw last) (ofT tw r)).sum := by
  have nd := T.nodup W.nm
  rw [List.nodup_append] at nd
  have hl : last ∈ tw.map (·.1) := T.perm.mem_iff.mp (List.mem_append_right _ (.head _))
  obtain ⟨l, hg, hn, hk, hv⟩ := W.tab.has last hl
  have e : tabOf t last = l := by unfold tabOf; rw [hg]; rfl
  have hp : (l.map (·.1)).Perm rest := (List.perm_ext_iff_of_nodup hn nd.1).mpr fun x => by
    rw [hk, ← T.perm.mem_iff, List.mem_append, List.mem_singleton]
    constructor
    · rintro ⟨h | h, h2⟩
      · exact h
      · exact absurd h h2
    · intro h; exact ⟨.inl h, fun q => nd.2.2 x h last (.head _) q⟩
  have h1 : sumV l = ((l.map (·.1)).map (atI l)).sum := by
    unfold sumV; rw [List.map_map]
    congr 1
    exact List.map_congr_left fun q hq => (atI_of hn hq).symm
  rw [e, h1, sum_perm (hp.map (atI l))]
  congr 1
  refine List.map_congr_left fun r hr => hv r (T.perm.mem_iff.mp (List.mem_append_left _ hr)) fun q => ?_
  exact nd.2.2 r hr last (.head _) q
theorem ahead1 (a : Str) : aheadOf tw [a] = ofT tw a := by unfold aheadOf; rw [List.flatMap_singleton]
theorem World.cut (O : TiesOk ties) (W : World ties texts t tw) {row : List Str} (T : Tour ties tw d row) (h2 : 2 ≤ row.length) : CutOk ties (row.map (ofT tw)) (sumV (tabOf t (row.getLastD ""))) := by
  have hs := (T.sides W.nm).trans W.part
  have h5 : row.length ≤ 5 := by have h1 := T.perm.length_eq; rw [List.length_map] at h1; have := W.few; omega
  have hpl : ∀ a ∈ row, Places (ofT tw a) := fun a ha => W.tab.pl a (T.perm.mem_iff.mp ha)
  have le := fun {k j : Nat} => T.le W.nm (k := k) (j := j)
  have nz : ∀ l, pullOf ties l [] = 0 := pull_nil2 ties
  match row, h2, h5 with
  | [a, b], _, _ =>
    have := cut2 O (hpl a (by simp)) (hpl b (by simp)) hs
    have hc : sumV (tabOf t b) = _ := W.cutSum (rest := [a]) T
    show CutOk ties [ofT tw a, ofT tw b] (sumV (tabOf t b))
    rw [hc]
    simp only [List.map_cons, List.map_nil, List.sum_cons, List.sum_nil, Int.add_zero, nz, Int.zero_add] at this ⊢
    exact this
  | [a, b, c], _, _ =>
    have l1 : pullOf ties (ofT tw c) (aheadOf tw [a]) ≤ pullOf ties (ofT tw b) (aheadOf tw [a]) := le (k := 1) (j := 2) (by decide) (by decide) (show 2 < _ from by simp)
    rw [ahead1] at l1
    have := cut3 O (hpl a (by simp)) (hpl b (by simp)) (hpl c (by simp)) ⟨by simp only [nz]; omega, by simp only [nz]; omega, by simp only [nz]; omega⟩ hs
    have hc : sumV (tabOf t c) = _ := W.cutSum (rest := [a, b]) T
    show CutOk ties [ofT tw a, ofT tw b, ofT tw c] (sumV (tabOf t c))
    rw [hc]
    simp only [List.map_cons, List.map_nil, List.sum_cons, List.sum_nil, Int.add_zero, nz, Int.zero_add] at this ⊢
    exact this
  | [a, b, c, e], _, _ =>
    have l1 : pullOf ties (ofT tw c) (aheadOf tw [a]) ≤ pullOf ties (ofT tw b) (aheadOf tw [a]) := le (k := 1) (j := 2) (by decide) (by decide) (show 2 < _ from by simp)
    have l2 : pullOf ties (ofT tw e) (aheadOf tw [a]) ≤ pullOf ties (ofT tw b) (aheadOf tw [a]) := le (k := 1) (j := 3) (by decide) (by decide) (show 3 < _ from by simp)
    have l3 : pullOf ties (ofT tw e) (aheadOf tw ([a] ++ [b])) ≤ pullOf ties (ofT tw c) (aheadOf tw ([a] ++ [b])) := le (k := 2) (j := 3) (by decide) (by decide) (show 3 < _ from by simp)
    rw [ahead_snoc, ahead1, pull_app2, pull_app2] at l3
    rw [ahead1] at l1 l2
    have := cut4 O (hpl a (by simp)) (hpl b (by simp)) (hpl c (by simp)) (hpl e (by simp)) ⟨by simp only [nz]; omega, by simp only [nz]; omega, by simp only [nz]; omega⟩ hs
    have hc : sumV (tabOf t e) = _ := W.cutSum (rest := [a, b, c]) T
    show CutOk ties [ofT tw a, ofT tw b, ofT tw c, ofT tw e] (sumV (tabOf t e))
    rw [hc]
    simp only [List.map_cons, List.map_nil, List.sum_cons, List.sum_nil, Int.add_zero, nz, Int.zero_add, Int.add_assoc] at this ⊢
    exact this
  | [a, b, c, e, f], _, _ =>
    have l1 : pullOf ties (ofT tw c) (aheadOf tw [a]) ≤ pullOf ties (ofT tw b) (aheadOf tw [a]) := le (k := 1) (j := 2) (by decide) (by decide) (show 2 < _ from by simp)
    have l2 : pullOf ties (ofT tw e) (aheadOf tw [a]) ≤ pullOf ties (ofT tw b) (aheadOf tw [a]) := le (k := 1) (j := 3) (by decide) (by decide) (show 3 < _ from by simp)
    have l3 : pullOf ties (ofT tw f) (aheadOf tw [a]) ≤ pullOf ties (ofT tw b) (aheadOf tw [a]) := le (k := 1) (j := 4) (by decide) (by decide) (show 4 < _ from by simp)
    have l4 : pullOf ties (ofT tw e) (aheadOf tw ([a] ++ [b])) ≤ pullOf ties (ofT tw c) (aheadOf tw ([a] ++ [b])) := le (k := 2) (j := 3) (by decide) (by decide) (show 3 < _ from by simp)
    have l5 : pullOf ties (ofT tw f) (aheadOf tw ([a] ++ [b])) ≤ pullOf ties (ofT tw c) (aheadOf tw ([a] ++ [b])) := le (k := 2) (j := 4) (by decide) (by decide) (show 4 < _ from by simp)
    have l6 : pullOf ties (ofT tw f) (aheadOf tw ([a, b] ++ [c])) ≤ pullOf ties (ofT tw e) (aheadOf tw ([a, b] ++ [c])) := le (k := 3) (j := 4) (by decide) (by decide) (show 4 < _ from by simp)
    rw [ahead_snoc, show ([a, b] : List Str) = [a] ++ [b] from rfl, ahead_snoc, ahead1, pull_app2, pull_app2, pull_app2, pull_app2] at l6
    rw [ahead_snoc, ahead1, pull_app2, pull_app2] at l4 l5
    rw [ahead1] at l1 l2 l3
    have := cut5 O (hpl a (by simp)) (hpl b (by simp)) (hpl c (by simp)) (hpl e (by simp)) (hpl f (by simp)) ⟨⟨l1, l2, l3⟩, ⟨l4, l5⟩, l6⟩ hs
    have hc : sumV (tabOf t f) = _ := W.cutSum (rest := [a, b, c, e]) T
    show CutOk ties [ofT tw a, ofT tw b, ofT tw c, ofT tw e, ofT tw f] (sumV (tabOf t f))
    rw [hc]
    simp only [List.map_cons, List.map_nil, List.sum_cons, List.sum_nil, Int.add_zero, Int.add_assoc] at this ⊢
    exact this
end Mine
end

section
open PySem PySem.W PyProof.Rows
set_option autoImplicit false
namespace Mine
variable {ties : List (List Int)} {texts : List Str} {t : Tab} {tw : Tw}
noncomputable def outOf (a b : Str) (x : Str) : Bool := !decide (x ∈ [a, b])
theorem outOf_iff {a b x : Str} : outOf a b x = true ↔ x ≠ a ∧ x ≠ b := by
  unfold outOf
  rw [Bool.not_eq_true', decide_eq_false_iff_not, List.mem_cons, List.mem_singleton, not_or]
structure Pair (tw : Tw) (a b : Str) : Prop where
  ha : a ∈ tw.map (·.1)
  hb : b ∈ tw.map (·.1)
  ne : a ≠ b
theorem World.get (W : World ties texts t tw) {a : Str} (h : a ∈ tw.map (·.1)) : dget t a = some (tabOf t a) ∧ ((tabOf t a).map (·.1)).Nodup ∧ (∀ k, k ∈ (tabOf t a).map (·.1) ↔ k ∈ tw.map (·.1) ∧ k ≠ a) ∧ ∀ b ∈ tw.map (·.1), b ≠ a → atI (tabOf t a) b = pullOf ties (ofT tw a) (ofT tw b) := by
  obtain ⟨l, hl, hn, hk, hv⟩ := W.tab.has a h
  have e : tabOf t a = l := by unfold tabOf; rw [hl]; rfl
  rw [e]; exact ⟨hl, hn, hk, hv⟩
theorem base_keys (W : World ties texts t tw) {a b : Str} (P : Pair tw a b) (k : Str) : k ∈ (meltBase t a b).map (·.1) ↔ k ∈ tw.map (·.1) ∧ k ≠ a ∧ k ≠ b := by
  unfold meltBase without
  show k ∈ ((addC (tabOf t a) (tabOf t b)).filter fun q => outOf a b q.1).map (·.1) ↔ _
  rw [filter_keys _ (outOf a b), addC_keys, (W.get P.ha).2.2.1, (W.get P.hb).2.2.1, outOf_iff]
  constructor
  · rintro ⟨h | h, h2⟩
    · exact ⟨h.1, h2⟩
    · exact ⟨h.1, h2⟩
  · rintro ⟨h, h2⟩; exact ⟨.inl ⟨h, h2.1⟩, h2⟩
theorem base_nodup (a b : Str) : ((meltBase t a b).map (·.1)).Nodup := filter_nodup _ (addC_nodup _ _)
theorem World.meltOk (W : World ties texts t tw) {a b : Str} (P : Pair tw a b) (name : Str) : MeltOk t a b name :=
  ⟨⟨_, (W.get P.ha).1, W.tableLen P.ha⟩, ⟨_, (W.get P.hb).1, W.tableLen P.hb⟩, fun o ho => by
    obtain ⟨h1, h2, h3⟩ := (base_keys W P o).mp ho
    obtain ⟨g1, g2, g3, _⟩ := W.get h1
    obtain ⟨u, hu⟩ := dget_isSome ((g3 a).mpr ⟨P.ha, fun q => h2 q.symm⟩)
    obtain ⟨v, hv⟩ := dget_isSome ((g3 b).mpr ⟨P.hb, fun q => h3 q.symm⟩)
    exact ⟨_, g1, W.tableLen h1, g2, by rw [hu]; rfl, by rw [hv]; rfl⟩⟩
noncomputable def meltRow (t : Tab) (a b name o : Str) : List (Str × Int) := addC (without (tabOf t o) a b) (addC [(name, atI (tabOf t o) a)] [(name, atI (tabOf t o) b)])
theorem meltOf_eq {a b name : Str} (h : name ∉ (meltBase t a b).map (·.1)) : meltOf t a b name = (name, meltBase t a b) :: ((meltBase t a b).map (·.1)).map fun o => (o, meltRow t a b name o) := by
  have := dputs_fresh (fun x : Str => x) (meltRow t a b name) ((meltBase t a b).map (·.1)) [(name, meltBase t a b)] (by
    rw [List.map_id']
    show (name :: _).Nodup
    exact List.nodup_cons.mpr ⟨h, base_nodup a b⟩)
  exact this
noncomputable def meltTw (tw : Tw) (a b name : Str) : Tw := tw.filter (fun q => outOf a b q.1) ++ [(name, ofT tw a ++ ofT tw b)]
theorem twf_keys (tw : Tw) (a b : Str) (x : Str) : x ∈ (tw.filter fun q => outOf a b q.1).map (·.1) ↔ x ∈ tw.map (·.1) ∧ x ≠ a ∧ x ≠ b := by
  rw [← outOf_iff]
  constructor
  · intro h
    obtain ⟨q, hq, rfl⟩ := List.mem_map.mp h
    obtain ⟨h1, h2⟩ := List.mem_filter.mp hq
    exact ⟨List.mem_map.mpr ⟨q, h1, rfl⟩, h2⟩
  · rintro ⟨h1, h2⟩
    obtain ⟨q, hq, rfl⟩ := List.mem_map.mp h1
    exact List.mem_map.mpr ⟨q, List.mem_filter.mpr ⟨hq, h2⟩, rfl⟩
theorem pair_split (nm : (tw.map (·.1)).Nodup) {a b : Str} (P : Pair tw a b) : tw.Perm (tw.filter (fun q => outOf a b q.1) ++ [(a, ofT tw a), (b, ofT tw b)]) := by
  have nd : tw.Nodup := List.Pairwise.of_map (·.1) (fun x y h e => h (by rw [e])) nm
  have hof : ∀ {x}, x ∈ tw.map (·.1) → (x, ofT tw x) ∈ tw := fun {x} hx => by
    obtain ⟨q, hq, rfl⟩ := List.mem_map.mp hx
    rw [ofT_mem nm hq]; exact hq
  refine (List.perm_ext_iff_of_nodup nd ?_).mpr fun q => ?_
  · rw [List.nodup_append]
    refine ⟨nd.sublist List.filter_sublist, ?_, fun x hx y hy e => ?_⟩
    · simp [P.ne]
    · have h1 := outOf_iff.mp (List.mem_filter.mp hx).2
      rw [e] at h1
      rcases List.mem_cons.mp hy with rfl | hy
      · exact h1.1 rfl
      · rw [List.mem_singleton.mp hy] at h1; exact h1.2 rfl
  · rw [List.mem_append]
    constructor
    · intro h
      by_cases hq : outOf a b q.1 = true
      · exact .inl (List.mem_filter.mpr ⟨h, hq⟩)
      · refine .inr ?_
        by_cases e : q.1 = a
        · have := ofT_mem nm h
          rw [e] at this
          rw [this, ← e]; exact .head _
        · by_cases e2 : q.1 = b
          · have := ofT_mem nm h
            rw [e2] at this
            rw [this, ← e2]; exact .tail _ (.head _)
          · exact absurd (outOf_iff.mpr ⟨e, e2⟩) hq
    · rintro (h | h)
      · exact (List.mem_filter.mp h).1
      · rcases List.mem_cons.mp h with rfl | h
        · exact hof P.ha
        · rw [List.mem_singleton.mp h]; exact hof P.hb
theorem World.apart (W : World ties texts t tw) {q r : Str × List Int} (hq : q ∈ tw) (hr : r ∈ tw) (h : q.1 ≠ r.1) : ∀ p ∈ q.2, p ∉ r.2 := fun p h1 h2 => by
  have nd : (tw.flatMap (·.2)).Nodup := W.part.nodup_iff.mpr upto5_nodup
  have hp := pair_split W.nm ⟨List.mem_map.mpr ⟨q, hq, rfl⟩, List.mem_map.mpr ⟨r, hr, rfl⟩, h⟩
  have nd2 := (hp.flatMap_right (·.2)).nodup_iff.mp nd
  rw [List.flatMap_append, List.nodup_append] at nd2
  have := nd2.2.1
  rw [ofT_mem W.nm hq, ofT_mem W.nm hr] at this
  simp only [List.flatMap_cons, List.flatMap_nil, List.append_nil] at this
  rw [List.nodup_append] at this
  exact this.2.2 p h1 p h2 rfl
theorem World.newName (X : TextsOk texts) (W : World ties texts t tw) {a b : Str} (P : Pair tw a b) : nameOf texts (ofT tw a ++ ofT tw b) ∉ (tw.filter fun q => outOf a b q.1).map (·.1) := fun h => by
  obtain ⟨q, hq, e⟩ := List.mem_map.mp h
  obtain ⟨h1, h2⟩ := List.mem_filter.mp hq
  obtain ⟨ha, hb⟩ := outOf_iff.mp h2
  obtain ⟨qa, hqa, ea⟩ := List.mem_map.mp P.ha
  have hoa : ofT tw a = qa.2 := by rw [← ea]; exact ofT_mem W.nm hqa
  have hne := W.ne qa hqa
  rw [W.name q h1] at e
  obtain ⟨p, hp⟩ := List.exists_mem_of_ne_nil _ hne
  have hpl := W.tab.pl a P.ha
  have hpb := W.tab.pl b P.hb
  have hpp := W.places hqa p hp
  have hl : codeL p.toNat ∈ (nameOf texts (ofT tw a ++ ofT tw b)).cps.toList := (name_letter X (fun x hx => (List.mem_append.mp hx).elim (hpl x) (hpb x)) hpp).mpr (List.mem_append_left _ (hoa ▸ hp))
  rw [← e] at hl
  have := (name_letter X (W.places h1) hpp).mp hl
  exact W.apart hqa h1 (fun q' => ha (by rw [← q', ea])) p hp this
theorem ofT_app_left {l m : Tw} {x : Str} (h : x ∈ l.map (·.1)) : ofT (l ++ m) x = ofT l x := by
  obtain ⟨v, hv⟩ := dget_isSome h
  unfold ofT
  unfold dget at hv ⊢
  rw [List.find?_append]
  obtain ⟨q, hq, _⟩ := Option.map_eq_some_iff.mp hv
  rw [hq]; rfl
theorem ofT_app_right {l : Tw} {x : Str} {v : List Int} (h : x ∉ l.map (·.1)) : ofT (l ++ [(x, v)]) x = v := by
  have := dget_none h
  unfold ofT
  unfold dget at this ⊢
  rw [List.find?_append, Option.map_eq_none_iff.mp this, List.find?_cons, decide_eq_true rfl]; rfl
theorem ofT_filter {a b x : Str} (nm : (tw.map (·.1)).Nodup) (h : x ∈ (tw.filter fun q => outOf a b q.1).map (·.1)) : ofT (tw.filter fun q => outOf a b q.1) x = ofT tw x := by
  obtain ⟨q, hq, rfl⟩ := List.mem_map.mp h
  rw [ofT_mem (nm.sublist (List.Sublist.map _ List.filter_sublist)) hq, ofT_mem nm (List.mem_filter.mp hq).1]
end Mine
end

section
open PySem PySem.W PyProof.Rows
set_option autoImplicit false
namespace Mine
variable {ties : List (List Int)} {texts : List Str} {t : Tab} {tw : Tw}
theorem pull_places {l m : List Int} (h : Places l) (h' : Places m) : Places (l ++ m) := fun p hp => (List.mem_append.mp hp).elim (h p) (h' p)
theorem melt_keys (tw : Tw) (a b name : Str) : (meltTw tw a b name).map (·.1) = (tw.filter fun q => outOf a b q.1).map (·.1) ++ [name] := by
  unfold meltTw; rw [List.map_append]; rfl
theorem World.melt (O : TiesOk ties) (X : TextsOk texts) (W : World ties texts t tw) {a b : Str} (P : Pair tw a b) {name : Str} (hname : name = nameOf texts (ofT tw a ++ ofT tw b)) : World ties texts (meltOf t a b name) (meltTw tw a b name) := by
  have hnew : name ∉ (tw.filter fun q => outOf a b q.1).map (·.1) := by rw [hname]; exact W.newName X P
  have hkf : ∀ k, k ∈ (meltBase t a b).map (·.1) ↔ k ∈ (tw.filter fun q => outOf a b q.1).map (·.1) := fun k => by rw [base_keys W P, twf_keys]
  have hnb : name ∉ (meltBase t a b).map (·.1) := fun h => hnew ((hkf name).mp h)
  have fnd : ((tw.filter fun q => outOf a b q.1).map (·.1)).Nodup := W.nm.sublist (List.Sublist.map _ List.filter_sublist)
  have nm' : ((meltTw tw a b name).map (·.1)).Nodup := by
    rw [melt_keys, List.nodup_append]
    exact ⟨fnd, by simp, fun x hx y hy e => by rw [List.mem_singleton.mp hy] at e; exact hnew (e ▸ hx)⟩
  have hmem : ∀ k, k ∈ (meltTw tw a b name).map (·.1) ↔ (k ∈ tw.map (·.1) ∧ k ≠ a ∧ k ≠ b) ∨ k = name := fun k => by
    rw [melt_keys, List.mem_append, twf_keys, List.mem_singleton]
  obtain ⟨ga1, ga2, ga3, ga4⟩ := W.get P.ha
  obtain ⟨gb1, gb2, gb3, gb4⟩ := W.get P.hb
  have pa := W.tab.pl a P.ha
  have pb := W.tab.pl b P.hb
  have of1 : ofT (meltTw tw a b name) name = ofT tw a ++ ofT tw b := ofT_app_right hnew
  have of2 : ∀ k, k ∈ tw.map (·.1) → k ≠ a → k ≠ b → ofT (meltTw tw a b name) k = ofT tw k := fun k h1 h2 h3 => by
    have := (twf_keys tw a b k).mpr ⟨h1, h2, h3⟩
    unfold meltTw
    rw [ofT_app_left this, ofT_filter W.nm this]
  have hne_a : ofT tw a ≠ [] := by
    obtain ⟨q, hq, e⟩ := List.mem_map.mp P.ha
    rw [← e, ofT_mem W.nm hq]; exact W.ne q hq
  refine ⟨nm', ?_, ?_, ?_, ?_, nm', fun k hk => ?_, fun k hk => ?_⟩
  · have h1 := (pair_split W.nm P).flatMap_right (fun q : Str × List Int => q.2)
    refine List.Perm.trans ?_ (h1.symm.trans W.part)
    unfold meltTw
    rw [List.flatMap_append, List.flatMap_append]
    simp only [List.flatMap_cons, List.flatMap_nil, List.append_nil]
    exact List.Perm.refl _
  · intro q hq
    rcases List.mem_append.mp hq with h | h
    · exact W.ne q (List.mem_filter.mp h).1
    · rw [List.mem_singleton.mp h]
      exact fun e => hne_a (List.append_eq_nil_iff.mp e).1
  · intro q hq
    rcases List.mem_append.mp hq with h | h
    · exact W.name q (List.mem_filter.mp h).1
    · rw [List.mem_singleton.mp h]; exact hname
  · rw [meltOf_eq hnb, melt_keys, List.map_cons, List.map_map]
    have h1 : (((meltBase t a b).map (·.1)).map ((fun x : Str × List (Str × Int) => x.1) ∘ fun o => (o, meltRow t a b name o))).Perm ((tw.filter fun q => outOf a b q.1).map (·.1)) := by
      rw [show ((fun x : Str × List (Str × Int) => x.1) ∘ fun o => (o, meltRow t a b name o)) = fun o => o from rfl, List.map_id']
      exact (List.perm_ext_iff_of_nodup (base_nodup a b) fnd).mpr hkf
    exact (h1.cons name).trans (List.perm_append_singleton _ _).symm
  · rcases (hmem k).mp hk with ⟨h1, h2, h3⟩ | h
    · rw [of2 k h1 h2 h3]; exact W.tab.pl k h1
    · rw [h, of1]; exact pull_places pa pb
  · rw [meltOf_eq hnb]
    rcases (hmem k).mp hk with ⟨h1, h2, h3⟩ | h
    · obtain ⟨g1, g2, g3, g4⟩ := W.get h1
      have hkn : k ≠ name := fun e => hnew (by rw [← e]; exact (twf_keys tw a b k).mpr ⟨h1, h2, h3⟩)
      have hkb : k ∈ (meltBase t a b).map (·.1) := (hkf k).mpr ((twf_keys tw a b k).mpr ⟨h1, h2, h3⟩)
      have hwn : ((without (tabOf t k) a b).map (·.1)).Nodup := filter_nodup _ g2
      have hpn := addC_nodup [(name, atI (tabOf t k) a)] [(name, atI (tabOf t k) b)]
      refine ⟨meltRow t a b name k, ?_, addC_nodup _ _, fun x => ?_, fun x hx hxk => ?_⟩
      · have : (k, meltRow t a b name k) ∈ (name, meltBase t a b) :: ((meltBase t a b).map (·.1)).map fun o => (o, meltRow t a b name o) := .tail _ (List.mem_map.mpr ⟨k, hkb, rfl⟩)
        refine dget_mem (q := (k, meltRow t a b name k)) ?_ this
        rw [List.map_cons, List.map_map, List.nodup_cons]
        exact ⟨by rw [show ((fun x : Str × List (Str × Int) => x.1) ∘ fun o => (o, meltRow t a b name o)) = fun o => o from rfl, List.map_id']; exact hnb, by rw [show ((fun x : Str × List (Str × Int) => x.1) ∘ fun o => (o, meltRow t a b name o)) = fun o => o from rfl, List.map_id']; exact base_nodup a b⟩
      · unfold meltRow
        rw [addC_keys, addC_keys, hmem]
        show (x ∈ ((tabOf t k).filter fun q => outOf a b q.1).map (·.1) ∨ _) ↔ _
        rw [filter_keys _ (outOf a b), g3, outOf_iff]
        simp only [List.map_cons, List.map_nil, List.mem_singleton, or_self]
        constructor
        · rintro (⟨⟨r1, r2⟩, r3⟩ | r)
          · exact ⟨.inl ⟨r1, r3⟩, r2⟩
          · exact ⟨.inr r, fun e => hkn (e ▸ r)⟩
        · rintro ⟨⟨r1, r2⟩ | r, r3⟩
          · exact .inl ⟨⟨r1, r3⟩, r2⟩
          · exact .inr r
      · unfold meltRow
        rw [addC_at hwn hpn, addC_at (by simp) (by simp), of2 k h1 h2 h3]
        have hs : ∀ v : Int, atI [(name, v)] x = if x = name then v else 0 := fun v => by
          have := atI_dput [] name v x
          show atI [(name, v)] x = _
          rw [show dput ([] : List (Str × Int)) name v = [(name, v)] from rfl] at this
          rw [this]; rfl
        rw [hs, hs]
        rcases (hmem x).mp hx with ⟨r1, r2, r3⟩ | r
        · have hxn : x ≠ name := fun e => hnew (by rw [← e]; exact (twf_keys tw a b x).mpr ⟨r1, r2, r3⟩)
          rw [if_neg hxn, if_neg hxn, of2 x r1 r2 r3]
          show atI ((tabOf t k).filter fun q => outOf a b q.1) x + _ = _
          rw [filter_at (outOf a b) (outOf_iff.mpr ⟨r2, r3⟩), g4 x r1 hxk]; omega
        · have hno : x ∉ (without (tabOf t k) a b).map (·.1) := fun hm => by
            have hm' : x ∈ ((tabOf t k).filter fun q => outOf a b q.1).map (·.1) := hm
            rw [filter_keys _ (outOf a b), g3, outOf_iff] at hm'
            exact hnew (by rw [← r]; exact (twf_keys tw a b x).mpr ⟨hm'.1.1, hm'.2⟩)
          rw [if_pos r, if_pos r, atI_none hno, r, of1, pull_app2, g4 a P.ha (fun e => h2 e.symm), g4 b P.hb (fun e => h3 e.symm)]; omega
    · refine ⟨meltBase t a b, ?_, base_nodup a b, fun x => ?_, fun x hx hxk => ?_⟩
      · unfold dget; rw [List.find?_cons, decide_eq_true h.symm]; rfl
      · rw [base_keys W P, hmem, h]
        constructor
        · intro r
          exact ⟨.inl r, fun e => hnew (by rw [← e]; exact (twf_keys tw a b x).mpr r)⟩
        · rintro ⟨r | r, r2⟩
          · exact r
          · exact absurd r r2
      · rcases (hmem x).mp hx with ⟨r1, r2, r3⟩ | r
        · rw [h, of1, of2 x r1 r2 r3, pull_app]
          show atI ((addC (tabOf t a) (tabOf t b)).filter fun q => outOf a b q.1) x = _
          rw [filter_at (outOf a b) (outOf_iff.mpr ⟨r2, r3⟩), addC_at ga2 gb2, ga4 x r1 r2, gb4 x r1 r3]
        · exact absurd (r.trans h.symm) hxk
end Mine
end

section
open PySem PySem.W PyProof.Rows
set_option autoImplicit false
namespace Mine
variable {texts : List Str} {walks : List W1}
theorem unlike_comm_len (v w : W1) : (unlike v w).length = (unlike w v).length := by
  unfold unlike
  rw [List.length_map, List.length_map, Int.max_comm v.2 w.2]
  congr 1
  refine List.filter_congr fun k _ => ?_
  exact bne_comm
theorem tieOf_comm (v w : W1) : tieOf v w = tieOf w v := by
  unfold tieOf; rw [unlike_comm_len, Int.max_comm]
theorem tieOf_pos (v w : W1) (h : 0 ≤ max v.2 w.2) : 0 ≤ tieOf v w := by
  have : (unlike v w).length ≤ (max v.2 w.2).toNat := by
    unfold unlike
    rw [List.length_map]
    refine Nat.le_trans (List.length_filter_le _ _) ?_
    rw [upto_len]; omega
  unfold tieOf; omega
noncomputable def tiesOf (walks : List W1) : List (List Int) := walks.map fun v => walks.map fun w => tieOf v w
theorem tieAt_of (h : walks.length = 5) {i j : Int} (hi : 0 ≤ i ∧ i < 5) (hj : 0 ≤ j ∧ j < 5) : tieAt (tiesOf walks) i j = tieIJ walks i j := by
  unfold tieAt tiesOf tieIJ
  have h1 : i.toNat < walks.length := by omega
  have h2 : j.toNat < walks.length := by omega
  simp only [List.getD_eq_getElem?_getD, List.getElem?_map, List.getElem?_eq_getElem h1, List.getElem?_eq_getElem h2, Option.map_some, Option.getD_some]
theorem tiesOk (h : walks.length = 5) (hw : ∀ v ∈ walks, 1 ≤ v.2) : TiesOk (tiesOf walks) := by
  refine ⟨⟨by unfold tiesOf; rw [List.length_map]; exact h, fun r hr => ?_⟩, fun p q h1 h2 h3 h4 => ?_, fun p q h1 h2 h3 h4 => ?_⟩
  · obtain ⟨v, _, rfl⟩ := List.mem_map.mp hr
    rw [List.length_map]; exact h
  · rw [tieAt_of h ⟨h1, h2⟩ ⟨h3, h4⟩, tieAt_of h ⟨h3, h4⟩ ⟨h1, h2⟩]; exact tieOf_comm _ _
  · rw [tieAt_of h ⟨h1, h2⟩ ⟨h3, h4⟩]
    refine tieOf_pos _ _ ?_
    have := hw _ (getDw_mem (l := walks) (i := p.toNat) (by omega))
    omega
theorem tabOf_dput (t : Tab) (k : Str) (v : List (Str × Int)) (x : Str) : tabOf (dput t k v) x = if x = k then v else tabOf t x := by
  unfold tabOf; rw [dget_dput]; split <;> rfl
structure Steps (texts : List Str) (walks : List W1) (L : List (Int × Int)) (t : Tab) : Prop where
  keys : t.map (·.1) = texts
  nd : ∀ x ∈ texts, ((tabOf t x).map (·.1)).Nodup
  sub : ∀ x ∈ texts, ∀ k ∈ (tabOf t x).map (·.1), k ∈ texts
  has : ∀ i j : Int, (0 ≤ i ∧ i < 5) → (0 ≤ j ∧ j < 5) → (txt texts j ∈ (tabOf t (txt texts i)).map (·.1) ↔ (i, j) ∈ L ∨ (j, i) ∈ L)
  val : ∀ i j : Int, (0 ≤ i ∧ i < 5) → (0 ≤ j ∧ j < 5) → (i, j) ∈ L ∨ (j, i) ∈ L → atI (tabOf t (txt texts i)) (txt texts j) = tieIJ walks i j
theorem txt_inj (h5 : texts.length = 5) (nd : texts.Nodup) {i j : Int} (hi : 0 ≤ i ∧ i < 5) (hj : 0 ≤ j ∧ j < 5) (h : txt texts i = txt texts j) : i = j := by
  unfold txt at h
  have h1 : i.toNat < texts.length := by omega
  have h2 : j.toNat < texts.length := by omega
  rw [List.getD_eq_getElem?_getD, List.getD_eq_getElem?_getD, List.getElem?_eq_getElem h1, List.getElem?_eq_getElem h2, Option.getD_some, Option.getD_some] at h
  refine Decidable.byContradiction fun hne => ?_
  rcases Int.lt_or_gt_of_ne hne with q | q
  · exact List.pairwise_iff_getElem.mp nd i.toNat j.toNat h1 h2 (by omega) h
  · exact List.pairwise_iff_getElem.mp nd j.toNat i.toNat h2 h1 (by omega) h.symm
theorem txt_mem (h5 : texts.length = 5) {i : Int} (hi : 0 ≤ i ∧ i < 5) : txt texts i ∈ texts := getD_mem' (by omega)
theorem Steps.next (h5 : texts.length = 5) (ndt : texts.Nodup) {L : List (Int × Int)} {t : Tab} (S : Steps texts walks L t) {i j : Int} (hi : 0 ≤ i ∧ i < 5) (hj : 0 ≤ j ∧ j < 5) (hij : i ≠ j) (n1 : (i, j) ∉ L) (n2 : (j, i) ∉ L) : Steps texts walks (L ++ [(i, j)]) (tabCol texts walks i t j) := by
  have mi := txt_mem h5 hi
  have mj := txt_mem h5 hj
  have hne : txt texts j ≠ txt texts i := fun e => hij (txt_inj h5 ndt hi hj e.symm)
  generalize hc : tieIJ walks i j = c
  have ht : ∀ x, tabOf (tabCol texts walks i t j) x = if x = txt texts j then addC (tabOf t (txt texts j)) [(txt texts i, c)] else if x = txt texts i then addC (tabOf t (txt texts i)) [(txt texts j, c)] else tabOf t x := fun x => by
    unfold tabCol tabStep
    rw [hc, tabOf_dput, tabOf_dput, tabOf_dput, if_neg hne]
  have hcs : tieIJ walks j i = c := by rw [← hc]; exact tieOf_comm _ _
  refine ⟨?_, fun x hx => ?_, fun x hx k hk => ?_, fun p q hp hq => ?_, fun p q hp hq hL => ?_⟩
  · unfold tabCol tabStep
    dsimp only
    rw [dput_same, dput_same, S.keys]
    · rw [S.keys]; exact mi
    · rw [dput_same _ (by rw [S.keys]; exact mi), S.keys]; exact mj
  · rw [ht]; split
    · exact addC_nodup _ _
    · split
      · exact addC_nodup _ _
      · exact S.nd x hx
  · rw [ht] at hk
    split at hk
    · rcases (addC_keys _ _ _).mp hk with r | r
      · exact S.sub _ mj k r
      · simp at r; rw [r]; exact mi
    · split at hk
      · rcases (addC_keys _ _ _).mp hk with r | r
        · exact S.sub _ mi k r
        · simp at r; rw [r]; exact mj
      · exact S.sub x hx k hk
  · rw [ht]
    have inj : ∀ {a b : Int}, (0 ≤ a ∧ a < 5) → (0 ≤ b ∧ b < 5) → (txt texts a = txt texts b ↔ a = b) := fun ha hb => ⟨txt_inj h5 ndt ha hb, fun e => by rw [e]⟩
    have h0 := S.has p q hp hq
    simp only [List.mem_append, List.mem_singleton, Prod.mk.injEq]
    by_cases e1 : p = j
    · rw [if_pos (by rw [e1]), addC_keys, ← e1, h0]
      simp only [List.map_cons, List.map_nil, List.mem_singleton, inj hq hi]
      constructor
      · rintro ((r | r) | r)
        · exact .inl (.inl r)
        · exact .inr (.inl r)
        · exact .inr (.inr ⟨r, trivial⟩)
      · rintro ((r | r) | (r | r))
        · exact .inl (.inl r)
        · exact absurd (r.1.symm.trans e1) hij
        · exact .inl (.inr r)
        · exact .inr r.1
    · rw [if_neg (fun r => e1 ((inj hp hj).mp r))]
      by_cases e2 : p = i
      · rw [if_pos (by rw [e2]), addC_keys, ← e2, h0]
        simp only [List.map_cons, List.map_nil, List.mem_singleton, inj hq hj]
        constructor
        · rintro ((r | r) | r)
          · exact .inl (.inl r)
          · exact .inr (.inl r)
          · exact .inl (.inr ⟨trivial, r⟩)
        · rintro ((r | r) | (r | r))
          · exact .inl (.inl r)
          · exact .inr r.2
          · exact .inl (.inr r)
          · exact absurd r.2 e1
      · rw [if_neg (fun r => e2 ((inj hp hi).mp r)), h0]
        constructor
        · rintro (r | r)
          · exact .inl (.inl r)
          · exact .inr (.inl r)
        · rintro ((r | r) | (r | r))
          · exact .inl r
          · exact absurd r.1 e2
          · exact .inr r
          · exact absurd r.2 e1
  · have hs : ∀ (y : Str) (v : Int) (x : Str), atI [(y, v)] x = if x = y then v else 0 := fun y v x => by
      have := atI_dput [] y v x
      rw [show dput ([] : List (Str × Int)) y v = [(y, v)] from rfl] at this
      rw [this]; rfl
    have h0 := S.val p q hp hq
    have hz : ¬ ((p, q) ∈ L ∨ (q, p) ∈ L) → atI (tabOf t (txt texts p)) (txt texts q) = 0 := fun h => atI_none fun hm => h ((S.has p q hp hq).mp hm)
    rw [ht]
    simp only [List.mem_append, List.mem_singleton, Prod.mk.injEq] at hL
    by_cases e1 : p = j
    · rw [if_pos (by rw [e1]), addC_at (S.nd _ mj) (by simp), hs, ← e1]
      by_cases e3 : q = i
      · rw [if_pos (by rw [e3]), hz (by rw [e1, e3]; exact fun r => r.elim n2 n1), e1, e3, hcs]; omega
      · rw [if_neg fun r => e3 (txt_inj h5 ndt hq hi r), h0]
        · omega
        · rcases hL with (r | r) | (r | r)
          · exact .inl r
          · exact absurd (r.1.symm.trans e1) hij
          · exact .inr r
          · exact absurd r.1 e3
    · rw [if_neg (fun r => e1 (txt_inj h5 ndt hp hj r))]
      by_cases e2 : p = i
      · rw [if_pos (by rw [e2]), addC_at (S.nd _ mi) (by simp), hs, ← e2]
        by_cases e3 : q = j
        · rw [if_pos (by rw [e3]), hz (by rw [e2, e3]; exact fun r => r.elim n1 n2), e2, e3, hc]; omega
        · rw [if_neg fun r => e3 (txt_inj h5 ndt hq hj r), h0]
          · omega
          · rcases hL with (r | r) | (r | r)
            · exact .inl r
            · exact absurd r.2 e3
            · exact .inr r
            · exact absurd r.2 e1
      · rw [if_neg (fun r => e2 (txt_inj h5 ndt hp hi r))]
        refine h0 ?_
        rcases hL with (r | r) | (r | r)
        · exact .inl r
        · exact absurd r.1 e2
        · exact .inr r
        · exact absurd r.2 e1
noncomputable def pairs5 : List (Int × Int) := (upto 0 5).flatMap fun i => (upto 0 i).map fun j => (i, j)
theorem pairs5_all : ∀ i j : Fin 5, (decide ((((i : Nat) : Int), ((j : Nat) : Int)) ∈ pairs5) || decide ((((j : Nat) : Int), ((i : Nat) : Int)) ∈ pairs5)) = decide (i ≠ j) := by decide +kernel
theorem Steps.fold (h5 : texts.length = 5) (ndt : texts.Nodup) : ∀ (L2 L1 : List (Int × Int)) (t : Tab), (L1 ++ L2).Nodup → (∀ p ∈ L1 ++ L2, 0 ≤ p.2 ∧ p.2 < p.1 ∧ p.1 < 5) → Steps texts walks L1 t → Steps texts walks (L1 ++ L2) (L2.foldl (fun t p => tabCol texts walks p.1 t p.2) t)
  | [], L1, t, _, _, S => by rw [List.append_nil]; exact S
  | (i, j) :: L2, L1, t, nd, h, S => by
    have hp : 0 ≤ j ∧ j < i ∧ i < 5 := h (i, j) (List.mem_append_right _ (.head _))
    have nd' := nd
    rw [List.nodup_append] at nd'
    have S' := S.next h5 ndt (i := i) (j := j) ⟨by omega, hp.2.2⟩ ⟨hp.1, by omega⟩ (by omega) (fun hm => nd'.2.2 _ hm _ (.head _) rfl) (fun hm => by
      have : 0 ≤ i ∧ i < j ∧ j < 5 := h (j, i) (List.mem_append_left _ hm)
      omega)
    have := Steps.fold h5 ndt L2 (L1 ++ [(i, j)]) _ (by rw [List.append_assoc]; exact nd) (by rw [List.append_assoc]; exact h) S'
    rw [List.append_assoc] at this; exact this
theorem tabsOf_fold (texts : List Str) (walks : List W1) : tabsOf texts walks = pairs5.foldl (fun t p => tabCol texts walks p.1 t p.2) (tabs0 texts) := by
  unfold pairs5
  rw [List.foldl_flatMap]
  unfold tabsOf
  congr 1
  funext t i
  rw [List.foldl_map]; rfl
theorem Steps.start (ndt : texts.Nodup) : Steps texts walks [] (tabs0 texts) := by
  have h0 : ∀ x, tabOf (tabs0 texts) x = [] := fun x => by
    unfold tabOf tabs0
    cases e : dget (texts.map fun x => (x, ([] : List (Str × Int)))) x with
    | none => rfl
    | some v =>
      obtain ⟨q, _, e'⟩ := List.mem_map.mp (dget_in e)
      cases e'; rfl
  refine ⟨by unfold tabs0; rw [List.map_map]; exact List.map_id' _, fun x _ => by rw [h0]; exact .nil, fun x _ k hk => by rw [h0] at hk; simp at hk, fun i j _ _ => by rw [h0]; simp, fun i j _ _ h => by simp at h⟩
theorem steps_all (h5 : texts.length = 5) (ndt : texts.Nodup) : Steps texts walks pairs5 (tabsOf texts walks) := by
  rw [tabsOf_fold]
  exact Steps.fold h5 ndt pairs5 [] _ (by decide) (by decide) (.start ndt)
noncomputable def tw0 (texts : List Str) : Tw := (upto 0 5).map fun k => (txt texts k, [k])
theorem texts_are (h5 : texts.length = 5) : (upto 0 5).map (txt texts) = texts := by
  match texts, h5 with
  | [a, b, c, d, e], _ => rfl
theorem tw0_keys (h5 : texts.length = 5) : (tw0 texts).map (·.1) = texts := by
  unfold tw0; rw [List.map_map]; exact texts_are h5
theorem world0 (X : TextsOk texts) (nd : texts.Nodup) (hw : walks.length = 5) : World (tiesOf walks) texts (tabsOf texts walks) (tw0 texts) := by
  have h5 := X.len
  have S := steps_all (walks := walks) h5 nd
  have hk := tw0_keys h5
  have nm : ((tw0 texts).map (·.1)).Nodup := by rw [hk]; exact nd
  have hget : ∀ a ∈ texts, ∃ i : Int, (0 ≤ i ∧ i < 5) ∧ a = txt texts i := fun a ha => by
    rw [← texts_are h5] at ha
    obtain ⟨i, hi, rfl⟩ := List.mem_map.mp ha
    exact ⟨i, mem_upto hi, rfl⟩
  have hof : ∀ i : Int, (0 ≤ i ∧ i < 5) → ofT (tw0 texts) (txt texts i) = [i] := fun i hi => by
    refine ofT_mem (q := (txt texts i, [i])) nm (List.mem_map.mpr ⟨i, ?_, rfl⟩)
    unfold upto
    exact List.mem_map.mpr ⟨i.toNat, List.mem_range.mpr (by omega), by show (0 : Int) + (i.toNat : Int) = i; omega⟩
  have hall : ∀ i j : Int, (0 ≤ i ∧ i < 5) → (0 ≤ j ∧ j < 5) → ((i, j) ∈ pairs5 ∨ (j, i) ∈ pairs5 ↔ i ≠ j) := fun i j hi hj => by
    have := pairs5_all ⟨i.toNat, by omega⟩ ⟨j.toNat, by omega⟩
    rw [show (((⟨i.toNat, by omega⟩ : Fin 5) : Nat) : Int) = i from by show ((i.toNat : Nat) : Int) = i; omega, show (((⟨j.toNat, by omega⟩ : Fin 5) : Nat) : Int) = j from by show ((j.toNat : Nat) : Int) = j; omega] at this
    rw [← Bool.decide_or, decide_eq_decide] at this
    rw [this]
    constructor
    · intro h e; exact h (Fin.ext (by show i.toNat = j.toNat; rw [e]))
    · intro h e; have := congrArg Fin.val e; have : i.toNat = j.toNat := this; omega
  refine ⟨nm, ?_, ?_, ?_, by rw [S.keys, hk], nm, ?_, ?_⟩
  · exact List.Perm.of_eq rfl
  · intro q hq
    obtain ⟨k, _, rfl⟩ := List.mem_map.mp hq
    simp
  · intro q hq
    obtain ⟨k, _, rfl⟩ := List.mem_map.mp hq
    exact (joinT_one _).symm
  · intro a ha
    rw [hk] at ha
    obtain ⟨i, hi, rfl⟩ := hget a ha
    rw [hof i hi]
    exact fun p hp => by rw [List.mem_singleton.mp hp]; exact hi
  · intro a ha
    rw [hk] at ha ⊢
    obtain ⟨i, hi, rfl⟩ := hget a ha
    obtain ⟨l, hl⟩ := dget_isSome (l := tabsOf texts walks) (k := txt texts i) (by rw [S.keys]; exact ha)
    have e : tabOf (tabsOf texts walks) (txt texts i) = l := by unfold tabOf; rw [hl]; rfl
    refine ⟨l, hl, e ▸ S.nd _ ha, fun k => ?_, fun b hb hne => ?_⟩
    · constructor
      · intro hkl
        have hkt := S.sub _ ha k (e ▸ hkl)
        obtain ⟨j, hj, rfl⟩ := hget k hkt
        refine ⟨hkt, fun q => ?_⟩
        have := (S.has i j hi hj).mp (by rw [e]; exact hkl)
        exact (hall i j hi hj).mp this (txt_inj h5 nd hi hj q.symm)
      · rintro ⟨hkt, hne⟩
        obtain ⟨j, hj, rfl⟩ := hget k hkt
        rw [← e]
        exact (S.has i j hi hj).mpr ((hall i j hi hj).mpr fun q => hne (by rw [q]))
    · obtain ⟨j, hj, rfl⟩ := hget b hb
      have hij : i ≠ j := fun q => hne (by rw [q])
      have := S.val i j hi hj ((hall i j hi hj).mpr hij)
      rw [e] at this
      rw [this, hof i hi, hof j hj, ← tieAt_of hw hi hj]
      show _ = tieAt (tiesOf walks) i j + 0
      omega
end Mine
end

section
open PySem PySem.W PyProof.Rows
set_option autoImplicit false
set_option maxRecDepth 100000
namespace Mine
noncomputable def baseC : List (Int × Int) := [(0, 112), (1, 53), (2, 131), (3, 194), (4, 264), (5, 4)]
noncomputable def cellsOf (ns : List Int) : List Int := baseC.map fun q => q.2 + (sliceL ns (some q.1) none (some 6)).sum
theorem cells_len (ns : List Int) : (cellsOf ns).length = 6 := rfl
noncomputable def dressC (c : Int) : Int := (c.fdiv 64).fmod 6
noncomputable def tx (cells : List Int) (k : Int) : Str := textOf k.toNat (dressC (cells.getD k.toNat 0)).toNat
noncomputable def textsC (cells : List Int) : List Str := (upto 0 5).map (tx cells)
noncomputable def leadC (c : Int) : Str := leadOf (c.fmod 4) ((c.fdiv 4).fmod 4) ((c.fdiv 16).fmod 4)
noncomputable def walkC (c : Int) : W1 := walkOf (c.fmod 4) ((c.fdiv 4).fmod 4) ((c.fdiv 16).fmod 4)
theorem fmod_bounds (c : Int) {m : Int} (h : 0 < m) : 0 ≤ c.fmod m ∧ c.fmod m < m := ⟨Int.fmod_nonneg_of_pos c h, Int.fmod_lt_of_pos c h⟩
theorem leadC_ok (c : Int) : LeadOk (c.fmod 4) ((c.fdiv 4).fmod 4) ((c.fdiv 16).fmod 4) := lead_ok (fmod_bounds c (by decide)) (fmod_bounds _ (by decide)) (fmod_bounds _ (by decide))
theorem runL_bounds {a b c : Int} (ha : 0 ≤ a ∧ a < 4) (hb : 0 ≤ b ∧ b < 4) (hc : 0 ≤ c ∧ c < 4) : 0 ≤ runL a b c ∧ runL a b c ≤ 3 := by unfold runL; omega
theorem runC_bounds (c : Int) : 0 ≤ runL (c.fmod 4) ((c.fdiv 4).fmod 4) ((c.fdiv 16).fmod 4) ∧ runL (c.fmod 4) ((c.fdiv 4).fmod 4) ((c.fdiv 16).fmod 4) ≤ 3 := runL_bounds (fmod_bounds c (by decide)) (fmod_bounds _ (by decide)) (fmod_bounds _ (by decide))
theorem tx_fin (cells : List Int) {k : Int} (hk : 0 ≤ k ∧ k < 5) : ∃ (p : Fin 5) (d : Fin 6), ((p : Nat) : Int) = k ∧ ((d : Nat) : Int) = dressC (cells.getD k.toNat 0) ∧ tx cells k = textOf p d := by
  have h := fmod_bounds ((cells.getD k.toNat 0).fdiv 64) (m := 6) (by decide)
  unfold tx dressC
  generalize ((cells.getD k.toNat 0).fdiv 64).fmod 6 = d at h
  exact ⟨⟨k.toNat, by omega⟩, ⟨d.toNat, by omega⟩, by show ((k.toNat : Nat) : Int) = k; omega, by show ((d.toNat : Nat) : Int) = d; omega, rfl⟩
theorem textsC_getD (cells : List Int) {k : Nat} (hk : k < 5) : (textsC cells).getD k "" = tx cells k := by
  rcases (by omega : k = 0 ∨ k = 1 ∨ k = 2 ∨ k = 3 ∨ k = 4) with rfl | rfl | rfl | rfl | rfl <;> rfl
theorem textsC_ok (cells : List Int) : TextsOk (textsC cells) := by
  refine ⟨rfl, fun k p hk hp => ?_, fun k => ?_⟩
  · rw [textsC_getD cells hk]
    obtain ⟨p', d, h1, h2, h3⟩ := tx_fin cells (k := k) (by omega)
    rw [h3]
    have := letters p' d ⟨p, hp⟩
    rw [decide_eq_decide] at this
    rw [this]
    constructor
    · intro h; have := congrArg Fin.val h; have : p = p' := this; omega
    · intro h; exact Fin.ext (by show p = p'; omega)
  · by_cases hk : k < 5
    · rw [textsC_getD cells hk]
      obtain ⟨p', d, h1, h2, h3⟩ := tx_fin cells (k := k) (by omega)
      rw [h3]; exact text_len p' d
    · rw [List.getD_eq_getElem?_getD, List.getElem?_eq_none (by show 5 ≤ k; omega)]; decide
theorem texts_nodup {texts : List Str} (X : TextsOk texts) : texts.Nodup := by
  refine List.pairwise_iff_getElem.mpr fun i j hi hj hij e => ?_
  have h5 := X.len
  have h1 : texts.getD i "" = texts[i] := by rw [List.getD_eq_getElem?_getD, List.getElem?_eq_getElem hi]; rfl
  have h2 : texts.getD j "" = texts[j] := by rw [List.getD_eq_getElem?_getD, List.getElem?_eq_getElem hj]; rfl
  have h3 := (X.own i i (by omega) (by omega)).mpr rfl
  rw [h1, e, ← h2] at h3
  have := (X.own j i (by omega) (by omega)).mp h3
  omega
noncomputable def cs5 (cells : List Int) : List Int := cells.take 5
theorem cs5_len {cells : List Int} (h : cells.length = 6) : (cs5 cells).length = 5 := by unfold cs5; rw [List.length_take, h]; rfl
theorem mapD {α β : Type} [Inhabited α] [Inhabited β] (f : α → β) {l : List α} {i : Nat} {d : β} {e : α} (h : i < l.length) : (l.map f).getD i d = f (l.getD i e) := by
  rw [List.getD_eq_getElem?_getD, List.getElem?_map, List.getElem?_eq_getElem h, List.getD_eq_getElem?_getD, List.getElem?_eq_getElem h]; rfl
theorem tablesC (cells : List Int) (h : cells.length = 6) : TablesOk (textsC cells) ((cs5 cells).map leadC) ((cs5 cells).map walkC) := by
  have h5 := cs5_len h
  refine ⟨rfl, by rw [List.length_map, h5], by rw [List.length_map, h5], texts_nodup (textsC_ok cells), fun l hl => ?_, fun v hv => ?_, fun i j hi hj => ?_⟩
  · obtain ⟨c, _, rfl⟩ := List.mem_map.mp hl
    have L := leadC_ok c
    have := runC_bounds c
    unfold leadC
    rw [L.run]
    exact ⟨L.cnt, by omega, by omega⟩
  · obtain ⟨c, _, rfl⟩ := List.mem_map.mp hv
    have := runC_bounds c
    refine ⟨rfl, ?_, ?_⟩
    · show 1 ≤ 1 + runL _ _ _; omega
    · show 1 + runL _ _ _ ≤ 4; omega
  · rw [mapD leadC (e := 0) (by omega), mapD leadC (e := 0) (by omega), mapD walkC (e := 0) (by omega), mapD walkC (e := 0) (by omega)]
    exact lead_same (leadC_ok _) (leadC_ok _) (runC_bounds _).2 (runC_bounds _).2
end Mine
end

section
open PySem PySem.W PyProof.Rows
set_option autoImplicit false
set_option maxRecDepth 100000
set_option maxHeartbeats 1000000
namespace Mine
variable {C : Cx} {n : Nat}
theorem g_enumerate (h : C.Ok) : (C.mg "enumerate").or (C.mb "enumerate") = some (.type "enumerate") := h.mb rfl (by decide +kernel) (by decide +kernel)
theorem g_law_text (h : C.Ok) : (C.mg "_law_text").or (C.mb "_law_text") = some (.ref 164) := h.mg rfl
theorem g_loc (h : C.Ok) : (C.mg "_build_localename").or (C.mb "_build_localename") = some (.ref 84) := h.mg rfl
theorem g_cols (h : C.Ok) : (C.mg "_law_columns").or (C.mb "_law_columns") = some (.ref 169) := h.mg rfl
theorem g_tables (h : C.Ok) : (C.mg "_law_tables").or (C.mb "_law_tables") = some (.ref 179) := h.mg rfl
theorem g_ws (h : C.Ok) : (C.mg "Whitespace").or (C.mb "Whitespace") = some (.ref 146) := h.mg rfl
theorem g_tc (h : C.Ok) : (C.mg "TupleComp").or (C.mb "TupleComp") = some (.ref 45) := h.mg rfl
theorem sliceL_map {α β : Type} (f : α → β) (l : List α) (lo hi st : Option Int) : sliceL (l.map f) lo hi st = (sliceL l lo hi st).map f := by
  unfold sliceL
  rw [List.length_map, List.map_filterMap]
  congr 1
  funext i
  rw [List.getElem?_map]
theorem spOk : ∀ a : Fin 4, (sp ((a : Nat) : Int)).length = a ∧ MulOk (Str.ofString " ") ((a : Nat) : Int) := by
  intro a
  match a with
  | 0 => exact ⟨by decide +kernel, by unfold MulOk; decide +kernel⟩
  | 1 => exact ⟨by decide +kernel, by unfold MulOk; decide +kernel⟩
  | 2 => exact ⟨by decide +kernel, by unfold MulOk; decide +kernel⟩
  | 3 => exact ⟨by decide +kernel, by unfold MulOk; decide +kernel⟩
theorem sp_ok {a : Int} (h : 0 ≤ a ∧ a < 4) : (sp a).length ≤ 3 ∧ MulOk (Str.ofString " ") a := by
  obtain ⟨k, rfl⟩ := nat_of h.1 h.2
  have := spOk k
  exact ⟨by omega, this.2⟩
noncomputable def upC (cells : List Int) : Bool := ((cells.getD 5 0).fdiv 5).fmod 2 == 0
noncomputable def dirOf (up : Bool) : Int := if up = true then 1 else -1
noncomputable def lawSc : Scope := fS (top 21)
noncomputable def tailG (C : Cx) (cells : List Int) (t : Tab) (tw : Tw) : Gam :=
  [("tables", .val (.dict C (dTab C t))), ("towns", .val (.dict C (dTn tw))), ("texts", .val (.list ((textsC cells).map .str))), ("ties", .val (tiesP (tiesOf ((cs5 cells).map walkC)))), ("up", .val (.bool (upC cells))), ("judge", .val (judgeP (dirOf (upC cells)))), ("cells", .val (.list (cells.map .int)))]
theorem law_head (hC : C.Ok) (hG : GenOk C) (ns : List Int) (hn : ns.length ≤ 1000) (tail : ∀ cells : List Int, cells.length = 6 → Ex C 4 lawSc (tailG C cells (tabsOf (textsC cells) ((cs5 cells).map walkC)) (tw0 (textsC cells))) ((fB (top 21)).drop 13) (RetOut (.bool true))) :
    Fn C 5 (.ref 204) [.list (ns.map .int)] (.bool true) := by
  refine Fn.body (xs := [Str.ofString "script"]) (hC.at rfl) rfl (hC.code rfl) rfl (fun vs h => match vs, h with | [a], _ => rfl) rfl rfl rfl rfl (by decide) rfl (by decide) ?_
  have h100 : 100 ≤ sizeLine := by decide
  have h1000 : 1000 ≤ sizeLine := by decide
  refine Ex.cons1 (ExS.asg (P := .list ((cellsOf ns).map .int)) (Ev.cast (Ev.comp (CompIs.listF (xs := baseC) (P := fun q => VP.tup [.int q.1, .int q.2]) (f := fun q => VP.int (q.2 + (sliceL ns (some q.1) none (some 6)).sum)) (b := fun _ => true) ([("script", .val (.list (ns.map .int)))] : Gam) ⟨rfl, by decide, rfl, gsub_cons rfl gsub_nil, gc_cons rfl rfl gc_nil⟩
    (EvIter.enum (Ev.glob (g_enumerate hC)) (.cons (Ev.listD (.cons Ev.cint (.cons Ev.cint (.cons Ev.cint (.cons Ev.cint (.cons Ev.cint (.cons Ev.cint .nil)))))) (show 6 ≤ sizeLine by decide)) .nil) (fun _ _ => rfl)) rfl (by decide) fun q hq => ⟨_, Asg.tup (AsgL.cons (Asg.name (.inl rfl)) (AsgL.cons (Asg.name (.inl rfl)) AsgL.nil)), gsub_cons rfl gsub_nil, .nil, fun _ => Ev.binop (Ev.name rfl) (Ev.callB (Ev.glob (g_sum hC)) (.cons (Ev.cast (Ev.slList (Ev.name rfl) (.at (Ev.name rfl)) .no (.at Ev.cint) (by decide) (by rw [List.length_map]; omega)) (by rw [sliceL_map])) .nil) (fun _ _ => rfl) Fn.sumList) Op2.addInt⟩) (fun _ => rfl)) (by rw [List.filter_eq_self.mpr (fun _ _ => rfl)]; unfold cellsOf; rw [List.map_map]; rfl)) rfl rfl (fun env hE => by obtain ⟨e, _, _, _⟩ := hE; cases env; cases e; rfl)) ?_
  have hcl := cells_len ns
  generalize cellsOf ns = cells at hcl
  have szc : (cells.map VP.int).length ≤ sizeLine := by rw [List.length_map]; omega
  refine Ex.cons1 (ExS.compG false (CompIs.listF (xs := upto 0 5) (P := fun k => VP.int k) (f := fun k => VP.tup [.str (tx cells k), .str (tx cells k)]) (b := fun _ => true) ([("cells", .val (.list (cells.map .int)))] : Gam) ⟨rfl, by decide, rfl, gsub_cons rfl gsub_nil, gc_cons rfl rfl gc_nil⟩
    (EvIter.of (Ev.callT (Ev.glob (g_range hC)) (.cons Ev.cint .nil) (fun _ _ => rfl) Fn.range1) (OpIter.range (by decide) (by decide) (by decide) (by decide))) rfl (by decide) fun k hk => ⟨_, Asg.name (.inl rfl), gsub_cons rfl gsub_nil, .nil, fun _ => ?_⟩) (fun _ _ => rfl) rfl rfl (fun env hE => by obtain ⟨e, _, _, _⟩ := hE; cases env; cases e; rfl)) ?_
  · have hk' := mem_upto hk
    obtain ⟨p, d, rfl, hd, ht⟩ := tx_fin cells hk'
    rw [ht]
    exact Ev.callF (Ev.glob (g_law_text hC)) (hC.keep rfl) (.cons (Ev.name rfl) (.cons (Ev.cast (Ev.binop (Ev.binop (Ev.atList (Ev.name rfl) (Ev.name rfl) (pickAt_int (d := 0) VP.int hk'.1 (by omega)) szc) Ev.cint (Op2.divInt (by decide) (by decide))) Ev.cint (Op2.modInt (by decide))) (congrArg VP.int hd.symm)) .nil)) (fun _ _ => rfl) (Fn.le (law_text_ok hC p d) (by decide))
  rw [List.filter_eq_self.mpr (fun _ _ => rfl)]
  have htl : (textsC cells).length = 5 := rfl
  have szt : ((textsC cells).map VP.str).length ≤ sizeLine := by rw [List.length_map, htl]; omega
  refine Ex.cons1 (ExS.asg (P := .list ((textsC cells).map .str)) (Ev.cast (Ev.comp (CompIs.listF (xs := upto 0 5) (P := fun k => VP.tup [.str (tx cells k), .str (tx cells k)]) (f := fun k => VP.str (tx cells k)) (b := fun _ => true) [] ⟨rfl, by decide, rfl, gsub_nil, gc_nil⟩
    (EvIter.of (Ev.name rfl) (OpIter.list .tup)) rfl (by decide) fun k hk => ⟨_, Asg.tup (AsgL.cons (Asg.name (.inl rfl)) (AsgL.cons (Asg.name (.inl rfl)) AsgL.nil)), gsub_nil, .nil, fun _ => Ev.name rfl⟩) (fun _ => rfl)) (by rw [List.filter_eq_self.mpr (fun _ _ => rfl)]; unfold textsC; rw [List.map_map]; rfl)) rfl rfl (fun env hE => by obtain ⟨e, _, _, _⟩ := hE; cases env; cases e; rfl)) ?_
  have hshort : ∀ x ∈ textsC cells, x.length ≤ 20 := fun x hx => by
    obtain ⟨k, hk, rfl⟩ := List.mem_map.mp hx
    obtain ⟨p, d, _, _, h3⟩ := tx_fin cells (mem_upto hk)
    rw [h3]; exact text_len p d
  have halone : ∀ x : Str, locName (if x = Str.ofString "C" then none else some x) none = x := fun x => by
    unfold locName
    by_cases h : x = Str.ofString "C"
    · rw [if_pos h]; exact h.symm
    · rw [if_neg h]; rfl
  refine Ex.cons1 (ExS.compG false (CompIs.listF (xs := textsC cells) (P := VP.str) (f := VP.str) (b := fun _ => true) [] ⟨rfl, by decide, rfl, gsub_nil, gc_nil⟩
    (EvIter.of (Ev.name rfl) (OpIter.list .name)) rfl (by omega) fun x hx => ⟨_, Asg.name (.inl rfl), gsub_nil, .nil, fun _ => Ev.cast (Ev.callF (Ev.glob (g_loc hC)) (hC.keep rfl) (.cons (Ev.tupD (.cons (Ev.ite (P := optP (if x = Str.ofString "C" then none else some x)) (Tst.cmp (Ev.name rfl) Ev.cstr Op2.eqStr) (fun h => Ev.cast Ev.cnone (by rw [if_pos (by simpa using h)]; rfl)) (fun h => Ev.cast (Ev.name rfl) (by rw [if_neg (by simpa using h)]; rfl))) (.cons (Ev.cast Ev.cnone (show VP.none = optP none from rfl)) .nil))) .nil) (fun _ _ => rfl) (Fn.le (localename_ok hC (if x = Str.ofString "C" then none else some x) none (by
        split
        · decide
        · show x.length ≤ 1000; have := hshort x hx; omega) (by decide)) (by decide))) (by rw [halone])⟩) (fun _ _ => rfl) rfl rfl (fun env hE => by obtain ⟨e, _, _, _⟩ := hE; cases env; cases e; rfl)) ?_
  rw [List.filter_eq_self.mpr (fun _ _ => rfl)]
  refine Ex.ite (Tst.cast (b' := false) (Tst.bop (.or (Tst.cmp (Ev.cast (P' := .list ((textsC cells).map .str)) (Ev.comp (CompIs.listF (xs := upto 0 5) (P := fun k => VP.tup [.str (tx cells k), .str (tx cells k)]) (f := fun k => VP.str (tx cells k)) (b := fun _ => true) [] ⟨rfl, by decide, rfl, gsub_nil, gc_nil⟩
      (EvIter.of (Ev.name rfl) (OpIter.list .tup)) rfl (by decide) fun k hk => ⟨_, Asg.tup (AsgL.cons (Asg.name (.inl rfl)) (AsgL.cons (Asg.name (.inl rfl)) AsgL.nil)), gsub_nil, .nil, fun _ => Ev.name rfl⟩) (fun _ => rfl)) (by rw [List.filter_eq_self.mpr (fun _ _ => rfl)]; unfold textsC; rw [List.map_map]; rfl)) (Ev.name rfl) (Op2.neList (fun x y => EqD.str))) fun _ =>
    .or (Tst.cmp (Ev.cast (P' := .list ((textsC cells).map .str)) (Ev.comp (CompIs.listF (xs := textsC cells) (P := VP.str) (f := VP.str) (b := fun _ => true) [] ⟨rfl, by decide, rfl, gsub_nil, gc_nil⟩
      (EvIter.of (Ev.name rfl) (OpIter.list .name)) rfl (by omega) fun x hx => ⟨_, Asg.name (.inl rfl), gsub_nil, .nil, fun _ => Ev.callF (Ev.glob (g_add_c hC)) (hC.keep rfl) (.cons (Ev.name rfl) .nil) (fun _ _ => rfl) (Fn.le (strxfrm_ok hC x) (by decide))⟩) (fun _ => rfl)) (by rw [List.filter_eq_self.mpr (fun _ _ => rfl)])) (Ev.name rfl) (Op2.neList (fun x y => EqD.str))) fun _ =>
    .or (Tst.cmp (Ev.name rfl) (Ev.name rfl) (Op2.neList (fun x y => EqD.str))) fun _ => .nilOr)) (by simp)) (fun h => by cases h) fun _ => ?_
  have h5 := cs5_len hcl
  refine Ex.cons1 (ExS.compG false (CompIs.listF (xs := cs5 cells) (P := VP.int) (f := fun c => VP.str (leadC c)) (b := fun _ => true) [] ⟨rfl, by decide, rfl, gsub_nil, gc_nil⟩
    (EvIter.of (Ev.slList (Ev.name rfl) .no (.at Ev.cint) .no (by decide) szc) (OpIter.list .name)) (by rw [sliceL_map, show sliceL cells none (some 5) none = cells.take 5 from sliceL_upto cells 5 (by omega)]; rfl) (by omega) fun c hc => ⟨_, Asg.name (.inl rfl), gsub_nil, .nil, fun _ => ?_⟩) (fun _ _ => rfl) rfl rfl (fun env hE => by obtain ⟨e, _, _, _⟩ := hE; cases env; cases e; rfl)) ?_
  · have a1 := sp_ok (fmod_bounds c (m := 4) (by decide))
    have a2 := sp_ok (fmod_bounds (c.fdiv 4) (m := 4) (by decide))
    have a3 := sp_ok (fmod_bounds (c.fdiv 16) (m := 4) (by decide))
    have t1 : (Str.ofString "\t").length = 1 := by decide
    have t2 : (Str.ofString "x\t").length = 2 := by decide
    unfold leadC leadOf bareOf
    refine Ev.binop (Ev.binop (Ev.binop (Ev.binop (Ev.binop (Ev.binop Ev.cstr (Ev.binop (Ev.name rfl) Ev.cint (Op2.modInt (by decide))) (Op2.mulStr a1.2)) Ev.cstr (Op2.addStr (Nat.le_trans (show _ ≤ 100 from ?_) h100))) (Ev.binop Ev.cstr (Ev.binop (Ev.binop (Ev.name rfl) Ev.cint (Op2.divInt (by decide) (by decide))) Ev.cint (Op2.modInt (by decide))) (Op2.mulStr a2.2)) (Op2.addStr (Nat.le_trans (show _ ≤ 100 from ?_) h100))) Ev.cstr (Op2.addStr (Nat.le_trans (show _ ≤ 100 from ?_) h100))) (Ev.binop Ev.cstr (Ev.binop (Ev.binop (Ev.name rfl) Ev.cint (Op2.divInt (by decide) (by decide))) Ev.cint (Op2.modInt (by decide))) (Op2.mulStr a3.2)) (Op2.addStr (Nat.le_trans (show _ ≤ 100 from ?_) h100))) Ev.cstr (Op2.addStr (Nat.le_trans (show _ ≤ 100 from ?_) h100))
    all_goals
      have b1 := a1.1
      have b2 := a2.1
      have b3 := a3.1
      unfold sp at b1 b2 b3
      simp only [Str.length_append, t1, t2]
      omega
  rw [List.filter_eq_self.mpr (fun _ _ => rfl)]
  have hT := tablesC cells hcl
  have szw : ((cs5 cells).map fun c => walkP (walkC c)).length ≤ sizeLine := by rw [List.length_map]; omega
  refine Ex.cons1 (ExS.asg (P := .list ((cs5 cells).map fun c => walkP (walkC c))) (Ev.cast (Ev.comp (CompIs.listF (xs := cs5 cells) (P := fun c => VP.str (leadC c)) (f := fun c => walkP (walkC c)) (b := fun _ => true) [] ⟨rfl, by decide, rfl, gsub_nil, gc_nil⟩
    (EvIter.of (Ev.name rfl) (OpIter.list .name)) rfl (by omega) fun c hc => ⟨_, Asg.name (.inl rfl), gsub_nil, .nil, fun _ => ?_⟩) (fun _ => rfl)) (by rw [List.filter_eq_self.mpr (fun _ _ => rfl)])) rfl rfl (fun env hE => by obtain ⟨e, _, _, _⟩ := hE; cases env; cases e; rfl)) ?_
  · have L := leadC_ok c
    have hr := runC_bounds c
    have hbl : (bareOf (c.fmod 4) ((c.fdiv 4).fmod 4) ((c.fdiv 16).fmod 4)).length ≤ 1000 := by
      have := L.hl
      unfold leadOf at this
      rw [Str.length_append] at this; omega
    have hsp := congrArg List.length L.split
    rw [List.length_map] at hsp
    refine Ev.callF (Ev.glob (g_cols hC)) (hC.keep rfl) (.cons (Ev.name rfl) .nil) (fun _ _ => rfl) (Fn.le (columns_ok hC (leadC c) _ _ (runL (c.fmod 4) ((c.fdiv 4).fmod 4) ((c.fdiv 16).fmod 4)) L.hi L.hb hbl ?_ ?_ (by rw [hsp]; show 3 ≤ 1000; decide)) (by decide))
    · rw [L.split]; unfold runL
      simp only [List.mem_cons, List.not_mem_nil, or_false]; omega
    · rw [L.split]; unfold runL
      intro a ha
      simp only [List.mem_cons, List.not_mem_nil, or_false] at ha; omega
  refine Ex.cons1 (ExS.asg (Ev.callF (Ev.glob (g_tables hC)) (hC.keep rfl) (.cons (Ev.name rfl) (.cons (Ev.cast (P' := .list (((cs5 cells).map leadC).map fun l => markP (mkOf l))) (Ev.comp (CompIs.listF (xs := cs5 cells) (P := fun c => VP.str (leadC c)) (f := fun c => markP (mkOf (leadC c))) (b := fun _ => true) [] ⟨rfl, by decide, rfl, gsub_nil, gc_nil⟩
    (EvIter.of (Ev.name rfl) (OpIter.list .name)) rfl (by omega) fun c hc => ⟨_, Asg.name (.inl rfl), gsub_nil, .nil, fun _ => Ev.callF (Ev.glob (g_ws hC)) (hC.keep rfl) (.cons (Ev.name rfl) .nil) (fun _ _ => rfl) (Fn.le (ws_make hC (leadC c) (by have := (leadC_ok c).hl; unfold leadC; omega)) (by decide))⟩) (fun _ => rfl)) (by rw [List.filter_eq_self.mpr (fun _ _ => rfl), List.map_map]; rfl)) (.cons (Ev.cast (P' := .list (((cs5 cells).map walkC).map walkP)) (Ev.name rfl) (by rw [List.map_map]; rfl)) .nil))) (fun _ _ => rfl) (Fn.le (tables_ok hC hG (textsC cells) _ _ hT) (by decide))) rfl rfl (fun env hE => by obtain ⟨e, _, _, _⟩ := hE; cases env; cases e; rfl)) ?_
  refine Ex.ite (Tst.cmp (Ev.name rfl) Ev.cnone (Op2.isNone VP.nn_of)) (fun h => by cases h) fun _ => ?_
  have hwk : ∀ c, (walkC c).1.length = 4 ∧ 1 ≤ (walkC c).2 ∧ (walkC c).2 ≤ 4 := fun c => by
    have := runC_bounds c
    refine ⟨rfl, ?_, ?_⟩
    · show 1 ≤ 1 + runL _ _ _; omega
    · show 1 + runL _ _ _ ≤ 4; omega
  refine Ex.cons1 (ExS.compG false (CompIs.listF (xs := cs5 cells) (P := fun c => walkP (walkC c)) (f := fun c => VP.list ((cs5 cells).map fun c' => VP.int (tieOf (walkC c) (walkC c')))) (b := fun _ => true) ([("walks", .val (.list ((cs5 cells).map fun c => walkP (walkC c))))] : Gam) ⟨rfl, by decide, rfl, gsub_cons rfl gsub_nil, gc_cons rfl rfl gc_nil⟩
    (EvIter.of (Ev.name rfl) (OpIter.list .name)) rfl (by omega) fun c hc => ⟨_, Asg.name (.inr ⟨rfl, rfl⟩), gsub_cons rfl gsub_nil, .nil, fun _ => Ev.cast (Ev.comp (CompIs.listF (xs := cs5 cells) (P := fun c => walkP (walkC c)) (f := fun c' => VP.int (tieOf (walkC c) (walkC c'))) (b := fun _ => true) ([("one", .val (walkP (walkC c)))] : Gam) ⟨rfl, by decide, rfl, gsub_cons rfl gsub_nil, gc_cons rfl rfl gc_nil⟩
      (EvIter.of (Ev.name rfl) (OpIter.list .name)) rfl (by omega) fun c' hc' => ⟨_, Asg.name (.inl rfl), gsub_cons rfl gsub_nil, .nil, fun _ => ?_⟩) (fun _ => rfl)) (by rw [List.filter_eq_self.mpr (fun _ _ => rfl)])⟩) (fun _ _ => rfl) rfl rfl (fun env hE => by obtain ⟨e, _, _, _⟩ := hE; cases env; cases e; rfl)) ?_
  · have w1 := hwk c
    have w2 := hwk c'
    have hu : ((unlike (walkC c) (walkC c')).map row3).length ≤ sizeLine := by
      unfold unlike
      rw [List.length_map, List.length_map]
      refine Nat.le_trans (List.length_filter_le _ _) ?_
      rw [upto_len]; omega
    refine Ev.cast (Ev.binop (Ev.callB (Ev.glob (g_max hC)) (.cons (Ev.atTup (ps := [.list ((walkC c).1.map VP.int), .int (walkC c).2]) (k := 1) (P := .int (walkC c).2) (Ev.name rfl) Ev.cint rfl) (.cons (Ev.atTup (ps := [.list ((walkC c').1.map VP.int), .int (walkC c').2]) (k := 1) (P := .int (walkC c').2) (Ev.name rfl) Ev.cint rfl) .nil)) (fun _ _ => rfl) Fn.max2) (Ev.callB (Ev.glob (g_len hC)) (.cons (Ev.callF (Ev.glob (g_unlike hC)) (hC.keep rfl) (.cons (Ev.name rfl) (.cons (Ev.name rfl) .nil)) (fun _ _ => rfl) (Fn.le (unlike_ok hC (walkC c) (walkC c') (by omega) (by omega) (by omega) (by omega) (by omega)) (by decide))) .nil) (fun _ _ => rfl) (Fn.lenList hu)) Op2.subInt) (by rw [List.length_map]; rfl)
  rw [List.filter_eq_self.mpr (fun _ _ => rfl)]
  have htie : VP.of (.list ((cs5 cells).map fun c => VP.list ((cs5 cells).map fun c' => VP.int (tieOf (walkC c) (walkC c'))))) = tiesP (tiesOf ((cs5 cells).map walkC)) := by
    unfold tiesP tiesOf
    rw [List.map_map, List.map_map]
    refine congrArg VP.list (List.map_congr_left fun c _ => ?_)
    show _ = VP.list ((((cs5 cells).map walkC).map fun w => tieOf (walkC c) w).map VP.int)
    rw [List.map_map, List.map_map]; rfl
  rw [if_neg (by decide), htie]
  refine Ex.cons1 (ExS.asg (P := .bool (upC cells)) (Ev.cmp (Ev.binop (Ev.binop (Ev.atList (Ev.name rfl) Ev.cint (pickAt_int (i := 5) (d := 0) VP.int (by decide) (by omega)) szc) Ev.cint (Op2.divInt (by decide) (by decide))) Ev.cint (Op2.modInt (by decide))) Ev.cint Op2.eqInt) rfl) ?_
  refine Ex.cons1 (ExS.asg (P := judgeP (dirOf (upC cells))) (Ev.callF (Ev.glob (g_tc hC)) (hC.keep rfl) (.cons (Ev.tupD (.cons (Ev.tupD (.cons Ev.cint (.cons (Ev.unary Ev.cint Op1.negInt) .nil))) (.cons (Ev.tupD (.cons Ev.cint (.cons (Ev.ite (P := .int (dirOf (upC cells))) (Tst.val (Ev.name rfl)) (fun h => Ev.cast Ev.cint (by rw [dirOf, if_pos h])) (fun h => Ev.cast (Ev.unary Ev.cint Op1.negInt) (by rw [dirOf, if_neg (by rw [h]; exact Bool.false_ne_true)]))) .nil))) .nil))) .nil) (fun _ _ => rfl) (Fn.le (tc_make hC (dirOf (upC cells))) (by decide))) rfl) ?_
  have hdt : dputs (fun k => txt (textsC cells) k) (fun k => VP.list [.int k]) [] ((upto 0 5).filter fun _ => true) = dTn (tw0 (textsC cells)) := by
    rw [List.filter_eq_self.mpr (fun _ _ => rfl), dputs_fresh _ _ _ _ (by rw [List.map_nil, List.nil_append, texts_are rfl]; exact hT.nd)]
    unfold dTn tw0; rw [List.map_map]; rfl
  refine Ex.cons1 (ExS.asg (Ev.cast (Ev.comp (CompIs.dictF (xs := upto 0 5) (P := VP.int) (key := fun k => txt (textsC cells) k) (f := fun k => VP.list [.int k]) (b := fun _ => true) ([("texts", .val (.list ((textsC cells).map .str)))] : Gam) ⟨rfl, by decide, rfl, gsub_cons rfl gsub_nil, gc_cons rfl rfl gc_nil⟩
    (EvIter.of (Ev.callT (Ev.glob (g_range hC)) (.cons Ev.cint .nil) (fun _ _ => rfl) Fn.range1) (OpIter.range (by decide) (by decide) (by decide) (by decide))) rfl (by decide) fun k hk => ⟨_, Asg.name (.inl rfl), gsub_cons rfl gsub_nil, .nil, fun _ => ⟨Ev.atList (Ev.name rfl) (Ev.name rfl) (pickAt_int (d := "") VP.str (mem_upto hk).1 (by have := mem_upto hk; omega)) szt, Ev.listD (.cons (Ev.name rfl) .nil)⟩⟩) (fun _ => rfl)) (congrArg (fun l => VP.dict C l) hdt)) rfl rfl (fun env hE => by obtain ⟨e, _, _, _⟩ := hE; cases env; cases e; rfl)) ?_
  refine Ex.weak (tail cells hcl) ?_
  unfold tailG
  exact gsub_cons rfl (gsub_cons rfl (gsub_cons rfl (gsub_cons rfl (gsub_cons rfl (gsub_cons rfl (gsub_cons rfl gsub_nil))))))
end Mine
end

section
open PySem PySem.W PyProof.Rows
set_option autoImplicit false
set_option maxRecDepth 100000
set_option maxHeartbeats 1000000
namespace Mine
variable {C : Cx} {n : Nat}
theorem g_tour (h : C.Ok) : (C.mg "_law_tour").or (C.mb "_law_tour") = some (.ref 184) := h.mg rfl
theorem g_inturn (h : C.Ok) : (C.mg "_law_in_turn").or (C.mb "_law_in_turn") = some (.ref 189) := h.mg rfl
theorem g_cc (h : C.Ok) : (C.mg "count_calls").or (C.mb "count_calls") = some (.ref 70) := h.mg rfl
theorem g_least (h : C.Ok) : (C.mg "_law_least").or (C.mb "_law_least") = some (.ref 194) := h.mg rfl
theorem g_melted (h : C.Ok) : (C.mg "_law_melted").or (C.mb "_law_melted") = some (.ref 199) := h.mg rfl
theorem g_list (h : C.Ok) : (C.mg "list").or (C.mb "list") = some (.type "list") := h.mb rfl (by decide +kernel) (by decide +kernel)
theorem g_dict (h : C.Ok) : (C.mg "dict").or (C.mb "dict") = some (.type "dict") := h.mb rfl (by decide +kernel) (by decide +kernel)
theorem g_int (h : C.Ok) : (C.mg "int").or (C.mb "int") = some (.type "int") := h.mb rfl (by decide +kernel) (by decide +kernel)
noncomputable def whB (s : Stmt) : List Stmt := match s with
  | .While _ b _ _ => b
  | _ => []
theorem last_two : ∀ (row : List Str), 2 ≤ row.length → ∃ rest a b, row = rest ++ [a, b]
  | [], h => by simp at h
  | [_], h => by simp at h
  | [a, b], _ => ⟨[], a, b, rfl⟩
  | a :: b :: c :: l, _ => by
    obtain ⟨r, x, y, e⟩ := last_two (b :: c :: l) (by simp)
    exact ⟨a :: r, x, y, by rw [e]; rfl⟩
theorem pick_last {α : Type} (rest : List α) (a b : α) : pickAt (rest ++ [a, b]) (-1) = some b ∧ pickAt (rest ++ [a, b]) (-2) = some a := by
  have hl : (rest ++ [a, b]).length = rest.length + 2 := by rw [List.length_append]; rfl
  have e1 : seqIndex? (-1) (rest ++ [a, b]).length = some (rest.length + 1) := by
    unfold seqIndex?
    rw [hl]
    simp only [show ((-1 : Int) < 0) from by decide, if_true]
    rw [if_pos (by rw [Bool.and_eq_true, decide_eq_true_iff, decide_eq_true_iff]; constructor <;> omega)]
    congr 1; omega
  have e2 : seqIndex? (-2) (rest ++ [a, b]).length = some rest.length := by
    unfold seqIndex?
    rw [hl]
    simp only [show ((-2 : Int) < 0) from by decide, if_true]
    rw [if_pos (by rw [Bool.and_eq_true, decide_eq_true_iff, decide_eq_true_iff]; constructor <;> omega)]
    congr 1; omega
  unfold pickAt
  rw [e1, e2]
  constructor
  · show (rest ++ [a, b])[rest.length + 1]? = _
    rw [List.getElem?_append_right (by omega), show rest.length + 1 - rest.length = 1 by omega]; rfl
  · show (rest ++ [a, b])[rest.length]? = _
    rw [List.getElem?_append_right (by omega), Nat.sub_self]; rfl
theorem dict_self {k : Nat} (l : List (Str × Int)) : DictEq C k (dI l) (dI l) true := .same rfl fun i hi => ⟨i, hi, rfl, by
  have hi' : i < l.length := by unfold dI at hi; rw [List.length_map] at hi; exact hi
  have e : (dI l)[i] = (l[i].1, VP.int l[i].2) := List.getElem_map ..
  rw [e]
  exact EqV.of (EqD.cast EqD.int (decide_eq_true rfl))⟩
theorem round_ok (hC : C.Ok) (hG : GenOk C) (cells : List Int) (hcl : cells.length = 6) (t : Tab) (tw : Tw) (W : World (tiesOf ((cs5 cells).map walkC)) (textsC cells) t tw) (h2 : 2 ≤ tw.length) :
    Ex C 4 lawSc (tailG C cells t tw) (whB ((fB (top 21)).getD 13 (.Pass default))) { next := fun X => ∃ t' tw', World (tiesOf ((cs5 cells).map walkC)) (textsC cells) t' tw' ∧ tw'.length < tw.length ∧ X = tailG C cells t' tw' } := by
  have X := textsC_ok cells
  have h5 := cs5_len hcl
  have O : TiesOk (tiesOf ((cs5 cells).map walkC)) := tiesOk (by rw [List.length_map, h5]) fun v hv => by
    obtain ⟨c, _, rfl⟩ := List.mem_map.mp hv
    have := runC_bounds c
    show 1 ≤ 1 + runL _ _ _; omega
  unfold tailG
  generalize tiesOf ((cs5 cells).map walkC) = ties at W O
  have hx : (textsC cells).length = 5 := rfl
  generalize textsC cells = texts at W X hx
  have h100 : 100 ≤ sizeLine := by decide
  have hfew := W.few
  have hdl : (dTn tw).length = tw.length := by unfold dTn; rw [List.length_map]
  have hgt : ∀ a ∈ tw.map (·.1), dget (dTab C t) a = some (.dict C (dI (tabOf t a))) := fun a ha => by
    rw [dget_dTab, (W.get ha).1]; rfl
  have hgw : ∀ a ∈ tw.map (·.1), dget (dTn tw) a = some (.list ((ofT tw a).map VP.int)) := fun a ha => by
    obtain ⟨l, hl⟩ := dget_isSome ha
    rw [dget_dTn, ofT, hl]; rfl
  have hti : ∀ a ∈ tw.map (·.1), (dI (tabOf t a)).length ≤ sizeLine := fun a ha => by
    have := W.tableLen ha
    unfold dI; rw [List.length_map]; omega
  refine Ex.cons1 (ExS.compG false (CompIs.dictF (xs := tw) (P := fun q => VP.str q.1) (key := fun q => q.1) (f := fun q => VP.dict C (dI (tabOf t q.1))) (b := fun _ => true) ([("tables", .val (.dict C (dTab C t)))] : Gam) ⟨rfl, by decide, rfl, gsub_cons rfl gsub_nil, gc_cons rfl rfl gc_nil⟩
    (EvIter.of (Ev.name rfl) OpIter.dict) (by unfold dTn; rw [List.map_map]; rfl) (by omega) fun q hq => ⟨_, Asg.name (.inl rfl), gsub_cons rfl gsub_nil, .nil, fun _ => ⟨Ev.name rfl, Ev.callT (Ev.glob (g_dict hC)) (.cons (Ev.subDict (EvO.of (Ev.name rfl)) (Ev.name rfl) (hgt q.1 (List.mem_map.mpr ⟨q, hq, rfl⟩))) .nil) (fun _ _ => rfl) (Fn.dictDict (hti q.1 (List.mem_map.mpr ⟨q, hq, rfl⟩)))⟩⟩) (fun _ _ => rfl) rfl rfl (fun env hE => by obtain ⟨e, _, _, _⟩ := hE; cases env; cases e; rfl)) ?_
  have hkept : dputs (fun q : Str × List Int => q.1) (fun q => VP.dict C (dI (tabOf t q.1))) [] (tw.filter fun _ => true) = tw.map fun q => (q.1, VP.dict C (dI (tabOf t q.1))) := by
    rw [List.filter_eq_self.mpr (fun _ _ => rfl), dputs_fresh _ _ _ _ (by rw [List.map_nil, List.nil_append]; exact W.nm)]; rfl
  rw [hkept, if_neg (by decide)]
  have szc : (cells.map VP.int).length ≤ sizeLine := by rw [List.length_map]; omega
  have hnl : (tw.map (·.1)).length = tw.length := List.length_map ..
  have hne0 : tw.map (·.1) ≠ [] := fun e => by rw [e] at hnl; simp at hnl; omega
  have hdir : dirOf (upC cells) = 1 ∨ dirOf (upC cells) = -1 := by unfold dirOf; split <;> simp
  refine Ex.cons1 (ExS.asg (Ev.callF (Ev.glob (g_tour hC)) (hC.keep rfl) (.cons (Ev.cast (P' := .list ((tw.map (·.1)).map .str)) (Ev.callT (Ev.glob (g_list hC)) (.cons (Ev.name rfl) .nil) (fun _ _ => rfl) (Fn.listDict (by rw [hdl]; omega))) (by unfold dTn; rw [List.map_map, List.map_map]; rfl)) (.cons (Ev.name rfl) (.cons (Ev.atList (Ev.name rfl) Ev.cint (pickAt_int (i := 5) (d := 0) VP.int (by decide) (by omega)) szc) (.cons (Ev.name rfl) .nil)))) (fun _ _ => rfl) (Fn.le (tour_ok hC t (tw.map (·.1)) (cells.getD (5 : Int).toNat 0) (dirOf (upC cells)) hdir W.tab.tabOk hne0 (by omega) fun a ha => W.tableLen ha) (by decide))) rfl) ?_
  have hm0 := fmod_bounds (cells.getD (5 : Int).toNat 0) (m := ((tw.map (·.1)).length : Int)) (by omega)
  have hnm0 : (tw.map (·.1)).getD ((cells.getD (5 : Int).toNat 0).fmod ((tw.map (·.1)).length : Int)).toNat (Str.ofString "") ∈ tw.map (·.1) := getD_mem' (by omega)
  have T := W.tour O hdir hnm0
  generalize tourGo t (dirOf (upC cells)) ((tw.map (·.1)).length - 1) [(tw.map (·.1)).getD ((cells.getD (5 : Int).toNat 0).fmod ((tw.map (·.1)).length : Int)).toNat (Str.ofString "")] (tabOf t ((tw.map (·.1)).getD ((cells.getD (5 : Int).toNat 0).fmod ((tw.map (·.1)).length : Int)).toNat (Str.ofString ""))) = row at T
  have hrl : row.length = tw.length := by rw [T.perm.length_eq, hnl]
  have hrn : ∀ a ∈ row, a ∈ tw.map (·.1) := fun a ha => T.perm.mem_iff.mp ha
  refine Ex.ite (Tst.cast (b' := false) (Tst.not (Tst.val (Ev.callF (Ev.glob (g_inturn hC)) (hC.keep rfl) (.cons (Ev.name rfl) (.cons (Ev.name rfl) (.cons (Ev.name rfl) (.cons (Ev.name rfl) .nil)))) (fun _ _ => rfl) (Fn.le (in_turn_ok hC ties tw row (upC cells) (W.townsOk O T) T.perm (turned_inTurn (T.nodup W.nm) hrn T.turn)) (by decide))))) rfl) (fun h => by cases h) fun _ => ?_
  obtain ⟨rest, first, last, hrow⟩ := last_two row (by omega)
  have hcut := W.cut O T (by omega)
  have hfirst : first ∈ row := by rw [hrow]; exact List.mem_append_right _ (.head _)
  have hlast : last ∈ row := by rw [hrow]; exact List.mem_append_right _ (.tail _ (.head _))
  have hgl : row.getLastD (Str.ofString "") = last := by rw [hrow, List.getLastD_eq_getLast?, List.getLast?_append]; rfl
  rw [hgl] at hcut
  have hPair : Pair tw first last := ⟨hrn first hfirst, hrn last hlast, fun e => by
    have nd := T.nodup W.nm
    rw [hrow, List.nodup_append] at nd
    have := nd.2.1
    simp [e] at this⟩
  have hpk := pick_last (rest.map VP.str) (.str first) (.str last)
  have hrs : row.map VP.str = rest.map VP.str ++ [.str first, .str last] := by rw [hrow, List.map_append]; rfl
  rw [← hrs] at hpk
  have szr : (row.map VP.str).length ≤ sizeLine := by rw [List.length_map]; omega
  refine Ex.cons1 (ExS.asgs (Ev.tupD (.cons (Ev.atList (Ev.name rfl) (Ev.unary Ev.cint Op1.negInt) hpk.2 szr) (.cons (Ev.atList (Ev.name rfl) (Ev.unary Ev.cint Op1.negInt) hpk.1 szr) .nil))) (.one (Asg.tup (.cons (Asg.name (.inr ⟨rfl, rfl⟩)) (.cons (Asg.name (.inr ⟨rfl, rfl⟩)) .nil)))) rfl (fun env hE => by obtain ⟨e, _, _, _⟩ := hE; cases env; cases e; rfl)) ?_
  have hfm := hrn first hfirst
  have hlm := hrn last hlast
  refine Ex.cons1 (ExS.asg (Ev.callF (Ev.glob (g_cc hC)) (hC.keep rfl) (.cons (Ev.subDict (EvO.of (Ev.name rfl)) (Ev.name rfl) (hgt last hlm)) .nil) (fun _ _ => rfl) (Fn.le (count_calls_ok hC (tabOf t last)) (by decide))) rfl) ?_
  have hsides : VP.of (.list ((row.filter fun _ => true).map fun nm => VP.list ((ofT tw nm).map VP.int))) = tiesP (row.map (ofT tw)) := by
    rw [List.filter_eq_self.mpr (fun _ _ => rfl)]
    unfold tiesP; rw [List.map_map]; rfl
  refine Ex.ite (Tst.cast (b' := false) (Tst.bop (.or (Tst.not (Tst.val (Ev.callB (Ev.glob (g_isinstance hC)) (.cons (Ev.name rfl) (.cons (Ev.glob (g_int hC)) .nil)) (fun _ _ => rfl) Fn.isiIntInt))) fun _ => .or (Tst.cmp (Ev.name rfl) (Ev.callF (Ev.glob (g_least hC)) (hC.keep rfl) (.cons (Ev.name rfl) (.cons (Ev.cast (Ev.comp (CompIs.listF (xs := row) (P := VP.str) (f := fun nm => VP.list ((ofT tw nm).map VP.int)) (b := fun _ => true) ([("towns", .val (.dict C (dTn tw)))] : Gam) ⟨rfl, by decide, rfl, gsub_cons rfl gsub_nil, gc_cons rfl rfl gc_nil⟩
      (EvIter.of (Ev.name rfl) (OpIter.list .name)) rfl (by omega) fun nm hnm => ⟨_, Asg.name (.inl rfl), gsub_cons rfl gsub_nil, .nil, fun _ => Ev.subDict (EvO.of (Ev.name rfl)) (Ev.name rfl) (hgw nm (hrn nm hnm))⟩) (fun _ => rfl)) hsides) .nil)) (fun _ _ => rfl) (Fn.le (least_ok hC ties (row.map (ofT tw)) (sumV (tabOf t last)) O.rows (by rw [List.length_map]; omega) (fun s hs => by
        obtain ⟨a, ha, rfl⟩ := List.mem_map.mp hs
        obtain ⟨q, hq, e⟩ := List.mem_map.mp (hrn a ha)
        rw [← e, ofT_mem W.nm hq]
        exact ⟨W.short hq, W.places hq⟩) hcut.mem hcut.least) (by decide))) Op2.neInt) fun _ => .nilOr)) (by simp)) (fun h => by cases h) fun _ => ?_
  obtain ⟨qf, hqf, ef⟩ := List.mem_map.mp hfm
  obtain ⟨ql, hql, el⟩ := List.mem_map.mp hlm
  have of_f : ofT tw first = qf.2 := by rw [← ef]; exact ofT_mem W.nm hqf
  have of_l : ofT tw last = ql.2 := by rw [← el]; exact ofT_mem W.nm hql
  have nf : first = nameOf texts (ofT tw first) := by rw [of_f, ← ef]; exact W.name qf hqf
  have nl : last = nameOf texts (ofT tw last) := by rw [of_l, ← el]; exact W.name ql hql
  have lf : (ofT tw first).length ≤ 5 := by rw [of_f]; exact W.short hqf
  have ll : (ofT tw last).length ≤ 5 := by rw [of_l]; exact W.short hql
  have zf : ofT tw first ≠ [] := by rw [of_f]; exact W.ne qf hqf
  have zl : ofT tw last ≠ [] := by rw [of_l]; exact W.ne ql hql
  have len_f : first.length ≤ 200 := by rw [nf]; have := name_len X (ofT tw first); omega
  have len_l : last.length ≤ 200 := by rw [nl]; have := name_len X (ofT tw last); omega
  have hloc : locName (if first = Str.ofString "C" then none else some first) (some last) = nameOf texts (ofT tw first ++ ofT tw last) := by
    rw [name_app zf zl, ← nf, ← nl]
    unfold locName
    by_cases h : first = Str.ofString "C"
    · rw [if_pos h, h]; rfl
    · rw [if_neg h]; rfl
  refine Ex.cons1 (ExS.asg (P := .str (nameOf texts (ofT tw first ++ ofT tw last))) (Ev.cast (Ev.callF (Ev.glob (g_loc hC)) (hC.keep rfl) (.cons (Ev.tupD (.cons (Ev.ite (P := optP (if first = Str.ofString "C" then none else some first)) (Tst.cmp (Ev.name rfl) Ev.cstr Op2.eqStr) (fun h => Ev.cast Ev.cnone (by rw [if_pos (by simpa using h)]; rfl)) (fun h => Ev.cast (Ev.name rfl) (by rw [if_neg (by simpa using h)]; rfl))) (.cons (Ev.cast (Ev.name rfl) (show VP.str last = optP (some last) from rfl)) .nil))) .nil) (fun _ _ => rfl) (Fn.le (localename_ok hC (if first = Str.ofString "C" then none else some first) (some last) (by
        split
        · decide
        · show first.length ≤ 1000; omega) (by show last.length ≤ 1000; omega)) (by decide))) (by rw [hloc])) rfl) ?_
  have hjn : Txt.join (Str.ofString ".") ((ofT tw first ++ ofT tw last).map (txt texts)) = nameOf texts (ofT tw first ++ ofT tw last) := rfl
  have hpl : Places (ofT tw first ++ ofT tw last) := pull_places (W.tab.pl first hfm) (W.tab.pl last hlm)
  have hal : (ofT tw first ++ ofT tw last).length ≤ 10 := by rw [List.length_append]; omega
  have szt : (texts.map VP.str).length ≤ sizeLine := by rw [List.length_map]; omega
  have happ : ((ofT tw first).map VP.int ++ (ofT tw last).map VP.int) = (ofT tw first ++ ofT tw last).map VP.int := (List.map_append ..).symm
  have hsl : ((ofT tw first).map VP.int).length + ((ofT tw last).map VP.int).length ≤ sizeLine := by rw [List.length_map, List.length_map]; omega
  refine Ex.ite (Tst.cast (b' := false) (Tst.bop (.or (Tst.cmp (Ev.name rfl) (Ev.join (x := Str.ofString ".") (ys := (ofT tw first ++ ofT tw last).map (txt texts)) Ev.cstr (Ev.cast (Ev.comp (CompIs.listF (xs := ofT tw first ++ ofT tw last) (P := VP.int) (f := fun k => VP.str (txt texts k)) (b := fun _ => true) ([("texts", .val (.list (texts.map .str)))] : Gam) ⟨rfl, by decide, rfl, gsub_cons rfl gsub_nil, gc_cons rfl rfl gc_nil⟩
      (EvIter.of (Ev.binop (Ev.subDict (EvO.of (Ev.name rfl)) (Ev.name rfl) (hgw first hfm)) (Ev.subDict (EvO.of (Ev.name rfl)) (Ev.name rfl) (hgw last hlm)) (Op2.addList hsl)) (OpIter.list .name)) happ (by omega) fun k hk => ⟨_, Asg.name (.inl rfl), gsub_cons rfl gsub_nil, .nil, fun _ => Ev.atList (Ev.name rfl) (Ev.name rfl) (pickAt_int (d := "") VP.str (hpl k hk).1 (by have := hpl k hk; omega)) szt⟩) (fun _ => rfl)) (by rw [List.filter_eq_self.mpr (fun _ _ => rfl), List.map_map]; rfl)) (fun _ _ => rfl) (by
        have : (((ofT tw first ++ ofT tw last).map (txt texts)).map (·.length)).sum ≤ 20 * (ofT tw first ++ ofT tw last).length := by
          generalize ofT tw first ++ ofT tw last = l
          induction l with
          | nil => exact Nat.le_refl _
          | cons k l ih =>
            have := X.short k.toNat
            simp only [List.map_cons, List.sum_cons, List.length_cons]
            have e : (txt texts k).length ≤ 20 := this
            omega
        rw [List.length_map, show (Str.ofString ".").length = 1 from by decide]; omega)) Op2.neStr) fun _ => .or (Tst.cmp (Ev.callF (Ev.glob (g_add_c hC)) (hC.keep rfl) (.cons (Ev.name rfl) .nil) (fun _ _ => rfl) (Fn.le (strxfrm_ok hC _) (by decide))) (Ev.name rfl) Op2.neStr) fun _ => .nilOr)) (by rw [hjn]; simp)) (fun h => by cases h) fun _ => ?_
  generalize hname : nameOf texts (ofT tw first ++ ofT tw last) = nm
  refine Ex.cons1 (ExS.asg (Ev.callF (Ev.glob (g_melted hC)) (hC.keep rfl) (.cons (Ev.name rfl) (.cons (Ev.name rfl) (.cons (Ev.name rfl) (.cons (Ev.name rfl) .nil)))) (fun _ _ => rfl) (Fn.le (melted_ok hC t first last nm (W.meltOk hPair nm)) (by decide))) rfl) ?_
  have htn : (t.map (·.1)).Nodup := W.tk.nodup_iff.mpr W.nm
  have htl : t.length = tw.length := by have := W.tk.length_eq; rw [List.length_map, List.length_map] at this; exact this
  refine Ex.ite (Tst.cmpO (Ev.name rfl) (EvO.of (Ev.name rfl)) (Op2O.neDict (r := true) (.same (by unfold dTab; rw [List.length_map, List.length_map]; exact htl) fun i hi => ?_))) (fun h => by cases h) fun _ => ?_
  · have hi' : i < t.length := by unfold dTab at hi; rw [List.length_map] at hi; exact hi
    have hm : t[i].1 ∈ tw.map (·.1) := W.tk.mem_iff.mp (List.mem_map.mpr ⟨t[i], List.getElem_mem _, rfl⟩)
    obtain ⟨j, hj, ej⟩ := List.mem_iff_getElem.mp hm
    have hj' : j < tw.length := by rw [List.length_map] at hj; exact hj
    rw [List.getElem_map] at ej
    have e1 : (dTab C t)[i] = (t[i].1, VP.dict C (dI t[i].2)) := List.getElem_map ..
    refine ⟨j, by rw [List.length_map]; exact hj', ?_, ?_⟩
    · rw [e1, List.getElem_map]; exact ej.symm
    · rw [e1, List.getElem_map]
      show EqV C 30 (VP.dict C (dI t[i].2)) (VP.dict C (dI (tabOf t tw[j].1)))
      have e2 : tabOf t tw[j].1 = t[i].2 := by rw [ej]; unfold tabOf; rw [dget_mem htn (List.getElem_mem hi')]; rfl
      rw [e2]
      exact EqV.dict (k := 29) (dict_self _)
  have hmel : dputs (fun q : Str × List Int => q.1) (fun q => VP.list (q.2.map VP.int)) [] (tw.filter fun q => !decide (q.1 ∈ [first, last])) = dTn (tw.filter fun q => outOf first last q.1) := by
    rw [dputs_fresh _ _ _ _ (by rw [List.map_nil, List.nil_append]; exact W.nm.sublist (List.Sublist.map _ List.filter_sublist))]
    rfl
  refine Ex.cons1 (ExS.compG false (CompIs.dictF (xs := tw) (P := fun q => VP.str q.1) (key := fun q => q.1) (f := fun q => VP.list (q.2.map VP.int)) (b := fun q => !decide (q.1 ∈ [first, last])) ([("towns", .val (.dict C (dTn tw))), ("first", .val (.str first)), ("last", .val (.str last))] : Gam) ⟨rfl, by decide, rfl, gsub_cons rfl (gsub_cons rfl (gsub_cons rfl gsub_nil)), gc_cons rfl rfl (gc_cons rfl rfl (gc_cons rfl rfl gc_nil))⟩
    (EvIter.of (Ev.name rfl) OpIter.dict) (by unfold dTn; rw [List.map_map]; rfl) (by omega) fun q hq => ⟨_, Asg.name (.inl rfl), gsub_cons rfl (gsub_cons rfl (gsub_cons rfl gsub_nil)), Ifs.one (Tst.cmpO (Ev.name rfl) (EvO.of (Ev.tupD (.cons (Ev.name rfl) (.cons (Ev.name rfl) .nil)))) (Op2O.notInStrT (xs := [first, last]))), fun _ => ⟨Ev.name rfl, Ev.subDict (EvO.of (Ev.name rfl)) (Ev.name rfl) (by rw [hgw q.1 (List.mem_map.mpr ⟨q, hq, rfl⟩), ofT_mem W.nm hq])⟩⟩) (fun _ _ => rfl) rfl rfl (fun env hE => by obtain ⟨e, _, _, _⟩ := hE; cases env; cases e; rfl)) ?_
  rw [hmel, if_neg (by decide)]
  have W' := W.melt O X hPair hname.symm
  have hfl : (tw.filter fun q => outOf first last q.1).length + 2 = tw.length := by
    have := (pair_split W.nm hPair).length_eq
    rw [List.length_append] at this
    exact this.symm
  have hml : (meltTw tw first last nm).length = (tw.filter fun q => outOf first last q.1).length + 1 := by unfold meltTw; rw [List.length_append]; rfl
  have hmt : dTn (meltTw tw first last nm) = dTn (tw.filter fun q => outOf first last q.1) ++ [(nm, VP.list ((ofT tw first ++ ofT tw last).map VP.int))] := by unfold meltTw dTn; rw [List.map_append]; rfl
  have hdf : (dTn (tw.filter fun q => outOf first last q.1)).length = (tw.filter fun q => outOf first last q.1).length := by unfold dTn; rw [List.length_map]
  refine Ex.cons1 (ExS.asgs (Ev.tupD (.cons (Ev.name rfl) (.cons (Ev.callT (Ev.glob (g_dict hC)) (.cons (Ev.cast (P' := .list ((dTn (meltTw tw first last nm)).map pairP)) (Ev.binop (Ev.callT (Ev.glob (g_list hC)) (.cons (Ev.items (Ev.name rfl)) .nil) (fun _ _ => rfl) (Fn.listItems (by rw [hdf]; omega))) (Ev.listD (.cons (Ev.tupD (.cons (Ev.name rfl) (.cons (Ev.binop (Ev.subDict (EvO.of (Ev.name rfl)) (Ev.name rfl) (hgw first hfm)) (Ev.subDict (EvO.of (Ev.name rfl)) (Ev.name rfl) (hgw last hlm)) (Op2.addList hsl)) .nil))) .nil)) (Op2.addList (by rw [List.length_map, hdf, List.length_singleton]; omega))) (by rw [hmt, List.map_append, happ]; rfl)) .nil) (fun _ _ => rfl) (Fn.dictList (l := dTn (meltTw tw first last nm)) (by
        have := W'.nm
        unfold dTn; rw [List.map_map]; exact this) (by unfold dTn; rw [List.length_map]; omega))) .nil))) (.one (Asg.tup (.cons (Asg.name (.inr ⟨rfl, rfl⟩)) (.cons (Asg.name (.inr ⟨rfl, rfl⟩)) .nil)))) rfl (fun env hE => by obtain ⟨e, _, _, _⟩ := hE; cases env; cases e; rfl)) ?_
  refine Ex.nil ⟨meltOf t first last nm, meltTw tw first last nm, W', by omega, rfl⟩ ?_
  exact gsub_cons rfl (gsub_cons rfl (gsub_cons rfl (gsub_cons rfl (gsub_cons rfl (gsub_cons rfl (gsub_cons rfl gsub_nil))))))
end Mine
end

section
open PySem PySem.W PyProof.Rows
set_option autoImplicit false
set_option maxRecDepth 100000
set_option maxHeartbeats 1000000
namespace Mine
variable {C : Cx} {n : Nat}
theorem law_tail (hC : C.Ok) (hG : GenOk C) (cells : List Int) (hcl : cells.length = 6) (t0 : Tab) (tw0 : Tw) (W0 : World (tiesOf ((cs5 cells).map walkC)) (textsC cells) t0 tw0) : Ex C 4 lawSc (tailG C cells t0 tw0) ((fB (top 21)).drop 13) (RetOut (.bool true)) := by
  have X := textsC_ok cells
  refine Ex.cons (N := fun G => ∃ t tw, World (tiesOf ((cs5 cells).map walkC)) (textsC cells) t tw ∧ tw.length ≤ 1 ∧ G = tailG C cells t tw) (ExS.while_ (ι := Tab × Tw) (fun i => tailG C cells i.1 i.2) (fun i => World (tiesOf ((cs5 cells).map walkC)) (textsC cells) i.1 i.2) (fun i => i.2.length) (t0, tw0) (fun _ _ h => h) W0 ?_) fun G hG' => ?_
  · rintro ⟨t, tw⟩ W
    have W1 : World (tiesOf ((cs5 cells).map walkC)) (textsC cells) t tw := W
    have hfew := W1.few
    have hdl : (dTn tw).length = tw.length := by unfold dTn; rw [List.length_map]
    refine ⟨decide (1 < tw.length), ?_, And.intro (fun h => ?_) fun h => ?_⟩
    · refine Tst.cast (Tst.cmp (Ev.callB (Ev.glob (g_len hC)) (.cons (Ev.name (P := .dict C (dTn tw)) rfl) .nil) (fun _ _ => rfl) (Fn.lenDict (by rw [hdl]; exact Nat.le_trans hfew (by decide)))) Ev.cint Op2.gtInt) ?_
      rw [hdl]
      exact decide_eq_decide.mpr (by omega)
    · have h2 : 1 < tw.length := of_decide_eq_true h
      refine Ex.out (round_ok hC hG cells hcl t tw W1 (by omega)) ⟨fun G hG => ?_, fun _ h => h.elim, fun _ h => h.elim, fun _ h => h.elim⟩
      obtain ⟨t', tw', h3, h4, h5⟩ := hG
      exact ⟨(t', tw'), h3, h4, h5⟩
    · have h2 : ¬ 1 < tw.length := of_decide_eq_false h
      exact ⟨t, tw, W1, by omega, rfl⟩
  · obtain ⟨t, tw, W, h1, rfl⟩ := hG'
    have hlen := W.part.length_eq
    rw [upto_len] at hlen
    obtain ⟨q, rfl⟩ : ∃ q, tw = [q] := by
      match tw, h1 with
      | [], _ => simp at hlen
      | [q], _ => exact ⟨q, rfl⟩
    have hq := W.name q (.head _)
    have hpl := W.places (q := q) (.head _)
    have hsh := W.short (q := q) (.head _)
    have hnl := name_len X q.2
    have hx : (textsC cells).length = 5 := rfl
    have h100 : 100 ≤ sizeLine := by decide
    unfold tailG
    generalize textsC cells = texts at W X hq hnl hx
    have szt : (texts.map VP.str).length ≤ sizeLine := by rw [List.length_map]; omega
    have hjn : Txt.join (Str.ofString ".") (q.2.map (txt texts)) = nameOf texts q.2 := rfl
    refine Ex.retS (P := .bool true) (Ev.cast (Ev.cmp (Ev.callF (Ev.glob (g_loc hC)) (hC.keep rfl) (.cons (Ev.tupD (.cons (Ev.cast (P' := optP (some q.1)) (Ev.atList (ps := [VP.str q.1]) (k := 0) (P := .str q.1) (Ev.callT (Ev.glob (g_list hC)) (.cons (Ev.name rfl) .nil) (fun _ _ => rfl) (Fn.listDict (l := dTn [q]) (show 1 ≤ sizeLine by decide))) Ev.cint rfl (show 1 ≤ sizeLine by decide)) rfl) (.cons (Ev.cast Ev.cnone (show VP.none = optP none from rfl)) .nil))) .nil) (fun _ _ => rfl) (Fn.le (localename_ok hC (some q.1) none (by show q.1.length ≤ 1000; rw [hq]; omega) (by decide)) (by decide)))
      (Ev.join (x := Str.ofString ".") (ys := q.2.map (txt texts)) Ev.cstr (Ev.cast (Ev.comp (CompIs.listF (xs := q.2) (P := VP.int) (f := fun k => VP.str (txt texts k)) (b := fun _ => true) ([("texts", .val (.list (texts.map .str)))] : Gam) ⟨rfl, by decide, rfl, gsub_cons rfl gsub_nil, gc_cons rfl rfl gc_nil⟩
        (EvIter.of (Ev.atList (ps := [VP.list (q.2.map VP.int)]) (k := 0) (P := .list (q.2.map VP.int)) (Ev.callT (Ev.glob (g_list hC)) (.cons (Ev.values (Ev.name rfl)) .nil) (fun _ _ => rfl) (Fn.listValues (l := dTn [q]) (show 1 ≤ sizeLine by decide))) Ev.cint rfl (show 1 ≤ sizeLine by decide)) (OpIter.list .name)) rfl (by omega) fun k hk => ⟨_, Asg.name (.inl rfl), gsub_cons rfl gsub_nil, .nil, fun _ => Ev.atList (Ev.name rfl) (Ev.name rfl) (pickAt_int (d := "") VP.str (hpl k hk).1 (by have := hpl k hk; omega)) szt⟩) (fun _ => rfl)) (by rw [List.filter_eq_self.mpr (fun _ _ => rfl), List.map_map]; rfl)) (fun _ _ => rfl) (by
          have : ((q.2.map (txt texts)).map (·.length)).sum ≤ 20 * q.2.length := by
            generalize q.2 = l
            induction l with
            | nil => exact Nat.le_refl _
            | cons k l ih =>
              have := X.short k.toNat
              simp only [List.map_cons, List.sum_cons, List.length_cons]
              have e : (txt texts k).length ≤ 20 := this
              omega
          rw [List.length_map, show (Str.ofString ".").length = 1 from by decide]; omega)) Op2.eqStr) ?_) fun Z v h => h
    rw [hjn, ← hq]
    show VP.bool (q.1 == q.1) = _
    rw [beq_self_eq_true]
theorem law_ok (hC : C.Ok) (hG : GenOk C) (ns : List Int) (hn : ns.length ≤ 1000) : Fn C 5 (.ref 204) [.list (ns.map .int)] (.bool true) := law_head hC hG ns hn fun cells hcl => law_tail hC hG cells hcl _ _ (world0 (walks := (cs5 cells).map walkC) (textsC_ok cells) (tablesC cells hcl).nd (by rw [List.length_map]; exact cs5_len hcl))
end Mine
end

section
open PySem PySem.W PyProof.Rows
set_option maxRecDepth 100000
set_option maxHeartbeats 8000000
namespace Mine
theorem ints_oks {Z : Fz} {vs : List Value} {ns : List Int} (h : IntsAre vs ns) : Oks Z (ns.map VP.int) vs := by
  induction h with
  | nil => exact .nil
  | cons n t _ ih => exact .cons ⟨t, rfl⟩ ih
noncomputable def Fgone (h : Heap) : Heap := h.update 152 fun o => { o with data := .freed }
theorem Fgone.ne {h : Heap} {a : Addr} (e : a ≠ 152) : (Fgone h).get? a = h.get? a := Heap.get?_update_ne _ _ _ _ e
theorem Fgone.none {h : Heap} {o : Obj} (e : (Fgone h).get? 152 = some o) : False := by
  unfold Fgone Heap.update Heap.get? at e
  simp only [Array.getElem?_modify, if_pos] at e
  cases hx : h.objs[152]? with
  | none => rw [hx] at e; cases e
  | some o => rw [hx] at e; cases e
theorem Fgone.keep {h : Heap} {a : Addr} {o : Obj} (e : (Fgone h).get? a = some o) : a ≠ 152 ∧ h.get? a = some o := by
  by_cases q : a = 152
  · subst q; exact (Fgone.none e).elim
  · exact ⟨q, Fgone.ne q ▸ e⟩
theorem Fgone.to {h : Heap} {a : Addr} {o : Obj} (q : a ≠ 152) (e : h.get? a = some o) : (Fgone h).get? a = some o := (Fgone.ne q).trans e
theorem look2 {K : Frag} {o2 : Obj} {a : Addr} {o : Obj} (q : a ≠ 152) (e : K.lookup a = some o) : ((152, o2) :: K : Frag).lookup a = some o := by
  show List.lookup a ((152, o2) :: K) = some o
  rw [List.lookup_cons, beq_false_of_ne q]; exact e
theorem look152 {w : PySem.World} : (KK2 w.params).lookup 152 = some { cls := .none, data := .fields #[] } := by kernel_rfl
theorem kk152 {w : PySem.World} : (KK w.params).lookup 152 = none := by kernel_rfl
theorem lawName {w : PySem.World} : nsIn (KK2 w.params) mainGlobals lawD.name = some (some (.ref 204)) := by kernel_rfl
theorem code152 {w : PySem.World} {h : Heap} (KX : (KK2 w.params).In h) : isCodeTable h 152 := ⟨156, _, _, KX 156 _ rfl, rfl, rfl, rfl⟩
theorem inv0 {C : Cx} {s₁ : Shared} (hs : C.s0 = { s₁ with heap := Fgone s₁.heap }) (ht : C.tab = 152) {ot : Obj} (h152 : s₁.heap.get? 152 = some ot) (hg : C.gok s₁.gens ot) : Inv C (fun a => if a = 152 then Option.none else s₁.heap.get? a) [] s₁ := by
  have hz : ∀ a o, C.s0.heap.get? a = some o → a ≠ 152 ∧ s₁.heap.get? a = some o := fun a o e => by rw [hs] at e; exact Fgone.keep e
  refine ⟨⟨s₁.heap, s₁.toks, s₁.gens, by rw [hs]⟩, ⟨⟨ot, by rw [ht]; exact h152, hg⟩, ?_, ?_⟩, fun a o e => ?_, fun a o e => ?_, (fun r h => nomatch h), (fun r h => nomatch h), List.nodup_nil⟩
  · rw [ht]; exact if_pos rfl
  · exact List.not_mem_nil
  · obtain ⟨q, e'⟩ := hz a o e
    exact (if_neg q).trans e'
  · by_cases q : a = 152
    · rw [if_pos q] at e; cases e
    · rwa [if_neg q] at e
theorem reads_mem {h : Heap} {l : Addr} {xs : List PyData} {as : List Addr} (r : Reads h (.ref l) (.list xs) as) : l ∈ as := by
  cases r; exact .head _
theorem mkC {w : PySem.World} {s₀ s₁ : Shared} {mg mb : Str → Option Value} (T : Top q0 (looseW q0 loose) (ExcName.means s₀.heap) mg mb s₁.heap) (KX : (KK2 w.params).In s₁.heap) :
    ∃ C : Cx, C.Ok ∧ GenOk C ∧ C.prog = rr.prog ∧ C.w = w ∧ C.s0 = { s₁ with heap := Fgone s₁.heap } := by
  obtain ⟨bm, ob, hbm1, hbm2, hbm3, hbm4, hbm5, hbm6⟩ := T.bmain
  have h152 : s₁.heap.get? 152 = some { cls := .none, data := .fields #[] } := KX 152 _ look152
  have hne : ∀ a o, s₁.heap.get? a = some o → o.cls ≠ .none → a ≠ 152 := fun a o e hc q => by subst q; rw [h152] at e; cases e; exact hc rfl
  have hkk : ∀ a o, (KK w.params).lookup a = some o → a ≠ 152 ∧ (KK2 w.params).lookup a = some o := fun a o e => by
    have q : a ≠ 152 := fun q => by rw [q, kk152] at e; cases e
    exact ⟨q, look2 q e⟩
  have kin : (KK w.params).In (Fgone s₁.heap) := fun a o e => let ⟨q, e'⟩ := hkk a o e; Fgone.to q (KX a o e')
  have ns : ∀ {a : Addr} {m : Str → Option Value}, a ≠ 152 → s₁.heap.Ns a m → (Fgone s₁.heap).Ns a m := fun q x => Heap.Ns.at' x fun o e => Fgone.to q e
  have nol : (Fgone s₁.heap).NoLimit := let ⟨mc, x, y⟩ := T.nolimit; ⟨mc, ns (by decide) x, y⟩
  have nod : ∃ mc, (Fgone s₁.heap).Ns cStatics mc ∧ mc "sys.int_max_str_digits" = none := let ⟨mc, x, y⟩ := T.nodigits; ⟨mc, ns (by decide) x, y⟩
  exact ⟨Cx.mk rr.prog w { s₁ with heap := Fgone s₁.heap } (KK w.params) mg mb kin (ns (by decide) T.g) (ns (by decide) T.b) nol nod T.builtins 152 (fun gs o => (∀ y ∈ gs, y.bare = true) ∧ IsTabO o), Eq.refl (KK w.params), ⟨rfl, fun _ _ => .rfl, bm, ob, hbm1, hbm2, Fgone.to (hne _ _ hbm3 (by rw [hbm4]; nofun)) hbm3, hbm4, hbm5, hbm6⟩, rfl, rfl, rfl⟩
theorem glue {w : PySem.World} {s₀ s₁ : Shared} {mg mb : Str → Option Value} (T : Top q0 (looseW q0 loose) (ExcName.means s₀.heap) mg mb s₁.heap) (KX : (KK2 w.params).In s₁.heap) {fa : Addr} (hmg : mg lawD.name = some (.ref fa)) (hg : s₁.gens = #[])
    {ns' : List Int} {l : Addr} {vs : List Value} (hL : s₁.heap.IsList l vs.toArray) (w1 : Well w.params s₁.heap (.ref l) (ofPy (.list (ns'.map .int)))) (hI : IntsAre vs ns') (hlen : ¬ ((63 : Nat) : Int) < ns'.length) (hnm : (l == sysModules) = false) :
    wpAny (model rr.prog w) callerA (call (.ref fa) [.ref l]) (fun v s' => GoodWG rr.claim (classAt s₀.heap) (ExcName.means s₀.heap) [ofPy (.list (ns'.map .int))] s₁ (.ok (.ret v)) s')
      (fun e s' => GoodWG rr.claim (classAt s₀.heap) (ExcName.means s₀.heap) [ofPy (.list (ns'.map .int))] s₁ (.error e) s') s₁ := by
  obtain rfl : fa = 204 := by
    have := mg_of (n := lawD.name) (v := .ref 204) KX T.g lawName
    rw [hmg] at this
    injection this with this; injection this
  have h152 : s₁.heap.get? 152 = some { cls := .none, data := .fields #[] } := KX 152 _ look152
  obtain ⟨C, hC, hG, hp, hw, hs⟩ := mkC T KX
  have I := inv0 hs hG.tab h152 ((hG.gok _ _).mpr ⟨fun y hy => by rw [hg] at hy; simp at hy, #[], rfl, trivial⟩)
  have keep : ∀ b o, b ≠ 152 → s₁.heap.get? b = some o → C.s0.heap.get? b = some o := fun b o q e => by rw [hs]; exact Fgone.to q e
  obtain ⟨lo, hlo, hlc, n, hld⟩ := id hL
  have hls : lo = { cls := .type "list", data := .seq vs.toArray n } := by
    cases w1 with
    | list h1 _ =>
      have := Option.some.inj (hlo.symm.trans h1)
      subst this
      cases hld; rfl
  have hlz : (if l = 152 then none else s₁.heap.get? l) = some lo := (if_neg fun q => by rw [q, h152] at hlo; cases hlo; cases hlc).trans hlo
  have hlen' : ns'.length ≤ 1000 := by omega
  have hM : model rr.prog w = C.M := by rw [Cx.M, hp, hw]
  rw [hM]
  refine wpAny_mono (law_ok hC hG ns' hlen' callerA _ [] s₁ [.ref l] _ ⟨rfl, by decide, by decide⟩ I (.cons ⟨l, lo, rfl, hlz, ⟨vs.toArray, n, hls, by simpa using ints_oks hI⟩, hnm⟩ .nil)) (fun v s' ⟨Z', z, I', hv⟩ => ?_) fun _ _ e => e
  cases (show v = .bool true from hv)
  obtain ⟨o', ho', hgk⟩ := I'.bare.at_
  rw [hG.tab] at ho'
  obtain ⟨hb, ps, rfl, _⟩ := (hG.gok _ _).mp hgk
  refine ⟨.inl ⟨_, .bool true, [], rfl, raisesW_false (by wrow_none_raised), .bool true, ?_, unshared_nil⟩, ⟨fun b o e => ?_, fun b o e => ?_⟩, ?_, hb⟩
  · wrow_post
  · by_cases q : b = 152
    · subst q
      rw [h152] at e; cases e
      exact .inr (.inl ⟨code152 KX, rfl, #[], ps, rfl, by rw [Array.empty_append]; exact ho'⟩)
    · exact .inl (I'.keep0 b o (keep b o q e))
  · by_cases q : b = 152
    · exact ⟨_, q ▸ ho'⟩
    · exact ⟨o, I'.keep0 b o (keep b o q e)⟩
  · obtain ⟨h, tk, gs, e⟩ := I'.shape
    rw [e, hs]
end Mine
theorem PySem.Challenge.cw_jc0031_01_holds : PySem.Challenge.rw_jc0031_01.Holds :=
  Mine.hd (by
  intro w s₀ s₁ mg mb G Y fa o pm cd doc dV kV ho hd hcd hD hmg hg args vals as hpre hlay hrd hwl hlo
  have KX : (Mine.KK2 w.params).In s₁.heap := kIn_of Y
  have T := G.T
  have hlo2 := hlo
  wrow_args hpre hlay hrd hwl hlo
  exact Mine.glue T KX hmg hg (by assumption) (by assumption) (by assumption) (by assumption) (hlo2 _ (List.mem_append_left _ (Mine.reads_mem (by assumption)))))
end
