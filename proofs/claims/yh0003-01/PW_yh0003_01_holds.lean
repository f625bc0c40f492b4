import PyProof.Rows.All
import Wide.All
import OpenK.AllK
import Wide.FinOn
import PySem.Challenge.RW_yh0003_01
open PySem PySem.W PyProof.Rows
set_option Elab.async false
set_option linter.unusedVariables false
set_option bootstrap.genMatcherCode false
set_option genSizeOf false
set_option maxRecDepth 100000
set_option maxHeartbeats 8000000
namespace Mine

/-! data -/
inductive At where
  | none
  | bool (b : Bool)
  | int (i : Int)
  | str (s : Str)

structure Rw where
  text : Str
  behind : Int
  number : Int
  kind : Str

noncomputable def Rw.ats (r : Rw) : List At := [.str r.text, .int r.behind, .int r.number, .str r.kind]

inductive D where
  | at (a : At)
  | ints (ns : List Int)
  | strs (ss : List Str)
  | tup (as : List At)
  | tups (xs : List (List At))
  | val (v : Value)
  | script (ns : List Int)
  | parts (ss : List Str)

noncomputable abbrev DI (i : Int) : D := .at (.int i)
noncomputable abbrev DS (s : Str) : D := .at (.str s)
noncomputable abbrev DB (b : Bool) : D := .at (.bool b)

noncomputable def AtRep (v : Value) : At → Prop
  | .none => v = .none
  | .bool b => v = .bool b
  | .int i => ∃ t, v = .int i t
  | .str s => ∃ t, v = .str s t

noncomputable def TupRep (P : Addr → Prop) (h : Heap) (v : Value) (as : List At) : Prop :=
  ∃ a vs, v = .ref a ∧ P a ∧ IsTup h a vs.toArray ∧ Paired AtRep vs as

noncomputable def Rep (P : Addr → Prop) (h : Heap) (v : Value) : D → Prop
  | .at a => AtRep v a
  | .ints ns => ∃ a vs, v = .ref a ∧ P a ∧ h.PlainList a vs.toArray ∧ IntsAre vs ns
  | .strs ss => ∃ a vs, v = .ref a ∧ P a ∧ h.PlainList a vs.toArray ∧ StrsAre vs ss
  | .tup as => TupRep P h v as
  | .tups xs => ∃ a vs, v = .ref a ∧ P a ∧ h.PlainList a vs.toArray ∧ Paired (TupRep P h) vs xs
  | .val w => v = w
  | .script ns => ∃ a vs, v = .ref a ∧ P a ∧ h.IsList a vs.toArray ∧ IntsAre vs ns
  | .parts ss => ∃ a vs, v = .ref a ∧ P a ∧ h.IsList a vs.toArray ∧ StrsAre vs ss

noncomputable def Le (h h' : Heap) : Prop := ∀ b o, h.get? b = some o → h'.get? b = some o
theorem Le.refl (h : Heap) : Le h h := fun _ _ e => e
theorem Le.trans {a b c : Heap} (x : Le a b) (y : Le b c) : Le a c := fun d o e => y d o (x d o e)

theorem paired_mono {α β : Type} {F G : α → β → Prop} (hFG : ∀ a b, F a b → G a b) : ∀ {l : List α} {l' : List β}, Paired F l l' → Paired G l l'
  | _, _, .nil => .nil
  | _, _, .cons h t => .cons (hFG _ _ h) (paired_mono hFG t)

/-- the addresses of a value's data are kept, so the value is -/
theorem TupRep.to {P P' : Addr → Prop} {h h' : Heap} {v : Value} {as : List At} (hk : ∀ b o, P b → h.get? b = some o → h'.get? b = some o ∧ P' b) (r : TupRep P h v as) : TupRep P' h' v as := by
  obtain ⟨a, vs, rfl, hp, ⟨o, ho, hc, n, hd⟩, hr⟩ := r
  exact ⟨a, vs, rfl, (hk a o hp ho).2, ⟨o, (hk a o hp ho).1, hc, n, hd⟩, hr⟩
theorem Rep.to {P P' : Addr → Prop} {h h' : Heap} {v : Value} (hk : ∀ b o, P b → h.get? b = some o → h'.get? b = some o ∧ P' b) : ∀ {d : D}, Rep P h v d → Rep P' h' v d
  | .at _, r => r
  | .val _, r => r
  | .ints _, ⟨a, vs, e, hp, ⟨n, ho⟩, hr⟩ => ⟨a, vs, e, (hk a _ hp ho).2, ⟨n, (hk a _ hp ho).1⟩, hr⟩
  | .strs _, ⟨a, vs, e, hp, ⟨n, ho⟩, hr⟩ => ⟨a, vs, e, (hk a _ hp ho).2, ⟨n, (hk a _ hp ho).1⟩, hr⟩
  | .tup _, r => TupRep.to hk r
  | .tups _, ⟨a, vs, e, hp, ⟨n, ho⟩, hr⟩ => ⟨a, vs, e, (hk a _ hp ho).2, ⟨n, (hk a _ hp ho).1⟩, paired_mono (fun _ _ => TupRep.to hk) hr⟩
  | .script _, ⟨a, vs, e, hp, ⟨o, ho, hr⟩, hi⟩ => ⟨a, vs, e, (hk a _ hp ho).2, ⟨o, (hk a _ hp ho).1, hr⟩, hi⟩
  | .parts _, ⟨a, vs, e, hp, ⟨o, ho, hr⟩, hi⟩ => ⟨a, vs, e, (hk a _ hp ho).2, ⟨o, (hk a _ hp ho).1, hr⟩, hi⟩

theorem Rep.le {P : Addr → Prop} {h h' : Heap} {v : Value} {d : D} (hk : Le h h') (r : Rep P h v d) : Rep P h' v d := r.to fun b o hp e => ⟨hk b o e, hp⟩
theorem Rep.mono {P P' : Addr → Prop} {h : Heap} {v : Value} {d : D} (hp : ∀ a, P a → P' a) (r : Rep P h v d) : Rep P' h v d := r.to fun b _ h e => ⟨e, hp b h⟩
theorem Rep.any {P : Addr → Prop} {h : Heap} {v : Value} {d : D} (r : Rep P h v d) : Rep (fun _ => True) h v d := r.mono fun _ _ => trivial

noncomputable def SeqAt (h : Heap) (b : Addr) : Prop := ∃ o xs n, h.get? b = some o ∧ o.data = .seq xs n
theorem TupRep.seq {P : Addr → Prop} {h : Heap} {v : Value} {as : List At} (r : TupRep P h v as) : TupRep (fun b => P b ∧ SeqAt h b) h v as := by
  obtain ⟨a, vs, rfl, hp, ⟨o, ho, hc, n, hd⟩, hr⟩ := r
  exact ⟨a, vs, rfl, ⟨hp, o, _, n, ho, hd⟩, ⟨o, ho, hc, n, hd⟩, hr⟩
theorem Rep.seq {P : Addr → Prop} {h : Heap} {v : Value} : ∀ {d : D}, Rep P h v d → Rep (fun b => P b ∧ SeqAt h b) h v d
  | .at _, r => r
  | .val _, r => r
  | .ints _, ⟨a, vs, e, hp, ⟨n, ho⟩, hr⟩ => ⟨a, vs, e, ⟨hp, _, _, n, ho, rfl⟩, ⟨n, ho⟩, hr⟩
  | .strs _, ⟨a, vs, e, hp, ⟨n, ho⟩, hr⟩ => ⟨a, vs, e, ⟨hp, _, _, n, ho, rfl⟩, ⟨n, ho⟩, hr⟩
  | .tup _, r => TupRep.seq r
  | .tups _, ⟨a, vs, e, hp, ⟨n, ho⟩, hr⟩ => ⟨a, vs, e, ⟨hp, _, _, n, ho, rfl⟩, ⟨n, ho⟩, paired_mono (fun _ _ => TupRep.seq) hr⟩
  | .script _, ⟨a, vs, e, hp, ⟨o, ho, hc, n, hd⟩, hi⟩ => ⟨a, vs, e, ⟨hp, o, _, n, ho, hd⟩, ⟨o, ho, hc, n, hd⟩, hi⟩
  | .parts _, ⟨a, vs, e, hp, ⟨o, ho, hc, n, hd⟩, hi⟩ => ⟨a, vs, e, ⟨hp, o, _, n, ho, hd⟩, ⟨o, ho, hc, n, hd⟩, hi⟩

/-- all but an address that holds no sequence is kept -/
theorem Rep.extBut {P : Addr → Prop} {h h' : Heap} {v : Value} {d : D} {a : Addr} (hs : Heap.ExtBut a h h') (ha : ¬ SeqAt h a) (r : Rep P h v d) : Rep P h' v d :=
  r.seq.to fun b o hp e => ⟨hs b o (by rintro rfl; exact ha hp.2) e, hp.1⟩
/-- all but an address that the value does not touch is kept -/
theorem Rep.off {P : Addr → Prop} {h h' : Heap} {v : Value} {d : D} {a : Addr} (hs : Heap.ExtBut a h h') (ha : ∀ b, P b → b ≠ a) (r : Rep P h v d) : Rep P h' v d :=
  r.to fun b o hp e => ⟨hs b o (ha b hp) e, hp⟩

theorem not_seq_of_ns {h : Heap} {a : Addr} {m : Str → Option Value} (n : h.Ns a m) : ¬ SeqAt h a := by
  rintro ⟨o, xs, k, ho, hd⟩
  obtain ⟨o', es, ep, ho', hd', _⟩ := n
  rw [ho] at ho'; cases ho'; rw [hd] at hd'; cases hd'
theorem not_seq_of_cell {h : Heap} {a : Addr} {v : Option Value} (n : h.IsCell a v) : ¬ SeqAt h a := by
  rintro ⟨o, xs, k, ho, hd⟩
  obtain ⟨o', ho', hd'⟩ := n
  rw [ho] at ho'; cases ho'; rw [hd] at hd'; cases hd'

/-! steps that only add -/
theorem keeps_refl (s : Shared) : Keeps s s := ⟨s.heap, s.toks, rfl, fun _ _ e => e⟩
theorem keeps_toks (s : Shared) (k : Nat) : Keeps s { s with toks := k } := ⟨s.heap, k, rfl, fun _ _ e => e⟩
theorem keeps_heap {s : Shared} {h : Heap} {k : Nat} (hk : Le s.heap h) : Keeps s { s with heap := h, toks := k } := ⟨h, k, rfl, hk⟩
theorem keeps_trans {a b c : Shared} (x : Keeps a b) (y : Keeps b c) : Keeps a c := by
  obtain ⟨h, t, rfl, k⟩ := x
  obtain ⟨h', t', rfl, k'⟩ := y
  exact ⟨h', t', rfl, fun b o e => k' b o (k b o e)⟩
theorem keeps_upd {a b : Shared} {h : Heap} {k : Nat} (x : Keeps a b) (hk : Le a.heap h) : Keeps a { b with heap := h, toks := k } := by
  obtain ⟨h', t, rfl, _⟩ := x; exact ⟨h, k, rfl, hk⟩
theorem keeps_shape {a b : Shared} {h : Heap} {k : Nat} (x : Keeps a b) : ∃ h' t, ({ b with heap := h, toks := k } : Shared) = { a with heap := h', toks := t } := by
  obtain ⟨h', t, rfl, _⟩ := x; exact ⟨h, k, rfl⟩
theorem keeps_le {a b : Shared} (x : Keeps a b) : Le a.heap b.heap := by
  obtain ⟨h, t, rfl, k⟩ := x
  exact k

theorem le_push {h : Heap} (o : Obj) : Le h (h.push o) := fun _ _ e => Heap.get?_push_of_some _ e
theorem none_of_le {h h' : Heap} (k : Le h h') {b : Addr} (e : h'.get? b = none) : h.get? b = none := by
  cases q : h.get? b with
  | none => rfl
  | some o => rw [k b o q] at e; cases e
theorem ne_of_none {h : Heap} {b c : Addr} {o : Obj} (hc : h.get? c = none) (e : h.get? b = some o) : b ≠ c := by
  rintro rfl; rw [hc] at e; cases e
theorem none_size (h : Heap) : h.get? h.objs.size = none := by
  cases q : h.get? h.objs.size with
  | none => rfl
  | some o => exact absurd (Heap.lt_size q) (Nat.lt_irrefl _)
end Mine
namespace Mine
inductive Nm where
  | script_
  | bases_
  | cells_
  | drawn_
  | lines_
  | movers_
  | text_
  | behind_
  | number_
  | kind_
  | bare_
  | due_
  | told_
  | error_
  | half_
  | choice_
  | turn_
  | deep_
  | even_
  | spot_
  | here_
  | size_
  | one_
  | other_
  | gap_
  | lesser_
  | greater_
  | row_
  | outer_
  | still_
  | falling_
  | k_
  | cell_
  | place_
  | i_
  | line_
  | s_
  | amount_
  | lpos_
  | rpos_
  | resp_
  | peer_
  | left_
  | right_
  | parts_
  | host_
  | port_
  | x_
  | fault_
  | rest_
  | dresses_
  | head_
  | mark_
  | first_
  | second_
  | tail_
  | code_
  | inside_
  | end_
  deriving DecidableEq

noncomputable abbrev Nm.s : Nm → Str
  | .script_ => Str.ofString "script"
  | .bases_ => Str.ofString "bases"
  | .cells_ => Str.ofString "cells"
  | .drawn_ => Str.ofString "drawn"
  | .lines_ => Str.ofString "lines"
  | .movers_ => Str.ofString "movers"
  | .text_ => Str.ofString "text"
  | .behind_ => Str.ofString "behind"
  | .number_ => Str.ofString "number"
  | .kind_ => Str.ofString "kind"
  | .bare_ => Str.ofString "bare"
  | .due_ => Str.ofString "due"
  | .told_ => Str.ofString "told"
  | .error_ => Str.ofString "error"
  | .half_ => Str.ofString "half"
  | .choice_ => Str.ofString "choice"
  | .turn_ => Str.ofString "turn"
  | .deep_ => Str.ofString "deep"
  | .even_ => Str.ofString "even"
  | .spot_ => Str.ofString "spot"
  | .here_ => Str.ofString "here"
  | .size_ => Str.ofString "size"
  | .one_ => Str.ofString "one"
  | .other_ => Str.ofString "other"
  | .gap_ => Str.ofString "gap"
  | .lesser_ => Str.ofString "lesser"
  | .greater_ => Str.ofString "greater"
  | .row_ => Str.ofString "row"
  | .outer_ => Str.ofString "outer"
  | .still_ => Str.ofString "still"
  | .falling_ => Str.ofString "falling"
  | .k_ => Str.ofString "k"
  | .cell_ => Str.ofString "cell"
  | .place_ => Str.ofString "place"
  | .i_ => Str.ofString "i"
  | .line_ => Str.ofString "line"
  | .s_ => Str.ofString "s"
  | .amount_ => Str.ofString "amount"
  | .lpos_ => Str.ofString "lpos"
  | .rpos_ => Str.ofString "rpos"
  | .resp_ => Str.ofString "resp"
  | .peer_ => Str.ofString "peer"
  | .left_ => Str.ofString "left"
  | .right_ => Str.ofString "right"
  | .parts_ => Str.ofString "parts"
  | .host_ => Str.ofString "host"
  | .port_ => Str.ofString "port"
  | .x_ => Str.ofString "x"
  | .fault_ => Str.ofString "fault"
  | .rest_ => Str.ofString "rest"
  | .dresses_ => Str.ofString "dresses"
  | .head_ => Str.ofString "head"
  | .mark_ => Str.ofString "mark"
  | .first_ => Str.ofString "first"
  | .second_ => Str.ofString "second"
  | .tail_ => Str.ofString "tail"
  | .code_ => Str.ofString "code"
  | .inside_ => Str.ofString "inside"
  | .end_ => Str.ofString "end"

noncomputable def allNm : List Nm := [.script_, .bases_, .cells_, .drawn_, .lines_, .movers_, .text_, .behind_, .number_, .kind_, .bare_, .due_, .told_, .error_, .half_, .choice_, .turn_, .deep_, .even_, .spot_, .here_, .size_, .one_, .other_, .gap_, .lesser_, .greater_, .row_, .outer_, .still_, .falling_, .k_, .cell_, .place_, .i_, .line_, .s_, .amount_, .lpos_, .rpos_, .resp_, .peer_, .left_, .right_, .parts_, .host_, .port_, .x_, .fault_, .rest_, .dresses_, .head_, .mark_, .first_, .second_, .tail_, .code_, .inside_, .end_]

theorem allNm_mem : ∀ x : Nm, x ∈ allNm := by
  intro x
  cases x <;> decide
theorem nm_inj_all : allNm.all (fun x => allNm.all fun y => x == y || !(x.s == y.s)) = true := by decide +kernel
theorem Nm.inj {x y : Nm} (h : x.s = y.s) : x = y := by
  have h1 := List.all_eq_true.mp nm_inj_all x (allNm_mem x)
  have h2 := List.all_eq_true.mp h1 y (allNm_mem y)
  rcases Bool.or_eq_true_iff.mp h2 with e | e
  · exact eq_of_beq e
  · rw [h] at e; simp at e
end Mine
namespace Mine

noncomputable def lk : List (Nm × D) → Nm → Option D
  | [], _ => none
  | (y, d) :: r, x => if x = y then some d else lk r x

structure Frm where
  A : Around
  env : Env
  base : Heap

inductive Has (env : Env) (m cm : Str → Option Value) (x : Str) (v : Value) : Prop
  | loc (hk : env.kindOf x = some .local) (hv : m x = some v)
  | cell (c : Addr) (hk : env.kindOf x = some .cell) (hc : env.cells.lookup x = some c) (hv : cm x = some v)

/-- the frame's names, its cells, the addresses of its own lists, the names' data -/
inductive InvB (F : Frm) (ρ : List (Nm × D)) (own : List Nm) (h : Heap) : Prop
  | mk (m cm : Str → Option Value) (adr : Nm → Addr) (ns : h.Ns F.env.locals m) (cells : ∀ n c, F.env.cells.lookup n = some c → h.IsCell c (cm n))
    (mine : ∀ y ∈ own, SeqAt h (adr y) ∧ F.base.get? (adr y) = none)
    (vals : ∀ x d, lk ρ x = some d → ∃ v, Has F.env m cm x.s v ∧ Rep (fun b => ∀ y ∈ own, y ≠ x → b ≠ adr y) h v d ∧ (x ∈ own → v = .ref (adr x)))
noncomputable def Inv (F : Frm) (ρ : List (Nm × D)) (own : List Nm) (h : Heap) : Prop := Le F.base h ∧ InvB F ρ own h

noncomputable def Room (n : Nat) (A : Around) : Prop := A.handled = none ∧ A.depth + 20 * n < recursionLimit ∧ A.units + 20 * n < cLine

theorem Room.hh {n : Nat} {A : Around} (r : Room n A) : A.handled = none := r.1
theorem Room.d {n : Nat} {A : Around} (r : Room n A) : A.depth < recursionLimit := Nat.lt_of_le_of_lt (Nat.le_add_right _ _) r.2.1
theorem Room.u {n : Nat} {A : Around} (r : Room n A) : A.units < cLine := Nat.lt_of_le_of_lt (Nat.le_add_right _ _) r.2.2
theorem Room.deeper {n : Nat} {A : Around} (r : Room (n + 1) A) (env : Env) : Room n (A.deeper env) := by
  obtain ⟨a, b, c⟩ := r
  refine ⟨a, ?_, ?_⟩
  · show A.depth + 1 + 20 * n < _; omega
  · show A.units + 3 + 20 * n < _; omega
theorem Room.le {n k : Nat} {A : Around} (r : Room n A) (h : k ≤ n) : Room k A := by
  obtain ⟨a, b, c⟩ := r
  exact ⟨a, by omega, by omega⟩

/-- what the top's names mean -/
noncomputable def Tops (gl : List (Str × Value)) (h : Heap) : Prop :=
  ∃ mg mb, h.Ns mainGlobals mg ∧ h.Ns builtinsNs mb ∧ h.NoLimit ∧ ∀ x v, gl.lookup x = some v → mg x = some v ∨ (mg x = none ∧ mb x = some v)
theorem Tops.le {gl : List (Str × Value)} {h h' : Heap} (k : Le h h') (t : Tops gl h) : Tops gl h' :=
  let ⟨mg, mb, a, b, c, d⟩ := t; ⟨mg, mb, a.keeps k, b.keeps k, c.keeps k, d⟩

/-- the top: its names' values, its heap -/
structure TopAt where
  gl : List (Str × Value)
  h0 : Heap
  tops : Tops gl h0

structure ROk (n : Nat) (T : TopAt) (F : Frm) : Prop where
  kind : F.env.scope.kind = .function
  glob : F.env.globals = mainGlobals
  bltn : F.env.builtins = builtinsNs
  room : Room n F.A
  le0 : Le T.h0 F.base
/-- what a frame that stores wants -/
structure SOk (F : Frm) : Prop where
  freshL : F.base.get? F.env.locals = none
  freshC : ∀ n c, F.env.cells.lookup n = some c → F.base.get? c = none
  apart : ∀ n n' c, F.env.cells.lookup n = some c → F.env.cells.lookup n' = some c → n = n'

theorem Inv.le {F : Frm} {ρ : List (Nm × D)} {own : List Nm} {h h' : Heap} (k : Le h h') (I : Inv F ρ own h) : Inv F ρ own h' := by
  obtain ⟨a, m, cm, adr, b, c, l, e⟩ := I
  exact ⟨a.trans k, m, cm, adr, b.keeps k, fun n x q => (c n x q).keeps k, fun y hy => let ⟨⟨o, xs, m, q, r⟩, g⟩ := l y hy; ⟨⟨o, xs, m, k _ o q, r⟩, g⟩, fun x d q => let ⟨v, h1, h2, h3⟩ := e x d q; ⟨v, h1, h2.le k, h3⟩⟩
theorem Inv.read {F : Frm} {ρ : List (Nm × D)} {own : List Nm} {h : Heap} (I : Inv F ρ own h) : Inv F ρ [] h := by
  obtain ⟨a, m, cm, adr, b, c, _, e⟩ := I
  exact ⟨a, m, cm, adr, b, c, fun _ hy => (nomatch hy), fun x d q => let ⟨v, h1, h2, _⟩ := e x d q; ⟨v, h1, h2.mono (fun _ _ y hy => nomatch hy), fun hx => nomatch hx⟩⟩

/-- a part of the names -/
noncomputable def Sub (ρ ρ' : List (Nm × D)) : Prop := ∀ x d, lk ρ x = some d → lk ρ' x = some d
noncomputable def SubL : List (Nm × D) → List (Nm × D) → Prop
  | [], _ => True
  | p :: r, ρ' => lk ρ' p.1 = some p.2 ∧ SubL r ρ'
theorem Sub.of : ∀ {ρ ρ' : List (Nm × D)}, SubL ρ ρ' → Sub ρ ρ'
  | [], _, _, _, _, h => nomatch h
  | (y, d) :: r, ρ', ⟨a, b⟩, x, e, h => by
    unfold lk at h
    by_cases hx : x = y
    · rw [if_pos hx] at h
      cases h
      rw [hx]; exact a
    · rw [if_neg hx] at h
      exact Sub.of b x e h
theorem Inv.sub {F : Frm} {ρ ρ' : List (Nm × D)} {own : List Nm} {h : Heap} (s : Sub ρ ρ') (I : Inv F ρ' own h) : Inv F ρ own h := by
  obtain ⟨a, m, cm, adr, b, c, l, e⟩ := I
  exact ⟨a, m, cm, adr, b, c, l, fun x d q => e x d (s x d q)⟩

section
variable (prog : Program) (w : World)
/-- the expression's value is d; only new objects are made -/
structure EvP (F : Frm) (ρ : List (Nm × D)) (e : Expr) (P : Heap → Addr → Prop) (d : D) : Prop where
  run : ∀ s, Inv F ρ [] s.heap → wpAny (model prog w) F.A (eval e F.env) (fun v s' => Keeps s s' ∧ Rep (P s.heap) s'.heap v d) (fun _ _ => False) s
noncomputable abbrev Ev (F : Frm) (ρ : List (Nm × D)) (e : Expr) (d : D) : Prop := EvP prog w F ρ e (fun _ _ => True) d
noncomputable abbrev EvN (F : Frm) (ρ : List (Nm × D)) (e : Expr) (d : D) : Prop := EvP prog w F ρ e (fun h b => h.get? b = none) d
/-- the test's answer is b -/
structure Ts (F : Frm) (ρ : List (Nm × D)) (e : Expr) (b : Bool) : Prop where
  run : ∀ s, Inv F ρ [] s.heap → wpAny (model prog w) F.A (isTrue e F.env (eval e F.env)) (fun b' s' => Keeps s s' ∧ b' = b) (fun _ _ => False) s
end

section
variable {prog : Program} {w : World} {F : Frm} {ρ : List (Nm × D)} {T : TopAt} {n : Nat}

theorem EvN.ev {e : Expr} {d : D} (h : EvN prog w F ρ e d) : Ev prog w F ρ e d := ⟨fun s I => wpAny_mono (h.run s I) (fun _ _ x => ⟨x.1, x.2.any⟩) fun _ _ x => x⟩
theorem Ev.at {e : Expr} {a : At} {P : Heap → Addr → Prop} (h : Ev prog w F ρ e (.at a)) : EvP prog w F ρ e P (.at a) := ⟨fun s I => wpAny_mono (h.run s I) (fun _ _ x => ⟨x.1, x.2⟩) fun _ _ x => x⟩

theorem Ev.name (O : ROk n T F) (x : Nm) {d : D} {pos : Pos} (hx : lk ρ x = some d) (hd : (x.s == ("__debug__" : Str)) = false := by decide) : Ev prog w F ρ (.Name x.s pos) d := by
  refine ⟨?_⟩
  rintro s ⟨_, m, cm, adr, b, c, _, e⟩
  obtain ⟨v, h1, h2, _⟩ := e x d hx
  cases h1 with
  | loc hk hv => exact wpAny_Name (wpAny_loadName_local O.kind hk b hv ⟨keeps_refl s, h2.any⟩) hd
  | cell cc hk hc hv => exact wpAny_Name (wpAny_loadName_cell O.kind hk hc (hv ▸ c _ cc hc) ⟨keeps_refl s, h2.any⟩) hd

theorem Ev.glob (O : ROk n T F) {x : Str} {v : Value} {pos : Pos} (hx : T.gl.lookup x = some v) (hk : F.env.kindOf x = some .globalImplicit) (hd : (x == ("__debug__" : Str)) = false := by decide) : Ev prog w F ρ (.Name x pos) (.val v) := by
  refine ⟨?_⟩
  rintro s ⟨k, _⟩
  obtain ⟨mg, mb, g, b, _, hv⟩ := T.tops.le (O.le0.trans k)
  refine Calls.Name_function_global O.kind hk ?_ hd
  rcases hv x v hx with e | ⟨e, e'⟩
  · exact Calls.loadGlobal_global (by rw [O.glob]; exact g) e ⟨keeps_refl s, rfl⟩
  · exact Calls.loadGlobal_builtin (by rw [O.glob]; exact g) e (by rw [O.bltn]; exact b) e' ⟨keeps_refl s, rfl⟩

theorem Ev.int {i : Int} {k : Nat} {pos : Pos} : Ev prog w F ρ (.Constant (.int i) k pos) (DI i) := ⟨fun s _ => wpAny_Constant_int ⟨keeps_toks s _, _, rfl⟩⟩
theorem Ev.str {x : Str} {k : Nat} {pos : Pos} : Ev prog w F ρ (.Constant (.str x) k pos) (DS x) := ⟨fun s _ => wpAny_Constant_str ⟨keeps_toks s _, _, rfl⟩⟩
theorem Ev.bool {x : Bool} {k : Nat} {pos : Pos} : Ev prog w F ρ (.Constant (.bool x) k pos) (DB x) := ⟨fun s _ => wpAny_Constant_bool ⟨keeps_refl s, rfl⟩⟩

theorem Ev.bin {l r : Expr} {op : Operator} {pos : Pos} {dl dr d : D} {P : Heap → Addr → Prop} (hP : ∀ h h', Le h h' → ∀ a, P h' a → P h a) (hl : Ev prog w F ρ l dl) (hr : Ev prog w F ρ r dr)
    (H : ∀ s a b, Le F.base s.heap → Rep (fun _ => True) s.heap a dl → Rep (fun _ => True) s.heap b dr → wpAny (model prog w) F.A (binaryOp op a b) (fun v s' => Keeps s s' ∧ Rep (P s.heap) s'.heap v d) (fun _ _ => False) s) :
    EvP prog w F ρ (.BinOp l op r pos) P d := by
  refine ⟨fun s I => ?_⟩
  refine wpAny_BinOp (wpAny_mono (hl.run s I) ?_ fun _ _ x => x)
  rintro a s1 ⟨k1, r1⟩
  refine wpAny_mono (hr.run s1 (I.le (keeps_le k1))) ?_ fun _ _ x => x
  rintro b s2 ⟨k2, r2⟩
  refine wpAny_mono (H s2 a b (I.1.trans ((keeps_le k1).trans (keeps_le k2))) (r1.le (keeps_le k2)) r2) ?_ fun _ _ x => x
  rintro v s3 ⟨k3, r3⟩
  exact ⟨keeps_trans k1 (keeps_trans k2 k3), r3.mono fun a h => hP _ _ ((keeps_le k1).trans (keeps_le k2)) a h⟩
theorem Ev.bin1 {l r : Expr} {op : Operator} {pos : Pos} {dl dr d : D} (hl : Ev prog w F ρ l dl) (hr : Ev prog w F ρ r dr)
    (H : ∀ s a b, Rep (fun _ => True) s.heap a dl → Rep (fun _ => True) s.heap b dr → wpAny (model prog w) F.A (binaryOp op a b) (fun v s' => Keeps s s' ∧ Rep (fun _ => True) s'.heap v d) (fun _ _ => False) s) :
    Ev prog w F ρ (.BinOp l op r pos) d := Ev.bin (fun _ _ _ _ h => h) hl hr fun s a b _ ra rb => H s a b ra rb

theorem Ev.add {l r : Expr} {pos : Pos} {a b : Int} (hl : Ev prog w F ρ l (DI a)) (hr : Ev prog w F ρ r (DI b)) : Ev prog w F ρ (.BinOp l .Add r pos) (DI (a + b)) :=
  Ev.bin1 hl hr (by rintro s _ _ ⟨t, rfl⟩ ⟨u, rfl⟩; exact add_int ⟨keeps_toks s _, _, rfl⟩)
theorem Ev.sub {l r : Expr} {pos : Pos} {a b : Int} (hl : Ev prog w F ρ l (DI a)) (hr : Ev prog w F ρ r (DI b)) : Ev prog w F ρ (.BinOp l .Sub r pos) (DI (a - b)) :=
  Ev.bin1 hl hr (by rintro s _ _ ⟨t, rfl⟩ ⟨u, rfl⟩; exact sub_int ⟨keeps_toks s _, _, rfl⟩)
theorem Ev.mod {l r : Expr} {pos : Pos} {a b : Int} (hl : Ev prog w F ρ l (DI a)) (hr : Ev prog w F ρ r (DI b)) (h0 : b ≠ 0) : Ev prog w F ρ (.BinOp l .Mod r pos) (DI (a.fmod b)) :=
  Ev.bin1 hl hr (by rintro s _ _ ⟨t, rfl⟩ ⟨u, rfl⟩; exact mod_int' h0 ⟨keeps_toks s _, _, rfl⟩)
theorem Ev.div {l r : Expr} {pos : Pos} {a b : Int} (hl : Ev prog w F ρ l (DI a)) (hr : Ev prog w F ρ r (DI b)) (h0 : b ≠ 0) (hp : Builtin.divisionGoesByPylong a b = false) : Ev prog w F ρ (.BinOp l .FloorDiv r pos) (DI (a.fdiv b)) :=
  Ev.bin1 hl hr (by rintro s _ _ ⟨t, rfl⟩ ⟨u, rfl⟩; exact floordiv_int h0 ⟨keeps_toks s _, _, rfl⟩ (.inl hp))
theorem Ev.mul {l r : Expr} {pos : Pos} {a b : Int} (hl : Ev prog w F ρ l (DI a)) (hr : Ev prog w F ρ r (DI b)) (h0 : IntMulOk a b) : Ev prog w F ρ (.BinOp l .Mult r pos) (DI (a * b)) :=
  Ev.bin1 hl hr (by rintro s _ _ ⟨t, rfl⟩ ⟨u, rfl⟩; exact mul_int ⟨keeps_toks s _, _, rfl⟩ h0)
theorem Ev.pow {l r : Expr} {pos : Pos} {a b : Int} (hl : Ev prog w F ρ l (DI a)) (hr : Ev prog w F ρ r (DI b)) (h0 : 0 ≤ b) (h1 : b ≤ 1000000) (h2 : a.natAbs < 2 ^ 64) : Ev prog w F ρ (.BinOp l .Pow r pos) (DI (a ^ b.toNat)) :=
  Ev.bin1 hl hr (by rintro s _ _ ⟨t, rfl⟩ ⟨u, rfl⟩; exact pow_int_small h0 h1 h2 ⟨keeps_toks s _, _, rfl⟩)
theorem Ev.cat {l r : Expr} {pos : Pos} {a b : Str} (hl : Ev prog w F ρ l (DS a)) (hr : Ev prog w F ρ r (DS b)) (hz : a.length + b.length ≤ 1000000) : Ev prog w F ρ (.BinOp l .Add r pos) (DS (a ++ b)) :=
  Ev.bin1 hl hr (by rintro s _ _ ⟨t, rfl⟩ ⟨u, rfl⟩; exact SBL.add (fun t' k _ => ⟨keeps_toks s _, _, rfl⟩) (Nat.le_trans hz (by decide)))
theorem Ev.rep {l r : Expr} {pos : Pos} {a : Str} {i : Int} (hl : Ev prog w F ρ l (DS a)) (hr : Ev prog w F ρ r (DI i)) (hz : a.length ≤ 16) (h0 : -2 ^ 63 ≤ i) (h1 : i ≤ 1048576) : Ev prog w F ρ (.BinOp l .Mult r pos) (DS (Txt.mul a i)) :=
  Ev.bin1 hl hr (by rintro s _ _ ⟨t, rfl⟩ ⟨u, rfl⟩; exact KXi.mul rfl hz h0 h1 (fun t' k _ _ => ⟨keeps_toks s _, _, rfl⟩))

theorem Ev.neg {l : Expr} {pos : Pos} {a : Int} (hl : Ev prog w F ρ l (DI a)) : Ev prog w F ρ (.UnaryOp .USub l pos) (DI (-a)) := by
  refine ⟨fun s I => ?_⟩
  refine wpAny_UnaryOp (wpAny_mono (hl.run s I) ?_ fun _ _ x => x)
  rintro _ s1 ⟨k1, t, rfl⟩
  exact neg_int ⟨keeps_trans k1 (keeps_toks s1 _), _, rfl⟩

/-! comparisons -/
/-- the two sides compare to b -/
noncomputable def Cmp (prog : Program) (w : World) (F : Frm) (op : CmpOp) (dl dr : D) (b : Bool) : Prop :=
  ∀ s x y, Le F.base s.heap → Rep (fun _ => True) s.heap x dl → Rep (fun _ => True) s.heap y dr → wpAny (model prog w) F.A (compareOp op x y) (fun v s' => Keeps s s' ∧ v = .bool b) (fun _ _ => False) s

theorem Ev.cmp {l r : Expr} {op : CmpOp} {pos : Pos} {dl dr : D} {b : Bool} (hl : Ev prog w F ρ l dl) (hr : Ev prog w F ρ r dr) (H : Cmp prog w F op dl dr b) (hm : behindInMarks op r = false := by rfl) :
    Ev prog w F ρ (.Compare l [op] [r] pos) (DB b) := by
  refine ⟨fun s I => ?_⟩
  refine wpAny_Compare1 (wpAny_mono (hl.run s I) ?_ fun _ _ x => x) hm
  rintro x s1 ⟨k1, r1⟩
  refine wpAny_mono (hr.run s1 (I.le (keeps_le k1))) ?_ fun _ _ x => x
  rintro y s2 ⟨k2, r2⟩
  refine wpAny_mono (H s2 x y (I.1.trans ((keeps_le k1).trans (keeps_le k2))) (r1.le (keeps_le k2)) r2) ?_ fun _ _ x => x
  rintro v s3 ⟨k3, r3⟩
  exact ⟨keeps_trans k1 (keeps_trans k2 k3), r3⟩
theorem Ts.cmp {l r : Expr} {op : CmpOp} {pos : Pos} {dl dr : D} {b : Bool} (hl : Ev prog w F ρ l dl) (hr : Ev prog w F ρ r dr) (H : Cmp prog w F op dl dr b) (hm : behindInMarks op r = false := by rfl) :
    Ts prog w F ρ (.Compare l [op] [r] pos) b := by
  refine ⟨fun s I => ?_⟩
  refine wpAny_isTrue_Compare1 (wpAny_mono (hl.run s I) ?_ fun _ _ x => x) hm
  rintro x s1 ⟨k1, r1⟩
  refine wpAny_mono (hr.run s1 (I.le (keeps_le k1))) ?_ fun _ _ x => x
  rintro y s2 ⟨k2, r2⟩
  refine wpAny_mono (H s2 x y (I.1.trans ((keeps_le k1).trans (keeps_le k2))) (r1.le (keeps_le k2)) r2) ?_ fun _ _ x => x
  rintro v s3 ⟨k3, rfl⟩
  exact wpAny_truthy_bool ⟨keeps_trans k1 (keeps_trans k2 k3), rfl⟩

theorem Cmp.eqI {a b : Int} : Cmp prog w F .Eq (DI a) (DI b) (a == b) := by rintro s _ _ _ ⟨t, rfl⟩ ⟨u, rfl⟩; exact eq_int ⟨keeps_refl s, rfl⟩
theorem Cmp.neI {a b : Int} : Cmp prog w F .NotEq (DI a) (DI b) (a != b) := by rintro s _ _ _ ⟨t, rfl⟩ ⟨u, rfl⟩; exact ne_int ⟨keeps_refl s, rfl⟩
theorem Cmp.ltI {a b : Int} : Cmp prog w F .Lt (DI a) (DI b) (decide (a < b)) := by rintro s _ _ _ ⟨t, rfl⟩ ⟨u, rfl⟩; exact lt_int ⟨keeps_refl s, rfl⟩
theorem Cmp.gtI {a b : Int} : Cmp prog w F .Gt (DI a) (DI b) (decide (b < a)) := by rintro s _ _ _ ⟨t, rfl⟩ ⟨u, rfl⟩; exact gt_int ⟨keeps_refl s, rfl⟩
theorem Cmp.geI {a b : Int} : Cmp prog w F .GtE (DI a) (DI b) (decide (b ≤ a)) := by rintro s _ _ _ ⟨t, rfl⟩ ⟨u, rfl⟩; exact ge_int ⟨keeps_refl s, rfl⟩
theorem Cmp.eqS {a b : Str} : Cmp prog w F .Eq (DS a) (DS b) (a == b) := by rintro s _ _ _ ⟨t, rfl⟩ ⟨u, rfl⟩; exact eq_str ⟨keeps_refl s, rfl⟩
theorem Cmp.neS {a b : Str} : Cmp prog w F .NotEq (DS a) (DS b) (a != b) := by rintro s _ _ _ ⟨t, rfl⟩ ⟨u, rfl⟩; exact ne_str ⟨keeps_refl s, rfl⟩
theorem Cmp.notinI {a : Int} {ns : List Int} : Cmp prog w F .NotIn (DI a) (.ints ns) (!ns.any fun x => x == a) := by
  rintro s _ _ _ ⟨t, rfl⟩ ⟨l, vs, rfl, _, hl, hi⟩
  exact notin_list_ints hl.isList hi ⟨keeps_refl s, rfl⟩

/-! tests -/
theorem Ts.val {e : Expr} {b : Bool} (h : Ev prog w F ρ e (DB b)) (he : isTrue e F.env (eval e F.env) = (do let v ← eval e F.env; standAt e.pos; holding [v] (truthy v)) := by rfl) : Ts prog w F ρ e b := by
  refine ⟨fun s I => ?_⟩
  refine wpAny_isTrue_value (wpAny_mono (h.run s I) ?_ fun _ _ x => x) he
  rintro v s1 ⟨k1, rfl⟩
  exact wpAny_truthy_bool ⟨k1, rfl⟩
theorem Ts.and2 {x y : Expr} {pos : Pos} {a b : Bool} (hx : Ts prog w F ρ x a) (hy : a = true → Ts prog w F ρ y b) : Ts prog w F ρ (.BoolOp .And [x, y] pos) (a && b) := by
  refine ⟨fun s I => ?_⟩
  refine wpAny_isTrue_BoolOp (wpAny_allTrue_And_cons (wpAny_mono (hx.run s I) ?_ fun _ _ x => x))
  rintro c s1 ⟨k1, e⟩
  rw [e]
  cases a with
  | false => exact ⟨k1, rfl⟩
  | true =>
    refine wpAny_allTrue_And_cons (wpAny_mono ((hy rfl).run s1 (I.le (keeps_le k1))) ?_ fun _ _ x => x)
    rintro c2 s2 ⟨k2, e2⟩
    rw [e2]
    cases b with
    | false => exact ⟨keeps_trans k1 k2, rfl⟩
    | true => exact wpAny_allTrue_And_nil ⟨keeps_trans k1 k2, rfl⟩
theorem Ts.or2 {x y : Expr} {pos : Pos} {a b : Bool} (hx : Ts prog w F ρ x a) (hy : a = false → Ts prog w F ρ y b) : Ts prog w F ρ (.BoolOp .Or [x, y] pos) (a || b) := by
  refine ⟨fun s I => ?_⟩
  refine wpAny_isTrue_BoolOp (wpAny_allTrue_Or_cons (wpAny_mono (hx.run s I) ?_ fun _ _ x => x))
  rintro c s1 ⟨k1, e⟩
  rw [e]
  cases a with
  | true => exact ⟨k1, rfl⟩
  | false =>
    refine wpAny_allTrue_Or_cons (wpAny_mono ((hy rfl).run s1 (I.le (keeps_le k1))) ?_ fun _ _ x => x)
    rintro c2 s2 ⟨k2, e2⟩
    rw [e2]
    cases b with
    | true => exact ⟨keeps_trans k1 k2, rfl⟩
    | false => exact wpAny_allTrue_Or_nil ⟨keeps_trans k1 k2, rfl⟩
end
end Mine
namespace Mine

section
variable {prog : Program} {w : World} {F : Frm} {ρ : List (Nm × D)} {T : TopAt} {n : Nat}

/-! items -/
theorem Ev.item {value slice : Expr} {pos : Pos} {dv ds d : D} (hv : Ev prog w F ρ value dv) (hs : Ev prog w F ρ slice ds)
    (H : ∀ s o i, Rep (fun _ => True) s.heap o dv → Rep (fun _ => True) s.heap i ds → wpAny (model prog w) F.A (subscriptTail value slice o i) (fun v s' => Keeps s s' ∧ Rep (fun _ => True) s'.heap v d) (fun _ _ => False) s) :
    Ev prog w F ρ (.Subscript value slice pos) d := by
  refine ⟨fun s I => ?_⟩
  refine Subscript_ (wpAny_mono (hv.run s I) ?_ fun _ _ x => x)
  rintro o s1 ⟨k1, r1⟩
  refine wpAny_mono (hs.run s1 (I.le (keeps_le k1))) ?_ fun _ _ x => x
  rintro i s2 ⟨k2, r2⟩
  refine wpAny_mono (H s2 o i (r1.le (keeps_le k2)) r2) ?_ fun _ _ x => x
  rintro v s3 ⟨k3, r3⟩
  exact ⟨keeps_trans k1 (keeps_trans k2 k3), r3⟩

theorem intsAre_get : ∀ {vs : List Value} {ns : List Int} {k : Nat}, IntsAre vs ns → k < ns.length → ∃ t, vs[k]? = some (.int (ns.getD k 0) t)
  | _, _, 0, .cons n t r, _ => ⟨t, rfl⟩
  | _, _, k + 1, .cons n t r, h => by
    obtain ⟨u, e⟩ := intsAre_get (k := k) r (by simpa using h)
    exact ⟨u, by simpa using e⟩
theorem strsAre_get : ∀ {vs : List Value} {ss : List Str} {k : Nat} {d : Str}, StrsAre vs ss → k < ss.length → ∃ t, vs[k]? = some (.str (ss.getD k d) t)
  | _, _, 0, _, .cons n t r, _ => ⟨t, rfl⟩
  | _, _, k + 1, d, .cons n t r, h => by
    obtain ⟨u, e⟩ := strsAre_get (k := k) (d := d) r (by simpa using h)
    exact ⟨u, by simpa using e⟩
theorem paired_get {α β : Type} {R : α → β → Prop} {d : β} : ∀ {vs : List α} {ns : List β} {k : Nat}, Paired R vs ns → k < ns.length → ∃ v, vs[k]? = some v ∧ R v (ns.getD k d)
  | _, _, 0, .cons h r, _ => ⟨_, rfl, h⟩
  | _, _, k + 1, .cons h r, hk => by
    obtain ⟨v, e, g⟩ := paired_get (k := k) (d := d) r (by simpa using hk)
    exact ⟨v, by simpa using e, by simpa using g⟩
theorem paired_length {α β : Type} {R : α → β → Prop} {vs : List α} {ns : List β} (p : Paired R vs ns) : vs.length = ns.length := p.length

theorem Ev.itemI {value slice : Expr} {pos : Pos} {ns : List Int} {k : Int} (hv : Ev prog w F ρ value (.ints ns)) (hs : Ev prog w F ρ slice (DI k)) (h0 : 0 ≤ k) (h1 : k < ns.length) (hz : ns.length ≤ 1000)
    (hsl : ∀ o i, subscripted slice false o i = operate [o, i] (getItem o i) := by intro _ _; rfl) : Ev prog w F ρ (.Subscript value slice pos) (DI (ns.getD k.toNat 0)) := by
  refine Ev.item hv hs ?_
  rintro s _ _ ⟨a, vs, rfl, _, hl, hi⟩ ⟨u, rfl⟩
  obtain ⟨t, e⟩ := intsAre_get (k := k.toNat) hi (by omega)
  exact tail_any hl.isList.typeIs slot_list_getitem.lookup (wpAny_getItem_list hl.isList h0 (by omega) (by simpa using e) ⟨keeps_refl s, t, rfl⟩) (hsl _ _)
theorem Ev.itemS {value slice : Expr} {pos : Pos} {ss : List Str} {k : Int} {d : Str} (hv : Ev prog w F ρ value (.strs ss)) (hs : Ev prog w F ρ slice (DI k)) (h0 : 0 ≤ k) (h1 : k < ss.length) (hz : ss.length ≤ 1000)
    (hsl : ∀ o i, subscripted slice false o i = operate [o, i] (getItem o i) := by intro _ _; rfl) : Ev prog w F ρ (.Subscript value slice pos) (DS (ss.getD k.toNat d)) := by
  refine Ev.item hv hs ?_
  rintro s _ _ ⟨a, vs, rfl, _, hl, hi⟩ ⟨u, rfl⟩
  obtain ⟨t, e⟩ := strsAre_get (k := k.toNat) (d := d) hi (by omega)
  exact tail_any hl.isList.typeIs slot_list_getitem.lookup (wpAny_getItem_list hl.isList h0 (by omega) (by simpa using e) ⟨keeps_refl s, t, rfl⟩) (hsl _ _)
theorem Ev.itemT {value slice : Expr} {pos : Pos} {xs : List (List At)} {k : Int} {d : List At} (hv : Ev prog w F ρ value (.tups xs)) (hs : Ev prog w F ρ slice (DI k)) (h0 : 0 ≤ k) (h1 : k < xs.length) (hz : xs.length ≤ 1000)
    (hsl : ∀ o i, subscripted slice false o i = operate [o, i] (getItem o i) := by intro _ _; rfl) : Ev prog w F ρ (.Subscript value slice pos) (.tup (xs.getD k.toNat d)) := by
  refine Ev.item hv hs ?_
  rintro s _ _ ⟨a, vs, rfl, _, hl, hi⟩ ⟨u, rfl⟩
  obtain ⟨v, e, g⟩ := paired_get (k := k.toNat) (d := d) hi (by omega)
  exact tail_any hl.isList.typeIs slot_list_getitem.lookup (wpAny_getItem_list hl.isList h0 (by omega) (by simpa using e) ⟨keeps_refl s, g⟩) (hsl _ _)
/-- a tuple's item at a written place -/
theorem Ev.itemA {value slice : Expr} {pos : Pos} {as : List At} {k : Nat} {a : At} (hv : Ev prog w F ρ value (.tup as)) (hs : Ev prog w F ρ slice (DI k)) (hk : as[k]? = some a) (hz : k < 1000)
    (hsl : ∀ o i, subscripted slice false o i = operate [o, i] (getItem o i) := by intro _ _; rfl) : Ev prog w F ρ (.Subscript value slice pos) (.at a) := by
  refine Ev.item hv hs ?_
  rintro s _ _ ⟨b, vs, rfl, _, hl, hi⟩ ⟨u, rfl⟩
  have hlt : k < as.length := (List.getElem?_eq_some_iff.mp hk).1
  obtain ⟨v, e, g⟩ := paired_get (k := k) (d := At.none) hi hlt
  have hd : as.getD k At.none = a := by simp [List.getD_eq_getElem?_getD, hk]
  rw [hd] at g
  have hl2 := paired_length hi
  refine item_tupleT (j := k) hl (by omega) (by omega) ?_ e ⟨keeps_refl s, g⟩ (hsl _ _)
  have := seqIndex_of (k := (k : Int)) (n := vs.length) (by omega) (by omega)
  simpa using this
theorem Ev.itemC {value slice : Expr} {pos : Pos} {x : Str} {k : Int} (hv : Ev prog w F ρ value (DS x)) (hs : Ev prog w F ρ slice (DI k)) (h0 : -(x.length : Int) ≤ k) (h1 : k < x.length) (hz : x.length ≤ 1000000)
    (hsl : ∀ o i, subscripted slice false o i = operate [o, i] (getItem o i) := by intro _ _; rfl) (hb : ∀ y t r, letTemporaryGo value (.str y t) r = pure () := by intro _ _ _; rfl) : Ev prog w F ρ (.Subscript value slice pos) (DS (Txt.item x k)) := by
  refine Ev.item hv hs ?_
  rintro s _ _ ⟨t, rfl⟩ ⟨u, rfl⟩
  exact item_str (fitsSsize_of (N := 9223372036854775808) (by omega) (by omega) (Int.le_refl _)) h0 h1 (fun _ => ⟨keeps_toks s _, _, rfl⟩) (hsl _ _) (hb _ _)

/-! slices -/
/-- a slice's part -/
inductive Part (prog : Program) (w : World) (F : Frm) (ρ : List (Nm × D)) : Option Expr → Option Int → Prop
  | none : Part prog w F ρ none none
  | some {e : Expr} {i : Int} (h : Ev prog w F ρ e (DI i)) : Part prog w F ρ (some e) (some i)

theorem Part.eval {e : Option Expr} {i : Option Int} (p : Part prog w F ρ e i) {s : Shared} (I : Inv F ρ [] s.heap) :
    wpAny (model prog w) F.A (evalPart e F.env) (fun v s' => Keeps s s' ∧ IsPart v i) (fun _ _ => False) s := by
  cases p with
  | none => exact wpAny_evalPart_none ⟨keeps_refl s, .none⟩
  | some h => exact wpAny_evalPart_some (wpAny_mono (h.run s I) (fun v s' x => ⟨x.1, by obtain ⟨t, rfl⟩ := x.2; exact .int _ _⟩) fun _ _ x => x)

noncomputable def pickL {α : Type} (xs : List α) (lo hi st : Option Int) : List α :=
  (sliceRange (sliceBounds lo hi st xs.length).1 (sliceBounds lo hi st xs.length).2.1 (sliceBounds lo hi st xs.length).2.2).filterMap (xs[·]?)
theorem slicePick_eq (vs : List Value) (lo hi st : Option Int) : slicePick vs.toArray lo hi st = (pickL vs lo hi st).toArray := by
  unfold slicePick pickL
  simp
theorem paired_of_intsAre : ∀ {vs : List Value} {ns : List Int}, IntsAre vs ns → Paired (fun v n => ∃ t, v = .int n t) vs ns
  | _, _, .nil => .nil
  | _, _, .cons n t r => .cons ⟨t, rfl⟩ (paired_of_intsAre r)
theorem intsAre_of_paired : ∀ {vs : List Value} {ns : List Int}, Paired (fun v n => ∃ t, v = .int n t) vs ns → IntsAre vs ns
  | _, _, .nil => .nil
  | _, _, .cons ⟨t, e⟩ r => by subst e; exact .cons _ _ (intsAre_of_paired r)
theorem paired_of_strsAre : ∀ {vs : List Value} {ns : List Str}, StrsAre vs ns → Paired (fun v n => ∃ t, v = .str n t) vs ns
  | _, _, .nil => .nil
  | _, _, .cons n t r => .cons ⟨t, rfl⟩ (paired_of_strsAre r)
theorem strsAre_of_paired : ∀ {vs : List Value} {ns : List Str}, Paired (fun v n => ∃ t, v = .str n t) vs ns → StrsAre vs ns
  | _, _, .nil => .nil
  | _, _, .cons ⟨t, e⟩ r => by subst e; exact .cons _ _ (strsAre_of_paired r)
theorem paired_getElem? {α β : Type} {R : α → β → Prop} : ∀ {vs : List α} {ns : List β}, Paired R vs ns → ∀ k : Nat, (vs[k]? = none ∧ ns[k]? = none) ∨ ∃ v x, vs[k]? = some v ∧ ns[k]? = some x ∧ R v x
  | _, _, .nil, k => .inl ⟨by simp, by simp⟩
  | _, _, .cons h r, 0 => .inr ⟨_, _, rfl, rfl, h⟩
  | _, _, .cons h r, k + 1 => by simpa using paired_getElem? r k
theorem paired_filterMap {α β : Type} {R : α → β → Prop} {vs : List α} {ns : List β} (p : Paired R vs ns) : ∀ ks : List Nat, Paired R (ks.filterMap (vs[·]?)) (ks.filterMap (ns[·]?))
  | [] => .nil
  | k :: r => by
    rcases paired_getElem? p k with ⟨a, b⟩ | ⟨v, x, a, b, h⟩
    · rw [List.filterMap_cons, List.filterMap_cons, a, b]; exact paired_filterMap p r
    · rw [List.filterMap_cons, List.filterMap_cons, a, b]; exact .cons h (paired_filterMap p r)
theorem paired_pick {α β : Type} {R : α → β → Prop} {vs : List α} {ns : List β} (p : Paired R vs ns) (lo hi st : Option Int) : Paired R (pickL vs lo hi st) (pickL ns lo hi st) := by
  unfold pickL
  rw [p.length]
  exact paired_filterMap p _

theorem Ev.sliceL {value : Expr} {lo up st : Option Expr} {l u t : Option Int} {p pos : Pos} {dv d : D} (hv : Ev prog w F ρ value dv) (hl : Part prog w F ρ lo l) (hu : Part prog w F ρ up u) (ht : Part prog w F ρ st t) (h0 : t ≠ some 0)
    (hz : ∀ h v, Rep (fun _ => True) h v dv → ∃ a vs, v = .ref a ∧ h.IsList a vs.toArray ∧ vs.length ≤ sizeLine ∧ ∀ (P : Addr → Prop) (h' : Heap) b, P b → h'.PlainList b (pickL vs l u t).toArray → Rep P h' (.ref b) d)
    (hsl : ∀ o i, ∃ ops, subscripted (.Slice lo up st p) false o i = operate ops (getItem o i)) : EvN prog w F ρ (.Subscript value (.Slice lo up st p) pos) d := by
  refine ⟨fun s I => ?_⟩
  refine Subscript_ (wpAny_mono (hv.run s I) ?_ fun _ _ x => x)
  rintro o s1 ⟨k1, r1⟩
  have I1 := I.le (keeps_le k1)
  refine wpAny_Slice (wpAny_mono (hl.eval I1) ?_ fun _ _ x => x)
  rintro vl s2 ⟨k2, p2⟩
  have I2 := I1.le (keeps_le k2)
  refine wpAny_mono (hu.eval I2) ?_ fun _ _ x => x
  rintro vu s3 ⟨k3, p3⟩
  have I3 := I2.le (keeps_le k3)
  refine wpAny_mono (ht.eval I3) ?_ fun _ _ x => x
  rintro vt s4 ⟨k4, p4⟩
  have k14 := keeps_trans k2 (keeps_trans k3 k4)
  obtain ⟨a, vs, rfl, hL, hsz, hr⟩ := hz _ _ ((r1.le (keeps_le k14)).le (le_push (h := s4.heap) { cls := .type "slice", data := .fields #[vl, vu, vt] }))
  obtain ⟨ops, hops⟩ := hsl (.ref a) (.ref s4.heap.objs.size)
  refine tail_any (s := { s4 with heap := s4.heap.push { cls := .type "slice", data := .fields #[vl, vu, vt] } }) hL.typeIs slot_list_getitem.lookup (wpAny_getItem_list_slice hL (Heap.IsSliceOf.new _ _ _ _) p2 p3 p4 h0 ?_ (by simpa using hsz)) hops
  have k5 : Le s.heap (s4.heap.push { cls := .type "slice", data := .fields #[vl, vu, vt] }) := ((keeps_le k1).trans (keeps_le k14)).trans (le_push _)
  refine ⟨keeps_trans k1 (keeps_trans k14 (keeps_heap ((le_push _).trans (le_push _)))), ?_⟩
  refine hr _ _ _ (none_of_le k5 (none_size _)) ⟨0, ?_⟩
  rw [← slicePick_eq]
  exact Heap.get?_push_size _ rfl

theorem Ev.sliceI {value : Expr} {lo up st : Option Expr} {l u t : Option Int} {p pos : Pos} {ns : List Int} (hv : Ev prog w F ρ value (.ints ns)) (hl : Part prog w F ρ lo l) (hu : Part prog w F ρ up u) (ht : Part prog w F ρ st t) (h0 : t ≠ some 0) (hn : ns.length ≤ 1000)
    (hsl : ∀ o i, ∃ ops, subscripted (.Slice lo up st p) false o i = operate ops (getItem o i) := by intro _ _; exact ⟨_, rfl⟩) : EvN prog w F ρ (.Subscript value (.Slice lo up st p) pos) (.ints (pickL ns l u t)) := by
  refine Ev.sliceL hv hl hu ht h0 ?_ hsl
  rintro h _ ⟨a, vs, rfl, _, hL, hi⟩
  refine ⟨a, vs, rfl, hL.isList, by rw [hi.length]; exact Nat.le_trans hn (by decide), fun P h' b hp hb => ⟨b, _, rfl, hp, hb, intsAre_of_paired (paired_pick (paired_of_intsAre hi) _ _ _)⟩⟩
theorem Ev.sliceScript {value : Expr} {lo up st : Option Expr} {l u t : Option Int} {p pos : Pos} {ns : List Int} (hv : Ev prog w F ρ value (.script ns)) (hl : Part prog w F ρ lo l) (hu : Part prog w F ρ up u) (ht : Part prog w F ρ st t) (h0 : t ≠ some 0) (hn : ns.length ≤ 1000)
    (hsl : ∀ o i, ∃ ops, subscripted (.Slice lo up st p) false o i = operate ops (getItem o i) := by intro _ _; exact ⟨_, rfl⟩) : EvN prog w F ρ (.Subscript value (.Slice lo up st p) pos) (.ints (pickL ns l u t)) := by
  refine Ev.sliceL hv hl hu ht h0 ?_ hsl
  rintro h _ ⟨a, vs, rfl, _, hL, hi⟩
  refine ⟨a, vs, rfl, hL, by rw [hi.length]; exact Nat.le_trans hn (by decide), fun P h' b hp hb => ⟨b, _, rfl, hp, hb, intsAre_of_paired (paired_pick (paired_of_intsAre hi) _ _ _)⟩⟩
theorem Ev.sliceS {value : Expr} {lo up st : Option Expr} {l u t : Option Int} {p pos : Pos} {ns : List Str} (hv : Ev prog w F ρ value (.strs ns)) (hl : Part prog w F ρ lo l) (hu : Part prog w F ρ up u) (ht : Part prog w F ρ st t) (h0 : t ≠ some 0) (hn : ns.length ≤ 1000)
    (hsl : ∀ o i, ∃ ops, subscripted (.Slice lo up st p) false o i = operate ops (getItem o i) := by intro _ _; exact ⟨_, rfl⟩) : EvN prog w F ρ (.Subscript value (.Slice lo up st p) pos) (.strs (pickL ns l u t)) := by
  refine Ev.sliceL hv hl hu ht h0 ?_ hsl
  rintro h _ ⟨a, vs, rfl, _, hL, hi⟩
  have hi' := paired_of_strsAre hi
  refine ⟨a, vs, rfl, hL.isList, by rw [hi'.length]; exact Nat.le_trans hn (by decide), fun P h' b hp hb => ⟨b, _, rfl, hp, hb, strsAre_of_paired (paired_pick hi' _ _ _)⟩⟩

/-- a str's slice: some or no lower end, an upper one -/
theorem Ev.cutUp {value up : Expr} {x : Str} {j : Int} {p pos : Pos} (hv : Ev prog w F ρ value (DS x)) (hu : Ev prog w F ρ up (DI j)) (hz : x.length ≤ 1000000)
    (hb : ∀ y t r, letTemporaryGo value (.str y t) r = pure () := by intro _ _ _; rfl) : Ev prog w F ρ (.Subscript value (.Slice none (some up) none p) pos) (DS (Txt.slice x none (some j))) := by
  refine ⟨fun s I => ?_⟩
  refine Subscript_ (wpAny_mono (hv.run s I) ?_ fun _ _ x => x)
  rintro _ s1 ⟨k1, t, rfl⟩
  refine wpAny_Slice (wpAny_evalPart_none (wpAny_evalPart_some (wpAny_mono (hu.run s1 (I.le (keeps_le k1))) ?_ fun _ _ x => x)))
  rintro _ s2 ⟨k2, u, rfl⟩
  refine wpAny_evalPart_none (tail_of_ItemOn (SBH.sliceItem_ns (P := fun h => Le s.heap h) (fun h o p => Le.trans p (le_push o)) ((keeps_le k1).trans (keeps_le k2)) (fun h' t' k hk => ?_) (Nat.le_trans hz (by decide))) rfl (hb _ _))
  obtain ⟨h1, t1, rfl, _⟩ := keeps_trans k1 k2
  exact ⟨⟨h', k, rfl, hk⟩, _, rfl⟩
theorem Ev.cut {value lo up : Expr} {x : Str} {i j : Int} {p pos : Pos} (hv : Ev prog w F ρ value (DS x)) (hl : Ev prog w F ρ lo (DI i)) (hu : Ev prog w F ρ up (DI j)) (hz : x.length ≤ 1000000)
    (hb : ∀ y t r, letTemporaryGo value (.str y t) r = pure () := by intro _ _ _; rfl) : Ev prog w F ρ (.Subscript value (.Slice (some lo) (some up) none p) pos) (DS (Txt.slice x (some i) (some j))) := by
  refine ⟨fun s I => ?_⟩
  refine Subscript_ (wpAny_mono (hv.run s I) ?_ fun _ _ x => x)
  rintro _ s1 ⟨k1, t, rfl⟩
  refine wpAny_Slice (wpAny_evalPart_some (wpAny_mono (hl.run s1 (I.le (keeps_le k1))) ?_ fun _ _ x => x))
  rintro _ s2 ⟨k2, u, rfl⟩
  refine wpAny_evalPart_some (wpAny_mono (hu.run s2 ((I.le (keeps_le k1)).le (keeps_le k2))) ?_ fun _ _ x => x)
  rintro _ s3 ⟨k3, u', rfl⟩
  refine wpAny_evalPart_none (tail_of_ItemOn (SBH.sliceItem_ss (P := fun h => Le s.heap h) (fun h o p => Le.trans p (le_push o)) ((keeps_le k1).trans ((keeps_le k2).trans (keeps_le k3))) (fun h' t' k hk => ?_) (Nat.le_trans hz (by decide))) rfl (hb _ _))
  obtain ⟨h1, t1, rfl, _⟩ := keeps_trans k1 (keeps_trans k2 k3)
  exact ⟨⟨h', k, rfl, hk⟩, _, rfl⟩
end
end Mine
namespace Mine

/-- what a callable gives back: nothing of the caller's is changed, what it makes is new -/
noncomputable def FunP (prog : Program) (w : World) (P : Heap → Addr → Prop) (n : Nat) (T : TopAt) (f : Value) (ds : List D) (d : D) : Prop :=
  ∀ (A : Around) (s : Shared) (vs : List Value), Room n A → Le T.h0 s.heap → Paired (Rep (fun _ => True) s.heap) vs ds →
    wpAny (model prog w) A (call f vs) (fun v s' => Keeps s s' ∧ Rep (P s.heap) s'.heap v d) (fun _ _ => False) s
noncomputable abbrev New (h : Heap) (b : Addr) : Prop := h.get? b = none
noncomputable abbrev Any (_ : Heap) (_ : Addr) : Prop := True
noncomputable abbrev Fun (prog : Program) (w : World) (n : Nat) (T : TopAt) (f : Value) (ds : List D) (d : D) : Prop := FunP prog w New n T f ds d
noncomputable def Anti (P : Heap → Addr → Prop) : Prop := ∀ h h', Le h h' → ∀ a, P h' a → P h a
theorem anti_new : Anti New := fun _ _ k _ e => none_of_le k e
theorem anti_any : Anti Any := fun _ _ _ _ e => e

noncomputable def Kpr (prog : Program) (w : World) (T : TopAt) (f : Value) : Prop :=
  ∀ h : Heap, Le T.h0 h → ∃ k, (k = Keeper.frame ∨ k = Keeper.machine ∨ k = Keeper.boundFrame) ∧ Looks (model prog w) h (keeperOf f) k

theorem Kpr.builtin {prog : Program} {w : World} {T : TopAt} {id : String} : Kpr prog w T (.builtin id) := fun _ _ => ⟨.machine, .inr (.inl rfl), Looks.of_pure rfl⟩
theorem Kpr.type {prog : Program} {w : World} {T : TopAt} {id : String} : Kpr prog w T (.type id) := fun _ _ => ⟨.machine, .inr (.inl rfl), Looks.of_pure rfl⟩
theorem Kpr.fn {prog : Program} {w : World} {T : TopAt} {a : Addr} {o : Obj} {fd : FuncData} (ho : T.h0.get? a = some o) (hd : o.data = .func fd) : Kpr prog w T (.ref a) := fun h k => by
  refine ⟨.frame, .inl rfl, ?_⟩
  have e : keeperOf (.ref a) = (do let o ← load a; match o.data with
    | .func _ => return Keeper.frame
    | .cls _ => return if (← specialOf (.ref a) "__call__") == some (.builtin "type.__call__") then .machine else .caller
    | .fields vs =>
      if o.cls != .type "method" then
        return if o.cls == .type "builtin_function_or_method" || o.cls == .type "method-wrapper" then .machine else .caller
      let .ref g := vs.getD 0 .none | return .machine
      return match (← load g).data with | .func _ => .boundFrame | _ => .caller
    | _ => return .caller) := rfl
  rw [e]
  refine (Looks.ld (part := none) (k a o ho)).andThen ?_
  rw [hd]
  exact .now

section
variable {prog : Program} {w : World} {F : Frm} {ρ : List (Nm × D)} {T : TopAt} {n : Nat} {P : Heap → Addr → Prop}

/-- arguments, one after the other -/
inductive EvAll (prog : Program) (w : World) (F : Frm) (ρ : List (Nm × D)) : List Expr → List D → Prop
  | nil : EvAll prog w F ρ [] []
  | cons {e : Expr} {d : D} {es : List Expr} {ds : List D} (h : Ev prog w F ρ e d) (hs : ∀ rest, starEach (e :: rest) F.env = (false, eval e F.env) :: starEach rest F.env) (t : EvAll prog w F ρ es ds) : EvAll prog w F ρ (e :: es) (d :: ds)

theorem EvAll.one {e : Expr} {d : D} {es : List Expr} {ds : List D} (h : Ev prog w F ρ e d) (t : EvAll prog w F ρ es ds) (hs : ∀ rest, starEach (e :: rest) F.env = (false, eval e F.env) :: starEach rest F.env := by intro _; rfl) : EvAll prog w F ρ (e :: es) (d :: ds) := .cons h hs t

theorem EvAll.length {es : List Expr} {ds : List D} (p : EvAll prog w F ρ es ds) : es.length = ds.length := by
  induction p with
  | nil => rfl
  | cons _ _ _ ih => simp [ih]

theorem EvAll.eval {pos : Pos} {es : List Expr} {ds : List D} (p : EvAll prog w F ρ es ds) : ∀ {s : Shared}, Inv F ρ [] s.heap →
    wpAny (model prog w) F.A (spliced (backTo pos (starEach es F.env))) (fun vs s' => Keeps s s' ∧ Paired (Rep (fun _ => True) s'.heap) vs ds) (fun _ _ => False) s := by
  induction p with
  | nil => intro s _; exact wpAny_items_nil ⟨keeps_refl s, .nil⟩
  | cons h hs t ih =>
    intro s I
    refine wpAny_items_cons (wpAny_mono (h.run s I) ?_ fun _ _ x => x) (hs _)
    rintro v s1 ⟨k1, r1⟩
    refine wpAny_mono (ih (I.le (keeps_le k1))) ?_ fun _ _ x => x
    rintro vs s2 ⟨k2, r2⟩
    exact ⟨keeps_trans k1 k2, .cons (r1.le (keeps_le k2)) r2⟩

theorem EvAll.plain {pos : Pos} {es : List Expr} {ds : List D} (p : EvAll prog w F ρ es ds) : (backTo pos (starEach es F.env)).any (·.1) = false := by
  induction p with
  | nil => rfl
  | cons h hs t ih =>
    rw [hs]
    show (false || _) = false
    exact ih

theorem Ev.callWith {f : Value} {first : List Value} {fds : List D} {e : Expr} {es : List Expr} {ds : List D} {d : D} {pos : Pos} (O : ROk n T F) (hk : Kpr prog w T f) (p : EvAll prog w F ρ (e :: es) ds)
    (hP : Anti P) (C : FunP prog w P n T f (fds ++ ds) d) {s : Shared} (I : Inv F ρ [] s.heap) (hf : Paired (Rep (fun _ => True) s.heap) first fds) :
    wpAny (model prog w) F.A (callWith pos f first (backTo pos (starEach (e :: es) F.env)) []) (fun v s' => Keeps s s' ∧ Rep (P s.heap) s'.heap v d) (fun _ _ => False) s := by
  refine callWith_of (P := fun h => Le T.h0 h) (by rw [p.plain]; rfl) hk ?_
  have hs : starEach (e :: es) F.env = (false, eval e F.env) :: starEach es F.env := by cases p with | cons h hs t => exact hs _
  have hev := p.eval (pos := pos) I
  rw [hs] at hev ⊢
  refine Calls.evalArgs_plain (wpAny_mono hev ?_ fun _ _ x => x)
  rintro vs s1 ⟨k1, r1⟩
  have hle := O.le0.trans (I.1.trans (keeps_le k1))
  refine ⟨hle, wpAny_mono (C F.A s1 (first ++ vs) O.room hle ?_) ?_ fun _ _ x => x⟩
  · have h1 : Paired (Rep (fun _ => True) s1.heap) first fds := paired_mono (fun _ _ r => r.le (keeps_le k1)) hf
    have app : ∀ {a b : List Value} {x y : List D}, Paired (Rep (fun _ => True) s1.heap) a x → Paired (Rep (fun _ => True) s1.heap) b y → Paired (Rep (fun _ => True) s1.heap) (a ++ b) (x ++ y) := by
      intro a b x y h
      induction h with
      | nil => exact id
      | cons h _ ih => exact fun q => .cons h (ih q)
    exact app h1 r1
  · rintro v s2 ⟨k2, r2⟩
    exact ⟨keeps_trans k1 k2, r2.mono fun b hb => hP _ _ (keeps_le k1) b hb⟩

/-- a call of a name of the top -/
theorem Ev.call {x : Str} {npos pos : Pos} {f : Value} {e : Expr} {es : List Expr} {ds : List D} {d : D} (O : ROk n T F) (hx : Ev prog w F ρ (.Name x npos) (.val f)) (hk : Kpr prog w T f) (p : EvAll prog w F ρ (e :: es) ds)
    (C : FunP prog w P n T f ds d) (hP : Anti P := by first | exact anti_new | exact anti_any) : EvP prog w F ρ (.Call (.Name x npos) (e :: es) [] pos) P d := by
  refine ⟨fun s I => ?_⟩
  refine wpAny_Call_ofName (wpAny_mono (hx.run s I) ?_ fun _ _ x => x)
  rintro _ s1 ⟨k1, rfl⟩
  refine wpAny_mono (Ev.callWith (fds := []) O hk p hP C (I.le (keeps_le k1)) .nil) ?_ fun _ _ x => x
  rintro v s2 ⟨k2, r2⟩
  exact ⟨keeps_trans k1 k2, r2.mono fun b hb => hP _ _ (keeps_le k1) b hb⟩

/-- a method of a built-in type -/
theorem Ev.meth {o : Expr} {name : Str} {apos pos : Pos} {e : Expr} {es : List Expr} {ty id : String} {dso : D} {ds : List D} {d : D} (O : ROk n T F) (ho : Ev prog w F ρ o dso) (p : EvAll prog w F ρ (e :: es) ds)
    (pa : PlainAttrs ty) (slot : Slot ty name id) (hty : typeOf (.builtin id) = pure (.type "method_descriptor"))
    (hT : ∀ (s : Shared) v, Rep (fun _ => True) s.heap v dso → s.TypeIs v ty ∧ ∀ a, v = .ref a → ∃ ob, s.heap.get? a = some ob ∧ ob.dict = none)
    (C : FunP prog w P n T (.builtin id) (dso :: ds) d)
    (hbase : attributeBase o name F.env (eval o F.env) = eval o F.env := by rfl)
    (hfew : ((backTo pos (starEach (e :: es) F.env)).all (fun x => !x.1) && (backToKw pos (keywordEach [] F.env)).all (fun x => x.1.isSome)
      && decide ((e :: es).length + ([] : List Keyword).length + (if ([] : List Keyword).isEmpty then 0 else 1) < 30)) = true := by rfl)
    (hline : (apos.endLine == pos.line) = true := by rfl) (hP : Anti P := by first | exact anti_new | exact anti_any) : EvP prog w F ρ (.Call (.Attribute o name apos) (e :: es) [] pos) P d := by
  refine ⟨fun s I => ?_⟩
  refine wpAny_Call_method hbase hfew hline pa slot hty (wpAny_mono (ho.run s I) ?_ fun _ _ x => x)
  rintro v s1 ⟨k1, r1⟩
  obtain ⟨h1, h2⟩ := hT s1 v r1
  refine ⟨h1, h2, wpAny_mono (Ev.callWith (fds := [dso]) O Kpr.builtin p hP C (I.le (keeps_le k1)) (.cons r1 .nil)) ?_ fun _ _ x => x⟩
  rintro v s2 ⟨k2, r2⟩
  exact ⟨keeps_trans k1 k2, r2.mono fun b hb => hP _ _ (keeps_le k1) b hb⟩

theorem isStr_rep (s : Shared) (x : Str) (v : Value) (r : Rep (fun _ => True) s.heap v (DS x)) : s.TypeIs v "str" ∧ ∀ a, v = .ref a → ∃ ob, s.heap.get? a = some ob ∧ ob.dict = none := by
  obtain ⟨t, rfl⟩ := r
  exact ⟨typeIs_str s x t, fun _ e => nomatch e⟩
theorem isInts_rep (s : Shared) (x : List Int) (v : Value) (r : Rep (fun _ => True) s.heap v (.ints x)) : s.TypeIs v "list" ∧ ∀ a, v = .ref a → ∃ ob, s.heap.get? a = some ob ∧ ob.dict = none := by
  obtain ⟨a, vs, rfl, _, ⟨k, ho⟩, _⟩ := r
  exact ⟨⟨_, ho, rfl⟩, fun b e => by cases e; exact ⟨_, ho, rfl⟩⟩

/-! displays -/
theorem paired_ats : ∀ {h : Heap} {vs : List Value} {as : List At}, Paired (Rep (fun _ => True) h) vs (as.map .at) → Paired AtRep vs as
  | _, _, [], .nil => .nil
  | _, _, _ :: _, .cons h t => .cons h (paired_ats t)
theorem Ev.tuple {es : List Expr} {k : Nat} {pos : Pos} {as : List At} (p : EvAll prog w F ρ es (as.map .at)) (hz : as.length ≤ 1000 := by decide) : EvN prog w F ρ (.Tuple es k pos) (.tup as) := by
  refine ⟨fun s I => ?_⟩
  refine wpAny_Tuple (wpAny_mono (p.eval I) ?_ fun _ _ x => x)
  rintro vs s1 ⟨k1, r1⟩
  have hp := paired_ats r1
  refine ⟨by rw [hp.length]; exact Nat.le_trans hz (by decide), keeps_trans k1 (keeps_heap (le_push _)), _, vs, rfl, none_of_le (keeps_le k1) (none_size _), ⟨_, Heap.get?_push_size _ rfl, rfl, 0, rfl⟩, hp⟩
theorem paired_ints : ∀ {h : Heap} {vs : List Value} {as : List Int}, Paired (Rep (fun _ => True) h) vs (as.map DI) → IntsAre vs as
  | _, _, [], .nil => .nil
  | _, _, _ :: _, .cons ⟨t, e⟩ r => by subst e; exact .cons _ _ (paired_ints r)
theorem paired_strs : ∀ {h : Heap} {vs : List Value} {as : List Str}, Paired (Rep (fun _ => True) h) vs (as.map DS) → StrsAre vs as
  | _, _, [], .nil => .nil
  | _, _, _ :: _, .cons ⟨t, e⟩ r => by subst e; exact .cons _ _ (paired_strs r)
theorem paired_tups : ∀ {h : Heap} {vs : List Value} {as : List (List At)}, Paired (Rep (fun _ => True) h) vs (as.map .tup) → Paired (TupRep (fun _ => True) h) vs as
  | _, _, [], .nil => .nil
  | _, _, _ :: _, .cons e r => .cons e (paired_tups r)
theorem Ev.listI {es : List Expr} {pos : Pos} {ns : List Int} (p : EvAll prog w F ρ es (ns.map DI)) (hz : ns.length ≤ 1000 := by decide) : EvN prog w F ρ (.List es pos) (.ints ns) := by
  refine ⟨fun s I => ?_⟩
  refine wpAny_List (wpAny_mono (p.eval I) ?_ fun _ _ x => x)
  rintro vs s1 ⟨k1, r1⟩
  have hp := paired_ints r1
  refine ⟨by rw [hp.length]; exact Nat.le_trans hz (by decide), keeps_trans k1 (keeps_heap (le_push _)), _, vs, rfl, none_of_le (keeps_le k1) (none_size _), ⟨0, Heap.get?_push_size _ rfl⟩, hp⟩
theorem Ev.listS {es : List Expr} {pos : Pos} {ns : List Str} (p : EvAll prog w F ρ es (ns.map DS)) (hz : ns.length ≤ 1000 := by decide) : EvN prog w F ρ (.List es pos) (.strs ns) := by
  refine ⟨fun s I => ?_⟩
  refine wpAny_List (wpAny_mono (p.eval I) ?_ fun _ _ x => x)
  rintro vs s1 ⟨k1, r1⟩
  have hp := paired_strs r1
  refine ⟨by rw [(paired_of_strsAre hp).length]; exact Nat.le_trans hz (by decide), keeps_trans k1 (keeps_heap (le_push _)), _, vs, rfl, none_of_le (keeps_le k1) (none_size _), ⟨0, Heap.get?_push_size _ rfl⟩, hp⟩
/-- a list of tuples: not all of it is new by this rule's word -/
theorem Ev.listT {es : List Expr} {pos : Pos} {xs : List (List At)} (p : EvAll prog w F ρ es (xs.map .tup)) (hz : xs.length ≤ 1000 := by decide) : Ev prog w F ρ (.List es pos) (.tups xs) := by
  refine ⟨fun s I => ?_⟩
  refine wpAny_List (wpAny_mono (p.eval I) ?_ fun _ _ x => x)
  rintro vs s1 ⟨k1, r1⟩
  have hp := paired_tups r1
  refine ⟨by rw [hp.length]; exact Nat.le_trans hz (by decide), keeps_trans k1 (keeps_heap (le_push _)), _, vs, rfl, trivial, ⟨0, Heap.get?_push_size _ rfl⟩, paired_mono (fun _ _ q => q.to fun b o _ e => ⟨le_push _ b o e, trivial⟩) hp⟩
end
end Mine
namespace Mine

section
variable {prog : Program} {w : World} {F : Frm} {ρ : List (Nm × D)} {T : TopAt} {n : Nat}

theorem pair1 {h : Heap} {vs : List Value} {d : D} (p : Paired (Rep (fun _ => True) h) vs [d]) : ∃ v, vs = [v] ∧ Rep (fun _ => True) h v d := by
  cases p with
  | cons h t => cases t; exact ⟨_, rfl, h⟩
theorem pair2 {h : Heap} {vs : List Value} {d e : D} (p : Paired (Rep (fun _ => True) h) vs [d, e]) : ∃ v u, vs = [v, u] ∧ Rep (fun _ => True) h v d ∧ Rep (fun _ => True) h u e := by
  cases p with
  | cons h t =>
    obtain ⟨u, rfl, hu⟩ := pair1 t
    exact ⟨_, u, rfl, h, hu⟩
theorem pair3 {h : Heap} {vs : List Value} {d e f : D} (p : Paired (Rep (fun _ => True) h) vs [d, e, f]) : ∃ v u x, vs = [v, u, x] ∧ Rep (fun _ => True) h v d ∧ Rep (fun _ => True) h u e ∧ Rep (fun _ => True) h x f := by
  cases p with
  | cons h t =>
    obtain ⟨u, x, rfl, hu, hx⟩ := pair2 t
    exact ⟨_, u, x, rfl, h, hu, hx⟩

theorem Fun.sum {ns : List Int} : Fun prog w n T (.builtin "sum") [.ints ns] (DI ns.sum) := by
  intro A s vs R _ p
  obtain ⟨_, rfl, a, us, rfl, _, hl, hi⟩ := pair1 p
  have hl' := hl.isList
  obtain ⟨xs, hx⟩ := hi.allInts.items
  have hn : numsOf us.toArray.toList = ns := by rw [show us.toArray.toList = us from rfl, hi.numsOf]
  rw [hx] at hl' hn
  rw [nums_intItems] at hn
  refine sum_intListG R.hh hl' fun h' tk t' hk => ?_
  rw [preSum_eq, List.take_of_length_le (by simp), hn]
  exact ⟨keeps_heap hk, _, rfl⟩
theorem Fun.lenI {ns : List Int} (hz : ns.length ≤ 1000) : Fun prog w n T (.builtin "len") [.ints ns] (DI ns.length) := by
  intro A s vs R _ p
  obtain ⟨_, rfl, a, us, rfl, _, hl, hi⟩ := pair1 p
  refine len_list hl.isList (by rw [List.size_toArray, hi.length]; omega) ?_
  rw [List.size_toArray, hi.length]
  exact ⟨keeps_toks s _, _, rfl⟩
theorem Fun.lenP {ns : List Str} (hz : ns.length ≤ 1000) : Fun prog w n T (.builtin "len") [.parts ns] (DI ns.length) := by
  intro A s vs R _ p
  obtain ⟨_, rfl, a, us, rfl, _, hl, hi⟩ := pair1 p
  have hp := (paired_of_strsAre hi).length
  refine len_list hl (by rw [List.size_toArray, hp]; omega) ?_
  rw [List.size_toArray, hp]
  exact ⟨keeps_toks s _, _, rfl⟩
theorem Fun.lenS {x : Str} (hz : x.length ≤ 1000000) : Fun prog w n T (.builtin "len") [DS x] (DI x.length) := by
  intro A s vs R _ p
  obtain ⟨_, rfl, t, rfl⟩ := pair1 p
  exact SBL.len (by omega) ⟨keeps_toks s _, _, rfl⟩
theorem Fun.strI {a : Int} (hz : a.natAbs.log2 < 1920) : Fun prog w n T (.type "str") [DI a] (DS (Str.ofString (toString a))) := by
  intro A s vs R _ p
  obtain ⟨_, rfl, t, rfl⟩ := pair1 p
  exact P.str_of_int hz ⟨keeps_toks s _, _, rfl⟩
theorem Fun.intS {x : Str} {a : Int} (hz : PySem.intText? x = some a) (hl : x.length ≤ 640) : Fun prog w n T (.type "int") [DS x] (DI a) := by
  intro A s vs R _ p
  obtain ⟨_, rfl, t, rfl⟩ := pair1 p
  exact KIN.call_text hz hl ⟨keeps_toks s _, _, rfl⟩
theorem Fun.max {a b : Int} : Fun prog w n T (.builtin "max") [DI a, DI b] (DI (if b > a then b else a)) := by
  intro A s vs R _ p
  obtain ⟨_, _, rfl, ⟨t, rfl⟩, u, rfl⟩ := pair2 p
  refine max_two_ints R.hh fun h' tk hk => ?_
  by_cases c : b > a
  · rw [if_pos c, if_pos c]; exact ⟨keeps_heap hk, _, rfl⟩
  · rw [if_neg c, if_neg c]; exact ⟨keeps_heap hk, _, rfl⟩
theorem Fun.typeS {x : Str} : Fun prog w n T (.type "type") [DS x] (.val (.type "str")) := by
  intro A s vs R _ p
  obtain ⟨_, rfl, t, rfl⟩ := pair1 p
  exact call_type_of (Tx := "str") rfl (by decide +kernel) ⟨keeps_refl s, rfl⟩
theorem Fun.typeI {x : Int} : Fun prog w n T (.type "type") [DI x] (.val (.type "int")) := by
  intro A s vs R _ p
  obtain ⟨_, rfl, t, rfl⟩ := pair1 p
  exact call_type_of (Tx := "int") rfl (by decide +kernel) ⟨keeps_refl s, rfl⟩

theorem le_sorted {h : Heap} {vs : List Value} {out : Array Value} : Le h (sortedAll h vs out) := fun _ _ e => sortedAll_old e
theorem sorted_plain (h : Heap) (vs : List Value) (out : Array Value) : (sortedAll h vs out).PlainList (h.objs.size + 1) out := by
  obtain ⟨e, q⟩ := sortedAll_at h vs out
  exact ⟨e, q⟩
theorem none_size1 (h : Heap) : h.get? (h.objs.size + 1) = none := by
  cases q : h.get? (h.objs.size + 1) with
  | none => rfl
  | some o => exact absurd (Heap.lt_size q) (Nat.not_lt.mpr (Nat.le_succ _))
/-- sorted: any list that is a rising rearrangement is the answer's -/
theorem Fun.sortedI {ns r : List Int} (hz : ns.length < 64) (hr : ∀ ms : List Int, ms.Perm ns → ms.Pairwise (· ≤ ·) → ms = r) : Fun prog w n T (.builtin "sorted") [.ints ns] (.ints r) := by
  intro A s vs R _ p
  obtain ⟨_, rfl, a, us, rfl, _, hl, hi⟩ := pair1 p
  refine sorted_ints hl.isList hi (by rw [hi.length]; exact hz) fun out ms h1 h2 h3 => ?_
  refine ⟨keeps_heap le_sorted, _, out.toList, rfl, none_size1 _, by simpa using sorted_plain _ _ _, ?_⟩
  rw [← hr ms h2 h3]; exact h1
theorem Fun.sortedS {ns r : List Str} (hz : ns.length < 64) (hr : ∀ ms : List Str, ms.Perm ns → sortedS ms = true → ms = r) : Fun prog w n T (.builtin "sorted") [.strs ns] (.strs r) := by
  intro A s vs R _ p
  obtain ⟨_, rfl, a, us, rfl, _, hl, hi⟩ := pair1 p
  refine sorted_strs hl.isList hi (by rw [(paired_of_strsAre hi).length]; exact hz) fun out ms h1 h2 h3 => ?_
  refine ⟨keeps_heap le_sorted, _, out.toList, rfl, none_size1 _, by simpa using sorted_plain _ _ _, ?_⟩
  rw [← hr ms h2 h3]; exact h1

/-! methods -/
theorem Fun.find {x y : Str} : Fun prog w n T (.builtin "str.find") [DS x, DS y] (DI (Txt.find x y)) := by
  intro A s vs R _ p
  obtain ⟨_, _, rfl, ⟨t, rfl⟩, u, rfl⟩ := pair2 p
  exact SC.find ⟨keeps_toks s _, _, rfl⟩
theorem Fun.find3 {x y : Str} {i : Int} : Fun prog w n T (.builtin "str.find") [DS x, DS y, DI i] (DI (Txt.find3 x y i)) := by
  intro A s vs R _ p
  obtain ⟨_, _, _, rfl, ⟨t, rfl⟩, ⟨u, rfl⟩, v, rfl⟩ := pair3 p
  exact SC.find3 ⟨keeps_toks s _, _, rfl⟩
theorem Fun.index {x y : Str} (h0 : 0 ≤ Txt.find x y) : Fun prog w n T (.builtin "str.index") [DS x, DS y] (DI (Txt.find x y)) := by
  intro A s vs R _ p
  obtain ⟨_, _, rfl, ⟨t, rfl⟩, u, rfl⟩ := pair2 p
  exact index_or R.hh (fun e => by omega) (fun _ _ => ⟨keeps_toks s _, _, rfl⟩)
theorem Fun.lstrip {x y : Str} (hz : x.length ≤ 1000000) : Fun prog w n T (.builtin "str.lstrip") [DS x, DS y] (DS (Txt.lstripChars x y)) := by
  intro A s vs R _ p
  obtain ⟨_, _, rfl, ⟨t, rfl⟩, u, rfl⟩ := pair2 p
  exact SC.lstripChars (fun _ _ => ⟨keeps_toks s _, _, rfl⟩) (Nat.le_trans hz (by decide))
theorem strsAre_strValues : ∀ l : List (Str × Tok), StrsAre (strValues l) (l.map (·.1))
  | [] => .nil
  | (x, t) :: r => .cons x t (strsAre_strValues r)
theorem Fun.split {x y : Str} (hy : (y.length == 0) = false) (hz : x.length ≤ 1000) (hp : (Builtin.Str.partsBetween x (Builtin.Str.occurrences x y 0 x.length (x.length + 1)) y.length).length ≤ 10000) :
    FunP prog w Any n T (.builtin "str.split") [DS x, DS y] (.parts (Txt.split x y)) := by
  intro A s vs R _ p
  obtain ⟨_, _, rfl, ⟨t, rfl⟩, u, rfl⟩ := pair2 p
  refine SCH.split1 (P := fun h => Le s.heap h) (fun h o p => Le.trans p (le_push o)) (Le.refl _) hy (fun D l h' k e hk hl => ?_) (Nat.le_trans hz (by decide)) (Nat.le_trans hp (by decide))
  refine ⟨keeps_heap hk, D, strValues l, rfl, trivial, hl, ?_⟩
  rw [← e]; exact strsAre_strValues l
theorem Fun.count {ns : List Int} {k : Int} : Fun prog w n T (.builtin "list.count") [.ints ns, DI k] (DI (ns.count k : Nat)) := by
  intro A s vs R _ p
  obtain ⟨_, _, rfl, ⟨a, us, rfl, _, hl, hi⟩, u, rfl⟩ := pair2 p
  exact count_list_ints hl.isList hi ⟨keeps_toks s _, _, rfl⟩

theorem Ev.itemPt {value slice : Expr} {pos : Pos} {ss : List Str} {k : Int} {d : Str} (hv : Ev prog w F ρ value (.parts ss)) (hs : Ev prog w F ρ slice (DI k)) (h0 : 0 ≤ k) (h1 : k < ss.length) (hz : ss.length ≤ 1000)
    (hsl : ∀ o i, subscripted slice false o i = operate [o, i] (getItem o i) := by intro _ _; rfl) : Ev prog w F ρ (.Subscript value slice pos) (DS (ss.getD k.toNat d)) := by
  refine Ev.item hv hs ?_
  rintro s _ _ ⟨a, vs, rfl, _, hl, hi⟩ ⟨u, rfl⟩
  obtain ⟨t, e⟩ := strsAre_get (k := k.toNat) (d := d) hi (by omega)
  exact tail_any hl.typeIs slot_list_getitem.lookup (wpAny_getItem_list hl h0 (by omega) (by simpa using e) ⟨keeps_refl s, t, rfl⟩) (hsl _ _)

/-! two lists joined -/
theorem Ev.joinL {l r : Expr} {pos : Pos} {dl dr d : D} (hl : Ev prog w F ρ l dl) (hr : Ev prog w F ρ r dr)
    (H : ∀ h a b, Rep (fun _ => True) h a dl → Rep (fun _ => True) h b dr → ∃ (x y : Addr) (vs us : List Value), a = .ref x ∧ b = .ref y ∧ h.PlainList x vs.toArray ∧ h.PlainList y us.toArray ∧ vs.length + us.length ≤ 10000 ∧
      ∀ (P : Addr → Prop) h' z, P z → h'.PlainList z (vs ++ us).toArray → Rep P h' (.ref z) d) : EvN prog w F ρ (.BinOp l .Add r pos) d := by
  refine Ev.bin anti_new hl hr ?_
  intro s a b hb ra rb
  obtain ⟨x, y, vs, us, rfl, rfl, ⟨n1, h1⟩, ⟨n2, h2⟩, hz, hR⟩ := H _ a b ra rb
  have e : vs.toArray ++ us.toArray = (vs ++ us).toArray := by simp
  refine concat_meets ⟨_, h1, rfl⟩ ⟨_, h2, rfl⟩ noFill_list_add seq_list_add PySem.F.slot_list_add PySem.F.entry_list_add (PySem.F.args_list_add_2 _ _) (list_addW x y vs.toArray us.toArray n1 n2 none none #[] #[] (by simpa using Nat.le_trans hz (by decide))) ⟨h1, h2, ?_⟩
  rw [e]
  exact ⟨keeps_heap (le_push _), hR _ _ _ (none_size _) ⟨0, Heap.get?_push_size _ rfl⟩⟩
theorem intsAre_app : ∀ {a b : List Value} {x y : List Int}, IntsAre a x → IntsAre b y → IntsAre (a ++ b) (x ++ y)
  | _, _, _, _, .nil, h => h
  | _, _, _, _, .cons n t r, h => .cons n t (intsAre_app r h)
theorem strsAre_app : ∀ {a b : List Value} {x y : List Str}, StrsAre a x → StrsAre b y → StrsAre (a ++ b) (x ++ y)
  | _, _, _, _, .nil, h => h
  | _, _, _, _, .cons n t r, h => .cons n t (strsAre_app r h)
theorem Ev.joinI {l r : Expr} {pos : Pos} {x y : List Int} (hl : Ev prog w F ρ l (.ints x)) (hr : Ev prog w F ρ r (.ints y)) (hz : x.length + y.length ≤ 10000) : EvN prog w F ρ (.BinOp l .Add r pos) (.ints (x ++ y)) := by
  refine Ev.joinL hl hr ?_
  rintro h _ _ ⟨a, vs, rfl, _, h1, i1⟩ ⟨b, us, rfl, _, h2, i2⟩
  exact ⟨a, b, vs, us, rfl, rfl, h1, h2, by rw [i1.length, i2.length]; exact hz, fun P h' z hp hl => ⟨z, _, rfl, hp, hl, intsAre_app i1 i2⟩⟩
theorem Ev.joinS {l r : Expr} {pos : Pos} {x y : List Str} (hl : Ev prog w F ρ l (.strs x)) (hr : Ev prog w F ρ r (.strs y)) (hz : x.length + y.length ≤ 10000) : EvN prog w F ρ (.BinOp l .Add r pos) (.strs (x ++ y)) := by
  refine Ev.joinL hl hr ?_
  rintro h _ _ ⟨a, vs, rfl, _, h1, i1⟩ ⟨b, us, rfl, _, h2, i2⟩
  exact ⟨a, b, vs, us, rfl, rfl, h1, h2, by rw [(paired_of_strsAre i1).length, (paired_of_strsAre i2).length]; exact hz, fun P h' z hp hl => ⟨z, _, rfl, hp, hl, strsAre_app i1 i2⟩⟩

/-! whole lists and tuples compared -/
noncomputable def At.pd : At → PyData
  | .none => .none
  | .bool b => .bool b
  | .int i => .int i
  | .str s => .str s
theorem at_reads {h : Heap} {v : Value} {a : At} (r : AtRep v a) : Reads h v a.pd [] := by
  cases a with
  | none => cases r; exact .none
  | bool b => cases r; exact .bool b
  | int i => obtain ⟨t, rfl⟩ := r; exact .int i t
  | str s => obtain ⟨t, rfl⟩ := r; exact .str s t
theorem ats_reads {h : Heap} : ∀ {vs : List Value} {as : List At}, Paired AtRep vs as → ReadsAll h vs (as.map At.pd) []
  | _, _, .nil => .nil
  | _, _, .cons r t => by simpa using ReadsAll.cons (at_reads r) (ats_reads t)
theorem tup_reads {P : Addr → Prop} {h : Heap} {v : Value} {as : List At} (r : TupRep P h v as) : Reads h v (.tuple (as.map At.pd)) [] := by
  obtain ⟨a, vs, rfl, _, ⟨o, ho, hc, n, hd⟩, hp⟩ := r
  exact .tuple ho hc hd (ats_reads hp)
theorem strs_reads {P : Addr → Prop} {h : Heap} {v : Value} {ss : List Str} (r : Rep P h v (.strs ss)) : ∃ a, Reads h v (.list (ss.map PyData.str)) [a] := by
  obtain ⟨a, vs, rfl, _, ⟨n, ho⟩, hp⟩ := r
  refine ⟨a, .list ho rfl rfl ?_⟩
  have : ∀ {vs : List Value} {ss : List Str}, StrsAre vs ss → ReadsAll h vs (ss.map PyData.str) [] := by
    intro vs ss q
    induction q with
    | nil => exact .nil
    | cons x t r ih => simpa using ReadsAll.cons (.str x t) ih
  exact this hp
noncomputable def At.ok : At → Bool
  | .str s => PyData.strOk s
  | _ => true
theorem canLay_ats : ∀ {as : List At}, as.all At.ok = true → PyData.canLayAll0 (as.map At.pd) = true
  | [], _ => rfl
  | a :: r, h => by
    simp only [List.all_cons, Bool.and_eq_true] at h
    show (PyData.canLay0 a.pd && PyData.canLayAll0 (r.map At.pd)) = true
    rw [canLay_ats h.2, Bool.and_true]
    cases a with
    | str s => have := h.1; unfold At.ok at this; unfold At.pd PyData.canLay0; exact this
    | none => unfold At.pd PyData.canLay0; rfl
    | bool b => unfold At.pd PyData.canLay0; rfl
    | int i => unfold At.pd PyData.canLay0; rfl
theorem depth_le_of_all (k : Nat) : ∀ (xs : List PyData), (∀ x ∈ xs, x.depth ≤ k) → PyData.depthAll xs ≤ k
  | [], _ => Nat.zero_le _
  | x :: r, h => Nat.max_le.mpr ⟨h x (.head _), depth_le_of_all k r fun y hy => h y (.tail _ hy)⟩
theorem at_depth (a : At) : a.pd.depth ≤ 1 := by cases a <;> (unfold At.pd PyData.depth; exact Nat.zero_le _)
theorem shaped_tup {as : List At} (h : as.all At.ok = true) : PySem.SeqAt.shaped (.tuple (as.map At.pd)) = true := by
  refine Bool.and_eq_true_iff.mpr ⟨canLay_ats h, decide_eq_true ?_⟩
  show PyData.depthAll (as.map At.pd) + 1 ≤ 64
  have := depth_le_of_all 1 (as.map At.pd) (fun x hx => by obtain ⟨a, _, rfl⟩ := List.mem_map.mp hx; exact at_depth a)
  omega
theorem shaped_strs {ss : List Str} (h : ss.all PyData.strOk = true) : PySem.SeqAt.shaped (.list (ss.map PyData.str)) = true := by
  have e : ss.map PyData.str = (ss.map At.str).map At.pd := by rw [List.map_map]; rfl
  refine Bool.and_eq_true_iff.mpr ⟨?_, decide_eq_true ?_⟩
  · show PyData.canLayAll0 (ss.map PyData.str) = true
    rw [e]
    refine canLay_ats ?_
    rw [List.all_map]
    exact h
  · show PyData.depthAll (ss.map PyData.str) + 1 ≤ 64
    have := depth_le_of_all 1 (ss.map PyData.str) (fun x hx => by obtain ⟨a, _, rfl⟩ := List.mem_map.mp hx; exact at_depth (.str a))
    omega
theorem Cmp.neT {as bs : List At} (O : ROk n T F) (ha : as.all At.ok = true) (hb : bs.all At.ok = true) (hn : 5 ≤ n := by decide) : Cmp prog w F .NotEq (.tup as) (.tup bs) (!PyData.eqv (.tuple (as.map At.pd)) (.tuple (bs.map At.pd))) := by
  intro s x y _ rx ry
  exact PySem.SeqAt.compareNe_shaped (tup_reads rx) (tup_reads ry) (shaped_tup ha) (shaped_tup hb) (by have := O.room.2.2; omega) ⟨keeps_refl s, rfl⟩
theorem Cmp.neSs {as bs : List Str} (O : ROk n T F) (ha : as.all PyData.strOk = true) (hb : bs.all PyData.strOk = true) (hn : 5 ≤ n := by decide) : Cmp prog w F .NotEq (.strs as) (.strs bs) (!PyData.eqv (.list (as.map PyData.str)) (.list (bs.map PyData.str))) := by
  intro s x y _ rx ry
  obtain ⟨p, rx⟩ := strs_reads rx
  obtain ⟨q, ry⟩ := strs_reads ry
  exact PySem.SeqAt.compareNe_shaped rx ry (shaped_strs ha) (shaped_strs hb) (by have := O.room.2.2; omega) ⟨keeps_refl s, rfl⟩
theorem Cmp.neIs {as bs : List Int} (O : ROk n T F) (hn : 5 ≤ n := by decide) : Cmp prog w F .NotEq (.ints as) (.ints bs) (!decide (as = bs)) := by
  rintro s _ _ _ ⟨a, vs, rfl, _, h1, i1⟩ ⟨b, us, rfl, _, h2, i2⟩
  exact ne_intsK h1.isList i1 h2.isList i2 (by have := O.room.2.2; omega) ⟨keeps_refl s, rfl⟩
theorem Cmp.eqIs {as bs : List Int} (O : ROk n T F) (hn : 5 ≤ n := by decide) : Cmp prog w F .Eq (.ints as) (.ints bs) (decide (as = bs)) := by
  rintro s _ _ _ ⟨a, vs, rfl, _, h1, i1⟩ ⟨b, us, rfl, _, h2, i2⟩
  exact eq_intsK h1.isList i1 h2.isList i2 (by have := O.room.2.2; omega) ⟨keeps_refl s, rfl⟩
theorem Cmp.isNotB {a b : Bool} : Cmp prog w F .IsNot (DB a) (DB b) (a != b) := by rintro s _ _ _ rfl rfl; exact isnot_bool ⟨keeps_refl s, rfl⟩
theorem Cmp.isNotT {a b : String} : Cmp prog w F .IsNot (.val (.type a)) (.val (.type b)) (!(Value.type a == Value.type b)) := by rintro s _ _ _ rfl rfl; exact wpAny_isNot_plain rfl ⟨keeps_refl s, rfl⟩
theorem Cmp.inT {a : Int} {ns : List Int} : Cmp prog w F .In (DI a) (.tup (ns.map At.int)) (ns.any fun x => x == a) := by
  rintro s _ _ _ ⟨t, rfl⟩ ⟨l, vs, rfl, _, hl, hp⟩
  have : ∀ {vs : List Value} {ns : List Int}, Paired AtRep vs (ns.map At.int) → IntsAre vs ns := by
    intro vs ns
    induction ns generalizing vs with
    | nil => intro q; cases q; exact .nil
    | cons n r ih => intro q; cases q with | cons h t => obtain ⟨u, rfl⟩ := h; exact .cons _ _ (ih t)
  exact in_tuple_ints hl (this hp) ⟨keeps_refl s, rfl⟩
end
end Mine
namespace Mine

section
variable {prog : Program} {w : World} {A : Around} {E : Value → Shared → Prop} {R : Result → Shared → Prop} {s : Shared}

/-- a comprehension's turns, by an invariant that falls; the target may be any -/
theorem compLoop_any {elt target iter : Expr} {ifs : List Expr} {scope : Scope} {pos : Pos} {it acc : Value} {env : Env} (I : Nat → Shared → Prop)
    (turn : ∀ n s, I n s → wpAny (model prog w) A (pyNext it) (fun r s₁ => match r with
      | none => R (.ok .next) s₁
      | some v => wpAny (model prog w) A (letOwnedTupleGo target it v) (fun _ s₁' => wpAny (model prog w) A (assign target env v) (fun _ s₂ =>
          wpAny (model prog w) A (forIn ifs true fun c r => if r = true then do let ok ← isTrue c env (eval c env); pure (ForInStep.yield ok) else pure (ForInStep.yield r)) (fun ok s₃ =>
            if ok = true then wpAny (model prog w) A (eval elt env) (fun x s₄ =>
              wpAny (model prog w) A (call (.builtin "list.append") [acc, x]) (fun _ s₅ => ∃ m, m < n ∧ I m s₅) (fun _ _ => False) s₄) (fun _ _ => False) s₃
            else ∃ m, m < n ∧ I m s₃) (fun _ _ => False) s₂) (fun _ _ => False) s₁') (fun _ _ => False) s₁) (fun _ _ => False) s)
    (n : Nat) (h : I n s) :
    codeAny (model prog w) A (.compLoop (.ListComp elt [⟨target, iter, ifs, 0⟩] scope pos) 0 it acc env) R s := by
  refine codeAny_loop rfl I (fun n s hI => ?_) n h
  show wpAny _ A ((compTurn (.ListComp elt [⟨target, iter, ifs, 0⟩] scope pos) 0 it acc env).onRaise (fun x => do noteFrame x env; theTreesLotGoes x)) _ _ s
  refine wpAny_noted ?_
  rw [compTurn_list]
  refine wpAny_bind (wpAny_standAt (wpAny_bind (wpAny_mono (turn n s hI) (fun r s₁ h₁ => ?_) fun _ _ h' => h'.elim)))
  cases r with
  | none => exact wpAny_pure h₁
  | some v =>
    refine wpAny_bind (wpAny_mono h₁ (fun _ s₁' h₁' => wpAny_bind (wpAny_mono h₁' (fun _ s₂ h₂ => wpAny_bind (wpAny_mono h₂ (fun ok s₃ h₃ => ?_) fun _ _ h' => h'.elim)) fun _ _ h' => h'.elim)) fun _ _ h' => h'.elim)
    cases ok with
    | false => exact wpAny_pure ⟨rfl, h₃⟩
    | true =>
      exact wpAny_bind (wpAny_bind (wpAny_mono h₃ (fun x s₄ h₄ => wpAny_bind (wpAny_mono h₄ (fun _ s₅ h₅ => wpAny_pure (wpAny_pure ⟨rfl, h₅⟩)) fun _ _ h' => h'.elim)) fun _ _ h' => h'.elim))
end

/-- kinds of items -/
structure Kd (β : Type) where
  one : β → D
  many : List β → D
  mkr : ∀ (P : Addr → Prop) (h : Heap) (a : Addr) (vs : List Value) (bs : List β), P a → h.PlainList a vs.toArray → Paired (fun v b => Rep P h v (one b)) vs bs → Rep P h (.ref a) (many bs)
  un : ∀ (P : Addr → Prop) (h : Heap) (v : Value) (bs : List β), Rep P h v (many bs) → ∃ a vs, v = .ref a ∧ P a ∧ h.PlainList a vs.toArray ∧ Paired (fun v b => Rep P h v (one b)) vs bs

noncomputable def kInt : Kd Int := ⟨DI, .ints, fun _ _ a vs _ hp hl p => ⟨a, vs, rfl, hp, hl, intsAre_of_paired p⟩, fun _ _ _ _ ⟨a, vs, e, hp, hl, i⟩ => ⟨a, vs, e, hp, hl, paired_of_intsAre i⟩⟩
noncomputable def kStr : Kd Str := ⟨DS, .strs, fun _ _ a vs _ hp hl p => ⟨a, vs, rfl, hp, hl, strsAre_of_paired p⟩, fun _ _ _ _ ⟨a, vs, e, hp, hl, i⟩ => ⟨a, vs, e, hp, hl, paired_of_strsAre i⟩⟩
noncomputable def kTup : Kd (List At) := ⟨.tup, .tups, fun _ _ a vs _ hp hl p => ⟨a, vs, rfl, hp, hl, p⟩, fun _ _ _ _ ⟨a, vs, e, hp, hl, i⟩ => ⟨a, vs, e, hp, hl, i⟩⟩

noncomputable abbrev cenv (scope : Scope) (cl : List (Str × Addr)) (F : Frm) (C : Addr) : Env := compEnvC scope cl C F.env
noncomputable abbrev cfrm (scope : Scope) (cl : List (Str × Addr)) (F : Frm) (C : Addr) : Frm := ⟨F.A, cenv scope cl F C, F.base⟩

structure CompOk (F : Frm) (scope : Scope) (cl : List (Str × Addr)) (ρ ρf : List (Nm × D)) : Prop where
  clos : closureFor scope F.env = pure cl
  sub : ∀ n c, cl.lookup n = some c → F.env.cells.lookup n = some c
  nocell : ∀ y ∈ scope.names, y.2 ≠ .cell
  kind : scope.kind = .function
  names : ∀ y ∈ scope.names, y.2 = .local → scope.names.lookup y.1 = some .local
  free : ∀ y d, lk ρf y = some d → lk ρ y = some d ∧ F.env.kindOf y.s = some .cell ∧ (relabel scope F.env).names.lookup y.s = some .cell ∧ ∃ c, cl.lookup y.s = some c

theorem ROk.comp {n : Nat} {T : TopAt} {F : Frm} {scope : Scope} {cl : List (Str × Addr)} {ρ ρf : List (Nm × D)} (O : ROk n T F) (c : CompOk F scope cl ρ ρf) (C : Addr) : ROk n T (cfrm scope cl F C) :=
  ⟨c.kind, O.glob, O.bltn, O.room, O.le0⟩

theorem lk_append {a b : List (Nm × D)} {x : Nm} {d : D} (h : lk (a ++ b) x = some d) : lk a x = some d ∨ (lk a x = none ∧ lk b x = some d) := by
  induction a with
  | nil => exact .inr ⟨rfl, h⟩
  | cons p r ih =>
    obtain ⟨y, e⟩ := p
    by_cases hx : x = y
    · have h' : some e = some d := by rw [← h]; show _ = lk ((y, e) :: (r ++ b)) x; unfold lk; rw [if_pos hx]
      exact .inl (by unfold lk; rw [if_pos hx]; exact h')
    · have h' : lk (r ++ b) x = some d := by rw [← h]; show _ = lk ((y, e) :: (r ++ b)) x; rw [lk, if_neg hx]
      rcases ih h' with q | ⟨q1, q2⟩
      · exact .inl (by unfold lk; rw [if_neg hx]; exact q)
      · exact .inr ⟨by unfold lk; rw [if_neg hx]; exact q1, q2⟩

/-- the block's frame, in a heap that keeps the outer one's -/
theorem Inv.comp {F : Frm} {ρ ρf bs : List (Nm × D)} {scope : Scope} {cl : List (Str × Addr)} {h h' : Heap} {C : Addr} {m₂ : Str → Option Value} (c : CompOk F scope cl ρ ρf) (I : Inv F ρ [] h) (k : Le h h')
    (hn : h'.Ns C m₂) (hb : ∀ y d, lk bs y = some d → scope.names.lookup y.s = some .local ∧ ∃ u, m₂ y.s = some u ∧ Rep (fun _ => True) h' u d) : Inv (cfrm scope cl F C) (bs ++ ρf) [] h' := by
  obtain ⟨a, m, cm, adr, b, cc, _, e⟩ := I
  refine ⟨a.trans k, m₂, cm, adr, hn, fun n x q => (cc n x (c.sub n x q)).keeps k, fun _ hy => (nomatch hy), fun x d q => ?_⟩
  rcases lk_append q with q | ⟨_, q⟩
  · obtain ⟨hl, u, hu, hr⟩ := hb x d q
    exact ⟨u, .loc (lookup_relabel_local hl) hu, hr.mono (fun _ _ y hy => nomatch hy), fun z => nomatch z⟩
  · obtain ⟨q1, q2, q3, x1, q4⟩ := c.free x d q
    obtain ⟨v, hv, hr, _⟩ := e x d q1
    cases hv with
    | loc hk _ => rw [q2] at hk; cases hk
    | cell c' hk hc hv => exact ⟨v, .cell x1 q3 q4 hv, hr.le k, fun z => nomatch z⟩

section
variable {prog : Program} {w : World} {F : Frm} {ρ ρf : List (Nm × D)} {T : TopAt} {n : Nat}

/-- where the items come from: an iterator over xs -/
structure Walk (prog : Program) (w : World) (A : Around) {α : Type} (one : α → D) (xs : List α) (h₁ : Heap) (s₂ : Shared) (I : Addr) (wr : List Addr) (St : Nat → Heap → Prop) : Prop where
  ex : ∃ fp P, Walks prog w A I fp wr xs.length P St ∧ (∀ b ∈ fp, b < s₂.heap.objs.size) ∧ ∀ i v, i < xs.length → P i v → ∃ x, xs[i]? = some x ∧ Rep (fun _ => True) h₁ v (one x)
  le : ∀ b o, h₁.get? b = some o → s₂.heap.get? b = some o ∧ b ∉ wr
  st : St 0 s₂.heap
  live : ∀ i h, St i h → ∀ b ∈ wr, ∃ o, h.get? b = some o

/-- the target takes an item -/
noncomputable def Takes (prog : Program) (w : World) (A : Around) {α : Type} (one : α → D) (target : Expr) (env : Addr → Env) (C : Addr) (I : Addr) (St : Nat → Heap → Prop) (names : List (Str × NameKind)) (binds : α → List (Nm × D)) : Prop :=
  ∀ (i : Nat) (x : α) (v : Value) (s : Shared) m, Rep (fun _ => True) s.heap v (one x) → s.heap.Ns C m → St i s.heap →
    wpAny (model prog w) A (letOwnedTupleGo target (.ref I) v) (fun _ s₁ => wpAny (model prog w) A (assign target (env C) v) (fun _ s₂ =>
      ∃ h m' tk, s₂ = { s with heap := h, toks := tk } ∧ h.Ns C m' ∧ (∀ b o, b ≠ C → s.heap.get? b = some o → h.get? b = some o) ∧
        ∀ y d, lk (binds x) y = some d → names.lookup y.s = some .local ∧ ∃ u, m' y.s = some u ∧ Rep (fun _ => True) h u d) (fun _ _ => False) s₁) (fun _ _ => False) s

/-- between the turns of a comprehension's loop: i items are through, ys is what they gave -/
inductive CompAt {α β : Type} (kd : Kd β) (p : α → Bool) (g : α → β) (xs : List α) (s₂ : Shared) (D C : Addr) (wr : List Addr) (St : Nat → Heap → Prop) (k : Nat) (s' : Shared) : Prop
  | mk (h' : Heap) (tk : Nat) (m' : Str → Option Value) (i : Nat) (ys : List Value) (e : s' = { s₂ with heap := h', toks := tk }) (st : St i h') (acc : h'.PlainList D ys.toArray) (ns : h'.Ns C m')
    (pr : Paired (fun v b => Rep (fun a => s₂.heap.get? a = none ∧ a ≠ C ∧ a ≠ D ∧ a ∉ wr) h' v (kd.one b)) ys (((xs.take i).filter p).map g)) (le : i ≤ xs.length) (ek : k = xs.length + 1 - i)
    (up : ∀ b o, b ∉ wr → s₂.heap.get? b = some o → h'.get? b = some o)

theorem comp_block {α β : Type} {one : α → D} {kd : Kd β} {xs : List α} {elt target iter : Expr} {ifs : List Expr} {scope : Scope} {cl : List (Str × Addr)} {pos : Pos} {h₁ : Heap} {s₂ : Shared} {I : Addr} {wr : List Addr} {St : Nat → Heap → Prop}
    {binds : α → List (Nm × D)} {E : Value → Shared → Prop} (c : CompOk F scope cl ρ ρf) (J : Inv F ρ [] h₁) (W : Walk prog w F.A one xs h₁ s₂ I wr St) (hsz : xs.length ≤ 1000) (p : α → Bool) (g : α → β) {RR : Value → Addr → Result → Shared → Prop}
    (ht : ∀ C, Takes prog w F.A one target (cenv scope cl F) C I St scope.names binds)
    (htest : ∀ x ∈ xs, ∀ C s, Inv (cfrm scope cl F C) (binds x ++ ρf) [] s.heap →
      wpAny (model prog w) F.A (forIn ifs true fun c r => if r = true then do let ok ← isTrue c (cenv scope cl F C) (eval c (cenv scope cl F C)); pure (ForInStep.yield ok) else pure (ForInStep.yield r)) (fun ok s' => Keeps s s' ∧ ok = p x) (fun _ _ => False) s)
    (helt : ∀ x ∈ xs, p x = true → ∀ C, EvN prog w (cfrm scope cl F C) (binds x ++ ρf) elt (kd.one (g x)))
    (hRR : ∀ D C h' tk m', s₂.heap.get? D = none → s₂.heap.get? C = none → D ≠ C → h'.Ns C m' → ∀ vs : List Value, h'.PlainList D vs.toArray → Paired (fun v b => Rep (fun a => s₂.heap.get? a = none ∧ a ≠ C) h' v (kd.one b)) vs ((xs.filter p).map g) →
      (∀ b o, b ∉ wr → s₂.heap.get? b = some o → h'.get? b = some o) → RR (.ref D) C (.ok .next) { s₂ with heap := h', toks := tk }) :
    wpAny (model prog w) F.A (newList []) (fun acc s₃ => wpAny (model prog w) F.A (newFunctionEnv scope F.env.globals cl [] F.env.qual none .none (some F.env)) (fun ce s₄ =>
      codeAny (model prog w) F.A (.compStart (.ListComp elt [⟨target, iter, ifs, 0⟩] scope pos) 0 (.ref I) acc { ce with scope := relabel scope F.env }) (RR acc ce.locals) s₄) E s₃) E s₂ := by
  obtain ⟨⟨fp, P, Wk, hfp, hP⟩, hle, hst, hlive⟩ := W
  refine wpAny_newObj_type (wpAny_newFunctionEnv c.nocell (by intro y hy; simp at hy) (fun h₁' hns₁ hsb₁ => ?_) c.kind)
  dsimp only at hns₁ hsb₁ ⊢
  generalize hH2 : s₂.heap.push { cls := .type "list", dict := none, data := .seq ([] : List Value).toArray } = H2 at hns₁ hsb₁ ⊢
  have hC : H2.objs.size = s₂.heap.objs.size + 1 := by rw [← hH2, Heap.size_push]
  have hDC : s₂.heap.objs.size ≠ H2.objs.size := by rw [hC]; exact Nat.ne_of_lt (Nat.lt_succ_self _)
  have below : ∀ b, b < s₂.heap.objs.size → b ≠ H2.objs.size ∧ b ≠ s₂.heap.objs.size := fun b hb => ⟨by rw [hC]; exact Nat.ne_of_lt (Nat.lt_succ_of_lt hb), Nat.ne_of_lt hb⟩
  have hDf : s₂.heap.objs.size ∉ fp := fun hm => Nat.lt_irrefl _ (hfp _ hm)
  have hCf : H2.objs.size ∉ fp := fun hm => by have := hfp _ hm; rw [hC] at this; exact Nat.lt_irrefl _ (Nat.lt_of_succ_lt this)
  have hCw : H2.objs.size ∉ wr := fun h => hCf (Wk.sub _ h)
  have hDw : s₂.heap.objs.size ∉ wr := fun h => hDf (Wk.sub _ h)
  have old : ∀ b o, s₂.heap.get? b = some o → h₁'.get? b = some o := fun b o e => hsb₁.extBut b o (below b (Heap.lt_size e)).1 (Heap.get?_push_of_some _ (hH2 ▸ Heap.get?_push_of_some _ e))
  have hacc : h₁'.PlainList s₂.heap.objs.size ([] : List Value).toArray := ⟨_, hsb₁.extBut _ _ hDC (Heap.get?_push_of_some _ (hH2 ▸ Heap.get?_push_size _ rfl))⟩
  have hst₁ : St 0 h₁' := Wk.frame _ _ _ hst fun b _ o e => old b o e
  have freshD : s₂.heap.get? s₂.heap.objs.size = none := none_size _
  have freshC : s₂.heap.get? H2.objs.size = none := by rw [hC]; exact none_size1 _
  generalize hD : s₂.heap.objs.size = D at *
  generalize hCC : H2.objs.size = C at *
  have hCold : h₁.get? C = none := none_of_le (fun b o e => (hle b o e).1) freshC
  have hDold : h₁.get? D = none := none_of_le (fun b o e => (hle b o e).1) freshD
  -- the loop
  have loop : ∀ s₃ : Shared, s₃ = { s₂ with heap := h₁', toks := s₂.toks + ([] : List (Str × Value)).length } →
      codeAny (model prog w) F.A (.compLoop (.ListComp elt [⟨target, iter, ifs, 0⟩] scope pos) 0 (.ref I) (.ref D) (cenv scope cl F C)) (RR (.ref D) C) s₃ := by
    rintro s₃ rfl
    refine compLoop_any (CompAt kd p g xs s₂ D C wr St) ?_ (xs.length + 1)
      ⟨h₁', _, _, 0, [], rfl, hst₁, hacc, hns₁, by simpa using Paired.nil, Nat.zero_le _, rfl, fun b o _ e => old b o e⟩
    rintro k s' ⟨H, tk, m', i, ys, rfl, hst', hacc', hn', hF, hi, rfl, hk⟩
    by_cases hlt : i < xs.length
    · refine Wk.item i _ _ _ hlt hst' fun v h₂ tk₂ hPv hst₂ hk₂ => ?_
      obtain ⟨x, hx, hv⟩ := hP i v hlt hPv
      have hmem : x ∈ xs := List.mem_of_getElem? hx
      have up : ∀ b o, h₁.get? b = some o → h₂.get? b = some o := fun b o e => hk₂ b o (hle b o e).2 (hk b o (hle b o e).2 (hle b o e).1)
      have hn₂ : h₂.Ns C m' := hn'.at fun o e => hk₂ C o hCw e
      have hacc₂ : h₂.PlainList D ys.toArray := by obtain ⟨q, e⟩ := hacc'; exact ⟨q, hk₂ D _ hDw e⟩
      refine wpAny_mono (ht C (i + 1) x v { s₂ with heap := h₂, toks := tk₂ } m' (hv.le up) hn₂ hst₂) (fun _ s₄ h₄ => wpAny_mono h₄ ?_ fun _ _ e => e) fun _ _ e => e
      rintro _ s₅ ⟨h₅, m₅, tk₅, rfl, hn₅, hk₅, hb₅⟩
      have up₅ : ∀ b o, h₁.get? b = some o → h₅.get? b = some o := fun b o e => hk₅ b o (ne_of_none hCold e) (up b o e)
      have J₅ : Inv (cfrm scope cl F C) (binds x ++ ρf) [] h₅ := Inv.comp c J up₅ hn₅ hb₅
      refine wpAny_mono (htest x hmem C { s₂ with heap := h₅, toks := tk₅ } J₅) ?_ fun _ _ e => e
      rintro ok s₆ ⟨⟨h₆, tk₆, rfl, hk₆⟩, rfl⟩
      have J₆ := J₅.le hk₆
      have step : ∀ b o, b ≠ C → b ≠ D → b ∉ wr → H.get? b = some o → h₆.get? b = some o := fun b o h1 h2 h3 e => hk₆ b o (hk₅ b o h1 (hk₂ b o h3 e))
      have hst₆ : St (i + 1) h₆ := Wk.frame _ _ _ (Wk.frame _ _ h₅ hst₂ fun b hb o e => hk₅ b o (fun h => hCf (h ▸ hb)) e) fun b _ o e => hk₆ b o e
      have hacc₆ : h₆.PlainList D ys.toArray := by obtain ⟨q, e⟩ := hacc₂; exact ⟨q, hk₆ D _ (hk₅ D _ hDC e)⟩
      have hn₆ := hn₅.keeps hk₆
      have hk₆' : ∀ b o, b ∉ wr → s₂.heap.get? b = some o → h₆.get? b = some o := fun b o h1 e => hk₆ b o (hk₅ b o (ne_of_none freshC e) (hk₂ b o h1 (hk b o h1 e)))
      have hF₆ : Paired (fun v b => Rep (fun a => s₂.heap.get? a = none ∧ a ≠ C ∧ a ≠ D ∧ a ∉ wr) h₆ v (kd.one b)) ys (((xs.take i).filter p).map g) :=
        paired_mono (fun _ _ r => r.to fun b o hp e => ⟨step b o hp.2.1 hp.2.2.1 hp.2.2.2 e, hp⟩) hF
      cases hpx : p x with
      | false =>
        simp only [Bool.false_eq_true, if_false]
        refine ⟨xs.length + 1 - (i + 1), by omega, h₆, tk₆, m₅, i + 1, ys, rfl, hst₆, hacc₆, hn₆, ?_, hlt, rfl, hk₆'⟩
        rw [take_succ_filter p xs i x hx, hpx]; simpa using hF₆
      | true =>
        simp only [if_true]
        refine wpAny_mono ((helt x hmem hpx C).run { s₂ with heap := h₆, toks := tk₆ } J₆) ?_ fun _ _ e => e
        rintro y s₇ ⟨⟨h₇, tk₇, rfl, hk₇⟩, hy⟩
        have hys : ys.toArray.size ≤ sizeLine := by
          have e1 := hF.length
          have e2 : ((xs.take i).filter p).length ≤ (xs.take i).length := List.length_filter_le _ _
          have e3 : (xs.take i).length ≤ xs.length := by rw [List.length_take]; omega
          rw [List.length_map] at e1
          rw [List.size_toArray]
          exact Nat.le_trans (by omega : ys.length ≤ 1000) (by decide)
        have hacc₇ : h₇.PlainList D ys.toArray := by obtain ⟨q, e⟩ := hacc₆; exact ⟨q, hk₇ D _ e⟩
        refine wpAny_list_append_plain (hsz := hys) hacc₇ fun h₈ hl₈ hs₈ => ?_
        refine ⟨xs.length + 1 - (i + 1), by omega, h₈, tk₇, m₅, i + 1, ys ++ [y], rfl, ?_, by simpa using hl₈, (hn₆.keeps hk₇).sameBut hs₈ (Ne.symm hDC), ?_, hlt, rfl, fun b o h1 e => hs₈.extBut b o (ne_of_none freshD e) (hk₇ b o (hk₆' b o h1 e))⟩
        · exact Wk.frame _ _ _ hst₆ fun b hb o e => hs₈.extBut b o (fun h => hDf (h ▸ hb)) (hk₇ b o e)
        · rw [take_succ_filter p xs i x hx, hpx, List.map_append]
          refine Paired.snoc (paired_mono (fun _ _ r => r.to fun b o hp e => ⟨hs₈.extBut b o hp.2.2.1 (hk₇ b o e), hp⟩) hF₆) ?_
          have hDlive : ∃ o, h₆.get? D = some o := by obtain ⟨q, e⟩ := hacc₆; exact ⟨_, e⟩
          have hClive : ∃ o, h₆.get? C = some o := by obtain ⟨o, _, _, e, _⟩ := hn₆; exact ⟨o, e⟩
          refine hy.to fun b o hp e => ?_
          have hp : h₆.get? b = none := hp
          have hbw : b ∉ wr := fun hbw => by obtain ⟨o', e'⟩ := hlive _ _ hst₆ b hbw; rw [hp] at e'; cases e'
          have hbC : b ≠ C := (ne_of_none hp hClive.choose_spec).symm
          have hbD : b ≠ D := (ne_of_none hp hDlive.choose_spec).symm
          have hbn : s₂.heap.get? b = none := by
            cases q : s₂.heap.get? b with
            | none => rfl
            | some o' => rw [hk₆' b o' hbw q] at hp; cases hp
          exact ⟨hs₈.extBut b o hbD e, hbn, hbC, hbD, hbw⟩
    · have hin : i = xs.length := by omega
      refine Wk.done _ _ _ (hin ▸ hst') fun h₂ tk₂ hk₂ => ?_
      refine hRR D C h₂ tk₂ m' freshD freshC hDC (hn'.at fun o e => hk₂ C o hCw e) ys (by obtain ⟨q, e⟩ := hacc'; exact ⟨q, hk₂ D _ hDw e⟩) ?_ fun b o h1 e => hk₂ b o h1 (hk b o h1 e)
      rw [hin, List.take_of_length_le (Nat.le_refl _)] at hF
      exact paired_mono (fun _ _ r => r.to fun b o hp e => ⟨hk₂ b o hp.2.2.2 e, hp.1, hp.2.1⟩) hF
  exact codeAny_compStart_list (loop _ rfl) (Wk.self 0 _ _ _ hst₁ (loop _ rfl))
end
end Mine
namespace Mine

section
variable {prog : Program} {w : World} {F : Frm} {ρ ρf : List (Nm × D)} {T : TopAt} {n : Nat}

/-- the source: evaluated, then asked for its iterator -/
noncomputable def Src (prog : Program) (w : World) (F : Frm) (ρ : List (Nm × D)) {α : Type} (one : α → D) (lst : Bool) (iter : Expr) (xs : List α) : Prop :=
  ∀ s, Inv F ρ [] s.heap → wpAny (model prog w) F.A (eval iter F.env) (fun xv s₁ => Keeps s s₁ ∧ wpAny (model prog w) F.A (pyIter xv) (fun it s₂ => Keeps s₁ s₂ ∧
    ∃ I wr St, it = .ref I ∧ Walk prog w F.A one xs s₁.heap s₂ I wr St ∧ (∀ b ∈ wr, s₁.heap.get? b = none) ∧ (lst = true → ∀ i h, St i h → ∃ l k, h.IsListIter I l k)) (fun _ _ => False) s₁) (fun _ _ => False) s

theorem Src.list {α : Type} (kd : Kd α) {iter : Expr} {xs : List α} (O : ROk n T F) (h : Ev prog w F ρ iter (kd.many xs)) : Src prog w F ρ kd.one true iter xs := by
  intro s I
  refine wpAny_mono (h.run s I) ?_ fun _ _ x => x
  rintro xv s₁ ⟨k1, r1⟩
  refine ⟨k1, ?_⟩
  obtain ⟨a, vs, rfl, _, hl, hp⟩ := kd.un _ _ _ _ r1
  refine wpAny_pyIter_list hl.isList ⟨keeps_heap (le_push _), ?_⟩
  have ha : a < s₁.heap.objs.size := by obtain ⟨_, e⟩ := hl; exact Heap.lt_size e
  have hlen : vs.toArray.size = xs.length := by rw [List.size_toArray, hp.length]
  have Wk := Walks.list (prog := prog) (w := w) (A := F.A) O.room.hh s₁.heap.objs.size a (Nat.ne_of_lt ha) vs.toArray
  rw [hlen] at Wk
  refine ⟨s₁.heap.objs.size, [s₁.heap.objs.size], _, rfl, ⟨⟨_, _, Wk, ?_, ?_⟩, ?_, ⟨⟨_, Heap.get?_push_size _ rfl, rfl, rfl⟩, hl.isList.push _⟩, ?_⟩, ?_, fun _ i h st => ⟨a, i, st.1⟩⟩
  · intro b hb
    show b < (s₁.heap.push _).objs.size
    rw [Heap.size_push]
    rcases List.mem_cons.mp hb with rfl | hb
    · exact Nat.lt_succ_self _
    · rcases List.mem_cons.mp hb with rfl | hb
      · exact Nat.lt_succ_of_lt ha
      · cases hb
  · intro i v hi hv
    have hv' : vs[i]? = some v := by simpa using hv
    rcases paired_getElem? hp i with ⟨e, _⟩ | ⟨v', x, e1, e2, e3⟩
    · rw [e] at hv'; cases hv'
    · rw [e1] at hv'; cases hv'; exact ⟨x, e2, e3⟩
  · intro b o e
    refine ⟨Heap.get?_push_of_some _ e, fun hb => ?_⟩
    rw [List.mem_singleton.mp hb] at e
    exact absurd (Heap.lt_size e) (Nat.lt_irrefl _)
  · intro i h st b hb
    rw [List.mem_singleton.mp hb]
    obtain ⟨⟨o, e, _⟩, _⟩ := st
    exact ⟨o, e⟩
  · intro b hb
    rw [List.mem_singleton.mp hb]
    exact none_size _

noncomputable def rng (k : Int) : List Int := (List.range k.toNat).map (fun (i : Nat) => (i : Int))
theorem rng_length (k : Int) : (rng k).length = k.toNat := by simp [rng]
theorem rng_get {k : Int} {i : Nat} (h : i < k.toNat) : (rng k)[i]? = some (i : Int) := by simp [rng, h]
theorem mem_rng {k x : Int} : x ∈ rng k ↔ 0 ≤ x ∧ x < k := by
  unfold rng
  rw [List.mem_map]
  constructor
  · rintro ⟨a, ha, rfl⟩
    have := List.mem_range.mp ha
    omega
  · intro h
    exact ⟨x.toNat, List.mem_range.mpr (by omega), by omega⟩

/-- range(e) -/
theorem range_eval {e : Expr} {npos pos : Pos} {k : Int} (O : ROk n T F) (hr : Ev prog w F ρ (.Name (Str.ofString "range") npos) (.val (.type "range"))) (he : Ev prog w F ρ e (DI k)) (hs : ∀ rest, starEach (e :: rest) F.env = (false, eval e F.env) :: starEach rest F.env)
    {s : Shared} (I : Inv F ρ [] s.heap) : wpAny (model prog w) F.A (eval (.Call (.Name (Str.ofString "range") npos) [e] [] pos) F.env) (fun v s' => Keeps s s' ∧ ∃ r t u x, v = .ref r ∧ IsRange s'.heap r 0 k 1 t u x) (fun _ _ => False) s := by
  refine wpAny_Call_ofName (wpAny_mono (hr.run s I) ?_ fun _ _ x => x)
  rintro _ s1 ⟨k1, rfl⟩
  have p : EvAll prog w F ρ [e] [DI k] := .cons he hs .nil
  refine callWith_of (P := fun h => Le T.h0 h) (by rw [p.plain]; rfl) (Kpr.type (T := T)) ?_
  have hev := p.eval (pos := pos) (I.le (keeps_le k1))
  rw [hs] at hev ⊢
  refine Calls.evalArgs_plain (wpAny_mono hev ?_ fun _ _ x => x)
  rintro vs s2 ⟨k2, r2⟩
  obtain ⟨_, rfl, t, rfl⟩ := pair1 r2
  refine ⟨O.le0.trans (I.1.trans ((keeps_le k1).trans (keeps_le k2))), call_range_1 ⟨keeps_trans k1 (keeps_trans k2 (keeps_heap (le_push _))), _, _, _, _, rfl, Heap.get?_push_size _ rfl⟩⟩

theorem walk_range {A : Around} (hh : A.handled = none) {s₁ : Shared} {k : Int} (hk : k < 2 ^ 62) :
    Walk prog w A DI (rng k) s₁.heap { s₁ with heap := s₁.heap.push { cls := .type "range_iterator", data := .fields #[rawInt 0, rawInt (Builtin.Range.rangeSize 0 k 1), rawInt 1] } } s₁.heap.objs.size [s₁.heap.objs.size]
      (fun i h => IsRangeIter h s₁.heap.objs.size (0 + (i : Int) * 1) ((k.toNat : Int) - (i : Int)) 1) := by
  have Wk : Walks prog w A s₁.heap.objs.size [s₁.heap.objs.size] [s₁.heap.objs.size] k.toNat (fun i v => i < k.toNat ∧ ∃ t, v = .int (0 + (i : Int) * 1) t)
      (fun i h => IsRangeIter h s₁.heap.objs.size (0 + (i : Int) * 1) ((k.toNat : Int) - (i : Int)) 1) := (Walks.range hh _ 0 1 k.toNat).bound
  have hsz : Builtin.Range.rangeSize 0 k 1 = (k.toNat : Int) := by
    rw [rangeSize_one]
    split <;> omega
  refine ⟨⟨_, _, by rw [rng_length]; exact Wk, ?_, ?_⟩, ?_, ?_, ?_⟩
  · intro b hb
    rw [List.mem_singleton.mp hb]
    show s₁.heap.objs.size < (s₁.heap.push _).objs.size
    rw [Heap.size_push]
    exact Nat.lt_succ_self _
  · rintro i v hi ⟨h1, t, rfl⟩
    refine ⟨(i : Int), rng_get h1, t, ?_⟩
    rw [Int.zero_add, Int.mul_one]
  · intro b o e
    refine ⟨Heap.get?_push_of_some _ e, fun hb => ?_⟩
    rw [List.mem_singleton.mp hb] at e
    exact absurd (Heap.lt_size e) (Nat.lt_irrefl _)
  · show IsRangeIter _ _ _ _ _
    rw [hsz]
    simpa using Heap.get?_push_size _ rfl
  · intro i h st b hb
    rw [List.mem_singleton.mp hb]
    exact ⟨_, st⟩

theorem Src.range {e : Expr} {npos pos : Pos} {k : Int} (O : ROk n T F) (hr : Ev prog w F ρ (.Name (Str.ofString "range") npos) (.val (.type "range"))) (he : Ev prog w F ρ e (DI k)) (h0 : -(2 ^ 62) ≤ k) (h1 : k < 2 ^ 62)
    (hs : ∀ rest, starEach (e :: rest) F.env = (false, eval e F.env) :: starEach rest F.env := by intro _; rfl) : Src prog w F ρ DI false (.Call (.Name (Str.ofString "range") npos) [e] [] pos) (rng k) := by
  intro s I
  refine wpAny_mono (range_eval O hr he hs I) ?_ fun _ _ x => x
  rintro _ s₁ ⟨k1, r, t, u, x, rfl, hR⟩
  refine ⟨k1, wpAny_pyIter_range hR (small_one (by decide) (by decide) h0 h1) ⟨keeps_heap (le_push _), _, _, _, rfl, walk_range O.room.hh h1, ?_, fun q => nomatch q⟩⟩
  intro b hb
  rw [List.mem_singleton.mp hb]
  exact none_size _

/-- the target -/
noncomputable def Tgt (prog : Program) (w : World) (F : Frm) {α : Type} (one : α → D) (lst : Bool) (target : Expr) (scope : Scope) (cl : List (Str × Addr)) (binds : α → List (Nm × D)) : Prop :=
  ∀ (I : Addr) (St : Nat → Heap → Prop) (C : Addr), (lst = true → ∀ i h, St i h → ∃ l k, h.IsListIter I l k) → Takes prog w F.A one target (cenv scope cl F) C I St scope.names binds

theorem Tgt.name {α : Type} {one : α → D} {lst : Bool} {x : Nm} {px : Pos} {scope : Scope} {cl : List (Str × Addr)} (hx : scope.names.lookup x.s = some .local) (hk : scope.kind = .function) :
    Tgt prog w F one lst (.Name x.s px) scope cl (fun a => [(x, one a)]) := by
  intro I St C _ i a v s m r hn _
  refine wpAny_of_eq (a := ()) rfl ?_
  refine wpAny_assign_Name (wpAny_storeName_local (env := cenv scope cl F C) (lookup_relabel_local hx) hn (fun h' hn' hs' => ?_) (by show (scope.kind == .class || (scope.kind == .module && _)) = false; rw [hk]; rfl))
  refine ⟨h', _, _, rfl, hn', hs'.extBut, fun y d hy => ?_⟩
  unfold lk at hy
  by_cases e : y = x
  · rw [if_pos e] at hy
    cases hy
    subst e
    exact ⟨hx, v, if_pos rfl, r.extBut hs'.extBut (not_seq_of_ns hn)⟩
  · rw [if_neg e] at hy
    cases hy

/-- names stored one after the other in a local frame -/
theorem storeAll_local {A : Around} {env : Env} (hk : env.scope.kind = .function) (xs : List (Nm × Pos)) : ∀ (vs : List Value) (s : Shared) (m : Str → Option Value), xs.length = vs.length → (∀ p ∈ xs, env.kindOf p.1.s = some .local) → s.heap.Ns env.locals m →
    wpAny (model prog w) A (assignInOrder (xs.map fun p => assign (.Name p.1.s p.2) env) vs) (fun _ s' => ∃ h tk m', s' = { s with heap := h, toks := tk } ∧ h.Ns env.locals m' ∧ Heap.SameBut env.locals s.heap h ∧
      ∀ z, m' z = (((xs.map (·.1.s)).zip vs).reverse.lookup z).or (m z)) (fun _ _ => False) s := by
  induction xs with
  | nil =>
    intro vs s m hl _ hn
    cases vs with
    | cons v vs => cases hl
    | nil => exact wpAny_assignInOrder_none ⟨s.heap, s.toks, m, rfl, hn, Heap.SameBut.refl _ _, fun _ => rfl⟩
  | cons q xs ih =>
    intro vs s m hl hloc hn
    obtain ⟨x, p⟩ := q
    cases vs with
    | nil => cases hl
    | cons v vs =>
      refine wpAny_assignInOrder_more (wpAny_assign_Name (wpAny_storeName_local (hloc (x, p) (.head _)) hn (fun h' hn' hs' => ?_) (by rw [hk]; rfl)))
      have := ih vs { s with heap := h', toks := s.toks + 1 } _ (by simpa using hl) (fun q hq => hloc q (.tail _ hq)) hn'
      refine wpAny_mono this ?_ fun _ _ x => x
      rintro _ s' ⟨h, tk, m', rfl, hn2, hs2, hm⟩
      refine ⟨h, tk, m', rfl, hn2, hs'.trans hs2, fun z => ?_⟩
      rw [hm z]
      simp only [List.map_cons, List.zip_cons_cons, List.reverse_cons, List.lookup_append, List.lookup_cons, List.lookup_nil]
      cases hz : (((xs.map (·.1.s)).zip vs).reverse.lookup z) with
      | some q => simp
      | none =>
        by_cases e : z = x.s
        · subst e; simp
        · have e' : (z == x.s) = false := by simpa using e
          simp [e, e']

/-- what a tuple of atoms gives to a row of names -/
noncomputable def bindA : List Nm → List At → List (Nm × D)
  | x :: xs, a :: as => (x, .at a) :: bindA xs as
  | _, _ => []
theorem lk_bindA {m' : Str → Option Value} : ∀ {xs : List Nm} {as : List At} {vs : List Value}, xs.Nodup → Paired AtRep vs as → xs.length = vs.length → (∀ z, z ∈ xs.map Nm.s → m' z = (((xs.map Nm.s).zip vs).lookup z)) →
    ∀ y d, lk (bindA xs as) y = some d → y ∈ xs ∧ ∃ a u, d = .at a ∧ m' y.s = some u ∧ AtRep u a
  | [], _, _, _, _, _, _, _, _, h => by cases h
  | _ :: _, [], _, _, _, _, _, _, _, h => by cases h
  | x :: xs, a :: as, v :: vs, hnd, .cons r t, hl, hm, y, d, h => by
    unfold bindA lk at h
    by_cases e : y = x
    · rw [if_pos e] at h
      cases h
      subst e
      refine ⟨.head _, a, v, rfl, ?_, r⟩
      rw [hm _ (by simp)]
      simp
    · rw [if_neg e] at h
      obtain ⟨hx, hnd'⟩ := List.nodup_cons.mp hnd
      have hm' : ∀ z, z ∈ xs.map Nm.s → m' z = (((xs.map Nm.s).zip vs).lookup z) := fun z hz => by
        rw [hm z (by simp only [List.map_cons]; exact .tail _ hz)]
        simp only [List.map_cons, List.zip_cons_cons, List.lookup_cons]
        have hne : (z == x.s) = false := by
          cases q : z == x.s with
          | false => rfl
          | true =>
            obtain ⟨y', hy', e'⟩ := List.mem_map.mp hz
            have : y' = x := Nm.inj (e'.trans (eq_of_beq q))
            exact absurd (this ▸ hy') hx
        rw [hne]
      obtain ⟨h1, h2⟩ := lk_bindA hnd' t (by simpa using hl) hm' y d h
      exact ⟨.tail _ h1, h2⟩

theorem lookup_reverse_nodup {α : Type} : ∀ {l : List (Str × α)}, (l.map (·.1)).Nodup → ∀ z, l.reverse.lookup z = l.lookup z
  | [], _, _ => rfl
  | (x, v) :: r, h, z => by
    obtain ⟨h1, h2⟩ := List.nodup_cons.mp h
    rw [List.reverse_cons, List.lookup_append, lookup_reverse_nodup h2, List.lookup_cons]
    by_cases e : z = x
    · subst e
      have : r.lookup z = none := by
        cases q : r.lookup z with
        | none => rfl
        | some b => exact absurd (List.mem_map.mpr ⟨(z, b), mem_of_lookup q, rfl⟩) h1
      rw [this]; simp
    · have e' : (z == x) = false := by simpa using e
      rw [e']
      simp [List.lookup_cons, e']

theorem Tgt.tuple {names : List (Nm × Pos)} {kk : Nat} {pos : Pos} {scope : Scope} {cl : List (Str × Addr)} (O : ROk n T F) (k : Nat) (hl : names.length = k) (hnd : (names.map (·.1)).Nodup) (hx : ∀ p ∈ names, scope.names.lookup p.1.s = some .local) (hk : scope.kind = .function)
    (Q : α → List At) (hQ : ∀ x, (Q x).length = k) : Tgt prog w F (fun x => D.tup (Q x)) true (.Tuple (names.map fun p => .Name p.1.s p.2) kk pos) scope cl (fun x => bindA (names.map (·.1)) (Q x)) := by
  intro I St C hst i x v s m r hn hs
  obtain ⟨t, vs, rfl, _, ht, hp⟩ := r
  obtain ⟨l, j, hli⟩ := hst rfl i _ hs
  refine wpAny_letOwnedTupleGo_listiter hli ?_
  have hlen : vs.length = k := by rw [hp.length, hQ]
  have hae : ∀ ns : List (Nm × Pos), assignEach (ns.map fun p => .Name p.1.s p.2) (cenv scope cl F C) = ns.map fun p => (false, assign (.Name p.1.s p.2) (cenv scope cl F C)) := by
    intro ns
    induction ns with
    | nil => rfl
    | cons p r ih => simp only [List.map_cons]; show (false, _) :: assignEach _ _ = _; rw [ih]
  have hCs : C ≠ s.heap.objs.size := fun e => Nat.lt_irrefl _ (e ▸ hn.lt)
  refine wpAny_assign_Tuple O.room.hh ht (by rw [hae]; simp [hl, hlen]) (by rw [hae]; clear hx hnd hl hae; induction names with | nil => rfl | cons p r ih => simp [List.findIdx?_cons]) fun h' hx' => ?_
  rw [hae, List.map_map]
  have hn' : h'.Ns C m := hn.extBut hx' hCs
  have heq : ((fun x => x.2) ∘ fun p : Nm × Pos => (false, assign (.Name p.1.s p.2) (cenv scope cl F C))) = fun p => assign (.Name p.1.s p.2) (cenv scope cl F C) := rfl
  rw [heq]
  refine wpAny_mono (storeAll_local (prog := prog) (w := w) (env := cenv scope cl F C) hk names vs.toArray.toList { s with heap := h' } m (by simp [hl, hlen]) (fun p hp => lookup_relabel_local (hx p hp)) hn') ?_ fun _ _ x => x
  rintro _ s' ⟨h, tk, m', rfl, hn2, hs2, hm⟩
  refine ⟨h, m', tk, rfl, hn2, fun b o hb e => ?_, fun y d hy => ?_⟩
  · refine hs2.extBut b o hb (hx' b o ?_ e)
    rintro rfl
    exact absurd (Heap.lt_size e) (Nat.lt_irrefl _)
  · have hnd2 : ((((names.map (·.1.s)).zip vs).map (·.1))).Nodup := by
      rw [List.map_fst_zip (by simp [hl, hlen])]
      have : names.map (fun p => p.1.s) = (names.map (·.1)).map Nm.s := by rw [List.map_map]; rfl
      rw [this]
      exact List.pairwise_map.mpr (List.Pairwise.imp (fun h e => h (Nm.inj e)) hnd)
    obtain ⟨hy1, a, u, rfl, hu, ha⟩ := lk_bindA (m' := m') (xs := names.map (·.1)) hnd hp (by simp [hl, hlen]) (fun z hz => by
      rw [hm z]
      have e1 : vs.toArray.toList = vs := rfl
      rw [e1, lookup_reverse_nodup hnd2]
      have e2 : names.map (fun p => p.1.s) = (names.map (·.1)).map Nm.s := by rw [List.map_map]; rfl
      rw [e2]
      have hz' : z ∈ (((names.map (·.1)).map Nm.s).zip vs).map (·.1) := by rw [List.map_fst_zip (by simp [hl, hlen])]; exact hz
      obtain ⟨q, hq1, hq2⟩ := List.mem_map.mp hz'
      cases hlk : List.lookup z (((names.map (·.1)).map Nm.s).zip vs) with
      | some b => rfl
      | none =>
        have := List.lookup_eq_none_iff.mp hlk q hq1
        simp [hq2] at this) y d hy
    obtain ⟨p, hp1, rfl⟩ := List.mem_map.mp hy1
    exact ⟨hx p hp1, u, hu, ha⟩
end
end Mine
namespace Mine

/-- objects of fields (iterators, exceptions) stand -/
noncomputable def FK (h h' : Heap) : Prop := ∀ b o vs, h.get? b = some o → o.data = .fields vs → h'.get? b = some o
theorem FK.refl (h : Heap) : FK h h := fun _ _ _ e _ => e
theorem FK.trans {a b c : Heap} (x : FK a b) (y : FK b c) : FK a c := fun d o vs e q => y d o vs (x d o vs e q) q
theorem FK.of {a b : Heap} (x : Le a b) : FK a b := fun d o _ e _ => x d o e
theorem FK.ns {h h' : Heap} {a : Addr} {m : Str → Option Value} (hs : Heap.ExtBut a h h') (n : h.Ns a m) : FK h h' := fun b o vs e q => hs b o (by
  rintro rfl
  obtain ⟨o', es, ep, ho', hd', _⟩ := n
  rw [e] at ho'; cases ho'; rw [q] at hd'; cases hd') e
theorem FK.cell {h h' : Heap} {a : Addr} {v : Option Value} (hs : Heap.ExtBut a h h') (n : h.IsCell a v) : FK h h' := fun b o vs e q => hs b o (by
  rintro rfl
  obtain ⟨o', ho', hd'⟩ := n
  rw [e] at ho'; cases ho'; rw [q] at hd'; cases hd') e
theorem FK.seq {h h' : Heap} {a : Addr} (hs : Heap.ExtBut a h h') (n : SeqAt h a) : FK h h' := fun b o vs e q => hs b o (by
  rintro rfl
  obtain ⟨o', _, _, ho', hd'⟩ := n
  rw [e] at ho'; cases ho'; rw [q] at hd'; cases hd') e

noncomputable def SR (s s' : Shared) : Prop := (∃ h t, s' = { s with heap := h, toks := t }) ∧ FK s.heap s'.heap
theorem SR.refl (s : Shared) : SR s s := ⟨⟨s.heap, s.toks, rfl⟩, FK.refl _⟩
theorem SR.trans {a b c : Shared} (x : SR a b) (y : SR b c) : SR a c := by
  obtain ⟨⟨h, t, rfl⟩, f⟩ := x
  obtain ⟨⟨h', t', rfl⟩, f'⟩ := y
  exact ⟨⟨h', t', rfl⟩, f.trans f'⟩
theorem SR.of {a b : Shared} (x : Keeps a b) : SR a b := by
  obtain ⟨h, t, rfl, k⟩ := x
  exact ⟨⟨h, t, rfl⟩, FK.of k⟩
theorem SR.mk' {s : Shared} {h : Heap} {t : Nat} (f : FK s.heap h) : SR s { s with heap := h, toks := t } := ⟨⟨h, t, rfl⟩, f⟩

theorem cell_ne_ns {h : Heap} {c a : Addr} {v : Option Value} {m : Str → Option Value} (x : h.IsCell c v) (n : h.Ns a m) : c ≠ a := by
  rintro rfl
  obtain ⟨o, ho, hd⟩ := x
  obtain ⟨o', es, ep, ho', hd', _⟩ := n
  rw [ho] at ho'; cases ho'; rw [hd] at hd'; cases hd'

noncomputable def Bound (env : Env) (x : Nm) : Prop := env.kindOf x.s = some .local ∨ (env.kindOf x.s = some .cell ∧ ∃ c, env.cells.lookup x.s = some c)

section
variable {prog : Program} {w : World} {F : Frm} {ρ ρf : List (Nm × D)} {T : TopAt} {n : Nat} {own : List Nm}

/-- a name is stored; v's data avoid what is owned -/
theorem Inv.store0 {A : Around} {x : Nm} {v : Value} {s : Shared} {own' : List Nm} {adr' : Nm → Addr} {d : D} (S : SOk F) (hk : F.env.scope.kind = .function) (hx : Bound F.env x)
    {m cm : Str → Option Value} (hbase : Le F.base s.heap) (hns : s.heap.Ns F.env.locals m) (hcells : ∀ n c, F.env.cells.lookup n = some c → s.heap.IsCell c (cm n)) (hlive : ∀ y ∈ own', SeqAt s.heap (adr' y) ∧ F.base.get? (adr' y) = none)
    (hold : ∀ y e, y ≠ x → lk ρ y = some e → ∃ u, Has F.env m cm y.s u ∧ Rep (fun b => ∀ z ∈ own', z ≠ y → b ≠ adr' z) s.heap u e ∧ (y ∈ own' → u = .ref (adr' y)))
    (hnew : Rep (fun b => ∀ z ∈ own', z ≠ x → b ≠ adr' z) s.heap v d) (hown : x ∈ own' → v = .ref (adr' x)) :
    wpAny (model prog w) A (storeName F.env x.s v) (fun _ s' => SR s s' ∧ Inv F ((x, d) :: ρ) own' s'.heap) (fun _ _ => False) s := by
  have look : ∀ {y : Nm} {e : D}, lk ((x, d) :: ρ) y = some e → (y = x ∧ e = d) ∨ (y ≠ x ∧ lk ρ y = some e) := by
    intro y e h
    unfold lk at h
    by_cases q : y = x
    · rw [if_pos q] at h; cases h; exact .inl ⟨q, rfl⟩
    · rw [if_neg q] at h; exact .inr ⟨q, h⟩
  rcases hx with hl | ⟨hl, c, hc⟩
  · refine wpAny_storeName_local hl hns (fun h' hn' hs' => ⟨SR.mk' (FK.ns hs'.extBut hns), ?_⟩) (by rw [hk]; rfl)
    refine ⟨fun b o e => hs'.extBut b o (ne_of_none S.freshL e) (hbase b o e), _, cm, adr', hn', fun n c hc => (hcells n c hc).sameBut hs' (cell_ne_ns (hcells n c hc) hns), fun y hy => ?_, fun y e he => ?_⟩
    · obtain ⟨⟨o, xs, m', ho, hd⟩, hg⟩ := hlive y hy
      exact ⟨⟨o, xs, m', hs'.extBut _ o (fun q => not_seq_of_ns hns (q ▸ (hlive y hy).1)) ho, hd⟩, hg⟩
    · rcases look he with ⟨rfl, rfl⟩ | ⟨hne, he⟩
      · exact ⟨v, .loc hl (if_pos rfl), hnew.extBut hs'.extBut (not_seq_of_ns hns), hown⟩
      · obtain ⟨u, h1, h2, h3⟩ := hold y e hne he
        have hys : y.s ≠ x.s := fun q => hne (Nm.inj q)
        refine ⟨u, ?_, h2.extBut hs'.extBut (not_seq_of_ns hns), h3⟩
        cases h1 with
        | loc h4 h5 => exact .loc h4 ((if_neg hys).trans h5)
        | cell c h4 h5 h6 => exact .cell c h4 h5 h6
  · refine wpAny_storeName_cell hk hl hc (hcells _ c hc) (fun h' hc' hs' => ⟨SR.mk' (FK.cell hs'.extBut (hcells _ c hc)), ?_⟩)
    have hcL : c ≠ F.env.locals := cell_ne_ns (hcells _ c hc) hns
    refine ⟨fun b o e => hs'.extBut b o (ne_of_none (S.freshC _ _ hc) e) (hbase b o e), m, fun z => if z = x.s then some v else cm z, adr', hns.sameBut hs' (Ne.symm hcL), fun n c' hc2 => ?_, fun y hy => ?_, fun y e he => ?_⟩
    · by_cases q : n = x.s
      · subst q
        rw [hc] at hc2; cases hc2
        show h'.IsCell c (if x.s = x.s then some v else cm x.s)
        rw [if_pos rfl]; exact hc'
      · show h'.IsCell c' (if n = x.s then some v else cm n)
        rw [if_neg q]
        exact (hcells n c' hc2).sameBut hs' fun e => q (S.apart _ _ c' hc2 (e ▸ hc))
    · obtain ⟨⟨o, xs, m', ho, hd⟩, hg⟩ := hlive y hy
      exact ⟨⟨o, xs, m', hs'.extBut _ o (fun q => not_seq_of_cell (hcells _ c hc) (q ▸ (hlive y hy).1)) ho, hd⟩, hg⟩
    · rcases look he with ⟨rfl, rfl⟩ | ⟨hne, he⟩
      · exact ⟨v, .cell c hl hc (if_pos rfl), hnew.extBut hs'.extBut (not_seq_of_cell (hcells _ c hc)), hown⟩
      · obtain ⟨u, h1, h2, h3⟩ := hold y e hne he
        have hys : y.s ≠ x.s := fun q => hne (Nm.inj q)
        refine ⟨u, ?_, h2.extBut hs'.extBut (not_seq_of_cell (hcells _ c hc)), h3⟩
        cases h1 with
        | loc h4 h5 => exact .loc h4 h5
        | cell c' h4 h5 h6 => exact .cell c' h4 h5 ((if_neg hys).trans h6)

theorem Inv.store {A : Around} {x : Nm} {v : Value} {s : Shared} {h₀ : Heap} {P : Addr → Prop} {d : D} (S : SOk F) (hk : F.env.scope.kind = .function) (hx : Bound F.env x) (hxo : x ∉ own)
    (I : Inv F ρ own h₀) (k : Le h₀ s.heap) (r : Rep P s.heap v d) (hP : own = [] ∨ ∀ b, P b → h₀.get? b = none) :
    wpAny (model prog w) A (storeName F.env x.s v) (fun _ s' => SR s s' ∧ Inv F ((x, d) :: ρ) own s'.heap) (fun _ _ => False) s := by
  obtain ⟨a, m, cm, adr, b, c, l, e⟩ := I
  refine Inv.store0 (own' := own) (adr' := adr) (m := m) (cm := cm) S hk hx (a.trans k) (b.keeps k) (fun n c' q => (c n c' q).keeps k) (fun y hy => let ⟨⟨o, xs, m, q, r⟩, g⟩ := l y hy; ⟨⟨o, xs, m, k _ o q, r⟩, g⟩) (fun y e' _ he => ?_) ?_ (fun q => absurd q hxo)
  · obtain ⟨u, h1, h2, h3⟩ := e y e' he
    exact ⟨u, h1, h2.le k, h3⟩
  · rcases hP with rfl | hP
    · exact r.mono fun _ _ z hz => nomatch hz
    · refine r.mono fun b' hb z hz _ q => ?_
      obtain ⟨⟨o, _, _, ho, _⟩, _⟩ := l z hz
      rw [← q, hP b' hb] at ho
      cases ho

theorem Rep.live {P : Addr → Prop} {h : Heap} {v : Value} {d : D} (r : Rep P h v d) : Rep (fun b => P b ∧ ∃ o, h.get? b = some o) h v d := r.to fun b o hp e => ⟨e, hp, o, e⟩

/-- a new list is stored, and owned by the name -/
theorem Inv.storeOwn {A : Around} {x : Nm} {v : Value} {s : Shared} {h₀ : Heap} {l : Addr} {d : D} (S : SOk F) (hk : F.env.scope.kind = .function) (hx : Bound F.env x) (hxo : x ∉ own)
    (I : Inv F ρ own h₀) (k : Le h₀ s.heap) (r : Rep (fun b => h₀.get? b = none) s.heap v d) (hv : v = .ref l) (hl : h₀.get? l = none) (hll : SeqAt s.heap l) :
    wpAny (model prog w) A (storeName F.env x.s v) (fun _ s' => SR s s' ∧ Inv F ((x, d) :: ρ) (x :: own) s'.heap) (fun _ _ => False) s := by
  obtain ⟨a, m, cm, adr, b, c, lv, e⟩ := I
  refine Inv.store0 (own' := x :: own) (adr' := fun z => if z = x then l else adr z) (m := m) (cm := cm) S hk hx (a.trans k) (b.keeps k) (fun n c' q => (c n c' q).keeps k) (fun y hy => ?_) (fun y e' hne he => ?_) ?_ (fun _ => by rw [if_pos rfl]; exact hv)
  · by_cases q : y = x
    · rw [if_pos q]; exact ⟨hll, none_of_le a hl⟩
    · rw [if_neg q]
      rcases List.mem_cons.mp hy with q' | hy
      · exact absurd q' q
      · obtain ⟨⟨o, xs, m', ho, hd⟩, hg⟩ := lv y hy
        exact ⟨⟨o, xs, m', k _ o ho, hd⟩, hg⟩
  · obtain ⟨u, h1, h2, h3⟩ := e y e' he
    refine ⟨u, h1, h2.live.to fun b' o hp ho => ⟨k _ o ho, fun z hz hzy => ?_⟩, fun hy => ?_⟩
    · by_cases q : z = x
      · rw [if_pos q]
        rintro rfl
        obtain ⟨o', ho'⟩ := hp.2
        rw [hl] at ho'; cases ho'
      · rw [if_neg q]
        rcases List.mem_cons.mp hz with q' | hz
        · exact absurd q' q
        · exact hp.1 z hz hzy
    · rw [if_neg hne]
      rcases List.mem_cons.mp hy with q' | hy
      · exact absurd q' hne
      · exact h3 hy
  · refine r.mono fun b' hb z hz hzx => ?_
    rw [if_neg hzx]
    rcases List.mem_cons.mp hz with q' | hz
    · exact absurd q' hzx
    · rintro rfl
      obtain ⟨⟨o, _, _, ho, _⟩, _⟩ := lv z hz
      rw [hb] at ho; cases ho

theorem Inv.disown {h : Heap} {x : Nm} (I : Inv F ρ (x :: own) h) : Inv F ρ own h := by
  obtain ⟨a, m, cm, adr, b, c, l, e⟩ := I
  exact ⟨a, m, cm, adr, b, c, fun y hy => l y (.tail _ hy), fun y d q => let ⟨v, h1, h2, h3⟩ := e y d q; ⟨v, h1, h2.mono (fun b' hb z hz => hb z (.tail _ hz)), fun hy => h3 (.tail _ hy)⟩⟩

/-! statements -/
structure Blk (prog : Program) (w : World) (F : Frm) (ss : List Stmt) (pre : Heap → Prop) (post : Flow → Heap → Prop) : Prop where
  run : ∀ s, pre s.heap → wpAny (model prog w) F.A (execs ss F.env) (fun f s' => SR s s' ∧ post f s'.heap) (fun _ _ => False) s
structure Stm (prog : Program) (w : World) (F : Frm) (st : Stmt) (pre : Heap → Prop) (post : Flow → Heap → Prop) : Prop where
  run : ∀ s, pre s.heap → wpAny (model prog w) F.A (exec st F.env) (fun f s' => SR s s' ∧ post f s'.heap) (fun _ _ => False) s

noncomputable def thenP (mid : Heap → Prop) (post : Flow → Heap → Prop) : Flow → Heap → Prop
  | .next, h => mid h
  | f, h => post f h
noncomputable abbrev nextP (mid : Heap → Prop) : Flow → Heap → Prop := fun f h => f = .next ∧ mid h

theorem Blk.cons {st : Stmt} {rest : List Stmt} {pre mid : Heap → Prop} {post : Flow → Heap → Prop} (h1 : Stm prog w F st pre (thenP mid post)) (h2 : Blk prog w F rest mid post) : Blk prog w F (st :: rest) pre post := by
  refine ⟨fun s hs => ?_⟩
  refine wpAny_execs_cons (wpAny_mono (h1.run s hs) ?_ fun _ _ x => x)
  rintro f s' ⟨sr, hp⟩
  cases f with
  | next => exact wpAny_mono (h2.run s' hp) (fun f s'' x => ⟨sr.trans x.1, x.2⟩) fun _ _ x => x
  | brk => exact ⟨sr, hp⟩
  | cont => exact ⟨sr, hp⟩
  | ret v => exact ⟨sr, hp⟩
theorem Blk.nil {pre : Heap → Prop} {post : Flow → Heap → Prop} (h : ∀ x, pre x → post .next x) : Blk prog w F [] pre post := ⟨fun s hs => wpAny_execs_nil ⟨SR.refl s, h _ hs⟩⟩
theorem Blk.done {mid : Heap → Prop} : Blk prog w F [] mid (nextP mid) := Blk.nil fun _ h => ⟨rfl, h⟩
theorem Blk.one {st : Stmt} {rest : List Stmt} {pre mid : Heap → Prop} {post : Flow → Heap → Prop} (h1 : Stm prog w F st pre (nextP mid)) (h2 : Blk prog w F rest mid post) : Blk prog w F (st :: rest) pre post :=
  Blk.cons ⟨fun s hs => wpAny_mono (h1.run s hs) (fun f s' x => ⟨x.1, by obtain ⟨rfl, h⟩ := x.2; exact h⟩) fun _ _ x => x⟩ h2
theorem Blk.pre {ss : List Stmt} {pre pre' : Heap → Prop} {post : Flow → Heap → Prop} (h : Blk prog w F ss pre post) (hp : ∀ x, pre' x → pre x) : Blk prog w F ss pre' post := ⟨fun s hs => h.run s (hp _ hs)⟩
theorem Blk.post {ss : List Stmt} {pre : Heap → Prop} {post post' : Flow → Heap → Prop} (h : Blk prog w F ss pre post) (hp : ∀ f x, post f x → post' f x) : Blk prog w F ss pre post' := ⟨fun s hs => wpAny_mono (h.run s hs) (fun f s' x => ⟨x.1, hp f _ x.2⟩) fun _ _ x => x⟩
theorem Blk.sub {ss : List Stmt} {ρ' : List (Nm × D)} {post : Flow → Heap → Prop} (h : Blk prog w F ss (Inv F ρ' own) post) (hs : SubL ρ' ρ) : Blk prog w F ss (Inv F ρ own) post := h.pre fun _ I => I.sub (Sub.of hs)

/-- x = e -/
theorem Stm.assign {x : Nm} {e : Expr} {d : D} {P : Heap → Addr → Prop} {px pos : Pos} (O : ROk n T F) (S : SOk F) (he : EvP prog w F ρ e P d) (hx : Bound F.env x) (hxo : x ∉ own) (hP : own = [] ∨ ∀ h b, P h b → h.get? b = none)
    (hsw : swapsWith e (some (.Name x.s px)) pos.line F.env = pure false) : Stm prog w F (.Assign [.Name x.s px] e pos) (Inv F ρ own) (nextP (Inv F ((x, d) :: ρ) own)) := by
  refine ⟨fun s I => ?_⟩
  refine wpAny_Assign_Name (wpAny_mono (he.run s I.read) ?_ fun _ _ x => x) hsw
  rintro v s1 ⟨k1, r1⟩
  refine wpAny_mono (Inv.store (s := s1) S O.kind hx hxo I (keeps_le k1) r1 (hP.imp id fun h b => h _ b)) ?_ fun _ _ x => x
  rintro _ s2 ⟨sr, J⟩
  exact ⟨(SR.of k1).trans sr, rfl, J⟩
/-- x = a new list, owned from now on -/
theorem Stm.assignOwn {x : Nm} {e : Expr} {d : D} {px pos : Pos} (O : ROk n T F) (S : SOk F) (he : EvN prog w F ρ e d) (hx : Bound F.env x) (hxo : x ∉ own) (hd : (∃ ns, d = .ints ns) ∨ ∃ ss, d = .strs ss)
    (hsw : swapsWith e (some (.Name x.s px)) pos.line F.env = pure false) : Stm prog w F (.Assign [.Name x.s px] e pos) (Inv F ρ own) (nextP (Inv F ((x, d) :: ρ) (x :: own))) := by
  refine ⟨fun s I => ?_⟩
  refine wpAny_Assign_Name (wpAny_mono (he.run s I.read) ?_ fun _ _ x => x) hsw
  rintro v s1 ⟨k1, r1⟩
  have hl : ∃ l, v = .ref l ∧ s.heap.get? l = none ∧ SeqAt s1.heap l := by
    rcases hd with ⟨ns, rfl⟩ | ⟨ss, rfl⟩
    · obtain ⟨a, vs, e1, e2, ⟨q, e3⟩, _⟩ := r1; exact ⟨a, e1, e2, _, _, _, e3, rfl⟩
    · obtain ⟨a, vs, e1, e2, ⟨q, e3⟩, _⟩ := r1; exact ⟨a, e1, e2, _, _, _, e3, rfl⟩
  obtain ⟨l, hv, h1, h2⟩ := hl
  refine wpAny_mono (Inv.storeOwn (s := s1) S O.kind hx hxo I (keeps_le k1) r1 hv h1 h2) ?_ fun _ _ x => x
  rintro _ s2 ⟨sr, J⟩
  exact ⟨(SR.of k1).trans sr, rfl, J⟩

/-- x op= e on ints -/
theorem Stm.augAdd {x : Nm} {e : Expr} {a b : Int} {px pos : Pos} (O : ROk n T F) (S : SOk F) (h0 : lk ρ x = some (DI a)) (he : Ev prog w F ρ e (DI b)) (hl : F.env.kindOf x.s = some .local) (hxo : x ∉ own) :
    Stm prog w F (.AugAssign (.Name x.s px) .Add e pos) (Inv F ρ own) (nextP (Inv F ((x, DI (a + b)) :: ρ) own)) := by
  refine ⟨fun s I => ?_⟩
  obtain ⟨_, m, cm, adr, hn, _, _, hv⟩ := id I
  obtain ⟨v, hh, ⟨t, rfl⟩, _⟩ := hv x _ h0
  have hm : m x.s = some (.int a t) := by
    cases hh with
    | loc _ q => exact q
    | cell c q _ _ => rw [hl] at q; cases q
  refine wpAny_AugAssign_Name (wpAny_loadName_local O.kind hl hn hm (wpAny_mono (he.run s I.read) ?_ fun _ _ x => x))
  rintro _ s1 ⟨k1, u, rfl⟩
  refine wpAny_iadd_int ?_
  refine wpAny_mono (Inv.store (s := { s1 with toks := s1.toks + 1 }) (d := DI (a + b)) (P := fun _ => False) S O.kind (.inl hl) hxo I (show Le s.heap s1.heap from keeps_le k1) ⟨_, rfl⟩ (.inr fun _ h => h.elim)) ?_ fun _ _ x => x
  rintro _ s2 ⟨sr, J⟩
  exact ⟨((SR.of k1).trans (SR.mk' (FK.refl _))).trans sr, rfl, J⟩
end
end Mine
namespace Mine

section
variable {prog : Program} {w : World} {F : Frm} {ρ ρf : List (Nm × D)} {T : TopAt} {n : Nat} {own : List Nm}

/-! comprehensions as values -/
theorem comp_eval {α β : Type} {one : α → D} {lst : Bool} {kd : Kd β} {xs : List α} {elt target iter : Expr} {ifs : List Expr} {scope : Scope} {cl : List (Str × Addr)} {pos : Pos}
    {binds : α → List (Nm × D)} (c : CompOk F scope cl ρ ρf) (src : Src prog w F ρ one lst iter xs) (tgt : Tgt prog w F one lst target scope cl binds) (hsz : xs.length ≤ 1000) (p : α → Bool) (g : α → β)
    (htest : ∀ x ∈ xs, ∀ C s, Inv (cfrm scope cl F C) (binds x ++ ρf) [] s.heap →
      wpAny (model prog w) F.A (forIn ifs true fun c r => if r = true then do let ok ← isTrue c (cenv scope cl F C) (eval c (cenv scope cl F C)); pure (ForInStep.yield ok) else pure (ForInStep.yield r)) (fun ok s' => Keeps s s' ∧ ok = p x) (fun _ _ => False) s)
    (helt : ∀ x ∈ xs, p x = true → ∀ C, EvN prog w (cfrm scope cl F C) (binds x ++ ρf) elt (kd.one (g x)))
    (hs : ∀ x, foldedSetIterable iter F.env x = pure x) : EvN prog w F ρ (.ListComp elt [⟨target, iter, ifs, 0⟩] scope pos) (kd.many ((xs.filter p).map g)) := by
  refine ⟨fun s I => ?_⟩
  rw [eval_ListComp]
  refine wpAny_comprehension_free (use := none) rfl hs c.clos c.kind c.names (wpAny_mono (src s I) (fun xv s₁ h₁ => wpAny_mono h₁.2 (fun it s₂ h₂ => ?_) fun _ _ e => e) fun _ _ e => e)
  obtain ⟨k2, I', wr, St, rfl, W, hwr, hl⟩ := h₂
  have k1 := h₁.1
  refine comp_block (RR := fun acc C => compPost (model prog w) F.A (fun _ _ => False) none (fun v s' => Keeps s s' ∧ Rep (fun b => s.heap.get? b = none) s'.heap v (kd.many ((xs.filter p).map g))) acc C) c (I.le (keeps_le k1)) W hsz p g (fun C => tgt I' St C hl) htest helt ?_
  intro D C h' tk m' hD hC hDC hn vs hpl hF hk
  refine ⟨m', hn, fun h'' hs'' => ?_⟩
  have hle : ∀ b o, s₁.heap.get? b = some o → h''.get? b = some o := fun b o e => by
    have e2 := W.le b o e
    exact hs''.extBut b o (ne_of_none hC e2.1) (hk b o e2.2 e2.1)
  have k1' := keeps_le k1
  have k2' := keeps_le k2
  refine ⟨keeps_upd (b := s₂) (keeps_trans k1 k2) fun b o e => hle b o (k1' b o e), ?_⟩
  refine kd.mkr _ _ _ vs _ (none_of_le (fun b o e => k2' b o (k1' b o e)) hD) (by obtain ⟨q, e⟩ := hpl; exact ⟨q, hs''.extBut D _ hDC e⟩) ?_
  exact paired_mono (fun _ _ r => r.to fun b o hp e => ⟨hs''.extBut b o hp.2 e, none_of_le (fun b o e => k2' b o (k1' b o e)) hp.1⟩) hF

theorem EvN.comp {α β : Type} {one : α → D} {lst : Bool} {kd : Kd β} {xs : List α} {elt target iter : Expr} {scope : Scope} {cl : List (Str × Addr)} {pos : Pos}
    {binds : α → List (Nm × D)} {g : α → β} (c : CompOk F scope cl ρ ρf) (src : Src prog w F ρ one lst iter xs) (tgt : Tgt prog w F one lst target scope cl binds) (hsz : xs.length ≤ 1000)
    (helt : ∀ x ∈ xs, ∀ C, EvN prog w (cfrm scope cl F C) (binds x ++ ρf) elt (kd.one (g x)))
    (hs : ∀ x, foldedSetIterable iter F.env x = pure x := by intro _; rfl) : EvN prog w F ρ (.ListComp elt [⟨target, iter, [], 0⟩] scope pos) (kd.many (xs.map g)) := by
  have := comp_eval (kd := kd) (pos := pos) (ifs := []) c src tgt hsz (fun _ => true) g (fun x _ C s _ => wpAny_tests_nil ⟨keeps_refl s, rfl⟩) (fun x hx _ C => helt x hx C) hs
  rwa [List.filter_eq_self.mpr (fun _ _ => rfl)] at this
theorem EvN.compIf {α β : Type} {one : α → D} {lst : Bool} {kd : Kd β} {xs : List α} {elt target iter ct : Expr} {scope : Scope} {cl : List (Str × Addr)} {pos : Pos}
    {binds : α → List (Nm × D)} {p : α → Bool} {g : α → β} (c : CompOk F scope cl ρ ρf) (src : Src prog w F ρ one lst iter xs) (tgt : Tgt prog w F one lst target scope cl binds) (hsz : xs.length ≤ 1000)
    (htest : ∀ x ∈ xs, ∀ C, Ts prog w (cfrm scope cl F C) (binds x ++ ρf) ct (p x))
    (helt : ∀ x ∈ xs, p x = true → ∀ C, EvN prog w (cfrm scope cl F C) (binds x ++ ρf) elt (kd.one (g x)))
    (hs : ∀ x, foldedSetIterable iter F.env x = pure x := by intro _; rfl) : EvN prog w F ρ (.ListComp elt [⟨target, iter, [ct], 0⟩] scope pos) (kd.many ((xs.filter p).map g)) :=
  comp_eval (kd := kd) (pos := pos) (ifs := [ct]) c src tgt hsz p g (fun x hx C s I => wpAny_tests_one ((htest x hx C).run s I)) helt hs

/-- y = [..] where the name is the frame's own: the store comes within the block -/
theorem comp_assign {α β : Type} {one : α → D} {lst : Bool} {kd : Kd β} {xs : List α} {elt target iter : Expr} {ifs : List Expr} {scope : Scope} {cl : List (Str × Addr)} {pos py spos : Pos} {y : Nm}
    {binds : α → List (Nm × D)} (O : ROk n T F) (S : SOk F) (c : CompOk F scope cl ρ ρf) (src : Src prog w F ρ one lst iter xs) (tgt : Tgt prog w F one lst target scope cl binds) (hsz : xs.length ≤ 1000) (p : α → Bool) (g : α → β)
    (htest : ∀ x ∈ xs, ∀ C s, Inv (cfrm scope cl F C) (binds x ++ ρf) [] s.heap →
      wpAny (model prog w) F.A (forIn ifs true fun c r => if r = true then do let ok ← isTrue c (cenv scope cl F C) (eval c (cenv scope cl F C)); pure (ForInStep.yield ok) else pure (ForInStep.yield r)) (fun ok s' => Keeps s s' ∧ ok = p x) (fun _ _ => False) s)
    (helt : ∀ x ∈ xs, p x = true → ∀ C, EvN prog w (cfrm scope cl F C) (binds x ++ ρf) elt (kd.one (g x)))
    (hy : F.env.kindOf y.s = some .local) (hyo : y ∉ own)
    (hsw : swapsWith (.ListComp elt [⟨target, iter, ifs, 0⟩] scope pos) (some (.Name y.s py)) spos.line F.env = pure true)
    (hs : ∀ x, foldedSetIterable iter F.env x = pure x) : Stm prog w F (.Assign [.Name y.s py] (.ListComp elt [⟨target, iter, ifs, 0⟩] scope pos) spos) (Inv F ρ own) (nextP (Inv F ((y, kd.many ((xs.filter p).map g)) :: ρ) (y :: own))) := by
  refine ⟨fun s I => ?_⟩
  rw [exec_Assign_Name_used _ _ _ _ hsw]
  refine wpAny_bind (wpAny_standAt (wpAny_bind ?_))
  show wpAny _ F.A (do let _ ← comprehension (.ListComp elt [⟨target, iter, ifs, 0⟩] scope pos) scope F.env _ (newList []) false (eval iter F.env) (some (assign (.Name y.s py) F.env))) _ _ s
  refine wpAny_bind (wpAny_mono (wpAny_comprehension_free (use := some (assign (.Name y.s py) F.env)) (Q := fun _ s' => SR s s' ∧ Inv F ((y, kd.many ((xs.filter p).map g)) :: ρ) (y :: own) s'.heap) rfl hs c.clos c.kind c.names
    (wpAny_mono (src s I.read) (fun xv s₁ h₁ => wpAny_mono h₁.2 (fun it s₂ h₂ => ?_) fun _ _ e => e) fun _ _ e => e)) (fun _ s' hq => wpAny_pure (wpAny_pure ⟨hq.1, rfl, hq.2⟩)) fun _ _ e => e)
  obtain ⟨k2, I', wr, St, rfl, W, hwr, hl⟩ := h₂
  have k1 := h₁.1
  refine comp_block (RR := fun acc C => compPost (model prog w) F.A (fun _ _ => False) (some (assign (.Name y.s py) F.env)) (fun _ s' => SR s s' ∧ Inv F ((y, kd.many ((xs.filter p).map g)) :: ρ) (y :: own) s'.heap) acc C) c (I.read.le (keeps_le k1)) W hsz p g (fun C => tgt I' St C hl) htest helt ?_
  intro D C h' tk m' hD hC hDC hn vs hpl hF hk
  have k1' := keeps_le k1
  have k2' := keeps_le k2
  have hle : Le s.heap h' := fun b o e => by
    have e2 := W.le b o (k1' b o e)
    exact hk b o e2.2 e2.1
  have hr : Rep (fun b => s.heap.get? b = none ∧ b ≠ C) h' (.ref D) (kd.many ((xs.filter p).map g)) :=
    kd.mkr _ _ _ vs _ ⟨none_of_le (fun b o e => k2' b o (k1' b o e)) hD, hDC⟩ hpl (paired_mono (fun _ _ r => r.mono fun b hp => ⟨none_of_le (fun b o e => k2' b o (k1' b o e)) hp.1, hp.2⟩) hF)
  have hDs : s.heap.get? D = none := none_of_le (fun b o e => k2' b o (k1' b o e)) hD
  have hCs : s.heap.get? C = none := none_of_le (fun b o e => k2' b o (k1' b o e)) hC
  -- the store, and the block's own dict off all of it
  obtain ⟨a, m, cm, adr, b, cc, lv, e⟩ := I
  have hLC : F.env.locals ≠ C := by rintro q; obtain ⟨o, _, _, ho, _⟩ := b; rw [q, hCs] at ho; cases ho
  have hbL := b.keeps hle
  refine wpAny_assign_Name (wpAny_storeName_local hy hbL (fun h₃ hn₃ hs₃ => ⟨m', hn.sameBut hs₃ (Ne.symm hLC), fun h₄ hs₄ => ⟨⟨keeps_shape (b := s₂) (keeps_trans k1 k2), fun x o vs q1 q2 => hs₄.extBut x o (ne_of_none hCs q1) (FK.ns hs₃.extBut hbL x o vs (hle x o q1) q2)⟩, ?_⟩⟩) (by rw [O.kind]; rfl))
  have up : ∀ x o, x ≠ F.env.locals → x ≠ C → h'.get? x = some o → h₄.get? x = some o := fun x o h1 h2 h3 => hs₄.extBut x o h2 (hs₃.extBut x o h1 h3)
  have nC : ∀ x o, s.heap.get? x = some o → x ≠ C := fun x o q => ne_of_none hCs q
  have nD : ∀ x o, s.heap.get? x = some o → x ≠ D := fun x o q => ne_of_none hDs q
  have hLseq : ¬ SeqAt h' F.env.locals := not_seq_of_ns hbL
  refine ⟨fun x o q => up x o (ne_of_none S.freshL q) (nC x o (a x o q)) (hle x o (a x o q)), _, cm, (fun z => if z = y then D else adr z), hn₃.sameBut hs₄ hLC, fun nm c' q => ?_, fun z hz => ?_, fun z d' hz => ?_⟩
  · have q1 := cc nm c' q
    exact (((q1.keeps hle).sameBut hs₃ (cell_ne_ns (q1.keeps hle) hbL)).sameBut hs₄ (by obtain ⟨o, ho, _⟩ := q1; exact nC _ o ho))
  · show SeqAt h₄ (if z = y then D else adr z) ∧ F.base.get? (if z = y then D else adr z) = none
    by_cases q : z = y
    · rw [if_pos q]
      obtain ⟨k, e'⟩ := hpl
      exact ⟨⟨_, _, _, up D _ (by rintro q'; exact hLseq (q' ▸ ⟨_, _, _, e', rfl⟩)) hDC e', rfl⟩, none_of_le a hDs⟩
    · rw [if_neg q]
      rcases List.mem_cons.mp hz with q' | hz
      · exact absurd q' q
      · obtain ⟨⟨o, xs', k', ho, hd⟩, hg⟩ := lv z hz
        exact ⟨⟨o, xs', k', up _ o (fun q2 => not_seq_of_ns b (q2 ▸ (lv z hz).1)) (nC _ o ho) (hle _ o ho), hd⟩, hg⟩
  · unfold lk at hz
    by_cases q : z = y
    · rw [if_pos q] at hz
      cases hz
      subst q
      refine ⟨.ref D, .loc hy (if_pos rfl), hr.seq.to fun x o hp e' => ⟨up x o (fun q => hLseq (q ▸ hp.2)) hp.1.2 e', fun u hu huy => ?_⟩, fun _ => by show Value.ref D = .ref (if z = z then D else adr z); rw [if_pos rfl]⟩
      show x ≠ if u = z then D else adr u
      rw [if_neg huy]
      rcases List.mem_cons.mp hu with q' | hu
      · exact absurd q' huy
      · exact (let ⟨⟨o', _, _, ho', _⟩, _⟩ := lv u hu; (ne_of_none hp.1.1 ho').symm)
    · rw [if_neg q] at hz
      obtain ⟨u, h1, h2, h3⟩ := e z d' hz
      have hzs : z.s ≠ y.s := fun q' => q (Nm.inj q')
      refine ⟨u, ?_, h2.live.seq.to fun x o hp e' => ⟨up x o ?_ (nC x o e') (hle x o e'), fun v' hv' hvz => ?_⟩, fun hzo => ?_⟩
      · cases h1 with
        | loc h4 h5 => exact .loc h4 ((if_neg hzs).trans h5)
        | cell c' h4 h5 h6 => exact .cell c' h4 h5 h6
      · exact fun q => not_seq_of_ns b (q ▸ hp.2)
      · show x ≠ if v' = y then D else adr v'
        by_cases q2 : v' = y
        · rw [if_pos q2]; exact nD x o e'
        · rw [if_neg q2]
          rcases List.mem_cons.mp hv' with q' | hv'
          · exact absurd q' q2
          · exact hp.1.1 v' hv' hvz
      · show u = .ref (if z = y then D else adr z)
        rw [if_neg q]
        rcases List.mem_cons.mp hzo with q' | hzo
        · exact absurd q' q
        · exact h3 hzo

theorem Stm.comp {α β : Type} {one : α → D} {lst : Bool} {kd : Kd β} {xs : List α} {elt target iter : Expr} {scope : Scope} {cl : List (Str × Addr)} {pos py spos : Pos} {y : Nm}
    {binds : α → List (Nm × D)} {g : α → β} (O : ROk n T F) (S : SOk F) (c : CompOk F scope cl ρ ρf) (src : Src prog w F ρ one lst iter xs) (tgt : Tgt prog w F one lst target scope cl binds) (hsz : xs.length ≤ 1000)
    (helt : ∀ x ∈ xs, ∀ C, EvN prog w (cfrm scope cl F C) (binds x ++ ρf) elt (kd.one (g x)))
    (hy : F.env.kindOf y.s = some .local) (hyo : y ∉ own)
    (hsw : swapsWith (.ListComp elt [⟨target, iter, [], 0⟩] scope pos) (some (.Name y.s py)) spos.line F.env = pure true)
    (hs : ∀ x, foldedSetIterable iter F.env x = pure x := by intro _; rfl) : Stm prog w F (.Assign [.Name y.s py] (.ListComp elt [⟨target, iter, [], 0⟩] scope pos) spos) (Inv F ρ own) (nextP (Inv F ((y, kd.many (xs.map g)) :: ρ) (y :: own))) := by
  have := comp_assign (own := own) (kd := kd) (pos := pos) (ifs := []) O S c src tgt hsz (fun _ => true) g (fun x _ C s _ => wpAny_tests_nil ⟨keeps_refl s, rfl⟩) (fun x hx _ C => helt x hx C) hy hyo hsw hs
  rwa [List.filter_eq_self.mpr (fun _ _ => rfl)] at this
theorem Stm.compIf {α β : Type} {one : α → D} {lst : Bool} {kd : Kd β} {xs : List α} {elt target iter ct : Expr} {scope : Scope} {cl : List (Str × Addr)} {pos py spos : Pos} {y : Nm}
    {binds : α → List (Nm × D)} {p : α → Bool} {g : α → β} (O : ROk n T F) (S : SOk F) (c : CompOk F scope cl ρ ρf) (src : Src prog w F ρ one lst iter xs) (tgt : Tgt prog w F one lst target scope cl binds) (hsz : xs.length ≤ 1000)
    (htest : ∀ x ∈ xs, ∀ C, Ts prog w (cfrm scope cl F C) (binds x ++ ρf) ct (p x))
    (helt : ∀ x ∈ xs, p x = true → ∀ C, EvN prog w (cfrm scope cl F C) (binds x ++ ρf) elt (kd.one (g x)))
    (hy : F.env.kindOf y.s = some .local) (hyo : y ∉ own)
    (hsw : swapsWith (.ListComp elt [⟨target, iter, [ct], 0⟩] scope pos) (some (.Name y.s py)) spos.line F.env = pure true)
    (hs : ∀ x, foldedSetIterable iter F.env x = pure x := by intro _; rfl) : Stm prog w F (.Assign [.Name y.s py] (.ListComp elt [⟨target, iter, [ct], 0⟩] scope pos) spos) (Inv F ρ own) (nextP (Inv F ((y, kd.many ((xs.filter p).map g)) :: ρ) (y :: own))) :=
  comp_assign (own := own) (kd := kd) (pos := pos) (ifs := [ct]) O S c src tgt hsz p g (fun x hx C s I => wpAny_tests_one ((htest x hx C).run s I)) helt hy hyo hsw hs
end
end Mine
namespace Mine

noncomputable def pushA : List Nm → List At → List (Nm × D) → List (Nm × D)
  | x :: xs, a :: as, ρ => pushA xs as ((x, .at a) :: ρ)
  | _, _, ρ => ρ

section
variable {prog : Program} {w : World} {F : Frm} {ρ ρf : List (Nm × D)} {T : TopAt} {n : Nat} {own : List Nm}

/-- atoms stored one after the other -/
theorem storeAts (O : ROk n T F) (S : SOk F) (xs : List Nm) : ∀ (as : List At) (vs : List Value) (ts : List (Value → Sem Unit)) (ρ : List (Nm × D)) (s : Shared), Paired AtRep vs as → xs.length = as.length → ts.length = xs.length →
    (∀ (i : Nat) (x : Nm), xs[i]? = some x → ∃ t : Value → Sem Unit, ts[i]? = some t ∧ ∀ v (s : Shared) (Q : Unit → Shared → Prop), wpAny (model prog w) F.A (storeName F.env x.s v) Q (fun _ _ => False) s → wpAny (model prog w) F.A (t v) Q (fun _ _ => False) s) →
    (∀ x ∈ xs, Bound F.env x ∧ x ∉ own) → Inv F ρ own s.heap →
    wpAny (model prog w) F.A (assignInOrder ts vs) (fun _ s' => SR s s' ∧ Inv F (pushA xs as ρ) own s'.heap) (fun _ _ => False) s := by
  induction xs with
  | nil =>
    intro as vs ts ρ s hp hl hl2 _ _ I
    cases as with
    | cons a as => cases hl
    | nil =>
      cases hp
      cases ts with
      | cons t ts => cases hl2
      | nil => exact wpAny_assignInOrder_none ⟨SR.refl s, I⟩
  | cons x xs ih =>
    intro as vs ts ρ s hp hl hl2 ht hx I
    cases as with
    | nil => cases hl
    | cons a as =>
      cases hp with
      | cons r p =>
        cases ts with
        | nil => cases hl2
        | cons t ts =>
          obtain ⟨t', e, hst⟩ := ht 0 x rfl
          cases e
          obtain ⟨hb, hxo⟩ := hx x (.head _)
          refine wpAny_assignInOrder_more (hst _ s _ (wpAny_mono (Inv.store (s := s) (d := .at a) (P := fun _ => False) S O.kind hb hxo I (Le.refl _) r (.inr fun _ h => h.elim)) ?_ fun _ _ x => x))
          rintro _ s1 ⟨sr, J⟩
          refine wpAny_mono (ih as _ ts _ s1 p (by simpa using hl) (by simpa using hl2) (fun i y hy => ht (i + 1) y (by simpa using hy)) (fun y hy => hx y (.tail _ hy)) J) ?_ fun _ _ x => x
          rintro _ s2 ⟨sr2, J2⟩
          exact ⟨sr.trans sr2, J2⟩

/-- x, y, .. = a tuple of atoms -/
theorem Stm.unpack {names : List (Nm × Pos)} {e : Expr} {as : List At} {kk : Nat} {tpos pos : Pos} (O : ROk n T F) (S : SOk F) (he : Ev prog w F ρ e (.tup as)) (hl : names.length = as.length) (hx : ∀ x ∈ names.map (·.1), Bound F.env x ∧ x ∉ own)
    (hs : swapsWithSole [.Tuple (names.map fun p => Expr.Name p.1.s p.2) kk tpos] e pos.line F.env = pure false)
    (hw : swappedStores [.Tuple (names.map fun p => Expr.Name p.1.s p.2) kk tpos] e F.env = pure none) :
    Stm prog w F (.Assign [.Tuple (names.map fun p => Expr.Name p.1.s p.2) kk tpos] e pos) (Inv F ρ own) (nextP (Inv F (pushA (names.map (·.1)) as ρ) own)) := by
  refine ⟨fun s I => ?_⟩
  refine Assign_Tuple (wpAny_mono (he.run s I.read) ?_ fun _ _ x => x) hs hw
  rintro v s1 ⟨k1, t, vs, rfl, _, ht, hp⟩
  have hae : ∀ ns : List (Nm × Pos), assignEach (ns.map fun p => Expr.Name p.1.s p.2) F.env = ns.map fun p => (false, PySem.assign (.Name p.1.s p.2) F.env) := by
    intro ns
    induction ns with
    | nil => rfl
    | cons p r ih => simp only [List.map_cons]; show (false, _) :: assignEach _ _ = _; rw [ih]
  have hlen : vs.length = as.length := hp.length
  refine wpAny_assign_Tuple O.room.hh ht (by rw [hae]; simp [hl, hlen]) (by rw [hae]; clear hs hw hx hl hae; induction names with | nil => rfl | cons p r ih => simp [List.findIdx?_cons]) fun h' hx' => ?_
  have hle : Le s1.heap h' := fun b o e => hx' b o (fun q => absurd (Heap.lt_size e) (by rw [q]; exact Nat.lt_irrefl _)) e
  rw [hae, List.map_map]
  refine wpAny_mono (storeAts (own := own) O S (names.map (·.1)) as vs.toArray.toList _ ρ { s1 with heap := h' } hp (by simpa using hl) (by simp) (fun i x hx => ?_) hx (I.le ((keeps_le k1).trans hle))) ?_ fun _ _ x => x
  · rw [List.getElem?_map] at hx ⊢
    cases q : names[i]? with
    | none => rw [q] at hx; cases hx
    | some p =>
      rw [q] at hx
      cases hx
      exact ⟨_, rfl, fun v s Q h => wpAny_assign_Name h⟩
  · rintro _ s2 ⟨sr, J⟩
    exact ⟨((SR.of k1).trans (SR.mk' (FK.of hle))).trans sr, rfl, J⟩

/-- x, y = (a, b): the stores go from behind -/
theorem Stm.unpackSwap {names : List Nm} {elts : List Expr} {e : Expr} {as : List At} {kk : Nat} {tpos pos : Pos} (O : ROk n T F) (S : SOk F) (he : Ev prog w F ρ e (.tup as)) (hl : names.length = as.length) (hx : ∀ x ∈ names, Bound F.env x ∧ x ∉ own)
    (hs : swapsWithSole [.Tuple elts kk tpos] e pos.line F.env = pure false)
    (hw : swappedStores [.Tuple elts kk tpos] e F.env = pure (some (names.map Nm.s))) :
    Stm prog w F (.Assign [.Tuple elts kk tpos] e pos) (Inv F ρ own) (nextP (Inv F (pushA names.reverse as.reverse ρ) own)) := by
  refine ⟨fun s I => ?_⟩
  refine Assign_Tuple_swapped (wpAny_mono (he.run s I.read) ?_ fun _ _ x => x) hs hw
  rintro v s1 ⟨k1, t, vs, rfl, _, ht, hp⟩
  have hlen : vs.length = as.length := hp.length
  have hsz : (names.map Nm.s).length = vs.toArray.size := by simp [hl, hlen]
  rw [hsz]
  refine wpAny_unpackItems_tuple O.room.hh ht fun h' hx' => ?_
  have hle : Le s1.heap h' := fun b o e => hx' b o (fun q => absurd (Heap.lt_size e) (by rw [q]; exact Nat.lt_irrefl _)) e
  have hrev : ∀ {a : List Value} {b : List At}, Paired AtRep a b → Paired AtRep a.reverse b.reverse := by
    intro a b h
    induction h with
    | nil => exact .nil
    | cons h _ ih => rw [List.reverse_cons, List.reverse_cons]; exact Paired.snoc ih h
  refine wpAny_mono (storeAts (own := own) O S names.reverse as.reverse vs.toArray.toList.reverse _ ρ { s1 with heap := h' } (hrev hp) (by simpa using hl) (by simp) (fun i x hx => ?_) (fun x hx' => hx x (List.mem_reverse.mp hx')) (I.le ((keeps_le k1).trans hle))) ?_ fun _ _ x => x
  · rw [List.getElem?_map, ← List.map_reverse, List.getElem?_map, hx]
    exact ⟨_, rfl, fun v s Q h => wpAny_bindName h⟩
  · rintro _ s2 ⟨sr, J⟩
    exact ⟨((SR.of k1).trans (SR.mk' (FK.of hle))).trans sr, rfl, J⟩

theorem Stm.iff {test : Expr} {body orelse : List Stmt} {pos : Pos} {b : Bool} {post : Flow → Heap → Prop} (ht : Ts prog w F ρ test b) (hT : b = true → Blk prog w F body (Inv F ρ own) post) (hF : b = false → Blk prog w F orelse (Inv F ρ own) post) :
    Stm prog w F (.If test body orelse pos) (Inv F ρ own) post := by
  refine ⟨fun s I => ?_⟩
  refine wpAny_If (wpAny_mono (ht.run s I.read) ?_ fun _ _ x => x)
  rintro c s1 ⟨k1, rfl⟩
  cases c with
  | true =>
    refine wpAny_mono ((hT rfl).run s1 (I.le (keeps_le k1))) ?_ fun _ _ x => x
    rintro f s2 ⟨sr, h⟩
    exact ⟨(SR.of k1).trans sr, h⟩
  | false =>
    refine wpAny_mono ((hF rfl).run s1 (I.le (keeps_le k1))) ?_ fun _ _ x => x
    rintro f s2 ⟨sr, h⟩
    exact ⟨(SR.of k1).trans sr, h⟩
/-- a test that fails, with no else -/
theorem Blk.skip {test : Expr} {body rest : List Stmt} {pos : Pos} {post : Flow → Heap → Prop} (ht : Ts prog w F ρ test false) (h : Blk prog w F rest (Inv F ρ own) post) : Blk prog w F (.If test body [] pos :: rest) (Inv F ρ own) post :=
  Blk.one (Stm.iff ht (fun q => nomatch q) fun _ => Blk.done) h

/-- what a frame hands back -/
noncomputable def RetP (F : Frm) (d : D) : Flow → Heap → Prop := fun f h => ∃ v, f = .ret v ∧ Le F.base h ∧ Rep (fun b => F.base.get? b = none) h v d
theorem Blk.ret {e : Expr} {d : D} {pos : Pos} {rest : List Stmt} (he : EvN prog w F ρ e d) : Blk prog w F (.Return (some e) pos :: rest) (Inv F ρ own) (RetP F d) := by
  refine ⟨fun s I => ?_⟩
  refine wpAny_execs_cons (wpAny_Return_some (wpAny_mono (he.run s I.read) ?_ fun _ _ x => x))
  rintro v s1 ⟨k1, r1⟩
  exact ⟨SR.of k1, v, rfl, I.1.trans (keeps_le k1), r1.mono fun b hb => none_of_le I.1 hb⟩

/-- a while of N turns -/
theorem Stm.while {test : Expr} {body : List Stmt} {pos : Pos} (N : Nat) (σ : Nat → List (Nm × D)) (ht : ∀ k, k < N → Ts prog w F (σ k) test true) (hb : ∀ k, k < N → Blk prog w F body (Inv F (σ k) own) (nextP (Inv F (σ (k + 1)) own))) (hN : Ts prog w F (σ N) test false) :
    Stm prog w F (.While test body [] pos) (Inv F (σ 0) own) (nextP (Inv F (σ N) own)) := by
  refine ⟨fun s I => ?_⟩
  refine wpAny_While (codeAny_whileLoop (fun m s' => ∃ k, k ≤ N ∧ m = N - k ∧ SR s s' ∧ Inv F (σ k) own s'.heap) ?_ N ⟨0, Nat.zero_le _, rfl, SR.refl s, I⟩)
  rintro m s1 ⟨k, hk, rfl, sr1, I1⟩
  by_cases hlt : k < N
  · refine wpAny_mono ((ht k hlt).run s1 I1.read) ?_ fun _ _ x => x.elim
    rintro c s2 ⟨k2, rfl⟩
    simp only [if_true]
    refine wpAny_mono ((hb k hlt).run s2 (I1.le (keeps_le k2))) ?_ fun _ _ x => x.elim
    rintro f s3 ⟨sr3, rfl, I3⟩
    exact ⟨N - (k + 1), by omega, k + 1, hlt, rfl, (sr1.trans (SR.of k2)).trans sr3, I3⟩
  · have hkN : k = N := by omega
    subst hkN
    refine wpAny_mono (hN.run s1 I1.read) ?_ fun _ _ x => x.elim
    rintro c s2 ⟨k2, rfl⟩
    simp only [Bool.false_eq_true, if_false]
    exact wpAny_execs_nil ⟨sr1.trans (SR.of k2), rfl, I1.le (keeps_le k2)⟩

/-- between the turns of a for over a range -/
inductive RngAt {σ : Type} (F : Frm) (own : List Nm) (st : Nat → σ → List (Nm × D)) (p : Nat → σ → Prop) (N : Nat) (It : Addr) (s : Shared) (m : Nat) (s' : Shared) : Prop
  | mk (i : Nat) (z : σ) (le : i ≤ N) (em : m = N + 1 - i) (sr : SR s s') (it : IsRangeIter s'.heap It (0 + (i : Int) * 1) ((N : Int) - (i : Int)) 1) (hz : p i z) (iv : Inv F (st i z) own s'.heap)

/-- for x in range(e): the state between the turns is a choice of σ -/
theorem Stm.forRange {σ : Type} {x : Nm} {px npos ipos pos : Pos} {e : Expr} {k : Int} {body : List Stmt} (O : ROk n T F) (S : SOk F) (hr : Ev prog w F ρ (.Name (Str.ofString "range") npos) (.val (.type "range"))) (he : Ev prog w F ρ e (DI k)) (h0 : -(2 ^ 62) ≤ k) (h1 : k < 2 ^ 62)
    (st : Nat → σ → List (Nm × D)) (p : Nat → σ → Prop) (x0 : σ) (hp0 : p 0 x0) (hst0 : Sub (st 0 x0) ρ) (hx : Bound F.env x) (hxo : x ∉ own)
    (hb : ∀ (i : Nat) (y : σ), (i : Int) < k → p i y → Blk prog w F body (Inv F ((x, DI i) :: st i y) own) (nextP fun h => ∃ z, p (i + 1) z ∧ Inv F (st (i + 1) z) own h))
    (hs : ∀ rest, starEach (e :: rest) F.env = (false, eval e F.env) :: starEach rest F.env := by intro _; rfl) :
    Stm prog w F (.For (.Name x.s px) (.Call (.Name (Str.ofString "range") npos) [e] [] ipos) body [] pos) (Inv F ρ own) (nextP fun h => ∃ z, p k.toNat z ∧ Inv F (st k.toNat z) own h) := by
  refine ⟨fun s I => ?_⟩
  refine wpAny_For (wpAny_mono (range_eval O hr he hs I.read) ?_ fun _ _ x => x) (by intro _; rfl)
  rintro _ s₁ ⟨k1, r, t, u, tx, rfl, hR⟩
  refine wpAny_pyIter_range hR (small_one (by decide) (by decide) h0 h1) ?_
  have W := walk_range (prog := prog) (w := w) (A := F.A) O.room.hh (s₁ := s₁) h1
  obtain ⟨⟨fp, P, Wk, hfp, hP⟩, hle, hst, hlive⟩ := W
  generalize hs2 : ({ s₁ with heap := s₁.heap.push { cls := .type "range_iterator", data := .fields #[rawInt 0, rawInt (Builtin.Range.rangeSize 0 k 1), rawInt 1] } } : Shared) = s₂ at *
  have hs2h : s₂.heap = s₁.heap.push { cls := .type "range_iterator", data := .fields #[rawInt 0, rawInt (Builtin.Range.rangeSize 0 k 1), rawInt 1] } := by rw [← hs2]
  have hsr2 : SR s s₂ := (SR.of k1).trans (by rw [← hs2]; exact SR.mk' (FK.of (le_push _)))
  have I2 : Inv F (st 0 x0) own s₂.heap := by
    rw [hs2h]; exact ((I.le (keeps_le k1)).le (le_push _)).sub hst0
  generalize hIt : s₁.heap.objs.size = It at *
  have hItF : F.base.get? It = none := none_of_le (I.1.trans (keeps_le k1)) (hIt ▸ none_size _)
  have hItS : s.heap.get? It = none := none_of_le (keeps_le k1) (hIt ▸ none_size _)
  rw [rng_length] at Wk
  -- the iterator's own object is touched by a turn alone
  have off : ∀ {own : List Nm} {ρ : List (Nm × D)} {i : Nat} {h h' : Heap}, IsRangeIter h It (0 + (i : Int) * 1) ((k.toNat : Int) - (i : Int)) 1 → (∀ b o, b ∉ [It] → h.get? b = some o → h'.get? b = some o) → Inv F ρ own h → Inv F ρ own h' := by
    intro own ρ i h h' hi hk J
    have hx' : Heap.ExtBut It h h' := fun b o hb e => hk b o (by simpa using hb) e
    have hq : ¬ SeqAt h It := by rintro ⟨o, xs, m, ho, hd⟩; rw [hi] at ho; cases ho; cases hd
    obtain ⟨a, m, cm, adr, b, c, l, e⟩ := J
    refine ⟨fun b o q => hx' b o (ne_of_none hItF q) (a b o q), m, cm, adr, b.extBut hx' ?_, fun nm c' q => ?_, fun y hy => ?_, fun y d q => ?_⟩
    · rintro q
      obtain ⟨o, es, ep, ho, hd, _⟩ := b
      rw [q, hi] at ho; cases ho; cases hd
    · obtain ⟨o, ho, hd⟩ := c nm c' q
      exact ⟨o, hx' c' o (fun z => by rw [z, hi] at ho; cases ho; cases hd) ho, hd⟩
    · obtain ⟨⟨o, xs, m', ho, hd⟩, hg⟩ := l y hy
      exact ⟨⟨o, xs, m', hx' _ o (fun q => hq (q ▸ (l y hy).1)) ho, hd⟩, hg⟩
    · obtain ⟨v, h1, h2, h3⟩ := e y d q
      exact ⟨v, h1, h2.extBut hx' hq, h3⟩
  refine codeAny_forLoop_any (RngAt F own st p k.toNat It s) ?_ (k.toNat + 1)
    ⟨0, x0, Nat.zero_le _, rfl, hsr2, hst, hp0, I2⟩
  rintro m s3 ⟨i, z, hi, rfl, sr3, hit, hz, I3⟩
  by_cases hlt : i < k.toNat
  · refine Wk.item i s3 _ _ hlt hit fun v h₄ tk₄ hPv hst₄ hk₄ => ?_
    obtain ⟨y, hy, t', hv⟩ := hP i v (by rw [rng_length]; exact hlt) hPv
    rw [rng_get hlt] at hy
    cases hy
    subst hv
    have I4 := off hit hk₄ I3
    refine wpAny_of_eq (a := ()) rfl (wpAny_assign_Name (wpAny_mono (Inv.store (s := { s3 with heap := h₄, toks := tk₄ }) (d := DI i) (P := fun _ => False) S O.kind hx hxo I4 (Le.refl _) ⟨t', rfl⟩ (.inr fun _ h => h.elim)) ?_ fun _ _ x => x.elim))
    rintro _ s5 ⟨sr5, I5⟩
    refine wpAny_mono ((hb i z (by omega) hz).run s5 I5) ?_ fun _ _ x => x.elim
    rintro f s6 ⟨sr6, rfl, z', hz', I6⟩
    have hFK : FK s.heap h₄ := fun b o vs e q => hk₄ b o (by
      intro hb
      rw [List.mem_singleton.mp hb] at e
      rw [hItS] at e; cases e) (sr3.2 b o vs e q)
    have hit6 : IsRangeIter s6.heap It (0 + ((i + 1 : Nat) : Int) * 1) ((k.toNat : Int) - ((i + 1 : Nat) : Int)) 1 := sr6.2 _ _ _ (sr5.2 _ _ _ hst₄ rfl) rfl
    refine ⟨k.toNat + 1 - (i + 1), by omega, i + 1, z', hlt, rfl, (SR.trans (b := { s3 with heap := h₄, toks := tk₄ }) ⟨by obtain ⟨⟨h, t, rfl⟩, _⟩ := sr3; exact ⟨_, _, rfl⟩, hFK⟩ sr5).trans sr6, hit6, hz', I6⟩
  · have hin : i = k.toNat := by omega
    subst hin
    refine Wk.done s3 _ _ hit fun h₄ tk₄ hk₄ => ?_
    have hFK : FK s.heap h₄ := fun b o vs e q => hk₄ b o (by
      intro hb
      rw [List.mem_singleton.mp hb] at e
      rw [hItS] at e; cases e) (sr3.2 b o vs e q)
    refine wpAny_execs_nil ⟨⟨by obtain ⟨⟨h, t, rfl⟩, _⟩ := sr3; exact ⟨_, _, rfl⟩, hFK⟩, rfl, z, hz, off hit hk₄ I3⟩
end
end Mine
namespace Mine

section
variable {prog : Program} {w : World} {A : Around} {E : Value → Shared → Prop} {s : Shared}
theorem setItem_plain {l : Addr} {items : Array Value} {k : Int} {t : Tok} {v : Value} {Q : Unit → Shared → Prop} (hl : s.heap.PlainList l items)
    (h0 : 0 ≤ k) (hfit : k < 2 ^ 63) (hn : k < items.size)
    (hQ : ∀ h', h'.PlainList l (items.setIfInBounds k.toNat v) → Heap.SameBut l s.heap h' → Q () { s with heap := h' }) :
    wpAny (model prog w) A (setItem (.ref l) (.int k t) v) Q E s := by
  obtain ⟨ne, ho⟩ := id hl
  have hd : ({ cls := .type "list", data := .seq items ne } : Obj).data = .seq items ne := rfl
  unfold setItem
  try with_reducible refine wpAny_holding ?_
  first | refine wpAny_bind (wpAny_pure ?_) | skip
  refine wpAny_bind (wpAny_sequenceKey hl.isList.typeIs (by decide) ?_)
  refine wpAny_bind (wpAny_callSpecial?_slot (name := Str.ofString "__setitem__") hl.isList.typeIs slot_list_setitem
    (wpAny_call_entry slot_list_setitem hl.isList.typeIs entry_list_setitem ?_ (args_list_setitem _ _ _)))
  show wpAny _ _ (Builtin.List.listSubscript? (.int k t) >>= _) _ _ s
  refine wpAny_bind (wpAny_listSubscript_int (fitsIndex_of h0 hfit) ?_)
  clear hfit
  obtain ⟨j, rfl⟩ := Int.eq_ofNat_of_zero_le h0
  have hj : j < items.size := by omega
  have hx' : items[j]? = some items[j] := Array.getElem?_eq_getElem hj
  show wpAny _ _ ((seqItemAt l j >>= fun r => pure (r.map (j, ·))) >>= _) _ _ s
  refine wpAny_bind (wpAny_bind (wpAny_seqItemAt ho hd (wpAny_pure ?_)))
  rw [hx']
  show wpAny _ _ (setSeqItemAt l j v >>= _) _ _ s
  have hfin : (s.heap.update l (Obj.mapSeq (·.setIfInBounds j v))).PlainList l (items.setIfInBounds j v) := ⟨_, PySem.IsL.update ho _⟩
  refine wpAny_bind (wpAny_setSeqItemAt ho hd ?_)
  first
    | exact wpAny_bind (wpAny_pure (wpAny_pure ⟨.none, rfl, wpAny_pure (hQ _ hfin (Heap.SameBut.update ..))⟩))
    | exact wpAny_pure ⟨.none, rfl, wpAny_pure (hQ _ hfin (Heap.SameBut.update ..))⟩
end

section
variable {prog : Program} {w : World} {F : Frm} {ρ ρf : List (Nm × D)} {T : TopAt} {n : Nat} {own : List Nm}

theorem has_bound {env : Env} {m cm : Str → Option Value} {x : Str} {u v : Value} (h1 : Has env m cm x u) (h2 : Has env m cm x v) : u = v := by
  cases h1 with
  | loc a b =>
    cases h2 with
    | loc c d => rw [b] at d; cases d; rfl
    | cell c d _ _ => rw [a] at d; cases d
  | cell c a b e =>
    cases h2 with
    | loc c d => rw [a] at c; cases c
    | cell c d f g => rw [e] at g; cases g; rfl

structure Owned (prog : Program) (w : World) (F : Frm) {β : Type} (kd : Kd β) (ρ : List (Nm × D)) (own : List Nm) (x : Nm) (bs : List β) (h : Heap) (a : Addr) (vs : List Value) : Prop where
  list : h.PlainList a vs.toArray
  items : Paired (fun v b => Rep (fun _ => True) h v (kd.one b)) vs bs
  name : ∀ s pos (Q : Value → Shared → Prop) E, Le h s.heap → (x.s == ("__debug__" : Str)) = false → Q (.ref a) s → wpAny (model prog w) F.A (eval (.Name x.s pos) F.env) Q E s
  turn : ∀ h1 h' bs' (vs' : List Value), Le h h1 → Heap.SameBut a h1 h' → h'.PlainList a vs'.toArray → Paired (fun v b => ∀ P, Rep P h' v (kd.one b)) vs' bs' → Inv F ((x, kd.many bs') :: ρ) own h'

theorem Inv.ownd {β : Type} {kd : Kd β} {x : Nm} {bs : List β} {h : Heap} (O : ROk n T F) (S : SOk F) (I : Inv F ρ own h) (hx : x ∈ own) (hl : lk ρ x = some (kd.many bs)) :
    ∃ a vs, Owned prog w F kd ρ own x bs h a vs := by
  obtain ⟨ha, m, cm, adr, hb, hc, hlv, he⟩ := I
  obtain ⟨v, h1, h2, h3⟩ := he x _ hl
  have hv := h3 hx
  obtain ⟨a, vs, e, hPa, hpl, hp⟩ := kd.un _ _ _ _ h2
  rw [hv] at e
  cases e
  have hseq : SeqAt h (adr x) := (hlv x hx).1
  have hbase : F.base.get? (adr x) = none := (hlv x hx).2
  refine ⟨adr x, vs, hpl, paired_mono (fun _ _ r => r.any) hp, ?_, ?_⟩
  · intro s pos Q E k hd hQ
    rw [hv] at h1
    cases h1 with
    | loc hk' hv' => exact wpAny_Name (wpAny_loadName_local O.kind hk' (hb.keeps k) hv' hQ) hd
    | cell c hk' hc' hv' => exact wpAny_Name (wpAny_loadName_cell O.kind hk' hc' (hv' ▸ (hc _ c hc').keeps k) hQ) hd
  · intro h1' h' bs' vs' k hs hpl' hp'
    have hL : F.env.locals ≠ adr x := fun q => not_seq_of_ns hb (q ▸ hseq)
    have up : ∀ b o, b ≠ adr x → h.get? b = some o → h'.get? b = some o := fun b o q e => hs.extBut b o q (k b o e)
    refine ⟨fun b o q => up b o (ne_of_none hbase q) (ha b o q), m, cm, adr, (hb.keeps k).sameBut hs hL, fun nm c q => ?_, fun y hy => ?_, fun y d hy => ?_⟩
    · have q1 := hc nm c q
      exact (q1.keeps k).sameBut hs (fun q2 => not_seq_of_cell q1 (q2 ▸ hseq))
    · by_cases q : adr y = adr x
      · rw [q]; obtain ⟨kk, e⟩ := hpl'; exact ⟨⟨_, _, _, e, rfl⟩, hbase⟩
      · obtain ⟨⟨o, xs, mm, ho, hd⟩, hg⟩ := hlv y hy
        exact ⟨⟨o, xs, mm, up _ o q ho, hd⟩, hg⟩
    · unfold lk at hy
      by_cases q : y = x
      · rw [if_pos q] at hy
        cases hy
        subst q
        exact ⟨v, h1, by rw [hv]; exact kd.mkr _ _ _ vs' _ hPa hpl' (paired_mono (fun _ _ r => r _) hp'), h3⟩
      · rw [if_neg q] at hy
        obtain ⟨u, g1, g2, g3⟩ := he y d hy
        refine ⟨u, g1, g2.to fun b o hpb e => ⟨up b o (hpb x hx (Ne.symm q)) e, hpb⟩, g3⟩

/-- x.append(e) -/
theorem Stm.append {x : Nm} {e : Expr} {ns : List Int} {k : Int} {npos apos cpos pos : Pos} (O : ROk n T F) (S : SOk F) (hxo : x ∈ own) (hl : lk ρ x = some (.ints ns)) (he : Ev prog w F ρ e (DI k)) (hz : ns.length ≤ 1000)
    (hs : ∀ rest, starEach (e :: rest) F.env = (false, eval e F.env) :: starEach rest F.env := by intro _; rfl)
    (hd : (x.s == ("__debug__" : Str)) = false := by decide)
    (hline : (apos.endLine == cpos.line) = true := by rfl)
    (hi : interactive F.env = false := by rfl) :
    Stm prog w F (.Expr (.Call (.Attribute (.Name x.s npos) (Str.ofString "append") apos) [e] [] cpos) pos) (Inv F ρ own) (nextP (Inv F ((x, .ints (ns ++ [k])) :: ρ) own)) := by
  refine ⟨fun s I => ?_⟩
  obtain ⟨a, vs, W⟩ := Inv.ownd (prog := prog) (w := w) (kd := kInt) O S I hxo hl
  refine wpAny_Expr (wpAny_Call_method rfl ?_ hline PySem.F.plainAttrs_list PySem.F.slot_list_append PySem.F.type_list_append (W.name s npos _ _ (Le.refl _) hd ?_)) hi rfl
  · have : starEach [e] F.env = [(false, eval e F.env)] := by rw [hs]; rfl
    rw [this]; rfl
  · obtain ⟨q, hq⟩ := id W.list
    refine ⟨⟨_, hq, rfl⟩, fun b e => by cases e; exact ⟨_, hq, rfl⟩, ?_⟩
    have p : EvAll prog w F ρ [e] [DI k] := .cons he hs .nil
    refine Calls.callWith_builtin p.plain ?_
    have hev := p.eval (pos := cpos) I.read
    have hse : starEach [e] F.env = (false, eval e F.env) :: starEach [] F.env := hs []
    rw [hse] at hev ⊢
    refine Calls.evalArgs_plain (wpAny_mono hev ?_ fun _ _ x => x.elim)
    rintro us s1 ⟨k1, r1⟩
    obtain ⟨_, rfl, t, rfl⟩ := pair1 r1
    have hpl : s1.heap.PlainList a vs.toArray := ⟨q, keeps_le k1 _ _ hq⟩
    refine wpAny_list_append_plain (x := .int k t) hpl (fun h' hl' hs' => ?_) (by rw [List.size_toArray, paired_length W.items]; exact Nat.le_trans hz (by decide))
    obtain ⟨h1, t1, rfl, kk⟩ := id k1
    refine ⟨⟨⟨_, _, rfl⟩, (FK.of kk).trans (FK.seq hs'.extBut ⟨_, _, _, keeps_le k1 _ _ hq, rfl⟩)⟩, rfl, ?_⟩
    refine W.turn h1 h' (ns ++ [k]) (vs ++ [.int k t]) kk hs' (by simpa using hl') ?_
    refine Paired.snoc (paired_mono ?_ W.items) fun P => ⟨t, rfl⟩
    rintro v b ⟨t', rfl⟩ P
    exact ⟨t', rfl⟩

/-- y = x.pop(e) -/
theorem Stm.pop {x y : Nm} {e : Expr} {ns : List Int} {k : Int} {npos apos cpos ypos pos : Pos} (O : ROk n T F) (S : SOk F) (hxo : x ∈ own) (hyo : y ∉ own) (hy : Bound F.env y) (hl : lk ρ x = some (.ints ns)) (he : Ev prog w F ρ e (DI k)) (h0 : 0 ≤ k) (h1 : k < ns.length) (hz : ns.length ≤ 1000)
    (hs : ∀ rest, starEach (e :: rest) F.env = (false, eval e F.env) :: starEach rest F.env := by intro _; rfl)
    (hd : (x.s == ("__debug__" : Str)) = false := by decide)
    (hline : (apos.endLine == cpos.line) = true := by rfl) :
    Stm prog w F (.Assign [.Name y.s ypos] (.Call (.Attribute (.Name x.s npos) (Str.ofString "pop") apos) [e] [] cpos) pos) (Inv F ρ own) (nextP (Inv F ((y, DI (ns.getD k.toNat 0)) :: (x, .ints (ns.eraseIdx k.toNat)) :: ρ) own)) := by
  refine ⟨fun s I => ?_⟩
  obtain ⟨a, vs, W⟩ := Inv.ownd (prog := prog) (w := w) (kd := kInt) O S I hxo hl
  refine wpAny_Assign_Name (wpAny_Call_method rfl ?_ hline PySem.F.plainAttrs_list PySem.F.slot_list_pop PySem.F.type_list_pop (W.name s npos _ _ (Le.refl _) hd ?_)) rfl
  · have : starEach [e] F.env = [(false, eval e F.env)] := by rw [hs]; rfl
    rw [this]; rfl
  · obtain ⟨q, hq⟩ := id W.list
    refine ⟨⟨_, hq, rfl⟩, fun b e => by cases e; exact ⟨_, hq, rfl⟩, ?_⟩
    have p : EvAll prog w F ρ [e] [DI k] := .cons he hs .nil
    refine Calls.callWith_builtin p.plain ?_
    have hev := p.eval (pos := cpos) I.read
    have hse : starEach [e] F.env = (false, eval e F.env) :: starEach [] F.env := hs []
    rw [hse] at hev ⊢
    refine Calls.evalArgs_plain (wpAny_mono hev ?_ fun _ _ x => x.elim)
    rintro us s1 ⟨k1, r1⟩
    obtain ⟨_, rfl, t, rfl⟩ := pair1 r1
    have hq1 := keeps_le k1 _ _ hq
    have hlen := paired_length W.items
    have hi : IntsAre vs ns := intsAre_of_paired (paired_mono (fun _ _ r => r) W.items)
    obtain ⟨tt, hget⟩ := intsAre_get (k := k.toNat) hi (by omega)
    have hkn : seqIndex? k vs.toArray.size = some k.toNat := seqIndex_of h0 (by rw [List.size_toArray, hlen]; exact h1)
    refine call_meets PySem.F.slot_list_pop ⟨_, hq1, rfl⟩ PySem.F.entry_list_pop (PySem.F.args_list_pop_2 _ _) (PySem.MeetsSeq.list_pop_at a _ q k t k.toNat _ (fitsIndex_of h0 (by omega)) hkn (by simpa using hget) (by rw [List.size_toArray, hlen]; exact Nat.le_trans hz (by decide))) ⟨hq1, ?_⟩
    have hup : (s1.heap.update a (Obj.mapSeq fun xs => xs.eraseIdxIfInBounds k.toNat)).PlainList a (vs.eraseIdx k.toNat).toArray := by
      have := PySem.IsL.update (h := s1.heap) hq1 (fun xs => xs.eraseIdxIfInBounds k.toNat)
      have e2 : vs.toArray.eraseIdxIfInBounds k.toNat = (vs.eraseIdx k.toNat).toArray := by simp
      rw [e2] at this
      exact ⟨_, this⟩
    have hsame := Heap.SameBut.update s1.heap a (Obj.mapSeq fun xs => xs.eraseIdxIfInBounds k.toNat)
    obtain ⟨h1', t1, rfl, kk⟩ := id k1
    have J : Inv F ((x, .ints (ns.eraseIdx k.toNat)) :: ρ) own (h1'.update a (Obj.mapSeq fun xs => xs.eraseIdxIfInBounds k.toNat)) := by
      refine W.turn h1' _ (ns.eraseIdx k.toNat) (vs.eraseIdx k.toNat) kk hsame hup ?_
      have er : ∀ {vs : List Value} {ns : List Int} (j : Nat), Paired (fun v b => ∀ P, Rep P (h1'.update a (Obj.mapSeq fun xs => xs.eraseIdxIfInBounds k.toNat)) v (kInt.one b)) vs ns → Paired (fun v b => ∀ P, Rep P (h1'.update a (Obj.mapSeq fun xs => xs.eraseIdxIfInBounds k.toNat)) v (kInt.one b)) (vs.eraseIdx j) (ns.eraseIdx j) := by
        intro vs ns j h
        induction h generalizing j with
        | nil => exact .nil
        | cons h t ih =>
          cases j with
          | zero => exact t
          | succ j => exact .cons h (ih j)
      refine er _ (paired_mono ?_ W.items)
      rintro v b ⟨t', rfl⟩ P
      exact ⟨t', rfl⟩
    refine wpAny_mono (Inv.store (s := { s with heap := h1'.update a (Obj.mapSeq fun xs => xs.eraseIdxIfInBounds k.toNat), toks := t1 }) (d := DI (ns.getD k.toNat 0)) (P := fun _ => False) S O.kind hy hyo J (Le.refl _) ⟨tt, rfl⟩ (.inr fun _ h => h.elim)) ?_ fun _ _ x => x
    rintro _ s2 ⟨sr, J2⟩
    refine ⟨SR.trans (b := { s with heap := h1'.update a (Obj.mapSeq fun xs => xs.eraseIdxIfInBounds k.toNat), toks := t1 }) ⟨⟨_, _, rfl⟩, (FK.of kk).trans (FK.seq hsame.extBut ⟨_, _, _, hq1, rfl⟩)⟩ sr, rfl, J2⟩

/-- x[i] = e, a list of texts -/
theorem Stm.setS {x : Nm} {e i : Expr} {ss : List Str} {k : Int} {y : Str} {npos spos pos : Pos} (O : ROk n T F) (S : SOk F) (hxo : x ∈ own) (hl : lk ρ x = some (.strs ss)) (he : Ev prog w F ρ e (DS y)) (hi : Ev prog w F ρ i (DI k)) (h0 : 0 ≤ k) (h1 : k < ss.length) (hz : ss.length ≤ 1000)
    (hsw : swapsWith e (some (.Subscript (.Name x.s npos) i spos)) pos.line F.env = pure false)
    (hd : (x.s == ("__debug__" : Str)) = false := by decide) :
    Stm prog w F (.Assign [.Subscript (.Name x.s npos) i spos] e pos) (Inv F ρ own) (nextP (Inv F ((x, .strs (ss.set k.toNat y)) :: ρ) own)) := by
  refine ⟨fun s I => ?_⟩
  obtain ⟨a, vs, W⟩ := Inv.ownd (prog := prog) (w := w) (kd := kStr) O S I hxo hl
  refine wpAny_Assign_Subscript (wpAny_mono (he.run s I.read) ?_ fun _ _ x => x) hsw
  rintro _ s1 ⟨k1, t, rfl⟩
  refine W.name s1 npos _ _ (keeps_le k1) hd (wpAny_mono (hi.run s1 (I.read.le (keeps_le k1))) ?_ fun _ _ x => x)
  rintro _ s2 ⟨k2, u, rfl⟩
  obtain ⟨q, hq⟩ := id W.list
  have k12 := keeps_trans k1 k2
  have hq2 := keeps_le k12 _ _ hq
  have hlen := paired_length W.items
  refine setItem_plain ⟨q, hq2⟩ h0 (by omega) (by rw [List.size_toArray, hlen]; exact h1) fun h' hl' hs' => ?_
  obtain ⟨h1', t1, rfl, kk⟩ := id k12
  refine ⟨⟨⟨_, _, rfl⟩, (FK.of kk).trans (FK.seq hs'.extBut ⟨_, _, _, hq2, rfl⟩)⟩, rfl, ?_⟩
  refine W.turn h1' h' (ss.set k.toNat y) (vs.set k.toNat (.str y t)) kk hs' (by simpa using hl') ?_
  have er : ∀ {vs : List Value} {ns : List Str} (j : Nat), Paired (fun v b => ∀ P, Rep P h' v (kStr.one b)) vs ns → Paired (fun v b => ∀ P, Rep P h' v (kStr.one b)) (vs.set j (.str y t)) (ns.set j y) := by
    intro vs ns j h
    induction h generalizing j with
    | nil => exact .nil
    | cons h r ih =>
      cases j with
      | zero => exact .cons (fun P => ⟨t, rfl⟩) r
      | succ j => exact .cons h (ih j)
  refine er _ (paired_mono ?_ W.items)
  rintro v b ⟨t', rfl⟩ P
  exact ⟨t', rfl⟩
end
end Mine
namespace Mine

section
variable {prog : Program} {w : World} {F : Frm} {ρ ρf : List (Nm × D)} {T : TopAt} {n : Nat} {own : List Nm}

theorem Inv.shrink {own' : List Nm} {h : Heap} (I : Inv F ρ own h) (hs : ∀ y ∈ own', y ∈ own) : Inv F ρ own' h := by
  obtain ⟨a, m, cm, adr, b, c, l, e⟩ := I
  exact ⟨a, m, cm, adr, b, c, fun y hy => l y (hs y hy), fun y d q => let ⟨v, h1, h2, h3⟩ := e y d q; ⟨v, h1, h2.mono (fun b' hb z hz => hb z (hs z hz)), fun hy => h3 (hs y hy)⟩⟩
theorem Blk.shrink {own' : List Nm} {ss : List Stmt} {post : Flow → Heap → Prop} (h : Blk prog w F ss (Inv F ρ own') post) (hs : ∀ y ∈ own', y ∈ own) : Blk prog w F ss (Inv F ρ own) post := h.pre fun _ I => I.shrink hs

theorem Ts.int {e : Expr} {a : Int} (h : Ev prog w F ρ e (DI a)) (he : isTrue e F.env (eval e F.env) = (do let v ← eval e F.env; standAt e.pos; holding [v] (truthy v)) := by rfl) : Ts prog w F ρ e (a != 0) := by
  refine ⟨fun s I => ?_⟩
  refine wpAny_isTrue_value (wpAny_mono (h.run s I) ?_ fun _ _ x => x) he
  rintro v s1 ⟨k1, t, rfl⟩
  exact PyProof.Rows.truthy_int ⟨k1, rfl⟩
theorem Ts.of {e : Expr} {a b : Bool} (h : Ts prog w F ρ e a) (q : a = b) : Ts prog w F ρ e b := q ▸ h
theorem EvP.of {e : Expr} {P : Heap → Addr → Prop} {d d' : D} (h : EvP prog w F ρ e P d) (q : d = d') : EvP prog w F ρ e P d' := q ▸ h

/-- x op= e on ints -/
theorem Stm.aug {x : Nm} {e : Expr} {op : Operator} {a b c : Int} {px pos : Pos} (O : ROk n T F) (S : SOk F) (h0 : lk ρ x = some (DI a)) (he : Ev prog w F ρ e (DI b)) (hl : F.env.kindOf x.s = some .local) (hxo : x ∉ own)
    (H : ∀ (s : Shared) t u (Q : Value → Shared → Prop) E, Q (.int c s.toks) { s with toks := s.toks + 1 } → wpAny (model prog w) F.A (inplaceOp op (.int a t) (.int b u)) Q E s) :
    Stm prog w F (.AugAssign (.Name x.s px) op e pos) (Inv F ρ own) (nextP (Inv F ((x, DI c) :: ρ) own)) := by
  refine ⟨fun s I => ?_⟩
  obtain ⟨_, m, cm, adr, hn, _, _, hv⟩ := id I
  obtain ⟨v, hh, ⟨t, rfl⟩, _⟩ := hv x _ h0
  have hm : m x.s = some (.int a t) := by
    cases hh with
    | loc _ q => exact q
    | cell c q _ _ => rw [hl] at q; cases q
  refine wpAny_AugAssign_Name (wpAny_loadName_local O.kind hl hn hm (wpAny_mono (he.run s I.read) ?_ fun _ _ x => x))
  rintro _ s1 ⟨k1, u, rfl⟩
  refine H s1 t u _ _ ?_
  refine wpAny_mono (Inv.store (s := { s1 with toks := s1.toks + 1 }) (d := DI c) (P := fun _ => False) S O.kind (.inl hl) hxo I (show Le s.heap s1.heap from keeps_le k1) ⟨_, rfl⟩ (.inr fun _ h => h.elim)) ?_ fun _ _ x => x
  rintro _ s2 ⟨sr, J⟩
  exact ⟨((SR.of k1).trans (SR.mk' (FK.refl _))).trans sr, rfl, J⟩
theorem Stm.augSub {x : Nm} {e : Expr} {a b : Int} {px pos : Pos} (O : ROk n T F) (S : SOk F) (h0 : lk ρ x = some (DI a)) (he : Ev prog w F ρ e (DI b)) (hl : F.env.kindOf x.s = some .local) (hxo : x ∉ own) :
    Stm prog w F (.AugAssign (.Name x.s px) .Sub e pos) (Inv F ρ own) (nextP (Inv F ((x, DI (a - b)) :: ρ) own)) :=
  Stm.aug O S h0 he hl hxo fun _ _ _ _ _ h => PyProof.Rows.isub_int h
theorem Stm.augDiv {x : Nm} {e : Expr} {a b : Int} {px pos : Pos} (O : ROk n T F) (S : SOk F) (h0 : lk ρ x = some (DI a)) (he : Ev prog w F ρ e (DI b)) (hl : F.env.kindOf x.s = some .local) (hxo : x ∉ own) (hb : b ≠ 0) (hp : Builtin.divisionGoesByPylong a b = false) :
    Stm prog w F (.AugAssign (.Name x.s px) .FloorDiv e pos) (Inv F ρ own) (nextP (Inv F ((x, DI (a.fdiv b)) :: ρ) own)) :=
  Stm.aug O S h0 he hl hxo fun _ _ _ _ _ h => PyProof.Rows.ifloordiv_int hb h (.inl hp)

/-! a def of the text -/
structure FnAt (T : TopAt) (a : Addr) (name : Str) (params : Arguments) (body : List Stmt) (scope : Scope) (cd : Value) : Prop where
  obj : ∃ o pm doc, T.h0.get? a = some o ∧ o.data = .func (Calls.docDef name params body scope pm cd doc)
  code : T.h0.CodeRec cd name
theorem FnAt.kpr {a : Addr} {name : Str} {params : Arguments} {body : List Stmt} {scope : Scope} {cd : Value} (f : FnAt T a name params body scope cd) : Kpr prog w T (.ref a) := by
  obtain ⟨o, pm, doc, h1, h2⟩ := f.obj
  exact Kpr.fn h1 h2

/-- a callee's frame -/
noncomputable abbrev dF (A : Around) (name : Str) (scope : Scope) (a : Addr) (cd : Value) (h : Heap) : Frm :=
  ⟨A.deeper (envOf name scope h.objs.size a cd), envOf name scope h.objs.size a cd, h⟩

theorem lk_zip {m : Str → Option Value} {h : Heap} : ∀ {ns : List Nm} {ds : List D} {vs : List Value}, Paired (Rep (fun _ => True) h) vs ds → ns.length = vs.length → ns.Nodup →
    ∀ x d, lk (ns.zip ds) x = some d → x ∈ ns ∧ ∃ v, ((ns.map Nm.s).zip vs).lookup x.s = some v ∧ Rep (fun _ => True) h v d := by
  intro ns
  induction ns with
  | nil => intro ds vs _ _ _ x d h; cases h
  | cons y ns ih =>
    intro ds vs p hl hn x d hx
    cases p with
    | nil => cases hl
    | @cons v e vs ds r p =>
      show x ∈ y :: ns ∧ ∃ u, ((y.s, v) :: ((ns.map Nm.s).zip vs)).lookup x.s = some u ∧ _
      have hx' : lk ((y, e) :: ns.zip ds) x = some d := hx
      unfold lk at hx'
      by_cases q : x = y
      · rw [if_pos q] at hx'
        cases hx'
        subst q
        exact ⟨.head _, v, by rw [List.lookup_cons, beq_self_eq_true], r⟩
      · rw [if_neg q] at hx'
        obtain ⟨h1, u, h2, h3⟩ := ih p (by simpa using hl) (List.nodup_cons.mp hn).2 x d hx'
        refine ⟨.tail _ h1, u, ?_, h3⟩
        have : (x.s == y.s) = false := by simpa using fun e => q (Nm.inj e)
        rw [List.lookup_cons, this]; exact h2

theorem of_len1 {P : List Value → Prop} (h : ∀ a, P [a]) : ∀ vs : List Value, vs.length = 1 → P vs
  | [a], _ => h a
  | [], e => nomatch e
  | _ :: _ :: _, e => nomatch e
theorem of_len2 {P : List Value → Prop} (h : ∀ a b, P [a, b]) : ∀ vs : List Value, vs.length = 2 → P vs
  | [a, b], _ => h a b
  | [], e => nomatch e
  | [_], e => nomatch e
  | _ :: _ :: _ :: _, e => nomatch e
theorem Fun.def {name : Str} {params : Arguments} {body : List Stmt} {scope : Scope} {cd : Value} {a : Addr} {ds : List D} {d : D} (ns : List Nm)
    (f : FnAt T a name params body scope cd) (hps : params.args.map (·.arg) = ns.map Nm.s) (hl : ns.length = ds.length) (hnd : ns.Nodup)
    (hbind : ∀ pm doc vs, vs.length = ns.length → bindArgs (Calls.docDef name params body scope pm cd doc) ⟨vs, []⟩ = pure ((params.args.map (·.arg)).zip vs))
    (hloc : ∀ x ∈ ns, scope.names.lookup x.s = some .local)
    (hb : ∀ A h, ROk n T (dF A name scope a cd h) → SOk (dF A name scope a cd h) → Blk prog w (dF A name scope a cd h) body (Inv (dF A name scope a cd h) (ns.zip ds) []) (RetP (dF A name scope a cd h) d))
    (hco : scope.isCoroutine = false := by rfl) (hgen : scope.isGenerator = false := by rfl) (hk : scope.kind = .function := by rfl)
    (hcell : ∀ x ∈ scope.names, x.2 ≠ .cell := by decide) : Fun prog w (n + 1) T (.ref a) ds d := by
  intro A s vs hroom hle hp
  obtain ⟨o, pm, doc, h1, h2⟩ := f.obj
  obtain ⟨mg, mb, _, _, hlim, _⟩ := T.tops.le hle
  have hlen : vs.length = ns.length := hp.length.trans hl.symm
  refine wpAny_call (call_pos_ret hroom.d (hle _ _ h1) h2 hlim (f.code.keeps hle) (hbind pm doc vs hlen) ?_ ?_ hco hgen hk hcell)
  · intro x hx
    rw [hps] at hx
    have := (List.of_mem_zip hx).1
    obtain ⟨y, hy, e⟩ := List.mem_map.mp this
    rw [← e]; exact hloc y hy
  · intro h₁ fr
    have O : ROk n T (dF A name scope a cd s.heap) := ⟨hk, rfl, rfl, hroom.deeper _, hle⟩
    have S : SOk (dF A name scope a cd s.heap) := ⟨none_size _, fun n c e => (nomatch e), fun n n' c e => (nomatch e)⟩
    have I : Inv (dF A name scope a cd s.heap) (ns.zip ds) [] h₁ := by
      refine ⟨fr.keep, _, fun _ => none, fun _ => 0, fr.ns, fun n c e => (nomatch e), fun _ hy => (nomatch hy), fun x d hx => ?_⟩
      obtain ⟨g1, v, g2, g3⟩ := lk_zip (m := fun _ => none) hp hlen.symm hnd x d hx
      refine ⟨v, .loc (hloc x g1) ?_, (g3.le fr.keep).mono fun _ _ y hy => (nomatch hy), fun hx => (nomatch hx)⟩
      show ((params.args.map (·.arg)).zip vs).reverse.lookup x.s = some v
      rw [hps, lookup_reverse_nodup]
      · exact g2
      · have : ((ns.map Nm.s).zip vs).map (·.1) = ns.map Nm.s := List.map_fst_zip (by simp [hlen])
        rw [this]
        exact hnd.map (f := Nm.s) (fun a b hab e => hab (Nm.inj e))
    refine wpAny_mono ((hb A s.heap O S).run { s with heap := h₁, toks := _ } I) ?_ fun _ _ x => x
    rintro _ s' ⟨sr, v, rfl, hle', r⟩
    obtain ⟨⟨h', t', rfl⟩, _⟩ := sr
    exact ⟨keeps_heap hle', r⟩
end
end Mine
namespace Mine

noncomputable def mk (l : List Nat) : Str := ⟨l.toArray⟩
noncomputable def pad (a : Nat) (c : List Nat) (b : Nat) : Str := mk (List.replicate a 32 ++ (c ++ List.replicate b 32))
structure Core (c : List Nat) : Prop where
  ne : c ≠ []
  head : c.head? ≠ some 32
  last : c.getLast? ≠ some 32

theorem mk_len (l : List Nat) : (mk l).length = l.length := by show (l.toArray).size = _; simp
theorem pad_len (a : Nat) (c : List Nat) (b : Nat) : (pad a c b).length = a + (c.length + b) := by unfold pad; rw [mk_len]; simp
theorem mk_app (a b : List Nat) : mk a ++ mk b = mk (a ++ b) := by
  show Str.append _ _ = _
  unfold Str.append mk
  simp
theorem item_mk (l : List Nat) (i : Nat) (h : i < l.length) : Txt.item (mk l) (i : Int) = mk [l[i]'h] := by
  unfold Txt.item Txt.charAt
  have : seqIndex? (i : Int) (mk l).length = some i := by
    rw [seqIndex_of (by omega) (by rw [mk_len]; omega)]; simp
  rw [this]
  simp [mk, h]
theorem item_ne {l : List Nat} {i : Nat} {x : Nat} (h : l[i]? = some x) : Txt.item (mk l) (i : Int) = mk [x] := by
  obtain ⟨hi, e⟩ := List.getElem?_eq_some_iff.mp h
  rw [item_mk l i hi, e]
theorem blank : (" " : Str) = mk [32] := by decide +kernel
theorem mk_inj {a b : List Nat} (h : mk a = mk b) : a = b := by
  have := congrArg (fun s : Str => s.cps.toList) h
  simpa [mk] using this
theorem beq_blank {x : Nat} : (mk [x] == (" " : Str)) = (x == 32) := by
  rw [blank]
  by_cases h : x = 32
  · subst h; rw [beq_self_eq_true]; rfl
  · rw [show (x == 32) = false by simpa using h]
    simp only [beq_eq_false_iff_ne, ne_eq]
    intro e
    have := mk_inj e
    simp at this
    exact h this

theorem slice_mk (l : List Nat) (lo hi : Nat) (h1 : lo ≤ hi) (h2 : hi ≤ l.length) : Txt.slice (mk l) (some (lo : Int)) (some (hi : Int)) = mk ((l.drop lo).take (hi - lo)) := by
  have hsi : Builtin.Str.strSliceIndices (some (lo : Int)) (some (hi : Int)) 1 (mk l).length = (List.range (hi - lo)).map (lo + ·) := by
    have e1 : ¬ ((lo : Int) < 0) := by omega
    have e2 : ¬ ((hi : Int) < 0) := by omega
    have e3 : max 0 (min (lo : Int) (l.length : Int)) = lo := by omega
    have e4 : max 0 (min (hi : Int) (l.length : Int)) = hi := by omega
    unfold Builtin.Str.strSliceIndices sliceRange
    rw [mk_len]
    simp only [e1, e2, if_false, e3, e4, show (1 : Int) > 0 from by decide, if_true]
    have e5 : (if (lo : Int) < hi then ((hi : Int) - lo + 1 - 1) / 1 else 0).toNat = hi - lo := by
      by_cases q : (lo : Int) < hi
      · rw [if_pos q, Int.ediv_one]; omega
      · rw [if_neg q]; omega
    rw [e5]
    apply List.map_congr_left
    intro k _
    omega
  unfold Txt.slice
  rw [hsi]
  have hf : List.filterMap (fun x => (mk l).cps[x]?) ((List.range (hi - lo)).map (lo + ·)) = (l.drop lo).take (hi - lo) := by
    rw [List.filterMap_map]
    have : ∀ n, n ≤ hi - lo → List.filterMap ((fun x => (mk l).cps[x]?) ∘ (lo + ·)) (List.range n) = (l.drop lo).take n := by
      intro n
      induction n with
      | zero => intro _; simp
      | succ n ih =>
        intro hn
        have hlt : lo + n < l.length := by omega
        rw [List.range_succ, List.filterMap_append, ih (by omega)]
        have : ((fun x => (mk l).cps[x]?) ∘ (lo + ·)) n = some l[lo + n] := by simp [mk, hlt]
        simp only [List.filterMap_cons, this, List.filterMap_nil]
        rw [List.take_add_one]
        congr 1
        simp [hlt]
    exact this _ (Nat.le_refl _)
  rw [hf]
  split
  · rename_i q
    have : hi - lo = l.length := by simpa [mk_len] using q
    have h0 : lo = 0 := by omega
    subst h0
    rw [List.drop_zero, this, List.take_length]
  · rfl

section
variable {a b : Nat} {c : List Nat}
theorem item_l {i : Nat} (h : i < a) : (Txt.item (pad a c b) (i : Int) == (" " : Str)) = true := by
  unfold pad
  rw [item_ne (x := 32), beq_blank]; rfl
  rw [List.getElem?_append_left (by simpa using h)]
  simp [h]
theorem item_m (C : Core c) : (Txt.item (pad a c b) (a : Int) == (" " : Str)) = false := by
  unfold pad
  obtain ⟨x, r, rfl⟩ := List.exists_cons_of_ne_nil C.ne
  rw [item_ne (x := x), beq_blank]
  · have := C.head
    simpa using this
  · rw [List.getElem?_append_right (by simp)]
    simp
theorem item_r {j : Nat} (h : j < b) : (Txt.item (pad a c b) ((a + (c.length + b) : Nat) - 1 - (j : Int)) == (" " : Str)) = true := by
  have e : (((a + (c.length + b) : Nat) : Int) - 1 - (j : Int)) = ((a + (c.length + (b - 1 - j)) : Nat) : Int) := by omega
  rw [e]
  unfold pad
  rw [item_ne (x := 32), beq_blank]; rfl
  rw [List.getElem?_append_right (by simp), List.getElem?_append_right (by simp)]
  simp only [List.length_replicate, List.getElem?_replicate]
  rw [if_pos (by omega)]
theorem item_mr (C : Core c) : (Txt.item (pad a c b) ((a + (c.length + b) : Nat) - 1 - (b : Int)) == (" " : Str)) = false := by
  have hl : 0 < c.length := List.length_pos_iff.mpr C.ne
  have e : (((a + (c.length + b) : Nat) : Int) - 1 - (b : Int)) = ((a + (c.length - 1) : Nat) : Int) := by omega
  rw [e]
  unfold pad
  have hx := C.last
  rw [List.getLast?_eq_getElem?] at hx
  rw [item_ne (x := c[c.length - 1]'(by omega)), beq_blank]
  · rw [List.getElem?_eq_getElem (by omega)] at hx
    simpa using hx
  · rw [List.getElem?_append_right (by simp)]
    rw [List.getElem?_append_left (by simp; omega)]
    simp
theorem slice_pad {k1 k2 : Nat} (h1 : k1 ≤ a) (h2 : k2 ≤ b) : Txt.slice (pad a c b) (some (k1 : Int)) (some ((a + (c.length + b) : Nat) - (k2 : Int))) = pad (a - k1) c (b - k2) := by
  have e : (((a + (c.length + b) : Nat) : Int) - (k2 : Int)) = ((a + (c.length + (b - k2)) : Nat) : Int) := by omega
  rw [e]
  unfold pad
  rw [slice_mk _ _ _ (by omega) (by simp)]
  congr 1
  rw [List.drop_append_of_le_length (by simpa using h1), List.drop_replicate]
  have e2 : a + (c.length + (b - k2)) - k1 = (List.replicate (a - k1) 32).length + (c.length + (b - k2)) := by simp; omega
  rw [e2, List.take_length_add_append, List.take_length_add_append, List.take_replicate]
  congr 3
  omega
end
end Mine
namespace Mine

noncomputable def occStep (s sub : Str) (hi limit : Nat) (st : Array Nat × Nat) (i : Nat) : Array Nat × Nat :=
  if (decide (st.1.size < limit) && decide (st.2 ≤ i) && decide (i + sub.length ≤ hi) && Builtin.Str.subAt s sub i) = true then (st.1.push i, i + sub.length) else st
theorem occ_fold (s sub : Str) (lo hi limit : Nat) : Builtin.Str.occurrences s sub lo hi limit = ((List.range' lo (hi + 1 - lo)).foldl (occStep s sub hi limit) (#[], lo)).1.toList := by
  unfold Builtin.Str.occurrences
  simp only [Std.Legacy.Range.forIn_eq_forIn_range', Std.Legacy.Range.size]
  have e : (fun (i : Nat) (r : Array Nat × Nat) => if (decide (r.1.size < limit) && decide (r.2 ≤ i) && decide (i + sub.length ≤ hi) && Builtin.Str.subAt s sub i) = true then (pure (ForInStep.yield (r.1.push i, i + sub.length)) : Id (ForInStep (Array Nat × Nat))) else pure (ForInStep.yield (r.1, r.2))) = fun i r => pure (ForInStep.yield (occStep s sub hi limit r i)) := by
    funext i r
    unfold occStep
    split <;> rfl
  rw [e, List.forIn_pure_yield_eq_foldl]
  simp
theorem two_mk : ("2" : Str) = mk [50] := by decide +kernel
theorem sub_one {l : List Nat} {i x c : Nat} (h : l[i]? = some x) : Builtin.Str.subAt (mk l) (mk [c]) i = (x == c) := by
  obtain ⟨hi, rfl⟩ := List.getElem?_eq_some_iff.mp h
  unfold Builtin.Str.subAt
  have : (mk l).cps.extract i (i + (mk [c]).length) = #[l[i]] := by
    have e : (mk [c]).length = 1 := rfl
    rw [e]
    unfold mk
    apply Array.ext'
    simp
    rw [List.drop_eq_getElem_cons hi]
    rfl
  rw [this]
  show (#[l[i]] == #[c]) = _
  by_cases q : l[i] = c
  · rw [q]; simp
  · rw [show (l[i] == c) = false by simpa using q]
    simp [q]
theorem find_at {l : List Nat} {d c : Nat} (h1 : ∀ i, i < d → ∃ x, l[i]? = some x ∧ x ≠ c) (h2 : l[d]? = some c) : Txt.find (mk l) (mk [c]) = (d : Int) := by
  obtain ⟨hd, hdc⟩ := List.getElem?_eq_some_iff.mp h2
  have e : Builtin.Str.occurrences (mk l) (mk [c]) 0 (mk l).length 1 = [d] := by
    rw [occ_fold, mk_len]
    have hr : List.range' 0 (l.length + 1 - 0) = List.range' 0 d ++ (d :: List.range' (d + 1) (l.length - d)) := by
      have : l.length + 1 - 0 = d + ((l.length - d) + 1) := by omega
      rw [this, ← List.range'_append_1, Nat.zero_add, List.range'_succ]
    rw [hr, List.foldl_append, List.foldl_cons]
    have f1 : ∀ k, k ≤ d → (List.range' 0 k).foldl (occStep (mk l) (mk [c]) l.length 1) (#[], 0) = (#[], 0) := by
      intro k
      induction k with
      | zero => intro _; rfl
      | succ k ih =>
        intro hk
        rw [List.range'_concat, List.foldl_append, ih (by omega)]
        obtain ⟨x, hx, hne⟩ := h1 k (by omega)
        show occStep _ _ _ _ (#[], 0) (0 + 1 * k) = _
        have ek : 0 + 1 * k = k := by omega
        unfold occStep
        rw [ek, sub_one hx, show (x == c) = false by simpa using hne]
        simp
    rw [f1 d (Nat.le_refl _)]
    have f2 : occStep (mk l) (mk [c]) l.length 1 (#[], 0) d = (#[d], d + 1) := by
      unfold occStep
      rw [sub_one h2]
      have e1 : (mk [c]).length = 1 := rfl
      rw [if_pos (by simp [e1]; omega), e1]
      rfl
    rw [f2]
    have f3 : ∀ (ks : List Nat), ks.foldl (occStep (mk l) (mk [c]) l.length 1) (#[d], d + 1) = (#[d], d + 1) := by
      intro ks
      induction ks with
      | nil => rfl
      | cons k ks ih =>
        rw [List.foldl_cons]
        have : occStep (mk l) (mk [c]) l.length 1 (#[d], d + 1) k = (#[d], d + 1) := by
          unfold occStep
          rw [if_neg (by simp)]
        rw [this, ih]
    rw [f3]
  unfold Txt.find
  rw [e]
theorem find_two' {d b : Nat} {t : List Nat} (h : t.head? = some 50) : Txt.find (pad d t b) "2" = (d : Int) := by
  rw [two_mk]
  obtain ⟨r, rfl⟩ : ∃ r, t = 50 :: r := by
    cases t with
    | nil => cases h
    | cons x r => cases h; exact ⟨r, rfl⟩
  unfold pad
  refine find_at (fun i hi => ⟨32, ?_, by decide⟩) ?_
  · rw [List.getElem?_append_left (by simpa using hi)]
    simp [hi]
  · rw [List.getElem?_append_right (by simp)]
    simp
end Mine
namespace Mine

theorem goes_blank (x : Nat) : (" " : Str).cps.contains x = (x == 32) := by
  rw [blank]
  show (#[32] : Array Nat).contains x = _
  by_cases h : x = 32
  · subst h; simp
  · simp [h]
theorem take_blanks {d : Nat} {t r : List Nat} (C : Core t) : (List.replicate d 32 ++ (t ++ r)).takeWhile (fun x => x == 32) = List.replicate d 32 := by
  induction d with
  | zero =>
    obtain ⟨x, q, rfl⟩ := List.exists_cons_of_ne_nil C.ne
    have := C.head
    simp at this
    show List.takeWhile _ (x :: (q ++ r)) = []
    rw [List.takeWhile_cons, if_neg (by simpa using this)]
  | succ d ih =>
    rw [List.replicate_succ, List.cons_append, List.takeWhile_cons, if_pos (by simp), ih]
theorem lstrip_pad' {d b : Nat} {t : List Nat} (C : Core t) : Txt.lstripChars (pad d t b) " " = pad 0 t b := by
  unfold Txt.lstripChars
  rw [PyProof.Rows.stripBy_eq]
  have hg : (" " : Str).cps.contains = fun x => x == 32 := funext goes_blank
  have hlo : stripLo (" " : Str).cps.contains true (pad d t b) = d := by
    unfold stripLo
    rw [if_pos rfl, hg]
    show (List.takeWhile _ (List.replicate d 32 ++ (t ++ List.replicate b 32))).length = d
    rw [take_blanks C, List.length_replicate]
  rw [hlo]
  have hhi : stripHi (" " : Str).cps.contains false (pad d t b) d = (pad d t b).length := by
    unfold stripHi
    rw [if_neg (by decide)]
  rw [hhi]
  unfold Builtin.Str.strSub
  have : (pad d t b).cps.extract d (pad d t b).length = (t ++ List.replicate b 32).toArray := by
    unfold pad
    rw [mk_len]
    apply Array.ext'
    simp [mk, List.extract_eq_take_drop]
    try (rw [List.take_of_length_le]; simp)
  rw [this]
  rfl
end Mine
namespace Mine

noncomputable def stAt (i : Nat) : Stmt := PySem.Challenge.pw_yh0003_01.main.body.getD i (.Pass ⟨0, 0, 0, 0⟩)
noncomputable def fB : Stmt → List Stmt
  | .FunctionDef _ _ b _ _ _ _ _ _ _ => b
  | _ => []
noncomputable def fA : Stmt → Arguments
  | .FunctionDef _ a _ _ _ _ _ _ _ _ => a
  | _ => ⟨[], [], none, [], [], none, []⟩
noncomputable def fS : Stmt → Scope
  | .FunctionDef _ _ _ _ _ _ s _ _ _ => s
  | _ => { kind := .function, names := [], isGenerator := false, isCoroutine := false }

section
variable {prog : Program} {w : World} {T : TopAt} {n : Nat}

/-- the names of the top that the text reads -/
structure Top0 (T : TopAt) : Prop where
  len : T.gl.lookup (Str.ofString "len") = some (Value.builtin "len")


noncomputable abbrev SF (i : Nat) (A : Around) (nm : Str) (ad : Addr) (cd : Value) (h : Heap) : Frm := dF A nm (fS (stAt i)) ad cd h
theorem strip_body (G : Top0 T) {A : Around} {nm : Str} {ad : Addr} {cd : Value} {h : Heap} {a b m k1 k2 : Nat} {c : List Nat} (C : Core c) (hz : a + (c.length + b) ≤ 100000)
    (hk1 : k1 = min m a) (hk2 : k2 = min (m - k1) b)
    (O : ROk n T (SF 2 A nm ad cd h)) (S : SOk (SF 2 A nm ad cd h)) :
    Blk prog w (SF 2 A nm ad cd h) (fB (stAt 2)) (Inv (SF 2 A nm ad cd h) [(.s_, DS (pad a c b)), (.amount_, DI m)] []) (RetP (SF 2 A nm ad cd h) (DS (pad (a - k1) c (b - k2)))) := by
  have hl := pad_len a c b
  refine Blk.one (Stm.assign (x := .lpos_) O S (Ev.at (P := fun _ _ => False) Ev.int) (.inl rfl) List.not_mem_nil (.inl rfl) rfl) ?_
  refine Blk.sub (ρ' := [(.lpos_, DI (0 : Nat)), (.amount_, DI ((m : Int) - (0 : Nat))), (.s_, DS (pad a c b))]) ?_ ⟨rfl, by rw [show ((m : Int) - (0 : Nat)) = m by omega]; rfl, rfl, trivial⟩
  refine Blk.one (Stm.while k1 (fun k => [(.lpos_, DI k), (.amount_, DI ((m : Int) - k)), (.s_, DS (pad a c b))]) (fun k hk => ?_) (fun k hk => ?_) ?_) ?_
  · refine Ts.of (Ts.and2 (b := true) (Ts.int (Ev.name O .amount_ rfl)) fun _ => Ts.of (Ts.cmp (Ev.itemC (Ev.name O .s_ rfl) (Ev.name O .lpos_ rfl) (by omega) (by omega) (by omega)) Ev.str Cmp.eqS) (item_l (by omega))) ?_
    simp; omega
  · refine Blk.one (Stm.augAdd (x := .lpos_) O S rfl Ev.int rfl List.not_mem_nil) ?_
    refine Blk.one (Stm.augSub (x := .amount_) O S rfl Ev.int rfl List.not_mem_nil) ?_
    exact Blk.sub (ρ' := [(.lpos_, DI ((k + 1 : Nat) : Int)), (.amount_, DI ((m : Int) - (k + 1 : Nat))), (.s_, DS (pad a c b))]) Blk.done ⟨rfl, by rw [show ((m : Int) - (k + 1 : Nat)) = (m : Int) - k - 1 by omega]; rfl, rfl, trivial⟩
  · refine Ts.of (Ts.and2 (b := false) (Ts.int (Ev.name O .amount_ rfl)) fun q => ?_) (Bool.and_false _)
    have hq : ((m : Int) - k1) ≠ 0 := by simpa using q
    have : k1 = a := by omega
    rw [this]
    exact Ts.of (Ts.cmp (Ev.itemC (Ev.name O .s_ rfl) (Ev.name O .lpos_ rfl) (by omega) (by have := List.length_pos_iff.mpr C.ne; omega) (by omega)) Ev.str Cmp.eqS) (item_m C)
  refine Blk.one (Stm.assign (x := .rpos_) O S (Ev.at (P := fun _ _ => False) (Ev.sub (Ev.call O (Ev.glob O G.len rfl) Kpr.builtin (.one (Ev.name O .s_ rfl) .nil) (Fun.lenS (by omega))) Ev.int)) (.inl rfl) List.not_mem_nil (.inl rfl) rfl) ?_
  rw [hl]
  refine Blk.sub (ρ' := [(.rpos_, DI ((a + (c.length + b) : Nat) - 1 - ((0 : Nat) : Int))), (.amount_, DI (((m - k1 : Nat) : Int) - (0 : Nat))), (.lpos_, DI (k1 : Nat)), (.s_, DS (pad a c b))]) ?_ ⟨by rw [show ((a + (c.length + b) : Nat) : Int) - 1 - ((0 : Nat) : Int) = ((a + (c.length + b) : Nat) : Int) - 1 by omega]; rfl, by rw [show (((m - k1 : Nat) : Int) - (0 : Nat)) = (m : Int) - k1 by omega]; rfl, rfl, rfl, trivial⟩
  refine Blk.one (Stm.while k2 (fun k => [(.rpos_, DI ((a + (c.length + b) : Nat) - 1 - (k : Int))), (.amount_, DI (((m - k1 : Nat) : Int) - k)), (.lpos_, DI (k1 : Nat)), (.s_, DS (pad a c b))]) (fun k hk => ?_) (fun k hk => ?_) ?_) ?_
  · refine Ts.of (Ts.and2 (b := true) (Ts.int (Ev.name O .amount_ rfl)) fun _ => Ts.of (Ts.cmp (Ev.itemC (Ev.name O .s_ rfl) (Ev.name O .rpos_ rfl) (by omega) (by omega) (by omega)) Ev.str Cmp.eqS) (item_r (by omega))) ?_
    simp; omega
  · refine Blk.one (Stm.augSub (x := .rpos_) O S rfl Ev.int rfl List.not_mem_nil) ?_
    refine Blk.one (Stm.augSub (x := .amount_) O S rfl Ev.int rfl List.not_mem_nil) ?_
    exact Blk.sub (ρ' := [(.rpos_, DI ((a + (c.length + b) : Nat) - 1 - ((k + 1 : Nat) : Int))), (.amount_, DI (((m - k1 : Nat) : Int) - (k + 1 : Nat))), (.lpos_, DI (k1 : Nat)), (.s_, DS (pad a c b))]) Blk.done ⟨by rw [show ((a + (c.length + b) : Nat) : Int) - 1 - ((k + 1 : Nat) : Int) = ((a + (c.length + b) : Nat) : Int) - 1 - (k : Int) - 1 by omega]; rfl, by rw [show (((m - k1 : Nat) : Int) - (k + 1 : Nat)) = ((m - k1 : Nat) : Int) - k - 1 by omega]; rfl, rfl, rfl, trivial⟩
  · refine Ts.of (Ts.and2 (b := false) (Ts.int (Ev.name O .amount_ rfl)) fun q => ?_) (Bool.and_false _)
    have hq : (((m - k1 : Nat) : Int) - k2) ≠ 0 := by simpa using q
    have : k2 = b := by omega
    rw [this]
    exact Ts.of (Ts.cmp (Ev.itemC (Ev.name O .s_ rfl) (Ev.name O .rpos_ rfl) (by have := List.length_pos_iff.mpr C.ne; omega) (by omega) (by omega)) Ev.str Cmp.eqS) (item_mr C)
  exact Blk.ret (Ev.at (EvP.of (Ev.cut (Ev.name O .s_ rfl) (Ev.name O .lpos_ rfl) (Ev.add (Ev.name O .rpos_ rfl) Ev.int) (by omega))
    (by rw [show ((a + (c.length + b) : Nat) : Int) - 1 - (k2 : Int) + 1 = ((a + (c.length + b) : Nat) : Int) - k2 by omega, slice_pad (by omega) (by omega)])))

noncomputable abbrev FnT (T : TopAt) (i : Nat) (nm : Str) (a : Addr) (cd : Value) : Prop := FnAt T a nm (fA (stAt i)) (fB (stAt i)) (fS (stAt i)) cd

theorem Fun.strip (G : Top0 T) {ad : Addr} {cd : Value} (f : FnT T 2 "_strip_padding" ad cd) {a b m k1 k2 : Nat} {c : List Nat} (C : Core c) (hz : a + (c.length + b) ≤ 100000)
    (hk1 : k1 = min m a) (hk2 : k2 = min (m - k1) b) : Fun prog w (n + 1) T (.ref ad) [DS (pad a c b), DI m] (DS (pad (a - k1) c (b - k2))) :=
  Fun.def [.s_, .amount_] f rfl rfl (by decide) (fun _ _ => of_len2 fun _ _ => rfl) (by intro x hx; rcases List.mem_cons.mp hx with rfl | hx; rfl; rcases List.mem_cons.mp hx with rfl | hx; rfl; cases hx)
    (fun A h O S => strip_body G C hz hk1 hk2 O S) (hcell := by decide +kernel)
end
end Mine
namespace Mine

/-! what parse229 looks at -/
noncomputable def pL (r : Str) : Int := Txt.find r "("
noncomputable def pR (r : Str) : Int := Txt.find3 r ")" (pL r + 1)
noncomputable def pM (r : Str) : Str := Txt.item r (pL r + 1)
noncomputable def pE (r : Str) : Str := Txt.item r (pR r - 1)
noncomputable def pParts (r : Str) : List Str := Txt.split (Txt.slice r (some (pL r + 1)) (some (pR r))) (pM r)
/-- the code is right -/
noncomputable def g1 (r : Str) : Bool := decide (r.length ≤ 900) && !(Txt.slice r none (some 3) != "229")
noncomputable def g2 (r : Str) : Bool := g1 r && !decide (pL r < 0)
noncomputable def g3 (r : Str) : Bool := g2 r && !decide (pR r < 0) && decide (-(r.length : Int) ≤ pL r + 1) && decide (pL r + 1 < r.length) && decide (-(r.length : Int) ≤ pR r - 1) && decide (pR r - 1 < r.length)
noncomputable def g4 (r : Str) : Bool := g3 r && !(pM r != pE r) && !((pM r).length == 0) && decide ((Txt.slice r (some (pL r + 1)) (some (pR r))).length ≤ 1000) && decide ((pParts r).length ≤ 1000)
  && decide ((Builtin.Str.partsBetween (Txt.slice r (some (pL r + 1)) (some (pR r))) (Builtin.Str.occurrences (Txt.slice r (some (pL r + 1)) (some (pR r))) (pM r) 0 (Txt.slice r (some (pL r + 1)) (some (pR r))).length ((Txt.slice r (some (pL r + 1)) (some (pR r))).length + 1)) (pM r).length).length ≤ 10000)
noncomputable def g5 (r : Str) (a : Int) : Bool := g4 r && !(((pParts r).length : Int) != 5) && decide (((pParts r).getD 3 Str.empty).length ≤ 640) && decide (PySem.intText? ((pParts r).getD 3 Str.empty) = some a)
noncomputable def bad1 (r : Str) : Bool := decide (r.length ≤ 900) && (Txt.slice r none (some 3) != "229")
noncomputable def bad2 (r : Str) : Bool := g1 r && decide (pL r < 0)
noncomputable def bad3 (r : Str) : Bool := g2 r && decide (pR r < 0)
noncomputable def bad4 (r : Str) : Bool := g3 r && (pM r != pE r)
noncomputable def bad5 (r : Str) : Bool := g4 r && (((pParts r).length : Int) != 5)

section
variable {prog : Program} {w : World} {T : TopAt} {n : Nat}

/-- a block that may raise -/
structure BlkX (prog : Program) (w : World) (F : Frm) (ss : List Stmt) (pre : Heap → Prop) (post : Flow → Heap → Prop) (X : Shared → Value → Shared → Prop) : Prop where
  run : ∀ s0 s, SR s0 s → pre s.heap → wpAny (model prog w) F.A (execs ss F.env) (fun f s' => SR s0 s' ∧ post f s'.heap) (X s0) s
theorem BlkX.blk {F : Frm} {ss : List Stmt} {pre : Heap → Prop} {post : Flow → Heap → Prop} (h : BlkX prog w F ss pre post (fun _ _ _ => False)) : Blk prog w F ss pre post := ⟨fun s hs => h.run s s (SR.refl s) hs⟩
theorem Blk.x {F : Frm} {ss : List Stmt} {pre : Heap → Prop} {post : Flow → Heap → Prop} {X : Shared → Value → Shared → Prop} (h : Blk prog w F ss pre post) : BlkX prog w F ss pre post X :=
  ⟨fun s0 s sr hs => wpAny_mono (h.run s hs) (fun f s' x => ⟨sr.trans x.1, x.2⟩) fun _ _ x => x.elim⟩
theorem BlkX.one {F : Frm} {st : Stmt} {rest : List Stmt} {pre mid : Heap → Prop} {post : Flow → Heap → Prop} {X : Shared → Value → Shared → Prop} (h1 : Stm prog w F st pre (nextP mid)) (h2 : BlkX prog w F rest mid post X) : BlkX prog w F (st :: rest) pre post X := by
  refine ⟨fun s0 s sr hs => ?_⟩
  refine wpAny_execs_cons (wpAny_mono (h1.run s hs) ?_ fun _ _ x => x.elim)
  rintro f s' ⟨sr', rfl, hp⟩
  exact h2.run s0 s' (sr.trans sr') hp
theorem BlkX.skip {F : Frm} {ρ : List (Nm × D)} {own : List Nm} {test : Expr} {body rest : List Stmt} {pos : Pos} {post : Flow → Heap → Prop} {X : Shared → Value → Shared → Prop} (ht : Ts prog w F ρ test false) (h : BlkX prog w F rest (Inv F ρ own) post X) :
    BlkX prog w F (.If test body [] pos :: rest) (Inv F ρ own) post X := BlkX.one (Stm.iff ht (fun q => nomatch q) fun _ => Blk.done) h

structure Top1 (T : TopAt) : Prop extends Top0 T where
  int : T.gl.lookup (Str.ofString "int") = some (Value.type "int")

noncomputable abbrev F7 := SF 7
noncomputable abbrev ρ7 (r : Str) (hs k : At) : List (Nm × D) := [(.resp_, DS r), (.peer_, .tup [hs, k])]

theorem ev_find {F : Frm} {ρ : List (Nm × D)} {o e : Expr} {x y : Str} {apos pos : Pos} (O : ROk n T F) (ho : Ev prog w F ρ o (DS x)) (he : Ev prog w F ρ e (DS y)) 
    (hs : ∀ rest, starEach (e :: rest) F.env = (false, eval e F.env) :: starEach rest F.env := by intro _; rfl)
    (hbase : attributeBase o (Str.ofString "find") F.env (eval o F.env) = eval o F.env := by rfl)
    (hfew : ((backTo pos (starEach (e :: []) F.env)).all (fun x => !x.1) && (backToKw pos (keywordEach [] F.env)).all (fun x => x.1.isSome)
      && decide ((e :: []).length + ([] : List Keyword).length + (if ([] : List Keyword).isEmpty then 0 else 1) < 30)) = true := by rfl)
    (hline : (apos.endLine == pos.line) = true := by rfl) : Ev prog w F ρ (.Call (.Attribute o (Str.ofString "find") apos) [e] [] pos) (DI (Txt.find x y)) :=
  Ev.at (Ev.meth O ho (.cons he hs .nil) PySem.F.plainAttrs_str PySem.F.slot_str_find PySem.F.type_str_find (isStr_rep · x) Fun.find hbase hfew hline)

theorem p229_1 {A : Around} {nm : Str} {ad : Addr} {cd : Value} {h : Heap} {r : Str} {hs k : At} {post : Flow → Heap → Prop} {X : Shared → Value → Shared → Prop} (O : ROk n T (F7 A nm ad cd h)) (S : SOk (F7 A nm ad cd h)) (hg : g1 r = true)
    (R : BlkX prog w (F7 A nm ad cd h) ((fB (stAt 7)).drop 2) (Inv (F7 A nm ad cd h) ((.left_, DI (pL r)) :: ρ7 r hs k) []) post X) :
    BlkX prog w (F7 A nm ad cd h) (fB (stAt 7)) (Inv (F7 A nm ad cd h) (ρ7 r hs k) []) post X := by
  unfold g1 at hg
  simp only [Bool.and_eq_true, Bool.not_eq_true', decide_eq_true_eq] at hg
  refine BlkX.skip (Ts.of (Ts.cmp (Ev.cutUp (Ev.name O .resp_ rfl) Ev.int (by omega)) Ev.str Cmp.neS) hg.2) ?_
  refine BlkX.one (Stm.assign (x := .left_) O S (Ev.at (P := fun _ _ => False) (ev_find O (Ev.name O .resp_ rfl) Ev.str)) (.inl rfl) List.not_mem_nil (.inl rfl) rfl) ?_
  exact R
theorem p229_2 {A : Around} {nm : Str} {ad : Addr} {cd : Value} {h : Heap} {r : Str} {hs k : At} {post : Flow → Heap → Prop} {X : Shared → Value → Shared → Prop} (O : ROk n T (F7 A nm ad cd h)) (S : SOk (F7 A nm ad cd h)) (hg : g2 r = true)
    (R : BlkX prog w (F7 A nm ad cd h) ((fB (stAt 7)).drop 4) (Inv (F7 A nm ad cd h) ((.right_, DI (pR r)) :: (.left_, DI (pL r)) :: ρ7 r hs k) []) post X) :
    BlkX prog w (F7 A nm ad cd h) ((fB (stAt 7)).drop 2) (Inv (F7 A nm ad cd h) ((.left_, DI (pL r)) :: ρ7 r hs k) []) post X := by
  unfold g2 at hg
  simp only [Bool.and_eq_true, Bool.not_eq_true', decide_eq_false_iff_not] at hg
  refine BlkX.skip (Ts.of (Ts.cmp (Ev.name O .left_ rfl) Ev.int Cmp.ltI) (decide_eq_false hg.2)) ?_
  refine BlkX.one (Stm.assign (x := .right_) O S (Ev.at (P := fun _ _ => False) (Ev.meth O (Ev.name O .resp_ rfl) (.one Ev.str (.one (Ev.add (Ev.name O .left_ rfl) Ev.int) .nil)) PySem.F.plainAttrs_str PySem.F.slot_str_find PySem.F.type_str_find (isStr_rep · r) Fun.find3)) (.inl rfl) List.not_mem_nil (.inl rfl) rfl) ?_
  exact R

theorem p229_3 {A : Around} {nm : Str} {ad : Addr} {cd : Value} {h : Heap} {r : Str} {hs k : At} {post : Flow → Heap → Prop} {X : Shared → Value → Shared → Prop} (O : ROk n T (F7 A nm ad cd h)) (S : SOk (F7 A nm ad cd h)) (hg : g3 r = true)
    (R : BlkX prog w (F7 A nm ad cd h) ((fB (stAt 7)).drop 5) (Inv (F7 A nm ad cd h) ((.right_, DI (pR r)) :: (.left_, DI (pL r)) :: ρ7 r hs k) []) post X) :
    BlkX prog w (F7 A nm ad cd h) ((fB (stAt 7)).drop 4) (Inv (F7 A nm ad cd h) ((.right_, DI (pR r)) :: (.left_, DI (pL r)) :: ρ7 r hs k) []) post X := by
  unfold g3 at hg
  simp only [Bool.and_eq_true, Bool.not_eq_true', decide_eq_false_iff_not] at hg
  exact BlkX.skip (Ts.of (Ts.cmp (Ev.name O .right_ rfl) Ev.int Cmp.ltI) (decide_eq_false hg.1.1.1.1.2)) R

theorem g3_facts {r : Str} (hg : g3 r = true) : r.length ≤ 900 ∧ -(r.length : Int) ≤ pL r + 1 ∧ pL r + 1 < r.length ∧ -(r.length : Int) ≤ pR r - 1 ∧ pR r - 1 < r.length := by
  unfold g3 g2 g1 at hg
  simp only [Bool.and_eq_true, Bool.not_eq_true', decide_eq_true_eq] at hg
  exact ⟨hg.1.1.1.1.1.1.1, hg.1.1.1.2, hg.1.1.2, hg.1.2, hg.2⟩

theorem p229_4ev {A : Around} {nm : Str} {ad : Addr} {cd : Value} {h : Heap} {r : Str} {hs k : At} (O : ROk n T (F7 A nm ad cd h)) (hg : g3 r = true) :
    Ts prog w (F7 A nm ad cd h) ((.right_, DI (pR r)) :: (.left_, DI (pL r)) :: ρ7 r hs k) (match (fB (stAt 7)).drop 5 with | .If t _ _ _ :: _ => t | _ => .Constant .none 0 ⟨0, 0, 0, 0⟩) (pM r != pE r) := by
  obtain ⟨h1, h2, h3, h4, h5⟩ := g3_facts hg
  exact Ts.cmp (Ev.itemC (Ev.name O .resp_ rfl) (Ev.add (Ev.name O .left_ rfl) Ev.int) h2 h3 (by omega)) (Ev.itemC (Ev.name O .resp_ rfl) (Ev.sub (Ev.name O .right_ rfl) Ev.int) h4 h5 (by omega)) Cmp.neS

theorem p229_5 {A : Around} {nm : Str} {ad : Addr} {cd : Value} {h : Heap} {r : Str} {hs k : At} {post : Flow → Heap → Prop} {X : Shared → Value → Shared → Prop} (O : ROk n T (F7 A nm ad cd h)) (S : SOk (F7 A nm ad cd h)) (hg : g4 r = true)
    (R : BlkX prog w (F7 A nm ad cd h) ((fB (stAt 7)).drop 7) (Inv (F7 A nm ad cd h) ((.parts_, .parts (pParts r)) :: (.right_, DI (pR r)) :: (.left_, DI (pL r)) :: ρ7 r hs k) []) post X) :
    BlkX prog w (F7 A nm ad cd h) ((fB (stAt 7)).drop 5) (Inv (F7 A nm ad cd h) ((.right_, DI (pR r)) :: (.left_, DI (pL r)) :: ρ7 r hs k) []) post X := by
  unfold g4 at hg
  simp only [Bool.and_eq_true, Bool.not_eq_true', decide_eq_true_eq] at hg
  obtain ⟨⟨⟨⟨⟨hg, q1⟩, q2⟩, q3⟩, q4⟩, q5⟩ := hg
  obtain ⟨h1, h2, h3, h4, h5⟩ := g3_facts hg
  refine BlkX.skip (Ts.of (p229_4ev O hg) q1) ?_
  refine BlkX.one (Stm.assign (x := .parts_) O S (Ev.meth O (Ev.cut (Ev.name O .resp_ rfl) (Ev.add (Ev.name O .left_ rfl) Ev.int) (Ev.name O .right_ rfl) (by omega)) (.one (Ev.itemC (Ev.name O .resp_ rfl) (Ev.add (Ev.name O .left_ rfl) Ev.int) h2 h3 (by omega)) .nil) PySem.F.plainAttrs_str PySem.F.slot_str_split PySem.F.type_str_split (isStr_rep · _) (Fun.split q2 q3 q5)) (.inl rfl) List.not_mem_nil (.inl rfl) rfl) ?_
  exact R

theorem p229_ok (G : Top1 T) {A : Around} {nm : Str} {ad : Addr} {cd : Value} {h : Heap} {r hs : Str} {k : At} {a : Int} (O : ROk n T (F7 A nm ad cd h)) (S : SOk (F7 A nm ad cd h)) (hg : g5 r a = true) :
    Blk prog w (F7 A nm ad cd h) (fB (stAt 7)) (Inv (F7 A nm ad cd h) (ρ7 r (.str hs) k) []) (RetP (F7 A nm ad cd h) (.tup [.str hs, .int a])) := by
  have hg0 := hg
  unfold g5 at hg
  simp only [Bool.and_eq_true, Bool.not_eq_true', decide_eq_true_eq] at hg
  obtain ⟨⟨⟨h4, q1⟩, q2⟩, q3⟩ := hg
  have h4' := h4
  unfold g4 at h4'
  simp only [Bool.and_eq_true, Bool.not_eq_true', decide_eq_true_eq] at h4'
  have h3 := h4'.1.1.1.1.1
  have h2 := h3
  unfold g3 at h2
  simp only [Bool.and_eq_true] at h2
  have h2 := h2.1.1.1.1.1
  have h1 := h2
  unfold g2 at h1
  simp only [Bool.and_eq_true] at h1
  have h1 := h1.1
  have hlen : (pParts r).length = 5 := by
    have : ((pParts r).length : Int) = 5 := by simpa using q1
    omega
  refine BlkX.blk (p229_1 O S h1 (p229_2 O S h2 (p229_3 O S h3 (p229_5 O S h4 (Blk.x ?_)))))
  refine Blk.skip (Ts.of (Ts.cmp (Ev.call O (Ev.glob O G.len rfl) Kpr.builtin (.one (Ev.name O .parts_ rfl) .nil) (Fun.lenP (by omega))) Ev.int Cmp.neI) q1) ?_
  refine Blk.one (Stm.assign (x := .host_) O S (Ev.at (P := fun _ _ => False) (Ev.itemA (k := 0) (Ev.name O .peer_ rfl) Ev.int rfl (by decide))) (.inl rfl) List.not_mem_nil (.inl rfl) rfl) ?_
  refine Blk.one (Stm.assign (x := .port_) O S (Ev.at (P := fun _ _ => False) (Ev.call O (Ev.glob O G.int rfl) Kpr.type (.one (Ev.itemPt (d := Str.empty) (Ev.name O .parts_ rfl) Ev.int (by omega) (by omega) (by omega)) .nil) (Fun.intS q3 q2))) (.inl rfl) List.not_mem_nil (.inl rfl) rfl) ?_
  exact Blk.ret (Ev.tuple (as := [.str hs, .int a]) (.one (Ev.name O .host_ rfl) (.one (Ev.name O .port_ rfl) .nil)) (Nat.le_of_ble_eq_true rfl))

theorem Fun.parse (G : Top1 T) {ad : Addr} {cd : Value} (f : FnT T 7 "parse229" ad cd) {r hs : Str} {k : At} {a : Int} (hg : g5 r a = true) : Fun prog w (n + 1) T (.ref ad) [DS r, .tup [.str hs, k]] (.tup [.str hs, .int a]) :=
  Fun.def [.resp_, .peer_] f rfl rfl (by decide) (fun _ _ => of_len2 fun _ _ => rfl) (by intro x hx; rcases List.mem_cons.mp hx with rfl | hx; rfl; rcases List.mem_cons.mp hx with rfl | hx; rfl; cases hx)
    (fun A h O S => p229_ok G O S hg) (hcell := by decide +kernel)
end
end Mine
namespace Mine

section
variable {prog : Program} {w : World} {T : TopAt} {n : Nat}

noncomputable abbrev bmE : List Value := [Value.type "Exception", Value.type "BaseException", Value.type "object"]
structure ExcC (T : TopAt) (x : Str) (C : Addr) : Prop where
  bound : T.gl.lookup x = some (.ref C)
  own : ∃ mg, OwnCls x C bmE "Exception.__new__" mg T.h0

/-- an exception of class C with the text x was made in this frame -/
noncomputable def Thr (F : Frm) (C : Addr) (x : Str) (s : Shared) (v : Value) (s' : Shared) : Prop :=
  ∃ h t h' e u, v = .ref e ∧ s' = { s with heap := h', toks := t } ∧ Le F.base h ∧ (∃ m, h.Ns F.env.locals m) ∧ Heap.MadeExcOf h h' e (.ref C) [.str x u]

theorem BlkX.raise {F : Frm} {ρ : List (Nm × D)} {own : List Nm} {test : Expr} {rest : List Stmt} {x : Str} {y : Nm} {r : Str} {C : Addr} {np yp cpos rpos pos : Pos} {post : Flow → Heap → Prop} (O : ROk n T F) (ht : Ts prog w F ρ test true) (c : ExcC T x C) (hk : F.env.kindOf x = some .globalImplicit)
    (hx : lk ρ y = some (DS r)) (hy : (y.s == ("__debug__" : Str)) = false := by decide) (hd : (x == ("__debug__" : Str)) = false := by decide) :
    BlkX prog w F (.If test [.Raise (some (.Call (.Name x np) [.Name y.s yp] [] cpos)) none rpos] [] pos :: rest) (Inv F ρ own) post (Thr F C r) := by
  obtain ⟨mg, oc⟩ := c.own
  obtain ⟨tl, N, nm, q, bs, hdct, sn, sub, ab, col, dd, k0, k1', k2, k3, k5, mN, hC, hN, hni, TT⟩ := oc.obj
  refine ⟨?_⟩
  rintro s0 s ⟨⟨h, t, rfl⟩, fk⟩ I
  refine wpAny_execs_cons (wpAny_If (wpAny_mono (ht.run _ I.read) ?_ fun _ _ x => x.elim))
  rintro b s1 ⟨k1, rfl⟩
  have I1 : Inv F ρ own s1.heap := I.le (keeps_le k1)
  simp only [if_true]
  refine wpAny_execs_cons ?_
  refine wpAny_Raise_call_subT (C := C) (nm := nm) (q := q) (N := N) (bs := bs) (bm := tl) (hdct := hdct) (sn := sn) (sub := sub) (ab := ab) (col := col) (dd := dd) (k0 := k0) (k1 := k1') (k2 := k2) (k3 := k3) (k5 := k5)
    PySem.F.excBase_Exception (mN := mN) (TT.hasType PySem.F.excBase_Exception.hasBase) O.room.hh rfl hni (wpAny_mono (Ev.glob (prog := prog) (w := w) (pos := np) O c.bound hk hd |>.run s1 I1.read) ?_ fun _ _ x => x.elim)
  rintro _ s2 ⟨k2', rfl⟩
  refine ⟨rfl, ?_⟩
  have I2 := I1.le (keeps_le k2')
  have p : EvAll prog w F ρ [.Name y.s yp] [DS r] := .one (Ev.name O y hx hy) .nil
  refine Calls.evalArgs_plain (wpAny_mono (p.eval (pos := cpos) I2.read) ?_ fun _ _ x => x.elim)
  rintro vs s3 ⟨k3', r3⟩
  obtain ⟨_, rfl, u, rfl⟩ := pair1 r3
  have I3 := I2.le (keeps_le k3')
  have hle : Le T.h0 s3.heap := O.le0.trans I3.1
  refine ⟨rfl, (by show 1 ≤ _; decide), hle _ _ hC, hN.keeps hle, TT.keeps hle, fun h' e hm => ?_⟩
  obtain ⟨h3, t3, rfl, _⟩ := keeps_trans k1 (keeps_trans k2' k3')
  obtain ⟨_, m, _, _, hns, _, _, _⟩ := id I3
  exact ⟨_, t3, h', e, u, rfl, rfl, I3.1, ⟨m, hns⟩, hm⟩

/-- the classes of the text -/
structure Top2 (T : TopAt) (Cr Cp : Addr) : Prop extends Top1 T where
  reply : ExcC T "error_reply" Cr
  proto : ExcC T "error_proto" Cp

theorem p229_reply {Cr Cp : Addr} (G : Top2 T Cr Cp) {A : Around} {nm : Str} {ad : Addr} {cd : Value} {h : Heap} {r : Str} {hs k : At} {post : Flow → Heap → Prop} (O : ROk n T (F7 A nm ad cd h)) (S : SOk (F7 A nm ad cd h)) (hg : bad1 r = true) :
    BlkX prog w (F7 A nm ad cd h) (fB (stAt 7)) (Inv (F7 A nm ad cd h) (ρ7 r hs k) []) post (Thr (F7 A nm ad cd h) Cr r) := by
  unfold bad1 at hg
  simp only [Bool.and_eq_true, decide_eq_true_eq] at hg
  exact BlkX.raise (y := .resp_) O (Ts.of (Ts.cmp (Ev.cutUp (Ev.name O .resp_ rfl) Ev.int (by omega)) Ev.str Cmp.neS) hg.2) G.reply rfl rfl

noncomputable def isProto (r : Str) : Bool := bad2 r || bad3 r || bad4 r || bad5 r

theorem p229_proto {Cr Cp : Addr} (G : Top2 T Cr Cp) {A : Around} {nm : Str} {ad : Addr} {cd : Value} {h : Heap} {r : Str} {hs k : At} {post : Flow → Heap → Prop} (O : ROk n T (F7 A nm ad cd h)) (S : SOk (F7 A nm ad cd h)) (hg : isProto r = true) :
    BlkX prog w (F7 A nm ad cd h) (fB (stAt 7)) (Inv (F7 A nm ad cd h) (ρ7 r hs k) []) post (Thr (F7 A nm ad cd h) Cp r) := by
  unfold isProto at hg
  simp only [Bool.or_eq_true] at hg
  have e43 : g4 r = true → g3 r = true := fun h => by unfold g4 at h; simp only [Bool.and_eq_true] at h; exact h.1.1.1.1.1
  have e32 : g3 r = true → g2 r = true := fun h => by unfold g3 at h; simp only [Bool.and_eq_true] at h; exact h.1.1.1.1.1
  have e21 : g2 r = true → g1 r = true := fun h => by unfold g2 at h; simp only [Bool.and_eq_true] at h; exact h.1
  rcases hg with ((hg | hg) | hg) | hg
  · unfold bad2 at hg
    simp only [Bool.and_eq_true] at hg
    exact p229_1 O S hg.1 (BlkX.raise (y := .resp_) O (Ts.of (Ts.cmp (Ev.name O .left_ rfl) Ev.int Cmp.ltI) hg.2) G.proto rfl rfl)
  · unfold bad3 at hg
    simp only [Bool.and_eq_true] at hg
    exact p229_1 O S (e21 hg.1) (p229_2 O S hg.1 (BlkX.raise (y := .resp_) O (Ts.of (Ts.cmp (Ev.name O .right_ rfl) Ev.int Cmp.ltI) hg.2) G.proto rfl rfl))
  · unfold bad4 at hg
    simp only [Bool.and_eq_true] at hg
    exact p229_1 O S (e21 (e32 hg.1)) (p229_2 O S (e32 hg.1) (p229_3 O S hg.1 (BlkX.raise (y := .resp_) O (Ts.of (p229_4ev O hg.1) hg.2) G.proto rfl rfl)))
  · unfold bad5 at hg
    simp only [Bool.and_eq_true] at hg
    have h4 := hg.1
    unfold g4 at h4
    simp only [Bool.and_eq_true, decide_eq_true_eq] at h4
    exact p229_1 O S (e21 (e32 (e43 hg.1))) (p229_2 O S (e32 (e43 hg.1)) (p229_3 O S (e43 hg.1) (p229_5 O S hg.1
      (BlkX.raise (y := .resp_) O (Ts.of (Ts.cmp (Ev.call O (Ev.glob O G.len rfl) Kpr.builtin (.one (Ev.name O .parts_ rfl) .nil) (Fun.lenP h4.1.2)) Ev.int Cmp.neI) hg.2) G.proto rfl rfl))))

/-- what a call that raises leaves: B, what stands -/
noncomputable def Flies (B : Heap) (outer : List Env) (C : Addr) (x : Str) (s : Shared) (v : Value) (s' : Shared) : Prop :=
  ∃ e t h' tk u, v = .ref e ∧ s' = { s with heap := h', toks := tk } ∧ Heap.FlyingW B outer e (.ref C) (.ref t) h' ∧ h'.TupAt t [.str x u] ∧ B.get? t = none ∧ s.heap.UpToSlots h'

theorem Fun.throws {name : Str} {params : Arguments} {body : List Stmt} {scope : Scope} {cd : Value} {a : Addr} {ds : List D} {C : Addr} {x : Str} (ns : List Nm)
    (f : FnAt T a name params body scope cd) (hps : params.args.map (·.arg) = ns.map Nm.s) (hl : ns.length = ds.length) (hnd : ns.Nodup)
    (hbind : ∀ pm doc vs, vs.length = ns.length → bindArgs (Calls.docDef name params body scope pm cd doc) ⟨vs, []⟩ = pure ((params.args.map (·.arg)).zip vs))
    (hloc : ∀ x ∈ ns, scope.names.lookup x.s = some .local)
    (hb : ∀ A h, ROk n T (dF A name scope a cd h) → SOk (dF A name scope a cd h) → BlkX prog w (dF A name scope a cd h) body (Inv (dF A name scope a cd h) (ns.zip ds) []) (fun _ _ => False) (Thr (dF A name scope a cd h) C x))
    {A : Around} {s : Shared} {vs : List Value} {outer : List Env} {B : Heap} (hroom : Room (n + 1) A) (hle : Le T.h0 s.heap) (hp : Paired (Rep (fun _ => True) s.heap) vs ds) (hfr : A.frames = some outer) (hB : B.StaysIn s.heap) (hfl : s.heap.FunFrames B outer)
    (hco : scope.isCoroutine = false := by rfl) (hgen : scope.isGenerator = false := by rfl) (hk : scope.kind = .function := by rfl)
    (hcell : ∀ x ∈ scope.names, x.2 ≠ .cell := by decide) : wpAny (model prog w) A (call (.ref a) vs) (fun _ _ => False) (Flies B outer C x s) s := by
  obtain ⟨o, pm, doc, h1, h2⟩ := f.obj
  obtain ⟨mg, mb, _, _, hlim, _⟩ := T.tops.le hle
  have hlen : vs.length = ns.length := hp.length.trans hl.symm
  refine wpAny_call (call_pos hroom.d (hle _ _ h1) h2 hlim (f.code.keeps hle) (hbind pm doc vs hlen) ?_ ?_ hco hgen hk hcell)
  · intro x hx
    rw [hps] at hx
    have := (List.of_mem_zip hx).1
    obtain ⟨y, hy, e⟩ := List.mem_map.mp this
    rw [← e]; exact hloc y hy
  · intro h₁ fr
    have O : ROk n T (dF A name scope a cd s.heap) := ⟨hk, rfl, rfl, hroom.deeper _, hle⟩
    have S : SOk (dF A name scope a cd s.heap) := ⟨none_size _, fun n c e => (nomatch e), fun n n' c e => (nomatch e)⟩
    have I : Inv (dF A name scope a cd s.heap) (ns.zip ds) [] h₁ := by
      refine ⟨fr.keep, _, fun _ => none, fun _ => 0, fr.ns, fun n c e => (nomatch e), fun _ hy => (nomatch hy), fun x d hx => ?_⟩
      obtain ⟨g1, v, g2, g3⟩ := lk_zip (m := fun _ => none) hp hlen.symm hnd x d hx
      refine ⟨v, .loc (hloc x g1) ?_, (g3.le fr.keep).mono fun _ _ y hy => (nomatch hy), fun hx => (nomatch hx)⟩
      show ((params.args.map (·.arg)).zip vs).reverse.lookup x.s = some v
      rw [hps, lookup_reverse_nodup]
      · exact g2
      · have : ((ns.map Nm.s).zip vs).map (·.1) = ns.map Nm.s := List.map_fst_zip (by simp [hlen])
        rw [this]
        exact hnd.map (f := Nm.s) (fun a b hab e => hab (Nm.inj e))
    refine wpAny_mono ((hb A s.heap O S).run _ { s with heap := h₁, toks := _ } (SR.refl _) I) (fun _ _ x => x.2.elim) ?_
    rintro _ s' ⟨h, t, h', e, u, rfl, rfl, hle1, ⟨m, hns⟩, hm⟩
    have hLs : s.heap.get? s.heap.objs.size = none := none_size _
    have hBL : B.get? s.heap.objs.size = none := none_of_le hB hLs
    have hBh : B.StaysIn h := fun b o q => hle1 b o (hB b o q)
    have hfl' : h.FunFrames B (envOf name scope s.heap.objs.size a cd :: outer) := by
      refine ⟨by show scope.kind ≠ .module; rw [hk]; decide, ?_, hfl.of_keeps fun b o q _ => ⟨o, hle1 b o q, rfl⟩⟩
      obtain ⟨o, es, ep, ho, hd, _⟩ := hns
      exact ⟨_, o, rfl, hBL, ho, fun vs q => by rw [hd] at q; cases q⟩
    refine wpAny_leaves_madeW (base := B) (h := h) (outer := outer) (L := s.heap.objs.size) (Around.frames_deeper hfr) rfl hBh hfl' hm fun h'' tt x1 x2 x3 x4 => ?_
    exact ⟨e, tt, h'', t, u, rfl, rfl, x1, x2, x3, ((Heap.UpToSlots.of_keeps hle1).trans (Heap.UpToSlots.of_keeps hm.keeps)).trans x4⟩
end
end Mine
namespace Mine

/-! what a cell says -/
noncomputable def dH : Nat → Str
  | 0 => " Port: " | 1 => " ) " | 2 => "-" | _ => " extended "
noncomputable def dM : Nat → Str
  | 0 => "|" | 1 => "!" | 2 => "." | _ => "@"
noncomputable def dF1 : Nat → Str
  | 0 => "" | 1 => "(" | 2 => "1" | _ => ""
noncomputable def dF2 : Nat → Str
  | 0 => "" | 1 => "7" | 2 => "(" | _ => "9 9"
noncomputable def dT : Nat → Str
  | 0 => "" | 1 => ") x" | 2 => ".\t" | _ => " )x"
noncomputable def numS (num : Int) : Str := Str.ofString (toString num)
noncomputable def codeOf (f : Int) : Str := if f = 0 then "129" else if f = 1 then "239" else if f = 2 then "228" else "229"
noncomputable def insOf (f : Int) (dr : Nat) (num : Int) : Str := if f = 7 then dM dr ++ dF2 dr ++ dM dr ++ numS num ++ dM dr else dM dr ++ dF1 dr ++ dM dr ++ dF2 dr ++ dM dr ++ numS num ++ dM dr
noncomputable def endOf (f : Int) (dr : Nat) : Str := if f = 4 then "x" else if f = 5 then ("x" : Str) ++ ((")" : Str) ++ dT dr) else if f = 6 then dM dr ++ ((")" : Str) ++ dT dr) else (")" : Str) ++ dT dr
noncomputable def textOf (f : Int) (dr : Nat) (num : Int) : Str := if f = 2 ∨ f = 3 then codeOf f ++ (" 2 8 2" : Str) ++ endOf f dr else codeOf f ++ dH dr ++ ("(" : Str) ++ insOf f dr num ++ endOf f dr
noncomputable def kindOf (f : Int) : Str := if f < 0 then "right" else if f < 3 then "reply" else "proto"

noncomputable def cF (c : Int) : Int := c.fmod 24 - 16
noncomputable def cD (c : Int) : Nat := ((c.fdiv 24).fmod 4).toNat
noncomputable def cN (c : Int) : Int := ((c.fdiv 24).fdiv 12).fmod 40 - 20
noncomputable def cB (c : Int) : Int := ((c.fdiv 24).fdiv 4).fmod 3

theorem fmod_range (a b : Int) (h : 0 < b) : 0 ≤ a.fmod b ∧ a.fmod b < b := ⟨Int.fmod_nonneg_of_pos a h, Int.fmod_lt_of_pos a h⟩
theorem cD_lt (c : Int) : cD c < 4 := by have := fmod_range (c.fdiv 24) 4 (by decide); unfold cD; omega
theorem cN_rng (c : Int) : -20 ≤ cN c ∧ cN c < 20 := by have := fmod_range ((c.fdiv 24).fdiv 12) 40 (by decide); unfold cN; omega
theorem cB_rng (c : Int) : 0 ≤ cB c ∧ cB c < 3 := fmod_range _ 3 (by decide)
theorem cF_rng (c : Int) : -16 ≤ cF c ∧ cF c < 8 := by have := fmod_range c 24 (by decide); unfold cF; omega

theorem str_app_len (a b : Str) : (a ++ b).length = a.length + b.length := by show (a.cps ++ b.cps).size = _; rw [Array.size_append]; rfl
theorem dH_len (d : Nat) : (dH d).length ≤ 20 := by unfold dH; split <;> decide +kernel
theorem dM_len (d : Nat) : (dM d).length ≤ 20 := by unfold dM; split <;> decide +kernel
theorem dF1_len (d : Nat) : (dF1 d).length ≤ 20 := by unfold dF1; split <;> decide +kernel
theorem dF2_len (d : Nat) : (dF2 d).length ≤ 20 := by unfold dF2; split <;> decide +kernel
theorem dT_len (d : Nat) : (dT d).length ≤ 20 := by unfold dT; split <;> decide +kernel
theorem num_cases {P : Int → Prop} (h : ∀ k : Nat, k < 40 → P ((k : Int) - 20)) {a : Int} (h0 : -20 ≤ a) (h1 : a < 20) : P a := by
  have := h (a + 20).toNat (by omega)
  have e : (((a + 20).toNat : Nat) : Int) - 20 = a := by omega
  rwa [e] at this
theorem le_trans_log {a : Int} (h : -20 ≤ a ∧ a < 20) : a.natAbs.log2 < 1920 := by
  have h1 : a.natAbs < 2 ^ 5 := by omega
  have := Nat.log2_lt (n := a.natAbs) (k := 1920)
  by_cases q : a.natAbs = 0
  · rw [q]; decide
  · exact (this q).mpr (Nat.lt_of_lt_of_le h1 (Nat.pow_le_pow_right (by decide) (by decide)))
theorem numS_len' : ∀ k : Nat, k < 40 → (numS ((k : Int) - 20)).length ≤ 20 := by decide +kernel
theorem numS_len {a : Int} (h0 : -20 ≤ a) (h1 : a < 20) : (numS a).length ≤ 20 := num_cases (P := fun a => (numS a).length ≤ 20) numS_len' h0 h1

section
variable {prog : Program} {w : World} {T : TopAt} {n : Nat}

theorem Ev.tupE {F : Frm} {ρ : List (Nm × D)} {es : List Expr} {k : Nat} {pos : Pos} {as : List At} (p : EvAll prog w F ρ es (as.map .at)) (hz : as.length ≤ 1000 := by decide) : Ev prog w F ρ (.Tuple es k pos) (.tup as) := EvN.ev (Ev.tuple p hz)

structure Top3 (T : TopAt) (Cr Cp : Addr) : Prop extends Top2 T Cr Cp where
  str : T.gl.lookup (Str.ofString "str") = some (Value.type "str")
  ntoff : ∃ t, T.gl.lookup (Str.ofString "NT_OFFSET") = some (Value.int 256 t)
  endm : ∃ t, T.gl.lookup (Str.ofString "ENDMARKER") = some (Value.int 0 t)

noncomputable abbrev F15 := SF 15
/-- the names behind the first eight lines -/
noncomputable abbrev ρ15 (c : Int) : List (Nm × D) := [(.fault_, DI (cF c)), (.rest_, DI (c.fdiv 24)), (.head_, DS (dH (cD c))), (.mark_, DS (dM (cD c))), (.first_, DS (dF1 (cD c))), (.second_, DS (dF2 (cD c))), (.tail_, DS (dT (cD c))), (.number_, DI (cN c)),
  (.code_, DS "229"), (.inside_, DS (dM (cD c) ++ dF1 (cD c) ++ dM (cD c) ++ dF2 (cD c) ++ dM (cD c) ++ numS (cN c) ++ dM (cD c))), (.end_, DS ((")" : Str) ++ dT (cD c))), (.kind_, DS "right")]

theorem drawn_1 {Cr Cp : Addr} (G : Top3 T Cr Cp) {A : Around} {nm : Str} {ad : Addr} {cd : Value} {h : Heap} {c : Int} {post : Flow → Heap → Prop} (O : ROk n T (F15 A nm ad cd h)) (S : SOk (F15 A nm ad cd h))
    (R : Blk prog w (F15 A nm ad cd h) ((fB (stAt 15)).drop 8) (Inv (F15 A nm ad cd h) (ρ15 c) []) post) :
    Blk prog w (F15 A nm ad cd h) (fB (stAt 15)) (Inv (F15 A nm ad cd h) [(.cell_, DI c)] []) post := by
  have hd := cD_lt c
  have hr4 := fmod_range (c.fdiv 24) 4 (by decide)
  have hN := cN_rng c
  have l1 := dH_len (cD c); have l2 := dM_len (cD c); have l3 := dF1_len (cD c); have l4 := dF2_len (cD c); have l5 := dT_len (cD c); have l6 := numS_len hN.1 hN.2; have l7 : (Str.ofString (toString (((c.fdiv 24).fdiv 12).fmod 40 - 20))).length ≤ 20 := l6
  refine Blk.one (Stm.unpackSwap (names := [.fault_, .rest_]) (as := [.int (c.fmod 24 - 16), .int (c.fdiv 24)]) O S ?_ rfl ?_ rfl rfl) ?_
  · exact Ev.tupE (.one (Ev.sub (Ev.mod (Ev.name O .cell_ rfl) Ev.int (by decide)) Ev.int) (.one (Ev.div (Ev.name O .cell_ rfl) Ev.int (by decide) (PyProof.noPylong_small (by decide))) .nil)) (Nat.le_of_ble_eq_true rfl)
  · intro x hx; rcases List.mem_cons.mp hx with rfl | hx; exact ⟨.inl rfl, List.not_mem_nil⟩; rcases List.mem_cons.mp hx with rfl | hx; exact ⟨.inl rfl, List.not_mem_nil⟩; cases hx
  refine Blk.one (Stm.assign (x := .dresses_) O S (Ev.listT (xs := [[.str " Port: ", .str "|", .str "", .str "", .str ""], [.str " ) ", .str "!", .str "(", .str "7", .str ") x"], [.str "-", .str ".", .str "1", .str "(", .str ".\t"], [.str " extended ", .str "@", .str "", .str "9 9", .str " )x"]])
    (.one (Ev.tupE (as := [.str " Port: ", .str "|", .str "", .str "", .str ""]) (.one Ev.str (.one Ev.str (.one Ev.str (.one Ev.str (.one Ev.str .nil)))))) (.one (Ev.tupE (as := [.str " ) ", .str "!", .str "(", .str "7", .str ") x"]) (.one Ev.str (.one Ev.str (.one Ev.str (.one Ev.str (.one Ev.str .nil))))))
      (.one (Ev.tupE (as := [.str "-", .str ".", .str "1", .str "(", .str ".\t"]) (.one Ev.str (.one Ev.str (.one Ev.str (.one Ev.str (.one Ev.str .nil)))))) (.one (Ev.tupE (as := [.str " extended ", .str "@", .str "", .str "9 9", .str " )x"]) (.one Ev.str (.one Ev.str (.one Ev.str (.one Ev.str (.one Ev.str .nil)))))) .nil))))) (.inl rfl) List.not_mem_nil (.inl rfl) rfl) ?_
  refine Blk.one (Stm.unpack (names := [(.head_, _), (.mark_, _), (.first_, _), (.second_, _), (.tail_, _)]) (as := [.str (dH (cD c)), .str (dM (cD c)), .str (dF1 (cD c)), .str (dF2 (cD c)), .str (dT (cD c))]) O S
    (EvP.of (Ev.itemT (d := []) (Ev.name O .dresses_ rfl) (Ev.mod (Ev.name O .rest_ rfl) Ev.int (by decide)) hr4.1 hr4.2 (Nat.le_of_ble_eq_true rfl)) ?_) rfl (by intro x hx; rcases List.mem_cons.mp hx with rfl | hx; exact ⟨.inl rfl, List.not_mem_nil⟩; rcases List.mem_cons.mp hx with rfl | hx; exact ⟨.inl rfl, List.not_mem_nil⟩; rcases List.mem_cons.mp hx with rfl | hx; exact ⟨.inl rfl, List.not_mem_nil⟩; rcases List.mem_cons.mp hx with rfl | hx; exact ⟨.inl rfl, List.not_mem_nil⟩; rcases List.mem_cons.mp hx with rfl | hx; exact ⟨.inl rfl, List.not_mem_nil⟩; cases hx) rfl rfl) ?_
  · show D.tup (List.getD _ (cD c) []) = _
    have : ∀ d, d < 4 → D.tup (List.getD [[At.str " Port: ", .str "|", .str "", .str "", .str ""], [.str " ) ", .str "!", .str "(", .str "7", .str ") x"], [.str "-", .str ".", .str "1", .str "(", .str ".\t"], [.str " extended ", .str "@", .str "", .str "9 9", .str " )x"]] d []) = .tup [.str (dH d), .str (dM d), .str (dF1 d), .str (dF2 d), .str (dT d)] := by
      intro d hd
      match d, hd with
      | 0, _ => rfl
      | 1, _ => rfl
      | 2, _ => rfl
      | 3, _ => rfl
    exact this _ hd
  refine Blk.one (Stm.assign (x := .number_) O S (Ev.at (P := fun _ _ => False) (Ev.sub (Ev.mod (Ev.div (Ev.name O .rest_ rfl) Ev.int (by decide) (PyProof.noPylong_small (by decide))) Ev.int (by decide)) Ev.int)) (.inl rfl) List.not_mem_nil (.inl rfl) rfl) ?_
  refine Blk.one (Stm.assign (x := .code_) O S (Ev.at (P := fun _ _ => False) Ev.str) (.inl rfl) List.not_mem_nil (.inl rfl) rfl) ?_
  refine Blk.one (Stm.assign (x := .inside_) O S (Ev.at (P := fun _ _ => False) (Ev.cat (Ev.cat (Ev.cat (Ev.cat (Ev.cat (Ev.cat (Ev.name O .mark_ rfl) (Ev.name O .first_ rfl) (by first | omega | (simp only [str_app_len]; omega))) (Ev.name O .mark_ rfl) (by first | omega | (simp only [str_app_len]; omega))) (Ev.name O .second_ rfl) (by first | omega | (simp only [str_app_len]; omega))) (Ev.name O .mark_ rfl) (by first | omega | (simp only [str_app_len]; omega))) (Ev.call O (Ev.glob O G.str rfl) Kpr.type (.one (Ev.name O .number_ rfl) .nil) (Fun.strI (le_trans_log hN))) (by first | omega | (simp only [str_app_len]; omega))) (Ev.name O .mark_ rfl) (by first | omega | (simp only [str_app_len]; omega)))) (.inl rfl) List.not_mem_nil (.inl rfl) rfl) ?_
  refine Blk.one (Stm.assign (x := .end_) O S (Ev.at (P := fun _ _ => False) (Ev.cat Ev.str (Ev.name O .tail_ rfl) ?_)) (.inl rfl) List.not_mem_nil (.inl rfl) rfl) ?_
  · have : (")" : Str).length = 1 := by decide +kernel
    omega
  refine Blk.one (Stm.assign (x := .kind_) O S (Ev.at (P := fun _ _ => False) Ev.str) (.inl rfl) List.not_mem_nil (.inl rfl) rfl) ?_
  exact Blk.sub R ⟨rfl, rfl, rfl, rfl, rfl, rfl, rfl, rfl, rfl, rfl, rfl, rfl, trivial⟩

theorem dM_len1 (d : Nat) : (dM d).length = 1 := by unfold dM; split <;> decide +kernel
theorem codeOf_len (f : Int) : (codeOf f).length ≤ 20 := by unfold codeOf; split; decide +kernel; split; decide +kernel; split <;> decide +kernel

noncomputable abbrev ρ15' (c : Int) (code ins e kind : Str) : List (Nm × D) := [(.code_, DS code), (.inside_, DS ins), (.end_, DS e), (.kind_, DS kind), (.fault_, DI (cF c)), (.rest_, DI (c.fdiv 24)), (.head_, DS (dH (cD c))), (.mark_, DS (dM (cD c))), (.first_, DS (dF1 (cD c))), (.second_, DS (dF2 (cD c))), (.tail_, DS (dT (cD c))), (.number_, DI (cN c))]

/-- the last three lines -/
theorem drawn_3 {A : Around} {nm : Str} {ad : Addr} {cd : Value} {h : Heap} {c : Int} {code ins e kind text : Str} (O : ROk n T (F15 A nm ad cd h)) (S : SOk (F15 A nm ad cd h)) (h1 : code.length ≤ 100) (h2 : ins.length ≤ 300) (h3 : e.length ≤ 100)
    (ht : text = if cF c = 2 ∨ cF c = 3 then code ++ (" 2 8 2" : Str) ++ e else code ++ dH (cD c) ++ ("(" : Str) ++ ins ++ e) :
    Blk prog w (F15 A nm ad cd h) ((fB (stAt 15)).drop 10) (Inv (F15 A nm ad cd h) (ρ15' c code ins e kind) []) (RetP (F15 A nm ad cd h) (.tup [.str text, .int (cB c), .int (cN c), .str kind])) := by
  have l1 := dH_len (cD c)
  have e1 : ("(" : Str).length = 1 := by decide +kernel
  have e2 : (" 2 8 2" : Str).length = 6 := by decide +kernel
  refine Blk.one (Stm.assign (x := .text_) O S (Ev.at (P := fun _ _ => False) (Ev.cat (Ev.cat (Ev.cat (Ev.cat (Ev.name O .code_ rfl) (Ev.name O .head_ rfl) (by omega)) Ev.str (by simp only [str_app_len]; omega)) (Ev.name O .inside_ rfl) (by simp only [str_app_len]; omega)) (Ev.name O .end_ rfl) (by simp only [str_app_len]; omega))) (.inl rfl) List.not_mem_nil (.inl rfl) rfl) ?_
  have hin : ([2, 3].any fun x => x == cF c) = decide (cF c = 2 ∨ cF c = 3) := by
    by_cases q : cF c = 2
    · simp [q]
    · by_cases q3 : cF c = 3
      · simp [q3]
      · simp [q, q3]; constructor <;> omega
  refine Blk.one (mid := Inv (F15 A nm ad cd h) ((.text_, DS text) :: ρ15' c code ins e kind) []) ?_ ?_
  · refine Stm.iff (b := decide (cF c = 2 ∨ cF c = 3)) (Ts.of (Ts.cmp (Ev.name O .fault_ rfl) (Ev.tupE (as := [2, 3].map At.int) (.one Ev.int (.one Ev.int .nil))) Cmp.inT) hin) (fun q => ?_) (fun q => ?_)
    · have q' : cF c = 2 ∨ cF c = 3 := of_decide_eq_true q
      rw [if_pos q'] at ht
      subst ht
      refine Blk.one (Stm.assign (x := .text_) O S (Ev.at (P := fun _ _ => False) (Ev.cat (Ev.cat (Ev.name O .code_ rfl) Ev.str (by omega)) (Ev.name O .end_ rfl) (by simp only [str_app_len]; omega))) (.inl rfl) List.not_mem_nil (.inl rfl) rfl) ?_
      exact Blk.sub Blk.done ⟨rfl, rfl, rfl, rfl, rfl, rfl, rfl, rfl, rfl, rfl, rfl, rfl, rfl, trivial⟩
    · have q' : ¬ (cF c = 2 ∨ cF c = 3) := of_decide_eq_false q
      rw [if_neg q'] at ht
      subst ht
      exact Blk.done
  exact Blk.ret (Ev.tuple (as := [.str text, .int (cB c), .int (cN c), .str kind]) (.one (Ev.name O .text_ rfl) (.one (Ev.mod (Ev.div (Ev.name O .rest_ rfl) Ev.int (by decide) (PyProof.noPylong_small (by decide))) Ev.int (by decide)) (.one (Ev.name O .number_ rfl) (.one (Ev.name O .kind_ rfl) .nil)))) (Nat.le_of_ble_eq_true rfl))

theorem in3 (f : Int) : ([0, 1, 2].any fun x => x == f) = decide (f = 0 ∨ f = 1 ∨ f = 2) := by
  by_cases q0 : f = 0
  · simp [q0]
  · by_cases q1 : f = 1
    · simp [q1]
    · by_cases q2 : f = 2
      · simp [q2]
      · simp [q0, q1, q2]; refine ⟨?_, ?_, ?_⟩ <;> omega

theorem drawn_2 {Cr Cp : Addr} (G : Top3 T Cr Cp) {A : Around} {nm : Str} {ad : Addr} {cd : Value} {h : Heap} {c : Int} {post : Flow → Heap → Prop} (O : ROk n T (F15 A nm ad cd h)) (S : SOk (F15 A nm ad cd h))
    (R : Blk prog w (F15 A nm ad cd h) ((fB (stAt 15)).drop 10) (Inv (F15 A nm ad cd h) (ρ15' c (codeOf (cF c)) (insOf (cF c) (cD c) (cN c)) (endOf (cF c) (cD c)) (kindOf (cF c))) []) post) :
    Blk prog w (F15 A nm ad cd h) ((fB (stAt 15)).drop 8) (Inv (F15 A nm ad cd h) (ρ15 c) []) post := by
  have hf := cF_rng c
  have hN := cN_rng c
  have l2 := dM_len (cD c); have l4 := dF2_len (cD c); have l5 := dT_len (cD c); have l6 := numS_len hN.1 hN.2; have l7 : (Str.ofString (toString (cN c))).length ≤ 20 := l6
  have e1 : (")" : Str).length = 1 := by decide +kernel
  have e2 : ("x" : Str).length = 1 := by decide +kernel
  obtain ⟨k1, hk1⟩ : ∃ k, k = if 0 ≤ cF c then ("proto" : Str) else "right" := ⟨_, rfl⟩
  refine Blk.one (mid := Inv (F15 A nm ad cd h) ((.kind_, DS k1) :: ρ15 c) []) ?_ ?_
  · refine Stm.iff (Ts.cmp (Ev.name O .fault_ rfl) Ev.int Cmp.geI) (fun q => ?_) (fun q => ?_)
    · rw [if_pos (of_decide_eq_true q)] at hk1
      subst hk1
      exact Blk.one (Stm.assign (x := .kind_) O S (Ev.at (P := fun _ _ => False) Ev.str) (.inl rfl) List.not_mem_nil (.inl rfl) rfl) Blk.done
    · rw [if_neg (of_decide_eq_false q)] at hk1
      subst hk1
      exact Blk.sub Blk.done ⟨rfl, rfl, rfl, rfl, rfl, rfl, rfl, rfl, rfl, rfl, rfl, rfl, rfl, trivial⟩
  refine Blk.one (mid := Inv (F15 A nm ad cd h) (ρ15' c (codeOf (cF c)) (insOf (cF c) (cD c) (cN c)) (endOf (cF c) (cD c)) (kindOf (cF c))) []) ?_ R
  refine Stm.iff (Ts.of (Ts.cmp (Ev.name O .fault_ rfl) (Ev.tupE (as := [0, 1, 2].map At.int) (.one Ev.int (.one Ev.int (.one Ev.int .nil)))) Cmp.inT) (in3 _)) (fun q => ?_) (fun q => ?_)
  · have q := of_decide_eq_true q
    have hi : insOf (cF c) (cD c) (cN c) = dM (cD c) ++ dF1 (cD c) ++ dM (cD c) ++ dF2 (cD c) ++ dM (cD c) ++ numS (cN c) ++ dM (cD c) := by unfold insOf; rw [if_neg (by omega)]
    have he : endOf (cF c) (cD c) = (")" : Str) ++ dT (cD c) := by unfold endOf; rw [if_neg (by omega), if_neg (by omega), if_neg (by omega)]
    have hk : kindOf (cF c) = "reply" := by unfold kindOf; rw [if_neg (by omega), if_pos (by omega)]
    have hc : (["129", "239", "228"] : List Str).getD (cF c).toNat "" = codeOf (cF c) := by
      rcases q with q | q | q <;> rw [q] <;> rfl
    rw [hi, he, hk, ← hc]
    refine Blk.one (Stm.assign (x := .kind_) O S (Ev.at (P := fun _ _ => False) Ev.str) (.inl rfl) List.not_mem_nil (.inl rfl) rfl) ?_
    refine Blk.one (Stm.assign (x := .code_) O S (Ev.at (P := fun _ _ => False) (Ev.itemS (d := "") (EvN.ev (Ev.listS (ns := ["129", "239", "228"]) (.one Ev.str (.one Ev.str (.one Ev.str .nil))) (Nat.le_of_ble_eq_true rfl))) (Ev.name O .fault_ rfl) (by omega) (by show cF c < 3; omega) (Nat.le_of_ble_eq_true rfl))) (.inl rfl) List.not_mem_nil (.inl rfl) rfl) ?_
    exact Blk.sub Blk.done ⟨rfl, rfl, rfl, rfl, rfl, rfl, rfl, rfl, rfl, rfl, rfl, rfl, trivial⟩
  · have q := of_decide_eq_false q
    have hc : codeOf (cF c) = "229" := by unfold codeOf; rw [if_neg (by omega), if_neg (by omega), if_neg (by omega)]
    have hk : kindOf (cF c) = k1 := by
      rw [hk1]; unfold kindOf
      by_cases z : cF c < 0
      · rw [if_pos z, if_neg (by omega)]
      · rw [if_neg z, if_neg (by omega), if_pos (by omega)]
    rw [hc, hk]
    refine Blk.one (Stm.iff (Ts.cmp (Ev.name O .fault_ rfl) Ev.int Cmp.eqI) (fun q4 => ?_) (fun q4 => ?_)) Blk.done
    · have q4 : cF c = 4 := by simpa using q4
      have hi : insOf (cF c) (cD c) (cN c) = dM (cD c) ++ dF1 (cD c) ++ dM (cD c) ++ dF2 (cD c) ++ dM (cD c) ++ numS (cN c) ++ dM (cD c) := by unfold insOf; rw [if_neg (by omega)]
      have he : endOf (cF c) (cD c) = "x" := by unfold endOf; rw [if_pos q4]
      rw [hi, he]
      refine Blk.one (Stm.assign (x := .end_) O S (Ev.at (P := fun _ _ => False) Ev.str) (.inl rfl) List.not_mem_nil (.inl rfl) rfl) ?_
      exact Blk.sub Blk.done ⟨rfl, rfl, rfl, rfl, rfl, rfl, rfl, rfl, rfl, rfl, rfl, rfl, trivial⟩
    have q4 : ¬ cF c = 4 := by simpa using q4
    refine Blk.one (Stm.iff (Ts.cmp (Ev.name O .fault_ rfl) Ev.int Cmp.eqI) (fun q5 => ?_) (fun q5 => ?_)) Blk.done
    · have q5 : cF c = 5 := by simpa using q5
      have hi : insOf (cF c) (cD c) (cN c) = dM (cD c) ++ dF1 (cD c) ++ dM (cD c) ++ dF2 (cD c) ++ dM (cD c) ++ numS (cN c) ++ dM (cD c) := by unfold insOf; rw [if_neg (by omega)]
      have he : endOf (cF c) (cD c) = ("x" : Str) ++ ((")" : Str) ++ dT (cD c)) := by unfold endOf; rw [if_neg (by omega), if_pos q5]
      rw [hi, he]
      refine Blk.one (Stm.assign (x := .end_) O S (Ev.at (P := fun _ _ => False) (Ev.cat Ev.str (Ev.name O .end_ rfl) (by simp only [str_app_len]; omega))) (.inl rfl) List.not_mem_nil (.inl rfl) rfl) ?_
      exact Blk.sub Blk.done ⟨rfl, rfl, rfl, rfl, rfl, rfl, rfl, rfl, rfl, rfl, rfl, rfl, trivial⟩
    have q5 : ¬ cF c = 5 := by simpa using q5
    refine Blk.one (Stm.iff (Ts.cmp (Ev.name O .fault_ rfl) Ev.int Cmp.eqI) (fun q6 => ?_) (fun q6 => ?_)) Blk.done
    · have q6 : cF c = 6 := by simpa using q6
      have hi : insOf (cF c) (cD c) (cN c) = dM (cD c) ++ dF1 (cD c) ++ dM (cD c) ++ dF2 (cD c) ++ dM (cD c) ++ numS (cN c) ++ dM (cD c) := by unfold insOf; rw [if_neg (by omega)]
      have he : endOf (cF c) (cD c) = dM (cD c) ++ ((")" : Str) ++ dT (cD c)) := by unfold endOf; rw [if_neg (by omega), if_neg (by omega), if_pos q6]
      rw [hi, he]
      refine Blk.one (Stm.assign (x := .end_) O S (Ev.at (P := fun _ _ => False) (Ev.cat (Ev.name O .mark_ rfl) (Ev.name O .end_ rfl) (by simp only [str_app_len]; omega))) (.inl rfl) List.not_mem_nil (.inl rfl) rfl) ?_
      exact Blk.sub Blk.done ⟨rfl, rfl, rfl, rfl, rfl, rfl, rfl, rfl, rfl, rfl, rfl, rfl, trivial⟩
    have q6 : ¬ cF c = 6 := by simpa using q6
    have he : endOf (cF c) (cD c) = (")" : Str) ++ dT (cD c) := by unfold endOf; rw [if_neg (by omega), if_neg (by omega), if_neg (by omega)]
    rw [he]
    refine Blk.one (Stm.iff (Ts.cmp (Ev.name O .fault_ rfl) Ev.int Cmp.eqI) (fun q7 => ?_) (fun q7 => ?_)) Blk.done
    · have q7 : cF c = 7 := by simpa using q7
      have hi : insOf (cF c) (cD c) (cN c) = dM (cD c) ++ dF2 (cD c) ++ dM (cD c) ++ numS (cN c) ++ dM (cD c) := by unfold insOf; rw [if_pos q7]
      rw [hi]
      refine Blk.one (Stm.assign (x := .inside_) O S (Ev.at (P := fun _ _ => False) (Ev.cat (Ev.cat (Ev.cat (Ev.cat (Ev.name O .mark_ rfl) (Ev.name O .second_ rfl) (by first | omega | (simp only [str_app_len]; omega))) (Ev.name O .mark_ rfl) (by first | omega | (simp only [str_app_len]; omega))) (Ev.call O (Ev.glob O G.str rfl) Kpr.type (.one (Ev.name O .number_ rfl) .nil) (Fun.strI (le_trans_log hN))) (by first | omega | (simp only [str_app_len]; omega))) (Ev.name O .mark_ rfl) (by first | omega | (simp only [str_app_len]; omega)))) (.inl rfl) List.not_mem_nil (.inl rfl) rfl) ?_
      exact Blk.sub Blk.done ⟨rfl, rfl, rfl, rfl, rfl, rfl, rfl, rfl, rfl, rfl, rfl, rfl, trivial⟩
    have q7 : ¬ cF c = 7 := by simpa using q7
    have hi : insOf (cF c) (cD c) (cN c) = dM (cD c) ++ dF1 (cD c) ++ dM (cD c) ++ dF2 (cD c) ++ dM (cD c) ++ numS (cN c) ++ dM (cD c) := by unfold insOf; rw [if_neg (by omega)]
    rw [hi]
    exact Blk.sub Blk.done ⟨rfl, rfl, rfl, rfl, rfl, rfl, rfl, rfl, rfl, rfl, rfl, rfl, trivial⟩

theorem Fun.drawn {Cr Cp : Addr} (G : Top3 T Cr Cp) {ad : Addr} {cd : Value} (f : FnT T 15 "_law_drawn" ad cd) {c : Int} : Fun prog w (n + 1) T (.ref ad) [DI c] (.tup [.str (textOf (cF c) (cD c) (cN c)), .int (cB c), .int (cN c), .str (kindOf (cF c))]) :=
  Fun.def [.cell_] f rfl rfl (by decide) (fun _ _ => of_len1 fun _ => rfl) (by intro x hx; rcases List.mem_cons.mp hx with rfl | hx; rfl; cases hx)
    (fun A h O S => drawn_1 G O S (drawn_2 G O S (drawn_3 O S (Nat.le_trans (codeOf_len _) (by decide)) (by
      have hN := cN_rng c
      have l2 := dM_len (cD c); have l3 := dF1_len (cD c); have l4 := dF2_len (cD c); have l6 := numS_len hN.1 hN.2
      unfold insOf; split <;> (simp only [str_app_len]; omega)) (by
      have l2 := dM_len (cD c); have l5 := dT_len (cD c)
      have e1 : (")" : Str).length = 1 := by decide +kernel
      have e2 : ("x" : Str).length = 1 := by decide +kernel
      unfold endOf; split; omega; split; (simp only [str_app_len]; omega); split <;> (simp only [str_app_len]; omega)) rfl))) (hcell := by decide +kernel)
end
end Mine
namespace Mine

section
variable {prog : Program} {w : World} {T : TopAt} {n : Nat} {Cr Cp : Addr}

theorem Ev.globI {F : Frm} {ρ : List (Nm × D)} {x : Str} {i : Int} {pos : Pos} (O : ROk n T F) (hx : ∃ t, T.gl.lookup x = some (.int i t)) (hk : F.env.kindOf x = some .globalImplicit) (hd : (x == ("__debug__" : Str)) = false := by decide) : Ev prog w F ρ (.Name x pos) (DI i) := by
  obtain ⟨t, h⟩ := hx
  exact ⟨fun s I => wpAny_mono ((Ev.glob (prog := prog) (w := w) (ρ := ρ) (pos := pos) O h hk hd).run s I) (fun v s' x => ⟨x.1, t, x.2⟩) fun _ _ x => x⟩

theorem Fun.isTerminal (G : Top3 T Cr Cp) {ad : Addr} {cd : Value} (f : FnT T 11 "ISTERMINAL" ad cd) {x : Int} : Fun prog w (n + 1) T (.ref ad) [DI x] (DB (decide (x < 256))) :=
  Fun.def [.x_] f rfl rfl (by decide) (fun _ _ => of_len1 fun _ => rfl) (by intro x hx; rcases List.mem_cons.mp hx with rfl | hx; rfl; cases hx)
    (fun A h O S => Blk.ret (Ev.at (Ev.cmp (Ev.name O .x_ rfl) (Ev.globI O G.ntoff rfl) Cmp.ltI))) (hcell := by decide +kernel)
theorem Fun.isNonterminal (G : Top3 T Cr Cp) {ad : Addr} {cd : Value} (f : FnT T 12 "ISNONTERMINAL" ad cd) {x : Int} : Fun prog w (n + 1) T (.ref ad) [DI x] (DB (decide (256 ≤ x))) :=
  Fun.def [.x_] f rfl rfl (by decide) (fun _ _ => of_len1 fun _ => rfl) (by intro x hx; rcases List.mem_cons.mp hx with rfl | hx; rfl; cases hx)
    (fun A h O S => Blk.ret (Ev.at (Ev.cmp (Ev.name O .x_ rfl) (Ev.globI O G.ntoff rfl) Cmp.geI))) (hcell := by decide +kernel)
theorem Fun.isEof (G : Top3 T Cr Cp) {ad : Addr} {cd : Value} (f : FnT T 13 "ISEOF" ad cd) {x : Int} : Fun prog w (n + 1) T (.ref ad) [DI x] (DB (x == 0)) :=
  Fun.def [.x_] f rfl rfl (by decide) (fun _ _ => of_len1 fun _ => rfl) (by intro x hx; rcases List.mem_cons.mp hx with rfl | hx; rfl; cases hx)
    (fun A h O S => Blk.ret (Ev.at (Ev.cmp (Ev.name O .x_ rfl) (Ev.globI O G.endm rfl) Cmp.eqI))) (hcell := by decide +kernel)
theorem Fun.strxfrm {ad : Addr} {cd : Value} (f : FnT T 1 "_strxfrm" ad cd) {x : Str} : Fun prog w (n + 1) T (.ref ad) [DS x] (DS x) :=
  Fun.def [.s_] f rfl rfl (by decide) (fun _ _ => of_len1 fun _ => rfl) (by intro x hx; rcases List.mem_cons.mp hx with rfl | hx; rfl; cases hx)
    (fun A h O S => Blk.ret (Ev.at (Ev.name O .s_ rfl))) (hcell := by decide +kernel)

/-- the functions of the text -/
structure Top4 (T : TopAt) (Cr Cp : Addr) : Prop extends Top3 T Cr Cp where
  strip : ∃ a cd, T.gl.lookup (Str.ofString "_strip_padding") = some (.ref a) ∧ FnT T 2 "_strip_padding" a cd
  parse : ∃ a cd, T.gl.lookup (Str.ofString "parse229") = some (.ref a) ∧ FnT T 7 "parse229" a cd

theorem Fun.number (G : Top4 T Cr Cp) {ad : Addr} {cd : Value} (f : FnT T 16 "_law_number" ad cd) {a b : Nat} {c : List Nat} {x : Int} (C : Core c) (hz : a + b ≤ 40) (hc : c.length ≤ 1000) (hg : g5 (pad 0 c 0) x = true) : Fun prog w (n + 2) T (.ref ad) [DS (pad a c b)] (DI x) := by
  obtain ⟨a1, cd1, l1, f1⟩ := G.strip
  obtain ⟨a2, cd2, l2, f2⟩ := G.parse
  have e1 : a - min 40 a = 0 := by omega
  have e2 : b - min (40 - min 40 a) b = 0 := by omega
  have hs : Fun prog w (n + 1) T (.ref a1) [DS (pad a c b), DI 40] (DS (pad 0 c 0)) := by
    have := Fun.strip (prog := prog) (w := w) (n := n) G.toTop0 f1 (a := a) (b := b) (m := 40) C (by omega) rfl rfl
    rwa [e1, e2] at this
  have hp : Fun prog w (n + 1) T (.ref a2) [DS (pad 0 c 0), .tup [.str "h", .int 7]] (.tup [.str "h", .int x]) := Fun.parse G.toTop1 f2 hg
  exact Fun.def [.line_] f rfl rfl (by decide) (fun _ _ => of_len1 fun _ => rfl) (by intro x hx; rcases List.mem_cons.mp hx with rfl | hx; rfl; cases hx)
    (fun A h O S => Blk.ret (Ev.at (Ev.itemA (k := 1) (EvN.ev (Ev.call O (Ev.glob O l2 rfl) f2.kpr (.one (EvN.ev (Ev.call O (Ev.glob O l1 rfl) f1.kpr (.one (Ev.name O .line_ rfl) (.one Ev.int .nil)) hs)) (.one (EvN.ev (Ev.tuple (as := [.str "h", .int 7]) (.one Ev.str (.one Ev.int .nil)) (Nat.le_of_ble_eq_true rfl))) .nil)) hp)) Ev.int rfl (by decide)))) (hcell := by decide +kernel)
end
end Mine
namespace Mine

/-! a comprehension's names -/
noncomputable def CellsL : List (Str × Addr) → List (Str × Addr) → Prop
  | [], _ => True
  | p :: r, cs => cs.lookup p.1 = some p.2 ∧ CellsL r cs
theorem CellsL.of : ∀ {cl cs : List (Str × Addr)}, CellsL cl cs → ∀ n c, cl.lookup n = some c → cs.lookup n = some c
  | [], _, _, _, _, h => nomatch h
  | (m, b) :: r, cs, ⟨h1, h2⟩, n, c, h => by
    rw [List.lookup_cons] at h
    by_cases q : n = m
    · subst q; rw [beq_self_eq_true] at h; cases h; exact h1
    · rw [show (n == m) = false by simpa using q] at h; exact CellsL.of h2 n c h
noncomputable def FreeL (F : Frm) (scope : Scope) (cl : List (Str × Addr)) (ρ : List (Nm × D)) : List (Nm × D) → Prop
  | [] => True
  | p :: r => (lk ρ p.1 = some p.2 ∧ F.env.kindOf p.1.s = some .cell ∧ (relabel scope F.env).names.lookup p.1.s = some .cell ∧ ∃ c, cl.lookup p.1.s = some c) ∧ FreeL F scope cl ρ r
theorem FreeL.of {F : Frm} {scope : Scope} {cl : List (Str × Addr)} {ρ : List (Nm × D)} : ∀ {ρf : List (Nm × D)}, FreeL F scope cl ρ ρf → ∀ y d, lk ρf y = some d → lk ρ y = some d ∧ F.env.kindOf y.s = some .cell ∧ (relabel scope F.env).names.lookup y.s = some .cell ∧ ∃ c, cl.lookup y.s = some c
  | [], _, _, _, h => nomatch h
  | (x, e) :: r, ⟨h1, h2⟩, y, d, h => by
    unfold lk at h
    by_cases q : y = x
    · rw [if_pos q] at h; cases h; subst q; exact h1
    · rw [if_neg q] at h; exact FreeL.of h2 y d h
noncomputable def clOf (scope : Scope) (env : Env) : List (Str × Addr) := scope.names.foldl (fun cs x => if x.2 == .free then (match env.cells.lookup x.1 with | some c => (x.1, c) :: cs | none => cs) else cs) []
theorem CompOk.of {F : Frm} {scope : Scope} {ρ ρf : List (Nm × D)} (clos : closureFor scope F.env = pure (clOf scope F.env)) (sub : CellsL (clOf scope F.env) F.env.cells) (free : FreeL F scope (clOf scope F.env) ρ ρf)
    (nocell : ∀ y ∈ scope.names, y.2 ≠ .cell := by decide) (kind : scope.kind = .function := by rfl) (names : ∀ y ∈ scope.names, y.2 = .local → scope.names.lookup y.1 = some .local := by decide) : CompOk F scope (clOf scope F.env) ρ ρf :=
  ⟨clos, CellsL.of sub, nocell, kind, names, FreeL.of free⟩

theorem ROk.cf {n : Nat} {T : TopAt} {F : Frm} {scope : Scope} {cl : List (Str × Addr)} {C : Addr} (O : ROk n T F) (hk : scope.kind = .function := by rfl) : ROk n T (cfrm scope cl F C) := ⟨hk, O.glob, O.bltn, O.room, O.le0⟩

noncomputable def basesL : List Int := [7995, 4992, 7173, 8117, 7953, 4815, 5785, 31415926535]
noncomputable def cellsOf (ns : List Int) : List Int := (rng 8).map fun k => basesL.getD k.toNat 0 + (pickL ns (some k) none (some 8)).sum

section
variable {prog : Program} {w : World} {T : TopAt} {n : Nat} {Cr Cp : Addr}

structure Top5 (T : TopAt) (Cr Cp : Addr) : Prop extends Top4 T Cr Cp where
  range : T.gl.lookup (Str.ofString "range") = some (Value.type "range")
  sum : T.gl.lookup (Str.ofString "sum") = some (Value.builtin "sum")
  drawn : ∃ a cd, T.gl.lookup (Str.ofString "_law_drawn") = some (.ref a) ∧ FnT T 15 "_law_drawn" a cd

noncomputable abbrev LF (A : Around) (nm : Str) (fa : Addr) (cd : Value) (h : Heap) : Frm := ⟨A.deeper (envOfC nm (fS (stAt 17)) h.objs.size fa cd), envOfC nm (fS (stAt 17)) h.objs.size fa cd, h⟩

theorem law_1 (G : Top5 T Cr Cp) {A : Around} {nm : Str} {fa : Addr} {cd : Value} {h : Heap} {ns : List Int} {post : Flow → Heap → Prop} (O : ROk (n + 2) T (LF A nm fa cd h)) (S : SOk (LF A nm fa cd h)) (hn : ns.length ≤ 63)
    (R : Blk prog w (LF A nm fa cd h) ((fB (stAt 17)).drop 2) (Inv (LF A nm fa cd h) [(.cells_, .ints (cellsOf ns)), (.bases_, .ints basesL), (.script_, .script ns)] []) post) :
    Blk prog w (LF A nm fa cd h) (fB (stAt 17)) (Inv (LF A nm fa cd h) [(.script_, .script ns)] []) post := by
  refine Blk.one (Stm.assign (x := .bases_) O S (Ev.listI (ns := basesL) (.one Ev.int (.one Ev.int (.one Ev.int (.one Ev.int (.one Ev.int (.one Ev.int (.one Ev.int (.one Ev.int .nil))))))))) (.inr ⟨rfl, _, rfl⟩) List.not_mem_nil (.inl rfl) rfl) ?_
  refine Blk.one (Stm.comp (y := .cells_) (kd := kInt) (xs := rng 8) (ρf := [(.bases_, .ints basesL), (.script_, .script ns)]) (g := fun k => basesL.getD k.toNat 0 + (pickL ns (some k) none (some 8)).sum) O S
    (CompOk.of rfl ⟨rfl, rfl, trivial⟩ ⟨⟨rfl, rfl, rfl, _, rfl⟩, ⟨rfl, rfl, rfl, _, rfl⟩, trivial⟩) (Src.range O (Ev.glob O G.range rfl) Ev.int (by decide) (by decide)) (Tgt.name (x := .k_) rfl rfl) (Nat.le_of_ble_eq_true rfl) ?_ rfl List.not_mem_nil rfl) ?_
  · intro x hx C
    have hx := mem_rng.mp hx
    refine Ev.at (Ev.add (Ev.itemI (Ev.name O.cf .bases_ rfl) (Ev.name O.cf .k_ rfl) hx.1 hx.2 (Nat.le_of_ble_eq_true rfl)) (EvN.ev (Ev.call O.cf (Ev.glob O.cf G.sum rfl) Kpr.builtin (.one (EvN.ev (Ev.sliceScript (Ev.name O.cf .script_ rfl) (.some (Ev.name O.cf .k_ rfl)) .none (.some Ev.int) (by decide) (by omega))) .nil) Fun.sum)))
  exact Blk.shrink (own' := []) (Blk.sub R ⟨rfl, rfl, rfl, trivial⟩) fun _ h => (nomatch h)
end
end Mine
namespace Mine

theorem paired_mapR {α β γ : Type} {R : α → γ → Prop} {f : β → γ} : ∀ {vs : List α} {bs : List β}, Paired (fun v b => R v (f b)) vs bs → Paired R vs (bs.map f)
  | _, _, .nil => .nil
  | _, _, .cons h t => .cons h (paired_mapR t)
theorem paired_unmapR {α β γ : Type} {R : α → γ → Prop} {f : β → γ} : ∀ {vs : List α} {bs : List β}, Paired R vs (bs.map f) → Paired (fun v b => R v (f b)) vs bs
  | _, [], .nil => .nil
  | _, _ :: _, .cons h t => .cons h (paired_unmapR t)
/-- lists of tuples, each said by an item -/
noncomputable def kMap {α : Type} (f : α → List At) : Kd α := ⟨fun c => .tup (f c), fun cs => .tups (cs.map f),
  fun _ _ a vs _ hp hl p => ⟨a, vs, rfl, hp, hl, paired_mapR p⟩, fun _ _ _ _ ⟨a, vs, e, hp, hl, i⟩ => ⟨a, vs, e, hp, hl, paired_unmapR (R := TupRep _ _) i⟩⟩

noncomputable def textC (c : Int) : Str := textOf (cF c) (cD c) (cN c)
noncomputable def rowOf (c : Int) : List At := [.str (textC c), .int (cB c), .int (cN c), .str (kindOf (cF c))]
noncomputable def txtL (c : Int) : List Nat := (textC c).cps.toList
noncomputable def bN (c : Int) : Nat := (cB c).toNat
noncomputable def line0 (c : Int) : Str := pad 3 (txtL c) (bN c)

theorem mk_txtL (c : Int) : mk (txtL c) = textC c := by unfold mk txtL; simp
theorem textOf_len (f : Int) (d : Nat) (a : Int) (h0 : -20 ≤ a) (h1 : a < 20) : (textOf f d a).length ≤ 500 := by
  have l1 := dH_len d; have l2 := dM_len d; have l3 := dF1_len d; have l4 := dF2_len d; have l5 := dT_len d; have l6 := numS_len h0 h1; have l7 := codeOf_len f
  have e1 : (")" : Str).length = 1 := by decide +kernel
  have e2 : ("x" : Str).length = 1 := by decide +kernel
  have e3 : ("(" : Str).length = 1 := by decide +kernel
  have e4 : (" 2 8 2" : Str).length = 6 := by decide +kernel
  have hi : (insOf f d a).length ≤ 200 := by unfold insOf; split <;> (simp only [str_app_len]; omega)
  have he : (endOf f d).length ≤ 100 := by unfold endOf; split; omega; split; (simp only [str_app_len]; omega); split <;> (simp only [str_app_len]; omega)
  unfold textOf
  split <;> (simp only [str_app_len]; omega)
theorem textC_len (c : Int) : (textC c).length ≤ 500 := textOf_len _ _ _ (cN_rng c).1 (cN_rng c).2
theorem txtL_len (c : Int) : (txtL c).length ≤ 500 := by
  have := textC_len c
  rw [← mk_txtL, mk_len] at this
  exact this
theorem bN_lt (c : Int) : bN c < 3 := by have := cB_rng c; unfold bN; omega
theorem bN_cast (c : Int) : (bN c : Int) = cB c := by have := cB_rng c; unfold bN; omega
theorem mul_blank (k : Nat) (h : k < 8) : Txt.mul " " (k : Int) = mk (List.replicate k 32) := by
  have : ∀ k, k < 8 → Txt.mul " " ((k : Nat) : Int) = mk (List.replicate k 32) := by decide +kernel
  exact this k h
theorem three : ("   " : Str) = mk [32, 32, 32] := by decide +kernel
theorem line0_eq (c : Int) : (("   " : Str) ++ textC c) ++ Txt.mul " " (cB c) = line0 c := by
  rw [← bN_cast, mul_blank _ (Nat.lt_trans (bN_lt c) (by decide)), ← mk_txtL, three, mk_app, mk_app]
  unfold line0 pad
  rw [List.append_assoc]; rfl

noncomputable def cs7 (ns : List Int) : List Int := pickL (cellsOf ns) none (some 7) none
theorem cs7_len (ns : List Int) : (cs7 ns).length = 7 := rfl

section
variable {prog : Program} {w : World} {T : TopAt} {n : Nat} {Cr Cp : Addr}

theorem law_2 (G : Top5 T Cr Cp) {A : Around} {nm : Str} {fa : Addr} {cd : Value} {h : Heap} {ns : List Int} {post : Flow → Heap → Prop} (O : ROk (n + 2) T (LF A nm fa cd h)) (S : SOk (LF A nm fa cd h)) (hn : ns.length ≤ 63)
    (R : Blk prog w (LF A nm fa cd h) ((fB (stAt 17)).drop 5) (Inv (LF A nm fa cd h) [(.movers_, .ints []), (.lines_, .strs ((cs7 ns).map line0)), (.drawn_, .tups ((cs7 ns).map rowOf)), (.cells_, .ints (cellsOf ns))] [.movers_, .lines_]) post) :
    Blk prog w (LF A nm fa cd h) ((fB (stAt 17)).drop 2) (Inv (LF A nm fa cd h) [(.cells_, .ints (cellsOf ns)), (.bases_, .ints basesL), (.script_, .script ns)] []) post := by
  obtain ⟨a1, cd1, l1, f1⟩ := G.drawn
  refine Blk.one (Stm.assign (x := .drawn_) O S (EvN.comp (kd := kMap rowOf) (xs := cs7 ns) (ρf := []) (g := id) (CompOk.of rfl trivial trivial) (Src.list kInt O (EvN.ev (Ev.sliceI (Ev.name O .cells_ rfl) .none (.some Ev.int) .none (by decide) (Nat.le_of_ble_eq_true rfl)))) (Tgt.name (x := .cell_) rfl rfl) (Nat.le_of_ble_eq_true rfl) ?_) (.inr ⟨rfl, _, rfl⟩) List.not_mem_nil (.inl rfl) rfl) ?_
  · intro x hx C
    exact Ev.call O.cf (Ev.glob O.cf l1 rfl) f1.kpr (.one (Ev.name O.cf .cell_ rfl) .nil) (Fun.drawn G.toTop3 f1)
  refine Blk.one (Stm.assignOwn (x := .lines_) O S (EvN.comp (kd := kStr) (xs := cs7 ns) (ρf := []) (g := line0) (CompOk.of rfl trivial trivial) (Src.list (kMap rowOf) O (EvP.of (Ev.name O .drawn_ rfl) ?_)) (Tgt.tuple (names := [(.text_, _), (.behind_, _), (.number_, _), (.kind_, _)]) O 4 rfl (by decide) ?_ rfl rowOf fun _ => rfl) (Nat.le_of_ble_eq_true rfl) ?_) (.inr ⟨rfl, _, rfl⟩) List.not_mem_nil (.inr ⟨_, rfl⟩) rfl) ?_
  · show D.tups (((cs7 ns).map id).map rowOf) = D.tups ((cs7 ns).map rowOf)
    rw [List.map_id]
  · intro p hp; rcases List.mem_cons.mp hp with rfl | hp; rfl; rcases List.mem_cons.mp hp with rfl | hp; rfl; rcases List.mem_cons.mp hp with rfl | hp; rfl; rcases List.mem_cons.mp hp with rfl | hp; rfl; cases hp
  · intro x hx C
    have h1 := textC_len x
    have h2 := cB_rng x
    have e3 : ("   " : Str).length = 3 := by decide +kernel
    have e4 : (Txt.mul " " (cB x)).length ≤ 10 := by
      rw [← bN_cast, mul_blank _ (Nat.lt_trans (bN_lt x) (by decide)), mk_len]; have := bN_lt x; simp; omega
    exact Ev.at (EvP.of (Ev.cat (Ev.cat Ev.str (Ev.name O.cf .text_ rfl) (by omega)) (Ev.rep Ev.str (Ev.name O.cf .behind_ rfl) (by decide +kernel) (by omega) (by omega)) (by simp only [str_app_len]; omega)) (congrArg DS (line0_eq x)))
  refine Blk.one (Stm.assignOwn (x := .movers_) O S (Ev.listI (ns := []) .nil) (.inr ⟨rfl, _, rfl⟩) (by decide) (.inl ⟨_, rfl⟩) rfl) ?_
  refine Blk.sub R ⟨rfl, rfl, ?_, rfl, trivial⟩
  show some (D.tups (((cs7 ns).map id).map rowOf)) = some (D.tups ((cs7 ns).map rowOf))
  rw [List.map_id]
end
end Mine
namespace Mine

section
variable {prog : Program} {w : World} {A : Around} {E : Value → Shared → Prop} {s : Shared} {e t0 C : Addr} {x : Str} {u : Tok}

/-- what a class of the text answers to str -/
structure StrC (h0 : Heap) (C : Addr) : Prop where
  look : ∀ (M : Model) h, Le h0 h → Looks M h (typeLookup (.ref C) (Str.ofString "__str__")) (some (.builtin "BaseException.__str__"))
  sub : ∀ (M : Model) h, Le h0 h → Looks M h (isSubtype (.ref C) (.type "BaseException")) true

/-- an exception of class C with one text -/
structure ExcObj (h : Heap) (e C : Addr) (x : Str) (u : Tok) : Prop where
  obj : ∃ o vs t, h.get? e = some o ∧ o.cls = .ref C ∧ o.data = .fields vs ∧ vs[0]? = some (.ref t) ∧ h.TupAt t [.str x u]

open Builtin Builtin.Str Builtin.BaseException Builtin.Exceptions in
theorem argsOf_own {M : Model} (I : ExcObj s.heap e C x u) {Q : Value × List Value → Shared → Prop} (hq : ∀ t, Q (.ref t, [.str x u]) s) : wpAny M A (bexcArgs (.ref e)) Q E s := by
  obtain ⟨o, vs, t, ho, _, hd, h0, ht⟩ := I.obj
  obtain ⟨ot, k, hto, _, htd⟩ := ht
  unfold bexcArgs
  exact wpAny_bind (wpAny_field ho hd h0 (wpAny_bind (wpAny_seqItems hto htd (wpAny_pure (hq t)))))

open Builtin Builtin.Str Builtin.BaseException Builtin.Exceptions in
theorem strEntry_own (I : ExcObj s.heap e C x u) {Q : Fin → Shared → Prop} (hq : Q (.done (.ret (.str x u))) s) : wpAny (model prog w) A (Builtin.«BaseException.__str__» ⟨[.ref e], []⟩) Q E s := by
  unfold Builtin.«BaseException.__str__»
  repeat (first | with_reducible refine argsOf_own I fun _ => ?_ | wp_step)
  exact hq

open Builtin Builtin.Str Builtin.BaseException Builtin.Exceptions in
theorem strOf_own {h0 : Heap} (c : StrC h0 C) (hle : Le h0 s.heap) (I : ExcObj s.heap e C x u) (hu : A.units < cLine) {Q : Value → Shared → Prop} (hq : Q (.str x u) s) : wpAny (model prog w) A (PySem.Builtin.Str.strOf (.ref e)) Q E s := by
  obtain ⟨o, vs, t, ho, hc, hd, h0, ht⟩ := I.obj
  have hty : ∀ M, Looks M s.heap (typeOf (.ref e)) (.ref C) := fun M => hc ▸ (Looks.ld ho).andThen .now
  unfold PySem.Builtin.Str.strOf
  rw [show isExactStr (.ref e) = false from rfl]
  refine wpAny_bind (m := cRoomFor _ _) (wpAny_cRoomFor hu ?_)
  refine wpAny_bind (m := callSpecial? (.ref e) (Str.ofString "__str__")) (wpAny_bind (wpAny_bind ((hty _).here ((c.look _ _ hle).here (wpAny_holding (wpAny_bind ((Looks.of_pure (PySem.F.excStr_Exception.str.bind _)).here (wpAny_bind ?_))))))))
  · refine wpAny_call (codeAny_call_builtin PySem.F.excStr_Exception.str.plain PySem.F.entry_bexc_str (check_slot (i := "BaseException.__str__") (owner := "BaseException") (n := "__str__") (by decide +kernel) (by decide +kernel) ((hty _).andThen (c.sub _ _ hle)) (PySem.F.args_bexc_str _) ?_))
    exact strEntry_own I (wpAny_pure (wpAny_pure hq))

theorem str_own {h0 : Heap} (c : StrC h0 C) (hle : Le h0 s.heap) (I : ExcObj s.heap e C x u) (hu : A.in1.in1.units < cLine) {Q : Value → Shared → Prop} (hq : Q (.str x u) s) : wpAny (model prog w) A (call (.type "str") [.ref e]) Q E s := by
  refine callType_codes (T := "str") (Bi := Builtin.«object.__init__») (Q₁ := fun r s₁ => ∃ y u, r = .str y u ∧ Q r s₁) PySem.F.called_str (PySem.F.typeCall_str_1 _) PySem.F.entry_object_init ?_ ?_
  · refine codeAny_of_tree ?_
    show wpAny _ A.in1.in1 (do checkBuiltinCall "str.__new__" ⟨[.type "str", .ref e], []⟩; again (.builtin "str.__new__" ⟨[.type "str", .ref e], []⟩)) _ _ s
    refine wpAny_bind (wpAny_of_eq (PySem.F.newCall_str_1 _) (wpAny_pure ⟨plainId_quiet (by decide +kernel) _, codeAny_builtin PySem.F.entry_str_new ?_⟩))
    rw [Around.under_plainId (by decide +kernel) _, str_new_tree]
    exact wpAny_bind (wpAny_pure (wpAny_bind (wpAny_of_eq isSubtype_str_str (wpAny_bind (strOf_own c hle I hu (wpAny_pure ⟨_, _, rfl, hq⟩))))))
  · rintro obj s₁ ⟨y, u, rfl, hq⟩
    exact ⟨typeIs_str _ _ _, PySem.F.args_object_init_2 _ _, object_init_meets PySem.F.called_str.init.lookup PySem.F.called_str.made (by decide) prog w A.in1 _ s₁ ⟨typeIs_str _ _ _, rfl, hq⟩⟩
end
end Mine
namespace Mine

section
variable {prog : Program} {w : World} {F : Frm} {ρ : List (Nm × D)} {T : TopAt} {n : Nat} {own : List Nm}

/-- the frame's own dict alone has turned -/
theorem Inv.turned {h h' : Heap} {x : Nm} (S : SOk F) (I : Inv F ρ own h) (hs : Heap.ExtBut F.env.locals h h') (hx : lk ρ x = none)
    (hn : ∀ m, h.Ns F.env.locals m → ∃ m', h'.Ns F.env.locals m' ∧ ∀ y, y ≠ x.s → m' y = m y) : Inv F ρ own h' := by
  obtain ⟨a, m, cm, adr, b, c, l, e⟩ := I
  obtain ⟨m', hn', he⟩ := hn m b
  refine ⟨fun b' o q => hs b' o (ne_of_none S.freshL q) (a b' o q), m', cm, adr, hn', fun nm c' q => ?_, fun y hy => ?_, fun y d q => ?_⟩
  · obtain ⟨o, ho, hd⟩ := c nm c' q
    exact ⟨o, hs c' o (cell_ne_ns ⟨o, ho, hd⟩ b) ho, hd⟩
  · obtain ⟨⟨o, xs, k, ho, hd⟩, hg⟩ := l y hy
    exact ⟨⟨o, xs, k, hs _ o (fun q => not_seq_of_ns b (q ▸ (l y hy).1)) ho, hd⟩, hg⟩
  · obtain ⟨v, h1, h2, h3⟩ := e y d q
    have hyx : y ≠ x := by rintro rfl; rw [hx] at q; cases q
    refine ⟨v, ?_, h2.extBut hs (not_seq_of_ns b), h3⟩
    cases h1 with
    | loc h4 h5 => exact .loc h4 ((he _ fun q => hyx (Nm.inj q)).trans h5)
    | cell c' h4 h5 h6 => exact .cell c' h4 h5 h6

theorem Inv.ns {h : Heap} (I : Inv F ρ own h) : ∃ m, h.Ns F.env.locals m := let ⟨_, m, _, _, b, _, _, _⟩ := I; ⟨m, b⟩

/-- slots of the frame's dict -/
theorem Inv.slots {h h' : Heap} (S : SOk F) (I : Inv F ρ own h) (hs : Heap.StaysIn (hideAll h [F.env.locals]) h') (hu : h.UpToSlots h') (hx : ∃ x, lk ρ x = none) : Inv F ρ own h' ∧ FK h h' := by
  have ext : Heap.ExtBut F.env.locals h h' := fun b o hb e => hs b o (hideAll_get _ e (by simpa using hb))
  obtain ⟨x, hx⟩ := hx
  obtain ⟨m, hm⟩ := I.ns
  exact ⟨I.turned S ext hx fun m hm => ⟨m, hu.ns hm, fun _ _ => rfl⟩, FK.ns ext hm⟩

theorem storeAny {A : Around} {x : Nm} {v : Value} {s : Shared} (S : SOk F) (hk : F.env.scope.kind = .function) (hl : F.env.kindOf x.s = some .local) (I : Inv F ρ own s.heap) (hx : lk ρ x = none) :
    wpAny (model prog w) A (storeName F.env x.s v) (fun _ s' => SR s s' ∧ Inv F ρ own s'.heap ∧ Heap.ExtBut F.env.locals s.heap s'.heap ∧ ∃ m', s'.heap.Ns F.env.locals m' ∧ m' x.s = some v) (fun _ _ => False) s := by
  obtain ⟨m, hm⟩ := I.ns
  refine wpAny_storeName_local hl hm (fun h' hn' hs' => ⟨SR.mk' (FK.ns hs'.extBut hm), ?_, hs'.extBut, _, hn', if_pos rfl⟩) (by rw [hk]; rfl)
  refine I.turned S hs'.extBut hx fun m2 hm2 => ?_
  have hmm : m2 = m := by
    obtain ⟨o, es, ep, ho, hd, q, hf⟩ := hm
    obtain ⟨o2, es2, ep2, ho2, hd2, q2, hf2⟩ := hm2
    rw [ho] at ho2; cases ho2
    rw [hd] at hd2; cases hd2
    funext y
    rw [← hf, ← hf2]
  subst hmm
  exact ⟨_, hn', fun y hy => if_neg hy⟩

theorem unbindAny {A : Around} {x : Nm} {v : Value} {m : Str → Option Value} {s : Shared} {pos : Pos} (S : SOk F) (hk : F.env.scope.kind = .function) (hl : F.env.kindOf x.s = some .local) (I : Inv F ρ own s.heap) (hx : lk ρ x = none) (hm : s.heap.Ns F.env.locals m) (hv : m x.s = some v) :
    wpAny (model prog w) A (unbindBehindTheSuite F.env x.s pos) (fun _ s' => SR s s' ∧ Inv F ρ own s'.heap) (fun _ _ => False) s := by
  unfold unbindBehindTheSuite
  refine wpAny_onRaise (wpAny_unbindName_local hl hm hv (by rw [hk]; rfl) fun h' u hn' hs' => ⟨SR.mk' (t := s.toks) (FK.ns hs'.extBut hm), ?_⟩)
  refine I.turned S hs'.extBut hx fun m2 hm2 => ?_
  have hmm : m2 = m := by
    obtain ⟨o, es, ep, ho, hd, q, hf⟩ := hm
    obtain ⟨o2, es2, ep2, ho2, hd2, q2, hf2⟩ := hm2
    rw [ho] at ho2; cases ho2
    rw [hd] at hd2; cases hd2
    funext y
    rw [← hf, ← hf2]
  subst hmm
  exact ⟨_, hn', fun y hy => if_neg hy⟩

theorem globRead {A : Around} {x : Str} {v : Value} {pos : Pos} {s : Shared} {E : Value → Shared → Prop} {Q : Value → Shared → Prop} (O : ROk n T F) (hle : Le T.h0 s.heap) (hx : T.gl.lookup x = some v) (hk : F.env.kindOf x = some .globalImplicit) (hq : Q v s) (hd : (x == ("__debug__" : Str)) = false := by decide) :
    wpAny (model prog w) A (eval (.Name x pos) F.env) Q E s := by
  obtain ⟨mg, mb, g, b, _, hv⟩ := T.tops.le hle
  refine Calls.Name_function_global O.kind hk ?_ hd
  rcases hv x v hx with e | ⟨e, e'⟩
  · exact Calls.loadGlobal_global (by rw [O.glob]; exact g) e hq
  · exact Calls.loadGlobal_builtin (by rw [O.glob]; exact g) e (by rw [O.bltn]; exact b) e' hq

/-- a call that raises -/
theorem callThrows {x : Str} {npos pos : Pos} {f : Value} {e : Expr} {es : List Expr} {ds : List D} {X : Shared → Value → Shared → Prop} (O : ROk n T F) (hx : Ev prog w F ρ (.Name x npos) (.val f)) (hk : Kpr prog w T f) (p : EvAll prog w F ρ (e :: es) ds)
    (C : ∀ s vs, Inv F ρ [] s.heap → Le T.h0 s.heap → Paired (Rep (fun _ => True) s.heap) vs ds → wpAny (model prog w) F.A (call f vs) (fun _ _ => False) (X s) s) {s : Shared} (I : Inv F ρ [] s.heap) :
    wpAny (model prog w) F.A (eval (.Call (.Name x npos) (e :: es) [] pos) F.env) (fun _ _ => False) (fun v s' => ∃ s1, Keeps s s1 ∧ X s1 v s') s := by
  refine wpAny_Call_ofName (wpAny_mono (hx.run s I) ?_ fun _ _ x => x.elim)
  rintro _ s1 ⟨k1, rfl⟩
  have I1 := I.le (keeps_le k1)
  refine callWith_of (P := fun h => Le T.h0 h) (by rw [p.plain]; rfl) hk ?_
  have hs : starEach (e :: es) F.env = (false, eval e F.env) :: starEach es F.env := by cases p with | cons h hs t => exact hs _
  have hev := p.eval (pos := pos) I1
  rw [hs] at hev ⊢
  refine Calls.evalArgs_plain (wpAny_mono hev ?_ fun _ _ x => x.elim)
  rintro vs s2 ⟨k2, r2⟩
  have I2 := I1.le (keeps_le k2)
  have hle := O.le0.trans I2.1
  refine ⟨hle, wpAny_mono (C s2 ([] ++ vs) I2 hle r2) (fun _ _ x => x) fun v s' x => ⟨s2, keeps_trans k1 k2, x⟩⟩
end
end Mine
namespace Mine

section
variable {prog : Program} {w : World} {F : Frm} {ρ : List (Nm × D)} {T : TopAt} {n : Nat} {own : List Nm}

/-- the exception in flight; h1, the heap ahead of the call -/
structure Fly (F : Frm) (h1 : Heap) (e t C : Addr) (x : Str) (u : Tok) (h : Heap) : Prop where
  fly : Heap.FlyingW (hideAll h1 [F.env.locals]) [F.env] e (.ref C) (.ref t) h
  tup : h.TupAt t [.str x u]
  up : h1.UpToSlots h

theorem Fly.obj {h1 : Heap} {e t C : Addr} {x : Str} {u : Tok} {h : Heap} (f : Fly F h1 e t C x u h) : ExcObj h e C x u := by
  obtain ⟨oe, ws, hoe, hoec, hoed, hoe0⟩ := f.fly.first
  exact ⟨oe, ws, t, hoe, hoec, hoed, hoe0, f.tup⟩

/-- a clause's suite: told = (kd, str(error)) -/
theorem suite_own {A : Around} {h0 : Heap} {e t C : Addr} {x kd : Str} {u : Tok} {s : Shared} {kk : Nat} {tp cp fp ap kp spos pos : Pos} (cst : StrC T.h0 C) (hA : A.in1.in1.units < cLine) (O : ROk n T F) (S : SOk F) (f : Fly F h0 e t C x u s.heap) (I0 : Inv F ρ own h0)
    (hstr : T.gl.lookup (Str.ofString "str") = some (.type "str")) (hkstr : F.env.kindOf (Str.ofString "str") = some .globalImplicit) (hle : F.env.kindOf Nm.error_.s = some .local) (hlt : F.env.kindOf Nm.told_.s = some .local) (hxe : lk ρ .error_ = none) (hto : Nm.told_ ∉ own)
    (hsw : swapsWith (.Tuple [.Constant (.str kd) kk kp, .Call (.Name (Str.ofString "str") fp) [.Name Nm.error_.s ap] [] cp] 0 tp) (some (.Name Nm.told_.s spos)) pos.line F.env = pure false)
    {R : Result → Shared → Prop} {hp : Pos}
    (hR : ∀ s', (∃ h t, s' = { s with heap := h, toks := t }) → FK h0 s'.heap → Inv F ((.told_, .tup [.str kd, .str x]) :: ρ) own s'.heap → R (.ok .next) s') :
    codeAny (model prog w) A (.handlers (.ref e) [.ExceptHandler none (some Nm.error_.s) [.Assign [.Name Nm.told_.s spos] (.Tuple [.Constant (.str kd) kk kp, .Call (.Name (Str.ofString "str") fp) [.Name Nm.error_.s ap] [] cp] 0 tp) pos] hp] F.env) R s := by
  refine codeAny_handlers_suite_as ?_
  refine lands_againW f.fly fun h1 hfl1 hsm1 => ?_
  obtain ⟨I1, fk1⟩ := I0.slots S hfl1.1 (f.up.trans hsm1) ⟨.error_, hxe⟩
  have f1 : Fly F h0 e t C x u h1 := ⟨hfl1, f.tup.of_slots hsm1, f.up.trans hsm1⟩
  have ob := f1.obj
  refine wpAny_mono (storeAny (s := { s with heap := h1 }) (v := .ref e) S O.kind hle I1 hxe) ?_ fun _ _ x => x.elim
  rintro _ s2 ⟨sr2, I2, ext2, m2, hm2, hv2⟩
  have ob2 : ExcObj s2.heap e C x u := by
    obtain ⟨o, vs, t', ho, hc, hd, h0, ot, k, hto, htc, htd⟩ := ob
    obtain ⟨m1, hm1⟩ := I1.ns
    exact ⟨o, vs, t', sr2.2 _ _ _ ho hd, hc, hd, h0, ot, k, ext2 _ _ (fun q => not_seq_of_ns hm1 (q ▸ ⟨_, _, _, hto, htd⟩)) hto, htc, htd⟩
  have hle2 : Le T.h0 s2.heap := O.le0.trans I2.1
  refine wpAny_execs_cons (wpAny_Assign_Name (wpAny_Tuple (wpAny_items_cons (wpAny_Constant_str ?_) rfl)) hsw)
  refine wpAny_items_cons (wpAny_Call_ofName (globRead O hle2 hstr hkstr ?_)) rfl
  refine callWith_of (P := fun h => h = s2.heap) rfl (fun h q => Kpr.type (prog := prog) (w := w) h (q ▸ hle2)) ?_
  refine Calls.evalArgs_plain ?_
  show wpAny _ _ (spliced (backTo cp (starEach [Expr.Name Nm.error_.s ap] F.env))) _ _ _
  refine wpAny_items_cons (wpAny_Name (wpAny_loadName_local O.kind hle hm2 hv2 ?_) (by decide)) rfl
  refine wpAny_items_nil ⟨rfl, ?_⟩
  refine str_own (s := { s2 with toks := s2.toks + 1 }) cst hle2 ob2 hA ?_
  refine wpAny_items_nil ⟨(by show 2 ≤ _; decide), ?_⟩
  refine wpAny_mono (Inv.store (d := .tup [.str kd, .str x]) (P := fun b => s2.heap.get? b = none) (h₀ := s2.heap) S O.kind (.inl hlt) hto I2 (le_push _) ⟨_, _, rfl, none_size _, ⟨_, Heap.get?_push_size _ rfl, rfl, 0, rfl⟩, .cons ⟨_, rfl⟩ (.cons ⟨_, rfl⟩ .nil)⟩ (.inr fun _ h => h)) ?_ fun _ _ x => x.elim
  rintro _ s3 ⟨sr3, I3⟩
  obtain ⟨⟨hh, tt, e2⟩, fk2⟩ := sr2
  obtain ⟨⟨hh3, tt3, e3⟩, fk3⟩ := sr3
  refine wpAny_execs_nil (hR _ ⟨hh3, tt3, by rw [e3, e2]⟩ (fk1.trans (fk2.trans ((FK.of (le_push _)).trans fk3))) I3)

/-- the class asked for is another -/
theorem excNo {M : Model} {A : Around} {E : Value → Shared → Prop} {nm q nm' q' : Str} {C N C' N' : Addr} {bs bm bs' bm' : List Value} {hdct hdct' : Bool} {sn sn' : List Str} {sub sub' : List Value} {ab ab' : Bool} {col col' : Option Bool} {dd dd' : Option Addr} {k0 k1 k2 k3 k5 k0' k1' k2' k3' k5' : Option Value} {newId newId' : String}
    {h : Heap} {g : Array GenState} {d : Drawn} {t : Nat} {os : OsState} {e : Addr} {oe : Obj} {Q : Bool → Shared → Prop}
    (hC : h.get? C = some (excClassObj nm q C N bs bm hdct sn sub ab col dd k0 k1 k2 k3 k5 newId)) (hC' : h.get? C' = some (excClassObj nm' q' C' N' bs' bm' hdct' sn' sub' ab' col' dd' k0' k1' k2' k3' k5' newId')) (he : h.get? e = some oe) (hcls : oe.cls = .ref C)
    (hbase : bm'.contains (.type "BaseException") = true) (hne : (Value.ref C :: bm).contains (.ref C') = false)
    (hq : Q false ⟨h, g, d, t, os⟩) : wpAny M A (excMatches (.ref e) (.ref C')) Q E ⟨h, g, d, t, os⟩ := by
  have hcB : (Value.ref C' :: bm').contains (.type "BaseException") = true := by rw [List.contains_cons, hbase, Bool.or_true]
  have f := tc_notTuple
  unfold excMatches
  repeat (first | (with_reducible refine wpAny_loadPart_at he ?_; rw [hcls]) | with_reducible refine wpAny_loadPart_at hC' ?_ | (with_reducible refine wpAny_isSubtype_exc hC' ?_; rw [hcB]) | (with_reducible refine wpAny_isSubtype_exc hC ?_; rw [hne]) | wp_step)
  exact hq
end
end Mine
namespace Mine

/-- a class object; its line of bases lacks another -/
noncomputable def ClsO (h : Heap) (C no : Addr) : Prop := ∃ (nm q : Str) (N : Addr) (bs bm : List Value) (hdct : Bool) (sn : List Str) (sub : List Value) (ab : Bool) (col : Option Bool) (dd : Option Addr) (k0 k1 k2 k3 k5 : Option Value) (i : String),
  h.get? C = some (excClassObj nm q C N bs bm hdct sn sub ab col dd k0 k1 k2 k3 k5 i) ∧ bm.contains (.type "BaseException") = true ∧ (Value.ref C :: bm).contains (.ref no) = false
theorem ClsO.le {h h' : Heap} {C no : Addr} (k : Le h h') (c : ClsO h C no) : ClsO h' C no := by
  obtain ⟨nm, q, N, bs, bm, hdct, sn, sub, ab, col, dd, k0, k1, k2, k3, k5, i, h1, h2, h3⟩ := c
  exact ⟨nm, q, N, bs, bm, hdct, sn, sub, ab, col, dd, k0, k1, k2, k3, k5, i, k _ _ h1, h2, h3⟩

section
variable {prog : Program} {w : World} {F : Frm} {ρ : List (Nm × D)} {T : TopAt} {n : Nat} {own : List Nm}

noncomputable abbrev suiteOf (kd : Str) (kk : Nat) (tp cp fp ap kp spos pos : Pos) : List Stmt := [.Assign [.Name Nm.told_.s spos] (.Tuple [.Constant (.str kd) kk kp, .Call (.Name (Str.ofString "str") fp) [.Name Nm.error_.s ap] [] cp] 0 tp) pos]

theorem clause_hit {h0 : Heap} {e t C no : Addr} {x kd cx : Str} {u : Tok} {s : Shared} {kk : Nat} {tp cp fp ap kp spos pos np hp : Pos} {rest : List ExceptHandler} {E : Value → Shared → Prop} {Q : Flow → Shared → Prop} (cst : StrC T.h0 C) (cls : ClsO T.h0 C no) (O : ROk (n + 1) T F) (S : SOk F) (f : Fly F h0 e t C x u s.heap) (I0 : Inv F ρ own h0)
    (hcx : T.gl.lookup cx = some (.ref C)) (hkcx : F.env.kindOf cx = some .globalImplicit) (hstr : T.gl.lookup (Str.ofString "str") = some (.type "str")) (hkstr : F.env.kindOf (Str.ofString "str") = some .globalImplicit) (hle : F.env.kindOf Nm.error_.s = some .local) (hlt : F.env.kindOf Nm.told_.s = some .local) (hxe : lk ρ .error_ = none) (hto : Nm.told_ ∉ own)
    (hsw : swapsWith (.Tuple [.Constant (.str kd) kk kp, .Call (.Name (Str.ofString "str") fp) [.Name Nm.error_.s ap] [] cp] 0 tp) (some (.Name Nm.told_.s spos)) pos.line F.env = pure false) (hd : (cx == ("__debug__" : Str)) = false)
    (hQ : ∀ s', (∃ h t, s' = { s with heap := h, toks := t }) → FK h0 s'.heap → Inv F ((.told_, .tup [.str kd, .str x]) :: ρ) own s'.heap → Q .next s') :
    wpAny (model prog w) F.A (handleBy (.ref e) F.env (.ExceptHandler (some (.Name cx np)) (some Nm.error_.s) (suiteOf kd kk tp cp fp ap kp spos pos) hp :: rest)) Q E s := by
  obtain ⟨hh, g, d, tk, os⟩ := s
  have I5 := (I0.slots S f.fly.1 f.up ⟨.error_, hxe⟩).1
  have hle5 : Le T.h0 hh := O.le0.trans I5.1
  obtain ⟨nm, q, N, bs, bm, hdct, sn, sub, ab, col, dd, k0, k1, k2, k3, k5, i, hC, hbase, _⟩ := cls.le hle5
  obtain ⟨oe, hoe, hoec⟩ := f.fly.there
  refine wpAny_handleBy_cons (codeAny_handlers_test (globRead O hle5 hcx hkcx ?_ hd)) (by intro q; cases q)
  refine wpAny_excMatches_sub_self hC hoe hoec hbase ?_
  have hu : (F.A.mark (some (.ref e))).in1.in1.units < cLine := by
    show F.A.units + 1 + 1 < cLine
    have := O.room.2.2
    omega
  refine suite_own cst hu O S f I0 hstr hkstr hle hlt hxe hto hsw fun s6 e6 fk6 I6 => ?_
  have hxe' : lk ((Nm.told_, D.tup [.str kd, .str x]) :: ρ) .error_ = none := by
    unfold lk; rw [if_neg (by decide)]; exact hxe
  refine wpAny_bind (wpAny_bindName (wpAny_mono (storeAny (v := .none) S O.kind hle I6 hxe') ?_ fun _ _ x => x.elim))
  rintro _ s7 ⟨⟨⟨h7, t7, e7⟩, fk7⟩, I7, _, m7, hm7, hv7⟩
  refine wpAny_mono (unbindAny S O.kind hle I7 hxe' hm7 hv7) ?_ fun _ _ x => x.elim
  rintro _ s8 ⟨⟨⟨h8, t8, e8⟩, fk8⟩, I8⟩
  obtain ⟨h6, t6, e6⟩ := e6
  exact hQ s8 ⟨h8, t8, by rw [e8, e7, e6]⟩ (fk6.trans (fk7.trans fk8)) I8

theorem clause_miss {h0 : Heap} {e t C C' no : Addr} {x cx : Str} {u : Tok} {s : Shared} {np hp : Pos} {nmx : Option Str} {bd : List Stmt} {rest : List ExceptHandler} {E : Value → Shared → Prop} {Q : Flow → Shared → Prop} (cls : ClsO T.h0 C C') (cls' : ClsO T.h0 C' no) (O : ROk (n + 1) T F) (S : SOk F) (f : Fly F h0 e t C x u s.heap) (I0 : Inv F ρ own h0)
    (hcx : T.gl.lookup cx = some (.ref C')) (hkcx : F.env.kindOf cx = some .globalImplicit) (hxe : lk ρ .error_ = none) (hd : (cx == ("__debug__" : Str)) = false)
    (hQ : wpAny (model prog w) F.A (handleBy (.ref e) F.env rest) Q E s) :
    wpAny (model prog w) F.A (handleBy (.ref e) F.env (.ExceptHandler (some (.Name cx np)) nmx bd hp :: rest)) Q E s := by
  obtain ⟨hh, g, d, tk, os⟩ := s
  have I5 := (I0.slots S f.fly.1 f.up ⟨.error_, hxe⟩).1
  have hle5 : Le T.h0 hh := O.le0.trans I5.1
  obtain ⟨nm, q, N, bs, bm, hdct, sn, sub, ab, col, dd, k0, k1, k2, k3, k5, i, hC, hbase, hne⟩ := cls.le hle5
  obtain ⟨nm', q', N', bs', bm', hdct', sn', sub', ab', col', dd', k0', k1', k2', k3', k5', i', hC', hbase', _⟩ := cls'.le hle5
  obtain ⟨oe, hoe, hoec⟩ := f.fly.there
  refine wpAny_handleBy_cons (codeAny_handlers_test (globRead O hle5 hcx hkcx ?_ hd)) (by intro q; cases q)
  exact excNo hC hC' hoe hoec hbase' hne hQ

/-- the try statement, an exception on its way -/
theorem Stm.tryOn {body : List Stmt} {h₀ : ExceptHandler} {hs : List ExceptHandler} {C : Addr} {x : Str} {pos : Pos} {post : Flow → Heap → Prop} (O : ROk (n + 1) T F) (S : SOk F) (hfr : F.A.frames = some [F.env]) (hfrm : F.env.frame = some F.env.locals) (hxe : lk ρ .error_ = none)
    (hb : ∀ s, Inv F ρ own s.heap → wpAny (model prog w) F.A (execs body F.env) (fun _ _ => False) (fun v s' => ∃ s1, Keeps s s1 ∧ Flies (hideAll s1.heap [F.env.locals]) [F.env] C x s1 v s') s)
    (hh : ∀ (s : Shared) h0 e t u, Fly F h0 e t C x u s.heap → Inv F ρ own h0 → wpAny (model prog w) F.A (handleBy (.ref e) F.env (h₀ :: hs)) (fun f s' => (∃ h t, s' = { s with heap := h, toks := t }) ∧ FK h0 s'.heap ∧ post f s'.heap) (fun _ _ => False) s) :
    Stm prog w F (.Try body (h₀ :: hs) [] [] pos) (Inv F ρ own) post := by
  refine ⟨fun s I => wpAny_Try_except (wpAny_mono (hb s I) (fun _ _ x => x.elim) ?_)⟩
  rintro v s' ⟨s1, k1, e, t, h', tk, u, rfl, rfl, fly, tup, hBt, up⟩
  have I1 := I.le (keeps_le k1)
  refine wpAny_looks_onW (outer := []) hfr hfrm fly fun h4 held4 sm4 => ?_
  refine wpAny_landsW held4 fun h5 fl5 sm5 => ?_
  refine wpAny_mono (hh _ s1.heap e t u ⟨fl5, (tup.of_slots sm4).of_slots sm5, (up.trans sm4).trans sm5⟩ I1) ?_ fun _ _ x => x
  rintro f s'' ⟨⟨h6, t6, e6⟩, fk6, hp⟩
  obtain ⟨h1, t1, rfl, kk⟩ := id k1
  exact ⟨⟨⟨h6, t6, e6⟩, (FK.of (keeps_le k1)).trans fk6⟩, hp⟩
end
end Mine
namespace Mine

/-- what is so of a cell's text -/
structure CF (c : Int) : Prop where
  core : Core (txtL c)
  small : (txtL c).all (fun x => decide (x < 128)) = true
  two : cF c < 0 → (txtL c).head? = some 50
  right : cF c < 0 → ∀ j, j ≤ 1 → g5 (pad 0 (txtL c) j) (cN c) = true
  reply : 0 ≤ cF c → cF c < 3 → ∀ j, j ≤ 1 → bad1 (pad 0 (txtL c) j) = true
  proto : 3 ≤ cF c → ∀ j, j ≤ 1 → isProto (pad 0 (txtL c) j) = true

noncomputable def right (c : Int) : Bool := decide (cF c < 0)
noncomputable def mvN (cs : List Int) (i : Nat) : List Nat := (List.range i).filter fun k => right (cs.getD k 0)
noncomputable def mvI (cs : List Int) (i : Nat) : List Int := (mvN cs i).map fun (k : Nat) => (k : Int)
theorem mvI_succ (cs : List Int) (i : Nat) : mvI cs (i + 1) = mvI cs i ++ if right (cs.getD i 0) then [(i : Int)] else [] := by
  unfold mvI mvN
  rw [List.range_succ, List.filter_append, List.map_append, List.filter_cons, List.filter_nil]
  split <;> rfl
theorem mvN_len (cs : List Int) (i : Nat) : (mvN cs i).length ≤ i := by
  unfold mvN
  have := List.length_filter_le (fun k => right (cs.getD k 0)) (List.range i)
  rwa [List.length_range] at this

theorem small_ok {a b : Nat} {c : List Nat} (h : c.all (fun x => decide (x < 128)) = true) : PyData.strOk (pad a c b) = true := by
  unfold PyData.strOk pad mk
  simp only [List.all_toArray, List.all_append, Bool.and_eq_true, List.all_replicate]
  refine ⟨by split <;> decide, ?_, by split <;> decide⟩
  rw [List.all_eq_true] at h ⊢
  intro x hx
  have := h x hx
  simp only [decide_eq_true_eq] at this ⊢
  omega
theorem ats_eqv {as : List At} : PyData.eqvAll (as.map At.pd) (as.map At.pd) = true := by
  induction as with
  | nil => rfl
  | cons a as ih =>
    simp only [List.map_cons, PyData.eqvAll, ih, Bool.and_true]
    cases a <;> simp [At.pd, PyData.eqv]

theorem min_step {b k : Nat} : b - min (4 + k - min (4 + k) 3) b = b - min (1 + k) b := by
  rw [Nat.min_eq_right (show 3 ≤ 4 + k by omega), show 4 + k - 3 = 1 + k by omega]
/-- the blanks behind that the first loop leaves -/
noncomputable def jb (i : Nat) (c : Int) : Nat := bN c - min (1 + i % 2) (bN c)
theorem jb_le (i : Nat) (c : Int) : jb i c ≤ 1 := by have := bN_lt c; unfold jb; omega
theorem bare_eq (i : Nat) (c : Int) : textC c ++ Txt.mul " " (if (0 : Int) > cB c - 1 - (i : Int).fmod 2 then 0 else cB c - 1 - (i : Int).fmod 2) = pad 0 (txtL c) (jb i c) := by
  have e : (if (0 : Int) > cB c - 1 - (i : Int).fmod 2 then 0 else cB c - 1 - (i : Int).fmod 2) = (jb i c : Int) := by
    have hm : (i : Int).fmod 2 = ((i % 2 : Nat) : Int) := by
      rw [Int.fmod_eq_emod_of_nonneg _ (by decide)]; omega
    rw [hm, ← bN_cast]
    unfold jb
    split <;> omega
  rw [e, mul_blank _ (Nat.lt_of_le_of_lt (jb_le i c) (by decide)), ← mk_txtL, mk_app]
  rfl
theorem pad_len' {a b : Nat} {c : Int} (h : a + b ≤ 100) : (pad a (txtL c) b).length ≤ 600 := by rw [pad_len]; have := txtL_len c; omega

section
variable {prog : Program} {w : World} {T : TopAt} {n : Nat} {Cr Cp : Addr}

structure Top6 (T : TopAt) (Cr Cp : Addr) : Prop extends Top5 T Cr Cp where
  strR : StrC T.h0 Cr
  strP : StrC T.h0 Cp
  clsR : ClsO T.h0 Cr Cp
  clsP : ClsO T.h0 Cp Cr
  type : T.gl.lookup (Str.ofString "type") = some (Value.type "type")
  max : T.gl.lookup (Str.ofString "max") = some (Value.builtin "max")

/-- the state between the turns of the first loop -/
noncomputable abbrev stA (cells cs : List Int) (i : Nat) : List (Nm × D) := [(.movers_, .ints (mvI cs i)), (.lines_, .strs (cs.map line0)), (.drawn_, .tups (cs.map rowOf)), (.cells_, .ints cells)]

noncomputable def lpB : Stmt → List Stmt
  | .For _ _ b _ _ => b
  | _ => []
noncomputable def body5 : List Stmt := match (fB (stAt 17)).drop 5 with | s :: _ => lpB s | [] => []

/-- the names of one turn, ahead of the test -/
noncomputable abbrev stB (cells cs : List Int) (i : Nat) (c : Int) : List (Nm × D) := [(.due_, .tup [.str (kindOf (cF c)), .str (pad 0 (txtL c) (jb i c))]), (.bare_, DS (pad 0 (txtL c) (jb i c))), (.kind_, DS (kindOf (cF c))), (.number_, DI (cN c)), (.k_, DI i)] ++ stA cells cs i

theorem turn_1 (G : Top6 T Cr Cp) {A : Around} {nm : Str} {fa : Addr} {cd : Value} {h : Heap} {cells cs : List Int} {i : Nat} {post : Flow → Heap → Prop} (O : ROk (n + 9) T (LF A nm fa cd h)) (S : SOk (LF A nm fa cd h)) (hcs : cs.length = 7) (hi : i < 7) (H : CF (cs.getD i 0))
    (R : Blk prog w (LF A nm fa cd h) (body5.drop 3) (Inv (LF A nm fa cd h) (stB cells cs i (cs.getD i 0)) [.movers_, .lines_]) post) :
    Blk prog w (LF A nm fa cd h) body5 (Inv (LF A nm fa cd h) ((.k_, DI i) :: stA cells cs i) [.movers_, .lines_]) post := by
  obtain ⟨a2, cd2, l2, f2⟩ := G.strip
  generalize hc : cs.getD i 0 = c at *
  have hget : cs[i]? = some c := by rw [← hc, List.getD_eq_getElem?_getD, List.getElem?_eq_getElem (by omega)]; rfl
  have hB := cB_rng c
  have hm2 : 0 ≤ (i : Int).fmod 2 ∧ (i : Int).fmod 2 < 2 := fmod_range _ 2 (by decide)
  have hm : (4 : Int) + (i : Int).fmod 2 = ((4 + i % 2 : Nat) : Int) := by
    rw [Int.fmod_eq_emod_of_nonneg _ (by decide)]; omega
  have hb3 := bN_lt c
  have htl := txtL_len c
  refine Blk.one (Stm.unpack (names := [(.text_, _), (.behind_, _), (.number_, _), (.kind_, _)]) (as := rowOf c) O S
    (EvP.of (Ev.itemT (d := []) (Ev.name O .drawn_ rfl) (Ev.name O .k_ rfl) (by omega) (by simp; omega) (by simp; omega)) ?_) rfl (by intro x hx; rcases List.mem_cons.mp hx with rfl | hx; exact ⟨.inl rfl, by decide⟩; rcases List.mem_cons.mp hx with rfl | hx; exact ⟨.inl rfl, by decide⟩; rcases List.mem_cons.mp hx with rfl | hx; exact ⟨.inl rfl, by decide⟩; rcases List.mem_cons.mp hx with rfl | hx; exact ⟨.inl rfl, by decide⟩; cases hx) rfl rfl) ?_
  · rw [List.getD_eq_getElem?_getD, List.getElem?_map, Int.toNat_natCast, hget]; rfl
  have hstrip : Fun prog w (n + 9) T (.ref a2) [DS (line0 c), DI (4 + (i : Int).fmod 2)] (DS (pad 0 (txtL c) (jb i c))) := by
    have := Fun.strip (prog := prog) (w := w) (n := n + 8) G.toTop0 f2 (a := 3) (b := bN c) (m := 4 + i % 2) H.core (by omega) rfl rfl
    rw [hm]
    have e1 : 3 - min (4 + i % 2) 3 = 0 := by omega
    have e2 : bN c - min (4 + i % 2 - min (4 + i % 2) 3) (bN c) = jb i c := min_step
    rw [e1, e2] at this
    exact this
  refine Blk.one (Stm.assign (x := .bare_) O S (Ev.at (P := fun _ _ => False) (EvN.ev (Ev.call O (Ev.glob O l2 rfl) f2.kpr (.one (EvP.of (Ev.itemS (d := "") (Ev.name O .lines_ rfl) (Ev.name O .k_ rfl) (by omega) (by simp; omega) (by simp; omega)) ?_) (.one (Ev.add Ev.int (Ev.mod (Ev.name O .k_ rfl) Ev.int (by decide))) .nil)) hstrip))) (.inl rfl) (by decide) (.inr fun _ _ h => h.elim) rfl) ?_
  · rw [List.getD_eq_getElem?_getD, List.getElem?_map, Int.toNat_natCast, hget]; rfl
  have hlen : (Txt.mul " " (if (0 : Int) > cB c - 1 - (i : Int).fmod 2 then 0 else cB c - 1 - (i : Int).fmod 2)).length ≤ 600 := by
    have := congrArg Str.length (bare_eq i c)
    rw [str_app_len] at this
    have h2 := pad_len' (a := 0) (b := jb i c) (c := c) (by have := jb_le i c; omega)
    omega
  have htc := textC_len c
  refine Blk.one (Stm.assign (x := .due_) O S (Ev.tuple (as := [.str (kindOf (cF c)), .str (pad 0 (txtL c) (jb i c))]) (.one (Ev.name O .kind_ rfl) (.one (EvP.of (Ev.cat (Ev.name O .text_ rfl) (Ev.rep Ev.str (EvN.ev (Ev.call O (Ev.glob O G.max rfl) Kpr.builtin (.one (Ev.sub (Ev.sub (Ev.name O .behind_ rfl) Ev.int) (Ev.mod (Ev.name O .k_ rfl) Ev.int (by decide))) (.one Ev.int .nil)) Fun.max)) (by decide +kernel) (by split <;> omega) (by split <;> omega)) (by omega)) (congrArg DS (bare_eq i c))) .nil)) (Nat.le_of_ble_eq_true rfl)) (.inl rfl) (by decide) (.inr fun _ _ h => h) rfl) ?_
  exact Blk.sub R ⟨rfl, rfl, rfl, rfl, rfl, rfl, rfl, rfl, rfl, trivial⟩
end
end Mine
namespace Mine

section
variable {prog : Program} {w : World} {T : TopAt} {n : Nat} {Cr Cp : Addr}

theorem Stm.post {F : Frm} {st : Stmt} {pre : Heap → Prop} {post post' : Flow → Heap → Prop} (h : Stm prog w F st pre post) (hp : ∀ f x, post f x → post' f x) : Stm prog w F st pre post' := ⟨fun s hs => wpAny_mono (h.run s hs) (fun f s' x => ⟨x.1, hp f _ x.2⟩) fun _ _ x => x⟩

theorem Stm.tryOk {F : Frm} {body : List Stmt} {h₀ : ExceptHandler} {hs : List ExceptHandler} {pos : Pos} {pre mid : Heap → Prop} (hb : Blk prog w F body pre (nextP mid)) : Stm prog w F (.Try body (h₀ :: hs) [] [] pos) pre (nextP mid) := by
  refine ⟨fun s I => wpAny_Try_except (wpAny_mono (hb.run s I) ?_ fun _ _ x => x.elim)⟩
  rintro f s1 ⟨sr, rfl, hm⟩
  exact wpAny_execs_nil ⟨sr, rfl, hm⟩

/-- the check at a turn's end -/
theorem turn_end (G : Top6 T Cr Cp) {A : Around} {nm : Str} {fa : Addr} {cd : Value} {h : Heap} {x : Str} {b : At} {ρ ρ' : List (Nm × D)} {own : List Nm} (O : ROk (n + 9) T (LF A nm fa cd h)) (hx : PyData.strOk x = true) (hb : (∃ i, b = .int i) ∨ ∃ y, b = .str y ∧ PyData.strOk y = true)
    (h1 : lk ρ .told_ = some (.tup [.str x, b])) (h2 : lk ρ .due_ = some (.tup [.str x, b])) (hs : SubL ρ' ρ) :
    Blk prog w (LF A nm fa cd h) (body5.drop 5) (Inv (LF A nm fa cd h) ρ own) (nextP (Inv (LF A nm fa cd h) ρ' own)) := by
  have hok : [At.str x, b].all At.ok = true := by
    rcases hb with ⟨i, rfl⟩ | ⟨y, rfl, hy⟩ <;> simp [At.ok, *]
  have q : (!PyData.eqv (.tuple ([At.str x, b].map At.pd)) (.tuple ([At.str x, b].map At.pd))) = false := by rw [PyData.eqv, ats_eqv]; rfl
  have q2 : ∀ y : String, (!(Value.type y == Value.type y)) = false := fun y => by rw [beq_self_eq_true]; rfl
  rcases hb with ⟨i, rfl⟩ | ⟨y, rfl, hy⟩
  · exact Blk.skip (Ts.of (Ts.or2 (a := false) (b := false) (Ts.of (Ts.cmp (Ev.name O .told_ h1) (Ev.name O .due_ h2) (Cmp.neT O hok hok (by omega))) q) (fun _ => Ts.of (Ts.cmp (EvN.ev (Ev.call O (Ev.glob O G.type rfl) Kpr.type (.one (Ev.itemA (k := 1) (Ev.name O .told_ h1) Ev.int rfl (by decide)) .nil) Fun.typeI)) (EvN.ev (Ev.call O (Ev.glob O G.type rfl) Kpr.type (.one (Ev.itemA (k := 1) (Ev.name O .due_ h2) Ev.int rfl (by decide)) .nil) Fun.typeI)) Cmp.isNotT) (q2 _))) rfl) (Blk.sub Blk.done hs)
  · exact Blk.skip (Ts.of (Ts.or2 (a := false) (b := false) (Ts.of (Ts.cmp (Ev.name O .told_ h1) (Ev.name O .due_ h2) (Cmp.neT O hok hok (by omega))) q) (fun _ => Ts.of (Ts.cmp (EvN.ev (Ev.call O (Ev.glob O G.type rfl) Kpr.type (.one (Ev.itemA (k := 1) (Ev.name O .told_ h1) Ev.int rfl (by decide)) .nil) Fun.typeS)) (EvN.ev (Ev.call O (Ev.glob O G.type rfl) Kpr.type (.one (Ev.itemA (k := 1) (Ev.name O .due_ h2) Ev.int rfl (by decide)) .nil) Fun.typeS)) Cmp.isNotT) (q2 _))) rfl) (Blk.sub Blk.done hs)

/-- a right cell's turn -/
theorem turn_right (G : Top6 T Cr Cp) {A : Around} {nm : Str} {fa : Addr} {cd : Value} {h : Heap} {cells cs : List Int} {i : Nat} (O : ROk (n + 9) T (LF A nm fa cd h)) (S : SOk (LF A nm fa cd h)) (hcs : cs.length = 7) (hi : i < 7) (H : CF (cs.getD i 0)) (hr : cF (cs.getD i 0) < 0) :
    Blk prog w (LF A nm fa cd h) (body5.drop 3) (Inv (LF A nm fa cd h) (stB cells cs i (cs.getD i 0)) [.movers_, .lines_]) (nextP (Inv (LF A nm fa cd h) (stA cells cs (i + 1)) [.movers_, .lines_])) := by
  obtain ⟨a2, cd2, l2, f2⟩ := G.parse
  generalize hc : cs.getD i 0 = c at *
  have hmv : mvI cs (i + 1) = mvI cs i ++ [(i : Int)] := by
    rw [mvI_succ, hc]; unfold right; rw [decide_eq_true hr]; rfl
  have hk : kindOf (cF c) = "right" := by unfold kindOf; rw [if_pos hr]
  have hg := H.right hr (jb i c) (jb_le i c)
  have hok := small_ok (a := 0) (b := jb i c) H.small
  refine Blk.one (mid := Inv (LF A nm fa cd h) [(.due_, .tup [.str (pad 0 (txtL c) (jb i c)), .int (cN c)]), (.movers_, .ints (mvI cs i ++ [(i : Int)])), (.bare_, DS (pad 0 (txtL c) (jb i c))), (.k_, DI i), (.lines_, .strs (cs.map line0)), (.drawn_, .tups (cs.map rowOf)), (.cells_, .ints cells)] [.movers_, .lines_]) ?_ ?_
  · refine Stm.iff (b := true) (Ts.of (Ts.cmp (Ev.name O .kind_ rfl) Ev.str Cmp.eqS) (by rw [hk]; exact beq_self_eq_true _)) (fun _ => ?_) (fun q => nomatch q)
    refine Blk.one (Stm.assign (x := .due_) O S (Ev.tuple (as := [.str (pad 0 (txtL c) (jb i c)), .int (cN c)]) (.one (Ev.itemA (k := 1) (Ev.name O .due_ rfl) Ev.int rfl (by decide)) (.one (Ev.name O .number_ rfl) .nil)) (Nat.le_of_ble_eq_true rfl)) (.inl rfl) (by decide) (.inr fun _ _ h => h) rfl) ?_
    refine Blk.one (Stm.append (x := .movers_) (ns := mvI cs i) O S (by decide) rfl (Ev.name O .k_ rfl) (by unfold mvI; rw [List.length_map]; have := mvN_len cs i; omega)) ?_
    exact Blk.sub Blk.done ⟨rfl, rfl, rfl, rfl, rfl, rfl, rfl, trivial⟩
  have hp : Fun prog w (n + 9) T (.ref a2) [DS (pad 0 (txtL c) (jb i c)), .tup [.str (pad 0 (txtL c) (jb i c)), .int i]] (.tup [.str (pad 0 (txtL c) (jb i c)), .int (cN c)]) := Fun.parse (n := n + 8) G.toTop1 f2 hg
  refine Blk.one (Stm.tryOk (Blk.one (Stm.assign (x := .told_) O S (Ev.call O (Ev.glob O l2 rfl) f2.kpr (.one (Ev.name O .bare_ rfl) (.one (EvN.ev (Ev.tuple (as := [.str (pad 0 (txtL c) (jb i c)), .int i]) (.one (Ev.name O .bare_ rfl) (.one (Ev.name O .k_ rfl) .nil)) (Nat.le_of_ble_eq_true rfl))) .nil)) hp) (.inl rfl) (by decide) (.inr fun _ _ h => h) rfl) Blk.done)) ?_
  refine turn_end G O hok (.inl ⟨_, rfl⟩) rfl rfl ⟨?_, rfl, rfl, rfl, trivial⟩
  rw [hmv]; rfl

/-- a spoiled cell's turn -/
theorem turn_bad (G : Top6 T Cr Cp) {A : Around} {nm : Str} {fa : Addr} {cd : Value} {h : Heap} {cells cs : List Int} {i : Nat} (O : ROk (n + 9) T (LF A nm fa cd h)) (S : SOk (LF A nm fa cd h)) (hfr : A.frames = some []) (hcs : cs.length = 7) (hi : i < 7) (H : CF (cs.getD i 0)) (hr : ¬ cF (cs.getD i 0) < 0) :
    Blk prog w (LF A nm fa cd h) (body5.drop 3) (Inv (LF A nm fa cd h) (stB cells cs i (cs.getD i 0)) [.movers_, .lines_]) (nextP (Inv (LF A nm fa cd h) (stA cells cs (i + 1)) [.movers_, .lines_])) := by
  obtain ⟨a2, cd2, l2, f2⟩ := G.parse
  generalize hc : cs.getD i 0 = c at *
  have hmv : mvI cs (i + 1) = mvI cs i := by
    rw [mvI_succ, hc]; unfold right; rw [decide_eq_false hr]; exact List.append_nil _
  have hok := small_ok (a := 0) (b := jb i c) H.small
  have hk1 : PyData.strOk (kindOf (cF c)) = true := by unfold kindOf; split; decide +kernel; split <;> decide +kernel
  have hkb : (kindOf (cF c) == ("right" : Str)) = false := by unfold kindOf; rw [if_neg hr]; split <;> decide +kernel
  have hfr' : (LF A nm fa cd h).A.frames = some [(LF A nm fa cd h).env] := by show A.frames.map _ = _; rw [hfr]; rfl
  refine Blk.skip (Ts.of (Ts.cmp (Ev.name O .kind_ rfl) Ev.str Cmp.eqS) hkb) ?_
  have hend : Blk prog w (LF A nm fa cd h) (body5.drop 5) (Inv (LF A nm fa cd h) ((.told_, .tup [.str (kindOf (cF c)), .str (pad 0 (txtL c) (jb i c))]) :: stB cells cs i c) [.movers_, .lines_]) (nextP (Inv (LF A nm fa cd h) (stA cells cs (i + 1)) [.movers_, .lines_])) := by
    refine turn_end G O hk1 (.inr ⟨_, rfl, hok⟩) rfl rfl ⟨?_, rfl, rfl, rfl, trivial⟩
    rw [hmv]; rfl
  have body : ∀ {C : Addr}, (∀ A h, ROk (n + 8) T (SF 7 A "parse229" a2 cd2 h) → SOk (SF 7 A "parse229" a2 cd2 h) → BlkX prog w (SF 7 A "parse229" a2 cd2 h) (fB (stAt 7)) (Inv (SF 7 A "parse229" a2 cd2 h) (ρ7 (pad 0 (txtL c) (jb i c)) (.str (pad 0 (txtL c) (jb i c))) (.int i)) []) (fun _ _ => False) (Thr (SF 7 A "parse229" a2 cd2 h) C (pad 0 (txtL c) (jb i c)))) →
      ∀ s, Inv (LF A nm fa cd h) (stB cells cs i c) [.movers_, .lines_] s.heap → wpAny (model prog w) (LF A nm fa cd h).A (execs (match body5.drop 4 with | .Try b _ _ _ _ :: _ => b | _ => []) (LF A nm fa cd h).env) (fun _ _ => False) (fun v s' => ∃ s1, Keeps s s1 ∧ Flies (hideAll s1.heap [(LF A nm fa cd h).env.locals]) [(LF A nm fa cd h).env] C (pad 0 (txtL c) (jb i c)) s1 v s') s := by
    intro C hb s I
    refine wpAny_execs_cons (wpAny_Assign_Name (wpAny_mono (callThrows (n := n + 9) (X := fun s1 v s' => Flies (hideAll s1.heap [(LF A nm fa cd h).env.locals]) [(LF A nm fa cd h).env] C (pad 0 (txtL c) (jb i c)) s1 v s') O (Ev.glob O l2 rfl) f2.kpr
      (.one (Ev.name O .bare_ rfl) (.one (EvN.ev (Ev.tuple (as := [.str (pad 0 (txtL c) (jb i c)), .int i]) (.one (Ev.name O .bare_ rfl) (.one (Ev.name O .k_ rfl) .nil)) (Nat.le_of_ble_eq_true rfl))) .nil)) ?_ I.read) (fun _ _ x => x.elim) fun _ _ x => x) rfl)
    intro s1 vs I1 hle hp
    have hn := I1.ns
    obtain ⟨m, hm⟩ := hn
    refine Fun.throws (n := n + 8) (outer := [(LF A nm fa cd h).env]) (B := hideAll s1.heap [(LF A nm fa cd h).env.locals]) [.resp_, .peer_] f2 rfl rfl (by decide) (fun _ _ => of_len2 fun _ _ => rfl) (by intro x hx; rcases List.mem_cons.mp hx with rfl | hx; rfl; rcases List.mem_cons.mp hx with rfl | hx; rfl; cases hx) hb O.room hle hp hfr' (fun b o q => of_hideAll _ q) ⟨by show ScopeKind.function ≠ .module; decide, ?_, trivial⟩ (hcell := by decide +kernel)
    obtain ⟨o, es, ep, ho, hd, _⟩ := hm
    exact ⟨_, o, rfl, hideAll_none _ (.head _), ho, fun vs q => by rw [hd] at q; cases q⟩
  by_cases h3 : cF c < 3
  · have hk : kindOf (cF c) = "reply" := by unfold kindOf; rw [if_neg hr, if_pos h3]
    have hbad := H.reply (by omega) h3 (jb i c) (jb_le i c)
    refine Blk.one (Stm.tryOn (n := n + 8) O S hfr' rfl rfl (body (C := Cr) fun A h O S => p229_reply G.toTop2 O S hbad) ?_) (by rw [hk] at hend; exact hend)
    intro s h0 e t u f I0
    refine wpAny_mono (clause_hit (n := n + 8) G.strR G.clsR O S f I0 G.reply.bound rfl G.str rfl rfl rfl rfl (by decide) rfl (by decide) (Q := fun f s' => (∃ h t, s' = { s with heap := h, toks := t }) ∧ FK h0 s'.heap ∧ _) fun s' e' fk' I' => ⟨e', fk', rfl, ?_⟩) (fun _ _ x => x) fun _ _ x => x
    exact I'
  · have hk : kindOf (cF c) = "proto" := by unfold kindOf; rw [if_neg hr, if_neg h3]
    have hbad := H.proto (by omega) (jb i c) (jb_le i c)
    refine Blk.one (Stm.tryOn (n := n + 8) O S hfr' rfl rfl (body (C := Cp) fun A h O S => p229_proto G.toTop2 O S hbad) ?_) (by rw [hk] at hend; exact hend)
    intro s h0 e t u f I0
    refine clause_miss (n := n + 8) G.clsP G.clsR O S f I0 G.reply.bound rfl rfl (by decide) ?_
    refine wpAny_mono (clause_hit (n := n + 8) G.strP G.clsP O S f I0 G.proto.bound rfl G.str rfl rfl rfl rfl (by decide) rfl (by decide) (Q := fun f s' => (∃ h t, s' = { s with heap := h, toks := t }) ∧ FK h0 s'.heap ∧ _) fun s' e' fk' I' => ⟨e', fk', rfl, ?_⟩) (fun _ _ x => x) fun _ _ x => x
    exact I'

/-- the first loop -/
theorem law_3 (G : Top6 T Cr Cp) {A : Around} {nm : Str} {fa : Addr} {cd : Value} {h : Heap} {cells cs : List Int} {post : Flow → Heap → Prop} (O : ROk (n + 9) T (LF A nm fa cd h)) (S : SOk (LF A nm fa cd h)) (hfr : A.frames = some []) (hcs : cs.length = 7) (H : ∀ c, CF c)
    (R : Blk prog w (LF A nm fa cd h) ((fB (stAt 17)).drop 6) (Inv (LF A nm fa cd h) (stA cells cs 7) [.movers_, .lines_]) post) :
    Blk prog w (LF A nm fa cd h) ((fB (stAt 17)).drop 5) (Inv (LF A nm fa cd h) [(.movers_, .ints []), (.lines_, .strs (cs.map line0)), (.drawn_, .tups (cs.map rowOf)), (.cells_, .ints cells)] [.movers_, .lines_]) post := by
  refine Blk.one (mid := Inv (LF A nm fa cd h) (stA cells cs 7) [.movers_, .lines_]) ?_ R
  refine Stm.post (Stm.forRange (x := .k_) (σ := Unit) (st := fun i _ => stA cells cs i) (p := fun _ _ => True) (x0 := ()) O S (Ev.glob O G.range rfl) Ev.int (by decide) (by decide) (hp0 := trivial) (hst0 := fun _ _ h => h) (.inl rfl) (by decide) (fun i _ hi _ => ?_)) ?_
  · have hi : i < 7 := by omega
    refine Blk.post (turn_1 G O S hcs hi (H _) (post := nextP (Inv (LF A nm fa cd h) (stA cells cs (i + 1)) [.movers_, .lines_])) ?_) (fun f x e => ⟨e.1, (), trivial, e.2⟩)
    by_cases hr : cF (cs.getD i 0) < 0
    · exact turn_right G O S hcs hi (H _) hr
    · exact turn_bad G O S hfr hcs hi (H _) hr
  · rintro f x ⟨e, _, _, I⟩
    exact ⟨e, I⟩
end
end Mine
namespace Mine

theorem pickL_take {α : Type} (l : List α) (k : Nat) (hk : k ≤ l.length) : pickL l none (some (k : Int)) none = l.take k := by
  unfold pickL sliceBounds
  have e : sliceRange 0 (k : Int) 1 = List.range k := by
    unfold sliceRange
    have e5 : (if (1 : Int) > 0 then if (0 : Int) < k then ((k : Int) - 0 + 1 - 1) / 1 else 0 else if (0 : Int) > k then (0 - (k : Int) - 1 - 1) / -1 else 0).toNat = k := by
      rw [if_pos (by decide)]
      by_cases q : (0 : Int) < k
      · rw [if_pos q, Int.ediv_one]; omega
      · rw [if_neg q]; omega
    simp only [e5]
    rw [List.map_congr_left (g := id) (fun x _ => by simp), List.map_id]
  have e1 : ¬ ((k : Int) < 0) := by omega
  have e4 : max 0 (min (k : Int) (l.length : Int)) = k := by omega
  simp only [Option.getD_none, show (1 : Int) > 0 from by decide, if_true, e1, if_false, e4, e]
  have : ∀ n, n ≤ l.length → List.filterMap (fun x => l[x]?) (List.range n) = l.take n := by
    intro n
    induction n with
    | zero => intro _; simp
    | succ n ih =>
      intro hn
      rw [List.range_succ, List.filterMap_append, ih (by omega), List.take_add_one]
      congr 1
      all_goals simp [show n < l.length by omega]
  exact this k hk

noncomputable def hN (cs : List Int) : Nat := (mvN cs 7).length / 2
noncomputable def mv2 (cs : List Int) : List Nat := (mvN cs 7).take (2 * hN cs)
theorem hN_le (cs : List Int) : hN cs ≤ 3 := by have := mvN_len cs 7; unfold hN; omega
theorem mv2_len (cs : List Int) : (mv2 cs).length = 2 * hN cs := by unfold mv2; rw [List.length_take]; unfold hN; omega
noncomputable def tN (cs : List Int) : Nat := hN cs * (hN cs + 1) * (2 * hN cs + 1) / 6

section
variable {prog : Program} {w : World} {T : TopAt} {n : Nat} {Cr Cp : Addr}

theorem mulOk_small {a b : Int} (ha : 0 ≤ a ∧ a < 1000) : IntMulOk a b := by
  refine IntMulOk.of_left ?_
  unfold Builtin.Int.intBits
  by_cases q : (a == 0) = true
  · rw [if_pos q]; omega
  · rw [if_neg q]
    have h0 : a.natAbs ≠ 0 := by
      intro e
      exact q (by simp; omega)
    have h1 : a.natAbs < 2 ^ 63 := by omega
    have := (Nat.log2_lt h0).mpr h1
    omega

theorem law_4 (G : Top6 T Cr Cp) {A : Around} {nm : Str} {fa : Addr} {cd : Value} {h : Heap} {cells cs : List Int} {post : Flow → Heap → Prop} (O : ROk (n + 9) T (LF A nm fa cd h)) (S : SOk (LF A nm fa cd h)) (hcl : cells.length = 8)
    (R : Blk prog w (LF A nm fa cd h) ((fB (stAt 17)).drop 9) (Inv (LF A nm fa cd h) [(.choice_, DI ((cells.getD 7 0).fmod (10 ^ 18))), (.movers_, .ints ((mv2 cs).map fun (k : Nat) => (k : Int))), (.half_, DI (hN cs : Nat)), (.lines_, .strs (cs.map line0)), (.drawn_, .tups (cs.map rowOf))] [.lines_]) post) :
    Blk prog w (LF A nm fa cd h) ((fB (stAt 17)).drop 6) (Inv (LF A nm fa cd h) (stA cells cs 7) [.movers_, .lines_]) post := by
  have hl := mvN_len cs 7
  have hlm : (mvI cs 7).length = (mvN cs 7).length := by unfold mvI; rw [List.length_map]
  have h3 := hN_le cs
  have hhalf : ((mvI cs 7).length : Int).fdiv 2 = (hN cs : Nat) := by
    rw [Int.fdiv_eq_ediv_of_nonneg _ (by decide), hlm]; unfold hN; omega
  refine Blk.one (Stm.assign (x := .half_) O S (Ev.at (P := fun _ _ => False) (EvP.of (Ev.div (EvN.ev (Ev.call O (Ev.glob O G.len rfl) Kpr.builtin (.one (Ev.name O .movers_ rfl) .nil) (Fun.lenI (by omega)))) Ev.int (by decide) (PyProof.noPylong_small (by decide))) (congrArg DI hhalf))) (.inr ⟨rfl, _, rfl⟩) (by decide) (.inr fun _ _ h => h.elim) rfl) ?_
  refine Blk.shrink (own' := [.lines_]) ?_ (fun y hy => .tail _ hy)
  have hsl : D.ints (pickL (mvI cs 7) none (some ((2 : Int) * (hN cs : Nat))) none) = .ints ((mv2 cs).map fun (k : Nat) => (k : Int)) := by
    have e : ((2 : Int) * (hN cs : Nat)) = ((2 * hN cs : Nat) : Int) := by omega
    rw [e, pickL_take _ _ (by rw [hlm]; unfold hN; omega)]
    unfold mvI mv2
    rw [List.map_take]
  refine Blk.one (Stm.assign (x := .movers_) O S (EvP.of (Ev.sliceI (Ev.name O .movers_ rfl) .none (.some (Ev.mul Ev.int (Ev.name O .half_ rfl) (mulOk_small (by decide)))) .none (by decide) (by omega)) hsl) (.inr ⟨rfl, _, rfl⟩) (by decide) (.inr fun _ _ h => h) rfl) ?_
  refine Blk.one (Stm.assign (x := .choice_) O S (Ev.at (P := fun _ _ => False) (Ev.mod (Ev.itemI (Ev.name O .cells_ rfl) Ev.int (by decide) (by omega) (by omega)) (Ev.pow Ev.int Ev.int (by decide) (by decide) (by decide)) (by decide))) (.inl rfl) (by decide) (.inr fun _ _ h => h.elim) rfl) ?_
  exact Blk.sub R ⟨rfl, rfl, rfl, rfl, rfl, trivial⟩
end
end Mine
namespace Mine

/-! the looks of parse229 at a text, as functions on its code points -/
noncomputable def idxs (c : Nat) : List Nat → Nat → List Nat
  | [], _ => []
  | x :: r, k => if x == c then k :: idxs c r (k + 1) else idxs c r (k + 1)
theorem idxs_cons (c x : Nat) (r : List Nat) (k : Nat) : idxs c (x :: r) k = if x == c then k :: idxs c r (k + 1) else idxs c r (k + 1) := rfl
theorem idxs_len (c : Nat) : ∀ (l : List Nat) (k : Nat), (idxs c l k).length ≤ l.length
  | [], _ => Nat.le_refl _
  | x :: r, k => by
    unfold idxs
    split
    · exact Nat.succ_le_succ (idxs_len c r (k + 1))
    · exact Nat.le_succ_of_le (idxs_len c r (k + 1))
theorem idxs_mem {c : Nat} : ∀ {l : List Nat} {k i : Nat}, i ∈ idxs c l k → k ≤ i ∧ l[i - k]? = some c
  | [], _, _, h => nomatch h
  | x :: r, k, i, h => by
    unfold idxs at h
    have tl : i ∈ idxs c r (k + 1) → k ≤ i ∧ (x :: r)[i - k]? = some c := fun h => by
      have ⟨a, b⟩ := idxs_mem h
      obtain ⟨d, rfl⟩ : ∃ d, i = k + 1 + d := ⟨i - (k + 1), by omega⟩
      rw [show k + 1 + d - k = d + 1 by omega, List.getElem?_cons_succ]
      rw [show k + 1 + d - (k + 1) = d by omega] at b
      exact ⟨by omega, b⟩
    by_cases q : (x == c) = true
    · rw [if_pos q] at h
      rcases List.mem_cons.mp h with rfl | h
      · rw [Nat.sub_self]; exact ⟨Nat.le_refl _, by rw [eq_of_beq q]; rfl⟩
      · exact tl h
    · rw [if_neg q] at h; exact tl h

theorem occ_go (l : List Nat) (c limit : Nat) : ∀ (r : List Nat) (k : Nat) (arr : Array Nat) (free : Nat), l.drop k = r → k ≤ l.length → free ≤ k →
    ((List.range' k (l.length + 1 - k)).foldl (occStep (mk l) (mk [c]) l.length limit) (arr, free)).1.toList = arr.toList ++ (idxs c r k).take (limit - arr.size)
  | [], k, arr, free, h, hk, hf => by
    have e : k = l.length := by
      have := congrArg List.length h
      simp at this; omega
    subst e
    have e1 : l.length + 1 - l.length = 1 := by omega
    have e2 : (mk [c]).length = 1 := rfl
    rw [e1]
    show (occStep _ _ _ _ _ _).1.toList = _
    unfold occStep
    rw [if_neg (fun h => by
      simp only [Bool.and_eq_true, decide_eq_true_eq] at h
      have := h.1.2; rw [e2] at this; omega)]
    simp [idxs]
  | x :: r, k, arr, free, h, hk, hf => by
    have hlt : k < l.length := by
      have := congrArg List.length h
      simp at this; omega
    have e1 : l.length + 1 - k = (l.length + 1 - (k + 1)) + 1 := by omega
    have e2 : (mk [c]).length = 1 := rfl
    have hx : l[k]? = some x := by
      have := congrArg (fun q => q[0]?) h
      simpa using this
    have hr : l.drop (k + 1) = r := by
      have := congrArg List.tail h
      simpa using this
    rw [e1, List.range'_succ, List.foldl_cons]
    by_cases q : (decide (arr.size < limit) && (x == c)) = true
    · obtain ⟨q1, q2⟩ := Bool.and_eq_true_iff.mp q
      have q1' : arr.size < limit := of_decide_eq_true q1
      have st : occStep (mk l) (mk [c]) l.length limit (arr, free) k = (arr.push k, k + 1) := by
        unfold occStep
        rw [sub_one hx, e2, q1, q2, decide_eq_true hf, decide_eq_true (show k + 1 ≤ l.length from hlt)]
        rfl
      rw [st, occ_go l c limit r (k + 1) _ _ hr hlt (Nat.le_refl _)]
      have e3 : limit - arr.size = (limit - (arr.push k).size) + 1 := by rw [Array.size_push]; omega
      rw [idxs_cons, if_pos q2, e3, List.take_succ_cons, Array.toList_push, List.append_assoc]
      rfl
    · have st : occStep (mk l) (mk [c]) l.length limit (arr, free) k = (arr, free) := by
        unfold occStep
        rw [sub_one hx, e2]
        refine if_neg fun h => q ?_
        simp only [Bool.and_eq_true] at h ⊢
        exact ⟨h.1.1.1, h.2⟩
      rw [st, occ_go l c limit r (k + 1) _ _ hr hlt (Nat.le_succ_of_le hf)]
      congr 1
      rw [idxs_cons]
      by_cases q2 : (x == c) = true
      · have q1 : ¬ arr.size < limit := fun h => q (by rw [decide_eq_true h, q2]; rfl)
        rw [show limit - arr.size = 0 by omega]; simp
      · rw [if_neg q2]
theorem occ_mk {l : List Nat} {lo : Nat} (c limit : Nat) (h : lo ≤ l.length) : Builtin.Str.occurrences (mk l) (mk [c]) lo (mk l).length limit = (idxs c (l.drop lo) lo).take limit := by
  rw [occ_fold, mk_len, occ_go l c limit (l.drop lo) lo #[] lo rfl h (Nat.le_refl _)]
  rfl

theorem find_mk (l : List Nat) (c : Nat) : Txt.find (mk l) (mk [c]) = match idxs c l 0 with | i :: _ => (i : Int) | [] => -1 := by
  unfold Txt.find
  rw [occ_mk c 1 (Nat.zero_le _)]
  show (match (idxs c l 0).take 1 with | i :: _ => (i : Int) | [] => -1) = _
  cases idxs c l 0 <;> rfl
theorem from_mk (n k : Nat) : fromIndex n (k : Int) = k := by
  unfold fromIndex
  rw [if_neg (Int.not_lt.mpr (Int.natCast_nonneg k)), Int.max_eq_right (Int.natCast_nonneg k)]; rfl
theorem find3_mk {l : List Nat} {k : Nat} (c : Nat) (h : k ≤ l.length) : Txt.find3 (mk l) (mk [c]) (k : Int) = match idxs c (l.drop k) k with | i :: _ => (i : Int) | [] => -1 := by
  unfold Txt.find3
  rw [mk_len, from_mk, ← mk_len l, occ_mk c 1 h]
  cases idxs c (l.drop k) k <;> rfl
theorem sub_mk (l : List Nat) (i j : Nat) : Builtin.Str.strSub (mk l) i j = mk ((l.drop i).take (j - i)) := by
  unfold Builtin.Str.strSub mk
  congr 1
  apply Array.ext'
  simp
theorem kind_mk {l : List Nat} (h : l.all (fun x => decide (x < 256)) = true) : Builtin.Str.strKind (mk l) = 1 := by
  unfold Builtin.Str.strKind mk
  rw [if_pos (by simpa using h)]
/-- the parts between the marks -/
theorem split_mk {s : List Nat} {m : Nat} (hm : m < 256) (hs : s.all (fun x => decide (x < 256)) = true) (h0 : s ≠ []) :
    (Txt.split (mk s) (mk [m])).length = (idxs m s 0).length + 1 ∧
    (Builtin.Str.partsBetween (mk s) (Builtin.Str.occurrences (mk s) (mk [m]) 0 (mk s).length ((mk s).length + 1)) (mk [m]).length).length = (idxs m s 0).length + 1 ∧
    ((idxs m s 0).length = 4 → (Txt.split (mk s) (mk [m])).getD 3 Str.empty = mk ((s.drop ((idxs m s 0).getD 2 0 + 1)).take ((idxs m s 0).getD 3 0 - ((idxs m s 0).getD 2 0 + 1)))) := by
  have ho : Builtin.Str.occurrences (mk s) (mk [m]) 0 (mk s).length ((mk s).length + 1) = idxs m s 0 := by
    rw [occ_mk m _ (Nat.zero_le _), List.drop_zero, mk_len]
    exact List.take_of_length_le (Nat.le_succ_of_le (idxs_len m s 0))
  have hl : 0 < s.length := List.length_pos_iff.mpr h0
  have e1 : (mk [m]).length = 1 := rfl
  have hp : (Builtin.Str.partsBetween (mk s) (idxs m s 0) 1).length = (idxs m s 0).length + 1 := by
    unfold Builtin.Str.partsBetween
    simp
  have hc : (decide ((mk s).length < (mk [m]).length) || decide (Builtin.Str.strKind (mk s) < Builtin.Str.strKind (mk [m]))) = false := by
    rw [mk_len, e1, kind_mk hs, kind_mk (l := [m]) (by simpa using hm)]
    simp; omega
  have hsp : Txt.split (mk s) (mk [m]) = if (idxs m s 0).isEmpty = true then [mk s] else Builtin.Str.partsBetween (mk s) (idxs m s 0) 1 := by
    unfold Txt.split
    rw [hc, ho, e1]
    rfl
  rw [ho, hsp, e1]
  refine ⟨?_, hp, fun h => ?_⟩
  · by_cases q : (idxs m s 0).isEmpty = true
    · rw [if_pos q, List.isEmpty_iff.mp q]; rfl
    · rw [if_neg q]; exact hp
  · clear ho hc hsp hp
    generalize idxs m s 0 = cuts at h ⊢
    obtain ⟨a, r, rfl⟩ := List.exists_cons_of_length_eq_add_one h
    obtain ⟨b, r, rfl⟩ := List.exists_cons_of_length_eq_add_one (Nat.succ.inj h)
    obtain ⟨c, r, rfl⟩ := List.exists_cons_of_length_eq_add_one (Nat.succ.inj (Nat.succ.inj h))
    obtain ⟨d, r, rfl⟩ := List.exists_cons_of_length_eq_add_one (Nat.succ.inj (Nat.succ.inj (Nat.succ.inj h)))
    exact sub_mk s (c + 1) d

/-! the whole look: left, right, the mark, what stands ahead of the right one, what is between -/
noncomputable def lL (l : List Nat) : Nat := (idxs 40 l 0).headD 0
noncomputable def lRs (l : List Nat) : List Nat := idxs 41 (l.drop (lL l + 1)) (lL l + 1)
noncomputable def lR (l : List Nat) : Nat := (lRs l).headD 0
noncomputable def lM (l : List Nat) : Nat := l.getD (lL l + 1) 0
noncomputable def lE (l : List Nat) : Nat := l.getD (lR l - 1) 0
noncomputable def lS (l : List Nat) : List Nat := (l.drop (lL l + 1)).take (lR l - (lL l + 1))
noncomputable def lC (l : List Nat) : List Nat := idxs (lM l) (lS l) 0
noncomputable def code3 (l : List Nat) : Bool := decide (l.length ≤ 900) && decide (3 ≤ l.length)
noncomputable def is229 (l : List Nat) : Bool := l.take 3 == [50, 50, 57]
noncomputable def ok1 (l : List Nat) : Bool := code3 l && is229 l
noncomputable def hasL (l : List Nat) : Bool := !(idxs 40 l 0).isEmpty
noncomputable def hasR (l : List Nat) : Bool := !(lRs l).isEmpty
noncomputable def seen (l : List Nat) : Bool := ok1 l && (hasL l && (hasR l && decide (lL l + 1 < l.length)))
noncomputable def okM (l : List Nat) : Bool := seen l && (lM l == lE l && (decide (lM l < 256) && ((lS l).all (fun x => decide (x < 256)) && !(lS l).isEmpty)))
noncomputable def qRight (l : List Nat) (ns : List Nat) : Bool := okM l && ((lC l).length == 4 && ((lS l).drop ((lC l).getD 2 0 + 1)).take ((lC l).getD 3 0 - ((lC l).getD 2 0 + 1)) == ns)
noncomputable def qReply (l : List Nat) : Bool := code3 l && !is229 l
noncomputable def qP1 (l : List Nat) : Bool := ok1 l && !hasL l
noncomputable def qP2 (l : List Nat) : Bool := ok1 l && (hasL l && !hasR l)
noncomputable def qP3 (l : List Nat) : Bool := seen l && !(lM l == lE l)
noncomputable def qP4 (l : List Nat) : Bool := okM l && !((lC l).length == 4)
noncomputable def qProto (l : List Nat) : Bool := qP1 l || (qP2 l || (qP3 l || qP4 l))

theorem and2 {a b : Bool} (h : (a && b) = true) : a = true ∧ b = true := Bool.and_eq_true_iff.mp h
theorem head_of {l : List Nat} (h : (!l.isEmpty) = true) : ∃ r, l = l.headD 0 :: r := by
  cases l with
  | nil => cases h
  | cons x r => exact ⟨r, rfl⟩
theorem par_mk : ("(" : Str) = mk [40] ∧ (")" : Str) = mk [41] ∧ ("229" : Str) = mk [50, 50, 57] := by decide +kernel
theorem mk_beq (a b : List Nat) : (mk a == mk b) = (a == b) := by
  by_cases h : a = b
  · subst h; simp
  · rw [show (a == b) = false by simpa using h]
    simp only [beq_eq_false_iff_ne, ne_eq]
    exact fun e => h (mk_inj e)
theorem slice_to (l : List Nat) (h : 3 ≤ l.length) : Txt.slice (mk l) none (some 3) = mk (l.take 3) := by
  have := slice_mk l 0 3 (by decide) h
  rw [List.drop_zero] at this
  rw [show l.take 3 = l.take (3 - 0) from rfl, ← this]
  unfold Txt.slice
  have e : Builtin.Str.strSliceIndices none (some (3 : Int)) 1 (mk l).length = Builtin.Str.strSliceIndices (some ((0 : Nat) : Int)) (some ((3 : Nat) : Int)) 1 (mk l).length := by
    unfold Builtin.Str.strSliceIndices
    have e0 : max 0 (min ((0 : Nat) : Int) ((mk l).length : Int)) = 0 := by omega
    simp only [show ¬ (((0 : Nat) : Int) < 0) by decide, if_false, show (1 : Int) > 0 from by decide, if_true, e0]
    rfl
  rw [e]
theorem code_mk {l : List Nat} (h : code3 l = true) : decide ((mk l).length ≤ 900) = true ∧ (Txt.slice (mk l) none (some 3) != "229") = !is229 l := by
  obtain ⟨h1, h3⟩ := and2 h
  refine ⟨by rw [mk_len]; exact h1, ?_⟩
  rw [slice_to l (of_decide_eq_true h3), par_mk.2.2]
  unfold is229 bne
  rw [mk_beq]
theorem g1_mk {l : List Nat} (h : ok1 l = true) : g1 (mk l) = true := by
  obtain ⟨hc, h2⟩ := and2 h
  obtain ⟨c1, c2⟩ := code_mk hc
  unfold g1
  rw [c1, c2, h2]; rfl
theorem pL_mk (l : List Nat) : pL (mk l) = match idxs 40 l 0 with | i :: _ => (i : Int) | [] => -1 := by
  unfold pL; rw [par_mk.1, find_mk]
theorem pL_has {l : List Nat} (h : hasL l = true) : pL (mk l) = (lL l : Int) ∧ lL l < l.length := by
  obtain ⟨r, q⟩ := head_of h
  refine ⟨by rw [pL_mk, q]; rfl, ?_⟩
  have hm := idxs_mem (show lL l ∈ idxs 40 l 0 by rw [q]; exact .head _)
  exact (List.getElem?_eq_some_iff.mp hm.2).1
theorem pR_mk {l : List Nat} (h : hasL l = true) : pR (mk l) = match lRs l with | i :: _ => (i : Int) | [] => -1 := by
  obtain ⟨q, hlt⟩ := pL_has h
  unfold pR
  rw [q, par_mk.2.1]
  exact find3_mk 41 hlt
theorem pR_has {l : List Nat} (h : hasL l = true) (h2 : hasR l = true) : pR (mk l) = (lR l : Int) ∧ lL l + 1 ≤ lR l ∧ lR l < l.length := by
  obtain ⟨r, q⟩ := head_of h2
  refine ⟨by rw [pR_mk h, q]; rfl, ?_⟩
  have hm := idxs_mem (show lR l ∈ lRs l by rw [q]; exact .head _)
  have hd := (List.getElem?_eq_some_iff.mp hm.2).1
  rw [List.length_drop] at hd
  have := hm.1
  exact ⟨this, by omega⟩
theorem get_some {l : List Nat} {i : Nat} (h : i < l.length) : l[i]? = some (l.getD i 0) := by
  rw [List.getD_eq_getElem?_getD, List.getElem?_eq_getElem h]; rfl

/-- what a look that ends well says -/
theorem seen_mk {l : List Nat} (h : seen l = true) :
    g3 (mk l) = true ∧ pM (mk l) = mk [lM l] ∧ pE (mk l) = mk [lE l] ∧ Txt.slice (mk l) (some (pL (mk l) + 1)) (some (pR (mk l))) = mk (lS l) ∧ (lS l).length ≤ 900 := by
  obtain ⟨h1, h⟩ := and2 h
  obtain ⟨hL, h⟩ := and2 h
  obtain ⟨hR, h⟩ := and2 h
  have hlt : lL l + 1 < l.length := of_decide_eq_true h
  obtain ⟨pl, _⟩ := pL_has hL
  obtain ⟨pr, hle, hr⟩ := pR_has hL hR
  have h9 : l.length ≤ 900 := of_decide_eq_true (and2 (and2 h1).1).1
  have g := g1_mk h1
  have ei : ((lR l : Int) - 1) = ((lR l - 1 : Nat) : Int) := by omega
  have el : ((lL l : Int) + 1) = ((lL l + 1 : Nat) : Int) := rfl
  refine ⟨?_, ?_, ?_, ?_, ?_⟩
  · unfold g3 g2
    rw [g, pl, pr, mk_len, ei, el]
    generalize lL l = L at *
    generalize lR l = R at *
    generalize l.length = N at *
    clear pl pr ei el g
    have f : ∀ x : Nat, decide ((x : Int) < 0) = false := fun x => decide_eq_false (Int.not_lt.mpr (Int.natCast_nonneg x))
    have p : ∀ x : Nat, x < N → decide (-(N : Int) ≤ (x : Int)) = true ∧ decide ((x : Int) < (N : Int)) = true := fun x hx => ⟨decide_eq_true (by omega), decide_eq_true (Int.ofNat_lt.mpr hx)⟩
    rw [f, f, (p (L + 1) hlt).1, (p (L + 1) hlt).2, (p (R - 1) (by omega)).1, (p (R - 1) (by omega)).2]
    rfl
  · unfold pM; rw [pl, el]; exact item_ne (get_some hlt)
  · unfold pE; rw [pr, ei]; exact item_ne (get_some (by omega))
  · rw [pl, pr, el]; exact slice_mk l (lL l + 1) (lR l) hle (Nat.le_of_lt hr)
  · unfold lS
    exact Nat.le_trans (List.length_take_le' _ _) (by rw [List.length_drop]; omega)

theorem okM_mk {l : List Nat} (h : okM l = true) : g4 (mk l) = true ∧ (pParts (mk l)).length = (lC l).length + 1 ∧
    ((lC l).length = 4 → (pParts (mk l)).getD 3 Str.empty = mk (((lS l).drop ((lC l).getD 2 0 + 1)).take ((lC l).getD 3 0 - ((lC l).getD 2 0 + 1)))) := by
  obtain ⟨hs, h⟩ := and2 h
  obtain ⟨hm, h⟩ := and2 h
  obtain ⟨hl, h⟩ := and2 h
  obtain ⟨ha, h0⟩ := and2 h
  obtain ⟨k1, k2, k3, k4, k5⟩ := seen_mk hs
  rw [← eq_of_beq hm] at k3
  obtain ⟨s1, s2, s3⟩ := split_mk (of_decide_eq_true hl) ha (by rintro q; rw [q] at h0; cases h0)
  have hp : pParts (mk l) = Txt.split (mk (lS l)) (mk [lM l]) := by unfold pParts; rw [k4, k2]
  have hi := idxs_len (lM l) (lS l) 0
  refine ⟨?_, by rw [hp]; exact s1, by rw [hp]; exact s3⟩
  have e1 : (mk [lM l] != mk [lM l]) = false := by unfold bne; rw [beq_self_eq_true]; rfl
  have e2 : ([lM l].length == 0) = false := rfl
  have e3 : (idxs (lM l) (lS l) 0).length + 1 ≤ 1000 := Nat.le_trans (Nat.succ_le_succ (Nat.le_trans hi k5)) (by decide)
  unfold g4
  rw [k1, hp, k4, k2, k3, s2, s1, mk_len [lM l], mk_len (lS l), e1, e2, decide_eq_true (Nat.le_trans k5 (by decide : 900 ≤ 1000)), decide_eq_true e3, decide_eq_true (Nat.le_trans e3 (by decide : 1000 ≤ 10000))]
  rfl

theorem right_mk {l ns : List Nat} {a : Int} (h : qRight l ns = true) (hn : ns.length ≤ 640) (ha : PySem.intText? (mk ns) = some a) : g5 (mk l) a = true := by
  obtain ⟨hs, h⟩ := and2 h
  obtain ⟨h4, h⟩ := and2 h
  obtain ⟨k1, k2, k3⟩ := okM_mk hs
  have h4 : (lC l).length = 4 := eq_of_beq h4
  have k3 := k3 h4
  rw [eq_of_beq h] at k3
  unfold g5
  rw [k1, k2, k3, h4, ha, mk_len, decide_eq_true hn, decide_eq_true rfl]
  rfl
theorem reply_mk {l : List Nat} (h : qReply l = true) : bad1 (mk l) = true := by
  obtain ⟨hc, h2⟩ := and2 h
  obtain ⟨c1, c2⟩ := code_mk hc
  unfold bad1
  rw [c1, c2, h2]; rfl
theorem p1_mk {l : List Nat} (h : qP1 l = true) : bad2 (mk l) = true := by
  obtain ⟨h1, h2⟩ := and2 h
  have q : idxs 40 l 0 = [] := by
    unfold hasL at h2
    cases q : idxs 40 l 0 with
    | nil => rfl
    | cons x r => rw [q] at h2; cases h2
  unfold bad2
  rw [g1_mk h1, pL_mk, q]; rfl
theorem p2_mk {l : List Nat} (h : qP2 l = true) : bad3 (mk l) = true := by
  obtain ⟨h1, h⟩ := and2 h
  obtain ⟨hL, h2⟩ := and2 h
  have q : lRs l = [] := by
    unfold hasR at h2
    cases q : lRs l with
    | nil => rfl
    | cons x r => rw [q] at h2; cases h2
  unfold bad3 g2
  rw [g1_mk h1, pR_mk hL, q, (pL_has hL).1]
  show (true && !decide ((lL l : Int) < 0) && true) = true
  rw [decide_eq_false (Int.not_lt.mpr (Int.natCast_nonneg _))]; rfl
theorem p3_mk {l : List Nat} (h : qP3 l = true) : bad4 (mk l) = true := by
  obtain ⟨hs, h⟩ := and2 h
  obtain ⟨k1, k2, k3, _⟩ := seen_mk hs
  unfold bad4
  have : ([lM l] == [lE l]) = false := by simpa using h
  rw [k1, k2, k3]
  unfold bne
  rw [mk_beq, this]; rfl
theorem p4_mk {l : List Nat} (h : qP4 l = true) : bad5 (mk l) = true := by
  obtain ⟨hs, h⟩ := and2 h
  obtain ⟨k1, k2, _⟩ := okM_mk hs
  unfold bad5
  rw [k1, k2]
  have q : (lC l).length ≠ 4 := by simpa using h
  simp only [Bool.true_and, bne_iff_ne, ne_eq]
  exact fun e => q (by omega)
theorem proto_mk {l : List Nat} (h : qProto l = true) : isProto (mk l) = true := by
  unfold isProto
  rcases Bool.or_eq_true_iff.mp h with h | h
  · rw [p1_mk h]; rfl
  · rcases Bool.or_eq_true_iff.mp h with h | h
    · rw [p2_mk h, Bool.or_true]; rfl
    · rcases Bool.or_eq_true_iff.mp h with h | h
      · rw [p3_mk h, Bool.or_true]; rfl
      · rw [p4_mk h, Bool.or_true]
end Mine
namespace Mine

/-! the cells' texts, as lists of code points -/
noncomputable def dHL : Nat → List Nat
  | 0 => [32, 80, 111, 114, 116, 58, 32] | 1 => [32, 41, 32] | 2 => [45] | _ => [32, 101, 120, 116, 101, 110, 100, 101, 100, 32]
noncomputable def dML : Nat → Nat
  | 0 => 124 | 1 => 33 | 2 => 46 | _ => 64
noncomputable def dF1L : Nat → List Nat
  | 0 => [] | 1 => [40] | 2 => [49] | _ => []
noncomputable def dF2L : Nat → List Nat
  | 0 => [] | 1 => [55] | 2 => [40] | _ => [57, 32, 57]
noncomputable def dTL : Nat → List Nat
  | 0 => [] | 1 => [41, 32, 120] | 2 => [46, 9] | _ => [32, 41, 120]
noncomputable def digL (n : Nat) : List Nat := if n < 10 then [48 + n] else [48 + n / 10, 48 + n % 10]
noncomputable def numL (a : Int) : List Nat := if a < 0 then 45 :: digL a.natAbs else digL a.natAbs
noncomputable def codeL (f : Int) : List Nat := if f = 0 then [49, 50, 57] else if f = 1 then [50, 51, 57] else if f = 2 then [50, 50, 56] else [50, 50, 57]
noncomputable def insL (f : Int) (d : Nat) (a : Int) : List Nat := if f = 7 then dML d :: (dF2L d ++ dML d :: (numL a ++ [dML d])) else dML d :: (dF1L d ++ dML d :: (dF2L d ++ dML d :: (numL a ++ [dML d])))
noncomputable def endL (f : Int) (d : Nat) : List Nat := if f = 4 then [120] else if f = 5 then 120 :: 41 :: dTL d else if f = 6 then dML d :: 41 :: dTL d else 41 :: dTL d
noncomputable def textL (f : Int) (d : Nat) (a : Int) : List Nat := if f = 2 ∨ f = 3 then codeL f ++ ([32, 50, 32, 56, 32, 50] ++ endL f d) else codeL f ++ (dHL d ++ 40 :: (insL f d a ++ endL f d))

theorem dH_mk : ∀ d, dH d = mk (dHL d)
  | 0 => by decide +kernel
  | 1 => by decide +kernel
  | 2 => by decide +kernel
  | _ + 3 => (by decide +kernel : dH 3 = mk (dHL 3))
theorem dM_mk : ∀ d, dM d = mk [dML d]
  | 0 => by decide +kernel
  | 1 => by decide +kernel
  | 2 => by decide +kernel
  | _ + 3 => (by decide +kernel : dM 3 = mk [dML 3])
theorem dF1_mk : ∀ d, dF1 d = mk (dF1L d)
  | 0 => by decide +kernel
  | 1 => by decide +kernel
  | 2 => by decide +kernel
  | _ + 3 => (by decide +kernel : dF1 3 = mk (dF1L 3))
theorem dF2_mk : ∀ d, dF2 d = mk (dF2L d)
  | 0 => by decide +kernel
  | 1 => by decide +kernel
  | 2 => by decide +kernel
  | _ + 3 => (by decide +kernel : dF2 3 = mk (dF2L 3))
theorem dT_mk : ∀ d, dT d = mk (dTL d)
  | 0 => by decide +kernel
  | 1 => by decide +kernel
  | 2 => by decide +kernel
  | _ + 3 => (by decide +kernel : dT 3 = mk (dTL 3))
theorem num_mk' : ∀ k : Nat, k < 40 → numS ((k : Int) - 20) = mk (numL ((k : Int) - 20)) := by decide +kernel
theorem num_int' : ∀ k : Nat, k < 40 → PySem.intText? (mk (numL ((k : Int) - 20))) = some ((k : Int) - 20) := by decide +kernel
theorem num_mk {a : Int} (h : -20 ≤ a ∧ a < 20) : numS a = mk (numL a) := num_cases (P := fun a => numS a = mk (numL a)) num_mk' h.1 h.2
theorem num_int {a : Int} (h : -20 ≤ a ∧ a < 20) : PySem.intText? (mk (numL a)) = some a := num_cases (P := fun a => PySem.intText? (mk (numL a)) = some a) num_int' h.1 h.2
theorem numL_len (a : Int) : (numL a).length ≤ 640 := by
  have : ∀ n, (digL n).length ≤ 2 := fun n => by unfold digL; split <;> simp
  unfold numL
  split
  · exact Nat.le_trans (Nat.succ_le_succ (this _)) (by decide)
  · exact Nat.le_trans (this _) (by decide)

theorem code_eq (f : Int) : codeOf f = mk (codeL f) := by
  have e : ("129" : Str) = mk [49, 50, 57] ∧ ("239" : Str) = mk [50, 51, 57] ∧ ("228" : Str) = mk [50, 50, 56] ∧ ("229" : Str) = mk [50, 50, 57] := by decide +kernel
  unfold codeOf codeL
  split
  · exact e.1
  · split
    · exact e.2.1
    · split
      · exact e.2.2.1
      · exact e.2.2.2
theorem ins_eq (f : Int) (d : Nat) {a : Int} (h : -20 ≤ a ∧ a < 20) : insOf f d a = mk (insL f d a) := by
  unfold insOf insL
  rw [dM_mk, dF1_mk, dF2_mk, num_mk h]
  split <;> simp only [mk_app, List.append_assoc, List.cons_append, List.nil_append]
theorem end_eq (f : Int) (d : Nat) : endOf f d = mk (endL f d) := by
  have e : ("x" : Str) = mk [120] := by decide +kernel
  unfold endOf endL
  rw [dM_mk, dT_mk, e, par_mk.2.1]
  split
  · rfl
  · split
    · simp only [mk_app, List.cons_append, List.nil_append]
    · split <;> simp only [mk_app, List.cons_append, List.nil_append]
theorem text_eq (f : Int) (d : Nat) {a : Int} (h : -20 ≤ a ∧ a < 20) : textOf f d a = mk (textL f d a) := by
  have e : (" 2 8 2" : Str) = mk [32, 50, 32, 56, 32, 50] := by decide +kernel
  unfold textOf textL
  rw [code_eq, ins_eq f d h, end_eq, dH_mk, e, par_mk.1]
  split <;> simp only [mk_app, List.append_assoc, List.cons_append, List.nil_append]

noncomputable def chkT (f : Int) (ns t : List Nat) : Bool :=
  (t != [] && t.head? != some 32 && t.getLast? != some 32) && t.all (fun x => decide (x < 128)) &&
  (if f < 0 then t.head? == some 50 && (qRight t ns && qRight (t ++ [32]) ns) else if f < 3 then qReply t && qReply (t ++ [32]) else qProto t && qProto (t ++ [32]))
noncomputable def chk (f : Int) (d : Nat) (a : Int) : Bool := chkT f (numL a) (textL f d a)

theorem chk_m1 : ∀ d, d < 4 → ∀ k : Nat, k < 40 → chk (-1) d ((k : Int) - 20) = true := by decide +kernel
theorem chk_0 : ∀ d, d < 4 → ∀ k : Nat, k < 40 → chk (0) d ((k : Int) - 20) = true := by decide +kernel
theorem chk_1 : ∀ d, d < 4 → ∀ k : Nat, k < 40 → chk (1) d ((k : Int) - 20) = true := by decide +kernel
theorem chk_2 : ∀ d, d < 4 → ∀ k : Nat, k < 40 → chk (2) d ((k : Int) - 20) = true := by decide +kernel
theorem chk_3 : ∀ d, d < 4 → ∀ k : Nat, k < 40 → chk (3) d ((k : Int) - 20) = true := by decide +kernel
theorem chk_4 : ∀ d, d < 4 → ∀ k : Nat, k < 40 → chk (4) d ((k : Int) - 20) = true := by decide +kernel
theorem chk_5 : ∀ d, d < 4 → ∀ k : Nat, k < 40 → chk (5) d ((k : Int) - 20) = true := by decide +kernel
theorem chk_6 : ∀ d, d < 4 → ∀ k : Nat, k < 40 → chk (6) d ((k : Int) - 20) = true := by decide +kernel
theorem chk_7 : ∀ d, d < 4 → ∀ k : Nat, k < 40 → chk (7) d ((k : Int) - 20) = true := by decide +kernel

theorem text_neg (f : Int) (d : Nat) (a : Int) (h : f < 0) : textL f d a = textL (-1) d a := by
  have e : ∀ k : Int, 0 ≤ k → (f = k) = False := fun k hk => by simp; omega
  have e' : ∀ k : Int, 0 ≤ k → ((-1 : Int) = k) = False := fun k hk => by simp; omega
  unfold textL codeL insL endL
  simp only [e 0 (by decide), e 1 (by decide), e 2 (by decide), e 3 (by decide), e 4 (by decide), e 5 (by decide), e 6 (by decide), e 7 (by decide), e' 0 (by decide), e' 1 (by decide), e' 2 (by decide), e' 3 (by decide), e' 4 (by decide), e' 5 (by decide), e' 6 (by decide), e' 7 (by decide)]

theorem chk_all (f : Int) (d : Nat) (a : Int) (hf : -16 ≤ f ∧ f < 8) (hd : d < 4) (ha : -20 ≤ a ∧ a < 20) : chkT (if f < 0 then -1 else f) (numL a) (textL f d a) = true := by
  have h : ∀ g : Int, (∀ d, d < 4 → ∀ k : Nat, k < 40 → chk g d ((k : Int) - 20) = true) → chk g d a = true := fun g hg => num_cases (P := fun a => chk g d a = true) (fun k hk => hg d hd k hk) ha.1 ha.2
  by_cases q : f < 0
  · rw [if_pos q, text_neg _ _ _ q]; exact h _ chk_m1
  · rw [if_neg q]
    obtain ⟨n, rfl⟩ := Int.eq_ofNat_of_zero_le (Int.not_lt.mp q)
    have hn : n < 8 := Int.ofNat_lt.mp hf.2
    match n, hn with
    | 0, _ => exact h _ chk_0
    | 1, _ => exact h _ chk_1
    | 2, _ => exact h _ chk_2
    | 3, _ => exact h _ chk_3
    | 4, _ => exact h _ chk_4
    | 5, _ => exact h _ chk_5
    | 6, _ => exact h _ chk_6
    | 7, _ => exact h _ chk_7

theorem pad_0 (t : List Nat) : pad 0 t 0 = mk t ∧ pad 0 t 1 = mk (t ++ [32]) := by
  unfold pad
  exact ⟨by rw [List.replicate_zero, List.nil_append, List.append_nil], rfl⟩
theorem cf_all (c : Int) : CF c := by
  have hN := cN_rng c
  have hc := chk_all (cF c) (cD c) (cN c) (cF_rng c) (cD_lt c) hN
  have ht : textL (cF c) (cD c) (cN c) = txtL c := by
    unfold txtL textC
    rw [text_eq _ _ hN]
    rfl
  rw [ht] at hc
  have hi := num_int hN
  have hl := numL_len (cN c)
  obtain ⟨p0, p1⟩ := pad_0 (txtL c)
  unfold chkT at hc
  simp only [Bool.and_eq_true, bne_iff_ne, ne_eq] at hc
  obtain ⟨⟨⟨⟨h1, h2⟩, h3⟩, h4⟩, h5⟩ := hc
  have key : cF c < 0 → (txtL c).head? = some 50 ∧ g5 (pad 0 (txtL c) 0) (cN c) = true ∧ g5 (pad 0 (txtL c) 1) (cN c) = true := by
    intro q
    rw [if_pos q, if_pos (by decide)] at h5
    simp only [Bool.and_eq_true, beq_iff_eq] at h5
    rw [p0, p1]
    exact ⟨h5.1, right_mk h5.2.1 hl hi, right_mk h5.2.2 hl hi⟩
  refine ⟨⟨h1, h2, h3⟩, h4, fun q => (key q).1, fun q j hj => ?_, fun q q3 j hj => ?_, fun q j hj => ?_⟩
  · obtain ⟨_, k0, k1⟩ := key q
    match j, hj with
    | 0, _ => exact k0
    | 1, _ => exact k1
  · have q' : ¬ cF c < 0 := by omega
    simp only [if_neg q', if_pos q3, Bool.and_eq_true] at h5
    match j, hj with
    | 0, _ => rw [p0]; exact reply_mk h5.1
    | 1, _ => rw [p1]; exact reply_mk h5.2
  · have q' : ¬ cF c < 0 := by omega
    have q3 : ¬ cF c < 3 := by omega
    simp only [if_neg q', if_neg q3, Bool.and_eq_true] at h5
    match j, hj with
    | 0, _ => rw [p0]; exact proto_mk h5.1
    | 1, _ => rw [p1]; exact proto_mk h5.2
end Mine
namespace Mine

noncomputable def linesAt (cs : List Int) (a : List Nat) : List Str := (List.range 7).map fun k => pad (a.getD k 0) (txtL (cs.getD k 0)) (bN (cs.getD k 0))
noncomputable def castL (l : List Nat) : List Int := l.map fun (k : Nat) => (k : Int)
noncomputable def deepI (cs : List Int) (a : List Nat) : List Int := (castL (mv2 cs)).map fun k => ((a.getD k.toNat 0 : Nat) : Int)
noncomputable def evenL (cs : List Int) (a : List Nat) : List Int := (rng 7).filter fun p => decide ((1 : Int) < ((deepI cs a).count p : Nat))
noncomputable def hereL (cs : List Int) (a : List Nat) (sp : Int) : List Int := ((rng (2 * (hN cs : Nat))).filter fun i => (deepI cs a).getD i.toNat 0 == sp).map fun i => (castL (mv2 cs)).getD i.toNat 0
noncomputable abbrev stC (cs : List Int) (a : List Nat) (ch : Int) : List (Nm × D) := [(.choice_, DI ch), (.movers_, .ints (castL (mv2 cs))), (.half_, DI (hN cs : Nat)), (.lines_, .strs (linesAt cs a)), (.drawn_, .tups (cs.map rowOf))]
noncomputable def body9 : List Stmt := match (fB (stAt 17)).drop 9 with | s :: _ => lpB s | [] => []

theorem castL_len (l : List Nat) : (castL l).length = l.length := List.length_map ..
theorem deepI_len (cs : List Int) (a : List Nat) : (deepI cs a).length = 2 * hN cs := by unfold deepI; rw [List.length_map, castL_len, mv2_len]
theorem linesAt_len (cs : List Int) (a : List Nat) : (linesAt cs a).length = 7 := by unfold linesAt; simp
theorem linesAt_get (cs : List Int) (a : List Nat) {k : Nat} (hk : k < 7) (d : Str) : (linesAt cs a).getD k d = pad (a.getD k 0) (txtL (cs.getD k 0)) (bN (cs.getD k 0)) := by
  unfold linesAt
  rw [List.getD_eq_getElem?_getD, List.getElem?_map, List.getElem?_range hk]; rfl
theorem mem_mv2 {cs : List Int} {k : Nat} (h : k ∈ mv2 cs) : k < 7 ∧ right (cs.getD k 0) = true := by
  have h1 := List.mem_of_mem_take h
  unfold mvN at h1
  rw [List.mem_filter, List.mem_range] at h1
  exact h1
theorem mem_castL {l : List Nat} {x : Int} (h : x ∈ castL l) : ∃ k : Nat, x = k ∧ k ∈ l := by
  obtain ⟨k, hk, e⟩ := List.mem_map.mp h
  exact ⟨k, e.symm, hk⟩
theorem getD_mem {α : Type} {l : List α} {k : Nat} {d : α} (h : k < l.length) : l.getD k d ∈ l := by
  rw [List.getD_eq_getElem?_getD, List.getElem?_eq_getElem h]
  exact List.getElem_mem h
theorem rng_len (k : Nat) : (rng (k : Int)).length = k := by rw [rng_length]; omega

section
variable {prog : Program} {w : World} {T : TopAt} {n : Nat} {Cr Cp : Addr}

theorem find_two {d b : Nat} {t : List Nat} (h : t.head? = some 50) (hd : d ≤ 100) : Txt.find (pad d t b) "2" = (d : Int) := find_two' h

theorem main_1 (G : Top6 T Cr Cp) {A : Around} {nm : Str} {fa : Addr} {cd : Value} {h : Heap} {cs : List Int} {a : List Nat} {ch : Int} {i : Nat} {post : Flow → Heap → Prop} (O : ROk (n + 9) T (LF A nm fa cd h)) (S : SOk (LF A nm fa cd h)) (H : ∀ c, CF c) (ha : ∀ k, a.getD k 0 ≤ 100) (hch : 0 ≤ ch) (hev : evenL cs a ≠ [])
    (R : Blk prog w (LF A nm fa cd h) (body9.drop 6) (Inv (LF A nm fa cd h) [(.here_, .ints (hereL cs a ((evenL cs a).getD (ch.fmod (evenL cs a).length).toNat 0))), (.choice_, DI (ch.fdiv (evenL cs a).length)), (.movers_, .ints (castL (mv2 cs))), (.half_, DI (hN cs : Nat)), (.lines_, .strs (linesAt cs a)), (.drawn_, .tups (cs.map rowOf))] [.here_, .lines_]) post) :
    Blk prog w (LF A nm fa cd h) body9 (Inv (LF A nm fa cd h) ((.turn_, DI i) :: stC cs a ch) [.lines_]) post := by
  have h3 := hN_le cs
  have hml := mv2_len cs
  have hcl := castL_len (mv2 cs)
  have hdl := deepI_len cs a
  have hel : (evenL cs a).length ≤ 7 := by unfold evenL; have := List.length_filter_le (fun p => decide ((1 : Int) < ((deepI cs a).count p : Nat))) (rng 7); rw [show (rng 7).length = 7 from rfl] at this; exact this
  have hep : 0 < (evenL cs a).length := List.length_pos_iff.mpr hev
  have hm := fmod_range ch (evenL cs a).length (by omega)
  refine Blk.one (Stm.assign (x := .deep_) O S (EvN.comp (kd := kInt) (xs := castL (mv2 cs)) (ρf := [(.lines_, .strs (linesAt cs a))]) (g := fun k => ((a.getD k.toNat 0 : Nat) : Int)) (CompOk.of rfl ⟨rfl, trivial⟩ ⟨⟨rfl, rfl, rfl, _, rfl⟩, trivial⟩) (Src.list kInt O (Ev.name O .movers_ rfl)) (Tgt.name (x := .k_) rfl rfl) (by omega) ?_) (.inr ⟨rfl, _, rfl⟩) (by decide) (.inr fun _ _ h => h) rfl) ?_
  · intro x hx C
    obtain ⟨k, rfl, hk⟩ := mem_castL hx
    obtain ⟨hk7, hr⟩ := mem_mv2 hk
    have htwo := (H (cs.getD k 0)).two (of_decide_eq_true hr)
    have hf := find_two (d := a.getD k 0) (b := bN (cs.getD k 0)) htwo (ha k)
    refine Ev.at (EvP.of (EvN.ev (Ev.meth O.cf (EvP.of (Ev.itemS (d := "") (Ev.name O.cf .lines_ rfl) (Ev.name O.cf .k_ rfl) (by omega) (by rw [linesAt_len]; omega) (by rw [linesAt_len]; omega)) (congrArg DS (linesAt_get cs a (k := k) hk7 ""))) (.one Ev.str .nil) PySem.F.plainAttrs_str PySem.F.slot_str_index PySem.F.type_str_index (isStr_rep · _) (Fun.index (by rw [hf]; omega)))) ?_)
    rw [hf]; rfl
  refine Blk.one (Stm.compIf (y := .even_) (kd := kInt) (xs := rng 7) (ρf := [(.deep_, .ints (deepI cs a))]) (g := id) (p := fun p => decide ((1 : Int) < ((deepI cs a).count p : Nat))) O S (CompOk.of rfl ⟨rfl, trivial⟩ ⟨⟨rfl, rfl, rfl, _, rfl⟩, trivial⟩) (Src.range O (Ev.glob O G.range rfl) Ev.int (by decide) (by decide)) (Tgt.name (x := .place_) rfl rfl) (Nat.le_of_ble_eq_true rfl) ?_ ?_ rfl (by decide) rfl) ?_
  · intro x hx C
    exact Ts.cmp (EvN.ev (Ev.meth O.cf (Ev.name O.cf .deep_ rfl) (.one (Ev.name O.cf .place_ rfl) .nil) PySem.F.plainAttrs_list PySem.F.slot_list_count PySem.F.type_list_count (isInts_rep · _) Fun.count)) Ev.int Cmp.gtI
  · intro x hx _ C
    exact Ev.at (Ev.name O.cf .place_ rfl)
  refine Blk.shrink (own' := [.lines_]) ?_ (fun y hy => .tail _ hy)
  have hid : ((rng 7).filter fun p => decide ((1 : Int) < ((deepI cs a).count p : Nat))).map id = evenL cs a := List.map_id _
  rw [hid]
  refine Blk.skip (Ts.of (Ts.cmp (Ev.name O .even_ rfl) (EvN.ev (Ev.listI (ns := []) .nil)) (Cmp.eqIs O (by omega))) (decide_eq_false hev)) ?_
  have lenE : ∀ {ρ : List (Nm × D)} {p1 p2 p3 : Pos}, lk ρ .even_ = some (.ints (evenL cs a)) → Ev prog w (LF A nm fa cd h) ρ (.Call (.Name (Str.ofString "len") p1) [.Name Nm.even_.s p2] [] p3) (DI (evenL cs a).length) := fun hx => EvN.ev (Ev.call O (Ev.glob O G.len rfl) Kpr.builtin (.one (Ev.name O .even_ hx) .nil) (Fun.lenI (by omega)))
  refine Blk.one (Stm.assign (x := .spot_) O S (Ev.at (P := fun _ _ => False) (Ev.itemI (Ev.name O .even_ rfl) (Ev.mod (Ev.name O .choice_ rfl) (lenE rfl) (by omega)) hm.1 hm.2 (by omega))) (.inr ⟨rfl, _, rfl⟩) (by decide) (.inr fun _ _ h => h.elim) rfl) ?_
  refine Blk.one (Stm.augDiv (x := .choice_) O S rfl (lenE rfl) rfl (by decide) (by omega) (PyProof.noPylong_small (by omega))) ?_
  generalize hsp : (evenL cs a).getD (ch.fmod (evenL cs a).length).toNat 0 = sp
  refine Blk.one (Stm.compIf (y := .here_) (kd := kInt) (xs := rng (2 * (hN cs : Nat))) (ρf := [(.deep_, .ints (deepI cs a)), (.spot_, DI sp), (.movers_, .ints (castL (mv2 cs)))]) (g := fun i => (castL (mv2 cs)).getD i.toNat 0) (p := fun i => (deepI cs a).getD i.toNat 0 == sp) O S (CompOk.of rfl ⟨rfl, rfl, rfl, trivial⟩ ⟨⟨rfl, rfl, rfl, _, rfl⟩, ⟨rfl, rfl, rfl, _, rfl⟩, ⟨rfl, rfl, rfl, _, rfl⟩, trivial⟩) (Src.range O (Ev.glob O G.range rfl) (Ev.mul Ev.int (Ev.name O .half_ rfl) (mulOk_small (by decide))) (by omega) (by omega)) (Tgt.name (x := .i_) rfl rfl) (by rw [rng_length]; omega) ?_ ?_ rfl (by decide) rfl) ?_
  · intro x hx C
    have hx := mem_rng.mp hx
    exact Ts.cmp (Ev.itemI (Ev.name O.cf .deep_ rfl) (Ev.name O.cf .i_ rfl) hx.1 (by omega) (by omega)) (Ev.name O.cf .spot_ rfl) Cmp.eqI
  · intro x hx _ C
    have hx := mem_rng.mp hx
    exact Ev.at (Ev.itemI (Ev.name O.cf .movers_ rfl) (Ev.name O.cf .i_ rfl) hx.1 (by omega) (by omega))
  rw [hsp] at R
  exact Blk.sub R ⟨rfl, rfl, rfl, rfl, rfl, rfl, trivial⟩
end
end Mine
namespace Mine

theorem linesAt_set (cs : List Int) (a : List Nat) (ha : a.length = 7) {k : Nat} (hk : k < 7) (v : Nat) : (linesAt cs a).set k (pad v (txtL (cs.getD k 0)) (bN (cs.getD k 0))) = linesAt cs (a.set k v) := by
  apply List.ext_getElem?
  intro i
  unfold linesAt
  rw [List.getElem?_set]
  by_cases hi : i < 7
  · by_cases q : k = i
    · subst q
      simp [hi, ha]
    · have hq : ¬ i = k := fun e => q e.symm
      simp [hi, ha, q, List.getD_eq_getElem?_getD, List.getElem?_set]
  · simp [hi]; omega

section
variable {prog : Program} {w : World} {T : TopAt} {n : Nat} {Cr Cp : Addr}

structure Top7 (T : TopAt) (Cr Cp : Addr) : Prop extends Top6 T Cr Cp where
  isEof : ∃ a cd, T.gl.lookup (Str.ofString "ISEOF") = some (.ref a) ∧ FnT T 13 "ISEOF" a cd
  isT : ∃ a cd, T.gl.lookup (Str.ofString "ISTERMINAL") = some (.ref a) ∧ FnT T 11 "ISTERMINAL" a cd
  isN : ∃ a cd, T.gl.lookup (Str.ofString "ISNONTERMINAL") = some (.ref a) ∧ FnT T 12 "ISNONTERMINAL" a cd
  number : ∃ a cd, T.gl.lookup (Str.ofString "_law_number") = some (.ref a) ∧ FnT T 16 "_law_number" a cd
  strxfrm : ∃ a cd, T.gl.lookup (Str.ofString "_strxfrm") = some (.ref a) ∧ FnT T 1 "_strxfrm" a cd
  sorted : T.gl.lookup (Str.ofString "sorted") = some (Value.builtin "sorted")

/-- the names while two lines part -/
noncomputable abbrev stE (cs : List Int) (a : List Nat) (ch : Int) (o t : Nat) : List (Nm × D) := [(.one_, DI o), (.other_, DI t)] ++ stC cs a ch

theorem main_2 (G : Top7 T Cr Cp) {A : Around} {nm : Str} {fa : Addr} {cd : Value} {h : Heap} {cs : List Int} {a : List Nat} {ch : Int} {hl : List Int} {post : Flow → Heap → Prop} (O : ROk (n + 9) T (LF A nm fa cd h)) (S : SOk (LF A nm fa cd h)) (hch : 0 ≤ ch) (hn : 2 ≤ hl.length) (hx : hl.length ≤ 7) (o t : Nat)
    (ho : hl.getD (ch.fmod hl.length).toNat 0 = (o : Int)) (ht : (hl.eraseIdx (ch.fmod hl.length).toNat).getD ((ch.fdiv hl.length).fmod ((hl.length : Int) - 1)).toNat 0 = (t : Int))
    (R : Blk prog w (LF A nm fa cd h) (body9.drop 10) (Inv (LF A nm fa cd h) (stE cs a (ch.fdiv (hl.length * ((hl.length : Int) - 1))) o t) [.lines_]) post) :
    Blk prog w (LF A nm fa cd h) (body9.drop 6) (Inv (LF A nm fa cd h) [(.here_, .ints hl), (.choice_, DI ch), (.movers_, .ints (castL (mv2 cs))), (.half_, DI (hN cs : Nat)), (.lines_, .strs (linesAt cs a)), (.drawn_, .tups (cs.map rowOf))] [.here_, .lines_]) post := by
  have hm1 := fmod_range ch hl.length (by omega)
  have hm2 := fmod_range (ch.fdiv hl.length) ((hl.length : Int) - 1) (by omega)
  refine Blk.one (Stm.assign (x := .size_) O S (Ev.at (P := fun _ _ => False) (EvN.ev (Ev.call O (Ev.glob O G.len rfl) Kpr.builtin (.one (Ev.name O .here_ rfl) .nil) (Fun.lenI (by omega))))) (.inl rfl) (by decide) (.inr fun _ _ h => h.elim) rfl) ?_
  refine Blk.one (Stm.pop (x := .here_) (y := .one_) O S (by decide) (by decide) (.inl rfl) rfl (Ev.mod (Ev.name O .choice_ rfl) (Ev.name O .size_ rfl) (by omega)) hm1.1 hm1.2 (by omega)) ?_
  have he : (hl.eraseIdx (ch.fmod hl.length).toNat).length = hl.length - 1 := List.length_eraseIdx_of_lt (by omega)
  refine Blk.one (Stm.pop (x := .here_) (y := .other_) (ns := hl.eraseIdx (ch.fmod hl.length).toNat) O S (by decide) (by decide) (.inl rfl) rfl (Ev.mod (Ev.div (Ev.name O .choice_ rfl) (Ev.name O .size_ rfl) (by omega) (PyProof.noPylong_small (by omega))) (Ev.sub (Ev.name O .size_ rfl) Ev.int) (by omega)) hm2.1 (by rw [he]; omega) (by omega)) ?_
  rw [ho, ht]
  have hb : (hl.length : Int) * ((hl.length : Int) - 1) ≠ 0 := Int.mul_ne_zero (by omega) (by omega)
  have hb2 : ((hl.length : Int) * ((hl.length : Int) - 1)).natAbs < 1073741824 := by
    rw [Int.natAbs_mul]
    have h1 : (hl.length : Int).natAbs ≤ 7 := by omega
    have h2 : ((hl.length : Int) - 1).natAbs ≤ 7 := by omega
    exact Nat.lt_of_le_of_lt (Nat.mul_le_mul h1 h2) (by decide)
  refine Blk.one (Stm.augDiv (x := .choice_) O S rfl (Ev.mul (Ev.name O .size_ rfl) (Ev.sub (Ev.name O .size_ rfl) Ev.int) (mulOk_small (by omega))) rfl (by decide) hb (PyProof.noPylong_small hb2)) ?_
  refine Blk.shrink (own' := [.lines_]) ?_ (fun y hy => .tail _ hy)
  exact Blk.sub R ⟨rfl, rfl, rfl, rfl, rfl, rfl, rfl, trivial⟩

theorem main_3 (G : Top7 T Cr Cp) {A : Around} {nm : Str} {fa : Addr} {cd : Value} {h : Heap} {cs : List Int} {a : List Nat} {ch : Int} {o t : Nat} {post : Flow → Heap → Prop} (O : ROk (n + 9) T (LF A nm fa cd h)) (S : SOk (LF A nm fa cd h)) (H : ∀ c, CF c) (ha : a.length = 7) (hao : ∀ k, a.getD k 0 ≤ 30) (ho : o < 7) (ht : t < 7)
    (hro : cF (cs.getD o 0) < 0) (hrt : cF (cs.getD t 0) < 0)
    (l g : Nat) (hlg : if cN (cs.getD o 0) ≤ cN (cs.getD t 0) then l = o ∧ g = t else l = t ∧ g = o)
    (R : Blk prog w (LF A nm fa cd h) (body9.drop 12) (Inv (LF A nm fa cd h) ([(.lesser_, DI l), (.greater_, DI g)] ++ stC cs a ch) [.lines_]) post) :
    Blk prog w (LF A nm fa cd h) (body9.drop 10) (Inv (LF A nm fa cd h) (stE cs a ch o t) [.lines_]) post := by
  obtain ⟨a1, cd1, l1, f1⟩ := G.isEof
  obtain ⟨a2, cd2, l2, f2⟩ := G.isT
  obtain ⟨a3, cd3, l3, f3⟩ := G.isN
  obtain ⟨a4, cd4, l4, f4⟩ := G.number
  have num : ∀ {k : Nat} (hk : k < 7) (hr : cF (cs.getD k 0) < 0), Fun prog w (n + 9) T (.ref a4) [DS ((linesAt cs a).getD (k : Int).toNat "")] (DI (cN (cs.getD k 0))) := by
    intro k hk hr
    rw [Int.toNat_natCast, linesAt_get cs a hk]
    have := bN_lt (cs.getD k 0)
    have h2 := hao k
    exact Fun.number (n := n + 7) G.toTop4 f4 (H _).core (by omega) (Nat.le_trans (txtL_len _) (by decide)) ((H _).right hr 0 (by decide))
  have ln := linesAt_len cs a
  refine Blk.one (Stm.assign (x := .gap_) O S (Ev.at (P := fun _ _ => False) (Ev.sub (EvN.ev (Ev.call O (Ev.glob O l4 rfl) f4.kpr (.one (Ev.itemS (d := "") (Ev.name O .lines_ rfl) (Ev.name O .one_ rfl) (by omega) (by omega) (by omega)) .nil) (num (k := o) ho hro))) (EvN.ev (Ev.call O (Ev.glob O l4 rfl) f4.kpr (.one (Ev.itemS (d := "") (Ev.name O .lines_ rfl) (Ev.name O .other_ rfl) (by omega) (by omega) (by omega)) .nil) (num (k := t) ht hrt))))) (.inl rfl) (by decide) (.inr fun _ _ h => h.elim) rfl) ?_
  generalize cN (cs.getD o 0) = xo at *
  generalize cN (cs.getD t 0) = xt at *
  refine Blk.one (mid := Inv (LF A nm fa cd h) ([(Nm.lesser_, DI l), (Nm.greater_, DI g)] ++ stC cs a ch) [Nm.lines_]) ?_ R
  refine Stm.iff (Ts.or2 (Ts.val (EvN.ev (Ev.call O (Ev.glob O l1 rfl) f1.kpr (.one (Ev.name O .gap_ rfl) .nil) (Fun.isEof (n := n + 8) G.toTop3 f1)))) (fun _ => Ts.val (EvN.ev (Ev.call O (Ev.glob O l2 rfl) f2.kpr (.one (Ev.add Ev.int (Ev.name O .gap_ rfl)) .nil) (Fun.isTerminal (n := n + 8) G.toTop3 f2))))) (fun q => ?_) (fun q => ?_)
  · have hle : xo ≤ xt := by
      simp only [Bool.or_eq_true, beq_iff_eq, decide_eq_true_eq] at q
      omega
    rw [if_pos hle] at hlg
    obtain ⟨rfl, rfl⟩ := hlg
    refine Blk.one (Stm.unpackSwap (names := [.lesser_, .greater_]) (as := [.int l, .int g]) O S (Ev.tupE (.one (Ev.name O .one_ rfl) (.one (Ev.name O .other_ rfl) .nil)) (Nat.le_of_ble_eq_true rfl)) rfl (by intro x hx; rcases List.mem_cons.mp hx with rfl | hx; exact ⟨.inl rfl, by decide⟩; rcases List.mem_cons.mp hx with rfl | hx; exact ⟨.inl rfl, by decide⟩; cases hx) rfl rfl) ?_
    exact Blk.sub Blk.done ⟨rfl, rfl, rfl, rfl, rfl, rfl, rfl, trivial⟩
  · have hle : ¬ xo ≤ xt := by
      simp only [Bool.or_eq_false_iff, beq_eq_false_iff_ne, decide_eq_false_iff_not] at q
      omega
    rw [if_neg hle] at hlg
    obtain ⟨rfl, rfl⟩ := hlg
    refine Blk.one (Stm.iff (b := true) (Ts.of (Ts.val (EvN.ev (Ev.call O (Ev.glob O l3 rfl) f3.kpr (.one (Ev.add Ev.int (Ev.name O .gap_ rfl)) .nil) (Fun.isNonterminal (n := n + 8) G.toTop3 f3)))) (decide_eq_true (by omega))) (fun _ => ?_) (fun q => nomatch q)) Blk.done
    refine Blk.one (Stm.unpackSwap (names := [.lesser_, .greater_]) (as := [.int l, .int g]) O S (Ev.tupE (.one (Ev.name O .other_ rfl) (.one (Ev.name O .one_ rfl) .nil)) (Nat.le_of_ble_eq_true rfl)) rfl (by intro x hx; rcases List.mem_cons.mp hx with rfl | hx; exact ⟨.inl rfl, by decide⟩; rcases List.mem_cons.mp hx with rfl | hx; exact ⟨.inl rfl, by decide⟩; cases hx) rfl rfl) ?_
    exact Blk.sub Blk.done ⟨rfl, rfl, rfl, rfl, rfl, rfl, rfl, trivial⟩
end
end Mine
namespace Mine

theorem range_pick {α : Type} (l : List α) (d : α) (q : α → Bool) : ∀ n, n ≤ l.length → ((List.range n).filter fun i => q (l.getD i d)).map (fun i => l.getD i d) = (l.take n).filter q := by
  intro n
  induction n with
  | zero => intro _; simp
  | succ n ih =>
    intro hn
    have hg : l.getD n d = l[n]'(by omega) := by rw [List.getD_eq_getElem?_getD, List.getElem?_eq_getElem (by omega)]; rfl
    rw [List.range_succ, List.filter_append, List.map_append, ih (by omega), List.take_add_one, List.filter_append]
    congr 1
    rw [List.getElem?_eq_getElem (by omega : n < l.length)]
    simp only [List.filter_cons, List.filter_nil, Option.toList_some, hg]
    split <;> simp [show n < l.length by omega]

theorem hereL_eq (cs : List Int) (a : List Nat) (sp : Int) : hereL cs a sp = (castL (mv2 cs)).filter fun k => ((a.getD k.toNat 0 : Nat) : Int) == sp := by
  have hlen : (castL (mv2 cs)).length = 2 * hN cs := by rw [castL_len, mv2_len]
  have h := range_pick (castL (mv2 cs)) 0 (fun k => ((a.getD k.toNat 0 : Nat) : Int) == sp) (2 * hN cs) (by omega)
  rw [List.take_of_length_le (by omega)] at h
  rw [← h]
  unfold hereL rng
  have e : ((2 : Int) * (hN cs : Nat)).toNat = 2 * hN cs := by omega
  rw [e, List.filter_map, List.map_map]
  have : (List.range (2 * hN cs)).filter ((fun i : Int => (deepI cs a).getD i.toNat 0 == sp) ∘ fun i : Nat => (i : Int)) = (List.range (2 * hN cs)).filter fun i => ((a.getD ((castL (mv2 cs)).getD i 0).toNat 0 : Nat) : Int) == sp := by
    apply List.filter_congr
    intro i hi
    rw [List.mem_range] at hi
    have : (deepI cs a).getD i 0 = ((a.getD ((castL (mv2 cs)).getD i 0).toNat 0 : Nat) : Int) := by
      unfold deepI
      rw [List.getD_eq_getElem?_getD, List.getElem?_map, List.getElem?_eq_getElem (by omega : i < (castL (mv2 cs)).length), List.getD_eq_getElem?_getD (l := castL (mv2 cs)), List.getElem?_eq_getElem (by omega : i < (castL (mv2 cs)).length)]
      rfl
    simp only [Function.comp, Int.toNat_natCast, this]
  rw [this]
  apply List.map_congr_left
  intro i _
  simp

theorem mv2_nodup (cs : List Int) : (mv2 cs).Nodup := by
  unfold mv2 mvN
  exact ((List.nodup_range).filter _).sublist (List.take_sublist _ _)
theorem castL_nodup {l : List Nat} (h : l.Nodup) : (castL l).Nodup := by
  unfold castL
  exact List.pairwise_map.mpr (List.Pairwise.imp (fun h e => h (by omega)) h)

structure HereOk (cs : List Int) (a : List Nat) (sp : Nat) (hl : List Int) : Prop where
  two : 2 ≤ hl.length
  seven : hl.length ≤ 7
  nodup : hl.Nodup
  mem : ∀ x ∈ hl, ∃ k : Nat, x = k ∧ k ∈ mv2 cs ∧ a.getD k 0 = sp

theorem here_ok (cs : List Int) (a : List Nat) (sp : Int) (h : sp ∈ evenL cs a) : ∃ s : Nat, sp = s ∧ HereOk cs a s (hereL cs a sp) := by
  unfold evenL at h
  rw [List.mem_filter, mem_rng] at h
  obtain ⟨⟨h0, h7⟩, hc⟩ := h
  obtain ⟨s, rfl⟩ := Int.eq_ofNat_of_zero_le h0
  refine ⟨s, rfl, ?_⟩
  have hc := of_decide_eq_true hc
  have hcount : (deepI cs a).count (s : Int) = (hereL cs a s).length := by
    rw [hereL_eq, ← List.countP_eq_length_filter]
    unfold deepI List.count
    rw [List.countP_map]
    rfl
  have h3 := hN_le cs
  refine ⟨by rw [hcount] at hc; omega, ?_, ?_, ?_⟩
  · rw [hereL_eq]
    have := List.length_filter_le (fun k : Int => ((a.getD k.toNat 0 : Nat) : Int) == (s : Int)) (castL (mv2 cs))
    rw [castL_len, mv2_len] at this
    omega
  · rw [hereL_eq]
    exact (castL_nodup (mv2_nodup cs)).filter _
  · intro x hx
    rw [hereL_eq, List.mem_filter] at hx
    obtain ⟨k, rfl, hk⟩ := mem_castL hx.1
    refine ⟨k, rfl, hk, ?_⟩
    have := hx.2
    simp at this
    simp
    omega

theorem erase_get {l : List Int} (hn : l.Nodup) {i j : Nat} (hi : i < l.length) (hj : j < l.length - 1) : (l.eraseIdx i).getD j 0 ∈ l ∧ (l.eraseIdx i).getD j 0 ≠ l.getD i 0 := by
  have he : (l.eraseIdx i).length = l.length - 1 := List.length_eraseIdx_of_lt hi
  have hm : (l.eraseIdx i).getD j 0 ∈ l.eraseIdx i := getD_mem (by omega)
  refine ⟨List.mem_of_mem_eraseIdx hm, fun e => ?_⟩
  rw [e] at hm
  have hg : l.getD i 0 = l[i] := by rw [List.getD_eq_getElem?_getD, List.getElem?_eq_getElem hi]; rfl
  rw [hg] at hm
  rw [List.mem_eraseIdx_iff_getElem] at hm
  obtain ⟨k, hk, hne, e2⟩ := hm
  rw [List.Nodup, List.pairwise_iff_getElem] at hn
  rcases Nat.lt_or_ge k i with q | q
  · exact hn k i hk hi q e2
  · exact hn i k hi hk (by omega) e2.symm

/-- what the partings keep -/
structure Chips (cs : List Int) (P : Nat → List Nat → Prop) : Prop where
  start : P 0 (List.replicate 7 3)
  len : ∀ i a, P i a → a.length = 7
  low : ∀ i a, P i a → ∀ k, a.getD k 0 ≤ 6
  even : ∀ i a, i < tN cs → P i a → evenL cs a ≠ []
  step : ∀ i a, i < tN cs → P i a → ∀ l g sp, l ∈ mv2 cs → g ∈ mv2 cs → l ≠ g → a.getD l 0 = sp → a.getD g 0 = sp → cN (cs.getD l 0) ≤ cN (cs.getD g 0) → 1 ≤ sp ∧ P (i + 1) ((a.set l (sp - 1)).set g (sp + 1))

section
variable {prog : Program} {w : World} {T : TopAt} {n : Nat} {Cr Cp : Addr}

theorem main_4 (G : Top7 T Cr Cp) {A : Around} {nm : Str} {fa : Addr} {cd : Value} {h : Heap} {cs : List Int} {a : List Nat} {ch : Int} {l g sp : Nat} (O : ROk (n + 9) T (LF A nm fa cd h)) (S : SOk (LF A nm fa cd h)) (H : ∀ c, CF c) (ha : a.length = 7) (hl : l < 7) (hg : g < 7) (hne : l ≠ g) (hal : a.getD l 0 = sp) (hag : a.getD g 0 = sp) (h1 : 1 ≤ sp) (h6 : sp ≤ 6) :
    Blk prog w (LF A nm fa cd h) (body9.drop 12) (Inv (LF A nm fa cd h) ([(.lesser_, DI l), (.greater_, DI g)] ++ stC cs a ch) [.lines_]) (nextP (Inv (LF A nm fa cd h) (stC cs ((a.set l (sp - 1)).set g (sp + 1)) ch) [.lines_])) := by
  obtain ⟨a1, cd1, l1, f1⟩ := G.strip
  have ln := linesAt_len cs a
  have hstrip : Fun prog w (n + 9) T (.ref a1) [DS ((linesAt cs a).getD (l : Int).toNat ""), DI 1] (DS (pad (sp - 1) (txtL (cs.getD l 0)) (bN (cs.getD l 0)))) := by
    have hb := bN_lt (cs.getD l 0)
    have ht := txtL_len (cs.getD l 0)
    rw [Int.toNat_natCast, linesAt_get cs a hl, hal]
    have := Fun.strip (prog := prog) (w := w) (n := n + 8) G.toTop0 f1 (a := sp) (b := bN (cs.getD l 0)) (m := 1) (H (cs.getD l 0)).core (by omega) rfl rfl
    have e1 : min 1 sp = 1 := by omega
    have e2 : bN (cs.getD l 0) - min (1 - min 1 sp) (bN (cs.getD l 0)) = bN (cs.getD l 0) := by omega
    rw [e2, e1] at this
    exact this
  refine Blk.one (Stm.setS (x := .lines_) (y := pad (sp - 1) (txtL (cs.getD l 0)) (bN (cs.getD l 0))) O S (by decide) rfl (EvN.ev (Ev.call O (Ev.glob O l1 rfl) f1.kpr (.one (Ev.itemS (d := "") (Ev.name O .lines_ rfl) (Ev.name O .lesser_ rfl) (by omega) (by omega) (by omega)) (.one Ev.int .nil)) hstrip)) (Ev.name O .lesser_ rfl) (by omega) (by omega) (by omega) rfl) ?_
  rw [Int.toNat_natCast, linesAt_set cs a ha hl]
  have ln2 := linesAt_len cs (a.set l (sp - 1))
  have hv : (" " : Str) ++ (linesAt cs (a.set l (sp - 1))).getD (g : Int).toNat "" = pad (sp + 1) (txtL (cs.getD g 0)) (bN (cs.getD g 0)) := by
    rw [Int.toNat_natCast, linesAt_get _ _ hg]
    have : (a.set l (sp - 1)).getD g 0 = sp := by
      rw [List.getD_eq_getElem?_getD, List.getElem?_set_ne hne, ← List.getD_eq_getElem?_getD, hag]
    rw [this, blank]
    unfold pad
    rw [mk_app]
    rfl
  refine Blk.one (Stm.setS (x := .lines_) (y := pad (sp + 1) (txtL (cs.getD g 0)) (bN (cs.getD g 0))) O S (by decide) rfl (EvP.of (Ev.cat Ev.str (Ev.itemS (d := "") (Ev.name O .lines_ rfl) (Ev.name O .greater_ rfl) (by omega) (by omega) (by omega)) ?_) (congrArg DS hv)) (Ev.name O .greater_ rfl) (by omega) (by omega) (by omega) rfl) ?_
  · have := congrArg Str.length hv
    rw [str_app_len, pad_len] at this
    have hb := bN_lt (cs.getD g 0)
    have ht := txtL_len (cs.getD g 0)
    omega
  rw [Int.toNat_natCast, linesAt_set cs _ (by rw [List.length_set]; exact ha) hg]
  exact Blk.sub Blk.done ⟨rfl, rfl, rfl, rfl, rfl, trivial⟩
end
end Mine
namespace Mine

theorem linesAt_start (cs : List Int) (h : cs.length = 7) : cs.map line0 = linesAt cs (List.replicate 7 3) := by
  apply List.ext_getElem?
  intro i
  unfold linesAt
  by_cases hi : i < 7
  · rw [List.getElem?_map, List.getElem?_map, List.getElem?_range hi, List.getElem?_eq_getElem (by omega)]
    simp only [Option.map_some]
    unfold line0
    have e1 : (List.replicate 7 3).getD i 0 = 3 := by
      rw [List.getD_eq_getElem?_getD, List.getElem?_replicate, if_pos hi]; rfl
    have e2 : cs.getD i 0 = cs[i]'(by omega) := by rw [List.getD_eq_getElem?_getD, List.getElem?_eq_getElem (by omega)]; rfl
    rw [e1, e2]
  · rw [List.getElem?_eq_none (by simp; omega), List.getElem?_eq_none (by simp; omega)]

section
variable {prog : Program} {w : World} {T : TopAt} {n : Nat} {Cr Cp : Addr}

theorem Blk.ex {F : Frm} {σ : Type} {ss : List Stmt} {pre : σ → Heap → Prop} {q : σ → Prop} {post : Flow → Heap → Prop} (h : ∀ z, q z → Blk prog w F ss (pre z) post) : Blk prog w F ss (fun x => ∃ z, q z ∧ pre z x) post :=
  ⟨fun s ⟨z, hz, I⟩ => (h z hz).run s I⟩

theorem turn_main (G : Top7 T Cr Cp) {A : Around} {nm : Str} {fa : Addr} {cd : Value} {h : Heap} {cs : List Int} {a : List Nat} {ch : Int} {i : Nat} {P : Nat → List Nat → Prop} (O : ROk (n + 9) T (LF A nm fa cd h)) (S : SOk (LF A nm fa cd h)) (H : ∀ c, CF c) (K : Chips cs P) (hi : i < tN cs) (hP : P i a) (hch : 0 ≤ ch) :
    Blk prog w (LF A nm fa cd h) body9 (Inv (LF A nm fa cd h) ((.turn_, DI i) :: stC cs a ch) [.lines_]) (nextP fun h' => ∃ z : List Nat × Int, (P (i + 1) z.1 ∧ 0 ≤ z.2) ∧ Inv (LF A nm fa cd h) (stC cs z.1 z.2) [.lines_] h') := by
  have hlen := K.len i a hP
  have hlow := K.low i a hP
  have hev := K.even i a hi hP
  have hep : 0 < (evenL cs a).length := List.length_pos_iff.mpr hev
  have hm := fmod_range ch (evenL cs a).length (by omega)
  refine main_1 G.toTop6 O S H (fun k => Nat.le_trans (hlow k) (by decide)) hch hev ?_
  have hsp : (evenL cs a).getD (ch.fmod (evenL cs a).length).toNat 0 ∈ evenL cs a := getD_mem (by omega)
  generalize (evenL cs a).getD (ch.fmod (evenL cs a).length).toNat 0 = sp at *
  obtain ⟨s, rfl, hk⟩ := here_ok cs a sp hsp
  have hch1 : 0 ≤ ch.fdiv (evenL cs a).length := Int.fdiv_nonneg hch (by omega)
  generalize ch.fdiv (evenL cs a).length = ch1 at *
  generalize hereL cs a s = hl at *
  have h2 := hk.two
  have hm1 := fmod_range ch1 hl.length (by omega)
  have hm2 := fmod_range (ch1.fdiv hl.length) ((hl.length : Int) - 1) (by omega)
  obtain ⟨o, ho, hom, hoa⟩ := hk.mem _ (getD_mem (l := hl) (k := (ch1.fmod hl.length).toNat) (d := 0) (by omega))
  obtain ⟨he1, he2⟩ := erase_get hk.nodup (i := (ch1.fmod hl.length).toNat) (j := ((ch1.fdiv hl.length).fmod ((hl.length : Int) - 1)).toNat) (by omega) (by omega)
  obtain ⟨t, ht, htm, hta⟩ := hk.mem _ he1
  have hot : o ≠ t := by
    rintro rfl
    exact he2 (ht.trans ho.symm)
  obtain ⟨ho7, hor⟩ := mem_mv2 hom
  obtain ⟨ht7, htr⟩ := mem_mv2 htm
  refine main_2 G O S hch1 h2 hk.seven o t ho ht ?_
  have hch2 : 0 ≤ ch1.fdiv (hl.length * ((hl.length : Int) - 1)) := Int.fdiv_nonneg hch1 (Int.mul_nonneg (by omega) (by omega))
  generalize ch1.fdiv (hl.length * ((hl.length : Int) - 1)) = ch2 at *
  by_cases hle : cN (cs.getD o 0) ≤ cN (cs.getD t 0)
  · obtain ⟨h1, hP'⟩ := K.step i a hi hP o t s hom htm hot hoa hta hle
    refine main_3 G O S H hlen (fun k => Nat.le_trans (hlow k) (by decide)) ho7 ht7 (of_decide_eq_true hor) (of_decide_eq_true htr) o t (by rw [if_pos hle]; exact ⟨rfl, rfl⟩) ?_
    refine Blk.post (main_4 G O S H hlen ho7 ht7 hot hoa hta h1 (hoa ▸ hlow o)) ?_
    intro f x e
    exact ⟨e.1, (_, ch2), ⟨hP', hch2⟩, e.2⟩
  · obtain ⟨h1, hP'⟩ := K.step i a hi hP t o s htm hom (Ne.symm hot) hta hoa (by omega)
    refine main_3 G O S H hlen (fun k => Nat.le_trans (hlow k) (by decide)) ho7 ht7 (of_decide_eq_true hor) (of_decide_eq_true htr) t o (by rw [if_neg hle]; exact ⟨rfl, rfl⟩) ?_
    refine Blk.post (main_4 G O S H hlen ht7 ho7 (Ne.symm hot) hta hoa h1 (hta ▸ hlow t)) ?_
    intro f x e
    exact ⟨e.1, (_, ch2), ⟨hP', hch2⟩, e.2⟩

theorem law_5 (G : Top7 T Cr Cp) {A : Around} {nm : Str} {fa : Addr} {cd : Value} {h : Heap} {cs : List Int} {ch : Int} {P : Nat → List Nat → Prop} {post : Flow → Heap → Prop} (O : ROk (n + 9) T (LF A nm fa cd h)) (S : SOk (LF A nm fa cd h)) (H : ∀ c, CF c) (hcs : cs.length = 7) (K : Chips cs P) (hch : 0 ≤ ch)
    (R : ∀ a ch, P (tN cs) a → Blk prog w (LF A nm fa cd h) ((fB (stAt 17)).drop 10) (Inv (LF A nm fa cd h) (stC cs a ch) [.lines_]) post) :
    Blk prog w (LF A nm fa cd h) ((fB (stAt 17)).drop 9) (Inv (LF A nm fa cd h) [(.choice_, DI ch), (.movers_, .ints ((mv2 cs).map fun (k : Nat) => (k : Int))), (.half_, DI (hN cs : Nat)), (.lines_, .strs (cs.map line0)), (.drawn_, .tups (cs.map rowOf))] [.lines_]) post := by
  rw [linesAt_start cs hcs]
  have h3 := hN_le cs
  have ht : (((hN cs : Nat) : Int) * (((hN cs : Nat) : Int) + 1) * (2 * ((hN cs : Nat) : Int) + 1)).fdiv 6 = (tN cs : Nat) := by
    unfold tN
    generalize hN cs = k at *
    match k, h3 with
    | 0, _ => rfl
    | 1, _ => rfl
    | 2, _ => rfl
    | 3, _ => rfl
  have ht14 : tN cs ≤ 14 := by
    unfold tN
    generalize hN cs = k at *
    match k, h3 with
    | 0, _ => decide
    | 1, _ => decide
    | 2, _ => decide
    | 3, _ => decide
  have hmul : 0 ≤ ((hN cs : Nat) : Int) * (((hN cs : Nat) : Int) + 1) ∧ ((hN cs : Nat) : Int) * (((hN cs : Nat) : Int) + 1) < 1000 := by
    generalize hN cs = k at *
    match k, h3 with
    | 0, _ => decide
    | 1, _ => decide
    | 2, _ => decide
    | 3, _ => decide
  refine Blk.one (Stm.post (Stm.forRange (x := .turn_) (σ := List Nat × Int) (k := (tN cs : Nat)) (st := fun _ z => stC cs z.1 z.2) (p := fun i z => P i z.1 ∧ 0 ≤ z.2) (x0 := (List.replicate 7 3, ch)) O S (Ev.glob O G.range rfl) (EvP.of (Ev.div (Ev.mul (Ev.mul (Ev.name O .half_ rfl) (Ev.add (Ev.name O .half_ rfl) Ev.int) (mulOk_small (by omega))) (Ev.add (Ev.mul Ev.int (Ev.name O .half_ rfl) (mulOk_small (by decide))) Ev.int) (mulOk_small hmul)) Ev.int (by decide) (PyProof.noPylong_small (by decide))) (congrArg DI ht)) (by omega) (by omega) (hp0 := ⟨K.start, hch⟩) (hst0 := fun _ _ h => h) (.inl rfl) (by decide) (fun i z hi hz => ?_)) (fun f x e => e)) ?_
  · exact turn_main G O S H K (by omega) hz.1 hz.2
  · exact Blk.ex fun z hz => R z.1 z.2 (by simpa using hz.1)
end
end Mine
namespace Mine

theorem strs_snoc {n : Str} {t : Tok} : ∀ {vs : List Value} {ns : List Str}, StrsAre vs ns → StrsAre (vs ++ [.str n t]) (ns ++ [n])
  | _, _, .nil => .cons n t .nil
  | _, _, .cons n' t' h => .cons n' t' (strs_snoc h)

/-- keys that read as the items do -/
theorem keyed_out {ks vs : List Value} {ss : List Str} (hk : StrsAre ks ss) (hS : StrsAre vs ss) {xs : Array Keyed} (hp : xs.Perm (ks.toArray.zip vs.toArray)) (hs : SortedToK PyProof.Rows.strKind xs xs.size) :
    ∃ ss', StrsAre (xs.map (·.2)).toList ss' ∧ ss'.Perm ss ∧ sortedS ss' = true := by
  have hz : (ks.toArray.zip vs.toArray).toList = ks.zip vs := by simp
  have hl : xs.toList.Perm (ks.zip vs) := by rw [← hz]; exact Array.perm_iff_toList_perm.mp hp
  have hzip : ∀ {ks vs : List Value} {ss : List Str}, StrsAre ks ss → StrsAre vs ss → ∀ p ∈ ks.zip vs, ∃ x t u, p = (.str x t, .str x u) := by
    intro ks vs ss h
    induction h generalizing vs with
    | nil => intro _ p hp; cases hp
    | cons x t h ih =>
      intro h2 p hp
      cases h2 with
      | cons _ u h2 =>
        rcases List.mem_cons.mp hp with rfl | hp
        · exact ⟨x, t, u, rfl⟩
        · exact ih h2 p hp
  have hmem : ∀ p ∈ xs.toList, ∃ x t u, p = (.str x t, .str x u) := fun p hp' => hzip hk hS p (hl.mem_iff.mp hp')
  refine ⟨xs.toList.map (fun p => PyProof.Rows.strOf p.2), ?_, ?_, ?_⟩
  · rw [Array.toList_map]
    have h1 := strsAre_map (xs.toList.map (·.2)) (by
      intro v hv
      obtain ⟨p, hp', rfl⟩ := List.mem_map.mp hv
      obtain ⟨x, t, u, rfl⟩ := hmem p hp'
      exact ⟨x, u, rfl⟩)
    rwa [List.map_map] at h1
  · have h1 := hl.map (fun p : Keyed => PyProof.Rows.strOf p.2)
    have e2 : (ks.zip vs).map (fun p => PyProof.Rows.strOf p.2) = ss := by
      have : (ks.zip vs).map (fun p => PyProof.Rows.strOf p.2) = ((ks.zip vs).map Prod.snd).map PyProof.Rows.strOf := by rw [List.map_map]; rfl
      rw [this, List.map_snd_zip (by rw [(paired_of_strsAre hk).length, (paired_of_strsAre hS).length]; exact Nat.le_refl _), hS.strs]
    rwa [e2] at h1
  · apply sortedS_of_pairwise
    rw [List.pairwise_iff_getElem]
    intro i j hi hj hij
    have hi' : i < xs.size := by simpa using hi
    have hj' : j < xs.size := by simpa using hj
    have h1 := hs i j (Nat.le_of_lt hij) hj'
    obtain ⟨x, t, u, ex⟩ := hmem xs[i] (by simp)
    obtain ⟨y, t', u', ey⟩ := hmem xs[j] (by simp)
    rw [KK_str hi' ex, KK_str hj' ey] at h1
    change decide (y.cps.toList < x.cps.toList) = false at h1
    simp only [List.getElem_map, Array.getElem_toList]
    rw [show PyProof.Rows.strOf xs[i].2 = x by rw [ex]; rfl, show PyProof.Rows.strOf xs[j].2 = y by rw [ey]; rfl, ltCps_eq]
    exact h1

section
variable {prog : Program} {w : World} {A : Around} {E : Value → Shared → Prop} {s : Shared} {vs : List Value} {ss : List Str} {a kS : Addr} {P : PySem.Fin → Shared → Prop}

/-- what stands while the list a is sorted -/
noncomputable def Kept (a : Addr) (s s' : Shared) : Prop := ∃ h t, s' = { s with heap := h, toks := t } ∧ ∀ b o, b ≠ a → s.heap.get? b = some o → h.get? b = some o

theorem sort_tail {keys : Array Value} {e e1 : Nat} {st : SortSt} {s0 : Shared} (k0 : Kept a s0 s) (nk : s.heap.get? kS = some (seqObj "list" keys e)) (na : s.heap.get? a = some (seqObj "list" #[] e1)) (hka : kS ≠ a) (hk0 : s0.heap.get? kS = none)
    (hk : StrsAre keys.toList ss) (hS : StrsAre vs ss) (h64 : vs.length < 64) (hp : (arrOf st).Perm (keys.zip vs.toArray)) (hs : SortedToK PyProof.Rows.strKind (arrOf st) (arrOf st).size) (hfl : failedOf st = none)
    (h : ∀ s' out ss', Kept a s0 s' → s'.heap.PlainList a out → StrsAre out.toList ss' → ss'.Perm ss → sortedS ss' = true → P (.done (.ret .none)) s') :
    wpAny (model prog w) A (ksk_tail a false e1 (.ref kS) st) P E s := by
  have hsz : keys.size = vs.length := by
    have h1 := (paired_of_strsAre hk).length
    have h2 := (paired_of_strsAre hS).length
    rw [Array.length_toList] at h1
    omega
  have hsz2 : (arrOf st).size = vs.length := by rw [hp.size_eq, Array.size_zip, hsz, List.size_toArray, Nat.min_self]
  have s1 := Heap.SameBut.update s.heap kS (Obj.mapSeq fun _ => (#[] : Array Value))
  have na1 : (s.heap.update kS (Obj.mapSeq fun _ => (#[] : Array Value))).get? a = some (seqObj "list" #[] e1) := (s1.2 a hka.symm).trans na
  have s2 := Heap.SameBut.update (s.heap.update kS (Obj.mapSeq fun _ => (#[] : Array Value))) a (Obj.mapSeq fun _ => (arrOf st).map (·.2))
  obtain ⟨c2, hc2⟩ : ∃ c2, ((s.heap.update kS (Obj.mapSeq fun _ => (#[] : Array Value))).update a (Obj.mapSeq fun _ => (arrOf st).map (·.2))).get? a = some (seqObj "list" ((arrOf st).map (·.2)) c2) :=
    ⟨_, get?_update_seq na1 fun _ => (arrOf st).map (·.2)⟩
  have hkeys : keys.toList.toArray = keys := by simp
  obtain ⟨ss', g1, g2, g3⟩ := keyed_out hk hS (by rw [hkeys]; exact hp) hs
  obtain ⟨h0, t0, rfl, hk0'⟩ := k0
  unfold ksk_tail
  dsimp only
  refine wpAny_bind (listUpdate_at nk rfl ?_ (by rw [hsz, sizeLine_eq]; omega) (Nat.zero_le _))
  refine wpAny_bind (wpAny_letGo ?_)
  refine wpAny_bind (seqEpoch_at na1 rfl ?_)
  simp only [Bool.false_eq_true, if_false]
  refine wpAny_bind (listUpdate_at na1 rfl ?_ (Nat.zero_le _) (by rw [Array.size_map, hsz2, sizeLine_eq]; omega))
  rw [hfl]
  simp only [bne_self_eq_false, Bool.false_eq_true, if_false]
  refine wpAny_pure (h _ _ ss' ⟨_, t0, rfl, fun b o hb q => ?_⟩ ⟨_, hc2⟩ g1 g2 g3)
  have hbk : b ≠ kS := ne_of_none hk0 q
  exact (s2.2 b hb).trans ((s1.2 b hbk).trans (hk0' b o hb q))

theorem sort_end {keys : Array Value} {e e1 : Nat} {s0 : Shared} (k0 : Kept a s0 s) (nk : s.heap.get? kS = some (seqObj "list" keys e)) (na : s.heap.get? a = some (seqObj "list" #[] e1)) (hka : kS ≠ a) (hk0 : s0.heap.get? kS = none)
    (hk : StrsAre keys.toList ss) (hS : StrsAre vs ss) (h64 : vs.length < 64) (h2 : 2 ≤ vs.length)
    (h : ∀ s' out ss', Kept a s0 s' → s'.heap.PlainList a out → StrsAre out.toList ss' → ss'.Perm ss → sortedS ss' = true → P (.done (.ret .none)) s') :
    wpAny (model prog w) A (ksk_end a false vs.toArray e1 (.ref kS) keys) P E s := by
  have hsz : keys.size = vs.length := by
    have h1 := (paired_of_strsAre hk).length
    have h2 := (paired_of_strsAre hS).length
    rw [Array.length_toList] at h1
    omega
  have hzs : (keys.zip vs.toArray).size = vs.length := by rw [Array.size_zip, hsz, List.size_toArray, Nat.min_self]
  have hkind : keyKind' keys = pure oneType' := by
    obtain ⟨v₁, v₂, rest, e⟩ : ∃ v₁ v₂ rest, keys.toList = v₁ :: v₂ :: rest := by
      have hl : 2 ≤ keys.toList.length := by rw [Array.length_toList]; omega
      match q : keys.toList, hl with
      | v₁ :: v₂ :: rest, _ => exact ⟨v₁, v₂, rest, rfl⟩
    have ek : keys = (v₁ :: v₂ :: rest).toArray := by rw [← e, Array.toArray_toList]
    rw [e] at hk
    rw [ek]
    exact keyKind_strs hk
  have hko : KeysOf PyProof.Rows.strKind (keys.zip vs.toArray) := by
    intro p hp
    have : (keys.zip vs.toArray).toList = keys.toList.zip vs := by simp
    rw [this] at hp
    obtain ⟨x, y⟩ := p
    obtain ⟨z, t, e⟩ := hk.all _ (List.of_mem_zip hp).1
    exact ⟨z.cps.toList, by rw [e]⟩
  unfold ksk_end
  dsimp only
  simp only [Bool.false_eq_true, if_false]
  have hns : ¬ vs.toArray.size < 2 := by rw [List.size_toArray]; omega
  rw [if_neg hns, if_neg hns, hkind]
  refine wpAny_bind (wpAny_pure ?_)
  refine wpAny_bind (wpAny_mono (wpS_sortRunsK (κ := PyProof.Rows.strKind) (a₀ := keys.zip vs.toArray) (st := SortSt.mk' oneType' (keys.zip vs.toArray) #[] 7 none)
    (Q := fun _ st' => (arrOf st').Perm (keys.zip vs.toArray) ∧ failedOf st' = none ∧ SortedToK PyProof.Rows.strKind (arrOf st') (keys.zip vs.toArray).size)
    strKind_oneLt hko ⟨Array.Perm.refl _, rfl, rfl, rfl⟩ (by rw [hzs]; omega) (by rw [hzs]; exact h64) fun st' a1 a2 a3 => ⟨a1, a2, a3⟩) ?_ fun _ _ e => e)
  rintro ⟨⟨⟩, st'⟩ s' ⟨rfl, hp, hf, hs⟩
  dsimp only
  exact sort_tail k0 nk na hka hk0 hk hS h64 hp (by rw [hp.size_eq]; exact hs) hf h
end
end Mine
namespace Mine

theorem strsAre_getV : ∀ {vs : List Value} {ss : List Str} {j : Nat} {v : Value}, StrsAre vs ss → vs[j]? = some v → ∃ x t, v = .str x t ∧ ss[j]? = some x
  | _, _, _, _, .nil, h => by simp at h
  | _, _, 0, v, .cons x t r, h => by
    simp at h; exact ⟨x, t, h.symm, rfl⟩
  | _, _, j + 1, v, .cons x t r, h => by
    simp at h
    obtain ⟨y, u, e1, e2⟩ := strsAre_getV r h
    exact ⟨y, u, e1, by simpa using e2⟩

section
variable {prog : Program} {w : World} {A : Around} {E : Value → Shared → Prop} {s : Shared} {vs : List Value} {ss : List Str} {a kS : Addr} {P : PySem.Fin → Shared → Prop} {f : Value} {b0 : Heap}

theorem sort_rest {e1 : Nat} {s0 : Shared} (k0 : Kept a s0 s) (nk : s.heap.get? kS = some (seqObj "list" #[] 0)) (na : s.heap.get? a = some (seqObj "list" #[] e1)) (hka : kS ≠ a) (hk0 : s0.heap.get? kS = none)
    (hS : StrsAre vs ss) (h64 : vs.length < 64) (h2 : 2 ≤ vs.length) (hb : Le b0 s0.heap) (hba : b0.get? a = none)
    (turn : ∀ x t s1, Le b0 s1.heap → wpAny (model prog w) A (call f [.str x t]) (fun v s2 => Keeps s1 s2 ∧ ∃ t', v = .str x t') (fun _ _ => False) s1)
    (h : ∀ s' out ss', Kept a s0 s' → s'.heap.PlainList a out → StrsAre out.toList ss' → ss'.Perm ss → sortedS ss' = true → P (.done (.ret .none)) s') :
    wpAny (model prog w) A (ksk_rest a f false vs.toArray e1 (.ref kS)) P E s := by
  have hlenS := (paired_of_strsAre hS).length
  unfold ksk_rest
  refine wpAny_bind (wpAny_rule ?_)
  rw [List.forIn_toArray]
  refine wpAny_bind (ksk_fold (fun i s' => Kept a s0 s' ∧ ∃ kA e, s'.heap.get? kS = some (seqObj "list" kA e) ∧ s'.heap.get? a = some (seqObj "list" #[] e1) ∧ StrsAre kA.toList (ss.take i)) vs 0 s
    ⟨k0, #[], 0, nk, na, by simpa using StrsAre.nil⟩ ?step ?done)
  case step =>
    rintro j x s' hx ⟨k, kA, e, nk', na', hk⟩
    simp only [Nat.zero_add] at hk ⊢
    have hj : j < vs.length := (List.getElem?_eq_some_iff.mp hx).1
    obtain ⟨y, t, rfl, hy⟩ := strsAre_getV hS hx
    have hz : kA.size ≤ vs.length := by
      have h1 := (paired_of_strsAre hk).length
      rw [Array.length_toList, List.length_take] at h1
      omega
    have hle : Le b0 s'.heap := by
      obtain ⟨h0, t0, rfl, hh⟩ := k
      intro b o q
      refine hh b o ?_ (hb b o q)
      rintro rfl
      rw [hba] at q; cases q
    refine wpAny_bind (wpAny_attempt (wpAny_mono (turn y t s' hle) (fun v s'' he => ?_) fun _ _ hF => hF.elim))
    obtain ⟨kk, t2, rfl⟩ := he
    dsimp only
    have kle := keeps_le kk
    have nk2 := kle _ _ nk'
    have na2 := kle _ _ na'
    have s1 := Heap.SameBut.update s''.heap kS (Obj.mapSeq (·.push (Value.str y t2)))
    obtain ⟨c2, hc2⟩ : ∃ c2, (s''.heap.update kS (Obj.mapSeq (·.push (Value.str y t2)))).get? kS = some (seqObj "list" (kA.push (Value.str y t2)) c2) := ⟨_, get?_update_seq nk2 (·.push (Value.str y t2))⟩
    have ek : ss.take (j + 1) = ss.take j ++ [y] := by rw [List.take_add_one, hy]; simp
    have ea : (kA.push (Value.str y t2)).toList = kA.toList ++ [Value.str y t2] := by simp
    refine wpAny_bind (listUpdate_at nk2 rfl ?_ (by rw [sizeLine_eq]; omega) (Nat.le_trans (Nat.le_of_eq (Array.size_push ..)) (by rw [sizeLine_eq]; omega)))
    refine wpAny_pure ⟨rfl, ?_, kA.push (Value.str y t2), c2, hc2, (s1.2 a hka.symm).trans na2, by rw [ea, ek]; exact strs_snoc hk⟩
    obtain ⟨h0, t0, rfl, hh⟩ := k
    obtain ⟨h1, t1, rfl, _⟩ := kk
    refine ⟨_, t1, rfl, fun b o hb q => ?_⟩
    have hbk : b ≠ kS := ne_of_none hk0 q
    exact (s1.2 b hbk).trans (kle _ _ (hh b o hb q))
  case done =>
    rintro s' ⟨k, kA, e, nk', na', hk⟩
    have hk' : StrsAre kA.toList ss := by
      have e3 : ss.take (0 + vs.length) = ss := List.take_of_length_le (by omega)
      rw [e3] at hk
      exact hk
    refine wpAny_bind (listItems_at nk' rfl ?_)
    exact sort_end k nk' na' hka hk0 hk' hS h64 h2 h

theorem sort_tree {n : Nat} (ho : s.heap.get? a = some (seqObj "list" vs.toArray n)) (hS : StrsAre vs ss) (h64 : vs.length < 64) (h2 : 2 ≤ vs.length) (hb : Le b0 s.heap) (hba : b0.get? a = none)
    (turn : ∀ x t s1, Le b0 s1.heap → wpAny (model prog w) A (call f [.str x t]) (fun v s2 => Keeps s1 s2 ∧ ∃ t', v = .str x t') (fun _ _ => False) s1)
    (h : ∀ s' out ss', Kept a s s' → s'.heap.PlainList a out → StrsAre out.toList ss' → ss'.Perm ss → sortedS ss' = true → P (.done (.ret .none)) s') :
    wpAny (model prog w) A (ksk_tree a f false) P E s := by
  have ha : a < s.heap.objs.size := Heap.lt_size ho
  have s1 := Heap.SameBut.update s.heap a (Obj.mapSeq fun _ => (#[] : Array Value))
  obtain ⟨e1, ho1⟩ : ∃ e1, (s.heap.update a (Obj.mapSeq fun _ => (#[] : Array Value))).get? a = some (seqObj "list" #[] e1) := ⟨_, get?_update_seq ho fun _ => #[]⟩
  have hkS : ((s.heap.update a (Obj.mapSeq fun _ => (#[] : Array Value))).push (seqObj "tuple" vs.toArray 0)).objs.size = s.heap.objs.size + 1 := by rw [size_push', Heap.size_update]
  unfold ksk_tree
  refine wpAny_bind (listItems_at ho rfl ?_)
  refine wpAny_bind (listUpdate_at ho rfl ?_ (by rw [List.size_toArray, sizeLine_eq]; omega) (Nat.zero_le _))
  refine wpAny_bind (seqEpoch_at ho1 rfl ?_)
  refine wpAny_bind (wpAny_newTuple ?_ (by show vs.length ≤ _; rw [sizeLine_eq]; omega))
  refine wpAny_bind (wpAny_newList ?_ (Nat.zero_le _))
  refine wpAny_holding ?_
  refine sort_rest (s0 := s) (kS := ((s.heap.update a (Obj.mapSeq fun _ => (#[] : Array Value))).push (seqObj "tuple" vs.toArray 0)).objs.size)
    ⟨_, s.toks, rfl, fun b o hb q => Heap.get?_push_of_some _ (Heap.get?_push_of_some _ ((s1.2 b hb).trans q))⟩ (Heap.get?_push_size _ rfl) (Heap.get?_push_of_some _ (Heap.get?_push_of_some _ ho1)) (by rw [hkS]; exact Nat.ne_of_gt (Nat.lt_succ_of_lt ha)) ?_ hS h64 h2 hb hba turn h
  rw [hkS]
  exact none_size1 _

theorem sorted_keyed {l q : Addr} (hl : s.heap.IsList l vs.toArray) (hS : StrsAre vs ss) (h64 : vs.length < 64) (h2 : 2 ≤ vs.length) (hb : Le b0 s.heap)
    (turn : ∀ x t s1, Le b0 s1.heap → wpAny (model prog w) A.in1.in1 (call (.ref q) [.str x t]) (fun v s2 => Keeps s1 s2 ∧ ∃ t', v = .str x t') (fun _ _ => False) s1) {Q : Value → Shared → Prop}
    (h : ∀ s' D out ss', Keeps s s' → s.heap.get? D = none → s'.heap.PlainList D out → StrsAre out.toList ss' → ss'.Perm ss → sortedS ss' = true → Q (.ref D) s') :
    wpAny (model prog w) A (call (.builtin "sorted") [.ref l] [(Str.ofString "key", .ref q)]) Q E s := by
  refine call_function_entry_kw kind_sorted plain_sorted entry_sorted (ksk_s1 _ _) ?_
  unfold Builtin.«sorted»
  refine wpAny_bind (m := checkCount "sorted" 1 1 _) (wpAny_pure ?_)
  refine wpAny_bind (collect_list hl ?_ (by rw [sizeLine_eq]; omega))
  refine wpAny_bind (wpAny_newList ?_ (by rw [sizeLine_eq]; omega))
  have hsz : ((s.heap.push (seqObj "list" #[] 0)).update s.heap.objs.size (Obj.mapSeq (· ++ vs.toArray))).objs.size = s.heap.objs.size + 1 := by
    rw [Heap.size_update, size_push']
  have hoL : (((s.heap.push (seqObj "list" #[] 0)).update s.heap.objs.size (Obj.mapSeq (· ++ vs.toArray))).push (seqObj "list" vs.toArray 0)).get? (s.heap.objs.size + 1) = some (seqObj "list" vs.toArray 0) := by
    rw [← hsz]; exact Heap.get?_push_size _ rfl
  have keep : ∀ b o, s.heap.get? b = some o → (((s.heap.push (seqObj "list" #[] 0)).update s.heap.objs.size (Obj.mapSeq (· ++ vs.toArray))).push (seqObj "list" vs.toArray 0)).get? b = some o := fun b o q => by
    have hlt : b < s.heap.objs.size := Heap.lt_size q
    rw [Heap.get?_push_ne _ _ _ (by rw [hsz]; exact Nat.ne_of_lt (Nat.lt_succ_of_lt hlt)), Heap.get?_update_ne _ _ _ _ (Nat.ne_of_lt hlt), Heap.get?_push_ne _ _ _ (Nat.ne_of_lt hlt)]
    exact q
  show wpAny _ _ _ _ _ { s with heap := ((s.heap.push (seqObj "list" #[] 0)).update s.heap.objs.size (Obj.mapSeq (· ++ vs.toArray))).push (seqObj "list" vs.toArray 0) }
  rw [hsz]
  have hnone : s.heap.get? (s.heap.objs.size + 1) = none := none_size1 _
  refine wpAny_bind (wpAny_holding (wpAny_call_entry_kw slot_list_sort ⟨_, hoL, rfl⟩ entry_list_sort ?body (ksk_l1 _ _)))
  show wpAny (model prog w) A.in1.in1 (Builtin.«list.sort» ⟨[.ref (s.heap.objs.size + 1)], [(Str.ofString "key", .ref q)]⟩) _ _ _
  rw [ksk_t1]
  refine sort_tree (s := { s with heap := ((s.heap.push (seqObj "list" #[] 0)).update s.heap.objs.size (Obj.mapSeq (· ++ vs.toArray))).push (seqObj "list" vs.toArray 0) }) hoL hS h64 h2 (hb.trans keep) (none_of_le hb hnone) turn fun s' out ss' k hpl g1 g2 g3 => ⟨_, rfl, ?_⟩
  refine wpAny_pure ⟨_, rfl, h s' _ out ss' ?_ hnone hpl g1 g2 g3⟩
  obtain ⟨h0, t0, rfl, hh⟩ := k
  refine ⟨h0, t0, rfl, fun b o q => hh b o ?_ (keep b o q)⟩
  rintro rfl
  rw [hnone] at q; cases q
end
end Mine
namespace Mine

section
variable {prog : Program} {w : World} {T : TopAt} {n : Nat} {Cr Cp : Addr} {F : Frm} {ρ : List (Nm × D)}

theorem Room.in1 {A : Around} {n : Nat} (r : Room (n + 1) A) : Room n A.in1.in1 := by
  obtain ⟨a, b, c⟩ := r
  refine ⟨a, ?_, ?_⟩
  · show A.depth + 20 * n < _; omega
  · show A.units + 1 + 1 + 20 * n < _; omega

theorem Ev.sortKey {e : Expr} {ss r : List Str} {q : Addr} {cd : Value} {p1 p2 p3 pos : Pos} (O : ROk (n + 2) T F) (hs : T.gl.lookup (Str.ofString "sorted") = some (Value.builtin "sorted")) (hq : T.gl.lookup (Str.ofString "_strxfrm") = some (.ref q)) (f : FnT T 1 "_strxfrm" q cd)
    (hks : F.env.kindOf (Str.ofString "sorted") = some .globalImplicit) (hkq : F.env.kindOf (Str.ofString "_strxfrm") = some .globalImplicit) (he : Ev prog w F ρ e (.strs ss)) (h64 : ss.length < 64) (h2 : 2 ≤ ss.length) (hr : ∀ ms : List Str, ms.Perm ss → sortedS ms = true → ms = r)
    (hse : ∀ rest, starEach (e :: rest) F.env = (false, eval e F.env) :: starEach rest F.env := by intro _; rfl) :
    EvN prog w F ρ (.Call (.Name (Str.ofString "sorted") p1) [e] [⟨some (Str.ofString "key"), .Name (Str.ofString "_strxfrm") p2, p3⟩] pos) (.strs r) := by
  refine ⟨fun s I => ?_⟩
  have hle : Le T.h0 s.heap := O.le0.trans I.1
  refine wpAny_Call_ofName (globRead O hle hs hks ?_)
  have p : EvAll prog w F ρ [e] [.strs ss] := .cons he hse .nil
  refine callWith_of (P := fun h => Le T.h0 h) (by rw [p.plain]; rfl) (Kpr.builtin (prog := prog) (w := w)) ?_
  refine evalArgs_kw2 rfl (wpAny_mono (p.eval (pos := pos) I) ?_ fun _ _ x => x.elim) (hse [])
  rintro vs s1 ⟨k1, r1⟩
  obtain ⟨_, rfl, l, us, rfl, _, hl, hS⟩ := pair1 r1
  have hle1 := hle.trans (keeps_le k1)
  refine kwAll_cons (globRead O hle1 hq hkq (kwAll_nil ⟨hle1, ?_⟩))
  have hlen := (paired_of_strsAre hS).length
  show wpAny (model prog w) F.A (PySem.call (.builtin "sorted") [.ref l] [(Str.ofString "key", .ref q)]) _ _ _
  refine sorted_keyed (b0 := T.h0) hl.isList hS (by omega) (by omega) hle1 (fun x t s2 hb => ?_) fun s' D out ss' k hD hpl g1 g2 g3 => ?_
  · have := Fun.strxfrm (prog := prog) (w := w) (n := n) f (x := x) F.A.in1.in1 s2 [.str x t] O.room.in1 hb (.cons ⟨t, rfl⟩ .nil)
    exact wpAny_mono this (fun v s3 h => h) fun _ _ x => x
  · refine ⟨keeps_trans k1 k, D, out.toList, rfl, none_of_le (keeps_le k1) hD, by simpa using hpl, ?_⟩
    rw [← hr ss' g2 g3]
    exact g1
end
end Mine
namespace Mine

/-! sorted texts -/
noncomputable def leS (a b : Str) : Bool := !PySem.Spec.ltCps b.cps.toList a.cps.toList
noncomputable def srt (l : List Str) : List Str := l.mergeSort leS
theorem leS_iff {a b : Str} : leS a b = true ↔ PyProof.Rows.strKind.kle a.cps.toList b.cps.toList := by
  unfold leS KeyOrd.kle
  rw [ltCps_eq]
  simp
theorem leS_trans {a b c : Str} (h1 : leS a b = true) (h2 : leS b c = true) : leS a c = true := by
  rw [leS_iff] at *
  exact KeyOrd.kle_trans h1 h2
theorem str_ext {a b : Str} (h : a.cps.toList = b.cps.toList) : a = b := by
  cases a; cases b
  simp at h
  rw [h]
theorem leS_antisymm {a b : Str} (h1 : leS a b = true) (h2 : leS b a = true) : a = b := by
  rw [leS_iff] at *
  exact str_ext (KeyOrd.kle_antisymm h1 h2)
theorem leS_total (a b : Str) : (leS a b || leS b a) = true := by
  rw [Bool.or_eq_true, leS_iff, leS_iff]
  by_cases h : PyProof.Rows.strKind.klt a.cps.toList b.cps.toList
  · exact .inl (KeyOrd.kle_of_klt h)
  · exact .inr (KeyOrd.kle_of_not_klt h)
theorem rising_pairwise : ∀ (p : Str) (l : List Str), risingS p l = true → (p :: l).Pairwise (fun a b => leS a b = true)
  | p, [], _ => List.pairwise_singleton _ _
  | p, x :: r, h => by
    have h : (!PySem.Spec.ltCps x.cps.toList p.cps.toList && risingS x r) = true := h
    rw [Bool.and_eq_true] at h
    have ih := rising_pairwise x r h.2
    have hpx : leS p x = true := h.1
    refine List.pairwise_cons.mpr ⟨fun y hy => ?_, ih⟩
    rcases List.mem_cons.mp hy with rfl | hy
    · exact hpx
    · exact leS_trans hpx (List.rel_of_pairwise_cons ih hy)
theorem sorted_pairwise : ∀ (l : List Str), sortedS l = true → l.Pairwise (fun a b => leS a b = true)
  | [], _ => .nil
  | x :: r, h => rising_pairwise x r h
theorem srt_pairwise (l : List Str) : (srt l).Pairwise (fun a b => leS a b = true) := List.pairwise_mergeSort (le := leS) (fun a b c h1 h2 => leS_trans h1 h2) leS_total l
theorem srt_perm (l : List Str) : (srt l).Perm l := List.mergeSort_perm l leS
theorem srt_of {l ms : List Str} (hp : ms.Perm l) (h : ms.Pairwise (fun a b => leS a b = true)) : ms = srt l :=
  List.Perm.eq_of_pairwise (fun a b _ _ h1 h2 => leS_antisymm h1 h2) h (srt_pairwise l) (hp.trans (srt_perm l).symm)
theorem srt_unique {l ms : List Str} (hp : ms.Perm l) (h : sortedS ms = true) : ms = srt l := srt_of hp (sorted_pairwise ms h)

theorem pad_lt {d1 d2 b1 b2 : Nat} {t1 t2 : List Nat} {c : Nat} (hd : d2 < d1) (h2 : t2.head? = some c) (hc : 32 < c) : leS (pad d1 t1 b1) (pad d2 t2 b2) = true := by
  rw [leS_iff]
  refine KeyOrd.kle_of_klt ?_
  show decide (_ < _) = true
  refine decide_eq_true ?_
  show List.replicate d1 32 ++ (t1 ++ List.replicate b1 32) < List.replicate d2 32 ++ (t2 ++ List.replicate b2 32)
  obtain ⟨k, rfl⟩ : ∃ k, d1 = d2 + (k + 1) := ⟨d1 - d2 - 1, by omega⟩
  obtain ⟨r, rfl⟩ : ∃ r, t2 = c :: r := by
    cases t2 with
    | nil => cases h2
    | cons x r => cases h2; exact ⟨r, rfl⟩
  induction d2 with
  | zero =>
    rw [Nat.zero_add, List.replicate_succ]
    exact List.Lex.rel hc
  | succ d ih =>
    have e : d + 1 + (k + 1) = (d + (k + 1)) + 1 := by omega
    rw [e, List.replicate_succ, List.replicate_succ]
    exact List.Lex.cons (ih (by omega))
end Mine
namespace Mine

/-! slices of lists -/
theorem pick_seg {α : Type} (l : List α) (lo k : Nat) (h : lo + k ≤ l.length) : ((List.range k).map (lo + ·)).filterMap (fun x => l[x]?) = (l.drop lo).take k := by
  induction k with
  | zero => simp
  | succ k ih =>
    rw [List.range_succ, List.map_append, List.filterMap_append, ih (by omega), List.take_add_one]
    congr 1
    simp [show lo + k < l.length by omega]
theorem sliceRange_up (lo hi : Nat) (h : lo ≤ hi) : sliceRange (lo : Int) (hi : Int) 1 = (List.range (hi - lo)).map (lo + ·) := by
  unfold sliceRange
  have e5 : (if (1 : Int) > 0 then if (lo : Int) < hi then ((hi : Int) - lo + 1 - 1) / 1 else 0 else if (lo : Int) > hi then ((lo : Int) - (hi : Int) - 1 - 1) / -1 else 0).toNat = hi - lo := by
    rw [if_pos (by decide)]
    by_cases q : (lo : Int) < hi
    · rw [if_pos q, Int.ediv_one]; omega
    · rw [if_neg q]; omega
  simp only [e5]
  apply List.map_congr_left
  intro k _
  omega
theorem pickL_mid {α : Type} (l : List α) (lo hi : Nat) (h1 : lo ≤ hi) (h2 : hi ≤ l.length) : pickL l (some (lo : Int)) (some (hi : Int)) none = (l.drop lo).take (hi - lo) := by
  unfold pickL sliceBounds
  have a1 : ¬ ((lo : Int) < 0) := by omega
  have a2 : ¬ ((hi : Int) < 0) := by omega
  have a3 : max 0 (min (lo : Int) (l.length : Int)) = lo := by omega
  have a4 : max 0 (min (hi : Int) (l.length : Int)) = hi := by omega
  simp only [Option.getD_none, show (1 : Int) > 0 from by decide, if_true, a1, a2, if_false, a3, a4]
  rw [sliceRange_up lo hi h1, pick_seg l lo (hi - lo) (by omega)]
theorem pickL_drop {α : Type} (l : List α) (lo : Nat) (h1 : lo ≤ l.length) : pickL l (some (lo : Int)) none none = l.drop lo := by
  unfold pickL sliceBounds
  have a1 : ¬ ((lo : Int) < 0) := by omega
  have a3 : max 0 (min (lo : Int) (l.length : Int)) = lo := by omega
  simp only [Option.getD_none, show (1 : Int) > 0 from by decide, if_true, a1, if_false, a3]
  rw [sliceRange_up lo l.length h1, pick_seg l lo (l.length - lo) (by omega)]
  rw [List.take_of_length_le (by simp)]
theorem pickL_rev {α : Type} (l : List α) : pickL l none none (some (-1)) = l.reverse := by
  unfold pickL sliceBounds
  simp only [Option.getD_some, show ¬ ((-1 : Int) > 0) from by decide, if_false]
  have e : sliceRange ((l.length : Int) - 1) (-1) (-1) = (List.range l.length).map fun k => l.length - 1 - k := by
    unfold sliceRange
    have e5 : (if (-1 : Int) > 0 then if (l.length : Int) - 1 < -1 then ((-1 : Int) - ((l.length : Int) - 1) + -1 - 1) / -1 else 0 else if (l.length : Int) - 1 > -1 then ((l.length : Int) - 1 - -1 - -1 - 1) / - -1 else 0).toNat = l.length := by
      rw [if_neg (by decide)]
      by_cases q : (l.length : Int) - 1 > -1
      · rw [if_pos q, show (- -1 : Int) = 1 from rfl, Int.ediv_one]; omega
      · rw [if_neg q]; omega
    simp only [e5]
    apply List.map_congr_left
    intro k hk
    rw [List.mem_range] at hk
    omega
  rw [e]
  apply List.ext_getElem?
  intro i
  by_cases hi : i < l.length
  · have : ∀ n, n ≤ l.length → ((List.range n).map fun k => l.length - 1 - k).filterMap (fun x => l[x]?) = l.reverse.take n := by
      intro n
      induction n with
      | zero => intro _; simp
      | succ n ih =>
        intro hn
        rw [List.range_succ, List.map_append, List.filterMap_append, ih (by omega), List.take_add_one]
        congr 1
        simp [show n < l.length by omega, show l.length - 1 - n < l.length by omega]
    rw [this l.length (Nat.le_refl _), List.take_of_length_le (by simp)]
  · have : ∀ n, n ≤ l.length → ((List.range n).map fun k => l.length - 1 - k).filterMap (fun x => l[x]?) = l.reverse.take n := by
      intro n
      induction n with
      | zero => intro _; simp
      | succ n ih =>
        intro hn
        rw [List.range_succ, List.map_append, List.filterMap_append, ih (by omega), List.take_add_one]
        congr 1
        simp [show n < l.length by omega, show l.length - 1 - n < l.length by omega]
    rw [this l.length (Nat.le_refl _), List.take_of_length_le (by simp)]

noncomputable def lineA (cs : List Int) (a : List Nat) (k : Nat) : Str := pad (a.getD k 0) (txtL (cs.getD k 0)) (bN (cs.getD k 0))
noncomputable def numA (cs : List Int) (k : Nat) : Int := cN (cs.getD k 0)
noncomputable def placesL (h : Nat) : List Nat := (List.range h).map (fun i => 3 + h - i) ++ (List.range h).map (fun i => 2 - i)
structure EndOk (cs : List Int) (a ord : List Nat) : Prop where
  len : a.length = 7
  perm : ord.Perm (mv2 cs)
  places : ord.map (fun k => a.getD k 0) = placesL (hN cs)
  fall : (ord.map (numA cs)).Pairwise (fun x y => y ≤ x)
  rest : ∀ k, k < 7 → k ∉ mv2 cs → a.getD k 0 = 3
  low : ∀ k, a.getD k 0 ≤ 6

noncomputable def isStill (cs : List Int) (k : Int) : Bool := !((castL (mv2 cs)).any fun x => x == k)
noncomputable def stillS (cs : List Int) : List Str := ((rng 7).filter (isStill cs)).map fun k => line0 (cs.getD k.toNat 0)
noncomputable def rowS (cs : List Int) (a ord : List Nat) : List Str := (ord.take (hN cs)).map (lineA cs a) ++ (srt (stillS cs) ++ (ord.drop (hN cs)).map (lineA cs a))

noncomputable def kMapS {α : Type} (f : α → Str) : Kd α := ⟨fun c => DS (f c), fun cs => .strs (cs.map f),
  fun _ _ a vs _ hp hl p => ⟨a, vs, rfl, hp, hl, strsAre_of_paired (paired_mapR (R := fun v x => ∃ t, v = Value.str x t) p)⟩, fun _ _ _ _ ⟨a, vs, e, hp, hl, i⟩ => ⟨a, vs, e, hp, hl, paired_unmapR (R := fun v x => ∃ t, v = Value.str x t) (paired_of_strsAre i)⟩⟩
end Mine
namespace Mine

theorem txt_head (c : Int) : ∃ x, (txtL c).head? = some x ∧ 32 < x := by
  have h : ∃ x r, (codeOf (cF c)).cps.toList = x :: r ∧ 32 < x := by
    unfold codeOf
    split
    · exact ⟨49, [50, 57], by decide +kernel, by decide⟩
    · split
      · exact ⟨50, [51, 57], by decide +kernel, by decide⟩
      · split
        · exact ⟨50, [50, 56], by decide +kernel, by decide⟩
        · exact ⟨50, [50, 57], by decide +kernel, by decide⟩
  obtain ⟨x, r, e, hx⟩ := h
  have app : ∀ a b : Str, (a ++ b).cps.toList = a.cps.toList ++ b.cps.toList := fun a b => by
    show (a.cps ++ b.cps).toList = _
    simp
  refine ⟨x, ?_, hx⟩
  unfold txtL textC textOf
  split <;> (simp only [app, e]; rfl)

theorem line_lt {cs : List Int} {a : List Nat} {j k : Nat} (h : a.getD k 0 < a.getD j 0) : leS (lineA cs a j) (lineA cs a k) = true := by
  obtain ⟨x, h1, h2⟩ := txt_head (cs.getD k 0)
  exact pad_lt h h1 h2

noncomputable def stillN (cs : List Int) : List Nat := (List.range 7).filter fun k => !((mv2 cs).contains k)
theorem still_eq {cs : List Int} {a ord : List Nat} (E : EndOk cs a ord) : stillS cs = (stillN cs).map (lineA cs a) := by
  unfold stillS stillN rng
  rw [List.filter_map, List.map_map]
  have e : (List.range (7 : Int).toNat).filter (isStill cs ∘ fun (i : Nat) => (i : Int)) = (List.range 7).filter fun k => !((mv2 cs).contains k) := by
    apply List.filter_congr
    intro k hk
    show (!((castL (mv2 cs)).any fun x => x == (k : Int))) = _
    congr 1
    unfold castL
    rw [List.any_map, List.contains_eq_any_beq]
    congr 1
    funext x
    show ((x : Int) == (k : Int)) = (k == x)
    by_cases q : x = k
    · subst q; simp
    · rw [show ((x : Int) == (k : Int)) = false by (rw [beq_eq_false_iff_ne]; omega), show (k == x) = false by simpa using fun e => q e.symm]
  rw [e]
  apply List.map_congr_left
  intro k hk
  rw [List.mem_filter, List.mem_range] at hk
  have hm : k ∉ mv2 cs := by simpa using hk.2
  show line0 (cs.getD (k : Int).toNat 0) = lineA cs a k
  unfold line0 lineA
  rw [Int.toNat_natCast, E.rest k hk.1 hm]

theorem mv2_perm (cs : List Int) : ((List.range 7).filter fun k => (mv2 cs).contains k).Perm (mv2 cs) := by
  rw [List.perm_ext_iff_of_nodup (List.nodup_range.filter _) (by unfold mv2 mvN; exact ((List.nodup_range).filter _).sublist (List.take_sublist _ _))]
  intro k
  rw [List.mem_filter, List.mem_range, List.contains_iff_mem]
  exact ⟨fun h => h.2, fun h => ⟨(mem_mv2 h).1, h⟩⟩

theorem row_perm' {cs : List Int} {a ord : List Nat} (E : EndOk cs a ord) : (rowS cs a ord).Perm (linesAt cs a) := by
  have e : linesAt cs a = (List.range 7).map (lineA cs a) := rfl
  rw [e]
  unfold rowS
  have h1 : ((ord.take (hN cs)).map (lineA cs a) ++ (srt (stillS cs) ++ (ord.drop (hN cs)).map (lineA cs a))).Perm ((ord.take (hN cs)).map (lineA cs a) ++ ((ord.drop (hN cs)).map (lineA cs a) ++ (stillN cs).map (lineA cs a))) := by
    refine List.Perm.append_left _ (List.perm_append_comm.trans (List.Perm.append_left _ ?_))
    rw [← still_eq E]
    exact srt_perm _
  refine h1.trans ?_
  rw [← List.append_assoc, ← List.map_append, List.take_append_drop, ← List.map_append]
  refine List.Perm.map _ ?_
  have h2 := List.filter_append_perm (fun k => (mv2 cs).contains k) (List.range 7)
  refine List.Perm.trans ?_ h2
  exact List.Perm.append_right _ (E.perm.trans (mv2_perm cs).symm)

theorem places_facts : ∀ h, h ≤ 3 → (placesL h).Pairwise (fun x y => y < x) ∧ (∀ y ∈ (placesL h).take h, 3 < y) ∧ (∀ y ∈ (placesL h).drop h, y < 3) := by decide

theorem row_pair' {cs : List Int} {a ord : List Nat} (E : EndOk cs a ord) : (rowS cs a ord).Pairwise (fun x y => leS x y = true) := by
  obtain ⟨p1, p2, p3⟩ := places_facts (hN cs) (hN_le cs)
  rw [← E.places] at p1 p2 p3
  rw [List.pairwise_map] at p1
  have hA : ∀ k ∈ ord.take (hN cs), 3 < a.getD k 0 := fun k hk => p2 _ (by rw [← List.map_take]; exact List.mem_map_of_mem hk)
  have hB : ∀ k ∈ ord.drop (hN cs), a.getD k 0 < 3 := fun k hk => p3 _ (by rw [← List.map_drop]; exact List.mem_map_of_mem hk)
  have hS : ∀ x ∈ srt (stillS cs), ∃ k, x = lineA cs a k ∧ a.getD k 0 = 3 := by
    intro x hx
    have hx := (srt_perm _).mem_iff.mp hx
    rw [still_eq E] at hx
    obtain ⟨k, hk, rfl⟩ := List.mem_map.mp hx
    unfold stillN at hk
    rw [List.mem_filter, List.mem_range] at hk
    exact ⟨k, rfl, E.rest k hk.1 (by simpa using hk.2)⟩
  have pw : ∀ l : List Nat, l.Pairwise (fun x y => a.getD y 0 < a.getD x 0) → (l.map (lineA cs a)).Pairwise (fun x y => leS x y = true) := fun l h => List.pairwise_map.mpr (h.imp fun h => line_lt h)
  unfold rowS
  refine List.pairwise_append.mpr ⟨pw _ (p1.sublist (List.take_sublist _ _)), List.pairwise_append.mpr ⟨srt_pairwise _, pw _ (p1.sublist (List.drop_sublist _ _)), ?_⟩, ?_⟩
  · intro x hx y hy
    obtain ⟨j, rfl, hj⟩ := hS x hx
    obtain ⟨k, hk, rfl⟩ := List.mem_map.mp hy
    exact line_lt (by have := hB k hk; omega)
  · intro x hx y hy
    obtain ⟨j, hj, rfl⟩ := List.mem_map.mp hx
    have := hA j hj
    rcases List.mem_append.mp hy with hy | hy
    · obtain ⟨k, rfl, hk⟩ := hS y hy
      exact line_lt (by omega)
    · obtain ⟨k, hk, rfl⟩ := List.mem_map.mp hy
      exact line_lt (by have := hB k hk; omega)
end Mine
namespace Mine

theorem EndOk.ordLen {cs : List Int} {a ord : List Nat} (E : EndOk cs a ord) : ord.length = 2 * hN cs := by rw [E.perm.length_eq, mv2_len]
theorem EndOk.mem {cs : List Int} {a ord : List Nat} (E : EndOk cs a ord) {k : Nat} (h : k ∈ ord) : k < 7 ∧ right (cs.getD k 0) = true := mem_mv2 (E.perm.mem_iff.mp h)
theorem still_len (cs : List Int) : (stillS cs).length ≤ 7 := by
  unfold stillS
  rw [List.length_map]
  have := List.length_filter_le (isStill cs) (rng 7)
  rwa [show (rng 7).length = 7 from rfl] at this
theorem lstrip_pad {d b : Nat} {t : List Nat} (C : Core t) : Txt.lstripChars (pad d t b) " " = pad 0 t b := lstrip_pad' C
theorem row_perm {cs : List Int} {a ord : List Nat} (E : EndOk cs a ord) : (rowS cs a ord).Perm (linesAt cs a) := row_perm' E
theorem row_pair {cs : List Int} {a ord : List Nat} (E : EndOk cs a ord) (H : ∀ c, CF c) : (rowS cs a ord).Pairwise (fun x y => leS x y = true) := row_pair' E

section
variable {prog : Program} {w : World} {T : TopAt} {n : Nat} {Cr Cp : Addr}

theorem strs_eqv {ss : List Str} : (!PyData.eqv (.list (ss.map PyData.str)) (.list (ss.map PyData.str))) = false := by
  have : PyData.eqvAll (ss.map PyData.str) (ss.map PyData.str) = true := by
    induction ss with
    | nil => rfl
    | cons x r ih => simp [PyData.eqvAll, PyData.eqv, ih]
  rw [PyData.eqv, this]; rfl

theorem lines_strip {cs : List Int} {a : List Nat} (hcs : cs.length = 7) (H : ∀ c, CF c) : (linesAt cs a).map (fun x => Txt.lstripChars x " ") = cs.map fun c => pad 0 (txtL c) (bN c) := by
  apply List.ext_getElem?
  intro i
  unfold linesAt
  rw [List.map_map]
  by_cases hi : i < 7
  · rw [List.getElem?_map, List.getElem?_map, List.getElem?_range hi, List.getElem?_eq_getElem (by omega)]
    simp only [Option.map_some, Function.comp]
    rw [lstrip_pad (H _).core]
    have e2 : cs.getD i 0 = cs[i]'(by omega) := by rw [List.getD_eq_getElem?_getD, List.getElem?_eq_getElem (by omega)]; rfl
    rw [e2]
  · rw [List.getElem?_eq_none (by simp; omega), List.getElem?_eq_none (by simp; omega)]

theorem law_6a (G : Top7 T Cr Cp) {A : Around} {nm : Str} {fa : Addr} {cd : Value} {h : Heap} {cs : List Int} {a ord : List Nat} {ch : Int} {post : Flow → Heap → Prop} (O : ROk (n + 9) T (LF A nm fa cd h)) (S : SOk (LF A nm fa cd h)) (H : ∀ c, CF c) (hcs : cs.length = 7) (E : EndOk cs a ord)
    (R : Blk prog w (LF A nm fa cd h) ((fB (stAt 17)).drop 12) (Inv (LF A nm fa cd h) ((.row_, .strs (rowS cs a ord)) :: stC cs a ch) []) post) :
    Blk prog w (LF A nm fa cd h) ((fB (stAt 17)).drop 10) (Inv (LF A nm fa cd h) (stC cs a ch) [.lines_]) post := by
  obtain ⟨q, cdq, lq, fq⟩ := G.strxfrm
  have ln := linesAt_len cs a
  have hok : (cs.map fun c => pad 0 (txtL c) (bN c)).all PyData.strOk = true := by
    rw [List.all_map, List.all_eq_true]
    intro c _
    exact small_ok (H c).small
  refine Blk.shrink (own' := []) ?_ (fun y hy => nomatch hy)
  refine Blk.skip (Ts.of (Ts.cmp (dl := .strs (cs.map fun c => pad 0 (txtL c) (bN c))) (dr := .strs (cs.map fun c => pad 0 (txtL c) (bN c)))
    (EvP.of (EvN.ev (EvN.comp (kd := kStr) (xs := linesAt cs a) (ρf := []) (g := fun x => Txt.lstripChars x " ") (CompOk.of rfl trivial trivial) (Src.list kStr O (Ev.name O .lines_ rfl)) (Tgt.name (x := .line_) rfl rfl) (by omega) ?_)) (congrArg D.strs (lines_strip hcs H)))
    (EvN.ev (EvN.comp (kd := kStr) (xs := cs) (ρf := []) (g := fun c => pad 0 (txtL c) (bN c)) (CompOk.of rfl trivial trivial) (Src.list (kMap rowOf) O (Ev.name O .drawn_ rfl)) (Tgt.tuple (names := [(.text_, _), (.behind_, _), (.number_, _), (.kind_, _)]) O 4 rfl (by decide) ?_ rfl rowOf fun _ => rfl) (by omega) ?_))
    (Cmp.neSs O hok hok (by omega))) strs_eqv) ?_
  · intro x hx C
    have hxl : x.length ≤ 1000000 := by
      unfold linesAt at hx
      obtain ⟨k, hk, rfl⟩ := List.mem_map.mp hx
      rw [pad_len]
      have h1 := txtL_len (cs.getD k 0)
      have h2 := bN_lt (cs.getD k 0)
      have h3 : a.getD k 0 ≤ 6 := E.low k
      omega
    exact Ev.at (Ev.meth O.cf (Ev.name O.cf .line_ rfl) (.one Ev.str .nil) PySem.F.plainAttrs_str PySem.F.slot_str_lstrip PySem.F.type_str_lstrip (isStr_rep · x) (Fun.lstrip hxl))
  · intro p hp; rcases List.mem_cons.mp hp with rfl | hp; rfl; rcases List.mem_cons.mp hp with rfl | hp; rfl; rcases List.mem_cons.mp hp with rfl | hp; rfl; rcases List.mem_cons.mp hp with rfl | hp; rfl; cases hp
  · intro x hx C
    have h1 := textC_len x
    have h2 := cB_rng x
    have e4 : (Txt.mul " " (cB x)).length ≤ 10 := by
      rw [← bN_cast, mul_blank _ (Nat.lt_trans (bN_lt x) (by decide)), mk_len]; have := bN_lt x; simp; omega
    have e5 : textC x ++ Txt.mul " " (cB x) = pad 0 (txtL x) (bN x) := by
      rw [← bN_cast, mul_blank _ (Nat.lt_trans (bN_lt x) (by decide)), ← mk_txtL, mk_app]; rfl
    exact Ev.at (EvP.of (Ev.cat (Ev.name O.cf .text_ rfl) (Ev.rep Ev.str (Ev.name O.cf .behind_ rfl) (by decide +kernel) (by omega) (by omega)) (by omega)) (congrArg DS e5))
  refine Blk.one (Stm.assign (x := .row_) O S (Ev.sortKey (n := n + 7) O G.sorted lq fq rfl rfl (Ev.name O .lines_ rfl) (by omega) (by omega) (fun ms hp hs => ?_)) (.inl rfl) List.not_mem_nil (.inl rfl) rfl) R
  exact (srt_unique hp hs).trans (srt_of (row_perm E) (row_pair E H)).symm

noncomputable def outerS (cs : List Int) (a ord : List Nat) : List Str := ord.map (lineA cs a)
theorem row_len {cs : List Int} {a ord : List Nat} (E : EndOk cs a ord) : (rowS cs a ord).length = 7 := by rw [(row_perm E).length_eq, linesAt_len]
theorem row_take {cs : List Int} {a ord : List Nat} (E : EndOk cs a ord) : (rowS cs a ord).take (hN cs) = (ord.take (hN cs)).map (lineA cs a) := by
  have := E.ordLen
  unfold rowS
  rw [List.take_append_of_le_length (by rw [List.length_map, List.length_take]; omega), List.take_of_length_le (by rw [List.length_map, List.length_take]; omega)]
theorem srt_still_len {cs : List Int} {a ord : List Nat} (E : EndOk cs a ord) : (srt (stillS cs)).length = 7 - 2 * hN cs := by
  have h1 := row_len E
  have h2 := E.ordLen
  have h3 := hN_le cs
  unfold rowS at h1
  rw [List.length_append, List.length_append, List.length_map, List.length_map, List.length_take, List.length_drop] at h1
  omega
theorem row_drop {cs : List Int} {a ord : List Nat} (E : EndOk cs a ord) : (rowS cs a ord).drop (7 - hN cs) = (ord.drop (hN cs)).map (lineA cs a) := by
  have h2 := E.ordLen
  have h3 := hN_le cs
  have h4 := srt_still_len E
  unfold rowS
  rw [← List.append_assoc]
  have e : 7 - hN cs = ((ord.take (hN cs)).map (lineA cs a) ++ srt (stillS cs)).length := by
    rw [List.length_append, List.length_map, List.length_take, h4]; omega
  rw [e, List.drop_left]
theorem row_mid {cs : List Int} {a ord : List Nat} (E : EndOk cs a ord) : ((rowS cs a ord).drop (hN cs)).take (7 - hN cs - hN cs) = srt (stillS cs) := by
  have h2 := E.ordLen
  have h3 := hN_le cs
  have h4 := srt_still_len E
  have e : hN cs = ((ord.take (hN cs)).map (lineA cs a)).length := by rw [List.length_map, List.length_take]; omega
  have e1 : (rowS cs a ord).drop (hN cs) = srt (stillS cs) ++ (ord.drop (hN cs)).map (lineA cs a) := by
    unfold rowS
    conv => lhs; arg 1; rw [e]
    rw [List.drop_left]
  have e2 : 7 - hN cs - hN cs = (srt (stillS cs)).length := by omega
  rw [e1, e2, List.take_left]
theorem outer_eq {cs : List Int} {a ord : List Nat} (E : EndOk cs a ord) : pickL (rowS cs a ord) none (some ((hN cs : Nat) : Int)) none ++ pickL (rowS cs a ord) (some (7 - ((hN cs : Nat) : Int))) none none = outerS cs a ord := by
  have h3 := hN_le cs
  have hl := row_len E
  have e : (7 - ((hN cs : Nat) : Int)) = ((7 - hN cs : Nat) : Int) := by omega
  rw [e, pickL_take _ _ (by omega), pickL_drop _ _ (by omega), row_take E, row_drop E]
  unfold outerS
  rw [← List.map_append, List.take_append_drop]

theorem law_6b (G : Top7 T Cr Cp) {A : Around} {nm : Str} {fa : Addr} {cd : Value} {h : Heap} {cs : List Int} {a ord : List Nat} {ch : Int} {post : Flow → Heap → Prop} (O : ROk (n + 9) T (LF A nm fa cd h)) (S : SOk (LF A nm fa cd h)) (H : ∀ c, CF c) (hcs : cs.length = 7) (E : EndOk cs a ord)
    (R : Blk prog w (LF A nm fa cd h) ((fB (stAt 17)).drop 15) (Inv (LF A nm fa cd h) ((.outer_, .strs (outerS cs a ord)) :: stC cs a ch) []) post) :
    Blk prog w (LF A nm fa cd h) ((fB (stAt 17)).drop 12) (Inv (LF A nm fa cd h) ((.row_, .strs (rowS cs a ord)) :: stC cs a ch) []) post := by
  have h3 := hN_le cs
  have hl := row_len E
  have hol := E.ordLen
  have hsl := still_len cs
  refine Blk.one (Stm.assign (x := .outer_) O S (EvP.of (Ev.joinS (EvN.ev (Ev.sliceS (Ev.name O .row_ rfl) .none (.some (Ev.name O .half_ rfl)) .none (by decide) (by omega))) (EvN.ev (Ev.sliceS (Ev.name O .row_ rfl) (.some (Ev.sub Ev.int (Ev.name O .half_ rfl))) .none .none (by decide) (by omega))) ?_) (congrArg D.strs (outer_eq E))) (.inl rfl) List.not_mem_nil (.inl rfl) rfl) ?_
  · have := congrArg List.length (outer_eq E)
    rw [List.length_append] at this
    unfold outerS at this
    rw [List.length_map] at this
    omega
  refine Blk.one (Stm.compIf (y := .still_) (kd := kStr) (xs := rng 7) (ρf := [(.drawn_, .tups (cs.map rowOf)), (.movers_, .ints (castL (mv2 cs)))]) (g := fun k => line0 (cs.getD k.toNat 0)) (p := isStill cs) O S (CompOk.of rfl ⟨rfl, rfl, trivial⟩ ⟨⟨rfl, rfl, rfl, _, rfl⟩, ⟨rfl, rfl, rfl, _, rfl⟩, trivial⟩) (Src.range O (Ev.glob O G.range rfl) Ev.int (by decide) (by decide)) (Tgt.name (x := .k_) rfl rfl) (Nat.le_of_ble_eq_true rfl) ?_ ?_ rfl List.not_mem_nil rfl) ?_
  · intro x hx C
    exact Ts.cmp (Ev.name O.cf .k_ rfl) (Ev.name O.cf .movers_ rfl) Cmp.notinI
  · intro x hx _ C
    have hx := mem_rng.mp hx
    obtain ⟨k, rfl⟩ := Int.eq_ofNat_of_zero_le hx.1
    have hk : k < 7 := by omega
    generalize hc : cs.getD k 0 = c
    have hget : cs[k]? = some c := by rw [← hc, List.getD_eq_getElem?_getD, List.getElem?_eq_getElem (by omega)]; rfl
    have hrow : (cs.map rowOf).getD (k : Int).toNat [] = rowOf c := by
      rw [List.getD_eq_getElem?_getD, List.getElem?_map, Int.toNat_natCast, hget]; rfl
    have h1 := textC_len c
    have h2 := cB_rng c
    have e3 : ("   " : Str).length = 3 := by decide +kernel
    have e4 : (Txt.mul " " (cB c)).length ≤ 10 := by
      rw [← bN_cast, mul_blank _ (Nat.lt_trans (bN_lt c) (by decide)), mk_len]; have := bN_lt c; simp; omega
    have er : ∀ {i : Nat} {x : At} {e : Expr} {pos : Pos} {C : Addr} {scope : Scope} {cl : List (Str × Addr)} {ρ : List (Nm × D)}, True := trivial
    refine Ev.at (EvP.of (Ev.cat (Ev.cat Ev.str (Ev.itemA (k := 0) (EvP.of (Ev.itemT (d := []) (Ev.name O.cf .drawn_ rfl) (Ev.name O.cf .k_ rfl) (by omega) (by rw [List.length_map]; omega) (by rw [List.length_map]; omega)) (congrArg D.tup hrow)) Ev.int rfl (by decide)) (by omega))
      (Ev.rep Ev.str (Ev.itemA (k := 1) (EvP.of (Ev.itemT (d := []) (Ev.name O.cf .drawn_ rfl) (Ev.name O.cf .k_ rfl) (by omega) (by rw [List.length_map]; omega) (by rw [List.length_map]; omega)) (congrArg D.tup hrow)) Ev.int rfl (by decide)) (by decide +kernel) (by omega) (by omega)) (by simp only [str_app_len]; omega)) ?_)
    have := line0_eq c
    rw [Int.toNat_natCast, hc]
    exact congrArg DS this
  refine Blk.shrink (own' := []) ?_ (fun y hy => nomatch hy)
  have hst : ((rng 7).filter (isStill cs)).map (fun k => line0 (cs.getD k.toNat 0)) = stillS cs := rfl
  have hmid : pickL (rowS cs a ord) (some ((hN cs : Nat) : Int)) (some (7 - ((hN cs : Nat) : Int))) none = srt (stillS cs) := by
    have e : (7 - ((hN cs : Nat) : Int)) = ((7 - hN cs : Nat) : Int) := by omega
    rw [e, pickL_mid _ _ _ (by omega) (by omega), row_mid E]
  have hok : (srt (stillS cs)).all PyData.strOk = true := by
    rw [List.all_eq_true]
    intro x hx
    have hx := (srt_perm _).mem_iff.mp hx
    unfold stillS at hx
    obtain ⟨k, _, rfl⟩ := List.mem_map.mp hx
    exact small_ok (H _).small
  refine Blk.skip (Ts.of (Ts.cmp (dl := .strs (srt (stillS cs))) (dr := .strs (srt (stillS cs))) (EvP.of (EvN.ev (Ev.sliceS (Ev.name O .row_ rfl) (.some (Ev.name O .half_ rfl)) (.some (Ev.sub Ev.int (Ev.name O .half_ rfl))) .none (by decide) (by omega))) (congrArg D.strs hmid))
    (EvN.ev (Ev.call O (Ev.glob O G.sorted rfl) Kpr.builtin (.one (Ev.name O .still_ rfl) .nil) (Fun.sortedS (by show (stillS cs).length < 64; omega) (fun ms hp hs => srt_unique hp hs)))) (Cmp.neSs O hok hok (by omega))) strs_eqv) ?_
  exact Blk.sub R ⟨rfl, rfl, rfl, rfl, rfl, rfl, trivial⟩
end
end Mine
namespace Mine

noncomputable def fallL (cs : List Int) (ord : List Nat) : List Int := ord.map (numA cs)

section
variable {prog : Program} {w : World} {T : TopAt} {n : Nat} {Cr Cp : Addr}

theorem places_eq {cs : List Int} {a ord : List Nat} (E : EndOk cs a ord) : ord.map (fun k => ((a.getD k 0 : Nat) : Int)) = (rng (hN cs : Nat)).map (fun i => 3 + ((hN cs : Nat) : Int) - i) ++ (rng (hN cs : Nat)).map (fun i => 2 - i) := by
  have h3 := hN_le cs
  have e : ord.map (fun k => ((a.getD k 0 : Nat) : Int)) = (ord.map fun k => a.getD k 0).map fun (x : Nat) => (x : Int) := by rw [List.map_map]; rfl
  rw [e, E.places]
  unfold placesL rng
  rw [List.map_append, List.map_map, List.map_map, List.map_map, List.map_map, Int.toNat_natCast]
  congr 1 <;> (apply List.map_congr_left; intro i hi; rw [List.mem_range] at hi; simp only [Function.comp]; omega)

theorem fall_sorted {cs : List Int} {a ord : List Nat} (E : EndOk cs a ord) {ms : List Int} (hp : ms.Perm ((castL (mv2 cs)).map fun k => numA cs k.toNat)) (hs : ms.Pairwise (· ≤ ·)) : ms = (fallL cs ord).reverse := by
  refine List.Perm.eq_of_pairwise (le := (· ≤ ·)) (fun a b _ _ h1 h2 => Int.le_antisymm h1 h2) hs (List.pairwise_reverse.mpr E.fall) (hp.trans ?_)
  have e : (castL (mv2 cs)).map (fun k => numA cs k.toNat) = (mv2 cs).map (numA cs) := by
    unfold castL; rw [List.map_map]; rfl
  rw [e]
  exact (E.perm.symm.map _).trans (List.reverse_perm _).symm

theorem law_6c (G : Top7 T Cr Cp) {A : Around} {nm : Str} {fa : Addr} {cd : Value} {h : Heap} {cs : List Int} {a ord : List Nat} {ch : Int} {post : Flow → Heap → Prop} (O : ROk (n + 9) T (LF A nm fa cd h)) (S : SOk (LF A nm fa cd h)) (H : ∀ c, CF c) (hcs : cs.length = 7) (E : EndOk cs a ord)
    (R : Blk prog w (LF A nm fa cd h) ((fB (stAt 17)).drop 18) (Inv (LF A nm fa cd h) [(.falling_, .ints (fallL cs ord)), (.half_, DI (hN cs : Nat))] []) post) :
    Blk prog w (LF A nm fa cd h) ((fB (stAt 17)).drop 15) (Inv (LF A nm fa cd h) ((.outer_, .strs (outerS cs a ord)) :: stC cs a ch) []) post := by
  obtain ⟨a4, cd4, l4, f4⟩ := G.number
  have h3 := hN_le cs
  have hol := E.ordLen
  have hml := mv2_len cs
  have hcl := castL_len (mv2 cs)
  have hpl := places_eq E
  have two : ∀ {k}, k ∈ ord → Txt.find (lineA cs a k) "2" = ((a.getD k 0 : Nat) : Int) := fun {k} hk => find_two ((H _).two (of_decide_eq_true (E.mem hk).2)) (Nat.le_trans (E.low k) (by decide))
  have le1 : ((rng (hN cs : Nat)).map (fun i => 3 + ((hN cs : Nat) : Int) - i)).length + ((rng (hN cs : Nat)).map (fun i => (2 : Int) - i)).length ≤ 10000 := by
    rw [List.length_map, List.length_map, rng_len]; omega
  refine Blk.skip (Ts.of (Ts.cmp
    (EvN.ev (EvN.comp (kd := kInt) (xs := ord) (ρf := []) (g := fun k => ((a.getD k 0 : Nat) : Int)) (CompOk.of rfl trivial trivial) (Src.list (kMapS (lineA cs a)) O (Ev.name O .outer_ rfl)) (Tgt.name (x := .line_) rfl rfl) (by omega) ?_))
    (EvN.ev (Ev.joinI (EvN.ev (EvN.comp (kd := kInt) (xs := rng (hN cs : Nat)) (ρf := [(.half_, DI (hN cs : Nat))]) (g := fun i => 3 + ((hN cs : Nat) : Int) - i) (CompOk.of rfl ⟨rfl, trivial⟩ ⟨⟨rfl, rfl, rfl, _, rfl⟩, trivial⟩) (Src.range O (Ev.glob O G.range rfl) (Ev.name O .half_ rfl) (by omega) (by omega)) (Tgt.name (x := .i_) rfl rfl) (by rw [rng_len]; omega) ?_))
      (EvN.ev (EvN.comp (kd := kInt) (xs := rng (hN cs : Nat)) (ρf := []) (g := fun i => 2 - i) (CompOk.of rfl trivial trivial) (Src.range O (Ev.glob O G.range rfl) (Ev.name O .half_ rfl) (by omega) (by omega)) (Tgt.name (x := .i_) rfl rfl) (by rw [rng_len]; omega) ?_)) le1))
    (Cmp.neIs O (by omega))) ?_) ?_
  · intro k hk C
    refine Ev.at (EvP.of (EvN.ev (Ev.meth O.cf (Ev.name O.cf .line_ rfl) (.one Ev.str .nil) PySem.F.plainAttrs_str PySem.F.slot_str_index PySem.F.type_str_index (isStr_rep · _) (Fun.index (by rw [two hk]; omega)))) ?_)
    exact congrArg DI (two hk)
  · intro x hx C
    exact Ev.at (Ev.sub (Ev.add Ev.int (Ev.name O.cf .half_ rfl)) (Ev.name O.cf .i_ rfl))
  · intro x hx C
    exact Ev.at (Ev.sub Ev.int (Ev.name O.cf .i_ rfl))
  · rw [hpl]; simp
  have hfl : (fallL cs ord).length = 2 * hN cs := by unfold fallL; rw [List.length_map]; exact hol
  refine Blk.one (Stm.assign (x := .falling_) O S (EvP.of (d' := .ints (fallL cs ord)) (Ev.sliceI (EvN.ev (Ev.call O (Ev.glob O G.sorted rfl) Kpr.builtin (.one (EvN.ev (EvN.comp (kd := kInt) (xs := castL (mv2 cs)) (ρf := [(.drawn_, .tups (cs.map rowOf))]) (g := fun k => numA cs k.toNat) (CompOk.of rfl ⟨rfl, trivial⟩ ⟨⟨rfl, rfl, rfl, _, rfl⟩, trivial⟩) (Src.list kInt O (Ev.name O .movers_ rfl)) (Tgt.name (x := .k_) rfl rfl) (by omega) ?_)) .nil)
      (Fun.sortedI (r := (fallL cs ord).reverse) (by rw [List.length_map]; omega) (fun ms hp hs => fall_sorted E hp hs)))) .none .none (.some (Ev.neg Ev.int)) (by decide) (by rw [List.length_reverse]; omega)) ?_) (.inl rfl) List.not_mem_nil (.inl rfl) rfl) ?_
  · intro x hx C
    obtain ⟨k, rfl, hk⟩ := mem_castL hx
    have hk7 := (mem_mv2 hk).1
    have hrow : (cs.map rowOf).getD (k : Int).toNat [] = rowOf (cs.getD k 0) := by
      rw [Int.toNat_natCast, List.getD_eq_getElem?_getD, List.getElem?_map, List.getElem?_eq_getElem (by omega : k < cs.length), List.getD_eq_getElem?_getD, List.getElem?_eq_getElem (by omega : k < cs.length)]; rfl
    exact Ev.at (Ev.itemA (k := 2) (EvP.of (Ev.itemT (d := []) (Ev.name O.cf .drawn_ rfl) (Ev.name O.cf .k_ rfl) (by omega) (by rw [List.length_map]; omega) (by rw [List.length_map]; omega)) (congrArg D.tup hrow)) Ev.int rfl (by decide))
  · rw [pickL_rev, List.reverse_reverse]
  refine Blk.skip (Ts.of (Ts.cmp (EvN.ev (EvN.comp (kd := kInt) (xs := ord) (ρf := []) (g := numA cs) (CompOk.of rfl trivial trivial) (Src.list (kMapS (lineA cs a)) O (Ev.name O .outer_ rfl)) (Tgt.name (x := .line_) rfl rfl) (by omega) ?_)) (Ev.name O .falling_ rfl) (Cmp.neIs O (by omega))) ?_) ?_
  · intro k hk C
    obtain ⟨hk7, hr⟩ := E.mem hk
    have hb := bN_lt (cs.getD k 0)
    have hlow := E.low k
    exact Ev.at (EvN.ev (Ev.call O.cf (Ev.glob O.cf l4 rfl) f4.kpr (.one (Ev.name O.cf .line_ rfl) .nil) (Fun.number (n := n + 7) G.toTop4 f4 (H (cs.getD k 0)).core (by omega) (Nat.le_trans (txtL_len _) (by decide)) ((H _).right (of_decide_eq_true hr) 0 (by decide)))))
  · show (!decide (ord.map (numA cs) = fallL cs ord)) = false
    unfold fallL; simp
  exact Blk.sub R ⟨rfl, rfl, trivial⟩

theorem law_6d (G : Top7 T Cr Cp) {A : Around} {nm : Str} {fa : Addr} {cd : Value} {h : Heap} {cs : List Int} {a ord : List Nat} (O : ROk (n + 9) T (LF A nm fa cd h)) (S : SOk (LF A nm fa cd h)) (E : EndOk cs a ord) :
    Blk prog w (LF A nm fa cd h) ((fB (stAt 17)).drop 18) (Inv (LF A nm fa cd h) [(.falling_, .ints (fallL cs ord)), (.half_, DI (hN cs : Nat))] []) (RetP (LF A nm fa cd h) (DB true)) := by
  obtain ⟨a1, cd1, l1, f1⟩ := G.isEof
  obtain ⟨a2, cd2, l2, f2⟩ := G.isT
  obtain ⟨a3, cd3, l3, f3⟩ := G.isN
  have h3 := hN_le cs
  have hfl : (fallL cs ord).length = 2 * hN cs := by unfold fallL; rw [List.length_map]; exact E.ordLen
  refine Blk.one (mid := Inv (LF A nm fa cd h) [(.falling_, .ints (fallL cs ord)), (.half_, DI (hN cs : Nat))] []) ?_ (Blk.ret (Ev.at Ev.bool))
  refine Stm.post (Stm.forRange (x := .k_) (σ := Unit) (st := fun _ _ => [(.falling_, .ints (fallL cs ord)), (.half_, DI (hN cs : Nat))]) (p := fun _ _ => True) (x0 := ()) O S (Ev.glob O G.range rfl) (Ev.sub (Ev.mul Ev.int (Ev.name O .half_ rfl) (mulOk_small (by decide))) Ev.int) (by omega) (by omega) (hp0 := trivial) (hst0 := fun _ _ h => h) (.inl rfl) List.not_mem_nil (fun i _ hi _ => ?_)) ?_
  · have hi1 : i + 1 < (fallL cs ord).length := by omega
    have hle : (fallL cs ord).getD (i + 1) 0 ≤ (fallL cs ord).getD i 0 := by
      have := List.pairwise_iff_getElem.mp E.fall i (i + 1) (by unfold fallL at hi1; omega) (by unfold fallL at hi1; omega) (by omega)
      rw [List.getD_eq_getElem?_getD, List.getD_eq_getElem?_getD, List.getElem?_eq_getElem hi1, List.getElem?_eq_getElem (by omega : i < (fallL cs ord).length)]
      exact this
    refine Blk.one (Stm.assign (x := .gap_) (d := DI ((fallL cs ord).getD (i + 1) 0 - (fallL cs ord).getD i 0)) O S (Ev.at (P := fun _ _ => False) (EvP.of (Ev.sub (Ev.itemI (Ev.name O .falling_ rfl) (Ev.add (Ev.name O .k_ rfl) Ev.int) (by omega) (by omega) (by omega)) (Ev.itemI (Ev.name O .falling_ rfl) (Ev.name O .k_ rfl) (by omega) (by omega) (by omega))) ?_)) (.inl rfl) List.not_mem_nil (.inl rfl) rfl) ?_
    · have e : ((i : Int) + 1).toNat = i + 1 := by omega
      rw [e, Int.toNat_natCast]
    have hg : (fallL cs ord).getD (i + 1) 0 - (fallL cs ord).getD i 0 ≤ 0 := by omega
    generalize (fallL cs ord).getD (i + 1) 0 - (fallL cs ord).getD i 0 = g at *
    refine Blk.skip (Ts.of (Ts.or2 (a := false) (b := false) (Ts.of (Ts.cmp (EvN.ev (Ev.call O (Ev.glob O l1 rfl) f1.kpr (.one (Ev.name O .gap_ rfl) .nil) (Fun.isEof (n := n + 8) G.toTop3 f1))) (Ev.cmp (Ev.name O .gap_ rfl) Ev.int Cmp.eqI) Cmp.isNotB) (bne_self_eq_false _))
      (fun _ => Ts.of (Ts.cmp (EvN.ev (Ev.call O (Ev.glob O l2 rfl) f2.kpr (.one (Ev.add Ev.int (Ev.name O .gap_ rfl)) .nil) (Fun.isTerminal (n := n + 8) G.toTop3 f2))) (Ev.cmp (Ev.name O .gap_ rfl) Ev.int Cmp.ltI) Cmp.isNotB) ?_)) rfl) ?_
    · have : decide (256 + g < 256) = decide (g < 0) := decide_eq_decide.mpr (by omega)
      rw [this, bne_self_eq_false]
    refine Blk.skip (Ts.of (Ts.or2 (a := false) (b := false) (Ts.of (Ts.cmp (EvN.ev (Ev.call O (Ev.glob O l3 rfl) f3.kpr (.one (Ev.add Ev.int (Ev.name O .gap_ rfl)) .nil) (Fun.isNonterminal (n := n + 8) G.toTop3 f3))) (Ev.cmp (Ev.name O .gap_ rfl) Ev.int Cmp.eqI) Cmp.isNotB) ?_)
      (fun _ => Ts.of (Ts.cmp (EvN.ev (Ev.call O (Ev.glob O l3 rfl) f3.kpr (.one (Ev.sub Ev.int (Ev.name O .gap_ rfl)) .nil) (Fun.isNonterminal (n := n + 8) G.toTop3 f3))) Ev.bool Cmp.isNotB) ?_)) rfl) ?_
    · have : decide (256 ≤ 256 + g) = (g == 0) := by
        by_cases q : g = 0
        · subst q; rfl
        · rw [show (g == 0) = false by simpa using q]
          exact decide_eq_false (by omega)
      rw [this, bne_self_eq_false]
    · have : decide (256 ≤ 256 - g) = true := decide_eq_true (by omega)
      rw [this]; rfl
    exact Blk.post (Blk.sub (ρ' := [(.falling_, .ints (fallL cs ord)), (.half_, DI (hN cs : Nat))]) Blk.done ⟨rfl, rfl, trivial⟩) (fun f x e => ⟨e.1, (), trivial, e.2⟩)
  · rintro f x ⟨e, _, _, I⟩
    exact ⟨e, I⟩
end
end Mine
namespace Mine

section
variable {prog : Program} {w : World} {T : TopAt} {n : Nat} {Cr Cp : Addr}

theorem law_all (G : Top7 T Cr Cp) {A : Around} {nm : Str} {fa : Addr} {cd : Value} {h : Heap} {ns : List Int} (O : ROk (n + 9) T (LF A nm fa cd h)) (S : SOk (LF A nm fa cd h)) (hfr : A.frames = some []) (hn : ns.length ≤ 63) (H : ∀ c, CF c)
    (HP : ∀ cs : List Int, ∃ P, Chips cs P ∧ ∀ a, P (tN cs) a → ∃ ord, EndOk cs a ord) :
    Blk prog w (LF A nm fa cd h) (fB (stAt 17)) (Inv (LF A nm fa cd h) [(.script_, .script ns)] []) (RetP (LF A nm fa cd h) (DB true)) := by
  obtain ⟨P, K, hend⟩ := HP (cs7 ns)
  refine law_1 (n := n + 7) G.toTop5 O S hn (law_2 (n := n + 7) G.toTop5 O S hn (law_3 G.toTop6 O S hfr (cs7_len ns) H (law_4 G.toTop6 O S rfl (law_5 G O S H (cs7_len ns) K ?_ fun a ch hP => ?_))))
  · exact Int.fmod_nonneg_of_pos _ (by decide)
  · obtain ⟨ord, E⟩ := hend a hP
    exact law_6a G O S H (cs7_len ns) E (law_6b G O S H (cs7_len ns) E (law_6c G O S H (cs7_len ns) E (law_6d G O S E)))
end
end Mine
namespace Mine

noncomputable abbrev St := List (Nat × Nat)
noncomputable def gZ (s : St) (p : Nat) : Nat := (s.getD p (0, 0)).1
noncomputable def gO (s : St) (p : Nat) : Nat := (s.getD p (0, 0)).2
noncomputable def incr (p : Nat) (bl bg : Bool) (q : Nat) (b : Bool) : Nat := (if q + 1 = p ∧ bl = b then 1 else 0) + (if q = p + 1 ∧ bg = b then 1 else 0)
noncomputable def decr (p : Nat) (bl bg : Bool) (q : Nat) (b : Bool) : Nat := (if q = p ∧ bl = b then 1 else 0) + (if q = p ∧ bg = b then 1 else 0)
noncomputable def upd (s : St) (p : Nat) (bl bg : Bool) : St := (List.range 7).map fun q => (gZ s q + incr p bl bg q false - decr p bl bg q false, gO s q + incr p bl bg q true - decr p bl bg q true)
noncomputable def avail (s : St) (p : Nat) (bl bg : Bool) : Bool := decide (decr p bl bg p false ≤ gZ s p) && decide (decr p bl bg p true ≤ gO s p)
noncomputable def succs (s : St) : List St := (List.range 7).flatMap fun p => ([(false, false), (false, true), (true, true)] : List (Bool × Bool)).flatMap fun b => if avail s p b.1 b.2 then [upd s p b.1 b.2] else []
noncomputable def addNew : List St → List St → List St
  | [], acc => acc
  | s :: r, acc => if acc.contains s then addNew r acc else addNew r (s :: acc)
theorem mem_addNew : ∀ (l acc : List St) (s : St), s ∈ acc ∨ s ∈ l → s ∈ addNew l acc
  | [], acc, s, h => h.resolve_right (fun h => nomatch h)
  | x :: r, acc, s, h => by
    unfold addNew
    split
    · rename_i hc
      refine mem_addNew r acc s ?_
      rcases h with h | h
      · exact .inl h
      · rcases List.mem_cons.mp h with rfl | h
        · exact .inl (List.contains_iff_mem.mp hc)
        · exact .inr h
    · refine mem_addNew r (x :: acc) s ?_
      rcases h with h | h
      · exact .inl (.tail _ h)
      · rcases List.mem_cons.mp h with rfl | h
        · exact .inl (.head _)
        · exact .inr h
noncomputable def initS (h m : Nat) : St := (List.range 7).map fun q => if q = 3 then (2 * h - m, m) else (0, 0)
noncomputable def Lev (h m : Nat) : Nat → List St
  | 0 => [initS h m]
  | t + 1 => addNew ((Lev h m t).flatMap succs) []
noncomputable def okS (s : St) : Bool := ((List.range 7).any fun p => decide (2 ≤ gZ s p + gO s p)) && ((List.range 7).all fun p => !decide (2 ≤ gZ s p + gO s p) || (decide (1 ≤ p) && decide (p ≤ 5)))
noncomputable def finS (h : Nat) (s : St) : Bool := ((List.range 7).all fun p => gZ s p + gO s p == (if (placesL h).contains p then 1 else 0)) && ((List.range 7).all fun p => (List.range 7).all fun q => !(decide (p < q) && decide (1 ≤ gO s p) && decide (1 ≤ gZ s q)))
noncomputable def turns (h : Nat) : Nat := h * (h + 1) * (2 * h + 1) / 6
noncomputable def okAll (h m : Nat) : Bool := ((List.range (turns h)).all fun t => (Lev h m t).all okS) && (Lev h m (turns h)).all (finS h)
theorem ok_all : ∀ h, h ≤ 3 → ∀ m, m ≤ 2 * h → okAll h m = true := by decide +kernel

theorem countP_one {f f' : Nat → Bool} {l : Nat} : ∀ {L : List Nat}, L.Nodup → l ∈ L → (∀ k ∈ L, k ≠ l → f' k = f k) → L.countP f' + (f l).toNat = L.countP f + (f' l).toNat
  | [], _, h, _ => nomatch h
  | x :: r, hn, h, hf => by
    have hn' := List.nodup_cons.mp hn
    rcases List.mem_cons.mp h with rfl | h
    · have : r.countP f' = r.countP f := List.countP_congr fun k hk => by rw [hf k (.tail _ hk) (by rintro rfl; exact hn'.1 hk)]
      rw [List.countP_cons, List.countP_cons, this]
      cases f l <;> cases f' l <;> simp
    · have hx : x ≠ l := by rintro rfl; exact hn'.1 h
      have ih := countP_one hn'.2 h fun k hk => hf k (.tail _ hk)
      rw [List.countP_cons, List.countP_cons, hf x (.head _) hx]
      omega
theorem countP_two {f f' : Nat → Bool} {l g : Nat} {L : List Nat} (hn : L.Nodup) (hl : l ∈ L) (hg : g ∈ L) (hne : l ≠ g) (hf : ∀ k ∈ L, k ≠ l → k ≠ g → f' k = f k) :
    L.countP f' + (f l).toNat + (f g).toNat = L.countP f + (f' l).toNat + (f' g).toNat := by
  have h1 := countP_one (f := f) (f' := fun k => if k = l then f' l else f k) hn hl (fun k _ hk => if_neg hk)
  have h2 := countP_one (f := fun k => if k = l then f' l else f k) (f' := f') hn hg (fun k hk hkg => by
    by_cases q : k = l
    · subst q; exact (if_pos rfl).symm
    · exact (hf k hk q hkg).trans (if_neg q).symm)
  simp only [if_true] at h1
  simp only [if_neg (Ne.symm hne)] at h2
  omega

noncomputable def one (cs : List Int) (τ : Int) (k : Nat) : Bool := decide (τ < numA cs k)
noncomputable def cnt (cs : List Int) (τ : Int) (a : List Nat) (p : Nat) (b : Bool) : Nat := (mv2 cs).countP fun k => a.getD k 0 == p && one cs τ k == b
noncomputable def stOf (cs : List Int) (τ : Int) (a : List Nat) : St := (List.range 7).map fun p => (cnt cs τ a p false, cnt cs τ a p true)
theorem gZ_st (cs : List Int) (τ : Int) (a : List Nat) {p : Nat} (h : p < 7) : gZ (stOf cs τ a) p = cnt cs τ a p false := by
  unfold gZ stOf; rw [List.getD_eq_getElem?_getD, List.getElem?_map, List.getElem?_range h]; rfl
theorem gO_st (cs : List Int) (τ : Int) (a : List Nat) {p : Nat} (h : p < 7) : gO (stOf cs τ a) p = cnt cs τ a p true := by
  unfold gO stOf; rw [List.getD_eq_getElem?_getD, List.getElem?_map, List.getElem?_range h]; rfl
noncomputable def ones (cs : List Int) (τ : Int) : Nat := (mv2 cs).countP (one cs τ)
theorem ones_le (cs : List Int) (τ : Int) : ones cs τ ≤ 2 * hN cs := by
  have := List.countP_le_length (p := one cs τ) (l := mv2 cs)
  rw [mv2_len] at this
  exact this
theorem cnt_sum (cs : List Int) (τ : Int) (a : List Nat) (p : Nat) : cnt cs τ a p false + cnt cs τ a p true = (mv2 cs).countP fun k => a.getD k 0 == p := by
  unfold cnt
  generalize mv2 cs = L
  induction L with
  | nil => rfl
  | cons x r ih =>
    simp only [List.countP_cons]
    cases hq : (a.getD x 0 == p) <;> cases ho : one cs τ x <;> simp at * <;> omega

noncomputable def PP (cs : List Int) (i : Nat) (a : List Nat) : Prop :=
  a.length = 7 ∧ (∀ k, a.getD k 0 ≤ 6) ∧ (∀ k, k < 7 → k ∉ mv2 cs → a.getD k 0 = 3) ∧ ∀ τ, stOf cs τ a ∈ Lev (hN cs) (ones cs τ) i

theorem lev_ok (cs : List Int) (τ : Int) {i : Nat} (hi : i < tN cs) {s : St} (h : s ∈ Lev (hN cs) (ones cs τ) i) : okS s = true := by
  have := ok_all (hN cs) (hN_le cs) (ones cs τ) (ones_le cs τ)
  unfold okAll at this
  rw [Bool.and_eq_true, List.all_eq_true] at this
  exact List.all_eq_true.mp (this.1 i (List.mem_range.mpr hi)) s h
theorem lev_fin (cs : List Int) (τ : Int) {s : St} (h : s ∈ Lev (hN cs) (ones cs τ) (tN cs)) : finS (hN cs) s = true := by
  have := ok_all (hN cs) (hN_le cs) (ones cs τ) (ones_le cs τ)
  unfold okAll at this
  rw [Bool.and_eq_true] at this
  exact List.all_eq_true.mp this.2 s h
end Mine
namespace Mine

theorem pp_start (cs : List Int) : PP cs 0 (List.replicate 7 3) := by
  have hr : ∀ k, k < 7 → (List.replicate 7 3).getD k 0 = 3 := fun k hk => by
    rw [List.getD_eq_getElem?_getD, List.getElem?_replicate, if_pos hk]; rfl
  refine ⟨rfl, fun k => ?_, fun k hk _ => hr k hk, fun τ => ?_⟩
  · by_cases hk : k < 7
    · rw [hr k hk]; decide
    · rw [List.getD_eq_getElem?_getD, List.getElem?_replicate, if_neg hk]; decide
  · show _ ∈ [initS _ _]
    rw [List.mem_singleton]
    unfold stOf initS
    apply List.map_congr_left
    intro q hq
    have c3 : ∀ b, cnt cs τ (List.replicate 7 3) 3 b = (mv2 cs).countP fun k => one cs τ k == b := by
      intro b
      refine List.countP_congr fun k hk => ?_
      rw [hr k (mem_mv2 hk).1]; simp
    by_cases h3 : q = 3
    · subst h3
      rw [if_pos rfl, c3, c3]
      have e1 : (mv2 cs).countP (fun k => one cs τ k == true) = ones cs τ := List.countP_congr fun k _ => by simp
      have e2 : (mv2 cs).countP (fun k => one cs τ k == false) + ones cs τ = 2 * hN cs := by
        rw [← mv2_len cs]
        unfold ones
        generalize mv2 cs = L
        induction L with
        | nil => rfl
        | cons x r ih =>
          simp only [List.countP_cons, List.length_cons]
          cases one cs τ x <;> simp at * <;> omega
      rw [e1]
      congr 1
      omega
    · rw [if_neg h3]
      have c0 : ∀ b, cnt cs τ (List.replicate 7 3) q b = 0 := by
        intro b
        refine List.countP_eq_zero.mpr fun k hk => ?_
        rw [hr k (mem_mv2 hk).1]
        have : (3 == q) = false := by simpa using fun e => h3 e.symm
        simp [this]
      rw [c0, c0]

theorem total_two {cs : List Int} {a : List Nat} {l g sp : Nat} (hl : l ∈ mv2 cs) (hg : g ∈ mv2 cs) (hne : l ≠ g) (hal : a.getD l 0 = sp) (hag : a.getD g 0 = sp) : 2 ≤ (mv2 cs).countP fun k => a.getD k 0 == sp := by
  have := countP_two (f := fun k => a.getD k 0 == sp) (f' := fun k => (a.getD k 0 == sp) && decide (k ≠ l) && decide (k ≠ g)) (mv2_nodup cs) hl hg hne (fun k _ h1 h2 => by simp [h1, h2])
  rw [hal, hag, beq_self_eq_true] at this
  have e1 : (true && decide (l ≠ l) && decide (l ≠ g)).toNat = 0 := by simp
  have e2 : (true && decide (g ≠ l) && decide (g ≠ g)).toNat = 0 := by simp
  have e3 : (true : Bool).toNat = 1 := rfl
  rw [e1, e2, e3] at this
  omega

theorem ifc {p q : Prop} [Decidable p] [Decidable q] (h : p ↔ q) : (if p then 1 else 0 : Nat) = if q then 1 else 0 := by
  by_cases hp : p
  · rw [if_pos hp, if_pos (h.mp hp)]
  · rw [if_neg hp, if_neg (fun e => hp (h.mpr e))]
theorem bq (x y : Nat) (b c : Bool) : (x == y && b == c).toNat = if x = y ∧ b = c then 1 else 0 := by
  by_cases h : x = y
  · subst h; cases b <;> cases c <;> simp
  · rw [if_neg (fun e => h e.1), show (x == y) = false by simpa using h]; rfl

theorem pp_even {cs : List Int} {i : Nat} {a : List Nat} (hi : i < tN cs) (h : PP cs i a) : evenL cs a ≠ [] := by
  have hs := lev_ok cs 0 hi (h.2.2.2 0)
  unfold okS at hs
  rw [Bool.and_eq_true, List.any_eq_true] at hs
  obtain ⟨p, hp, h2⟩ := hs.1
  rw [List.mem_range] at hp
  have h2 := of_decide_eq_true h2
  rw [gZ_st _ _ _ hp, gO_st _ _ _ hp, cnt_sum] at h2
  have hm : (p : Int) ∈ evenL cs a := by
    unfold evenL
    rw [List.mem_filter, mem_rng]
    refine ⟨⟨by omega, by omega⟩, decide_eq_true ?_⟩
    have : (deepI cs a).count (p : Int) = (mv2 cs).countP fun k => a.getD k 0 == p := by
      unfold deepI castL List.count
      rw [List.map_map, List.countP_map]
      refine List.countP_congr fun k _ => ?_
      simp only [Function.comp, Int.toNat_natCast]
      rw [beq_iff_eq, beq_iff_eq]
      omega
    rw [this]
    omega
  exact List.ne_nil_of_mem hm

theorem pp_step {cs : List Int} {i : Nat} {a : List Nat} (hi : i < tN cs) (h : PP cs i a) {l g sp : Nat} (hl : l ∈ mv2 cs) (hg : g ∈ mv2 cs) (hne : l ≠ g) (hal : a.getD l 0 = sp) (hag : a.getD g 0 = sp) (hx : numA cs l ≤ numA cs g) :
    1 ≤ sp ∧ PP cs (i + 1) ((a.set l (sp - 1)).set g (sp + 1)) := by
  obtain ⟨h1, h2, h3, h4⟩ := h
  have ht := total_two hl hg hne hal hag
  have hsp7 : sp < 7 := by have := h2 l; omega
  have hs := lev_ok cs 0 hi (h4 0)
  unfold okS at hs
  rw [Bool.and_eq_true, List.all_eq_true] at hs
  have hs2 := hs.2 sp (List.mem_range.mpr hsp7)
  rw [gZ_st _ _ _ hsp7, gO_st _ _ _ hsp7, cnt_sum, decide_eq_true ht] at hs2
  simp only [Bool.not_true, Bool.false_or, Bool.and_eq_true, decide_eq_true_eq] at hs2
  have hl7 := (mem_mv2 hl).1
  have hg7 := (mem_mv2 hg).1
  have ga : ∀ k, ((a.set l (sp - 1)).set g (sp + 1)).getD k 0 = if k = g then sp + 1 else if k = l then sp - 1 else a.getD k 0 := by
    intro k
    rw [List.getD_eq_getElem?_getD, List.getElem?_set, List.length_set]
    by_cases q : g = k
    · rw [if_pos q, if_pos (by omega), if_pos q.symm]; rfl
    · rw [if_neg q, if_neg (fun e => q e.symm), List.getElem?_set]
      by_cases q2 : l = k
      · rw [if_pos q2, if_pos (by omega), if_pos q2.symm]; rfl
      · rw [if_neg q2, if_neg (fun e => q2 e.symm), List.getD_eq_getElem?_getD]
  refine ⟨hs2.1, by rw [List.length_set, List.length_set]; exact h1, fun k => ?_, fun k hk hm => ?_, fun τ => ?_⟩
  · rw [ga]; have := h2 k; split; omega; split <;> omega
  · rw [ga, if_neg (by rintro rfl; exact hm hg), if_neg (by rintro rfl; exact hm hl)]; exact h3 k hk hm
  · have hbl : one cs τ l = true → one cs τ g = true := fun q => by
      unfold one at *
      have := of_decide_eq_true q
      exact decide_eq_true (by omega)
    have cn : ∀ q b, cnt cs τ ((a.set l (sp - 1)).set g (sp + 1)) q b + decr sp (one cs τ l) (one cs τ g) q b = cnt cs τ a q b + incr sp (one cs τ l) (one cs τ g) q b := by
      intro q b
      have := countP_two (f := fun k => a.getD k 0 == q && one cs τ k == b) (f' := fun k => ((a.set l (sp - 1)).set g (sp + 1)).getD k 0 == q && one cs τ k == b) (mv2_nodup cs) hl hg hne (fun k _ k1 k2 => by
        show (_ == q && _) = _
        rw [ga, if_neg k2, if_neg k1])
      have v1 : ((a.set l (sp - 1)).set g (sp + 1)).getD l 0 = sp - 1 := by rw [ga, if_neg hne, if_pos rfl]
      have v2 : ((a.set l (sp - 1)).set g (sp + 1)).getD g 0 = sp + 1 := by rw [ga, if_pos rfl]
      rw [hal, hag, v1, v2] at this
      unfold cnt decr incr
      have hsp := hs2.1
      have d1 : (sp == q && one cs τ l == b).toNat = if q = sp ∧ one cs τ l = b then 1 else 0 := by
        rw [bq]; exact ifc ⟨fun h => ⟨h.1.symm, h.2⟩, fun h => ⟨h.1.symm, h.2⟩⟩
      have d2 : (sp == q && one cs τ g == b).toNat = if q = sp ∧ one cs τ g = b then 1 else 0 := by
        rw [bq]; exact ifc ⟨fun h => ⟨h.1.symm, h.2⟩, fun h => ⟨h.1.symm, h.2⟩⟩
      have d3 : (sp - 1 == q && one cs τ l == b).toNat = if q + 1 = sp ∧ one cs τ l = b then 1 else 0 := by
        rw [bq]; exact ifc ⟨fun h => ⟨by omega, h.2⟩, fun h => ⟨by omega, h.2⟩⟩
      have d4 : (sp + 1 == q && one cs τ g == b).toNat = if q = sp + 1 ∧ one cs τ g = b then 1 else 0 := by
        rw [bq]; exact ifc ⟨fun h => ⟨h.1.symm, h.2⟩, fun h => ⟨h.1.symm, h.2⟩⟩
      rw [d1, d2, d3, d4] at this
      omega
    show _ ∈ addNew _ []
    refine mem_addNew _ _ _ (.inr (List.mem_flatMap.mpr ⟨_, h4 τ, ?_⟩))
    unfold succs
    refine List.mem_flatMap.mpr ⟨sp, List.mem_range.mpr hsp7, List.mem_flatMap.mpr ⟨(one cs τ l, one cs τ g), ?_, ?_⟩⟩
    · cases e1 : one cs τ l <;> cases e2 : one cs τ g
      · simp
      · simp
      · rw [hbl e1] at e2; cases e2
      · simp
    · have hinc : ∀ b, incr sp (one cs τ l) (one cs τ g) sp b = 0 := fun b => by
        unfold incr; rw [if_neg (by omega), if_neg (by omega)]
      have hav : avail (stOf cs τ a) sp (one cs τ l) (one cs τ g) = true := by
        unfold avail
        rw [gZ_st _ _ _ hsp7, gO_st _ _ _ hsp7, Bool.and_eq_true]
        have c1 := cn sp false
        have c2 := cn sp true
        rw [hinc] at c1 c2
        exact ⟨decide_eq_true (by omega), decide_eq_true (by omega)⟩
      rw [if_pos hav, List.mem_singleton]
      unfold upd
      show (List.range 7).map _ = _
      apply List.map_congr_left
      intro q hq
      rw [List.mem_range] at hq
      dsimp only
      rw [gZ_st _ _ _ hq, gO_st _ _ _ hq]
      have c1 := cn q false
      have c2 := cn q true
      congr 1 <;> omega
end Mine
namespace Mine

theorem places_lt : ∀ h, h ≤ 3 → (∀ p ∈ placesL h, p < 7) ∧ (placesL h).Nodup := by decide

theorem pp_end {cs : List Int} {a : List Nat} (h : PP cs (tN cs) a) : ∃ ord, EndOk cs a ord := by
  obtain ⟨h1, h2, h3, h4⟩ := h
  obtain ⟨q1, q2⟩ := places_lt (hN cs) (hN_le cs)
  obtain ⟨w1, _, _⟩ := places_facts (hN cs) (hN_le cs)
  have cntP : ∀ p, p < 7 → ((mv2 cs).countP fun k => a.getD k 0 == p) = if (placesL (hN cs)).contains p then 1 else 0 := by
    intro p hp
    have hf := lev_fin cs 0 (h4 0)
    unfold finS at hf
    rw [Bool.and_eq_true, List.all_eq_true] at hf
    have := hf.1 p (List.mem_range.mpr hp)
    rw [gZ_st _ _ _ hp, gO_st _ _ _ hp, cnt_sum, beq_iff_eq] at this
    exact this
  have one1 : ∀ p ∈ placesL (hN cs), ((mv2 cs).filter fun k => a.getD k 0 == p).map (fun k => a.getD k 0) = [p] := by
    intro p hp
    have hc := cntP p (q1 p hp)
    rw [if_pos (List.contains_iff_mem.mpr hp), List.countP_eq_length_filter] at hc
    have : ((mv2 cs).filter fun k => a.getD k 0 == p).map (fun k => a.getD k 0) = List.replicate 1 p := by
      refine List.eq_replicate_iff.mpr ⟨by rw [List.length_map]; exact hc, fun b hb => ?_⟩
      obtain ⟨k, hk, rfl⟩ := List.mem_map.mp hb
      exact beq_iff_eq.mp (List.mem_filter.mp hk).2
    exact this
  have hmap : ((placesL (hN cs)).flatMap fun p => (mv2 cs).filter fun k => a.getD k 0 == p).map (fun k => a.getD k 0) = placesL (hN cs) := by
    have gen : ∀ L : List Nat, (∀ p ∈ L, ((mv2 cs).filter fun k => a.getD k 0 == p).map (fun k => a.getD k 0) = [p]) → (L.flatMap fun p => (mv2 cs).filter fun k => a.getD k 0 == p).map (fun k => a.getD k 0) = L := by
      intro L
      induction L with
      | nil => intro _; rfl
      | cons p r ih =>
        intro hL
        rw [List.flatMap_cons, List.map_append, hL p (.head _), ih fun p hp => hL p (.tail _ hp)]
        rfl
    exact gen _ one1
  have memO : ∀ k, k ∈ ((placesL (hN cs)).flatMap fun p => (mv2 cs).filter fun k => a.getD k 0 == p) ↔ k ∈ mv2 cs := by
    intro k
    constructor
    · intro hk
      obtain ⟨p, hp, hk⟩ := List.mem_flatMap.mp hk
      exact (List.mem_filter.mp hk).1
    · intro hk
      refine List.mem_flatMap.mpr ⟨a.getD k 0, ?_, List.mem_filter.mpr ⟨hk, beq_self_eq_true _⟩⟩
      have hc := cntP (a.getD k 0) (by have := h2 k; omega)
      have hpos : 0 < (mv2 cs).countP fun j => a.getD j 0 == a.getD k 0 := List.countP_pos_iff.mpr ⟨k, hk, beq_self_eq_true _⟩
      by_cases q : (placesL (hN cs)).contains (a.getD k 0) = true
      · exact List.contains_iff_mem.mp q
      · rw [if_neg q] at hc; omega
  generalize ((placesL (hN cs)).flatMap fun p => (mv2 cs).filter fun k => a.getD k 0 == p) = ord at hmap memO
  have hnd : ord.Nodup := by
    rw [← hmap] at q2
    unfold List.Nodup at q2 ⊢
    rw [List.pairwise_map] at q2
    exact q2.imp fun h e => h (by rw [e])
  have hpw : ord.Pairwise (fun x y => a.getD y 0 < a.getD x 0) := by
    rw [← hmap, List.pairwise_map] at w1
    exact w1
  refine ⟨ord, h1, ?_, hmap, ?_, h3, h2⟩
  · rw [List.perm_ext_iff_of_nodup hnd (mv2_nodup cs)]
    exact memO
  · rw [List.pairwise_map]
    refine List.Pairwise.imp_of_mem (fun {x y} hx hy hxy => ?_) hpw
    have hx := (memO x).mp hx
    have hy := (memO y).mp hy
    by_cases hle : numA cs y ≤ numA cs x
    · exact hle
    · exfalso
      have hf := lev_fin cs (numA cs x) (h4 (numA cs x))
      unfold finS at hf
      rw [Bool.and_eq_true] at hf
      have hy7 : a.getD y 0 < 7 := by have := h2 y; omega
      have hx7 : a.getD x 0 < 7 := by have := h2 x; omega
      have := List.all_eq_true.mp (List.all_eq_true.mp hf.2 (a.getD y 0) (List.mem_range.mpr hy7)) (a.getD x 0) (List.mem_range.mpr hx7)
      rw [gO_st _ _ _ hy7, gZ_st _ _ _ hx7] at this
      have c1 : 1 ≤ cnt cs (numA cs x) a (a.getD y 0) true := by
        refine List.countP_pos_iff.mpr ⟨y, hy, ?_⟩
        unfold one
        rw [beq_self_eq_true, decide_eq_true (by omega : numA cs x < numA cs y)]; rfl
      have c2 : 1 ≤ cnt cs (numA cs x) a (a.getD x 0) false := by
        refine List.countP_pos_iff.mpr ⟨x, hx, ?_⟩
        unfold one
        rw [beq_self_eq_true, decide_eq_false (by omega : ¬ numA cs x < numA cs x)]; rfl
      rw [decide_eq_true hxy, decide_eq_true c1, decide_eq_true c2] at this
      cases this

theorem hp_all (cs : List Int) : ∃ P, Chips cs P ∧ ∀ a, P (tN cs) a → ∃ ord, EndOk cs a ord :=
  ⟨PP cs, ⟨pp_start cs, fun i a h => h.1, fun i a h => h.2.1, fun i a hi h => pp_even hi h, fun i a hi h l g sp hl hg hne hal hag hx => pp_step hi h hl hg hne hal hag hx⟩, fun a h => pp_end h⟩
end Mine
namespace Mine
open_top hd for PySem.Challenge.rw_yh0003_01
end Mine
namespace Mine
noncomputable def fP : Stmt → Pos
  | .FunctionDef _ _ _ _ _ _ _ _ _ p => p
  | _ => ⟨0, 0, 0, 0⟩
theorem rec1 : (recsOf hd.view_39)[0]? = some ⟨Str.ofString "_strxfrm", fA (stAt 1), fB (stAt 1), fS (stAt 1), fP (stAt 1)⟩ := by kernel_rfl
theorem rec2 : (recsOf hd.view_39)[1]? = some ⟨Str.ofString "_strip_padding", fA (stAt 2), fB (stAt 2), fS (stAt 2), fP (stAt 2)⟩ := by kernel_rfl
theorem rec7 : (recsOf hd.view_39)[2]? = some ⟨Str.ofString "parse229", fA (stAt 7), fB (stAt 7), fS (stAt 7), fP (stAt 7)⟩ := by kernel_rfl
theorem rec11 : (recsOf hd.view_39)[3]? = some ⟨Str.ofString "ISTERMINAL", fA (stAt 11), fB (stAt 11), fS (stAt 11), fP (stAt 11)⟩ := by kernel_rfl
theorem rec12 : (recsOf hd.view_39)[4]? = some ⟨Str.ofString "ISNONTERMINAL", fA (stAt 12), fB (stAt 12), fS (stAt 12), fP (stAt 12)⟩ := by kernel_rfl
theorem rec13 : (recsOf hd.view_39)[5]? = some ⟨Str.ofString "ISEOF", fA (stAt 13), fB (stAt 13), fS (stAt 13), fP (stAt 13)⟩ := by kernel_rfl
theorem rec15 : (recsOf hd.view_39)[6]? = some ⟨Str.ofString "_law_drawn", fA (stAt 15), fB (stAt 15), fS (stAt 15), fP (stAt 15)⟩ := by kernel_rfl
theorem rec16 : (recsOf hd.view_39)[7]? = some ⟨Str.ofString "_law_number", fA (stAt 16), fB (stAt 16), fS (stAt 16), fP (stAt 16)⟩ := by kernel_rfl

noncomputable def GlL (mg mb : Str → Option Value) : List (Str × Value) → Prop
  | [] => True
  | p :: r => (mg p.1 = some p.2 ∨ (mg p.1 = none ∧ mb p.1 = some p.2)) ∧ GlL mg mb r
theorem GlL.of {mg mb : Str → Option Value} : ∀ {l : List (Str × Value)}, GlL mg mb l → ∀ x v, l.lookup x = some v → mg x = some v ∨ (mg x = none ∧ mb x = some v)
  | [], _, _, _, h => nomatch h
  | (y, u) :: r, ⟨h1, h2⟩, x, v, h => by
    rw [List.lookup_cons] at h
    by_cases q : x = y
    · subst q; rw [beq_self_eq_true] at h; cases h; exact h1
    · rw [show (x == y) = false by simpa using q] at h; exact GlL.of h2 x v h

theorem clsP0 (p : Params) : excIn (hd.heap_39 p) 51 bmE "Exception.__new__" = true := by kernel_rfl
theorem cR (p : Params) : nsIn (hd.heap_39 p) mainGlobals (Str.ofString "error_reply") = some (some (.ref 51)) := rfl

structure FnR (mg : Str → Option Value) (h : Heap) (nm : Str) (st : Stmt) (a : Addr) (cd : Value) : Prop where
  get : mg nm = some (.ref a)
  obj : ∃ o pm doc, h.get? a = some o ∧ o.data = .func (Calls.docDef nm (fA st) (fB st) (fS st) pm cd doc)
  code : h.CodeRec cd nm
theorem fn_rec {V : Program} {loose : List Str} {mean : ExcName → Option Value} {mg mb : Str → Option Value} {h : Heap} (T : Top V loose mean mg mb h) {i : Nat} {nm : Str} {st : Stmt} {p : Pos} (hr : (recsOf V)[i]? = some ⟨nm, fA st, fB st, fS st, p⟩) : ∃ a cd, FnR mg h nm st a cd := by
  obtain ⟨a, o, pm, cd, doc, x, y, z, u⟩ := T.fn _ (List.mem_of_getElem? hr)
  exact ⟨a, cd, x, ⟨o, pm, doc, y, z⟩, u⟩
theorem top7 {p : Params} {mg mb : Str → Option Value} {loose : List Str} {mean : ExcName → Option Value} {h : Heap} (X : (hd.heap_39 p).In h) (T : Top hd.view_39 loose mean mg mb h) :
    ∃ (T' : TopAt) (Cr Cp : Addr), T'.h0 = h ∧ Top7 T' Cr Cp := by
  obtain ⟨a1, c1, r1⟩ := fn_rec T rec1
  obtain ⟨a2, c2, r2⟩ := fn_rec T rec2
  obtain ⟨a7, c7, r7⟩ := fn_rec T rec7
  obtain ⟨a11, c11, r11⟩ := fn_rec T rec11
  obtain ⟨a12, c12, r12⟩ := fn_rec T rec12
  obtain ⟨a13, c13, r13⟩ := fn_rec T rec13
  obtain ⟨a15, c15, r15⟩ := fn_rec T rec15
  obtain ⟨a16, c16, r16⟩ := fn_rec T rec16
  have bi : ∀ {x : Str} {v : Value}, nsIn (hd.heap_39 p) mainGlobals x = some none → x ≠ Str.ofString "__name__" → bootBuiltins x = some v → mg x = some v ∨ (mg x = none ∧ mb x = some v) :=
    fun h1 h2 h3 => .inr ⟨ns_none_of X T.g h1, (T.builtins _ h2).trans h3⟩
  have gv : ∀ {x : Str} {v : Value}, nsIn (hd.heap_39 p) mainGlobals x = some (some v) → mg x = some v ∨ (mg x = none ∧ mb x = some v) := fun h1 => .inl (mg_of X T.g h1)
  have tr : TopRead hd.view_39 loose mg mb h := ⟨T.g, T.b, T.nolimit, T.builtins, T.free⟩
  have own1 : OwnCls (Str.ofString "error_reply") 51 bmE "Exception.__new__" mg h := own_of_in X tr rfl (by kernel_rfl)
  have own2 : OwnCls (Str.ofString "error_proto") 63 bmE "Exception.__new__" mg h := own_of_in X tr rfl (by kernel_rfl)
  have gl0 : GlL mg mb [(Str.ofString "len", Value.builtin "len"), (Str.ofString "int", Value.type "int"), (Str.ofString "str", Value.type "str"), (Str.ofString "range", Value.type "range"), (Str.ofString "sum", Value.builtin "sum"), (Str.ofString "type", Value.type "type"), (Str.ofString "max", Value.builtin "max"), (Str.ofString "sorted", Value.builtin "sorted"), (Str.ofString "NT_OFFSET", Value.int 256 277), (Str.ofString "ENDMARKER", Value.int 0 275), (Str.ofString "error_reply", Value.ref 51), (Str.ofString "error_proto", Value.ref 63), (Str.ofString "_strxfrm", Value.ref a1), (Str.ofString "_strip_padding", Value.ref a2), (Str.ofString "parse229", Value.ref a7), (Str.ofString "ISTERMINAL", Value.ref a11), (Str.ofString "ISNONTERMINAL", Value.ref a12), (Str.ofString "ISEOF", Value.ref a13), (Str.ofString "_law_drawn", Value.ref a15), (Str.ofString "_law_number", Value.ref a16)] := ⟨bi rfl (by decide +kernel) Boot.«len», bi rfl (by decide +kernel) Boot.«int», bi rfl (by decide +kernel) Boot.«str», bi rfl (by decide +kernel) Boot.«range», bi rfl (by decide +kernel) Boot.«sum», bi rfl (by decide +kernel) Boot.«type», bi rfl (by decide +kernel) Boot.«max», bi rfl (by decide +kernel) Boot.«sorted», gv rfl, gv rfl, gv rfl, gv rfl, .inl r1.get, .inl r2.get, .inl r7.get, .inl r11.get, .inl r12.get, .inl r13.get, .inl r15.get, .inl r16.get, trivial⟩
  have kin : ∀ {h'}, Le h h' → (hd.heap_39 p).In h' := fun k => X.keeps k
  have s1 : StrC h 51 := ⟨fun M h' k => looks_findIn (kin k) rfl, fun M h' k => looks_mroIn (kin k) rfl⟩
  have s2 : StrC h 63 := ⟨fun M h' k => looks_findIn (kin k) rfl, fun M h' k => looks_mroIn (kin k) rfl⟩
  have cl1 : ClsO h 51 63 := ⟨_, _, _, _, _, _, _, _, _, _, _, _, _, _, _, _, _, X 51 _ rfl, by decide, by decide⟩
  have cl2 : ClsO h 63 51 := ⟨_, _, _, _, _, _, _, _, _, _, _, _, _, _, _, _, _, X 63 _ rfl, by decide, by decide⟩
  refine ⟨⟨[(Str.ofString "len", Value.builtin "len"), (Str.ofString "int", Value.type "int"), (Str.ofString "str", Value.type "str"), (Str.ofString "range", Value.type "range"), (Str.ofString "sum", Value.builtin "sum"), (Str.ofString "type", Value.type "type"), (Str.ofString "max", Value.builtin "max"), (Str.ofString "sorted", Value.builtin "sorted"), (Str.ofString "NT_OFFSET", Value.int 256 277), (Str.ofString "ENDMARKER", Value.int 0 275), (Str.ofString "error_reply", Value.ref 51), (Str.ofString "error_proto", Value.ref 63), (Str.ofString "_strxfrm", Value.ref a1), (Str.ofString "_strip_padding", Value.ref a2), (Str.ofString "parse229", Value.ref a7), (Str.ofString "ISTERMINAL", Value.ref a11), (Str.ofString "ISNONTERMINAL", Value.ref a12), (Str.ofString "ISEOF", Value.ref a13), (Str.ofString "_law_drawn", Value.ref a15), (Str.ofString "_law_number", Value.ref a16)], h, mg, mb, T.g, T.b, T.nolimit, gl0.of⟩, 51, 63, rfl, ?_⟩
  exact { len := rfl, int := rfl, reply := ⟨rfl, mg, own1⟩, proto := ⟨rfl, mg, own2⟩, str := rfl, ntoff := ⟨_, rfl⟩, endm := ⟨_, rfl⟩,
          strip := ⟨_, _, rfl, ⟨r2.obj, r2.code⟩⟩, parse := ⟨_, _, rfl, ⟨r7.obj, r7.code⟩⟩, range := rfl, sum := rfl, drawn := ⟨_, _, rfl, ⟨r15.obj, r15.code⟩⟩, strR := s1, strP := s2, clsR := cl1, clsP := cl2, type := rfl, max := rfl,
          isEof := ⟨_, _, rfl, ⟨r13.obj, r13.code⟩⟩, isT := ⟨_, _, rfl, ⟨r11.obj, r11.code⟩⟩, isN := ⟨_, _, rfl, ⟨r12.obj, r12.code⟩⟩, number := ⟨_, _, rfl, ⟨r16.obj, r16.code⟩⟩, strxfrm := ⟨_, _, rfl, ⟨r1.obj, r1.code⟩⟩, sorted := rfl }
end Mine
namespace Mine

noncomputable def DescL : Nat → List (Str × Addr) → Prop
  | _, [] => True
  | b, p :: r => p.2 < b ∧ DescL p.2 r
theorem DescL.lt : ∀ {b : Nat} {l : List (Str × Addr)}, DescL b l → ∀ n c, l.lookup n = some c → c < b
  | _, [], _, _, _, h => nomatch h
  | b, (m, d) :: r, ⟨h1, h2⟩, n, c, h => by
    rw [List.lookup_cons] at h
    by_cases q : n = m
    · subst q; rw [beq_self_eq_true] at h; cases h; exact h1
    · rw [show (n == m) = false by simpa using q] at h; exact Nat.lt_trans (DescL.lt h2 n c h) h1
theorem DescL.apart : ∀ {b : Nat} {l : List (Str × Addr)}, DescL b l → ∀ n n' c, l.lookup n = some c → l.lookup n' = some c → n = n'
  | _, [], _, _, _, _, h, _ => nomatch h
  | b, (m, d) :: r, ⟨h1, h2⟩, n, n', c, h, h' => by
    rw [List.lookup_cons] at h h'
    by_cases q : n = m
    · by_cases q' : n' = m
      · rw [q, q']
      · rw [show (n' == m) = false by simpa using q'] at h'
        subst q; rw [beq_self_eq_true] at h; cases h
        exact absurd (DescL.lt h2 _ _ h') (Nat.lt_irrefl _)
    · rw [show (n == m) = false by simpa using q] at h
      by_cases q' : n' = m
      · subst q'; rw [beq_self_eq_true] at h'; cases h'
        exact absurd (DescL.lt h2 _ _ h) (Nat.lt_irrefl _)
      · rw [show (n' == m) = false by simpa using q'] at h'
        exact DescL.apart h2 n n' c h h'
theorem cells_at {cm : Str → Option Value} {cs : List (Str × Addr)} {cells : List (Addr × Obj)} (X : CellsAre cm cs cells) : ∀ n c, cs.lookup n = some c → ∃ o, (c, o) ∈ cells ∧ o.data = .cell (cm n) := by
  induction X with
  | nil => intro n c h; cases h
  | @cons m d o cs cells hd _ ih =>
    intro n c h
    rw [List.lookup_cons] at h
    by_cases q : n = m
    · subst q; rw [beq_self_eq_true] at h; cases h; exact ⟨o, .head _, hd⟩
    · rw [show (n == m) = false by simpa using q] at h
      obtain ⟨o', h1, h2⟩ := ih n c h
      exact ⟨o', .tail _ h1, h2⟩

theorem start_inv {A : Around} {nm : Str} {fa : Addr} {cd : Value} {h0 h₁ : Heap} {m cm : Str → Option Value} {cells : List (Addr × Obj)} {l : Addr} {vs : List Value} {ns : List Int} (F0 : Fr h0 h0.objs.size h₁ m) (X0 : CellsAre cm (LF A nm fa cd h0).env.cells cells) (N0 : News h0 h0.objs.size h₁ cells)
    (hs : cm (Str.ofString "script") = some (.ref l)) (hL : h0.IsList l vs.toArray) (hI : IntsAre vs ns) : Inv (LF A nm fa cd h0) [(.script_, .script ns)] [] h₁ := by
  refine ⟨F0.keep, m, cm, fun _ => 0, F0.ns, fun n c hc => ?_, fun _ hy => (nomatch hy), fun x d hx => ?_⟩
  · obtain ⟨o, h1, h2⟩ := cells_at X0 n c hc
    exact ⟨o, (N0 _ h1).1, h2⟩
  · unfold lk at hx
    by_cases q : x = .script_
    · subst q
      rw [if_pos rfl] at hx
      cases hx
      exact ⟨_, .cell _ rfl rfl hs, ⟨_, _, rfl, fun y hy => (nomatch hy), (let ⟨o, g1, g2⟩ := hL; ⟨o, F0.keep _ _ g1, g2⟩), hI⟩, fun hx => (nomatch hx)⟩
    · rw [if_neg q] at hx
      cases hx
theorem room1 : callerA.depth + 1 + 20 * (3 + 9) < recursionLimit := by decide
theorem room2 : callerA.units + 3 + 20 * (3 + 9) < cLine := by decide
theorem fin (H : ∀ c, CF c) (HP : ∀ cs : List Int, ∃ P, Chips cs P ∧ ∀ a, P (tN cs) a → ∃ ord, EndOk cs a ord) : PySem.Challenge.rw_yh0003_01.Holds := Mine.hd (by
  k_go0
  rename Top _ _ _ _ _ _ => T
  rename Frag.In _ _ => KX
  rename CellsAre _ _ _ => X0
  rename News _ _ _ _ => N0
  rename Fr _ _ _ _ => F0
  rename IntsAre _ _ => hI
  rename Heap.IsList _ _ _ => hL
  rename Shared.gens _ = _ => hg
  obtain ⟨T', Cr, Cp, hT, G⟩ := top7 KX T
  rename ¬ _ => hcond
  have hn := Int.ofNat_le.mp (Int.not_lt.mp hcond)
  have base : T'.h0 = _ := hT
  refine wpAny_mono ((law_all (n := 3) (T := T') G (A := callerA) (nm := Str.ofString "law") (cd := _) (h := _) ?O ?S rfl hn H HP).run _ ?I) ?Q ?E
  case O => exact ⟨rfl, rfl, rfl, ⟨rfl, room1, room2⟩, by rw [base]; exact Le.refl _⟩
  case S => exact ⟨none_size _, fun n c hc => (let ⟨o, h1, _⟩ := cells_at X0 n c hc; (N0 _ h1).2.2), DescL.apart (b := _ + 9) ⟨Nat.lt_succ_self _, Nat.lt_succ_self _, Nat.lt_succ_self _, Nat.lt_succ_self _, Nat.lt_succ_self _, Nat.lt_succ_self _, Nat.lt_succ_self _, Nat.lt_succ_self _, trivial⟩⟩
  case I => exact start_inv F0 X0 N0 rfl hL hI
  case E => exact fun _ _ x => x.elim
  case Q =>
    rintro f s' ⟨⟨⟨hh, tt, rfl⟩, _⟩, v, rfl, hle, hv⟩
    have e : v = .bool true := hv
    subst e
    refine ⟨.inl ⟨.bool true, .bool true, [], rfl, fun _ => rfl, .bool true, ?_, fun _ => ⟨List.nodup_nil, fun _ h => nomatch h⟩⟩, hle, rfl, hg⟩
    wrow_post)
end Mine
theorem PySem.Challenge.cw_yh0003_01_holds : PySem.Challenge.rw_yh0003_01.Holds :=
  Mine.fin Mine.cf_all Mine.hp_all
