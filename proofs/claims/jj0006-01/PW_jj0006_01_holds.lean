import PyProof.Rows.All
import Wide.All
import OpenK.AllK
import Wide.FinOn
import PySem.Challenge.RW_jj0006_01
open PySem PySem.W PyProof.Rows
set_option Elab.async false
set_option maxRecDepth 100000
set_option maxHeartbeats 0
set_option rowWalk.seconds 0
namespace Mine
section
local macro_rules | `(tactic| o_head $_) => `(tactic| assumption)
theorem hd (h : PySem.Challenge.rw_jj0006_01.row.Holds) : PySem.Challenge.rw_jj0006_01.row.Holds := by x_head
end
end Mine
local macro_rules | `(tactic| walk_at $s:str) => `(tactic| k_extra $s)
section
open PySem PySem.W PySem.W.X PyProof.Rows
set_option Elab.async false
set_option maxRecDepth 100000
set_option maxHeartbeats 0
namespace Mine
abbrev prog0 : Program := PySem.Challenge.rw_jj0006_01.row.prog
def big : Around := { handled := none, depth := 800, units := 500 }
abbrev ptO (d : Addr) (a : Int) (ta : Tok) (b : Int) (tb : Tok) : Obj := ⟨.ref 132, some d, .seq #[.int a ta, .int b tb] 0, #[]⟩

theorem any_of {α : Type} {M : Model} {A B : Around} {t : Sem α} {Q : α → Shared → Prop} {E : Value → Shared → Prop} {s : Shared}
    (hh : B.handled = A.handled) (hd : A.depth ≤ B.depth) (hu : A.units ≤ B.units)
    (hf : ∀ l, B.frames = some l → A.frames = some l) (hg : ∀ l, B.guards = some l → A.guards = some l)
    (h : wpAny M B t Q E s) : wpAny M A t Q E s := fun Γ p hΓ =>
  h Γ p ⟨by rw [hh]; exact hΓ.1, Nat.le_trans hΓ.2.1 hd, fun l hl => hΓ.2.2.1 l (hf l hl), fun l hl => hΓ.2.2.2.1 l (hg l hl), Nat.le_trans hΓ.2.2.2.2 hu⟩
theorem any_big {α : Type} {M : Model} {A : Around} {t : Sem α} {Q : α → Shared → Prop} {E : Value → Shared → Prop} {s : Shared}
    (hh : A.handled = none) (hd : A.depth ≤ 800) (hu : A.units ≤ 500) (h : wpAny M big t Q E s) : wpAny M A t Q E s :=
  any_of (by rw [hh]; rfl) hd hu (fun _ e => by cases e) (fun _ e => by cases e) h

section
variable {h₀ : Heap} {L : Addr} {m : Str → Option Value} {h h' : Heap} {news nw : List (Addr × Obj)}
theorem mem_keeps (D : Mem h h' [] nw) (b : Addr) (o : Obj) (e : h.get? b = some o) : h'.get? b = some o := D.keep b o e (Bool.or_true _)
theorem mem_fr (F : Fr h₀ L h m) (D : Mem h h' [] nw) : Fr h₀ L h' m := F.keeps (mem_keeps D)
theorem mem_news (F : Fr h₀ L h m) (N : News h₀ L h news) (D : Mem h h' [] nw) : News h₀ L h' (nw ++ news) := by
  intro p hp
  rcases List.mem_append.mp hp with hp | hp
  · have z := D.nw p hp
    refine ⟨z.1, fun e => ?_, ?_⟩
    · obtain ⟨o, _, _, ho, _⟩ := F.ns
      rw [← e, z.2] at ho; cases ho
    · cases q : h₀.get? p.1 with
      | none => rfl
      | some o => have := F.keep _ _ q; rw [z.2] at this; cases this
  · exact ⟨mem_keeps D _ _ (N p hp).1, (N p hp).2.1, (N p hp).2.2⟩
end

section
local macro_rules | `(tactic| x_close) => `(tactic| (apply Exists.intro; apply Exists.intro; apply Exists.intro; apply Exists.intro; refine And.intro rfl ?_; refine And.intro ?_ rfl; assumption))
noncomputable def es0 (P : Params) : Array DictEntry := match (hd.heap_1 P).lookup 0 with
  | some ⟨_, _, .dict es _, _⟩ => es
  | _ => #[]
set_option Elab.async true in
theorem leaf_point0 {w : World} {s : Shared} (X : (hd.heap_1 w.params).In s.heap) (h0 : s.heap.get? (nat_lit 0) = some ⟨.type "dict", none, .dict (es0 w.params) 159, #[]⟩) {a b : Int} {ta tb : Tok} :
    wpAny (model prog0 w) big (call (.ref 132) [.int a ta, .int b tb])
      (fun v s' => ∃ p d nw tk, v = .ref p ∧ Mem s.heap s'.heap [] ((p, ptO d a ta b tb) :: (d, dictOf [] 0) :: nw) ∧ s' = { s with heap := s'.heap, toks := tk }) (fun _ _ => False) s := by
  x_run
theorem leaf_point {w : World} {s : Shared} (X : (hd.heap_1 w.params).In s.heap) {a b : Int} {ta tb : Tok} :
    wpAny (model prog0 w) big (call (.ref 132) [.int a ta, .int b tb])
      (fun v s' => ∃ p d nw tk, v = .ref p ∧ Mem s.heap s'.heap [] ((p, ptO d a ta b tb) :: (d, dictOf [] 0) :: nw) ∧ s' = { s with heap := s'.heap, toks := tk }) (fun _ _ => False) s :=
  leaf_point0 X (X 0 _ (by kernel_rfl))
end
end Mine
end
section
open PySem PySem.W PySem.W.X PyProof.Rows
set_option Elab.async false
set_option maxRecDepth 100000
set_option maxHeartbeats 0
namespace Mine
section
variable {w : World} {h₀ h : Heap} {L p d : Addr} {news : List (Addr × Obj)} {a b : Int} {ta tb : Tok}
theorem pt_inst (N : News h₀ L h news) (hp : (p, ptO d a ta b tb) ∈ news) (hq : (d, dictOf [] 0) ∈ news) : InstAt h p (ptO d a ta b tb) 132 (some (dictOf [] 0)) :=
  ⟨(N _ hp).1, rfl, rfl, (N _ hq).1⟩
end
section
local macro_rules | `(tactic| x_close) => `(tactic| (refine And.intro (by kernel_rfl) ?_; apply Exists.intro; apply Exists.intro; refine And.intro ?_ rfl; first | assumption | exact Mem.start _))
theorem leaf_type {w : World} {s : Shared} (_X : (hd.heap_1 w.params).In s.heap) {p : Addr} {a b : Int} {ta tb : Tok} {d : Addr}
    (hp : s.heap.get? p = some ⟨.ref 132, some d, .seq #[.int a ta, .int b tb] 0, #[]⟩) :
    wpAny (model prog0 w) big (call (.type "type") [.ref p])
      (fun v s' => v = .ref 132 ∧ ∃ nw tk, Mem s.heap s'.heap [] nw ∧ s' = { s with heap := s'.heap, toks := tk }) (fun _ _ => False) s := by
  x_run
theorem leaf_issub {w : World} {s : Shared} (X : (hd.heap_1 w.params).In s.heap) :
    wpAny (model prog0 w) big (call (.builtin "issubclass") [.ref 132, .type "tuple"])
      (fun v s' => v = .bool true ∧ ∃ nw tk, Mem s.heap s'.heap [] nw ∧ s' = { s with heap := s'.heap, toks := tk }) (fun _ _ => False) s := by
  x_run
end
section
variable {w : World} {A : Around} {E : Value → Shared → Prop} {s : Shared} {L p d : Addr} {h₀ : Heap} {m : Str → Option Value} {news : List (Addr × Obj)} {a b : Int} {ta tb : Tok} {Q : Value → Shared → Prop}
theorem of_leaf {t : Sem Value} {v₀ : Value} (hh : A.handled = none) (hdp : A.depth ≤ 800) (hu : A.units ≤ 500)
    (l : wpAny (model prog0 w) big t (fun v s' => v = v₀ ∧ ∃ nw tk, Mem s.heap s'.heap [] nw ∧ s' = { s with heap := s'.heap, toks := tk }) (fun _ _ => False) s)
    (F : Fr h₀ L s.heap m) (N : News h₀ L s.heap news)
    (h : ∀ h' tk, Fr h₀ L h' m → News h₀ L h' news → Q v₀ { s with heap := h', toks := tk }) : wpAny (model prog0 w) A t Q E s := by
  refine wpAny_mono (any_big hh hdp hu l) (fun v s' z => ?_) fun _ _ z => z.elim
  obtain ⟨rfl, nw, tk, D, e⟩ := z
  rw [e]
  exact h _ tk (mem_fr F D) fun q hq => mem_news F N D q (List.mem_append_right _ hq)
theorem type_pt (hh : A.handled = none) (hdp : A.depth ≤ 800) (hu : A.units ≤ 500) (F : Fr h₀ L s.heap m) (X : (hd.heap_1 w.params).In h₀) (N : News h₀ L s.heap news) (hp : (p, ptO d a ta b tb) ∈ news)
    (h : ∀ h' tk, Fr h₀ L h' m → News h₀ L h' news → Q (.ref 132) { s with heap := h', toks := tk }) : wpAny (model prog0 w) A (call (.type "type") [.ref p]) Q E s :=
  of_leaf hh hdp hu (leaf_type (X.keeps F.keep) (N _ hp).1) F N h
theorem issub_pt (hh : A.handled = none) (hdp : A.depth ≤ 800) (hu : A.units ≤ 500) (F : Fr h₀ L s.heap m) (X : (hd.heap_1 w.params).In h₀) (N : News h₀ L s.heap news)
    (h : ∀ h' tk, Fr h₀ L h' m → News h₀ L h' news → Q (.bool true) { s with heap := h', toks := tk }) : wpAny (model prog0 w) A (call (.builtin "issubclass") [.ref 132, .type "tuple"]) Q E s :=
  of_leaf hh hdp hu (leaf_issub (X.keeps F.keep)) F N h
open PySem.AutoSeq1 (wpAny_loadPart') in
theorem pt_getitem_body {i : Int} {u : Tok} {k : Nat} {y : Value} {E : Value → Shared → Prop} {A : Around} {s : Shared} {w : World} {p d : Addr} {a b : Int} {ta tb : Tok} (hlo : -2 ^ 63 ≤ i) (hhi : i < 2 ^ 63) (hk : seqIndex? i 2 = some k) (hy : #[Value.int a ta, .int b tb][k]? = some y)
    (hl : s.heap.get? p = some (ptO d a ta b tb)) :
    wpAny (model prog0 w) A (Builtin.«tuple.__getitem__» ⟨[.ref p, .int i u], []⟩) (fun fin s' => ∃ v, fin = .done (.ret v) ∧ v = y ∧ s' = s) E s := by
  obtain ⟨hp, g, dd, tk, os⟩ := s
  have f1 := AutoSeq1.idx_int
  have hf : ¬ (decide (i < -2 ^ 63) || decide (i ≥ 2 ^ 63)) = true := by simp; omega
  wp_walk using wpAny_loadPart' hl
  rw [if_neg hf]
  have e : ((seqIndex? i #[Value.int a ta, Value.int b tb].size).bind fun x => #[Value.int a ta, Value.int b tb][x]?) = some y := by
    show ((seqIndex? i 2).bind fun x => #[Value.int a ta, Value.int b tb][x]?) = some y
    rw [hk]; exact hy
  simp only [e]
  wp_walk
  exact ⟨_, rfl, rfl, rfl⟩
theorem pt_getitem {i : Int} {u : Tok} {k : Nat} {y : Value} (hlo : -2 ^ 63 ≤ i) (hhi : i < 2 ^ 63) (hk : seqIndex? i 2 = some k) (hy : #[Value.int a ta, .int b tb][k]? = some y)
    (X : (hd.heap_1 w.params).In s.heap) (hs : subIn (hd.heap_1 w.params) (.ref 132) (.type "tuple") = some true) (I : InstAt s.heap p (ptO d a ta b tb) 132 (some (dictOf [] 0)))
    (h : Q y s) : wpAny (model prog0 w) A (call (.builtin "tuple.__getitem__") [.ref p, .int i u]) Q E s := by
  refine wpAny_call (PySem.codeAny_call_builtin F.slot_tuple_getitem.plain F.entry_tuple_getitem ?_)
  refine @check_slot (model prog0 w) _ _ s "tuple.__getitem__" "tuple" "__getitem__" (.ref p) [.int i u] [] _ (by decide +kernel) (by decide +kernel) (I.type.andThen (looks_subIn X hs)) (F.args_tuple_getitem_2 (.ref p) (.int i u)) ?_
  refine wpAny_mono (pt_getitem_body hlo hhi hk hy I.at_) (fun fin s' z => ?_) fun _ _ z => z
  obtain ⟨v, rfl, rfl, rfl⟩ := z
  exact h
end
end Mine
end
section
open PySem PySem.W PySem.W.X PyProof.Rows
set_option Elab.async false
set_option maxRecDepth 100000
set_option maxHeartbeats 0
namespace Mine
theorem code_of {M : Model} {A B : Around} {c : Code} {R : Result → Shared → Prop} {s : Shared}
    (hh : B.handled = A.handled) (hd : A.depth ≤ B.depth) (hu : A.units ≤ B.units)
    (hf : ∀ l, B.frames = some l → A.frames = some l) (hg : ∀ l, B.guards = some l → A.guards = some l)
    (h : codeAny M B c R s) : codeAny M A c R s := fun Γ p hc hΓ =>
  h Γ p hc ⟨by rw [hh]; exact hΓ.1, Nat.le_trans hΓ.2.1 hd, fun l hl => hΓ.2.2.1 l (hf l hl), fun l hl => hΓ.2.2.2.1 l (hg l hl), Nat.le_trans hΓ.2.2.2.2 hu⟩
theorem code_lv {M : Model} {A : Around} {c : Code} {R : Result → Shared → Prop} {s : Shared} {d u : Nat} {fs : List Env}
    (hh : A.handled = none) (hd : A.depth ≤ d) (hu : A.units ≤ u) (hf : A.frames = some fs)
    (h : codeAny M { handled := none, depth := d, frames := some fs, units := u } c R s) : codeAny M A c R s :=
  code_of (by rw [hh]) hd hu (fun l e => by cases e; exact hf) (fun _ e => by cases e) h
theorem any_lv {α : Type} {M : Model} {A : Around} {t : Sem α} {Q : α → Shared → Prop} {E : Value → Shared → Prop} {s : Shared} {d u : Nat} {fs : List Env}
    (hh : A.handled = none) (hd : A.depth ≤ d) (hu : A.units ≤ u) (hf : A.frames = some fs)
    (h : wpAny M { handled := none, depth := d, frames := some fs, units := u } t Q E s) : wpAny M A t Q E s :=
  any_of (by rw [hh]) hd hu (fun l e => by cases e; exact hf) (fun _ e => by cases e) h
theorem meta_tuple : typeOf (.type "tuple") = pure (.type "type") := by kernel_rfl
local macro_rules | `(tactic| k_mem) => `(tactic| assumption)
local macro_rules | `(tactic| k_inst) => `(tactic| exact pt_inst (by k_asm) (by assumption) (by assumption))
theorem get_bind_tup {w : World} {A : Around} {E : Value → Shared → Prop} {s : Shared} {K : Frag} {x C : Addr} {ox : Obj} {od : Option Obj} {name : Str} {expr : Bool} {Q : Value → Shared → Prop} {prog : Program} {g a : Value} {hk : Option Value} (X : K.In s.heap) (I : InstAt s.heap x ox C od)
    (hga : findIn K (.ref C) "__getattribute__" = some (some (.builtin "tuple.__getattribute__")))
    (hb : findIn K (.ref C) "__getattr__" = some hk) (hi : subIn K (.ref C) (.type "tuple") = some true)
    (hf : findObj K C od name = some (.bind g a))
    (h : wpAny (model prog w) A.in1 (call g [a, .ref x, .ref C]) (fun v s' => wpAny (model prog w) A (handedOut v) Q E s') (fun _ _ => False) { s with toks := s.toks + 1 }) :
    wpAny (model prog w) A (getAttr (.ref x) name expr) Q E s := by
  have ht := I.type (M := model prog w)
  refine wpAny_bind (wpAny_mkText (wpAny_holding (wpAny_bind (ht _ _ _ _ (fun _ _ e => e) (wpAny_bind (looks_findIn X hga _ _ _ _ (fun _ _ e => e) ?_))))))
  dsimp only
  rw [show (onTheHeap (Value.ref C) && Value.builtin "tuple.__getattribute__" == Value.builtin "object.__getattribute__") = false from by rw [show (Value.builtin "tuple.__getattribute__" == Value.builtin "object.__getattribute__") = false from by decide +kernel, Bool.and_false], if_neg (by decide)]
  have Lh := looks_hook (M := model prog w) (mc := .ref C) X (r := hk) (by rw [if_pos (show onTheHeap (Value.ref C) = true from rfl)]; exact hb)
  refine wpAny_bind (Lh _ _ _ _ (fun _ _ e => e) (wpAny_bind (wpAny_attempt (wpAny_holding ?_))))
  unfold callGetattribute
  rw [show (expr && onTheHeap (Value.builtin "tuple.__getattribute__")) = false from Bool.and_false _, if_neg (by decide)]
  unfold boundAndCalled
  rw [F.slot_tuple_getattribute.bind]
  refine wpAny_bind (wpAny_pure ?_)
  show wpAny _ _ (call (.builtin "tuple.__getattribute__") [.ref x, .str name s.toks]) _ _ _
  refine wpAny_call ?_
  refine codeAny_call_builtin F.slot_tuple_getattribute.plain F.entry_tuple_ga ?_
  refine @check_slot (model prog w) _ _ { s with toks := s.toks + 1 } "tuple.__getattribute__" "tuple" "__getattribute__" (.ref x) [.str name s.toks] [] _ (by decide +kernel) (by decide +kernel) (ht.andThen (looks_subIn X hi)) (F.args_tuple_getattribute_2 (.ref x) (.str name s.toks)) ?_
  obtain ⟨hh', gg, d, t, os⟩ := s
  have L1 := looks_find (M := model prog w) X I hf
  unfold Builtin.«object.__getattribute__»
  refine wpAny_bind (wpAny_pure (wpAny_bind (wpAny_pure (wpAny_bind (ht.at (wpAny_bind (L1.at ?_)))))))
  show wpAny _ _ (holding [a] (call g [a, .ref x, .ref C]) >>= ret) _ _ _
  exact wpAny_bind (wpAny_holding (wpAny_mono h (fun v s' z => wpAny_pure z) fun _ _ z => z.elim))
section
variable {A₀ A : Around} {base h₀ : Heap} {outer : List Env} {L fa : Addr} {m mg mb : Str → Option Value} {s : Shared} {news : List (Addr × Obj)} {mean : ExcName → Option Value}
    {qn : Str} {nm : List (Str × NameKind)} {mo : List (Str × Const)} {cd : Value} {w : World} {p d : Addr} {a b : Int} {ta tb : Tok} {loose : List Str} {R : Result → Shared → Prop} {prog1 : Program}
theorem call_x
    (B : Below A₀ base outer h₀) (F : Fr h₀ L s.heap m) (X : (hd.heap_1 w.params).In h₀) (N : News h₀ L s.heap news) (T : Top prog1 loose mean mg mb h₀)
    (hp : (p, ptO d a ta b tb) ∈ news) (hq : (d, dictOf [] 0) ∈ news)
    (h : ∀ h' tk, Fr h₀ L h' m → News h₀ L h' news → R (.ok (.ret (.int a ta))) { s with heap := h', toks := tk }) :
    codeAny (model prog0 w) { handled := none, depth := 600, frames := some (envOf qn ⟨.function, nm, false, false, mo⟩ L fa cd :: outer), units := 400 } (.call (.ref 43) ⟨[.ref 124, .ref p, .ref 132], []⟩) R s := by
  k_with_none
  k_with "getMethod type:tuple" => (k_here; refine method_type (by k_asm) (by k_asm) (by exact meta_tuple) (by decide +kernel) (by k_dflt k_is) (by k_handed) ?_)
  k_with "call type:type" => (k_here; k_dflt (refine type_pt (by exact rfl) (by exact Nat.le_of_ble_eq_true rfl) (by exact Nat.le_of_ble_eq_true rfl) (by k_asm) (by k_asm) (by k_asm) (by k_mem) ?_; k_whole); intro h' tk' F' N'; (try k_sweep))
  k_with "call builtin:issubclass" => (k_here; k_dflt (refine issub_pt (by exact rfl) (by exact Nat.le_of_ble_eq_true rfl) (by exact Nat.le_of_ble_eq_true rfl) (by k_asm) (by k_asm) (by k_asm) ?_; k_whole); intro h' tk' F' N'; (try k_sweep))
  k_with "call builtin:tuple.__getitem__" => (k_here; k_dflt (refine pt_getitem (by decide) (by decide) (by exact rfl) (by exact rfl) (by k_in) (by k_is) (by k_inst) ?_; k_whole))
  k_enter
  repeat' (first | (k_unfold; (try dsimp only)) | (k_end; wrow_close) | walk1 | (dsimp only; walk1) | (leave1; walk_say "STEP leave1"; try dsimp only))
  all_goals (exact h _ _ (by assumption) (by assumption))
theorem call_y
    (B : Below A₀ base outer h₀) (F : Fr h₀ L s.heap m) (X : (hd.heap_1 w.params).In h₀) (N : News h₀ L s.heap news) (T : Top prog1 loose mean mg mb h₀)
    (hp : (p, ptO d a ta b tb) ∈ news) (hq : (d, dictOf [] 0) ∈ news)
    (h : ∀ h' tk, Fr h₀ L h' m → News h₀ L h' news → R (.ok (.ret (.int b tb))) { s with heap := h', toks := tk }) :
    codeAny (model prog0 w) { handled := none, depth := 600, frames := some (envOf qn ⟨.function, nm, false, false, mo⟩ L fa cd :: outer), units := 400 } (.call (.ref 43) ⟨[.ref 127, .ref p, .ref 132], []⟩) R s := by
  k_with_none
  k_with "getMethod type:tuple" => (k_here; refine method_type (by k_asm) (by k_asm) (by exact meta_tuple) (by decide +kernel) (by k_dflt k_is) (by k_handed) ?_)
  k_with "call type:type" => (k_here; k_dflt (refine type_pt (by exact rfl) (by exact Nat.le_of_ble_eq_true rfl) (by exact Nat.le_of_ble_eq_true rfl) (by k_asm) (by k_asm) (by k_asm) (by k_mem) ?_; k_whole); intro h' tk' F' N'; (try k_sweep))
  k_with "call builtin:issubclass" => (k_here; k_dflt (refine issub_pt (by exact rfl) (by exact Nat.le_of_ble_eq_true rfl) (by exact Nat.le_of_ble_eq_true rfl) (by k_asm) (by k_asm) (by k_asm) ?_; k_whole); intro h' tk' F' N'; (try k_sweep))
  k_with "call builtin:tuple.__getitem__" => (k_here; k_dflt (refine pt_getitem (by decide) (by decide) (by exact rfl) (by exact rfl) (by k_in) (by k_is) (by k_inst) ?_; k_whole))
  k_enter
  repeat' (first | (k_unfold; (try dsimp only)) | (k_end; wrow_close) | walk1 | (dsimp only; walk1) | (leave1; walk_say "STEP leave1"; try dsimp only))
  all_goals (exact h _ _ (by assumption) (by assumption))
variable {expr : Bool} {Q : Value → Shared → Prop} {E : Value → Shared → Prop}
theorem get_x
    (hh : A.handled = none) (hdp : A.depth ≤ 600) (hu : A.units ≤ 399) (hf : A.frames = some (envOf qn ⟨.function, nm, false, false, mo⟩ L fa cd :: outer))
    (B : Below A₀ base outer h₀) (F : Fr h₀ L s.heap m) (X : (hd.heap_1 w.params).In h₀) (N : News h₀ L s.heap news) (T : Top prog1 loose mean mg mb h₀)
    (hp : (p, ptO d a ta b tb) ∈ news) (hq : (d, dictOf [] 0) ∈ news)
    (h : ∀ h' tk, Fr h₀ L h' m → News h₀ L h' news → Q (.int a ta) { s with heap := h', toks := tk }) :
    wpAny (model prog0 w) A (getAttr (.ref p) (PySem.Str.ofString "x") expr) Q E s := by
  have X' := X.keeps F.keep
  refine get_bind_tup (g := .ref 43) (a := .ref 124) X' (pt_inst N hp hq) (by k_is) (by k_is) (by k_is) (findObj_data (show isClsIn (hd.heap_1 w.params) 132 = true by k_is) (by k_is) (by k_is) (by k_is)) ?_
  refine wpAny_call (code_lv (A := A.in1) (d := 600) (u := 400) hh hdp (by show A.units + 1 ≤ 400; omega) hf ?_)
  refine call_x B F X N T hp hq fun h' tk F' N' => ?_
  exact handed_on rfl (h _ _ F' N')
theorem get_y
    (hh : A.handled = none) (hdp : A.depth ≤ 600) (hu : A.units ≤ 399) (hf : A.frames = some (envOf qn ⟨.function, nm, false, false, mo⟩ L fa cd :: outer))
    (B : Below A₀ base outer h₀) (F : Fr h₀ L s.heap m) (X : (hd.heap_1 w.params).In h₀) (N : News h₀ L s.heap news) (T : Top prog1 loose mean mg mb h₀)
    (hp : (p, ptO d a ta b tb) ∈ news) (hq : (d, dictOf [] 0) ∈ news)
    (h : ∀ h' tk, Fr h₀ L h' m → News h₀ L h' news → Q (.int b tb) { s with heap := h', toks := tk }) :
    wpAny (model prog0 w) A (getAttr (.ref p) (PySem.Str.ofString "y") expr) Q E s := by
  have X' := X.keeps F.keep
  refine get_bind_tup (g := .ref 43) (a := .ref 127) X' (pt_inst N hp hq) (by k_is) (by k_is) (by k_is) (findObj_data (show isClsIn (hd.heap_1 w.params) 132 = true by k_is) (by k_is) (by k_is) (by k_is)) ?_
  refine wpAny_call (code_lv (A := A.in1) (d := 600) (u := 400) hh hdp (by show A.units + 1 ≤ 400; omega) hf ?_)
  refine call_y B F X N T hp hq fun h' tk F' N' => ?_
  exact handed_on rfl (h _ _ F' N')
theorem get_x' {hp : Heap} {g : Array GenState} {dr : Drawn} {t : Nat} {os : OsState}
    (hh : A.handled = none) (hdp : A.depth ≤ 600) (hu : A.units ≤ 399) (hf : A.frames = some (envOf qn ⟨.function, nm, false, false, mo⟩ L fa cd :: outer))
    (B : Below A₀ base outer h₀) (F : Fr h₀ L hp m) (X : (hd.heap_1 w.params).In h₀) (N : News h₀ L hp news) (T : Top prog1 loose mean mg mb h₀)
    (hpm : (p, ptO d a ta b tb) ∈ news) (hq : (d, dictOf [] 0) ∈ news)
    (h : ∀ h' tk, Fr h₀ L h' m → News h₀ L h' news → Q (.int a ta) ⟨h', g, dr, tk, os⟩) :
    wpAny (model prog0 w) A (getAttr (.ref p) (PySem.Str.ofString "x") expr) Q E ⟨hp, g, dr, t, os⟩ := get_x hh hdp hu hf B F X N T hpm hq h
theorem get_y' {hp : Heap} {g : Array GenState} {dr : Drawn} {t : Nat} {os : OsState}
    (hh : A.handled = none) (hdp : A.depth ≤ 600) (hu : A.units ≤ 399) (hf : A.frames = some (envOf qn ⟨.function, nm, false, false, mo⟩ L fa cd :: outer))
    (B : Below A₀ base outer h₀) (F : Fr h₀ L hp m) (X : (hd.heap_1 w.params).In h₀) (N : News h₀ L hp news) (T : Top prog1 loose mean mg mb h₀)
    (hpm : (p, ptO d a ta b tb) ∈ news) (hq : (d, dictOf [] 0) ∈ news)
    (h : ∀ h' tk, Fr h₀ L h' m → News h₀ L h' news → Q (.int b tb) ⟨h', g, dr, tk, os⟩) :
    wpAny (model prog0 w) A (getAttr (.ref p) (PySem.Str.ofString "y") expr) Q E ⟨hp, g, dr, t, os⟩ := get_y hh hdp hu hf B F X N T hpm hq h
end
end Mine
end
section
open PySem PySem.W PySem.W.X PyProof.Rows
set_option Elab.async false
set_option maxRecDepth 100000
set_option maxHeartbeats 0
namespace Mine
def lexlt (a b c d : Int) : Bool := if a = c then decide (b < d) else decide (a < c)
def lexle (a b c d : Int) : Bool := if a = c then decide (b ≤ d) else decide (a < c)
def lexgt (a b c d : Int) : Bool := if a = c then decide (d < b) else decide (c < a)

open PySem.AutoSeq1 (wpAny_loadPart') in
theorem lt_body {E : Value → Shared → Prop} {A : Around} {s : Shared} {w : World} {p q : Addr} {a b c d : Int} {ta tb tc td : Tok} {n k : Nat} {c1 c2 : Value} {d1 d2 : Option Addr} {l1 l2 : Array (Option Value)}
    (hp : s.heap.get? p = some ⟨c1, d1, .seq #[.int a ta, .int b tb] n, l1⟩) (hq : s.heap.get? q = some ⟨c2, d2, .seq #[.int c tc, .int d td] k, l2⟩)
    (hi : Looks (model prog0 w) s.heap (isSubtype c2 (.type "tuple")) true) :
    wpAny (model prog0 w) A (Builtin.«tuple.__lt__» ⟨[.ref p, .ref q], []⟩) (fun fin s' => fin = .done (.ret (.bool (lexlt a b c d))) ∧ s' = s) E s := by
  obtain ⟨hp, g, dd, tk, os⟩ := s
  have rc : ∀ {x y : Int} {t u : Tok} {Q : Value → Shared → Prop} {s : Shared}, Q (.bool (decide (x < y))) s → wpAny (model prog0 w) A (richCompare .Lt (.int x t) (.int y u)) Q E s := fun h => lt_int h
  have eq : ∀ {x y : Int} {t u : Tok} {Q : Bool → Shared → Prop} {s : Shared}, Q (x == y) s → wpAny (model prog0 w) A (eqBool (.int x t) (.int y u)) Q E s := fun h => wpAny_eqBool_int h
  wp_walk using wpAny_loadPart' hp, wpAny_loadPart' hq
  refine hi.here ?_
  wp_walk using wpAny_loadPart' hp, wpAny_loadPart' hq, eq
  by_cases h : a = c
  · subst h
    rw [if_neg (by simp)]
    wp_walk using eq
    by_cases h : b = d
    · subst h
      rw [if_neg (by simp)]
      wp_walk
      refine ⟨?_, rfl⟩
      have e : lexlt a b a b = false := by simp [lexlt]
      rw [e]
      with_unfolding_all rfl
    · rw [if_pos (by simpa using h)]
      wp_walk using rc
      refine ⟨?_, rfl⟩
      have e : lexlt a b a d = decide (b < d) := by simp [lexlt] <;> omega
      rw [e]
  · rw [if_pos (by simpa using h)]
    wp_walk using rc
    refine ⟨?_, rfl⟩
    have e : lexlt a b c d = decide (a < c) := by simp [lexlt, h] <;> omega
    rw [e]

open PySem.AutoSeq1 (wpAny_loadPart') in
theorem le_body {E : Value → Shared → Prop} {A : Around} {s : Shared} {w : World} {p q : Addr} {a b c d : Int} {ta tb tc td : Tok} {n k : Nat} {c1 c2 : Value} {d1 d2 : Option Addr} {l1 l2 : Array (Option Value)}
    (hp : s.heap.get? p = some ⟨c1, d1, .seq #[.int a ta, .int b tb] n, l1⟩) (hq : s.heap.get? q = some ⟨c2, d2, .seq #[.int c tc, .int d td] k, l2⟩)
    (hi : Looks (model prog0 w) s.heap (isSubtype c2 (.type "tuple")) true) :
    wpAny (model prog0 w) A (Builtin.«tuple.__le__» ⟨[.ref p, .ref q], []⟩) (fun fin s' => fin = .done (.ret (.bool (lexle a b c d))) ∧ s' = s) E s := by
  obtain ⟨hp, g, dd, tk, os⟩ := s
  have rc : ∀ {x y : Int} {t u : Tok} {Q : Value → Shared → Prop} {s : Shared}, Q (.bool (decide (x ≤ y))) s → wpAny (model prog0 w) A (richCompare .LtE (.int x t) (.int y u)) Q E s := fun h => le_int h
  have eq : ∀ {x y : Int} {t u : Tok} {Q : Bool → Shared → Prop} {s : Shared}, Q (x == y) s → wpAny (model prog0 w) A (eqBool (.int x t) (.int y u)) Q E s := fun h => wpAny_eqBool_int h
  wp_walk using wpAny_loadPart' hp, wpAny_loadPart' hq
  refine hi.here ?_
  wp_walk using wpAny_loadPart' hp, wpAny_loadPart' hq, eq
  by_cases h : a = c
  · subst h
    rw [if_neg (by simp)]
    wp_walk using eq
    by_cases h : b = d
    · subst h
      rw [if_neg (by simp)]
      wp_walk
      refine ⟨?_, rfl⟩
      have e : lexle a b a b = true := by simp [lexle]
      rw [e]
      with_unfolding_all rfl
    · rw [if_pos (by simpa using h)]
      wp_walk using rc
      refine ⟨?_, rfl⟩
      have e : lexle a b a d = decide (b ≤ d) := by simp [lexle] <;> omega
      rw [e]
  · rw [if_pos (by simpa using h)]
    wp_walk using rc
    refine ⟨?_, rfl⟩
    have e : lexle a b c d = decide (a ≤ c) := by simp [lexle, h] <;> omega
    rw [e]

open PySem.AutoSeq1 (wpAny_loadPart') in
theorem gt_body {E : Value → Shared → Prop} {A : Around} {s : Shared} {w : World} {p q : Addr} {a b c d : Int} {ta tb tc td : Tok} {n k : Nat} {c1 c2 : Value} {d1 d2 : Option Addr} {l1 l2 : Array (Option Value)}
    (hp : s.heap.get? p = some ⟨c1, d1, .seq #[.int a ta, .int b tb] n, l1⟩) (hq : s.heap.get? q = some ⟨c2, d2, .seq #[.int c tc, .int d td] k, l2⟩)
    (hi : Looks (model prog0 w) s.heap (isSubtype c2 (.type "tuple")) true) :
    wpAny (model prog0 w) A (Builtin.«tuple.__gt__» ⟨[.ref p, .ref q], []⟩) (fun fin s' => fin = .done (.ret (.bool (lexgt a b c d))) ∧ s' = s) E s := by
  obtain ⟨hp, g, dd, tk, os⟩ := s
  have rc : ∀ {x y : Int} {t u : Tok} {Q : Value → Shared → Prop} {s : Shared}, Q (.bool (decide (y < x))) s → wpAny (model prog0 w) A (richCompare .Gt (.int x t) (.int y u)) Q E s := fun h => gt_int h
  have eq : ∀ {x y : Int} {t u : Tok} {Q : Bool → Shared → Prop} {s : Shared}, Q (x == y) s → wpAny (model prog0 w) A (eqBool (.int x t) (.int y u)) Q E s := fun h => wpAny_eqBool_int h
  wp_walk using wpAny_loadPart' hp, wpAny_loadPart' hq
  refine hi.here ?_
  wp_walk using wpAny_loadPart' hp, wpAny_loadPart' hq, eq
  by_cases h : a = c
  · subst h
    rw [if_neg (by simp)]
    wp_walk using eq
    by_cases h : b = d
    · subst h
      rw [if_neg (by simp)]
      wp_walk
      refine ⟨?_, rfl⟩
      have e : lexgt a b a b = false := by simp [lexgt]
      rw [e]
      with_unfolding_all rfl
    · rw [if_pos (by simpa using h)]
      wp_walk using rc
      refine ⟨?_, rfl⟩
      have e : lexgt a b a d = decide (d < b) := by simp [lexgt] <;> omega
      rw [e]
  · rw [if_pos (by simpa using h)]
    wp_walk using rc
    refine ⟨?_, rfl⟩
    have e : lexgt a b c d = decide (c < a) := by simp [lexgt, h] <;> omega
    rw [e]

section
variable {w : World} {A : Around} {E : Value → Shared → Prop} {s : Shared} {op : CmpOp} {p q : Addr} {T : Value} {id : String} {Q : Value → Shared → Prop}
theorem rich_same (hu : A.units < cLine) (ha : Looks (model prog0 w) s.heap (typeOf (.ref p)) T) (hb : Looks (model prog0 w) s.heap (typeOf (.ref q)) T)
    (hl : Looks (model prog0 w) s.heap (typeLookup T (cmpInfo op).2.1) (some (.builtin id))) (hbind : ∀ self, bindSpecial (.builtin id) self = pure (.builtin id, [self]))
    (h : wpAny (model prog0 w) A (call (.builtin id) [.ref p, .ref q]) (fun v s' => ∃ bb, v = .bool bb ∧ Q (.bool bb) s') E s) : wpAny (model prog0 w) A (richCompare op (.ref p) (.ref q)) Q E s := by
  have bound : wpAny (model prog0 w) A (callSpecialIfBound? (.ref p) (cmpInfo op).2.1 [.ref q]) (fun r s' => ∃ bb, r = some (.bool bb) ∧ Q (.bool bb) s') E s := by
    simp only [callSpecialIfBound?, bindSpecialIfBound?]
    refine wpAny_holding (wpAny_bind (wpAny_bind (wpAny_bind (ha.here (hl.here ?_)))))
    refine wpAny_bind (wpAny_askSetting (wpAny_ite ?_))
    have fin : wpAny (model prog0 w) A (call (.builtin id) ([.ref p] ++ [.ref q]) >>= fun v => pure (some v)) (fun r s' => ∃ bb, r = some (.bool bb) ∧ Q (.bool bb) s') E s :=
      wpAny_bind (wpAny_mono h (fun v s' h' => by obtain ⟨bb, rfl, hq⟩ := h'; exact wpAny_pure ⟨bb, rfl, hq⟩) fun _ _ h' => h')
    split
    · exact wpAny_bind (by rw [hbind]; exact wpAny_pure (wpAny_pure (by exact fin)))
    · exact wpAny_tryCatch (wpAny_bind (by rw [hbind]; exact wpAny_pure (wpAny_pure (by exact fin))))
  have one : wpAny (model prog0 w) A (tryCompare (.ref p) (cmpInfo op).2.1 (.ref q)) (fun r s' => ∃ v, r = some v ∧ Q v s') E s := by
    unfold tryCompare
    refine wpAny_bind (wpAny_mono bound (fun r s' h' => ?_) fun _ _ e => e)
    obtain ⟨bb, rfl, hq⟩ := h'
    exact wpAny_pure ⟨_, rfl, hq⟩
  unfold richCompare
  simp only [oneThing_ref]
  refine wpAny_holding (wpAny_bind (wpAny_cRoomFor hu ?_))
  refine wpAny_bind (ha.here (wpAny_bind (hb.here ?_)))
  rw [show (T != T) = false by simp]
  refine wpAny_bind (wpAny_pure ?_)
  simp only [Bool.false_eq_true, if_false]
  refine wpAny_bind (wpAny_mono one (fun r s' z => ?_) fun _ _ e => e)
  obtain ⟨v, rfl, hq⟩ := z
  exact wpAny_pure hq

theorem pt_lt {h₀ : Heap} {L d d' : Addr} {m : Str → Option Value} {news : List (Addr × Obj)} {x y x' y' : Int} {tx ty tx' ty' : Tok} (hu : A.units < cLine) (F₀ : Fr h₀ L s.heap m) (X₀ : (hd.heap_1 w.params).In h₀) (N : News h₀ L s.heap news)
    (hp : (p, ptO d x tx y ty) ∈ news) (hpd : (d, dictOf [] 0) ∈ news) (hq : (q, ptO d' x' tx' y' ty') ∈ news) (hqd : (d', dictOf [] 0) ∈ news)
    (h : Q (.bool (lexlt x y x' y')) s) : wpAny (model prog0 w) A (compareOp .Lt (.ref p) (.ref q)) Q E s := by
  have X := X₀.keeps F₀.keep
  have I := pt_inst N hp hpd
  have J := pt_inst N hq hqd
  have hs : subIn (hd.heap_1 w.params) (.ref 132) (.type "tuple") = some true := by k_is
  have hl : findIn (hd.heap_1 w.params) (.ref 132) (cmpInfo .Lt).2.1 = some (some (.builtin "tuple.__lt__")) := by
    show findIn (hd.heap_1 w.params) (.ref 132) (PySem.Str.ofString "__lt__") = some (some (.builtin "tuple.__lt__"))
    k_is
  refine cmp_ofLt (rich_same (T := .ref 132) (id := "tuple.__lt__") hu I.type J.type (looks_findIn X hl) F.slot_tuple_lt.bind ?_)
  refine wpAny_call (PySem.codeAny_call_builtin F.slot_tuple_lt.plain F.entry_tuple_lt ?_)
  refine @check_slot (model prog0 w) _ _ s "tuple.__lt__" "tuple" "__lt__" (.ref p) [.ref q] [] _ (by decide +kernel) (by decide +kernel) (I.type.andThen (looks_subIn X hs)) (F.args_tuple_lt_2 (.ref p) (.ref q)) ?_
  refine wpAny_mono (lt_body I.at_ J.at_ (looks_subIn X hs)) (fun fin s' z => ?_) fun _ _ z => z
  obtain ⟨rfl, rfl⟩ := z
  exact ⟨_, rfl, h⟩
end
abbrev tupO (x : Int) (tx : Tok) (y : Int) (ty : Tok) : Obj := { cls := .type "tuple", data := .seq #[.int x tx, .int y ty] }
section
variable {w : World} {A : Around} {E : Value → Shared → Prop} {s : Shared} {p q : Addr} {Q : Value → Shared → Prop} {x y x' y' : Int} {tx ty tx' ty' : Tok}
theorem tup_type {h : Heap} {a : Addr} {o : Obj} (ho : h.get? a = some o) (hc : o.cls = .type "tuple") : Looks (model prog0 w) h (typeOf (.ref a)) (.type "tuple") := by
  rw [← hc]; exact (Looks.ld ho).andThen .now
theorem tup_sub {h : Heap} : Looks (model prog0 w) h (isSubtype (.type "tuple") (.type "tuple")) true := Looks.of_pure AutoSeq1.sub_tuple_tuple
theorem tup_lt (hu : A.units < cLine) (hp : s.heap.get? p = some (tupO x tx y ty)) (hq : s.heap.get? q = some (tupO x' tx' y' ty'))
    (h : Q (.bool (lexlt x y x' y')) s) : wpAny (model prog0 w) A (compareOp .Lt (.ref p) (.ref q)) Q E s := by
  have I := tup_type (w := w) hp rfl
  have J := tup_type (w := w) hq rfl
  refine cmp_ofLt (rich_same (T := .type "tuple") (id := "tuple.__lt__") hu I J (Looks.of_pure F.slot_tuple_lt.lookup) F.slot_tuple_lt.bind ?_)
  refine wpAny_call (PySem.codeAny_call_builtin F.slot_tuple_lt.plain F.entry_tuple_lt ?_)
  refine @check_slot (model prog0 w) _ _ s "tuple.__lt__" "tuple" "__lt__" (.ref p) [.ref q] [] _ (by decide +kernel) (by decide +kernel) (I.andThen tup_sub) (F.args_tuple_lt_2 (.ref p) (.ref q)) ?_
  refine wpAny_mono (lt_body hp hq tup_sub) (fun fin s' z => ?_) fun _ _ z => z
  obtain ⟨rfl, rfl⟩ := z
  exact ⟨_, rfl, h⟩
theorem tup_le (hu : A.units < cLine) (hp : s.heap.get? p = some (tupO x tx y ty)) (hq : s.heap.get? q = some (tupO x' tx' y' ty'))
    (h : Q (.bool (lexle x y x' y')) s) : wpAny (model prog0 w) A (compareOp .LtE (.ref p) (.ref q)) Q E s := by
  have I := tup_type (w := w) hp rfl
  have J := tup_type (w := w) hq rfl
  refine cmp_ofLtE (rich_same (T := .type "tuple") (id := "tuple.__le__") hu I J (Looks.of_pure F.slot_tuple_le.lookup) F.slot_tuple_le.bind ?_)
  refine wpAny_call (PySem.codeAny_call_builtin F.slot_tuple_le.plain F.entry_tuple_le ?_)
  refine @check_slot (model prog0 w) _ _ s "tuple.__le__" "tuple" "__le__" (.ref p) [.ref q] [] _ (by decide +kernel) (by decide +kernel) (I.andThen tup_sub) (F.args_tuple_le_2 (.ref p) (.ref q)) ?_
  refine wpAny_mono (le_body hp hq tup_sub) (fun fin s' z => ?_) fun _ _ z => z
  obtain ⟨rfl, rfl⟩ := z
  exact ⟨_, rfl, h⟩
theorem tup_gt (hu : A.units < cLine) (hp : s.heap.get? p = some (tupO x tx y ty)) (hq : s.heap.get? q = some (tupO x' tx' y' ty'))
    (h : Q (.bool (lexgt x y x' y')) s) : wpAny (model prog0 w) A (compareOp .Gt (.ref p) (.ref q)) Q E s := by
  have I := tup_type (w := w) hp rfl
  have J := tup_type (w := w) hq rfl
  refine cmp_ofGt (rich_same (T := .type "tuple") (id := "tuple.__gt__") hu I J (Looks.of_pure F.slot_tuple_gt.lookup) F.slot_tuple_gt.bind ?_)
  refine wpAny_call (PySem.codeAny_call_builtin F.slot_tuple_gt.plain F.entry_tuple_gt ?_)
  refine @check_slot (model prog0 w) _ _ s "tuple.__gt__" "tuple" "__gt__" (.ref p) [.ref q] [] _ (by decide +kernel) (by decide +kernel) (I.andThen tup_sub) (F.args_tuple_gt_2 (.ref p) (.ref q)) ?_
  refine wpAny_mono (gt_body hp hq tup_sub) (fun fin s' z => ?_) fun _ _ z => z
  obtain ⟨rfl, rfl⟩ := z
  exact ⟨_, rfl, h⟩
theorem reads_t {h : Heap} (hp : h.get? p = some (tupO x tx y ty)) : Reads h (.ref p) (.tuple [.int x, .int y]) [] :=
  .tuple hp rfl rfl (.cons (.int _ _) (.cons (.int _ _) .nil))
theorem eqv_t : PyData.eqv (.tuple [.int x, .int y]) (.tuple [.int x', .int y']) = decide (x = x' ∧ y = y') := by
  simp [PyData.eqv, PyData.eqvAll]
  rfl
theorem eq_t {Q : Bool → Shared → Prop} (hu : A.units + 64 < cLine) (hp : s.heap.get? p = some (tupO x tx y ty)) (hq : s.heap.get? q = some (tupO x' tx' y' ty'))
    (h : Q (decide (x = x' ∧ y = y')) s) : wpAny (model prog0 w) A (eqBool (.ref p) (.ref q)) Q E s := by
  refine SeqAt.eqBoolOverData _ _ _ _ _ _ _ _ _ _ _ _ (reads_t hp) (reads_t hq) (by rfl) (by rfl) ?_ (by rw [eqv_t]; exact h)
  have : min (PyData.depth (.tuple [.int x, .int y])) (PyData.depth (.tuple [.int x', .int y'])) ≤ 64 := by
    simp [PyData.depth, PyData.depthAll]
  omega
end
end Mine
end
section
open PySem PySem.W PySem.W.X PyProof.Rows
set_option Elab.async false
set_option maxRecDepth 100000
set_option maxHeartbeats 0
namespace Mine
def Sz (k : Nat) (a : Int) : Prop := a.natAbs < 2 ^ k
def orient (vx vy fx fy sx sy : Int) : Int := (fx - vx) * (sy - vy) - (fy - vy) * (sx - vx)
def oriA (z : Int) : Addr := if 0 < z then 171 else if z < 0 then 165 else 168
theorem oriA_pos {z : Int} (h : 0 < z) : 171 = oriA z := by simp [oriA, h]
theorem oriA_neg {z : Int} (h : ¬ 0 < z) (h' : z < 0) : 165 = oriA z := by simp [oriA, h, h']
theorem oriA_zero {z : Int} (h : ¬ 0 < z) (h' : ¬ z < 0) : 168 = oriA z := by simp [oriA, h, h']
theorem sz_sub {B : Nat} {a b : Int} (ha : Sz B a) (hb : Sz B b) : Sz (B + 1) (a - b) := by
  unfold Sz at *
  have : 2 ^ (B + 1) = 2 ^ B + 2 ^ B := by rw [Nat.pow_succ]; omega
  omega
theorem sz_bits {B : Nat} {a : Int} (ha : Sz B a) : Builtin.Int.intBits a ≤ B := by
  unfold Sz at ha
  unfold Builtin.Int.intBits
  split
  · omega
  · rename_i h
    have h0 : a.natAbs ≠ 0 := by simpa using h
    have := (Nat.log2_lt h0).mpr ha
    omega
theorem mul_sz {B C : Nat} {a b : Int} (ha : Sz B a) (hb : Sz C b) (h : B + C ≤ 134217728) : IntMulOk a b := by
  have h1 := sz_bits ha
  have h2 := sz_bits hb
  unfold IntMulOk
  have e : Builtin.Int.intTooBig (↑(Builtin.Int.intBits a) + ↑(Builtin.Int.intBits b)) = false := by
    unfold Builtin.Int.intTooBig
    have : bitsLine = 134217728 := by decide
    rw [this]
    exact decide_eq_false (by omega)
  rw [e, Bool.and_false]
  exact Bool.false_ne_true
local macro_rules | `(tactic| k_mem) => `(tactic| assumption)
local macro_rules | `(tactic| k_inst) => `(tactic| exact pt_inst (by k_asm) (by assumption) (by assumption))
section
variable {A₀ A : Around} {base h₀ : Heap} {outer : List Env} {L fa : Addr} {m mg mb : Str → Option Value} {s : Shared} {news : List (Addr × Obj)} {mean : ExcName → Option Value}
    {qn : Str} {nm : List (Str × NameKind)} {mo : List (Str × Const)} {cd : Value} {w : World} {loose : List Str} {R : Result → Shared → Prop} {prog1 : Program}
    {v f g d1 d2 d3 c : Addr} {vx vy fx fy sx sy : Int} {t1 t2 t3 t4 t5 t6 : Tok} {BB : Nat}
theorem call_ori
    (B : Below A₀ base outer h₀) (F : Fr h₀ L s.heap m) (X : (hd.heap_1 w.params).In h₀) (N : News h₀ L s.heap news) (T : Top prog1 loose mean mg mb h₀)
    (hv : (v, ptO d1 vx t1 vy t2) ∈ news) (hvd : (d1, dictOf [] 0) ∈ news) (hf : (f, ptO d2 fx t3 fy t4) ∈ news) (hfd : (d2, dictOf [] 0) ∈ news)
    (hg : (g, ptO d3 sx t5 sy t6) ∈ news) (hgd : (d3, dictOf [] 0) ∈ news) (hB : 2 * (BB + 1) ≤ 134217728)
    (z1 : Sz BB vx) (z2 : Sz BB vy) (z3 : Sz BB fx) (z4 : Sz BB fy) (z5 : Sz BB sx) (z6 : Sz BB sy)
    (h : ∀ h' tk a, a = oriA (orient vx vy fx fy sx sy) → Fr h₀ L h' m → News h₀ L h' news → R (.ok (.ret (.ref a))) { s with heap := h', toks := tk }) :
    codeAny (model prog0 w) { handled := none, depth := 590, frames := some (envOf qn ⟨.function, nm, false, false, mo⟩ L fa cd :: outer), units := 380 } (.call (.ref 207) ⟨[.ref c, .ref v, .ref f, .ref g], []⟩) R s := by
  k_with_none
  k_with "getAttr ref" => (k_here; (with_reducible show wpAny _ _ (getAttr (Value.ref _) (PySem.Str.ofString "x") _) _ _ _); k_dflt (refine get_x' (by exact rfl) (by exact Nat.le_of_ble_eq_true rfl) (by exact Nat.le_of_ble_eq_true rfl) (by exact rfl) (by k_asm) (by k_asm) (by k_asm) (by k_asm) (by k_asm) (by k_mem) (by k_mem) ?_; k_whole; intro h' tk' F' N'; (try k_sweep)))
  k_with "getAttr ref" => (k_here; (with_reducible show wpAny _ _ (getAttr (Value.ref _) (PySem.Str.ofString "y") _) _ _ _); k_dflt (refine get_y' (by exact rfl) (by exact Nat.le_of_ble_eq_true rfl) (by exact Nat.le_of_ble_eq_true rfl) (by exact rfl) (by k_asm) (by k_asm) (by k_asm) (by k_asm) (by k_asm) (by k_mem) (by k_mem) ?_; k_whole; intro h' tk' F' N'; (try k_sweep)))
  k_with "binaryOp Mult int int" => (refine mul_int ?_ (mul_sz (sz_sub (by assumption) (by assumption)) (sz_sub (by assumption) (by assumption)) (by omega)))
  k_enter
  repeat' (first | (k_unfold; (try dsimp only)) | (k_end; wrow_close) | walk1 | (dsimp only; walk1) | (leave1; walk_say "STEP leave1"; try dsimp only))
  · exact h _ _ _ (oriA_pos (by assumption)) (by assumption) (by assumption)
  · exact h _ _ _ (oriA_neg (by assumption) (by assumption)) (by assumption) (by assumption)
  · exact h _ _ _ (oriA_zero (by assumption) (by assumption)) (by assumption) (by assumption)
end
end Mine
end
section
open PySem PySem.W PySem.W.X PyProof.Rows
set_option Elab.async false
set_option maxRecDepth 100000
set_option maxHeartbeats 0
namespace Mine
def KindA (a : Addr) : Prop := a = 165 ∨ a = 168 ∨ a = 171
theorem kindA_ori {z : Int} : KindA (oriA z) := by
  unfold KindA oriA
  split
  · exact .inr (.inr rfl)
  · split
    · exact .inl rfl
    · exact .inr (.inl rfl)
theorem kind_at {w : World} {h : Heap} (X : (hd.heap_1 w.params).In h) {a : Addr} (ha : KindA a) : ∃ o, h.get? a = some o ∧ o.cls = .ref 152 := by
  rcases ha with rfl | rfl | rfl
  · exact ⟨_, X _ _ (by k_is), rfl⟩
  · exact ⟨_, X _ _ (by k_is), rfl⟩
  · exact ⟨_, X _ _ (by k_is), rfl⟩
theorem is_kind {w : World} {A : Around} {E : Value → Shared → Prop} {s : Shared} {Q : Value → Shared → Prop} {h₀ : Heap} {L a b : Addr} {m : Str → Option Value} (F : Fr h₀ L s.heap m) (X : (hd.heap_1 w.params).In h₀) (ha : KindA a) (hb : KindA b)
    (h : Q (.bool (decide (a = b))) s) : wpAny (model prog0 w) A (compareOp .Is (.ref a) (.ref b)) Q E s := by
  by_cases e : a = b
  · subst e
    exact wpAny_is_ref_self (by simpa using h)
  · obtain ⟨oa, ha1, ha2⟩ := kind_at (X.keeps F.keep) ha
    obtain ⟨ob, hb1, hb2⟩ := kind_at (X.keeps F.keep) hb
    exact wpAny_is_ref_other e ha1 hb1 (by rw [ha2]; intro z; cases z) (by simpa [e] using h)
theorem isNot_kind {w : World} {A : Around} {E : Value → Shared → Prop} {s : Shared} {Q : Value → Shared → Prop} {h₀ : Heap} {L a b : Addr} {m : Str → Option Value} (F : Fr h₀ L s.heap m) (X : (hd.heap_1 w.params).In h₀) (ha : KindA a) (hb : KindA b)
    (h : Q (.bool (!decide (a = b))) s) : wpAny (model prog0 w) A (compareOp .IsNot (.ref a) (.ref b)) Q E s := by
  by_cases e : a = b
  · subst e
    exact wpAny_isNot_ref_self (by simpa using h)
  · obtain ⟨oa, ha1, ha2⟩ := kind_at (X.keeps F.keep) ha
    obtain ⟨ob, hb1, hb2⟩ := kind_at (X.keeps F.keep) hb
    exact wpAny_isNot_ref_other e ha1 hb1 (by rw [ha2]; intro z; cases z) (by simpa [e] using h)
theorem item_l {prog : Program} {w : World} {A : Around} {E : Value → Shared → Prop} {s : Shared} {Q : Value → Shared → Prop} {h₀ : Heap} {L l : Addr} {news : List (Addr × Obj)} {value slice : PySem.Expr} {vs : Array Value} {n : Nat} {k : Int} {u : Tok} {v : Value}
    (N : News h₀ L s.heap news) (hl : (l, listOf vs n) ∈ news) (h0 : 0 ≤ k) (hhi : k < 2 ^ 63) (hx : vs[k.toNat]? = some v) (h : Q v s)
    (hs : subscripted slice false (.ref l) (.int k u) = operate [.ref l, .int k u] (getItem (.ref l) (.int k u)) := by with_unfolding_all rfl) :
    wpAny (model prog w) A (subscriptTail value slice (.ref l) (.int k u)) Q E s :=
  have hL : s.heap.IsList l vs := ⟨_, (N _ hl).1, rfl, _, rfl⟩
  tail_any hL.typeIs slot_list_getitem.lookup (wpAny_getItem_list hL h0 hhi hx h) hs
section
variable {A₀ A : Around} {base h₀ : Heap} {outer : List Env} {L fa : Addr} {m mg mb : Str → Option Value} {news : List (Addr × Obj)} {mean : ExcName → Option Value} {E : Value → Shared → Prop} {Q : Value → Shared → Prop}
    {qn : Str} {nm : List (Str × NameKind)} {mo : List (Str × Const)} {cd : Value} {w : World} {loose : List Str} {R : Result → Shared → Prop} {prog1 : Program} {hp : Heap} {gg : Array GenState} {dr : Drawn} {t : Nat} {os : OsState}
    {v f g d1 d2 d3 c q : Addr} {vx vy fx fy sx sy : Int} {t1 t2 t3 t4 t5 t6 : Tok} {BB : Nat}
theorem ori_K
    (hh : A.handled = none) (hdp : A.depth ≤ 590) (hu : A.units ≤ 380) (hfr : A.frames = some (envOf qn ⟨.function, nm, false, false, mo⟩ L fa cd :: outer))
    (B : Below A₀ base outer h₀) (F : Fr h₀ L hp m) (X : (hd.heap_1 w.params).In h₀) (N : News h₀ L hp news) (T : Top prog1 loose mean mg mb h₀)
    (hq : (q, methodObj (.ref 207) (.ref c)) ∈ news)
    (hv : (v, ptO d1 vx t1 vy t2) ∈ news) (hvd : (d1, dictOf [] 0) ∈ news) (hf : (f, ptO d2 fx t3 fy t4) ∈ news) (hfd : (d2, dictOf [] 0) ∈ news)
    (hg : (g, ptO d3 sx t5 sy t6) ∈ news) (hgd : (d3, dictOf [] 0) ∈ news)
    (z1 : Sz BB vx) (z2 : Sz BB vy) (z3 : Sz BB fx) (z4 : Sz BB fy) (z5 : Sz BB sx) (z6 : Sz BB sy) (hB : 2 * (BB + 1) ≤ 134217728)
    (h : ∀ h' tk a, a = oriA (orient vx vy fx fy sx sy) → KindA a → Fr h₀ L h' m → News h₀ L h' news → Q (.ref a) ⟨h', gg, dr, tk, os⟩) :
    wpAny (model prog0 w) A (call (.ref q) [.ref v, .ref f, .ref g]) Q E ⟨hp, gg, dr, t, os⟩ :=
  call_meth (s := ⟨hp, gg, dr, t, os⟩) N hq (code_lv (d := 590) (u := 380) hh hdp hu hfr (call_ori B F X N T hv hvd hf hfd hg hgd hB z1 z2 z3 z4 z5 z6 fun h' tk a ha F' N' => h h' tk a ha (ha ▸ kindA_ori) F' N'))
end
end Mine
end
section
open PySem PySem.W PySem.W.X PyProof.Rows
set_option Elab.async false
set_option maxRecDepth 100000
set_option maxHeartbeats 0
namespace Mine
def sweepB (sx sy ex ey ox oy px py : Int) : Bool :=
  if oriA (orient sx sy ex ey ox oy) = oriA (orient sx sy ex ey px py) then
    (if oriA (orient sx sy ex ey ox oy) ≠ 168 then decide (oriA (orient sx sy ex ey ox oy) = 171)
     else if sy = oy then (if sx ≠ ox then decide (sx < ox) else if ey ≠ py then decide (ey < py) else decide (ex < px)) else decide (sy < oy))
  else if oriA (orient ox oy px py sx sy) = oriA (orient ox oy px py ex ey) then decide (oriA (orient ox oy px py sx sy) = 165)
  else if oriA (orient sx sy ex ey ox oy) = 168 then decide (oriA (orient sx sy ex ey px py) = 171)
  else if oriA (orient ox oy px py sx sy) = 168 then decide (oriA (orient ox oy px py ex ey) = 165)
  else if oriA (orient ox oy px py ex ey) = 168 then decide (oriA (orient ox oy px py sx sy) = 165)
  else decide (oriA (orient sx sy ex ey ox oy) = 171)
theorem news_sub {h₀ h : Heap} {L : Addr} {l l' : List (Addr × Obj)} (N : News h₀ L h l') (hs : ∀ p ∈ l, p ∈ l') : News h₀ L h l := fun p hp => N p (hs p hp)
section
variable {sx sy ex ey ox oy px py : Int} {a1 a2 a3 a4 : Addr}
theorem sw1 (h1 : a1 = oriA (orient sx sy ex ey ox oy)) (h2 : a2 = oriA (orient sx sy ex ey px py)) (e : a1 = a2) (c : a1 = 168) (c2 : sy = oy) (c3 : sx ≠ ox) : decide (sx < ox) = sweepB sx sy ex ey ox oy px py := by
  unfold sweepB; rw [← h1, ← h2, if_pos e, if_neg (by simpa using c), if_pos c2, if_pos c3]
theorem sw2 (h1 : a1 = oriA (orient sx sy ex ey ox oy)) (h2 : a2 = oriA (orient sx sy ex ey px py)) (e : a1 = a2) (c : a1 = 168) (c2 : sy = oy) (c3 : sx = ox) (c4 : ey ≠ py) : decide (ey < py) = sweepB sx sy ex ey ox oy px py := by
  unfold sweepB; rw [← h1, ← h2, if_pos e, if_neg (by simpa using c), if_pos c2, if_neg (by simpa using c3), if_pos c4]
theorem sw3 (h1 : a1 = oriA (orient sx sy ex ey ox oy)) (h2 : a2 = oriA (orient sx sy ex ey px py)) (e : a1 = a2) (c : a1 = 168) (c2 : sy = oy) (c3 : sx = ox) (c4 : ey = py) : decide (ex < px) = sweepB sx sy ex ey ox oy px py := by
  unfold sweepB; rw [← h1, ← h2, if_pos e, if_neg (by simpa using c), if_pos c2, if_neg (by simpa using c3), if_neg (by simpa using c4)]
theorem sw4 (h1 : a1 = oriA (orient sx sy ex ey ox oy)) (h2 : a2 = oriA (orient sx sy ex ey px py)) (e : a1 = a2) (c : a1 = 168) (c2 : sy ≠ oy) : decide (sy < oy) = sweepB sx sy ex ey ox oy px py := by
  unfold sweepB; rw [← h1, ← h2, if_pos e, if_neg (by simpa using c), if_neg c2]
theorem sw5 (h1 : a1 = oriA (orient sx sy ex ey ox oy)) (h2 : a2 = oriA (orient sx sy ex ey px py)) (e : a1 = a2) (c : ¬ a1 = 168) : decide (a1 = 171) = sweepB sx sy ex ey ox oy px py := by
  unfold sweepB; rw [← h1, ← h2, if_pos e, if_pos c]
theorem sw6 (h1 : a1 = oriA (orient sx sy ex ey ox oy)) (h2 : a2 = oriA (orient sx sy ex ey px py)) (h3 : a3 = oriA (orient ox oy px py sx sy)) (h4 : a4 = oriA (orient ox oy px py ex ey)) (e : ¬ a1 = a2) (c : a3 = a4) : decide (a3 = 165) = sweepB sx sy ex ey ox oy px py := by
  unfold sweepB; rw [← h1, ← h2, ← h3, ← h4, if_neg e, if_pos c]
theorem sw7 (h1 : a1 = oriA (orient sx sy ex ey ox oy)) (h2 : a2 = oriA (orient sx sy ex ey px py)) (h3 : a3 = oriA (orient ox oy px py sx sy)) (h4 : a4 = oriA (orient ox oy px py ex ey)) (e : ¬ a1 = a2) (c : ¬ a3 = a4) (c2 : a1 = 168) : decide (a2 = 171) = sweepB sx sy ex ey ox oy px py := by
  unfold sweepB; rw [← h1, ← h2, ← h3, ← h4, if_neg e, if_neg c, if_pos c2]
theorem sw8 (h1 : a1 = oriA (orient sx sy ex ey ox oy)) (h2 : a2 = oriA (orient sx sy ex ey px py)) (h3 : a3 = oriA (orient ox oy px py sx sy)) (h4 : a4 = oriA (orient ox oy px py ex ey)) (e : ¬ a1 = a2) (c : ¬ a3 = a4) (c2 : ¬ a1 = 168) (c3 : a3 = 168) : decide (a4 = 165) = sweepB sx sy ex ey ox oy px py := by
  unfold sweepB; rw [← h1, ← h2, ← h3, ← h4, if_neg e, if_neg c, if_neg c2, if_pos c3]
theorem sw9 (h1 : a1 = oriA (orient sx sy ex ey ox oy)) (h2 : a2 = oriA (orient sx sy ex ey px py)) (h3 : a3 = oriA (orient ox oy px py sx sy)) (h4 : a4 = oriA (orient ox oy px py ex ey)) (e : ¬ a1 = a2) (c : ¬ a3 = a4) (c2 : ¬ a1 = 168) (c3 : ¬ a3 = 168) (c4 : a4 = 168) : decide (a3 = 165) = sweepB sx sy ex ey ox oy px py := by
  unfold sweepB; rw [← h1, ← h2, ← h3, ← h4, if_neg e, if_neg c, if_neg c2, if_neg c3, if_pos c4]
theorem sw10 (h1 : a1 = oriA (orient sx sy ex ey ox oy)) (h2 : a2 = oriA (orient sx sy ex ey px py)) (h3 : a3 = oriA (orient ox oy px py sx sy)) (h4 : a4 = oriA (orient ox oy px py ex ey)) (e : ¬ a1 = a2) (c : ¬ a3 = a4) (c2 : ¬ a1 = 168) (c3 : ¬ a3 = 168) (c4 : ¬ a4 = 168) : decide (a1 = 171) = sweepB sx sy ex ey ox oy px py := by
  unfold sweepB; rw [← h1, ← h2, ← h3, ← h4, if_neg e, if_neg c, if_neg c2, if_neg c3, if_neg c4]
end
local macro_rules | `(tactic| k_mem) => `(tactic| assumption)
section
variable {A₀ A : Around} {base h₀ : Heap} {outer : List Env} {L fa : Addr} {m mg mb : Str → Option Value} {s : Shared} {news : List (Addr × Obj)} {mean : ExcName → Option Value}
    {qn : Str} {nm : List (Str × NameKind)} {mo : List (Str × Const)} {cd : Value} {w : World} {loose : List Str} {R : Result → Shared → Prop} {prog1 : Program}
    {k1 k2 e1 e2 pl ol q c s1 n1 s2 n2 d1 d2 d3 d4 : Addr} {g1 g2 g3 g4 g5 g6 g7 g8 : Int} {u1 u2 u3 u4 u5 u6 u7 u8 ti tj tk1 tk2 : Tok} {i j oi oj : Int} {pv ov : Array Value} {np no : Nat} {sx sy ex ey ox oy px py : Int} {t1 t2 t3 t4 t5 t6 t7 t8 : Tok} {BB : Nat}
theorem call_slk
    (B : Below A₀ base outer h₀) (F : Fr h₀ L s.heap m) (X : (hd.heap_1 w.params).In h₀) (N : News h₀ L s.heap news) (T : Top prog1 loose mean mg mb h₀)
    (hk1 : (k1, instObj 245 e1) ∈ news) (he1 : (e1, dictOf [⟨g1, .str (PySem.Str.ofString "endpoints") u1, .ref pl⟩, ⟨g2, .str (PySem.Str.ofString "event") u2, .int i ti⟩, ⟨g3, .str (PySem.Str.ofString "opposites") u3, .ref ol⟩, ⟨g4, .str (PySem.Str.ofString "_orienteer") u4, .ref q⟩] 4) ∈ news)
    (hk2 : (k2, instObj 245 e2) ∈ news) (he2 : (e2, dictOf [⟨g5, .str (PySem.Str.ofString "endpoints") u5, .ref pl⟩, ⟨g6, .str (PySem.Str.ofString "event") u6, .int j tj⟩, ⟨g7, .str (PySem.Str.ofString "opposites") u7, .ref ol⟩, ⟨g8, .str (PySem.Str.ofString "_orienteer") u8, .ref q⟩] 4) ∈ news)
    (hq : (q, methodObj (.ref 207) (.ref c)) ∈ news) (hpl : (pl, listOf pv np) ∈ news) (hol : (ol, listOf ov no) ∈ news)
    (i0 : 0 ≤ i) (i1 : i < 2 ^ 63) (j0 : 0 ≤ j) (j1 : j < 2 ^ 63) (oi0 : 0 ≤ oi) (oi1 : oi < 2 ^ 63) (oj0 : 0 ≤ oj) (oj1 : oj < 2 ^ 63)
    (gi : pv[i.toNat]? = some (.ref s1)) (gj : pv[j.toNat]? = some (.ref s2)) (hoi : ov[i.toNat]? = some (.int oi tk1)) (hoj : ov[j.toNat]? = some (.int oj tk2))
    (goi : pv[oi.toNat]? = some (.ref n1)) (goj : pv[oj.toNat]? = some (.ref n2))
    (p1 : (s1, ptO d1 sx t1 sy t2) ∈ news) (q1 : (d1, dictOf [] 0) ∈ news) (p2 : (n1, ptO d2 ex t3 ey t4) ∈ news) (q2 : (d2, dictOf [] 0) ∈ news)
    (p3 : (s2, ptO d3 ox t5 oy t6) ∈ news) (q3 : (d3, dictOf [] 0) ∈ news) (p4 : (n2, ptO d4 px t7 py t8) ∈ news) (q4 : (d4, dictOf [] 0) ∈ news)
    (hB : 2 * (BB + 1) ≤ 134217728)
    (z1 : Sz BB sx) (z2 : Sz BB sy) (z3 : Sz BB ex) (z4 : Sz BB ey) (z5 : Sz BB ox) (z6 : Sz BB oy) (z7 : Sz BB px) (z8 : Sz BB py)
    (h : ∀ h' tk b, b = sweepB sx sy ex ey ox oy px py → Fr h₀ L h' m → News h₀ L h' news → R (.ok (.ret (.bool b))) { s with heap := h', toks := tk }) :
    codeAny (model prog0 w) { handled := none, depth := 500, frames := some (envOf qn ⟨.function, nm, false, false, mo⟩ L fa cd :: outer), units := 300 } (.call (.ref 242) ⟨[.ref k1, .ref k2], []⟩) R s := by
  obtain ⟨hp, gg, dr, tk0, os⟩ := s
  dsimp only at F N h
  k_with_none
  k_with "getAttr ref" => (k_here; (with_reducible show wpAny _ _ (getAttr (Value.ref _) (PySem.Str.ofString "x") _) _ _ _); k_dflt (refine get_x' (by exact rfl) (by exact Nat.le_of_ble_eq_true rfl) (by exact Nat.le_of_ble_eq_true rfl) (by exact rfl) (by k_asm) (by k_asm) (by k_asm) (by k_asm) (by k_asm) (by k_mem) (by k_mem) ?_; k_whole; intro h' tk' F' N'; (try k_sweep)))
  k_with "getAttr ref" => (k_here; (with_reducible show wpAny _ _ (getAttr (Value.ref _) (PySem.Str.ofString "y") _) _ _ _); k_dflt (refine get_y' (by exact rfl) (by exact Nat.le_of_ble_eq_true rfl) (by exact Nat.le_of_ble_eq_true rfl) (by exact rfl) (by k_asm) (by k_asm) (by k_asm) (by k_asm) (by k_asm) (by k_mem) (by k_mem) ?_; k_whole; intro h' tk' F' N'; (try k_sweep)))
  k_with "compareOp Is ref ref" => (k_here; k_dflt (refine is_kind (by k_asm) (by k_asm) (by (first | assumption | exact .inl rfl | exact .inr (.inl rfl) | exact .inr (.inr rfl))) (by (first | assumption | exact .inl rfl | exact .inr (.inl rfl) | exact .inr (.inr rfl))) ?_))
  k_with "compareOp IsNot ref ref" => (k_here; k_dflt (refine isNot_kind (by k_asm) (by k_asm) (by (first | assumption | exact .inl rfl | exact .inr (.inl rfl) | exact .inr (.inr rfl))) (by (first | assumption | exact .inl rfl | exact .inr (.inl rfl) | exact .inr (.inr rfl))) ?_))
  k_with "getMethod ref" => (k_here; k_dflt (refine kmu_own (by k_asm) (by k_asm) (by k_inst) (by k_is) (by k_is) ?_; k_whole))
  k_with "subscriptTail Name" => (k_here; (with_reducible show wpAny _ _ (subscriptTail _ _ (Value.ref _) (Value.int _ _)) _ _ _); k_dflt (refine item_l (by k_asm) (by k_mem) (by assumption) (by assumption) (by assumption) ?_))
  k_with "subscriptTail" => (k_here; (with_reducible show wpAny _ _ (subscriptTail _ _ (Value.ref _) (Value.int _ _)) _ _ _); k_dflt (refine item_l (by k_asm) (by k_mem) (by assumption) (by assumption) (by assumption) ?_))
  k_with "call ref" => (k_here; (with_reducible show wpAny _ _ (call (Value.ref _) [Value.ref _, Value.ref _, Value.ref _]) _ _ _); k_dflt (refine ori_K rfl (Nat.le_of_ble_eq_true rfl) (Nat.le_of_ble_eq_true rfl) rfl (by k_asm) (by k_asm) (by k_asm) (by k_asm) (by k_asm) (by k_mem) (by k_mem) (by k_mem) (by k_mem) (by k_mem) (by k_mem) (by k_mem) (by assumption) (by assumption) (by assumption) (by assumption) (by assumption) (by assumption) (by assumption) ?_); intro h' tk' a' ha' hk' F' N'; (try k_sweep))
  k_enter
  repeat' (first | (k_unfold; (try dsimp only)) | (k_end; wrow_close) | (walk1 <;> (try dsimp only)) | (dsimp only; walk1) | (leave1; walk_say "STEP leave1"; try dsimp only))
  all_goals refine h _ _ _ ?_ (by assumption) (by ((refine news_sub (by assumption) ?_; intro p hp; repeat (first | exact hp | refine List.Mem.tail _ ?_))))
  all_goals first
    | exact sw1 (by with_reducible assumption) (by with_reducible assumption) (by with_reducible assumption) (by with_reducible assumption) (by with_reducible assumption) (by with_reducible assumption)
    | exact sw2 (by with_reducible assumption) (by with_reducible assumption) (by with_reducible assumption) (by with_reducible assumption) (by with_reducible assumption) (by with_reducible assumption) (by with_reducible assumption)
    | exact sw3 (by with_reducible assumption) (by with_reducible assumption) (by with_reducible assumption) (by with_reducible assumption) (by with_reducible assumption) (by with_reducible assumption) (by with_reducible assumption)
    | exact sw4 (by with_reducible assumption) (by with_reducible assumption) (by with_reducible assumption) (by with_reducible assumption) (by with_reducible assumption)
    | exact sw5 (by with_reducible assumption) (by with_reducible assumption) (by with_reducible assumption) (by with_reducible assumption)
    | exact sw6 (by with_reducible assumption) (by with_reducible assumption) (by with_reducible assumption) (by with_reducible assumption) (by with_reducible assumption) (by with_reducible assumption)
    | exact sw7 (by with_reducible assumption) (by with_reducible assumption) (by with_reducible assumption) (by with_reducible assumption) (by with_reducible assumption) (by with_reducible assumption) (by with_reducible assumption)
    | exact sw8 (by with_reducible assumption) (by with_reducible assumption) (by with_reducible assumption) (by with_reducible assumption) (by with_reducible assumption) (by with_reducible assumption) (by with_reducible assumption) (by with_reducible assumption)
    | exact sw9 (by with_reducible assumption) (by with_reducible assumption) (by with_reducible assumption) (by with_reducible assumption) (by with_reducible assumption) (by with_reducible assumption) (by with_reducible assumption) (by with_reducible assumption) (by with_reducible assumption)
    | exact sw10 (by with_reducible assumption) (by with_reducible assumption) (by with_reducible assumption) (by with_reducible assumption) (by with_reducible assumption) (by with_reducible assumption) (by with_reducible assumption) (by with_reducible assumption) (by with_reducible assumption)
end
end Mine
end
section
open PySem PySem.W PySem.W.X PyProof.Rows
set_option Elab.async false
set_option maxRecDepth 100000
set_option maxHeartbeats 0
namespace Mine
def evqB (i j sx sy ex ey ox oy px py : Int) : Bool :=
  if sx ≠ ox then decide (sx < ox) else if sy ≠ oy then decide (sy < oy) else if i % 2 ≠ j % 2 then decide (i % 2 ≠ 0) else lexlt ex ey px py
section
variable {i j sx sy ex ey ox oy px py : Int}
theorem ev1 (c : sx ≠ ox) : decide (sx < ox) = evqB i j sx sy ex ey ox oy px py := by unfold evqB; rw [if_pos c]
theorem ev2 (c : sx = ox) (d : sy ≠ oy) : decide (sy < oy) = evqB i j sx sy ex ey ox oy px py := by unfold evqB; rw [if_neg (by simpa using c), if_pos d]
theorem ev3 (c : sx = ox) (d : sy = oy) (e : ((!(Builtin.bitAnd i 1 != 0)) != !(Builtin.bitAnd j 1 != 0)) = true) : (!(!(Builtin.bitAnd i 1 != 0))) = evqB i j sx sy ex ey ox oy px py := by
  rw [bitAnd_m1, bitAnd_m1] at *
  unfold evqB
  rw [if_neg (by simpa using c), if_neg (by simpa using d)]
  rcases Int.emod_two_eq i with h | h <;> rcases Int.emod_two_eq j with k | k <;> simp [h, k] at e ⊢
theorem ev4 (c : sx = ox) (d : sy = oy) (e : ((!(Builtin.bitAnd i 1 != 0)) != !(Builtin.bitAnd j 1 != 0)) = false) : lexlt ex ey px py = evqB i j sx sy ex ey ox oy px py := by
  rw [bitAnd_m1, bitAnd_m1] at e
  unfold evqB
  rw [if_neg (by simpa using c), if_neg (by simpa using d)]
  rcases Int.emod_two_eq i with h | h <;> rcases Int.emod_two_eq j with k | k <;> simp [h, k] at e ⊢
end
local macro_rules | `(tactic| k_mem) => `(tactic| assumption)
section
variable {A₀ A : Around} {base h₀ : Heap} {outer : List Env} {L fa : Addr} {m mg mb : Str → Option Value} {s : Shared} {news : List (Addr × Obj)} {mean : ExcName → Option Value}
    {qn : Str} {nm : List (Str × NameKind)} {mo : List (Str × Const)} {cd : Value} {w : World} {loose : List Str} {R : Result → Shared → Prop} {prog1 : Program}
    {k1 k2 e1 e2 pl ol s1 n1 s2 n2 d1 d2 d3 d4 : Addr} {g1 g2 g3 g4 g5 g6 g7 g8 : Int} {u1 u2 u3 u4 u5 u6 u7 u8 ti tj tk1 tk2 : Tok} {i j oi oj : Int} {pv ov : Array Value} {np no : Nat} {sx sy ex ey ox oy px py : Int} {t1 t2 t3 t4 t5 t6 t7 t8 : Tok}
theorem call_evq
    (B : Below A₀ base outer h₀) (F : Fr h₀ L s.heap m) (X : (hd.heap_1 w.params).In h₀) (N : News h₀ L s.heap news) (T : Top prog1 loose mean mg mb h₀)
    (hk1 : (k1, instObj 287 e1) ∈ news) (he1 : (e1, dictOf [⟨g1, .str (PySem.Str.ofString "endpoints") u1, .ref pl⟩, ⟨g2, .str (PySem.Str.ofString "event") u2, .int i ti⟩, ⟨g3, .str (PySem.Str.ofString "opposites") u3, .ref ol⟩] 3) ∈ news)
    (hk2 : (k2, instObj 287 e2) ∈ news) (he2 : (e2, dictOf [⟨g5, .str (PySem.Str.ofString "endpoints") u5, .ref pl⟩, ⟨g6, .str (PySem.Str.ofString "event") u6, .int j tj⟩, ⟨g7, .str (PySem.Str.ofString "opposites") u7, .ref ol⟩] 3) ∈ news)
    (hpl : (pl, listOf pv np) ∈ news) (hol : (ol, listOf ov no) ∈ news)
    (i0 : 0 ≤ i) (i1 : i < 2 ^ 63) (j0 : 0 ≤ j) (j1 : j < 2 ^ 63) (oi0 : 0 ≤ oi) (oi1 : oi < 2 ^ 63) (oj0 : 0 ≤ oj) (oj1 : oj < 2 ^ 63)
    (gi : pv[i.toNat]? = some (.ref s1)) (gj : pv[j.toNat]? = some (.ref s2)) (hoi : ov[i.toNat]? = some (.int oi tk1)) (hoj : ov[j.toNat]? = some (.int oj tk2))
    (goi : pv[oi.toNat]? = some (.ref n1)) (goj : pv[oj.toNat]? = some (.ref n2))
    (p1 : (s1, ptO d1 sx t1 sy t2) ∈ news) (q1 : (d1, dictOf [] 0) ∈ news) (p2 : (n1, ptO d2 ex t3 ey t4) ∈ news) (q2 : (d2, dictOf [] 0) ∈ news)
    (p3 : (s2, ptO d3 ox t5 oy t6) ∈ news) (q3 : (d3, dictOf [] 0) ∈ news) (p4 : (n2, ptO d4 px t7 py t8) ∈ news) (q4 : (d4, dictOf [] 0) ∈ news)
    (h : ∀ h' tk b, b = evqB i j sx sy ex ey ox oy px py → Fr h₀ L h' m → News h₀ L h' news → R (.ok (.ret (.bool b))) { s with heap := h', toks := tk }) :
    codeAny (model prog0 w) { handled := none, depth := 500, frames := some (envOf qn ⟨.function, nm, false, false, mo⟩ L fa cd :: outer), units := 300 } (.call (.ref 284) ⟨[.ref k1, .ref k2], []⟩) R s := by
  k_with_none
  k_with "getAttr ref" => (k_here; (with_reducible show wpAny _ _ (getAttr (Value.ref _) (PySem.Str.ofString "x") _) _ _ _); k_dflt (refine get_x' (by exact rfl) (by exact Nat.le_of_ble_eq_true rfl) (by exact Nat.le_of_ble_eq_true rfl) (by exact rfl) (by k_asm) (by k_asm) (by k_asm) (by k_asm) (by k_asm) (by k_mem) (by k_mem) ?_; k_whole; intro h' tk' F' N'; (try k_sweep)))
  k_with "getAttr ref" => (k_here; (with_reducible show wpAny _ _ (getAttr (Value.ref _) (PySem.Str.ofString "y") _) _ _ _); k_dflt (refine get_y' (by exact rfl) (by exact Nat.le_of_ble_eq_true rfl) (by exact Nat.le_of_ble_eq_true rfl) (by exact rfl) (by k_asm) (by k_asm) (by k_asm) (by k_asm) (by k_asm) (by k_mem) (by k_mem) ?_; k_whole; intro h' tk' F' N'; (try k_sweep)))
  k_with "subscriptTail Name" => (k_here; (with_reducible show wpAny _ _ (subscriptTail _ _ (Value.ref _) (Value.int _ _)) _ _ _); k_dflt (refine item_l (by k_asm) (by k_mem) (by assumption) (by assumption) (by assumption) ?_))
  k_with "subscriptTail" => (k_here; (with_reducible show wpAny _ _ (subscriptTail _ _ (Value.ref _) (Value.int _ _)) _ _ _); k_dflt (refine item_l (by k_asm) (by k_mem) (by assumption) (by assumption) (by assumption) ?_))
  k_with "compareOp Lt ref ref" => (k_here; k_dflt (refine pt_lt (Nat.le_of_ble_eq_true rfl) (by k_asm) (by k_asm) (by k_asm) (by k_mem) (by k_mem) (by k_mem) (by k_mem) ?_))
  k_enter
  repeat' (first | (k_unfold; (try dsimp only)) | (k_end; wrow_close) | walk1 | (dsimp only; walk1) | (leave1; walk_say "STEP leave1"; try dsimp only))
  all_goals refine h _ _ _ ?_ (by assumption) (by ((refine news_sub (by assumption) ?_; intro p hp; repeat (first | exact hp | refine List.Mem.tail _ ?_))))
  all_goals first
    | exact ev1 (by with_reducible assumption)
    | exact ev2 (by with_reducible assumption) (by with_reducible assumption)
    | exact ev3 (by with_reducible assumption) (by with_reducible assumption) (by with_reducible assumption)
    | exact ev4 (by with_reducible assumption) (by with_reducible assumption) (by with_reducible assumption)
end
end Mine
end
section
open PySem PySem.W PySem.W.X PyProof.Rows
set_option Elab.async false
set_option maxRecDepth 100000
set_option maxHeartbeats 0
namespace Mine
abbrev triO (p : Addr) (k : Int) (t : Tok) (q : Addr) : Obj := { cls := .type "tuple", data := .seq #[.ref p, .int k t, .ref q] }
def lex3 (x y : Int) (k : Int) (X Y : Int) (x' y' : Int) (k' : Int) (X' Y' : Int) : Bool :=
  if x = x' ∧ y = y' then (if k = k' then (if X = X' ∧ Y = Y' then false else lexlt X Y X' Y') else decide (k < k')) else lexlt x y x' y'
section
variable {w : World} {A : Around} {E : Value → Shared → Prop} {s : Shared} {p q a b c d : Addr} {x y x' y' X Y X' Y' k k' : Int} {t1 t2 t3 t4 t5 t6 t7 t8 t t' : Tok} {Q : Value → Shared → Prop}
open PySem.AutoSeq1 (wpAny_loadPart') in
theorem trip_body (hu : A.units + 64 < cLine) (hp : s.heap.get? p = some (triO a k t b)) (hq : s.heap.get? q = some (triO c k' t' d))
    (ha : s.heap.get? a = some (tupO x t1 y t2)) (hb : s.heap.get? b = some (tupO X t3 Y t4)) (hc : s.heap.get? c = some (tupO x' t5 y' t6)) (hd : s.heap.get? d = some (tupO X' t7 Y' t8)) :
    wpAny (model prog0 w) A (Builtin.«tuple.__lt__» ⟨[.ref p, .ref q], []⟩) (fun fin s' => fin = .done (.ret (.bool (lex3 x y k X Y x' y' k' X' Y'))) ∧ s' = s) E s := by
  obtain ⟨hh, g, dd, tk, os⟩ := s
  have hu' : A.units < cLine := by omega
  have rc : ∀ {x y : Int} {t u : Tok} {Q : Value → Shared → Prop} {s : Shared}, Q (.bool (decide (x < y))) s → wpAny (model prog0 w) A (richCompare .Lt (.int x t) (.int y u)) Q E s := fun h => lt_int h
  have eq : ∀ {x y : Int} {t u : Tok} {Q : Bool → Shared → Prop} {s : Shared}, Q (x == y) s → wpAny (model prog0 w) A (eqBool (.int x t) (.int y u)) Q E s := fun h => wpAny_eqBool_int h
  have e1 : ∀ {Q : Bool → Shared → Prop}, Q (decide (x = x' ∧ y = y')) ⟨hh, g, dd, tk, os⟩ → wpAny (model prog0 w) A (eqBool (.ref a) (.ref c)) Q E ⟨hh, g, dd, tk, os⟩ := fun h => eq_t (s := ⟨hh, g, dd, tk, os⟩) hu ha hc h
  have e2 : ∀ {Q : Bool → Shared → Prop}, Q (decide (X = X' ∧ Y = Y')) ⟨hh, g, dd, tk, os⟩ → wpAny (model prog0 w) A (eqBool (.ref b) (.ref d)) Q E ⟨hh, g, dd, tk, os⟩ := fun h => eq_t (s := ⟨hh, g, dd, tk, os⟩) hu hb hd h
  have r1 : ∀ {Q : Value → Shared → Prop}, Q (.bool (lexlt x y x' y')) ⟨hh, g, dd, tk, os⟩ → wpAny (model prog0 w) A (richCompare .Lt (.ref a) (.ref c)) Q E ⟨hh, g, dd, tk, os⟩ := fun h => tup_lt (s := ⟨hh, g, dd, tk, os⟩) hu' ha hc h
  have r2 : ∀ {Q : Value → Shared → Prop}, Q (.bool (lexlt X Y X' Y')) ⟨hh, g, dd, tk, os⟩ → wpAny (model prog0 w) A (richCompare .Lt (.ref b) (.ref d)) Q E ⟨hh, g, dd, tk, os⟩ := fun h => tup_lt (s := ⟨hh, g, dd, tk, os⟩) hu' hb hd h
  have hi : Looks (model prog0 w) hh (isSubtype (.type "tuple") (.type "tuple")) true := tup_sub
  wp_walk using wpAny_loadPart' hp, wpAny_loadPart' hq
  all_goals try refine hi.here ?_
  wp_walk using wpAny_loadPart' hp, wpAny_loadPart' hq, e1
  by_cases h : x = x' ∧ y = y'
  · rw [if_neg (by simpa using h)]
    wp_walk using eq
    by_cases h2 : k = k'
    · rw [if_neg (by simpa using h2)]
      wp_walk using e2
      by_cases h3 : X = X' ∧ Y = Y'
      · rw [if_neg (by simpa using h3)]
        wp_walk
        refine ⟨?_, rfl⟩
        have e : lex3 x y k X Y x' y' k' X' Y' = false := by unfold lex3; rw [if_pos h, if_pos h2, if_pos h3]
        rw [e]
        with_unfolding_all rfl
      · rw [if_pos (by rw [decide_eq_false h3]; rfl)]
        wp_walk using r2
        refine ⟨?_, rfl⟩
        have e : lex3 x y k X Y x' y' k' X' Y' = lexlt X Y X' Y' := by unfold lex3; rw [if_pos h, if_pos h2, if_neg h3]
        rw [e]
    · rw [if_pos (by simpa using h2)]
      wp_walk using rc
      refine ⟨?_, rfl⟩
      have e : lex3 x y k X Y x' y' k' X' Y' = decide (k < k') := by unfold lex3; rw [if_pos h, if_neg h2]
      rw [e]
  · rw [if_pos (by rw [decide_eq_false h]; rfl)]
    wp_walk using r1
    refine ⟨?_, rfl⟩
    have e : lex3 x y k X Y x' y' k' X' Y' = lexlt x y x' y' := by unfold lex3; rw [if_neg h]
    rw [e]
theorem trip_lt (hu : A.units + 65 < cLine) (hp : s.heap.get? p = some (triO a k t b)) (hq : s.heap.get? q = some (triO c k' t' d))
    (ha : s.heap.get? a = some (tupO x t1 y t2)) (hb : s.heap.get? b = some (tupO X t3 Y t4)) (hc : s.heap.get? c = some (tupO x' t5 y' t6)) (hd : s.heap.get? d = some (tupO X' t7 Y' t8))
    (h : Q (.bool (lex3 x y k X Y x' y' k' X' Y')) s) : wpAny (model prog0 w) A (compareOp .Lt (.ref p) (.ref q)) Q E s := by
  have I := tup_type (w := w) hp rfl
  have J := tup_type (w := w) hq rfl
  refine cmp_ofLt (rich_same (T := .type "tuple") (id := "tuple.__lt__") (by omega) I J (Looks.of_pure F.slot_tuple_lt.lookup) F.slot_tuple_lt.bind ?_)
  refine wpAny_call (PySem.codeAny_call_builtin F.slot_tuple_lt.plain F.entry_tuple_lt ?_)
  refine @check_slot (model prog0 w) _ _ s "tuple.__lt__" "tuple" "__lt__" (.ref p) [.ref q] [] _ (by decide +kernel) (by decide +kernel) (I.andThen tup_sub) (F.args_tuple_lt_2 (.ref p) (.ref q)) ?_
  refine wpAny_mono (trip_body (A := A.in1) (by show A.units + 1 + 64 < cLine; omega) hp hq ha hb hc hd) (fun fin s' z => ?_) fun _ _ z => z
  obtain ⟨rfl, rfl⟩ := z
  exact ⟨_, rfl, h⟩
abbrev duoO (p q : Addr) : Obj := { cls := .type "tuple", data := .seq #[.ref p, .ref q] }
theorem duo_eq (hu : A.units + 64 < cLine) (hp : s.heap.get? p = some (duoO a b)) (hq : s.heap.get? q = some (duoO c d))
    (ha : s.heap.get? a = some (tupO x t1 y t2)) (hb : s.heap.get? b = some (tupO X t3 Y t4)) (hc : s.heap.get? c = some (tupO x' t5 y' t6)) (hd : s.heap.get? d = some (tupO X' t7 Y' t8))
    (h : Q (.bool (decide ((x = x' ∧ y = y') ∧ (X = X' ∧ Y = Y')))) s) : wpAny (model prog0 w) A (compareOp .Eq (.ref p) (.ref q)) Q E s := by
  have ra : Reads s.heap (.ref p) (.tuple [.tuple [.int x, .int y], .tuple [.int X, .int Y]]) [] := .tuple hp rfl rfl (.cons (reads_t ha) (.cons (reads_t hb) .nil))
  have rb : Reads s.heap (.ref q) (.tuple [.tuple [.int x', .int y'], .tuple [.int X', .int Y']]) [] := .tuple hq rfl rfl (.cons (reads_t hc) (.cons (reads_t hd) .nil))
  refine SeqAt.compareEq_reads ra rb (by rfl) (by rfl) ?_ ?_
  · have : min (PyData.depth (.tuple [.tuple [.int x, .int y], .tuple [.int X, .int Y]])) (PyData.depth (.tuple [.tuple [.int x', .int y'], .tuple [.int X', .int Y']])) ≤ 64 := by simp [PyData.depth, PyData.depthAll]
    omega
  · have e : PyData.eqv (.tuple [.tuple [.int x, .int y], .tuple [.int X, .int Y]]) (.tuple [.tuple [.int x', .int y'], .tuple [.int X', .int Y']]) = decide ((x = x' ∧ y = y') ∧ (X = X' ∧ Y = Y')) := by
      simp [PyData.eqv, PyData.eqvAll]
      rfl
    rw [e]; exact h
end
section
variable {w : World} {A : Around} {E : Value → Shared → Prop} {s : Shared} {h₀ : Heap} {L l : Addr} {news : List (Addr × Obj)} {m : Str → Option Value} {vs : Array Value} {n N₀ : Nat} {Q : Value → Shared → Prop}
theorem len_l (N : News h₀ L s.heap news) (hl : (l, listOf vs n) ∈ news) (hn : vs.size = N₀) (hz : N₀ ≤ 1000)
    (h : ∀ t tk, Q (.int (N₀ : Int) t) { s with toks := tk }) : wpAny (model prog0 w) A (call (.builtin "len") [.ref l]) Q E s := by
  have hL : s.heap.IsList l vs := ⟨_, (N _ hl).1, rfl, _, rfl⟩
  subst hn
  exact len_list hL (by omega) (h _ _)
end
end Mine
end
section
open PySem PySem.W PySem.W.X PyProof.Rows PySem.Spec
set_option Elab.async false
set_option maxRecDepth 100000
set_option maxHeartbeats 0
namespace Mine
section
variable {prog : Program} {w : World} {A : Around} {E : Value → Shared → Prop} {s : Shared} {env : Env} {h₀ : Heap} {x : Str} {body : List Stmt} {Q : Flow → Shared → Prop}
def RngPost (h₀ : Heap) (L : Addr) (x : Str) (stored : List Str) (m : Str → Option Value) (need : List (Addr × Obj)) (s₁ : Shared) (Q : Flow → Shared → Prop) (f : Flow) (s₂ : Shared) : Prop := TurnPost h₀ L x stored m need s₁ Q f s₂
theorem rng_loop {r : Addr} {a₀ b₀ st : Int} {t₀ u₀ v₀ : Tok} {n : Nat} {m₀ : Str → Option Value} {news : List (Addr × Obj)} (stored : List Str) (I : List (Addr × Obj) → Prop)
    (mono : ∀ l l', (∀ p ∈ l, p ∈ l') → I l → I l')
    (hh : A.handled = none) (hr : IsRange s.heap r a₀ b₀ st t₀ u₀ v₀) (hsmall : Builtin.Range.small a₀ b₀ st = true) (hn : Builtin.Range.rangeSize a₀ b₀ st = (n : Int)) (F : Fr h₀ env.locals s.heap m₀) (N : News h₀ env.locals s.heap news) (hI : I news)
    (turn : ∀ (i : Nat) t (u : Str → Option Value) h tk nw, i < n → I nw → Fr h₀ env.locals h (fun y => if y = x then some (.int (a₀ + (i : Int) * st) t) else if stored.contains y then u y else m₀ y) → News h₀ env.locals h nw →
      wpAny (model prog w) A (execs body env) (RngPost h₀ env.locals x stored m₀ nw ⟨h, s.gens, s.drawn, tk, s.os⟩ Q) E ⟨h, s.gens, s.drawn, tk, s.os⟩)
    (done : ∀ (u : Str → Option Value) h tk, Fr h₀ env.locals h (fun y => if y = x then u y else if stored.contains y then u y else m₀ y) → News h₀ env.locals h news → Q .next ⟨h, s.gens, s.drawn, tk, s.os⟩) :
    wpAny (model prog w) A (pyIter (.ref r)) (fun it s₂ => LoopAtV prog w A h₀ env x body Q E it s₂) E s := by
  refine wpAny_pyIter_range hr hsmall ?_
  have W : Walks prog w A s.heap.objs.size [s.heap.objs.size] [s.heap.objs.size] n (fun i v => i < n ∧ ∃ t, v = .int (a₀ + i * st) t)
      (fun i h => IsRangeIter h s.heap.objs.size (a₀ + (i : Nat) * st) ((n : Int) - (i : Nat)) st) := (Walks.range hh _ a₀ st n).bound
  refine loop_at_law stored W ?_ ?_ ?_ (by show IsRangeIter _ _ _ _ _; rw [hn]; simpa using Heap.get?_push_size _ rfl) (F.push _) (fun p hp => ⟨Heap.get?_push_of_some _ (N p hp).1, (N p hp).2⟩) ?_ ?_
  · intro hm
    exact absurd F.ns.lt ((List.mem_singleton.mp hm) ▸ Nat.lt_irrefl _)
  · intro b hb
    rw [List.mem_singleton.mp hb]
    exact next_is_new F
  · intro p hp hI
    exact absurd (Heap.lt_size (N p hp).1) ((List.mem_singleton.mp hI) ▸ Nat.lt_irrefl _)
  · rintro i v u h tk own hi ⟨_, t, rfl⟩ F₁ N₁
    exact turn i t u h tk _ hi (mono _ _ (fun p hp => List.mem_append_right _ hp) hI) F₁ N₁
  · exact fun u h tk F' N' => done u h tk F' N'

def BEnd (h₀ : Heap) (L : Addr) (J : (Str → Option Value) → List (Addr × Obj) → Prop) (own nx : List (Addr × Obj)) (s₁ s₂ : Shared) : Prop :=
  ∃ h' tk m' nw' nx', s₂ = ⟨h', s₁.gens, s₁.drawn, tk, s₁.os⟩ ∧ Fr h₀ L h' m' ∧ News h₀ L h' nw' ∧ (∀ p ∈ own, p ∈ nw') ∧ (∀ p ∈ nx', p ∈ nw') ∧ (∀ p ∈ nx', p.2.cls ≠ .type "list_iterator" ∨ p.1 ∈ nx.map (·.1)) ∧ J m' nx'
def BPost (h₀ : Heap) (L : Addr) (J : (Str → Option Value) → List (Addr × Obj) → Prop) (own nx : List (Addr × Obj)) (s₁ : Shared) (Q : Flow → Shared → Prop) (f : Flow) (s₂ : Shared) : Prop :=
  match f with
  | .ret v => Q (.ret v) s₂
  | .brk => Q .next s₂
  | _ => BEnd h₀ L J own nx s₁ s₂
theorem list_loop {l : Addr} {vs : Array Value} {nn : Nat} {m₀ : Str → Option Value} {news : List (Addr × Obj)} (J : Nat → (Str → Option Value) → List (Addr × Obj) → Prop)
    (hh : A.handled = none) (hl : (l, listOf vs nn) ∈ news) (F : Fr h₀ env.locals s.heap m₀) (N : News h₀ env.locals s.heap news) (hj : J 0 m₀ news)
    (hJ : ∀ i m nx, J i m nx → (l, listOf vs nn) ∈ nx)
    (turn : ∀ i v m₁ nx h tk own nw, vs[i]? = some v → J i m₁ nx → Fr h₀ env.locals h (fun y => if y = x then some v else m₁ y) → News h₀ env.locals h nw → (∀ p ∈ nx, p ∈ nw) → (∀ p ∈ own, p ∈ nw) →
      wpAny (model prog w) A (execs body env) (BPost h₀ env.locals (J (i + 1)) own nx ⟨h, s.gens, s.drawn, tk, s.os⟩ Q) E ⟨h, s.gens, s.drawn, tk, s.os⟩)
    (done : ∀ m₁ nx h tk, J vs.size m₁ nx → Fr h₀ env.locals h m₁ → News h₀ env.locals h nx → Q .next ⟨h, s.gens, s.drawn, tk, s.os⟩) :
    wpAny (model prog w) A (pyIter (.ref l)) (fun it s₂ => LoopAtV prog w A h₀ env x body Q E it s₂) E s := by
  have hls : s.heap.IsList l vs := ⟨_, (N _ hl).1, rfl, _, rfl⟩
  have hlt : l < s.heap.objs.size := Heap.lt_size (N _ hl).1
  have hne : l ≠ s.heap.objs.size := Nat.ne_of_lt hlt
  refine wpAny_pyIter_list hls ?_
  have W := Walks.list (prog := prog) (w := w) hh s.heap.objs.size l hne vs
  refine ⟨_, _, _, vs.size, _, _, m₀, news, J, rfl, W, ?_, ?_, ?_, ⟨⟨_, Heap.get?_push_size _ rfl, rfl, rfl⟩, hls.at fun o e => Heap.get?_push_of_some _ e⟩, F.push _, (fun p hp => ⟨Heap.get?_push_of_some _ (N p hp).1, (N p hp).2⟩), hj, ?_, ?_⟩
  · intro hm
    rcases List.mem_cons.mp hm with e | hm
    · exact absurd F.ns.lt (e ▸ Nat.lt_irrefl _)
    · exact (N _ hl).2.1 (List.mem_singleton.mp hm).symm
  · intro b hb
    rw [List.mem_singleton.mp hb]
    exact next_is_new F
  · intro p hp hI
    exact absurd (Heap.lt_size (N p hp).1) ((List.mem_singleton.mp hI) ▸ Nat.lt_irrefl _)
  · rintro i v m₁ nx s₁ own ⟨hh', tk', rfl⟩ hin hP hJ' hoff hown _ hmem hst F₁ N₁
    obtain ⟨⟨oi, hoi, hoc, _⟩, _⟩ := hst
    have hI : (s.heap.objs.size, oi) ∈ own := hmem _ (.head _) (next_is_new F) oi hoi
    refine wpAny_mono (turn i v m₁ nx hh' tk' own _ hP hJ' F₁ N₁ (fun p hp => List.mem_append_right _ hp) (fun p hp => List.mem_append_left _ hp)) (fun f s₂ p => ?_) fun _ _ e => e
    have fin : BEnd h₀ env.locals (J (i + 1)) own nx ⟨hh', s.gens, s.drawn, tk', s.os⟩ s₂ → LoopStepU h₀ env.locals [s.heap.objs.size] own (J (i + 1)) { s with heap := hh', toks := tk' } .next s₂ := by
      rintro ⟨h', tk, m', nw', nx', e, F', N', ho, hn, ha, hm⟩
      refine ⟨rfl, h', tk, m', nx', e, F', fun p hp => N' p ((List.mem_append.mp hp).elim (ho p) (hn p)), fun p hp hq => ?_, hm⟩
      rcases ha p hp with hc | hc
      · have h1 := (N' _ (hn p hp)).1
        have h2 := (N' _ (ho _ hI)).1
        rw [List.mem_singleton.mp hq] at h1
        have : oi = p.2 := Option.some.inj (h2.symm.trans h1)
        exact hc (this ▸ hoc)
      · obtain ⟨q, hq1, hq2⟩ := List.mem_map.mp hc
        exact hoff q hq1 (by rw [hq2]; exact hq)
    cases f with
    | ret v => exact .ret p
    | brk => exact .brk p
    | next => exact .next (fin p)
    | cont => exact .cont (fin p)
  · rintro h' tk m' news' F' N' _ hJ'
    exact done m' news' h' tk hJ' F' N'
end
end Mine
end
section
open PySem PySem.W PySem.W.X PyProof.Rows PySem.Spec
set_option Elab.async false
set_option maxRecDepth 100000
set_option maxHeartbeats 0
namespace Mine
def opp (k : Nat) : Int := if k % 2 = 0 then (k : Int) + 1 else (k : Int) - 1
structure Sc0 (nw : List (Addr × Obj)) (ev ov : Array Value) (el ol : Addr) (ne no M : Nat) (xs ys : Nat → Int) (BB : Nat) : Prop where
  hel : (el, listOf ev ne) ∈ nw
  hol : (ol, listOf ov no) ∈ nw
  s1 : ev.size = 2 * M
  s2 : ov.size = 2 * M
  small : M ≤ 5
  ats : ∀ k, k < 2 * M → ∃ a t1 t2 to, ev[k]? = some (.ref a) ∧ (a, tupO (xs k) t1 (ys k) t2) ∈ nw ∧ ov[k]? = some (.int (opp k) to) ∧ Sz BB (xs k) ∧ Sz BB (ys k)
structure Sc (nw : List (Addr × Obj)) (ev ov pv : Array Value) (el ol pl : Addr) (ne no np M : Nat) (xs ys : Nat → Int) (BB : Nat) : Prop where
  base : Sc0 nw ev ov el ol ne no M xs ys BB
  hpl : (pl, listOf pv np) ∈ nw
  s3 : pv.size = 2 * M
  pat : ∀ k, k < 2 * M → ∃ p d t3 t4, pv[k]? = some (.ref p) ∧ (p, ptO d (xs k) t3 (ys k) t4) ∈ nw ∧ (d, dictOf [] 0) ∈ nw
section
variable {nw nw' : List (Addr × Obj)} {ev ov pv : Array Value} {el ol pl : Addr} {ne no np M : Nat} {xs ys : Nat → Int} {BB : Nat}
theorem Sc0.mono (S : Sc0 nw ev ov el ol ne no M xs ys BB) (h : ∀ p ∈ nw, p ∈ nw') : Sc0 nw' ev ov el ol ne no M xs ys BB :=
  ⟨h _ S.hel, h _ S.hol, S.s1, S.s2, S.small, fun k hk => by obtain ⟨a, t1, t2, to, e1, e2, e3, e4⟩ := S.ats k hk; exact ⟨a, t1, t2, to, e1, h _ e2, e3, e4⟩⟩
theorem Sc.mono (S : Sc nw ev ov pv el ol pl ne no np M xs ys BB) (h : ∀ p ∈ nw, p ∈ nw') : Sc nw' ev ov pv el ol pl ne no np M xs ys BB :=
  ⟨S.base.mono h, h _ S.hpl, S.s3, fun k hk => by obtain ⟨p, d, t3, t4, e1, e2, e3⟩ := S.pat k hk; exact ⟨p, d, t3, t4, e1, h _ e2, h _ e3⟩⟩
theorem opp_lt {k : Nat} (hk : k < 2 * M) : 0 ≤ opp k ∧ (opp k).toNat < 2 * M := by
  unfold opp; split <;> omega
theorem opp_opp {k : Nat} : ((opp k).toNat : Int) = opp k := by
  unfold opp; split <;> omega
theorem Sc.get (S : Sc nw ev ov pv el ol pl ne no np M xs ys BB) {k : Nat} {I : Int} (hk : k < 2 * M) (hI : I = (k : Int)) :
    ∃ (o : Int) (a b p q d e : Addr) (t1 t2 t3 t4 t5 t6 t7 t8 to : Tok), o = opp k ∧ 0 ≤ I ∧ I < 2 ^ 63 ∧ 0 ≤ o ∧ o < 2 ^ 63 ∧
      ev[I.toNat]? = some (.ref a) ∧ ev[o.toNat]? = some (.ref b) ∧ pv[I.toNat]? = some (.ref p) ∧ pv[o.toNat]? = some (.ref q) ∧ ov[I.toNat]? = some (.int o to) ∧
      (a, tupO (xs k) t1 (ys k) t2) ∈ nw ∧ (b, tupO (xs o.toNat) t3 (ys o.toNat) t4) ∈ nw ∧ (p, ptO d (xs k) t5 (ys k) t6) ∈ nw ∧ (d, dictOf [] 0) ∈ nw ∧ (q, ptO e (xs o.toNat) t7 (ys o.toNat) t8) ∈ nw ∧ (e, dictOf [] 0) ∈ nw ∧
      Sz BB (xs k) ∧ Sz BB (ys k) ∧ Sz BB (xs o.toNat) ∧ Sz BB (ys o.toNat) := by
  subst hI
  obtain ⟨h0, h1⟩ := opp_lt hk
  obtain ⟨a, t1, t2, to, e1, e2, e3, e4, e5⟩ := S.base.ats k hk
  obtain ⟨b, t3, t4, _, f1, f2, _, f4, f5⟩ := S.base.ats _ h1
  obtain ⟨p, d, t5, t6, g1, g2, g3⟩ := S.pat k hk
  obtain ⟨q, e, t7, t8, i1, i2, i3⟩ := S.pat _ h1
  have := S.base.small
  exact ⟨opp k, a, b, p, q, d, e, t1, t2, t3, t4, t5, t6, t7, t8, to, rfl, by omega, by omega, h0, by omega, e1, f1, g1, i1, e3, e2, f2, g2, g3, i2, i3, e4, e5, f4, f5⟩
theorem rs1 : Builtin.Range.rangeSize 0 ((2 * M : Nat) : Int) 1 = ((2 * M : Nat) : Int) := by
  unfold Builtin.Range.rangeSize; rw [if_pos (by decide)]; split <;> omega
theorem rs2 : Builtin.Range.rangeSize 0 ((2 * M : Nat) : Int) 2 = (M : Int) := by
  unfold Builtin.Range.rangeSize; rw [if_pos (by decide)]; split <;> omega
theorem rs3 {I : Int} (h : I = 2 * (M : Int)) : Builtin.Range.rangeSize 0 I 2 = (M : Int) := by
  unfold Builtin.Range.rangeSize; rw [if_pos (by decide)]; split <;> omega
end
section
variable {prog : Program} {w : World} {A : Around} {E : Value → Shared → Prop} {env : Env} {h₀ : Heap} {L : Addr} {Q : Flow → Shared → Prop} {st : Stmt} {m : Str → Option Value} {news : List (Addr × Obj)} {hp : Heap} {gg : Array GenState} {dr : Drawn} {t : Nat} {os : OsState}
end
section
variable {prog : Program} {w : World} {A : Around} {E : Value → Shared → Prop} {env : Env} {h₀ : Heap} {x : Str} {body : List Stmt} {Q : Flow → Shared → Prop} {hp : Heap} {gg : Array GenState} {dr : Drawn} {t : Nat} {os : OsState}
theorem rng_sc {r : Addr} {a₀ b₀ st : Int} {t₀ u₀ v₀ : Tok} {n : Nat} {m₀ : Str → Option Value} {news : List (Addr × Obj)} {ev ov pv : Array Value} {el ol pl : Addr} {ne no np M : Nat} {xs ys : Nat → Int} {BB : Nat} (stored : List Str)
    (hh : A.handled = none) (hr : IsRange hp r a₀ b₀ st t₀ u₀ v₀) (hsmall : Builtin.Range.small a₀ b₀ st = true) (hn : Builtin.Range.rangeSize a₀ b₀ st = (n : Int)) (F : Fr h₀ env.locals hp m₀) (N : News h₀ env.locals hp news) (S : Sc news ev ov pv el ol pl ne no np M xs ys BB)
    (turn : ∀ (i : Nat) (I : Int) t (u : Str → Option Value) h tk nw, i < n → I = a₀ + (i : Int) * st → (∀ p ∈ news, p ∈ nw) → Sc nw ev ov pv el ol pl ne no np M xs ys BB → Fr h₀ env.locals h (fun y => if y = x then some (.int I t) else if stored.contains y then u y else m₀ y) → News h₀ env.locals h nw →
      wpAny (model prog w) A (execs body env) (RngPost h₀ env.locals x stored m₀ nw ⟨h, gg, dr, tk, os⟩ Q) E ⟨h, gg, dr, tk, os⟩)
    (done : ∀ (u : Str → Option Value) h tk, Sc news ev ov pv el ol pl ne no np M xs ys BB → Fr h₀ env.locals h (fun y => if y = x then u y else if stored.contains y then u y else m₀ y) → News h₀ env.locals h news → Q .next ⟨h, gg, dr, tk, os⟩) :
    wpAny (model prog w) A (pyIter (.ref r)) (fun it s₂ => LoopAtV prog w A h₀ env x body Q E it s₂) E ⟨hp, gg, dr, t, os⟩ :=
  rng_loop (s := ⟨hp, gg, dr, t, os⟩) stored (fun nw => ∀ p ∈ news, p ∈ nw) (fun _ _ h h' p hp => h p (h' p hp)) hh hr hsmall hn F N (fun _ hp => hp)
    (fun i t u h tk nw hi hs F' N' => turn i _ t u h tk nw hi rfl hs (S.mono hs) F' N') (fun u h tk F' N' => done u h tk S F' N')
theorem rng_sw {r : Addr} {a₀ b₀ st : Int} {t₀ u₀ v₀ : Tok} {n : Nat} {m₀ : Str → Option Value} {news : List (Addr × Obj)} {ev ov pv : Array Value} {el ol pl q c : Addr} {ne no np M : Nat} {xs ys : Nat → Int} {BB : Nat} (stored : List Str)
    (hh : A.handled = none) (hr : IsRange hp r a₀ b₀ st t₀ u₀ v₀) (hsmall : Builtin.Range.small a₀ b₀ st = true) (hn : Builtin.Range.rangeSize a₀ b₀ st = (n : Int)) (F : Fr h₀ env.locals hp m₀) (N : News h₀ env.locals hp news) (S : Sc news ev ov pv el ol pl ne no np M xs ys BB) (hq : (q, methodObj (.ref 207) (.ref c)) ∈ news)
    (turn : ∀ (i : Nat) (I : Int) t (u : Str → Option Value) h tk nw, i < n → I = a₀ + (i : Int) * st → (∀ p ∈ news, p ∈ nw) → Sc nw ev ov pv el ol pl ne no np M xs ys BB → (q, methodObj (.ref 207) (.ref c)) ∈ nw → Fr h₀ env.locals h (fun y => if y = x then some (.int I t) else if stored.contains y then u y else m₀ y) → News h₀ env.locals h nw →
      wpAny (model prog w) A (execs body env) (RngPost h₀ env.locals x stored m₀ nw ⟨h, gg, dr, tk, os⟩ Q) E ⟨h, gg, dr, tk, os⟩)
    (done : ∀ (u : Str → Option Value) h tk, Sc news ev ov pv el ol pl ne no np M xs ys BB → (q, methodObj (.ref 207) (.ref c)) ∈ news → Fr h₀ env.locals h (fun y => if y = x then u y else if stored.contains y then u y else m₀ y) → News h₀ env.locals h news → Q .next ⟨h, gg, dr, tk, os⟩) :
    wpAny (model prog w) A (pyIter (.ref r)) (fun it s₂ => LoopAtV prog w A h₀ env x body Q E it s₂) E ⟨hp, gg, dr, t, os⟩ :=
  rng_loop (s := ⟨hp, gg, dr, t, os⟩) stored (fun nw => ∀ p ∈ news, p ∈ nw) (fun _ _ h h' p hp => h p (h' p hp)) hh hr hsmall hn F N (fun _ hp => hp)
    (fun i t u h tk nw hi hs F' N' => turn i _ t u h tk nw hi rfl hs (S.mono hs) (hs _ hq) F' N') (fun u h tk F' N' => done u h tk S hq F' N')
end
section
variable {prog : Program} {w : World} {A : Around} {E : Value → Shared → Prop} {h₀ : Heap} {L : Addr} {m : Str → Option Value} {news : List (Addr × Obj)} {Q : Value → Shared → Prop} {hp : Heap} {gg : Array GenState} {dr : Drawn} {t₀ : Nat} {os : OsState}
theorem range1' {n : Int} {t : Tok} (F : Fr h₀ L hp m) (N : News h₀ L hp news)
    (h : ∀ h' tk r t₁ u₁ v₁, IsRange h' r 0 n 1 t₁ u₁ v₁ → Fr h₀ L h' m → News h₀ L h' news → Q (.ref r) ⟨h', gg, dr, tk, os⟩) :
    wpAny (model prog w) A (call (.type "range") [.int n t]) Q E ⟨hp, gg, dr, t₀, os⟩ :=
  range1_rows (s := ⟨hp, gg, dr, t₀, os⟩) F N fun h' tk t₁ u₁ v₁ r F' N' _ => h h' tk _ t₁ u₁ v₁ r F' N'
theorem range3' {b : Int} {t u v : Tok} (F : Fr h₀ L hp m) (N : News h₀ L hp news)
    (h : ∀ h' tk r t₁ u₁ v₁, IsRange h' r 0 b 2 t₁ u₁ v₁ → Fr h₀ L h' m → News h₀ L h' news → Q (.ref r) ⟨h', gg, dr, tk, os⟩) :
    wpAny (model prog w) A (call (.type "range") [.int 0 t, .int b u, .int 2 v]) Q E ⟨hp, gg, dr, t₀, os⟩ :=
  range3_rows (s := ⟨hp, gg, dr, t₀, os⟩) F N (by decide) (fun h' tk t₁ u₁ v₁ r F' N' _ => h h' tk _ t₁ u₁ v₁ r F' N') (.inl (PyProof.noPylong_small (by omega)))
theorem small_ok {b c : Int} (h0 : 0 ≤ b) (h1 : b ≤ 1000) (hc : c = 1 ∨ c = 2) : Builtin.Range.small 0 b c = true := by
  have hf : ∀ x : Int, 0 ≤ x → x ≤ 2000 → Builtin.Range.rangeFitsLong x = true := fun x h0 h1 => by
    unfold Builtin.Range.rangeFitsLong
    simp only [Bool.and_eq_true, decide_eq_true_eq]
    omega
  have hs : 0 ≤ Builtin.Range.rangeSize 0 b c ∧ Builtin.Range.rangeSize 0 b c ≤ 2000 := by
    unfold Builtin.Range.rangeSize
    rcases hc with rfl | rfl
    · rw [if_pos (by decide)]; split <;> omega
    · rw [if_pos (by decide)]; split <;> omega
  unfold Builtin.Range.small
  rw [hf 0 (by omega) (by omega), hf b h0 (by omega), hf c (by omega) (by omega), hf _ hs.1 hs.2, if_pos (by omega), hf (b + (c - 1)) (by omega) (by omega)]
  simp
end
end Mine
end
section
open PySem PySem.W PySem.W.X PyProof.Rows PySem.Spec
set_option Elab.async false
set_option maxRecDepth 100000
set_option maxHeartbeats 0
namespace Mine
section
variable {A₀ A : Around} {base h₀ : Heap} {outer : List Env} {L fa : Addr} {m mg mb : Str → Option Value} {news : List (Addr × Obj)} {mean : ExcName → Option Value} {E : Value → Shared → Prop} {Q : Value → Shared → Prop}
    {qn : Str} {nm : List (Str × NameKind)} {mo : List (Str × Const)} {cd : Value} {w : World} {loose : List Str} {prog1 : Program} {hp : Heap} {gg : Array GenState} {dr : Drawn} {t : Nat} {os : OsState}
    {k1 k2 e1 e2 pl ol q c s1 n1 s2 n2 d1 d2 d3 d4 : Addr} {g1 g2 g3 g4 g5 g6 g7 g8 : Int} {u1 u2 u3 u4 u5 u6 u7 u8 ti tj tk1 tk2 : Tok} {i j oi oj : Int} {pv ov : Array Value} {np no : Nat} {sx sy ex ey ox oy px py : Int} {t1 t2 t3 t4 t5 t6 t7 t8 : Tok} {BB : Nat}
theorem evq_K
    (hh : A.handled = none) (hdp : A.depth ≤ 500) (hu : A.units ≤ 300) (hfr : A.frames = some (envOf qn ⟨.function, nm, false, false, mo⟩ L fa cd :: outer))
    (B : Below A₀ base outer h₀) (F : Fr h₀ L hp m) (X : (hd.heap_1 w.params).In h₀) (N : News h₀ L hp news) (T : Top prog1 loose mean mg mb h₀)
    (hk1 : (k1, instObj 287 e1) ∈ news) (he1 : (e1, dictOf [⟨g1, .str (PySem.Str.ofString "endpoints") u1, .ref pl⟩, ⟨g2, .str (PySem.Str.ofString "event") u2, .int i ti⟩, ⟨g3, .str (PySem.Str.ofString "opposites") u3, .ref ol⟩] 3) ∈ news)
    (hk2 : (k2, instObj 287 e2) ∈ news) (he2 : (e2, dictOf [⟨g5, .str (PySem.Str.ofString "endpoints") u5, .ref pl⟩, ⟨g6, .str (PySem.Str.ofString "event") u6, .int j tj⟩, ⟨g7, .str (PySem.Str.ofString "opposites") u7, .ref ol⟩] 3) ∈ news)
    (hpl : (pl, listOf pv np) ∈ news) (hol : (ol, listOf ov no) ∈ news)
    (i0 : 0 ≤ i) (i1 : i < 2 ^ 63) (j0 : 0 ≤ j) (j1 : j < 2 ^ 63)
    (gi : pv[i.toNat]? = some (.ref s1)) (gj : pv[j.toNat]? = some (.ref s2)) (hoi : ov[i.toNat]? = some (.int oi tk1)) (hoj : ov[j.toNat]? = some (.int oj tk2)) (oi0 : 0 ≤ oi) (oi1 : oi < 2 ^ 63) (oj0 : 0 ≤ oj) (oj1 : oj < 2 ^ 63)
    (goi : pv[oi.toNat]? = some (.ref n1)) (goj : pv[oj.toNat]? = some (.ref n2))
    (p1 : (s1, ptO d1 sx t1 sy t2) ∈ news) (q1 : (d1, dictOf [] 0) ∈ news) (p2 : (n1, ptO d2 ex t3 ey t4) ∈ news) (q2 : (d2, dictOf [] 0) ∈ news)
    (p3 : (s2, ptO d3 ox t5 oy t6) ∈ news) (q3 : (d3, dictOf [] 0) ∈ news) (p4 : (n2, ptO d4 px t7 py t8) ∈ news) (q4 : (d4, dictOf [] 0) ∈ news)
    (h : ∀ h' tk b, b = evqB i j sx sy ex ey ox oy px py → Fr h₀ L h' m → News h₀ L h' news → Q (.bool b) ⟨h', gg, dr, tk, os⟩) :
    wpAny (model prog0 w) A (compareOp .Lt (.ref k1) (.ref k2)) Q E ⟨hp, gg, dr, t, os⟩ := by
  refine cmp_ofLt (cmp_K (K := hd.heap_1 w.params) (C := 287) (tb := .ref 287) (f := 284) (s := ⟨hp, gg, dr, t, os⟩) (by have : cLine = 9900 := rfl; omega) F X (InstAt.of_news N hk1 he1) (InstAt.type (InstAt.of_news N hk2 he2)) (by k_is) (show findIn (hd.heap_1 w.params) (.ref 287) (PySem.Str.ofString "__lt__") = _ by k_is) (by k_is) ?_)
  refine wpAny_call (code_lv (d := 500) (u := 300) hh hdp hu hfr ?_)
  exact call_evq (s := ⟨hp, gg, dr, t, os⟩) B F X N T hk1 he1 hk2 he2 hpl hol i0 i1 j0 j1 oi0 oi1 oj0 oj1 gi gj hoi hoj goi goj p1 q1 p2 q2 p3 q3 p4 q4 fun h' tk b hb F' N' => h h' tk b hb F' N'
theorem slk_K
    (hh : A.handled = none) (hdp : A.depth ≤ 500) (hu : A.units ≤ 300) (hfr : A.frames = some (envOf qn ⟨.function, nm, false, false, mo⟩ L fa cd :: outer))
    (B : Below A₀ base outer h₀) (F : Fr h₀ L hp m) (X : (hd.heap_1 w.params).In h₀) (N : News h₀ L hp news) (T : Top prog1 loose mean mg mb h₀)
    (hk1 : (k1, instObj 245 e1) ∈ news) (he1 : (e1, dictOf [⟨g1, .str (PySem.Str.ofString "endpoints") u1, .ref pl⟩, ⟨g2, .str (PySem.Str.ofString "event") u2, .int i ti⟩, ⟨g3, .str (PySem.Str.ofString "opposites") u3, .ref ol⟩, ⟨g4, .str (PySem.Str.ofString "_orienteer") u4, .ref q⟩] 4) ∈ news)
    (hk2 : (k2, instObj 245 e2) ∈ news) (he2 : (e2, dictOf [⟨g5, .str (PySem.Str.ofString "endpoints") u5, .ref pl⟩, ⟨g6, .str (PySem.Str.ofString "event") u6, .int j tj⟩, ⟨g7, .str (PySem.Str.ofString "opposites") u7, .ref ol⟩, ⟨g8, .str (PySem.Str.ofString "_orienteer") u8, .ref q⟩] 4) ∈ news)
    (hq : (q, methodObj (.ref 207) (.ref c)) ∈ news) (hpl : (pl, listOf pv np) ∈ news) (hol : (ol, listOf ov no) ∈ news)
    (i0 : 0 ≤ i) (i1 : i < 2 ^ 63) (j0 : 0 ≤ j) (j1 : j < 2 ^ 63)
    (gi : pv[i.toNat]? = some (.ref s1)) (gj : pv[j.toNat]? = some (.ref s2)) (hoi : ov[i.toNat]? = some (.int oi tk1)) (hoj : ov[j.toNat]? = some (.int oj tk2)) (oi0 : 0 ≤ oi) (oi1 : oi < 2 ^ 63) (oj0 : 0 ≤ oj) (oj1 : oj < 2 ^ 63)
    (goi : pv[oi.toNat]? = some (.ref n1)) (goj : pv[oj.toNat]? = some (.ref n2))
    (p1 : (s1, ptO d1 sx t1 sy t2) ∈ news) (q1 : (d1, dictOf [] 0) ∈ news) (p2 : (n1, ptO d2 ex t3 ey t4) ∈ news) (q2 : (d2, dictOf [] 0) ∈ news)
    (p3 : (s2, ptO d3 ox t5 oy t6) ∈ news) (q3 : (d3, dictOf [] 0) ∈ news) (p4 : (n2, ptO d4 px t7 py t8) ∈ news) (q4 : (d4, dictOf [] 0) ∈ news)
    (z1 : Sz BB sx) (z2 : Sz BB sy) (z3 : Sz BB ex) (z4 : Sz BB ey) (z5 : Sz BB ox) (z6 : Sz BB oy) (z7 : Sz BB px) (z8 : Sz BB py) (hB : 2 * (BB + 1) ≤ 134217728)
    (h : ∀ h' tk b, b = sweepB sx sy ex ey ox oy px py → Fr h₀ L h' m → News h₀ L h' news → Q (.bool b) ⟨h', gg, dr, tk, os⟩) :
    wpAny (model prog0 w) A (compareOp .Lt (.ref k1) (.ref k2)) Q E ⟨hp, gg, dr, t, os⟩ := by
  refine cmp_ofLt (cmp_K (K := hd.heap_1 w.params) (C := 245) (tb := .ref 245) (f := 242) (s := ⟨hp, gg, dr, t, os⟩) (by have : cLine = 9900 := rfl; omega) F X (InstAt.of_news N hk1 he1) (InstAt.type (InstAt.of_news N hk2 he2)) (by k_is) (show findIn (hd.heap_1 w.params) (.ref 245) (PySem.Str.ofString "__lt__") = _ by k_is) (by k_is) ?_)
  refine wpAny_call (code_lv (d := 500) (u := 300) hh hdp hu hfr ?_)
  exact call_slk (s := ⟨hp, gg, dr, t, os⟩) B F X N T hk1 he1 hk2 he2 hq hpl hol i0 i1 j0 j1 oi0 oi1 oj0 oj1 gi gj hoi hoj goi goj p1 q1 p2 q2 p3 q3 p4 q4 hB z1 z2 z3 z4 z5 z6 z7 z8 fun h' tk b hb F' N' => h h' tk b hb F' N'
theorem tri_K {p q a b c d : Addr} {x y x' y' X Y X' Y' k k' : Int} {t1 t2 t3 t4 t5 t6 t7 t8 tk tk' : Tok} (hu : A.units + 65 < cLine) (N : News h₀ L hp news)
    (hp' : (p, triO a k tk b) ∈ news) (hq : (q, triO c k' tk' d) ∈ news)
    (ha : (a, tupO x t1 y t2) ∈ news) (hb : (b, tupO X t3 Y t4) ∈ news) (hc : (c, tupO x' t5 y' t6) ∈ news) (hd : (d, tupO X' t7 Y' t8) ∈ news)
    (h : ∀ b, b = lex3 x y k X Y x' y' k' X' Y' → Q (.bool b) ⟨hp, gg, dr, t, os⟩) : wpAny (model prog0 w) A (compareOp .Lt (.ref p) (.ref q)) Q E ⟨hp, gg, dr, t, os⟩ :=
  trip_lt (s := ⟨hp, gg, dr, t, os⟩) hu (N _ hp').1 (N _ hq).1 (N _ ha).1 (N _ hb).1 (N _ hc).1 (N _ hd).1 (h _ rfl)
end
end Mine
end
section
open PySem PySem.W PySem.W.X PyProof.Rows PySem.Spec
set_option Elab.async false
set_option maxRecDepth 100000
set_option maxHeartbeats 0
namespace Mine
section
variable {x y X Y x' y' X' Y' I J : Int}
theorem ev_eq (a b : Bool) (ha : a = evqB I J x y X Y x' y' X' Y') (hb : b = lex3 x y (1 - I % 2) X Y x' y' (1 - J % 2) X' Y') : a = b := by
  subst ha hb
  unfold evqB lex3 lexlt
  rcases Int.emod_two_eq I with h | h <;> rcases Int.emod_two_eq J with k | k <;> rw [h, k] <;> (repeat' split) <;> first | rfl | simp_all <;> omega
def rise (ax ay bx b_y px py : Int) : Int := (bx - ax) * (py - ay) - (b_y - ay) * (px - ax)
theorem rise_orient (ax ay bx b_y px py : Int) : rise ax ay bx b_y px py = orient ax ay bx b_y px py := rfl
end
end Mine
end
section
namespace Mine
theorem or_d (px py qx qy rx ry sx sy : Int) : orient px py qx qy sx sy - orient px py qx qy rx ry = orient rx ry sx sy px py - orient rx ry sx sy qx qy := by
  unfold orient; grind
theorem or_k (px py qx qy rx ry sx sy : Int) : (qx - rx) * orient rx ry sx sy px py + (rx - px) * orient rx ry sx sy qx qy = -((sx - rx) * orient px py qx qy rx ry) := by
  unfold orient; grind
theorem ilt_mul {a b : Int} (ha : 0 < a) (hb : 0 < b) : 0 < a * b := Int.mul_pos ha hb
/-- signs of a sum of two products -/
theorem two_pos {a b u v z : Int} (ha : 0 ≤ a) (hb : 0 ≤ b) (hu : 0 < u) (hv : 0 < v) (hz : z ≤ 0) (e : a * u + b * v = z) : a = 0 ∧ b = 0 := by
  have h1 := Int.mul_nonneg ha (Int.le_of_lt hu)
  have h2 := Int.mul_nonneg hb (Int.le_of_lt hv)
  constructor
  · rcases Int.lt_or_eq_of_le ha with h | h
    · have := Int.mul_pos h hu; omega
    · exact h.symm
  · rcases Int.lt_or_eq_of_le hb with h | h
    · have := Int.mul_pos h hv; omega
    · exact h.symm
theorem two_neg {a b u v z : Int} (ha : 0 ≤ a) (hb : 0 ≤ b) (hu : u < 0) (hv : v < 0) (hz : 0 ≤ z) (e : a * u + b * v = z) : a = 0 ∧ b = 0 := by
  refine two_pos (u := -u) (v := -v) (z := -z) ha hb (by omega) (by omega) (by omega) ?_
  rw [Int.mul_neg, Int.mul_neg]; omega
theorem one_pos {a u z : Int} (ha : 0 ≤ a) (hu : 0 < u) (hz : z ≤ 0) (e : a * u = z) : a = 0 ∧ z = 0 := by
  rcases Int.lt_or_eq_of_le ha with h | h
  · have := Int.mul_pos h hu; omega
  · subst h; omega
theorem one_neg {a u z : Int} (ha : 0 ≤ a) (hu : u < 0) (hz : 0 ≤ z) (e : a * u = z) : a = 0 ∧ z = 0 := by
  have := one_pos (u := -u) (z := -z) ha (by omega) (by omega) (by rw [Int.mul_neg]; omega)
  omega
section
variable {px py qx qy rx ry sx sy : Int}
/-- the four ends lie so that the segments share a stretch of the sweep -/
structure Lap (px py qx qy rx ry sx sy : Int) : Prop where
  pr : px < rx ∨ (px = rx ∧ py ≤ ry)
  pq : px < qx ∨ (px = qx ∧ py < qy)
  rs : rx < sx ∨ (rx = sx ∧ ry < sy)
  ps : px < sx ∨ (px = sx ∧ py < sy)
  rq : rx < qx ∨ (rx = qx ∧ ry < qy)
theorem g1 (L : Lap px py qx qy rx ry sx sy) (ho : 0 ≤ orient px py qx qy rx ry) (h1 : 0 < orient rx ry sx sy px py) (h2 : 0 < orient rx ry sx sy qx qy) : False := by
  obtain ⟨pr, pq, rs, ps, rq⟩ := L
  have k := or_k px py qx qy rx ry sx sy
  have hc : 0 ≤ (sx - rx) * orient px py qx qy rx ry := Int.mul_nonneg (by omega) ho
  obtain ⟨a0, b0⟩ := two_pos (by omega) (by omega) h1 h2 (by omega) k
  have e1 : orient rx ry sx sy px py = (sx - rx) * (py - ry) := by
    unfold orient; rw [show px - rx = 0 by omega]; omega
  have : 0 ≤ (sx - rx) * (ry - py) := Int.mul_nonneg (by omega) (by omega)
  rw [e1] at h1
  rw [show ry - py = -(py - ry) by omega, Int.mul_neg] at this
  omega
theorem g2 (L : Lap px py qx qy rx ry sx sy) (ho : orient px py qx qy rx ry ≤ 0) (h1 : orient rx ry sx sy px py < 0) (h2 : orient rx ry sx sy qx qy < 0) : False := by
  obtain ⟨pr, pq, rs, ps, rq⟩ := L
  have k := or_k px py qx qy rx ry sx sy
  have hc : 0 ≤ (sx - rx) * -orient px py qx qy rx ry := Int.mul_nonneg (by omega) (by omega)
  rw [Int.mul_neg] at hc
  obtain ⟨a0, b0⟩ := two_neg (by omega) (by omega) h1 h2 hc k
  have e1 : orient rx ry sx sy qx qy = (sx - rx) * (qy - ry) := by
    unfold orient; rw [show qx - rx = 0 by omega]; omega
  have : 0 ≤ (sx - rx) * (qy - ry) := Int.mul_nonneg (by omega) (by omega)
  omega
theorem g3 (L : Lap px py qx qy rx ry sx sy) (ho : 0 < orient px py qx qy rx ry) (h1 : orient rx ry sx sy px py = 0) (h2 : 0 ≤ orient rx ry sx sy qx qy) : False := by
  obtain ⟨pr, pq, rs, ps, rq⟩ := L
  have k := or_k px py qx qy rx ry sx sy
  rw [h1, Int.mul_zero, Int.zero_add] at k
  have hb : 0 ≤ (rx - px) * orient rx ry sx sy qx qy := Int.mul_nonneg (by omega) h2
  have hc : 0 ≤ (sx - rx) * orient px py qx qy rx ry := Int.mul_nonneg (by omega) (by omega)
  obtain ⟨c0, _⟩ := one_pos (a := sx - rx) (by omega) ho (z := 0) (by omega) (by omega)
  -- r, s on one upright line
  have e1 : orient rx ry sx sy px py = (sy - ry) * (rx - px) := by
    unfold orient; rw [c0, show px - rx = -(rx - px) by omega, Int.mul_neg]; omega
  rw [h1] at e1
  have hx : rx - px = 0 := by
    rcases Int.mul_eq_zero.mp e1.symm with h | h
    · omega
    · exact h
  have e2 : orient rx ry sx sy qx qy = -((sy - ry) * (qx - rx)) := by
    unfold orient; rw [c0]; omega
  have e3 : orient px py qx qy rx ry = (qx - px) * (ry - py) := by
    unfold orient; rw [hx]; omega
  have hq : qx - px ≠ 0 := fun h => by rw [h] at e3; omega
  have := Int.mul_pos (a := sy - ry) (b := qx - rx) (by omega) (by omega)
  omega
theorem g4 (L : Lap px py qx qy rx ry sx sy) (ho : orient px py qx qy rx ry < 0) (h1 : orient rx ry sx sy px py = 0) (h2 : orient rx ry sx sy qx qy ≤ 0) : False := by
  obtain ⟨pr, pq, rs, ps, rq⟩ := L
  have k := or_k px py qx qy rx ry sx sy
  rw [h1, Int.mul_zero, Int.zero_add] at k
  have hb : 0 ≤ (rx - px) * -orient rx ry sx sy qx qy := Int.mul_nonneg (by omega) (by omega)
  have hc : 0 ≤ (sx - rx) * -orient px py qx qy rx ry := Int.mul_nonneg (by omega) (by omega)
  rw [Int.mul_neg] at hb hc
  obtain ⟨c0, _⟩ := one_neg (a := sx - rx) (by omega) ho (z := 0) (by omega) (by omega)
  have e1 : orient rx ry sx sy px py = (sy - ry) * (rx - px) := by
    unfold orient; rw [c0, show px - rx = -(rx - px) by omega, Int.mul_neg]; omega
  rw [h1] at e1
  have hx : rx - px = 0 := by
    rcases Int.mul_eq_zero.mp e1.symm with h | h
    · omega
    · exact h
  have e3 : orient px py qx qy rx ry = (qx - px) * (ry - py) := by
    unfold orient; rw [hx]; omega
  have : 0 ≤ (qx - px) * (ry - py) := Int.mul_nonneg (by omega) (by omega)
  omega
theorem g5 (L : Lap px py qx qy rx ry sx sy) (h1 : orient px py qx qy rx ry = 0) (h2 : orient px py qx qy sx sy = 0) : orient rx ry sx sy px py = 0 := by
  obtain ⟨pr, pq, rs, ps, rq⟩ := L
  have k := or_k px py qx qy rx ry sx sy
  have d := or_d px py qx qy rx ry sx sy
  rw [h1, Int.mul_zero] at k
  have e : orient rx ry sx sy qx qy = orient rx ry sx sy px py := by omega
  rw [e, ← Int.add_mul, show qx - rx + (rx - px) = qx - px by omega] at k
  by_cases hq : qx - px = 0
  · have e1 : orient px py qx qy rx ry = -((qy - py) * (rx - px)) := by unfold orient; rw [hq]; omega
    have e2 : orient px py qx qy sx sy = -((qy - py) * (sx - px)) := by unfold orient; rw [hq]; omega
    have a1 : rx - px = 0 := by
      rcases Int.mul_eq_zero.mp (show (qy - py) * (rx - px) = 0 by omega) with h | h
      · omega
      · exact h
    have a2 : sx - px = 0 := by
      rcases Int.mul_eq_zero.mp (show (qy - py) * (sx - px) = 0 by omega) with h | h
      · omega
      · exact h
    unfold orient
    rw [show sx - rx = 0 by omega, show px - rx = 0 by omega]
    omega
  · rcases Int.mul_eq_zero.mp (show (qx - px) * orient rx ry sx sy px py = 0 by omega) with h | h
    · omega
    · exact h
end
end Mine
end
section
namespace Mine
def tieB (sx sy ex ey ox oy px py : Int) : Bool := if sy = oy then (if sx ≠ ox then decide (sx < ox) else if ey ≠ py then decide (ey < py) else decide (ex < px)) else decide (sy < oy)
theorem oriA_168 (z : Int) : oriA z = 168 ↔ z = 0 := by
  unfold oriA; split
  · simp; omega
  · split
    · simp; omega
    · simp; omega
theorem oriA_171 (z : Int) : oriA z = 171 ↔ 0 < z := by
  unfold oriA; split
  · simp; omega
  · split <;> simp <;> omega
theorem oriA_165 (z : Int) : oriA z = 165 ↔ z < 0 := by
  unfold oriA; split
  · simp; omega
  · split <;> simp <;> omega
theorem oriA_eq (y z : Int) : oriA y = oriA z ↔ ((0 < y ∧ 0 < z) ∨ (y < 0 ∧ z < 0) ∨ (y = 0 ∧ z = 0)) := by
  unfold oriA
  by_cases a : 0 < y <;> by_cases b : 0 < z <;> by_cases c : y < 0 <;> by_cases d : z < 0 <;> simp [a, b, c, d] <;> omega
def signB (o1 o2 t1 t2 : Int) (tie : Bool) : Bool :=
  if (0 < o1 ∧ 0 < o2) ∨ (o1 < 0 ∧ o2 < 0) ∨ (o1 = 0 ∧ o2 = 0) then (if o1 ≠ 0 then decide (0 < o1) else tie)
  else if (0 < t1 ∧ 0 < t2) ∨ (t1 < 0 ∧ t2 < 0) ∨ (t1 = 0 ∧ t2 = 0) then decide (t1 < 0)
  else if o1 = 0 then decide (0 < o2)
  else if t1 = 0 then decide (t2 < 0)
  else if t2 = 0 then decide (t1 < 0)
  else decide (0 < o1)
theorem sweep_sign (sx sy ex ey ox oy px py : Int) : sweepB sx sy ex ey ox oy px py =
    signB (orient sx sy ex ey ox oy) (orient sx sy ex ey px py) (orient ox oy px py sx sy) (orient ox oy px py ex ey) (tieB sx sy ex ey ox oy px py) := by
  unfold sweepB signB tieB
  simp only [oriA_168, oriA_171, oriA_165, oriA_eq, ne_eq]
section
variable {px py qx qy rx ry sx sy : Int}
def higher (px py qx qy rx ry sx sy : Int) : Int := if orient px py qx qy rx ry ≠ 0 then orient px py qx qy rx ry else orient px py qx qy sx sy
theorem tie_law : (tieB px py qx qy rx ry sx sy = true → tieB rx ry sx sy px py qx qy = false) ∧ ((px = rx ∧ py = ry) ∧ (qx = sx ∧ qy = sy) → tieB px py qx qy rx ry sx sy = false) ∧
    (¬ ((px = rx ∧ py = ry) ∧ (qx = sx ∧ qy = sy)) → tieB px py qx qy rx ry sx sy = false → tieB rx ry sx sy px py qx qy = true) := by
  unfold tieB
  refine ⟨?_, ?_, ?_⟩ <;> (repeat' split) <;> simp only [decide_eq_true_eq, decide_eq_false_iff_not] <;> omega
theorem core (L : Lap px py qx qy rx ry sx sy) :
    (0 < higher px py qx qy rx ry sx sy → sweepB px py qx qy rx ry sx sy = true ∧ sweepB rx ry sx sy px py qx qy = false) ∧
    (higher px py qx qy rx ry sx sy < 0 → sweepB px py qx qy rx ry sx sy = false ∧ sweepB rx ry sx sy px py qx qy = true) ∧
    (higher px py qx qy rx ry sx sy = 0 → sweepB px py qx qy rx ry sx sy = tieB px py qx qy rx ry sx sy ∧ sweepB rx ry sx sy px py qx qy = tieB rx ry sx sy px py qx qy) := by
  have d := or_d px py qx qy rx ry sx sy
  have G1 : ¬ (0 ≤ orient px py qx qy rx ry ∧ 0 < orient rx ry sx sy px py ∧ 0 < orient rx ry sx sy qx qy) := fun h => g1 L h.1 h.2.1 h.2.2
  have G2 : ¬ (orient px py qx qy rx ry ≤ 0 ∧ orient rx ry sx sy px py < 0 ∧ orient rx ry sx sy qx qy < 0) := fun h => g2 L h.1 h.2.1 h.2.2
  have G3 : ¬ (0 < orient px py qx qy rx ry ∧ orient rx ry sx sy px py = 0 ∧ 0 ≤ orient rx ry sx sy qx qy) := fun h => g3 L h.1 h.2.1 h.2.2
  have G4 : ¬ (orient px py qx qy rx ry < 0 ∧ orient rx ry sx sy px py = 0 ∧ orient rx ry sx sy qx qy ≤ 0) := fun h => g4 L h.1 h.2.1 h.2.2
  have G5 : ¬ (orient px py qx qy rx ry = 0 ∧ orient px py qx qy sx sy = 0 ∧ orient rx ry sx sy px py ≠ 0) := fun h => h.2.2 (g5 L h.1 h.2.1)
  rw [sweep_sign, sweep_sign rx]
  unfold higher
  clear L
  generalize orient px py qx qy rx ry = o1 at *
  generalize orient px py qx qy sx sy = o2 at *
  generalize orient rx ry sx sy px py = t1 at *
  generalize orient rx ry sx sy qx qy = t2 at *
  generalize tieB px py qx qy rx ry sx sy = a
  generalize tieB rx ry sx sy px py qx qy = b
  unfold signB
  refine ⟨fun h => ⟨?_, ?_⟩, fun h => ⟨?_, ?_⟩, fun h => ⟨?_, ?_⟩⟩ <;> (repeat' split) <;> (try split at h) <;> first | rfl | (simp only [decide_eq_true_eq, decide_eq_false_iff_not]; omega) | (exfalso; omega)
end
end Mine
end
section
open PySem PySem.W PySem.W.X PyProof.Rows
set_option Elab.async false
set_option maxRecDepth 100000
set_option maxHeartbeats 0
namespace Mine
theorem lt_iff (a b c d : Int) : lexlt a b c d = true ↔ (a < c ∨ (a = c ∧ b < d)) := by
  unfold lexlt; split <;> simp <;> omega
theorem le_iff (a b c d : Int) : lexle a b c d = true ↔ (a < c ∨ (a = c ∧ b ≤ d)) := by
  unfold lexle; split <;> simp <;> omega
theorem gt_iff (a b c d : Int) : lexgt a b c d = true ↔ (c < a ∨ (a = c ∧ d < b)) := by
  unfold lexgt; split <;> simp <;> omega
theorem lt_f (a b c d : Int) : lexlt a b c d = false ↔ ¬ (a < c ∨ (a = c ∧ b < d)) := by
  rw [← lt_iff]; simp
theorem le_f (a b c d : Int) : lexle a b c d = false ↔ ¬ (a < c ∨ (a = c ∧ b ≤ d)) := by
  rw [← le_iff]; simp
theorem gt_f (a b c d : Int) : lexgt a b c d = false ↔ ¬ (c < a ∨ (a = c ∧ d < b)) := by
  rw [← gt_iff]; simp
section
local macro_rules | `(tactic| x_close) => `(tactic| (refine And.intro ?_ ?_; rotate_left; (apply Exists.intro; apply Exists.intro; refine And.intro ?_ rfl; assumption); first | (refine .inl (And.intro rfl ?_); (first | rw [gt_f] | rw [lt_f]); omega) | (refine .inr (And.intro rfl ?_); (first | rw [gt_iff] | rw [lt_iff]); omega)))
variable {w : World} {s : Shared} {p r l : Addr} {x y x' y' : Int} {tx ty tx' ty' : Tok} {n : Nat}
theorem leaf_max (X : (hd.heap_1 w.params).In s.heap)
    (hp : s.heap.get? p = some ⟨.type "tuple", none, .seq #[.int x tx, .int y ty] 0, #[]⟩) (hr : s.heap.get? r = some ⟨.type "tuple", none, .seq #[.int x' tx', .int y' ty'] 0, #[]⟩) :
    wpAny (model prog0 w) big (call (.builtin "max") [.ref p, .ref r])
      (fun v s' => ((v = .ref p ∧ lexgt x' y' x y = false) ∨ (v = .ref r ∧ lexgt x' y' x y = true)) ∧ ∃ nw tk, Mem s.heap s'.heap [] nw ∧ s' = { s with heap := s'.heap, toks := tk }) (fun _ _ => False) s := by
  x_run
theorem leaf_min (X : (hd.heap_1 w.params).In s.heap)
    (hp : s.heap.get? p = some ⟨.type "tuple", none, .seq #[.int x tx, .int y ty] 0, #[]⟩) (hr : s.heap.get? r = some ⟨.type "tuple", none, .seq #[.int x' tx', .int y' ty'] 0, #[]⟩) :
    wpAny (model prog0 w) big (call (.builtin "min") [.ref p, .ref r])
      (fun v s' => ((v = .ref p ∧ lexlt x' y' x y = false) ∨ (v = .ref r ∧ lexlt x' y' x y = true)) ∧ ∃ nw tk, Mem s.heap s'.heap [] nw ∧ s' = { s with heap := s'.heap, toks := tk }) (fun _ _ => False) s := by
  x_run
theorem leaf_maxl (X : (hd.heap_1 w.params).In s.heap)
    (hp : s.heap.get? p = some ⟨.type "tuple", none, .seq #[.int x tx, .int y ty] 0, #[]⟩) (hr : s.heap.get? r = some ⟨.type "tuple", none, .seq #[.int x' tx', .int y' ty'] 0, #[]⟩) (hl : s.heap.get? l = some ⟨.type "list", none, .seq #[.ref p, .ref r] n, #[]⟩) :
    wpAny (model prog0 w) big (call (.builtin "max") [.ref l])
      (fun v s' => ((v = .ref p ∧ lexgt x' y' x y = false) ∨ (v = .ref r ∧ lexgt x' y' x y = true)) ∧ ∃ nw tk, Mem s.heap s'.heap [] nw ∧ s' = { s with heap := s'.heap, toks := tk }) (fun _ _ => False) s := by
  x_run
theorem leaf_minl (X : (hd.heap_1 w.params).In s.heap)
    (hp : s.heap.get? p = some ⟨.type "tuple", none, .seq #[.int x tx, .int y ty] 0, #[]⟩) (hr : s.heap.get? r = some ⟨.type "tuple", none, .seq #[.int x' tx', .int y' ty'] 0, #[]⟩) (hl : s.heap.get? l = some ⟨.type "list", none, .seq #[.ref p, .ref r] n, #[]⟩) :
    wpAny (model prog0 w) big (call (.builtin "min") [.ref l])
      (fun v s' => ((v = .ref p ∧ lexlt x' y' x y = false) ∨ (v = .ref r ∧ lexlt x' y' x y = true)) ∧ ∃ nw tk, Mem s.heap s'.heap [] nw ∧ s' = { s with heap := s'.heap, toks := tk }) (fun _ _ => False) s := by
  x_run
end
def MaxOf (X Y x y x' y' : Int) : Prop := (X = x ∧ Y = y ∧ lexgt x' y' x y = false) ∨ (X = x' ∧ Y = y' ∧ lexgt x' y' x y = true)
def MinOf (X Y x y x' y' : Int) : Prop := (X = x ∧ Y = y ∧ lexlt x' y' x y = false) ∨ (X = x' ∧ Y = y' ∧ lexlt x' y' x y = true)
section
variable {w : World} {A : Around} {E : Value → Shared → Prop} {L p d : Addr} {h₀ : Heap} {m : Str → Option Value} {news : List (Addr × Obj)} {Q : Value → Shared → Prop} {hp : Heap} {gg : Array GenState} {dr : Drawn} {t : Nat} {os : OsState} {p r l : Addr} {x y x' y' : Int} {tx ty tx' ty' : Tok} {n : Nat}
theorem of_leafP {t' : Sem Value} {V : Value → Prop} (hh : A.handled = none) (hdp : A.depth ≤ 800) (hu : A.units ≤ 500)
    (lf : wpAny (model prog0 w) big t' (fun v s' => V v ∧ ∃ nw tk, Mem hp s'.heap [] nw ∧ s' = { (⟨hp, gg, dr, t, os⟩ : Shared) with heap := s'.heap, toks := tk }) (fun _ _ => False) ⟨hp, gg, dr, t, os⟩)
    (F : Fr h₀ L hp m) (N : News h₀ L hp news)
    (h : ∀ v h' tk, V v → Fr h₀ L h' m → News h₀ L h' news → Q v ⟨h', gg, dr, tk, os⟩) : wpAny (model prog0 w) A t' Q E ⟨hp, gg, dr, t, os⟩ := by
  refine wpAny_mono (any_big hh hdp hu lf) (fun v s' z => ?_) fun _ _ z => z.elim
  obtain ⟨hV, nw, tk, D, e⟩ := z
  rw [e]
  exact h _ _ tk hV (mem_fr F D) fun q hq => mem_news F N D q (List.mem_append_right _ hq)
theorem max_K (hh : A.handled = none) (hdp : A.depth ≤ 800) (hu : A.units ≤ 500) (F : Fr h₀ L hp m) (X : (hd.heap_1 w.params).In h₀) (N : News h₀ L hp news) (hp1 : (p, tupO x tx y ty) ∈ news) (hr1 : (r, tupO x' tx' y' ty') ∈ news)
    (h : ∀ h' tk a X' Y' t1 t2, (a, tupO X' t1 Y' t2) ∈ news → MaxOf X' Y' x y x' y' → Fr h₀ L h' m → News h₀ L h' news → Q (.ref a) ⟨h', gg, dr, tk, os⟩) :
    wpAny (model prog0 w) A (call (.builtin "max") [.ref p, .ref r]) Q E ⟨hp, gg, dr, t, os⟩ :=
  of_leafP hh hdp hu (leaf_max (s := ⟨hp, gg, dr, t, os⟩) (X.keeps F.keep) (N _ hp1).1 (N _ hr1).1) F N fun v h' tk hV F' N' => by
    rcases hV with ⟨rfl, e⟩ | ⟨rfl, e⟩
    · exact h h' tk _ _ _ _ _ hp1 (.inl ⟨rfl, rfl, e⟩) F' N'
    · exact h h' tk _ _ _ _ _ hr1 (.inr ⟨rfl, rfl, e⟩) F' N'
theorem min_K (hh : A.handled = none) (hdp : A.depth ≤ 800) (hu : A.units ≤ 500) (F : Fr h₀ L hp m) (X : (hd.heap_1 w.params).In h₀) (N : News h₀ L hp news) (hp1 : (p, tupO x tx y ty) ∈ news) (hr1 : (r, tupO x' tx' y' ty') ∈ news)
    (h : ∀ h' tk a X' Y' t1 t2, (a, tupO X' t1 Y' t2) ∈ news → MinOf X' Y' x y x' y' → Fr h₀ L h' m → News h₀ L h' news → Q (.ref a) ⟨h', gg, dr, tk, os⟩) :
    wpAny (model prog0 w) A (call (.builtin "min") [.ref p, .ref r]) Q E ⟨hp, gg, dr, t, os⟩ :=
  of_leafP hh hdp hu (leaf_min (s := ⟨hp, gg, dr, t, os⟩) (X.keeps F.keep) (N _ hp1).1 (N _ hr1).1) F N fun v h' tk hV F' N' => by
    rcases hV with ⟨rfl, e⟩ | ⟨rfl, e⟩
    · exact h h' tk _ _ _ _ _ hp1 (.inl ⟨rfl, rfl, e⟩) F' N'
    · exact h h' tk _ _ _ _ _ hr1 (.inr ⟨rfl, rfl, e⟩) F' N'
/-- the least and the greatest of a list of two: one of the two -/
theorem maxl_K {Sx : Int → Prop} (hh : A.handled = none) (hdp : A.depth ≤ 800) (hu : A.units ≤ 500) (F : Fr h₀ L hp m) (X : (hd.heap_1 w.params).In h₀) (N : News h₀ L hp news) (hl1 : (l, listOf #[.ref p, .ref r] n) ∈ news) (hp1 : (p, tupO x tx y ty) ∈ news) (hr1 : (r, tupO x' tx' y' ty') ∈ news) (z1 : Sx x) (z2 : Sx y) (z3 : Sx x') (z4 : Sx y')
    (h : ∀ h' tk a X' Y' t1 t2, (a, tupO X' t1 Y' t2) ∈ news → Sx X' → Sx Y' → Fr h₀ L h' m → News h₀ L h' news → Q (.ref a) ⟨h', gg, dr, tk, os⟩) :
    wpAny (model prog0 w) A (call (.builtin "max") [.ref l]) Q E ⟨hp, gg, dr, t, os⟩ :=
  of_leafP hh hdp hu (leaf_maxl (s := ⟨hp, gg, dr, t, os⟩) (X.keeps F.keep) (N _ hp1).1 (N _ hr1).1 (N _ hl1).1) F N fun v h' tk hV F' N' => by
    rcases hV with ⟨rfl, e⟩ | ⟨rfl, e⟩
    · exact h h' tk _ _ _ _ _ hp1 z1 z2 F' N'
    · exact h h' tk _ _ _ _ _ hr1 z3 z4 F' N'
theorem minl_K {Sx : Int → Prop} (hh : A.handled = none) (hdp : A.depth ≤ 800) (hu : A.units ≤ 500) (F : Fr h₀ L hp m) (X : (hd.heap_1 w.params).In h₀) (N : News h₀ L hp news) (hl1 : (l, listOf #[.ref p, .ref r] n) ∈ news) (hp1 : (p, tupO x tx y ty) ∈ news) (hr1 : (r, tupO x' tx' y' ty') ∈ news) (z1 : Sx x) (z2 : Sx y) (z3 : Sx x') (z4 : Sx y')
    (h : ∀ h' tk a X' Y' t1 t2, (a, tupO X' t1 Y' t2) ∈ news → Sx X' → Sx Y' → Fr h₀ L h' m → News h₀ L h' news → Q (.ref a) ⟨h', gg, dr, tk, os⟩) :
    wpAny (model prog0 w) A (call (.builtin "min") [.ref l]) Q E ⟨hp, gg, dr, t, os⟩ :=
  of_leafP hh hdp hu (leaf_minl (s := ⟨hp, gg, dr, t, os⟩) (X.keeps F.keep) (N _ hp1).1 (N _ hr1).1 (N _ hl1).1) F N fun v h' tk hV F' N' => by
    rcases hV with ⟨rfl, e⟩ | ⟨rfl, e⟩
    · exact h h' tk _ _ _ _ _ hp1 z1 z2 F' N'
    · exact h h' tk _ _ _ _ _ hr1 z3 z4 F' N'
end
end Mine
end
section
namespace Mine
section
variable {px py qx qy rx ry sx sy X Y X' Y' : Int}
theorem lex_tr {a b c d e f g k : Int} (h1 : a < c ∨ (a = c ∧ b ≤ d)) (h2 : c < e ∨ (c = e ∧ d < f)) (h3 : e < g ∨ (e = g ∧ f ≤ k)) : a < g ∨ (a = g ∧ b < k) := by omega
theorem maxOf_le (hM : MaxOf X Y px py rx ry) : (px < X ∨ (px = X ∧ py ≤ Y)) ∧ (rx < X ∨ (rx = X ∧ ry ≤ Y)) := by
  rcases hM with ⟨rfl, rfl, h⟩ | ⟨rfl, rfl, h⟩
  · have := (gt_f _ _ _ _).mp h
    omega
  · have := (gt_iff _ _ _ _).mp h
    omega
theorem minOf_le (hm : MinOf X Y qx qy sx sy) : (X < qx ∨ (X = qx ∧ Y ≤ qy)) ∧ (X < sx ∨ (X = sx ∧ Y ≤ sy)) := by
  rcases hm with ⟨rfl, rfl, h⟩ | ⟨rfl, rfl, h⟩
  · have := (lt_f _ _ _ _).mp h
    omega
  · have := (lt_iff _ _ _ _).mp h
    omega
theorem four (hM : MaxOf X Y px py rx ry) (hm : MinOf X' Y' qx qy sx sy) (hlt : lexlt X Y X' Y' = true) :
    (px < qx ∨ (px = qx ∧ py < qy)) ∧ (rx < sx ∨ (rx = sx ∧ ry < sy)) ∧ (px < sx ∨ (px = sx ∧ py < sy)) ∧ (rx < qx ∨ (rx = qx ∧ ry < qy)) := by
  obtain ⟨a, b⟩ := maxOf_le hM
  obtain ⟨c, d⟩ := minOf_le hm
  have k := (lt_iff _ _ _ _).mp hlt
  exact ⟨lex_tr a k c, lex_tr b k d, lex_tr a k d, lex_tr b k c⟩
theorem lap_le (hM : MaxOf X Y px py rx ry) (hm : MinOf X' Y' qx qy sx sy) (hlt : lexlt X Y X' Y' = true) (hle : lexle px py rx ry = true) : Lap px py qx qy rx ry sx sy := by
  obtain ⟨a, b, c, d⟩ := four hM hm hlt
  exact ⟨(le_iff _ _ _ _).mp hle, a, b, c, d⟩
theorem lap_gt (hM : MaxOf X Y px py rx ry) (hm : MinOf X' Y' qx qy sx sy) (hlt : lexlt X Y X' Y' = true) (hle : lexle px py rx ry = false) : Lap rx ry sx sy px py qx qy := by
  obtain ⟨a, b, c, d⟩ := four hM hm hlt
  have := (le_f _ _ _ _).mp hle
  exact ⟨by omega, b, a, d, c⟩
/-- what the turn of the sweep asks -/
def Due (z px py qx qy rx ry sx sy : Int) (b1 b2 : Bool) : Prop :=
  (z ≠ 0 → b1 = decide (0 < z) ∧ b2 = decide (z < 0)) ∧ (z = 0 → ((px = rx ∧ py = ry) ∧ (qx = sx ∧ qy = sy)) → b1 = false ∧ b2 = false) ∧ (z = 0 → ¬ ((px = rx ∧ py = ry) ∧ (qx = sx ∧ qy = sy)) → b1 ≠ b2)
theorem due_tie (b1 b2 : Bool) (h1 : b1 = tieB px py qx qy rx ry sx sy) (h2 : b2 = tieB rx ry sx sy px py qx qy) : (((px = rx ∧ py = ry) ∧ (qx = sx ∧ qy = sy)) → b1 = false ∧ b2 = false) ∧ (¬ ((px = rx ∧ py = ry) ∧ (qx = sx ∧ qy = sy)) → b1 ≠ b2) := by
  obtain ⟨a1, a2, a3⟩ := tie_law (px := px) (py := py) (qx := qx) (qy := qy) (rx := rx) (ry := ry) (sx := sx) (sy := sy)
  obtain ⟨c1, c2, c3⟩ := tie_law (px := rx) (py := ry) (qx := sx) (qy := sy) (rx := px) (ry := py) (sx := qx) (sy := qy)
  refine ⟨fun h => ⟨h1.trans (a2 h), h2.trans (c2 ⟨⟨h.1.1.symm, h.1.2.symm⟩, h.2.1.symm, h.2.2.symm⟩)⟩, fun h e => ?_⟩
  subst h1 h2
  cases hb : tieB px py qx qy rx ry sx sy with
  | true => have := a1 hb; rw [hb, this] at e; cases e
  | false => have := a3 h hb; rw [hb, this] at e; cases e
theorem due_le {z : Int} {b1 b2 : Bool} (L : Lap px py qx qy rx ry sx sy) (hz : z = higher px py qx qy rx ry sx sy) (h1 : b1 = sweepB px py qx qy rx ry sx sy) (h2 : b2 = sweepB rx ry sx sy px py qx qy) : Due z px py qx qy rx ry sx sy b1 b2 := by
  obtain ⟨c1, c2, c3⟩ := core L
  rw [← hz, ← h1, ← h2] at c1 c2 c3
  refine ⟨fun h => ?_, fun h => ?_, fun h => ?_⟩
  · rcases Int.lt_or_gt_of_ne h with h | h
    · obtain ⟨rfl, rfl⟩ := c2 h
      constructor <;> simp <;> omega
    · obtain ⟨rfl, rfl⟩ := c1 h
      constructor <;> simp <;> omega
  · obtain ⟨e1, e2⟩ := c3 h
    exact (due_tie b1 b2 e1 e2).1
  · obtain ⟨e1, e2⟩ := c3 h
    exact (due_tie b1 b2 e1 e2).2
theorem due_gt {z y : Int} {b1 b2 : Bool} (L : Lap rx ry sx sy px py qx qy) (hz : z = 0 - y) (hy : y = higher rx ry sx sy px py qx qy) (h1 : b1 = sweepB px py qx qy rx ry sx sy) (h2 : b2 = sweepB rx ry sx sy px py qx qy) : Due z px py qx qy rx ry sx sy b1 b2 := by
  obtain ⟨c1, c2, c3⟩ := core L
  rw [← hy, ← h1, ← h2] at c1 c2 c3
  refine ⟨fun h => ?_, fun h => ?_, fun h => ?_⟩
  · rcases Int.lt_or_gt_of_ne h with h | h
    · obtain ⟨rfl, rfl⟩ := c1 (by omega)
      constructor <;> simp <;> omega
    · obtain ⟨rfl, rfl⟩ := c2 (by omega)
      constructor <;> simp <;> omega
  · obtain ⟨e1, e2⟩ := c3 (by omega)
    exact (due_tie b1 b2 e2 e1).1
  · obtain ⟨e1, e2⟩ := c3 (by omega)
    exact (due_tie b1 b2 e2 e1).2
end
end Mine
end
section
open PySem PySem.W PySem.W.X PyProof.Rows
set_option Elab.async false
set_option maxRecDepth 100000
set_option maxHeartbeats 0
namespace Mine
theorem item_t0 {prog : Program} {w : World} {A : Around} {E : Value → Shared → Prop} {s : Shared} {Q : Value → Shared → Prop} {h₀ : Heap} {L l : Addr} {news : List (Addr × Obj)} {value slice : PySem.Expr} {x y : Int} {tx ty u : Tok}
    (N : News h₀ L s.heap news) (hl : (l, tupO x tx y ty) ∈ news) (h : Q (.int x tx) s)
    (hs : subscripted slice false (.ref l) (.int 0 u) = operate [.ref l, .int 0 u] (getItem (.ref l) (.int 0 u)) := by with_unfolding_all rfl) :
    wpAny (model prog w) A (subscriptTail value slice (.ref l) (.int 0 u)) Q E s :=
  item_tupleT (l := [.int x tx, .int y ty]) (j := 0) ⟨_, (N _ hl).1, rfl, _, rfl⟩ (by decide) (by decide) rfl rfl h hs
theorem item_t1 {prog : Program} {w : World} {A : Around} {E : Value → Shared → Prop} {s : Shared} {Q : Value → Shared → Prop} {h₀ : Heap} {L l : Addr} {news : List (Addr × Obj)} {value slice : PySem.Expr} {x y : Int} {tx ty u : Tok}
    (N : News h₀ L s.heap news) (hl : (l, tupO x tx y ty) ∈ news) (h : Q (.int y ty) s)
    (hs : subscripted slice false (.ref l) (.int 1 u) = operate [.ref l, .int 1 u] (getItem (.ref l) (.int 1 u)) := by with_unfolding_all rfl) :
    wpAny (model prog w) A (subscriptTail value slice (.ref l) (.int 1 u)) Q E s :=
  item_tupleT (l := [.int x tx, .int y ty]) (j := 1) ⟨_, (N _ hl).1, rfl, _, rfl⟩ (by decide) (by decide) rfl rfl h hs
local macro_rules | `(tactic| k_mem) => `(tactic| assumption)
section
variable {A₀ A : Around} {base h₀ : Heap} {outer : List Env} {L fa : Addr} {m mg mb : Str → Option Value} {s : Shared} {news : List (Addr × Obj)} {mean : ExcName → Option Value} {E : Value → Shared → Prop} {Q : Value → Shared → Prop}
    {qn : Str} {nm : List (Str × NameKind)} {mo : List (Str × Const)} {cd : Value} {w : World} {loose : List Str} {R : Result → Shared → Prop} {prog1 : Program} {hp : Heap} {gg : Array GenState} {dr : Drawn} {t : Nat} {os : OsState}
    {v f g p q r : Addr} {vx vy fx fy sx sy : Int} {t1 t2 t3 t4 t5 t6 t7 t8 : Tok} {BB : Nat} {px py qx qy rx ry : Int}
theorem call_rise
    (B : Below A₀ base outer h₀) (F : Fr h₀ L s.heap m) (X : (hd.heap_1 w.params).In h₀) (N : News h₀ L s.heap news) (T : Top prog1 loose mean mg mb h₀)
    (hv : (v, tupO vx t1 vy t2) ∈ news) (hf : (f, tupO fx t3 fy t4) ∈ news) (hg : (g, tupO sx t5 sy t6) ∈ news) (hB : 2 * (BB + 1) ≤ 134217728)
    (z1 : Sz BB vx) (z2 : Sz BB vy) (z3 : Sz BB fx) (z4 : Sz BB fy) (z5 : Sz BB sx) (z6 : Sz BB sy)
    (h : ∀ h' tk z t, z = orient vx vy fx fy sx sy → Fr h₀ L h' m → News h₀ L h' news → R (.ok (.ret (.int z t))) { s with heap := h', toks := tk }) :
    codeAny (model prog0 w) { handled := none, depth := 590, frames := some (envOf qn ⟨.function, nm, false, false, mo⟩ L fa cd :: outer), units := 380 } (.call (.ref 310) ⟨[.ref v, .ref f, .ref g], []⟩) R s := by
  k_with_none
  k_with "subscriptTail Name" => (k_here; (with_reducible show wpAny _ _ (subscriptTail _ _ (Value.ref _) (Value.int 0 _)) _ _ _); k_dflt (refine item_t0 (by k_asm) (by assumption) ?_))
  k_with "subscriptTail" => (k_here; (with_reducible show wpAny _ _ (subscriptTail _ _ (Value.ref _) (Value.int 0 _)) _ _ _); k_dflt (refine item_t0 (by k_asm) (by assumption) ?_))
  k_with "subscriptTail Name" => (k_here; (with_reducible show wpAny _ _ (subscriptTail _ _ (Value.ref _) (Value.int 1 _)) _ _ _); k_dflt (refine item_t1 (by k_asm) (by assumption) ?_))
  k_with "subscriptTail" => (k_here; (with_reducible show wpAny _ _ (subscriptTail _ _ (Value.ref _) (Value.int 1 _)) _ _ _); k_dflt (refine item_t1 (by k_asm) (by assumption) ?_))
  k_with "binaryOp Mult int int" => (refine mul_int ?_ (mul_sz (sz_sub (by assumption) (by assumption)) (sz_sub (by assumption) (by assumption)) (by omega)))
  k_enter
  repeat' (first | (k_unfold; (try dsimp only)) | (k_end; wrow_close) | (walk1 <;> (try dsimp only)) | (dsimp only; walk1) | (leave1; walk_say "STEP leave1"; try dsimp only))
  all_goals exact h _ _ _ _ rfl (by assumption) (by assumption)
theorem rise_K
    (hh : A.handled = none) (hdp : A.depth ≤ 590) (hu : A.units ≤ 380) (hfr : A.frames = some (envOf qn ⟨.function, nm, false, false, mo⟩ L fa cd :: outer))
    (B : Below A₀ base outer h₀) (F : Fr h₀ L hp m) (X : (hd.heap_1 w.params).In h₀) (N : News h₀ L hp news) (T : Top prog1 loose mean mg mb h₀)
    (hv : (v, tupO vx t1 vy t2) ∈ news) (hf : (f, tupO fx t3 fy t4) ∈ news) (hg : (g, tupO sx t5 sy t6) ∈ news)
    (z1 : Sz BB vx) (z2 : Sz BB vy) (z3 : Sz BB fx) (z4 : Sz BB fy) (z5 : Sz BB sx) (z6 : Sz BB sy) (hB : 2 * (BB + 1) ≤ 134217728)
    (h : ∀ h' tk z t, z = orient vx vy fx fy sx sy → Fr h₀ L h' m → News h₀ L h' news → Q (.int z t) ⟨h', gg, dr, tk, os⟩) :
    wpAny (model prog0 w) A (call (.ref 310) [.ref v, .ref f, .ref g]) Q E ⟨hp, gg, dr, t, os⟩ :=
  wpAny_call (code_lv (d := 590) (u := 380) hh hdp hu hfr (call_rise (s := ⟨hp, gg, dr, t, os⟩) B F X N T hv hf hg hB z1 z2 z3 z4 z5 z6 fun h' tk z t e F' N' => h h' tk z t e F' N'))
end
section
variable {A₀ A : Around} {base h₀ : Heap} {outer : List Env} {L fa : Addr} {m mg mb : Str → Option Value} {s : Shared} {news : List (Addr × Obj)} {mean : ExcName → Option Value} {E : Value → Shared → Prop} {Q : Value → Shared → Prop}
    {qn : Str} {nm : List (Str × NameKind)} {mo : List (Str × Const)} {cd : Value} {w : World} {loose : List Str} {R : Result → Shared → Prop} {prog1 : Program} {hp : Heap} {gg : Array GenState} {dr : Drawn} {t : Nat} {os : OsState}
    {p q r v : Addr} {t1 t2 t3 t4 t5 t6 t7 t8 : Tok} {BB : Nat} {px py qx qy rx ry sx sy : Int}
theorem hi1 {a b z : Int} (c : a ≠ 0) (h1 : a = orient px py qx qy rx ry) (h2 : b = orient px py qx qy rx ry) : b = higher px py qx qy rx ry sx sy := by
  subst h1 h2; unfold higher; rw [if_pos c]
theorem hi2 {a b z : Int} (c : a = 0) (h1 : a = orient px py qx qy rx ry) (h2 : b = orient px py qx qy sx sy) : b = higher px py qx qy rx ry sx sy := by
  subst h1 h2; unfold higher; rw [if_neg (by simpa using c)]
theorem call_higher
    (B : Below A₀ base outer h₀) (F : Fr h₀ L s.heap m) (X : (hd.heap_1 w.params).In h₀) (N : News h₀ L s.heap news) (T : Top prog1 loose mean mg mb h₀)
    (hp : (p, tupO px t1 py t2) ∈ news) (hq : (q, tupO qx t3 qy t4) ∈ news) (hr : (r, tupO rx t5 ry t6) ∈ news) (hv : (v, tupO sx t7 sy t8) ∈ news) (hB : 2 * (BB + 1) ≤ 134217728)
    (z1 : Sz BB px) (z2 : Sz BB py) (z3 : Sz BB qx) (z4 : Sz BB qy) (z5 : Sz BB rx) (z6 : Sz BB ry) (z7 : Sz BB sx) (z8 : Sz BB sy)
    (h : ∀ h' tk z t, z = higher px py qx qy rx ry sx sy → Fr h₀ L h' m → News h₀ L h' news → R (.ok (.ret (.int z t))) { s with heap := h', toks := tk }) :
    codeAny (model prog0 w) { handled := none, depth := 500, frames := some (envOf qn ⟨.function, nm, false, false, mo⟩ L fa cd :: outer), units := 300 } (.call (.ref 317) ⟨[.ref p, .ref q, .ref r, .ref v], []⟩) R s := by
  k_with_none
  k_with "subscriptTail Name" => (k_here; (with_reducible show wpAny _ _ (subscriptTail _ _ (Value.ref _) (Value.int 0 _)) _ _ _); k_dflt (refine item_t0 (by k_asm) (by assumption) ?_))
  k_with "subscriptTail" => (k_here; (with_reducible show wpAny _ _ (subscriptTail _ _ (Value.ref _) (Value.int 0 _)) _ _ _); k_dflt (refine item_t0 (by k_asm) (by assumption) ?_))
  k_with "subscriptTail Name" => (k_here; (with_reducible show wpAny _ _ (subscriptTail _ _ (Value.ref _) (Value.int 1 _)) _ _ _); k_dflt (refine item_t1 (by k_asm) (by assumption) ?_))
  k_with "subscriptTail" => (k_here; (with_reducible show wpAny _ _ (subscriptTail _ _ (Value.ref _) (Value.int 1 _)) _ _ _); k_dflt (refine item_t1 (by k_asm) (by assumption) ?_))
  k_with "binaryOp Mult int int" => (refine mul_int ?_ (mul_sz (sz_sub (by assumption) (by assumption)) (sz_sub (by assumption) (by assumption)) (by omega)))
  k_with "call ref" => (k_here; (with_reducible show wpAny _ _ (call (Value.ref _) [Value.ref _, Value.ref _, Value.ref _]) _ _ _); k_dflt (refine rise_K rfl (Nat.le_of_ble_eq_true rfl) (Nat.le_of_ble_eq_true rfl) rfl (by k_asm) (by k_asm) (by k_asm) (by k_asm) (by k_asm) (by assumption) (by assumption) (by assumption) (by assumption) (by assumption) (by assumption) (by assumption) (by assumption) (by assumption) (by assumption) ?_); intro h' tk' z' t' e' F' N'; (try k_sweep))
  k_enter
  repeat' (first | (k_unfold; (try dsimp only)) | (k_end; wrow_close) | (walk1 <;> (try dsimp only)) | (dsimp only; walk1) | (leave1; walk_say "STEP leave1"; try dsimp only))
  all_goals refine h _ _ _ _ ?_ (by assumption) (by assumption)
  all_goals first | exact hi1 (z := 0) (by assumption) (by assumption) (by assumption) | exact hi2 (z := 0) (by assumption) (by assumption) (by assumption)
theorem higher_K
    (hh : A.handled = none) (hdp : A.depth ≤ 500) (hu : A.units ≤ 300) (hfr : A.frames = some (envOf qn ⟨.function, nm, false, false, mo⟩ L fa cd :: outer))
    (B : Below A₀ base outer h₀) (F : Fr h₀ L hp m) (X : (hd.heap_1 w.params).In h₀) (N : News h₀ L hp news) (T : Top prog1 loose mean mg mb h₀)
    (hp1 : (p, tupO px t1 py t2) ∈ news) (hq : (q, tupO qx t3 qy t4) ∈ news) (hr : (r, tupO rx t5 ry t6) ∈ news) (hv : (v, tupO sx t7 sy t8) ∈ news)
    (z1 : Sz BB px) (z2 : Sz BB py) (z3 : Sz BB qx) (z4 : Sz BB qy) (z5 : Sz BB rx) (z6 : Sz BB ry) (z7 : Sz BB sx) (z8 : Sz BB sy) (hB : 2 * (BB + 1) ≤ 134217728)
    (h : ∀ h' tk z t, z = higher px py qx qy rx ry sx sy → Fr h₀ L h' m → News h₀ L h' news → Q (.int z t) ⟨h', gg, dr, tk, os⟩) :
    wpAny (model prog0 w) A (call (.ref 317) [.ref p, .ref q, .ref r, .ref v]) Q E ⟨hp, gg, dr, t, os⟩ :=
  wpAny_call (code_lv (d := 500) (u := 300) hh hdp hu hfr (call_higher (s := ⟨hp, gg, dr, t, os⟩) B F X N T hp1 hq hr hv hB z1 z2 z3 z4 z5 z6 z7 z8 fun h' tk z t e F' N' => h h' tk z t e F' N'))
end
end Mine
end
section
open PySem PySem.W PySem.W.X PyProof.Rows PySem.Spec
set_option Elab.async false
set_option maxRecDepth 100000
set_option maxHeartbeats 0
namespace Mine
section
variable {nw : List (Addr × Obj)} {ev ov pv : Array Value} {el ol pl : Addr} {ne no np M : Nat} {xs ys : Nat → Int} {BB : Nat}
theorem Sc.get2 (S : Sc nw ev ov pv el ol pl ne no np M xs ys BB) {i : Nat} {I : Int} (hi : i < M) (hI : I = 0 + (i : Int) * 2) :
    ∃ (a b p q d e : Addr) (t1 t2 t3 t4 t5 t6 t7 t8 to : Tok), 0 ≤ I ∧ I < 2 ^ 63 ∧ 0 ≤ I + 1 ∧ I + 1 < 2 ^ 63 ∧
      ev[I.toNat]? = some (.ref a) ∧ ev[(I + 1).toNat]? = some (.ref b) ∧ pv[I.toNat]? = some (.ref p) ∧ pv[(I + 1).toNat]? = some (.ref q) ∧ ov[I.toNat]? = some (.int (I + 1) to) ∧
      (a, tupO (xs (2 * i)) t1 (ys (2 * i)) t2) ∈ nw ∧ (b, tupO (xs (2 * i + 1)) t3 (ys (2 * i + 1)) t4) ∈ nw ∧ (p, ptO d (xs (2 * i)) t5 (ys (2 * i)) t6) ∈ nw ∧ (d, dictOf [] 0) ∈ nw ∧ (q, ptO e (xs (2 * i + 1)) t7 (ys (2 * i + 1)) t8) ∈ nw ∧ (e, dictOf [] 0) ∈ nw ∧
      Sz BB (xs (2 * i)) ∧ Sz BB (ys (2 * i)) ∧ Sz BB (xs (2 * i + 1)) ∧ Sz BB (ys (2 * i + 1)) := by
  have e1 : opp (2 * i) = I + 1 := by unfold opp; rw [if_pos (by omega)]; omega
  have e2 : (I + 1).toNat = 2 * i + 1 := by omega
  obtain ⟨o, a, b, p, q, d, e, t1, t2, t3, t4, t5, t6, t7, t8, to, ho, h1, h2, h3, h4, h5, h6, h7, h8, h9, k1, k2, k3, k4, k5, k6, z1, z2, z3, z4⟩ := S.get (k := 2 * i) (I := I) (by omega) (by omega)
  rw [e1] at ho
  subst ho
  rw [e2] at *
  exact ⟨a, b, p, q, d, e, t1, t2, t3, t4, t5, t6, t7, t8, to, h1, h2, h3, h4, h5, h6, h7, h8, h9, k1, k2, k3, k4, k5, k6, z1, z2, z3, z4⟩
end
section
variable {w : World} {A : Around} {E : Value → Shared → Prop} {L p q : Addr} {h₀ : Heap} {news : List (Addr × Obj)} {Q : Value → Shared → Prop} {hp : Heap} {gg : Array GenState} {dr : Drawn} {t : Nat} {os : OsState} {x y x' y' : Int} {tx ty tx' ty' : Tok}
theorem lt_K (hu : A.units < cLine) (N : News h₀ L hp news) (hp1 : (p, tupO x tx y ty) ∈ news) (hq : (q, tupO x' tx' y' ty') ∈ news)
    (h : Q (.bool (lexlt x y x' y')) ⟨hp, gg, dr, t, os⟩) : wpAny (model prog0 w) A (compareOp .Lt (.ref p) (.ref q)) Q E ⟨hp, gg, dr, t, os⟩ :=
  tup_lt (s := ⟨hp, gg, dr, t, os⟩) hu (N _ hp1).1 (N _ hq).1 h
theorem le_K (hu : A.units < cLine) (N : News h₀ L hp news) (hp1 : (p, tupO x tx y ty) ∈ news) (hq : (q, tupO x' tx' y' ty') ∈ news)
    (h : Q (.bool (lexle x y x' y')) ⟨hp, gg, dr, t, os⟩) : wpAny (model prog0 w) A (compareOp .LtE (.ref p) (.ref q)) Q E ⟨hp, gg, dr, t, os⟩ :=
  tup_le (s := ⟨hp, gg, dr, t, os⟩) hu (N _ hp1).1 (N _ hq).1 h
theorem duo_K {a b c d : Addr} {X Y X' Y' : Int} {t1 t2 t3 t4 : Tok} (hu : A.units + 64 < cLine) (N : News h₀ L hp news) (hp1 : (p, duoO a b) ∈ news) (hq : (q, duoO c d) ∈ news)
    (ha : (a, tupO x tx y ty) ∈ news) (hb : (b, tupO X t1 Y t2) ∈ news) (hc : (c, tupO x' tx' y' ty') ∈ news) (hd : (d, tupO X' t3 Y' t4) ∈ news)
    (h : Q (.bool (decide ((x = x' ∧ y = y') ∧ (X = X' ∧ Y = Y')))) ⟨hp, gg, dr, t, os⟩) : wpAny (model prog0 w) A (compareOp .Eq (.ref p) (.ref q)) Q E ⟨hp, gg, dr, t, os⟩ :=
  duo_eq (s := ⟨hp, gg, dr, t, os⟩) hu (N _ hp1).1 (N _ hq).1 (N _ ha).1 (N _ hb).1 (N _ hc).1 (N _ hd).1 h
end
section
variable {x y X Y x' y' X' Y' I J : Int} {a b : Bool}
theorem ev_abs (n : (a != b) = true) (ha : a = evqB I J x y X Y x' y' X' Y') (hb : b = lex3 x y (1 - I.fmod 2) X Y x' y' (1 - J.fmod 2) X' Y') : False := by
  rw [Int.fmod_eq_emod_of_nonneg _ (by decide), Int.fmod_eq_emod_of_nonneg _ (by decide)] at hb
  have := ev_eq a b ha hb
  subst this
  simp at n
end
section
variable {px py qx qy rx ry sx sy X Y X' Y' z : Int} {b1 b2 : Bool}
theorem due1 (hlt : lexlt X Y X' Y' = true) (hM : MaxOf X Y px py rx ry) (hm : MinOf X' Y' qx qy sx sy) (hle : lexle px py rx ry = true) (hz : z = higher px py qx qy rx ry sx sy) (h1 : b1 = sweepB px py qx qy rx ry sx sy) (h2 : b2 = sweepB rx ry sx sy px py qx qy) : Due z px py qx qy rx ry sx sy b1 b2 :=
  due_le (lap_le hM hm hlt hle) hz h1 h2
theorem due2 (hlt : lexlt X Y X' Y' = true) (hM : MaxOf X Y px py rx ry) (hm : MinOf X' Y' qx qy sx sy) (hle : lexle px py rx ry = false) (hz : z = higher rx ry sx sy px py qx qy) (h1 : b1 = sweepB px py qx qy rx ry sx sy) (h2 : b2 = sweepB rx ry sx sy px py qx qy) : Due (0 - z) px py qx qy rx ry sx sy b1 b2 :=
  due_gt (lap_gt hM hm hlt hle) rfl hz h1 h2
theorem dA (D : Due z px py qx qy rx ry sx sy b1 b2) (h : z ≠ 0) (e : (b1 != decide (0 < z)) = true) : False := by
  rw [(D.1 h).1] at e; simp at e
theorem dB (D : Due z px py qx qy rx ry sx sy b1 b2) (h : z ≠ 0) (e : (b2 != decide (z < 0)) = true) : False := by
  rw [(D.1 h).2] at e; simp at e
theorem dC (D : Due z px py qx qy rx ry sx sy b1 b2) (h : z = 0) (e : ((px = rx ∧ py = ry) ∧ (qx = sx ∧ qy = sy))) (f : b1 = true) : False := by
  rw [(D.2.1 h e).1] at f; cases f
theorem dD (D : Due z px py qx qy rx ry sx sy b1 b2) (h : z = 0) (e : ((px = rx ∧ py = ry) ∧ (qx = sx ∧ qy = sy))) (f : b2 = true) : False := by
  rw [(D.2.1 h e).2] at f; cases f
theorem dE (D : Due z px py qx qy rx ry sx sy b1 b2) (h : z = 0) (e : ¬ ((px = rx ∧ py = ry) ∧ (qx = sx ∧ qy = sy))) (f : (b1 == b2) = true) : False :=
  D.2.2 h e (by simpa using f)
end
end Mine
end
section
open PySem PySem.W PySem.W.X PyProof.Rows PySem.Spec
set_option Elab.async false
set_option maxRecDepth 100000
set_option maxHeartbeats 0
namespace Mine
section
variable {x a : Str} {stored : List Str} {m m' : Str → Option Value} {v u : Str → Option Value}
theorem m_base {v₀ : Option Value} : ∀ y, y ≠ x → stored.contains y = false → (if y = x then v₀ else if stored.contains y then u y else m y) = m y := fun y h1 h2 => by
  rw [if_neg h1, h2]; rfl
theorem m_store {v₀ : Option Value} (ha : a = x ∨ stored.contains a = true) (h : ∀ y, y ≠ x → stored.contains y = false → m' y = m y) :
    ∀ y, y ≠ x → stored.contains y = false → (if y = a then v₀ else m' y) = m y := fun y h1 h2 => by
  rw [if_neg (fun e => by subst e; rcases ha with ha | ha <;> simp_all)]
  exact h y h1 h2
theorem m_loop (ha : a = x ∨ stored.contains a = true) (h : ∀ y, y ≠ x → stored.contains y = false → m' y = m y) :
    ∀ y, y ≠ x → stored.contains y = false → (if y = a then v y else if stored.contains y then u y else m' y) = m y := fun y h1 h2 => by
  rw [if_neg (fun e => by subst e; rcases ha with ha | ha <;> simp_all), h2]
  exact h y h1 h2
end
end Mine
end
section
open PySem PySem.W PySem.W.X PyProof.Rows PySem.Spec
open PyProof.Rows.LCg PyProof.Rows.LCp
set_option Elab.async false
set_option maxRecDepth 100000
set_option maxHeartbeats 0
namespace Mine
section
variable {prog : Program} {w : World} {A : Around} {s : Shared} {h₀ : Heap} {L : Addr} {m : Str → Option Value} {env : Env}
theorem compEnd_mono {S : List (Addr × Obj) → Prop} {rest rest' : Value → List (Addr × Obj) → Prop} {s₁ s₂ : Shared} {I C D : Addr} {oI oC oD : Obj} {y : Value} (hr : ∀ y nx, rest y nx → rest' y nx) (z : CompEnd h₀ L m s₁ I oI C oC D oD S rest y s₂) : CompEnd h₀ L m s₁ I oI C oC D oD S rest' y s₂ := by
  obtain ⟨h', tk, nw, e, F, N, off, hS, r⟩ := z
  exact ⟨h', tk, nw, e, F, N, off, hS, hr _ _ r⟩
theorem comp_rest {elt : PySem.Expr} {x x₂ : Str} {scope : Scope} {cl : List (Str × Addr)} {S : List (Addr × Obj) → Prop} {P : Nat → Value → Prop} {Fin : List Value → List (Addr × Obj) → Prop} {n : Nat} (J : Nat → List Value → List (Addr × Obj) → Prop)
    (step : ∀ i ys nx v, i < n → P i v → J i ys nx → ∃ (t : Addr) (ot : Obj) (v₁ v₂ : Value) (nt : Nat), v = .ref t ∧ (t, ot) ∈ nx ∧ ot.cls = .type "tuple" ∧ ot.data = .seq #[v₁, v₂] nt ∧
      ∀ I oI C oC D m₂ h tk (E' : Value → Shared → Prop), NsObj oC m₂ → m₂ x = some v₁ → m₂ x₂ = some v₂ → Fr h₀ L h m → News h₀ L h ((I, oI) :: (C, oC) :: (D, lst ys) :: nx) → Off3 I C D nx → ((@Ne Nat I C) ∧ (@Ne Nat I D) ∧ (@Ne Nat C D)) →
        wpAny (model prog w) A (eval elt (compEnvC scope cl C env)) (CompEnd h₀ L m { s with heap := h, toks := tk } I oI C oC D (lst ys) S (fun y nx' => J (i + 1) (ys ++ [y]) nx')) E' { s with heap := h, toks := tk })
    (fin : ∀ ys nx, J n ys nx → Fin ys nx) : ∀ (k i : Nat) (ys : List Value) (nx : List (Addr × Obj)), i + k = n → J i ys nx → CompRestP prog w A h₀ L m env elt x x₂ scope cl s S P Fin k i ys nx := by
  intro k
  induction k with
  | zero =>
    intro i ys nx e hj
    have e : i = n := by omega
    subst e
    exact CompRestP.zero (fin _ _ hj)
  | succ k ih =>
    intro i ys nx e hj
    refine CompRestP.succ fun v hv => ?_
    obtain ⟨t, ot, v₁, v₂, nt, e1, e2, e3, e4, hs⟩ := step i ys nx v (by omega) hv hj
    exact ⟨t, ot, v₁, v₂, nt, e1, e2, e3, e4, fun I oI C oC D m₂ h tk E' a b c d e' f g =>
      wpAny_mono (hs I oI C oC D m₂ h tk E' a b c d e' f g) (fun y s' z => compEnd_mono (fun y nx hj' => ih (i + 1) _ _ (by omega) hj') z) fun _ _ z => z⟩
end
def PtsJ (ev ov : Array Value) (el ol : Addr) (ne no M : Nat) (xs yy : Nat → Int) (BB : Nat) (i : Nat) (ys : List Value) (nx : List (Addr × Obj)) : Prop :=
  Sc0 nx ev ov el ol ne no M xs yy BB ∧ ys.length = i ∧ ∀ k, k < i → ∃ p d t3 t4, ys[k]? = some (.ref p) ∧ (p, ptO d (xs k) t3 (yy k) t4) ∈ nx ∧ (d, dictOf [] 0) ∈ nx
section
variable {ev ov : Array Value} {el ol : Addr} {ne no M : Nat} {xs yy : Nat → Int} {BB : Nat} {ys : List Value} {nx : List (Addr × Obj)}
theorem pts_fin {D : Addr} (J : PtsJ ev ov el ol ne no M xs yy BB (2 * M) ys nx) : Sc ((D, lst ys) :: nx) ev ov ys.toArray el ol D ne no ys.length M xs yy BB := by
  obtain ⟨S, hl, hp⟩ := J
  refine ⟨S.mono fun p hp => List.Mem.tail _ hp, List.Mem.head _, by simpa using hl, fun k hk => ?_⟩
  obtain ⟨p, d, t3, t4, e1, e2, e3⟩ := hp k hk
  exact ⟨p, d, t3, t4, by simpa using e1, List.Mem.tail _ e2, List.Mem.tail _ e3⟩
theorem pts_next {i : Nat} {p d : Addr} {t3 t4 : Tok} (J : PtsJ ev ov el ol ne no M xs yy BB i ys nx) : PtsJ ev ov el ol ne no M xs yy BB (i + 1) (ys ++ [.ref p]) ((p, ptO d (xs i) t3 (yy i) t4) :: (d, dictOf [] 0) :: nx) := by
  obtain ⟨S, hl, hp⟩ := J
  refine ⟨S.mono fun p hp => List.Mem.tail _ (List.Mem.tail _ hp), by simp [hl], fun k hk => ?_⟩
  by_cases e : k < i
  · obtain ⟨p', d', t3', t4', e1, e2, e3⟩ := hp k e
    exact ⟨p', d', t3', t4', by rw [List.getElem?_append_left (by omega)]; exact e1, List.Mem.tail _ (List.Mem.tail _ e2), List.Mem.tail _ (List.Mem.tail _ e3)⟩
  · have e : k = i := by omega
    subst e
    exact ⟨p, d, t3, t4, by rw [List.getElem?_append_right (by omega), hl]; simp, List.Mem.head _, List.Mem.tail _ (List.Mem.head _)⟩
end
section
variable {w : World} {A : Around} {E : Value → Shared → Prop} {h₀ : Heap} {L : Addr} {m : Str → Option Value} {news : List (Addr × Obj)} {Q : Value → Shared → Prop} {hp : Heap} {gg : Array GenState} {dr : Drawn} {t : Nat} {os : OsState} {a b : Int} {ta tb : Tok}
theorem point_K (hh : A.handled = none) (hdp : A.depth ≤ 800) (hu : A.units ≤ 500) (F : Fr h₀ L hp m) (X : (hd.heap_1 w.params).In h₀) (N : News h₀ L hp news)
    (h : ∀ h' tk p d, Fr h₀ L h' m → News h₀ L h' ((p, ptO d a ta b tb) :: (d, dictOf [] 0) :: news) → (∀ q ∈ news, q.1 ≠ p ∧ q.1 ≠ d) → Q (.ref p) ⟨h', gg, dr, tk, os⟩) :
    wpAny (model prog0 w) A (call (.ref 132) [.int a ta, .int b tb]) Q E ⟨hp, gg, dr, t, os⟩ := by
  refine wpAny_mono (any_big hh hdp hu (leaf_point (s := ⟨hp, gg, dr, t, os⟩) (X.keeps F.keep))) (fun v s' z => ?_) fun _ _ z => z.elim
  obtain ⟨p, d, nw, tk, rfl, D, e⟩ := z
  rw [e]
  have N' := mem_news F N D
  refine h _ tk p d (mem_fr F D) (fun q hq => N' q ?_) fun q hq => ?_
  · rcases List.mem_cons.mp hq with rfl | hq
    · exact List.Mem.head _
    rcases List.mem_cons.mp hq with rfl | hq
    · exact List.Mem.tail _ (List.Mem.head _)
    · exact List.Mem.tail _ (List.Mem.tail _ (List.mem_append_right _ hq))
  · have z1 := (D.nw _ (List.Mem.head _)).2
    have z2 := (D.nw _ (List.Mem.tail _ (List.Mem.head _))).2
    have z0 := (N q hq).1
    constructor <;> intro e' <;> rw [e'] at z0
    · rw [z1] at z0; cases z0
    · rw [z2] at z0; cases z0
theorem pts_end {ev ov : Array Value} {el ol : Addr} {ne no M : Nat} {xs yy : Nat → Int} {BB i : Nat} {ys : List Value} {nx : List (Addr × Obj)} {I C D p d : Addr} {oI oC : Obj} {hq : Heap} {tk : Nat} {s₁ : Shared} (J : PtsJ ev ov el ol ne no M xs yy BB i ys nx) (hs : s₁ = ⟨hp, gg, dr, t, os⟩)
    (F : Fr h₀ L hq m) (N : News h₀ L hq ((p, ptO d (xs i) ta (yy i) tb) :: (d, dictOf [] 0) :: (I, oI) :: (C, oC) :: (D, lst ys) :: nx)) (off : Off3 I C D nx) (ne3 : ∀ q ∈ (I, oI) :: (C, oC) :: (D, lst ys) :: nx, q.1 ≠ p ∧ q.1 ≠ d) :
    CompEnd h₀ L m s₁ I oI C oC D (lst ys) (SrcAt h₀ el ev) (fun y nx' => PtsJ ev ov el ol ne no M xs yy BB (i + 1) (ys ++ [y]) nx') (.ref p) ⟨hq, gg, dr, tk, os⟩ := by
  subst hs
  have nI := ne3 _ (List.Mem.head _)
  have nC := ne3 _ (List.Mem.tail _ (List.Mem.head _))
  have nD := ne3 _ (List.Mem.tail _ (List.Mem.tail _ (List.Mem.head _)))
  refine ⟨hq, tk, (p, ptO d (xs i) ta (yy i) tb) :: (d, dictOf [] 0) :: nx, rfl, F, fun q hq' => N q ?_, ?_, .inr ⟨_, List.Mem.tail _ (List.Mem.tail _ J.1.hel), rfl, _, rfl⟩, pts_next J⟩
  · rcases List.mem_cons.mp hq' with rfl | hq'
    · exact .tail _ (.tail _ (.head _))
    rcases List.mem_cons.mp hq' with rfl | hq'
    · exact .tail _ (.tail _ (.tail _ (.head _)))
    rcases List.mem_cons.mp hq' with rfl | hq'
    · exact .tail _ (.tail _ (.tail _ (.tail _ (.head _))))
    rcases List.mem_cons.mp hq' with rfl | hq'
    · exact .head _
    rcases List.mem_cons.mp hq' with rfl | hq'
    · exact .tail _ (.head _)
    · exact .tail _ (.tail _ (.tail _ (.tail _ (.tail _ hq'))))
  · exact ⟨⟨Ne.symm nI.1, Ne.symm nC.1, Ne.symm nD.1⟩, ⟨Ne.symm nI.2, Ne.symm nC.2, Ne.symm nD.2⟩, off⟩
theorem src_pts {elt : PySem.Expr} {env : Env} {x x₂ y : Str} {scope : Scope} {cl : List (Str × Addr)} {ev ov : Array Value} {el ol : Addr} {ne no M : Nat} {xs yy : Nat → Int} {BB : Nat} {Q : Flow → Shared → Prop}
    (hh : A.handled = none) (F : Fr h₀ L hp m) (N : News h₀ L hp news) (S : Sc0 news ev ov el ol ne no M xs yy BB)
    (step : ∀ i ys nx a b ta tb I oI C oC D m₂ h tk (E' : Value → Shared → Prop), a = xs i → b = yy i → PtsJ ev ov el ol ne no M xs yy BB i ys nx → NsObj oC m₂ → m₂ x = some (.int a ta) → m₂ x₂ = some (.int b tb) → Fr h₀ L h m → News h₀ L h ((I, oI) :: (C, oC) :: (D, lst ys) :: nx) → Off3 I C D nx → ((@Ne Nat I C) ∧ (@Ne Nat I D) ∧ (@Ne Nat C D)) →
      wpAny (model prog0 w) A (eval elt (compEnvC scope cl C env)) (CompEnd h₀ L m ⟨h, gg, dr, tk, os⟩ I oI C oC D (lst ys) (SrcAt h₀ el ev) (fun y nx' => PtsJ ev ov el ol ne no M xs yy BB (i + 1) (ys ++ [y]) nx')) E' ⟨h, gg, dr, tk, os⟩)
    (fin : ∀ h tk pv pl np nw, Sc nw ev ov pv el ol pl ne no np M xs yy BB → Fr h₀ L h (fun z => if z = y then some (.ref pl) else m z) → News h₀ L h nw → Q .next ⟨h, gg, dr, tk, os⟩) :
    SrcLP prog0 w A h₀ L m env elt x x₂ scope cl (fun s₂ => FinA h₀ L m s₂ y Q) (.ref el) ⟨hp, gg, dr, t, os⟩ := by
  have hsm := S.small
  have hs1 := S.s1
  refine SrcLP.ledger hh F N S.hel (by have : (1000 : Nat) ≤ sizeLine := by decide
                                       omega) fun g => ?_
  refine comp_rest (n := ev.size) (PtsJ ev ov el ol ne no M xs yy BB) (fun i ys nx v hi hv hj => ?_) (fun ys nx hj => ?_) _ _ _ _ (by omega) ⟨S, rfl, fun k hk => absurd hk (Nat.not_lt_zero _)⟩
  · obtain ⟨a, t1, t2, to, e1, e2, _⟩ := hj.1.ats i (by omega)
    have e : v = .ref a := by rw [e1] at hv; exact (Option.some.inj hv).symm
    refine ⟨a, _, _, _, _, e, e2, rfl, rfl, fun I oI C oC D m₂ h tk E' hC hx hy F' N' off ne' => ?_⟩
    exact step i ys nx _ _ _ _ I oI C oC D m₂ h tk E' rfl rfl hj hC hx hy F' N' off ne'
  · intro D h tk F' N' _
    rw [hs1] at hj
    exact fin h tk _ D _ _ (pts_fin hj) F' N'
end
end Mine
end
section
open PySem PySem.W PySem.W.X PyProof.Rows PySem.Spec
set_option Elab.async false
set_option maxRecDepth 100000
set_option maxHeartbeats 0
namespace Mine
structure Dr (nw : List (Addr × Obj)) (l : Addr) (vs : Array Value) (n BB : Nat) : Prop where
  hl : (l, listOf vs n) ∈ nw
  small : vs.size ≤ 5
  ats : ∀ (k : Nat) v, vs[k]? = some v → ∃ (d p r : Addr) (n' : Nat) (x y x' y' : Int) (tx ty tx' ty' : Tok), v = .ref d ∧ (d, listOf #[.ref p, .ref r] n') ∈ nw ∧ (p, tupO x tx y ty) ∈ nw ∧ (r, tupO x' tx' y' ty') ∈ nw ∧ Sz BB x ∧ Sz BB y ∧ Sz BB x' ∧ Sz BB y'
section
variable {nw nw' : List (Addr × Obj)} {l : Addr} {vs : Array Value} {n BB : Nat}
theorem Dr.mono (D : Dr nw l vs n BB) (h : ∀ p ∈ nw, p ∈ nw') : Dr nw' l vs n BB :=
  ⟨h _ D.hl, D.small, fun k v e => by
    obtain ⟨d, p, r, n', x, y, x', y', tx, ty, tx', ty', e1, e2, e3, e4, z⟩ := D.ats k v e
    exact ⟨d, p, r, n', x, y, x', y', tx, ty, tx', ty', e1, h _ e2, h _ e3, h _ e4, z⟩⟩
end
abbrev drM (m : Str → Option Value) (u : Option Value) (el ol : Addr) : Str → Option Value := fun y => if y = PySem.Str.ofString "drawn" then u else if y = PySem.Str.ofString "ends" then some (.ref el) else if y = PySem.Str.ofString "opposites" then some (.ref ol) else m y
def DrJ (l : Addr) (vs : Array Value) (n BB : Nat) (m₀ : Str → Option Value) (i : Nat) (m : Str → Option Value) (nx : List (Addr × Obj)) : Prop :=
  Dr nx l vs n BB ∧ ∃ ev ov el ol ne no xs yy u, Sc0 nx ev ov el ol ne no i xs yy BB ∧ m = drM m₀ u el ol
theorem sc0_nil {nw : List (Addr × Obj)} {el ol : Addr} {ne no BB : Nat} (h1 : (el, listOf #[] ne) ∈ nw) (h2 : (ol, listOf #[] no) ∈ nw) : Sc0 nw #[] #[] el ol ne no 0 (fun _ => 0) (fun _ => 0) BB :=
  ⟨h1, h2, rfl, rfl, by omega, fun k hk => absurd hk (by omega)⟩
theorem sc0_snoc {nx nw : List (Addr × Obj)} {ev ov : Array Value} {el ol el' ol' a b : Addr} {ne no ne' no' M BB : Nat} {xs yy : Nat → Int} {x y x' y' I J : Int} {t1 t2 t3 t4 t5 t6 : Tok} (S : Sc0 nx ev ov el ol ne no M xs yy BB) (hM : M < 5) (hs : ∀ p ∈ nx, p ∈ nw)
    (h1 : (el', listOf (ev.toList ++ #[Value.ref a, .ref b].toList).toArray ne') ∈ nw) (h2 : (ol', listOf (ov.toList ++ #[Value.int I t5, .int J t6].toList).toArray no') ∈ nw)
    (hI : I = (2 * M : Nat) + 1) (hJ : J = (2 * M : Nat))
    (ha : (a, tupO x t1 y t2) ∈ nw) (hb : (b, tupO x' t3 y' t4) ∈ nw) (z1 : Sz BB x) (z2 : Sz BB y) (z3 : Sz BB x') (z4 : Sz BB y') :
    ∃ xs' yy', Sc0 nw (ev.toList ++ #[Value.ref a, .ref b].toList).toArray (ov.toList ++ #[Value.int I t5, .int J t6].toList).toArray el' ol' ne' no' (M + 1) xs' yy' BB := by
  have s1 := S.s1
  have s2 := S.s2
  refine ⟨fun k => if k < 2 * M then xs k else if k = 2 * M then x else x', fun k => if k < 2 * M then yy k else if k = 2 * M then y else y', h1, h2, by simp; omega, by simp; omega, by omega, fun k hk => ?_⟩
  by_cases e : k < 2 * M
  · obtain ⟨a', t1', t2', to, e1, e2, e3, e4, e5⟩ := S.ats k e
    refine ⟨a', t1', t2', to, ?_, ?_, ?_, ?_, ?_⟩
    · rw [List.getElem?_toArray, List.getElem?_append_left (by simpa [s1] using e)]; simpa using e1
    · simp only [if_pos e]; exact hs _ e2
    · rw [List.getElem?_toArray, List.getElem?_append_left (by simpa [s2] using e)]; simpa using e3
    · simp only [if_pos e]; exact e4
    · simp only [if_pos e]; exact e5
  · by_cases e' : k = 2 * M
    · subst e'
      refine ⟨a, t1, t2, t5, ?_, ?_, ?_, ?_, ?_⟩
      · rw [List.getElem?_toArray, List.getElem?_append_right (by simp [s1])]; simp [s1]
      · simp; exact ha
      · rw [List.getElem?_toArray, List.getElem?_append_right (by simp [s2])]
        have : opp (2 * M) = I := by unfold opp; rw [if_pos (by omega), hI]
        simp [s2, this]
      · simp; exact z1
      · simp; exact z2
    · have e' : k = 2 * M + 1 := by omega
      subst e'
      have n1 : ¬ (2 * M + 1 < 2 * M) := by omega
      have n2 : ¬ (2 * M + 1 = 2 * M) := by omega
      refine ⟨b, t3, t4, t6, ?_, ?_, ?_, ?_, ?_⟩
      · rw [List.getElem?_toArray, List.getElem?_append_right (by simp [s1])]; simp [s1]
      · simp only [n1, n2, if_false]; exact hb
      · rw [List.getElem?_toArray, List.getElem?_append_right (by simp [s2])]
        have : opp (2 * M + 1) = J := by unfold opp; rw [if_neg (by omega), hJ]; omega
        simp [s2, this]
      · simp only [n1, n2, if_false]; exact z3
      · simp only [n1, n2, if_false]; exact z4
section
variable {prog : Program} {w : World} {A : Around} {E : Value → Shared → Prop} {h₀ : Heap} {L : Addr} {m : Str → Option Value} {news : List (Addr × Obj)} {Q : Value → Shared → Prop} {hp : Heap} {gg : Array GenState} {dr : Drawn} {t : Nat} {os : OsState}
theorem add_K {l b : Addr} {its its2 : Array Value} {n n2 : Nat} (F : Fr h₀ L hp m) (N : News h₀ L hp news) (hl : (l, listOf its n) ∈ news) (hb : (b, listOf its2 n2) ∈ news) (hsz : its.size + its2.size ≤ 1000)
    (h : ∀ h' D, Fr h₀ L h' m → News h₀ L h' ((D, listOf (its.toList ++ its2.toList).toArray 0) :: news) → Q (.ref D) ⟨h', gg, dr, t, os⟩) :
    wpAny (model prog w) A (binaryOp .Add (.ref l) (.ref b)) Q E ⟨hp, gg, dr, t, os⟩ := by
  have hz : its.size + its2.size ≤ sizeLine := by
    have : (1000 : Nat) ≤ sizeLine := by decide
    omega
  exact add_arrays (s := ⟨hp, gg, dr, t, os⟩) F N ⟨_, (N _ hl).1, rfl, _, rfl⟩ ⟨_, (N _ hb).1, rfl, _, rfl⟩ (fun h' F' N' => h h' _ F' N') hz
end
def DPost (h₀ : Heap) (L l : Addr) (vs : Array Value) (n BB : Nat) (m₀ : Str → Option Value) (i : Nat) (own nx : List (Addr × Obj)) (s₁ : Shared) (Q : Flow → Shared → Prop) (f : Flow) (s₂ : Shared) : Prop := BPost h₀ L (DrJ l vs n BB m₀ (i + 1)) own nx s₁ Q f s₂
section
variable {prog : Program} {w : World} {A : Around} {E : Value → Shared → Prop} {env : Env} {h₀ : Heap} {body : List Stmt} {Q : Flow → Shared → Prop} {hp : Heap} {gg : Array GenState} {dr : Drawn} {t : Nat} {os : OsState}
theorem loop_drawn {l : Addr} {vs : Array Value} {nn BB : Nat} {m₀ : Str → Option Value} {news : List (Addr × Obj)} {el ol : Addr} {ne no : Nat}
    (hh : A.handled = none) (D : Dr news l vs nn BB) (h1 : (el, listOf #[] ne) ∈ news) (h2 : (ol, listOf #[] no) ∈ news) (e1 : m₀ (PySem.Str.ofString "ends") = some (.ref el)) (e2 : m₀ (PySem.Str.ofString "opposites") = some (.ref ol))
    (F : Fr h₀ env.locals hp m₀) (N : News h₀ env.locals hp news)
    (turn : ∀ (i : Nat) d p r n' x y x' y' tx ty tx' ty' ev ov el ol ne no xs yy (u : Option Value) nx h tk own nw, i < 5 → Dr nx l vs nn BB → Sc0 nx ev ov el ol ne no i xs yy BB → (d, listOf #[.ref p, .ref r] n') ∈ nx → (p, tupO x tx y ty) ∈ nx → (r, tupO x' tx' y' ty') ∈ nx → Sz BB x → Sz BB y → Sz BB x' → Sz BB y' →
      Fr h₀ env.locals h (fun y => if y = PySem.Str.ofString "drawn" then some (.ref d) else if y = PySem.Str.ofString "ends" then some (.ref el) else if y = PySem.Str.ofString "opposites" then some (.ref ol) else m₀ y) → News h₀ env.locals h nw → (∀ p ∈ nx, p ∈ nw) → (∀ p ∈ own, p ∈ nw) →
      wpAny (model prog w) A (execs body env) (DPost h₀ env.locals l vs nn BB m₀ i own nx ⟨h, gg, dr, tk, os⟩ Q) E ⟨h, gg, dr, tk, os⟩)
    (done : ∀ M ev ov el ol ne no xs yy (u : Option Value) nx h tk, Sc0 nx ev ov el ol ne no M xs yy BB → Fr h₀ env.locals h (fun y => if y = PySem.Str.ofString "drawn" then u else if y = PySem.Str.ofString "ends" then some (.ref el) else if y = PySem.Str.ofString "opposites" then some (.ref ol) else m₀ y) → News h₀ env.locals h nx → Q .next ⟨h, gg, dr, tk, os⟩) :
    wpAny (model prog w) A (pyIter (.ref l)) (fun it s₂ => LoopAtV prog w A h₀ env (PySem.Str.ofString "drawn") body Q E it s₂) E ⟨hp, gg, dr, t, os⟩ := by
  have hn1 : ¬ (PySem.Str.ofString "ends" = PySem.Str.ofString "drawn") := by decide +kernel
  have hn2 : ¬ (PySem.Str.ofString "opposites" = PySem.Str.ofString "drawn") := by decide +kernel
  refine list_loop (s := ⟨hp, gg, dr, t, os⟩) (DrJ l vs nn BB m₀) hh D.hl F N ⟨D, _, _, el, ol, ne, no, _, _, m₀ (PySem.Str.ofString "drawn"), sc0_nil h1 h2, ?_⟩ (fun i m nx J => J.1.hl) ?_ ?_
  · funext y
    unfold drM
    split
    · subst_vars; rfl
    · split
      · subst_vars; exact e1
      · split
        · subst_vars; exact e2
        · rfl
  · rintro i v m₁ nx h tk own nw hv ⟨D', ev, ov, el, ol, ne, no, xs, yy, u, S, rfl⟩ F' N' hs ho
    obtain ⟨d, p, r, n', x, y, x', y', tx, ty, tx', ty', rfl, e2, e3, e4, z1, z2, z3, z4⟩ := D'.ats i v hv
    have hi : i < 5 := by
      have h5 := D'.small
      have := (Array.getElem?_eq_some_iff.mp hv).1
      omega
    refine turn i d p r n' x y x' y' tx ty tx' ty' ev ov el ol ne no xs yy u nx h tk own nw hi D' S e2 e3 e4 z1 z2 z3 z4 ?_ N' hs ho
    have e : (fun y => if y = PySem.Str.ofString "drawn" then some (Value.ref d) else drM m₀ u el ol y) = (fun y => if y = PySem.Str.ofString "drawn" then some (.ref d) else if y = PySem.Str.ofString "ends" then some (.ref el) else if y = PySem.Str.ofString "opposites" then some (.ref ol) else m₀ y) := by
      funext y; unfold drM; split <;> rfl
    rw [e] at F'
    exact F'
  · rintro m₁ nx h tk ⟨D', ev, ov, el, ol, ne, no, xs, yy, u, S, rfl⟩ F' N'
    exact done _ ev ov el ol ne no xs yy u nx h tk S F' N'
theorem d_end {l : Addr} {vs : Array Value} {nn BB i : Nat} {m₀ m' : Str → Option Value} {own nx nw : List (Addr × Obj)} {ev ov : Array Value} {el ol el' ol' a b : Addr} {ne no ne' no' : Nat} {xs yy : Nat → Int} {x y x' y' I J : Int} {t1 t2 t3 t4 t5 t6 : Tok} {h' : Heap} {L : Addr} {tk : Nat} {s₁ : Shared} {u : Option Value}
    (D : Dr nx l vs nn BB) (S : Sc0 nx ev ov el ol ne no i xs yy BB) (hi : i < 5) (hs₁ : s₁ = ⟨hp, gg, dr, t, os⟩)
    (F : Fr h₀ L h' m') (hm : m' = fun y => if y = PySem.Str.ofString "opposites" then some (.ref ol') else if y = PySem.Str.ofString "ends" then some (.ref el') else if y = PySem.Str.ofString "drawn" then u else if y = PySem.Str.ofString "ends" then some (.ref el) else if y = PySem.Str.ofString "opposites" then some (.ref ol) else m₀ y)
    (N : News h₀ L h' nw) (hs : ∀ p ∈ nx, p ∈ nw) (ho : ∀ p ∈ own, p ∈ nw)
    (h1 : (el', listOf (ev.toList ++ #[Value.ref a, .ref b].toList).toArray ne') ∈ nw) (h2 : (ol', listOf (ov.toList ++ #[Value.int I t5, .int J t6].toList).toArray no') ∈ nw)
    (hI : I = (2 * i : Nat) + 1) (hJ : J = (2 * i : Nat))
    (ha : (a, tupO x t1 y t2) ∈ nx) (hb : (b, tupO x' t3 y' t4) ∈ nx) (z1 : Sz BB x) (z2 : Sz BB y) (z3 : Sz BB x') (z4 : Sz BB y') :
    DPost h₀ L l vs nn BB m₀ i own nx s₁ Q .next ⟨h', gg, dr, tk, os⟩ := by
  subst hs₁ hm
  obtain ⟨xs', yy', S'⟩ := sc0_snoc (nw := (el', listOf (ev.toList ++ #[Value.ref a, .ref b].toList).toArray ne') :: (ol', listOf (ov.toList ++ #[Value.int I t5, .int J t6].toList).toArray no') :: nx) S hi (fun p hp => .tail _ (.tail _ hp)) (.head _) (.tail _ (.head _)) hI hJ (.tail _ (.tail _ ha)) (.tail _ (.tail _ hb)) z1 z2 z3 z4
  refine ⟨h', tk, _, nw, (el', listOf (ev.toList ++ #[Value.ref a, .ref b].toList).toArray ne') :: (ol', listOf (ov.toList ++ #[Value.int I t5, .int J t6].toList).toArray no') :: nx, rfl, F, N, ho, fun p hp => ?_, fun p hp => ?_, D.mono fun p hp => .tail _ (.tail _ hp), _, _, el', ol', ne', no', xs', yy', u, S', ?_⟩
  · rcases List.mem_cons.mp hp with rfl | hp
    · exact h1
    rcases List.mem_cons.mp hp with rfl | hp
    · exact h2
    exact hs p hp
  · rcases List.mem_cons.mp hp with rfl | hp
    · exact .inl (by intro e; injection e with e; exact absurd e (by decide))
    rcases List.mem_cons.mp hp with rfl | hp
    · exact .inl (by intro e; injection e with e; exact absurd e (by decide))
    exact .inr (List.mem_map_of_mem hp)
  · have hn1 : ¬ (PySem.Str.ofString "drawn" = PySem.Str.ofString "ends") := by decide +kernel
    have hn2 : ¬ (PySem.Str.ofString "drawn" = PySem.Str.ofString "opposites") := by decide +kernel
    have hn3 : ¬ (PySem.Str.ofString "ends" = PySem.Str.ofString "opposites") := by decide +kernel
    funext y
    unfold drM
    by_cases c1 : y = PySem.Str.ofString "drawn"
    · subst c1; simp only [if_neg hn1, if_neg hn2, if_true]
    · by_cases c2 : y = PySem.Str.ofString "ends"
      · subst c2; simp only [if_neg c1, if_neg hn3, if_true]
      · simp only [if_neg c1, if_neg c2]
        split <;> rfl
end
end Mine
end
section
open PySem PySem.W PySem.W.X PyProof.Rows PySem.Spec
set_option Elab.async false
set_option maxRecDepth 100000
set_option maxHeartbeats 0
namespace Mine
section
variable {w : World} {A : Around} {E : Value → Shared → Prop} {Q : Value → Shared → Prop} {h₀ h₁ : Heap} {L L1 L2 l : Addr} {m1 m2 : Str → Option Value} {hp : Heap} {gg : Array GenState} {dr : Drawn} {t : Nat} {os : OsState} {vs : List Value} {ns : List Int} {BB : Nat}
theorem len_s (hL : h₀.IsList l vs.toArray) (F1 : Fr h₀ L1 h₁ m1) (F2 : Fr h₁ L2 hp m2) (hn : vs.length ≤ 63)
    (h : ∀ t tk, Q (.int (vs.length : Int) t) ⟨hp, gg, dr, tk, os⟩) : wpAny (model prog0 w) A (call (.builtin "len") [.ref l]) Q E ⟨hp, gg, dr, t, os⟩ := by
  have hL' : hp.IsList l vs.toArray := hL.at fun o e => F2.keep _ _ (F1.keep _ _ e)
  have e : (vs.toArray.size : Int) = (vs.length : Int) := by simp
  refine len_list hL' (by simp; omega) ?_
  rw [e]
  exact h _ _
theorem item_s {value slice : PySem.Expr} {k : Int} {u : Tok} (hL : h₀.IsList l vs.toArray) (F1 : Fr h₀ L1 h₁ m1) (F2 : Fr h₁ L2 hp m2) (hI : IntsAre vs ns) (hz : ∀ n ∈ ns, Sz BB n) (hn : vs.length ≤ 63) (k0 : 0 ≤ k) (k1 : k < (vs.length : Int))
    (h : ∀ z t', Sz BB z → Q (.int z t') ⟨hp, gg, dr, t, os⟩)
    (hs : subscripted slice false (.ref l) (.int k u) = operate [.ref l, .int k u] (getItem (.ref l) (.int k u)) := by with_unfolding_all rfl) :
    wpAny (model prog0 w) A (subscriptTail value slice (.ref l) (.int k u)) Q E ⟨hp, gg, dr, t, os⟩ := by
  have hL' : hp.IsList l vs.toArray := hL.at fun o e => F2.keep _ _ (F1.keep _ _ e)
  have hlt : k.toNat < vs.length := by omega
  obtain ⟨z, t', e1, e2⟩ := hI.at k.toNat _ (List.getElem?_eq_getElem hlt)
  have e3 : vs.toArray[k.toNat]? = some (.int z t') := by rw [← e1]; simp [hlt]
  exact tail_any hL'.typeIs slot_list_getitem.lookup (wpAny_getItem_list hL' k0 (by omega) e3 (h z t' (hz z (List.mem_of_getElem? e2)))) hs
theorem sz_zero : Sz BB 0 := by unfold Sz; exact Nat.pow_pos (by decide)
end
section
variable {A₀ A : Around} {base h₀ : Heap} {outer : List Env} {L fa : Addr} {m mg mb : Str → Option Value} {s : Shared} {news : List (Addr × Obj)} {mean : ExcName → Option Value} {E : Value → Shared → Prop} {Q : Value → Shared → Prop}
    {qn : Str} {nm : List (Str × NameKind)} {mo : List (Str × Const)} {cd : Value} {w : World} {loose : List Str} {R : Result → Shared → Prop} {prog1 : Program} {hp : Heap} {gg : Array GenState} {dr : Drawn} {t : Nat} {os : OsState}
    {l : Addr} {vs : List Value} {ns : List Int} {BB : Nat} {k : Int} {tk : Tok}
theorem call_at
    (B : Below A₀ base outer h₀) (F : Fr h₀ L s.heap m) (X : (hd.heap_1 w.params).In h₀) (N : News h₀ L s.heap news) (T : Top prog1 loose mean mg mb h₀)
    (hL : h₀.IsList l vs.toArray) (hI : IntsAre vs ns) (hz : ∀ n ∈ ns, Sz BB n) (hlen : vs.length ≤ 63) (k0 : 0 ≤ k) (k1 : k < 2 ^ 63)
    (h : ∀ h' tk z t, Sz BB z → Fr h₀ L h' m → News h₀ L h' news → R (.ok (.ret (.int z t))) { s with heap := h', toks := tk }) :
    codeAny (model prog0 w) { handled := none, depth := 590, frames := some (envOfC qn ⟨.function, nm, false, false, mo⟩ L fa cd :: outer), units := 380 } (.call (.ref 298) ⟨[.ref l, .int k tk], []⟩) R s := by
  k_with_none
  k_with "call builtin:len" => (k_here; (with_reducible show wpAny _ _ (call (Value.builtin "len") [Value.ref _]) _ _ _); k_dflt (refine' len_s (by with_reducible assumption) (by with_reducible assumption) (by with_reducible assumption) (by with_reducible assumption) ?_; k_whole); intro t' tk')
  k_with "subscriptTail Name" => (k_here; (with_reducible show wpAny _ _ (subscriptTail _ _ (Value.ref _) (Value.int _ _)) _ _ _); k_dflt (refine' item_s (by with_reducible assumption) (by with_reducible assumption) (by with_reducible assumption) (by with_reducible assumption) (by with_reducible assumption) (by with_reducible assumption) (by omega) (by omega) ?_; k_whole; intro z' t' hz'))
  k_with "subscriptTail" => (k_here; (with_reducible show wpAny _ _ (subscriptTail _ _ (Value.ref _) (Value.int _ _)) _ _ _); k_dflt (refine' item_s (by with_reducible assumption) (by with_reducible assumption) (by with_reducible assumption) (by with_reducible assumption) (by with_reducible assumption) (by with_reducible assumption) (by omega) (by omega) ?_; k_whole; intro z' t' hz'))
  k_enter
  repeat' (first | (k_unfold; (try dsimp only)) | (k_end; wrow_close) | (walk1 <;> (try dsimp only)) | (dsimp only; walk1) | (leave1; walk_say "STEP leave1"; try dsimp only))
  all_goals exact h _ _ _ _ (by first | assumption | exact sz_zero) (by assumption) (by assumption)
theorem at_K {L1 : Addr} {m1 : Str → Option Value} {h₁ : Heap}
    (hh : A.handled = none) (hdp : A.depth ≤ 590) (hu : A.units ≤ 380) (hfr : A.frames = some (envOfC qn ⟨.function, nm, false, false, mo⟩ L fa cd :: outer))
    (B : Below A₀ base outer h₁) (F : Fr h₁ L hp m) (X : (hd.heap_1 w.params).In h₁) (N : News h₁ L hp news) (T : Top prog1 loose mean mg mb h₁)
    (hL : h₀.IsList l vs.toArray) (F1 : Fr h₀ L1 h₁ m1) (hI : IntsAre vs ns) (hz : ∀ n ∈ ns, Sz BB n) (hlen : vs.length ≤ 63) (k0 : 0 ≤ k) (k1 : k < 2 ^ 63)
    (h : ∀ h' tk z t, Sz BB z → Fr h₁ L h' m → News h₁ L h' news → Q (.int z t) ⟨h', gg, dr, tk, os⟩) :
    wpAny (model prog0 w) A (call (.ref 298) [.ref l, .int k tk]) Q E ⟨hp, gg, dr, t, os⟩ :=
  wpAny_call (code_lv (d := 590) (u := 380) hh hdp hu hfr (call_at (s := ⟨hp, gg, dr, t, os⟩) B F X N T (hL.at fun o e => F1.keep _ _ e) hI hz hlen k0 k1 fun h' tk z t e F' N' => h h' tk z t e F' N'))
end
end Mine
end
section
open PySem PySem.W PySem.W.X PyProof.Rows PySem.Spec
set_option Elab.async false
set_option maxRecDepth 100000
set_option maxHeartbeats 0
namespace Mine
/-- the items of the list of segments -/
def SegsA (nw : List (Addr × Obj)) (vs : Array Value) (BB : Nat) : Prop := ∀ (k : Nat) v, vs[k]? = some v → ∃ (d p r : Addr) (n' : Nat) (x y x' y' : Int) (tx ty tx' ty' : Tok), v = .ref d ∧ (d, listOf #[.ref p, .ref r] n') ∈ nw ∧ (p, tupO x tx y ty) ∈ nw ∧ (r, tupO x' tx' y' ty') ∈ nw ∧ Sz BB x ∧ Sz BB y ∧ Sz BB x' ∧ Sz BB y'
theorem SegsA.mono {nw nw' : List (Addr × Obj)} {vs : Array Value} {BB : Nat} (S : SegsA nw vs BB) (h : ∀ p ∈ nw, p ∈ nw') : SegsA nw' vs BB := fun k v e => by
  obtain ⟨d, p, r, n', x, y, x', y', tx, ty, tx', ty', e1, e2, e3, e4, z⟩ := S k v e
  exact ⟨d, p, r, n', x, y, x', y', tx, ty, tx', ty', e1, h _ e2, h _ e3, h _ e4, z⟩
theorem SegsA.push {nw : List (Addr × Obj)} {vs : Array Value} {BB : Nat} {d p r : Addr} {n' : Nat} {x y x' y' : Int} {tx ty tx' ty' : Tok} (S : SegsA nw vs BB) (e2 : (d, listOf #[.ref p, .ref r] n') ∈ nw) (e3 : (p, tupO x tx y ty) ∈ nw) (e4 : (r, tupO x' tx' y' ty') ∈ nw) (z : Sz BB x ∧ Sz BB y ∧ Sz BB x' ∧ Sz BB y') : SegsA nw (vs.push (.ref d)) BB := fun k v e => by
  by_cases h : k < vs.size
  · rw [Array.getElem?_push_lt h] at e
    exact S k v (by rw [Array.getElem?_eq_getElem h]; exact e)
  · by_cases h' : k = vs.size
    · subst h'
      rw [Array.getElem?_push_size] at e
      exact ⟨d, p, r, n', x, y, x', y', tx, ty, tx', ty', (Option.some.inj e).symm, e2, e3, e4, z⟩
    · rw [Array.getElem?_eq_none (by rw [Array.size_push]; omega)] at e
      cases e
def GPost (h₀ : Heap) (L : Addr) (x : Str) (stored : List Str) (m₀ : Str → Option Value) (dl : Addr) (vs : Array Value) (BB : Nat) (nw : List (Addr × Obj)) (s₁ : Shared) (Q : Flow → Shared → Prop) (f : Flow) (s₂ : Shared) : Prop :=
  match f with
  | .ret v => Q (.ret v) s₂
  | .brk => Q .next s₂
  | _ => ∃ h' tk m' full d p r n' n2 X Y X' Y' t1 t2 t3 t4, s₂ = ⟨h', s₁.gens, s₁.drawn, tk, s₁.os⟩ ∧ Fr h₀ L h' m' ∧ (∀ y, y ≠ x → stored.contains y = false → m' y = m₀ y) ∧ News h₀ L h' full ∧ (∀ q ∈ nw, q ∈ full) ∧
    (dl, listOf (vs.push (.ref d)) n2) ∈ full ∧ d ≠ dl ∧ (d, listOf #[.ref p, .ref r] n') ∈ full ∧ (p, tupO X t1 Y t2) ∈ full ∧ (r, tupO X' t3 Y' t4) ∈ full ∧ Sz BB X ∧ Sz BB Y ∧ Sz BB X' ∧ Sz BB Y'
section
variable {prog : Program} {w : World} {A : Around} {E : Value → Shared → Prop} {env : Env} {h₀ : Heap} {x : Str} {body : List Stmt} {Q : Flow → Shared → Prop} {hp : Heap} {gg : Array GenState} {dr : Drawn} {tk₀ : Nat} {os : OsState}
def GJ (dl : Addr) (BB : Nat) (x : Str) (stored : List Str) (m₀ : Str → Option Value) (base : List (Addr × Obj)) (i : Nat) (m : Str → Option Value) (nx : List (Addr × Obj)) : Prop :=
  ∃ (nx₂ : List (Addr × Obj)) (vs : Array Value) (n : Nat), nx = (dl, listOf vs n) :: nx₂ ∧ vs.size = i ∧ (∀ p ∈ nx₂, p.1 ≠ dl) ∧ SegsA nx₂ vs BB ∧ (∀ p ∈ base, p ∈ nx₂) ∧ ∀ y, y ≠ x → stored.contains y = false → m y = m₀ y
theorem loop_draw {r dl : Addr} {a₀ b₀ st : Int} {t₀ u₀ v₀ : Tok} {n n₀ BB : Nat} {m₀ : Str → Option Value} {news base : List (Addr × Obj)} (stored : List Str)
    (hh : A.handled = none) (hr : IsRange hp r a₀ b₀ st t₀ u₀ v₀) (hsmall : Builtin.Range.small a₀ b₀ st = true) (hn : Builtin.Range.rangeSize a₀ b₀ st = (n : Int)) (F : Fr h₀ env.locals hp m₀) (N : News h₀ env.locals hp news)
    (hd : (dl, listOf #[] n₀) ∈ news) (hb : ∀ p ∈ base, p ∈ news) (hbd : ∀ p ∈ base, p.1 ≠ dl)
    (turn : ∀ (i : Nat) (I : Int) t (u : Str → Option Value) vs n' h tk nw, i < n → vs.size = i → I = a₀ + (i : Int) * st → (∀ p ∈ nw, p.1 ≠ dl) → (∀ p ∈ base, p ∈ nw) → Fr h₀ env.locals h (fun y => if y = x then some (.int I t) else if stored.contains y then u y else m₀ y) → News h₀ env.locals h ((dl, listOf vs n') :: nw) →
      wpAny (model prog w) A (execs body env) (GPost h₀ env.locals x stored m₀ dl vs BB nw ⟨h, gg, dr, tk, os⟩ Q) E ⟨h, gg, dr, tk, os⟩)
    (done : ∀ (u : Str → Option Value) vs n' h tk nw, vs.size = n → SegsA nw vs BB → (∀ p ∈ base, p ∈ nw) → Fr h₀ env.locals h (fun y => if y = x then u y else if stored.contains y then u y else m₀ y) → News h₀ env.locals h ((dl, listOf vs n') :: nw) → Q .next ⟨h, gg, dr, tk, os⟩) :
    wpAny (model prog w) A (pyIter (.ref r)) (fun it s₂ => LoopAtV prog w A h₀ env x body Q E it s₂) E ⟨hp, gg, dr, tk₀, os⟩ := by
  have mfun : ∀ m : Str → Option Value, (∀ y, y ≠ x → stored.contains y = false → m y = m₀ y) → ∀ v : Option Value, (fun y => if y = x then v else m y) = (fun y => if y = x then v else if stored.contains y then m y else m₀ y) := fun m hm v => by
    funext y
    by_cases h1 : y = x
    · simp only [if_pos h1]
    · simp only [if_neg h1]
      by_cases h2 : stored.contains y = true
      · simp only [h2, if_true]
      · rw [if_neg h2]; exact hm y h1 (by simpa using h2)
  refine wpAny_pyIter_range hr hsmall ?_
  have W : Walks prog w A hp.objs.size [hp.objs.size] [hp.objs.size] n (fun i v => i < n ∧ ∃ t, v = .int (a₀ + i * st) t)
      (fun i h => IsRangeIter h hp.objs.size (a₀ + (i : Nat) * st) ((n : Int) - (i : Nat)) st) := (Walks.range hh _ a₀ st n).bound
  have hdlt : dl < hp.objs.size := Heap.lt_size (N _ hd).1
  refine ⟨_, _, _, n, _, _, m₀, (dl, listOf #[] n₀) :: base, GJ dl BB x stored m₀ base, rfl, W, ?_, ?_, ?_, (by show IsRangeIter _ _ _ _ _; rw [hn]; simpa using Heap.get?_push_size _ rfl), F.push _, (fun p hp' => ?_), ⟨base, #[], n₀, rfl, rfl, hbd, fun k v e => by simp at e, fun _ h => h, fun _ _ _ => rfl⟩, ?_, ?_⟩
  · intro hm
    exact absurd F.ns.lt ((List.mem_singleton.mp hm) ▸ Nat.lt_irrefl _)
  · intro b hb'
    rw [List.mem_singleton.mp hb']
    exact next_is_new F
  · intro p hp' hI
    have : p ∈ news := by
      rcases List.mem_cons.mp hp' with rfl | h
      · exact hd
      · exact hb p h
    exact absurd (Heap.lt_size (N p this).1) ((List.mem_singleton.mp hI) ▸ Nat.lt_irrefl _)
  · have : p ∈ news := by
      rcases List.mem_cons.mp hp' with rfl | h
      · exact hd
      · exact hb p h
    exact ⟨Heap.get?_push_of_some _ (N p this).1, (N p this).2⟩
  · rintro i v m₁ nx s₁ own ⟨hh', tk', rfl⟩ hin ⟨hin', t, rfl⟩ ⟨nx₂, vs, n', rfl, hvs, hap, hS, hbase, hm⟩ hoff hown hmem' hmem hst F₁ N₁
    have hI : (hp.objs.size, _) ∈ own := hmem _ (.head _) (next_is_new F) _ hst
    rw [mfun m₁ hm] at F₁
    refine wpAny_mono (turn i _ t m₁ vs n' hh' tk' (own ++ nx₂) hin' hvs rfl (fun p hp' => ?_) (fun p hp' => List.mem_append_right _ (hbase p hp')) F₁ (fun p hp' => N₁ p ?_)) (fun f s₂ p => ?_) fun _ _ e => e
    · rcases List.mem_append.mp hp' with h | h
      · intro e
        exact hoff _ (.head _) (by have := hown p h; rw [e] at this; exact this)
      · exact hap p h
    · rcases List.mem_cons.mp hp' with rfl | h
      · exact List.mem_append_right _ (.head _)
      · rcases List.mem_append.mp h with h | h
        · exact List.mem_append_left _ h
        · exact List.mem_append_right _ (.tail _ h)
    have fin : (∃ h' tk m' full d p r n' n2 X Y X' Y' t1 t2 t3 t4, s₂ = ⟨h', gg, dr, tk, os⟩ ∧ Fr h₀ env.locals h' m' ∧ (∀ y, y ≠ x → stored.contains y = false → m' y = m₀ y) ∧ News h₀ env.locals h' full ∧ (∀ q ∈ own ++ nx₂, q ∈ full) ∧
        (dl, listOf (vs.push (.ref d)) n2) ∈ full ∧ d ≠ dl ∧ (d, listOf #[.ref p, .ref r] n') ∈ full ∧ (p, tupO X t1 Y t2) ∈ full ∧ (r, tupO X' t3 Y' t4) ∈ full ∧ Sz BB X ∧ Sz BB Y ∧ Sz BB X' ∧ Sz BB Y') →
        LoopStepU h₀ env.locals [hp.objs.size] own (GJ dl BB x stored m₀ base (i + 1)) { (⟨hp, gg, dr, tk₀, os⟩ : Shared) with heap := hh', toks := tk' } .next s₂ := by
      rintro ⟨h', tk, m', full, d, p, r, n', n2, X, Y, X', Y', t1, t2, t3, t4, e, F', hm', N', hs, h1, hne, h2, h3, h4, z1, z2, z3, z4⟩
      have key : ∀ q ∈ full, q.2.cls ≠ .type "range_iterator" → q.1 ∉ [hp.objs.size] := fun q hq hc hI' => by
        have g1 := (N' q hq).1
        have g2 := (N' _ (hs _ (List.mem_append_left _ hI))).1
        rw [List.mem_singleton.mp hI'] at g1
        rw [g1] at g2
        exact hc (by rw [Option.some.inj g2])
      have hpd : p ≠ dl := fun e' => by
        have g1 := (N' _ h3).1
        have g2 := (N' _ h1).1
        simp only [e'] at g1
        rw [g1] at g2
        exact absurd (congrArg Obj.cls (Option.some.inj g2)) (by show ¬ (Value.type "tuple" = Value.type "list"); intro h; injection h with h; exact absurd h (by decide))
      have hrd : r ≠ dl := fun e' => by
        have g1 := (N' _ h4).1
        have g2 := (N' _ h1).1
        simp only [e'] at g1
        rw [g1] at g2
        exact absurd (congrArg Obj.cls (Option.some.inj g2)) (by show ¬ (Value.type "tuple" = Value.type "list"); intro h; injection h with h; exact absurd h (by decide))
      have nl : (Value.type "list") ≠ Value.type "range_iterator" := by intro h; injection h with h; exact absurd h (by decide)
      have nt : (Value.type "tuple") ≠ Value.type "range_iterator" := by intro h; injection h with h; exact absurd h (by decide)
      refine ⟨rfl, h', tk, m', (dl, listOf (vs.push (.ref d)) n2) :: (d, listOf #[.ref p, .ref r] n') :: (p, tupO X t1 Y t2) :: (r, tupO X' t3 Y' t4) :: nx₂, e, F', fun q hq => N' q ?_, fun q hq => ?_, (d, listOf #[.ref p, .ref r] n') :: (p, tupO X t1 Y t2) :: (r, tupO X' t3 Y' t4) :: nx₂, vs.push (.ref d), n2, rfl, by rw [Array.size_push, hvs], fun q hq => ?_, ?_, fun q hq => .tail _ (.tail _ (.tail _ (hbase q hq))), hm'⟩
      · rcases List.mem_append.mp hq with hq | hq
        · exact hs q (List.mem_append_left _ hq)
        rcases List.mem_cons.mp hq with rfl | hq
        · exact h1
        rcases List.mem_cons.mp hq with rfl | hq
        · exact h2
        rcases List.mem_cons.mp hq with rfl | hq
        · exact h3
        rcases List.mem_cons.mp hq with rfl | hq
        · exact h4
        exact hs q (List.mem_append_right _ hq)
      · rcases List.mem_cons.mp hq with rfl | hq
        · exact key _ h1 nl
        rcases List.mem_cons.mp hq with rfl | hq
        · exact key _ h2 nl
        rcases List.mem_cons.mp hq with rfl | hq
        · exact key _ h3 nt
        rcases List.mem_cons.mp hq with rfl | hq
        · exact key _ h4 nt
        exact hoff q (.tail _ hq)
      · rcases List.mem_cons.mp hq with rfl | hq
        · exact hne
        rcases List.mem_cons.mp hq with rfl | hq
        · exact hpd
        rcases List.mem_cons.mp hq with rfl | hq
        · exact hrd
        exact hap q hq
      · exact SegsA.push (hS.mono fun q hq => .tail _ (.tail _ (.tail _ hq))) (.head _) (.tail _ (.head _)) (.tail _ (.tail _ (.head _))) ⟨z1, z2, z3, z4⟩
    cases f with
    | ret v => exact .ret p
    | brk => exact .brk p
    | next => exact .next (fin p)
    | cont => exact .cont (fin p)
  · rintro h' tk m' news' F' N' _ ⟨nx₂, vs, n', rfl, hvs, hap, hS, hbase, hm⟩
    refine done m' vs n' h' tk nx₂ hvs hS hbase ?_ N'
    have e := mfun m' hm (m' x)
    have : m' = (fun y => if y = x then m' y else if stored.contains y then m' y else m₀ y) := by
      funext y
      by_cases h1 : y = x
      · simp only [if_pos h1]
      · have := congrFun e y
        simp only [if_neg h1] at this ⊢
        exact this
    rw [this] at F'
    exact F'
theorem loop_drawC {L r dl : Addr} {c : Int} {t₀ u₀ v₀ : Tok} {n₀ BB : Nat} {m₀ : Str → Option Value} {news nz : List (Addr × Obj)} {o1 o2 : Obj} {v1 v2 : Value} {ns : List Int} {B0 : Nat} (stored : List Str)
    (hzz : ∀ n ∈ ns, Sz B0 n) (hBB : BB = B0 + 9) (hzL : ∀ p ∈ nz, p.1 < L) (hL : env.locals = L) (hh : A.handled = none) (hr : IsRange hp r 4 (4 + 4 * c) 4 t₀ u₀ v₀) (hc : 0 ≤ c ∧ c ≤ 5) (F : Fr h₀ L hp m₀) (N : News h₀ L hp news)
    (hd : (dl, listOf #[] n₀) ∈ news) (hc1 : (L + 1 + 1, o1) ∈ news) (hc2 : (L + 1, o2) ∈ news) (e1 : o1.data = .cell (some v1)) (e2 : o2.data = .cell (some v2)) (hz : ∀ p ∈ nz, p ∈ news) (hdl : @LT.lt Nat instLTNat (@HAdd.hAdd Nat Nat Nat instHAdd (@HAdd.hAdd Nat Nat Nat instHAdd L 1) 1) dl)
    (turn : ∀ (i : Nat) (I : Int) t (u : Str → Option Value) vs n' h tk nw, i < 5 → vs.size = i → I = 4 + (i : Int) * 4 → (∀ p ∈ nw, p.1 ≠ dl) → (L + 1 + 1, o1) ∈ nw → (L + 1, o2) ∈ nw → (∀ p ∈ nz, p ∈ nw) → Fr h₀ L h (fun y => if y = x then some (.int I t) else if stored.contains y then u y else m₀ y) → News h₀ L h ((dl, listOf vs n') :: nw) →
      wpAny (model prog w) A (execs body env) (GPost h₀ L x stored m₀ dl vs BB nw ⟨h, gg, dr, tk, os⟩ Q) E ⟨h, gg, dr, tk, os⟩)
    (done : ∀ (u : Str → Option Value) vs n' h tk nw, Dr ((dl, listOf vs n') :: nw) dl vs n' BB → (∀ p ∈ nz, p ∈ (dl, listOf vs n') :: nw) → Fr h₀ L h (fun y => if y = x then u y else if stored.contains y then u y else m₀ y) → News h₀ L h ((dl, listOf vs n') :: nw) → Q .next ⟨h, gg, dr, tk, os⟩) :
    wpAny (model prog w) A (pyIter (.ref r)) (fun it s₂ => LoopAtV prog w A h₀ env x body Q E it s₂) E ⟨hp, gg, dr, tk₀, os⟩ := by
  subst hL
  have hsm : Builtin.Range.small 4 (4 + 4 * c) 4 = true ∧ Builtin.Range.rangeSize 4 (4 + 4 * c) 4 = (c.toNat : Int) := by
    have e : c = 0 ∨ c = 1 ∨ c = 2 ∨ c = 3 ∨ c = 4 ∨ c = 5 := by omega
    rcases e with rfl | rfl | rfl | rfl | rfl | rfl <;> decide
  have d1 : env.locals + 1 + 1 ≠ dl := Nat.ne_of_lt hdl
  have d2 : env.locals + 1 ≠ dl := Nat.ne_of_lt (Nat.lt_trans (Nat.lt_succ_self _) hdl)
  refine loop_draw (BB := BB) (base := (env.locals + 1 + 1, o1) :: (env.locals + 1, o2) :: nz) stored hh hr hsm.1 hsm.2 F N hd (fun p hp' => ?_) (fun p hp' => ?_) (fun i I t u vs n' h tk nw hi hvs hI hap hb F' N' => ?_) (fun u vs n' h tk nw hvs hS hb F' N' => ?_)
  · rcases List.mem_cons.mp hp' with rfl | hp'
    · exact hc1
    rcases List.mem_cons.mp hp' with rfl | hp'
    · exact hc2
    exact hz p hp'
  · rcases List.mem_cons.mp hp' with rfl | hp'
    · exact d1
    rcases List.mem_cons.mp hp' with rfl | hp'
    · exact d2
    exact Nat.ne_of_lt (Nat.lt_trans (hzL p hp') (Nat.lt_trans (Nat.lt_succ_self _) (Nat.lt_trans (Nat.lt_succ_self _) hdl)))
  · exact turn i I t u vs n' h tk nw (by omega) hvs hI hap (hb _ (.head _)) (hb _ (.tail _ (.head _))) (fun p hp' => hb p (.tail _ (.tail _ hp'))) F' N'
  · refine done u vs n' h tk nw ⟨.head _, by omega, fun k v e => ?_⟩ (fun p hp' => .tail _ (hb p (.tail _ (.tail _ hp')))) F' N'
    obtain ⟨d, p, r, n'', x, y, x', y', tx, ty, tx', ty', g1, g2, g3, g4, g5⟩ := hS k v e
    exact ⟨d, p, r, n'', x, y, x', y', tx, ty, tx', ty', g1, .tail _ g2, .tail _ g3, .tail _ g4, g5⟩
end
end Mine
end
section
open PySem PySem.W PySem.W.X PyProof.Rows PySem.Spec
set_option Elab.async false
set_option maxRecDepth 100000
set_option maxHeartbeats 0
namespace Mine
theorem tup_ne_list : ¬ (Value.type "tuple" = Value.type "list") := by intro h; injection h with h; exact absurd h (by decide)
theorem ti_ne_list : ¬ (Value.type "tuple_iterator" = Value.type "list") := by intro h; injection h with h; exact absurd h (by decide)
theorem list_ne_ti : ¬ (Value.type "list" = Value.type "tuple_iterator") := by intro h; injection h with h; exact absurd h (by decide)
theorem tup_ne_ti : ¬ (Value.type "tuple" = Value.type "tuple_iterator") := by intro h; injection h with h; exact absurd h (by decide)
theorem ne_cls {h₀ h : Heap} {L a b : Addr} {l : List (Addr × Obj)} {o o' : Obj} (N : News h₀ L h l) (ha : (a, o) ∈ l) (hb : (b, o') ∈ l) (hc : ¬ (o.cls = o'.cls)) : a ≠ b := fun e => by
  have g1 := (N _ ha).1
  have g2 := (N _ hb).1
  simp only [e] at g1
  rw [g1] at g2
  exact hc (congrArg Obj.cls (Option.some.inj g2))
def PairA (nw : List (Addr × Obj)) (V : Int → Prop) (v : Value) : Prop := ∃ p x y tx ty, v = .ref p ∧ (p, tupO x tx y ty) ∈ nw ∧ V x ∧ V y
theorem PairA.mono {nw nw' : List (Addr × Obj)} {V : Int → Prop} {v : Value} (S : PairA nw V v) (h : ∀ p ∈ nw, p ∈ nw') : PairA nw' V v := by
  obtain ⟨p, x, y, tx, ty, e, h1, h2⟩ := S
  exact ⟨p, x, y, tx, ty, e, h _ h1, h2⟩
def HPost (h₀ : Heap) (L : Addr) (x : Str) (stored : List Str) (m₀ : Str → Option Value) (el : Addr) (vs : Array Value) (dl : Addr) (dvs : Array Value) (dn : Nat) (V : Int → Prop) (nw : List (Addr × Obj)) (s₁ : Shared) (Q : Flow → Shared → Prop) (f : Flow) (s₂ : Shared) : Prop :=
  match f with
  | .ret v => Q (.ret v) s₂
  | .brk => Q .next s₂
  | _ => ∃ h' tk m' full p n2 X Y t1 t2, s₂ = ⟨h', s₁.gens, s₁.drawn, tk, s₁.os⟩ ∧ Fr h₀ L h' m' ∧ (∀ y, y ≠ x → stored.contains y = false → m' y = m₀ y) ∧ News h₀ L h' full ∧ (∀ q ∈ nw, q ∈ full) ∧
    (el, listOf (vs.push (.ref p)) n2) ∈ full ∧ (dl, listOf dvs dn) ∈ full ∧ (p, tupO X t1 Y t2) ∈ full ∧ V X ∧ V Y
def HJ (el dl : Addr) (dvs : Array Value) (dn : Nat) (V : Int → Prop) (x : Str) (stored : List Str) (m₀ : Str → Option Value) (base : List (Addr × Obj)) (i : Nat) (m : Str → Option Value) (nx : List (Addr × Obj)) : Prop :=
  ∃ (nx₂ : List (Addr × Obj)) (vs : Array Value) (n : Nat), nx = (el, listOf vs n) :: (dl, listOf dvs dn) :: nx₂ ∧ ((i = 0 ∧ vs = #[]) ∨ (i = 1 ∧ ∃ v, vs = #[v] ∧ PairA nx₂ V v) ∨ (i = 2 ∧ ∃ v v', vs = #[v, v'] ∧ PairA nx₂ V v ∧ PairA nx₂ V v')) ∧
    (∀ p ∈ nx₂, p.1 ≠ el) ∧ (∀ p ∈ nx₂, p.1 ≠ dl) ∧ (∀ p ∈ base, p ∈ nx₂) ∧ ∀ y, y ≠ x → stored.contains y = false → m y = m₀ y
section
variable {prog : Program} {w : World} {A : Around} {E : Value → Shared → Prop} {env : Env} {h₀ : Heap} {x : Str} {body : List Stmt} {Q : Flow → Shared → Prop} {hp : Heap} {gg : Array GenState} {dr : Drawn} {tk₀ : Nat} {os : OsState}
theorem loop_pair {L T el dl : Addr} {k1 k2 : Int} {q1 q2 : Tok} {n₀ dn : Nat} {dvs : Array Value} {V : Int → Prop} {m₀ : Str → Option Value} {news base : List (Addr × Obj)} (stored : List Str)
    (hL : env.locals = L) (hh : A.handled = none) (F : Fr h₀ L hp m₀) (N : News h₀ L hp news) (hT : (T, tupO k1 q1 k2 q2) ∈ news)
    (hel : (el, listOf #[] n₀) ∈ news) (hdl : (dl, listOf dvs dn) ∈ news) (hne : @Ne Nat dl el) (hb : ∀ p ∈ base, p ∈ news) (hbe : ∀ p ∈ base, p.1 ≠ el) (hbd : ∀ p ∈ base, p.1 ≠ dl)
    (turn0 : ∀ (u : Str → Option Value) n h tk nw, (∀ p ∈ nw, p.1 ≠ el) → (∀ p ∈ nw, p.1 ≠ dl) → (∀ p ∈ base, p ∈ nw) → Fr h₀ L h (fun y => if y = x then some (.int k1 q1) else if stored.contains y then u y else m₀ y) → News h₀ L h ((el, listOf #[] n) :: (dl, listOf dvs dn) :: nw) →
      wpAny (model prog w) A (execs body env) (HPost h₀ L x stored m₀ el #[] dl dvs dn V nw ⟨h, gg, dr, tk, os⟩ Q) E ⟨h, gg, dr, tk, os⟩)
    (turn1 : ∀ (u : Str → Option Value) n p X Y t1 t2 h tk nw, (p, tupO X t1 Y t2) ∈ nw → V X → V Y → (∀ p ∈ nw, p.1 ≠ el) → (∀ p ∈ nw, p.1 ≠ dl) → (∀ p ∈ base, p ∈ nw) → Fr h₀ L h (fun y => if y = x then some (.int k2 q2) else if stored.contains y then u y else m₀ y) → News h₀ L h ((el, listOf #[.ref p] n) :: (dl, listOf dvs dn) :: nw) →
      wpAny (model prog w) A (execs body env) (HPost h₀ L x stored m₀ el #[.ref p] dl dvs dn V nw ⟨h, gg, dr, tk, os⟩ Q) E ⟨h, gg, dr, tk, os⟩)
    (done : ∀ (u : Str → Option Value) n p q X Y X' Y' t1 t2 t3 t4 h tk nw, (p, tupO X t1 Y t2) ∈ nw → (q, tupO X' t3 Y' t4) ∈ nw → V X → V Y → V X' → V Y' → (∀ p ∈ nw, p.1 ≠ el) → (∀ p ∈ nw, p.1 ≠ dl) → (∀ p ∈ base, p ∈ nw) →
      Fr h₀ L h (fun y => if y = x then u y else if stored.contains y then u y else m₀ y) → News h₀ L h ((el, listOf #[.ref p, .ref q] n) :: (dl, listOf dvs dn) :: nw) → Q .next ⟨h, gg, dr, tk, os⟩) :
    wpAny (model prog w) A (pyIter (.ref T)) (fun it s₂ => LoopAtV prog w A h₀ env x body Q E it s₂) E ⟨hp, gg, dr, tk₀, os⟩ := by
  subst hL
  have mfun : ∀ m : Str → Option Value, (∀ y, y ≠ x → stored.contains y = false → m y = m₀ y) → ∀ v : Option Value, (fun y => if y = x then v else m y) = (fun y => if y = x then v else if stored.contains y then m y else m₀ y) := fun m hm v => by
    funext y
    by_cases h1 : y = x
    · simp only [if_pos h1]
    · simp only [if_neg h1]
      by_cases h2 : stored.contains y = true
      · simp only [h2, if_true]
      · rw [if_neg h2]; exact hm y h1 (by simpa using h2)
  have hTs : hp.IsTuple T #[.int k1 q1, .int k2 q2] := ⟨_, (N _ hT).1, rfl, _, rfl⟩
  have hTlt : T < hp.objs.size := Heap.lt_size (N _ hT).1
  have hTne : T ≠ hp.objs.size := Nat.ne_of_lt hTlt
  refine wpAny_pyIter_tuple (s := ⟨hp, gg, dr, tk₀, os⟩) hTs ?_
  have W := Walks.tuple (prog := prog) (w := w) hh hp.objs.size T hTne #[.int k1 q1, .int k2 q2]
  have inNews : ∀ p, p ∈ (el, listOf #[] n₀) :: (dl, listOf dvs dn) :: base → p ∈ news := fun p h => by
    rcases List.mem_cons.mp h with rfl | h
    · exact hel
    rcases List.mem_cons.mp h with rfl | h
    · exact hdl
    exact hb p h
  refine ⟨_, _, _, 2, _, _, m₀, (el, listOf #[] n₀) :: (dl, listOf dvs dn) :: base, HJ el dl dvs dn V x stored m₀ base, rfl, W, ?_, ?_, ?_, ⟨⟨_, Heap.get?_push_size _ rfl, rfl, rfl⟩, hTs.at fun o e => Heap.get?_push_of_some _ e⟩, F.push _, (fun p hp' => ⟨Heap.get?_push_of_some _ (N p (inNews p hp')).1, (N p (inNews p hp')).2⟩), ⟨base, #[], n₀, rfl, .inl ⟨rfl, rfl⟩, hbe, hbd, fun _ h => h, fun _ _ _ => rfl⟩, ?_, ?_⟩
  · intro hm
    rcases List.mem_cons.mp hm with e | hm
    · exact absurd F.ns.lt (e ▸ Nat.lt_irrefl _)
    · exact (N _ hT).2.1 (List.mem_singleton.mp hm).symm
  · intro b hb'
    rw [List.mem_singleton.mp hb']
    exact next_is_new F
  · intro p hp' hI
    exact absurd (Heap.lt_size (N p (inNews p hp')).1) ((List.mem_singleton.mp hI) ▸ Nat.lt_irrefl _)
  · rintro i v m₁ nx s₁ own ⟨hh', tk', rfl⟩ hin hiv ⟨nx₂, vs, n', rfl, hcase, hap, hap', hbase, hm⟩ hoff hown hmem' hmem hst F₁ N₁
    obtain ⟨⟨oi, hoi, hoc, _⟩, _⟩ := hst
    have hI : (hp.objs.size, oi) ∈ own := hmem _ (.head _) (next_is_new F) oi hoi
    rw [mfun m₁ hm] at F₁
    have n1 : (el, listOf vs n') ∈ own ++ (el, listOf vs n') :: (dl, listOf dvs dn) :: nx₂ := List.mem_append_right _ (.head _)
    have n2 : (dl, listOf dvs dn) ∈ own ++ (el, listOf vs n') :: (dl, listOf dvs dn) :: nx₂ := List.mem_append_right _ (.tail _ (.head _))
    have ownT : ∀ p ∈ own, p.2.cls = .type "tuple_iterator" ∨ p.2.cls = .type "tuple" := fun p hp' => by
      have e1 := hmem' p hp'
      rcases List.mem_cons.mp (hown p hp') with e | e
      · left
        rw [e] at e1
        have : some oi = some p.2 := hoi.symm.trans e1
        rw [← Option.some.inj this]; exact hoc
      · right
        rw [List.mem_singleton.mp e] at e1
        rcases ‹Heap.IsTuple _ _ _› with ⟨oT, hoT, hcT, _⟩
        have : some oT = some p.2 := hoT.symm.trans e1
        rw [← Option.some.inj this]; exact hcT
    have ownNe : ∀ p ∈ own, ∀ a o, (a, o) ∈ own ++ (el, listOf vs n') :: (dl, listOf dvs dn) :: nx₂ → o.cls = .type "list" → p.1 ≠ a := fun p hp' a o ha hc => by
      refine ne_cls (o := p.2) (o' := o) N₁ (List.mem_append_left _ hp') ha ?_
      rw [hc]
      rcases ownT p hp' with e | e <;> rw [e]
      · exact ti_ne_list
      · exact tup_ne_list
    have nwEl : ∀ p ∈ own ++ nx₂, p.1 ≠ el := fun p hp' => by
      rcases List.mem_append.mp hp' with h | h
      · exact ownNe p h el _ n1 rfl
      · exact hap p h
    have nwDl : ∀ p ∈ own ++ nx₂, p.1 ≠ dl := fun p hp' => by
      rcases List.mem_append.mp hp' with h | h
      · exact ownNe p h dl _ n2 rfl
      · exact hap' p h
    have NN : News h₀ env.locals hh' ((el, listOf vs n') :: (dl, listOf dvs dn) :: (own ++ nx₂)) := fun p hp' => N₁ p (by
      rcases List.mem_cons.mp hp' with rfl | h
      · exact n1
      rcases List.mem_cons.mp h with rfl | h
      · exact n2
      rcases List.mem_append.mp h with h | h
      · exact List.mem_append_left _ h
      · exact List.mem_append_right _ (.tail _ (.tail _ h)))
    have hbase' : ∀ p ∈ base, p ∈ own ++ nx₂ := fun p hp' => List.mem_append_right _ (hbase p hp')
    have fin : ∀ s₂, ((i = 0 ∧ vs = #[]) ∨ (i = 1 ∧ ∃ v, vs = #[v] ∧ PairA nx₂ V v)) → (∃ h' tk m' full p n2 X Y t1 t2, s₂ = ⟨h', gg, dr, tk, os⟩ ∧ Fr h₀ env.locals h' m' ∧ (∀ y, y ≠ x → stored.contains y = false → m' y = m₀ y) ∧ News h₀ env.locals h' full ∧ (∀ q ∈ own ++ nx₂, q ∈ full) ∧
        (el, listOf (vs.push (.ref p)) n2) ∈ full ∧ (dl, listOf dvs dn) ∈ full ∧ (p, tupO X t1 Y t2) ∈ full ∧ V X ∧ V Y) →
        LoopStepU h₀ env.locals [hp.objs.size] own (HJ el dl dvs dn V x stored m₀ base (i + 1)) { (⟨hp, gg, dr, tk₀, os⟩ : Shared) with heap := hh', toks := tk' } .next s₂ := by
      rintro s₂ hc2 ⟨h', tk, m', full, p, n2, X, Y, t1, t2, e, F', hm', N', hs, h1, h2, h3, z1, z2⟩
      have key : ∀ q ∈ full, ¬ (q.2.cls = .type "tuple_iterator") → q.1 ∉ [hp.objs.size] := fun q hq hc hI' => by
        have g1 := (N' q hq).1
        have g2 := (N' _ (hs _ (List.mem_append_left _ hI))).1
        rw [List.mem_singleton.mp hI'] at g1
        rw [g1] at g2
        exact hc (by rw [Option.some.inj g2]; exact hoc)
      refine ⟨rfl, h', tk, m', (el, listOf (vs.push (.ref p)) n2) :: (dl, listOf dvs dn) :: (p, tupO X t1 Y t2) :: nx₂, e, F', fun q hq => N' q ?_, fun q hq => ?_, (p, tupO X t1 Y t2) :: nx₂, vs.push (.ref p), n2, rfl, ?_, fun q hq => ?_, fun q hq => ?_, fun q hq => .tail _ (hbase q hq), hm'⟩
      · rcases List.mem_append.mp hq with hq | hq
        · exact hs q (List.mem_append_left _ hq)
        rcases List.mem_cons.mp hq with rfl | hq
        · exact h1
        rcases List.mem_cons.mp hq with rfl | hq
        · exact h2
        rcases List.mem_cons.mp hq with rfl | hq
        · exact h3
        exact hs q (List.mem_append_right _ hq)
      · rcases List.mem_cons.mp hq with rfl | hq
        · exact key _ h1 list_ne_ti
        rcases List.mem_cons.mp hq with rfl | hq
        · exact key _ h2 list_ne_ti
        rcases List.mem_cons.mp hq with rfl | hq
        · exact key _ h3 tup_ne_ti
        exact hoff q (.tail _ (.tail _ hq))
      · have pa : PairA ((p, tupO X t1 Y t2) :: nx₂) V (.ref p) := ⟨p, X, Y, t1, t2, rfl, .head _, z1, z2⟩
        rcases hc2 with ⟨rfl, rfl⟩ | ⟨rfl, v, rfl, hv⟩
        · exact .inr (.inl ⟨rfl, _, rfl, pa⟩)
        · exact .inr (.inr ⟨rfl, v, _, rfl, hv.mono fun q hq => .tail _ hq, pa⟩)
      · rcases List.mem_cons.mp hq with rfl | hq
        · exact ne_cls N' h3 h1 tup_ne_list
        exact hap q hq
      · rcases List.mem_cons.mp hq with rfl | hq
        · exact ne_cls N' h3 h2 tup_ne_list
        exact hap' q hq
    rcases hcase with ⟨rfl, rfl⟩ | ⟨rfl, v', rfl, p, X, Y, t1, t2, rfl, hpm, hX, hY⟩ | ⟨rfl, _⟩
    · have e : v = .int k1 q1 := (Option.some.inj hiv).symm
      subst e
      refine wpAny_mono (turn0 m₁ n' hh' tk' (own ++ nx₂) nwEl nwDl hbase' F₁ NN) (fun f s₂ p => ?_) fun _ _ e => e
      cases f with
      | ret v => exact .ret p
      | brk => exact .brk p
      | next => exact .next (fin _ (.inl ⟨rfl, rfl⟩) p)
      | cont => exact .cont (fin _ (.inl ⟨rfl, rfl⟩) p)
    · have e : v = .int k2 q2 := (Option.some.inj hiv).symm
      subst e
      refine wpAny_mono (turn1 m₁ n' p X Y t1 t2 hh' tk' (own ++ nx₂) (List.mem_append_right _ hpm) hX hY nwEl nwDl hbase' F₁ NN) (fun f s₂ pp => ?_) fun _ _ e => e
      have hc2 : (1 = 0 ∧ (#[Value.ref p] : Array Value) = #[]) ∨ (1 = 1 ∧ ∃ v, (#[Value.ref p] : Array Value) = #[v] ∧ PairA nx₂ V v) := .inr ⟨rfl, _, rfl, p, X, Y, t1, t2, rfl, hpm, hX, hY⟩
      cases f with
      | ret v => exact .ret pp
      | brk => exact .brk pp
      | next => exact .next (fin _ hc2 pp)
      | cont => exact .cont (fin _ hc2 pp)
    · exact absurd hin (Nat.lt_irrefl _)
  · rintro h' tk m' news' F' N' _ ⟨nx₂, vs, n', rfl, hcase, hap, hap', hbase, hm⟩
    have ef : m' = (fun y => if y = x then m' y else if stored.contains y then m' y else m₀ y) := by
      have e := mfun m' hm (m' x)
      funext y
      by_cases h1 : y = x
      · simp only [if_pos h1]
      · have := congrFun e y
        simp only [if_neg h1] at this ⊢
        exact this
    rw [ef] at F'
    rcases hcase with ⟨e, _⟩ | ⟨e, _⟩ | ⟨_, v, v', rfl, ⟨p, X, Y, t1, t2, rfl, h1, z1, z2⟩, ⟨q, X', Y', t3, t4, rfl, h2, z3, z4⟩⟩
    · exact absurd e (by decide)
    · exact absurd e (by decide)
    · exact done m' n' p q X Y X' Y' t1 t2 t3 t4 h' tk nx₂ h1 h2 z1 z2 z3 z4 hap hap' hbase F' N'
end
end Mine
end
section
open PySem PySem.W PySem.W.X PyProof.Rows PySem.Spec
open PyProof.Rows.LCg PyProof.Rows.LCp
set_option Elab.async false
set_option maxRecDepth 100000
set_option maxHeartbeats 0
namespace Mine
def Sn (z : Int) : Prop := 0 ≤ z ∧ z < 8
def Sm (z : Int) : Prop := 0 ≤ z ∧ z < 6
theorem sn_of {z : Int} (h : Sm z) : Sn z := by unfold Sm Sn at *; omega
theorem sn_1 {z : Int} (h : Sm z) : Sn (z + 1) := by unfold Sm Sn at *; omega
theorem sz_small {B : Nat} {z : Int} (h : z.natAbs < 512) : Sz (B + 9) z := by
  unfold Sz
  have e : 2 ^ (B + 9) = 2 ^ B * 512 := by rw [Nat.pow_add]
  have : 0 < 2 ^ B := Nat.pow_pos (by decide)
  rw [e]
  omega
theorem sz_up {B : Nat} {z : Int} (h : Sz B z) : Sz (B + 9) z := by
  unfold Sz at *
  have e : 2 ^ (B + 9) = 2 ^ B * 512 := by rw [Nat.pow_add]
  rw [e]
  omega
theorem sz_up1 {B : Nat} {z : Int} (h : Sz B z) : Sz (B + 9) (z + 1) := by
  unfold Sz at *
  have e : 2 ^ (B + 9) = 2 ^ B * 512 := by rw [Nat.pow_add]
  have : 0 < 2 ^ B := Nat.pow_pos (by decide)
  rw [e]
  omega
theorem fm3c (z : Int) : z.fmod 3 - 1 = -1 ∨ z.fmod 3 - 1 = 0 ∨ z.fmod 3 - 1 = 1 := by
  rw [Int.fmod_eq_emod_of_nonneg _ (by decide)]; omega
theorem mul_small {a b : Int} (ha : -1000 ≤ a ∧ a ≤ 1000) (hb : -1000 ≤ b ∧ b ≤ 1000) : IntMulOk a b :=
  mul_sz (B := 10) (C := 10) (by unfold Sz; omega) (by unfold Sz; omega) (by decide)
theorem mul_l {z b : Int} (hb : Sn b) : IntMulOk (z.fmod 3 - 1) b := by
  have := fm3c z
  unfold Sn at hb
  exact mul_small (by omega) (by omega)
theorem mul_r {z z' u v : Int} (hu : Sn u) (hv : Sn v) : IntMulOk (z'.fmod 3 - 1) (u + (z.fmod 3 - 1) * v) := by
  have h1 := fm3c z'
  unfold Sn at hu hv
  rcases fm3c z with e | e | e <;> rw [e] <;> exact mul_small (by omega) (by omega)
theorem sh1 {B : Nat} {z u v : Int} (hu : Sn u) (hv : Sn v) : Sz (B + 9) (u + (z.fmod 3 - 1) * v) := by
  unfold Sn at hu hv
  rcases fm3c z with e | e | e <;> rw [e] <;> exact sz_small (by omega)
theorem sh2 {B : Nat} {z z' u v : Int} (hu : Sn u) (hv : Sn v) : Sz (B + 9) (v + (z'.fmod 3 - 1) * (u + (z.fmod 3 - 1) * v)) := by
  unfold Sn at hu hv
  rcases fm3c z with e | e | e <;> rcases fm3c z' with e' | e' | e' <;> rw [e, e'] <;> exact sz_small (by omega)
theorem off1_mem {D : Addr} : ∀ {l : List (Addr × Obj)}, Off1 D l → ∀ p ∈ l, @Ne Nat p.1 D
  | [], _ => fun _ h => (nomatch h)
  | p :: _, h => fun q hq => by
    rcases List.mem_cons.mp hq with rfl | hq
    · exact h.1
    · exact off1_mem h.2 q hq
def ShJ (keep : List (Addr × Obj)) (BB : Nat) (i : Nat) (ys : List Value) (nx : List (Addr × Obj)) : Prop :=
  (∀ p ∈ keep, p ∈ nx) ∧ ys.length = i ∧ ∀ k, k < i → ∃ T X Y t3 t4, ys[k]? = some (.ref T) ∧ (T, tupO X t3 Y t4) ∈ nx ∧ Sz BB X ∧ Sz BB Y
section
variable {w : World} {A : Around} {E : Value → Shared → Prop} {h₀ : Heap} {L : Addr} {m : Str → Option Value} {news : List (Addr × Obj)} {hp : Heap} {gg : Array GenState} {dr : Drawn} {t : Nat} {os : OsState}
theorem sh_end {keep : List (Addr × Obj)} {BB i : Nat} {ys : List Value} {nx : List (Addr × Obj)} {I C D T el : Addr} {oI oC : Obj} {hq : Heap} {tk n : Nat} {s₁ : Shared} {X Y : Int} {ta tb : Tok} {its : Array Value} (J : ShJ keep BB i ys nx) (hs : s₁ = ⟨hp, gg, dr, t, os⟩)
    (F : Fr h₀ L hq m) (N : News h₀ L hq ((T, tupO X ta Y tb) :: (I, oI) :: (C, oC) :: (D, lst ys) :: nx)) (off : Off3 I C D nx) (lt3 : @LT.lt Nat instLTNat I T ∧ @LT.lt Nat instLTNat C T ∧ @LT.lt Nat instLTNat D T ∧ AllLt T nx) (hel : (el, listOf its n) ∈ keep) (z1 : Sz BB X) (z2 : Sz BB Y) :
    CompEnd h₀ L m s₁ I oI C oC D (lst ys) (SrcAt h₀ el its) (fun y nx' => ShJ keep BB (i + 1) (ys ++ [y]) nx') (.ref T) ⟨hq, gg, dr, tk, os⟩ := by
  subst hs
  refine ⟨hq, tk, (T, tupO X ta Y tb) :: nx, rfl, F, fun q hq' => N q ?_, ?_, .inr ⟨_, List.Mem.tail _ (J.1 _ hel), rfl, _, rfl⟩, ?_⟩
  · rcases List.mem_cons.mp hq' with rfl | hq'
    · exact .tail _ (.head _)
    rcases List.mem_cons.mp hq' with rfl | hq'
    · exact .tail _ (.tail _ (.head _))
    rcases List.mem_cons.mp hq' with rfl | hq'
    · exact .tail _ (.tail _ (.tail _ (.head _)))
    rcases List.mem_cons.mp hq' with rfl | hq'
    · exact .head _
    · exact .tail _ (.tail _ (.tail _ (.tail _ hq')))
  · exact ⟨⟨Ne.symm (Nat.ne_of_lt lt3.1), Ne.symm (Nat.ne_of_lt lt3.2.1), Ne.symm (Nat.ne_of_lt lt3.2.2.1)⟩, off⟩
  · obtain ⟨hk, hl, hi⟩ := J
    refine ⟨fun p hp => .tail _ (hk p hp), by simp [hl], fun k hk' => ?_⟩
    by_cases e : k < i
    · obtain ⟨T', X', Y', t3', t4', e1, e2, e3⟩ := hi k e
      exact ⟨T', X', Y', t3', t4', by rw [List.getElem?_append_left (by omega)]; exact e1, .tail _ e2, e3⟩
    · have e : k = i := by omega
      subst e
      exact ⟨T, X, Y, ta, tb, by rw [List.getElem?_append_right (by omega), hl]; simp, .head _, z1, z2⟩
theorem src_shear {elt : PySem.Expr} {env : Env} {x x₂ y : Str} {scope : Scope} {cl : List (Str × Addr)} {Q : Flow → Shared → Prop} {el dl p q : Addr} {n dn BB : Nat} {dvs : Array Value} {X Y X' Y' : Int} {t1 t2 t3 t4 : Tok} {nw : List (Addr × Obj)} {ns : List Int} {B0 : Nat}
    (_hzz : ∀ n ∈ ns, Sz B0 n) (hBB : BB = B0 + 9)
    (hh : A.handled = none) (F : Fr h₀ L hp m) (N : News h₀ L hp news) (had : ∀ p ∈ nw, p.1 ≠ dl) (hs : ∀ p ∈ nw, p ∈ news) (hel : (el, listOf #[.ref p, .ref q] n) ∈ news) (hdl : (dl, listOf dvs dn) ∈ news)
    (hp1 : (p, tupO X t1 Y t2) ∈ news) (hq1 : (q, tupO X' t3 Y' t4) ∈ news) (z1 : Sn X) (z2 : Sn Y) (z3 : Sn X') (z4 : Sn Y')
    (step : ∀ i ys nx a b ta tb I oI C oC D m₂ h tk (E' : Value → Shared → Prop), Sn a → Sn b → ShJ ((el, listOf #[.ref p, .ref q] n) :: (dl, listOf dvs dn) :: (p, tupO X t1 Y t2) :: (q, tupO X' t3 Y' t4) :: nw) BB i ys nx → (∀ p ∈ nw, p ∈ nx) → NsObj oC m₂ → m₂ x = some (.int a ta) → m₂ x₂ = some (.int b tb) → Fr h₀ L h m → News h₀ L h ((I, oI) :: (C, oC) :: (D, lst ys) :: nx) → Off3 I C D nx → ((@Ne Nat I C) ∧ (@Ne Nat I D) ∧ (@Ne Nat C D)) →
      wpAny (model prog0 w) A (eval elt (compEnvC scope cl C env)) (CompEnd h₀ L m ⟨h, gg, dr, tk, os⟩ I oI C oC D (lst ys) (SrcAt h₀ el #[.ref p, .ref q]) (fun y nx' => ShJ ((el, listOf #[.ref p, .ref q] n) :: (dl, listOf dvs dn) :: (p, tupO X t1 Y t2) :: (q, tupO X' t3 Y' t4) :: nw) BB (i + 1) (ys ++ [y]) nx')) E' ⟨h, gg, dr, tk, os⟩)
    (fin : ∀ h tk D T T' X Y X' Y' t1 t2 t3 t4 n' nx, (T, tupO X t1 Y t2) ∈ nx → (T', tupO X' t3 Y' t4) ∈ nx → Sz BB X → Sz BB Y → Sz BB X' → Sz BB Y' → (∀ p ∈ nw, p ∈ nx) → (∀ p ∈ nx, p.1 ≠ dl) → @Ne Nat D dl → Fr h₀ L h (fun z => if z = y then some (.ref D) else m z) → News h₀ L h ((D, listOf #[.ref T, .ref T'] n') :: (dl, listOf dvs dn) :: nx) → Q .next ⟨h, gg, dr, tk, os⟩) :
    SrcLP prog0 w A h₀ L m env elt x x₂ scope cl (fun s₂ => FinA h₀ L m s₂ y Q) (.ref el) ⟨hp, gg, dr, t, os⟩ := by
  subst hBB
  refine SrcLP.ledger hh F N hel (by show 2 ≤ sizeLine; decide) fun g => ?_
  have sub0 : ∀ r ∈ (el, listOf #[.ref p, .ref q] n) :: (dl, listOf dvs dn) :: (p, tupO X t1 Y t2) :: (q, tupO X' t3 Y' t4) :: nw, r ∈ news := fun r hr => by
    rcases List.mem_cons.mp hr with rfl | hr
    · exact hel
    rcases List.mem_cons.mp hr with rfl | hr
    · exact hdl
    rcases List.mem_cons.mp hr with rfl | hr
    · exact hp1
    rcases List.mem_cons.mp hr with rfl | hr
    · exact hq1
    exact hs r hr
  have key : ∀ (i : Nat) v, i < 2 → (#[Value.ref p, .ref q] : Array Value)[i]? = some v → ∃ T a b ta tb, v = .ref T ∧ (T, tupO a ta b tb) ∈ (el, listOf #[.ref p, .ref q] n) :: (dl, listOf dvs dn) :: (p, tupO X t1 Y t2) :: (q, tupO X' t3 Y' t4) :: nw ∧ Sn a ∧ Sn b := fun i v hi hv => by
    match i, hi with
    | 0, _ => exact ⟨p, X, Y, t1, t2, (Option.some.inj hv).symm, .tail _ (.tail _ (.head _)), z1, z2⟩
    | 1, _ => exact ⟨q, X', Y', t3, t4, (Option.some.inj hv).symm, .tail _ (.tail _ (.tail _ (.head _))), z3, z4⟩
  refine comp_rest (n := 2) (ShJ ((el, listOf #[.ref p, .ref q] n) :: (dl, listOf dvs dn) :: (p, tupO X t1 Y t2) :: (q, tupO X' t3 Y' t4) :: nw) (B0 + 9)) (fun i ys nx v hi hv hj => ?_) (fun ys nx hj => ?_) _ _ _ _ rfl ⟨sub0, rfl, fun k hk => absurd hk (Nat.not_lt_zero _)⟩
  · obtain ⟨T, a, b, ta, tb, e1, e2, e3, e4⟩ := key i v hi hv
    exact ⟨T, _, _, _, _, e1, hj.1 _ e2, rfl, rfl, fun I oI C oC D m₂ h tk E' hC hx hy F' N' off ne' => step i ys nx a b ta tb I oI C oC D m₂ h tk E' e3 e4 hj (fun r hr => hj.1 r (.tail _ (.tail _ (.tail _ (.tail _ hr))))) hC hx hy F' N' off ne'⟩
  · intro D h tk F' N' off
    obtain ⟨hk, hl, hi⟩ := hj
    obtain ⟨T, X1, Y1, u1, u2, e1, e2, e3, e4⟩ := hi 0 (by decide)
    obtain ⟨T', X2, Y2, u3, u4, f1, f2, f3, f4⟩ := hi 1 (by decide)
    have ey : ys = [.ref T, .ref T'] := by
      match ys, hl with
      | [a, b], _ =>
        have g1 : a = .ref T := Option.some.inj e1
        have g2 : b = .ref T' := Option.some.inj f1
        rw [g1, g2]
    subst ey
    have hdlnx : (dl, listOf dvs dn) ∈ nx := hk _ (.tail _ (.head _))
    have hD : @Ne Nat dl D := off1_mem off _ hdlnx
    have tupNe : ∀ a x1 y1 w1 w2, (a, tupO x1 w1 y1 w2) ∈ nx → a ≠ dl := fun a x1 y1 w1 w2 ha => ne_cls N' (.tail _ ha) (.tail _ hdlnx) tup_ne_list
    have fm : ∀ r : Addr × Obj, r ∈ nx → r.1 ≠ dl → r ∈ nx.filter (fun r => decide (r.1 ≠ dl)) := fun r hr hn => List.mem_filter.mpr ⟨hr, by simpa using hn⟩
    refine fin h tk D T T' X1 Y1 X2 Y2 u1 u2 u3 u4 2 (nx.filter (fun r => decide (r.1 ≠ dl))) (fm _ e2 (tupNe _ _ _ _ _ e2)) (fm _ f2 (tupNe _ _ _ _ _ f2)) e3 e4 f3 f4 (fun r hr => fm _ (hk r (.tail _ (.tail _ (.tail _ (.tail _ hr))))) (had r hr)) (fun r hr => by simpa using (List.mem_filter.mp hr).2) (Ne.symm hD) F' (fun r hr => N' r ?_)
    rcases List.mem_cons.mp hr with rfl | hr
    · exact .head _
    rcases List.mem_cons.mp hr with rfl | hr
    · exact .tail _ hdlnx
    exact .tail _ (List.mem_filter.mp hr).1
end
section
variable {prog : Program} {w : World} {A : Around} {E : Value → Shared → Prop} {h₀ : Heap} {L : Addr} {m : Str → Option Value} {news nw : List (Addr × Obj)} {hp : Heap} {gg : Array GenState} {dr : Drawn} {t : Nat} {os : OsState} {Q : Value → Shared → Prop}
theorem append_D {dl d p r : Addr} {vs : Array Value} {n n' : Nat} {i : Nat} {X Y X' Y' : Int} {t1 t2 t3 t4 : Tok} (F : Fr h₀ L hp m) (N : News h₀ L hp news) (hsz : vs.size = i) (hi : i < 5) (had : ∀ q ∈ nw, q.1 ≠ dl) (hm : (dl, listOf vs n) ∈ news) (hd : (d, listOf #[.ref p, .ref r] n') ∈ news) (hne : @Ne Nat d dl)
    (hp1 : (p, tupO X t1 Y t2) ∈ news) (hr1 : (r, tupO X' t3 Y' t4) ∈ news) (hnw : ∀ q ∈ nw, q ∈ news)
    (h : ∀ h' nw2, (dl, listOf (vs.push (.ref d)) (n + 1)) ∈ nw2 → @Ne Nat d dl → (d, listOf #[.ref p, .ref r] n') ∈ nw2 → (p, tupO X t1 Y t2) ∈ nw2 → (r, tupO X' t3 Y' t4) ∈ nw2 → (∀ q ∈ nw, q ∈ nw2) → Fr h₀ L h' m → News h₀ L h' nw2 → Q .none ⟨h', gg, dr, t, os⟩) :
    wpAny (model prog w) A (call (.builtin "list.append") [.ref dl, .ref d]) Q E ⟨hp, gg, dr, t, os⟩ := by
  have hz : vs.size ≤ sizeLine := by
    have : (1000 : Nat) ≤ sizeLine := by decide
    omega
  refine append_at (s := ⟨hp, gg, dr, t, os⟩) (N _ hm).1 (fun h' hs ho => ?_) hz
  have pd : p ≠ dl := ne_cls N hp1 hm tup_ne_list
  have rd : r ≠ dl := ne_cls N hr1 hm tup_ne_list
  have nL : dl ≠ L := (N _ hm).2.1
  have n0 : h₀.get? dl = none := (N _ hm).2.2
  have keep : ∀ q ∈ news, q.1 ≠ dl → q ∈ (dl, listOf (vs.push (.ref d)) (n + 1)) :: news.filter (fun q => decide (q.1 ≠ dl)) := fun q hq hn => .tail _ (List.mem_filter.mpr ⟨hq, by simpa using hn⟩)
  refine h h' ((dl, listOf (vs.push (.ref d)) (n + 1)) :: news.filter (fun q => decide (q.1 ≠ dl))) (.head _) hne (keep _ hd hne) (keep _ hp1 pd) (keep _ hr1 rd) (fun q hq => keep q (hnw q hq) (had q hq))
    ⟨F.ns.sameBut hs (Ne.symm nL), fun b o e => (hs.2 b (fun q => ?_)).trans (F.keep b o e), F.above⟩ (fun q hq => ?_)
  · rw [q, n0] at e; cases e
  · rcases List.mem_cons.mp hq with rfl | hq
    · exact ⟨ho, nL, n0⟩
    · obtain ⟨h1, h2⟩ := List.mem_filter.mp hq
      have h3 : q.1 ≠ dl := by simpa using h2
      exact ⟨(hs.2 q.1 h3).trans (N q h1).1, (N q h1).2⟩
end
theorem m_loop2 {x a : Str} {stored stored' : List Str} {m m' u v : Str → Option Value} (ha : a = x ∨ stored.contains a = true) (hs : (stored'.all fun b => stored.contains b) = true) (h : ∀ y, y ≠ x → stored.contains y = false → m' y = m y) :
    ∀ y, y ≠ x → stored.contains y = false → (if y = a then v y else if stored'.contains y then u y else m' y) = m y := fun y h1 h2 => by
  rw [if_neg (fun e => by subst e; rcases ha with ha | ha <;> simp_all)]
  by_cases h3 : stored'.contains y = true
  · have h4 := List.all_eq_true.mp hs y (by simpa using h3)
    rw [h2] at h4
    cases h4
  · rw [if_neg h3]
    exact h y h1 h2
end Mine
end
section
open PySem PySem.W PySem.W.X PyProof.Rows PySem.Spec
set_option Elab.async false
set_option maxRecDepth 100000
set_option maxHeartbeats 0
set_option rowWalk.seconds 0
namespace Mine
theorem ne1 {news : List (Addr × Obj)} {L : Addr} (h : ∀ p ∈ news, p.1 < L) : ∀ p ∈ news, p.1 ≠ L + 1 := fun p hp => Nat.ne_of_lt (Nat.lt_trans (h p hp) (Nat.lt_succ_self _))
theorem ne2 {news : List (Addr × Obj)} {L : Addr} (h : ∀ p ∈ news, p.1 < L) : ∀ p ∈ news, p.1 ≠ L + 1 + 1 := fun p hp => Nat.ne_of_lt (Nat.lt_trans (Nat.lt_trans (h p hp) (Nat.lt_succ_self _)) (Nat.lt_succ_self _))
local macro_rules | `(tactic| k_all) => `(tactic| first | exact ne1 (by with_reducible assumption) | exact ne2 (by with_reducible assumption))
theorem fm4 (z : Int) : 0 ≤ z.fmod 4 ∧ z.fmod 4 < 4 := by
  rw [Int.fmod_eq_emod_of_nonneg _ (by decide)]; omega
theorem fm16 (z : Int) : 0 ≤ z.fmod 16 ∧ z.fmod 16 < 16 := by
  rw [Int.fmod_eq_emod_of_nonneg _ (by decide)]; omega
theorem fm3 (z : Int) : -1 ≤ z.fmod 3 - 1 ∧ z.fmod 3 - 1 ≤ 1 := by
  rw [Int.fmod_eq_emod_of_nonneg _ (by decide)]; omega
section
variable {prog : Program} {w : World} {A : Around} {E : Value → Shared → Prop} {Q : Value → Shared → Prop} {h₀ : Heap} {L l : Addr} {hp : Heap} {gg : Array GenState} {dr : Drawn} {t : Nat} {os : OsState} {news : List (Addr × Obj)}
theorem menu4 {value slice : PySem.Expr} {a b c d : Addr} {n : Nat} {k : Int} {u t1 t2 t3 t4 t5 t6 t7 t8 : Tok} (N : News h₀ L hp news) (hl : (l, listOf #[.ref a, .ref b, .ref c, .ref d] n) ∈ news) (hk : 0 ≤ k ∧ k < 4)
    (ha : (a, tupO 4 t1 4 t2) ∈ news) (hb : (b, tupO 6 t3 2 t4) ∈ news) (hc : (c, tupO 3 t5 3 t6) ∈ news) (hd : (d, tupO 1 t7 1 t8) ∈ news)
    (h : ∀ r W H tW tH, (r, tupO W tW H tH) ∈ news → 1 ≤ W ∧ W ≤ 6 → 1 ≤ H ∧ H ≤ 6 → Q (.ref r) ⟨hp, gg, dr, t, os⟩)
    (hs : subscripted slice false (.ref l) (.int k u) = operate [.ref l, .int k u] (getItem (.ref l) (.int k u)) := by with_unfolding_all rfl) :
    wpAny (model prog w) A (subscriptTail value slice (.ref l) (.int k u)) Q E ⟨hp, gg, dr, t, os⟩ := by
  have e : k = 0 ∨ k = 1 ∨ k = 2 ∨ k = 3 := by omega
  rcases e with rfl | rfl | rfl | rfl
  · exact item_l (s := ⟨hp, gg, dr, t, os⟩) N hl (by decide) (by decide) rfl (h _ _ _ _ _ ha (by decide) (by decide)) hs
  · exact item_l (s := ⟨hp, gg, dr, t, os⟩) N hl (by decide) (by decide) rfl (h _ _ _ _ _ hb (by decide) (by decide)) hs
  · exact item_l (s := ⟨hp, gg, dr, t, os⟩) N hl (by decide) (by decide) rfl (h _ _ _ _ _ hc (by decide) (by decide)) hs
  · exact item_l (s := ⟨hp, gg, dr, t, os⟩) N hl (by decide) (by decide) rfl (h _ _ _ _ _ hd (by decide) (by decide)) hs
end
theorem cnt_ok (z : Int) : 2 ≤ [(3 : Int), 4, 2, 3, 5, 3, 4, 3, 3, 2, 3, 4, 3, 3, 4, 3].getD (z.fmod 16).toNat 0 ∧ [(3 : Int), 4, 2, 3, 5, 3, 4, 3, 3, 2, 3, 4, 3, 3, 4, 3].getD (z.fmod 16).toNat 0 ≤ 5 := by
  obtain ⟨h0, h1⟩ := fm16 z
  have h : ∀ i : Nat, i < 16 → 2 ≤ [(3 : Int), 4, 2, 3, 5, 3, 4, 3, 3, 2, 3, 4, 3, 3, 4, 3].getD i 0 ∧ [(3 : Int), 4, 2, 3, 5, 3, 4, 3, 3, 2, 3, 4, 3, 3, 4, 3].getD i 0 ≤ 5 := by decide
  exact h _ (by omega)
theorem cnt_if {g b : Int} (h : 2 ≤ g ∧ g ≤ 5) (hb : 0 ≤ b ∧ b ≤ 5) : 0 ≤ (if b < g then b else g) ∧ (if b < g then b else g) ≤ 5 := by
  split <;> omega
theorem allLt_all {d : Addr} : ∀ {l : List (Addr × Obj)}, AllLt d l → ∀ p ∈ l, p.1 < d
  | [], _ => fun _ h => (nomatch h)
  | p :: _, h => fun q hq => by
    rcases List.mem_cons.mp hq with rfl | hq
    · exact h.1
    · exact allLt_all h.2 q hq
theorem ap1 {a b : Addr} {l : List (Addr × Obj)} (h : @LT.lt Nat instLTNat b a ∧ AllLt a l) : (∀ p ∈ l, p.1 ≠ a) ∧ @Ne Nat b a :=
  ⟨fun p hp => Nat.ne_of_lt (allLt_all h.2 p hp), Nat.ne_of_lt h.1⟩
theorem sm_mod {a W : Int} (h : 1 ≤ W ∧ W ≤ 6) : Sm (a.fmod W) := by
  unfold Sm
  rw [Int.fmod_eq_emod_of_nonneg _ (by omega)]
  have := Int.emod_nonneg a (show W ≠ 0 by omega)
  have := Int.emod_lt_of_pos a (show 0 < W by omega)
  omega
section
variable {prog : Program} {w : World} {A : Around} {E : Value → Shared → Prop} {env : Env} {h₀ : Heap} {x : Str} {body : List Stmt} {Q : Flow → Shared → Prop} {hp : Heap} {gg : Array GenState} {dr : Drawn} {tk₀ : Nat} {os : OsState}
theorem loop_pairA {L T el dl : Addr} {k1 k2 z : Int} {q1 q2 : Tok} {n₀ dn B0 : Nat} {ns : List Int} {dvs : Array Value} {m₀ : Str → Option Value} {news base : List (Addr × Obj)} (stored : List Str)
    (_h3 : z.fmod 4 = 3) (_hzz : ∀ n ∈ ns, Sz B0 n)
    (hL : env.locals = L) (hh : A.handled = none) (F : Fr h₀ L hp m₀) (N : News h₀ L hp news) (hbd : ∀ p ∈ base, p.1 ≠ dl) (hT : (T, tupO k1 q1 k2 q2) ∈ news)
    (hel : (el, listOf #[] n₀) ∈ news) (hdl : (dl, listOf dvs dn) ∈ news) (hbe : (∀ p ∈ base, p.1 ≠ el) ∧ @Ne Nat dl el) (hb : ∀ p ∈ base, p ∈ news)
    (turn0 : ∀ (u : Str → Option Value) n h tk nw, (∀ p ∈ nw, p.1 ≠ el) → (∀ p ∈ nw, p.1 ≠ dl) → (∀ p ∈ base, p ∈ nw) → Fr h₀ L h (fun y => if y = x then some (.int k1 q1) else if stored.contains y then u y else m₀ y) → News h₀ L h ((el, listOf #[] n) :: (dl, listOf dvs dn) :: nw) →
      wpAny (model prog w) A (execs body env) (HPost h₀ L x stored m₀ el #[] dl dvs dn (Sz B0) nw ⟨h, gg, dr, tk, os⟩ Q) E ⟨h, gg, dr, tk, os⟩)
    (turn1 : ∀ (u : Str → Option Value) n p X Y t1 t2 h tk nw, (p, tupO X t1 Y t2) ∈ nw → Sz B0 X → Sz B0 Y → (∀ p ∈ nw, p.1 ≠ el) → (∀ p ∈ nw, p.1 ≠ dl) → (∀ p ∈ base, p ∈ nw) → Fr h₀ L h (fun y => if y = x then some (.int k2 q2) else if stored.contains y then u y else m₀ y) → News h₀ L h ((el, listOf #[.ref p] n) :: (dl, listOf dvs dn) :: nw) →
      wpAny (model prog w) A (execs body env) (HPost h₀ L x stored m₀ el #[.ref p] dl dvs dn (Sz B0) nw ⟨h, gg, dr, tk, os⟩ Q) E ⟨h, gg, dr, tk, os⟩)
    (done : ∀ (u : Str → Option Value) n p q X Y X' Y' t1 t2 t3 t4 h tk nw, (p, tupO X t1 Y t2) ∈ nw → (q, tupO X' t3 Y' t4) ∈ nw → Sz B0 X → Sz B0 Y → Sz B0 X' → Sz B0 Y' → (∀ p ∈ nw, p.1 ≠ el) → (∀ p ∈ nw, p.1 ≠ dl) → (∀ p ∈ base, p ∈ nw) →
      Fr h₀ L h (fun y => if y = x then u y else if stored.contains y then u y else m₀ y) → News h₀ L h ((el, listOf #[.ref p, .ref q] n) :: (dl, listOf dvs dn) :: nw) → Q .next ⟨h, gg, dr, tk, os⟩) :
    wpAny (model prog w) A (pyIter (.ref T)) (fun it s₂ => LoopAtV prog w A h₀ env x body Q E it s₂) E ⟨hp, gg, dr, tk₀, os⟩ :=
  loop_pair stored hL hh F N hT hel hdl hbe.2 hb hbe.1 hbd turn0 turn1 done
theorem loop_pairB {L T el dl : Addr} {k1 k2 z : Int} {q1 q2 : Tok} {n₀ dn : Nat} {dvs : Array Value} {m₀ : Str → Option Value} {news base : List (Addr × Obj)} (stored : List Str)
    (_h3 : ¬ z.fmod 4 = 3)
    (hL : env.locals = L) (hh : A.handled = none) (F : Fr h₀ L hp m₀) (N : News h₀ L hp news) (hbd : ∀ p ∈ base, p.1 ≠ dl) (hT : (T, tupO k1 q1 k2 q2) ∈ news)
    (hel : (el, listOf #[] n₀) ∈ news) (hdl : (dl, listOf dvs dn) ∈ news) (hbe : (∀ p ∈ base, p.1 ≠ el) ∧ @Ne Nat dl el) (hb : ∀ p ∈ base, p ∈ news)
    (turn0 : ∀ (u : Str → Option Value) n h tk nw, (∀ p ∈ nw, p.1 ≠ el) → (∀ p ∈ nw, p.1 ≠ dl) → (∀ p ∈ base, p ∈ nw) → Fr h₀ L h (fun y => if y = x then some (.int k1 q1) else if stored.contains y then u y else m₀ y) → News h₀ L h ((el, listOf #[] n) :: (dl, listOf dvs dn) :: nw) →
      wpAny (model prog w) A (execs body env) (HPost h₀ L x stored m₀ el #[] dl dvs dn Sm nw ⟨h, gg, dr, tk, os⟩ Q) E ⟨h, gg, dr, tk, os⟩)
    (turn1 : ∀ (u : Str → Option Value) n p X Y t1 t2 h tk nw, (p, tupO X t1 Y t2) ∈ nw → Sm X → Sm Y → (∀ p ∈ nw, p.1 ≠ el) → (∀ p ∈ nw, p.1 ≠ dl) → (∀ p ∈ base, p ∈ nw) → Fr h₀ L h (fun y => if y = x then some (.int k2 q2) else if stored.contains y then u y else m₀ y) → News h₀ L h ((el, listOf #[.ref p] n) :: (dl, listOf dvs dn) :: nw) →
      wpAny (model prog w) A (execs body env) (HPost h₀ L x stored m₀ el #[.ref p] dl dvs dn Sm nw ⟨h, gg, dr, tk, os⟩ Q) E ⟨h, gg, dr, tk, os⟩)
    (done : ∀ (u : Str → Option Value) n p q X Y X' Y' t1 t2 t3 t4 h tk nw, (p, tupO X t1 Y t2) ∈ nw → (q, tupO X' t3 Y' t4) ∈ nw → Sm X → Sm Y → Sm X' → Sm Y' → (∀ p ∈ nw, p.1 ≠ el) → (∀ p ∈ nw, p.1 ≠ dl) → (∀ p ∈ base, p ∈ nw) →
      Fr h₀ L h (fun y => if y = x then u y else if stored.contains y then u y else m₀ y) → News h₀ L h ((el, listOf #[.ref p, .ref q] n) :: (dl, listOf dvs dn) :: nw) → Q .next ⟨h, gg, dr, tk, os⟩) :
    wpAny (model prog w) A (pyIter (.ref T)) (fun it s₂ => LoopAtV prog w A h₀ env x body Q E it s₂) E ⟨hp, gg, dr, tk₀, os⟩ :=
  loop_pair stored hL hh F N hT hel hdl hbe.2 hb hbe.1 hbd turn0 turn1 done
end
local macro_rules | `(tactic| k_all) => `(tactic| with_reducible assumption)
local macro_rules | `(tactic| k_mem) => `(tactic| with_reducible (first | assumption | ((repeat (first | exact List.mem_cons_self | refine List.mem_cons_of_mem _ ?_)); first | done | assumption | (refine (by assumption : ∀ p ∈ _, p ∈ _) _ ?_; first | assumption | ((repeat (first | exact List.mem_cons_self | refine List.mem_cons_of_mem _ ?_)); first | done | assumption | (refine (by assumption : ∀ p ∈ _, p ∈ _) _ ?_; first | assumption | ((repeat (first | exact List.mem_cons_self | refine List.mem_cons_of_mem _ ?_)); first | done | assumption | (refine (by assumption : ∀ p ∈ _, p ∈ _) _ ?_; first | assumption | ((repeat (first | exact List.mem_cons_self | refine List.mem_cons_of_mem _ ?_)); first | done | assumption | (refine (by assumption : ∀ p ∈ _, p ∈ _) _ ?_; first | assumption | ((repeat (first | exact List.mem_cons_self | refine List.mem_cons_of_mem _ ?_)); done)))))))))))
section
variable {w : World} {A : Around} {E : Value → Shared → Prop} {h₀ : Heap} {L p q : Addr} {news : List (Addr × Obj)} {Q : Value → Shared → Prop} {hp : Heap} {gg : Array GenState} {dr : Drawn} {t : Nat} {os : OsState} {x y x' y' : Int} {tx ty tx' ty' : Tok}
theorem ne1_K {l e : Addr} {n n' : Nat} (hu : A.units + 64 < cLine) (N : News h₀ L hp news) (hl : (l, listOf #[.ref p] n) ∈ news) (he : (e, listOf #[] n') ∈ news) (hp1 : (p, tupO x tx y ty) ∈ news)
    (h : Q (.bool true) ⟨hp, gg, dr, t, os⟩) : wpAny (model prog0 w) A (compareOp .NotEq (.ref l) (.ref e)) Q E ⟨hp, gg, dr, t, os⟩ := by
  refine SeqAt.compareNe_reads (s := ⟨hp, gg, dr, t, os⟩) (da := .list [.tuple [.int x, .int y]]) (db := .list []) (.list (N _ hl).1 rfl rfl (.cons (reads_t (N _ hp1).1) .nil)) (.list (N _ he).1 rfl rfl .nil) (by rfl) (by rfl) ?_ ?_
  · have : min (PyData.depth (.list [.tuple [.int x, .int y]])) (PyData.depth (.list [])) ≤ 64 := by simp [PyData.depth, PyData.depthAll]
    omega
  · exact h
theorem eqt_K (hu : A.units + 64 < cLine) (N : News h₀ L hp news) (hp1 : (p, tupO x tx y ty) ∈ news) (hq : (q, tupO x' tx' y' ty') ∈ news)
    (h : Q (.bool (decide (x = x' ∧ y = y'))) ⟨hp, gg, dr, t, os⟩) : wpAny (model prog0 w) A (compareOp .Eq (.ref p) (.ref q)) Q E ⟨hp, gg, dr, t, os⟩ := by
  refine SeqAt.compareEq_reads (s := ⟨hp, gg, dr, t, os⟩) (reads_t (N _ hp1).1) (reads_t (N _ hq).1) (by rfl) (by rfl) ?_ ?_
  · have : min (PyData.depth (.tuple [.int x, .int y])) (PyData.depth (.tuple [.int x', .int y'])) ≤ 64 := by simp [PyData.depth, PyData.depthAll]
    omega
  · rw [eqv_t]; exact h
end
section
variable {h₀ : Heap} {L : Addr} {x : Str} {stored : List Str} {m₀ m' : Str → Option Value} {el dl p d : Addr} {vs dvs : Array Value} {dn n2 n' BB : Nat} {V : Int → Prop} {nw full : List (Addr × Obj)} {s₁ : Shared} {Q : Flow → Shared → Prop} {h' hp : Heap} {gg : Array GenState} {dr : Drawn} {t tk : Nat} {os : OsState} {X Y X' Y' : Int} {t1 t2 t3 t4 : Tok} {r : Addr}
theorem h_end (F : Fr h₀ L h' m') (N : News h₀ L h' full) (hm : ∀ y, y ≠ x → stored.contains y = false → m' y = m₀ y) (hs : ∀ q ∈ nw, q ∈ full)
    (h1 : (el, listOf (vs.push (.ref p)) n2) ∈ full) (h2 : (dl, listOf dvs dn) ∈ full) (h3 : (p, tupO X t1 Y t2) ∈ full) (hX : V X) (hY : V Y) (hs₁ : s₁ = ⟨hp, gg, dr, t, os⟩) :
    HPost h₀ L x stored m₀ el vs dl dvs dn V nw s₁ Q .next ⟨h', gg, dr, tk, os⟩ := by
  subst hs₁
  exact ⟨h', tk, m', full, p, n2, X, Y, t1, t2, rfl, F, hm, N, hs, h1, h2, h3, hX, hY⟩
theorem g_end (F : Fr h₀ L h' m') (N : News h₀ L h' full) (hm : ∀ y, y ≠ x → stored.contains y = false → m' y = m₀ y) (hs : ∀ q ∈ nw, q ∈ full)
    (h1 : (dl, listOf (vs.push (.ref d)) n2) ∈ full) (hne : @Ne Nat d dl) (h2 : (d, listOf #[.ref p, .ref r] n') ∈ full) (h3 : (p, tupO X t1 Y t2) ∈ full) (h4 : (r, tupO X' t3 Y' t4) ∈ full) (z1 : Sz BB X) (z2 : Sz BB Y) (z3 : Sz BB X') (z4 : Sz BB Y') (hs₁ : s₁ = ⟨hp, gg, dr, t, os⟩) :
    GPost h₀ L x stored m₀ dl vs BB nw s₁ Q .next ⟨h', gg, dr, tk, os⟩ := by
  subst hs₁
  exact ⟨h', tk, m', full, d, p, r, n', n2, X, Y, X', Y', t1, t2, t3, t4, rfl, F, hm, N, hs, h1, hne, h2, h3, h4, z1, z2, z3, z4⟩
end
local macro_rules | `(tactic| k_same) => `(tactic| repeat' (first | with_reducible exact m_base | (with_reducible refine m_store (by decide +kernel) ?_) | (with_reducible refine m_loop (by decide +kernel) ?_) | (with_reducible refine m_loop2 (by decide +kernel) (by decide +kernel) ?_)))
section
variable {A₀ A : Around} {base h₀ : Heap} {outer : List Env} {L fa : Addr} {m mg mb : Str → Option Value} {s : Shared} {news : List (Addr × Obj)} {mean : ExcName → Option Value} {E : Value → Shared → Prop} {Q : Value → Shared → Prop}
    {qn : Str} {nm : List (Str × NameKind)} {mo : List (Str × Const)} {cd : Value} {w : World} {loose : List Str} {R : Result → Shared → Prop} {prog1 : Program} {hp : Heap} {gg : Array GenState} {dr : Drawn} {t : Nat} {os : OsState}
    {l : Addr} {vs : List Value} {ns : List Int} {BB : Nat}
theorem call_draw
    (B : Below A₀ base outer h₀) (F : Fr h₀ L s.heap m) (X : (hd.heap_1 w.params).In h₀) (N : News h₀ L s.heap news) (T : Top prog1 loose mean mg mb h₀)
    (hL : h₀.IsList l vs.toArray) (hI : IntsAre vs ns) (hz : ∀ n ∈ ns, Sz BB n) (hlen : vs.length ≤ 63)
    (h : ∀ h' tk l vs n nw, Dr nw l vs n (BB + 9) → (∀ p ∈ news, p ∈ nw) → Fr h₀ L h' m → News h₀ L h' nw → R (.ok (.ret (.ref l))) { s with heap := h', toks := tk }) :
    codeAny (model prog0 w) { handled := none, depth := 500, frames := some (envOf qn ⟨.function, nm, false, false, mo⟩ L fa cd :: outer), units := 300 } (.call (.ref 303) ⟨[.ref l], []⟩) R s := by
  k_with_none
  k_with "subscriptTail Name" => (k_here; (with_reducible show wpAny _ _ (subscriptTail _ (PySem.Expr.Name (PySem.Str.ofString "reading") _) (Value.ref _) (Value.int _ _)) _ _ _); k_dflt (refine menu4 (by k_asm) (by k_mem) (by exact fm4 _) (by k_mem) (by k_mem) (by k_mem) (by k_mem) ?_; k_whole; intro r' W' H' tW' tH' hr' hW' hH'))
  k_with "subscriptTail" => (k_here; (with_reducible show wpAny _ _ (subscriptTail _ (PySem.Expr.Name (PySem.Str.ofString "reading") _) (Value.ref _) (Value.int _ _)) _ _ _); k_dflt (refine menu4 (by k_asm) (by k_mem) (by exact fm4 _) (by k_mem) (by k_mem) (by k_mem) (by k_mem) ?_; k_whole; intro r' W' H' tW' tH' hr' hW' hH'))
  k_with "pyIter ref" => (k_here; (with_reducible show wpAny _ _ (pyIter (Value.ref _)) (fun it s₂ => LoopAtV _ _ _ _ _ _ _ _ _ it s₂) _ _); (rename Fr _ _ _ _ => lF); (rename News _ _ _ _ => lN); (rename IsRange _ _ _ _ 4 _ _ _ => lR); k_dflt ((refine loop_drawC [PySem.Str.ofString "ends", PySem.Str.ofString "k", PySem.Str.ofString "x", PySem.Str.ofString "y"] (by assumption) rfl (by assumption) (by exact rfl) rfl lR (cnt_if (cnt_ok _) (by decide)) lF lN (by k_mem) (by k_mem) (by k_mem) (by assumption) (by assumption) (by (intro p hp; repeat (first | exact hp | refine List.Mem.tail _ ?_))) (by omega) ?_ ?_); (clear lF lN lR); (intro i' I' t' u' vs' n' h' tk' nw' hi' hsz' hI' hap' hc1' hc2' hz' F' N'); rotate_left; (clear lF lN lR); (intro u' vs' n' h' tk' nw' D' hz' F' N'); rotate_left))
  k_with "binaryOp Mult int int" => (refine mul_int ?_ (by first | exact mul_l (by with_reducible assumption) | exact mul_r (by with_reducible assumption) (by with_reducible assumption) | exact mul_small (by omega) (by omega)))
  k_with "exec For Name Tuple cons nil" => (k_here; (rename Fr _ _ _ _ => lF); (with_unfolding_all refine For_invVF lF (by exact rfl) (by exact rfl) ?_; k_whole))
  k_with "compareOp Eq ref ref" => (k_here; k_dflt (refine eqt_K (Nat.le_of_ble_eq_true rfl) (by k_asm) (by k_mem) (by k_mem) ?_))
  k_with "compareOp NotEq ref ref" => (k_here; k_dflt (refine ne1_K (Nat.le_of_ble_eq_true rfl) (by k_asm) (by k_mem) (by k_mem) (by k_mem) ?_))
  k_with "call ref" => (k_here; (with_reducible show wpAny _ _ (call (Value.ref 298) [Value.ref _, Value.int _ _]) _ _ _); k_dflt (refine at_K (by exact rfl) (by exact Nat.le_of_ble_eq_true rfl) (by exact Nat.le_of_ble_eq_true rfl) (by exact rfl) (by k_asm) (by k_asm) (by k_asm) (by k_asm) (by k_asm) (by with_reducible assumption) (by with_reducible assumption) (by with_reducible assumption) (by with_reducible assumption) (by with_reducible assumption) (by omega) (by omega) ?_; k_whole; intro h' tk' z' t' hz' F' N'; (try k_sweep)))
  k_with "eval Call" => ((with_reducible show wpAny _ _ (eval (Expr.Call (Expr.Name _ _) _ [] _) _) _ _ _); k_dflt (refine Call_ ?_))
  k_with "SrcLP" => (k_here; (rename Fr _ _ _ _ => lF); (rename News _ _ _ _ => lN); k_dflt (refine src_shear (by with_reducible assumption) rfl rfl lF lN (by with_reducible assumption) (by (intro p hp; repeat (first | exact hp | refine List.mem_cons_of_mem _ ?_))) (by k_mem) (by k_mem) (by k_mem) (by k_mem) (by first | exact sn_of (by with_reducible assumption) | exact sn_1 (by with_reducible assumption)) (by first | exact sn_of (by with_reducible assumption) | exact sn_1 (by with_reducible assumption)) (by first | exact sn_of (by with_reducible assumption) | exact sn_1 (by with_reducible assumption)) (by first | exact sn_of (by with_reducible assumption) | exact sn_1 (by with_reducible assumption)) ?_ ?_); (clear lF lN); (intro i' ys' nx' a' b' ta' tb' I' oI' C' oC' D' m₂' h' tk' E' hsa' hsb' hJ' hz' hC' hx' hy' F' N' off' ne'; (try k_fold)); rotate_left; (clear lF lN); (intro h' tk' D' T' T2' X' Y' X2' Y2' t1' t2' t3' t4' n' nx' hT' hT2' z1' z2' z3' z4' hz' had' hne' F' N'; (try k_fold)); rotate_left)
  k_with "call builtin:list.append" => (k_here; (with_reducible show wpAny _ _ (call (Value.builtin "list.append") [Value.ref _, Value.ref _]) _ _ _); k_dflt (refine append_D (by k_asm) (by k_asm) (by with_reducible assumption) (by with_reducible assumption) (by with_reducible assumption) (by k_mem) (by k_mem) (by first | with_reducible assumption | exact Ne.symm (ap1 (by with_reducible assumption)).2) (by k_mem) (by k_mem) (by (intro p hp; repeat (first | exact hp | refine List.mem_cons_of_mem _ ?_))) ?_; intro h' nw2' hm' hne' hd' hp' hr' hz' F' N'; (try k_sweep)))
  k_enter
  repeat' (first
  | ((with_reducible show HPost _ _ _ _ _ _ _ _ _ _ _ _ _ _ _ _); refine h_end (by with_reducible assumption) (by with_reducible assumption) (by k_same) (by (intro p hp; repeat (first | exact hp | refine List.Mem.tail _ ?_))) (by k_mem) (by k_mem) (by k_mem) (by first | with_reducible assumption | exact sm_mod (by with_reducible assumption)) (by first | with_reducible assumption | exact sm_mod (by with_reducible assumption)) rfl)
  | (k_here; (with_reducible show wpAny _ _ (pyIter (Value.ref _)) (fun it s₂ => LoopAtV _ _ _ _ _ _ _ _ _ it s₂) _ _); (rename Fr _ _ _ _ => lF); (rename News _ _ _ _ => lN); k_dflt ((refine loop_pairA [PySem.Str.ofString "x", PySem.Str.ofString "y"] (by with_reducible assumption) (by with_reducible assumption) (by exact rfl) rfl lF lN (by with_reducible assumption) (by k_mem) (by k_mem) (by k_mem) (by exact ap1 (by with_reducible assumption)) (by (intro p hp; repeat (first | exact hp | refine List.Mem.tail _ ?_))) ?_ ?_ ?_); (clear lF lN); (intro u' n' h' tk' nw' ha' hd' hz' F' N'; (try k_fold)); rotate_left; (clear lF lN); (intro u' n' p' X' Y' t1' t2' h' tk' nw' hp' hx' hy' ha' hd' hz' F' N'; (try k_fold)); rotate_left; (clear lF lN); (intro u' n' p' q' X' Y' X2' Y2' t1' t2' t3' t4' h' tk' nw' hp' hq' hx' hy' hx2' hy2' ha' hd' hz' F' N'; (try k_fold)); rotate_left))
  | (k_here; (with_reducible show wpAny _ _ (pyIter (Value.ref _)) (fun it s₂ => LoopAtV _ _ _ _ _ _ _ _ _ it s₂) _ _); (rename Fr _ _ _ _ => lF); (rename News _ _ _ _ => lN); k_dflt ((refine loop_pairB [PySem.Str.ofString "x", PySem.Str.ofString "y"] (by with_reducible assumption) (by exact rfl) rfl lF lN (by with_reducible assumption) (by k_mem) (by k_mem) (by k_mem) (by exact ap1 (by with_reducible assumption)) (by (intro p hp; repeat (first | exact hp | refine List.Mem.tail _ ?_))) ?_ ?_ ?_); (clear lF lN); (intro u' n' h' tk' nw' ha' hd' hz' F' N'; (try k_fold)); rotate_left; (clear lF lN); (intro u' n' p' X' Y' t1' t2' h' tk' nw' hp' hx' hy' ha' hd' hz' F' N'; (try k_fold)); rotate_left; (clear lF lN); (intro u' n' p' q' X' Y' X2' Y2' t1' t2' t3' t4' h' tk' nw' hp' hq' hx' hy' hx2' hy2' ha' hd' hz' F' N'; (try k_fold)); rotate_left))
  | ((with_reducible show PyProof.Rows.LCg.CompEnd _ _ _ _ _ _ _ _ _ _ _ _ _ _); exact sh_end (by with_reducible assumption) rfl (by with_reducible assumption) (by with_reducible assumption) (by with_reducible assumption) (by with_reducible assumption) List.mem_cons_self (sh1 (by with_reducible assumption) (by with_reducible assumption)) (sh2 (by with_reducible assumption) (by with_reducible assumption)))
  | ((with_reducible show GPost _ _ _ _ _ _ _ _ _ _ _ _ _); refine g_end (by with_reducible assumption) (by with_reducible assumption) (by k_same) (by (intro p hp; k_mem)) (by k_mem) (by first | with_reducible assumption | exact Ne.symm (ap1 (by with_reducible assumption)).2) (by k_mem) (by k_mem) (by k_mem) (by first | with_reducible assumption | exact sz_up (by with_reducible assumption) | exact sz_up1 (by with_reducible assumption)) (by first | with_reducible assumption | exact sz_up (by with_reducible assumption) | exact sz_up1 (by with_reducible assumption)) (by first | with_reducible assumption | exact sz_up (by with_reducible assumption) | exact sz_up1 (by with_reducible assumption)) (by first | with_reducible assumption | exact sz_up (by with_reducible assumption) | exact sz_up1 (by with_reducible assumption)) rfl)
  | (k_unfold; (try dsimp only))
  | (walk1 <;> (try dsimp only))
  | (dsimp only; walk1)
  | (leave1; walk_say "STEP leave1"; try dsimp only))
  all_goals exact h _ _ _ _ _ _ (by with_reducible assumption) (by with_reducible assumption) (by with_reducible assumption) (by with_reducible assumption)
end
end Mine
end
section
open PySem PySem.W PySem.W.X PyProof.Rows PySem.Spec
set_option Elab.async false
set_option maxRecDepth 100000
set_option maxHeartbeats 0
namespace Mine
theorem bits_sz {B : Nat} {a : Int} (h : Builtin.Int.intBits a ≤ B) : Sz B a := by
  unfold Builtin.Int.intBits at h
  unfold Sz
  split at h
  · rename_i e
    have : a = 0 := by simpa using e
    subst this
    exact Nat.pow_pos (by decide)
  · rename_i e
    have h0 : a.natAbs ≠ 0 := by
      have : a ≠ 0 := by simpa using e
      omega
    exact (Nat.log2_lt h0).mp (by omega)
theorem script_sz {ns : List Int} (h : PyData.layable0 (.list (ns.map .int)) = true) : ∃ B0, 2 * (B0 + 9 + 1) ≤ 134217728 ∧ ∀ n ∈ ns, Sz B0 n :=
  ⟨2 ^ 20, by decide, fun _ hn => bits_sz (PyData.bits_item_of_ints h hn)⟩
section
variable {prog : Program} {w : World} {A : Around} {E : Value → Shared → Prop} {h₀ : Heap} {L : Addr} {m : Str → Option Value} {news : List (Addr × Obj)} {Q : Value → Shared → Prop} {hp : Heap} {gg : Array GenState} {dr : Drawn} {t : Nat} {os : OsState}
    {nx : List (Addr × Obj)} {ev ov : Array Value} {el ol b : Addr} {ne no M BB n2 : Nat} {xs yy : Nat → Int} {v1 v2 : Value}
theorem addE_K (S : Sc0 nx ev ov el ol ne no M xs yy BB) (F : Fr h₀ L hp m) (N : News h₀ L hp news) (hl : (el, listOf ev ne) ∈ news) (hb : (b, listOf #[v1, v2] n2) ∈ news)
    (h : ∀ h' D, Fr h₀ L h' m → News h₀ L h' ((D, listOf (ev.toList ++ #[v1, v2].toList).toArray 0) :: news) → Q (.ref D) ⟨h', gg, dr, t, os⟩) :
    wpAny (model prog w) A (binaryOp .Add (.ref el) (.ref b)) Q E ⟨hp, gg, dr, t, os⟩ :=
  add_K F N hl hb (by have := S.s1; have := S.small; show ev.size + 2 ≤ 1000; omega) h
theorem addO_K (S : Sc0 nx ev ov el ol ne no M xs yy BB) (F : Fr h₀ L hp m) (N : News h₀ L hp news) (hl : (ol, listOf ov no) ∈ news) (hb : (b, listOf #[v1, v2] n2) ∈ news)
    (h : ∀ h' D, Fr h₀ L h' m → News h₀ L h' ((D, listOf (ov.toList ++ #[v1, v2].toList).toArray 0) :: news) → Q (.ref D) ⟨h', gg, dr, t, os⟩) :
    wpAny (model prog w) A (binaryOp .Add (.ref ol) (.ref b)) Q E ⟨hp, gg, dr, t, os⟩ :=
  add_K F N hl hb (by have := S.s2; have := S.small; show ov.size + 2 ≤ 1000; omega) h
theorem lenO_K (S : Sc0 nx ev ov el ol ne no M xs yy BB) (N : News h₀ L hp news) (hl : (ol, listOf ov no) ∈ news)
    (h : ∀ t tk, Q (.int ((2 * M : Nat) : Int) t) ⟨hp, gg, dr, tk, os⟩) : wpAny (model prog0 w) A (call (.builtin "len") [.ref ol]) Q E ⟨hp, gg, dr, t, os⟩ :=
  len_l (s := ⟨hp, gg, dr, t, os⟩) N hl S.s2 (by have := S.small; omega) h
end
section
variable {w : World} {A : Around} {E : Value → Shared → Prop} {L : Addr} {h₀ : Heap} {m : Str → Option Value} {news K : List (Addr × Obj)} {Q : Value → Shared → Prop} {hp : Heap} {gg : Array GenState} {dr : Drawn} {t : Nat} {os : OsState} {p r l : Addr} {x y x' y' : Int} {tx ty tx' ty' : Tok} {n BB : Nat}
theorem maxl_S (hh : A.handled = none) (hdp : A.depth ≤ 800) (hu : A.units ≤ 500) (F : Fr h₀ L hp m) (X : (hd.heap_1 w.params).In h₀) (N : News h₀ L hp news) (hl1 : (l, listOf #[.ref p, .ref r] n) ∈ K) (hK : ∀ q ∈ K, q ∈ news) (hp1 : (p, tupO x tx y ty) ∈ K) (hr1 : (r, tupO x' tx' y' ty') ∈ K) (z1 : Sz BB x) (z2 : Sz BB y) (z3 : Sz BB x') (z4 : Sz BB y')
    (h : ∀ h' tk a X' Y' t1 t2, (a, tupO X' t1 Y' t2) ∈ K → Sz BB X' → Sz BB Y' → Fr h₀ L h' m → News h₀ L h' news → Q (.ref a) ⟨h', gg, dr, tk, os⟩) :
    wpAny (model prog0 w) A (call (.builtin "max") [.ref l]) Q E ⟨hp, gg, dr, t, os⟩ :=
  of_leafP hh hdp hu (leaf_maxl (s := ⟨hp, gg, dr, t, os⟩) (X.keeps F.keep) (N _ (hK _ hp1)).1 (N _ (hK _ hr1)).1 (N _ (hK _ hl1)).1) F N fun v h' tk hV F' N' => by
    rcases hV with ⟨rfl, e⟩ | ⟨rfl, e⟩
    · exact h h' tk _ _ _ _ _ hp1 z1 z2 F' N'
    · exact h h' tk _ _ _ _ _ hr1 z3 z4 F' N'
theorem minl_S (hh : A.handled = none) (hdp : A.depth ≤ 800) (hu : A.units ≤ 500) (F : Fr h₀ L hp m) (X : (hd.heap_1 w.params).In h₀) (N : News h₀ L hp news) (hl1 : (l, listOf #[.ref p, .ref r] n) ∈ K) (hK : ∀ q ∈ K, q ∈ news) (hp1 : (p, tupO x tx y ty) ∈ K) (hr1 : (r, tupO x' tx' y' ty') ∈ K) (z1 : Sz BB x) (z2 : Sz BB y) (z3 : Sz BB x') (z4 : Sz BB y')
    (h : ∀ h' tk a X' Y' t1 t2, (a, tupO X' t1 Y' t2) ∈ K → Sz BB X' → Sz BB Y' → Fr h₀ L h' m → News h₀ L h' news → Q (.ref a) ⟨h', gg, dr, tk, os⟩) :
    wpAny (model prog0 w) A (call (.builtin "min") [.ref l]) Q E ⟨hp, gg, dr, t, os⟩ :=
  of_leafP hh hdp hu (leaf_minl (s := ⟨hp, gg, dr, t, os⟩) (X.keeps F.keep) (N _ (hK _ hp1)).1 (N _ (hK _ hr1)).1 (N _ (hK _ hl1)).1) F N fun v h' tk hV F' N' => by
    rcases hV with ⟨rfl, e⟩ | ⟨rfl, e⟩
    · exact h h' tk _ _ _ _ _ hp1 z1 z2 F' N'
    · exact h h' tk _ _ _ _ _ hr1 z3 z4 F' N'
end
section
variable {prog : Program} {w : World} {A : Around} {E : Value → Shared → Prop} {env : Env} {h₀ : Heap} {body : List Stmt} {Q : Flow → Shared → Prop} {hp : Heap} {gg : Array GenState} {dr : Drawn} {t : Nat} {os : OsState}
theorem loop_drawn' {L l : Addr} {vs : Array Value} {nn BB : Nat} {m₀ : Str → Option Value} {news : List (Addr × Obj)} {el ol : Addr} {ne no : Nat}
    (hL : env.locals = L) (hh : A.handled = none) (D : Dr news l vs nn BB) (F : Fr h₀ L hp m₀) (N : News h₀ L hp news) (e1 : m₀ (PySem.Str.ofString "ends") = some (.ref el)) (e2 : m₀ (PySem.Str.ofString "opposites") = some (.ref ol)) (h1 : (el, listOf #[] ne) ∈ news) (h2 : (ol, listOf #[] no) ∈ news)
    (turn : ∀ (i : Nat) d p r n' x y x' y' tx ty tx' ty' ev ov el ol ne no xs yy (u : Option Value) nx h tk own nw, i < 5 → Dr nx l vs nn BB → Sc0 nx ev ov el ol ne no i xs yy BB → (d, listOf #[.ref p, .ref r] n') ∈ nx → (p, tupO x tx y ty) ∈ nx → (r, tupO x' tx' y' ty') ∈ nx → Sz BB x → Sz BB y → Sz BB x' → Sz BB y' →
      Fr h₀ L h (fun y => if y = PySem.Str.ofString "drawn" then some (.ref d) else if y = PySem.Str.ofString "ends" then some (.ref el) else if y = PySem.Str.ofString "opposites" then some (.ref ol) else m₀ y) → News h₀ L h nw → (∀ p ∈ own, p ∈ nw) → (∀ p ∈ nx, p ∈ nw) →
      wpAny (model prog w) A (execs body env) (DPost h₀ L l vs nn BB m₀ i own nx ⟨h, gg, dr, tk, os⟩ Q) E ⟨h, gg, dr, tk, os⟩)
    (done : ∀ M ev ov el ol ne no xs yy (u : Option Value) nx h tk, Sc0 nx ev ov el ol ne no M xs yy BB → Fr h₀ L h (fun y => if y = PySem.Str.ofString "drawn" then u else if y = PySem.Str.ofString "ends" then some (.ref el) else if y = PySem.Str.ofString "opposites" then some (.ref ol) else m₀ y) → News h₀ L h nx → Q .next ⟨h, gg, dr, tk, os⟩) :
    wpAny (model prog w) A (pyIter (.ref l)) (fun it s₂ => LoopAtV prog w A h₀ env (PySem.Str.ofString "drawn") body Q E it s₂) E ⟨hp, gg, dr, t, os⟩ := by
  subst hL
  exact loop_drawn hh D h1 h2 e1 e2 F N (fun i d p r n' x y x' y' tx ty tx' ty' ev ov el ol ne no xs yy u nx h tk own nw b1 b2 b3 b4 b5 b6 b7 b8 b9 b10 b11 b12 hs ho => turn i d p r n' x y x' y' tx ty tx' ty' ev ov el ol ne no xs yy u nx h tk own nw b1 b2 b3 b4 b5 b6 b7 b8 b9 b10 b11 b12 ho hs) done
end
end Mine
end
section
open PySem PySem.W PySem.W.X PyProof.Rows PySem.Spec
set_option Elab.async false
set_option maxRecDepth 100000
set_option maxHeartbeats 0
namespace Mine
section
variable {A₀ A : Around} {base h₀ : Heap} {outer : List Env} {L fa : Addr} {m mg mb : Str → Option Value} {news : List (Addr × Obj)} {mean : ExcName → Option Value} {E : Value → Shared → Prop} {Q : Value → Shared → Prop}
    {qn : Str} {nm : List (Str × NameKind)} {mo : List (Str × Const)} {cd : Value} {w : World} {loose : List Str} {prog1 : Program} {hp : Heap} {gg : Array GenState} {dr : Drawn} {t : Nat} {os : OsState}
    {l : Addr} {vs : List Value} {ns : List Int}
theorem draw_K
    (hh : A.handled = none) (hdp : A.depth ≤ 500) (hu : A.units ≤ 300) (hfr : A.frames = some (envOf qn ⟨.function, nm, false, false, mo⟩ L fa cd :: outer))
    (B : Below A₀ base outer h₀) (F : Fr h₀ L hp m) (X : (hd.heap_1 w.params).In h₀) (N : News h₀ L hp news) (T : Top prog1 loose mean mg mb h₀)
    (hL : h₀.IsList l vs.toArray) (hI : IntsAre vs ns) (hlay : PyData.layable0 (.list (ns.map .int)) = true) (hlen : vs.length ≤ 63)
    (h : ∀ h' tk l' vs' n nw BB, 2 * (BB + 1) ≤ 134217728 → Dr nw l' vs' n BB → (∀ p ∈ news, p ∈ nw) → Fr h₀ L h' m → News h₀ L h' nw → Q (.ref l') ⟨h', gg, dr, tk, os⟩) :
    wpAny (model prog0 w) A (call (.ref 303) [.ref l]) Q E ⟨hp, gg, dr, t, os⟩ := by
  obtain ⟨B0, hB, hz⟩ := script_sz hlay
  exact wpAny_call (code_lv (d := 500) (u := 300) hh hdp hu hfr (call_draw (s := ⟨hp, gg, dr, t, os⟩) B F X N T hL hI hz hlen fun h' tk l' vs' n nw D hs F' N' => h h' tk l' vs' n nw _ hB D hs F' N'))
end
end Mine
end
section
open PySem PySem.W PySem.W.X PyProof.Rows PySem.Spec
set_option Elab.async false
set_option maxRecDepth 100000
set_option maxHeartbeats 0
set_option rowWalk.seconds 0
open PyProof.Rows.LCg PyProof.Rows.LCp
namespace Mine
def afterDraw (m : Str → Option Value) (m' : Str → Option Value) (nw : List (Addr × Obj)) : Prop :=
  ∃ ev ov el ol ne no M xs ys BB u, Sc0 nw ev ov el ol ne no M xs ys BB ∧ 2 * (BB + 1) ≤ 134217728 ∧ m' = fun y => if y = PySem.Str.ofString "ends" then some (.ref el) else if y = PySem.Str.ofString "opposites" then some (.ref ol) else if y = PySem.Str.ofString "drawn" then u else m y
def afterPts (ev ov : Array Value) (el ol : Addr) (ne no M : Nat) (xs ys : Nat → Int) (BB : Nat) (m : Str → Option Value) (m' : Str → Option Value) (nw : List (Addr × Obj)) : Prop :=
  ∃ pv pl np, Sc nw ev ov pv el ol pl ne no np M xs ys BB ∧ m' = fun y => if y = PySem.Str.ofString "points" then some (.ref pl) else m y
def afterPtsOf {nw₀ : List (Addr × Obj)} {ev ov : Array Value} {el ol : Addr} {ne no M : Nat} {xs ys : Nat → Int} {BB : Nat} (_ : Sc0 nw₀ ev ov el ol ne no M xs ys BB) := afterPts ev ov el ol ne no M xs ys BB
local macro_rules | `(tactic| k_mem) => `(tactic| with_reducible (first | assumption | ((repeat (first | exact List.mem_cons_self | refine List.mem_cons_of_mem _ ?_)); first | done | assumption | exact Sc0.hel (by assumption) | exact Sc0.hol (by assumption) | exact Sc0.hel (Sc.base (by assumption)) | exact Sc0.hol (Sc.base (by assumption)) | exact Sc.hpl (by assumption) | (refine (by assumption : ∀ p ∈ _, p ∈ _) _ ?_; first | assumption | ((repeat (first | exact List.mem_cons_self | refine List.mem_cons_of_mem _ ?_)); first | done | assumption | exact Sc0.hel (by assumption) | exact Sc0.hol (by assumption) | exact Sc0.hel (Sc.base (by assumption)) | exact Sc0.hol (Sc.base (by assumption)) | exact Sc.hpl (by assumption) | (refine (by assumption : ∀ p ∈ _, p ∈ _) _ ?_; first | assumption | ((repeat (first | exact List.mem_cons_self | refine List.mem_cons_of_mem _ ?_)); first | done | assumption | exact Sc0.hel (by assumption) | exact Sc0.hol (by assumption) | exact Sc0.hel (Sc.base (by assumption)) | exact Sc0.hol (Sc.base (by assumption)) | exact Sc.hpl (by assumption))))))))
theorem rs3' {I : Int} {i : Nat} (h : I = 0 + (i : Int) * 2) : Builtin.Range.rangeSize 0 I 2 = (i : Int) := by
  unfold Builtin.Range.rangeSize; rw [if_pos (by decide)]; split <;> omega
def afterEv (m : Str → Option Value) (nw₀ : List (Addr × Obj)) (m' : Str → Option Value) (nw : List (Addr × Obj)) : Prop := nw = nw₀ ∧ ∃ u : Str → Option Value, m' = fun y => if y = PySem.Str.ofString "i" then u y else if [PySem.Str.ofString "j", PySem.Str.ofString "first", PySem.Str.ofString "second", PySem.Str.ofString "below", PySem.Str.ofString "above", PySem.Str.ofString "p", PySem.Str.ofString "q", PySem.Str.ofString "r", PySem.Str.ofString "s", PySem.Str.ofString "due"].contains y then u y else m y
local macro_rules | `(tactic| k_same) => `(tactic| repeat' (first | with_reducible exact m_base | (with_reducible refine m_store (by decide +kernel) ?_) | (with_reducible refine m_loop (by decide +kernel) ?_)))
-- The rows below take, in this namespace, the names under which the head of Mine.main would lay optional copies of its own constants.
-- The head goes on without them; with them the compiled file would be over the size lid. Nothing else speaks of these names.
def main.tw357486453476387696 : Nat := 0
def main.tw1581298492428261358 : Nat := 0
def main.tw6466546260392847867 : Nat := 0
def main.tw16058785470767179954 : Nat := 0
def main.tw16826212616301561204 : Nat := 0
def main.tw16758809965011540125 : Nat := 0
def main.tw14215583792959306523 : Nat := 0
def main.tw17618339736073139612 : Nat := 0
def main.tw11754280020882632543 : Nat := 0
def main.tw6482745251584875665 : Nat := 0
def main.tw2166218940473051197 : Nat := 0
def main.tw15371371512377873269 : Nat := 0
def main.tw14815775743399211126 : Nat := 0
def main.tw1020731659058499120 : Nat := 0
def main.tw6161133996638707016 : Nat := 0
def main.tw5871769198996169552 : Nat := 0
def main.tw1664562912124846029 : Nat := 0
def main.tw10982014176374687213 : Nat := 0
def main.tw1236483940969888574 : Nat := 0
def main.tw4475767826048309731 : Nat := 0
def main.tw9360745474812902239 : Nat := 0
def main.tw15984706205718930553 : Nat := 0
def main.tw12669497459151727238 : Nat := 0
def main.tw7308723440029596264 : Nat := 0
def main.tw1099256609624015869 : Nat := 0
def main.tw31828345220925962 : Nat := 0
def main.tw12431731261707249289 : Nat := 0
def main.tw5665735395497279834 : Nat := 0
def main.tw15734660467963936456 : Nat := 0
def main.tw10642606787283503386 : Nat := 0
def main.tw11957396940522966073 : Nat := 0
def main.tw3137596982192898869 : Nat := 0
def main.tw12623159325031504133 : Nat := 0
def main.tw8905464785575363620 : Nat := 0
def main.tw16629339528299215175 : Nat := 0
def main.tw4026956272090484662 : Nat := 0
def main.tw4839478117068044826 : Nat := 0
def main.tw14009396871252706886 : Nat := 0
def main.tw16778611742570070204 : Nat := 0
def main.tw3626430660855392483 : Nat := 0
def main.tw4775608329324902142 : Nat := 0
def main.tw14639212616227390028 : Nat := 0
def main.tw4681395471914393968 : Nat := 0
def main.tw15491723280356408159 : Nat := 0
def main.tw2852251193174398662 : Nat := 0
def main.tw15643365686152983790 : Nat := 0
def main.tw7411558596216406370 : Nat := 0
def main.tw1054321117371714560 : Nat := 0
def main.tw6334894449686545209 : Nat := 0
def main.tw10094358506670053839 : Nat := 0
def main.tw10707853282979444102 : Nat := 0
def main.tw15109750227778091905 : Nat := 0
def main.tw11135027115929721415 : Nat := 0
def main.tw17679725944135375923 : Nat := 0
def main.tw12590340796369385619 : Nat := 0
def main.tw3299218664060906527 : Nat := 0
def main.tw13962693860625380366 : Nat := 0
def main.tw8663697691656813868 : Nat := 0
def main.tw16798622893749714585 : Nat := 0
def main.tw11987853993630220354 : Nat := 0
def main.tw10609540516017602915 : Nat := 0
def main.tw6162249291895867263 : Nat := 0
def main.tw14161005256144132680 : Nat := 0
def main.tw2019394398466159022 : Nat := 0
def main.tw104360540948158410 : Nat := 0
def main.tw6741292078354696603 : Nat := 0
def main.tw16832360635688203351 : Nat := 0
def main.tw4039676971129161736 : Nat := 0
def main.tw7113585516715319716 : Nat := 0
def main.tw9155575984036265788 : Nat := 0
def main.tw11646826074482590764 : Nat := 0
def main.tw17118054049896295152 : Nat := 0
def main.tw15514936471743626214 : Nat := 0
def main.tw2406621943657119228 : Nat := 0
def main.tw16046730324260685337 : Nat := 0
def main.tw17223442867436993403 : Nat := 0
def main.tw9730157408454304684 : Nat := 0
def main.tw8930851030842425676 : Nat := 0
def main.tw3343439749351644125 : Nat := 0
def main.tw8207831470162742035 : Nat := 0
def main.tw1157997071576566072 : Nat := 0
def main.tw656089360051881306 : Nat := 0
def main.tw3934531018447913466 : Nat := 0
def main.tw14672674291997333471 : Nat := 0
def main.tw17201416709059790184 : Nat := 0
def main.tw11982392923317675503 : Nat := 0
def main.tw14771111431291430275 : Nat := 0
def main.tw6508729118710982530 : Nat := 0
def main.tw9190990891756207365 : Nat := 0
def main.tw17725498274588495791 : Nat := 0
def main.tw1777545030009416734 : Nat := 0
def main.tw13402765919934010277 : Nat := 0
def main.tw6877560268529008848 : Nat := 0
def main.tw14662554035588321541 : Nat := 0
def main.tw442704067885220732 : Nat := 0
def main.tw13355152605343272895 : Nat := 0
def main.tw11608591588782457225 : Nat := 0
def main.tw9557352009045844224 : Nat := 0
def main.tw10391951854915411234 : Nat := 0
def main.tw2190695567426971638 : Nat := 0
def main.tw15624239662980076321 : Nat := 0
def main.tw15737690656516749961 : Nat := 0
def main.tw12343854547171428336 : Nat := 0
local macro_rules | `(tactic| o_head (kHook ?$_ $as (fun _ => by kernel_rfl))) => `(tactic| o_head (kHook Mine.hd.heap_1 $as (fun _ => by kernel_rfl)))
set_option Elab.async true
theorem main : PySem.Challenge.rw_jj0006_01.Holds := by
  (w_on; o_law; x_head; (case hw => w_witness2))
  k_with_none
  k_with "exec For Name Call cons nil" => (k_here; (rename Fr _ _ _ _ => lF); k_dflt (refine For_invVF lF (by with_unfolding_all rfl) (by with_unfolding_all rfl) ?_))
  k_with "call builtin:len" => (k_here; (with_reducible show wpAny _ _ (call (Value.builtin "len") [Value.ref _]) _ _ _); (rename Sc _ _ _ _ _ _ _ _ _ _ _ _ _ _ => lS); (k_dflt (refine len_l (by k_asm) (by k_mem) lS.base.s1 (by have := lS.base.small; omega) ?_)); intro t' tk')
  k_with "call type:range" => (k_here; (with_reducible show wpAny _ _ (call _ [_]) _ _ _); (rename Fr _ _ _ _ => lF); (rename News _ _ _ _ => lN); k_dflt ((refine range1' lF lN ?_); clear lF lN; intro h' tk' r' t1' u1' v1' R' F' N'))
  k_with "call type:range" => (k_here; (with_reducible show wpAny _ _ (call _ [_, _, _]) _ _ _); (rename Fr _ _ _ _ => lF); (rename News _ _ _ _ => lN); k_dflt ((refine range3' lF lN ?_); clear lF lN; intro h' tk' r' t1' u1' v1' R' F' N'))
  k_with "pyIter ref" => (k_here; (with_reducible show wpAny _ _ (pyIter (Value.ref _)) (fun it s₂ => LoopAtV _ _ _ _ _ _ _ _ _ it s₂) _ _); (rename Fr _ _ _ _ => lF); (rename News _ _ _ _ => lN); (rename IsRange _ _ _ _ 1 _ _ _ => lR); (rename Sc _ _ _ _ _ _ _ _ _ _ _ _ _ _ => lS); (have lz := lS.base.small); k_dflt ((refine rng_sc [PySem.Str.ofString "j", PySem.Str.ofString "first", PySem.Str.ofString "second", PySem.Str.ofString "below", PySem.Str.ofString "above", PySem.Str.ofString "p", PySem.Str.ofString "q", PySem.Str.ofString "r", PySem.Str.ofString "s", PySem.Str.ofString "due"] rfl lR (small_ok (by omega) (by omega) (by omega)) (by first | exact rs1 | exact rs2 | exact rs3 (by omega)) lF lN lS ?_ ?_); (clear lS lF lN lR lz); intro i' I' t' u' h' tk' nw' hi' hI' hs' S' F' N'; obtain ⟨o', a', b', p', q', d', e', t1', t2', t3', t4', t5', t6', t7', t8', to', ho', f1', f2', f3', f4', f5', f6', f7', f8', f9', g1', g2', g3', g4', g5', g6', z1', z2', z3', z4'⟩ := Sc.get S' (k := i') (I := I') (by omega) (by omega); (try k_fold); rotate_left; (clear lS lF lN lR lz); intro u' h' tk' S' F' N'; (try k_fold); rotate_left))
  k_with "pyIter ref" => (k_here; (with_reducible show wpAny _ _ (pyIter (Value.ref _)) (fun it s₂ => LoopAtV _ _ _ _ _ _ _ _ _ it s₂) _ _); (rename Fr _ _ _ _ => lF); (rename News _ _ _ _ => lN); (rename IsRange _ _ _ _ 2 _ _ _ => lR); (rename Sc _ _ _ _ _ _ _ _ _ _ _ _ _ _ => lS); (have lz := lS.base.small); k_dflt ((refine rng_sw [PySem.Str.ofString "j", PySem.Str.ofString "first", PySem.Str.ofString "second", PySem.Str.ofString "below", PySem.Str.ofString "above", PySem.Str.ofString "p", PySem.Str.ofString "q", PySem.Str.ofString "r", PySem.Str.ofString "s", PySem.Str.ofString "due"] rfl lR (small_ok (by omega) (by omega) (by omega)) (by first | exact rs2 | exact rs3' (by assumption)) lF lN (lS.mono (by (intro p hp; repeat (first | exact hp | refine List.Mem.tail _ ?_)))) (by first | assumption | exact List.Mem.head _) ?_ ?_); (clear lS lF lN lR lz); intro i' I' t' u' h' tk' nw' hi' hI' hs' S' hq' F' N'; obtain ⟨a', b', p', q', d', e', t1', t2', t3', t4', t5', t6', t7', t8', to', f1', f2', f3', f4', f5', f6', f7', f8', f9', g1', g2', g3', g4', g5', g6', z1', z2', z3', z4'⟩ := Sc.get2 S' (i := i') (I := I') (by omega) (by assumption); (try k_fold); rotate_left; (clear lS lF lN lR lz); intro u' h' tk' S' hq' F' N'; (try k_fold); rotate_left))
  k_with "subscriptTail Name" => (k_here; (with_reducible show wpAny _ _ (subscriptTail _ _ (Value.ref _) (Value.int _ _)) _ _ _); k_dflt (refine item_l (by k_asm) (by k_mem) (by (first | with_reducible assumption | assumption)) (by (first | with_reducible assumption | assumption)) (by (first | with_reducible assumption | assumption)) ?_))
  k_with "subscriptTail" => (k_here; (with_reducible show wpAny _ _ (subscriptTail _ _ (Value.ref _) (Value.int _ _)) _ _ _); k_dflt (refine item_l (by k_asm) (by k_mem) (by (first | with_reducible assumption | assumption)) (by (first | with_reducible assumption | assumption)) (by (first | with_reducible assumption | assumption)) ?_))
  k_with "compareOp Lt ref ref" => (k_here; k_dflt (refine tri_K (Nat.le_of_ble_eq_true rfl) (by k_asm) (by k_mem) (by k_mem) (by k_mem) (by k_mem) (by k_mem) (by k_mem) ?_; intro b' e'))
  k_with "compareOp Lt ref ref" => (k_here; k_dflt (refine evq_K (by exact rfl) (by exact Nat.le_of_ble_eq_true rfl) (by exact Nat.le_of_ble_eq_true rfl) (by exact rfl) (by k_asm) (by k_asm) (by k_asm) (by k_asm) (by k_asm) (by k_mem) (by k_mem) (by k_mem) (by k_mem) (by k_mem) (by k_mem) (by (first | with_reducible assumption | assumption)) (by (first | with_reducible assumption | assumption)) (by (first | with_reducible assumption | assumption)) (by (first | with_reducible assumption | assumption)) (by (first | with_reducible assumption | assumption)) (by (first | with_reducible assumption | assumption)) (by (first | with_reducible assumption | assumption)) (by (first | with_reducible assumption | assumption)) (by (first | with_reducible assumption | assumption)) (by (first | with_reducible assumption | assumption)) (by (first | with_reducible assumption | assumption)) (by (first | with_reducible assumption | assumption)) (by (first | with_reducible assumption | assumption)) (by (first | with_reducible assumption | assumption)) (by k_mem) (by k_mem) (by k_mem) (by k_mem) (by k_mem) (by k_mem) (by k_mem) (by k_mem) ?_; k_whole; intro h' tk' b' e' F' N'; (try k_sweep)))
  k_with "call builtin:max" => (k_here; (with_reducible show wpAny _ _ (call (Value.builtin "max") [Value.ref _, Value.ref _]) _ _ _); k_dflt (refine max_K (by exact rfl) (by exact Nat.le_of_ble_eq_true rfl) (by exact Nat.le_of_ble_eq_true rfl) (by k_asm) (by k_asm) (by k_asm) (by k_mem) (by k_mem) ?_; k_whole; intro h' tk' a' X' Y' t1' t2' hm' hM' F' N'; (try k_sweep)))
  k_with "call builtin:min" => (k_here; (with_reducible show wpAny _ _ (call (Value.builtin "min") [Value.ref _, Value.ref _]) _ _ _); k_dflt (refine min_K (by exact rfl) (by exact Nat.le_of_ble_eq_true rfl) (by exact Nat.le_of_ble_eq_true rfl) (by k_asm) (by k_asm) (by k_asm) (by k_mem) (by k_mem) ?_; k_whole; intro h' tk' a' X' Y' t1' t2' hm' hM' F' N'; (try k_sweep)))
  k_with "compareOp Lt ref ref" => (k_here; k_dflt (refine lt_K (Nat.le_of_ble_eq_true rfl) (by k_asm) (by k_mem) (by k_mem) ?_))
  k_with "compareOp LtE ref ref" => (k_here; k_dflt (refine le_K (Nat.le_of_ble_eq_true rfl) (by k_asm) (by k_mem) (by k_mem) ?_))
  k_with "compareOp Eq ref ref" => (k_here; k_dflt (refine duo_K (Nat.le_of_ble_eq_true rfl) (by k_asm) (by k_mem) (by k_mem) (by k_mem) (by k_mem) (by k_mem) (by k_mem) ?_))
  k_with "compareOp Lt ref ref" => (k_here; k_dflt (refine slk_K (by exact rfl) (by exact Nat.le_of_ble_eq_true rfl) (by exact Nat.le_of_ble_eq_true rfl) (by exact rfl) (by k_asm) (by k_asm) (by k_asm) (by k_asm) (by k_asm) (by k_mem) (by k_mem) (by k_mem) (by k_mem) (by k_mem) (by k_mem) (by k_mem) (by (first | with_reducible assumption | assumption)) (by (first | with_reducible assumption | assumption)) (by (first | with_reducible assumption | assumption)) (by (first | with_reducible assumption | assumption)) (by (first | with_reducible assumption | assumption)) (by (first | with_reducible assumption | assumption)) (by (first | with_reducible assumption | assumption)) (by (first | with_reducible assumption | assumption)) (by (first | with_reducible assumption | assumption)) (by (first | with_reducible assumption | assumption)) (by (first | with_reducible assumption | assumption)) (by (first | with_reducible assumption | assumption)) (by (first | with_reducible assumption | assumption)) (by (first | with_reducible assumption | assumption)) (by k_mem) (by k_mem) (by k_mem) (by k_mem) (by k_mem) (by k_mem) (by k_mem) (by k_mem) (by (first | with_reducible assumption | assumption)) (by (first | with_reducible assumption | assumption)) (by (first | with_reducible assumption | assumption)) (by (first | with_reducible assumption | assumption)) (by (first | with_reducible assumption | assumption)) (by (first | with_reducible assumption | assumption)) (by (first | with_reducible assumption | assumption)) (by (first | with_reducible assumption | assumption)) (by (first | with_reducible assumption | assumption)) ?_; k_whole; intro h' tk' b' e' F' N'; (try k_sweep)))
  k_with "call ref" => (k_here; (with_reducible show wpAny _ _ (call (Value.ref _) [Value.ref _, Value.ref _, Value.ref _, Value.ref _]) _ _ _); k_dflt (refine higher_K (by exact rfl) (by exact Nat.le_of_ble_eq_true rfl) (by exact Nat.le_of_ble_eq_true rfl) (by exact rfl) (by k_asm) (by k_asm) (by k_asm) (by k_asm) (by k_asm) (by k_mem) (by k_mem) (by k_mem) (by k_mem) (by (first | with_reducible assumption | assumption)) (by (first | with_reducible assumption | assumption)) (by (first | with_reducible assumption | assumption)) (by (first | with_reducible assumption | assumption)) (by (first | with_reducible assumption | assumption)) (by (first | with_reducible assumption | assumption)) (by (first | with_reducible assumption | assumption)) (by (first | with_reducible assumption | assumption)) (by (first | with_reducible assumption | assumption)) ?_; k_whole; intro h' tk' z' t' e' F' N'; (try k_sweep)))
  k_with "call ref" => (k_here; (with_reducible show wpAny _ _ (call (Value.ref 132) [Value.int _ _, Value.int _ _]) _ _ _); k_dflt (refine point_K rfl (Nat.le_of_ble_eq_true rfl) (Nat.le_of_ble_eq_true rfl) (by k_asm) (by k_asm) (by k_asm) ?_; intro h' tk' p' d' F' N' ne3'; (try k_sweep)))
  k_with "SrcLP" => (k_here; (rename Fr _ _ _ _ => lF); (rename News _ _ _ _ => lN); (rename Sc0 _ _ _ _ _ _ _ _ _ _ _ => lS); k_dflt (refine src_pts rfl lF lN lS ?_ ?_); (clear lF lN); rotate_left; ((clear lS); intro h' tk' pv' pl' np' nw' S' F' N'; (try k_fold)); rotate_left; (intro i' ys' nx' a' b' ta' tb' I' oI' C' oC' D' m₂' h' tk' E' ha' hb' J' hC' hx' hy' F' N' off' ne'; subst ha'; subst hb'; (try k_fold)))
  k_with "call ref" => (k_here; (with_reducible show wpAny _ _ (call (Value.ref 303) [Value.ref _]) _ _ _); k_dflt (refine draw_K rfl (Nat.le_of_ble_eq_true rfl) (Nat.le_of_ble_eq_true rfl) rfl (by k_asm) (by k_asm) (by k_asm) (by k_asm) (by k_asm) (by k_asm) (by k_asm) (by k_asm) (by (have hx := IntsAre.length (by assumption)); omega) ?_; intro h' tk' l' vs' n' nw' BB' hB' D' hs' F' N'; (try k_sweep)))
  k_with "pyIter ref" => (k_here; (with_reducible show wpAny _ _ (pyIter (Value.ref _)) (fun it s₂ => LoopAtV _ _ _ _ _ _ _ _ _ it s₂) _ _); (rename Fr _ _ _ _ => lF); (rename News _ _ _ _ => lN); (rename Dr _ _ _ _ _ => lD); k_dflt (refine loop_drawn' (by rfl) rfl lD lF lN (by rfl) (by rfl) (by k_mem) (by k_mem) ?_ ?_); (clear lF lN lD); (intro i' d' p' r' n' x' y' x2' y2' tx' ty' tx2' ty2' ev' ov' el' ol' ne' no' xs' ys' u' nx' h' tk' own' nw' hi' D' S0' hd' hp' hr' z1' z2' z3' z4' F' N' ho' hs'; (try k_fold)); rotate_left; (clear lF lN lD); (intro M' ev' ov' el' ol' ne' no' xs' ys' u' nx' h' tk' S0' F' N'; (try k_fold)); rotate_left)
  k_with "call builtin:max" => (k_here; (with_reducible show wpAny _ _ (call (Value.builtin "max") [Value.ref _]) _ _ _); k_dflt (refine maxl_S rfl (Nat.le_of_ble_eq_true rfl) (Nat.le_of_ble_eq_true rfl) (by k_asm) (by k_asm) (by k_asm) (by with_reducible assumption) (by with_reducible assumption) (by with_reducible assumption) (by with_reducible assumption) (by with_reducible assumption) (by with_reducible assumption) (by with_reducible assumption) (by with_reducible assumption) ?_; intro h' tk' a' X' Y' t1' t2' ha' hx' hy' F' N'; (try k_sweep)))
  k_with "call builtin:min" => (k_here; (with_reducible show wpAny _ _ (call (Value.builtin "min") [Value.ref _]) _ _ _); k_dflt (refine minl_S rfl (Nat.le_of_ble_eq_true rfl) (Nat.le_of_ble_eq_true rfl) (by k_asm) (by k_asm) (by k_asm) (by with_reducible assumption) (by with_reducible assumption) (by with_reducible assumption) (by with_reducible assumption) (by with_reducible assumption) (by with_reducible assumption) (by with_reducible assumption) (by with_reducible assumption) ?_; intro h' tk' a' X' Y' t1' t2' ha' hx' hy' F' N'; (try k_sweep)))
  k_with "binaryOp Add ref ref" => (k_here; k_dflt ((first | refine addE_K (by with_reducible assumption) (by k_asm) (by k_asm) (by k_mem) (by k_mem) ?_ | refine addO_K (by with_reducible assumption) (by k_asm) (by k_asm) (by k_mem) (by k_mem) ?_); intro h' D' F' N'; (try k_sweep)))
  k_with "call builtin:len" => (k_here; (with_reducible show wpAny _ _ (call (Value.builtin "len") [Value.ref _]) _ _ _); (k_dflt (refine lenO_K (by with_reducible assumption) (by k_asm) (by k_mem) ?_)); intro t' tk')
  w_strict (k_go0; (all_goals try k_fold); (repeat' (first
  | ((with_reducible show RngPost _ _ _ _ _ _ _ _ _ _); show PySem.W.TurnEnd _ _ _ _ _ _ _ _; refine PySem.W.TurnEnd.intro (by first | with_reducible assumption | assumption) (by first | with_reducible assumption | assumption) (by (intro p hp; repeat (first | exact hp | refine List.Mem.tail _ ?_))) (by k_same))
  | ((with_reducible show wpAny _ _ (exec (Stmt.Return (some (Expr.Constant (Const.bool false) _ _)) _) _) _ _ _); exfalso; first | (exact ev_abs (by with_reducible assumption) (by with_reducible assumption) (by with_reducible assumption)) | (exact dA (due1 (by with_reducible assumption) (by with_reducible assumption) (by with_reducible assumption) (by with_reducible assumption) (by with_reducible assumption) (by with_reducible assumption) (by with_reducible assumption)) (by with_reducible assumption) (by with_reducible assumption)) | (exact dB (due1 (by with_reducible assumption) (by with_reducible assumption) (by with_reducible assumption) (by with_reducible assumption) (by with_reducible assumption) (by with_reducible assumption) (by with_reducible assumption)) (by with_reducible assumption) (by with_reducible assumption)) | (exact dC (due1 (by with_reducible assumption) (by with_reducible assumption) (by with_reducible assumption) (by with_reducible assumption) (by with_reducible assumption) (by with_reducible assumption) (by with_reducible assumption)) (by with_reducible assumption) (by with_reducible assumption) (by with_reducible assumption)) | (exact dD (due1 (by with_reducible assumption) (by with_reducible assumption) (by with_reducible assumption) (by with_reducible assumption) (by with_reducible assumption) (by with_reducible assumption) (by with_reducible assumption)) (by with_reducible assumption) (by with_reducible assumption) (by with_reducible assumption)) | (exact dE (due1 (by with_reducible assumption) (by with_reducible assumption) (by with_reducible assumption) (by with_reducible assumption) (by with_reducible assumption) (by with_reducible assumption) (by with_reducible assumption)) (by with_reducible assumption) (by with_reducible assumption) (by with_reducible assumption)) | (exact dA (due2 (by with_reducible assumption) (by with_reducible assumption) (by with_reducible assumption) (by with_reducible assumption) (by with_reducible assumption) (by with_reducible assumption) (by with_reducible assumption)) (by with_reducible assumption) (by with_reducible assumption)) | (exact dB (due2 (by with_reducible assumption) (by with_reducible assumption) (by with_reducible assumption) (by with_reducible assumption) (by with_reducible assumption) (by with_reducible assumption) (by with_reducible assumption)) (by with_reducible assumption) (by with_reducible assumption)) | (exact dC (due2 (by with_reducible assumption) (by with_reducible assumption) (by with_reducible assumption) (by with_reducible assumption) (by with_reducible assumption) (by with_reducible assumption) (by with_reducible assumption)) (by with_reducible assumption) (by with_reducible assumption) (by with_reducible assumption)) | (exact dD (due2 (by with_reducible assumption) (by with_reducible assumption) (by with_reducible assumption) (by with_reducible assumption) (by with_reducible assumption) (by with_reducible assumption) (by with_reducible assumption)) (by with_reducible assumption) (by with_reducible assumption) (by with_reducible assumption)) | (exact dE (due2 (by with_reducible assumption) (by with_reducible assumption) (by with_reducible assumption) (by with_reducible assumption) (by with_reducible assumption) (by with_reducible assumption) (by with_reducible assumption)) (by with_reducible assumption) (by with_reducible assumption) (by with_reducible assumption)))
  | ((with_reducible show PyProof.Rows.LCg.CompEnd _ _ _ _ _ _ _ _ _ _ _ _ _ _); exact pts_end (by with_reducible assumption) rfl (by with_reducible assumption) (by with_reducible assumption) (by with_reducible assumption) (by with_reducible assumption))
  | ((with_reducible show DPost _ _ _ _ _ _ _ _ _ _ _ _ _ _); exact d_end (by with_reducible assumption) (by with_reducible assumption) (by with_reducible assumption) rfl (by with_reducible assumption) rfl (by with_reducible assumption) (by (intro p hp; repeat (first | exact (by with_reducible assumption : ∀ p ∈ _, p ∈ _) p hp | refine List.mem_cons_of_mem _ ?_))) (by (intro p hp; repeat (first | exact (by with_reducible assumption : ∀ p ∈ _, p ∈ _) p hp | refine List.mem_cons_of_mem _ ?_))) (by k_mem) (by k_mem) rfl rfl (by with_reducible assumption) (by with_reducible assumption) (by with_reducible assumption) (by with_reducible assumption) (by with_reducible assumption) (by with_reducible assumption))
  | (k_unfold; (try dsimp only))
  | ((with_reducible show GoodW _ _ _ _ _ _ _); w_end; (show GoodW _ _ _ _ _ (.ok (.ret (.bool _))) _); refine goodW_bool (by assumption) (by assumption) (raisesW_false ?_) ?_; (· wrow_none_raised); (· wrow_post))
  | (walk1 <;> (try dsimp only))
  | (dsimp only; walk1)
  | (leave1; walk_say "STEP leave1"; try dsimp only))))
end Mine
end
theorem PySem.Challenge.cw_jj0006_01_holds : PySem.Challenge.rw_jj0006_01.Holds :=
  Mine.main
