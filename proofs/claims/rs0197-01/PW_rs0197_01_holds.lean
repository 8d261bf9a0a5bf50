import PyProof.Rows.All
import Wide.All
import OpenK.AllK
import Wide.FinOn
import Lean
import PySem.Challenge.RW_rs0197_01
open PySem PySem.W PyProof.Rows
set_option Elab.async false
set_option maxRecDepth 100000
set_option maxHeartbeats 20000000
set_option linter.unusedVariables false
namespace Mine
section
local macro_rules | `({ scope := $a, locals := $b, globals := $c, $fs,* }) => Lean.Macro.throwError "no pieces are wanted"
open_top hd for PySem.Challenge.rw_rs0197_01
end


noncomputable def Con (w : World) (f : Addr) (vs : List Value) (dep un : Nat) (Pre : List (Addr × Obj) → Prop) (Post : List (Addr × Obj) → Value → Prop) : Prop :=
  ∀ (p : Program) (loose : List PySem.Str) (mean : ExcName → Option Value) (mg mb : PySem.Str → Option Value)
    (dp un0 : Nat) (gd : Option (List Code)) (cn : PySem.Str) (cs : Scope) (a : Addr) (ccd : Value) (cl : List (PySem.Str × Addr)) (outer : List Env) (A₀ : Around) (base h₀ : Heap) (L : Addr) (m : PySem.Str → Option Value)
    (news : List (Addr × Obj)) (s : Shared) (Q E : Value → Shared → Prop),
    Below A₀ base outer h₀ → Fr h₀ L s.heap m → (hd.heap_39 w.params).In h₀ → News h₀ L s.heap news → Top p loose mean mg mb h₀ → cs.kind = .function →
    Pre news → dp + dep < recursionLimit → un0 + un < cLine →
    (∀ r tl h' tk', Fr h₀ L h' m → News h₀ L h' (tl ++ news) → OwnOff tl (news.map (·.1)) → Post tl r → Q r { s with heap := h', toks := tk' }) →
    wpAny (model PySem.Challenge.rw_rs0197_01.row.prog w) (ktrTop dp un0 gd cn cs L a ccd cl outer) (call (.ref f) vs) Q E s

theorem con_use {w : World} {f : Addr} {vs : List Value} {dep un : Nat} {Pre : List (Addr × Obj) → Prop} {Post : List (Addr × Obj) → Value → Prop} (C : Con w f vs dep un Pre Post)
    {p : Program} {loose : List PySem.Str} {mean : ExcName → Option Value} {mg mb : PySem.Str → Option Value}
    {dp un0 : Nat} {gd : Option (List Code)} {cn : PySem.Str} {cs : Scope} {a : Addr} {ccd : Value} {cl : List (PySem.Str × Addr)} {outer : List Env} {A₀ : Around} {base h₀ : Heap} {L : Addr} {m : PySem.Str → Option Value}
    {news : List (Addr × Obj)} {s : Shared} {Q E : Value → Shared → Prop}
    (B : Below A₀ base outer h₀) (F : Fr h₀ L s.heap m) (X : (hd.heap_39 w.params).In h₀) (N : News h₀ L s.heap news) (T : Top p loose mean mg mb h₀) (hk : cs.kind = .function)
    (hp : Pre news) (hd : dp + dep < recursionLimit) (hu : un0 + un < cLine)
    (ret : ∀ r tl h' tk', Fr h₀ L h' m → News h₀ L h' (tl ++ news) → OwnOff tl (news.map (·.1)) → Post tl r → Q r { s with heap := h', toks := tk' }) :
    wpAny (model PySem.Challenge.rw_rs0197_01.row.prog w) (ktrTop dp un0 gd cn cs L a ccd cl outer) (call (.ref f) vs) Q E s :=
  C p loose mean mg mb dp un0 gd cn cs a ccd cl outer A₀ base h₀ L m news s Q E B F X N T hk hp hd hu ret
noncomputable def RetS (y : PySem.Str) (tl : List (Addr × Obj)) (r : Value) : Prop := tl = [] ∧ ∃ t, r = .str y t
noncomputable def RetI (n : Int) (tl : List (Addr × Obj)) (r : Value) : Prop := tl = [] ∧ ∃ t, r = .int n t
noncomputable def RetB (b : Bool) (tl : List (Addr × Obj)) (r : Value) : Prop := tl = [] ∧ r = .bool b
theorem RetS.mk {x y : PySem.Str} {t : Tok} (e : x = y) : RetS y [] (.str x t) := ⟨rfl, t, by rw [e]⟩
theorem RetI.mk {x y : Int} {t : Tok} (e : x = y) : RetI y [] (.int x t) := ⟨rfl, t, by rw [e]⟩
theorem RetB.mk {x y : Bool} (e : x = y) : RetB y [] (.bool x) := ⟨rfl, by rw [e]⟩
theorem offC {news : List (Addr × Obj)} {L : Nat} (h : ∀ p ∈ news, p.1 < L) : OwnOff news [L, L + 1, L + 1 + 1, L + 1 + 1 + 1, L + 1 + 1 + 1 + 1, L + 1 + 1 + 1 + 1 + 1, L + 1 + 1 + 1 + 1 + 1 + 1, L + 1 + 1 + 1 + 1 + 1 + 1 + 1, L + 1 + 1 + 1 + 1 + 1 + 1 + 1 + 1, L + 1 + 1 + 1 + 1 + 1 + 1 + 1 + 1 + 1] := by
  have big : ∀ b ∈ (List.range 10).map (L + ·), L ≤ b := by
    intro b hb
    obtain ⟨k, _, rfl⟩ := List.mem_map.mp hb
    exact Nat.le_add_right _ _
  intro p hp b hb e
  exact absurd (Nat.lt_of_lt_of_le (h p hp) (big b hb)) (e ▸ Nat.lt_irrefl _)
theorem datInts {tl : List (Addr × Obj)} {vs : List Value} {ns : List Int} (h : IntsAre vs ns) : DatAll tl vs (ns.map Dat.int) := by
  induction h with
  | nil => exact .nil
  | cons n t _ ih => exact .cons (.int n t) ih
theorem newTuple_O {M : Model} {A : Around} {E : Value → Shared → Prop} {s : Shared} {h₀ : Heap} {L : Addr} {m : PySem.Str → Option Value} {news : List (Addr × Obj)} {vs : List Value} {Q : Value → Shared → Prop} (F : Fr h₀ L s.heap m) (N : News h₀ L s.heap news) (hz : vs.length ≤ 100)
    (h : ∀ a h', Fr h₀ L h' m → News h₀ L h' ((a, ({ cls := .type "tuple", data := .seq vs.toArray } : Obj)) :: news) → (∀ p ∈ news, p.1 < a) → Q (.ref a) { s with heap := h' }) : wpAny M A (newTuple vs) Q E s :=
  newTuple_N F N (fun h' F' N' => h _ h' F' N' fun p hp => Heap.lt_size (N p hp).1) (by rw [sizeLine_eq]; omega)
theorem allLt_out {d : Addr} : ∀ {l : List (Addr × Obj)}, AllLt d l → ∀ p ∈ l, p.1 < d
  | [], _, _, h => nomatch h
  | q :: r, x, p, h => by
    rcases List.mem_cons.mp h with rfl | h
    · exact x.1
    · exact allLt_out x.2 p h
theorem off1_out {d : Addr} {l : List (Addr × Obj)} (x : PyProof.Rows.LCg.Off1 d l) : ∀ p ∈ l, p.1 ≠ d := by
  induction l with
  | nil => intro p h; cases h
  | cons q r ih =>
    intro p h
    rcases List.mem_cons.mp h with rfl | h
    · exact x.1
    · exact ih x.2 p h
/-- one object more lies apart -/
theorem own_cons {a : Addr} {o : Obj} {tl : List (Addr × Obj)} {news : List (Addr × Obj)} (h : ∀ p ∈ news, p.1 ≠ a) (r : OwnOff tl (news.map (·.1))) : OwnOff ((a, o) :: tl) (news.map (·.1)) := by
  intro p hp b hb
  rcases List.mem_cons.mp hp with rfl | hp
  · obtain ⟨q, hq, rfl⟩ := List.mem_map.mp hb
    exact (h q hq).symm
  · exact r p hp b hb
theorem own_nil {news : List (Addr × Obj)} : OwnOff [] (news.map (·.1)) := fun _ h => nomatch h
theorem ne_lt {a : Addr} {news : List (Addr × Obj)} (h : ∀ p ∈ news, p.1 < a) : ∀ p ∈ news, p.1 ≠ a := fun p hp => Nat.ne_of_lt (h p hp)
theorem ne_lt' {a : Addr} {news : List (Addr × Obj)} (h : AllLt a news) : ∀ p ∈ news, p.1 ≠ a := ne_lt (allLt_out h)
theorem OwnOff.app {tl tl' : List (Addr × Obj)} {l : List Addr} (h : OwnOff tl l) (h' : OwnOff tl' l) : OwnOff (tl ++ tl') l := fun p hp => (List.mem_append.mp hp).elim (h p) (h' p)
theorem int_at {a b : Int} {t : Tok} (e : a = b) : ∃ t', Value.int a t = Value.int b t' := ⟨t, by rw [e]⟩
theorem str_at {a b : PySem.Str} {t : Tok} (e : a = b) : ∃ t', Value.str a t = Value.str b t' := ⟨t, by rw [e]⟩
/-- a list of ints comes back, made by the call -/
noncomputable def RetL (ns : List Int) (tl : List (Addr × Obj)) (r : Value) : Prop := ∃ a vs c, r = .ref a ∧ tl = [(a, listOf vs.toArray c)] ∧ IntsAre vs ns

/-- a remark in the context: a line of the walk asks for it -/
noncomputable def Mark (n : Nat) : Prop := n = n
theorem shS {a x : Nat} (h : a < x) : a < x + 1 := Nat.lt_succ_of_lt h
theorem sh0 {x : Nat} : x < x + 1 := Nat.lt_succ_self x
theorem shN {x : Nat} (h : 181 < x) : 149 < x := Nat.lt_trans (by decide) h
theorem con_use0 {w : World} {f : Addr} {vs : List Value} {dep un : Nat} {Pre : List (Addr × Obj) → Prop} {Post : List (Addr × Obj) → Value → Prop} {v : Value} (C : Con w f vs dep un Pre Post)
    {p : Program} {loose : List PySem.Str} {mean : ExcName → Option Value} {mg mb : PySem.Str → Option Value}
    {dp un0 : Nat} {gd : Option (List Code)} {cn : PySem.Str} {cs : Scope} {a : Addr} {ccd : Value} {cl : List (PySem.Str × Addr)} {outer : List Env} {A₀ : Around} {base h₀ : Heap} {L : Addr} {m : PySem.Str → Option Value}
    {news : List (Addr × Obj)} {s : Shared} {Q E : Value → Shared → Prop}
    (B : Below A₀ base outer h₀) (F : Fr h₀ L s.heap m) (X : (hd.heap_39 w.params).In h₀) (N : News h₀ L s.heap news) (T : Top p loose mean mg mb h₀) (hk : cs.kind = .function)
    (hp : Pre news) (hd : dp + dep < recursionLimit) (hu : un0 + un < cLine)
    (e : ∀ tl r, Post tl r → tl = [] ∧ r = v)
    (ret : ∀ h' tk', Fr h₀ L h' m → News h₀ L h' news → Q v { s with heap := h', toks := tk' }) :
    wpAny (model PySem.Challenge.rw_rs0197_01.row.prog w) (ktrTop dp un0 gd cn cs L a ccd cl outer) (call (.ref f) vs) Q E s :=
  con_use C B F X N T hk hp hd hu fun r tl h' tk' F' N' O P => by
    obtain ⟨rfl, rfl⟩ := e _ _ P; exact ret h' tk' F' N'
theorem con_use1 {w : World} {f : Addr} {vs : List Value} {dep un : Nat} {Pre : List (Addr × Obj) → Prop} {Post : List (Addr × Obj) → Value → Prop} {g : Tok → Value} (C : Con w f vs dep un Pre Post)
    {p : Program} {loose : List PySem.Str} {mean : ExcName → Option Value} {mg mb : PySem.Str → Option Value}
    {dp un0 : Nat} {gd : Option (List Code)} {cn : PySem.Str} {cs : Scope} {a : Addr} {ccd : Value} {cl : List (PySem.Str × Addr)} {outer : List Env} {A₀ : Around} {base h₀ : Heap} {L : Addr} {m : PySem.Str → Option Value}
    {news : List (Addr × Obj)} {s : Shared} {Q E : Value → Shared → Prop}
    (B : Below A₀ base outer h₀) (F : Fr h₀ L s.heap m) (X : (hd.heap_39 w.params).In h₀) (N : News h₀ L s.heap news) (T : Top p loose mean mg mb h₀) (hk : cs.kind = .function)
    (hp : Pre news) (hd : dp + dep < recursionLimit) (hu : un0 + un < cLine)
    (e : ∀ tl r, Post tl r → tl = [] ∧ ∃ t, r = g t)
    (ret : ∀ t h' tk', Fr h₀ L h' m → News h₀ L h' news → Q (g t) { s with heap := h', toks := tk' }) :
    wpAny (model PySem.Challenge.rw_rs0197_01.row.prog w) (ktrTop dp un0 gd cn cs L a ccd cl outer) (call (.ref f) vs) Q E s :=
  con_use C B F X N T hk hp hd hu fun r tl h' tk' F' N' O P => by
    obtain ⟨rfl, t, rfl⟩ := e _ _ P; exact ret t h' tk' F' N'
theorem con_useR {w : World} {f : Addr} {vs : List Value} {dep un : Nat} {Pre : List (Addr × Obj) → Prop} {Post : List (Addr × Obj) → Value → Prop} {R : Addr → List (Addr × Obj) → Prop} (C : Con w f vs dep un Pre Post)
    {p : Program} {loose : List PySem.Str} {mean : ExcName → Option Value} {mg mb : PySem.Str → Option Value}
    {dp un0 : Nat} {gd : Option (List Code)} {cn : PySem.Str} {cs : Scope} {a : Addr} {ccd : Value} {cl : List (PySem.Str × Addr)} {outer : List Env} {A₀ : Around} {base h₀ : Heap} {L : Addr} {m : PySem.Str → Option Value}
    {news : List (Addr × Obj)} {s : Shared} {Q E : Value → Shared → Prop}
    (B : Below A₀ base outer h₀) (F : Fr h₀ L s.heap m) (X : (hd.heap_39 w.params).In h₀) (N : News h₀ L s.heap news) (T : Top p loose mean mg mb h₀) (hk : cs.kind = .function)
    (hp : Pre news) (hd : dp + dep < recursionLimit) (hu : un0 + un < cLine)
    (e : ∀ tl r, Post tl r → ∃ a, r = .ref a ∧ R a tl)
    (ret : ∀ a tl h' tk', R a tl → Fr h₀ L h' m → News h₀ L h' (tl ++ news) → Q (.ref a) { s with heap := h', toks := tk' }) :
    wpAny (model PySem.Challenge.rw_rs0197_01.row.prog w) (ktrTop dp un0 gd cn cs L a ccd cl outer) (call (.ref f) vs) Q E s :=
  con_use C B F X N T hk hp hd hu fun r tl h' tk' F' N' O P => by
    obtain ⟨a, rfl, H⟩ := e _ _ P; exact ret a tl h' tk' H F' N'
theorem con_useR3 {w : World} {f : Addr} {vs : List Value} {dep un : Nat} {Pre : List (Addr × Obj) → Prop} {Post : List (Addr × Obj) → Value → Prop} {β γ : Type} {R R' : Addr → β → γ → List (Addr × Obj) → Prop} (C : Con w f vs dep un Pre Post)
    {p : Program} {loose : List PySem.Str} {mean : ExcName → Option Value} {mg mb : PySem.Str → Option Value}
    {dp un0 : Nat} {gd : Option (List Code)} {cn : PySem.Str} {cs : Scope} {a : Addr} {ccd : Value} {cl : List (PySem.Str × Addr)} {outer : List Env} {A₀ : Around} {base h₀ : Heap} {L : Addr} {m : PySem.Str → Option Value}
    {news : List (Addr × Obj)} {s : Shared} {Q E : Value → Shared → Prop}
    (B : Below A₀ base outer h₀) (F : Fr h₀ L s.heap m) (X : (hd.heap_39 w.params).In h₀) (N : News h₀ L s.heap news) (T : Top p loose mean mg mb h₀) (hk : cs.kind = .function)
    (hp : Pre news) (hd : dp + dep < recursionLimit) (hu : un0 + un < cLine)
    (e : ∀ tl r, Post tl r → ∃ a b c, r = .ref a ∧ R a b c tl ∧ R' a b c tl)
    (ret : ∀ a b c tl h' tk', R a b c tl → R' a b c tl → Fr h₀ L h' m → News h₀ L h' (tl ++ news) → Q (.ref a) { s with heap := h', toks := tk' }) :
    wpAny (model PySem.Challenge.rw_rs0197_01.row.prog w) (ktrTop dp un0 gd cn cs L a ccd cl outer) (call (.ref f) vs) Q E s :=
  con_use C B F X N T hk hp hd hu fun r tl h' tk' F' N' O P => by
    obtain ⟨a, b, c, rfl, H, H'⟩ := e _ _ P; exact ret a b c tl h' tk' H H' F' N'
theorem con_useL {w : World} {f : Addr} {vs : List Value} {dep un : Nat} {Pre : List (Addr × Obj) → Prop} {Post : List (Addr × Obj) → Value → Prop} {ns : List Int} (C : Con w f vs dep un Pre Post)
    {p : Program} {loose : List PySem.Str} {mean : ExcName → Option Value} {mg mb : PySem.Str → Option Value}
    {dp un0 : Nat} {gd : Option (List Code)} {cn : PySem.Str} {cs : Scope} {a : Addr} {ccd : Value} {cl : List (PySem.Str × Addr)} {outer : List Env} {A₀ : Around} {base h₀ : Heap} {L : Addr} {m : PySem.Str → Option Value}
    {news : List (Addr × Obj)} {s : Shared} {Q E : Value → Shared → Prop}
    (B : Below A₀ base outer h₀) (F : Fr h₀ L s.heap m) (X : (hd.heap_39 w.params).In h₀) (N : News h₀ L s.heap news) (T : Top p loose mean mg mb h₀) (hk : cs.kind = .function)
    (hp : Pre news) (hd : dp + dep < recursionLimit) (hu : un0 + un < cLine)
    (e : ∀ tl r, Post tl r → RetL ns tl r)
    (ret : ∀ a vs c h' tk', IntsAre vs ns → Fr h₀ L h' m → News h₀ L h' ((a, listOf vs.toArray c) :: news) → OwnOff [(a, listOf vs.toArray c)] (news.map (·.1)) → Q (.ref a) { s with heap := h', toks := tk' }) :
    wpAny (model PySem.Challenge.rw_rs0197_01.row.prog w) (ktrTop dp un0 gd cn cs L a ccd cl outer) (call (.ref f) vs) Q E s :=
  con_use C B F X N T hk hp hd hu fun r tl h' tk' F' N' O P => by
    obtain ⟨a, vs, c, rfl, rfl, H⟩ := e _ _ P; exact ret a vs c h' tk' H F' N' O
theorem absQ {α : Type} {M : Model} {A : Around} {t : Sem α} {Q : α → Shared → Prop} {E : Value → Shared → Prop} {s : Shared} (h : ∀ K : α → Shared → Prop, (∀ {v s'}, Q v s' → K v s') → wpAny M A t K E s) : wpAny M A t Q E s := h Q fun x => x
theorem uni1 {un a k N : Nat} (h : un + a < N) (e : Nat.ble k a = true) : un + k < N := Nat.lt_of_le_of_lt (Nat.add_le_add_left (Nat.le_of_ble_eq_true e) un) h
theorem uni2 {un a i j N : Nat} (h : un + a < N) (e : Nat.ble (i + j) a = true) : un + i + j < N := Nat.add_assoc un i j ▸ uni1 h e
theorem uniN {a N : Nat} (e : Nat.ble (a + 1) N = true) : a < N := Nat.le_of_ble_eq_true e
theorem named {α : Type} {C : Prop} (x : α) (k : ∀ y, y = x → C) : C := k x rfl
theorem ex1 {α : Type} {P : α → Prop} {C : Prop} (h : ∃ a, P a) (k : ∀ a, P a → C) : C := h.elim k
theorem toNat0 (n : Nat) : ((n : Int) - 0).toNat = n := rfl
theorem pm1 (n : Nat) : ((n : Int) + 1 - 1).toNat = n := by rw [Int.add_sub_cancel]; rfl
theorem sub1 {n i k : Nat} (h : n - i = k + 1) : n - (i + 1) = k := by rw [← Nat.sub_sub, h]; rfl
theorem sub_pos1 {n i k : Nat} (h : n - i = k + 1) : i < n := Nat.lt_of_sub_pos (h ▸ Nat.succ_pos k)
theorem sub_eq0 {n i : Nat} (h : n - i = 0) (h' : i ≤ n) : i = n := Nat.le_antisymm h' (Nat.le_of_sub_eq_zero h)
theorem snoc_all {α : Type} {ys : List α} {y : α} {R : Nat → α → Prop} (h : ∀ j v, ys[j]? = some v → R j v) (h' : R ys.length y) : ∀ j v, (ys ++ [y])[j]? = some v → R j v := fun j v e => by
  rcases Nat.lt_or_ge j ys.length with hj | hj
  · rw [List.getElem?_append_left hj] at e; exact h j v e
  · have hj2 : j < (ys ++ [y]).length := (List.getElem?_eq_some_iff.mp e).1
    rw [List.length_append] at hj2
    have : j = ys.length := Nat.le_antisymm (Nat.le_of_lt_succ hj2) hj
    subst this
    rw [List.getElem?_concat_length] at e
    cases e; exact h'
theorem turn_lt {i k n : Nat} (hi : i + (k + 1) = n) : i < n := Nat.lt_of_lt_of_eq (Nat.lt_add_of_pos_right (Nat.succ_pos k)) hi
theorem turn_eq {i k n : Nat} (hi : i + (k + 1) = n) : i + 1 + k = n := (Nat.succ_add_eq_add_succ i k).trans hi
theorem allC {α : Type} {P : α → Prop} {x : α} {l : List α} (h : P x) (h' : ∀ y ∈ l, P y) : ∀ y ∈ x :: l, P y := fun y hy => (List.mem_cons.mp hy).elim (fun e => e ▸ h) (h' y)
theorem all_ne {a : Addr} {x : Addr × Obj} {l : List (Addr × Obj)} (h : x.1 ≠ a) (h' : ∀ p ∈ l, p.1 ≠ a) : ∀ p ∈ x :: l, p.1 ≠ a := (Mine.allC h h')
theorem all_nn {a : Addr} : ∀ p ∈ ([] : List (Addr × Obj)), p.1 ≠ a := List.forall_mem_nil _
theorem z0 (i : Nat) : (0 + (i : Int)).toNat = i := by rw [Int.zero_add]; rfl
theorem z1 (i : Nat) : (0 + (i : Int) + 1).toNat = i + 1 := by rw [Int.zero_add]; rfl
theorem o0 (i : Nat) : (1 + (i : Int) - 1).toNat = i := by rw [Int.add_comm, Int.add_sub_cancel]; rfl
theorem o1 (i : Nat) : (1 + (i : Int)).toNat = i + 1 := by rw [Int.add_comm]; rfl
theorem o0n (i : Nat) : (0 : Int) ≤ 1 + (i : Int) - 1 := by rw [Int.add_comm, Int.add_sub_cancel]; exact Int.natCast_nonneg i
theorem o1n (i : Nat) : (0 : Int) ≤ 1 + (i : Int) := Int.add_nonneg (by decide) (Int.natCast_nonneg i)
theorem o1g (i : Nat) : (1 : Int) ≤ 1 + (i : Int) := Int.le_add_of_nonneg_right (Int.natCast_nonneg i)
theorem o1h {i : Nat} (h : i < 62) : 1 + (i : Int) ≤ 100 := Int.le_trans (Int.add_le_add_left (Int.ofNat_le.mpr (Nat.le_of_lt h)) 1) (by decide)
theorem o1s {i : Nat} (h : i < 62) : 1 + (i : Int) < 2 ^ 63 := Int.lt_of_le_of_lt (o1h h) (by decide)
theorem o0s {i : Nat} (h : i < 62) : 1 + (i : Int) - 1 < 2 ^ 63 := Int.lt_of_le_of_lt (Int.sub_le_self _ (by decide)) (o1s h)
theorem at_k {α : Type} {C : Prop} {l : List α} {i : Nat} (h : i < l.length) (k : ∀ p, l[i]? = some p → C) : C := k _ (List.getElem?_eq_getElem h)
theorem turnA {h₀ h : Heap} {L : Addr} {m : PySem.Str → Option Value} {all : List (Addr × Obj)} {s : Shared} {tk : Nat} (F : Fr h₀ L h m) (N : News h₀ L h all) :
    ∃ h' tk', ({ s with heap := h, toks := tk } : Shared) = { s with heap := h', toks := tk' } ∧ Fr h₀ L h' m ∧ News h₀ L h' all := ⟨h, tk, rfl, F, N⟩
theorem turnB {h₀ h : Heap} {L : Addr} {m : PySem.Str → Option Value} {all : List (Addr × Obj)} {s : Shared} {tk : Nat} {R : Prop} (F : Fr h₀ L h m) (N : News h₀ L h all) (r : R) :
    ∃ h' tk', ({ s with heap := h, toks := tk } : Shared) = { s with heap := h', toks := tk' } ∧ Fr h₀ L h' m ∧ News h₀ L h' all ∧ R := ⟨h, tk, rfl, F, N, r⟩
theorem joinB {M : Model} {A : Around} {t : Sem Bool} {Q : Bool → Shared → Prop} {E : Value → Shared → Prop} {s : Shared} (b : Bool) (walk : ∀ K : Bool → Shared → Prop, (∀ tk, K b { s with toks := tk }) → wpAny M A t K E s) (h : ∀ tk, Q b { s with toks := tk }) : wpAny M A t Q E s := walk Q h
theorem joinT {α : Type} {M : Model} {A : Around} {t : Sem α} {Q : α → Shared → Prop} {E : Value → Shared → Prop} {s : Shared} (g : Tok → α) (walk : ∀ K : α → Shared → Prop, (∀ u tk, K (g u) { s with toks := tk }) → wpAny M A t K E s) (h : ∀ u tk, Q (g u) { s with toks := tk }) : wpAny M A t Q E s := walk Q h

local macro_rules | `(tactic| k_all) => `(tactic| first | with_reducible assumption | exact Mine.all_nn | (refine Mine.all_ne (by k_ne) ?_; k_all))
local macro_rules | `(tactic| k_ne) => `(tactic| (refine neN ?_; (try dsimp only); first | with_reducible (first | assumption | (refine Ne.symm ?_; assumption) | (refine Nat.ne_of_lt ?_; (((fail_if_success (show _ < OfNat.ofNat _)); (repeat (first | exact Mine.sh0 | assumption | exact Mine.shN (by assumption) | refine Mine.shS ?_)); done))) | (refine Nat.ne_of_gt ?_; (((fail_if_success (show _ < OfNat.ofNat _)); (repeat (first | exact Mine.sh0 | assumption | exact Mine.shN (by assumption) | refine Mine.shS ?_)); done)))) | ((rename _ ∧ _ => h9); first | exact Nat.ne_of_lt (by simp only [h9]) | exact Nat.ne_of_gt (by simp only [h9]) | (simp only [h9, ne_eq, not_false_eq_true]; done)) | omega))
local macro_rules | `(tactic| walk_at "newTuple") => `(tactic| (k_dflt (refine Mine.newTuple_O (by k_asm) (by k_asm) (Nat.le_of_ble_eq_true rfl) ?_); intro D' h' F' N' l1; (try k_lt l1)))
local macro_rules | `(tactic| walk_at "call builtin:len") => `(tactic| k_dflt (refine kst_len (by k_asm) (by k_mem) rfl (by omega) ?_))
theorem to_end (front : List (Addr × Obj)) {h₀ h : Heap} {L : Addr} {U tl : List (Addr × Obj)} (N : News h₀ L h (tl ++ (front ++ U))) : News h₀ L h (front ++ (U ++ tl)) := fun p hp => N p (by
  rcases List.mem_append.mp hp with hp | hp
  · exact List.mem_append_right _ (List.mem_append_left _ hp)
  rcases List.mem_append.mp hp with hp | hp
  · exact List.mem_append_right _ (List.mem_append_right _ hp)
  · exact List.mem_append_left _ hp)
/-- entries picked by their places, and the rest from a place on -/
theorem News.sel {h₀ h : Heap} {L : Addr} {l : List (Addr × Obj)} (N : News h₀ L h l) (is : List Nat) (k : Nat) : News h₀ L h (is.filterMap (fun i => l[i]?) ++ l.drop k) := fun p hp => N p (by
  rcases List.mem_append.mp hp with h | h
  · obtain ⟨i, _, e⟩ := List.mem_filterMap.mp h
    exact List.mem_of_getElem? e
  · exact List.mem_of_mem_drop h)
theorem News.cutT (front : List (Addr × Obj)) {h₀ h : Heap} {L : Addr} {T U : List (Addr × Obj)} (N : News h₀ L h (front ++ (T ++ U))) : News h₀ L h (front ++ T) := fun p hp => N p (by
  rcases List.mem_append.mp hp with hp | hp
  · exact List.mem_append_left _ hp
  · exact List.mem_append_right _ (List.mem_append_left _ hp))
/-- a loop's turn has ended: the iterator I stands as the turn found it -/
noncomputable def LoopEnd (h₀ : Heap) (L : Addr) (s : Shared) (I : Addr) (oI : Obj) (J : (PySem.Str → Option Value) → List (Addr × Obj) → Prop) (Q : Flow → Shared → Prop) (f : Flow) (s₃ : Shared) : Prop :=
  match f with
  | .ret v => Q (.ret v) s₃
  | .brk => Q .next s₃
  | _ => ∃ h' tk m' news', s₃ = { s with heap := h', toks := tk } ∧ Fr h₀ L h' m' ∧ News h₀ L h' ((I, oI) :: news') ∧ (∀ p ∈ news', p.1 ≠ I) ∧ J m' news'

theorem LoopEnd.intro {h₀ : Heap} {L : Addr} {s : Shared} {I : Addr} {oI : Obj} {J : (PySem.Str → Option Value) → List (Addr × Obj) → Prop} {Q : Flow → Shared → Prop} {h' : Heap} {tk : Nat} {m' : PySem.Str → Option Value} {all : List (Addr × Obj)}
    (F : Fr h₀ L h' m') (N : News h₀ L h' all) (news' : List (Addr × Obj)) (sub : ∀ p ∈ (I, oI) :: news', p ∈ all) (off : ∀ p ∈ news', p.1 ≠ I) (j : J m' news') :
    LoopEnd h₀ L s I oI J Q .next { s with heap := h', toks := tk } := ⟨h', tk, m', news', rfl, F, fun p hp => N p (sub p hp), off, j⟩

section
variable {prog : Program} {w : World} {A : Around} {E : Value → Shared → Prop} {s : Shared} {env : Env} {h₀ : Heap} {L : Addr} {Q : Flow → Shared → Prop}

/-- a for over whatever walks, its target any, its state: the frame's map and the ledger -/
theorem for_walk {tgt : PySem.Expr} {body : List Stmt} {I : Addr} {fp : List Addr} {n : Nat} {P : Nat → Value → Prop} {St : Nat → Heap → Prop} {m : PySem.Str → Option Value} {news keepS : List (Addr × Obj)}
    (J : Nat → (PySem.Str → Option Value) → List (Addr × Obj) → Prop)
    (hL : env.locals = L) (W : Walks prog w A I fp [I] n P St) (hI₀ : h₀.get? I = none) (hIL : I ≠ L)
    (hks : ∀ i m news, J i m news → ∀ p ∈ keepS, p ∈ news) (hfp : ∀ b ∈ fp, b = I ∨ (∃ o, h₀.get? b = some o) ∨ ∃ o, (b, o) ∈ keepS)
    (hst : St 0 s.heap) (F : Fr h₀ L s.heap m) (N : News h₀ L s.heap news) (hoff : ∀ p ∈ news, p.1 ≠ I) (h0 : J 0 m news) (hIs : ∃ o, s.heap.get? I = some o)
    (hWI : ∀ i h, St i h → ∃ o, h.get? I = some o)
    (ht : ∀ v, letOwnedTupleGo tgt (.ref I) v = pure ())
    (turn : ∀ i v oI m₁ news₁ h tk, i < n → P i v → J i m₁ news₁ → (∀ p ∈ news₁, p.1 ≠ I) → Fr h₀ L h m₁ → News h₀ L h ((I, oI) :: news₁) →
      wpAny (model prog w) A (assign tgt env v) (fun _ s₂ => wpAny (model prog w) A (execs body env) (LoopEnd h₀ L s I oI (J (i + 1)) Q) E s₂) E { s with heap := h, toks := tk })
    (done : ∀ m₁ news₁ h tk, J n m₁ news₁ → Fr h₀ L h m₁ → News h₀ L h news₁ → Q .next { s with heap := h, toks := tk })
    (hE : PassesOwn (model prog w) A env E) :
    codeAny (model prog w) A (.forLoop tgt (.ref I) body [] env) (fun r s' => match r with | .ok f => Q f s' | .error e => cameBackBy (model prog w) A env E e s') s := by
  have hold : ∀ b o, h₀.get? b = some o → b ∉ [I] := fun b o e hb => by rw [List.mem_singleton.mp hb, hI₀] at e; cases e
  refine codeAny_forLoop
    (fun k s' => ∃ h' tk m' news' i, s' = { s with heap := h', toks := tk } ∧ St i h' ∧ Fr h₀ L h' m' ∧ News h₀ L h' news' ∧ (∀ p ∈ news', p.1 ≠ I) ∧ J i m' news' ∧ i ≤ n ∧ k = n + 1 - i) ?_ (n + 1)
    ⟨s.heap, s.toks, m, news, 0, rfl, hst, F, N, hoff, h0, Nat.zero_le _, rfl⟩ (ht)
  rintro k s' ⟨h', tk, m', news', i, rfl, hst', F', N', hnw', hJ, hi, rfl⟩
  have next : ∀ h₁ : Heap, (∀ b o, b ∉ [I] → h'.get? b = some o → h₁.get? b = some o) → Fr h₀ L h₁ m' ∧ News h₀ L h₁ news' := fun h₁ hk₁ =>
    ⟨⟨F'.ns.at' fun o e => hk₁ _ o (by simpa using Ne.symm hIL) e, fun b o e => hk₁ b o (hold b o e) (F'.keep b o e), F'.above⟩, fun p hp => ⟨hk₁ _ _ (by simpa using hnw' p hp) (N' p hp).1, (N' p hp).2⟩⟩
  by_cases hlt : i < n
  · refine W.item i _ _ _ hlt hst' fun v h₁ tk₁ hP hst₁ hk₁ => ?_
    obtain ⟨F₁, N₁⟩ := next h₁ hk₁
    obtain ⟨oI, hoI⟩ := hWI _ _ hst₁
    have N₂ : News h₀ L h₁ ((I, oI) :: news') := fun p hp => by
      rcases List.mem_cons.mp hp with rfl | hp
      · exact ⟨hoI, hIL, hI₀⟩
      · exact N₁ p hp
    have tn := turn i v oI m' news' h₁ tk₁ hlt hP hJ hnw' F₁ N₂
    refine wpAny_mono tn (fun _ s₂ h₂ => wpAny_mono h₂ (fun f s₃ h₃ => ?_) hE) hE
    have fin : (∃ h'' tk'' m'' news'', s₃ = { s with heap := h'', toks := tk'' } ∧ Fr h₀ L h'' m'' ∧ News h₀ L h'' ((I, oI) :: news'') ∧ (∀ p ∈ news'', p.1 ≠ I) ∧ J (i + 1) m'' news'') →
        ∃ k', k' < n + 1 - i ∧ ∃ h' tk m' news' i, s₃ = { s with heap := h', toks := tk } ∧ St i h' ∧ Fr h₀ L h' m' ∧ News h₀ L h' news' ∧ (∀ p ∈ news', p.1 ≠ I) ∧ J i m' news' ∧ i ≤ n ∧ k' = n + 1 - i := by
      rintro ⟨h₃', tk₃, m₂, news₂, rfl, F₃, N₃, ha₃, hJ₃⟩
      refine ⟨n + 1 - (i + 1), by omega, h₃', tk₃, m₂, news₂, i + 1, rfl, ?_, F₃, fun p hp => N₃ p (List.mem_cons_of_mem _ hp), ha₃, hJ₃, hlt, rfl⟩
      refine W.frame _ _ _ hst₁ fun b hb o e => ?_
      rcases hfp b hb with rfl | ⟨o', h0b⟩ | ⟨o', hk⟩
      · have := (N₃ _ (List.mem_cons_self)).1
        rw [e] at hoI; cases hoI; exact this
      · have e1 := F₁.keep b o' h0b
        rw [e] at e1; cases e1
        exact F₃.keep b _ h0b
      · have m1 := hks _ _ _ hJ _ hk
        have e1 := (N₁ _ m1).1
        rw [e] at e1; cases e1
        exact (N₃ _ (List.mem_cons_of_mem _ (hks _ _ _ hJ₃ _ hk))).1
    cases f with
    | ret v => exact h₃
    | brk => exact h₃
    | cont => exact fin h₃
    | next => exact fin h₃
  · have hin : i = n := by omega
    subst hin
    refine W.done _ _ _ hst' fun h₁ tk₁ hk₁ => wpAny_execs_nil ?_
    obtain ⟨F₁, N₁⟩ := next h₁ hk₁
    exact done m' news' h₁ tk₁ hJ F₁ N₁
end

open PyProof.Rows.LCg in
/-- the turns of a comprehension, by what holds between them -/
theorem rest_all {prog : Program} {w : World} {A : Around} {h₀ : Heap} {L : Addr} {m : PySem.Str → Option Value} {env : Env} {elt : PySem.Expr} {x : PySem.Str} {scope : Scope} {cl : List (PySem.Str × Addr)} {s : Shared} {S : List (Addr × Obj) → Prop} {P : Nat → Value → Prop}
    {Fin : List Value → List (Addr × Obj) → Prop} (n : Nat) (J : Nat → List Value → List (Addr × Obj) → Prop)
    (turn : ∀ i ys news v I oI C oC D m₂ h tk (E' : Value → Shared → Prop), i < n → J i ys news → P i v → NsObj oC m₂ → m₂ x = some v → Fr h₀ L h m → News h₀ L h ((I, oI) :: (C, oC) :: (D, lst ys) :: news) → Off3 I C D news → ((@Ne Nat I C) ∧ (@Ne Nat I D) ∧ (@Ne Nat C D)) →
      wpAny (model prog w) A (eval elt (compEnvC scope cl C env)) (CompEnd h₀ L m { s with heap := h, toks := tk } I oI C oC D (lst ys) S (fun y news' => J (i + 1) (ys ++ [y]) news')) E' { s with heap := h, toks := tk })
    (fin : ∀ ys news, J n ys news → Fin ys news) : ∀ (k i : Nat) (ys : List Value) (news : List (Addr × Obj)), i + k = n → J i ys news → CompRest prog w A h₀ L m env elt x scope cl s S P Fin k i ys news := by
  intro k
  induction k with
  | zero => intro i ys news hi hj; obtain rfl : i = n := hi; exact CompRest.zero (fin _ _ hj)
  | succ k ih =>
    intro i ys news hi hj
    refine CompRest.succ fun v I oI C oC D m₂ h tk E' hP hC hx F N off ne => ?_
    refine wpAny_mono (turn i ys news v I oI C oC D m₂ h tk E' (turn_lt hi) hj hP hC hx F N off ne) (fun y s₂ hy => ?_) fun _ _ e => e
    obtain ⟨h', tk', news', rfl, F', N', off', hS, hj'⟩ := hy
    exact ⟨h', tk', news', rfl, F', N', off', hS, ih (i + 1) _ _ (turn_eq hi) hj'⟩

open PyProof.Rows.LCg PyProof.Rows.LCt in
theorem rest_allT {prog : Program} {w : World} {A : Around} {h₀ : Heap} {L : Addr} {m : PySem.Str → Option Value} {env : Env} {ct elt : PySem.Expr} {x : PySem.Str} {scope : Scope} {cl : List (PySem.Str × Addr)} {s : Shared} {S : List (Addr × Obj) → Prop} {P : Nat → Value → Prop}
    {Fin : List Value → List (Addr × Obj) → Prop} (n : Nat) (J : Nat → List Value → List (Addr × Obj) → Prop)
    (turn : ∀ i ys news v I oI C oC D m₂ h tk (E' : Value → Shared → Prop), i < n → J i ys news → P i v → NsObj oC m₂ → m₂ x = some v → Fr h₀ L h m → News h₀ L h ((I, oI) :: (C, oC) :: (D, lst ys) :: news) → Off3 I C D news → ((@Ne Nat I C) ∧ (@Ne Nat I D) ∧ (@Ne Nat C D)) →
      wpAny (model prog w) A (isTrue ct (compEnvC scope cl C env) (eval ct (compEnvC scope cl C env))) (fun ok s' => if ok = true then
        wpAny (model prog w) A (eval elt (compEnvC scope cl C env)) (CompEnd h₀ L m { s with heap := h, toks := tk } I oI C oC D (lst ys) S (fun y news' => J (i + 1) (ys ++ [y]) news')) E' s'
        else CompEnd h₀ L m { s with heap := h, toks := tk } I oI C oC D (lst ys) S (fun _ news' => J (i + 1) ys news') Value.none s') E' { s with heap := h, toks := tk })
    (fin : ∀ ys news, J n ys news → Fin ys news) : ∀ (k i : Nat) (ys : List Value) (news : List (Addr × Obj)), i + k = n → J i ys news → CompRestT prog w A h₀ L m env ct elt x scope cl s S P Fin k i ys news := by
  intro k
  induction k with
  | zero => intro i ys news hi hj; obtain rfl : i = n := hi; exact CompRestT.zero (fin _ _ hj)
  | succ k ih =>
    intro i ys news hi hj
    refine CompRestT.succ fun v I oI C oC D m₂ h tk E' hP hC hx F N off ne => ?_
    refine wpAny_mono (turn i ys news v I oI C oC D m₂ h tk E' (turn_lt hi) hj hP hC hx F N off ne) (fun ok s₁ ho => ?_) fun _ _ e => e
    cases ok with
    | true =>
      simp only [if_true] at ho ⊢
      refine wpAny_mono ho (fun y s₂ hy => ?_) fun _ _ e => e
      obtain ⟨h', tk', news', rfl, F', N', off', hS, hj'⟩ := hy
      exact ⟨h', tk', news', rfl, F', N', off', hS, ih (i + 1) _ _ (turn_eq hi) hj'⟩
    | false =>
      simp only [Bool.false_eq_true, if_false] at ho ⊢
      obtain ⟨h', tk', news', rfl, F', N', off', hS, hj'⟩ := ho
      exact ⟨h', tk', news', rfl, F', N', off', hS, ih (i + 1) _ _ (turn_eq hi) hj'⟩

open PyProof.Rows.LCg in
/-- a comprehension over a text's signs -/
theorem ListComp_S {prog : Program} {w : World} {A : Around} {E : Value → Shared → Prop} {s : Shared} {h₀ : Heap} {L : Addr} {m : PySem.Str → Option Value} {env : Env} {elt iter : PySem.Expr} {x : PySem.Str} {px : Pos} {scope : Scope} {cl : List (PySem.Str × Addr)} {pos : Pos} {Q : Value → Shared → Prop} (F₀ : Fr h₀ L s.heap m)
    (hclos : closureFor scope env = pure cl) (hcell : ∀ y ∈ scope.names, y.2 ≠ .cell) (hkind : scope.kind = .function)
    (hnames : ∀ y ∈ scope.names, y.2 = .local → scope.names.lookup y.1 = some .local) (hx : scope.names.lookup x = some .local)
    (h : wpAny (model prog w) A (eval iter env) (fun xv s₁ => ∃ y t news, xv = .str y t ∧ A.handled = none ∧ Fr h₀ L s₁.heap m ∧ News h₀ L s₁.heap news ∧ y.cps.size ≤ sizeLine ∧
      ∀ s₂ : Shared, (∃ h, s₂ = { s₁ with heap := h }) → CompRest prog w A h₀ L m env elt x scope cl s₂ (fun _ => True) (SignAt y) (FinE h₀ L m s₂ Q) y.cps.size 0 [] news) E s)
    (hs : ∀ x, foldedSetIterable iter env x = pure x := by intro _; rfl) :
    wpAny (model prog w) A (eval (.ListComp elt [⟨.Name x px, iter, [], 0⟩] scope pos) env) Q E s := by
  rw [eval_ListComp]
  refine wpAny_comprehension_free (use := none) rfl hs hclos hkind hnames (wpAny_mono h (fun xv s₁ h₁ => ?_) fun _ _ e => e)
  obtain ⟨y, t, news, rfl, hh, F, N, hsz, R⟩ := h₁
  have body : ∀ (o : Obj) (kd : String), Walks prog w A s₁.heap.objs.size [s₁.heap.objs.size] [s₁.heap.objs.size] y.cps.size (SignAt y) (fun i h => h.IsStrIter s₁.heap.objs.size kd y t i) →
      (s₁.heap.push o).IsStrIter s₁.heap.objs.size kd y t 0 → ∀ RR : Value → Addr → Result → Shared → Prop,
      (∀ D C h tk m' ys news', Fr h₀ L h m → News h₀ L h ((D, lst ys) :: news') → Off1 D news' → h.Ns C m' → h₀.get? C = none → h₀.get? D = none → C ≠ L → D ≠ L → C ≠ D → (∀ p ∈ news', p.1 ≠ C) → FinE h₀ L m { s₁ with heap := s₁.heap.push o } Q ys news' → RR (.ref D) C (.ok .next) { s₁ with heap := h, toks := tk }) →
      wpAny (model prog w) A (newList []) (fun acc s₃ => wpAny (model prog w) A (newFunctionEnv scope env.globals cl [] env.qual none .none (some env)) (fun cenv s₄ =>
        codeAny (model prog w) A (.compStart (.ListComp elt [⟨.Name x px, iter, [], 0⟩] scope pos) 0 (.ref s₁.heap.objs.size) acc { cenv with scope := relabel scope env }) (RR acc cenv.locals) s₄) E s₃) E { s₁ with heap := s₁.heap.push o } := by
    intro o kd W hst RR hRR
    have up : ∀ b o', s₁.heap.get? b = some o' → (s₁.heap.push o).get? b = some o' := fun b o' e => Heap.get?_push_of_some _ e
    refine block_U (s₂ := { s₁ with heap := s₁.heap.push o }) (S := fun _ => True) (Fin := FinE h₀ L m { s₁ with heap := s₁.heap.push o } Q) W hsz (fun i h st => by obtain ⟨o, e, _⟩ := st; exact ⟨o, e⟩)
      (fun i h h' o' nw st e e' _ _ _ => by obtain ⟨o'', e2, r⟩ := st; rw [e] at e2; cases e2; exact ⟨_, e', r⟩) hcell hkind hx hst (fun b hb => ?_)
      (F.keeps up) (N.grown up) (Nat.ne_of_lt F.ns.lt) (next_is_new F) (fun p hp => Nat.ne_of_lt (Heap.lt_size (N p hp).1)) trivial (R _ ⟨_, rfl⟩) hRR
    rw [List.mem_singleton.mp hb]
    show s₁.heap.objs.size < (s₁.heap.push o).objs.size
    rw [Heap.size_push]; exact Nat.lt_succ_self _
  have fin : ∀ (o : Obj) D C h tk m' ys news', Fr h₀ L h m → News h₀ L h ((D, lst ys) :: news') → Off1 D news' → h.Ns C m' → h₀.get? C = none → h₀.get? D = none → C ≠ L → D ≠ L → C ≠ D → (∀ p ∈ news', p.1 ≠ C) → FinE h₀ L m { s₁ with heap := s₁.heap.push o } Q ys news' →
      ∃ m', h.Ns C m' ∧ ∀ h'', Heap.SameBut C h h'' → Q (.ref D) { s₁ with heap := h'', toks := tk } := by
    intro o D C h tk m' ys news' F' N' o1 hn hC₀ hD₀ hCL hDL hCD offC fin
    refine ⟨m', hn, fun h'' hs'' => fin D h'' tk (F'.change hs'' hCL hC₀) (fun p hp => ?_) o1⟩
    refine ⟨hs''.extBut _ _ ?_ (N' p hp).1, (N' p hp).2⟩
    rcases List.mem_cons.mp hp with rfl | hp
    · exact Ne.symm hCD
    · exact offC p hp
  cases ha : y.cps.all (· < 128)
  · exact wpAny_pyIter_wide ha (body _ _ (Walks.strWide hh _ y t) ⟨_, Heap.get?_push_size _ rfl, rfl, rfl⟩ _ (fin _))
  · exact wpAny_pyIter_ascii ha (body _ _ (Walks.strAscii hh _ y t) ⟨_, Heap.get?_push_size _ rfl, rfl, rfl⟩ _ (fin _))

open PyProof.Rows.LCg in
/-- turns that leave the ledger as it stands -/
theorem rest_same {prog : Program} {w : World} {A : Around} {h₀ : Heap} {L : Addr} {m : PySem.Str → Option Value} {env : Env} {elt : PySem.Expr} {x : PySem.Str} {scope : Scope} {cl : List (PySem.Str × Addr)} {s : Shared} {S : List (Addr × Obj) → Prop} {P : Nat → Value → Prop}
    {Fin : List Value → List (Addr × Obj) → Prop} {news : List (Addr × Obj)} (n : Nat) (R : Nat → Value → Prop)
    (turn : ∀ i ys v I oI C oC D m₂ h tk (E' : Value → Shared → Prop), i < n → P i v → NsObj oC m₂ → m₂ x = some v → Fr h₀ L h m → News h₀ L h ((I, oI) :: (C, oC) :: (D, lst ys) :: news) → Off3 I C D news → ((@Ne Nat I C) ∧ (@Ne Nat I D) ∧ (@Ne Nat C D)) →
      wpAny (model prog w) A (eval elt (compEnvC scope cl C env)) (fun y s' => ∃ h' tk', s' = { s with heap := h', toks := tk' } ∧ Fr h₀ L h' m ∧ News h₀ L h' ((I, oI) :: (C, oC) :: (D, lst ys) :: news) ∧ R i y) E' { s with heap := h, toks := tk })
    (hS : S news)
    (fin : ∀ ys : List Value, ys.length = n → (∀ i y, ys[i]? = some y → R i y) → Fin ys news) : CompRest prog w A h₀ L m env elt x scope cl s S P Fin n 0 [] news := by
  refine rest_all n (fun i ys nw => nw = news ∧ ys.length = i ∧ ∀ j y, ys[j]? = some y → R j y) ?_ ?_ n 0 [] news (Nat.zero_add _) ⟨rfl, rfl, fun j y e => by simp at e⟩
  · rintro i ys nw v I oI C oC D m₂ h tk E' hi ⟨rfl, hl, hr⟩ hP hC hx F N off ne
    refine wpAny_mono (turn i ys v I oI C oC D m₂ h tk E' hi hP hC hx F N off ne) (fun y s' hy => ?_) fun _ _ e => e
    obtain ⟨h', tk', rfl, F', N', hR⟩ := hy
    refine CompEnd.intro F' N' nw (fun _ h => h) off hS ⟨rfl, by rw [List.length_append, List.length_singleton, hl], snoc_all hr (hl.symm ▸ hR)⟩
  · rintro ys nw ⟨rfl, hl, hr⟩
    exact fin ys hl hr

theorem strsAre_of {ys : List Value} {ss : List PySem.Str} (hl : ys.length = ss.length) (h : ∀ (i : Nat) y, ys[i]? = some y → ∃ t, some y = (ss[i]?).map (fun z => Value.str z t)) : StrsAre ys ss := by
  induction ys generalizing ss with
  | nil => cases ss with
    | nil => exact .nil
    | cons _ _ => cases hl
  | cons y ys ih =>
    cases ss with
    | nil => cases hl
    | cons z zs =>
      obtain ⟨t, e⟩ := h 0 y rfl
      cases e
      exact .cons z t (ih (Nat.succ.inj hl) fun i y' e => by have := h (i + 1) y' (by simpa using e); simpa using this)
theorem intsAre_of {ys : List Value} {ss : List Int} (hl : ys.length = ss.length) (h : ∀ (i : Nat) y, ys[i]? = some y → ∃ t, some y = (ss[i]?).map (fun z => Value.int z t)) : IntsAre ys ss := by
  induction ys generalizing ss with
  | nil => cases ss with
    | nil => exact .nil
    | cons _ _ => cases hl
  | cons y ys ih =>
    cases ss with
    | nil => cases hl
    | cons z zs =>
      obtain ⟨t, e⟩ := h 0 y rfl
      cases e
      exact .cons z t (ih (Nat.succ.inj hl) fun i y' e => by have := h (i + 1) y' (by simpa using e); simpa using this)

open PyProof.Rows.LCg in
theorem comp_range {prog : Program} {w : World} {A : Around} {h₀ : Heap} {L : Addr} {m : PySem.Str → Option Value} {env : Env} {elt : PySem.Expr} {x : PySem.Str} {scope : Scope} {cl : List (PySem.Str × Addr)} {Fin : Shared → List Value → List (Addr × Obj) → Prop} {r : Addr} {a b : Int} {t u v : Tok} {news : List (Addr × Obj)} {s₁ : Shared}
    (hh : A.handled = none) (F : Fr h₀ L s₁.heap m) (N : News h₀ L s₁.heap news) (hr : IsRange s₁.heap r a b 1 t u v) (ha : 0 ≤ a ∧ a ≤ 1000) (hb : 0 ≤ b ∧ b ≤ 1000)
    (h : ∀ g, CompRest prog w A h₀ L m env elt x scope cl { s₁ with heap := g } (fun _ => True) (fun i v => ∃ t, v = .int (a + (i : Int)) t) (Fin { s₁ with heap := g }) (b - a).toNat 0 [] news) :
    CompSrc prog w A h₀ L m env elt x scope cl Fin (.ref r) s₁ :=
  CompSrc.range hh F N hr (small_one (by omega) (by omega) (by omega) (by omega)) (rangeSize_nat a b) (by rw [sizeLine_eq]; omega) h
open PyProof.Rows.LCg PyProof.Rows.LCt in
theorem comp_rangeT {prog : Program} {w : World} {A : Around} {h₀ : Heap} {L : Addr} {m : PySem.Str → Option Value} {env : Env} {ct elt : PySem.Expr} {x : PySem.Str} {scope : Scope} {cl : List (PySem.Str × Addr)} {Fin : Shared → List Value → List (Addr × Obj) → Prop} {r : Addr} {a b : Int} {t u v : Tok} {news : List (Addr × Obj)} {s₁ : Shared}
    (hh : A.handled = none) (F : Fr h₀ L s₁.heap m) (N : News h₀ L s₁.heap news) (hr : IsRange s₁.heap r a b 1 t u v) (ha : 0 ≤ a ∧ a ≤ 1000) (hb : 0 ≤ b ∧ b ≤ 1000)
    (h : ∀ g, CompRestT prog w A h₀ L m env ct elt x scope cl { s₁ with heap := g } (fun _ => True) (fun i v => ∃ t, v = .int (a + (i : Int)) t) (Fin { s₁ with heap := g }) (b - a).toNat 0 [] news) :
    CompSrcT prog w A h₀ L m env ct elt x scope cl Fin (.ref r) s₁ :=
  CompSrcT.range hh F N hr (small_one (by omega) (by omega) (by omega) (by omega)) (rangeSize_nat a b) (by rw [sizeLine_eq]; omega) h

/-- c's place taken by v -/
noncomputable def subC (c : Nat) (v : List Nat) (l : List Nat) : List Nat := l.flatMap fun k => if k = c then v else [k]
theorem subC_app (c : Nat) (v a b : List Nat) : subC c v (a ++ b) = subC c v a ++ subC c v b := List.flatMap_append
theorem subC_free (c : Nat) (v : List Nat) : ∀ l : List Nat, c ∉ l → subC c v l = l
  | [], _ => rfl
  | k :: r, h => by
    have h1 : ¬ k = c := fun e => h (e ▸ List.mem_cons_self ..)
    have h2 : c ∉ r := fun m => h (List.mem_cons_of_mem _ m)
    have ih := subC_free c v r h2
    unfold subC at ih ⊢
    rw [List.flatMap_cons, if_neg h1, ih]; rfl
theorem subC_join (c : Nat) (v : PySem.Str) : ∀ parts : List PySem.Str, (∀ p ∈ parts, c ∉ p.cps.toList) → subC c v.cps.toList (Str.join ⟨#[c]⟩ parts).cps.toList = (Str.join v parts).cps.toList
  | [], _ => rfl
  | [p], h => subC_free c _ _ (h p (List.mem_singleton.mpr rfl))
  | p :: q :: r, h => by
    have ih := subC_join c v (q :: r) fun a ha => h a (List.mem_cons_of_mem _ ha)
    show subC c v.cps.toList (p ++ ⟨#[c]⟩ ++ Str.join ⟨#[c]⟩ (q :: r)).cps.toList = (p ++ v ++ Str.join v (q :: r)).cps.toList
    simp only [Str.cps_append, Array.toList_append]
    rw [subC_app, subC_app, ih, subC_free c _ _ (h p (List.mem_cons_self ..))]
    show p.cps.toList ++ subC c v.cps.toList [c] ++ _ = _
    simp [subC]
theorem replace_sub (x v : PySem.Str) (c : Nat) : (Txt.replace x ⟨#[c]⟩ v).cps.toList = subC c v.cps.toList x.cps.toList := by
  rw [StrLaws.replace_one, ← subC_join c v _ (StrLaws.split_free x c), StrLaws.join_split]
theorem replace_none (x v : PySem.Str) (c : Nat) (h : c ∉ x.cps.toList) : Txt.replace x ⟨#[c]⟩ v = x := by
  apply Str.ext'
  apply Array.toList_inj.mp
  rw [replace_sub, subC_free c _ _ h]

theorem esc_at {w : World} {A : Around} {E : Value → Shared → Prop} {s : Shared} {h₀ : Heap} {L : Addr} {m : PySem.Str → Option Value} {news : List (Addr × Obj)} {Q : Flow → Shared → Prop} {x : PySem.Str} {t : Tok}
    (d : Nat) {c v : PySem.Str} {cn : PySem.Str} {scope : Scope} {a : Addr} {cd : Value} {k1 k2 k3 : Nat} {p1 p2 p3 p4 p5 p6 p7 p8 p9 p10 p11 : Pos} {pl : Sem Bool}
    (F : Fr h₀ L s.heap m) (N : News h₀ L s.heap news) (hm : m (PySem.Str.ofString "text") = some (.str x t)) (htk : 1 ≤ s.toks) (hx : x.length ≤ 1048576)
    (ret : ∀ h' tk' t', 1 ≤ tk' → Fr h₀ L h' (fun y => if y = PySem.Str.ofString "text" then some (.str (Txt.replace x c v) t') else m y) → News h₀ L h' news → Q .next { s with heap := h', toks := tk' })
    (hc : c = ⟨#[d]⟩ := by decide +kernel) (hcv : (c == v) = false := by decide +kernel) (hv : v.length ≤ 14 := by decide +kernel) (hk : scope.kind = .function := by rfl) (hl : (envOf cn scope L a cd).kindOf (PySem.Str.ofString "text") = some .local := by rfl)
    (he : eval (.Call (.Attribute (.Name (PySem.Str.ofString "text") p5) (PySem.Str.ofString "replace") p6) [.Constant (.str c) k2 p7, .Constant (.str v) k3 p8] [] p9) (envOf cn scope L a cd) = (do
      let ov ← eval (.Name (PySem.Str.ofString "text") p5) (envOf cn scope L a cd)
      standAt p6.atName
      let (f, first) ← holding [ov] (getMethod ov (PySem.Str.ofString "replace") pl)
      callWith p9 f first (backTo p9 (starEach [.Constant (.str c) k2 p7, .Constant (.str v) k3 p8] (envOf cn scope L a cd))) []) := by rfl) :
    wpAny (model PySem.Challenge.rw_rs0197_01.row.prog w) A (exec (.If (.Compare (.Constant (.str c) k1 p1) [.In] [.Name (PySem.Str.ofString "text") p2] p3)
      [.Assign [.Name (PySem.Str.ofString "text") p4] (.Call (.Attribute (.Name (PySem.Str.ofString "text") p5) (PySem.Str.ofString "replace") p6) [.Constant (.str c) k2 p7, .Constant (.str v) k3 p8] [] p9) p10] [] p11) (envOf cn scope L a cd)) Q E s := by
  subst hc
  refine wpAny_If (wpAny_isTrue_Compare1 (Calls.Constant_str (ld F hm ?_ hk hl)))
  refine in_str (wpAny_truthy_bool ?_)
  rw [StrLaws.found_one]
  by_cases hd : d ∈ x.cps.toList
  · rw [decide_eq_true hd, if_pos rfl]
    refine wpAny_execs_cons (wpAny_Assign_Name (MethodCall_ (ld F hm ?_ hk hl) he))
    refine GM.replace (callWith_method1 (spliced_more (Calls.Constant_str (spliced_more (Calls.Constant_str (spliced_none ?_))))))
    refine wpAny_with_toks (n := 1) (by show 1 ≤ s.toks + 1 + 1 + 1; omega) ?_
    refine SC.replace (by show s.toks + 1 ≠ 0; omega) (by show s.toks + 1 + 1 ≠ 0; omega) (by show s.toks + 1 ≠ s.toks + 1 + 1; omega) hcv ?_ fun t' k => ?_
    · have h1 : (x.length + 1) * v.length ≤ (x.length + 1) * 14 := Nat.mul_le_mul_left _ hv
      omega
    · intro hk1
      refine stN F N (fun h' F' N' => ?_) hk hl
      exact wpAny_execs_nil (ret _ _ _ (by have : 1 ≤ k := hk1; omega) F' N')
  · rw [decide_eq_false hd, if_neg Bool.false_ne_true]
    have e := replace_none x v d hd
    refine wpAny_execs_nil (ret _ _ t (by show 1 ≤ s.toks + 1; omega) ?_ N)
    rw [e]
    rw [show (fun y => if y = PySem.Str.ofString "text" then some (Value.str x t) else m y) = m from by funext y; by_cases hy : y = PySem.Str.ofString "text"; rw [if_pos hy, hy, hm]; rw [if_neg hy]]
    exact F

theorem subC_len (c : Nat) (v : List Nat) (hv : 1 ≤ v.length) : ∀ l : List Nat, (subC c v l).length ≤ l.length * v.length
  | [] => by simp [subC]
  | k :: r => by
    have ih := subC_len c v hv r
    have e : subC c v (k :: r) = (if k = c then v else [k]) ++ subC c v r := by unfold subC; rw [List.flatMap_cons]
    rw [e, List.length_append, List.length_cons, Nat.add_mul, Nat.one_mul]
    split
    · omega
    · simp only [List.length_singleton]; omega
theorem replace_len {x c v : PySem.Str} {n : Nat} (d k : Nat) (hx : x.length ≤ n) (hc : c = ⟨#[d]⟩ := by decide +kernel) (hv1 : 1 ≤ v.cps.toList.length := by decide +kernel) (hv : v.cps.toList.length = k := by decide +kernel) : (Txt.replace x c v).length ≤ n * k := by
  subst hc
  show (Txt.replace x ⟨#[d]⟩ v).cps.size ≤ n * k
  rw [← Array.length_toList, replace_sub]
  refine Nat.le_trans (subC_len d _ hv1 _) ?_
  rw [hv]
  exact Nat.mul_le_mul_right _ (by rw [Array.length_toList]; exact hx)

/-- what _escape_cdata gives -/
noncomputable def escC (x : PySem.Str) : PySem.Str := Txt.replace (Txt.replace (Txt.replace x (PySem.Str.ofString "&") (PySem.Str.ofString "&amp;")) (PySem.Str.ofString "<") (PySem.Str.ofString "&lt;")) (PySem.Str.ofString ">") (PySem.Str.ofString "&gt;")
/-- what _escape_attrib gives -/
noncomputable def escA (x : PySem.Str) : PySem.Str := Txt.replace (Txt.replace (Txt.replace (Txt.replace (escC x) (PySem.Str.ofString "\"") (PySem.Str.ofString "&quot;")) (PySem.Str.ofString "\r") (PySem.Str.ofString "&#13;")) (PySem.Str.ofString "\n") (PySem.Str.ofString "&#10;")) (PySem.Str.ofString "\t") (PySem.Str.ofString "&#09;")

theorem c_cdata (w : World) (x : PySem.Str) (tk : Tok) (hx : x.length ≤ 6) : Con w 121 [.str x tk] 1 8 (fun _ => True) (RetS (escC x)) := by
  w_top off
  w_strict (
  unfold Con
  k_fill
  intro p loose mean mg mb dp un gd cn cs a ccd cl outer A₀ base h₀ L m news s Q E B F X N T hk hpre hd hu hret
  refine wpAny_call ?_
  k_dflt cell_enter
  (rename Fr _ _ _ _ => F1); (rename News _ _ _ _ => N1)
  refine wpAny_execs_cons (wpAny_Try_except ?_)
  refine wpAny_execs_cons (esc_at 38 F1 N1 rfl (Nat.le_add_left 1 _) (by omega) fun h2 tk2 t2 htk2 F2 N2 => ?_)
  have l2 := replace_len (c := PySem.Str.ofString "&") (v := PySem.Str.ofString "&amp;") 38 5 hx
  dsimp only
  refine wpAny_execs_cons (esc_at 60 F2 N2 rfl htk2 (by omega) fun h3 tk3 t3 htk3 F3 N3 => ?_)
  have l3 := replace_len (c := PySem.Str.ofString "<") (v := PySem.Str.ofString "&lt;") 60 4 l2
  dsimp only
  refine wpAny_execs_cons (esc_at 62 F3 N3 rfl htk3 (by omega) fun h4 tk4 t4 htk4 F4 N4 => ?_)
  dsimp only
  k_steps
  exact hret _ [] _ _ (by k_asm) (by k_asm) (fun _ h => nomatch h) (RetS.mk rfl))

theorem c_attrib (w : World) (x : PySem.Str) (tk : Tok) (hx : x.length ≤ 6) : Con w 128 [.str x tk] 1 8 (fun _ => True) (RetS (escA x)) := by
  w_top off
  w_strict (
  unfold Con
  k_fill
  intro p loose mean mg mb dp un gd cn cs a ccd cl outer A₀ base h₀ L m news s Q E B F X N T hk hpre hd hu hret
  refine wpAny_call ?_
  k_dflt cell_enter
  (rename Fr _ _ _ _ => F1); (rename News _ _ _ _ => N1)
  refine wpAny_execs_cons (wpAny_Try_except ?_)
  refine wpAny_execs_cons (esc_at 38 F1 N1 rfl (Nat.le_add_left 1 _) (by omega) fun h2 tk2 t2 htk2 F2 N2 => ?_)
  have l2 := replace_len (c := PySem.Str.ofString "&") (v := PySem.Str.ofString "&amp;") 38 5 hx
  dsimp only
  refine wpAny_execs_cons (esc_at 60 F2 N2 rfl htk2 (by omega) fun h3 tk3 t3 htk3 F3 N3 => ?_)
  have l3 := replace_len (c := PySem.Str.ofString "<") (v := PySem.Str.ofString "&lt;") 60 4 l2
  dsimp only
  refine wpAny_execs_cons (esc_at 62 F3 N3 rfl htk3 (by omega) fun h4 tk4 t4 htk4 F4 N4 => ?_)
  have l4 := replace_len (c := PySem.Str.ofString ">") (v := PySem.Str.ofString "&gt;") 62 4 l3
  dsimp only
  refine wpAny_execs_cons (esc_at 34 F4 N4 rfl htk4 (by omega) fun h5 tk5 t5 htk5 F5 N5 => ?_)
  have l5 := replace_len (c := PySem.Str.ofString "\"") (v := PySem.Str.ofString "&quot;") 34 6 l4
  dsimp only
  refine wpAny_execs_cons (esc_at 13 F5 N5 rfl htk5 (by omega) fun h6 tk6 t6 htk6 F6 N6 => ?_)
  have l6 := replace_len (c := PySem.Str.ofString "\r") (v := PySem.Str.ofString "&#13;") 13 5 l5
  dsimp only
  refine wpAny_execs_cons (esc_at 10 F6 N6 rfl htk6 (by omega) fun h7 tk7 t7 htk7 F7 N7 => ?_)
  have l7 := replace_len (c := PySem.Str.ofString "\n") (v := PySem.Str.ofString "&#10;") 10 5 l6
  dsimp only
  refine wpAny_execs_cons (esc_at 9 F7 N7 rfl htk7 (by omega) fun h8 tk8 t8 htk8 F8 N8 => ?_)
  have l8 := replace_len (c := PySem.Str.ofString "\t") (v := PySem.Str.ofString "&#09;") 9 5 l7
  dsimp only
  k_steps
  exact hret _ [] _ _ (by k_asm) (by k_asm) (fun _ h => nomatch h) (RetS.mk rfl))

/-- what _law_write gives -/
noncomputable def wr (b : Bool) (x : PySem.Str) : PySem.Str := if b then escA x else escC x
theorem wr_len (b : Bool) {x : PySem.Str} (hx : x.length ≤ 6) : (wr b x).length ≤ 360000 := by
  have l2 := replace_len (c := PySem.Str.ofString "&") (v := PySem.Str.ofString "&amp;") 38 5 hx
  have l3 := replace_len (c := PySem.Str.ofString "<") (v := PySem.Str.ofString "&lt;") 60 4 l2
  have l4 := replace_len (c := PySem.Str.ofString ">") (v := PySem.Str.ofString "&gt;") 62 4 l3
  have l5 := replace_len (c := PySem.Str.ofString "\"") (v := PySem.Str.ofString "&quot;") 34 6 l4
  have l6 := replace_len (c := PySem.Str.ofString "\r") (v := PySem.Str.ofString "&#13;") 13 5 l5
  have l7 := replace_len (c := PySem.Str.ofString "\n") (v := PySem.Str.ofString "&#10;") 10 5 l6
  have l8 := replace_len (c := PySem.Str.ofString "\t") (v := PySem.Str.ofString "&#09;") 9 5 l7
  cases b
  · exact Nat.le_trans l4 (by decide)
  · exact l8

section
theorem c_write (w : World) (x : PySem.Str) (tk : Tok) (b : Bool) (hx : x.length ≤ 6) : Con w 140 [.str x tk, .bool b] 2 20 (fun _ => True) (RetS (wr b x)) := by
  w_top off
  w_strict (
  unfold Con
  k_fill
  intro p loose mean mg mb dp un gd cn cs a ccd cl outer A₀ base h₀ L m news s Q E B F X N T hk hpre hd hu hret
  refine wpAny_call ?_
  k_dflt cell_enter
  (repeat ((fail_if_success (with_reducible show wpAny _ _ (call (Value.ref _) _ _) _ _ _)); (first | (k_unfold; (try dsimp only)) | (k_end; wrow_close) | walk1 | (dsimp only; walk1) | (leave1; (try dsimp only)) | fail "no step")))
  all_goals (repeat ((fail_if_success (with_reducible show wpAny _ _ (call (Value.ref _) _ _) _ _ _)); (first | (k_unfold; (try dsimp only)) | (k_end; wrow_close) | walk1 | (dsimp only; walk1) | (leave1; (try dsimp only)) | fail "no step")))
  all_goals first | refine con_use1 (c_attrib _ _ _ (by assumption)) (by k_asm) (by k_asm) (by k_asm) (by k_asm) (by k_asm) (by first | exact rfl | assumption) trivial (by (first | exact Mine.uni2 (by assumption) rfl | exact Mine.uni1 (by assumption) rfl | exact Mine.uniN rfl | ktr_room)) (by (first | exact Mine.uni2 (by assumption) rfl | exact Mine.uni1 (by assumption) rfl | exact Mine.uniN rfl | ktr_units)) (fun _ _ h => h) ?_ | refine con_use1 (c_cdata _ _ _ (by assumption)) (by k_asm) (by k_asm) (by k_asm) (by k_asm) (by k_asm) (by first | exact rfl | assumption) trivial (by (first | exact Mine.uni2 (by assumption) rfl | exact Mine.uni1 (by assumption) rfl | exact Mine.uniN rfl | ktr_room)) (by (first | exact Mine.uni2 (by assumption) rfl | exact Mine.uni1 (by assumption) rfl | exact Mine.uniN rfl | ktr_units)) (fun _ _ h => h) ?_
  all_goals (intro t9 h9 tk9 F9 N9; (try dsimp only); (try k_fold); k_steps)
  all_goals exact hret _ [] _ _ (by k_asm) (by k_asm) (fun _ h => nomatch h) (RetS.mk (by simp [wr, *])))
end

theorem off3_of {I C D : Addr} : ∀ {l : List (Addr × Obj)}, (∀ p ∈ l, p.1 ≠ I ∧ p.1 ≠ C ∧ p.1 ≠ D) → PyProof.Rows.LCg.Off3 I C D l
  | [], _ => trivial
  | p :: r, h => ⟨h p (.head _), off3_of fun q hq => h q (.tail _ hq)⟩
/-- the end of a comprehension's turn that adds T to the ledger -/
noncomputable def TurnEnd (h₀ : Heap) (L : Addr) (m : PySem.Str → Option Value) (s : Shared) (I : Addr) (oI : Obj) (C : Addr) (oC : Obj) (D : Addr) (oD : Obj) (news : List (Addr × Obj)) (R : Value → List (Addr × Obj) → Prop) (y : Value) (s' : Shared) : Prop :=
  ∃ T h' tk', s' = { s with heap := h', toks := tk' } ∧ Fr h₀ L h' m ∧ News h₀ L h' (T ++ (I, oI) :: (C, oC) :: (D, oD) :: news) ∧ OwnOff T (((I, oI) :: (C, oC) :: (D, oD) :: news).map (·.1)) ∧ R y T
theorem TurnEnd.same {h₀ : Heap} {L : Addr} {m : PySem.Str → Option Value} {s : Shared} {I : Addr} {oI : Obj} {C : Addr} {oC : Obj} {D : Addr} {oD : Obj} {news : List (Addr × Obj)} {R : Value → List (Addr × Obj) → Prop} {y : Value} {h' : Heap} {tk' : Nat}
    (F : Fr h₀ L h' m) (N : News h₀ L h' ((I, oI) :: (C, oC) :: (D, oD) :: news)) (r : R y []) : TurnEnd h₀ L m s I oI C oC D oD news R y { s with heap := h', toks := tk' } :=
  ⟨[], h', tk', rfl, F, N, own_nil, r⟩
theorem TurnEnd.more {h₀ : Heap} {L : Addr} {m : PySem.Str → Option Value} {s : Shared} {I : Addr} {oI : Obj} {C : Addr} {oC : Obj} {D : Addr} {oD : Obj} {news : List (Addr × Obj)} {R : Value → List (Addr × Obj) → Prop} {y : Value} {h' : Heap} {tk' : Nat} (T : List (Addr × Obj))
    (F : Fr h₀ L h' m) (N : News h₀ L h' (T ++ (I, oI) :: (C, oC) :: (D, oD) :: news)) (o : OwnOff T (((I, oI) :: (C, oC) :: (D, oD) :: news).map (·.1))) (r : R y T) : TurnEnd h₀ L m s I oI C oC D oD news R y { s with heap := h', toks := tk' } :=
  ⟨T, h', tk', rfl, F, N, o, r⟩
theorem grow_mem {α : Type} {p : α} {news T chunk : List α} (hp : p ∈ news ++ (T ++ chunk)) : p ∈ T ∨ p ∈ news ++ chunk := by
  rcases List.mem_append.mp hp with hp | hp
  · exact .inr (List.mem_append_left _ hp)
  · rcases List.mem_append.mp hp with hp | hp
    · exact .inl hp
    · exact .inr (List.mem_append_right _ hp)
/-- what TurnEnd says, for the chunk grown by T -/
theorem grow_end {h₀ : Heap} {L : Addr} {m : PySem.Str → Option Value} {s : Shared} {I : Addr} {oI : Obj} {C : Addr} {oC : Obj} {D : Addr} {oD : Obj} {chunk news : List (Addr × Obj)} {R : Value → List (Addr × Obj) → Prop} {y : Value} {s' : Shared} {S : List (Addr × Obj) → Prop} {K : Value → List (Addr × Obj) → Prop}
    (off : PyProof.Rows.LCg.Off3 I C D (news ++ chunk)) (hS : ∀ chunk, S (news ++ chunk)) (h : TurnEnd h₀ L m s I oI C oC D oD (news ++ chunk) R y s') (hc : OwnOff chunk (news.map (·.1)))
    (k : ∀ T, OwnOff (T ++ chunk) (news.map (·.1)) → R y T → K y (news ++ (T ++ chunk))) : PyProof.Rows.LCg.CompEnd h₀ L m s I oI C oC D oD S K y s' := by
  obtain ⟨T, h', tk', rfl, F, N, o, r⟩ := h
  refine PyProof.Rows.LCg.CompEnd.intro F N (news ++ (T ++ chunk)) ?_ ?_ (hS _) (k T ?_ r)
  · intro p hp
    rcases List.mem_cons.mp hp with rfl | hp
    · exact List.mem_append_right _ (.head _)
    rcases List.mem_cons.mp hp with rfl | hp
    · exact List.mem_append_right _ (.tail _ (.head _))
    rcases List.mem_cons.mp hp with rfl | hp
    · exact List.mem_append_right _ (.tail _ (.tail _ (.head _)))
    rcases grow_mem hp with hp | hp
    · exact List.mem_append_left _ hp
    · exact List.mem_append_right _ (.tail _ (.tail _ (.tail _ hp)))
  · refine off3_of fun p hp => ?_
    rcases grow_mem hp with hp | hp
    · exact ⟨o p hp I (.head _), o p hp C (.tail _ (.head _)), o p hp D (.tail _ (.tail _ (.head _)))⟩
    · exact off.mem p hp
  · intro p hp b hb
    rcases List.mem_append.mp hp with hp | hp
    · refine o p hp b (.tail _ (.tail _ (.tail _ ?_)))
      show b ∈ (news ++ chunk).map (·.1)
      rw [List.map_append]
      exact List.mem_append_left _ hb
    · exact hc p hp b hb
open PyProof.Rows.LCg in
theorem rest_grow {prog : Program} {w : World} {A : Around} {h₀ : Heap} {L : Addr} {m : PySem.Str → Option Value} {env : Env} {elt : PySem.Expr} {x : PySem.Str} {scope : Scope} {cl : List (PySem.Str × Addr)} {s : Shared} {S : List (Addr × Obj) → Prop} {P : Nat → Value → Prop}
    {Fin : List Value → List (Addr × Obj) → Prop} {news : List (Addr × Obj)} (n : Nat) (R : Nat → Value → List (Addr × Obj) → Prop) (mono : ∀ i y T T', (∀ p ∈ T, p ∈ T') → R i y T → R i y T')
    (turn : ∀ i ys chunk v I oI C oC D m₂ h tk (E' : Value → Shared → Prop), i < n → P i v → NsObj oC m₂ → m₂ x = some v → Fr h₀ L h m → News h₀ L h ((I, oI) :: (C, oC) :: (D, lst ys) :: (news ++ chunk)) → Off3 I C D (news ++ chunk) → ((@Ne Nat I C) ∧ (@Ne Nat I D) ∧ (@Ne Nat C D)) →
      wpAny (model prog w) A (eval elt (compEnvC scope cl C env)) (TurnEnd h₀ L m { s with heap := h, toks := tk } I oI C oC D (lst ys) (news ++ chunk) (R i)) E' { s with heap := h, toks := tk })
    (hS : ∀ chunk, S (news ++ chunk))
    (fin : ∀ (ys : List Value) chunk, ys.length = n → (∀ i y, ys[i]? = some y → R i y chunk) → OwnOff chunk (news.map (·.1)) → Fin ys (news ++ chunk)) : CompRest prog w A h₀ L m env elt x scope cl s S P Fin n 0 [] news := by
  refine rest_all n (fun i ys nw => ∃ chunk, nw = news ++ chunk ∧ ys.length = i ∧ (∀ j y, ys[j]? = some y → R j y chunk) ∧ OwnOff chunk (news.map (·.1))) ?_ ?_ n 0 [] news (Nat.zero_add _) ⟨[], by simp, rfl, fun j y e => by simp at e, own_nil⟩
  · rintro i ys nw v I oI C oC D m₂ h tk E' hi ⟨chunk, rfl, hl, hr, hc⟩ hP hC hx F N off ne
    refine wpAny_mono (turn i ys chunk v I oI C oC D m₂ h tk E' hi hP hC hx F N off ne) (fun y s' hy => grow_end off hS hy hc fun T hT r => ⟨T ++ chunk, rfl, by rw [List.length_append, List.length_singleton, hl], snoc_all (fun j y e => mono _ _ _ _ (fun p hp => List.mem_append_right _ hp) (hr j y e)) (hl.symm ▸ mono _ _ _ _ (fun p hp => List.mem_append_left _ hp) r), hT⟩) fun _ _ e => e
  · rintro ys nw ⟨chunk, rfl, hl, hr, hc⟩
    exact fin ys chunk hl hr hc

/-- what is met, each once, in the order of its first place -/
noncomputable def metL (σ : List PySem.Str) (v : PySem.Str) : List PySem.Str := if σ.any (fun k => decide (k = v)) then σ else σ ++ [v]
noncomputable def metUp (ss : List PySem.Str) : List PySem.Str := ss.foldl metL []
theorem metL_any (σ : List PySem.Str) (v k : PySem.Str) : (metL σ v).any (fun j => decide (j = k)) = (σ.any (fun j => decide (j = k)) || decide (k = v)) := by
  unfold metL
  split
  · rename_i h
    by_cases e : k = v
    · subst e; simp [h]
    · simp [e]
  · rw [List.any_append]
    simp only [List.any_cons, List.any_nil, Bool.or_false]
    congr 1
    by_cases e : k = v
    · subst e; simp
    · simp [e, Ne.symm e]
theorem metL_len (σ : List PySem.Str) (v : PySem.Str) : (metL σ v).length = if σ.any (fun k => decide (k = v)) then σ.length else σ.length + 1 := by
  unfold metL; split <;> simp
theorem metUp_snoc (ss : List PySem.Str) (v : PySem.Str) : metUp (ss ++ [v]) = metL (metUp ss) v := by simp [metUp]
theorem metUp_le : ∀ (n : Nat) (ss : List PySem.Str), ss.length = n → (metUp ss).length ≤ n := by
  intro n
  induction n with
  | zero => intro ss h; rw [List.length_eq_zero_iff.mp h]; exact Nat.le_refl 0
  | succ n ih =>
    intro ss h
    have hne : ss ≠ [] := fun e => by rw [e] at h; cases h
    rw [← List.dropLast_concat_getLast hne, metUp_snoc, metL_len]
    have := ih ss.dropLast (by rw [List.length_dropLast, h]; omega)
    split <;> omega

section
variable {prog : Program} {w : World} {A : Around} {R : Result → Shared → Prop} {I : Addr} {fp wr : List Addr} {G : Array GenState → Array GenState → Prop} {n : Nat} {P : Nat → Value → Prop} {St : Nat → Shared → Prop}
/-- a set's own loop over texts -/
theorem set_turns (W : WalksS prog w A.in1 I fp wr G n P St) (S : Addr) (hSf : S ∉ fp) (ss : List PySem.Str) (hn : ss.length = n)
    (hval : ∀ i v, P i v → ∃ z t, ss[i]? = some z ∧ v = .str z t) (hb : n + 1 < scanBound) :
    ∀ (k i : Nat) (s : Shared), n - i = k → i ≤ n → St i s →
      s.heap.SetOf (PySem.strKind prog w) S (fun k' => (metUp (ss.take i)).any (fun j => decide (j = k'))) (metUp (ss.take i)).length →
      (∀ s', Moved (S :: wr) G s s' → s'.heap.SetOf (PySem.strKind prog w) S (fun k' => (metUp ss).any (fun j => decide (j = k'))) (metUp ss).length → R (.ok (.ret .none)) s') →
      codeAny (model prog w) A (.builtin "set.update.loop" ⟨[.ref S, .ref I], []⟩) R s := by
  have hSw : S ∉ wr := fun h => hSf (W.sub _ h)
  intro k
  induction k with
  | zero =>
    intro i s hk hi hst hS hR
    obtain rfl : i = n := sub_eq0 hk hi
    refine codeAny_builtin PyProof.Rows.F.entry_set_update_loop ?_
    rw [Around.under_plainId PyProof.Rows.F.plain_set_update_loop _]
    show wpAny _ A.in1 (pyNext (.ref I) >>= _) _ _ s
    refine wpAny_bind (W.done s _ _ hst fun s' hm => ?_)
    refine wpAny_pure (hR s' (hm.mono fun b hb => List.mem_cons_of_mem _ hb) ?_)
    rw [← hn, List.take_length] at hS
    obtain ⟨o, es, ep, t, ho, rest⟩ := hS
    exact ⟨o, es, ep, t, hm.heap S _ hSw ho, rest⟩
  | succ k ih =>
    intro i s hk hi hst hS hR
    have hlt : i < n := sub_pos1 hk
    refine codeAny_builtin PyProof.Rows.F.entry_set_update_loop ?_
    rw [Around.under_plainId PyProof.Rows.F.plain_set_update_loop _]
    show wpAny _ A.in1 (pyNext (.ref I) >>= _) _ _ s
    refine wpAny_bind (W.item i s _ _ hlt hst fun v s' hP hst' hm => ?_)
    obtain ⟨z, t, hz, rfl⟩ := hval i v hP
    have hS' : s'.heap.SetOf (PySem.strKind prog w) S (fun k' => (metUp (ss.take i)).any (fun j => decide (j = k'))) (metUp (ss.take i)).length := by
      obtain ⟨o, es, ep, tb, ho, rest⟩ := hS
      exact ⟨o, es, ep, tb, hm.heap S _ hSw ho, rest⟩
    show wpAny _ A.in1 (holding [Value.str z t] (setAdd S (.str z t)) >>= _) _ _ s'
    refine wpAny_bind (wpAny_holding ?_)
    unfold setAdd
    refine wpAny_holding (wpAny_bind ((PySem.strKind prog w).pyHash (k := z) (strKind_is _ _ _ _) ?_))
    have hroom : (metUp (ss.take i)).length + 1 < scanBound := by have := metUp_le (ss.take i).length (ss.take i) rfl; rw [List.length_take] at this; omega
    refine wpAny_setAddHashed_of (knd := PySem.strKind prog w) (s := { s' with toks := s'.toks + 1 }) (strKind_is _ _ _ _) rfl hS' hroom fun h' hsb hS2 => ?_
    have e : ss.take (i + 1) = ss.take i ++ [z] := by rw [List.take_add_one, hz]; rfl
    have hSi : h'.SetOf (PySem.strKind prog w) S (fun k' => (metUp (ss.take (i + 1))).any (fun j => decide (j = k'))) (metUp (ss.take (i + 1))).length :=
      SetOf_congr hS2 (fun k' => by rw [e, metUp_snoc, metL_any]) (by rw [e, metUp_snoc, metL_len])
    refine wpAny_pure ⟨plainId_quiet PyProof.Rows.F.plain_set_update_loop _, ih (i + 1) _ (sub1 hk) hlt (W.frame _ s' _ _ hst' (Nat.le_succ _) fun b hb o e => ?_) hSi fun s'' hm'' hS'' => ?_⟩
    · rw [hsb.2 b (fun h : b = S => hSf (by rw [← h]; exact hb))]; exact e
    · refine hR s'' (Moved.trans W.gtrans ((hm.mono fun b hb => List.mem_cons_of_mem _ hb).then_heap (Nat.le_succ _) fun b o hb e => ?_) hm'') hS''
      rw [hsb.2 b (fun h : b = S => hb (by rw [h]; exact List.mem_cons_self))]; exact e
end

theorem strs_at {vs : List Value} {ss : List PySem.Str} (h : StrsAre vs ss) : ∀ (i : Nat) {v : Value}, vs[i]? = some v → ∃ z t, ss[i]? = some z ∧ v = .str z t := by
  induction h with
  | nil => intro i v hv; simp at hv
  | cons y t r ih =>
    intro i v hv
    cases i with
    | zero => cases hv; exact ⟨y, t, rfl, rfl⟩
    | succ i => simpa using ih i (by simpa using hv)

open PySem.F in
theorem set_of_strs {prog : Program} {w : World} {A : Around} {E : Value → Shared → Prop} {s : Shared} {l : Addr} {items : Array Value} {ss : List PySem.Str} {Q : Value → Shared → Prop}
    (hh : A.handled = none) (hl : s.heap.IsList l items) (hi : StrsAre items.toList ss) (hb : items.size + 1 < scanBound)
    (h : ∀ (h' : Heap) (tk : Nat), h'.SetOf (PySem.strKind prog w) s.heap.objs.size (fun k' => (metUp ss).any (fun j => decide (j = k'))) (metUp ss).length →
      (∀ b o, b < s.heap.objs.size → s.heap.get? b = some o → h'.get? b = some o) → Q (.ref s.heap.objs.size) { s with heap := h', toks := tk }) :
    wpAny (model prog w) A (call (.type "set") [.ref l]) Q E s := by
  obtain ⟨c, tl, hmro⟩ := F.called_set.mro
  have hmade := F.called_set.made
  have hsub := F.called_set.sub
  have hlen : ss.length = items.size := by rw [← Array.length_toList]; exact (StrsAre.length hi).symm
  refine wpAny_call (codeAny_of_tree ?_)
  show wpAny _ _ (callAny (.type "set") _) _ _ _
  refine wpAny_pure ⟨Code.quiet_builtin _ (by decide +kernel), codeAny_builtin F.entry_type_call ?_⟩
  rw [Around.under_plain (weight_type_call_type "set" [.ref l] []) rfl]
  have h1 := F.called_set.notType
  have h2 := F.called_set.canCreate
  have hct := F.typeCall_set_1 (.ref l)
  repeat (any_goals (first | assumption | wp_step))
  refine codeAny_mono (code_set_new_1 (.ref l) (E := E) (Q₁ := fun obj s₁ => ∃ led : Bool, obj = .ref s.heap.objs.size ∧ s₁ = { s with heap := s.heap.push { cls := .type "set", dict := none, data := .set #[] 0 (.fresh 0 0 led) } }) fun led => ⟨led, rfl, rfl⟩) fun r s₁ hr => ?_
  rcases r with e | fl
  · exact hr
  cases fl with
  | ret obj =>
    obtain ⟨led, rfl, rfl⟩ := hr
    let o0 : Obj := { cls := .type "set", dict := none, data := .set #[] 0 (.fresh 0 0 led) }
    have hS : (s.heap.push o0).get? s.heap.objs.size = some o0 := Heap.get?_push_size _ rfl
    have hT : Shared.TypeIs { s with heap := s.heap.push o0 } (.ref s.heap.objs.size) "set" := ⟨_, hS, rfl⟩
    have hli := F.called_set.init.lookup
    have hbi := F.called_set.init.bind (.ref s.heap.objs.size)
    repeat (any_goals (first | assumption | wp_step))
    refine codeAny_mono (codeAny_call_builtin (R := wants (fun r s₂ => r = .none ∧ ∃ h' tk, s₂ = { s with heap := h', toks := tk } ∧
        h'.SetOf (PySem.strKind prog w) s.heap.objs.size (fun k' => (metUp ss).any (fun j => decide (j = k'))) (metUp ss).length ∧
        (∀ b o, b < s.heap.objs.size → s.heap.get? b = some o → h'.get? b = some o)) E) F.called_set.init.plain F.entry_set_init (check_set_init_1 hT ?_)) fun r₂ s₂ hr₂ => ?_
    · obtain ⟨⟨ocls, odict, odata, oslots⟩, hol, hcl, nl, hdl⟩ := hl
      simp only at hcl hdl
      subst hcl; subst hdl
      have hol' : (s.heap.push o0).get? l = some { cls := .type "list", dict := odict, data := .seq items nl, slots := oslots } := Heap.get?_push_of_some _ hol
      have hsls := F.sub_list_set
      have hslf := F.sub_list_frozenset
      have hne : (Value.type "list" == Value.type "dict") = false := by decide
      have hl1 : (s.heap.push o0).IsList l items := ⟨_, hol', rfl, nl, rfl⟩
      unfold Builtin.«set.__init__» noKeywords Builtin.Frozenset.updateFrom
      generalize hPI : pyIter = PI
      wp_walk
      subst hPI
      refine wpAny_pyIter_list hl1 (wpAny_bind (wpAny_runValue ?_))
      have hlS : l < s.heap.objs.size := Heap.lt_size hol
      have hsz : (s.heap.push o0).objs.size = s.heap.objs.size + 1 := Heap.size_push ..
      have hSf : s.heap.objs.size ∉ [(s.heap.push o0).objs.size, l] := by
        rw [hsz]; simp only [List.mem_cons, List.not_mem_nil, or_false, not_or]
        exact ⟨Nat.ne_of_lt (Nat.lt_succ_self _), Nat.ne_of_gt hlS⟩
      refine set_turns ((Walks.list (by simp [hh]) _ l (by rw [hsz]; exact Nat.ne_of_lt (Nat.lt_succ_of_lt hlS)) items).toS) s.heap.objs.size hSf ss hlen (fun i v hv => ?_) hb (items.size - 0) 0 _ (by omega) (Nat.zero_le _)
        ⟨⟨_, Heap.get?_push_size _ rfl, rfl, rfl⟩, hl1.push _⟩ ?_ ?_
      · have hv' : items.toList[i]? = some v := by rw [Array.getElem?_toList]; exact hv
        clear hv
        exact strs_at hi i hv'
      · exact SetOf_congr ((setObjOf_fresh (knd := PySem.strKind prog w) led).setOf (Heap.get?_push_of_some _ hS) (by unfold scanBound; omega)) (fun _ => rfl) rfl
      · intro s' hm hS'
        obtain ⟨h', g', d', tk', os'⟩ := s'
        have eg : g' = s.gens := hm.gens
        have ed : d' = s.drawn := hm.drawn
        have eo : os' = s.os := hm.os
        subst eg; subst ed; subst eo
        refine wpAny_pure ?_
        show wpAny _ _ (ret Value.none) _ _ _
        refine wpAny_pure ⟨rfl, h', tk', rfl, hS', fun b o hb e => ?_⟩
        refine hm.heap b o ?_ (Heap.get?_push_of_some _ (Heap.get?_push_of_some _ e))
        rw [hsz]; simp only [List.mem_cons, List.not_mem_nil, or_false, not_or]
        exact ⟨Nat.ne_of_lt hb, Nat.ne_of_lt (Nat.lt_succ_of_lt hb)⟩
    · rcases r₂ with e | fl₂
      · exact hr₂
      cases fl₂ with
      | ret r =>
        obtain ⟨rfl, h', tk, rfl, hS', hk'⟩ := hr₂
        repeat (any_goals (first | assumption | wp_step))
        exact h _ _ hS' hk'
      | _ => exact hr₂.elim
  | _ => exact hr.elim

theorem set_strs_N {prog : Program} {w : World} {A : Around} {E : Value → Shared → Prop} {s : Shared} {h₀ : Heap} {L : Addr} {m : PySem.Str → Option Value} {news : List (Addr × Obj)} {l : Addr} {vs : List Value} {ss : List PySem.Str} {Q : Value → Shared → Prop} (F : Fr h₀ L s.heap m) (N : News h₀ L s.heap news)
    (hh : A.handled = none) (hl : s.heap.IsList l vs.toArray) (hi : StrsAre vs ss) (hb : ss.length ≤ 1000)
    (h : ∀ D h' (tk : Nat) o, Fr h₀ L h' m → News h₀ L h' ((D, o) :: news) → (∀ p ∈ news, p.1 < D) → o.SetObjOf (PySem.strKind prog w) (fun k' => (metUp ss).any (fun j => decide (j = k'))) (metUp ss).length → Q (.ref D) { s with heap := h', toks := tk }) :
    wpAny (model prog w) A (call (.type "set") [.ref l]) Q E s := by
  have hn : vs.length = ss.length := StrsAre.length hi
  refine set_of_strs hh hl (by simpa using hi) (by rw [List.size_toArray]; unfold scanBound; omega) fun h' tk hS hk => ?_
  obtain ⟨o, ho, hso⟩ := hS.objOf
  have hLlt : L < s.heap.objs.size := F.ns.lt
  have hk0 : ∀ b o', h₀.get? b = some o' → h'.get? b = some o' := fun b o' e => hk b o' (Heap.lt_size (F.keep b o' e)) (F.keep b o' e)
  refine h _ h' tk o ⟨F.ns.at' fun o' e => hk L o' hLlt e, hk0, F.above⟩ (fun p hp => ?_) (fun p hp => Heap.lt_size (N p hp).1) hso
  rcases List.mem_cons.mp hp with rfl | hp
  · exact ⟨ho, Nat.ne_of_gt hLlt, next_is_new F⟩
  · exact ⟨hk _ _ (Heap.lt_size (N p hp).1) (N p hp).1, (N p hp).2⟩

/-- a row before another: by its text, then by its place -/
noncomputable def rowLt (p q : PySem.Str × Int) : Bool := if p.1 = q.1 then (if p.2 = q.2 then false else decide (p.2 < q.2)) else decide (p.1.cps.toList < q.1.cps.toList)
noncomputable abbrev rowObj (x : PySem.Str) (t : Tok) (i : Int) (u : Tok) (n : Nat) : Obj := { cls := .type "tuple", data := .seq #[.str x t, .int i u] n }
theorem row_lt_tree {prog : Program} {w : World} {A : Around} {E : Value → Shared → Prop} {s : Shared} {a b : Addr} {x y : PySem.Str} {i j : Int} {t u t' u' : Tok} {n k : Nat} {P : PySem.Fin → Shared → Prop}
    (ha : s.heap.get? a = some (rowObj x t i u n)) (hb : s.heap.get? b = some (rowObj y t' j u' k)) (h : P (.done (.ret (.bool (rowLt (x, i) (y, j))))) s) :
    wpAny (model prog w) A (Builtin.«tuple.__lt__» ⟨[.ref a, .ref b], []⟩) P E s := by
  show wpAny _ _ (isInstance (.ref b) (.type "tuple") >>= _) _ _ s
  refine wpAny_bind (wpAny_isInstance ⟨_, hb, rfl⟩ isSubtype_tuple_tuple ?_)
  simp only [Bool.not_true, Bool.false_eq_true, if_false]
  refine wpAny_bind (wpAny_tupleItemsOf ha rfl ?_)
  refine wpAny_bind (wpAny_tupleItemsOf hb rfl ?_)
  show wpAny _ _ (forIn [(Value.str x t, Value.str y t'), (Value.int i u, Value.int j u')] _ _ >>= _) _ _ s
  rw [List.forIn_cons]
  refine wpAny_bind (wpAny_bind (wpAny_bind ((PySem.strKind prog w).eqBool (a := x) (b := y) (strKind_is _ _ _ _) (strKind_is _ _ _ _) ?_)))
  unfold rowLt at h
  by_cases hxy : x = y
  · rw [decide_eq_true hxy]
    simp only [hxy, if_true] at h
    refine wpAny_pure ?_
    dsimp only
    rw [List.forIn_cons]
    refine wpAny_bind (wpAny_bind ((PySem.intKind prog w).eqBool (a := i) (b := j) (intKind_is _ _ _ _) (intKind_is _ _ _ _) ?_))
    by_cases hij : i = j
    · rw [decide_eq_true hij]
      simp only [hij, if_true] at h
      refine wpAny_pure ?_
      dsimp only
      rw [List.forIn_nil]
      exact wpAny_pure (wpAny_pure h)
    · rw [decide_eq_false hij]
      simp only [hij, if_false] at h
      refine wpAny_bind (wpAny_rule (wpAny_bind ?_))
      refine PyProof.Rows.lt_int (t := u) (u := u') ?_

      exact wpAny_pure (wpAny_pure (wpAny_pure h))
  · rw [decide_eq_false hxy]
    simp only [hxy, if_false] at h
    refine wpAny_bind (wpAny_rule (wpAny_bind ?_))
    refine PySem.P.lt_str (t := t) (u := t') ?_

    exact wpAny_pure (wpAny_pure (wpAny_pure h))
theorem lt_rows {prog : Program} {w : World} {A : Around} {E : Value → Shared → Prop} {s : Shared} {h₀ : Heap} {L a b : Addr} {news : List (Addr × Obj)} {x y : PySem.Str} {i j : Int} {t u t' u' : Tok} {n k : Nat} {Q : Value → Shared → Prop}
    (N : News h₀ L s.heap news) (ha : (a, rowObj x t i u n) ∈ news) (hb : (b, rowObj y t' j u' k) ∈ news) (hu : A.units < cLine) (h : Q (.bool (rowLt (x, i) (y, j))) s) :
    wpAny (model prog w) A (compareOp .Lt (.ref a) (.ref b)) Q E s := by
  have hA := (N _ ha).1
  have hB := (N _ hb).1
  have hT : s.TypeIs (.ref a) "tuple" := ⟨_, hA, rfl⟩
  exact cmp_ofLt (wpAny_richCompare_same_room hT ⟨_, hB, rfl⟩ PySem.F.slot_tuple_lt (wpAny_call_entry PySem.F.slot_tuple_lt hT PySem.F.entry_tuple_lt (row_lt_tree hA hB ⟨_, rfl, (fun q => nomatch q), h⟩) (PySem.F.args_tuple_lt_2 _ _)) hu)
/-- the values are rows of the ledger's -/
inductive RowIs (news : List (Addr × Obj)) (v : Option Value) (p : PySem.Str × Int) : Prop where
  | mk : ∀ a t u n, v = some (.ref a) → (a, rowObj p.1 t p.2 u n) ∈ news → RowIs news v p
noncomputable def RowsAt (news : List (Addr × Obj)) (vs : List Value) (rows : List (PySem.Str × Int)) : Prop := vs.length = rows.length ∧ ∀ (j : Nat) p, rows[j]? = some p → RowIs news vs[j]? p
theorem RowsAt.mono {news news' : List (Addr × Obj)} {vs : List Value} {rows : List (PySem.Str × Int)} (h : RowsAt news vs rows) (s : ∀ p ∈ news, p ∈ news') : RowsAt news' vs rows :=
  ⟨h.1, fun j p e => let ⟨a, t, u, n, h1, h2⟩ := h.2 j p e; ⟨a, t, u, n, h1, s _ h2⟩⟩
/-- bisect_right's own search -/
noncomputable def bisR (f : Nat → Bool) : Nat → Nat → Nat → Nat
  | 0, lo, _ => lo
  | k + 1, lo, hi => if lo < hi then (if f ((lo + hi) / 2) then bisR f k lo ((lo + hi) / 2) else bisR f k ((lo + hi) / 2 + 1) hi) else lo
theorem bisR_done (f : Nat → Bool) (k lo hi : Nat) (h : ¬ lo < hi) : bisR f k lo hi = lo := by
  cases k with
  | zero => rfl
  | succ k => rw [bisR, if_neg h]
theorem mid_lo {lo hi : Nat} (h : lo < hi) : lo ≤ (lo + hi) / 2 := by omega
theorem mid_hi {lo hi : Nat} (h : lo < hi) : (lo + hi) / 2 + 1 ≤ hi := by omega
theorem mid_a {lo hi k : Nat} (h : lo < hi) (e : hi - lo ≤ k + 1) : hi - ((lo + hi) / 2 + 1) ≤ k := by
  have := mid_lo h; omega
theorem mid_b {lo hi k : Nat} (h : lo < hi) (e : hi - lo ≤ k + 1) : (lo + hi) / 2 - lo ≤ k := by
  have := mid_hi h; omega
theorem gap_eq {lo hi : Nat} (h : lo < hi) : hi - lo = (hi - lo - 1) + 1 := by omega
theorem mid_c {lo hi : Nat} (h : lo < hi) : (lo + hi) / 2 - lo < hi - lo := gap_eq h ▸ Nat.lt_succ_of_le (mid_b h (Nat.le_of_eq (gap_eq h)))
theorem mid_d {lo hi : Nat} (h : lo < hi) : hi - ((lo + hi) / 2 + 1) < hi - lo := gap_eq h ▸ Nat.lt_succ_of_le (mid_a h (Nat.le_of_eq (gap_eq h)))
theorem mid_z (lo hi : Nat) : ((lo : Int) + (hi : Int)).fdiv 2 = (((lo + hi) / 2 : Nat) : Int) := by rw [Int.fdiv_eq_ediv_of_nonneg _ (by decide)]; omega
theorem mid_s {lo hi n : Nat} (h : lo < hi) (h' : hi ≤ n) (hn : n ≤ 6) : (((lo + hi) / 2 : Nat) : Int) < 2 ^ 63 := by omega
theorem gap0 {lo hi : Nat} (h : hi - lo ≤ 0) : ¬ lo < hi := by omega
theorem gap1 {lo hi k : Nat} (hl : lo < hi) (hk : hi - lo ≤ k) : ∃ j, k = j + 1 := ⟨k - 1, by omega⟩
theorem gap6 {lo hi n : Nat} (h' : hi ≤ n) (hn : n ≤ 6) : hi - lo ≤ 6 := Nat.le_trans (Nat.sub_le _ _) (Nat.le_trans h' hn)
theorem ncast_lt {lo hi : Nat} (h : (lo : Int) < (hi : Int)) : lo < hi := Int.ofNat_lt.mp h
theorem ncast_ge {lo hi : Nat} (h : ¬ (lo : Int) < (hi : Int)) : ¬ lo < hi := fun q => h (Int.ofNat_lt.mpr q)
theorem bisR_eq (f : Nat → Bool) : ∀ (k k' lo hi : Nat), hi - lo ≤ k → hi - lo ≤ k' → bisR f k lo hi = bisR f k' lo hi := by
  intro k
  induction k with
  | zero => intro k' lo hi h h'; rw [bisR_done _ _ _ _ (gap0 h), bisR_done _ _ _ _ (gap0 h)]
  | succ k ih =>
    intro k' lo hi h h'
    by_cases hl : lo < hi
    · cases k' with
      | zero => exact absurd hl (gap0 h')
      | succ k' =>
        rw [bisR, bisR, if_pos hl, if_pos hl]
        split
        · exact ih _ _ _ (mid_b hl h) (mid_b hl h')
        · exact ih _ _ _ (mid_a hl h) (mid_a hl h')
    · rw [bisR_done _ _ _ _ hl, bisR_done _ _ _ _ hl]
theorem bisR_left {f : Nat → Bool} {k lo hi : Nat} (hl : lo < hi) (hk : hi - lo ≤ k) (h : f ((lo + hi) / 2) = true) : bisR f k lo ((lo + hi) / 2) = bisR f k lo hi := by
  obtain ⟨k, rfl⟩ := gap1 hl hk
  rw [bisR_eq f (k + 1) k lo ((lo + hi) / 2) (Nat.le_succ_of_le (mid_b hl hk)) (mid_b hl hk)]
  conv => rhs; rw [bisR, if_pos hl, if_pos h]
theorem bisR_right {f : Nat → Bool} {k lo hi : Nat} (hl : lo < hi) (hk : hi - lo ≤ k) (h : f ((lo + hi) / 2) = false) : bisR f k ((lo + hi) / 2 + 1) hi = bisR f k lo hi := by
  obtain ⟨k, rfl⟩ := gap1 hl hk
  rw [bisR_eq f (k + 1) k ((lo + hi) / 2 + 1) hi (Nat.le_succ_of_le (mid_a hl hk)) (mid_a hl hk)]
  conv => rhs; rw [bisR, if_pos hl, if_neg (by rw [h]; exact Bool.false_ne_true)]
theorem bisR_le (f : Nat → Bool) : ∀ (k lo hi : Nat), lo ≤ hi → hi - lo ≤ k → lo ≤ bisR f k lo hi ∧ bisR f k lo hi ≤ hi := by
  intro k
  induction k with
  | zero => intro lo hi h h'; rw [bisR]; exact ⟨Nat.le_refl _, h⟩
  | succ k ih =>
    intro lo hi h h'
    rw [bisR]
    by_cases hl : lo < hi
    · rw [if_pos hl]
      split
      · have q := ih lo ((lo + hi) / 2) (mid_lo hl) (mid_b hl h')
        exact ⟨q.1, Nat.le_trans q.2 (Nat.le_of_succ_le (mid_hi hl))⟩
      · have q := ih ((lo + hi) / 2 + 1) hi (mid_hi hl) (mid_a hl h')
        exact ⟨Nat.le_trans (Nat.le_succ_of_le (mid_lo hl)) q.1, q.2⟩
    · rw [if_neg hl]; exact ⟨Nat.le_refl _, h⟩
theorem item_at {prog : Program} {w : World} {A : Around} {E : Value → Shared → Prop} {s : Shared} {value slice : PySem.Expr} {l : Addr} {vs : List Value} {k : Int} {u : Tok} {v : Value} {Q : Value → Shared → Prop}
    (hl : s.heap.IsList l vs.toArray) (h0 : 0 ≤ k) (hhi : k < 2 ^ 63) (hx : vs[k.toNat]? = some v) (h : Q v s)
    (hs : subscripted slice false (.ref l) (.int k u) = operate [.ref l, .int k u] (getItem (.ref l) (.int k u))) :
    wpAny (model prog w) A (subscriptTail value slice (.ref l) (.int k u)) Q E s :=
  tail_any hl.typeIs slot_list_getitem.lookup (wpAny_getItem_list hl h0 hhi (by simpa using hx) h) hs
theorem names4 {m : PySem.Str → Option Value} {x1 x2 x3 x4 : PySem.Str} {v1 v2 v3 v4 : Value} (h1 : m x1 = some v1) (h2 : m x2 = some v2) (h3 : m x3 = some v3) (h4 : m x4 = some v4) :
    m = fun y => if y = x1 then some v1 else if y = x2 then some v2 else if y = x3 then some v3 else if y = x4 then some v4 else m y := by
  funext y
  by_cases e1 : y = x1
  · rw [if_pos e1, e1, h1]
  rw [if_neg e1]
  by_cases e2 : y = x2
  · rw [if_pos e2, e2, h2]
  rw [if_neg e2]
  by_cases e3 : y = x3
  · rw [if_pos e3, e3, h3]
  rw [if_neg e3]
  by_cases e4 : y = x4
  · rw [if_pos e4, e4, h4]
  rw [if_neg e4]
section
theorem c_bisR (w : World) (l xt : Addr) (vs : List Value) (c : Nat) (rows : List (PySem.Str × Int)) (x : PySem.Str) (i : Int) (t u t0 : Tok) (n : Nat) (hn : rows.length ≤ 6) :
    Con w 98 [.ref l, .ref xt, .int 0 t0, .none] 1 20 (fun news => (l, listOf vs.toArray c) ∈ news ∧ RowsAt news vs rows ∧ (xt, rowObj x t i u n) ∈ news) (RetI (bisR (fun k => rowLt (x, i) (rows.getD k (x, i))) 6 0 rows.length : Nat)) := by
  w_top off
  w_strict (
  unfold Con
  k_fill
  intro p loose mean mg mb dp un gd cn cs a ccd cl outer A₀ base h₀ L m news s Q E B F X N T hk hpre hd hu hret
  obtain ⟨hl, hrows, hx⟩ := hpre
  have hvn := hrows.1
  replace N : News h₀ L s.heap ((l, listOf vs.toArray c) :: news) := fun p hp => by rcases List.mem_cons.mp hp with rfl | hp; exact N _ hl; exact N _ hp
  refine wpAny_call ?_
  k_dflt ((refine' code_def ?k1 ?k2 ?k3 ?k4 ?k5 ?kA ?kF ?kK ?k6 ?k7 ?k8 ?k9 ?kB ?_ ?c2 ?c3 ?c4 ?c5; (case kA => exact rfl); (case kF => exact rfl); (case kK => assumption); (case k1 => k_asm); (case k2 => k_asm); (case k3 => k_asm); (case k4 => k_asm); (case k5 => k_asm); (case k6 => k_is); (case k7 => k_is); (case k8 => ktr_room); (case k9 => first | (refine' kp_binds ?kx ?ke; (case kx => k_in); (case ke => exact fun _ => rfl)) | exact binds_K (by k_in) rfl (by k_is) rfl rfl rfl); (case c5 => decide); (case kB => exact locs rfl); (case c2 => exact rfl); (case c3 => exact rfl); (case c4 => exact rfl); k_whole; intro g'q L'q h'q FG'q F'q N'q B'q X'q T'q; (try dsimp only); (try k_lift B'q); (try k_fold)))
  (repeat ((fail_if_success (with_reducible show wpAny _ _ (exec (PySem.Stmt.While _ _ _ _) _) _ _ _)); (first | (k_unfold; (try dsimp only)) | (k_end; wrow_close) | walk1 | (dsimp only; walk1) | (leave1; (try dsimp only)) | fail "no step")))
  refine While_inv2 (fun k m₁ nw => nw = (l, listOf vs.toArray c) :: news ∧ ∃ lo hi : Nat, ∃ tl th, lo ≤ hi ∧ hi ≤ rows.length ∧ k = hi - lo ∧ bisR (fun k => rowLt (x, i) (rows.getD k (x, i))) 6 lo hi = bisR (fun k => rowLt (x, i) (rows.getD k (x, i))) 6 0 rows.length ∧
    m₁ (PySem.Str.ofString "lo") = some (.int lo tl) ∧ m₁ (PySem.Str.ofString "hi") = some (.int hi th) ∧ m₁ (PySem.Str.ofString "a") = some (.ref l) ∧ m₁ (PySem.Str.ofString "x") = some (.ref xt)) (by k_asm) (by k_asm) ⟨rfl, 0, rows.length, _, _, Nat.zero_le _, Nat.le_refl _, rfl, rfl, by rfl, by rw [← hvn]; rfl, by rfl, by rfl⟩ ?_
  rintro k m₁ nw h₁ tk₁ F1 N1 ⟨rfl, lo, hi, tl, th, hle, hhi, rfl, hb, e1, e2, e3, e4⟩
  (try dsimp only)
  rw [names4 e1 e2 e3 e4] at F1
  iterate 6 (first | (k_unfold; (try dsimp only)) | (k_end; wrow_close) | walk1 | (dsimp only; walk1) | (leave1; (try dsimp only)) | fail "no step")
  · have hlt : lo < hi := ncast_lt (by assumption)
    have em := mid_z lo hi
    refine Mine.at_k (Nat.lt_of_lt_of_le (mid_hi hlt) hhi) ?_
    intro p9 hp9
    obtain ⟨a9, t9, u9, n9, hv9, hm9⟩ := hrows.2 _ _ hp9
    iterate 17 (first | (k_unfold; (try dsimp only)) | (k_end; wrow_close) | walk1 | (dsimp only; walk1) | (leave1; (try dsimp only)) | fail "no step")
    refine Mine.item_at (News.isList (by k_asm) (by k_mem)) (by rw [em]; exact Int.natCast_nonneg _) (by rw [em]; exact mid_s hlt hhi hn) (by rw [em]; exact hv9) ?_ (by with_unfolding_all rfl)
    refine Mine.lt_rows (by k_asm) (.tail _ hx) (.tail _ hm9) (by (first | exact Mine.uni2 (by assumption) rfl | exact Mine.uni1 (by assumption) rfl | exact Mine.uniN rfl | ktr_units)) ?_
    have hf : (fun k => rowLt (x, i) (rows.getD k (x, i))) ((lo + hi) / 2) = rowLt (x, i) (p9.1, p9.2) := by simp [List.getD, hp9]
    iterate 2 (first | (k_unfold; (try dsimp only)) | (k_end; wrow_close) | walk1 | (dsimp only; walk1) | (leave1; (try dsimp only)) | fail "no step")
    · iterate 7 (first | (k_unfold; (try dsimp only)) | (k_end; wrow_close) | walk1 | (dsimp only; walk1) | (leave1; (try dsimp only)) | fail "no step")
      (rename _ = true => hb9)
      simp only [WhileStep2]
      refine ⟨_, _, _, _, (lo + hi) / 2 - lo, rfl, by k_asm, by k_asm, mid_c hlt, rfl, lo, (lo + hi) / 2, _, _, mid_lo hlt, Nat.le_trans (Nat.le_of_succ_le (mid_hi hlt)) hhi, rfl, ?_, by rfl, by rw [← em]; rfl, by rfl, by rfl⟩
      rw [bisR_left hlt (gap6 hhi hn) (hf.trans hb9)]
      exact hb
    · iterate 10 (first | (k_unfold; (try dsimp only)) | (k_end; wrow_close) | walk1 | (dsimp only; walk1) | (leave1; (try dsimp only)) | fail "no step")
      (rename _ = false => hb9)
      simp only [WhileStep2]
      refine ⟨_, _, _, _, hi - ((lo + hi) / 2 + 1), rfl, by k_asm, by k_asm, mid_d hlt, rfl, (lo + hi) / 2 + 1, hi, _, _, mid_hi hlt, hhi, rfl, ?_, by rw [show ((((lo + hi) / 2 + 1 : Nat)) : Int) = ((lo : Int) + (hi : Int)).fdiv 2 + 1 from by rw [em]; rfl]; rfl, by rfl, by rfl, by rfl⟩
      rw [bisR_right hlt (gap6 hhi hn) (hf.trans hb9)]
      exact hb
  · have hge : ¬ lo < hi := ncast_ge (by assumption)
    rw [bisR_done _ _ _ _ hge] at hb
    k_steps
    exact hret _ [] _ _ (by k_asm) (by (first | k_asm | (refine' cb_drop ?cbN ?cbS; (case cbN => assumption); (case cbS => (intro pq hpq; repeat (first | exact hpq | refine List.Mem.tail _ ?_)))))) (fun _ h => nomatch h) (RetI.mk (by rw [hb])))
end

/-- a sign as it is written -/
noncomputable def escS (b : Bool) (c : Nat) : List Nat :=
  if c = 38 then [38, 97, 109, 112, 59] else if c = 60 then [38, 108, 116, 59] else if c = 62 then [38, 103, 116, 59]
  else if b then (if c = 34 then [38, 113, 117, 111, 116, 59] else if c = 13 then [38, 35, 49, 51, 59] else if c = 10 then [38, 35, 49, 48, 59] else if c = 9 then [38, 35, 48, 57, 59] else [c])
  else [c]
theorem chainC (l : List Nat) : subC 62 [38, 103, 116, 59] (subC 60 [38, 108, 116, 59] (subC 38 [38, 97, 109, 112, 59] l)) = l.flatMap (escS false) := by
  induction l with
  | nil => rfl
  | cons k r ih =>
    rw [show k :: r = [k] ++ r from rfl, subC_app, subC_app, subC_app, ih, List.flatMap_append]
    congr 1
    by_cases h1 : k = 38
    · subst h1; rfl
    by_cases h2 : k = 60
    · subst h2; rfl
    by_cases h3 : k = 62
    · subst h3; rfl
    simp [subC, escS, h1, h2, h3]
theorem chainA (l : List Nat) : subC 9 [38, 35, 48, 57, 59] (subC 10 [38, 35, 49, 48, 59] (subC 13 [38, 35, 49, 51, 59] (subC 34 [38, 113, 117, 111, 116, 59] (subC 62 [38, 103, 116, 59] (subC 60 [38, 108, 116, 59] (subC 38 [38, 97, 109, 112, 59] l)))))) = l.flatMap (escS true) := by
  induction l with
  | nil => rfl
  | cons k r ih =>
    rw [show k :: r = [k] ++ r from rfl, subC_app, subC_app, subC_app, subC_app, subC_app, subC_app, subC_app, ih, List.flatMap_append]
    congr 1
    by_cases h1 : k = 38
    · subst h1; rfl
    by_cases h2 : k = 60
    · subst h2; rfl
    by_cases h3 : k = 62
    · subst h3; rfl
    by_cases h4 : k = 34
    · subst h4; rfl
    by_cases h5 : k = 13
    · subst h5; rfl
    by_cases h6 : k = 10
    · subst h6; rfl
    by_cases h7 : k = 9
    · subst h7; rfl
    simp [subC, escS, h1, h2, h3, h4, h5, h6, h7]
theorem rep_l {x c v : PySem.Str} {l : List Nat} (d : Nat) (vs : List Nat) (e : x.cps.toList = l) (hc : c = ⟨#[d]⟩ := by decide +kernel) (hv : v.cps.toList = vs := by decide +kernel) : (Txt.replace x c v).cps.toList = subC d vs l := by
  subst hc; rw [replace_sub, e, hv]
theorem wr_flat (b : Bool) (x : PySem.Str) : (wr b x).cps.toList = x.cps.toList.flatMap (escS b) := by
  have e1 := rep_l (c := PySem.Str.ofString "&") (v := PySem.Str.ofString "&amp;") 38 [38, 97, 109, 112, 59] (rfl : x.cps.toList = x.cps.toList)
  have e2 := rep_l (c := PySem.Str.ofString "<") (v := PySem.Str.ofString "&lt;") 60 [38, 108, 116, 59] e1
  have e3 := rep_l (c := PySem.Str.ofString ">") (v := PySem.Str.ofString "&gt;") 62 [38, 103, 116, 59] e2
  have e4 := rep_l (c := PySem.Str.ofString "\"") (v := PySem.Str.ofString "&quot;") 34 [38, 113, 117, 111, 116, 59] e3
  have e5 := rep_l (c := PySem.Str.ofString "\r") (v := PySem.Str.ofString "&#13;") 13 [38, 35, 49, 51, 59] e4
  have e6 := rep_l (c := PySem.Str.ofString "\n") (v := PySem.Str.ofString "&#10;") 10 [38, 35, 49, 48, 59] e5
  have e7 := rep_l (c := PySem.Str.ofString "\t") (v := PySem.Str.ofString "&#09;") 9 [38, 35, 48, 57, 59] e6
  cases b
  · exact e3.trans (chainC _)
  · exact e7.trans (chainA _)
theorem join_flat : ∀ l : List PySem.Str, (Str.join ⟨#[]⟩ l).cps.toList = l.flatMap (·.cps.toList)
  | [] => rfl
  | [p] => by simp [Str.join]
  | p :: q :: r => by
    have ih := join_flat (q :: r)
    show (p ++ ⟨#[]⟩ ++ Str.join ⟨#[]⟩ (q :: r)).cps.toList = _
    simp only [Str.cps_append, Array.toList_append]
    rw [ih, List.flatMap_cons (x := p)]
    simp
theorem wr_join (b : Bool) (x : PySem.Str) : Str.join (PySem.Str.ofString "") (x.cps.toList.map fun c => ⟨(escS b c).toArray⟩) = wr b x := by
  apply Str.ext'
  apply Array.toList_inj.mp
  rw [wr_flat, show PySem.Str.ofString "" = ⟨#[]⟩ from by decide +kernel, join_flat, List.flatMap_map]
open PyProof.V in
theorem flat_to {v : Value} {d : PyData} {y : PySem.Str} (h : Flat v d) (e : d = .str y) : ∃ t, v = .str y t := by subst e; exact h.str_inv
theorem mk_one (c : Nat) (d : Nat) : PySem.Spec.same (PyData.str ⟨#[d]⟩) (PyData.str ⟨#[c]⟩) = decide (c = d) := by
  unfold PySem.Spec.same
  by_cases h : c = d
  · subst h; simp
  · simp [h, Ne.symm h]
theorem marks3 (c : Nat) : (PySem.Spec.lookup (PyData.str ⟨#[c]⟩) [(PyData.str (PySem.Str.ofString "&"), PyData.str (PySem.Str.ofString "&amp;")), (PyData.str (PySem.Str.ofString "<"), PyData.str (PySem.Str.ofString "&lt;")), (PyData.str (PySem.Str.ofString ">"), PyData.str (PySem.Str.ofString "&gt;"))]).getD (PyData.str ⟨#[c]⟩) = PyData.str ⟨(escS false c).toArray⟩ := by
  rw [show PySem.Str.ofString "&" = ⟨#[38]⟩ from by decide +kernel, show PySem.Str.ofString "<" = ⟨#[60]⟩ from by decide +kernel, show PySem.Str.ofString ">" = ⟨#[62]⟩ from by decide +kernel,
    show PySem.Str.ofString "&amp;" = ⟨#[38, 97, 109, 112, 59]⟩ from by decide +kernel, show PySem.Str.ofString "&lt;" = ⟨#[38, 108, 116, 59]⟩ from by decide +kernel, show PySem.Str.ofString "&gt;" = ⟨#[38, 103, 116, 59]⟩ from by decide +kernel]
  simp only [PySem.Spec.lookup, mk_one, escS, decide_eq_true_eq]
  split
  · rfl
  split
  · rfl
  split
  · rfl
  rfl
theorem marks7 (c : Nat) : (PySem.Spec.lookup (PyData.str ⟨#[c]⟩) [(PyData.str (PySem.Str.ofString "&"), PyData.str (PySem.Str.ofString "&amp;")), (PyData.str (PySem.Str.ofString "<"), PyData.str (PySem.Str.ofString "&lt;")), (PyData.str (PySem.Str.ofString ">"), PyData.str (PySem.Str.ofString "&gt;")),
    (PyData.str (PySem.Str.ofString "\""), PyData.str (PySem.Str.ofString "&quot;")), (PyData.str (PySem.Str.ofString "\r"), PyData.str (PySem.Str.ofString "&#13;")), (PyData.str (PySem.Str.ofString "\n"), PyData.str (PySem.Str.ofString "&#10;")), (PyData.str (PySem.Str.ofString "\t"), PyData.str (PySem.Str.ofString "&#09;"))]).getD (PyData.str ⟨#[c]⟩) = PyData.str ⟨(escS true c).toArray⟩ := by
  rw [show PySem.Str.ofString "&" = ⟨#[38]⟩ from by decide +kernel, show PySem.Str.ofString "<" = ⟨#[60]⟩ from by decide +kernel, show PySem.Str.ofString ">" = ⟨#[62]⟩ from by decide +kernel,
    show PySem.Str.ofString "&amp;" = ⟨#[38, 97, 109, 112, 59]⟩ from by decide +kernel, show PySem.Str.ofString "&lt;" = ⟨#[38, 108, 116, 59]⟩ from by decide +kernel, show PySem.Str.ofString "&gt;" = ⟨#[38, 103, 116, 59]⟩ from by decide +kernel,
    show PySem.Str.ofString "\"" = ⟨#[34]⟩ from by decide +kernel, show PySem.Str.ofString "\r" = ⟨#[13]⟩ from by decide +kernel, show PySem.Str.ofString "\n" = ⟨#[10]⟩ from by decide +kernel, show PySem.Str.ofString "\t" = ⟨#[9]⟩ from by decide +kernel,
    show PySem.Str.ofString "&quot;" = ⟨#[38, 113, 117, 111, 116, 59]⟩ from by decide +kernel, show PySem.Str.ofString "&#13;" = ⟨#[38, 35, 49, 51, 59]⟩ from by decide +kernel, show PySem.Str.ofString "&#10;" = ⟨#[38, 35, 49, 48, 59]⟩ from by decide +kernel, show PySem.Str.ofString "&#09;" = ⟨#[38, 35, 48, 57, 59]⟩ from by decide +kernel]
  simp only [PySem.Spec.lookup, mk_one, escS, decide_eq_true_eq, if_true]
  split
  · rfl
  split
  · rfl
  split
  · rfl
  split
  · rfl
  split
  · rfl
  split
  · rfl
  split
  · rfl
  rfl
theorem flatMap_len (b : Bool) : ∀ l : List Nat, ((l.map fun c => (⟨(escS b c).toArray⟩ : PySem.Str)).map (·.length)).sum ≤ 6 * l.length
  | [] => by simp
  | c :: r => by
    have ih := flatMap_len b r
    have h : (⟨(escS b c).toArray⟩ : PySem.Str).length ≤ 6 := by
      show (escS b c).toArray.size ≤ 6
      rw [List.size_toArray]
      unfold escS
      repeat' split
      all_goals simp
    simp only [List.map_cons, List.sum_cons, List.length_cons]
    omega
theorem join_text {w : World} {A : Around} {E : Value → Shared → Prop} {s : Shared} {D : Addr} {ys : List Value} {ss : List PySem.Str} {t : Tok} {Q : Value → Shared → Prop} (hl : s.heap.IsList D ys.toArray) (hi : StrsAre ys ss) (hok : (ss.map (·.length)).sum ≤ 1000000)
    (h : ∀ t' k, Q (.str (Str.join (PySem.Str.ofString "") ss) t') { s with toks := k }) : wpAny (model PySem.Challenge.rw_rs0197_01.row.prog w) A (call (.builtin "str.join") [.str (PySem.Str.ofString "") t, .ref D]) Q E s :=
  join_list hl (by simpa using hi) (by rw [show (PySem.Str.ofString "").length = 0 from by decide +kernel]; omega) fun t' k => by rw [show Txt.join (PySem.Str.ofString "") ss = Str.join (PySem.Str.ofString "") ss from StrLaws.glued_eq_join ..]; exact h t' k
section
local macro_rules | `(tactic| walk_at "callWith") => `(tactic| refine callWith_method1 ?_)
theorem c_spell (w : World) (x : PySem.Str) (tk : Tok) (b : Bool) (hx : x.length ≤ 6) : Con w 133 [.str x tk, .bool b] 2 20 (fun _ => True) (RetS (wr b x)) := by
  w_top off
  w_strict (
  unfold Con
  k_fill
  intro p loose mean mg mb dp un gd cn cs a ccd cl outer A₀ base h₀ L m news s Q E B F X N T hk hpre hd hu hret
  refine wpAny_call ?_
  k_dflt ((refine' code_defC ?k1 ?k2 ?k3 ?k4 ?k5 ?kA ?kF ?kK ?k6 ?k7 ?k8 ?k9 ?kB ?kD ?_ ?c2 ?c3 ?c4; (case kA => exact rfl); (case kF => exact rfl); (case kK => assumption); (case k1 => k_asm); (case k2 => k_asm); (case k3 => k_asm); (case k4 => k_asm); (case k5 => k_asm); (case k6 => k_is); (case k7 => k_is); (case k8 => ktr_room); (case k9 => exact BindsTo.of_eq rfl); (case kB => exact rfl); (case kD => decide +kernel); (case c2 => exact rfl); (case c3 => exact rfl); (case c4 => exact rfl); k_whole; intro g'q L'q h'q tk'q cells'q FG'q F'q N'q Y'q B'q X'q T'q l1q; (have l9q := Mine.offC l1q); (try k_lt l1q); k_cells Y'q; (try simp only [List.cons_append, List.nil_append] at N'q); (try dsimp only); (try k_lift B'q); (try k_fold)))
  (repeat ((fail_if_success (with_reducible show wpAny _ _ (eval (PySem.Expr.ListComp _ _ _ _) _) _ _ _)); (fail_if_success (with_reducible show wpAny _ _ (exec (PySem.Stmt.Assign _ (PySem.Expr.ListComp _ _ _ _) _) _) _ _ _)); (first | (k_unfold; (try dsimp only)) | (k_end; wrow_close) | walk1 | (dsimp only; walk1) | (leave1; (try dsimp only)) | fail "no step")))
  all_goals (repeat ((fail_if_success (with_reducible show wpAny _ _ (eval (PySem.Expr.ListComp _ _ _ _) _) _ _ _)); (fail_if_success (with_reducible show wpAny _ _ (exec (PySem.Stmt.Assign _ (PySem.Expr.ListComp _ _ _ _) _) _) _ _ _)); (first | (k_unfold; (try dsimp only)) | (k_end; wrow_close) | walk1 | (dsimp only; walk1) | (leave1; (try dsimp only)) | fail "no step")))
  all_goals (
    refine Mine.ListComp_S (by k_asm) (by rfl) (by decide) (by rfl) (by decide) (by rfl) ?_
    (first | (k_unfold; (try dsimp only)) | (k_end; wrow_close) | walk1 | (dsimp only; walk1) | (leave1; (try dsimp only)) | fail "no step")
    refine ⟨_, _, _, rfl, rfl, by k_asm, by k_asm, ?_, ?_⟩
    · rw [PySem.sizeLine_eq]; exact Nat.le_trans hx (by decide)
    rintro s₂ ⟨g2, rfl⟩
    refine Mine.rest_same x.cps.size (fun i y => ∃ c t, x.cps[i]? = some c ∧ y = .str ⟨(escS b c).toArray⟩ t) ?_ trivial ?_
    · rintro i ys v I oI C oC D m₂ h tk E' hi ⟨c, u, hcx, rfl⟩ hC hx₂ F2 N2 off ne
      (try dsimp only)
      refine Mine.absQ ?_
      intro K9 hK9
      iterate 11 (first | (k_unfold; (try dsimp only)) | (k_end; wrow_close) | walk1 | (dsimp only; walk1) | (leave1; (try dsimp only)) | fail "no step")
      (rename PyProof.V.Flat _ _ => hv)
      have hb : b = true ∨ b = false := by cases b <;> simp
      obtain ⟨t, rfl⟩ : ∃ t, _ = Value.str ⟨(escS b c).toArray⟩ t := by
        first
        | ((rename b = true => e); subst e; exact flat_to hv (marks7 c))
        | ((rename b = false => e); subst e; exact flat_to hv (marks3 c))
      exact hK9 (Mine.turnB (by k_asm) (by k_asm) ⟨c, t, hcx, rfl⟩)
    · intro ys hl hr
      have hs : StrsAre ys (x.cps.toList.map fun c => ⟨(escS b c).toArray⟩) := by
        refine Mine.strsAre_of (by rw [hl]; simp) fun i y e => ?_
        obtain ⟨c, t, hc, rfl⟩ := hr i y e
        exact ⟨t, by simp [hc]⟩
      unfold LCg.FinE
      intro D h tk F3 N3 off3
      (first | (k_unfold; (try dsimp only)) | (k_end; wrow_close) | walk1 | (dsimp only; walk1) | (leave1; (try dsimp only)) | fail "no step")
      refine Mine.join_text (w := w) (News.isList N3 (by exact .head _)) hs (Nat.le_trans (flatMap_len b _) (by rw [Array.length_toList]; have : x.cps.size ≤ 6 := hx; omega)) fun t' k => ?_
      (first | (k_unfold; (try dsimp only)) | (k_end; wrow_close) | walk1 | (dsimp only; walk1) | (leave1; (try dsimp only)) | fail "no step")
      exact hret _ [] _ _ (by k_asm) (by (first | k_asm | (refine' cb_drop ?cbN ?cbS; (case cbN => assumption); (case cbS => (intro pq hpq; repeat (first | exact hpq | refine List.Mem.tail _ ?_)))))) (fun _ h => nomatch h) (RetS.mk (wr_join b x))))
end

/-- where insort_right puts a row -/
noncomputable def insAt (rows : List (PySem.Str × Int)) (p : PySem.Str × Int) : Nat := bisR (fun k => rowLt p (rows.getD k p)) 6 0 rows.length
theorem kl_len {vs : List Value} {k : Int} {v : Value} : (kl_ins vs k v).length = vs.length + 1 := kl_ins_length ..
section
theorem c_insort {w : World} {l xt : Addr} {vs : List Value} {c : Nat} {rows : List (PySem.Str × Int)} {x : PySem.Str} {i : Int} {t u : Tok} {n : Nat} (hn : rows.length ≤ 6)
    {p : Program} {loose : List PySem.Str} {mean : ExcName → Option Value} {mg mb : PySem.Str → Option Value} {dp un : Nat} {gd : Option (List Code)} {cn : PySem.Str} {cs : Scope} {a : Addr} {ccd : Value} {cl : List (PySem.Str × Addr)} {outer : List Env} {A₀ : Around} {base h₀ : Heap} {L : Addr} {m : PySem.Str → Option Value}
    {news : List (Addr × Obj)} {s : Shared} {Q E : Value → Shared → Prop}
    (B : Below A₀ base outer h₀) (F : Fr h₀ L s.heap m) (X : (hd.heap_39 w.params).In h₀) (N : News h₀ L s.heap ((l, listOf vs.toArray c) :: news)) (T : Top p loose mean mg mb h₀) (hk : cs.kind = .function)
    (hoff : ∀ p ∈ news, p.1 ≠ l) (hrows : RowsAt news vs rows) (hx : (xt, rowObj x t i u n) ∈ news) (hd : dp + 2 < recursionLimit) (hu : un + 30 < cLine)
    (hret : ∀ h' tk' c', Fr h₀ L h' m → News h₀ L h' ((l, listOf (kl_ins vs ((insAt rows (x, i) : Nat) : Int) (.ref xt)).toArray c') :: news) → Q .none { s with heap := h', toks := tk' }) :
    wpAny (model PySem.Challenge.rw_rs0197_01.row.prog w) (ktrTop dp un gd cn cs L a ccd cl outer) (call (.ref 89) [.ref l, .ref xt]) Q E s := by
  w_top off
  w_strict (
  revert X
  k_fill
  intro X
  have hrows' : RowsAt ((l, listOf vs.toArray c) :: news) vs rows := hrows.mono fun p hp => .tail _ hp
  refine wpAny_call ?_
  k_dflt ((refine' code_def ?k1 ?k2 ?k3 ?k4 ?k5 ?kA ?kF ?kK ?k6 ?k7 ?k8 ?k9 ?kB ?_ ?c2 ?c3 ?c4 ?c5; (case kA => exact rfl); (case kF => exact rfl); (case kK => assumption); (case k1 => k_asm); (case k2 => k_asm); (case k3 => k_asm); (case k4 => k_asm); (case k5 => k_asm); (case k6 => k_is); (case k7 => k_is); (case k8 => ktr_room); (case k9 => first | (refine' kp_binds ?kx ?ke; (case kx => k_in); (case ke => exact fun _ => rfl)) | exact binds_K (by k_in) rfl (by k_is) rfl rfl rfl); (case c5 => decide); (case kB => exact locs rfl); (case c2 => exact rfl); (case c3 => exact rfl); (case c4 => exact rfl); k_whole; intro g'q L'q h'q FG'q F'q N'q B'q X'q T'q; (try dsimp only); (try k_lift B'q); (try k_fold)))
  iterate 24 (first | (k_unfold; (try dsimp only)) | (k_end; wrow_close) | walk1 | (dsimp only; walk1) | (leave1; (try dsimp only)) | fail "no step")
  refine' con_use1 (c_bisR w l xt vs c rows x i t u _ n hn) ?k1 ?k2 ?k3 ?k4 ?k5 ?kK ?kp ?kd ?ku (fun _ _ h => h) ?_
  (((case k1 => first | k_asm | fail "con: the frames below"); (case k2 => first | k_asm | fail "con: the frame"); (case k3 => first | k_asm | fail "con: the written part"); (case k4 => first | k_asm | fail "con: the ledger"); (case k5 => first | k_asm | fail "con: the top's facts"); (case kK => first | exact rfl | assumption | fail "con: the caller is no def"); (case kd => first | ktr_room | fail "con: the frames' room"); (case ku => first | ktr_units | fail "con: the C units")))
  (case kp => exact ⟨.head _, hrows', .tail _ hx⟩)
  intro t9 h9 tk9 F9 N9
  (try dsimp only)
  have hfit : Builtin.List.listFitsIndex ((bisR (fun k => rowLt (x, i) (rows.getD k (x, i))) 6 0 rows.length : Nat) : Int) = true := by
    have := (bisR_le (fun k => rowLt (x, i) (rows.getD k (x, i))) 6 0 rows.length (by omega) (by omega)).2
    unfold Builtin.List.listFitsIndex
    simp only [Bool.and_eq_true, decide_eq_true_eq]
    omega
  have hvn : vs.toArray.toList.length ≤ 6 := by simpa [hrows.1] using hn
  iterate 14 (first | (k_unfold; (try dsimp only)) | (k_end; wrow_close) | walk1 | (dsimp only; walk1) | (leave1; (try dsimp only)) | fail "no step")
  refine kl_insert (its := vs.toArray) (n := c) (by k_asm) (by k_asm) hfit rfl (.head hoff) (by rw [PySem.sizeLine_eq]; exact Nat.le_trans hvn (by decide)) fun h5 F5 N5 => ?_
  (try dsimp only)
  k_steps
  exact hret _ _ _ (by k_asm) (by k_asm))
end
/-- the row list with one more put in -/
noncomputable def rowsIns (rows : List (PySem.Str × Int)) (p : PySem.Str × Int) : List (PySem.Str × Int) := rows.take (insAt rows p) ++ p :: rows.drop (insAt rows p)
theorem insAt_le (rows : List (PySem.Str × Int)) (p : PySem.Str × Int) (h : rows.length ≤ 6) : insAt rows p ≤ rows.length := (bisR_le _ 6 0 rows.length (by omega) (by omega)).2
theorem rowsIns_len (rows : List (PySem.Str × Int)) (p : PySem.Str × Int) : (rowsIns rows p).length = rows.length + 1 := by
  unfold rowsIns
  rw [List.length_append, List.length_cons, List.length_take, List.length_drop]
  omega
theorem RowsAt.ins {news : List (Addr × Obj)} {vs : List Value} {rows : List (PySem.Str × Int)} {a : Addr} {x : PySem.Str} {i : Int} {t u : Tok} {n : Nat} (h : RowsAt news vs rows) (hn : rows.length ≤ 6) (hm : (a, rowObj x t i u n) ∈ news) :
    RowsAt news (kl_ins vs ((insAt rows (x, i) : Nat) : Int) (.ref a)) (rowsIns rows (x, i)) := by
  have hk := insAt_le rows (x, i) hn
  have e : kl_ins vs ((insAt rows (x, i) : Nat) : Int) (.ref a) = vs.take (insAt rows (x, i)) ++ .ref a :: vs.drop (insAt rows (x, i)) := by
    unfold kl_ins
    rw [if_neg (by omega), show min ((insAt rows (x, i) : Nat) : Int).toNat vs.length = insAt rows (x, i) from by rw [h.1]; omega]
  rw [e]
  refine ⟨by unfold rowsIns; simp only [List.length_append, List.length_cons, List.length_take, List.length_drop, h.1], fun j p hp => ?_⟩
  unfold rowsIns at hp
  have l1 : (rows.take (insAt rows (x, i))).length = insAt rows (x, i) := by rw [List.length_take]; omega
  have l2 : (vs.take (insAt rows (x, i))).length = insAt rows (x, i) := by rw [List.length_take, h.1]; omega
  by_cases hj : j < insAt rows (x, i)
  · rw [List.getElem?_append_left (by omega), List.getElem?_take_of_lt hj] at hp
    rw [List.getElem?_append_left (by omega), List.getElem?_take_of_lt hj]
    exact h.2 j p hp
  · rw [List.getElem?_append_right (by omega), l1] at hp
    rw [List.getElem?_append_right (by omega), l2]
    cases hd : j - insAt rows (x, i) with
    | zero =>
      rw [hd] at hp
      cases hp
      exact ⟨a, t, u, n, rfl, hm⟩
    | succ d =>
      rw [hd, List.getElem?_cons_succ, List.getElem?_drop] at hp
      rw [List.getElem?_cons_succ, List.getElem?_drop]
      exact h.2 _ p hp

/-- two lists of ints, place by place -/
noncomputable def lexI : List Int → List Int → Bool
  | [], [] => false
  | [], _ :: _ => true
  | _ :: _, [] => false
  | x :: xs, y :: ys => if x = y then lexI xs ys else decide (x < y)
theorem ints_none {vs : List Value} {xs : List Int} {i : Nat} (h : IntsAre vs xs) (hi : xs.length ≤ i) : (vs.toArray : Array Value)[((i : Nat) : Int).toNat]? = none := by
  have := h.length
  simp; omega
theorem ints_some {vs : List Value} {xs : List Int} {i : Nat} (h : IntsAre vs xs) (hi : i < xs.length) : ∃ t, (vs.toArray : Array Value)[((i : Nat) : Int).toNat]? = some (.int xs[i] t) := by
  have hl := h.length
  induction h generalizing i with
  | nil => simp at hi
  | cons x t _ ih =>
    cases i with
    | zero => exact ⟨t, by simp⟩
    | succ i =>
      obtain ⟨t', e⟩ := ih (by simpa using hi) (by simpa using hl)
      exact ⟨t', by simpa using e⟩
open PySem.SeqAt MeetsSeq MeetsSeq2 MeetsSeq3 in
open AutoSeq1 (wpAny_loadPart') in
theorem lt_loop (l b : Addr) (vs us : List Value) (xs ys : List Int) (n n2 : Nat) (hv : IntsAre vs xs) (hu : IntsAre us ys) (k : Nat) :
    ∀ i : Nat, xs.length - i = k → i ≤ xs.length → i ≤ ys.length → Meets (Builtin.«list.__eq__.loop» ⟨[.ref l, .ref b, rawInt i, rawInt 0], []⟩)
      (fun A R s => s.heap.get? l = some { cls := .type "list", dict := none, data := .seq vs.toArray n, slots := #[] } ∧ s.heap.get? b = some { cls := .type "list", dict := none, data := .seq us.toArray n2, slots := #[] } ∧
        R (.ok (.ret (.bool (lexI (xs.drop i) (ys.drop i))))) s) := by
  have hvl := hv.length
  have hul := hu.length
  induction k with
  | zero =>
    intro i hk hi1 hi2 prog w A R s h
    obtain ⟨hp, g, d, tk, os⟩ := s; obtain ⟨hl, hb, h⟩ := h
    wp_walk using wpAny_loadPart' hl, wpAny_loadPart' hb
    rw [ints_none hv (by omega)]
    rw [List.drop_eq_nil_of_le (by omega)] at h
    have e : (decide (vs.toArray.size < us.toArray.size)) = lexI [] (ys.drop i) := by
      rw [List.size_toArray, List.size_toArray]
      rcases Nat.lt_or_ge i ys.length with hi | hi
      · rw [List.drop_eq_getElem_cons hi, lexI, decide_eq_true_eq]; omega
      · rw [List.drop_eq_nil_of_le hi, lexI, decide_eq_false_iff_not]; omega
    rw [← e] at h
    wp_walk using wpAny_loadPart' hl, wpAny_loadPart' hb
    exact h
  | succ k ih =>
    intro i hk hi1 hi2 prog w A R s h
    obtain ⟨hp, g, d, tk, os⟩ := s; obtain ⟨hl, hb, h⟩ := h
    wp_walk using wpAny_loadPart' hl, wpAny_loadPart' hb
    have hlt : i < xs.length := sub_pos1 hk
    have hc : ((i : Int) + 1) = ((i + 1 : Nat) : Int) := by push_cast; rfl
    obtain ⟨t, ex⟩ := ints_some hv hlt
    rw [List.drop_eq_getElem_cons hlt] at h
    rcases Nat.lt_or_ge i ys.length with hy | hy
    · obtain ⟨u, ey⟩ := ints_some hu hy
      rw [List.drop_eq_getElem_cons hy, lexI] at h
      rw [ex, ey]
      refine wpAny_bind (wpAny_eqBool_int ?_)
      by_cases hxy : xs[i] = ys[i]
      · rw [if_pos hxy] at h
        rw [beq_iff_eq.mpr hxy]
        wp_walk
        rw [hc]
        exact ⟨plainId_quiet plain_eq_loop _, codeAny_builtin entry_eq_loop (by
          rw [Around.under_plainId plain_eq_loop _]
          exact ih (i + 1) (sub1 hk) hlt hy prog w A R _ ⟨hl, hb, h⟩)⟩
      · rw [if_neg hxy] at h
        rw [beq_eq_false_iff_ne.mpr hxy]
        wp_walk using wpAny_loadPart' hl, wpAny_loadPart' hb
        rw [ex, ey]
        refine wpAny_bind ?_
        refine PyProof.Rows.lt_int (t := t) (u := u) ?_
        exact wpAny_pure h
    · rw [List.drop_eq_nil_of_le hy, lexI] at h
      rw [ex, ints_none hu hy]
      have e : (decide (vs.toArray.size < us.toArray.size)) = false := by
        rw [List.size_toArray, List.size_toArray, decide_eq_false_iff_not]; omega
      rw [← e] at h
      wp_walk using wpAny_loadPart' hl, wpAny_loadPart' hb
      exact h
open PySem.SeqAt MeetsSeq MeetsSeq2 MeetsSeq3 in
open AutoSeq1 (wpAny_loadPart') in
theorem lt_meets (l b : Addr) (vs us : List Value) (xs ys : List Int) (n n2 : Nat) (hv : IntsAre vs xs) (hu : IntsAre us ys) :
    Meets (Builtin.«list.__lt__» ⟨[.ref l, .ref b], []⟩)
      (fun A R s => s.heap.get? l = some { cls := .type "list", dict := none, data := .seq vs.toArray n, slots := #[] } ∧ s.heap.get? b = some { cls := .type "list", dict := none, data := .seq us.toArray n2, slots := #[] } ∧
        R (.ok (.ret (.bool (lexI xs ys)))) s) := by
  intro prog w A R s h
  obtain ⟨hp, g, d, tk, os⟩ := s; obtain ⟨hl, hb, h⟩ := h
  have f3 := AutoSeq1.sub_list_list
  wp_walk using wpAny_loadPart' hl, wpAny_loadPart' hb
  exact ⟨plainId_quiet plain_eq_loop _, codeAny_builtin entry_eq_loop (by
    rw [Around.under_plainId plain_eq_loop _]
    exact lt_loop l b vs us xs ys n n2 hv hu _ 0 rfl (Nat.zero_le _) (Nat.zero_le _) prog w A R _ ⟨hl, hb, h⟩)⟩
theorem lt_lists {prog : Program} {w : World} {A : Around} {E : Value → Shared → Prop} {s : Shared} {a b : Addr} {vs us : List Value} {xs ys : List Int} {n k : Nat} {Q : Value → Shared → Prop}
    (hA : s.heap.get? a = some (listOf vs.toArray n)) (hB : s.heap.get? b = some (listOf us.toArray k)) (hv : IntsAre vs xs) (hu : IntsAre us ys) (hz : A.units < cLine) (h : Q (.bool (lexI xs ys)) s) :
    wpAny (model prog w) A (compareOp .Lt (.ref a) (.ref b)) Q E s := by
  exact cmp_ofLt (PySem.richCompare_meets_room (op := .Lt) ⟨_, hA, rfl⟩ ⟨_, hB, rfl⟩ PySem.F.slot_list_lt PySem.F.entry_list_lt (PySem.F.args_list_lt_2 _ _) (lt_meets a b vs us xs ys n k hv hu) ⟨hA, hB, show Value.bool (lexI xs ys) ≠ Value.notImplemented ∧ Q (.bool (lexI xs ys)) s from ⟨(fun q => nomatch q), h⟩⟩ hz)
theorem one_lt_lists {prog : Program} {w : World} {A : Around} {E : Value → Shared → Prop} {s : Shared} {a b : Addr} {vs us : List Value} {xs ys : List Int} {n k : Nat} {Q : Bool → Shared → Prop}
    (hA : s.heap.get? a = some (listOf vs.toArray n)) (hB : s.heap.get? b = some (listOf us.toArray k)) (hv : IntsAre vs xs) (hu : IntsAre us ys) (hz : A.units < cLine) (h : Q (lexI xs ys) s) :
    wpAny (model prog w) A (oneLt' true (.ref a) (.ref b)) Q E s := by
  have hT : s.TypeIs (.ref a) "list" := ⟨_, hA, rfl⟩
  rw [oneLt'_eq]
  simp only [if_true]
  refine wpAny_bind (wpAny_cRoomFor hz ?_)
  refine wpAny_bind (wpAny_callSpecialIfBound?_slot hT PySem.F.slot_list_lt (PySem.call_meets PySem.F.slot_list_lt hT PySem.F.entry_list_lt (PySem.F.args_list_lt_2 _ _) (lt_meets a b vs us xs ys n k hv hu) ⟨hA, hB, ?_⟩))
  exact wpAny_truthy_bool h
open PyProof.Rows in
theorem collect_range {prog : Program} {w : World} {A : Around} {E : Value → Shared → Prop} {s : Shared} {r : Addr} {a b : Int} {t u v : Tok} {n : Nat} {Q : List Value → Shared → Prop} (hh : A.handled = none) (hr : IsRange s.heap r a b 1 t u v) (hsmall : Builtin.Range.small a b 1 = true)
    (hn : Builtin.Range.rangeSize a b 1 = (n : Int)) (hz : n ≤ 2 ^ 24)
    (h : ∀ h' tk acc, (∀ b o, s.heap.get? b = some o → h'.get? b = some o) → ItemsOf (fun i v => ∃ t, v = .int (a + i * 1) t) acc n → Q acc.toList { s with heap := h', toks := tk }) :
    wpAny (model prog w) A (collect (.ref r)) Q E s := by
  unfold collect
  refine wpAny_bind (wpAny_runValue (codeAny_builtin entry_proto_collect' ?_))
  show wpAny _ _ (do again (.builtin "list.__iadd__" ⟨[← newList [], .ref r], []⟩)) _ _ s
  refine wpAny_bind (wpAny_newList (wpAny_pure ⟨Code.quiet_builtin _ (by decide +kernel), codeAny_builtin entry_list_iadd' ?_⟩))
  have hS : (s.heap.push (seqObj "list" #[] 0)).get? s.heap.objs.size = some (seqObj "list" #[] 0) := Heap.get?_push_size _ rfl
  have hr' : IsRange (s.heap.push (seqObj "list" #[] 0)) r a b 1 t u v := Heap.get?_push_of_some _ hr
  rw [Around.under_plainId (id := "list.__iadd__") (by decide +kernel)]
  show wpAny _ _ (Builtin.List.listExtendWith (.ref s.heap.objs.size) (.ref r) (.ref s.heap.objs.size)) _ _ _
  refine wpAny_extend_range (R := fun r s' => match r with
      | .ok (.ret v) => wpAny (model prog w) A (match v with
          | .ref a => do match (← load a).data with | .seq xs _ => pure xs.toList | _ => unsupported "internal:collect"
          | _ => unsupported "internal:collect") Q E s'
      | .ok _ => False
      | .error e => E e s') (s := { s with heap := s.heap.push (seqObj "list" #[] 0) }) (A := A) hh hr' hsmall hn hz s.heap.objs.size (.ref s.heap.objs.size) 0 hS fun h' tk acc' c' hk hS' hacc => ?_
  dsimp only
  refine wpAny_bind (wpAny_load hS' ?_)
  exact wpAny_pure (h h' tk acc' (fun b o e => hk b o (Nat.ne_of_lt (Heap.lt_size e)) (Heap.get?_push_of_some _ e)) hacc)
open PyProof.Rows in
theorem sortedK_range {prog : Program} {w : World} {A : Around} {E : Value → Shared → Prop} {s : Shared} {h₀ : Heap} {L : Addr} {m : PySem.Str → Option Value} {news : List (Addr × Obj)} {r : Addr} {a b : Int} {t u v : Tok} {n : Nat} {rv : Bool} {f : Value} {kw : List (PySem.Str × Value)} {Q : Value → Shared → Prop}
    (hh : A.handled = none) (hr : IsRange s.heap r a b 1 t u v) (hsmall : Builtin.Range.small a b 1 = true) (hn : Builtin.Range.rangeSize a b 1 = (n : Int))
    (F : Fr h₀ L s.heap m) (N : News h₀ L s.heap news) (h2 : 2 ≤ n) (h64 : n < 64)
    (ha1 : argsOk "sorted" ⟨[.ref r], kw⟩) (ha2 : ∀ x, argsOk "list.sort" ⟨[.ref x], kw⟩) (ht : ∀ x, Builtin.«list.sort» ⟨[.ref x], kw⟩ = ksk_tree x f rv)
    (h : ∀ vs D kS e1 h' tk, IntsAre vs (rangeKs a n) → Fr h₀ L h' m → News h₀ L h' ((kS, seqObj "list" #[] 0) :: (D, seqObj "list" #[] e1) :: news) → D < kS → (∀ q ∈ news, q.1 < D) →
      KatKeys prog w A.in1.in1 h₀ L m kS f (fun ks e s' => wpAny (model prog w) A.in1.in1 (keyKind' (List.toArray ks)) (fun κ s'' => (kas_sort vs.length).kasWp (kas_ask prog w A.in1.in1 κ (katRev rv ks)) (fun p s3 => KatFin h₀ L m kS D ks e e1 (katRev rv (p.toList.map fun i => (katRev rv vs).getD i Value.none)) (fun s4 => Q (.ref D) s4) s3) s'') (fun _ _ => False) s') vs [] 0 { s with heap := h', toks := tk }) :
    wpAny (model prog w) A (call (.builtin "sorted") [.ref r] kw) Q E s := by
  refine call_function_entry_kw kind_sorted plain_sorted entry_sorted ha1 ?_
  unfold Builtin.«sorted»
  refine wpAny_bind (m := checkCount "sorted" 1 1 _) (wpAny_pure ?_)
  refine wpAny_bind (collect_range hh hr hsmall hn (by omega) fun h1 tk acc keep hacc => ?_)
  have hvs : IntsAre acc.toList (rangeKs a n) := kll_ints _ _ _ (by rw [Array.length_toList]; exact hacc.1) fun j v hj => hacc.2 j v (by rw [← hj, Array.getElem?_toList])
  have hlen : acc.toList.length = n := by rw [Array.length_toList]; exact hacc.1
  generalize acc.toList = vs at hvs hlen
  refine wpAny_bind (wpAny_newList ?_ (by rw [sizeLine_eq]; omega))
  have F1 := F.keeps keep
  have N1 := N.grown keep
  have hoL : (h1.push (seqObj "list" vs.toArray 0)).get? h1.objs.size = some (seqObj "list" vs.toArray 0) := Heap.get?_push_size _ rfl
  have hL : L < h1.objs.size := F1.ns.lt
  refine wpAny_bind (wpAny_holding (wpAny_call_entry_kw slot_list_sort ⟨_, hoL, rfl⟩ entry_list_sort ?body (ha2 _)))
  case body =>
    have ht' := ht h1.objs.size
    show wpAny (model prog w) A.in1.in1 (Builtin.«list.sort» ⟨[.ref h1.objs.size], kw⟩) _ _ _
    rw [ht']
    refine kat_keyed (s := { s with heap := h1.push (seqObj "list" vs.toArray 0), toks := tk })
      (F1.push _) (N1.grown fun b o e => Heap.get?_push_of_some _ e) hoL (Nat.ne_of_gt hL) (Heap.get?_none_of_le (Nat.le_trans F1.above (Nat.le_of_lt hL)))
      (fun p hp => Nat.ne_of_lt (Heap.lt_size (N1 p hp).1)) (by omega) (by omega) fun kS e1 h' F' N' l0 l1 => ?_
    refine kat_keys_mono (h vs _ kS e1 h' tk hvs F' N' l0 fun q hq => Heap.lt_size (N1 q hq).1) fun ks e s' hl' hd => ?_
    have hl2 : ks.length = vs.length := by simpa using hl'
    refine wpAny_mono hd (fun κ s'' hk => ?_) fun _ _ x => x
    rw [kat_ask_eq (vs := katRev rv vs) (by rw [kat_len, kat_len, hl2])] at hk ⊢
    exact kas_wp_mono hk fun p s3 hk' => hk'.mono fun s4 hq => ⟨_, rfl, wpAny_pure ⟨_, rfl, hq⟩⟩

theorem len_carried {w : World} {A : Around} {E : Value → Shared → Prop} {s : Shared} {D : Addr} {ys : List Value} {ds : List Int} {Q : Value → Shared → Prop} (hl : s.heap.IsList D ys.toArray) (hc : CarriedAll ys (ds.map PyData.int)) (hb : ds.length ≤ 100)
    (h : Q (.int (ds.length : Nat) (s.toks + 1)) { s with toks := s.toks + 1 + 1 }) : wpAny (model PySem.Challenge.rw_rs0197_01.row.prog w) A (call (.builtin "len") [.ref D]) Q E s := by
  have e : ys.toArray.size = ds.length := by rw [List.size_toArray, CarriedAll.length_eq hc, List.length_map]
  exact len_list hl (by rw [e]; have : (ds.length : Int) ≤ 100 := by exact_mod_cast hb
                        omega) (by rw [e]; exact h)
/-- what _law_longest gives -/
noncomputable def longI (ns : List Int) : Int := if (ns.getD 0 0 + 1).fdiv 2 > (ns.filter fun a => decide (0 < a)).length then (ns.getD 0 0 + 1).fdiv 2 else (ns.filter fun a => decide (0 < a)).length
section
local macro_rules | `(tactic| walk_at "call builtin:len") => `(tactic| (refine Mine.len_carried (by with_reducible assumption) (by with_reducible assumption) (Nat.le_trans (List.length_filter_le _ _) (by omega)) ?_))
theorem c_longest (w : World) (l : Addr) (vs : List Value) (ns : List Int) (n : Nat) (hi : IntsAre vs ns) (hlen : ns.length < 64) (hpos : 0 < ns.length) : Con w 172 [.ref l] 1 20 (fun news => (l, listOf vs.toArray n) ∈ news)
    (RetI (longI ns)) := by
  w_top off
  w_strict (
  unfold Con
  k_fill
  intro p loose mean mg mb dp un gd cn cs a ccd cl outer A₀ base h₀ L m news s Q E B F X N T hk hpre hd hu hret
  replace N : News h₀ L s.heap ((l, listOf vs.toArray n) :: news) := fun p hp => by rcases List.mem_cons.mp hp with rfl | hp; exact N _ hpre; exact N _ hp
  refine wpAny_call ?_
  k_dflt cell_enter
  k_steps
  all_goals exact hret _ [] _ _ (by k_asm) (by (first | k_asm | (refine' cb_drop ?cbN ?cbS; (case cbN => assumption); (case cbS => (intro pq hpq; repeat (first | exact hpq | refine List.Mem.tail _ ?_)))))) (fun _ h => nomatch h) (RetI.mk rfl))
end
noncomputable def pickI (ns : List Int) (lo hi st : Option Int) : List Int := (sliceRange (sliceBounds lo hi st ns.length).1 (sliceBounds lo hi st ns.length).2.1 (sliceBounds lo hi st ns.length).2.2).filterMap (ns[·]?)
theorem pick_ints {vs : List Value} {ns : List Int} (hi : IntsAre vs ns) (lo hi' st : Option Int) : IntsAre (slicePick vs.toArray lo hi' st).toList (pickI ns lo hi' st) := by
  have e : vs.toArray.size = ns.length := by rw [List.size_toArray, hi.length]
  unfold slicePick pickI
  rw [e]
  generalize sliceRange _ _ _ = l
  show IntsAre (l.filterMap (vs.toArray[·]?)) _
  induction l with
  | nil => exact .nil
  | cons k r ih =>
    rw [List.filterMap_cons, List.filterMap_cons]
    by_cases hk : k < ns.length
    · obtain ⟨t, hx⟩ := hi.get k ns[k] (by simp [hk])
      have h1 : vs.toArray[k]? = some (.int ns[k] t) := by simpa using hx
      have h2 : ns[k]? = some ns[k] := by simp [hk]
      rw [h1, h2]
      exact .cons _ _ ih
    · have h1 : vs.toArray[k]? = none := by rw [Array.getElem?_eq_none]; omega
      have h2 : ns[k]? = none := by rw [List.getElem?_eq_none]; omega
      rw [h1, h2]; exact ih
theorem sum_pick {w : World} {A : Around} {E : Value → Shared → Prop} {s : Shared} {h₀ : Heap} {L D : Addr} {m : PySem.Str → Option Value} {news : List (Addr × Obj)} {k : Nat} {vs : List Value} {ns : List Int} {lo hi' st : Option Int} {Q : Value → Shared → Prop} (hh : A.handled = none) (F : Fr h₀ L s.heap m) (N : News h₀ L s.heap news)
    (hm : (D, ({ cls := .type "list", data := .seq (slicePick vs.toArray lo hi' st) k } : Obj)) ∈ news) (hi : IntsAre vs ns)
    (h : ∀ h' tk t', Fr h₀ L h' m → News h₀ L h' news → Q (.int (pickI ns lo hi' st).sum t') { s with heap := h', toks := tk }) :
    wpAny (model PySem.Challenge.rw_rs0197_01.row.prog w) A (call (.builtin "sum") [.ref D]) Q E s :=
  sumK (vs := (slicePick vs.toArray lo hi' st).toList) hh F N (News.isList N hm) (pick_ints hi lo hi' st) h
/-- what _law_level gives -/
noncomputable def levI (ns : List Int) (i : Int) : Int := i * (ns.length - 1 + (pickI ns (some (i - 1)) none (some i)).sum) + (ns.getD 0 0 + 1).fdiv 2
section
local macro_rules | `(tactic| walk_at "call builtin:sum") => `(tactic| (refine Mine.sum_pick (by with_unfolding_all rfl) (by k_asm) (by k_asm) (List.Mem.head _) (by with_reducible assumption) ?_; intro h' tk' t' F' N'))
theorem c_level (w : World) (l : Addr) (vs : List Value) (ns : List Int) (n : Nat) (i : Int) (ti : Tok) (hi : IntsAre vs ns) (hlen : ns.length < 64) (hpos : 0 < ns.length) (hi1 : 1 ≤ i) (hi2 : i ≤ 20) : Con w 179 [.ref l, .int i ti] 1 20 (fun news => (l, listOf vs.toArray n) ∈ news)
    (RetI (levI ns i)) := by
  w_top off
  w_strict (
  unfold Con
  k_fill
  intro p loose mean mg mb dp un gd cn cs a ccd cl outer A₀ base h₀ L m news s Q E B F X N T hk hpre hd hu hret
  replace N : News h₀ L s.heap ((l, listOf vs.toArray n) :: news) := fun p hp => by rcases List.mem_cons.mp hp with rfl | hp; exact N _ hpre; exact N _ hp
  refine wpAny_call ?_
  k_dflt cell_enter
  k_steps
  all_goals exact hret _ [] _ _ (by k_asm) (by (first | k_asm | (refine' cb_drop ?cbN ?cbS; (case cbN => assumption); (case cbS => (intro pq hpq; repeat (first | exact hpq | refine List.Mem.tail _ ?_)))))) (fun _ h => nomatch h) (RetI.mk rfl))
end

/-- the counts of _law_norm -/
noncomputable def normI (ns : List Int) : List Int := (List.range ((((ns.length : Int) - 1) :: ns).filter fun a => decide (0 < a)).length).map fun i => (((ns.length : Int) - 1) :: ns).getD i 0 - (((ns.length : Int) - 1) :: ns).getD (i + 1) 0
section
local macro_rules | `(tactic| walk_at "call type:tuple") => `(tactic| k_dflt (refine kde_tupleOf (by k_asm) (by k_asm) (News.isList (by k_asm) (by k_mem)) (by rw [List.size_toArray]; omega) rfl ?_; intro D' h' F' N' l1; (try k_lt l1)))
local macro_rules | `(tactic| walk_at "call builtin:len") => `(tactic| (refine Mine.len_carried (by with_reducible assumption) (by with_reducible assumption) (Nat.le_trans (List.length_filter_le _ _) (by simp only [List.length_append, List.length_cons, List.length_nil]; omega)) ?_))
local macro_rules | `(tactic| walk_at "CompSrc") => `(tactic| fail "here")
theorem c_norm (w : World) (l : Addr) (vs : List Value) (ns : List Int) (n : Nat) (hi : IntsAre vs ns) (hlen : ns.length < 64) (hpos : 0 < ns.length) (hfew : ((((ns.length : Int) - 1) :: ns).filter fun a => decide (0 < a)).length ≤ ns.length) : Con w 167 [.ref l] 1 20 (fun news => (l, listOf vs.toArray n) ∈ news)
    (fun tl r => DatIn tl r (.tuple [.tuple ((normI ns).map Dat.int), .int ((ns.getD 0 0 + 1).fdiv 2)])) := by
  w_top off
  w_strict (
  unfold Con
  k_fill
  intro p loose mean mg mb dp un gd cn cs a ccd cl outer A₀ base h₀ L m news s Q E B F X N T hk hpre hd hu hret
  replace N : News h₀ L s.heap ((l, listOf vs.toArray n) :: news) := fun p hp => by rcases List.mem_cons.mp hp with rfl | hp; exact N _ hpre; exact N _ hp
  refine wpAny_call ?_
  k_dflt ((refine' code_defC ?k1 ?k2 ?k3 ?k4 ?k5 ?kA ?kF ?kK ?k6 ?k7 ?k8 ?k9 ?kB ?kD ?_ ?c2 ?c3 ?c4; (case kA => exact rfl); (case kF => exact rfl); (case kK => assumption); (case k1 => k_asm); (case k2 => k_asm); (case k3 => k_asm); (case k4 => k_asm); (case k5 => k_asm); (case k6 => k_is); (case k7 => k_is); (case k8 => ktr_room); (case k9 => exact BindsTo.of_eq rfl); (case kB => exact rfl); (case kD => decide +kernel); (case c2 => exact rfl); (case c3 => exact rfl); (case c4 => exact rfl); k_whole; intro g'q L'q h'q tk'q cells'q FG'q F'q N'q Y'q B'q X'q T'q l1q; (have l9q := Mine.offC l1q); (try k_lt l1q); k_cells Y'q; (try simp only [List.cons_append, List.nil_append] at N'q); (try dsimp only); (try k_lift B'q); (try k_fold)))
  (repeat ((fail_if_success (with_reducible show PyProof.Rows.LCg.CompSrc _ _ _ _ _ _ _ _ _ _ _ _ _ _)); (fail_if_success (with_reducible show PyProof.Rows.LCt.CompSrcT _ _ _ _ _ _ _ _ _ _ _ _ _ _ _)); (first | (k_unfold; (try dsimp only)) | (k_end; wrow_close) | walk1 | (dsimp only; walk1) | (leave1; (try dsimp only)) | fail "no step")))
  refine Mine.comp_range (by rfl) (by k_asm) (by k_asm) (by with_reducible assumption) (by omega) (by omega) ?_
  intro g
  refine Mine.rest_same _ (fun i y => ∃ t, y = .int ((((ns.length : Int) - 1) :: ns).getD i 0 - (((ns.length : Int) - 1) :: ns).getD (i + 1) 0) t) ?_ trivial ?_
  · rintro i ys v I oI C oC D m₂ h tk E' hi ⟨tv, rfl⟩ hC hx₂ F2 N2 off ne
    rw [Mine.toNat0] at hi
    (try dsimp only)
    refine Mine.absQ ?_
    intro K9 hK9
    iterate 13 (first | (k_unfold; (try dsimp only)) | (k_end; wrow_close) | walk1 | (dsimp only; walk1) | (leave1; (try dsimp only)) | fail "no step")
    refine hK9 (Mine.turnB (by k_asm) (by k_asm) (int_at ?_))
    rw [Mine.z0, Mine.z1]
    rfl
  · intro ys hl hr
    have hs : IntsAre ys (normI ns) := by
      refine Mine.intsAre_of (by unfold normI; rw [hl, List.length_map, List.length_range]; omega) fun i y e => ?_
      obtain ⟨t, rfl⟩ := hr i y e
      have hb : i < ys.length := by rcases Nat.lt_or_ge i ys.length with h | h; exact h; rw [List.getElem?_eq_none h] at e; cases e
      refine ⟨t, ?_⟩
      unfold normI
      rw [List.getElem?_map, List.getElem?_range (by omega)]
      rfl
    have hy : ys.length ≤ 64 := by omega
    iterate 17 (first | (k_unfold; (try dsimp only)) | (k_end; wrow_close) | walk1 | (dsimp only; walk1) | (leave1; (try dsimp only)) | fail "no step")
    (rename News h₀ L _ _ => kN0)
    refine hret _ [_, _] _ _ (by k_asm) (cb_drop kN0 ((Mine.allC (.head _) ((Mine.allC (.tail _ (.head _)) (by ((intro pq hpq; repeat (first | exact hpq | refine List.Mem.tail _ ?_))))))))) ?_ (.tuple (.head _) (.cons (.tuple (.tail _ (.head _)) (datInts hs)) (.cons (.int _ _) .nil)))
    (((repeat (refine Mine.own_cons (by first | exact Mine.ne_lt' (by assumption) | exact Mine.ne_lt' (by tbn_find) | exact Mine.ne_lt (by assumption) | exact Mine.off1_out (by assumption) | (refine Mine.off1_out ?_; simp_all only)) ?_)); first | exact Mine.own_nil | assumption)))
end

/-- a for over a range: the iterator is the ledger's first entry in a turn -/
theorem for_range {prog : Program} {w : World} {A : Around} {E : Value → Shared → Prop} {s : Shared} {env : Env} {h₀ : Heap} {L : Addr} {Q : Flow → Shared → Prop} {tgt : PySem.Expr} {body : List Stmt} {r : Addr} {a b : Int} {t u v : Tok} {m : PySem.Str → Option Value} {news : List (Addr × Obj)}
    (J : Addr → Nat → (PySem.Str → Option Value) → List (Addr × Obj) → Prop)
    (hh : A.handled = none) (hr : IsRange s.heap r a b 1 t u v) (ha : 0 ≤ a ∧ a ≤ 1000) (hb : 0 ≤ b ∧ b ≤ 1000)
    (F : Fr h₀ L s.heap m) (N : News h₀ L s.heap news) (h0 : ∀ I, (∀ p ∈ news, p.1 < I) → J I 0 m news)
    (turn : ∀ I i tv oI m₁ news₁ h tk, i < (b - a).toNat → J I i m₁ news₁ → (∀ p ∈ news₁, p.1 ≠ I) → Fr h₀ L h m₁ → News h₀ L h ((I, oI) :: news₁) →
      wpAny (model prog w) A (assign tgt env (.int (a + (i : Int)) tv)) (fun _ s₂ => wpAny (model prog w) A (execs body env) (LoopEnd h₀ L s I oI (J I (i + 1)) Q) E s₂) E { s with heap := h, toks := tk })
    (done : ∀ I m₁ news₁ h tk, J I (b - a).toNat m₁ news₁ → Fr h₀ L h m₁ → News h₀ L h news₁ → Q .next { s with heap := h, toks := tk })
    (ht : ∀ I v, letOwnedTupleGo tgt (.ref I) v = pure () := by intro _ _; rfl)
    (hL : env.locals = L := by rfl) (hE : PassesOwn (model prog w) A env E := by passes_own) :
    wpAny (model prog w) A (pyIter (.ref r)) (fun it s₂ => codeAny (model prog w) A (.forLoop tgt it body [] env) (fun r s' => match r with | .ok f => Q f s' | .error e => cameBackBy (model prog w) A env E e s') s₂) E s := by
  refine wpAny_pyIter_range hr (small_one (by omega) (by omega) (by omega) (by omega)) ?_
  have up : ∀ (o : Obj) b o', s.heap.get? b = some o' → (s.heap.push o).get? b = some o' := fun o b o' e => Heap.get?_push_of_some _ e
  have hlt : ∀ p ∈ news, p.1 < s.heap.objs.size := fun p hp => Heap.lt_size (N p hp).1
  refine for_walk (keepS := []) (fun i m news => J s.heap.objs.size i m news) hL (PyProof.Rows.LCg.range_walks hh a (b - a).toNat) (next_is_new F) (Nat.ne_of_gt F.ns.lt) (fun _ _ _ _ p hp => nomatch hp)
    (fun b hb => .inl (List.mem_singleton.mp hb)) ?_ (F.keeps (up _)) (N.grown (up _)) (fun p hp => Nat.ne_of_lt (hlt p hp)) (h0 _ hlt) ⟨_, Heap.get?_push_size _ rfl⟩ (fun _ _ st => ⟨_, st⟩) (ht _) ?_ (fun m₁ news₁ h tk hj F₁ N₁ => done _ m₁ news₁ h tk hj F₁ N₁) hE
  · show IsRangeIter _ _ _ _ _
    rw [rangeSize_nat]
    simpa using Heap.get?_push_size _ rfl
  · rintro i v oI m₁ news₁ h tk hi ⟨tv, rfl⟩ hj hoff F₁ N₁
    exact turn _ i tv oI m₁ news₁ h tk hi hj hoff F₁ N₁

theorem keep_name {m : PySem.Str → Option Value} {x : PySem.Str} {v : Value} (h : m x = some v) : m = fun y => if y = x then some v else m y := by
  funext y
  by_cases e : y = x
  · rw [if_pos e, e, h]
  · rw [if_neg e]

/-- the end of a turn that grows one list -/
inductive GrowEnd (h₀ : Heap) (L : Addr) (s : Shared) (y : PySem.Str) (I : Addr) (oI : Obj) (aA cS : Addr) (rest : List (Addr × Obj)) (R : List Value → Prop) (f : Flow) (s₃ : Shared) : Prop where
  | mk : (f = .next) → ∀ h' tk' ys' c' oS' cv' m', (s₃ = { s with heap := h', toks := tk' }) → (oS'.data = .cell cv') → (m' y = some (.ref aA)) → (Fr h₀ L h' m') → (News h₀ L h' ((I, oI) :: (aA, listOf ys'.toArray c') :: (cS, oS') :: rest)) → (R ys') → GrowEnd h₀ L s y I oI aA cS rest R f s₃
theorem GrowEnd.intro {h₀ : Heap} {L : Addr} {s : Shared} {y : PySem.Str} {I : Addr} {oI : Obj} {aA cS : Addr} {rest : List (Addr × Obj)} {R : List Value → Prop} {h' : Heap} {tk' : Nat} {ys' : List Value} {c' : Nat} {oS' : Obj} {cv' : Option Value} {m' : PySem.Str → Option Value} {all : List (Addr × Obj)}
    (F : Fr h₀ L h' m') (N : News h₀ L h' all) (sub : ∀ p ∈ (I, oI) :: (aA, listOf ys'.toArray c') :: (cS, oS') :: rest, p ∈ all) (hc : oS'.data = .cell cv') (hm : m' y = some (.ref aA)) (r : R ys') :
    GrowEnd h₀ L s y I oI aA cS rest R .next { s with heap := h', toks := tk' } := ⟨rfl, h', tk', ys', c', oS', cv', m', rfl, hc, hm, F, fun p hp => N p (sub p hp), r⟩

/-- a for over a range, its target a cell, that grows one list -/
theorem for_growC {prog : Program} {w : World} {A : Around} {E : Value → Shared → Prop} {s : Shared} {env : Env} {h₀ : Heap} {L : Addr} {Q : Flow → Shared → Prop} {tgt : PySem.Expr} {body : List Stmt} {r : Addr} {a b : Int} {t u v : Tok} {m : PySem.Str → Option Value} {aA cS : Addr} {oS₀ : Obj} {cv₀ : Option Value} {rest : List (Addr × Obj)} {ys₀ : List Value} {c₀ : Nat}
    (y : PySem.Str) (R : Nat → List Value → Prop)
    (hh : A.handled = none) (hr : IsRange s.heap r a b 1 t u v) (ha : 0 ≤ a ∧ a ≤ 1000) (hb : 0 ≤ b ∧ b ≤ 1000)
    (F : Fr h₀ L s.heap m) (N : News h₀ L s.heap ((aA, listOf ys₀.toArray c₀) :: (cS, oS₀) :: rest)) (hc : oS₀.data = .cell cv₀) (hm : m y = some (.ref aA)) (h0 : R 0 ys₀)
    (turn : ∀ I i tv oI ys c oS cv (m₁ : PySem.Str → Option Value) h tk, i < (b - a).toNat → R i ys → oS.data = .cell cv → (@Ne Nat aA I) → (@Ne Nat cS I) → (∀ p ∈ rest, p.1 ≠ I) → Fr h₀ L h (fun z => if z = y then some (.ref aA) else m₁ z) → News h₀ L h ((I, oI) :: (aA, listOf ys.toArray c) :: (cS, oS) :: rest) →
      wpAny (model prog w) A (assign tgt env (.int (a + (i : Int)) tv)) (fun _ s₂ => wpAny (model prog w) A (execs body env) (GrowEnd h₀ L s y I oI aA cS rest (R (i + 1))) E s₂) E { s with heap := h, toks := tk })
    (done : ∀ ys c oS (m₁ : PySem.Str → Option Value) h tk, R (b - a).toNat ys → Fr h₀ L h (fun z => if z = y then some (.ref aA) else m₁ z) → News h₀ L h ((aA, listOf ys.toArray c) :: (cS, oS) :: rest) → Q .next { s with heap := h, toks := tk })
    (ht : ∀ I v, letOwnedTupleGo tgt (.ref I) v = pure () := by intro _ _; rfl)
    (hL : env.locals = L := by rfl) (hE : PassesOwn (model prog w) A env E := by passes_own) :
    wpAny (model prog w) A (pyIter (.ref r)) (fun it s₂ => codeAny (model prog w) A (.forLoop tgt it body [] env) (fun r s' => match r with | .ok f => Q f s' | .error e => cameBackBy (model prog w) A env E e s') s₂) E s := by
  refine for_range (fun I i m₁ news₁ => ∃ ys c oS cv, news₁ = (aA, listOf ys.toArray c) :: (cS, oS) :: rest ∧ oS.data = .cell cv ∧ m₁ y = some (.ref aA) ∧ R i ys) hh hr ha hb F N (fun _ _ => ⟨_, _, _, _, rfl, hc, hm, h0⟩) ?_ ?_ ht hL hE
  · rintro I i tv oI m₁ news₁ h tk hi ⟨ys, c, oS, cv, rfl, hc₁, hm₁, hr₁⟩ hoff F₁ N₁
    rw [keep_name hm₁] at F₁
    refine wpAny_mono (turn I i tv oI ys c oS cv m₁ h tk hi hr₁ hc₁ (hoff _ (.head _)) (hoff _ (.tail _ (.head _))) (fun p hp => hoff p (.tail _ (.tail _ hp))) F₁ N₁) (fun _ s₂ h₂ => wpAny_mono h₂ (fun f s₃ h₃ => ?_) fun _ _ e => e) fun _ _ e => e
    obtain ⟨rfl, h', tk', ys', c', oS', cv', m', rfl, hc', hm', F', N', hr'⟩ := h₃
    refine ⟨h', tk', m', _, rfl, F', N', fun p hp => ?_, ys', c', oS', cv', rfl, hc', hm', hr'⟩
    have e1 : aA ≠ I := hoff _ (.head _)
    have e2 : cS ≠ I := hoff _ (.tail _ (.head _))
    rcases List.mem_cons.mp hp with rfl | hp
    · exact e1
    rcases List.mem_cons.mp hp with rfl | hp
    · exact e2
    · exact hoff p (.tail _ (.tail _ hp))
  · rintro I m₁ news₁ h tk ⟨ys, c, oS, cv, rfl, hc₁, hm₁, hr₁⟩ F₁ N₁
    rw [keep_name hm₁] at F₁
    exact done ys c oS m₁ h tk hr₁ F₁ N₁

noncomputable def withNames (ks : List (PySem.Str × Value)) (m : PySem.Str → Option Value) : PySem.Str → Option Value := fun z => match ks.lookup z with
  | some v => some v
  | none => m z
theorem withNames_eq {m : PySem.Str → Option Value} : ∀ {ks : List (PySem.Str × Value)}, (∀ p ∈ ks, m p.1 = some p.2) → m = withNames ks m := by
  intro ks h
  funext z
  unfold withNames
  induction ks with
  | nil => rfl
  | cons q r ih =>
    rw [List.lookup_cons]
    cases e : z == q.1 with
    | true => rw [eq_of_beq e]; exact h q (.head _)
    | false => exact ih fun p hp => h p (.tail _ hp)

/-- the end of a turn that grows one list and lays rows beside it -/
inductive RowsEnd (h₀ : Heap) (L : Addr) (s : Shared) (ks : List (PySem.Str × Value)) (I : Addr) (oI : Obj) (aA : Addr) (R : List Value → List (Addr × Obj) → Prop) (f : Flow) (s₃ : Shared) : Prop where
  | mk : (f = .next) → ∀ h' tk' ys' c' T' m', (s₃ = { s with heap := h', toks := tk' }) → ((∀ p ∈ ks, m' p.1 = some p.2)) → (Fr h₀ L h' m') → (News h₀ L h' ((I, oI) :: (aA, listOf ys'.toArray c') :: T')) → ((∀ p ∈ T', p.1 ≠ aA)) → ((∀ p ∈ T', p.1 ≠ I)) → (R ys' T') → RowsEnd h₀ L s ks I oI aA R f s₃
theorem RowsEnd.intro {h₀ : Heap} {L : Addr} {s : Shared} {ks : List (PySem.Str × Value)} {I : Addr} {oI : Obj} {aA : Addr} {R : List Value → List (Addr × Obj) → Prop} {h' : Heap} {tk' : Nat} {ys' : List Value} {c' : Nat} {m' : PySem.Str → Option Value} {all : List (Addr × Obj)}
    (F : Fr h₀ L h' m') (N : News h₀ L h' all) (T' : List (Addr × Obj)) (sub : ∀ p ∈ (I, oI) :: (aA, listOf ys'.toArray c') :: T', p ∈ all) (hk : ∀ p ∈ ks, m' p.1 = some p.2) (o1 : ∀ p ∈ T', p.1 ≠ aA) (o2 : ∀ p ∈ T', p.1 ≠ I) (r : R ys' T') :
    RowsEnd h₀ L s ks I oI aA R .next { s with heap := h', toks := tk' } := ⟨rfl, h', tk', ys', c', T', m', rfl, hk, F, fun p hp => N p (sub p hp), o1, o2, r⟩

theorem for_growT {prog : Program} {w : World} {A : Around} {E : Value → Shared → Prop} {s : Shared} {env : Env} {h₀ : Heap} {L : Addr} {Q : Flow → Shared → Prop} {tgt : PySem.Expr} {body : List Stmt} {r : Addr} {a b : Int} {t u v : Tok} {m : PySem.Str → Option Value} {aA : Addr} {T₀ : List (Addr × Obj)} {ys₀ : List Value} {c₀ : Nat}
    (y : PySem.Str) (ks : List (PySem.Str × Value)) (R : Nat → List Value → List (Addr × Obj) → Prop)
    (hh : A.handled = none) (hr : IsRange s.heap r a b 1 t u v) (ha : 0 ≤ a ∧ a ≤ 1000) (hb : 0 ≤ b ∧ b ≤ 1000)
    (F : Fr h₀ L s.heap m) (N : News h₀ L s.heap ((aA, listOf ys₀.toArray c₀) :: T₀)) (hks : ∀ p ∈ (y, Value.ref aA) :: ks, m p.1 = some p.2) (hoff : ∀ p ∈ T₀, p.1 ≠ aA) (h0 : R 0 ys₀ T₀)
    (turn : ∀ I i tv oI ys c T (m₁ : PySem.Str → Option Value) h tk, i < (b - a).toNat → R i ys T → (@Ne Nat aA I) → (∀ p ∈ T, p.1 ≠ aA) → (∀ p ∈ T, p.1 ≠ I) → Fr h₀ L h (withNames ((y, Value.ref aA) :: ks) m₁) → News h₀ L h ((I, oI) :: (aA, listOf ys.toArray c) :: T) →
      wpAny (model prog w) A (assign tgt env (.int (a + (i : Int)) tv)) (fun _ s₂ => wpAny (model prog w) A (execs body env) (RowsEnd h₀ L s ((y, Value.ref aA) :: ks) I oI aA (R (i + 1))) E s₂) E { s with heap := h, toks := tk })
    (done : ∀ ys c T (m₁ : PySem.Str → Option Value) h tk, R (b - a).toNat ys T → (∀ p ∈ T, p.1 ≠ aA) → Fr h₀ L h (withNames ((y, Value.ref aA) :: ks) m₁) → News h₀ L h ((aA, listOf ys.toArray c) :: T) → Q .next { s with heap := h, toks := tk })
    (ht : ∀ I v, letOwnedTupleGo tgt (.ref I) v = pure () := by intro _ _; rfl)
    (hL : env.locals = L := by rfl) (hE : PassesOwn (model prog w) A env E := by passes_own) :
    wpAny (model prog w) A (pyIter (.ref r)) (fun it s₂ => codeAny (model prog w) A (.forLoop tgt it body [] env) (fun r s' => match r with | .ok f => Q f s' | .error e => cameBackBy (model prog w) A env E e s') s₂) E s := by
  refine for_range (fun I i m₁ news₁ => ∃ ys c T, news₁ = (aA, listOf ys.toArray c) :: T ∧ (∀ p ∈ (y, Value.ref aA) :: ks, m₁ p.1 = some p.2) ∧ (∀ p ∈ T, p.1 ≠ aA) ∧ R i ys T) hh hr ha hb F N (fun _ _ => ⟨_, _, _, rfl, hks, hoff, h0⟩) ?_ ?_ ht hL hE
  · rintro I i tv oI m₁ news₁ h tk hi ⟨ys, c, T, rfl, hm₁, ho₁, hr₁⟩ hoff F₁ N₁
    rw [withNames_eq hm₁] at F₁
    have e1 : aA ≠ I := hoff _ (.head _)
    refine wpAny_mono (turn I i tv oI ys c T m₁ h tk hi hr₁ e1 ho₁ (fun p hp => hoff p (.tail _ hp)) F₁ N₁) (fun _ s₂ h₂ => wpAny_mono h₂ (fun f s₃ h₃ => ?_) fun _ _ e => e) fun _ _ e => e
    obtain ⟨rfl, h', tk', ys', c', T', m', rfl, hm', F', N', o1, o2, hr'⟩ := h₃
    refine ⟨h', tk', m', _, rfl, F', N', fun p hp => ?_, ys', c', T', rfl, hm', o1, hr'⟩
    rcases List.mem_cons.mp hp with rfl | hp
    · exact e1
    · exact o2 p hp
  · rintro I m₁ news₁ h tk ⟨ys, c, T, rfl, hm₁, ho₁, hr₁⟩ F₁ N₁
    rw [withNames_eq hm₁] at F₁
    exact done ys c T m₁ h tk hr₁ ho₁ F₁ N₁

/-- the pieces of one size -/
noncomputable def piecesOf (x : PySem.Str) (k : Int) (n : Nat) : List PySem.Str := (List.range n).map fun j : Nat => Txt.slice x (some (0 + (j : Int))) (some (0 + (j : Int) + k))
section
/-- how many pieces of one size have come before -/
noncomputable def againAt (x : PySem.Str) (k : Int) : Int := ((((x.length : Int) - k + 1 - 0).toNat : Int)) - (metUp (piecesOf x k ((x.length : Int) - k + 1 - 0).toNat)).length
noncomputable def againI (x : PySem.Str) : List Int := (List.range x.length).map fun i : Nat => againAt x (1 + (i : Int))
theorem c_again (w : World) (x : PySem.Str) (tx : Tok) (hx : x.length ≤ 6) : Con w 162 [.str x tx] 1 20 (fun _ => True) (RetL (againI x)) := by
  w_top off
  w_strict (
  unfold Con
  k_fill
  intro p loose mean mg mb dp un gd cn cs a ccd cl outer A₀ base h₀ L m news s Q E B F X N T hk hpre hd hu hret
  refine wpAny_call ?_
  k_dflt ((refine' code_defC ?k1 ?k2 ?k3 ?k4 ?k5 ?kA ?kF ?kK ?k6 ?k7 ?k8 ?k9 ?kB ?kD ?_ ?c2 ?c3 ?c4; (case kA => exact rfl); (case kF => exact rfl); (case kK => assumption); (case k1 => k_asm); (case k2 => k_asm); (case k3 => k_asm); (case k4 => k_asm); (case k5 => k_asm); (case k6 => k_is); (case k7 => k_is); (case k8 => ktr_room); (case k9 => exact BindsTo.of_eq rfl); (case kB => exact rfl); (case kD => decide +kernel); (case c2 => exact rfl); (case c3 => exact rfl); (case c4 => exact rfl); k_whole; intro g'q L'q h'q tk'q cells'q FG'q F'q N'q Y'q B'q X'q T'q l1q; (have l9q := Mine.offC l1q); (try k_lt l1q); k_cells Y'q; (try simp only [List.cons_append, List.nil_append] at N'q); (try dsimp only); (try k_lift B'q); (try k_fold)))
  (repeat ((fail_if_success (with_reducible show wpAny _ _ (exec (PySem.Stmt.For _ _ _ _ _) _) _ _ _)); (first | (k_unfold; (try dsimp only)) | (k_end; wrow_close) | walk1 | (dsimp only; walk1) | (leave1; (try dsimp only)) | fail "no step")))
  refine wpAny_For ?_
  (repeat ((fail_if_success (with_reducible show wpAny _ _ (pyIter _) _ _ _)); (first | (k_unfold; (try dsimp only)) | (k_end; wrow_close) | walk1 | (dsimp only; walk1) | (leave1; (try dsimp only)) | fail "no step")))
  refine Mine.for_growC (ys₀ := []) (PySem.Str.ofString "again") (fun i ys => IntsAre ys ((List.range i).map fun i : Nat => againAt x (1 + (i : Int)))) (by rfl) (by with_reducible assumption) (by omega) (by omega) (by k_asm) (by k_asm) (by k_asm) (by rfl) .nil ?_ ?_
  · intro I i tv oI ys c oS cv m₁ h tk hi hR hcv neA neS neR F1 N1
    rw [Mine.pm1] at hi
    (try dsimp only)
    refine wpAny_assign_Name ?_
    (repeat ((fail_if_success (with_reducible show PyProof.Rows.LCg.CompSrc _ _ _ _ _ _ _ _ _ _ _ _ _ _)); (fail_if_success (with_reducible show PyProof.Rows.LCt.CompSrcT _ _ _ _ _ _ _ _ _ _ _ _ _ _ _)); (first | (k_unfold; (try dsimp only)) | (k_end; wrow_close) | walk1 | (dsimp only; walk1) | (leave1; (try dsimp only)) | fail "no step")))
    refine Mine.comp_range (by rfl) (by k_asm) (by k_asm) (by with_reducible assumption) (by omega) (by omega) ?_
    intro g
    refine Mine.rest_same _ (fun j y => ∃ t, y = .str (Txt.slice x (some (0 + (j : Int))) (some (0 + (j : Int) + (1 + (i : Int))))) t) ?_ trivial ?_
    · rintro j zs v I2 oI2 C oC D m₂ h tk E' hj ⟨tv, rfl⟩ hC hx₂ F2 N2 off ne
      (try dsimp only)
      refine Mine.absQ ?_
      intro K9 hK9
      iterate 12 (first | (k_unfold; (try dsimp only)) | (k_end; wrow_close) | walk1 | (dsimp only; walk1) | (leave1; (try dsimp only)) | fail "no step")
      refine hK9 (Mine.turnB (by k_asm) (by k_asm) (str_at rfl))
    · intro zs hl hr
      have hs : StrsAre zs (piecesOf x (1 + (i : Int)) zs.length) := by
        refine Mine.strsAre_of (by simp [piecesOf]) fun j y e => ?_
        obtain ⟨t, rfl⟩ := hr j y e
        have hb : j < zs.length := by rcases Nat.lt_or_ge j zs.length with h | h; exact h; rw [List.getElem?_eq_none h] at e; cases e
        refine ⟨t, ?_⟩
        unfold piecesOf
        rw [List.getElem?_map, List.getElem?_range hb]
        rfl
      have hz : zs.length ≤ 6 := by omega
      have hm9 : (metUp (piecesOf x (1 + (i : Int)) zs.length)).length ≤ zs.length := Mine.metUp_le _ _ (by simp [piecesOf])
      have hys : ys.length ≤ 6 := by rw [hR.length, List.length_map, List.length_range]; omega
      (repeat ((fail_if_success (with_reducible show wpAny _ _ (call (Value.type "set") _ _) _ _ _)); (first | (k_unfold; (try dsimp only)) | (k_end; wrow_close) | walk1 | (dsimp only; walk1) | (leave1; (try dsimp only)) | fail "no step")))
      k_dflt (refine Mine.set_strs_N (by k_asm) (by k_asm) (by with_unfolding_all rfl) (News.isList (by k_asm) (by k_mem)) (by with_reducible assumption) (by simp only [Mine.piecesOf, List.length_map, List.length_range]; omega) ?_; intro D' h' tk' o' F' N' l1 hso'; (try k_lt l1))
      repeat (first | (k_unfold; (try dsimp only)) | (k_end; wrow_close) | walk1 | (dsimp only; walk1) | (leave1; (try dsimp only)) | fail "no step")
      (rename News _ _ _ _ => N9)
      simp only [List.push_toArray] at N9
      refine Mine.GrowEnd.intro (by k_asm) N9 (fun p hp => .tail _ (.tail _ hp)) (by k_asm) (by rfl) ?_
      rw [List.range_succ, List.map_append]
      refine hR.append ?_
      rw [show (([i].map fun i : Nat => againAt x (1 + (i : Int))) : List Int) = [((zs.length : Nat) : Int) - ((metUp (piecesOf x (1 + (i : Int)) zs.length)).length : Nat)] from by rw [hl]; rfl]
      exact .cons _ _ .nil
  · intro ys c oS m₁ h tk hR F1 N1
    have hR' : IntsAre ys (againI x) := by
      have e : (((x.length : Nat) : Int) + 1 - 1).toNat = x.length := Mine.pm1 _
      rw [e] at hR
      exact hR
    iterate 4 (first | (k_unfold; (try dsimp only)) | (k_end; wrow_close) | walk1 | (dsimp only; walk1) | (leave1; (try dsimp only)) | fail "no step")
    (rename News h₀ L _ _ => kN0)
    refine hret _ [_] _ _ (by k_asm) (cb_drop kN0 ((Mine.allC (.head _) (by ((intro pq hpq; repeat (first | exact hpq | refine List.Mem.tail _ ?_))))))) ?_ ⟨_, _, _, rfl, rfl, hR'⟩
    (((repeat (refine Mine.own_cons (by first | exact Mine.ne_lt' (by assumption) | exact Mine.ne_lt' (by tbn_find) | exact Mine.ne_lt (by assumption) | exact Mine.off1_out (by assumption) | (refine Mine.off1_out ?_; simp_all only)) ?_)); first | exact Mine.own_nil | assumption))
  )
end

/-- a tree of questions, answered -/
noncomputable def kasRun {α : Type} (lt : Nat → Nat → Bool) : KasT α → α
  | .ret a => a
  | .ask i j k => kasRun lt (k (lt i j))
noncomputable def kasIn {α : Type} (n : Nat) : KasT α → Bool
  | .ret _ => true
  | .ask i j k => Nat.blt i n && Nat.blt j n && kasIn n (k true) && kasIn n (k false)
theorem kas_run {α : Type} {cmp : Nat → Nat → (Bool → Shared → Prop) → Shared → Prop} {lt : Nat → Nat → Bool} {n : Nat} {s : Shared} {Q : α → Shared → Prop} (hc : ∀ i j (C : Bool → Shared → Prop), i < n → j < n → C (lt i j) s → cmp i j C s) :
    ∀ t : KasT α, kasIn n t = true → Q (kasRun lt t) s → t.kasWp cmp Q s
  | .ret _, _, h => h
  | .ask i j k, hi, h => by
    rw [kasIn, Bool.and_eq_true, Bool.and_eq_true, Bool.and_eq_true] at hi
    refine hc i j _ (Nat.blt_eq.mp hi.1.1.1) (Nat.blt_eq.mp hi.1.1.2) (kas_run hc (k (lt i j)) ?_ h)
    cases lt i j
    · exact hi.2
    · exact hi.1.2
theorem kasIn4 : kasIn 4 (kas_sort 4) = true := by decide +kernel
theorem kasIn5 : kasIn 5 (kas_sort 5) = true := by decide +kernel
theorem kasIn6 : kasIn 6 (kas_sort 6) = true := by decide +kernel
theorem kasIn_all {n : Nat} (h4 : 4 ≤ n) (h6 : n ≤ 6) : kasIn n (kas_sort n) = true := by
  have : n = 4 ∨ n = 5 ∨ n = 6 := by omega
  rcases this with rfl | rfl | rfl
  · exact kasIn4
  · exact kasIn5
  · exact kasIn6
noncomputable def kasAll {α : Type} (P : α → Bool) : KasT α → Bool
  | .ret a => P a
  | .ask _ _ k => kasAll P (k true) && kasAll P (k false)
theorem kas_all {α : Type} {P : α → Bool} (lt : Nat → Nat → Bool) : ∀ t : KasT α, kasAll P t = true → P (kasRun lt t) = true
  | .ret _, h => h
  | .ask i j k, h => by
    rw [kasAll, Bool.and_eq_true] at h
    refine kas_all lt (k (lt i j)) ?_
    cases lt i j
    · exact h.2
    · exact h.1
noncomputable def allBelow (n : Nat) (p : Array Nat) : Bool := Nat.beq p.toList.length n && p.toList.all fun i => Nat.blt i n
theorem kasOut4 : kasAll (allBelow 4) (kas_sort 4) = true := by decide +kernel
theorem kasOut5 : kasAll (allBelow 5) (kas_sort 5) = true := by decide +kernel
theorem kasOut6 : kasAll (allBelow 6) (kas_sort 6) = true := by decide +kernel
theorem kasOut_all {n : Nat} (lt : Nat → Nat → Bool) (h4 : 4 ≤ n) (h6 : n ≤ 6) : (kasRun lt (kas_sort n)).toList.length = n ∧ ∀ i ∈ (kasRun lt (kas_sort n)).toList, i < n := by
  have : n = 4 ∨ n = 5 ∨ n = 6 := by omega
  have e : allBelow n (kasRun lt (kas_sort n)) = true := by
    rcases this with rfl | rfl | rfl
    · exact kas_all lt _ kasOut4
    · exact kas_all lt _ kasOut5
    · exact kas_all lt _ kasOut6
  rw [allBelow, Bool.and_eq_true] at e
  exact ⟨Nat.eq_of_beq_eq_true e.1, fun i hi => Nat.blt_eq.mp (List.all_eq_true.mp e.2 i hi)⟩
theorem ints_getD {vs : List Value} {xs : List Int} (h : IntsAre vs xs) {n : Nat} (hn : xs.length = n) : ∀ (is : List Nat), (∀ i ∈ is, i < n) → IntsAre (is.map fun i => vs.getD i Value.none) (is.map fun i => xs.getD i 0)
  | [], _ => .nil
  | i :: is, hi => by
    have hv := h.length
    have hl : i < vs.length := by have := hi i (.head _); omega
    obtain ⟨t, e⟩ := PyProof.Rows.IntsAre.int_at h i vs[i] (List.getElem?_eq_getElem hl)
    have e2 : vs.getD i Value.none = .int (xs.getD i 0) t := by rw [List.getD_eq_getElem?_getD, List.getElem?_eq_getElem hl]; exact e
    rw [List.map_cons, List.map_cons, e2]
    exact .cons _ _ (ints_getD h hn is fun j hj => hi j (.tail _ hj))
/-- a key that is a list of ints, in the ledger -/
noncomputable def KeyAt (key : Nat → List Int) (T : List (Addr × Obj)) (j : Nat) (k : Value) : Prop := ∃ a us c, k = .ref a ∧ (a, listOf us.toArray c) ∈ T ∧ IntsAre us (key j)
theorem KeyAt.mono {key : Nat → List Int} {T T' : List (Addr × Obj)} {j : Nat} {k : Value} (h : KeyAt key T j k) (s : ∀ p ∈ T, p ∈ T') : KeyAt key T' j k :=
  let ⟨a, us, c, e, m, i⟩ := h; ⟨a, us, c, e, s _ m, i⟩
/-- the end of one call of the key -/
noncomputable def KeyEnd (h₀ : Heap) (L : Addr) (s : Shared) (m : PySem.Str → Option Value) (kS D : Addr) (oS oD : Obj) (rest : List (Addr × Obj)) (key : Nat → List Int) (j : Nat) (k : Value) (s' : Shared) : Prop :=
  ∃ T h' tk', s' = { s with heap := h', toks := tk' } ∧ Fr h₀ L h' m ∧ News h₀ L h' ((kS, oS) :: (D, oD) :: (T ++ rest)) ∧ (∀ p ∈ T, p.1 ≠ kS) ∧ (∀ p ∈ T, p.1 ≠ D) ∧ KeyAt key T j k
theorem katkeys_walk {prog : Program} {w : World} {A : Around} {h₀ : Heap} {L kS D : Addr} {m : PySem.Str → Option Value} {oD : Obj} {f : Value} {Fin : List Value → Nat → Shared → Prop} {vs : List Value} {news : List (Addr × Obj)} {s : Shared} (key : Nat → List Int)
    (turn : ∀ j v ks e chunk h tk, vs[j]? = some v → Fr h₀ L h m → News h₀ L h ((kS, seqObj "list" (List.toArray ks) e) :: (D, oD) :: (news ++ chunk)) → (∀ p ∈ news ++ chunk, p.1 ≠ kS) → (∀ p ∈ news ++ chunk, p.1 ≠ D) →
      wpAny (model prog w) A (call f [v]) (KeyEnd h₀ L s m kS D (seqObj "list" (List.toArray ks) e) oD (news ++ chunk) key j) (fun _ _ => False) { s with heap := h, toks := tk })
    (fin : ∀ ks e chunk h tk, ks.length = vs.length → (∀ j k, ks[j]? = some k → KeyAt key chunk j k) → Fr h₀ L h m → News h₀ L h ((kS, seqObj "list" (List.toArray ks) e) :: (D, oD) :: (news ++ chunk)) → (∀ p ∈ news ++ chunk, p.1 ≠ kS) → (∀ p ∈ news ++ chunk, p.1 ≠ D) →
      Fin ks e { s with heap := h, toks := tk }) (hkD : @Ne Nat D kS) :
    ∀ (r ks : List Value) (e : Nat) (chunk : List (Addr × Obj)) (h : Heap) (tk : Nat), r = vs.drop ks.length → ks.length ≤ vs.length → (∀ j k, ks[j]? = some k → KeyAt key chunk j k) → Fr h₀ L h m → News h₀ L h ((kS, seqObj "list" (List.toArray ks) e) :: (D, oD) :: (news ++ chunk)) → (∀ p ∈ news ++ chunk, p.1 ≠ kS) → (∀ p ∈ news ++ chunk, p.1 ≠ D) →
      KatKeys prog w A h₀ L m kS f Fin r ks e { s with heap := h, toks := tk } := by
  intro r
  induction r with
  | nil =>
    intro ks e chunk h tk hr hle hk F N o1 o2
    have : vs.length ≤ ks.length := by
      rcases Nat.lt_or_ge ks.length vs.length with q | q
      · rw [List.drop_eq_getElem_cons q] at hr; cases hr
      · exact q
    exact KatKeys.nil (fin ks e chunk h tk (by omega) hk F N o1 o2)
  | cons v r ih =>
    intro ks e chunk h tk hr hle hk F N o1 o2
    have hlt : ks.length < vs.length := by
      rcases Nat.lt_or_ge ks.length vs.length with q | q
      · exact q
      · rw [List.drop_eq_nil_of_le q] at hr; cases hr
    rw [List.drop_eq_getElem_cons hlt] at hr
    injection hr with hv hr
    refine KatKeys.cons (wpAny_mono (turn ks.length v ks e chunk h tk (by rw [List.getElem?_eq_getElem hlt, hv]) F N o1 o2) (fun k s' hk' => ?_) fun _ _ x => x)
    obtain ⟨T, h', tk', rfl, F', N', t1, t2, hK⟩ := hk'
    have sw : ∀ p, p ∈ news ++ (T ++ chunk) → p ∈ T ∨ p ∈ news ++ chunk := fun p hp => by
      rcases List.mem_append.mp hp with hp | hp
      · exact .inr (List.mem_append_left _ hp)
      · rcases List.mem_append.mp hp with hp | hp
        · exact .inl hp
        · exact .inr (List.mem_append_right _ hp)
    have p1 : ∀ p ∈ news ++ (T ++ chunk), p.1 ≠ kS := fun p hp => (sw p hp).elim (t1 p) (o1 p)
    have p2 : ∀ p ∈ news ++ (T ++ chunk), p.1 ≠ D := fun p hp => (sw p hp).elim (t2 p) (o2 p)
    refine KatBack.intro (news := (kS, seqObj "list" (List.toArray ks) e) :: (D, oD) :: (news ++ (T ++ chunk))) F' (fun p hp => ?_) (.head ((Mine.allC hkD p1))) fun h2 c2 F2 N2 => ?_
    · rcases List.mem_cons.mp hp with rfl | hp
      · exact N' _ (.head _)
      rcases List.mem_cons.mp hp with rfl | hp
      · exact N' _ (.tail _ (.head _))
      · exact N' p (.tail _ (.tail _ ((sw p hp).elim (List.mem_append_left _) (List.mem_append_right _))))
    · refine ih (ks ++ [k]) c2 (T ++ chunk) h2 tk' (by rw [List.length_append, List.length_singleton]; exact hr) (by rw [List.length_append, List.length_singleton]; omega) (snoc_all (fun j k' e' => (hk j k' e').mono fun p hp => List.mem_append_right _ hp) (hK.mono fun p hp => List.mem_append_left _ hp)) F2 N2 p1 p2
open PyProof.Rows in
/-- sorted over a range, its key a list of ints -/
theorem sorted_keys {prog : Program} {w : World} {A : Around} {E : Value → Shared → Prop} {s : Shared} {h₀ : Heap} {L : Addr} {m : PySem.Str → Option Value} {news : List (Addr × Obj)} {r : Addr} {a b : Int} {t u v : Tok} {n : Nat} {f : Value} {kw : List (PySem.Str × Value)} {Q : Value → Shared → Prop} (key : Nat → List Int)
    (hh : A.handled = none) (hr : IsRange s.heap r a b 1 t u v) (hsmall : Builtin.Range.small a b 1 = true) (hn : Builtin.Range.rangeSize a b 1 = (n : Int)) (hu : A.units + 20 < cLine)
    (F : Fr h₀ L s.heap m) (N : News h₀ L s.heap news) (h4 : 4 ≤ n) (h6 : n ≤ 6)
    (ha1 : argsOk "sorted" ⟨[.ref r], kw⟩) (ha2 : ∀ x, argsOk "list.sort" ⟨[.ref x], kw⟩) (ht : ∀ x, Builtin.«list.sort» ⟨[.ref x], kw⟩ = ksk_tree x f false)
    (turn : ∀ j kS D ks e e1 chunk h tk tv, j < n → Fr h₀ L h m → News h₀ L h ((kS, seqObj "list" ks e) :: (D, seqObj "list" #[] e1) :: (news ++ chunk)) → (∀ p ∈ news ++ chunk, p.1 ≠ kS) → (∀ p ∈ news ++ chunk, p.1 ≠ D) →
      wpAny (model prog w) A.in1.in1 (call f [.int (a + (j : Int)) tv]) (KeyEnd h₀ L s m kS D (seqObj "list" ks e) (seqObj "list" #[] e1) (news ++ chunk) key j) (fun _ _ => False) { s with heap := h, toks := tk })
    (fin : ∀ D us c h tk, IntsAre us ((kasRun (fun i j => lexI (key i) (key j)) (kas_sort n)).toList.map fun i => (rangeKs a n).getD i 0) → Fr h₀ L h m → News h₀ L h ((D, listOf us.toArray c) :: news) → (∀ p ∈ news, p.1 < D) → Q (.ref D) { s with heap := h, toks := tk }) :
    wpAny (model prog w) A (call (.builtin "sorted") [.ref r] kw) Q E s := by
  refine sortedK_range (rv := false) hh hr hsmall hn F N (by omega) (by omega) ha1 ha2 ht fun vs D kS e1 h' tk hvs F' N' l0 l1 => ?_
  have hlen : vs.length = n := by rw [hvs.length, rangeKs_length]
  have hkD : @Ne Nat D kS := Nat.ne_of_lt l0
  refine katkeys_walk (oD := seqObj "list" #[] e1) key ?_ ?_ hkD vs [] 0 [] h' tk rfl (Nat.zero_le _) (fun j k e => by simp at e) F' (by simpa using N') (fun p hp => by rw [List.append_nil] at hp; exact Nat.ne_of_lt (Nat.lt_trans (l1 p hp) l0)) (fun p hp => by rw [List.append_nil] at hp; exact Nat.ne_of_lt (l1 p hp))
  · intro j v ks e chunk h tk hj F1 N1 o1 o2
    have hjn : j < n := by
      rcases Nat.lt_or_ge j vs.length with q | q
      · omega
      · rw [List.getElem?_eq_none q] at hj; cases hj
    obtain ⟨tv, ev⟩ := PyProof.Rows.IntsAre.int_at hvs j v hj
    rw [kll_at hjn] at ev
    subst ev
    exact turn j kS D _ e e1 chunk h tk tv hjn F1 N1 o1 o2
  · intro ks e chunk h tk hl hks F1 N1 o1 o2
    have hk : ∀ i, i < n → ∃ k, ks.getD i Value.none = k ∧ KeyAt key chunk i k := fun i hi => ⟨_, rfl, hks i _ (by rw [List.getD_eq_getElem?_getD, List.getElem?_eq_getElem (by omega)]; rfl)⟩
    refine kas_kind (T := .type "list") (by omega) (fun v hv => ?_) rfl rfl ?_
    · obtain ⟨i, hi⟩ := List.getElem?_of_mem hv
      obtain ⟨a', us, c, rfl, hm, _⟩ := hks i v hi
      exact (Looks.ld (N1 _ (.tail _ (.tail _ (List.mem_append_right _ hm)))).1).andThen .now
    · rw [hlen]
      refine kas_run (lt := fun i j => lexI (key i) (key j)) (n := n) (fun i j C hi hj hC => ?_) _ (kasIn_all h4 h6) ?_
      · obtain ⟨ki, e1', a1, us1, c1, rfl, m1, i1⟩ := hk i hi
        obtain ⟨kj, e2', a2, us2, c2, rfl, m2, i2⟩ := hk j hj
        show wpAny _ _ (keyLt' oneType' (ks.getD i Value.none) (ks.getD j Value.none)) _ _ _
        rw [e1', e2', keyLt'_oneType]
        refine one_lt_lists (N1 _ (.tail _ (.tail _ (List.mem_append_right _ m1)))).1 (N1 _ (.tail _ (.tail _ (List.mem_append_right _ m2)))).1 i1 i2 ?_ hC
        show A.units + 1 + 1 < cLine
        omega
      · refine KatFin.intro F1 N1 (.head ((Mine.allC hkD o1))) fun h2 c2 F2 N2 => ?_
        refine KasFin.intro F2 N2 (.tail (Ne.symm hkD) (.head o2)) fun h3 c3 F3 N3 => ?_
        refine fin D _ c3 h3 tk (ints_getD hvs (rangeKs_length _ _) _ (kasOut_all _ h4 h6).2) F3 (fun p hp => ?_) l1
        rcases List.mem_cons.mp hp with rfl | hp
        · exact N3 _ (.tail _ (.head _))
        · exact N3 p (.tail _ (.tail _ (List.mem_append_left _ hp)))

/-- a code record of the ledger's -/
noncomputable def RecIn (qual : PySem.Str) (T : List (Addr × Obj)) (c' : Addr) : Prop := ∃ oc vs t, (c', oc) ∈ T ∧ oc.data = .fields vs ∧ vs[1]? = some (.str qual t)
theorem RecIn.mono {qual : PySem.Str} {T T' : List (Addr × Obj)} {c' : Addr} (h : RecIn qual T c') (s : ∀ p ∈ T, p ∈ T') : RecIn qual T' c' :=
  let ⟨oc, vs, t, m, d, v⟩ := h; ⟨oc, vs, t, s _ m, d, v⟩
theorem RecIn.rec {qual : PySem.Str} {T : List (Addr × Obj)} {c' : Addr} {h₀ h : Heap} {L : Addr} (r : RecIn qual T c') (N : News h₀ L h T) : h.CodeRec (.ref c') qual :=
  let ⟨oc, vs, t, m, d, v⟩ := r; codeRec_news N m d v
theorem lam_tab {M : Model} {A : Around} {E : Value → Shared → Prop} {s : Shared} {h₀ : Heap} {L a c P : Addr} {m mg mb : PySem.Str → Option Value} {cn : PySem.Str} {cs : Scope} {ccd : Value} {cl : List (PySem.Str × Addr)} {rest : List (Addr × Obj)}
  {p : Program} {loose : List PySem.Str} {mean : ExcName → Option Value} {name qual : PySem.Str} {params : Arguments} {body : PySem.Expr} {scope : Scope} {ps : Array Value} {pos : Pos} {firstLine : Nat} {clos : List (PySem.Str × Addr)} {Q : Value → Shared → Prop}
    (F : Fr h₀ L s.heap m) (N : News h₀ L s.heap ((P, tabObj ps) :: rest)) (T : Top p loose mean mg mb h₀) (C : CodeHd h₀ c P) (hcd : ccd = .ref c) (hoff : ∀ p ∈ rest, p.1 ≠ P) (ht : TriplesOk ps.toList)
    (hc : codeAmong pos ps.toList = none ∨ ∃ c', codeAmong pos ps.toList = some (.ref c') ∧ RecIn qual rest c')
    (hcl : closureFor scope (envX cn cs L a ccd cl) = pure clos)
    (h : ∀ f c' ctv h' tk ps' W, Fr h₀ L h' m → News h₀ L h' ((f, kla_obj name qual params body scope clos ((mg "__name__").getD .none) c' ctv) :: (P, tabObj ps') :: (W ++ rest)) →
      (codeAmong pos ps.toList = some (.ref c') ∧ ps' = ps ∨ codeAmong pos ps.toList = none ∧ ps' = ps ++ #[rawInt pos.line, rawInt pos.col, .ref c'] ∧ RecIn qual W c') → RecIn qual (W ++ rest) c' →
      (∀ q ∈ W ++ rest, q.1 < f) → P < f → (∀ p ∈ W, P < p.1 ∧ ∀ q ∈ rest, q.1 < p.1) → Q (.ref f) { s with heap := h', toks := tk }) :
    wpAny M A (makeFunction name qual params (.expr body) scope (envX cn cs L a ccd cl) [] [] [] pos firstLine) Q E s := by
  rcases hc with hn | ⟨c', hs, hr⟩
  · refine kla_nest F N T C hcd (.head hoff) ht hn hcl fun f c' oc vs t ctv h' tk F' N' hd hv l1 l2 => ?_
    have lP : P < c' := l1 _ (.head _)
    refine h f c' ctv h' tk _ [(c', oc)] F' (fun q hq => ?_) (.inr ⟨hn, rfl, ⟨oc, vs, t, .head _, hd, hv⟩⟩) ⟨oc, vs, t, .head _, hd, hv⟩ (fun q hq => ?_) (Nat.lt_trans lP l2) (fun q hq => ?_)
    · rcases List.mem_cons.mp hq with rfl | hq
      · exact N' _ (.head _)
      rcases List.mem_cons.mp hq with rfl | hq
      · exact N' _ (.tail _ (.tail _ (.head _)))
      rcases List.mem_cons.mp hq with rfl | hq
      · exact N' _ (.tail _ (.head _))
      · exact N' _ (.tail _ (.tail _ (.tail _ hq)))
    · rcases List.mem_cons.mp hq with rfl | hq
      · exact l2
      · exact Nat.lt_trans (l1 _ (.tail _ hq)) l2
    · cases List.mem_singleton.mp hq
      exact ⟨lP, fun r hr => l1 _ (.tail _ hr)⟩
  · refine kla_hit F N T C hcd (.head _) ht hs hcl fun f ctv h' tk F' N' l1 => ?_
    exact h f c' ctv h' tk ps [] F' N' (.inl ⟨hs, rfl⟩) hr (fun q hq => l1 q (.tail _ hq)) (l1 _ (.head _)) (fun q hq => nomatch hq)
/-- a table that holds at most one lambda's code -/
noncomputable def TabHas (qual : PySem.Str) (pos : Pos) (ps : Array Value) (T : List (Addr × Obj)) : Prop := ∃ c', ps = #[rawInt pos.line, rawInt pos.col, .ref c'] ∧ RecIn qual T c'
noncomputable def TabOne (qual : PySem.Str) (pos : Pos) (ps : Array Value) (T : List (Addr × Obj)) : Prop := ps = #[] ∨ TabHas qual pos ps T
theorem TabHas.mono {qual : PySem.Str} {pos : Pos} {ps : Array Value} {T T' : List (Addr × Obj)} (h : TabHas qual pos ps T) (s : ∀ p ∈ T, p ∈ T') : TabHas qual pos ps T' :=
  let ⟨c', e, r⟩ := h; ⟨c', e, r.mono s⟩
theorem TabOne.mono {qual : PySem.Str} {pos : Pos} {ps : Array Value} {T T' : List (Addr × Obj)} (h : TabOne qual pos ps T) (s : ∀ p ∈ T, p ∈ T') : TabOne qual pos ps T' :=
  h.elim .inl fun h => .inr (h.mono s)
theorem lam_one {M : Model} {A : Around} {E : Value → Shared → Prop} {s : Shared} {h₀ : Heap} {L a c P : Addr} {m mg mb : PySem.Str → Option Value} {cn : PySem.Str} {cs : Scope} {ccd : Value} {cl : List (PySem.Str × Addr)} {rest K : List (Addr × Obj)}
  {p : Program} {loose : List PySem.Str} {mean : ExcName → Option Value} {name qual : PySem.Str} {params : Arguments} {body : PySem.Expr} {scope : Scope} {ps : Array Value} {pos : Pos} {firstLine : Nat} {clos : List (PySem.Str × Addr)} {Q : Value → Shared → Prop}
    (F : Fr h₀ L s.heap m) (N : News h₀ L s.heap ((P, tabObj ps) :: rest)) (T : Top p loose mean mg mb h₀) (C : CodeHd h₀ c P) (hcd : ccd = .ref c) (hoff : ∀ p ∈ rest, p.1 ≠ P) (hK : ∀ p ∈ K, p ∈ rest) (ht : TabOne qual pos ps K)
    (hcl : closureFor scope (envX cn cs L a ccd cl) = pure clos)
    (h : ∀ f c' ctv h' tk ps' W, Fr h₀ L h' m → News h₀ L h' ((f, kla_obj name qual params body scope clos ((mg "__name__").getD .none) c' ctv) :: (P, tabObj ps') :: (W ++ rest)) →
      TabHas qual pos ps' (W ++ K) → RecIn qual (W ++ rest) c' →
      (∀ q ∈ W ++ rest, q.1 < f) → P < f → (∀ p ∈ W, P < p.1 ∧ ∀ q ∈ rest, q.1 < p.1) → Q (.ref f) { s with heap := h', toks := tk }) :
    wpAny M A (makeFunction name qual params (.expr body) scope (envX cn cs L a ccd cl) [] [] [] pos firstLine) Q E s := by
  have hto : TriplesOk ps.toList := by
    rcases ht with rfl | ⟨c', rfl, _⟩
    · exact True.intro
    · simp [TriplesOk, rawInt]
  have hc : codeAmong pos ps.toList = none ∨ ∃ c', codeAmong pos ps.toList = some (.ref c') ∧ RecIn qual rest c' := by
    rcases ht with rfl | ⟨c', rfl, hr⟩
    · exact .inl rfl
    · exact .inr ⟨c', by simp [codeAmong, rawInt], hr.mono hK⟩
  refine lam_tab F N T C hcd hoff hto hc hcl fun f c' ctv h' tk ps' W F' N' e hr l1 l2 l3 => h f c' ctv h' tk ps' W F' N' ?_ hr l1 l2 l3
  rcases e with ⟨e1, rfl⟩ | ⟨e1, rfl, hrW⟩
  · rcases ht with rfl | ⟨c2, rfl, hr2⟩
    · cases e1
    · exact ⟨c2, rfl, hr2.mono fun p hp => List.mem_append_right _ hp⟩
  · rcases ht with rfl | ⟨c2, rfl, hr2⟩
    · exact ⟨c', rfl, hrW.mono fun p hp => List.mem_append_left _ hp⟩
    · simp [codeAmong, rawInt] at e1

/-- the values stand for the numbers, place by place -/
noncomputable def RelAt (R : Nat → Value → Prop) (is : List Nat) (ys : List Value) : Prop := ys.length = is.length ∧ ∀ (j : Nat) (y : Value), ys[j]? = some y → ∃ k, is[j]? = some k ∧ R k y
theorem RelAt.nil {R : Nat → Value → Prop} : RelAt R [] [] := ⟨rfl, fun j y e => by simp at e⟩
theorem RelAt.snoc {R : Nat → Value → Prop} {is : List Nat} {ys : List Value} (h : RelAt R is ys) {k : Nat} {y : Value} (r : R k y) : RelAt R (is ++ [k]) (ys ++ [y]) := by
  refine ⟨by rw [List.length_append, List.length_append, h.1]; rfl, fun j y' e => ?_⟩
  by_cases hj : j < ys.length
  · rw [List.getElem?_append_left hj] at e
    rw [List.getElem?_append_left (by rw [← h.1]; exact hj)]
    exact h.2 j y' e
  · rw [List.getElem?_append_right (Nat.not_lt.mp hj)] at e
    rw [List.getElem?_append_right (by rw [← h.1]; exact Nat.not_lt.mp hj), ← h.1]
    cases hd : j - ys.length with
    | zero =>
      rw [hd] at e
      cases e
      exact ⟨k, rfl, r⟩
    | succ d => rw [hd] at e; simp at e
open PyProof.Rows.LCg PyProof.Rows.LCt in
/-- turns with a test that leave the ledger as it stands -/
theorem rest_sameT {prog : Program} {w : World} {A : Around} {h₀ : Heap} {L : Addr} {m : PySem.Str → Option Value} {env : Env} {ct elt : PySem.Expr} {x : PySem.Str} {scope : Scope} {cl : List (PySem.Str × Addr)} {s : Shared} {S : List (Addr × Obj) → Prop} {P : Nat → Value → Prop}
    {Fin : List Value → List (Addr × Obj) → Prop} {news : List (Addr × Obj)} (n : Nat) (keep : Nat → Bool) (R : Nat → Value → Prop)
    (turn : ∀ i ys v I oI C oC D m₂ h tk (E' : Value → Shared → Prop), i < n → P i v → NsObj oC m₂ → m₂ x = some v → Fr h₀ L h m → News h₀ L h ((I, oI) :: (C, oC) :: (D, lst ys) :: news) → Off3 I C D news → ((@Ne Nat I C) ∧ (@Ne Nat I D) ∧ (@Ne Nat C D)) →
      wpAny (model prog w) A (isTrue ct (compEnvC scope cl C env) (eval ct (compEnvC scope cl C env))) (fun ok s₁ => ok = keep i ∧ if ok = true then
        wpAny (model prog w) A (eval elt (compEnvC scope cl C env)) (fun y s' => ∃ h' tk', s' = { s with heap := h', toks := tk' } ∧ Fr h₀ L h' m ∧ News h₀ L h' ((I, oI) :: (C, oC) :: (D, lst ys) :: news) ∧ R i y) E' s₁
        else ∃ h' tk', s₁ = { s with heap := h', toks := tk' } ∧ Fr h₀ L h' m ∧ News h₀ L h' ((I, oI) :: (C, oC) :: (D, lst ys) :: news)) E' { s with heap := h, toks := tk })
    (hS : S news)
    (fin : ∀ ys : List Value, RelAt R ((List.range n).filter keep) ys → Fin ys news) : CompRestT prog w A h₀ L m env ct elt x scope cl s S P Fin n 0 [] news := by
  refine rest_allT n (fun i ys nw => nw = news ∧ RelAt R ((List.range i).filter keep) ys) ?_ ?_ n 0 [] news (Nat.zero_add _) ⟨rfl, RelAt.nil⟩
  · rintro i ys nw v I oI C oC D m₂ h tk E' hi ⟨rfl, hr⟩ hP hC hx F N off ne
    refine wpAny_mono (turn i ys v I oI C oC D m₂ h tk E' hi hP hC hx F N off ne) (fun ok s₁ ho => ?_) fun _ _ e => e
    obtain ⟨rfl, ho⟩ := ho
    have hf : (List.range (i + 1)).filter keep = (List.range i).filter keep ++ if keep i then [i] else [] := by
      rw [List.range_succ, List.filter_append]
      congr 1
      cases hk : keep i <;> simp [hk]
    cases hk : keep i with
    | true =>
      rw [hk] at ho hf
      simp only [if_true] at ho hf ⊢
      refine wpAny_mono ho (fun y s' hy => ?_) fun _ _ e => e
      obtain ⟨h', tk', rfl, F', N', hR⟩ := hy
      exact CompEnd.intro F' N' nw (fun _ h => h) off hS ⟨rfl, by rw [hf]; exact hr.snoc hR⟩
    | false =>
      rw [hk] at ho hf
      simp only [Bool.false_eq_true, if_false] at ho hf ⊢
      obtain ⟨h', tk', rfl, F', N'⟩ := ho
      exact CompEnd.intro F' N' nw (fun _ h => h) off hS ⟨rfl, by rw [hf, List.append_nil]; exact hr⟩
  · rintro ys nw ⟨rfl, hr⟩
    exact fin ys hr
/-- the end of a turn that grows one text and sets two cells -/
inductive TwoEnd (h₀ : Heap) (L : Addr) (s : Shared) (ks : List (PySem.Str × Value)) (y : PySem.Str) (x : PySem.Str) (I : Addr) (oI : Obj) (a1 a2 : Addr) (rest : List (Addr × Obj)) (f : Flow) (s₃ : Shared) : Prop where
  | mk : (f = .next) → ∀ h' tk' o1 o2 v1 v2 t m', (s₃ = { s with heap := h', toks := tk' }) → (o1.data = .cell v1) → (o2.data = .cell v2) → ((∀ p ∈ (y, Value.str x t) :: ks, m' p.1 = some p.2)) → (Fr h₀ L h' m') → (News h₀ L h' ((I, oI) :: (a1, o1) :: (a2, o2) :: rest)) → TwoEnd h₀ L s ks y x I oI a1 a2 rest f s₃
theorem TwoEnd.intro {h₀ : Heap} {L : Addr} {s : Shared} {ks : List (PySem.Str × Value)} {y x : PySem.Str} {I : Addr} {oI : Obj} {a1 a2 : Addr} {rest all : List (Addr × Obj)} {h' : Heap} {tk' : Nat} {o1 o2 : Obj} {v1 v2 : Option Value} {t : Tok} {m' : PySem.Str → Option Value}
    (F : Fr h₀ L h' m') (N : News h₀ L h' all) (sub : ∀ p ∈ (I, oI) :: (a1, o1) :: (a2, o2) :: rest, p ∈ all) (h1 : o1.data = .cell v1) (h2 : o2.data = .cell v2) (hk : ∀ p ∈ (y, Value.str x t) :: ks, m' p.1 = some p.2) :
    TwoEnd h₀ L s ks y x I oI a1 a2 rest .next { s with heap := h', toks := tk' } := ⟨rfl, h', tk', o1, o2, v1, v2, t, m', rfl, h1, h2, hk, F, fun p hp => N p (sub p hp)⟩
/-- a for over a range that grows one text and sets two cells -/
theorem for_two {prog : Program} {w : World} {A : Around} {E : Value → Shared → Prop} {s : Shared} {env : Env} {h₀ : Heap} {L : Addr} {Q : Flow → Shared → Prop} {tgt : PySem.Expr} {body : List Stmt} {r : Addr} {a b : Int} {t u v : Tok} {m : PySem.Str → Option Value} {a1 a2 : Addr} {o1 o2 : Obj} {v1 v2 : Option Value} {rest : List (Addr × Obj)}
    (y : PySem.Str) (ks : List (PySem.Str × Value)) (S : Nat → PySem.Str)
    (hh : A.handled = none) (hr : IsRange s.heap r a b 1 t u v) (ha : 0 ≤ a ∧ a ≤ 1000) (hb : 0 ≤ b ∧ b ≤ 1000)
    (F : Fr h₀ L s.heap m) (N : News h₀ L s.heap ((a1, o1) :: (a2, o2) :: rest)) (hc1 : o1.data = .cell v1) (hc2 : o2.data = .cell v2) (hks : ∃ t0, ∀ p ∈ (y, Value.str (S 0) t0) :: ks, m p.1 = some p.2)
    (turn : ∀ I i tv oI o1 o2 v1 v2 t1 (m₁ : PySem.Str → Option Value) h tk, i < (b - a).toNat → o1.data = .cell v1 → o2.data = .cell v2 → (@Ne Nat a1 I) → (@Ne Nat a2 I) → (∀ p ∈ rest, p.1 ≠ I) → Fr h₀ L h (withNames ((y, Value.str (S i) t1) :: ks) m₁) → News h₀ L h ((I, oI) :: (a1, o1) :: (a2, o2) :: rest) →
      wpAny (model prog w) A (assign tgt env (.int (a + (i : Int)) tv)) (fun _ s₂ => wpAny (model prog w) A (execs body env) (TwoEnd h₀ L s ks y (S (i + 1)) I oI a1 a2 rest) E s₂) E { s with heap := h, toks := tk })
    (done : ∀ t1 o1 o2 (m₁ : PySem.Str → Option Value) h tk, Fr h₀ L h (withNames ((y, Value.str (S (b - a).toNat) t1) :: ks) m₁) → News h₀ L h ((a1, o1) :: (a2, o2) :: rest) → Q .next { s with heap := h, toks := tk })
    (ht : ∀ I v, letOwnedTupleGo tgt (.ref I) v = pure () := by intro _ _; rfl)
    (hL : env.locals = L := by rfl) (hE : PassesOwn (model prog w) A env E := by passes_own) :
    wpAny (model prog w) A (pyIter (.ref r)) (fun it s₂ => codeAny (model prog w) A (.forLoop tgt it body [] env) (fun r s' => match r with | .ok f => Q f s' | .error e => cameBackBy (model prog w) A env E e s') s₂) E s := by
  refine for_range (fun I i m₁ news₁ => ∃ o1 o2 v1 v2 t1, news₁ = (a1, o1) :: (a2, o2) :: rest ∧ o1.data = .cell v1 ∧ o2.data = .cell v2 ∧ ∀ p ∈ (y, Value.str (S i) t1) :: ks, m₁ p.1 = some p.2) hh hr ha hb F N (fun _ _ => ⟨_, _, _, _, _, rfl, hc1, hc2, hks.choose_spec⟩) ?_ ?_ ht hL hE
  · rintro I i tv oI m₁ news₁ h tk hi ⟨o1, o2, v1, v2, t1, rfl, hc1, hc2, hm₁⟩ hoff F₁ N₁
    rw [withNames_eq hm₁] at F₁
    have e1 : a1 ≠ I := hoff _ (.head _)
    have e2 : a2 ≠ I := hoff _ (.tail _ (.head _))
    refine wpAny_mono (turn I i tv oI o1 o2 v1 v2 t1 m₁ h tk hi hc1 hc2 e1 e2 (fun p hp => hoff p (.tail _ (.tail _ hp))) F₁ N₁) (fun _ s₂ h₂ => wpAny_mono h₂ (fun f s₃ h₃ => ?_) fun _ _ e => e) fun _ _ e => e
    obtain ⟨rfl, h', tk', o1', o2', v1', v2', t', m', rfl, hc1', hc2', hm', F', N'⟩ := h₃
    refine ⟨h', tk', m', _, rfl, F', N', fun p hp => ?_, o1', o2', v1', v2', t', rfl, hc1', hc2', hm'⟩
    rcases List.mem_cons.mp hp with rfl | hp
    · exact e1
    rcases List.mem_cons.mp hp with rfl | hp
    · exact e2
    · exact hoff p (.tail _ (.tail _ hp))
  · rintro I m₁ news₁ h tk ⟨o1, o2, v1, v2, t1, rfl, hc1, hc2, hm₁⟩ F₁ N₁
    rw [withNames_eq hm₁] at F₁
    exact done t1 o1 o2 m₁ h tk F₁ N₁
theorem row_item {prog : Program} {w : World} {A : Around} {E : Value → Shared → Prop} {s : Shared} {h₀ : Heap} {L a : Addr} {news : List (Addr × Obj)} {value slice : PySem.Expr} {x : PySem.Str} {t u u' : Tok} {i k : Int} {n : Nat} {v : Value} {Q : Value → Shared → Prop}
    (N : News h₀ L s.heap news) (hm : (a, ({ cls := .type "tuple", data := .seq #[.str x t, .int i u] n } : Obj)) ∈ news) (h0 : 0 ≤ k) (h1 : k < 2) (hv : [Value.str x t, .int i u][k.toNat]? = some v) (h : Q v s)
    (hs : subscripted slice false (.ref a) (.int k u') = operate [.ref a, .int k u'] (getItem (.ref a) (.int k u')) := by with_unfolding_all rfl) :
    wpAny (model prog w) A (subscriptTail value slice (.ref a) (.int k u')) Q E s :=
  PyProof.Rows.item_tupleT (l := [.str x t, .int i u]) ⟨_, (N _ hm).1, rfl, n, rfl⟩ (by omega) (by omega) (seqIndex_of h0 (by simpa using h1)) hv h hs
theorem RelAt.ints {is : List Nat} {ys : List Value} (h : RelAt (fun i y => ∃ t, y = Value.int (0 + (i : Int)) t) is ys) : IntsAre ys (is.map fun i : Nat => (i : Int)) := by
  refine Mine.intsAre_of (by rw [List.length_map, h.1]) fun i y e => ?_
  obtain ⟨k, hk, t, rfl⟩ := h.2 i y e
  exact ⟨t, by rw [List.getElem?_map, hk, Int.zero_add]; rfl⟩
theorem kt {A : Bool} {P : Prop} [Decidable P] (h1 : A = true) (h2 : P) : true = (A && decide P) := by simp [h1, h2]
theorem kf1 {A : Bool} {P : Prop} [Decidable P] (h2 : ¬ P) : false = (A && decide P) := by simp [h2]
theorem kf2 {A B : Bool} (h1 : A = false) : false = (A && B) := by simp [h1]

theorem slice_places (lo hi : Option Int) (n : Nat) : Builtin.Str.strSliceIndices lo hi 1 n = (List.range (kms_hi hi n - kms_lo lo n)).map (kms_lo lo n + ·) := by
  have e := kms_bounds lo hi n
  have e1 : Builtin.Str.strSliceIndices lo hi 1 n = sliceRange (sliceBounds lo hi none n).1 (sliceBounds lo hi none n).2.1 (sliceBounds lo hi none n).2.2 := by
    cases lo <;> cases hi <;> rfl
  rw [e1, e]
  exact sliceRange_one _ _
/-- a text's piece, as a list -/
theorem slice_list (x : PySem.Str) (lo hi : Option Int) : (Txt.slice x lo hi).cps.toList = (x.cps.toList.drop (kms_lo lo x.length)).take (kms_hi hi x.length - kms_lo lo x.length) := by
  have e := slice_places lo hi x.length
  have hh : kms_hi hi x.length ≤ x.length := by
    unfold kms_hi
    split
    · exact Nat.le_refl _
    · split <;> omega
  have hlo : kms_lo lo x.length ≤ x.length := by
    unfold kms_lo
    split
    · exact Nat.zero_le _
    · split <;> omega
  have hlen : x.cps.toList.length = x.length := Array.length_toList
  unfold Txt.slice
  rw [e]
  split
  · rename_i h
    simp only [beq_self_eq_true, Bool.true_and, List.length_map, List.length_range, beq_iff_eq] at h
    have h0 : kms_lo lo x.length = 0 := by omega
    rw [h0, List.drop_zero, List.take_of_length_le (by omega)]
  · show (List.filterMap _ _).toArray.toList = _
    rw [List.toList_toArray]
    exact pick_run _ _ _
theorem slice_from (x : PySem.Str) (i : Nat) : (Txt.slice x (some (i : Int)) none).cps.toList = x.cps.toList.drop i := by
  have hlen : x.cps.toList.length = x.length := Array.length_toList
  rw [slice_list]
  simp only [kms_lo, kms_hi, if_neg (show ¬ ((i : Nat) : Int) < 0 by omega), Int.toNat_natCast]
  rw [List.take_of_length_le (by rw [List.length_drop]; omega), ← hlen]
  exact kmk_drop_min _ _
theorem slice_upto (x : PySem.Str) (i : Nat) : (Txt.slice x none (some (i : Int))).cps.toList = x.cps.toList.take i := by
  have hlen : x.cps.toList.length = x.length := Array.length_toList
  rw [slice_list]
  simp only [kms_lo, kms_hi, if_neg (show ¬ ((i : Nat) : Int) < 0 by omega), Int.toNat_natCast, List.drop_zero, Nat.sub_zero]
  rw [← hlen]
  exact kmk_take_min _ _
theorem slice_run (x : PySem.Str) (i j : Nat) : (Txt.slice x (some (i : Int)) (some (j : Int))).cps.toList = (x.cps.toList.drop i).take (j - i) := by
  have hlen : x.cps.toList.length = x.length := Array.length_toList
  rw [slice_list]
  simp only [kms_lo, kms_hi, if_neg (show ¬ ((i : Nat) : Int) < 0 by omega), if_neg (show ¬ ((j : Nat) : Int) < 0 by omega), Int.toNat_natCast]
  rw [← hlen, kmk_drop_min]
  by_cases hj : j ≤ x.cps.toList.length
  · rw [Nat.min_eq_left hj]
    by_cases hi : i ≤ x.cps.toList.length
    · rw [Nat.min_eq_left hi]
    · rw [List.drop_of_length_le (by omega), List.take_nil, List.take_nil]
  · rw [Nat.min_eq_right (by omega), List.take_of_length_le (by rw [List.length_drop]; omega), List.take_of_length_le (by rw [List.length_drop]; omega)]
theorem str_list {x y : PySem.Str} (h : x.cps.toList = y.cps.toList) : x = y := Str.ext' (Array.toList_inj.mp h)
theorem str_list_iff {x y : PySem.Str} : x = y ↔ x.cps.toList = y.cps.toList := ⟨fun h => by rw [h], str_list⟩

/-- rows come back: a list of the call's own, its rows beside it -/
noncomputable def RetRows (rows : List (PySem.Str × Int)) (tl : List (Addr × Obj)) (r : Value) : Prop := ∃ a vs c T, r = .ref a ∧ tl = (a, listOf vs.toArray c) :: T ∧ RowsAt T vs rows
theorem con_useW {w : World} {f : Addr} {vs : List Value} {dep un : Nat} {Pre : List (Addr × Obj) → Prop} {Post : List (Addr × Obj) → Value → Prop} {rows : List (PySem.Str × Int)} (C : Con w f vs dep un Pre Post)
    {p : Program} {loose : List PySem.Str} {mean : ExcName → Option Value} {mg mb : PySem.Str → Option Value}
    {dp un0 : Nat} {gd : Option (List Code)} {cn : PySem.Str} {cs : Scope} {a : Addr} {ccd : Value} {cl : List (PySem.Str × Addr)} {outer : List Env} {A₀ : Around} {base h₀ : Heap} {L : Addr} {m : PySem.Str → Option Value}
    {news : List (Addr × Obj)} {s : Shared} {Q E : Value → Shared → Prop}
    (B : Below A₀ base outer h₀) (F : Fr h₀ L s.heap m) (X : (hd.heap_39 w.params).In h₀) (N : News h₀ L s.heap news) (T : Top p loose mean mg mb h₀) (hk : cs.kind = .function)
    (hp : Pre news) (hd : dp + dep < recursionLimit) (hu : un0 + un < cLine)
    (e : ∀ tl r, Post tl r → ∃ a vs c T, r = .ref a ∧ tl = (a, listOf vs.toArray c) :: T ∧ RowsAt T vs rows)
    (ret : ∀ a vs c T h' tk', RowsAt T vs rows → Fr h₀ L h' m → News h₀ L h' (((a, listOf vs.toArray c) :: T) ++ news) → OwnOff ((a, listOf vs.toArray c) :: T) (news.map (·.1)) → Q (.ref a) { s with heap := h', toks := tk' }) :
    wpAny (model PySem.Challenge.rw_rs0197_01.row.prog w) (ktrTop dp un0 gd cn cs L a ccd cl outer) (call (.ref f) vs) Q E s :=
  con_use C B F X N T hk hp hd hu fun r tl h' tk' F' N' O P => by
    obtain ⟨a, vs, c, T, rfl, rfl, H⟩ := e _ _ P; exact ret a vs c T h' tk' H F' N' O
noncomputable def keptRows (b : Bool) (x : PySem.Str) : Nat → List (PySem.Str × Int)
  | 0 => []
  | k + 1 => rowsIns (keptRows b x k) (wr b (Txt.slice x (some (0 + (k : Int))) none), 0 + (k : Int))
theorem keptRows_len (b : Bool) (x : PySem.Str) : ∀ k, (keptRows b x k).length = k
  | 0 => rfl
  | k + 1 => by rw [keptRows, rowsIns_len, keptRows_len b x k]
theorem perm3 {α : Type} {p a b c : α} {T : List α} (h : p ∈ c :: a :: b :: T) : p ∈ a :: b :: c :: T := by
  rcases List.mem_cons.mp h with rfl | h
  · exact .tail _ (.tail _ (.head _))
  rcases List.mem_cons.mp h with rfl | h
  · exact .head _
  rcases List.mem_cons.mp h with rfl | h
  · exact .tail _ (.head _)
  · exact .tail _ (.tail _ (.tail _ h))
section
theorem c_kept (w : World) (x : PySem.Str) (tx : Tok) (b : Bool) (hx : x.length ≤ 6) : Con w 147 [.str x tx, .bool b] 4 60 (fun _ => True) (RetRows (keptRows b x x.length)) := by
  w_top off
  w_strict (
  unfold Con
  k_fill
  intro p loose mean mg mb dp un gd cn cs a ccd cl outer A₀ base h₀ L m news s Q E B F X N T hk hpre hd hu hret
  refine wpAny_call ?_
  k_dflt cell_enter
  (repeat ((fail_if_success (with_reducible show wpAny _ _ (exec (PySem.Stmt.For _ _ _ _ _) _) _ _ _)); (first | (k_unfold; (try dsimp only)) | (k_end; wrow_close) | walk1 | (dsimp only; walk1) | (leave1; (try dsimp only)) | fail "no step")))
  refine wpAny_For ?_
  (repeat ((fail_if_success (with_reducible show wpAny _ _ (pyIter _) _ _ _)); (first | (k_unfold; (try dsimp only)) | (k_end; wrow_close) | walk1 | (dsimp only; walk1) | (leave1; (try dsimp only)) | fail "no step")))
  refine Mine.for_growT (ys₀ := []) (PySem.Str.ofString "kept") [(PySem.Str.ofString "text", .str x tx), (PySem.Str.ofString "whole", .bool b)] (fun i ys T => ∃ tl, T = tl ++ news ∧ RowsAt tl ys (keptRows b x i) ∧ OwnOff tl (news.map (·.1))) (by rfl) (by with_reducible assumption) (by omega) (by omega) (by k_asm) (by k_asm) ?_ ?_ ?_ ?_ ?_
  · exact (Mine.allC (by rfl) ((Mine.allC (by rfl) ((Mine.allC (by rfl) (List.forall_mem_nil _))))))
  · exact ne_lt (by assumption)
  · exact ⟨[], rfl, ⟨rfl, fun j p e => by simp [keptRows] at e⟩, own_nil⟩
  · rintro I i tv oI ys c T m₁ h tk hi ⟨tl, rfl, hrows, hown⟩ neA offA offI F1 N1
    (try dsimp only)
    refine wpAny_assign_Name ?_
    (repeat ((fail_if_success (with_reducible show wpAny _ _ (call (Value.ref _) _ _) _ _ _)); (first | (k_unfold; (try dsimp only)) | (k_end; wrow_close) | walk1 | (dsimp only; walk1) | (leave1; (try dsimp only)) | fail "no step")))
    refine con_use1 (c_write _ _ _ _ (Nat.le_trans (Txt.slice_le _ _ _) (by assumption))) (by k_asm) (by k_asm) (by k_asm) (by k_asm) (by k_asm) (by exact rfl) (trivial) (by (first | exact Mine.uni2 (by assumption) rfl | exact Mine.uni1 (by assumption) rfl | exact Mine.uniN rfl | ktr_room)) (by (first | exact Mine.uni2 (by assumption) rfl | exact Mine.uni1 (by assumption) rfl | exact Mine.uniN rfl | ktr_units)) (fun _ _ h => h) ?_
    intro t9 h9 tk9 F9 N9
    (try dsimp only); (try k_fold)
    (repeat ((fail_if_success (with_reducible show wpAny _ _ (call (Value.ref _) _ _) _ _ _)); (first | (k_unfold; (try dsimp only)) | (k_end; wrow_close) | walk1 | (dsimp only; walk1) | (leave1; (try dsimp only)) | fail "no step")))
    (rename News _ _ _ _ => N9)
    (rename _ ∧ _ ∧ AllLt _ _ => l9)
    refine c_insort (rows := keptRows b x i) (by rw [keptRows_len]; omega) (by k_asm) (by k_asm) (by k_asm) (fun p hp => N9 p (perm3 hp)) (by k_asm) rfl ?_ (hrows.mono fun p hp => .tail _ (.tail _ (List.mem_append_left _ hp))) (.head _) (by (first | exact Mine.uni2 (by assumption) rfl | exact Mine.uni1 (by assumption) rfl | exact Mine.uniN rfl | ktr_room)) (by (first | exact Mine.uni2 (by assumption) rfl | exact Mine.uni1 (by assumption) rfl | exact Mine.uniN rfl | ktr_units)) ?_
    · exact (Mine.allC (Nat.ne_of_gt l9.2.1) ((Mine.allC (Ne.symm neA) offA)))
    · intro h5 tk5 c5 F5 N5
      (try dsimp only)
      (first | (k_unfold; (try dsimp only)) | (k_end; wrow_close) | walk1 | (dsimp only; walk1) | (leave1; (try dsimp only)) | fail "no step")
      refine RowsEnd.intro (by k_asm) N5 (_ :: (tl ++ news)) (fun p hp => perm3 hp) ?_ ((Mine.allC (Nat.ne_of_gt l9.2.1) offA)) ((Mine.allC (Nat.ne_of_gt l9.1) offI))
        ⟨_ :: tl, rfl, (hrows.mono fun p hp => .tail _ hp).ins (by rw [keptRows_len]; omega) (.head _), own_cons (fun p hp => Nat.ne_of_lt (allLt_out l9.2.2 p (List.mem_append_right _ hp))) hown⟩
      exact (Mine.allC (by rfl) ((Mine.allC (by rfl) ((Mine.allC (by rfl) (List.forall_mem_nil _))))))
  · rintro ys c T m₁ h tk ⟨tl, rfl, hrows, hown⟩ offA F1 N1
    rw [show (((x.length : Nat) : Int) - 0).toNat = x.length from by omega] at hrows
    iterate 4 (first | (k_unfold; (try dsimp only)) | (k_end; wrow_close) | walk1 | (dsimp only; walk1) | (leave1; (try dsimp only)) | fail "no step")
    (rename News h₀ L _ _ => kN0)
    exact hret _ (_ :: tl) _ _ (by k_asm) kN0 (own_cons (fun p hp => offA p (List.mem_append_right _ hp)) hown) ⟨_, _, _, _, rfl, rfl, hrows⟩)
end

theorem perm4 {α : Type} {p a b c d : α} {T : List α} (h : p ∈ d :: a :: b :: c :: T) : p ∈ a :: b :: c :: d :: T := by
  rcases List.mem_cons.mp h with rfl | h
  · exact .tail _ (.tail _ (.tail _ (.head _)))
  rcases List.mem_cons.mp h with rfl | h
  · exact .head _
  rcases List.mem_cons.mp h with rfl | h
  · exact .tail _ (.head _)
  rcases List.mem_cons.mp h with rfl | h
  · exact .tail _ (.tail _ (.head _))
  · exact .tail _ (.tail _ (.tail _ (.tail _ h)))
theorem perm5 {α : Type} {p a b c d e : α} {T : List α} (h : p ∈ d :: e :: a :: b :: c :: T) : p ∈ e :: a :: b :: c :: d :: T := by
  rcases List.mem_cons.mp h with rfl | h
  · exact .tail _ (.tail _ (.tail _ (.tail _ (.head _))))
  rcases List.mem_cons.mp h with rfl | h
  · exact .head _
  · exact .tail _ (perm4 (List.mem_cons_of_mem d h))
theorem ne_lt3 {P L : Addr} (h : P < L) (k : Nat) : @Ne Nat (L + k) P := Nat.ne_of_gt (Nat.lt_of_lt_of_le h (Nat.le_add_right _ _))
theorem News.re {h₀ h : Heap} {L : Addr} {f P r a b c : Addr × Obj} {W T : List (Addr × Obj)} (N : News h₀ L h (f :: P :: (W ++ r :: a :: b :: c :: T))) : News h₀ L h (f :: P :: a :: b :: c :: r :: (W ++ T)) :=
  fun p hp => N p (by
    revert p
    ((intro pq hpq; (simp only [List.mem_cons, List.mem_append, List.cons_append] at hpq ⊢); (repeat' (with_reducible refine Or.elim hpq (fun hpq => ?_) (fun hpq => ?_))) <;> simp only [*, true_or, or_true])))
/-- the order of the nine signs -/
noncomputable def orderL (b : Bool) : List Nat := if b then [32, 9, 10, 13, 38, 62, 60, 34, 97] else [9, 10, 13, 32, 34, 38, 62, 60, 97]
noncomputable def keyI (b : Bool) (x : PySem.Str) (j : Nat) : List Int := (Txt.slice x (some (0 + (j : Int))) none).cps.toList.map fun c => (((orderL b).idxOf c : Nat) : Int)
theorem rot3 {α : Type} {p a b c : α} {T : List α} (h : p ∈ a :: b :: ([c] ++ T)) : p ∈ c :: a :: b :: T := by
  rcases List.mem_cons.mp h with rfl | h
  · exact .tail _ (.head _)
  rcases List.mem_cons.mp h with rfl | h
  · exact .tail _ (.tail _ (.head _))
  rcases List.mem_cons.mp h with rfl | h
  · exact .head _
  · exact .tail _ (.tail _ (.tail _ h))
theorem slice_mem {x : PySem.Str} {l u : Option Int} {c : Nat} (h : c ∈ (Txt.slice x l u).cps.toList) : c ∈ x.cps.toList := by
  unfold Txt.slice at h
  split at h
  · exact h
  · rw [List.mem_filterMap] at h
    obtain ⟨i, _, e⟩ := h
    exact Array.mem_toList_iff.mpr (Array.mem_of_getElem? e)
theorem at_mem {x : PySem.Str} {i c : Nat} (h : x.cps[i]? = some c) : c ∈ x.cps.toList := Array.mem_toList_iff.mpr (Array.mem_of_getElem? h)
/-- the signs' order as the text that the code lays -/
noncomputable def orderS (b : Bool) : PySem.Str := if b then PySem.Str.ofString " \t\n\r&><\"a" else PySem.Str.ofString "\t\n\r \"&><a"
theorem occ_b (b : Bool) : ∀ c ∈ orderL true, PySem.Builtin.Str.occurrences (orderS b) ⟨#[c]⟩ 0 (orderS b).length 1 = [(orderL b).idxOf c] := by
  cases b <;> decide +kernel
theorem place_at {lt : Nat → Nat → Bool} {us : List Value} {n : Nat} (h4 : 4 ≤ n) (h6 : n ≤ 6) (hus : IntsAre us ((kasRun lt (kas_sort n)).toList.map fun i => (rangeKs 0 n).getD i 0)) {i : Nat} {v : Value} (e : us.toArray[i]? = some v) :
    ∃ k, (kasRun lt (kas_sort n)).toList[i]? = some k ∧ k < n ∧ ∃ t, v = .int (k : Int) t := by
  obtain ⟨z, t, e1, e2⟩ := PyProof.Rows.IntsAre.at hus i v (by simpa using e)
  rw [List.getElem?_map] at e2
  cases hk : (kasRun lt (kas_sort n)).toList[i]? with
  | none => rw [hk] at e2; cases e2
  | some k =>
    rw [hk] at e2
    have hb := (kasOut_all lt h4 h6).2 k (List.mem_of_getElem? hk)
    have e3 : (rangeKs 0 n).getD k 0 = z := by simpa using e2
    rw [kll_at hb] at e3
    exact ⟨k, rfl, hb, t, by rw [e1, ← e3]; simp⟩
/-- the rows that must come -/
noncomputable def dueRows (b : Bool) (x : PySem.Str) : List (PySem.Str × Int) := (kasRun (fun i j => lexI (keyI b x i) (keyI b x j)) (kas_sort x.length)).toList.map fun k : Nat => (wr b (Txt.slice x (some (k : Int)) none), (k : Int))
noncomputable def RetDue (rows : List (PySem.Str × Int)) (tl : List (Addr × Obj)) (r : Value) : Prop := ∃ a vs c T, r = .ref a ∧ tl = (a, listOf vs.toArray c) :: T ∧ RowsAt T vs rows
theorem due_end {h₀ h : Heap} {L : Addr} {D8 D f P a b c r : Addr × Obj} {W T K : List (Addr × Obj)} (N : News h₀ L h (D8 :: D :: f :: P :: a :: b :: c :: r :: (W ++ T ++ K))) :
    News h₀ L h (P :: ((D8 :: D :: f :: a :: b :: c :: r :: (W ++ K)) ++ T)) := fun p hp => N p (by
    revert p
    ((intro pq hpq; (simp only [List.mem_cons, List.mem_append, List.cons_append] at hpq ⊢); (repeat' (with_reducible refine Or.elim hpq (fun hpq => ?_) (fun hpq => ?_))) <;> simp only [*, true_or, or_true])))
theorem due_keep {α : Type} {p D8 D f a b c r : α} {W Z K : List α} (h : p ∈ W ++ K) : p ∈ (D8 :: D :: f :: a :: b :: c :: r :: (W ++ Z)) ++ K := by
  rcases List.mem_append.mp h with h | h
  · exact List.mem_append_left _ (.tail _ (.tail _ (.tail _ (.tail _ (.tail _ (.tail _ (.tail _ (List.mem_append_left _ h))))))))
  · exact List.mem_append_right _ h
theorem due_off {D8 D f P a b c r : Addr × Obj} {W T K : List (Addr × Obj)} (h8 : ∀ p ∈ D :: f :: P :: a :: b :: c :: r :: (W ++ T ++ K), p.1 ≠ D8.1) (hD : ∀ p ∈ f :: P :: a :: b :: c :: r :: (W ++ T), p.1 < D.1) (hf : ∀ q ∈ W ++ r :: a :: b :: c :: T, q.1 < f.1) (hP : P.1 < f.1)
    (ha : P.1 < a.1 ∧ ∀ q ∈ T, q.1 < a.1) (hb : P.1 < b.1 ∧ ∀ q ∈ T, q.1 < b.1) (hc : P.1 < c.1 ∧ ∀ q ∈ T, q.1 < c.1) (hr : P.1 < r.1 ∧ ∀ q ∈ T, q.1 < r.1) (hW : ∀ p ∈ W, P.1 < p.1 ∧ ∀ q ∈ r :: a :: b :: c :: T, q.1 < p.1)
    (hK : OwnOff K ((D :: f :: P :: a :: b :: c :: r :: (W ++ T)).map (·.1))) : ∀ p ∈ D8 :: D :: f :: a :: b :: c :: r :: (W ++ K), p.1 ≠ P.1 ∧ ∀ q ∈ T, q.1 ≠ p.1 := by
  have mT : ∀ q ∈ T, q ∈ W ++ T := fun q hq => List.mem_append_right _ hq
  have gt : ∀ {p : Addr × Obj}, P.1 < p.1 ∧ (∀ q ∈ T, q.1 < p.1) → p.1 ≠ P.1 ∧ ∀ q ∈ T, q.1 ≠ p.1 := fun h => ⟨Nat.ne_of_gt h.1, fun q hq => Nat.ne_of_lt (h.2 q hq)⟩
  refine (Mine.allC (⟨Ne.symm (h8 P (.tail _ (.tail _ (.head _)))), fun q hq => h8 q (.tail _ (.tail _ (.tail _ (.tail _ (.tail _ (.tail _ (.tail _ (List.mem_append_left _ (mT q hq))))))))) ⟩) ?_)
  refine (Mine.allC (gt ⟨hD P (.tail _ (.head _)), fun q hq => hD q (.tail _ (.tail _ (.tail _ (.tail _ (.tail _ (.tail _ (mT q hq)))))))⟩) ?_)
  refine (Mine.allC (gt ⟨hP, fun q hq => hf q (List.mem_append_right _ (.tail _ (.tail _ (.tail _ (.tail _ hq)))))⟩) ?_)
  refine (Mine.allC (gt ha) ((Mine.allC (gt hb) ((Mine.allC (gt hc) ((Mine.allC (gt hr) ?_)))))))
  intro p hp
  rcases List.mem_append.mp hp with hp | hp
  · exact gt ⟨(hW p hp).1, fun q hq => (hW p hp).2 q (.tail _ (.tail _ (.tail _ (.tail _ hq))))⟩
  · refine ⟨hK p hp _ (List.mem_map_of_mem (.tail _ (.tail _ (.head _)))), fun q hq => Ne.symm (hK p hp _ (List.mem_map_of_mem ?_))⟩
    exact .tail _ (.tail _ (.tail _ (.tail _ (.tail _ (.tail _ (.tail _ (mT q hq)))))))
theorem news_below {h₀ h h' : Heap} {L : Addr} {news : List (Addr × Obj)} (k : ∀ (b : Addr) (o : Obj), h.get? b = some o → h'.get? b = some o) (N : News h₀ L h news) : ∀ p ∈ news, p.1 < h.objs.size := fun p hp => Heap.lt_size (N p hp).1
theorem due_rows {b : Bool} {x : PySem.Str} {ys : List Value} {chunk : List (Addr × Obj)} {n : Nat} (hn : (kasRun (fun i j => lexI (keyI b x i) (keyI b x j)) (kas_sort x.length)).toList.length = n) (hl : ys.length = n)
    (hr : ∀ (i : Nat) (y : Value), ys[i]? = some y → ∃ k, ((kasRun (fun i j => lexI (keyI b x i) (keyI b x j)) (kas_sort x.length)).toList)[i]? = some k ∧ ∃ a t u n, y = Value.ref a ∧ (a, rowObj (wr b (Txt.slice x (some (k : Int)) none)) t (k : Int) u n) ∈ chunk) : RowsAt chunk ys (dueRows b x) := by
  refine ⟨by unfold dueRows; rw [List.length_map, hl, hn], fun j p e => ?_⟩
  unfold dueRows at e
  rw [List.getElem?_map] at e
  have hj : j < ys.length := by
    rcases Nat.lt_or_ge j ys.length with h | h
    · exact h
    · rw [List.getElem?_eq_none (by omega)] at e; cases e
  obtain ⟨k, hk, a, t, u, n', e1, hm⟩ := hr j ys[j] (List.getElem?_eq_getElem hj)
  rw [hk] at e
  cases e
  exact ⟨a, t, u, n', by rw [List.getElem?_eq_getElem hj, e1], hm⟩
theorem own_lt {p : Addr × Obj} {tl news : List (Addr × Obj)} (h : ∀ q ∈ news, q.1 < p.1) (r : OwnOff tl (news.map (·.1))) : OwnOff (p :: tl) (news.map (·.1)) := own_cons (a := p.1) (o := p.2) (ne_lt h) r
section
local macro_rules | `(tactic| walk_at "newTuple") => `(tactic| (k_dflt (refine Mine.newTuple_O (by k_asm) (by k_asm) (Nat.le_of_ble_eq_true rfl) ?_); intro D' h' F' N' l1))
theorem c_due {w : World} {x : PySem.Str} {tx : Tok} {b : Bool} (hx4 : 4 ≤ x.length) (hx : x.length ≤ 6) (hsig : ∀ c ∈ x.cps.toList, c ∈ orderL true)
    {p : Program} {loose : List PySem.Str} {mean : ExcName → Option Value} {mg mb : PySem.Str → Option Value} {dp un : Nat} {gd : Option (List Code)} {cn : PySem.Str} {cs : Scope} {a : Addr} {ccd : Value} {cl : List (PySem.Str × Addr)} {outer : List Env} {A₀ : Around} {base h₀ : Heap} {L : Addr} {m : PySem.Str → Option Value}
    {news : List (Addr × Obj)} {s : Shared} {Q E : Value → Shared → Prop} {ps : Array Value} {K : List (Addr × Obj)} (hK : ∀ p ∈ K, p ∈ news) (CD : CodeHd h₀ 151 149) (ht : TabOne (PySem.Str.ofString "_law_due.<locals>.<lambda>") ⟨163, 42, 163, 91⟩ ps K)
    (B : Below A₀ base outer h₀) (F : Fr h₀ L s.heap m) (X : (hd.heap_39 w.params).In h₀) (N : News h₀ L s.heap ((149, tabObj ps) :: news)) (T : Top p loose mean mg mb h₀) (hk : cs.kind = .function)
    (hoff : ∀ p ∈ news, p.1 ≠ 149) (hd : dp + 4 < recursionLimit) (hu : un + 60 < cLine)
    (hret : ∀ r ps' tl h' tk', Fr h₀ L h' m → News h₀ L h' ((149, tabObj ps') :: (tl ++ news)) → TabHas (PySem.Str.ofString "_law_due.<locals>.<lambda>") ⟨163, 42, 163, 91⟩ ps' (tl ++ K) → (∀ p ∈ tl, p.1 ≠ 149) → OwnOff tl (news.map (·.1)) → RetDue (dueRows b x) tl r → Q r { s with heap := h', toks := tk' }) :
    wpAny (model PySem.Challenge.rw_rs0197_01.row.prog w) (ktrTop dp un gd cn cs L a ccd cl outer) (call (.ref 152) [.str x tx, .bool b]) Q E s := by
  w_top off
  w_strict (
  revert X
  k_fill
  intro X
  refine wpAny_call ?_
  k_dflt ((refine' code_defC ?k1 ?k2 ?k3 ?k4 ?k5 ?kA ?kF ?kK ?k6 ?k7 ?k8 ?k9 ?kB ?kD ?_ ?c2 ?c3 ?c4; (case kA => exact rfl); (case kF => exact rfl); (case kK => assumption); (case k1 => k_asm); (case k2 => k_asm); (case k3 => k_asm); (case k4 => k_asm); (case k5 => k_asm); (case k6 => k_is); (case k7 => k_is); (case k8 => ktr_room); (case k9 => exact BindsTo.of_eq rfl); (case kB => exact rfl); (case kD => decide +kernel); (case c2 => exact rfl); (case c3 => exact rfl); (case c4 => exact rfl); k_whole; intro g'q L'q h'q tk'q cells'q FG'q F'q N'q Y'q B'q X'q T'q l1q; (have l9q := Mine.offC l1q); (try k_lt l1q); k_cells Y'q; (try simp only [List.cons_append, List.nil_append] at N'q); (try dsimp only); (try k_lift B'q); (try k_fold)))
  (rename _ ∧ AllLt _ _ => la)
  (repeat ((fail_if_success (with_reducible show wpAny _ _ (eval (PySem.Expr.IfExp _ _ _ _) _) _ _ _)); (first | (k_unfold; (try dsimp only)) | (k_end; wrow_close) | walk1 | (dsimp only; walk1) | (leave1; (try dsimp only)) | fail "no step")))
  refine Mine.joinT (fun u => Value.str (orderS b) u) ?_ ?_
  · intro K9 hK9
    cases b
    · iterate 4 (first | (k_unfold; (try dsimp only)) | (k_end; wrow_close) | walk1 | (dsimp only; walk1) | (leave1; (try dsimp only)) | fail "no step")
      iterate 2 (first | (k_unfold; (try dsimp only)) | (k_end; wrow_close) | walk1 | (dsimp only; walk1) | (leave1; (try dsimp only)) | fail "no step")
      exact hK9 _ _
    · iterate 4 (first | (k_unfold; (try dsimp only)) | (k_end; wrow_close) | walk1 | (dsimp only; walk1) | (leave1; (try dsimp only)) | fail "no step")
      iterate 2 (first | (k_unfold; (try dsimp only)) | (k_end; wrow_close) | walk1 | (dsimp only; walk1) | (leave1; (try dsimp only)) | fail "no step")
      exact hK9 _ _
  intro u9 tk9
  (try dsimp only)
  (repeat ((fail_if_success (with_reducible show wpAny _ _ (eval (PySem.Expr.Lambda _ _ _ _) _) _ _ _)); (first | (k_unfold; (try dsimp only)) | (k_end; wrow_close) | walk1 | (dsimp only; walk1) | (leave1; (try dsimp only)) | fail "no step")))
  (rename IsRange _ _ _ _ _ _ _ _ => hrg)
  (rename (∀ (b : Addr) (o : Obj), Heap.get? _ b = some o → Heap.get? _ b = some o) => kp)
  have lr := news_below kp (by k_asm)
  have N1 := news_pushed (by k_asm) (by k_asm) kp hrg rfl
  refine kla_eval (by rfl) ?_
  refine' lam_one ?kF (fun p hp => N1 p (perm5 hp)) ?kT (CD.keeps (Fr.keep (L := L) (m := m) (by assumption))) (by exact rfl) ?ko ?km ht (by exact rfl) ?_
  (case kF => k_asm)
  (case kT => k_asm)
  (case ko => exact (Mine.allC (Nat.ne_of_gt (Nat.lt_trans la.1 (Heap.Ns.lt (Fr.ns (by k_asm))))) ((Mine.allC (ne_lt3 la.1 3) ((Mine.allC (ne_lt3 la.1 2) ((Mine.allC (ne_lt3 la.1 1) hoff))))))))
  (case km => exact fun p hp => .tail _ (.tail _ (.tail _ (.tail _ (hK p hp)))))
  intro f2 c2 ct2 h2 tk2 ps2 W2 F2 N2 ht2 hr2 lf2 lP2 lW2
  (first | (k_unfold; (try dsimp only)) | (k_end; wrow_close) | walk1 | (dsimp only; walk1) | (leave1; (try dsimp only)) | fail "no step")
  ksk_show
  have N3 := News.re N2
  refine' sorted_keys (fun j => keyI b x j) ?k0 ?kr ?ks ?kn ?ku ?kF N3 ?k4 ?k6 ?a1 ?a2 ?a3 ?_ ?_
  (case k0 => rfl)
  (case kr => exact (N3 _ (.tail _ (.tail _ (.tail _ (.tail _ (.tail _ (.head _))))))).1)
  (case ks => exact small_one (by omega) (by omega) (by omega) (by omega))
  (case kn => exact rangeSize_nat _ _)
  (case kF => k_asm)
  (case a1 => ksk_a1)
  (case a2 => (intro _; ksk_a2))
  (case a3 => (intro _; ksk_a3))
  (case k4 => omega)
  (case k6 => omega)
  (case ku => ktr_units)
  · intro j kS D ks e e1 chunk h4 tk4 tv hj F4 N4 o1 o2
    (simp only [List.cons_append] at N4)
    refine wpAny_call ?_
    refine' kla_code ?k1 ?k2 ?k3 ?k4 ?k5 ?kA ?kF ?kK ?k6 ?k7 ?k8 ?k9 ?kB ?_ ?c2 ?c3 ?c4 ?c5
    (case kA => exact rfl)
    (case kF => exact rfl)
    (case kK => exact rfl)
    (case k1 => k_asm)
    (case k2 => k_asm)
    (case k3 => k_asm)
    (case k4 => exact N4)
    (case k5 => k_asm)
    (case k6 => exact .tail _ (.tail _ (.head _)))
    (case k7 => exact (hr2.mono (by ((intro pq hpq; (simp only [List.mem_cons, List.mem_append, List.cons_append] at hpq ⊢); (repeat' (with_reducible refine Or.elim hpq (fun hpq => ?_) (fun hpq => ?_))) <;> simp only [*, true_or, or_true])))).rec N4)
    (case k8 => ktr_room)
    (case k9 => exact rfl)
    (case c5 => decide)
    (case kB => exact locs rfl)
    (case c2 => exact rfl)
    (case c3 => exact rfl)
    (case c4 => exact rfl)
    k_whole
    intro g' L' h' FG' F' N' B' X' T'
    (try dsimp only); (try k_lift B'); (try k_fold)
    refine Mine.ListComp_S (by k_asm) (by rfl) (by decide) (by rfl) (by decide) (by rfl) ?_
    iterate 8 (first | (k_unfold; (try dsimp only)) | (k_end; wrow_close) | walk1 | (dsimp only; walk1) | (leave1; (try dsimp only)) | fail "no step")
    refine ⟨_, _, _, rfl, rfl, by k_asm, by k_asm, ?_, ?_⟩
    · rw [PySem.sizeLine_eq]; exact Nat.le_trans (Nat.le_trans (Txt.slice_le _ _ _) hx) (by decide)
    rintro s₂ ⟨g2, rfl⟩
    refine Mine.rest_same _ (fun i y => ∃ c t, (Txt.slice x (some (0 + (j : Int))) none).cps[i]? = some c ∧ y = .int (((orderL b).idxOf c : Nat) : Int) t) ?_ trivial ?_
    · rintro i ys v I oI C oC D m₂ h tk E' hi ⟨c, u, hcx, rfl⟩ hC hx₂ F5 N5 off ne
      (try dsimp only)
      refine Mine.absQ ?_
      intro K9 hK9
      iterate 8 (first | (k_unfold; (try dsimp only)) | (k_end; wrow_close) | walk1 | (dsimp only; walk1) | (leave1; (try dsimp only)) | fail "no step")
      refine PySem.SC.index (occ_b b c (hsig c (slice_mem (at_mem hcx)))) ?_
      exact hK9 (Mine.turnB (by k_asm) (by k_asm) ⟨c, _, hcx, rfl⟩)
    · intro ys hl hr
      have hs : IntsAre ys (keyI b x j) := by
        refine Mine.intsAre_of (by rw [hl]; unfold keyI; simp) fun i y e => ?_
        obtain ⟨c, t, hc, rfl⟩ := hr i y e
        exact ⟨t, by unfold keyI; rw [List.getElem?_map, Array.getElem?_toList, hc]; rfl⟩
      unfold LCg.FinE
      intro D2 h5 tk5 F5 N5 off5
      iterate 2 (first | (k_unfold; (try dsimp only)) | (k_end; wrow_close) | walk1 | (dsimp only; walk1) | (leave1; (try dsimp only)) | fail "no step")
      (rename News _ _ _ _ => kN9)
      refine ⟨[(D2, LCg.lst ys)], _, _, rfl, by k_asm, fun p hp => kN9 p (rot3 hp), ?_, ?_, ⟨D2, ys, _, rfl, .head _, hs⟩⟩
      · exact (Mine.allC (Ne.symm off5.1) (List.forall_mem_nil _))
      · exact (Mine.allC (Ne.symm off5.2.1) (List.forall_mem_nil _))
  · intro D us c5 h5 tk5 hus F5 N5 l5
    rw [show (((x.length : Nat) : Int) - 0).toNat = x.length from by omega] at hus
    (try dsimp only)
    (repeat ((fail_if_success (with_reducible show wpAny _ _ (eval (PySem.Expr.ListComp _ _ _ _) _) _ _ _)); (fail_if_success (with_reducible show wpAny _ _ (exec (PySem.Stmt.Assign _ (PySem.Expr.ListComp _ _ _ _) _) _) _ _ _)); (first | (k_unfold; (try dsimp only)) | (k_end; wrow_close) | walk1 | (dsimp only; walk1) | (leave1; (try dsimp only)) | fail "no step")))
    refine PyProof.Rows.LCg.ListComp_U (by k_asm) (by rfl) (by decide) (by rfl) (by decide) (by rfl) ?_
    (first | (k_unfold; (try dsimp only)) | (k_end; wrow_close) | walk1 | (dsimp only; walk1) | (leave1; (try dsimp only)) | fail "no step")
    refine PyProof.Rows.LCg.CompSrc.ledger (by rfl) (by k_asm) (by k_asm) (by exact .head _) ?_ ?_
    · rw [List.size_toArray, hus.length, PySem.sizeLine_eq, List.length_map, (kasOut_all _ hx4 hx).1]; exact Nat.le_trans hx (by decide)
    intro g6
    refine Mine.rest_grow _ (fun i y T => ∃ k, ((kasRun (fun i j => lexI (keyI b x i) (keyI b x j)) (kas_sort x.length)).toList)[i]? = some k ∧ ∃ a t u n, y = .ref a ∧ (a, rowObj (wr b (Txt.slice x (some (k : Int)) none)) t (k : Int) u n) ∈ T) ?_ ?_ ?_ ?_
    · rintro i y T T' hs ⟨k, e, a, t, u, n, rfl, hm⟩
      exact ⟨k, e, a, t, u, n, rfl, hs _ hm⟩
    · rintro i ys chunk v I oI C oC D m₂ h tk E' hi hP hC hx₂ F6 N6 off ne
      (try dsimp only)
      refine Mine.absQ ?_
      intro K9 hK9
      obtain ⟨k, hk, hkn, tv, rfl⟩ := place_at hx4 hx hus hP
      (simp only [List.cons_append] at N6 off)
      (repeat ((fail_if_success (with_reducible show wpAny _ _ (call (Value.ref _) _ _) _ _ _)); (first | (k_unfold; (try dsimp only)) | (k_end; wrow_close) | walk1 | (dsimp only; walk1) | (leave1; (try dsimp only)) | fail "no step")))
      refine con_use1 (c_spell _ _ _ _ (Nat.le_trans (Txt.slice_le _ _ _) (by assumption))) (by k_asm) (by k_asm) (by k_asm) (by k_asm) (by k_asm) (by exact rfl) (trivial) (by (first | exact Mine.uni2 (by assumption) rfl | exact Mine.uni1 (by assumption) rfl | exact Mine.uniN rfl | ktr_room)) (by (first | exact Mine.uni2 (by assumption) rfl | exact Mine.uni1 (by assumption) rfl | exact Mine.uniN rfl | ktr_units)) (fun _ _ h => h) ?_
      intro t9 h9 tk9 F9 N9
      (try dsimp only); (try k_fold)
      iterate 5 (first | (k_unfold; (try dsimp only)) | (k_end; wrow_close) | walk1 | (dsimp only; walk1) | (leave1; (try dsimp only)) | fail "no step")
      (rename News _ _ _ _ => N9)
      refine hK9 (TurnEnd.more [_] (by k_asm) N9 (own_cons (ne_lt (by assumption)) own_nil) ⟨k, hk, _, _, _, _, rfl, .head _⟩)
    · exact fun chunk => .inr ⟨listOf us.toArray c5, .head _, rfl, c5, rfl⟩
    · intro ys chunk hl hr ho
      unfold LCg.FinE
      intro D8 h8 tk8 F8 N8 off8
      (simp only [List.cons_append] at N8 off8)
      (first | (k_unfold; (try dsimp only)) | (k_end; wrow_close) | walk1 | (dsimp only; walk1) | (leave1; (try dsimp only)) | fail "no step")
      (rename News h₀ L _ _ => kN9)
      have hoff9 := due_off (D8 := (D8, LCg.lst ys)) (off1_out off8) l5 lf2 lP2 ⟨Nat.lt_of_lt_of_le la.1 (Nat.le_add_right _ 3), fun q hq => Nat.lt_of_lt_of_le (allLt_out la.2 q hq) (Nat.le_add_right _ 3)⟩ ⟨Nat.lt_of_lt_of_le la.1 (Nat.le_add_right _ 2), fun q hq => Nat.lt_of_lt_of_le (allLt_out la.2 q hq) (Nat.le_add_right _ 2)⟩ ⟨Nat.lt_of_lt_of_le la.1 (Nat.le_add_right _ 1), fun q hq => Nat.lt_of_lt_of_le (allLt_out la.2 q hq) (Nat.le_add_right _ 1)⟩ ⟨lr (149, tabObj ps) (.tail _ (.tail _ (.tail _ (.head _)))), fun q hq => lr q (.tail _ (.tail _ (.tail _ (.tail _ hq))))⟩ lW2 ho
      refine hret _ ps2 _ _ _ (by k_asm) (due_end kN9) (ht2.mono fun p hp => due_keep hp) (fun p hp => (hoff9 p hp).1) (fun p hp b hb e => ?_) ⟨_, _, _, _, rfl, rfl, (due_rows (kasOut_all _ hx4 hx).1 (hl.trans (by rw [List.size_toArray, hus.length, List.length_map, (kasOut_all _ hx4 hx).1])) hr).mono (fun p hp => .tail _ (.tail _ (.tail _ (.tail _ (.tail _ (.tail _ (List.mem_append_right _ hp)))))))⟩
      obtain ⟨q, hq, rfl⟩ := List.mem_map.mp hb
      exact (hoff9 p hp).2 q hq e.symm
  )
end

noncomputable abbrev dueQ : PySem.Str := PySem.Str.ofString "_law_due.<locals>.<lambda>"
noncomputable abbrev dueP : Pos := ⟨163, 42, 163, 91⟩
noncomputable def DueEnd (h₀ : Heap) (L : Addr) (m : PySem.Str → Option Value) (s : Shared) (I : Addr) (oI : Obj) (C : Addr) (oC : Obj) (D : Addr) (oD : Obj) (base chunk : List (Addr × Obj)) (R : Value → List (Addr × Obj) → Prop) (y : Value) (s' : Shared) : Prop :=
  ∃ ps' T h' tk', s' = { s with heap := h', toks := tk' } ∧ Fr h₀ L h' m ∧ News h₀ L h' ((149, tabObj ps') :: (T ++ (I, oI) :: (C, oC) :: (D, oD) :: (base ++ chunk))) ∧ TabHas dueQ dueP ps' (T ++ chunk) ∧ (∀ p ∈ T, p.1 ≠ 149) ∧ OwnOff T (((I, oI) :: (C, oC) :: (D, oD) :: (base ++ chunk)).map (·.1)) ∧ R y T
theorem due_sub {α : Type} {p P a b c : α} {base T chunk : List α} (h : p ∈ a :: b :: c :: P :: (base ++ (T ++ chunk))) : p ∈ P :: (T ++ a :: b :: c :: (base ++ chunk)) := by
  rcases List.mem_cons.mp h with rfl | h
  · exact .tail _ (List.mem_append_right _ (.head _))
  rcases List.mem_cons.mp h with rfl | h
  · exact .tail _ (List.mem_append_right _ (.tail _ (.head _)))
  rcases List.mem_cons.mp h with rfl | h
  · exact .tail _ (List.mem_append_right _ (.tail _ (.tail _ (.head _))))
  rcases List.mem_cons.mp h with rfl | h
  · exact .head _
  rcases grow_mem h with h | h
  · exact .tail _ (List.mem_append_left _ h)
  · exact .tail _ (List.mem_append_right _ (.tail _ (.tail _ (.tail _ h))))
open PyProof.Rows.LCg in
/-- a comprehension whose turns call _law_due: the code table grows beside the chunk -/
theorem rest_due {prog : Program} {w : World} {A : Around} {h₀ : Heap} {L : Addr} {m : PySem.Str → Option Value} {env : Env} {elt : PySem.Expr} {x : PySem.Str} {scope : Scope} {cl : List (PySem.Str × Addr)} {s : Shared} {S : List (Addr × Obj) → Prop} {P : Nat → Value → Prop}
    {Fin : List Value → List (Addr × Obj) → Prop} {base : List (Addr × Obj)} (n : Nat) (R : Nat → Value → List (Addr × Obj) → Prop) (mono : ∀ i y T T', (∀ p ∈ T, p ∈ T') → R i y T → R i y T')
    (turn : ∀ i ys ps chunk v I oI C oC D m₂ h tk (E' : Value → Shared → Prop), i < n → P i v → NsObj oC m₂ → m₂ x = some v → Fr h₀ L h m → News h₀ L h ((I, oI) :: (C, oC) :: (D, lst ys) :: (149, tabObj ps) :: (base ++ chunk)) → Off3 I C D ((149, tabObj ps) :: (base ++ chunk)) → ((@Ne Nat I C) ∧ (@Ne Nat I D) ∧ (@Ne Nat C D)) →
      TabOne dueQ dueP ps chunk → (∀ p ∈ chunk, p.1 ≠ 149) →
      wpAny (model prog w) A (eval elt (compEnvC scope cl C env)) (DueEnd h₀ L m { s with heap := h, toks := tk } I oI C oC D (lst ys) base chunk (R i)) E' { s with heap := h, toks := tk })
    (hS : ∀ ps chunk, S ((149, tabObj ps) :: (base ++ chunk)))
    (fin : ∀ (ys : List Value) ps chunk, ys.length = n → (∀ (i : Nat) (y : Value), ys[i]? = some y → R i y chunk) → OwnOff chunk (base.map (·.1)) → (∀ p ∈ chunk, p.1 ≠ 149) → Fin ys ((149, tabObj ps) :: (base ++ chunk))) : CompRest prog w A h₀ L m env elt x scope cl s S P Fin n 0 [] ((149, tabObj #[]) :: base) := by
  refine rest_all n (fun i ys nw => ∃ ps chunk, nw = (149, tabObj ps) :: (base ++ chunk) ∧ TabOne dueQ dueP ps chunk ∧ ys.length = i ∧ (∀ (j : Nat) (y : Value), ys[j]? = some y → R j y chunk) ∧ OwnOff chunk (base.map (·.1)) ∧ ∀ p ∈ chunk, p.1 ≠ 149) ?_ ?_ n 0 [] _ (Nat.zero_add _) ⟨#[], [], by rw [List.append_nil], .inl rfl, rfl, fun j y e => by simp at e, own_nil, fun p hp => nomatch hp⟩
  · rintro i ys nw v I oI C oC D m₂ h tk E' hi ⟨ps, chunk, rfl, ht, hl, hr, hc, h149⟩ hP hC hx F N off ne
    refine wpAny_mono (turn i ys ps chunk v I oI C oC D m₂ h tk E' hi hP hC hx F N off ne ht h149) (fun y s' hy => ?_) fun _ _ e => e
    obtain ⟨ps', T, h', tk', rfl, F', N', ht', hT, ho, hR⟩ := hy
    refine CompEnd.intro F' N' ((149, tabObj ps') :: (base ++ (T ++ chunk))) (fun p hp => due_sub hp) (off3_of fun p hp => ?_) (hS _ _) ⟨ps', T ++ chunk, rfl, .inr ht', by rw [List.length_append, List.length_singleton, hl], snoc_all (fun j y e => mono _ _ _ _ (fun p hp => List.mem_append_right _ hp) (hr j y e)) (hl.symm ▸ mono _ _ _ _ (fun p hp => List.mem_append_left _ hp) hR), fun p hp b hb => ?_, fun p hp => ?_⟩
    · rcases List.mem_cons.mp hp with rfl | hp
      · exact off.mem (149, tabObj ps) (.head _)
      rcases grow_mem hp with hp | hp
      · exact ⟨ho p hp I (.head _), ho p hp C (.tail _ (.head _)), ho p hp D (.tail _ (.tail _ (.head _)))⟩
      · exact off.mem p (.tail _ hp)
    · rcases List.mem_append.mp hp with hp | hp
      · refine ho p hp b (.tail _ (.tail _ (.tail _ ?_)))
        show b ∈ (base ++ chunk).map (·.1)
        rw [List.map_append]
        exact List.mem_append_left _ hb
      · exact hc p hp b hb
    · exact (List.mem_append.mp hp).elim (hT p) (h149 p)
  · rintro ys nw ⟨ps, chunk, rfl, ht, hl, hr, hc, h149⟩
    exact fin ys ps chunk hl hr hc h149

noncomputable def ConK (w : World) (f : Addr) (vs : List Value) (kws : List (PySem.Str × Value)) (dep un : Nat) (Pre : List (Addr × Obj) → Prop) (Post : List (Addr × Obj) → Value → Prop) : Prop :=
  ∀ (p : Program) (loose : List PySem.Str) (mean : ExcName → Option Value) (mg mb : PySem.Str → Option Value)
    (dp un0 : Nat) (gd : Option (List Code)) (cn : PySem.Str) (cs : Scope) (a : Addr) (ccd : Value) (cl : List (PySem.Str × Addr)) (outer : List Env) (A₀ : Around) (base h₀ : Heap) (L : Addr) (m : PySem.Str → Option Value)
    (news : List (Addr × Obj)) (s : Shared) (Q E : Value → Shared → Prop),
    Below A₀ base outer h₀ → Fr h₀ L s.heap m → (hd.heap_39 w.params).In h₀ → News h₀ L s.heap news → Top p loose mean mg mb h₀ → cs.kind = .function →
    Pre news → dp + dep < recursionLimit → un0 + un < cLine →
    (∀ r tl h' tk', Fr h₀ L h' m → News h₀ L h' (tl ++ news) → OwnOff tl (news.map (·.1)) → Post tl r → Q r { s with heap := h', toks := tk' }) →
    wpAny (model PySem.Challenge.rw_rs0197_01.row.prog w) (ktrTop dp un0 gd cn cs L a ccd cl outer) (call (.ref f) vs kws) Q E s
/-- a key that cuts a row's text -/
noncomputable def KeyCon (w : World) (f : Addr) (keep : List (Addr × Obj)) (kx : PySem.Str → PySem.Str) : Prop :=
  ∀ (a : Addr) (x : PySem.Str) (t : Tok) (i : Int) (u : Tok) (n : Nat), x.length ≤ 360000 → Con w f [.ref a] 1 20 (fun nw => (∀ p ∈ keep, p ∈ nw) ∧ (a, rowObj x t i u n) ∈ nw) (RetS (kx x))
noncomputable def keyLt (kx : PySem.Str → PySem.Str) (rows : List (PySem.Str × Int)) (wt : PySem.Str) (k : Nat) : Bool := decide ((kx (rows.getD k (⟨#[]⟩, 0)).1).cps.toList < wt.cps.toList)
noncomputable def keyGt (kx : PySem.Str → PySem.Str) (rows : List (PySem.Str × Int)) (wt : PySem.Str) (k : Nat) : Bool := decide (wt.cps.toList < (kx (rows.getD k (⟨#[]⟩, 0)).1).cps.toList)
section
theorem c_bisL (w : World) (l f : Addr) (vs : List Value) (c : Nat) (rows : List (PySem.Str × Int)) (wt : PySem.Str) (tw : Tok) (keep : List (Addr × Obj)) {oc : Value} {od : Option Addr} {fd : FuncData} {sl : Array (Option Value)} (hf : (f, (⟨oc, od, .func fd, sl⟩ : Obj)) ∈ keep) (kx : PySem.Str → PySem.Str) (hn : rows.length ≤ 6) (hrl : ∀ p ∈ rows, p.1.length ≤ 360000) (hkey : KeyCon w f keep kx) :
    ConK w 107 [.ref l, .str wt tw] [(PySem.Str.ofString "key", .ref f)] 2 40 (fun news => (l, listOf vs.toArray c) ∈ news ∧ RowsAt news vs rows ∧ ∀ p ∈ keep, p ∈ news) (RetI (bisR (fun k => !keyLt kx rows wt k) 6 0 rows.length : Nat)) := by
  w_top off
  w_strict (
  unfold ConK
  k_fill
  intro p loose mean mg mb dp un gd cn cs a ccd cl outer A₀ base h₀ L m news s Q E B F X N T hk hpre hd hu hret
  obtain ⟨hl, hrows, hkeep⟩ := hpre
  have hvn := hrows.1
  replace N : News h₀ L s.heap ((l, listOf vs.toArray c) :: news) := fun p hp => by rcases List.mem_cons.mp hp with rfl | hp; exact N _ hl; exact N _ hp
  refine wpAny_call ?_
  k_dflt ((refine' code_def ?k1 ?k2 ?k3 ?k4 ?k5 ?kA ?kF ?kK ?k6 ?k7 ?k8 ?k9 ?kB ?_ ?c2 ?c3 ?c4 ?c5; (case kA => exact rfl); (case kF => exact rfl); (case kK => assumption); (case k1 => k_asm); (case k2 => k_asm); (case k3 => k_asm); (case k4 => k_asm); (case k5 => k_asm); (case k6 => k_is); (case k7 => k_is); (case k8 => ktr_room); (case k9 => first | (refine' kp_binds ?kx ?ke; (case kx => k_in); (case ke => exact fun _ => rfl)) | exact binds_K (by k_in) rfl (by k_is) rfl rfl rfl); (case c5 => decide); (case kB => exact locs rfl); (case c2 => exact rfl); (case c3 => exact rfl); (case c4 => exact rfl); k_whole; intro g'q L'q h'q FG'q F'q N'q B'q X'q T'q; (try dsimp only); (try k_lift B'q); (try k_fold)))
  (repeat ((fail_if_success (with_reducible show wpAny _ _ (exec (PySem.Stmt.While _ _ _ _) _) _ _ _)); (first | (k_unfold; (try dsimp only)) | (k_end; wrow_close) | walk1 | (dsimp only; walk1) | (leave1; (try dsimp only)) | fail "no step")))
  refine While_inv2 (fun k m₁ nw => nw = (l, listOf vs.toArray c) :: news ∧ ∃ lo hi : Nat, ∃ tl th, lo ≤ hi ∧ hi ≤ rows.length ∧ k = hi - lo ∧ bisR (fun k => !keyLt kx rows wt k) 6 lo hi = bisR (fun k => !keyLt kx rows wt k) 6 0 rows.length ∧
    ∀ p ∈ [(PySem.Str.ofString "lo", Value.int (lo : Int) tl), (PySem.Str.ofString "hi", Value.int (hi : Int) th), (PySem.Str.ofString "a", Value.ref l), (PySem.Str.ofString "x", Value.str wt tw), (PySem.Str.ofString "key", Value.ref f)], m₁ p.1 = some p.2) (by k_asm) (by k_asm)
    ⟨rfl, 0, rows.length, _, _, Nat.zero_le _, Nat.le_refl _, rfl, rfl, (Mine.allC (by rfl) ((Mine.allC (by rw [← hvn]; rfl) ((Mine.allC (by rfl) ((Mine.allC (by rfl) ((Mine.allC (by rfl) (List.forall_mem_nil _))))))))))⟩ ?_
  rintro k m₁ nw h₁ tk₁ F1 N1 ⟨rfl, lo, hi, tl, th, hle, hhi, rfl, hb, hnm⟩
  (try dsimp only)
  rw [withNames_eq hnm] at F1
  iterate 6 (first | (k_unfold; (try dsimp only)) | (k_end; wrow_close) | walk1 | (dsimp only; walk1) | (leave1; (try dsimp only)) | fail "no step")
  · have hlt : lo < hi := ncast_lt (by assumption)
    have em := mid_z lo hi
    refine Mine.at_k (Nat.lt_of_lt_of_le (mid_hi hlt) hhi) ?_
    intro p9 hp9
    obtain ⟨a9, t9, u9, n9, hv9, hm9⟩ := hrows.2 _ _ hp9
    iterate 15 (first | (k_unfold; (try dsimp only)) | (k_end; wrow_close) | walk1 | (dsimp only; walk1) | (leave1; (try dsimp only)) | fail "no step")
    refine callWith_F (FnAt.of (by k_asm) (.tail _ (hkeep _ hf))) ?_
    iterate 4 (first | (k_unfold; (try dsimp only)) | (k_end; wrow_close) | walk1 | (dsimp only; walk1) | (leave1; (try dsimp only)) | fail "no step")
    refine Mine.item_at (News.isList (by k_asm) (by k_mem)) (by rw [em]; exact Int.natCast_nonneg _) (by rw [em]; exact mid_s hlt hhi hn) (by rw [em]; exact hv9) ?_ (by with_unfolding_all rfl)
    (first | (k_unfold; (try dsimp only)) | (k_end; wrow_close) | walk1 | (dsimp only; walk1) | (leave1; (try dsimp only)) | fail "no step")
    refine ⟨FnAt.of (by k_asm) (.tail _ (hkeep _ hf)), ?_⟩
    refine con_use1 (hkey a9 p9.1 t9 p9.2 u9 n9 (hrl p9 (List.mem_of_getElem? hp9))) (by k_asm) (by k_asm) (by k_asm) (by k_asm) (by k_asm) (by exact rfl) (⟨fun p hp => .tail _ (hkeep p hp), .tail _ hm9⟩) (by (first | exact Mine.uni2 (by assumption) rfl | exact Mine.uni1 (by assumption) rfl | exact Mine.uniN rfl | ktr_room)) (by (first | exact Mine.uni2 (by assumption) rfl | exact Mine.uni1 (by assumption) rfl | exact Mine.uniN rfl | ktr_units)) (fun _ _ h => h) ?_
    intro t9 h9 tk9 F9 N9
    (try dsimp only); (try k_fold)
    have hkl : keyLt kx rows wt ((lo + hi) / 2) = decide ((kx p9.1).cps.toList < wt.cps.toList) := by unfold keyLt; rw [List.getD_eq_getElem?_getD, hp9]; rfl
    iterate 4 (first | (k_unfold; (try dsimp only)) | (k_end; wrow_close) | walk1 | (dsimp only; walk1) | (leave1; (try dsimp only)) | fail "no step")
    (first | (k_unfold; (try dsimp only)) | (k_end; wrow_close) | walk1 | (dsimp only; walk1) | (leave1; (try dsimp only)) | fail "no step")
    · have hb9 : keyLt kx rows wt ((lo + hi) / 2) = true := by rw [hkl]; first | assumption | exact decide_eq_true (by assumption)
      iterate 9 (first | (k_unfold; (try dsimp only)) | (k_end; wrow_close) | walk1 | (dsimp only; walk1) | (leave1; (try dsimp only)) | fail "no step")
      simp only [WhileStep2]
      refine ⟨_, _, _, _, hi - ((lo + hi) / 2 + 1), rfl, by k_asm, by k_asm, mid_d hlt, rfl, (lo + hi) / 2 + 1, hi, _, _, mid_hi hlt, hhi, rfl, ?_, (Mine.allC (by rw [show ((((lo + hi) / 2 + 1 : Nat)) : Int) = ((lo : Int) + (hi : Int)).fdiv 2 + 1 from by rw [em]; rfl]; rfl) ((Mine.allC (by rfl) ((Mine.allC (by rfl) ((Mine.allC (by rfl) ((Mine.allC (by rfl) (List.forall_mem_nil _))))))))))⟩
      rw [bisR_right hlt (gap6 hhi hn) (by rw [hb9]; rfl)]
      exact hb
    · have hb9 : keyLt kx rows wt ((lo + hi) / 2) = false := by rw [hkl]; first | assumption | exact decide_eq_false (by assumption)
      iterate 6 (first | (k_unfold; (try dsimp only)) | (k_end; wrow_close) | walk1 | (dsimp only; walk1) | (leave1; (try dsimp only)) | fail "no step")
      simp only [WhileStep2]
      refine ⟨_, _, _, _, (lo + hi) / 2 - lo, rfl, by k_asm, by k_asm, mid_c hlt, rfl, lo, (lo + hi) / 2, _, _, mid_lo hlt, Nat.le_trans (Nat.le_of_succ_le (mid_hi hlt)) hhi, rfl, ?_, (Mine.allC (by rfl) ((Mine.allC (by rw [← em]; rfl) ((Mine.allC (by rfl) ((Mine.allC (by rfl) ((Mine.allC (by rfl) (List.forall_mem_nil _))))))))))⟩
      rw [bisR_left hlt (gap6 hhi hn) (by rw [hb9]; rfl)]
      exact hb
  · have hge : ¬ lo < hi := ncast_ge (by assumption)
    rw [bisR_done _ _ _ _ hge] at hb
    k_steps
    exact hret _ [] _ _ (by k_asm) (by (first | k_asm | (refine' cb_drop ?cbN ?cbS; (case cbN => assumption); (case cbS => (intro pq hpq; repeat (first | exact hpq | refine List.Mem.tail _ ?_)))))) (fun _ h => nomatch h) (RetI.mk (by rw [hb])))
theorem c_bisRk (w : World) (l f : Addr) (vs : List Value) (c : Nat) (rows : List (PySem.Str × Int)) (wt : PySem.Str) (tw : Tok) (keep : List (Addr × Obj)) {oc : Value} {od : Option Addr} {fd : FuncData} {sl : Array (Option Value)} (hf : (f, (⟨oc, od, .func fd, sl⟩ : Obj)) ∈ keep) (kx : PySem.Str → PySem.Str) (hn : rows.length ≤ 6) (hrl : ∀ p ∈ rows, p.1.length ≤ 360000) (hkey : KeyCon w f keep kx) :
    ConK w 98 [.ref l, .str wt tw] [(PySem.Str.ofString "key", .ref f)] 2 40 (fun news => (l, listOf vs.toArray c) ∈ news ∧ RowsAt news vs rows ∧ ∀ p ∈ keep, p ∈ news) (RetI (bisR (fun k => keyGt kx rows wt k) 6 0 rows.length : Nat)) := by
  w_top off
  w_strict (
  unfold ConK
  k_fill
  intro p loose mean mg mb dp un gd cn cs a ccd cl outer A₀ base h₀ L m news s Q E B F X N T hk hpre hd hu hret
  obtain ⟨hl, hrows, hkeep⟩ := hpre
  have hvn := hrows.1
  replace N : News h₀ L s.heap ((l, listOf vs.toArray c) :: news) := fun p hp => by rcases List.mem_cons.mp hp with rfl | hp; exact N _ hl; exact N _ hp
  refine wpAny_call ?_
  k_dflt ((refine' code_def ?k1 ?k2 ?k3 ?k4 ?k5 ?kA ?kF ?kK ?k6 ?k7 ?k8 ?k9 ?kB ?_ ?c2 ?c3 ?c4 ?c5; (case kA => exact rfl); (case kF => exact rfl); (case kK => assumption); (case k1 => k_asm); (case k2 => k_asm); (case k3 => k_asm); (case k4 => k_asm); (case k5 => k_asm); (case k6 => k_is); (case k7 => k_is); (case k8 => ktr_room); (case k9 => first | (refine' kp_binds ?kx ?ke; (case kx => k_in); (case ke => exact fun _ => rfl)) | exact binds_K (by k_in) rfl (by k_is) rfl rfl rfl); (case c5 => decide); (case kB => exact locs rfl); (case c2 => exact rfl); (case c3 => exact rfl); (case c4 => exact rfl); k_whole; intro g'q L'q h'q FG'q F'q N'q B'q X'q T'q; (try dsimp only); (try k_lift B'q); (try k_fold)))
  (repeat ((fail_if_success (with_reducible show wpAny _ _ (exec (PySem.Stmt.While _ _ _ _) _) _ _ _)); (first | (k_unfold; (try dsimp only)) | (k_end; wrow_close) | walk1 | (dsimp only; walk1) | (leave1; (try dsimp only)) | fail "no step")))
  refine While_inv2 (fun k m₁ nw => nw = (l, listOf vs.toArray c) :: news ∧ ∃ lo hi : Nat, ∃ tl th, lo ≤ hi ∧ hi ≤ rows.length ∧ k = hi - lo ∧ bisR (fun k => keyGt kx rows wt k) 6 lo hi = bisR (fun k => keyGt kx rows wt k) 6 0 rows.length ∧
    ∀ p ∈ [(PySem.Str.ofString "lo", Value.int (lo : Int) tl), (PySem.Str.ofString "hi", Value.int (hi : Int) th), (PySem.Str.ofString "a", Value.ref l), (PySem.Str.ofString "x", Value.str wt tw), (PySem.Str.ofString "key", Value.ref f)], m₁ p.1 = some p.2) (by k_asm) (by k_asm)
    ⟨rfl, 0, rows.length, _, _, Nat.zero_le _, Nat.le_refl _, rfl, rfl, (Mine.allC (by rfl) ((Mine.allC (by rw [← hvn]; rfl) ((Mine.allC (by rfl) ((Mine.allC (by rfl) ((Mine.allC (by rfl) (List.forall_mem_nil _))))))))))⟩ ?_
  rintro k m₁ nw h₁ tk₁ F1 N1 ⟨rfl, lo, hi, tl, th, hle, hhi, rfl, hb, hnm⟩
  (try dsimp only)
  rw [withNames_eq hnm] at F1
  iterate 6 (first | (k_unfold; (try dsimp only)) | (k_end; wrow_close) | walk1 | (dsimp only; walk1) | (leave1; (try dsimp only)) | fail "no step")
  · have hlt : lo < hi := ncast_lt (by assumption)
    have em := mid_z lo hi
    refine Mine.at_k (Nat.lt_of_lt_of_le (mid_hi hlt) hhi) ?_
    intro p9 hp9
    obtain ⟨a9, t9, u9, n9, hv9, hm9⟩ := hrows.2 _ _ hp9
    iterate 16 (first | (k_unfold; (try dsimp only)) | (k_end; wrow_close) | walk1 | (dsimp only; walk1) | (leave1; (try dsimp only)) | fail "no step")
    refine callWith_F (FnAt.of (by k_asm) (.tail _ (hkeep _ hf))) ?_
    iterate 4 (first | (k_unfold; (try dsimp only)) | (k_end; wrow_close) | walk1 | (dsimp only; walk1) | (leave1; (try dsimp only)) | fail "no step")
    refine Mine.item_at (News.isList (by k_asm) (by k_mem)) (by rw [em]; exact Int.natCast_nonneg _) (by rw [em]; exact mid_s hlt hhi hn) (by rw [em]; exact hv9) ?_ (by with_unfolding_all rfl)
    (first | (k_unfold; (try dsimp only)) | (k_end; wrow_close) | walk1 | (dsimp only; walk1) | (leave1; (try dsimp only)) | fail "no step")
    refine ⟨FnAt.of (by k_asm) (.tail _ (hkeep _ hf)), ?_⟩
    refine con_use1 (hkey a9 p9.1 t9 p9.2 u9 n9 (hrl p9 (List.mem_of_getElem? hp9))) (by k_asm) (by k_asm) (by k_asm) (by k_asm) (by k_asm) (by exact rfl) (⟨fun p hp => .tail _ (hkeep p hp), .tail _ hm9⟩) (by (first | exact Mine.uni2 (by assumption) rfl | exact Mine.uni1 (by assumption) rfl | exact Mine.uniN rfl | ktr_room)) (by (first | exact Mine.uni2 (by assumption) rfl | exact Mine.uni1 (by assumption) rfl | exact Mine.uniN rfl | ktr_units)) (fun _ _ h => h) ?_
    intro t9 h9 tk9 F9 N9
    (try dsimp only); (try k_fold)
    have hkl : keyGt kx rows wt ((lo + hi) / 2) = decide (wt.cps.toList < (kx p9.1).cps.toList) := by unfold keyGt; rw [List.getD_eq_getElem?_getD, hp9]; rfl
    iterate 3 (first | (k_unfold; (try dsimp only)) | (k_end; wrow_close) | walk1 | (dsimp only; walk1) | (leave1; (try dsimp only)) | fail "no step")
    (first | (k_unfold; (try dsimp only)) | (k_end; wrow_close) | walk1 | (dsimp only; walk1) | (leave1; (try dsimp only)) | fail "no step")
    · have hb9 : keyGt kx rows wt ((lo + hi) / 2) = true := by rw [hkl]; first | assumption | exact decide_eq_true (by assumption)
      iterate 6 (first | (k_unfold; (try dsimp only)) | (k_end; wrow_close) | walk1 | (dsimp only; walk1) | (leave1; (try dsimp only)) | fail "no step")
      simp only [WhileStep2]
      refine ⟨_, _, _, _, (lo + hi) / 2 - lo, rfl, by k_asm, by k_asm, mid_c hlt, rfl, lo, (lo + hi) / 2, _, _, mid_lo hlt, Nat.le_trans (Nat.le_of_succ_le (mid_hi hlt)) hhi, rfl, ?_, (Mine.allC (by rfl) ((Mine.allC (by rw [← em]; rfl) ((Mine.allC (by rfl) ((Mine.allC (by rfl) ((Mine.allC (by rfl) (List.forall_mem_nil _))))))))))⟩
      rw [bisR_left hlt (gap6 hhi hn) hb9]
      exact hb
    · have hb9 : keyGt kx rows wt ((lo + hi) / 2) = false := by rw [hkl]; first | assumption | exact decide_eq_false (by assumption)
      iterate 9 (first | (k_unfold; (try dsimp only)) | (k_end; wrow_close) | walk1 | (dsimp only; walk1) | (leave1; (try dsimp only)) | fail "no step")
      simp only [WhileStep2]
      refine ⟨_, _, _, _, hi - ((lo + hi) / 2 + 1), rfl, by k_asm, by k_asm, mid_d hlt, rfl, (lo + hi) / 2 + 1, hi, _, _, mid_hi hlt, hhi, rfl, ?_, (Mine.allC (by rw [show ((((lo + hi) / 2 + 1 : Nat)) : Int) = ((lo : Int) + (hi : Int)).fdiv 2 + 1 from by rw [em]; rfl]; rfl) ((Mine.allC (by rfl) ((Mine.allC (by rfl) ((Mine.allC (by rfl) ((Mine.allC (by rfl) (List.forall_mem_nil _))))))))))⟩
      rw [bisR_right hlt (gap6 hhi hn) hb9]
      exact hb
  · have hge : ¬ lo < hi := ncast_ge (by assumption)
    rw [bisR_done _ _ _ _ hge] at hb
    k_steps
    exact hret _ [] _ _ (by k_asm) (by (first | k_asm | (refine' cb_drop ?cbN ?cbS; (case cbN => assumption); (case cbS => (intro pq hpq; repeat (first | exact hpq | refine List.Mem.tail _ ?_)))))) (fun _ h => nomatch h) (RetI.mk (by rw [hb])))
end

/-- what Whitespace's loop holds -/
structure Wst where
  b : Nat
  n : Nat
  nt : Nat
  cnt : List Int
noncomputable def cntUp (cnt : List Int) (b : Nat) : List Int := if cnt.length ≤ b then cnt ++ List.replicate (b - cnt.length + 1) 0 else cnt
noncomputable def wsTab (s : Wst) : Wst := ⟨0, s.n + 1, s.nt + 1, (cntUp s.cnt s.b).set s.b ((cntUp s.cnt s.b).getD s.b 0 + 1)⟩
noncomputable def wsBlank (s : Wst) : Wst := ⟨s.b + 1, s.n + 1, s.nt, s.cnt⟩
noncomputable def wsRun : List Nat → Wst → Wst
  | [], s => s
  | c :: r, s => if c = 32 then wsRun r (wsBlank s) else if c = 9 then wsRun r (wsTab s) else s
/-- the frame and the ledger hold the state -/
inductive WsAt (h₀ : Heap) (L : Addr) (ks : List (PySem.Str × Value)) (front rest : List (Addr × Obj)) (st : Wst) (s : Shared) (s₃ : Shared) : Prop where
  | mk : ∀ h' tk' m' aC vs c tb tn tt, (s₃ = { s with heap := h', toks := tk' }) → (IntsAre vs st.cnt) → ((∀ p ∈ rest, p.1 ≠ aC)) → ((∀ p ∈ (PySem.Str.ofString "count", Value.ref aC) :: (PySem.Str.ofString "b", Value.int (st.b : Int) tb) :: (PySem.Str.ofString "n", Value.int (st.n : Int) tn) :: (PySem.Str.ofString "nt", Value.int (st.nt : Int) tt) :: ks, m' p.1 = some p.2)) → (Fr h₀ L h' m') → (News h₀ L h' (front ++ (aC, listOf vs.toArray c) :: rest)) → ((∀ p ∈ front, p.1 ≠ aC)) → WsAt h₀ L ks front rest st s s₃
theorem WsAt.intro {h₀ : Heap} {L aC : Addr} {ks : List (PySem.Str × Value)} {I : Addr} {oI : Obj} {rest all : List (Addr × Obj)} {st : Wst} {s : Shared} {h' : Heap} {tk' c : Nat} {m' : PySem.Str → Option Value} {vs : List Value} {tb tn tt : Tok}
    (F : Fr h₀ L h' m') (N : News h₀ L h' all) (sub : ∀ p ∈ (I, oI) :: (aC, listOf vs.toArray c) :: rest, p ∈ all) (hi : IntsAre vs st.cnt) (ho : ∀ p ∈ rest, p.1 ≠ aC) (hI : @Ne Nat I aC)
    (hk : ∀ p ∈ (PySem.Str.ofString "count", Value.ref aC) :: (PySem.Str.ofString "b", Value.int (st.b : Int) tb) :: (PySem.Str.ofString "n", Value.int (st.n : Int) tn) :: (PySem.Str.ofString "nt", Value.int (st.nt : Int) tt) :: ks, m' p.1 = some p.2) :
    WsAt h₀ L ks [(I, oI)] rest st s { s with heap := h', toks := tk' } :=
  ⟨h', tk', m', aC, vs, c, tb, tn, tt, rfl, hi, ho, hk, F, fun p hp => N p (sub p hp), (Mine.allC hI (List.forall_mem_nil _))⟩
noncomputable def WsEnd (h₀ : Heap) (L : Addr) (ks : List (PySem.Str × Value)) (I : Addr) (oI : Obj) (rest : List (Addr × Obj)) (s : Shared) (l : List Nat) (last : Wst) (k : Nat) (f : Flow) (s₃ : Shared) : Prop :=
  (f = .next ∧ ∃ st', wsRun l st' = last ∧ st'.n ≤ k ∧ st'.nt ≤ k ∧ st'.b ≤ k ∧ st'.cnt.length ≤ k ∧ WsAt h₀ L ks [(I, oI)] rest st' s s₃) ∨ (f = .brk ∧ WsAt h₀ L ks [(I, oI)] rest last s s₃)
theorem cntUp_len (cnt : List Int) (b : Nat) : (cntUp cnt b).length = if cnt.length ≤ b then b + 1 else cnt.length := by
  unfold cntUp
  split
  · rw [List.length_append, List.length_replicate]; omega
  · rfl
theorem ws_ext {cnt : List Int} {b l : Nat} (hl : l = cnt.length) (h : cnt.length ≤ b) : cnt ++ (List.replicate ((b : Int) - (l : Int) + 1).toNat [(0 : Int)]).flatten = cntUp cnt b := by
  unfold cntUp
  rw [if_pos h, List.flatten_replicate_singleton, hl]
  congr 2
  omega
theorem ws_cnt {st : Wst} {i : Nat} (b3 : st.b ≤ i) (b4 : st.cnt.length ≤ i) : (wsTab st).cnt.length ≤ i + 1 := by
  show ((cntUp st.cnt st.b).set st.b _).length ≤ i + 1
  rw [List.length_set, cntUp_len]
  split <;> omega
theorem ws_perm {α : Type} {p a b c d e : α} {rest : List α} (h : p ∈ d :: a :: rest) : p ∈ a :: b :: c :: d :: e :: rest := by
  rcases List.mem_cons.mp h with rfl | h
  · exact .tail _ (.tail _ (.tail _ (.head _)))
  rcases List.mem_cons.mp h with rfl | h
  · exact .head _
  · exact .tail _ (.tail _ (.tail _ (.tail _ (.tail _ h))))
theorem ints_eq {vs : List Value} {a b : List Int} (h : IntsAre vs a) (e : a = b) : IntsAre vs b := e ▸ h
theorem ws_drop {l : List Nat} {i sg : Nat} (h : l[i]? = some sg) : l.drop i = sg :: l.drop (i + 1) := by
  have hi : i < l.length := by
    rcases Nat.lt_or_ge i l.length with q | q
    · exact q
    · rw [List.getElem?_eq_none q] at h; cases h
  rw [List.drop_eq_getElem_cons hi]
  rw [List.getElem?_eq_getElem hi] at h
  cases h
  rfl
theorem ws_blank {l : List Nat} {i sg : Nat} {st last : Wst} (h : l[i]? = some sg) (hr : wsRun (l.drop i) st = last) (hs : sg = 32) : wsRun (l.drop (i + 1)) (wsBlank st) = last := by
  rw [ws_drop h, wsRun, if_pos hs] at hr; exact hr
theorem ws_tab {l : List Nat} {i sg : Nat} {st last : Wst} (h : l[i]? = some sg) (hr : wsRun (l.drop i) st = last) (hs : sg = 9) : wsRun (l.drop (i + 1)) (wsTab st) = last := by
  rw [ws_drop h, wsRun, if_neg (by omega), if_pos hs] at hr; exact hr
theorem ws_stop {l : List Nat} {i sg : Nat} {st last : Wst} (h : l[i]? = some sg) (hr : wsRun (l.drop i) st = last) (hs : sg ≠ 32) (hs' : sg ≠ 9) : st = last := by
  rw [ws_drop h, wsRun, if_neg hs, if_neg hs'] at hr; exact hr
theorem is_blank {c : Nat} {b : Bool} (h : ((⟨#[c]⟩ : PySem.Str) == PySem.Str.ofString " ") = b) : b = decide (c = 32) := by
  rw [← h, show PySem.Str.ofString " " = ⟨#[32]⟩ from by decide +kernel]
  by_cases e : c = 32
  · subst e; rfl
  · rw [decide_eq_false e, beq_eq_false_iff_ne]
    intro q; injection q with q; injection q with q; injection q with q; exact e q
theorem is_tab {c : Nat} {b : Bool} (h : ((⟨#[c]⟩ : PySem.Str) == PySem.Str.ofString "\t") = b) : b = decide (c = 9) := by
  rw [← h, show PySem.Str.ofString "\t" = ⟨#[9]⟩ from by decide +kernel]
  by_cases e : c = 9
  · subst e; rfl
  · rw [decide_eq_false e, beq_eq_false_iff_ne]
    intro q; injection q with q; injection q with q; injection q with q; exact e q
inductive WsJ (y : PySem.Str) (ks : List (PySem.Str × Value)) (rest : List (Addr × Obj)) (i : Nat) (m₁ : PySem.Str → Option Value) (nw : List (Addr × Obj)) : Prop where
  | mk : ∀ st vs aC c tb tn tt, (nw = (aC, listOf vs.toArray c) :: rest) → (wsRun (y.cps.toList.drop i) st = wsRun y.cps.toList ⟨0, 0, 0, []⟩) → (st.n ≤ i) → (st.nt ≤ i) → (st.b ≤ i) → (st.cnt.length ≤ i) → (IntsAre vs st.cnt) → ((∀ p ∈ rest, p.1 ≠ aC)) → ((∀ p ∈ (PySem.Str.ofString "count", Value.ref aC) :: (PySem.Str.ofString "b", Value.int (st.b : Int) tb) :: (PySem.Str.ofString "n", Value.int (st.n : Int) tn) :: (PySem.Str.ofString "nt", Value.int (st.nt : Int) tt) :: ks, m₁ p.1 = some p.2)) → WsJ y ks rest i m₁ nw
theorem for_ws {prog : Program} {w : World} {A : Around} {E : Value → Shared → Prop} {s : Shared} {env : Env} {h₀ : Heap} {L : Addr} {Q : Flow → Shared → Prop} {tgt : PySem.Expr} {body : List Stmt} {y : PySem.Str} {t : Tok} {m : PySem.Str → Option Value} {aC : Addr} {c₀ : Nat} {rest : List (Addr × Obj)}
    (ks : List (PySem.Str × Value)) (hh : A.handled = none) (F : Fr h₀ L s.heap m) (N : News h₀ L s.heap ((aC, listOf #[] c₀) :: rest)) (hoff : ∀ p ∈ rest, p.1 ≠ aC)
    (hks : ∃ tb tn tt, ∀ p ∈ (PySem.Str.ofString "count", Value.ref aC) :: (PySem.Str.ofString "b", Value.int 0 tb) :: (PySem.Str.ofString "n", Value.int 0 tn) :: (PySem.Str.ofString "nt", Value.int 0 tt) :: ks, m p.1 = some p.2)
    (turn : ∀ I i sg u oI st vs aC c tb tn tt (m₁ : PySem.Str → Option Value) h tk, y.cps.toList[i]? = some sg → wsRun (y.cps.toList.drop i) st = wsRun y.cps.toList ⟨0, 0, 0, []⟩ → st.n ≤ i → st.nt ≤ i → st.b ≤ i → st.cnt.length ≤ i → IntsAre vs st.cnt → (@Ne Nat aC I) → (∀ p ∈ rest, p.1 ≠ aC) → (∀ p ∈ rest, p.1 ≠ I) →
      Fr h₀ L h (withNames ((PySem.Str.ofString "count", Value.ref aC) :: (PySem.Str.ofString "b", Value.int (st.b : Int) tb) :: (PySem.Str.ofString "n", Value.int (st.n : Int) tn) :: (PySem.Str.ofString "nt", Value.int (st.nt : Int) tt) :: ks) m₁) → News h₀ L h ((I, oI) :: (aC, listOf vs.toArray c) :: rest) →
      wpAny (model prog w) A (assign tgt env (.str ⟨#[sg]⟩ u)) (fun _ s₂ => wpAny (model prog w) A (execs body env) (WsEnd h₀ L ks I oI rest s (y.cps.toList.drop (i + 1)) (wsRun y.cps.toList ⟨0, 0, 0, []⟩) (i + 1)) E s₂) E { s with heap := h, toks := tk })
    (done : ∀ aC vs c tb tn tt (m₁ : PySem.Str → Option Value) h tk, IntsAre vs (wsRun y.cps.toList ⟨0, 0, 0, []⟩).cnt → (∀ p ∈ rest, p.1 ≠ aC) →
      Fr h₀ L h (withNames ((PySem.Str.ofString "count", Value.ref aC) :: (PySem.Str.ofString "b", Value.int ((wsRun y.cps.toList ⟨0, 0, 0, []⟩).b : Int) tb) :: (PySem.Str.ofString "n", Value.int ((wsRun y.cps.toList ⟨0, 0, 0, []⟩).n : Int) tn) :: (PySem.Str.ofString "nt", Value.int ((wsRun y.cps.toList ⟨0, 0, 0, []⟩).nt : Int) tt) :: ks) m₁) → News h₀ L h ((aC, listOf vs.toArray c) :: rest) → Q .next { s with heap := h, toks := tk })
    (ht : ∀ I v, letOwnedTupleGo tgt (.ref I) v = pure () := by intro _ _; rfl)
    (hL : env.locals = L := by rfl) (hE : PassesOwn (model prog w) A env E := by passes_own) :
    wpAny (model prog w) A (pyIter (.str y t)) (fun it s₂ => codeAny (model prog w) A (.forLoop tgt it body [] env) (fun r s' => match r with | .ok f => Q f s' | .error e => cameBackBy (model prog w) A env E e s') s₂) E s := by
  have up : ∀ (o : Obj) b o', s.heap.get? b = some o' → (s.heap.push o).get? b = some o' := fun o b o' e => Heap.get?_push_of_some _ e
  have hlt : ∀ p ∈ ((aC, listOf #[] c₀) :: rest), p.1 < s.heap.objs.size := fun p hp => Heap.lt_size (N p hp).1
  have hlt' : ∀ p ∈ rest, p.1 ≠ s.heap.objs.size := fun p hp => Nat.ne_of_lt (hlt p (.tail _ hp))
  have core : ∀ (o : Obj) (kd : String), Walks prog w A s.heap.objs.size [s.heap.objs.size] [s.heap.objs.size] y.cps.size (SignAt y) (fun i h => h.IsStrIter s.heap.objs.size kd y t i) → (s.heap.push o).IsStrIter s.heap.objs.size kd y t 0 →
      codeAny (model prog w) A (.forLoop tgt (.ref s.heap.objs.size) body [] env) (fun r s' => match r with | .ok f => Q f s' | .error e => cameBackBy (model prog w) A env E e s') { s with heap := s.heap.push o } := by
    intro o kd W hst
    refine for_walk (keepS := []) (WsJ y ks rest) hL W (next_is_new F) (Nat.ne_of_gt F.ns.lt) (fun _ _ _ _ p hp => nomatch hp)
      (fun b hb => .inl (List.mem_singleton.mp hb)) hst (F.keeps (up _)) (N.grown (up _)) (fun p hp => Nat.ne_of_lt (hlt p hp)) ?_ (by obtain ⟨o', e, _⟩ := hst; exact ⟨o', e⟩) (fun _ _ st => by obtain ⟨o, e, _⟩ := st; exact ⟨o, e⟩) (ht _) ?_ ?_ hE
    · obtain ⟨tb, tn, tt, hks⟩ := hks
      exact ⟨⟨0, 0, 0, []⟩, [], aC, c₀, tb, tn, tt, rfl, rfl, Nat.le_refl 0, Nat.le_refl 0, Nat.le_refl 0, Nat.le_refl 0, .nil, hoff, hks⟩
    · rintro i v oI m₁ news₁ h tk hi ⟨sg, u, hsg, rfl⟩ ⟨st, vs, aC, c, tb, tn, tt, rfl, hrun, a1, a2, a3, a4, hints, ho, hm⟩ hofI F₁ N₁
      rw [withNames_eq hm] at F₁
      refine wpAny_mono (turn _ i sg u oI st vs aC c tb tn tt m₁ h tk (by rw [Array.getElem?_toList]; exact hsg) hrun a1 a2 a3 a4 hints (hofI _ (.head _)) ho (fun p hp => hofI p (.tail _ hp)) F₁ N₁) (fun _ s₂ h₂ => wpAny_mono h₂ (fun f s₃ h₃ => ?_) fun _ _ e => e) fun _ _ e => e
      rcases h₃ with ⟨rfl, st', hrun', b1, b2, b3, b4, h', tk', m', aC', vs', c', tb', tn', tt', rfl, hi', ho', hm', F', N', hf'⟩ | ⟨rfl, h', tk', m', aC', vs', c', tb', tn', tt', rfl, hi', ho', hm', F', N', hf'⟩
      · refine ⟨h', tk', m', _, rfl, F', N', ?_, st', vs', aC', c', tb', tn', tt', rfl, hrun', b1, b2, b3, b4, hi', ho', hm'⟩
        exact (Mine.allC (Ne.symm (hf' _ (.head _))) hlt')
      · rw [withNames_eq hm'] at F'
        exact done aC' vs' c' tb' tn' tt' m' h' tk' hi' ho' F' (fun p hp => N' p (.tail _ hp))
    · rintro m₁ news₁ h tk ⟨st, vs, aC, c, tb, tn, tt, rfl, hrun, a1, a2, a3, a4, hints, ho, hm⟩ F₁ N₁
      have e : y.cps.toList.drop y.cps.size = [] := List.drop_of_length_le (by rw [Array.length_toList]; exact Nat.le_refl _)
      rw [e] at hrun
      have e2 : st = wsRun y.cps.toList ⟨0, 0, 0, []⟩ := hrun
      subst e2
      rw [withNames_eq hm] at F₁
      exact done aC vs c tb tn tt m₁ h tk hints ho F₁ N₁
  cases ha : y.cps.all (· < 128)
  · exact wpAny_pyIter_wide ha (core _ _ (Walks.strWide hh _ y t) ⟨_, Heap.get?_push_size _ rfl, rfl, rfl⟩)
  · exact wpAny_pyIter_ascii ha (core _ _ (Walks.strAscii hh _ y t) ⟨_, Heap.get?_push_size _ rfl, rfl, rfl⟩)
theorem ws_bound : ∀ (l : List Nat) (st : Wst) (k : Nat), st.b ≤ k → st.cnt.length ≤ k → st.n ≤ k → st.nt ≤ k → (wsRun l st).b ≤ k + l.length ∧ (wsRun l st).cnt.length ≤ k + l.length ∧ (wsRun l st).n ≤ k + l.length ∧ (wsRun l st).nt ≤ k + l.length
  | [], st, k, h1, h2, h3, h4 => ⟨h1, h2, h3, h4⟩
  | c :: r, st, k, h1, h2, h3, h4 => by
    rw [wsRun, List.length_cons]
    split
    · have := ws_bound r (wsBlank st) (k + 1) (Nat.succ_le_succ h1) (Nat.le_succ_of_le h2) (Nat.succ_le_succ h3) (Nat.le_succ_of_le h4)
      omega
    · split
      · have := ws_bound r (wsTab st) (k + 1) (Nat.zero_le _) (ws_cnt h1 h2) (Nat.succ_le_succ h3) (Nat.succ_le_succ h4)
        omega
      · omega
/-- what Whitespace(x) holds -/
noncomputable def wsOf (x : PySem.Str) : Wst := wsRun x.cps.toList ⟨0, 0, 0, []⟩
theorem wsOf_le {x : PySem.Str} (hx : x.length ≤ 60) : (wsOf x).b ≤ 60 ∧ (wsOf x).cnt.length ≤ 60 ∧ (wsOf x).n ≤ 60 ∧ (wsOf x).nt ≤ 60 := by
  have h := ws_bound x.cps.toList ⟨0, 0, 0, []⟩ 0 (Nat.le_refl 0) (Nat.le_refl 0) (Nat.le_refl 0) (Nat.le_refl 0)
  have e : x.cps.toList.length ≤ 60 := by rw [Array.length_toList]; exact hx
  unfold wsOf
  omega
noncomputable abbrev wsDict (w : World) (x : PySem.Str) (st : Wst) (k1 k2 k3 k4 k5 tx tn tt : Tok) (D : Addr) : Obj :=
  dictOf [{ hash := PyData.keyHash w.params (PySem.Str.ofString "raw"), key := .str (PySem.Str.ofString "raw") k1, val := .str x tx },
    { hash := PyData.keyHash w.params (PySem.Str.ofString "n"), key := .str (PySem.Str.ofString "n") k2, val := .int (st.n : Int) tn },
    { hash := PyData.keyHash w.params (PySem.Str.ofString "nt"), key := .str (PySem.Str.ofString "nt") k3, val := .int (st.nt : Int) tt },
    { hash := PyData.keyHash w.params (PySem.Str.ofString "norm"), key := .str (PySem.Str.ofString "norm") k4, val := .ref D },
    { hash := PyData.keyHash w.params (PySem.Str.ofString "is_simple"), key := .str (PySem.Str.ofString "is_simple") k5, val := .bool (decide ((st.cnt.length : Int) ≤ 1)) }] 5
/-- an object of class Whitespace stands in the ledger -/
inductive WsHas (w : World) (news : List (Addr × Obj)) (o : Addr) (x : PySem.Str) (st : Wst) : Prop where
  | mk : ∀ d D T vs k1 k2 k3 k4 k5 tx tn tt tb, ((o, instObj 76 d) ∈ news) → ((d, wsDict w x st k1 k2 k3 k4 k5 tx tn tt D) ∈ news) → ((D, ({ cls := .type "tuple", data := .seq #[.ref T, .int (st.b : Int) tb] } : Obj)) ∈ news) → ((T, ({ cls := .type "tuple", data := .seq vs.toArray } : Obj)) ∈ news) → (IntsAre vs st.cnt) → WsHas w news o x st
theorem WsHas.mono {w : World} {T T' : List (Addr × Obj)} {o : Addr} {x : PySem.Str} {st : Wst} (h : WsHas w T o x st) (s : ∀ p ∈ T, p ∈ T') : WsHas w T' o x st :=
  let ⟨d, D, T, vs, k1, k2, k3, k4, k5, tx, tn, tt, tb, h1, h2, h3, h4, h5⟩ := h
  ⟨d, D, T, vs, k1, k2, k3, k4, k5, tx, tn, tt, tb, s _ h1, s _ h2, s _ h3, s _ h4, h5⟩

section
local macro_rules | `(tactic| walk_at "call type:tuple") => `(tactic| k_dflt (refine kde_tupleOf (by k_asm) (by k_asm) (News.isList (by k_asm) (by k_mem)) (by rw [List.size_toArray]; omega) rfl ?_; intro D' h' F' N' l1; (try k_lt l1)))
theorem c_ws (w : World) (x : PySem.Str) (tx : Tok) (hx : x.length ≤ 60) : Con w 76 [.str x tx] 4 60 (fun _ => True) (fun tl r => ∃ o, r = .ref o ∧ WsHas w tl o x (wsOf x)) := by
  w_top off
  w_strict (
  unfold Con
  k_fill
  intro p loose mean mg mb dp un gd cn cs a ccd cl outer A₀ base h₀ L m news s Q E B F X N T hk hpre hd hu hret
  k_dflt (refine' call_cls ?k1 ?k2 ?k3 ?k4 ?k5 ?k6 ?_; (case k1 => k_asm); (case k2 => k_asm); (case k3 => k_asm); (case k4 => k_is); (case k5 => k_is); (case k6 => k_is); k_whole; intro x' d' h' F' N' l1 l2; (try k_lt l1); (try k_lt2 l2); (try k_sweep))
  k_dflt cell_enter
  (repeat ((fail_if_success (with_reducible show wpAny _ _ (exec (PySem.Stmt.For _ _ _ _ _) _) _ _ _)); (first | (k_unfold; (try dsimp only)) | (k_end; wrow_close) | walk1 | (dsimp only; walk1) | (leave1; (try dsimp only)) | fail "no step")))
  refine wpAny_For ?_
  (repeat ((fail_if_success (with_reducible show wpAny _ _ (pyIter _) _ _ _)); (first | (k_unfold; (try dsimp only)) | (k_end; wrow_close) | walk1 | (dsimp only; walk1) | (leave1; (try dsimp only)) | fail "no step")))
  refine Mine.for_ws [(PySem.Str.ofString "self", .ref x'), (PySem.Str.ofString "S", .str (PySem.Str.ofString " ") 202), (PySem.Str.ofString "T", .str (PySem.Str.ofString "\t") 203)] (by rfl) (by k_asm) (by k_asm) ?_ ?_ ?_ ?_
  · (rename _ ∧ _ ∧ _ ∧ AllLt _ news => lA)
    exact (Mine.allC (Nat.ne_of_lt lA.1) ((Mine.allC (Nat.ne_of_lt lA.2.1) ((Mine.allC (Nat.ne_of_lt lA.2.2.1) (ne_lt' lA.2.2.2))))))
  · exact ⟨_, _, _, (Mine.allC (by rfl) ((Mine.allC rfl ((Mine.allC rfl ((Mine.allC rfl ((Mine.allC (by rfl) ((Mine.allC (by rfl) ((Mine.allC (by rfl) (List.forall_mem_nil _))))))))))))))⟩
  · intro I i sg u oI st vs aC c tb tn tt m₁ h tk hsg hrun b1 b2 b3 b4 hints neA ho hoI F1 N1
    (try dsimp only)
    refine wpAny_assign_Name ?_
    (first | (k_unfold; (try dsimp only)) | (k_end; wrow_close) | walk1 | (dsimp only; walk1) | (leave1; (try dsimp only)) | fail "no step")
    refine Mine.absQ ?_
    intro K9 hK9
    iterate 8 (first | (k_unfold; (try dsimp only)) | (k_end; wrow_close) | walk1 | (dsimp only; walk1) | (leave1; (try dsimp only)) | fail "no step")
    (first | (k_unfold; (try dsimp only)) | (k_end; wrow_close) | walk1 | (dsimp only; walk1) | (leave1; (try dsimp only)) | fail "no step")
    · (rename (_ == _) = true => hq)
      have hsg2 : sg = 32 := of_decide_eq_true (is_blank hq).symm
      iterate 16 (first | (k_unfold; (try dsimp only)) | (k_end; wrow_close) | walk1 | (dsimp only; walk1) | (leave1; (try dsimp only)) | fail "no step")
      (rename News _ _ _ _ => kN9)
      exact hK9 (.inl ⟨rfl, wsBlank st, ws_blank hsg hrun hsg2, Nat.succ_le_succ b1, Nat.le_succ_of_le b2, Nat.succ_le_succ b3, Nat.le_succ_of_le b4, WsAt.intro (by k_asm) kN9 (fun p hp => hp) hints ho (Ne.symm neA)
        ((Mine.allC (by rfl) ((Mine.allC rfl ((Mine.allC rfl ((Mine.allC rfl ((Mine.allC (by rfl) ((Mine.allC (by rfl) ((Mine.allC (by rfl) (List.forall_mem_nil _)))))))))))))))⟩)
    · have hi60 : i < 60 := by
        rcases Nat.lt_or_ge i x.cps.toList.length with q | q
        · exact Nat.lt_of_lt_of_le q (by rw [Array.length_toList]; exact hx)
        · rw [List.getElem?_eq_none q] at hsg; cases hsg
      have hvl := hints.length
      iterate 8 (first | (k_unfold; (try dsimp only)) | (k_end; wrow_close) | walk1 | (dsimp only; walk1) | (leave1; (try dsimp only)) | fail "no step")
      · (rename (_ == _) = true => hq)
        have hsg2 : sg = 9 := of_decide_eq_true (is_tab hq).symm
        iterate 27 (first | (k_unfold; (try dsimp only)) | (k_end; wrow_close) | walk1 | (dsimp only; walk1) | (leave1; (try dsimp only)) | fail "no step")
        (first | (k_unfold; (try dsimp only)) | (k_end; wrow_close) | walk1 | (dsimp only; walk1) | (leave1; (try dsimp only)) | fail "no step")
        · iterate 48 (first | (k_unfold; (try dsimp only)) | (k_end; wrow_close) | walk1 | (dsimp only; walk1) | (leave1; (try dsimp only)) | fail "no step")
          (rename News _ _ _ _ => kN9)
          (rename _ ∧ _ ∧ _ ∧ _ ∧ _ ∧ _ ∧ _ ∧ AllLt _ _ => lA)
          (rename IntsAre (List.set _ _ _) _ => hi9)
          have hle : st.cnt.length ≤ st.b := by omega
          exact hK9 (.inl ⟨rfl, wsTab st, ws_tab hsg hrun hsg2, Nat.succ_le_succ b1, Nat.succ_le_succ b2, Nat.zero_le _, ws_cnt b3 b4, WsAt.intro (by k_asm) kN9 (fun p hp => ws_perm hp) (ints_eq hi9 (by rw [ws_ext hvl hle, Int.toNat_natCast]; rfl))
            ((Mine.allC (Nat.ne_of_lt lA.2.2.2.2.1) ((Mine.allC (Nat.ne_of_lt lA.2.2.2.2.2.1) ((Mine.allC (Nat.ne_of_lt lA.2.2.2.2.2.2.1) (ne_lt' lA.2.2.2.2.2.2.2))))))) (Nat.ne_of_lt lA.2.2.1)
            ((Mine.allC (by rfl) ((Mine.allC rfl ((Mine.allC rfl ((Mine.allC rfl ((Mine.allC (by rfl) ((Mine.allC (by rfl) ((Mine.allC (by rfl) (List.forall_mem_nil _)))))))))))))))⟩)
        · iterate 21 (first | (k_unfold; (try dsimp only)) | (k_end; wrow_close) | walk1 | (dsimp only; walk1) | (leave1; (try dsimp only)) | fail "no step")
          (rename News _ _ _ _ => kN9)
          (rename IntsAre (List.set _ _ _) _ => hi9)
          have hle : cntUp st.cnt st.b = st.cnt := if_neg (by omega)
          exact hK9 (.inl ⟨rfl, wsTab st, ws_tab hsg hrun hsg2, Nat.succ_le_succ b1, Nat.succ_le_succ b2, Nat.zero_le _, ws_cnt b3 b4, WsAt.intro (by k_asm) kN9 (fun p hp => hp) (ints_eq hi9 (by rw [Int.toNat_natCast]; unfold wsTab; rw [hle])) ho (Ne.symm neA)
            ((Mine.allC (by rfl) ((Mine.allC rfl ((Mine.allC rfl ((Mine.allC rfl ((Mine.allC (by rfl) ((Mine.allC (by rfl) ((Mine.allC (by rfl) (List.forall_mem_nil _)))))))))))))))⟩)
      · (rename (_ == _) = false => hq')
        (rename (_ == PySem.Str.ofString " ") = false => hq)
        have hsg2 : sg ≠ 32 := of_decide_eq_false (is_blank hq).symm
        have hsg3 : sg ≠ 9 := of_decide_eq_false (is_tab hq').symm
        iterate 2 (first | (k_unfold; (try dsimp only)) | (k_end; wrow_close) | walk1 | (dsimp only; walk1) | (leave1; (try dsimp only)) | fail "no step")
        (rename News _ _ _ _ => kN9)
        have hst := ws_stop hsg hrun hsg2 hsg3
        (try dsimp only)
        refine hK9 (.inr ⟨rfl, ?_⟩)
        rw [← hst]
        exact WsAt.intro (by k_asm) kN9 (fun p hp => hp) hints ho (Ne.symm neA)
            ((Mine.allC (by rfl) ((Mine.allC rfl ((Mine.allC rfl ((Mine.allC rfl ((Mine.allC (by rfl) ((Mine.allC (by rfl) ((Mine.allC (by rfl) (List.forall_mem_nil _)))))))))))))))
  · intro aC vs c tb tn tt m₁ h tk hints ho F1 N1
    have q1 : @Ne Nat d' aC := ho _ (.tail _ (.tail _ (.head _)))
    have q2 : @Ne Nat x' aC := ho _ (.tail _ (.head _))
    have q3 : ∀ p ∈ news, p.1 ≠ d' := ne_lt l1
    have hvl := hints.length
    have hwb := wsOf_le hx
    unfold wsOf at hwb
    iterate 46 (first | (k_unfold; (try dsimp only)) | (k_end; wrow_close) | walk1 | (dsimp only; walk1) | (leave1; (try dsimp only)) | fail "no step")
    (rename News h₀ L _ _ => kN9)
    have qa : ∀ p ∈ news, p.1 ≠ aC := fun p hp => ho p (.tail _ (.tail _ (.tail _ hp)))
    have qx : ∀ p ∈ news, p.1 < x' := fun p hp => Nat.lt_trans (l1 p hp) l2
    rw [hvl] at kN9
    refine hret _ [_, _, _, _, _, _] _ _ (by k_asm) kN9 ?_ ⟨_, rfl, _, _, _, _, _, _, _, _, _, _, _, _, _, .tail _ (.tail _ (.tail _ (.tail _ (.head _)))), .tail _ (.tail _ (.tail _ (.tail _ (.tail _ (.head _))))), .head _, .tail _ (.head _), hints⟩
    exact Mine.own_cons (fun p hp => Nat.ne_of_lt (Nat.lt_trans (qx p hp) (by omega))) (Mine.own_cons (fun p hp => Nat.ne_of_lt (Nat.lt_trans (qx p hp) (by omega))) (Mine.own_cons qa (Mine.own_cons (fun p hp => Nat.ne_of_lt (Nat.lt_trans (qx p hp) (by omega))) (Mine.own_cons (ne_lt qx) (Mine.own_cons q3 Mine.own_nil))))))
end

noncomputable def maxI : List Int → Int
  | [] => 0
  | a :: r => if maxI r < a then a else maxI r
theorem maxI_ge : ∀ (ns : List Int), ∀ a ∈ ns, a ≤ maxI ns
  | b :: r, a, h => by
    rw [maxI]
    rcases List.mem_cons.mp h with rfl | h
    · split <;> omega
    · have := maxI_ge r a h
      split <;> omega
theorem maxI_mem : ∀ (ns : List Int), (∀ a ∈ ns, 0 ≤ a) → maxI ns = 0 ∨ maxI ns ∈ ns
  | [], _ => .inl rfl
  | b :: r, h => by
    rw [maxI]
    split
    · exact .inr (.head _)
    · rcases maxI_mem r fun a ha => h a (.tail _ ha) with e | e
      · exact .inl e
      · exact .inr (.tail _ e)
theorem maxI_eq {ns : List Int} {M : Int} (h0 : ∀ a ∈ ns, 0 ≤ a) (h1 : M ∈ ns) (h2 : ∀ a ∈ ns, a ≤ M) : maxI ns = M := by
  have a1 := maxI_ge ns M h1
  rcases maxI_mem ns h0 with e | e
  · have := h0 M h1; omega
  · have := h2 _ e; omega
/-- the sizes at which two texts begin alike -/
noncomputable def alikeN (h t : PySem.Str) (n : Nat) : List Nat := (List.range n).filter fun s => (Txt.slice h none (some (0 + (s : Int))) == Txt.slice t none (some (0 + (s : Int)))) && decide (0 + (s : Int) ≤ if (t.length : Int) < (h.length : Int) then (t.length : Int) else (h.length : Int))
theorem alike_zero (h t : PySem.Str) (n : Nat) (hn : 0 < n) : 0 ∈ alikeN h t n := by
  unfold alikeN
  refine List.mem_filter.mpr ⟨List.mem_range.mpr hn, ?_⟩
  have e : Txt.slice h none (some (0 + ((0 : Nat) : Int))) = Txt.slice t none (some (0 + ((0 : Nat) : Int))) := by
    rw [Int.zero_add]
    exact str_list (by rw [slice_upto, slice_upto, List.take_zero, List.take_zero])
  rw [e, beq_self_eq_true, Bool.true_and, decide_eq_true_eq]
  split <;> omega
/-- how far two texts begin alike -/
noncomputable def alikeM (h t : PySem.Str) (n : Nat) : Int := maxI ((alikeN h t n).map fun i : Nat => (i : Int))
noncomputable def leadS (x : PySem.Str) (rows : List (PySem.Str × Int)) : Nat → PySem.Str
  | 0 => PySem.Str.ofString ""
  | i + 1 => leadS x rows i ++ Txt.mul (PySem.Str.ofString " ") (alikeM (Txt.slice x (some (rows.getD i (⟨#[]⟩, 0)).2) none) (Txt.slice x (some (rows.getD (i + 1) (⟨#[]⟩, 0)).2) none) x.length) ++ PySem.Str.ofString "\t"
theorem alikeM_le (h t : PySem.Str) {n : Nat} (hn : 0 < n) : 0 ≤ alikeM h t n ∧ alikeM h t n < n := by
  have hp : ∀ a ∈ (alikeN h t n).map (fun i : Nat => (i : Int)), 0 ≤ a ∧ a < n := fun a ha => by
    obtain ⟨k, hk, rfl⟩ := List.mem_map.mp ha
    have := List.mem_range.mp (List.mem_filter.mp hk).1
    omega
  rcases maxI_mem ((alikeN h t n).map fun i : Nat => (i : Int)) fun a ha => (hp a ha).1 with e | e
  · unfold alikeM; omega
  · exact hp _ e
theorem blank_len : (PySem.Str.ofString " ").length ≤ 1 := by decide +kernel
theorem tab_len : (PySem.Str.ofString "\t").length = 1 := by decide +kernel
theorem mul_blank {n : Int} {N : Nat} (hn : n ≤ (N : Int)) : (Txt.mul (PySem.Str.ofString " ") n).length ≤ N := by
  have := len_mul_leN (N := N) blank_len hn
  omega
theorem leadS_len {x : PySem.Str} (rows : List (PySem.Str × Int)) (h0 : 0 < x.length) (hx : x.length ≤ 6) : ∀ i, (leadS x rows i).length ≤ 7 * i
  | 0 => by show (PySem.Str.ofString "").length ≤ 0; decide +kernel
  | i + 1 => by
    have ih := leadS_len rows h0 hx i
    have h1 := alikeM_le (Txt.slice x (some (rows.getD i (⟨#[]⟩, 0)).2) none) (Txt.slice x (some (rows.getD (i + 1) (⟨#[]⟩, 0)).2) none) h0
    have h2 := mul_blank (n := alikeM (Txt.slice x (some (rows.getD i (⟨#[]⟩, 0)).2) none) (Txt.slice x (some (rows.getD (i + 1) (⟨#[]⟩, 0)).2) none) x.length) (N := 6) (by omega)
    rw [leadS, PySem.Str.length_append, PySem.Str.length_append, tab_len]
    omega
section
theorem c_lead (w : World) (l : Addr) (vs : List Value) (c : Nat) (rows : List (PySem.Str × Int)) (x : PySem.Str) (tx : Tok) (hx4 : 4 ≤ x.length) (hx : x.length ≤ 6) (hn : rows.length = x.length) (hr : ∀ p ∈ rows, 0 ≤ p.2 ∧ p.2 < x.length) :
    Con w 157 [.str x tx, .ref l] 1 30 (fun news => (l, listOf vs.toArray c) ∈ news ∧ RowsAt news vs rows) (RetS (leadS x rows (rows.length - 1))) := by
  w_top off
  w_strict (
  unfold Con
  k_fill
  intro p loose mean mg mb dp un gd cn cs a ccd cl outer A₀ base h₀ L m news s Q E B F X N T hk hpre hd hu hret
  obtain ⟨hl, hrows⟩ := hpre
  have hvn := hrows.1
  replace N : News h₀ L s.heap ((l, listOf vs.toArray c) :: news) := fun p hp => by rcases List.mem_cons.mp hp with rfl | hp; exact N _ hl; exact N _ hp
  refine wpAny_call ?_
  k_dflt ((refine' code_defC ?k1 ?k2 ?k3 ?k4 ?k5 ?kA ?kF ?kK ?k6 ?k7 ?k8 ?k9 ?kB ?kD ?_ ?c2 ?c3 ?c4; (case kA => exact rfl); (case kF => exact rfl); (case kK => assumption); (case k1 => k_asm); (case k2 => k_asm); (case k3 => k_asm); (case k4 => k_asm); (case k5 => k_asm); (case k6 => k_is); (case k7 => k_is); (case k8 => ktr_room); (case k9 => exact BindsTo.of_eq rfl); (case kB => exact rfl); (case kD => decide +kernel); (case c2 => exact rfl); (case c3 => exact rfl); (case c4 => exact rfl); k_whole; intro g'q L'q h'q tk'q cells'q FG'q F'q N'q Y'q B'q X'q T'q l1q; (have l9q := Mine.offC l1q); (try k_lt l1q); k_cells Y'q; (try simp only [List.cons_append, List.nil_append] at N'q); (try dsimp only); (try k_lift B'q); (try k_fold)))
  (repeat ((fail_if_success (with_reducible show wpAny _ _ (exec (PySem.Stmt.For _ _ _ _ _) _) _ _ _)); (first | (k_unfold; (try dsimp only)) | (k_end; wrow_close) | walk1 | (dsimp only; walk1) | (leave1; (try dsimp only)) | fail "no step")))
  refine wpAny_For ?_
  (repeat ((fail_if_success (with_reducible show wpAny _ _ (pyIter _) _ _ _)); (first | (k_unfold; (try dsimp only)) | (k_end; wrow_close) | walk1 | (dsimp only; walk1) | (leave1; (try dsimp only)) | fail "no step")))
  refine Mine.for_two (PySem.Str.ofString "lead") [(PySem.Str.ofString "text", .str x tx), (PySem.Str.ofString "kept", .ref l)] (leadS x rows) (by rfl) (by with_reducible assumption) (by omega) (by omega) (by k_asm) (by k_asm) (by assumption) (by assumption) ?_ ?_ ?_
  · exact ⟨_, (Mine.allC rfl ((Mine.allC (by rfl) ((Mine.allC (by rfl) (List.forall_mem_nil _))))))⟩
  · intro I i tv oI o1 o2 v1 v2 t1 m₁ h tk hi hc1 hc2 ne1 ne2 offI F1 N1
    (try dsimp only)
    have hin : i + 1 < rows.length := by omega
    have hi7 : i < 62 := Nat.lt_of_lt_of_le (Nat.lt_of_succ_lt hin) (hn ▸ Nat.le_trans hx (by decide))
    refine Mine.at_k (Nat.lt_of_succ_lt hin) ?_
    intro p0 hp0
    refine Mine.at_k hin ?_
    intro p1 hp1
    obtain ⟨a0, t0, u0, n0, hv0, hm0⟩ := hrows.2 _ _ hp0
    obtain ⟨a1, t1', u1, n1, hv1, hm1⟩ := hrows.2 _ _ hp1
    have hb0 := hr p0 (List.mem_of_getElem? hp0)
    have hb1 := hr p1 (List.mem_of_getElem? hp1)
    refine wpAny_assign_Name ?_
    iterate 17 (first | (k_unfold; (try dsimp only)) | (k_end; wrow_close) | walk1 | (dsimp only; walk1) | (leave1; (try dsimp only)) | fail "no step")
    refine Mine.item_at (News.isList (by k_asm) (by k_mem)) (Mine.o0n i) (Mine.o0s hi7) (by rw [Mine.o0]; exact hv0) ?_ (by with_unfolding_all rfl)
    iterate 1 (first | (k_unfold; (try dsimp only)) | (k_end; wrow_close) | walk1 | (dsimp only; walk1) | (leave1; (try dsimp only)) | fail "no step")
    refine Mine.row_item (by k_asm) (.tail _ (.tail _ (.tail _ (.tail _ hm0)))) (by decide) (by decide) (by rfl) ?_
    iterate 12 (first | (k_unfold; (try dsimp only)) | (k_end; wrow_close) | walk1 | (dsimp only; walk1) | (leave1; (try dsimp only)) | fail "no step")
    refine Mine.item_at (News.isList (by k_asm) (by k_mem)) (Mine.o1n i) (Mine.o1s hi7) (by rw [Mine.o1]; exact hv1) ?_ (by with_unfolding_all rfl)
    iterate 1 (first | (k_unfold; (try dsimp only)) | (k_end; wrow_close) | walk1 | (dsimp only; walk1) | (leave1; (try dsimp only)) | fail "no step")
    refine Mine.row_item (by k_asm) (.tail _ (.tail _ (.tail _ (.tail _ hm1)))) (by decide) (by decide) (by rfl) ?_
    iterate 15 (first | (k_unfold; (try dsimp only)) | (k_end; wrow_close) | walk1 | (dsimp only; walk1) | (leave1; (try dsimp only)) | fail "no step")
    refine PyProof.Rows.LCt.Assign_ListComp_T (F₀ := by k_asm) (by rfl) (by with_unfolding_all rfl) (by with_unfolding_all rfl) (by decide) (by rfl) (by decide) (by rfl) (by rfl) (by rfl) ?_
    (repeat ((fail_if_success (with_reducible show PyProof.Rows.LCg.CompSrc _ _ _ _ _ _ _ _ _ _ _ _ _ _)); (fail_if_success (with_reducible show PyProof.Rows.LCt.CompSrcT _ _ _ _ _ _ _ _ _ _ _ _ _ _ _)); (first | (k_unfold; (try dsimp only)) | (k_end; wrow_close) | walk1 | (dsimp only; walk1) | (leave1; (try dsimp only)) | fail "no step")))
    refine Mine.comp_rangeT (by rfl) (by k_asm) (by k_asm) (by with_reducible assumption) (by omega) (by omega) ?_
    intro g
    refine Mine.rest_sameT _ (fun s => (Txt.slice (Txt.slice x (some p0.2) none) none (some (0 + (s : Int))) == Txt.slice (Txt.slice x (some p1.2) none) none (some (0 + (s : Int)))) && decide (0 + (s : Int) ≤ if ((Txt.slice x (some p1.2) none).length : Int) < ((Txt.slice x (some p0.2) none).length : Int) then ((Txt.slice x (some p1.2) none).length : Int) else ((Txt.slice x (some p0.2) none).length : Int))) (fun i y => ∃ t, y = .int (0 + (i : Int)) t) ?_ trivial ?_
    · rintro j ys v I oI C oC D m₂ h tk E' hj ⟨tv, rfl⟩ hC hx₂ F6 N6 off ne
      (try dsimp only)
      refine Mine.absQ ?_
      intro K9 hK9
      iterate 21 (first | (k_unfold; (try dsimp only)) | (k_end; wrow_close) | walk1 | (dsimp only; walk1) | (leave1; (try dsimp only)) | fail "no step")
      · (rename (_ == _) = true => hq1)
        iterate 27 (first | (k_unfold; (try dsimp only)) | (k_end; wrow_close) | walk1 | (dsimp only; walk1) | (leave1; (try dsimp only)) | fail "no step")
        · (first | (k_unfold; (try dsimp only)) | (k_end; wrow_close) | walk1 | (dsimp only; walk1) | (leave1; (try dsimp only)) | fail "no step")
          refine hK9 ⟨kt hq1 (by assumption), ?_⟩
          (simp only [if_true])
          (first | (k_unfold; (try dsimp only)) | (k_end; wrow_close) | walk1 | (dsimp only; walk1) | (leave1; (try dsimp only)) | fail "no step")
          exact (Mine.turnB (by k_asm) (by k_asm) ⟨_, rfl⟩)
        · refine hK9 ⟨kf1 (by assumption), ?_⟩
          (simp only [Bool.false_eq_true, if_false])

          exact (Mine.turnA (by k_asm) (by k_asm))
      · refine hK9 ⟨kf2 (by assumption), ?_⟩
        (simp only [Bool.false_eq_true, if_false])
        exact (Mine.turnA (by k_asm) (by k_asm))
    · intro ys hys
      unfold LCg.FinA
      intro D8 h8 tk8 F8 N8 off8
      rw [show (((x.length : Nat) : Int) - 0).toNat = x.length from by omega] at hys
      iterate 13 (first | (k_unfold; (try dsimp only)) | (k_end; wrow_close) | walk1 | (dsimp only; walk1) | (leave1; (try dsimp only)) | fail "no step")
      refine kso_max (by k_asm) (by k_asm) (News.isList (by k_asm) (by k_mem)) hys.ints (List.length_pos_of_mem (List.mem_map_of_mem (alike_zero _ _ _ (by omega)))) (by rfl) ?_
      intro h9 M9 t9 tk9 F9 N9 hM1 hM2
      have hM : alikeM (Txt.slice x (some p0.2) none) (Txt.slice x (some p1.2) none) x.length = M9 := maxI_eq (fun a ha => by obtain ⟨k, _, rfl⟩ := List.mem_map.mp ha; exact Int.natCast_nonneg k) hM1 hM2
      have hM3 : 0 ≤ M9 ∧ M9 ≤ 6 := by
        obtain ⟨k, hk, rfl⟩ := List.mem_map.mp hM1
        have := List.mem_range.mp (List.mem_filter.mp hk).1
        omega
      clear hM1 hM2
      have hL1 := leadS_len (x := x) rows (by omega) hx i
      have hL2 := mul_blank (n := M9) (N := 6) (by omega)
      iterate 1 (first | (k_unfold; (try dsimp only)) | (k_end; wrow_close) | walk1 | (dsimp only; walk1) | (leave1; (try dsimp only)) | fail "no step")
      refine PySem.W.KXadd.add (K := 42) (L := 6) (by omega) hL2 (by decide) ?_
      intro t5 k5 hL3
      iterate 5 (first | (k_unfold; (try dsimp only)) | (k_end; wrow_close) | walk1 | (dsimp only; walk1) | (leave1; (try dsimp only)) | fail "no step")
      have eL : leadS x rows (i + 1) = leadS x rows i ++ Txt.mul (PySem.Str.ofString " ") M9 ++ PySem.Str.ofString "\t" := by
        rw [leadS, List.getD_eq_getElem?_getD, List.getD_eq_getElem?_getD, hp0, hp1]
        show leadS x rows i ++ Txt.mul (PySem.Str.ofString " ") (alikeM (Txt.slice x (some p0.2) none) (Txt.slice x (some p1.2) none) x.length) ++ _ = _
        rw [hM]
      rw [eL]
      (rename News _ _ _ _ => kN9)
      exact TwoEnd.intro (by k_asm) kN9 (fun p hp => .tail _ (.tail _ hp)) (by assumption) (by assumption) ((Mine.allC rfl ((Mine.allC (by rfl) ((Mine.allC (by rfl) (List.forall_mem_nil _)))))))
  · intro t1 o1 o2 m₁ h tk F1 N1
    rw [show (((vs.length : Nat) : Int) - 1).toNat = rows.length - 1 from by omega] at F1
    iterate 4 (first | (k_unfold; (try dsimp only)) | (k_end; wrow_close) | walk1 | (dsimp only; walk1) | (leave1; (try dsimp only)) | fail "no step")

    exact hret _ [] _ _ (by k_asm) (by (first | k_asm | (refine' cb_drop ?cbN ?cbS; (case cbN => assumption); (case cbS => (intro pq hpq; repeat (first | exact hpq | refine List.Mem.tail _ ?_)))))) (fun _ h => nomatch h) (RetS.mk rfl))
end

/-- the end of a turn that adds to one int -/
noncomputable def IntEnd (h₀ : Heap) (L : Addr) (s : Shared) (ks : List (PySem.Str × Value)) (y : PySem.Str) (x : Int) (I : Addr) (oI : Obj) (rest : List (Addr × Obj)) (f : Flow) (s₃ : Shared) : Prop :=
  f = .next ∧ ∃ h' tk' t m', s₃ = { s with heap := h', toks := tk' } ∧ (∀ p ∈ (y, Value.int x t) :: ks, m' p.1 = some p.2) ∧ Fr h₀ L h' m' ∧ News h₀ L h' ((I, oI) :: rest)
theorem IntEnd.intro {h₀ : Heap} {L : Addr} {s : Shared} {ks : List (PySem.Str × Value)} {y : PySem.Str} {x : Int} {I : Addr} {oI : Obj} {rest all : List (Addr × Obj)} {h' : Heap} {tk' : Nat} {t : Tok} {m' : PySem.Str → Option Value}
    (F : Fr h₀ L h' m') (N : News h₀ L h' all) (sub : ∀ p ∈ (I, oI) :: rest, p ∈ all) (hk : ∀ p ∈ (y, Value.int x t) :: ks, m' p.1 = some p.2) :
    IntEnd h₀ L s ks y x I oI rest .next { s with heap := h', toks := tk' } := ⟨rfl, h', tk', t, m', rfl, hk, F, fun p hp => N p (sub p hp)⟩
theorem for_int {prog : Program} {w : World} {A : Around} {E : Value → Shared → Prop} {s : Shared} {env : Env} {h₀ : Heap} {L : Addr} {Q : Flow → Shared → Prop} {tgt : PySem.Expr} {body : List Stmt} {r : Addr} {a b : Int} {t u v : Tok} {m : PySem.Str → Option Value} {rest : List (Addr × Obj)}
    (y : PySem.Str) (ks : List (PySem.Str × Value)) (S : Nat → Int)
    (hh : A.handled = none) (hr : IsRange s.heap r a b 1 t u v) (ha : 0 ≤ a ∧ a ≤ 1000) (hb : 0 ≤ b ∧ b ≤ 1000)
    (F : Fr h₀ L s.heap m) (N : News h₀ L s.heap rest) (hks : ∃ t0, ∀ p ∈ (y, Value.int (S 0) t0) :: ks, m p.1 = some p.2)
    (turn : ∀ I i tv oI t1 (m₁ : PySem.Str → Option Value) h tk, i < (b - a).toNat → (∀ p ∈ rest, p.1 ≠ I) → Fr h₀ L h (withNames ((y, Value.int (S i) t1) :: ks) m₁) → News h₀ L h ((I, oI) :: rest) →
      wpAny (model prog w) A (assign tgt env (.int (a + (i : Int)) tv)) (fun _ s₂ => wpAny (model prog w) A (execs body env) (IntEnd h₀ L s ks y (S (i + 1)) I oI rest) E s₂) E { s with heap := h, toks := tk })
    (done : ∀ t1 (m₁ : PySem.Str → Option Value) h tk, Fr h₀ L h (withNames ((y, Value.int (S (b - a).toNat) t1) :: ks) m₁) → News h₀ L h rest → Q .next { s with heap := h, toks := tk })
    (ht : ∀ I v, letOwnedTupleGo tgt (.ref I) v = pure () := by intro _ _; rfl)
    (hL : env.locals = L := by rfl) (hE : PassesOwn (model prog w) A env E := by passes_own) :
    wpAny (model prog w) A (pyIter (.ref r)) (fun it s₂ => codeAny (model prog w) A (.forLoop tgt it body [] env) (fun r s' => match r with | .ok f => Q f s' | .error e => cameBackBy (model prog w) A env E e s') s₂) E s := by
  refine for_range (fun I i m₁ news₁ => ∃ t1, news₁ = rest ∧ ∀ p ∈ (y, Value.int (S i) t1) :: ks, m₁ p.1 = some p.2) hh hr ha hb F N (fun _ _ => ⟨_, rfl, hks.choose_spec⟩) ?_ ?_ ht hL hE
  · rintro I i tv oI m₁ news₁ h tk hi ⟨t1, rfl, hm₁⟩ hoff F₁ N₁
    rw [withNames_eq hm₁] at F₁
    refine wpAny_mono (turn I i tv oI t1 m₁ h tk hi hoff F₁ N₁) (fun _ s₂ h₂ => wpAny_mono h₂ (fun f s₃ h₃ => ?_) fun _ _ e => e) fun _ _ e => e
    obtain ⟨rfl, h', tk', t', m', rfl, hm', F', N'⟩ := h₃
    exact ⟨h', tk', m', _, rfl, F', N', hoff, t', rfl, hm'⟩
  · rintro I m₁ news₁ h tk ⟨t1, rfl, hm₁⟩ F₁ N₁
    rw [withNames_eq hm₁] at F₁
    exact done t1 m₁ h tk F₁ N₁
/-- the ledger with such an object and what it holds at its head -/
inductive WsFront (w : World) (h₀ : Heap) (L : Addr) (h : Heap) (news : List (Addr × Obj)) (o : Addr) (x : PySem.Str) (st : Wst) : Prop where
  | mk : ∀ d D T vs k1 k2 k3 k4 k5 tx tn tt tb, IntsAre vs st.cnt → News h₀ L h ((o, instObj 76 d) :: (d, wsDict w x st k1 k2 k3 k4 k5 tx tn tt D) :: (D, ({ cls := .type "tuple", data := .seq #[.ref T, .int (st.b : Int) tb] } : Obj)) :: (T, ({ cls := .type "tuple", data := .seq vs.toArray } : Obj)) :: news) → WsFront w h₀ L h news o x st
theorem ws_front {w : World} {h₀ h : Heap} {L : Addr} {news : List (Addr × Obj)} {o : Addr} {x : PySem.Str} {st : Wst} (N : News h₀ L h news) (W : WsHas w news o x st) :
    WsFront w h₀ L h news o x st := by
  obtain ⟨d, D, T, vs, k1, k2, k3, k4, k5, tx, tn, tt, tb, h1, h2, h3, h4, h5⟩ := W
  exact ⟨d, D, T, vs, k1, k2, k3, k4, k5, tx, tn, tt, tb, h5, (Mine.allC (N _ h1) ((Mine.allC (N _ h2) ((Mine.allC (N _ h3) ((Mine.allC (N _ h4) N)))))))⟩
theorem tup_len {prog : Program} {w : World} {A : Around} {E : Value → Shared → Prop} {s : Shared} {h₀ : Heap} {L a : Addr} {news : List (Addr × Obj)} {vs : List Value} {Q : Value → Shared → Prop}
    (N : News h₀ L s.heap news) (hm : (a, ({ cls := .type "tuple", data := .seq vs.toArray } : Obj)) ∈ news) (hv : vs.length ≤ 1000) (h : ∀ t k, Q (.int (vs.length : Nat) t) { s with toks := k }) : wpAny (model prog w) A (call (.builtin "len") [.ref a]) Q E s :=
  PyProof.Rows.len_tuple (items := vs.toArray) ⟨_, (N _ hm).1, rfl, _, rfl⟩ (by rw [List.size_toArray]; omega) (by rw [List.size_toArray]; exact h _ _)
theorem tup_item {prog : Program} {w : World} {A : Around} {E : Value → Shared → Prop} {s : Shared} {h₀ : Heap} {L a : Addr} {news : List (Addr × Obj)} {value slice : PySem.Expr} {vs : List Value} {cs : List Int} {k : Int} {u' : Tok} {Q : Value → Shared → Prop}
    (N : News h₀ L s.heap news) (hm : (a, ({ cls := .type "tuple", data := .seq vs.toArray } : Obj)) ∈ news) (hi : IntsAre vs cs) (h0 : 0 ≤ k) (h1 : k < cs.length) (hb : cs.length ≤ 1000) (h : ∀ t, Q (.int (cs.getD k.toNat 0) t) s)
    (hs : subscripted slice false (.ref a) (.int k u') = operate [.ref a, .int k u'] (getItem (.ref a) (.int k u')) := by with_unfolding_all rfl) :
    wpAny (model prog w) A (subscriptTail value slice (.ref a) (.int k u')) Q E s := by
  obtain ⟨t, e⟩ := hi.get k.toNat cs[k.toNat] (List.getElem?_eq_getElem (by omega))
  have h' := h t
  rw [List.getD_eq_getElem?_getD, List.getElem?_eq_getElem (by omega)] at h'
  exact PyProof.Rows.item_tupleT (l := vs) ⟨_, (N _ hm).1, rfl, _, rfl⟩ (by omega) (by omega) (seqIndex_of h0 (by rw [hi.length]; exact h1)) e h' hs
section
local macro_rules | `(tactic| walk_at "call builtin:len") => `(tactic| k_dflt (refine' Mine.tup_len ?a ?b ?c ?_; (case a => k_asm); (case b => k_mem); (case c => omega); intro t' k'))
noncomputable def longW (st : Wst) : Int := if (st.b : Int) > (st.cnt.length : Int) - 1 then (st.b : Int) else (st.cnt.length : Int) - 1
theorem c_wlong (w : World) (o : Addr) (x : PySem.Str) (st : Wst) (hb : st.b ≤ 60) (hc : st.cnt.length ≤ 60) : Con w 38 [.ref o] 1 20 (fun news => WsHas w news o x st) (RetI (longW st)) := by
  w_top off
  w_strict (
  unfold Con
  k_fill
  intro p loose mean mg mb dp un gd cn cs a ccd cl outer A₀ base h₀ L m news s Q E B F X N T hk hpre hd hu hret
  obtain ⟨d, D, T5, vs, k1, k2, k3, k4, k5, tx, tn, tt, tb, hints, N⟩ := ws_front N hpre
  clear hpre
  have hvl := hints.length
  refine wpAny_call ?_
  k_dflt cell_enter
  k_steps
  all_goals exact hret _ [] _ _ (by k_asm) (by (first | k_asm | (refine' cb_drop ?cbN ?cbS; (case cbN => assumption); (case cbS => (intro pq hpq; repeat (first | exact hpq | refine List.Mem.tail _ ?_)))))) (fun _ h => nomatch h) (RetI.mk (by first | (unfold longW; rw [← hvl]; done) | (unfold longW; rw [← hvl]; simp [*])))
  )
theorem fdiv_small {a b : Int} (h0 : 0 ≤ a) (h1 : a ≤ 1000) (h2 : 1 ≤ b) : 0 ≤ a.fdiv b ∧ a.fdiv b ≤ 1000 := by
  rw [Int.fdiv_eq_ediv_of_nonneg _ (by omega)]
  exact ⟨Int.ediv_nonneg h0 (by omega), Int.le_trans (Int.ediv_le_self _ h0) h1⟩
/-- the level that Whitespace tells -/
noncomputable def levW (st : Wst) (ts : Int) : Nat → Int
  | 0 => 0
  | k + 1 => levW st ts k + (ts + (k : Int)).fdiv ts * st.cnt.getD (ts + (k : Int)).toNat 0
noncomputable def levelW (st : Wst) (ts : Int) : Int := (st.b : Int) + ts * (levW st ts ((st.cnt.length : Int) - ts).toNat + (st.nt : Int))
theorem c_wlevel (w : World) (o : Addr) (x : PySem.Str) (st : Wst) (ts : Int) (t9 : Tok) (h1 : 1 ≤ ts) (h2 : ts ≤ 100) (hb : st.b ≤ 60) (hc : st.cnt.length ≤ 60) : Con w 45 [.ref o, .int ts t9] 1 20 (fun news => WsHas w news o x st) (RetI (levelW st ts)) := by
  w_top off
  w_strict (
  unfold Con
  k_fill
  intro p loose mean mg mb dp un gd cn cs a ccd cl outer A₀ base h₀ L m news s Q E B F X N T hk hpre hd hu hret
  obtain ⟨d, D, T5, vs, k1, k2, k3, k4, k5, tx, tn, tt, tb, hints, N⟩ := ws_front N hpre
  clear hpre
  have hvl := hints.length
  refine wpAny_call ?_
  k_dflt cell_enter
  (repeat ((fail_if_success (with_reducible show wpAny _ _ (exec (PySem.Stmt.For _ _ _ _ _) _) _ _ _)); (first | (k_unfold; (try dsimp only)) | (k_end; wrow_close) | walk1 | (dsimp only; walk1) | (leave1; (try dsimp only)) | fail "no step")))
  refine wpAny_For ?_
  (repeat ((fail_if_success (with_reducible show wpAny _ _ (pyIter _) _ _ _)); (first | (k_unfold; (try dsimp only)) | (k_end; wrow_close) | walk1 | (dsimp only; walk1) | (leave1; (try dsimp only)) | fail "no step")))
  refine Mine.for_int (PySem.Str.ofString "il") [(PySem.Str.ofString "self", .ref o), (PySem.Str.ofString "tabsize", .int ts t9), (PySem.Str.ofString "count", .ref T5), (PySem.Str.ofString "trailing", .int (st.b : Int) tb)] (levW st ts) (by rfl) (by with_reducible assumption) (by omega) (by omega) (by k_asm) (by k_asm) ?_ ?_ ?_
  · exact ⟨_, (Mine.allC rfl ((Mine.allC (by rfl) ((Mine.allC (by rfl) ((Mine.allC (by rfl) ((Mine.allC (by rfl) (List.forall_mem_nil _))))))))))⟩
  · intro I i tv oI t1 m₁ h tk hi hoI F1 N1
    (try dsimp only)
    refine wpAny_assign_Name ?_
    iterate 14 (first | (k_unfold; (try dsimp only)) | (k_end; wrow_close) | walk1 | (dsimp only; walk1) | (leave1; (try dsimp only)) | fail "no step")
    refine Mine.tup_item (by k_asm) (by k_mem) (by assumption) (by omega) (by omega) (by omega) ?_
    intro t2
    have hq := fdiv_small (a := ts + (i : Int)) (b := ts) (by omega) (by omega) h1
    repeat (first | (k_unfold; (try dsimp only)) | (k_end; wrow_close) | walk1 | (dsimp only; walk1) | (leave1; (try dsimp only)) | fail "no step")
    (rename News _ _ _ _ => kN9)
    exact IntEnd.intro (by k_asm) kN9 (fun p hp => hp) ((Mine.allC rfl ((Mine.allC (by rfl) ((Mine.allC (by rfl) ((Mine.allC (by rfl) ((Mine.allC (by rfl) (List.forall_mem_nil _)))))))))))
  · intro t1 m₁ h tk F1 N1
    iterate 15 (first | (k_unfold; (try dsimp only)) | (k_end; wrow_close) | walk1 | (dsimp only; walk1) | (leave1; (try dsimp only)) | fail "no step")
    exact hret _ [] _ _ (by k_asm) (by (first | k_asm | (refine' cb_drop ?cbN ?cbS; (case cbN => assumption); (case cbS => (intro pq hpq; repeat (first | exact hpq | refine List.Mem.tail _ ?_)))))) (fun _ h => nomatch h) (RetI.mk (by unfold levelW; rw [← hvl])))
end

section
variable {prog : Program} {w : World} {A : Around} {E : Value → Shared → Prop} {s : Shared} {h₀ : Heap} {L : Addr} {news : List (Addr × Obj)} {v v' : Value} {d e : Dat} {Q : Value → Shared → Prop}
open Classical in
theorem dat_same (ha : kqdOk 9 d = true) (hb : kqdOk 9 e = true) : PyData.eqv (kqdP d) (kqdP e) = decide (d = e) := by
  have q := kqd_eqv 9 d e 9 ha hb
  by_cases hq : d = e
  · rw [decide_eq_true hq]; exact q.mpr hq
  · rw [decide_eq_false hq]; exact Bool.eq_false_iff.mpr fun x => hq (q.mp x)
theorem dat_shaped (ha : kqdOk 9 d = true) : SeqAt.shaped (kqdP d) = true := by
  have la := kqd_lay 9 d ha
  unfold SeqAt.shaped; rw [la.1, Bool.true_and]; exact decide_eq_true (Nat.le_trans la.2 (by decide))
open Classical in
theorem dat_eq (N : News h₀ L s.heap news) (Da : DatIn news v d) (Db : DatIn news v' e) (ha : kqdOk 9 d = true) (hb : kqdOk 9 e = true) (hu : A.units + 64 < cLine) (h : Q (.bool (decide (d = e))) s) : wpAny (model prog w) A (compareOp .Eq v v') Q E s := by
  obtain ⟨as, ra⟩ := kqd_in N 9 Da ha
  obtain ⟨bs, rb⟩ := kqd_in N 9 Db hb
  exact eq_dataH ra rb (dat_shaped ha) (dat_shaped hb) hu (by rw [dat_same ha hb]; exact h)
open Classical in
theorem dat_ne (N : News h₀ L s.heap news) (Da : DatIn news v d) (Db : DatIn news v' e) (ha : kqdOk 9 d = true) (hb : kqdOk 9 e = true) (hu : A.units + 64 < cLine) (h : Q (.bool (!decide (d = e))) s) : wpAny (model prog w) A (compareOp .NotEq v v') Q E s := by
  obtain ⟨as, ra⟩ := kqd_in N 9 Da ha
  obtain ⟨bs, rb⟩ := kqd_in N 9 Db hb
  exact ne_dataH ra rb (dat_shaped ha) (dat_shaped hb) hu (by rw [dat_same ha hb]; exact h)
end
theorem ints_ok (n : Nat) : ∀ (l : List Int), ∀ d ∈ l.map Dat.int, kqdOk n d = true
  | [], _, h => nomatch h
  | i :: r, d, h => by
    rcases List.mem_cons.mp h with rfl | h
    · cases n <;> rfl
    · exact ints_ok n r d h
/-- the norm as data -/
noncomputable def normD (st : Wst) : Dat := .tuple [.tuple (st.cnt.map Dat.int), .int (st.b : Int)]
theorem normD_ok (st : Wst) : kqdOk 8 (normD st) = true := by
  show ([Dat.tuple (st.cnt.map Dat.int), Dat.int (st.b : Int)].all (kqdOk 7)) = true
  simp only [List.all_cons, List.all_nil, Bool.and_true]
  have h1 : kqdOk 7 (.tuple (st.cnt.map Dat.int)) = true := List.all_eq_true.mpr (ints_ok 6 _)
  rw [h1]
  rfl
theorem normD_ok9 (st : Wst) : kqdOk 9 (normD st) = true := by
  show ([Dat.tuple (st.cnt.map Dat.int), Dat.int (st.b : Int)].all (kqdOk 8)) = true
  simp only [List.all_cons, List.all_nil, Bool.and_true]
  have h1 : kqdOk 8 (.tuple (st.cnt.map Dat.int)) = true := List.all_eq_true.mpr (ints_ok 7 _)
  rw [h1]
  rfl
theorem map_int_inj : ∀ {a b : List Int}, a.map Dat.int = b.map Dat.int → a = b
  | [], [], _ => rfl
  | [], _ :: _, h => by cases h
  | _ :: _, [], h => by cases h
  | x :: xs, y :: ys, h => by
    rw [List.map_cons, List.map_cons] at h
    injection h with h1 h2
    injection h1 with h1
    rw [h1, map_int_inj h2]
/-- what two instances' norms tell -/
noncomputable def sameW (st st2 : Wst) : Bool := decide (st.cnt = st2.cnt) && decide (st.b = st2.b)
open Classical in
theorem normD_same (st st2 : Wst) : decide (normD st = normD st2) = sameW st st2 := by
  unfold sameW normD
  by_cases h1 : st.cnt = st2.cnt
  · by_cases h2 : st.b = st2.b
    · rw [h1, h2]; simp
    · have : ¬ (Dat.tuple [.tuple (st.cnt.map Dat.int), .int (st.b : Int)] = Dat.tuple [.tuple (st2.cnt.map Dat.int), .int (st2.b : Int)]) := by
        intro q; injection q with q; injection q with _ q; injection q with q; injection q with q; exact h2 (by omega)
      rw [decide_eq_false this, decide_eq_false h2, Bool.and_false]
  · have : ¬ (Dat.tuple [.tuple (st.cnt.map Dat.int), .int (st.b : Int)] = Dat.tuple [.tuple (st2.cnt.map Dat.int), .int (st2.b : Int)]) := by
      intro q; injection q with q; injection q with q; injection q with q; exact h1 (map_int_inj q)
    rw [decide_eq_false this, decide_eq_false h1, Bool.false_and]
theorem normD_at {news : List (Addr × Obj)} {D T : Addr} {vs : List Value} {st : Wst} {tb : Tok} (hD : (D, ({ cls := .type "tuple", data := .seq #[.ref T, .int (st.b : Int) tb] } : Obj)) ∈ news) (hT : (T, ({ cls := .type "tuple", data := .seq vs.toArray } : Obj)) ∈ news) (hi : IntsAre vs st.cnt) : DatIn news (.ref D) (normD st) :=
  .tuple hD (.cons (.tuple hT (datInts hi)) (.cons (.int _ _) .nil))
theorem c_wequal (w : World) (o o2 : Addr) (x x2 : PySem.Str) (st st2 : Wst) (hb : st.b ≤ 60) (hc : st.cnt.length ≤ 60) (hb2 : st2.b ≤ 60) (hc2 : st2.cnt.length ≤ 60) : Con w 52 [.ref o, .ref o2] 1 100 (fun news => WsHas w news o x st ∧ WsHas w news o2 x2 st2) (RetB (sameW st st2)) := by
  w_top off
  w_strict (
  unfold Con
  k_fill
  intro p loose mean mg mb dp un gd cn cs a ccd cl outer A₀ base h₀ L m news s Q E B F X N T hk hpre hd hu hret
  obtain ⟨hp1, hp2⟩ := hpre
  obtain ⟨d, D, T5, vs, k1, k2, k3, k4, k5, tx, tn, tt, tb, hints, N⟩ := ws_front N hp1
  obtain ⟨d', D', T5', vs', k1', k2', k3', k4', k5', tx', tn', tt', tb', hints', N⟩ := ws_front N (hp2.mono fun p hp => .tail _ (.tail _ (.tail _ (.tail _ hp))))
  clear hp1 hp2
  refine wpAny_call ?_
  k_dflt cell_enter
  iterate 10 (first | (k_unfold; (try dsimp only)) | (k_end; wrow_close) | walk1 | (dsimp only; walk1) | (leave1; (try dsimp only)) | fail "no step")
  refine Mine.dat_eq (by k_asm) (normD_at (by k_mem) (by k_mem) (by assumption)) (normD_at (by k_mem) (by k_mem) (by assumption)) (normD_ok9 _) (normD_ok9 _) (by (first | exact Mine.uni2 (by assumption) rfl | exact Mine.uni1 (by assumption) rfl | exact Mine.uniN rfl | ktr_units)) ?_
  rw [normD_same]
  k_steps
  exact hret _ [] _ _ (by k_asm) (by (first | k_asm | (refine' cb_drop ?cbN ?cbS; (case cbN => assumption); (case cbS => (intro pq hpq; repeat (first | exact hpq | refine List.Mem.tail _ ?_)))))) (fun _ h => nomatch h) (RetB.mk rfl))

theorem datAll_snoc {news : List (Addr × Obj)} : ∀ {vs : List Value} {ds : List Dat} {v : Value} {d : Dat}, DatAll news vs ds → DatIn news v d → DatAll news (vs ++ [v]) (ds ++ [d])
  | _, _, _, _, .nil, h => .cons h .nil
  | _, _, _, _, .cons a r, h => .cons a (datAll_snoc r h)
/-- a told row as data -/
noncomputable def rowD (p : Int × Int × Int) : Dat := .tuple [.int p.1, .int p.2.1, .int p.2.2]
/-- the rows that a witness tells -/
noncomputable def witW (f : Int → Int → Bool) (a b : Int → Int) : Nat → List (Int × Int × Int)
  | 0 => []
  | k + 1 => witW f a b k ++ if f (a (1 + (k : Int))) (b (1 + (k : Int))) then [(1 + (k : Int), a (1 + (k : Int)), b (1 + (k : Int)))] else []
noncomputable def topW (st st2 : Wst) : Int := if longW st2 > longW st then longW st2 else longW st
theorem longW_le {st : Wst} (hb : st.b ≤ 60) (hc : st.cnt.length ≤ 60) : 0 ≤ longW st ∧ longW st ≤ 60 := by
  unfold longW
  split <;> omega
theorem topW_le {st st2 : Wst} (hb : st.b ≤ 60) (hc : st.cnt.length ≤ 60) (hb2 : st2.b ≤ 60) (hc2 : st2.cnt.length ≤ 60) : 0 ≤ topW st st2 ∧ topW st st2 ≤ 60 := by
  have h1 := longW_le hb hc
  have h2 := longW_le hb2 hc2
  unfold topW
  split <;> omega
theorem wit_yes {f : Int → Int → Bool} {a b : Int → Int} {k : Nat} (h : f (a (1 + (k : Int))) (b (1 + (k : Int))) = true) : (witW f a b (k + 1)).map rowD = (witW f a b k).map rowD ++ [.tuple [.int (1 + (k : Int)), .int (a (1 + (k : Int))), .int (b (1 + (k : Int)))]] := by
  rw [witW, if_pos h, List.map_append]; rfl
theorem wit_no {f : Int → Int → Bool} {a b : Int → Int} {k : Nat} (h : f (a (1 + (k : Int))) (b (1 + (k : Int))) = false) : (witW f a b (k + 1)).map rowD = (witW f a b k).map rowD := by
  rw [witW, h, if_neg Bool.false_ne_true, List.append_nil]
theorem wit_len (f : Int → Int → Bool) (a b : Int → Int) : ∀ k, (witW f a b k).length ≤ k
  | 0 => Nat.le_refl 0
  | k + 1 => by
    have := wit_len f a b k
    rw [witW, List.length_append]
    split
    · rw [List.length_singleton]; omega
    · rw [List.length_nil]; omega
theorem grow_perm {α : Type} {p D I a : α} {T tl : List α} (h : p ∈ I :: a :: (T ++ (D :: tl))) : p ∈ D :: I :: a :: (T ++ tl) := by
  rcases List.mem_cons.mp h with rfl | h
  · exact .tail _ (.head _)
  rcases List.mem_cons.mp h with rfl | h
  · exact .tail _ (.tail _ (.head _))
  rcases List.mem_append.mp h with h | h
  · exact .tail _ (.tail _ (.tail _ (List.mem_append_left _ h)))
  rcases List.mem_cons.mp h with rfl | h
  · exact .head _
  · exact .tail _ (.tail _ (.tail _ (List.mem_append_right _ h)))
theorem tell_perm {α : Type} {p a b1 b2 b3 b4 b5 b6 b7 b8 : α} {tl T : List α} (h : p ∈ (a :: tl) ++ T) : p ∈ a :: b1 :: b2 :: b3 :: b4 :: b5 :: b6 :: b7 :: b8 :: (T ++ tl) := by
  rcases List.mem_cons.mp h with rfl | h
  · exact .head _
  refine .tail _ (.tail _ (.tail _ (.tail _ (.tail _ (.tail _ (.tail _ (.tail _ (.tail _ ?_))))))))
  rcases List.mem_append.mp h with h | h
  · exact List.mem_append_right _ h
  · exact List.mem_append_left _ h
noncomputable def DatEnd (T₀ : List (Addr × Obj)) (ds : List Dat) (ys : List Value) (T : List (Addr × Obj)) : Prop := ∃ tl, T = T₀ ++ tl ∧ DatAll tl ys ds ∧ OwnOff tl (T₀.map (·.1))
theorem own_app {T₀ tl : List (Addr × Obj)} {D : Addr × Obj} (h : ∀ p ∈ T₀ ++ tl, p.1 < D.1) (o : OwnOff tl (T₀.map (·.1))) : OwnOff (D :: tl) (T₀.map (·.1)) := own_cons (a := D.1) (o := D.2) (fun p hp => Nat.ne_of_lt (h p (List.mem_append_left _ hp))) o
theorem off_app {T₀ tl : List (Addr × Obj)} {D : Addr × Obj} {a : Addr} (h : ∀ p ∈ T₀ ++ tl, p.1 ≠ a) (o : @Ne Nat D.1 a) : ∀ p ∈ T₀ ++ (D :: tl), p.1 ≠ a := fun p hp => by
  rcases List.mem_append.mp hp with hp | hp
  · exact h p (List.mem_append_left _ hp)
  rcases List.mem_cons.mp hp with rfl | hp
  · exact o
  · exact h p (List.mem_append_right _ hp)
theorem wit_end {h₀ : Heap} {L : Addr} {s : Shared} {ks : List (PySem.Str × Value)} {I aA D : Addr} {oI oD : Obj} {T₀ tl : List (Addr × Obj)} {h' : Heap} {tk' c : Nat} {m' : PySem.Str → Option Value} {ys : List Value} {ds : List Dat}
    (F : Fr h₀ L h' m') (N : News h₀ L h' ((D, oD) :: (I, oI) :: (aA, listOf ys.toArray c) :: (T₀ ++ tl))) (hk : ∀ p ∈ ks, m' p.1 = some p.2) (offA : ∀ p ∈ T₀ ++ tl, p.1 ≠ aA) (offI : ∀ p ∈ T₀ ++ tl, p.1 ≠ I) (eA : @Ne Nat D aA) (eI : @Ne Nat D I)
    (dat : DatAll ((D, oD) :: tl) ys ds) (own : ∀ p ∈ T₀ ++ tl, p.1 < D) (hown : OwnOff tl (T₀.map (·.1))) : RowsEnd h₀ L s ks I oI aA (DatEnd T₀ ds) .next { s with heap := h', toks := tk' } :=
  RowsEnd.intro F N (T₀ ++ ((D, oD) :: tl)) (fun p hp => grow_perm hp) hk (off_app offA eA) (off_app offI eI) ⟨(D, oD) :: tl, rfl, dat, own_app own hown⟩
section
theorem c_wnewit (w : World) (o o2 : Addr) (x x2 : PySem.Str) (st st2 : Wst) (hb : st.b ≤ 60) (hc : st.cnt.length ≤ 60) (hb2 : st2.b ≤ 60) (hc2 : st2.cnt.length ≤ 60) : Con w 59 [.ref o, .ref o2] 2 60 (fun news => WsHas w news o x st ∧ WsHas w news o2 x2 st2)
    (fun tl r => ∃ a vs c, r = .ref a ∧ (a, listOf vs.toArray c) ∈ tl ∧ DatAll tl vs ((witW (fun a b => a != b) (levelW st) (levelW st2) (topW st st2 + 1).toNat).map rowD)) := by
  w_top off
  w_strict (
  unfold Con
  k_fill
  intro p loose mean mg mb dp un gd cn cs a ccd cl outer A₀ base h₀ L m news s Q E B F X N T hk hpre hd hu hret
  obtain ⟨hp1, hp2⟩ := hpre
  obtain ⟨d, D, T5, vs, k1, k2, k3, k4, k5, tx, tn, tt, tb, hints, N⟩ := ws_front N hp1
  obtain ⟨d', D', T5', vs', k1', k2', k3', k4', k5', tx', tn', tt', tb', hints', N⟩ := ws_front N (hp2.mono fun p hp => .tail _ (.tail _ (.tail _ (.tail _ hp))))
  have htop := topW_le hb hc hb2 hc2
  unfold topW at htop
  refine wpAny_call ?_
  k_dflt cell_enter
  iterate 12 (first | (k_unfold; (try dsimp only)) | (k_end; wrow_close) | walk1 | (dsimp only; walk1) | (leave1; (try dsimp only)) | fail "no step")
  refine con_use1 (c_wlong w o x st hb hc) (by k_asm) (by k_asm) (by k_asm) (by k_asm) (by k_asm) (by exact rfl) (hp1.mono (by ((intro pq hpq; repeat (first | exact hpq | exact List.mem_append_left _ hpq | refine List.Mem.tail _ ?_))))) (by (first | exact Mine.uni2 (by assumption) rfl | exact Mine.uni1 (by assumption) rfl | exact Mine.uniN rfl | ktr_room)) (by (first | exact Mine.uni2 (by assumption) rfl | exact Mine.uni1 (by assumption) rfl | exact Mine.uniN rfl | ktr_units)) (fun _ _ h => h) ?_
  intro t9 h9 tk9 F9 N9
  (try dsimp only); (try k_fold)
  iterate 5 (first | (k_unfold; (try dsimp only)) | (k_end; wrow_close) | walk1 | (dsimp only; walk1) | (leave1; (try dsimp only)) | fail "no step")
  refine con_use1 (c_wlong w o2 x2 st2 hb2 hc2) (by k_asm) (by k_asm) (by k_asm) (by k_asm) (by k_asm) (by exact rfl) (hp2.mono (by ((intro pq hpq; repeat (first | exact hpq | exact List.mem_append_left _ hpq | refine List.Mem.tail _ ?_))))) (by (first | exact Mine.uni2 (by assumption) rfl | exact Mine.uni1 (by assumption) rfl | exact Mine.uniN rfl | ktr_room)) (by (first | exact Mine.uni2 (by assumption) rfl | exact Mine.uni1 (by assumption) rfl | exact Mine.uniN rfl | ktr_units)) (fun _ _ h => h) ?_
  intro t9 h9 tk9 F9 N9
  (try dsimp only); (try k_fold)
  (repeat ((fail_if_success (with_reducible show wpAny _ _ (exec (PySem.Stmt.For _ _ _ _ _) _) _ _ _)); (first | (k_unfold; (try dsimp only)) | (k_end; wrow_close) | walk1 | (dsimp only; walk1) | (leave1; (try dsimp only)) | fail "no step")))
  refine wpAny_For ?_
  (repeat ((fail_if_success (with_reducible show wpAny _ _ (pyIter _) _ _ _)); (first | (k_unfold; (try dsimp only)) | (k_end; wrow_close) | walk1 | (dsimp only; walk1) | (leave1; (try dsimp only)) | fail "no step")))
  refine Mine.for_growT (ys₀ := []) (PySem.Str.ofString "a") [(PySem.Str.ofString "self", .ref o), (PySem.Str.ofString "other", .ref o2)] (fun i => DatEnd _ ((witW (fun a b => a != b) (levelW st) (levelW st2) i).map rowD)) (by rfl) (by with_reducible assumption) (by omega) (by omega) (by k_asm) (by k_asm) ?_ ?_ ⟨[], (List.append_nil _).symm, .nil, own_nil⟩ ?_ ?_
  · exact (Mine.allC (by rfl) ((Mine.allC (by rfl) ((Mine.allC (by rfl) (List.forall_mem_nil _))))))
  · (rename _ ∧ _ ∧ _ ∧ _ ∧ _ ∧ _ ∧ _ ∧ _ ∧ AllLt _ news => lA)
    exact (Mine.allC (Nat.ne_of_lt lA.1) ((Mine.allC (Nat.ne_of_lt lA.2.1) ((Mine.allC (Nat.ne_of_lt lA.2.2.1) ((Mine.allC (Nat.ne_of_lt lA.2.2.2.1) ((Mine.allC (Nat.ne_of_lt lA.2.2.2.2.1) ((Mine.allC (Nat.ne_of_lt lA.2.2.2.2.2.1) ((Mine.allC (Nat.ne_of_lt lA.2.2.2.2.2.2.1) ((Mine.allC (Nat.ne_of_lt lA.2.2.2.2.2.2.2.1) (ne_lt' lA.2.2.2.2.2.2.2.2))))))))))))))))
  · rintro I i tv oI ys c T m₁ h tk hi ⟨tl, rfl, hdat, hown⟩ neA offA offI F1 N1
    (try dsimp only)
    have hi7 : i < 62 := by omega
    clear hi
    have hys : ys.length ≤ 62 := by
      have := wit_len (fun a b => a != b) (levelW st) (levelW st2) i
      rw [hdat.length, List.length_map]
      exact Nat.le_trans this (Nat.le_of_lt hi7)
    (simp only [List.cons_append] at N1 offA offI)
    have q9 := fun p (hp : p ∈ news ++ tl) => offA p (.tail _ (.tail _ (.tail _ (.tail _ (.tail _ (.tail _ (.tail _ (.tail _ hp))))))))
    refine wpAny_assign_Name ?_
    iterate 13 (first | (k_unfold; (try dsimp only)) | (k_end; wrow_close) | walk1 | (dsimp only; walk1) | (leave1; (try dsimp only)) | fail "no step")
    refine con_use1 (c_wlevel w o x st (1 + (i : Int)) _ (Mine.o1g i) (Mine.o1h hi7) hb hc) (by k_asm) (by k_asm) (by k_asm) (by k_asm) (by k_asm) (by exact rfl) (hp1.mono (by ((intro pq hpq; repeat (first | exact hpq | exact List.mem_append_left _ hpq | refine List.Mem.tail _ ?_))))) (by (first | exact Mine.uni2 (by assumption) rfl | exact Mine.uni1 (by assumption) rfl | exact Mine.uniN rfl | ktr_room)) (by (first | exact Mine.uni2 (by assumption) rfl | exact Mine.uni1 (by assumption) rfl | exact Mine.uniN rfl | ktr_units)) (fun _ _ h => h) ?_
    intro t9 h9 tk9 F9 N9
    (try dsimp only); (try k_fold)
    iterate 8 (first | (k_unfold; (try dsimp only)) | (k_end; wrow_close) | walk1 | (dsimp only; walk1) | (leave1; (try dsimp only)) | fail "no step")
    refine con_use1 (c_wlevel w o2 x2 st2 (1 + (i : Int)) _ (Mine.o1g i) (Mine.o1h hi7) hb2 hc2) (by k_asm) (by k_asm) (by k_asm) (by k_asm) (by k_asm) (by exact rfl) (hp2.mono (by ((intro pq hpq; repeat (first | exact hpq | exact List.mem_append_left _ hpq | refine List.Mem.tail _ ?_))))) (by (first | exact Mine.uni2 (by assumption) rfl | exact Mine.uni1 (by assumption) rfl | exact Mine.uniN rfl | ktr_room)) (by (first | exact Mine.uni2 (by assumption) rfl | exact Mine.uni1 (by assumption) rfl | exact Mine.uniN rfl | ktr_units)) (fun _ _ h => h) ?_
    intro t9 h9 tk9 F9 N9
    (try dsimp only); (try k_fold)
    iterate 4 (first | (k_unfold; (try dsimp only)) | (k_end; wrow_close) | walk1 | (dsimp only; walk1) | (leave1; (try dsimp only)) | fail "no step")
    · (rename levelW _ _ ≠ levelW _ _ => hq')
      have hq := bne_iff_ne.mpr hq'
      iterate 19 (first | (k_unfold; (try dsimp only)) | (k_end; wrow_close) | walk1 | (dsimp only; walk1) | (leave1; (try dsimp only)) | fail "no step")
      refine con_use1 (c_wlevel w o x st (1 + (i : Int)) _ (Mine.o1g i) (Mine.o1h hi7) hb hc) (by k_asm) (by k_asm) (by k_asm) (by k_asm) (by k_asm) (by exact rfl) (hp1.mono (by ((intro pq hpq; repeat (first | exact hpq | exact List.mem_append_left _ hpq | refine List.Mem.tail _ ?_))))) (by (first | exact Mine.uni2 (by assumption) rfl | exact Mine.uni1 (by assumption) rfl | exact Mine.uniN rfl | ktr_room)) (by (first | exact Mine.uni2 (by assumption) rfl | exact Mine.uni1 (by assumption) rfl | exact Mine.uniN rfl | ktr_units)) (fun _ _ h => h) ?_
      intro t9 h9 tk9 F9 N9
      (try dsimp only); (try k_fold)
      iterate 9 (first | (k_unfold; (try dsimp only)) | (k_end; wrow_close) | walk1 | (dsimp only; walk1) | (leave1; (try dsimp only)) | fail "no step")
      refine con_use1 (c_wlevel w o2 x2 st2 (1 + (i : Int)) _ (Mine.o1g i) (Mine.o1h hi7) hb2 hc2) (by k_asm) (by k_asm) (by k_asm) (by k_asm) (by k_asm) (by exact rfl) (hp2.mono (by ((intro pq hpq; repeat (first | exact hpq | exact List.mem_append_left _ hpq | refine List.Mem.tail _ ?_))))) (by (first | exact Mine.uni2 (by assumption) rfl | exact Mine.uni1 (by assumption) rfl | exact Mine.uniN rfl | ktr_room)) (by (first | exact Mine.uni2 (by assumption) rfl | exact Mine.uni1 (by assumption) rfl | exact Mine.uniN rfl | ktr_units)) (fun _ _ h => h) ?_
      intro t9 h9 tk9 F9 N9
      (try dsimp only); (try k_fold)
      iterate 9 (first | (k_unfold; (try dsimp only)) | (k_end; wrow_close) | walk1 | (dsimp only; walk1) | (leave1; (try dsimp only)) | fail "no step")
      (rename News _ _ _ _ => kN9)
      (simp only [List.push_toArray] at kN9)
      (rename _ ∧ _ ∧ _ ∧ _ ∧ _ ∧ _ ∧ _ ∧ _ ∧ _ ∧ _ ∧ AllLt _ _ => lA)
      refine wit_end (by k_asm) kN9 ((Mine.allC (by rfl) ((Mine.allC (by rfl) ((Mine.allC (by rfl) (List.forall_mem_nil _))))))) offA offI (Nat.ne_of_gt lA.2.1) (Nat.ne_of_gt lA.1) ?_ ?_ hown
      · rw [wit_yes hq]; exact datAll_snoc (hdat.mono fun p hp => .tail _ hp) (.tuple (.head _) (.cons (.int _ _) (.cons (.int _ _) (.cons (.int _ _) .nil))))
      · exact (Mine.allC lA.2.2.1 ((Mine.allC lA.2.2.2.1 ((Mine.allC lA.2.2.2.2.1 ((Mine.allC lA.2.2.2.2.2.1 ((Mine.allC lA.2.2.2.2.2.2.1 ((Mine.allC lA.2.2.2.2.2.2.2.1 ((Mine.allC lA.2.2.2.2.2.2.2.2.1 ((Mine.allC lA.2.2.2.2.2.2.2.2.2.1 (allLt_out lA.2.2.2.2.2.2.2.2.2.2))))))))))))))))
    · (rename levelW _ _ = levelW _ _ => hq')
      have hq : (levelW st (1 + (i : Int)) != levelW st2 (1 + (i : Int))) = false := by rw [hq']; exact bne_self_eq_false _
      iterate 2 (first | (k_unfold; (try dsimp only)) | (k_end; wrow_close) | walk1 | (dsimp only; walk1) | (leave1; (try dsimp only)) | fail "no step")
      (rename News _ _ _ _ => kN9)
      refine RowsEnd.intro (by k_asm) kN9 _ (fun p hp => hp) ((Mine.allC (by rfl) ((Mine.allC (by rfl) ((Mine.allC (by rfl) (List.forall_mem_nil _))))))) offA offI ⟨tl, rfl, ?_, hown⟩
      rw [wit_no hq]
      exact hdat
  · rintro ys c T m₁ h tk ⟨tl, rfl, hdat, hown⟩ offA F1 N1
    (simp only [List.cons_append] at N1)
    iterate 4 (first | (k_unfold; (try dsimp only)) | (k_end; wrow_close) | walk1 | (dsimp only; walk1) | (leave1; (try dsimp only)) | fail "no step")
    (rename News h₀ L _ _ => kN9)
    rw [show ((if longW st2 > longW st then longW st2 else longW st) + 1 + 1 - 1).toNat = (topW st st2 + 1).toNat from by unfold topW; omega] at hdat
    refine hret _ ((_, _) :: tl) _ _ (by k_asm) (fun p hp => kN9 p (tell_perm hp)) (own_cons (fun p hp => offA p (.tail _ (.tail _ (.tail _ (.tail _ (.tail _ (.tail _ (.tail _ (.tail _ (List.mem_append_left _ hp)))))))))) (fun p hp b hb => hown p hp b (.tail _ (.tail _ (.tail _ (.tail _ (.tail _ (.tail _ (.tail _ (.tail _ hb)))))))))) ⟨_, ys, c, rfl, .head _, hdat.mono fun p hp => .tail _ hp⟩)
end

section
theorem c_wnlw (w : World) (o o2 : Addr) (x x2 : PySem.Str) (st st2 : Wst) (hb : st.b ≤ 60) (hc : st.cnt.length ≤ 60) (hb2 : st2.b ≤ 60) (hc2 : st2.cnt.length ≤ 60) : Con w 73 [.ref o, .ref o2] 2 60 (fun news => WsHas w news o x st ∧ WsHas w news o2 x2 st2)
    (fun tl r => ∃ a vs c, r = .ref a ∧ (a, listOf vs.toArray c) ∈ tl ∧ DatAll tl vs ((witW (fun a b => decide (b ≤ a)) (levelW st) (levelW st2) (topW st st2 + 1).toNat).map rowD)) := by
  w_top off
  w_strict (
  unfold Con
  k_fill
  intro p loose mean mg mb dp un gd cn cs a ccd cl outer A₀ base h₀ L m news s Q E B F X N T hk hpre hd hu hret
  obtain ⟨hp1, hp2⟩ := hpre
  obtain ⟨d, D, T5, vs, k1, k2, k3, k4, k5, tx, tn, tt, tb, hints, N⟩ := ws_front N hp1
  obtain ⟨d', D', T5', vs', k1', k2', k3', k4', k5', tx', tn', tt', tb', hints', N⟩ := ws_front N (hp2.mono fun p hp => .tail _ (.tail _ (.tail _ (.tail _ hp))))
  have htop := topW_le hb hc hb2 hc2
  unfold topW at htop
  refine wpAny_call ?_
  k_dflt cell_enter
  iterate 12 (first | (k_unfold; (try dsimp only)) | (k_end; wrow_close) | walk1 | (dsimp only; walk1) | (leave1; (try dsimp only)) | fail "no step")
  refine con_use1 (c_wlong w o x st hb hc) (by k_asm) (by k_asm) (by k_asm) (by k_asm) (by k_asm) (by exact rfl) (hp1.mono (by ((intro pq hpq; repeat (first | exact hpq | exact List.mem_append_left _ hpq | refine List.Mem.tail _ ?_))))) (by (first | exact Mine.uni2 (by assumption) rfl | exact Mine.uni1 (by assumption) rfl | exact Mine.uniN rfl | ktr_room)) (by (first | exact Mine.uni2 (by assumption) rfl | exact Mine.uni1 (by assumption) rfl | exact Mine.uniN rfl | ktr_units)) (fun _ _ h => h) ?_
  intro t9 h9 tk9 F9 N9
  (try dsimp only); (try k_fold)
  iterate 5 (first | (k_unfold; (try dsimp only)) | (k_end; wrow_close) | walk1 | (dsimp only; walk1) | (leave1; (try dsimp only)) | fail "no step")
  refine con_use1 (c_wlong w o2 x2 st2 hb2 hc2) (by k_asm) (by k_asm) (by k_asm) (by k_asm) (by k_asm) (by exact rfl) (hp2.mono (by ((intro pq hpq; repeat (first | exact hpq | exact List.mem_append_left _ hpq | refine List.Mem.tail _ ?_))))) (by (first | exact Mine.uni2 (by assumption) rfl | exact Mine.uni1 (by assumption) rfl | exact Mine.uniN rfl | ktr_room)) (by (first | exact Mine.uni2 (by assumption) rfl | exact Mine.uni1 (by assumption) rfl | exact Mine.uniN rfl | ktr_units)) (fun _ _ h => h) ?_
  intro t9 h9 tk9 F9 N9
  (try dsimp only); (try k_fold)
  (repeat ((fail_if_success (with_reducible show wpAny _ _ (exec (PySem.Stmt.For _ _ _ _ _) _) _ _ _)); (first | (k_unfold; (try dsimp only)) | (k_end; wrow_close) | walk1 | (dsimp only; walk1) | (leave1; (try dsimp only)) | fail "no step")))
  refine wpAny_For ?_
  (repeat ((fail_if_success (with_reducible show wpAny _ _ (pyIter _) _ _ _)); (first | (k_unfold; (try dsimp only)) | (k_end; wrow_close) | walk1 | (dsimp only; walk1) | (leave1; (try dsimp only)) | fail "no step")))
  refine Mine.for_growT (ys₀ := []) (PySem.Str.ofString "a") [(PySem.Str.ofString "self", .ref o), (PySem.Str.ofString "other", .ref o2)] (fun i => DatEnd _ ((witW (fun a b => decide (b ≤ a)) (levelW st) (levelW st2) i).map rowD)) (by rfl) (by with_reducible assumption) (by omega) (by omega) (by k_asm) (by k_asm) ?_ ?_ ⟨[], (List.append_nil _).symm, .nil, own_nil⟩ ?_ ?_
  · exact (Mine.allC (by rfl) ((Mine.allC (by rfl) ((Mine.allC (by rfl) (List.forall_mem_nil _))))))
  · (rename _ ∧ _ ∧ _ ∧ _ ∧ _ ∧ _ ∧ _ ∧ _ ∧ AllLt _ news => lA)
    exact (Mine.allC (Nat.ne_of_lt lA.1) ((Mine.allC (Nat.ne_of_lt lA.2.1) ((Mine.allC (Nat.ne_of_lt lA.2.2.1) ((Mine.allC (Nat.ne_of_lt lA.2.2.2.1) ((Mine.allC (Nat.ne_of_lt lA.2.2.2.2.1) ((Mine.allC (Nat.ne_of_lt lA.2.2.2.2.2.1) ((Mine.allC (Nat.ne_of_lt lA.2.2.2.2.2.2.1) ((Mine.allC (Nat.ne_of_lt lA.2.2.2.2.2.2.2.1) (ne_lt' lA.2.2.2.2.2.2.2.2))))))))))))))))
  · rintro I i tv oI ys c T m₁ h tk hi ⟨tl, rfl, hdat, hown⟩ neA offA offI F1 N1
    (try dsimp only)
    have hi7 : i < 62 := by omega
    clear hi
    have hys : ys.length ≤ 62 := by
      have := wit_len (fun a b => decide (b ≤ a)) (levelW st) (levelW st2) i
      rw [hdat.length, List.length_map]
      exact Nat.le_trans this (Nat.le_of_lt hi7)
    (simp only [List.cons_append] at N1 offA offI)
    have q9 := fun p (hp : p ∈ news ++ tl) => offA p (.tail _ (.tail _ (.tail _ (.tail _ (.tail _ (.tail _ (.tail _ (.tail _ hp))))))))
    refine wpAny_assign_Name ?_
    iterate 13 (first | (k_unfold; (try dsimp only)) | (k_end; wrow_close) | walk1 | (dsimp only; walk1) | (leave1; (try dsimp only)) | fail "no step")
    refine con_use1 (c_wlevel w o x st (1 + (i : Int)) _ (Mine.o1g i) (Mine.o1h hi7) hb hc) (by k_asm) (by k_asm) (by k_asm) (by k_asm) (by k_asm) (by exact rfl) (hp1.mono (by ((intro pq hpq; repeat (first | exact hpq | exact List.mem_append_left _ hpq | refine List.Mem.tail _ ?_))))) (by (first | exact Mine.uni2 (by assumption) rfl | exact Mine.uni1 (by assumption) rfl | exact Mine.uniN rfl | ktr_room)) (by (first | exact Mine.uni2 (by assumption) rfl | exact Mine.uni1 (by assumption) rfl | exact Mine.uniN rfl | ktr_units)) (fun _ _ h => h) ?_
    intro t9 h9 tk9 F9 N9
    (try dsimp only); (try k_fold)
    iterate 8 (first | (k_unfold; (try dsimp only)) | (k_end; wrow_close) | walk1 | (dsimp only; walk1) | (leave1; (try dsimp only)) | fail "no step")
    refine con_use1 (c_wlevel w o2 x2 st2 (1 + (i : Int)) _ (Mine.o1g i) (Mine.o1h hi7) hb2 hc2) (by k_asm) (by k_asm) (by k_asm) (by k_asm) (by k_asm) (by exact rfl) (hp2.mono (by ((intro pq hpq; repeat (first | exact hpq | exact List.mem_append_left _ hpq | refine List.Mem.tail _ ?_))))) (by (first | exact Mine.uni2 (by assumption) rfl | exact Mine.uni1 (by assumption) rfl | exact Mine.uniN rfl | ktr_room)) (by (first | exact Mine.uni2 (by assumption) rfl | exact Mine.uni1 (by assumption) rfl | exact Mine.uniN rfl | ktr_units)) (fun _ _ h => h) ?_
    intro t9 h9 tk9 F9 N9
    (try dsimp only); (try k_fold)
    iterate 4 (first | (k_unfold; (try dsimp only)) | (k_end; wrow_close) | walk1 | (dsimp only; walk1) | (leave1; (try dsimp only)) | fail "no step")
    · (rename levelW _ _ ≤ levelW _ _ => hq')
      have hq := decide_eq_true hq'
      iterate 19 (first | (k_unfold; (try dsimp only)) | (k_end; wrow_close) | walk1 | (dsimp only; walk1) | (leave1; (try dsimp only)) | fail "no step")
      refine con_use1 (c_wlevel w o x st (1 + (i : Int)) _ (Mine.o1g i) (Mine.o1h hi7) hb hc) (by k_asm) (by k_asm) (by k_asm) (by k_asm) (by k_asm) (by exact rfl) (hp1.mono (by ((intro pq hpq; repeat (first | exact hpq | exact List.mem_append_left _ hpq | refine List.Mem.tail _ ?_))))) (by (first | exact Mine.uni2 (by assumption) rfl | exact Mine.uni1 (by assumption) rfl | exact Mine.uniN rfl | ktr_room)) (by (first | exact Mine.uni2 (by assumption) rfl | exact Mine.uni1 (by assumption) rfl | exact Mine.uniN rfl | ktr_units)) (fun _ _ h => h) ?_
      intro t9 h9 tk9 F9 N9
      (try dsimp only); (try k_fold)
      iterate 9 (first | (k_unfold; (try dsimp only)) | (k_end; wrow_close) | walk1 | (dsimp only; walk1) | (leave1; (try dsimp only)) | fail "no step")
      refine con_use1 (c_wlevel w o2 x2 st2 (1 + (i : Int)) _ (Mine.o1g i) (Mine.o1h hi7) hb2 hc2) (by k_asm) (by k_asm) (by k_asm) (by k_asm) (by k_asm) (by exact rfl) (hp2.mono (by ((intro pq hpq; repeat (first | exact hpq | exact List.mem_append_left _ hpq | refine List.Mem.tail _ ?_))))) (by (first | exact Mine.uni2 (by assumption) rfl | exact Mine.uni1 (by assumption) rfl | exact Mine.uniN rfl | ktr_room)) (by (first | exact Mine.uni2 (by assumption) rfl | exact Mine.uni1 (by assumption) rfl | exact Mine.uniN rfl | ktr_units)) (fun _ _ h => h) ?_
      intro t9 h9 tk9 F9 N9
      (try dsimp only); (try k_fold)
      iterate 9 (first | (k_unfold; (try dsimp only)) | (k_end; wrow_close) | walk1 | (dsimp only; walk1) | (leave1; (try dsimp only)) | fail "no step")
      (rename News _ _ _ _ => kN9)
      (simp only [List.push_toArray] at kN9)
      (rename _ ∧ _ ∧ _ ∧ _ ∧ _ ∧ _ ∧ _ ∧ _ ∧ _ ∧ _ ∧ AllLt _ _ => lA)
      refine wit_end (by k_asm) kN9 ((Mine.allC (by rfl) ((Mine.allC (by rfl) ((Mine.allC (by rfl) (List.forall_mem_nil _))))))) offA offI (Nat.ne_of_gt lA.2.1) (Nat.ne_of_gt lA.1) ?_ ?_ hown
      · rw [wit_yes hq]; exact datAll_snoc (hdat.mono fun p hp => .tail _ hp) (.tuple (.head _) (.cons (.int _ _) (.cons (.int _ _) (.cons (.int _ _) .nil))))
      · exact (Mine.allC lA.2.2.1 ((Mine.allC lA.2.2.2.1 ((Mine.allC lA.2.2.2.2.1 ((Mine.allC lA.2.2.2.2.2.1 ((Mine.allC lA.2.2.2.2.2.2.1 ((Mine.allC lA.2.2.2.2.2.2.2.1 ((Mine.allC lA.2.2.2.2.2.2.2.2.1 ((Mine.allC lA.2.2.2.2.2.2.2.2.2.1 (allLt_out lA.2.2.2.2.2.2.2.2.2.2))))))))))))))))
    · (rename ¬ levelW _ _ ≤ levelW _ _ => hq')
      have hq := decide_eq_false hq'
      iterate 2 (first | (k_unfold; (try dsimp only)) | (k_end; wrow_close) | walk1 | (dsimp only; walk1) | (leave1; (try dsimp only)) | fail "no step")
      (rename News _ _ _ _ => kN9)
      refine RowsEnd.intro (by k_asm) kN9 _ (fun p hp => hp) ((Mine.allC (by rfl) ((Mine.allC (by rfl) ((Mine.allC (by rfl) (List.forall_mem_nil _))))))) offA offI ⟨tl, rfl, ?_, hown⟩
      rw [wit_no hq]
      exact hdat
  · rintro ys c T m₁ h tk ⟨tl, rfl, hdat, hown⟩ offA F1 N1
    (simp only [List.cons_append] at N1)
    iterate 4 (first | (k_unfold; (try dsimp only)) | (k_end; wrow_close) | walk1 | (dsimp only; walk1) | (leave1; (try dsimp only)) | fail "no step")
    (rename News h₀ L _ _ => kN9)
    rw [show ((if longW st2 > longW st then longW st2 else longW st) + 1 + 1 - 1).toNat = (topW st st2 + 1).toNat from by unfold topW; omega] at hdat
    refine hret _ ((_, _) :: tl) _ _ (by k_asm) (fun p hp => kN9 p (tell_perm hp)) (own_cons (fun p hp => offA p (.tail _ (.tail _ (.tail _ (.tail _ (.tail _ (.tail _ (.tail _ (.tail _ (List.mem_append_left _ hp)))))))))) (fun p hp b hb => hown p hp b (.tail _ (.tail _ (.tail _ (.tail _ (.tail _ (.tail _ (.tail _ (.tail _ hb)))))))))) ⟨_, ys, c, rfl, .head _, hdat.mono fun p hp => .tail _ hp⟩)
end

noncomputable def allLess (st st2 : Wst) (k : Nat) : Bool := (List.range k).all fun j : Nat => decide (¬ levelW st2 (2 + (j : Int)) ≤ levelW st (2 + (j : Int)))
theorem allLess_succ (st st2 : Wst) (k : Nat) : allLess st st2 (k + 1) = (allLess st st2 k && decide (¬ levelW st2 (2 + (k : Int)) ≤ levelW st (2 + (k : Int)))) := by
  unfold allLess
  rw [List.range_succ, List.all_append]
  simp
theorem allLess_no {st st2 : Wst} {k n : Nat} (hk : k < n) (h : levelW st2 (2 + (k : Int)) ≤ levelW st (2 + (k : Int))) : allLess st st2 n = false := by
  unfold allLess
  rw [List.all_eq_false]
  exact ⟨k, List.mem_range.mpr hk, by simp [h]⟩
noncomputable def lessW (st st2 : Wst) : Bool := if st2.n ≤ st.n then false else if st.cnt.length ≤ 1 ∧ st2.cnt.length ≤ 1 then decide (st.nt ≤ st2.nt) else allLess st st2 (topW st st2).toNat
section
theorem c_wless (w : World) (o o2 : Addr) (x x2 : PySem.Str) (st st2 : Wst) (hb : st.b ≤ 60) (hc : st.cnt.length ≤ 60) (hb2 : st2.b ≤ 60) (hc2 : st2.cnt.length ≤ 60) : Con w 66 [.ref o, .ref o2] 2 60 (fun news => WsHas w news o x st ∧ WsHas w news o2 x2 st2)
    (RetB (lessW st st2)) := by
  w_top off
  w_strict (
  unfold Con
  k_fill
  intro p loose mean mg mb dp un gd cn cs a ccd cl outer A₀ base h₀ L m news s Q E B F X N T hk hpre hd hu hret
  obtain ⟨hp1, hp2⟩ := hpre
  obtain ⟨d, D, T5, vs, k1, k2, k3, k4, k5, tx, tn, tt, tb, hints, N⟩ := ws_front N hp1
  obtain ⟨d', D', T5', vs', k1', k2', k3', k4', k5', tx', tn', tt', tb', hints', N⟩ := ws_front N (hp2.mono fun p hp => .tail _ (.tail _ (.tail _ (.tail _ hp))))
  have htop := topW_le hb hc hb2 hc2
  unfold topW at htop
  refine wpAny_call ?_
  k_dflt cell_enter
  iterate 12 (first | (k_unfold; (try dsimp only)) | (k_end; wrow_close) | walk1 | (dsimp only; walk1) | (leave1; (try dsimp only)) | fail "no step")
  (first | (k_unfold; (try dsimp only)) | (k_end; wrow_close) | walk1 | (dsimp only; walk1) | (leave1; (try dsimp only)) | fail "no step")
  · iterate 5 (first | (k_unfold; (try dsimp only)) | (k_end; wrow_close) | walk1 | (dsimp only; walk1) | (leave1; (try dsimp only)) | fail "no step")
    exact hret _ [] _ _ (by k_asm) (by (first | k_asm | (refine' cb_drop ?cbN ?cbS; (case cbN => assumption); (case cbS => (intro pq hpq; repeat (first | exact hpq | refine List.Mem.tail _ ?_)))))) (fun _ h => nomatch h) (RetB.mk (by unfold lessW; rw [if_pos (by omega)]))
  · have hn : ¬ st2.n ≤ st.n := by omega
    (repeat ((fail_if_success (with_reducible show wpAny _ _ (isTrue (PySem.Expr.BoolOp _ _ _) _ _) _ _ _)); (first | (k_unfold; (try dsimp only)) | (k_end; wrow_close) | walk1 | (dsimp only; walk1) | (leave1; (try dsimp only)) | fail "no step")))
    refine Mine.joinB (decide (st.cnt.length ≤ 1 ∧ st2.cnt.length ≤ 1)) ?_ ?_
    · intro K9 hK9
      iterate 6 (first | (k_unfold; (try dsimp only)) | (k_end; wrow_close) | walk1 | (dsimp only; walk1) | (leave1; (try dsimp only)) | fail "no step")
      (first | (k_unfold; (try dsimp only)) | (k_end; wrow_close) | walk1 | (dsimp only; walk1) | (leave1; (try dsimp only)) | fail "no step")
      · iterate 6 (first | (k_unfold; (try dsimp only)) | (k_end; wrow_close) | walk1 | (dsimp only; walk1) | (leave1; (try dsimp only)) | fail "no step")
        (first | (k_unfold; (try dsimp only)) | (k_end; wrow_close) | walk1 | (dsimp only; walk1) | (leave1; (try dsimp only)) | fail "no step")
        · iterate 1 (first | (k_unfold; (try dsimp only)) | (k_end; wrow_close) | walk1 | (dsimp only; walk1) | (leave1; (try dsimp only)) | fail "no step")
          rw [decide_eq_true (by omega)] at hK9
          exact hK9 _
        · rw [decide_eq_false (by omega)] at hK9
          exact hK9 _
      · rw [decide_eq_false (by omega)] at hK9
        exact hK9 _
    intro tk9
    (try dsimp only)
    (first | (k_unfold; (try dsimp only)) | (k_end; wrow_close) | walk1 | (dsimp only; walk1) | (leave1; (try dsimp only)) | fail "no step")
    · iterate 11 (first | (k_unfold; (try dsimp only)) | (k_end; wrow_close) | walk1 | (dsimp only; walk1) | (leave1; (try dsimp only)) | fail "no step")
      exact hret _ [] _ _ (by k_asm) (by (first | k_asm | (refine' cb_drop ?cbN ?cbS; (case cbN => assumption); (case cbS => (intro pq hpq; repeat (first | exact hpq | refine List.Mem.tail _ ?_)))))) (fun _ h => nomatch h) (RetB.mk (by unfold lessW; rw [if_neg hn, if_pos ⟨by omega, by omega⟩]; exact decide_eq_decide.mpr (by omega)))
    · have hns : ¬ (st.cnt.length ≤ 1 ∧ st2.cnt.length ≤ 1) := by omega
      (repeat ((fail_if_success (with_reducible show wpAny _ _ (call (Prod.fst _) _ _) _ _ _)); (first | (k_unfold; (try dsimp only)) | (k_end; wrow_close) | walk1 | (dsimp only; walk1) | (leave1; (try dsimp only)) | fail "no step")))
      refine con_use1 (c_wlong w o x st hb hc) (by k_asm) (by k_asm) (by k_asm) (by k_asm) (by k_asm) (by exact rfl) (hp1.mono (by ((intro pq hpq; repeat (first | exact hpq | exact List.mem_append_left _ hpq | refine List.Mem.tail _ ?_))))) (by (first | exact Mine.uni2 (by assumption) rfl | exact Mine.uni1 (by assumption) rfl | exact Mine.uniN rfl | ktr_room)) (by (first | exact Mine.uni2 (by assumption) rfl | exact Mine.uni1 (by assumption) rfl | exact Mine.uniN rfl | ktr_units)) (fun _ _ h => h) ?_
      intro t9 h9 tk9 F9 N9
      (try dsimp only); (try k_fold)
      (repeat ((fail_if_success (with_reducible show wpAny _ _ (call (Prod.fst _) _ _) _ _ _)); (first | (k_unfold; (try dsimp only)) | (k_end; wrow_close) | walk1 | (dsimp only; walk1) | (leave1; (try dsimp only)) | fail "no step")))
      refine con_use1 (c_wlong w o2 x2 st2 hb2 hc2) (by k_asm) (by k_asm) (by k_asm) (by k_asm) (by k_asm) (by exact rfl) (hp2.mono (by ((intro pq hpq; repeat (first | exact hpq | exact List.mem_append_left _ hpq | refine List.Mem.tail _ ?_))))) (by (first | exact Mine.uni2 (by assumption) rfl | exact Mine.uni1 (by assumption) rfl | exact Mine.uniN rfl | ktr_room)) (by (first | exact Mine.uni2 (by assumption) rfl | exact Mine.uni1 (by assumption) rfl | exact Mine.uniN rfl | ktr_units)) (fun _ _ h => h) ?_
      intro t9 h9 tk9 F9 N9
      (try dsimp only); (try k_fold)
      (repeat ((fail_if_success (with_reducible show wpAny _ _ (exec (PySem.Stmt.For _ _ _ _ _) _) _ _ _)); (first | (k_unfold; (try dsimp only)) | (k_end; wrow_close) | walk1 | (dsimp only; walk1) | (leave1; (try dsimp only)) | fail "no step")))
      refine wpAny_For ?_
      (repeat ((fail_if_success (with_reducible show wpAny _ _ (pyIter _) _ _ _)); (first | (k_unfold; (try dsimp only)) | (k_end; wrow_close) | walk1 | (dsimp only; walk1) | (leave1; (try dsimp only)) | fail "no step")))
      refine Mine.for_range (fun I i m₁ nw => nw = (o2, instObj 76 d') :: (d', wsDict w x2 st2 k1' k2' k3' k4' k5' tx' tn' tt' D') :: (D', ({ cls := .type "tuple", data := .seq #[.ref T5', .int (st2.b : Int) tb'] } : Obj)) :: (T5', ({ cls := .type "tuple", data := .seq vs'.toArray } : Obj)) :: (o, instObj 76 d) :: (d, wsDict w x st k1 k2 k3 k4 k5 tx tn tt D) :: (D, ({ cls := .type "tuple", data := .seq #[.ref T5, .int (st.b : Int) tb] } : Obj)) :: (T5, ({ cls := .type "tuple", data := .seq vs.toArray } : Obj)) :: news ∧ allLess st st2 i = true ∧ ∀ p ∈ [(PySem.Str.ofString "self", Value.ref o), (PySem.Str.ofString "other", Value.ref o2)], m₁ p.1 = some p.2) (by rfl) (by with_reducible assumption) (by omega) (by omega) (by k_asm) (by k_asm) ?_ ?_ ?_
      · exact fun I _ => ⟨rfl, rfl, (Mine.allC (by rfl) ((Mine.allC (by rfl) (List.forall_mem_nil _))))⟩
      · rintro I i tv oI m₁ nw h tk hi ⟨rfl, hall, hnm⟩ hofI F1 N1
        (try dsimp only)
        rw [withNames_eq hnm] at F1
        refine wpAny_assign_Name ?_
        iterate 13 (first | (k_unfold; (try dsimp only)) | (k_end; wrow_close) | walk1 | (dsimp only; walk1) | (leave1; (try dsimp only)) | fail "no step")
        refine con_use1 (c_wlevel w o x st (2 + (i : Int)) _ (by omega) (by omega) hb hc) (by k_asm) (by k_asm) (by k_asm) (by k_asm) (by k_asm) (by exact rfl) (hp1.mono (by ((intro pq hpq; repeat (first | exact hpq | exact List.mem_append_left _ hpq | refine List.Mem.tail _ ?_))))) (by (first | exact Mine.uni2 (by assumption) rfl | exact Mine.uni1 (by assumption) rfl | exact Mine.uniN rfl | ktr_room)) (by (first | exact Mine.uni2 (by assumption) rfl | exact Mine.uni1 (by assumption) rfl | exact Mine.uniN rfl | ktr_units)) (fun _ _ h => h) ?_
        intro t9 h9 tk9 F9 N9
        (try dsimp only); (try k_fold)
        iterate 8 (first | (k_unfold; (try dsimp only)) | (k_end; wrow_close) | walk1 | (dsimp only; walk1) | (leave1; (try dsimp only)) | fail "no step")
        refine con_use1 (c_wlevel w o2 x2 st2 (2 + (i : Int)) _ (by omega) (by omega) hb2 hc2) (by k_asm) (by k_asm) (by k_asm) (by k_asm) (by k_asm) (by exact rfl) (hp2.mono (by ((intro pq hpq; repeat (first | exact hpq | exact List.mem_append_left _ hpq | refine List.Mem.tail _ ?_))))) (by (first | exact Mine.uni2 (by assumption) rfl | exact Mine.uni1 (by assumption) rfl | exact Mine.uniN rfl | ktr_room)) (by (first | exact Mine.uni2 (by assumption) rfl | exact Mine.uni1 (by assumption) rfl | exact Mine.uniN rfl | ktr_units)) (fun _ _ h => h) ?_
        intro t9 h9 tk9 F9 N9
        (try dsimp only); (try k_fold)
        iterate 4 (first | (k_unfold; (try dsimp only)) | (k_end; wrow_close) | walk1 | (dsimp only; walk1) | (leave1; (try dsimp only)) | fail "no step")
        · (rename levelW _ _ ≤ levelW _ _ => hq')
          iterate 3 (first | (k_unfold; (try dsimp only)) | (k_end; wrow_close) | walk1 | (dsimp only; walk1) | (leave1; (try dsimp only)) | fail "no step")
          unfold LoopEnd
          iterate 1 (first | (k_unfold; (try dsimp only)) | (k_end; wrow_close) | walk1 | (dsimp only; walk1) | (leave1; (try dsimp only)) | fail "no step")
          exact hret _ [] _ _ (by k_asm) (by (first | k_asm | (refine' cb_drop ?cbN ?cbS; (case cbN => assumption); (case cbS => (intro pq hpq; repeat (first | exact hpq | refine List.Mem.tail _ ?_)))))) (fun _ h => nomatch h) (RetB.mk (by unfold lessW; rw [if_neg hn, if_neg hns, allLess_no (k := i) (by unfold topW; omega) hq']))
        · (rename ¬ levelW _ _ ≤ levelW _ _ => hq')
          iterate 2 (first | (k_unfold; (try dsimp only)) | (k_end; wrow_close) | walk1 | (dsimp only; walk1) | (leave1; (try dsimp only)) | fail "no step")
          (rename News _ _ _ _ => kN9)
          exact LoopEnd.intro (by k_asm) kN9 _ (fun p hp => hp) hofI ⟨rfl, by rw [allLess_succ, hall, decide_eq_true hq']; rfl, (Mine.allC (by rfl) ((Mine.allC (by rfl) (List.forall_mem_nil _))))⟩
      · rintro I m₁ nw h tk ⟨rfl, hall, hnm⟩ F1 N1
        (try dsimp only)
        iterate 4 (first | (k_unfold; (try dsimp only)) | (k_end; wrow_close) | walk1 | (dsimp only; walk1) | (leave1; (try dsimp only)) | fail "no step")
        exact hret _ [] _ _ (by k_asm) (by (first | k_asm | (refine' cb_drop ?cbN ?cbS; (case cbN => assumption); (case cbS => (intro pq hpq; repeat (first | exact hpq | refine List.Mem.tail _ ?_)))))) (fun _ h => nomatch h) (RetB.mk (by unfold lessW; rw [if_neg hn, if_neg hns, show (topW st st2).toNat = ((if longW st2 > longW st then longW st2 else longW st) + 1 + 1 - 2).toNat from by unfold topW; omega, hall]))
  )
end

/-- the signs that a law's run takes -/
noncomputable def ord9 : List Nat := [32, 9, 10, 13, 38, 62, 60, 34, 97]
noncomputable def sg3 (T : Int) (i : Nat) : Nat := ord9.getD ((T + (i : Int) * ((T.fdiv 9).fmod 4 + 1)).fmod 9).toNat 0
theorem item9 : ∀ k : Fin 9, Txt.item (PySem.Str.ofString " \t\n\r&><\"a") ((k.1 : Nat) : Int) = ⟨#[ord9.getD k.1 0]⟩ := by decide +kernel
theorem item_sg {T : Int} {i : Nat} : Txt.item (PySem.Str.ofString " \t\n\r&><\"a") ((T + (0 + (i : Int)) * ((T.fdiv 9).fmod 4 + 1)).fmod 9) = ⟨#[sg3 T i]⟩ := by
  unfold sg3
  rw [Int.zero_add]
  have h0 := Int.fmod_nonneg_of_pos (T + (i : Int) * ((T.fdiv 9).fmod 4 + 1)) (b := 9) (by decide)
  have h1 := Int.fmod_lt_of_pos (T + (i : Int) * ((T.fdiv 9).fmod 4 + 1)) (b := 9) (by decide)
  obtain ⟨k, hk⟩ : ∃ k : Nat, (T + (i : Int) * ((T.fdiv 9).fmod 4 + 1)).fmod 9 = (k : Int) := ⟨_, (Int.toNat_of_nonneg h0).symm⟩
  rw [hk]
  exact item9 ⟨k, by omega⟩
theorem sig9 : ∀ k : Fin 9, ord9.getD k.1 0 ∈ orderL true := by decide +kernel
theorem sg3_sig (T : Int) (i : Nat) : sg3 T i ∈ orderL true := by
  have h0 := Int.fmod_nonneg_of_pos (T + (i : Int) * ((T.fdiv 9).fmod 4 + 1)) (b := 9) (by decide)
  have h1 := Int.fmod_lt_of_pos (T + (i : Int) * ((T.fdiv 9).fmod 4 + 1)) (b := 9) (by decide)
  exact sig9 ⟨((T + (i : Int) * ((T.fdiv 9).fmod 4 + 1)).fmod 9).toNat, by omega⟩

theorem kc_nine {C : Prop} {cm : PySem.Str → Option Value} {n₁ n₂ n₃ n₄ n₅ n₆ n₇ n₈ n₉ : PySem.Str} {c₁ c₂ c₃ c₄ c₅ c₆ c₇ c₈ c₉ : Addr} {cells : List (Addr × Obj)} (x : CellsAre cm [(n₁, c₁), (n₂, c₂), (n₃, c₃), (n₄, c₄), (n₅, c₅), (n₆, c₆), (n₇, c₇), (n₈, c₈), (n₉, c₉)] cells)
    (k : ∀ o₁ o₂ o₃ o₄ o₅ o₆ o₇ o₈ o₉, cells = [(c₁, o₁), (c₂, o₂), (c₃, o₃), (c₄, o₄), (c₅, o₅), (c₆, o₆), (c₇, o₇), (c₈, o₈), (c₉, o₉)] → o₁.data = .cell (cm n₁) → o₂.data = .cell (cm n₂) → o₃.data = .cell (cm n₃) → o₄.data = .cell (cm n₄) → o₅.data = .cell (cm n₅) → o₆.data = .cell (cm n₆) → o₇.data = .cell (cm n₇) → o₈.data = .cell (cm n₈) → o₉.data = .cell (cm n₉) → C) : C := by
  cases x with | cons h r => obtain ⟨o₂, o₃, o₄, o₅, o₆, o₇, o₈, o₉, rfl, h₂, h₃, h₄, h₅, h₆, h₇, h₈, h₉⟩ := kc_eight r; exact k _ o₂ o₃ o₄ o₅ o₆ o₇ o₈ o₉ rfl h h₂ h₃ h₄ h₅ h₆ h₇ h₈ h₉
/-- a slice of a list that no name holds -/
theorem slice_tmp {prog : Program} {w : World} {A : Around} {E : Value → Shared → Prop} {s : Shared} {h₀ : Heap} {L l : Addr} {m : PySem.Str → Option Value} {news : List (Addr × Obj)} {value slice : PySem.Expr} {its : Array Value} {vl vu : Value} {lo hi : Option Int} {Q : Value → Shared → Prop}
    (F : Fr h₀ L s.heap m) (N : News h₀ L s.heap news) (hl : s.heap.IsList l its) (pl : IsPart vl lo) (pu : IsPart vu hi)
    (h : ∀ D h', Fr h₀ L h' m → News h₀ L h' ((D, listOf (slicePick its lo hi none) 0) :: news) → (∀ p ∈ news, p.1 < D) → Q (.ref D) { s with heap := h' })
    (hs : subscripted slice false (.ref l) (.ref s.heap.objs.size) = operate [.ref s.heap.objs.size, .ref l] (getItem (.ref l) (.ref s.heap.objs.size)) := by with_unfolding_all rfl) (hsz : its.size ≤ sizeLine) :
    wpAny (model prog w) A (subscriptTail value slice (.ref l) (.ref s.heap.objs.size)) Q E { s with heap := s.heap.push { cls := .type "slice", data := .fields #[vl, vu, .none] } } := by
  refine tail_any (Heap.IsList.typeIs (s := { s with heap := s.heap.push { cls := .type "slice", data := .fields #[vl, vu, .none] } }) (hl.push _)) slot_list_getitem.lookup
    (wpAny_getItem_list_slice (hl.push _) (Heap.IsSliceOf.new ..) pl pu .none (by simp) ?_ hsz) hs
  have N1 := News.push (F.push { cls := .type "slice", data := .fields #[vl, vu, .none] }) (N.grown fun _ _ e => Heap.get?_push_of_some _ e) { cls := .type "list", data := .seq (slicePick its lo hi none) }
  rw [Heap.size_push] at N1
  show Q (.ref (s.heap.push _).objs.size) _
  rw [Heap.size_push]
  exact h _ _ ((F.push _).push _) N1 fun p hp => Nat.lt_succ_of_lt (Heap.lt_size (N p hp).1)
theorem slice_tmp_ints {prog : Program} {w : World} {A : Around} {E : Value → Shared → Prop} {s : Shared} {h₀ : Heap} {L l : Addr} {m : PySem.Str → Option Value} {news : List (Addr × Obj)} {value slice : PySem.Expr} {vs : List Value} {ns : List Int} {x : Int} {ux : Tok} {Q : Value → Shared → Prop}
    (F : Fr h₀ L s.heap m) (N : News h₀ L s.heap news) (hl : s.heap.IsList l vs.toArray) (hi : IntsAre vs ns) (h0 : 0 ≤ x)
    (h : ∀ D ws h', Fr h₀ L h' m → News h₀ L h' ((D, listOf (List.toArray ws) 0) :: news) → (∀ p ∈ news, p.1 < D) → IntsAre ws (ns.drop x.toNat) → Q (.ref D) { s with heap := h' })
    (hs : subscripted slice false (.ref l) (.ref s.heap.objs.size) = operate [.ref s.heap.objs.size, .ref l] (getItem (.ref l) (.ref s.heap.objs.size)) := by with_unfolding_all rfl) (hsz : ns.length ≤ 100) :
    wpAny (model prog w) A (subscriptTail value slice (.ref l) (.ref s.heap.objs.size)) Q E { s with heap := s.heap.push { cls := .type "slice", data := .fields #[.int x ux, .none, .none] } } :=
  slice_tmp F N hl (.int _ _) .none (fun D h' F' N' l' => h D (slicePick vs.toArray (some x) none none).toList h' F' N' l' (kmk_from hi h0)) hs (by rw [List.size_toArray, hi.length, PySem.sizeLine_eq]; omega)
theorem sum_any {prog : Program} {w : World} {A : Around} {E : Value → Shared → Prop} {s : Shared} {h₀ : Heap} {L D : Addr} {m : PySem.Str → Option Value} {news : List (Addr × Obj)} {vs : List Value} {ns : List Int} {Q : Value → Shared → Prop} (hh : A.handled = none) (F : Fr h₀ L s.heap m) (N : News h₀ L s.heap news)
    (hl : s.heap.IsList D vs.toArray) (hi : IntsAre vs ns) (h : ∀ T h' tk t', Fr h₀ L h' m → News h₀ L h' news → Q (.int T t') { s with heap := h', toks := tk }) : wpAny (model prog w) A (call (.builtin "sum") [.ref D]) Q E s :=
  sumK hh F N hl hi fun h' tk t' => h _ h' tk t'
theorem cells_abs {vs : List Value} {script : List Int} {f : Int → Int} (h : IntsAre vs ((script.take 10).map f ++ List.drop (script.length : Int).toNat [3, 6, 7, 9, 0, 12, 4, 1, 10, 5])) : ∃ C : List Int, C.length = 10 ∧ IntsAre vs C :=
  ⟨_, by rw [List.length_append, List.length_map, List.length_take, List.length_drop, Int.toNat_natCast]; simp only [List.length_cons, List.length_nil]; omega, h⟩
theorem prune5 {h₀ h : Heap} {L : Addr} {a b c d e : Addr × Obj} {T : List (Addr × Obj)} (N : News h₀ L h (a :: b :: c :: d :: e :: T)) : News h₀ L h (a :: T) := fun p hp => N p (by
  rcases List.mem_cons.mp hp with rfl | hp
  · exact .head _
  · exact .tail _ (.tail _ (.tail _ (.tail _ (.tail _ hp)))))
theorem prune1 {h₀ h : Heap} {L : Addr} {a : Addr × Obj} {T : List (Addr × Obj)} (N : News h₀ L h (a :: T)) : News h₀ L h T := fun p hp => N p (.tail _ hp)
theorem prune2 {h₀ h : Heap} {L : Addr} {a b : Addr × Obj} {T : List (Addr × Obj)} (N : News h₀ L h (a :: b :: T)) : News h₀ L h (a :: T) := fun p hp => N p (by
  rcases List.mem_cons.mp hp with rfl | hp
  · exact .head _
  · exact .tail _ (.tail _ hp))
theorem ints_at {vs : List Value} {ns : List Int} {i : Nat} {v : Value} (h : IntsAre vs ns) (e : vs.toArray[i]? = some v) : ∃ c t, ns[i]? = some c ∧ v = .int c t := by
  obtain ⟨z, t, e1, e2⟩ := PyProof.Rows.IntsAre.at h i v (by simpa using e)
  exact ⟨z, t, e2, e1⟩
theorem mod3 (c : Int) : 0 ≤ c.fmod 3 ∧ c.fmod 3 < 3 := ⟨Int.fmod_nonneg_of_pos c (by decide), Int.fmod_lt_of_pos c (by decide)⟩
theorem word_strs {zs : List Value} {T : Int} {l : List Int} (hl : zs.length = l.length) (hr : ∀ (i : Nat) (y : Value), zs[i]? = some y → ∃ c, l[i]? = some c ∧ ∃ t, y = Value.str ⟨#[sg3 T (c.fmod 3).toNat]⟩ t) : StrsAre zs ((l.map fun c => sg3 T (c.fmod 3).toNat).map fun c => (⟨#[c]⟩ : PySem.Str)) := by
  refine Mine.strsAre_of (by rw [List.length_map, List.length_map, hl]) fun i y e => ?_
  obtain ⟨c, hc, t, rfl⟩ := hr i y e
  exact ⟨t, by rw [List.getElem?_map, List.getElem?_map, hc]; rfl⟩
theorem join_word {w : World} {A : Around} {E : Value → Shared → Prop} {s : Shared} {D : Addr} {ys : List Value} {l : List Nat} {t : Tok} {Q : Value → Shared → Prop} (hl : s.heap.IsList D ys.toArray) (hi : StrsAre ys (l.map fun c => (⟨#[c]⟩ : PySem.Str))) (hok : l.length ≤ 1000)
    (h : ∀ x t' k, x.cps.toList = l → Q (.str x t') { s with toks := k }) : wpAny (model PySem.Challenge.rw_rs0197_01.row.prog w) A (call (.builtin "str.join") [.str (PySem.Str.ofString "") t, .ref D]) Q E s := by
  have e1 : ((l.map fun c => (⟨#[c]⟩ : PySem.Str)).map (·.length)).sum = l.length := by
    clear hi hok h
    induction l with
    | nil => rfl
    | cons c r ih =>
      rw [List.map_cons, List.map_cons, List.sum_cons, ih, List.length_cons]
      show 1 + r.length = r.length + 1
      omega
  refine join_text hl hi (by rw [e1]; omega) fun t' k => h _ t' k ?_
  rw [show PySem.Str.ofString "" = ⟨#[]⟩ from by decide +kernel, join_flat, List.flatMap_map]
  show l.flatMap (fun c => [c]) = l
  simp

theorem word_len {x : PySem.Str} {l : List Nat} {n : Nat} (h : x.cps.toList = l) (hn : l.length = n) : x.length = n := by
  rw [← hn, ← h, Array.length_toList]; rfl
theorem len_ge {x : PySem.Str} {n lo : Nat} (h : x.length = n) (h' : lo ≤ n) : lo ≤ x.length := by omega
theorem len_le {x : PySem.Str} {n hi : Nat} (h : x.length = n) (h' : n ≤ hi) : x.length ≤ hi := by omega
theorem three_at {x y z : PySem.Str} {t u r : Tok} {i : Nat} {v : Value} (h : #[Value.str x t, Value.str y u, Value.str z r][i]? = some v) : ∃ t', v = .str ([x, y, z].getD i ⟨#[]⟩) t' := by
  rcases i with _ | _ | _ | i
  · cases h; exact ⟨_, rfl⟩
  · cases h; exact ⟨_, rfl⟩
  · cases h; exact ⟨_, rfl⟩
  · simp at h
theorem three_le {x y z : PySem.Str} {n : Nat} (hx : x.length ≤ n) (hy : y.length ≤ n) (hz : z.length ≤ n) (i : Nat) : ([x, y, z].getD i ⟨#[]⟩).length ≤ n := by
  rcases i with _ | _ | _ | i
  · exact hx
  · exact hy
  · exact hz
  · exact Nat.zero_le _
theorem word_sig {x : PySem.Str} {l : List Int} {T : Int} (h : x.cps.toList = l.map fun c => sg3 T (c.fmod 3).toNat) : ∀ c ∈ x.cps.toList, c ∈ orderL true := by
  rw [h]
  intro c hc
  obtain ⟨k, _, rfl⟩ := List.mem_map.mp hc
  exact sg3_sig T _
theorem rev_sig {x : PySem.Str} {u : Tok} (h : ∀ c ∈ x.cps.toList, c ∈ orderL true) : ∀ c ∈ (Txt.sliceBy x none none (-1, u)).cps.toList, c ∈ orderL true := by
  rw [step_rev_list]
  intro c hc
  obtain ⟨k, hk, rfl⟩ := List.mem_map.mp hc
  have hk' := List.mem_range.mp hk
  have hb : x.length - 1 - k < x.cps.size := by
    have : x.length = x.cps.size := rfl
    omega
  refine h _ ?_
  rw [Array.getD_eq_getD_getElem?, Array.getElem?_eq_getElem hb]
  exact Array.mem_toList_iff.mpr (Array.getElem_mem hb)
theorem three_sig {x y z : PySem.Str} (hx : ∀ c ∈ x.cps.toList, c ∈ orderL true) (hy : ∀ c ∈ y.cps.toList, c ∈ orderL true) (hz : ∀ c ∈ z.cps.toList, c ∈ orderL true) (i : Nat) : ∀ c ∈ ([x, y, z].getD i ⟨#[]⟩).cps.toList, c ∈ orderL true := by
  rcases i with _ | _ | _ | i
  · exact hx
  · exact hy
  · exact hz
  · intro c hc; cases hc
theorem three_ge {x y z : PySem.Str} {n i : Nat} (hx : n ≤ x.length) (hy : n ≤ y.length) (hz : n ≤ z.length) (hi : i < 3) : n ≤ ([x, y, z].getD i ⟨#[]⟩).length := by
  rcases i with _ | _ | _ | i
  · exact hx
  · exact hy
  · exact hz
  · omega
noncomputable def DueAt (b : Bool) (tx : List PySem.Str) (i : Nat) (y : Value) (T : List (Addr × Obj)) : Prop := ∃ a vs c, y = .ref a ∧ (a, listOf vs.toArray c) ∈ T ∧ RowsAt T vs (dueRows b (tx.getD i ⟨#[]⟩))
theorem DueAt.mono {b : Bool} {tx : List PySem.Str} {i : Nat} {y : Value} {T T' : List (Addr × Obj)} (h : DueAt b tx i y T) (s : ∀ p ∈ T, p ∈ T') : DueAt b tx i y T' :=
  let ⟨a, vs, c, e, m, r⟩ := h; ⟨a, vs, c, e, s _ m, r.mono s⟩
theorem front11 {h₀ h : Heap} {L : Addr} {a b c d e f g i j k l P : Addr × Obj} {T : List (Addr × Obj)} (N : News h₀ L h (a :: b :: c :: d :: e :: f :: g :: i :: j :: k :: l :: P :: T)) : News h₀ L h (P :: a :: b :: c :: d :: e :: f :: g :: i :: j :: k :: l :: T) := News.sel N [11, 0, 1, 2, 3, 4, 5, 6, 7, 8, 9, 10] 12
theorem front3 {h₀ h : Heap} {L : Addr} {a b c P : Addr × Obj} {T : List (Addr × Obj)} (N : News h₀ L h (a :: b :: c :: P :: T)) : News h₀ L h (P :: a :: b :: c :: T) := News.sel N [3, 0, 1, 2] 4
noncomputable def KeptAt (b : Bool) (tx : List PySem.Str) (i : Nat) (y : Value) (T : List (Addr × Obj)) : Prop := ∃ a vs c, y = .ref a ∧ (a, listOf vs.toArray c) ∈ T ∧ RowsAt T vs (keptRows b (tx.getD i ⟨#[]⟩) (tx.getD i ⟨#[]⟩).length)
theorem KeptAt.mono {b : Bool} {tx : List PySem.Str} {i : Nat} {y : Value} {T T' : List (Addr × Obj)} (h : KeptAt b tx i y T) (s : ∀ p ∈ T, p ∈ T') : KeptAt b tx i y T' :=
  let ⟨a, vs, c, e, m, r⟩ := h; ⟨a, vs, c, e, s _ m, r.mono s⟩

/-- a row as data -/
noncomputable def rowDat (p : PySem.Str × Int) : Dat := .tuple [.str p.1, .int p.2]
theorem datAll_of {T : List (Addr × Obj)} : ∀ {vs : List Value} {ds : List Dat}, vs.length = ds.length → (∀ (j : Nat) (v : Value), vs[j]? = some v → ∃ d, ds[j]? = some d ∧ DatIn T v d) → DatAll T vs ds
  | [], [], _, _ => .nil
  | [], _ :: _, h, _ => by cases h
  | _ :: _, [], h, _ => by cases h
  | v :: vs, d :: ds, hl, h => by
    obtain ⟨d', e, hd⟩ := h 0 v rfl
    cases e
    exact .cons hd (datAll_of (Nat.succ.inj hl) fun j w e => by simpa using h (j + 1) w (by simpa using e))
theorem RowsAt.dat {T : List (Addr × Obj)} {vs : List Value} {rows : List (PySem.Str × Int)} (h : RowsAt T vs rows) : DatAll T vs (rows.map rowDat) := by
  refine datAll_of (by rw [List.length_map, h.1]) fun j v e => ?_
  have hj : j < rows.length := by
    rw [← h.1]
    rcases Nat.lt_or_ge j vs.length with q | q
    · exact q
    · rw [List.getElem?_eq_none q] at e; cases e
  obtain ⟨a, t, u, n, e1, hm⟩ := h.2 j rows[j] (List.getElem?_eq_getElem hj)
  rw [e] at e1
  cases e1
  exact ⟨rowDat rows[j], by rw [List.getElem?_map, List.getElem?_eq_getElem hj]; rfl, .tuple hm (.cons (.str _ _) (.cons (.int _ _) .nil))⟩
/-- a list of rows as data -/
noncomputable def rowsDat (rows : List (PySem.Str × Int)) : Dat := .list (rows.map rowDat)
theorem kept_dat {b : Bool} {tx : List PySem.Str} {ys : List Value} {T : List (Addr × Obj)} (hl : ys.length = tx.length) (h : ∀ (i : Nat) (y : Value), ys[i]? = some y → KeptAt b tx i y T) : DatAll T ys (tx.map fun x => rowsDat (keptRows b x x.length)) := by
  refine datAll_of (by rw [List.length_map, hl]) fun j v e => ?_
  have hj : j < tx.length := by
    rw [← hl]
    rcases Nat.lt_or_ge j ys.length with q | q
    · exact q
    · rw [List.getElem?_eq_none q] at e; cases e
  obtain ⟨a, vs, c, rfl, hm, hr⟩ := h j v e
  rw [List.getD_eq_getElem?_getD, List.getElem?_eq_getElem hj] at hr
  exact ⟨_, by rw [List.getElem?_map, List.getElem?_eq_getElem hj]; rfl, .list hm hr.dat⟩
theorem due_dat {b : Bool} {tx : List PySem.Str} {ys : List Value} {T : List (Addr × Obj)} (hl : ys.length = tx.length) (h : ∀ (i : Nat) (y : Value), ys[i]? = some y → DueAt b tx i y T) : DatAll T ys (tx.map fun x => rowsDat (dueRows b x)) := by
  refine datAll_of (by rw [List.length_map, hl]) fun j v e => ?_
  have hj : j < tx.length := by
    rw [← hl]
    rcases Nat.lt_or_ge j ys.length with q | q
    · exact q
    · rw [List.getElem?_eq_none q] at e; cases e
  obtain ⟨a, vs, c, rfl, hm, hr⟩ := h j v e
  rw [List.getD_eq_getElem?_getD, List.getElem?_eq_getElem hj] at hr
  exact ⟨_, by rw [List.getElem?_map, List.getElem?_eq_getElem hj]; rfl, .list hm hr.dat⟩

theorem esc_ok : ∀ c ∈ orderL true, ∀ b : Bool, ∀ k ∈ escS b c, k < 1114112 := by decide +kernel
theorem wr_ok {b : Bool} {x : PySem.Str} (h : ∀ c ∈ x.cps.toList, c ∈ orderL true) : PyData.strOk (wr b x) = true := by
  unfold PyData.strOk
  rw [← Array.all_toList, List.all_eq_true]
  intro k hk
  rw [wr_flat] at hk
  obtain ⟨c, hc, hk⟩ := List.mem_flatMap.mp hk
  exact decide_eq_true (esc_ok c (h c hc) b k hk)
theorem wr_ok_slice {b : Bool} {x : PySem.Str} {lo hi : Option Int} (h : ∀ c ∈ x.cps.toList, c ∈ orderL true) : PyData.strOk (wr b (Txt.slice x lo hi)) = true := wr_ok fun c hc => h c (slice_mem hc)
theorem rows_ok {rows : List (PySem.Str × Int)} (h : ∀ p ∈ rows, PyData.strOk p.1 = true) : kqdOk 8 (rowsDat rows) = true := by
  show ((rows.map rowDat).all (kqdOk 7)) = true
  rw [List.all_map, List.all_eq_true]
  intro p hp
  show ([Dat.str p.1, Dat.int p.2].all (kqdOk 6)) = true
  simp only [List.all_cons, List.all_nil, Bool.and_true]
  rw [show kqdOk 6 (Dat.str p.1) = PyData.strOk p.1 from rfl, h p hp]
  rfl
theorem rowsIns_mem {rows : List (PySem.Str × Int)} {p q : PySem.Str × Int} (h : q ∈ rowsIns rows p) : q = p ∨ q ∈ rows := by
  unfold rowsIns at h
  rcases List.mem_append.mp h with h | h
  · exact .inr (List.mem_of_mem_take h)
  rcases List.mem_cons.mp h with rfl | h
  · exact .inl rfl
  · exact .inr (List.mem_of_mem_drop h)
theorem kept_ok {b : Bool} {x : PySem.Str} (h : ∀ c ∈ x.cps.toList, c ∈ orderL true) : ∀ k, ∀ p ∈ keptRows b x k, PyData.strOk p.1 = true
  | 0, _, hp => nomatch hp
  | k + 1, p, hp => by
    rcases rowsIns_mem hp with rfl | hp
    · exact wr_ok_slice h
    · exact kept_ok h k p hp
theorem due_ok {b : Bool} {x : PySem.Str} (h : ∀ c ∈ x.cps.toList, c ∈ orderL true) : ∀ p ∈ dueRows b x, PyData.strOk p.1 = true := by
  intro p hp
  unfold dueRows at hp
  obtain ⟨k, _, rfl⟩ := List.mem_map.mp hp
  exact wr_ok_slice h
/-- three lists of rows may be compared -/
theorem three_ok {l : List Dat} (h : ∀ d ∈ l, kqdOk 8 d = true) : kqdOk 9 (.list l) = true := List.all_eq_true.mpr h
open Classical in
theorem dat_ne_eq {prog : Program} {w : World} {A : Around} {E : Value → Shared → Prop} {s : Shared} {h₀ : Heap} {L : Addr} {news : List (Addr × Obj)} {v v' : Value} {d e : Dat} {Q : Value → Shared → Prop} (N : News h₀ L s.heap news) (Da : DatIn news v d) (Db : DatIn news v' e) (ha : kqdOk 9 d = true) (hb : kqdOk 9 e = true) (hu : A.units + 64 < cLine) (he : d = e) (h : Q (.bool false) s) :
    wpAny (model prog w) A (compareOp .NotEq v v') Q E s := dat_ne N Da Db ha hb hu (by rw [decide_eq_true he]; exact h)

/-- words over three letters -/
noncomputable def words : Nat → List (List Nat)
  | 0 => [[]]
  | n + 1 => (words n).flatMap fun w => [0 :: w, 1 :: w, 2 :: w]
theorem all_split {α : Type} {l : List α} {p : α → Bool} (n : Nat) (h1 : (l.take n).all p = true) (h2 : (l.drop n).all p = true) : l.all p = true := by
  rw [← List.take_append_drop n l, List.all_append, h1, h2]; rfl
theorem mem_words : ∀ {v : List Nat}, (∀ c ∈ v, c < 3) → v ∈ words v.length
  | [], _ => .head _
  | c :: v, h => by
    rw [List.length_cons, words]
    refine List.mem_flatMap.mpr ⟨v, mem_words fun d hd => h d (.tail _ hd), ?_⟩
    have hc := h c (.head _)
    have : c = 0 ∨ c = 1 ∨ c = 2 := by omega
    rcases this with rfl | rfl | rfl
    · exact .head _
    · exact .tail _ (.head _)
    · exact .tail _ (.tail _ (.head _))
/-- words in order -/
noncomputable def lexN : List Nat → List Nat → Bool
  | [], [] => false
  | [], _ :: _ => true
  | _ :: _, [] => false
  | x :: xs, y :: ys => if Nat.beq x y then lexN xs ys else Nat.blt x y
theorem lexN_irr : ∀ X : List Nat, lexN X X = false
  | [] => rfl
  | x :: xs => by rw [lexN, if_pos (Nat.beq_refl x)]; exact lexN_irr xs
theorem lexN_tot : ∀ {X Y : List Nat}, X ≠ Y → lexN X Y = false → lexN Y X = true
  | [], [], h, _ => absurd rfl h
  | [], _ :: _, _, h => by cases h
  | _ :: _, [], _, _ => rfl
  | x :: xs, y :: ys, h, h' => by
    rw [lexN] at h' ⊢
    by_cases e : x = y
    · subst e
      rw [if_pos (Nat.beq_refl x)] at h' ⊢
      exact lexN_tot (fun q => h (by rw [q])) h'
    · have e1 : Nat.beq x y = false := by
        cases q : Nat.beq x y
        · rfl
        · exact absurd (Nat.eq_of_beq_eq_true q) e
      have e2 : Nat.beq y x = false := by
        cases q : Nat.beq y x
        · rfl
        · exact absurd (Nat.eq_of_beq_eq_true q).symm e
      rw [e1] at h'
      rw [e2]
      simp only [Bool.false_eq_true, if_false] at h' ⊢
      have h1 : ¬ x < y := fun q => by rw [Nat.blt_eq.mpr q] at h'; cases h'
      exact Nat.blt_eq.mpr (by omega)
theorem lexI_map {f : Nat → Int} (hf : ∀ i j, i < j → j < 3 → f i < f j) : ∀ {X Y : List Nat}, (∀ c ∈ X, c < 3) → (∀ c ∈ Y, c < 3) → lexI (X.map f) (Y.map f) = lexN X Y
  | [], [], _, _ => rfl
  | [], _ :: _, _, _ => rfl
  | _ :: _, [], _, _ => rfl
  | x :: xs, y :: ys, hx, hy => by
    rw [List.map_cons, List.map_cons, lexI, lexN]
    have x3 := hx x (.head _)
    have y3 := hy y (.head _)
    by_cases e : x = y
    · subst e
      rw [if_pos rfl, if_pos (Nat.beq_refl x)]
      exact lexI_map hf (fun c hc => hx c (.tail _ hc)) (fun c hc => hy c (.tail _ hc))
    · have e1 : Nat.beq x y = false := by
        cases q : Nat.beq x y
        · rfl
        · exact absurd (Nat.eq_of_beq_eq_true q) e
      rw [e1]
      simp only [Bool.false_eq_true, if_false]
      rcases Nat.lt_or_ge x y with q | q
      · have := hf x y q y3
        rw [if_neg (by omega), Nat.blt_eq.mpr q, decide_eq_true this]
      · have := hf y x (by omega) x3
        have q2 : Nat.blt x y = false := by
          cases q3 : Nat.blt x y
          · rfl
          · have := Nat.blt_eq.mp q3; omega
        rw [if_neg (by omega), q2, decide_eq_false (by omega)]
/-- the first difference decides, and neither is a beginning of the other -/
noncomputable def firstLt : List Nat → List Nat → Bool
  | a :: r, b :: r' => if a = b then firstLt r r' else decide (a < b)
  | _, _ => false
theorem firstLt_app : ∀ {A B : List Nat}, firstLt A B = true → ∀ t t', A ++ t < B ++ t'
  | [], _, h, _, _ => by cases h
  | _ :: _, [], h, _, _ => by cases h
  | a :: r, b :: r', h, t, t' => by
    rw [firstLt] at h
    rw [List.cons_append, List.cons_append, List.cons_lt_cons_iff]
    split at h
    · rename_i e
      exact .inr ⟨e, firstLt_app h t t'⟩
    · exact .inl (of_decide_eq_true h)
theorem firstLt_take : ∀ {A B : List Nat}, firstLt A B = true → ∀ t t' n, A.length ≤ n → A ++ t < (B ++ t').take n
  | [], _, h, _, _, _, _ => by cases h
  | _ :: _, [], h, _, _, _, _ => by cases h
  | a :: r, b :: r', h, t, t', 0, hn => by cases hn
  | a :: r, b :: r', h, t, t', n + 1, hn => by
    rw [firstLt] at h
    rw [List.cons_append, List.cons_append, List.take_succ_cons, List.cons_lt_cons_iff]
    split at h
    · rename_i e
      exact .inr ⟨e, firstLt_take h t t' n (Nat.le_of_succ_le_succ hn)⟩
    · exact .inl (of_decide_eq_true h)
theorem lt_asymm' {A B : List Nat} (h : A < B) : ¬ B < A := List.lt_asymm h
theorem app_lt_iff : ∀ (P : List Nat) {A B : List Nat}, P ++ A < P ++ B ↔ A < B
  | [], _, _ => Iff.rfl
  | p :: P, A, B => by
    rw [List.cons_append, List.cons_append, List.cons_lt_cons_iff]
    constructor
    · rintro (h | ⟨_, h⟩)
      · exact absurd h (Nat.lt_irrefl _)
      · exact (app_lt_iff P).mp h
    · exact fun h => .inr ⟨rfl, (app_lt_iff P).mpr h⟩
theorem esc_first : ∀ b : Bool, ∀ c ∈ orderL true, ∀ d ∈ orderL true, (orderL b).idxOf c < (orderL b).idxOf d → firstLt (escS b c) (escS b d) = true := by decide +kernel
theorem esc_pos : ∀ b : Bool, ∀ c ∈ orderL true, 0 < (escS b c).length := by decide +kernel
/-- three signs in the writer's order -/
structure Sig (b : Bool) (σ : Nat → Nat) : Prop where
  mem : ∀ i, i < 3 → σ i ∈ orderL true
  mono : ∀ i j, i < j → j < 3 → (orderL b).idxOf (σ i) < (orderL b).idxOf (σ j)
theorem Sig.inj {b : Bool} {σ : Nat → Nat} (S : Sig b σ) {i j : Nat} (hi : i < 3) (hj : j < 3) (e : σ i = σ j) : i = j := by
  rcases Nat.lt_trichotomy i j with q | q | q
  · have := S.mono i j q hj; rw [e] at this; exact absurd this (Nat.lt_irrefl _)
  · exact q
  · have := S.mono j i q hi; rw [e] at this; exact absurd this (Nat.lt_irrefl _)
theorem Sig.first {b : Bool} {σ : Nat → Nat} (S : Sig b σ) {i j : Nat} (h : i < j) (hj : j < 3) : firstLt (escS b (σ i)) (escS b (σ j)) = true :=
  esc_first b _ (S.mem i (Nat.lt_trans h hj)) _ (S.mem j hj) (S.mono i j h hj)
theorem Sig.map_inj {b : Bool} {σ : Nat → Nat} (S : Sig b σ) : ∀ {X Y : List Nat}, (∀ c ∈ X, c < 3) → (∀ c ∈ Y, c < 3) → X.map σ = Y.map σ → X = Y
  | [], [], _, _, _ => rfl
  | [], _ :: _, _, _, e => by cases e
  | _ :: _, [], _, _, e => by cases e
  | x :: xs, y :: ys, hx, hy, e => by
    rw [List.map_cons, List.map_cons] at e
    injection e with e1 e2
    rw [S.inj (hx x (.head _)) (hy y (.head _)) e1, S.map_inj (fun c hc => hx c (.tail _ hc)) (fun c hc => hy c (.tail _ hc)) e2]
/-- a word as written -/
noncomputable def wrN (b : Bool) (σ : Nat → Nat) (X : List Nat) : List Nat := (X.map σ).flatMap (escS b)
theorem wrN_cons (b : Bool) (σ : Nat → Nat) (x : Nat) (X : List Nat) : wrN b σ (x :: X) = escS b (σ x) ++ wrN b σ X := rfl
theorem Sig.lt {b : Bool} {σ : Nat → Nat} (S : Sig b σ) : ∀ {X Y : List Nat}, (∀ c ∈ X, c < 3) → (∀ c ∈ Y, c < 3) → (wrN b σ X < wrN b σ Y ↔ lexN X Y = true)
  | [], [], _, _ => ⟨fun h => absurd h (List.lt_irrefl _), fun h => by cases h⟩
  | [], y :: ys, _, hy => by
    refine ⟨fun _ => rfl, fun _ => ?_⟩
    have := esc_pos b _ (S.mem y (hy y (.head _)))
    rw [wrN_cons]
    cases e : escS b (σ y) with
    | nil => rw [e] at this; cases this
    | cons a r => exact List.nil_lt_cons a _
  | x :: xs, [], _, _ => ⟨fun h => absurd h (List.not_lt_nil _), fun h => by cases h⟩
  | x :: xs, y :: ys, hx, hy => by
    have x3 := hx x (.head _)
    have y3 := hy y (.head _)
    rw [wrN_cons, wrN_cons, lexN]
    rcases Nat.lt_trichotomy x y with q | q | q
    · have q1 : Nat.beq x y = false := by
        cases q3 : Nat.beq x y
        · rfl
        · have := Nat.eq_of_beq_eq_true q3; omega
      rw [q1]
      simp only [Bool.false_eq_true, if_false]
      exact ⟨fun _ => Nat.blt_eq.mpr q, fun _ => firstLt_app (S.first q y3) _ _⟩
    · subst q
      rw [app_lt_iff, if_pos (Nat.beq_refl x)]
      exact S.lt (fun c hc => hx c (.tail _ hc)) (fun c hc => hy c (.tail _ hc))
    · have q1 : Nat.beq x y = false := by
        cases q3 : Nat.beq x y
        · rfl
        · have := Nat.eq_of_beq_eq_true q3; omega
      rw [q1]
      simp only [Bool.false_eq_true, if_false]
      refine ⟨fun h => absurd h (lt_asymm' (firstLt_app (S.first q x3) _ _)), fun h => ?_⟩
      have := Nat.blt_eq.mp h
      omega
theorem lt_take_iff : ∀ (A B : List Nat), A.take B.length < B ↔ A < B
  | _, [] => ⟨fun h => absurd h (List.not_lt_nil _), fun h => absurd h (List.not_lt_nil _)⟩
  | [], b :: B => by rw [List.take_nil]
  | a :: A, b :: B => by
    rw [List.length_cons, List.take_succ_cons, List.cons_lt_cons_iff, List.cons_lt_cons_iff, lt_take_iff A B]
/-- a piece against the cut of a written word -/
theorem Sig.gt {b : Bool} {σ : Nat → Nat} (S : Sig b σ) : ∀ {X Y : List Nat}, (∀ c ∈ X, c < 3) → (∀ c ∈ Y, c < 3) → (wrN b σ Y < (wrN b σ X).take (wrN b σ Y).length ↔ lexN Y (X.take Y.length) = true)
  | _, [], _, _ => by
    rw [List.length_nil, List.take_zero]
    exact ⟨fun h => absurd h (List.lt_irrefl _), fun h => by cases h⟩
  | [], y :: ys, _, _ => by
    rw [List.take_nil]
    refine ⟨fun h => ?_, fun h => by cases h⟩
    have e : wrN b σ [] = [] := rfl
    rw [e, List.take_nil] at h
    exact absurd h (List.not_lt_nil _)
  | x :: xs, y :: ys, hx, hy => by
    have x3 := hx x (.head _)
    have y3 := hy y (.head _)
    rw [wrN_cons, wrN_cons, List.length_cons, List.take_succ_cons, lexN]
    rcases Nat.lt_trichotomy y x with q | q | q
    · have q1 : Nat.beq y x = false := by
        cases q3 : Nat.beq y x
        · rfl
        · have := Nat.eq_of_beq_eq_true q3; omega
      rw [q1]
      simp only [Bool.false_eq_true, if_false]
      refine ⟨fun _ => Nat.blt_eq.mpr q, fun _ => firstLt_take (S.first q x3) _ _ _ ?_⟩
      rw [List.length_append]; omega
    · subst q
      rw [if_pos (Nat.beq_refl y), List.length_append, List.take_length_add_append, app_lt_iff]
      exact S.gt (fun c hc => hx c (.tail _ hc)) (fun c hc => hy c (.tail _ hc))
    · have q1 : Nat.beq y x = false := by
        cases q3 : Nat.beq y x
        · rfl
        · have := Nat.eq_of_beq_eq_true q3; omega
      rw [q1]
      simp only [Bool.false_eq_true, if_false]
      refine ⟨fun h => absurd ((lt_take_iff (escS b (σ x) ++ wrN b σ xs) (escS b (σ y) ++ wrN b σ ys)).mpr (firstLt_app (S.first q y3) _ _)) (lt_asymm' h), fun h => ?_⟩
      have := Nat.blt_eq.mp h
      omega

/-- the orders of three places, each with its inverse -/
noncomputable def perms3 : List (List Nat × List Nat) := [([0, 1, 2], [0, 1, 2]), ([0, 2, 1], [0, 2, 1]), ([1, 0, 2], [1, 0, 2]), ([1, 2, 0], [2, 0, 1]), ([2, 0, 1], [1, 2, 0]), ([2, 1, 0], [2, 1, 0])]
noncomputable def sgN (a s i : Nat) : Nat := ord9.getD ((a + i * s) % 9) 0
noncomputable def sigOk (b : Bool) (a s : Nat) (p : List Nat × List Nat) : Bool :=
  ((List.range 3).all fun i => Nat.blt (p.2.getD i 0) 3 && Nat.beq (sgN a (s + 1) (p.1.getD (p.2.getD i 0) 0)) (sgN a (s + 1) i) && decide (sgN a (s + 1) (p.1.getD i 0) ∈ orderL true)) &&
    (List.range 3).all fun j => (List.range j).all fun i => Nat.blt ((orderL b).idxOf (sgN a (s + 1) (p.1.getD i 0))) ((orderL b).idxOf (sgN a (s + 1) (p.1.getD j 0)))
theorem sig_all : ([true, false].all fun b => (List.range 9).all fun a => (List.range 4).all fun s => perms3.any (sigOk b a s)) = true := by decide +kernel
theorem sig_find (b : Bool) (a : Nat) (ha : a < 9) (s : Nat) (hs : s < 4) : ∃ p ∈ perms3, (∀ i, i < 3 → p.2.getD i 0 < 3 ∧ sgN a (s + 1) (p.1.getD (p.2.getD i 0) 0) = sgN a (s + 1) i) ∧ (∀ i, i < 3 → sgN a (s + 1) (p.1.getD i 0) ∈ orderL true) ∧
    ∀ j, j < 3 → ∀ i, i < j → (orderL b).idxOf (sgN a (s + 1) (p.1.getD i 0)) < (orderL b).idxOf (sgN a (s + 1) (p.1.getD j 0)) := by
  have h := List.all_eq_true.mp (List.all_eq_true.mp (List.all_eq_true.mp sig_all b (by cases b <;> decide)) a (List.mem_range.mpr ha)) s (List.mem_range.mpr hs)
  obtain ⟨p, hp, h⟩ := List.any_eq_true.mp h
  rw [sigOk, Bool.and_eq_true] at h
  have h1 : ∀ i, i < 3 → _ := fun i hi => List.all_eq_true.mp h.1 i (List.mem_range.mpr hi)
  refine ⟨p, hp, fun i hi => ?_, fun i hi => ?_, fun j hj i hi => ?_⟩
  · have := h1 i hi
    rw [Bool.and_eq_true, Bool.and_eq_true] at this
    exact ⟨Nat.blt_eq.mp this.1.1, Nat.eq_of_beq_eq_true this.1.2⟩
  · have := h1 i hi
    rw [Bool.and_eq_true, Bool.and_eq_true] at this
    exact of_decide_eq_true this.2
  · exact Nat.blt_eq.mp (List.all_eq_true.mp (List.all_eq_true.mp h.2 j (List.mem_range.mpr hj)) i (List.mem_range.mpr hi))
theorem sg_cast (T : Int) (i : Nat) : ((T + (i : Int) * (T / 9 % 4 + 1)) % 9).toNat = ((T % 9).toNat + i * ((T / 9 % 4).toNat + 1)) % 9 := by
  have h1 : (((T % 9).toNat : Nat) : Int) = T % 9 := Int.toNat_of_nonneg (Int.emod_nonneg _ (by decide))
  have h2 : (((T / 9 % 4).toNat : Nat) : Int) = T / 9 % 4 := Int.toNat_of_nonneg (Int.emod_nonneg _ (by decide))
  rw [← Int.emod_add_emod, ← h1, ← h2]
  generalize (T % 9).toNat = a
  generalize (T / 9 % 4).toNat = s
  rfl
theorem sg3_N (T : Int) : ∃ a, a < 9 ∧ ∃ s, s < 4 ∧ ∀ i, i < 3 → sg3 T i = sgN a (s + 1) i := by
  refine ⟨(T % 9).toNat, (Int.toNat_lt (Int.emod_nonneg _ (by decide))).mpr (Int.emod_lt_of_pos _ (by decide)), ((T / 9) % 4).toNat, (Int.toNat_lt (Int.emod_nonneg _ (by decide))).mpr (Int.emod_lt_of_pos _ (by decide)), fun i hi => ?_⟩
  unfold sg3 sgN
  rw [Int.fdiv_eq_ediv_of_nonneg _ (by decide), Int.fmod_eq_emod_of_nonneg _ (by decide), Int.fmod_eq_emod_of_nonneg _ (by decide)]
  congr 1
  exact sg_cast T i
theorem sig_of (b : Bool) (T : Int) : ∃ σ ρ : Nat → Nat, Sig b σ ∧ ∀ i, i < 3 → ρ i < 3 ∧ σ (ρ i) = sg3 T i := by
  obtain ⟨a, ha, s, hs, e⟩ := sg3_N T
  obtain ⟨p, _, h1, h2, h3⟩ := sig_find b a ha s hs
  refine ⟨fun i => sgN a (s + 1) (p.1.getD i 0), fun i => p.2.getD i 0, ⟨h2, fun i j hij hj => h3 j hj i hij⟩, fun i hi => ⟨(h1 i hi).1, ?_⟩⟩
  rw [e i hi]
  exact (h1 i hi).2
/-- the text is the word, in these signs -/
noncomputable def IsW (σ : Nat → Nat) (x : PySem.Str) (v : List Nat) : Prop := (∀ c ∈ v, c < 3) ∧ x.cps.toList = v.map σ
theorem word_of {b : Bool} {T : Int} {σ ρ : Nat → Nat} (h : ∀ i, i < 3 → ρ i < 3 ∧ σ (ρ i) = sg3 T i) {x : PySem.Str} {l : List Int} (hx : x.cps.toList = l.map fun c => sg3 T (c.fmod 3).toNat) : IsW σ x (l.map fun c => ρ (c.fmod 3).toNat) := by
  have hm : ∀ c : Int, (c.fmod 3).toNat < 3 := fun c => by
    have h0 := Int.fmod_nonneg_of_pos c (b := 3) (by decide)
    have h1 := Int.fmod_lt_of_pos c (b := 3) (by decide)
    omega
  refine ⟨fun c hc => ?_, ?_⟩
  · obtain ⟨k, _, rfl⟩ := List.mem_map.mp hc
    exact (h _ (hm k)).1
  · rw [hx, List.map_map]
    exact List.map_congr_left fun c _ => ((h _ (hm c)).2).symm
section
variable {b : Bool} {σ : Nat → Nat} {x y : PySem.Str} {v X Y : List Nat}
theorem IsW.len (h : IsW σ x v) : x.length = v.length := by
  have := congrArg List.length h.2
  rw [List.length_map, Array.length_toList] at this
  exact this
theorem IsW.from (h : IsW σ x v) (i : Nat) : IsW σ (Txt.slice x (some (i : Int)) none) (v.drop i) :=
  ⟨fun c hc => h.1 c (List.mem_of_mem_drop hc), by rw [slice_from, h.2, List.map_drop]⟩
theorem IsW.upto (h : IsW σ x v) (i : Nat) : IsW σ (Txt.slice x none (some (i : Int))) (v.take i) :=
  ⟨fun c hc => h.1 c (List.mem_of_mem_take hc), by rw [slice_upto, h.2, List.map_take]⟩
theorem IsW.run (h : IsW σ x v) (i j : Nat) : IsW σ (Txt.slice x (some (i : Int)) (some (j : Int))) ((v.drop i).take (j - i)) :=
  ⟨fun c hc => h.1 c (List.mem_of_mem_drop (List.mem_of_mem_take hc)), by rw [slice_run, h.2, List.map_take, List.map_drop]⟩
theorem IsW.eq (S : Sig b σ) (hx : IsW σ x X) (hy : IsW σ y Y) : x = y ↔ X = Y :=
  ⟨fun e => S.map_inj hx.1 hy.1 (by rw [← hx.2, ← hy.2, e]), fun e => str_list (by rw [hx.2, hy.2, e])⟩
theorem IsW.wr (h : IsW σ x v) : (Mine.wr b x).cps.toList = wrN b σ v := by rw [wr_flat, h.2]; rfl
end
/-- a word's tails in order -/
noncomputable def ltV (v : List Nat) (i j : Nat) : Bool := lexN (v.drop i) (v.drop j)
noncomputable def insP (lt : Nat → Nat → Bool) (ps : List Nat) (k : Nat) : List Nat := ps.take (bisR (fun j => lt k (ps.getD j k)) 6 0 ps.length) ++ k :: ps.drop (bisR (fun j => lt k (ps.getD j k)) 6 0 ps.length)
noncomputable def keptP (lt : Nat → Nat → Bool) : Nat → List Nat
  | 0 => []
  | k + 1 => insP lt (keptP lt k) k
noncomputable def placesV (v : List Nat) : List Nat := (kasRun (ltV v) (kas_sort v.length)).toList
noncomputable def rowV (b : Bool) (x : PySem.Str) (k : Nat) : PySem.Str × Int := (wr b (Txt.slice x (some (k : Int)) none), (k : Int))
theorem bisR_congr {f g : Nat → Bool} : ∀ {k lo hi : Nat}, (∀ j, j < hi → f j = g j) → bisR f k lo hi = bisR g k lo hi
  | 0, _, _, _ => rfl
  | k + 1, lo, hi, h => by
    rw [bisR, bisR]
    by_cases q : lo < hi
    · rw [if_pos q, if_pos q, h ((lo + hi) / 2) (by omega), bisR_congr fun j hj => h j (by omega), bisR_congr fun j hj => h j hj]
    · rw [if_neg q, if_neg q]
theorem keptP_lt (lt : Nat → Nat → Bool) : ∀ k, (keptP lt k).length = k ∧ ∀ i ∈ keptP lt k, i < k
  | 0 => ⟨rfl, fun i hi => nomatch hi⟩
  | k + 1 => by
    obtain ⟨h1, h2⟩ := keptP_lt lt k
    refine ⟨?_, fun i hi => ?_⟩
    · rw [keptP, insP, List.length_append, List.length_cons, List.length_take, List.length_drop]; omega
    · rw [keptP, insP] at hi
      rcases List.mem_append.mp hi with hi | hi
      · have := h2 i (List.mem_of_mem_take hi); omega
      rcases List.mem_cons.mp hi with rfl | hi
      · omega
      · have := h2 i (List.mem_of_mem_drop hi); omega
section
variable {b : Bool} {σ : Nat → Nat} {x : PySem.Str} {v : List Nat}
theorem rowLt_V (S : Sig b σ) (h : IsW σ x v) {i j : Nat} (hi : i < v.length) (hj : j < v.length) (hij : i ≠ j) : rowLt (rowV b x i) (rowV b x j) = ltV v i j := by
  have e1 := (h.from i).wr (b := b)
  have e2 := (h.from j).wr (b := b)
  have hX := (h.from i).1
  have hY := (h.from j).1
  have hne : v.drop i ≠ v.drop j := fun e => by
    have := congrArg List.length e
    rw [List.length_drop, List.length_drop] at this
    omega
  unfold rowLt ltV rowV
  dsimp only
  have hn : Mine.wr b (Txt.slice x (some (i : Int)) none) ≠ Mine.wr b (Txt.slice x (some (j : Int)) none) := fun e => by
    have e3 : wrN b σ (v.drop i) = wrN b σ (v.drop j) := by rw [← e1, ← e2, e]
    cases q : lexN (v.drop i) (v.drop j) with
    | true => have := (S.lt hX hY).mpr q; rw [e3] at this; exact List.lt_irrefl _ this
    | false => have := (S.lt hY hX).mpr (lexN_tot hne q); rw [e3] at this; exact List.lt_irrefl _ this
  rw [if_neg hn, e1, e2]
  cases q : lexN (v.drop i) (v.drop j) with
  | true => exact decide_eq_true ((S.lt hX hY).mpr q)
  | false => exact decide_eq_false fun q' => by rw [(S.lt hX hY).mp q'] at q; cases q
theorem kept_V (S : Sig b σ) (h : IsW σ x v) : ∀ k, k ≤ v.length → keptRows b x k = (keptP (ltV v) k).map (rowV b x)
  | 0, _ => rfl
  | k + 1, hk => by
    have ih := kept_V S h k (by omega)
    obtain ⟨h1, h2⟩ := keptP_lt (ltV v) k
    rw [keptRows, keptP, ih, insP, rowsIns, insAt, Int.zero_add]
    show _ = (List.map (rowV b x) _)
    have e : bisR (fun j => rowLt (rowV b x k) (((keptP (ltV v) k).map (rowV b x)).getD j (rowV b x k))) 6 0 ((keptP (ltV v) k).map (rowV b x)).length = bisR (fun j => ltV v k ((keptP (ltV v) k).getD j k)) 6 0 (keptP (ltV v) k).length := by
      rw [List.length_map]
      refine bisR_congr fun j hj => ?_
      have hm := h2 _ (List.getElem_mem hj)
      rw [List.getD_eq_getElem?_getD, List.getD_eq_getElem?_getD, List.getElem?_map, List.getElem?_eq_getElem hj]
      exact rowLt_V S h (by omega) (by omega) (by omega)
    rw [List.map_append, List.map_cons, List.map_take, List.map_drop]
    have e' := e
    unfold rowV at e'
    unfold rowV
    rw [e']
theorem keyI_V (h : IsW σ x v) (j : Nat) : keyI b x j = (v.drop j).map fun c => (((orderL b).idxOf (σ c) : Nat) : Int) := by
  unfold keyI
  rw [Int.zero_add, (h.from j).2, List.map_map]; rfl
theorem due_V (S : Sig b σ) (h : IsW σ x v) : dueRows b x = (placesV v).map (rowV b x) := by
  unfold dueRows placesV
  have e : (fun i j => lexI (keyI b x i) (keyI b x j)) = ltV v := by
    funext i j
    rw [keyI_V h, keyI_V h]
    exact lexI_map (fun i j hij hj => by have := S.mono i j hij hj; omega) (h.from i).1 (h.from j).1
  rw [e, h.len]; rfl
end
/-- the words of the law's lengths -/
noncomputable def words456 : List (List Nat) := words 4 ++ words 5 ++ words 6
theorem mem456 {v : List Nat} (h : ∀ c ∈ v, c < 3) (h4 : 4 ≤ v.length) (h6 : v.length ≤ 6) : v ∈ words456 := by
  have hm := mem_words h
  unfold words456
  have : v.length = 4 ∨ v.length = 5 ∨ v.length = 6 := by omega
  rcases this with e | e | e
  · rw [e] at hm; exact List.mem_append_left _ (List.mem_append_left _ hm)
  · rw [e] at hm; exact List.mem_append_left _ (List.mem_append_right _ hm)
  · rw [e] at hm; exact List.mem_append_right _ hm
theorem all456 {P : List Nat → Bool} (h : words456.all P = true) {v : List Nat} (hv : ∀ c ∈ v, c < 3) (h4 : 4 ≤ v.length) (h6 : v.length ≤ 6) : P v = true := List.all_eq_true.mp h v (mem456 hv h4 h6)
noncomputable def listEq : List Nat → List Nat → Bool
  | [], [] => true
  | x :: xs, y :: ys => Nat.beq x y && listEq xs ys
  | _, _ => false
theorem listEq_iff : ∀ {X Y : List Nat}, listEq X Y = true ↔ X = Y
  | [], [] => ⟨fun _ => rfl, fun _ => rfl⟩
  | [], _ :: _ => ⟨fun h => (by cases h), fun h => (by cases h)⟩
  | _ :: _, [] => ⟨fun h => (by cases h), fun h => (by cases h)⟩
  | x :: xs, y :: ys => by
    rw [listEq, Bool.and_eq_true, listEq_iff, List.cons.injEq]
    exact ⟨fun ⟨a, b⟩ => ⟨Nat.eq_of_beq_eq_true a, b⟩, fun ⟨a, b⟩ => ⟨a ▸ Nat.beq_refl x, b⟩⟩
theorem listEq_dec (X Y : List Nat) : decide (X = Y) = listEq X Y := by
  cases h : listEq X Y with
  | true => exact decide_eq_true (listEq_iff.mp h)
  | false => exact decide_eq_false fun e => by rw [listEq_iff.mpr e] at h; cases h
noncomputable def rowsOk (v : List Nat) : Bool := listEq (keptP (ltV v) v.length) (placesV v)
theorem rows4 : (words 4).all rowsOk = true := by decide +kernel
theorem rows5_0 : ((words 5).take 81).all rowsOk = true := by decide +kernel
theorem rows5_1 : (((words 5).drop 81).take 81).all rowsOk = true := by decide +kernel
theorem rows5_2 : (((words 5).drop 81).drop 81).all rowsOk = true := by decide +kernel
theorem rows5 : (words 5).all rowsOk = true := (all_split 81 rows5_0 (all_split 81 rows5_1 rows5_2))
theorem rows6_0 : ((words 6).take 122).all rowsOk = true := by decide +kernel
theorem rows6_1 : (((words 6).drop 122).take 122).all rowsOk = true := by decide +kernel
theorem rows6_2 : ((((words 6).drop 122).drop 122).take 122).all rowsOk = true := by decide +kernel
theorem rows6_3 : (((((words 6).drop 122).drop 122).drop 122).take 122).all rowsOk = true := by decide +kernel
theorem rows6_4 : ((((((words 6).drop 122).drop 122).drop 122).drop 122).take 122).all rowsOk = true := by decide +kernel
theorem rows6_5 : ((((((words 6).drop 122).drop 122).drop 122).drop 122).drop 122).all rowsOk = true := by decide +kernel
theorem rows6 : (words 6).all rowsOk = true := (all_split 122 rows6_0 (all_split 122 rows6_1 (all_split 122 rows6_2 (all_split 122 rows6_3 (all_split 122 rows6_4 rows6_5)))))
theorem rows_all : words456.all rowsOk = true := by
  unfold words456
  rw [List.all_append, List.all_append, rows4, rows5, rows6]; rfl
theorem places_V {v : List Nat} (hv : ∀ c ∈ v, c < 3) (h4 : 4 ≤ v.length) (h6 : v.length ≤ 6) : keptP (ltV v) v.length = placesV v := listEq_iff.mp (all456 rows_all hv h4 h6)
/-- the tails' places in order, by the plain way -/
noncomputable def ksV (v : List Nat) : List Nat := keptP (ltV v) v.length
theorem ks_len (v : List Nat) : (ksV v).length = v.length := (keptP_lt _ _).1
theorem kept_P {b : Bool} {σ : Nat → Nat} {x : PySem.Str} {v : List Nat} (S : Sig b σ) (h : IsW σ x v) : keptRows b x x.length = (ksV v).map (rowV b x) := by
  rw [h.len]
  exact kept_V S h _ (Nat.le_refl _)
/-- the rows kept are the rows due -/
theorem plain_rows {b : Bool} {x : PySem.Str} {l : List Int} {T : Int} (h : x.cps.toList = l.map fun c => sg3 T (c.fmod 3).toNat) (h4 : 4 ≤ x.length) (h6 : x.length ≤ 6) : keptRows b x x.length = dueRows b x := by
  obtain ⟨σ, ρ, S, hr⟩ := sig_of b T
  have hw := word_of (b := b) hr h
  rw [hw.len] at h4 h6
  rw [kept_P S hw, due_V S hw, ksV, places_V hw.1 h4 h6]

theorem rev_list {x : PySem.Str} {u : Tok} : (Txt.sliceBy x none none (-1, u)).cps.toList = x.cps.toList.reverse := by
  rw [step_rev_list]
  refine List.ext_getElem (by rw [List.length_map, List.length_range, List.length_reverse, Array.length_toList]; rfl) fun i h1 h2 => ?_
  rw [List.length_map, List.length_range] at h1
  have hb : x.length - 1 - i < x.cps.size := by
    have : x.length = x.cps.size := rfl
    omega
  rw [List.getElem_map, List.getElem_range, List.getElem_reverse, Array.getD_eq_getD_getElem?, Array.getElem?_eq_getElem hb]
  simp only [Option.getD_some, Array.getElem_toList, Array.length_toList]
  congr 1
theorem rev_tok {x : PySem.Str} {u u' : Tok} : Txt.sliceBy x none none (-1, u) = Txt.sliceBy x none none (-1, u') := str_list (by rw [rev_list, rev_list])

/-- list(text), its list laid into the ledger -/
theorem list_text {prog : Program} {w : World} {A : Around} {E : Value → Shared → Prop} {s : Shared} {h₀ : Heap} {L : Addr} {m : PySem.Str → Option Value} {news : List (Addr × Obj)} {x : PySem.Str} {t : Tok} {Q : Value → Shared → Prop} (hh : A.handled = none) (F : Fr h₀ L s.heap m) (N : News h₀ L s.heap news) (hx : x.length ≤ 100)
    (h : ∀ D ys c h' tk, Fr h₀ L h' m → News h₀ L h' ((D, listOf (List.toArray ys) c) :: news) → (∀ p ∈ news, p.1 < D) → StrsAre ys (x.cps.toList.map fun k => (⟨#[k]⟩ : PySem.Str)) → Q (.ref D) { s with heap := h', toks := tk }) :
    wpAny (model prog w) A (call (.type "list") [.str x t]) Q E s := by
  refine call_list_str hh x t (fun h' tk acc' c' hk hS' hacc => ?_) (by rw [PySem.sizeLine_eq]; exact Nat.le_trans hx (by decide))
  refine h _ acc'.toList c' h' tk (F.keeps hk) ?_ (fun p hp => Heap.lt_size (N p hp).1) ?_
  · intro p hp
    rcases List.mem_cons.mp hp with rfl | hp
    · exact ⟨by simpa using hS', Nat.ne_of_gt F.ns.lt, next_is_new F⟩
    · exact ⟨hk _ _ (N p hp).1, (N p hp).2⟩
  · refine Mine.strsAre_of (by rw [List.length_map, Array.length_toList, Array.length_toList, hacc.1]) fun i y e => ?_
    obtain ⟨c, u, hc, rfl⟩ := hacc.2 i y (by simpa using e)
    exact ⟨u, by rw [List.getElem?_map, Array.getElem?_toList, hc]; rfl⟩

/-- a piece of one or two signs -/
noncomputable def PieceOf (x y : PySem.Str) : Prop := ∃ k n, (n = 1 ∨ n = 2) ∧ k + n ≤ x.length ∧ y.cps.toList = (x.cps.toList.drop k).take n
theorem PieceOf.len {x y : PySem.Str} (h : PieceOf x y) : 1 ≤ y.length ∧ y.length ≤ 2 := by
  obtain ⟨k, n, hn, hk, e⟩ := h
  have hl := congrArg List.length e
  rw [List.length_take, List.length_drop, Array.length_toList, Array.length_toList] at hl
  have h1 : y.length = y.cps.size := rfl
  have h2 : x.length = x.cps.size := rfl
  omega
theorem pieces_of {x : PySem.Str} {ys zs : List Value} {n : Nat} (hn : n + 1 = x.length) (hy : StrsAre ys (x.cps.toList.map fun k => (⟨#[k]⟩ : PySem.Str))) (hl : zs.length = n) (hz : ∀ (i : Nat) (y : Value), zs[i]? = some y → ∃ t, y = .str (Txt.slice x (some (0 + (i : Int))) (some (0 + (i : Int) + 2))) t) :
    ∀ (i : Nat) (v : Value), (ys ++ zs)[i]? = some v → ∃ y t, v = .str y t ∧ PieceOf x y := by
  intro i v e
  by_cases hi : i < ys.length
  · rw [List.getElem?_append_left hi] at e
    obtain ⟨z, t, e1, rfl⟩ := strs_at hy i e
    rw [List.getElem?_map] at e1
    cases hc : x.cps.toList[i]? with
    | none => rw [hc] at e1; cases e1
    | some c =>
      rw [hc] at e1
      cases e1
      have hb : i < x.cps.toList.length := by
        rcases Nat.lt_or_ge i x.cps.toList.length with q | q
        · exact q
        · rw [List.getElem?_eq_none q] at hc; cases hc
      refine ⟨_, t, rfl, i, 1, .inl rfl, ?_, ?_⟩
      · rw [Array.length_toList] at hb; exact hb
      · rw [List.drop_eq_getElem_cons hb]
        rw [List.getElem?_eq_getElem hb] at hc
        cases hc
        rfl
  · rw [List.getElem?_append_right (Nat.not_lt.mp hi)] at e
    have hb : i - ys.length < zs.length := by
      rcases Nat.lt_or_ge (i - ys.length) zs.length with q | q
      · exact q
      · rw [List.getElem?_eq_none q] at e; cases e
    obtain ⟨t, rfl⟩ := hz _ v e
    refine ⟨_, t, rfl, i - ys.length, 2, .inr rfl, by omega, ?_⟩
    rw [Int.zero_add, show (((i - ys.length : Nat) : Int) + 2) = ((i - ys.length + 2 : Nat) : Int) from rfl, slice_run]
    congr 1
    omega
/-- a code table of the ledger's -/
noncomputable def HasTab (P : Addr) (T : List (Addr × Obj)) : Prop := ∃ ps, (P, tabObj ps) ∈ T
theorem HasTab.mono {P : Addr} {T T' : List (Addr × Obj)} (h : HasTab P T) (s : ∀ p ∈ T, p ∈ T') : HasTab P T' := let ⟨ps, m⟩ := h; ⟨ps, s _ m⟩
theorem HasTab.grown {P : Addr} {T : List (Addr × Obj)} {h₀ h : Heap} {L : Addr} (t : HasTab P T) (N : News h₀ L h T) : GrownAt P h := let ⟨_, m⟩ := t; GrownAt.of N m
theorem own_149 {l' a9 a8 a7 a6 a5 a4 a3 a2 a1 P Q : Addr × Obj} {x : Obj} {chunk : List (Addr × Obj)} (h : OwnOff chunk (List.map (fun x => x.1) [l', a9, a8, a7, a6, a5, a4, a3, a2, a1, P, Q])) (hn : ∀ p ∈ [Q, a9, a8, a7, a6, a5, a4, a3, a2, a1], p.1 ≠ P.1) :
    OwnOff ((P.1, x) :: chunk) [Q.1, a9.1, a8.1, a7.1, a6.1, a5.1, a4.1, a3.1, a2.1, a1.1] := by
  intro p hp b hb
  have hb' : b ∈ List.map (fun x : Addr × Obj => x.1) [Q, a9, a8, a7, a6, a5, a4, a3, a2, a1] := hb
  rcases List.mem_cons.mp hp with rfl | hp
  · obtain ⟨q, hq, rfl⟩ := List.mem_map.mp hb'
    exact Ne.symm (hn q hq)
  · refine h p hp b ?_
    rcases List.mem_cons.mp hb with rfl | hb
    · (iterate 11 (refine .tail _ ?_)); exact .head _
    · refine .tail _ ?_
      (iterate 9 (rcases List.mem_cons.mp hb with rfl | hb; (· exact .head _); refine .tail _ ?_))
      cases hb
theorem drop_to5 {h₀ h : Heap} {L : Addr} {a b c d e f g i j k l m : Addr × Obj} {P : Addr} {ps : Array Value} {U : List (Addr × Obj)} {P' : Addr} (N : News h₀ L h (a :: b :: c :: d :: e :: f :: g :: i :: j :: k :: l :: m :: (P, tabObj ps) :: U)) (hG : HasTab P' U) :
    ∃ V, News h₀ L h (a :: b :: e :: f :: V) ∧ HasTab P' V ∧ HasTab P V ∧ ∀ p ∈ U, p ∈ V := by
  exact ⟨(P, tabObj ps) :: U, News.sel N [0, 1, 4, 5] 12, hG.mono fun p hp => .tail _ hp, ⟨ps, .head _⟩, fun p hp => .tail _ hp⟩

theorem drop4g (front : List (Addr × Obj)) {h₀ h : Heap} {L : Addr} {a P c : Addr × Obj} {T U : List (Addr × Obj)} (N : News h₀ L h (a :: P :: c :: (front ++ (T ++ U)))) : News h₀ L h (front ++ ((P :: T) ++ U)) := fun p hp => N p (by
  rcases List.mem_append.mp hp with hp | hp
  · exact .tail _ (.tail _ (.tail _ (List.mem_append_left _ hp)))
  rcases List.mem_cons.mp hp with rfl | hp
  · exact .tail _ (.head _)
  · exact .tail _ (.tail _ (.tail _ (List.mem_append_right _ hp))))
theorem drop4 {h₀ h : Heap} {L : Addr} {a P c d e f g i j k l m n q : Addr × Obj} {T U : List (Addr × Obj)} (N : News h₀ L h (a :: P :: c :: d :: e :: f :: g :: i :: j :: k :: l :: m :: n :: q :: (T ++ U))) : News h₀ L h (d :: e :: f :: g :: i :: j :: k :: l :: m :: n :: q :: ((P :: T) ++ U)) :=
  drop4g [d, e, f, g, i, j, k, l, m, n, q] N
/-- a list of rows among values -/
inductive RowsOf (ys : List Value) (T : List (Addr × Obj)) (i : Nat) (rows : List (PySem.Str × Int)) : Prop where
  | mk : ∀ a vs c, ys[i]? = some (.ref a) → (a, listOf vs.toArray c) ∈ T → RowsAt T vs rows → RowsOf ys T i rows
/-- three lists of rows -/
theorem three_kept {b : Bool} {tx : List PySem.Str} {ys : List Value} {T : List (Addr × Obj)} (hl : ys.length = 3) (h : ∀ (i : Nat) (y : Value), ys[i]? = some y → KeptAt b tx i y T) (i : Nat) (hi : i < 3) :
    RowsOf ys T i (keptRows b (tx.getD i ⟨#[]⟩) (tx.getD i ⟨#[]⟩).length) := by
  have e : ys[i]? = some ys[i] := List.getElem?_eq_getElem (by omega)
  obtain ⟨a, vs, c, e1, h1, h2⟩ := h i _ e
  exact ⟨a, vs, c, by rw [e, e1], h1, h2⟩
theorem cut_end {h₀ h : Heap} {L : Addr} {a b c d e f g i j k l A B D : Addr × Obj} {T U : List (Addr × Obj)} (N : News h₀ L h (A :: D :: B :: a :: b :: c :: d :: e :: f :: g :: i :: j :: k :: l :: (T ++ U))) : News h₀ L h (A :: a :: b :: c :: d :: e :: f :: g :: i :: j :: k :: l :: T) :=
  News.cutT [A, a, b, c, d, e, f, g, i, j, k, l] (News.sel N [0, 3, 4, 5, 6, 7, 8, 9, 10, 11, 12, 13] 14)

/-- a for over a list of the ledger's -/
theorem for_list {prog : Program} {w : World} {A : Around} {E : Value → Shared → Prop} {s : Shared} {env : Env} {h₀ : Heap} {L : Addr} {Q : Flow → Shared → Prop} {tgt : PySem.Expr} {body : List Stmt} {D : Addr} {vs : List Value} {c : Nat} {rest : List (Addr × Obj)} {m : PySem.Str → Option Value}
    (J : Addr → Nat → (PySem.Str → Option Value) → List (Addr × Obj) → Prop)
    (hh : A.handled = none) (F : Fr h₀ L s.heap m) (N : News h₀ L s.heap ((D, listOf vs.toArray c) :: rest))
    (h0 : ∀ I, (∀ p ∈ (D, listOf vs.toArray c) :: rest, p.1 < I) → J I 0 m rest)
    (turn : ∀ I i v oI m₁ rest₁ h tk, vs[i]? = some v → J I i m₁ rest₁ → (∀ p ∈ rest₁, p.1 ≠ I) → (@Ne Nat D I) → Fr h₀ L h m₁ → News h₀ L h ((I, oI) :: (D, listOf vs.toArray c) :: rest₁) →
      wpAny (model prog w) A (assign tgt env v) (fun _ s₂ => wpAny (model prog w) A (execs body env) (LoopEnd h₀ L s I oI (fun m' nw => ∃ r, nw = (D, listOf vs.toArray c) :: r ∧ J I (i + 1) m' r) Q) E s₂) E { s with heap := h, toks := tk })
    (done : ∀ I m₁ rest₁ h tk, J I vs.length m₁ rest₁ → Fr h₀ L h m₁ → News h₀ L h ((D, listOf vs.toArray c) :: rest₁) → Q .next { s with heap := h, toks := tk })
    (ht : ∀ I v, letOwnedTupleGo tgt (.ref I) v = pure () := by intro _ _; rfl)
    (hL : env.locals = L := by rfl) (hE : PassesOwn (model prog w) A env E := by passes_own) :
    wpAny (model prog w) A (pyIter (.ref D)) (fun it s₂ => codeAny (model prog w) A (.forLoop tgt it body [] env) (fun r s' => match r with | .ok f => Q f s' | .error e => cameBackBy (model prog w) A env E e s') s₂) E s := by
  have hl : s.heap.IsList D vs.toArray := News.isList N (.head _)
  refine wpAny_pyIter_list hl ?_
  have up : ∀ (o : Obj) b o', s.heap.get? b = some o' → (s.heap.push o).get? b = some o' := fun o b o' e => Heap.get?_push_of_some _ e
  have hlt : ∀ p ∈ (D, listOf vs.toArray c) :: rest, p.1 < s.heap.objs.size := fun p hp => Heap.lt_size (N p hp).1
  have hD : @Ne Nat D s.heap.objs.size := Nat.ne_of_lt (hlt _ (.head _))
  refine for_walk (keepS := [(D, listOf vs.toArray c)]) (fun i m nw => ∃ r, nw = (D, listOf vs.toArray c) :: r ∧ J s.heap.objs.size i m r) hL (Walks.list hh s.heap.objs.size D hD vs.toArray) (next_is_new F) (Nat.ne_of_gt F.ns.lt)
    ?_ ?_ ?_ (F.keeps (up _)) (N.grown (up _)) (fun p hp => Nat.ne_of_lt (hlt p hp)) ⟨rest, rfl, h0 _ hlt⟩ ⟨_, Heap.get?_push_size _ rfl⟩ ?_ (ht _) ?_ ?_ hE
  · rintro i m₁ nw ⟨r, rfl, _⟩ p hp
    rw [List.mem_singleton.mp hp]; exact .head _
  · intro b hb
    rcases List.mem_cons.mp hb with rfl | hb
    · exact .inl rfl
    · rw [List.mem_singleton.mp hb]; exact .inr (.inr ⟨_, .head _⟩)
  · exact ⟨⟨_, Heap.get?_push_size _ rfl, rfl, rfl⟩, hl.at fun o e => up _ _ _ e⟩
  · rintro i h ⟨⟨o, e, _⟩, _⟩
    exact ⟨o, e⟩
  · rintro i v oI m₁ nw h tk hi hv ⟨r, rfl, hj⟩ hoff F₁ N₁
    exact turn _ i v oI m₁ r h tk (by simpa using hv) hj (fun p hp => hoff p (.tail _ hp)) hD F₁ N₁
  · rintro m₁ nw h tk ⟨r, rfl, hj⟩ F₁ N₁
    exact done _ m₁ r h tk (by simpa using hj) F₁ N₁
theorem conK_use {w : World} {f : Addr} {vs : List Value} {kws : List (PySem.Str × Value)} {dep un : Nat} {Pre : List (Addr × Obj) → Prop} {Post : List (Addr × Obj) → Value → Prop} (C : ConK w f vs kws dep un Pre Post)
    {p : Program} {loose : List PySem.Str} {mean : ExcName → Option Value} {mg mb : PySem.Str → Option Value}
    {dp un0 : Nat} {gd : Option (List Code)} {cn : PySem.Str} {cs : Scope} {a : Addr} {ccd : Value} {cl : List (PySem.Str × Addr)} {outer : List Env} {A₀ : Around} {base h₀ : Heap} {L : Addr} {m : PySem.Str → Option Value}
    {news : List (Addr × Obj)} {s : Shared} {Q E : Value → Shared → Prop}
    (B : Below A₀ base outer h₀) (F : Fr h₀ L s.heap m) (X : (hd.heap_39 w.params).In h₀) (N : News h₀ L s.heap news) (T : Top p loose mean mg mb h₀) (hk : cs.kind = .function)
    (hp : Pre news) (hd : dp + dep < recursionLimit) (hu : un0 + un < cLine)
    (ret : ∀ r tl h' tk', Fr h₀ L h' m → News h₀ L h' (tl ++ news) → OwnOff tl (news.map (·.1)) → Post tl r → Q r { s with heap := h', toks := tk' }) :
    wpAny (model PySem.Challenge.rw_rs0197_01.row.prog w) (ktrTop dp un0 gd cn cs L a ccd cl outer) (call (.ref f) vs kws) Q E s :=
  C p loose mean mg mb dp un0 gd cn cs a ccd cl outer A₀ base h₀ L m news s Q E B F X N T hk hp hd hu ret
theorem conK_use1 {g : Tok → Value} {w : World} {f : Addr} {vs : List Value} {kws : List (PySem.Str × Value)} {dep un : Nat} {Pre : List (Addr × Obj) → Prop} {Post : List (Addr × Obj) → Value → Prop} (C : ConK w f vs kws dep un Pre Post)
    {p : Program} {loose : List PySem.Str} {mean : ExcName → Option Value} {mg mb : PySem.Str → Option Value}
    {dp un0 : Nat} {gd : Option (List Code)} {cn : PySem.Str} {cs : Scope} {a : Addr} {ccd : Value} {cl : List (PySem.Str × Addr)} {outer : List Env} {A₀ : Around} {base h₀ : Heap} {L : Addr} {m : PySem.Str → Option Value}
    {news : List (Addr × Obj)} {s : Shared} {Q E : Value → Shared → Prop}
    (B : Below A₀ base outer h₀) (F : Fr h₀ L s.heap m) (X : (hd.heap_39 w.params).In h₀) (N : News h₀ L s.heap news) (T : Top p loose mean mg mb h₀) (hk : cs.kind = .function)
    (hp : Pre news) (hd : dp + dep < recursionLimit) (hu : un0 + un < cLine)
    (e : ∀ tl r, Post tl r → tl = [] ∧ ∃ t, r = g t)
    (ret : ∀ t h' tk', Fr h₀ L h' m → News h₀ L h' news → Q (g t) { s with heap := h', toks := tk' }) :
    wpAny (model PySem.Challenge.rw_rs0197_01.row.prog w) (ktrTop dp un0 gd cn cs L a ccd cl outer) (call (.ref f) vs kws) Q E s :=
  conK_use C B F X N T hk hp hd hu fun r tl h' tk' F' N' O P => by
    obtain ⟨rfl, t, rfl⟩ := e _ _ P; exact ret t h' tk' F' N'
/-- a code table of two lambdas: the first alone, or both -/
noncomputable def trip (pos : Pos) (c : Addr) : Array Value := #[rawInt pos.line, rawInt pos.col, .ref c]
noncomputable def TabB (qual : PySem.Str) (pos pos' : Pos) (ps : Array Value) (T : List (Addr × Obj)) : Prop := ∃ c c', ps = #[rawInt pos.line, rawInt pos.col, .ref c, rawInt pos'.line, rawInt pos'.col, .ref c'] ∧ RecIn qual T c ∧ RecIn qual T c'
noncomputable def TabN (qual : PySem.Str) (pos pos' : Pos) (ps : Array Value) (T : List (Addr × Obj)) : Prop := ps = #[] ∨ TabB qual pos pos' ps T
noncomputable def TabM (qual : PySem.Str) (pos pos' : Pos) (ps : Array Value) (T : List (Addr × Obj)) : Prop := TabHas qual pos ps T ∨ TabB qual pos pos' ps T
theorem TabB.mono {qual : PySem.Str} {pos pos' : Pos} {ps : Array Value} {T T' : List (Addr × Obj)} (h : TabB qual pos pos' ps T) (s : ∀ p ∈ T, p ∈ T') : TabB qual pos pos' ps T' :=
  let ⟨c, c', e, r, r'⟩ := h; ⟨c, c', e, r.mono s, r'.mono s⟩
theorem TabN.mono {qual : PySem.Str} {pos pos' : Pos} {ps : Array Value} {T T' : List (Addr × Obj)} (h : TabN qual pos pos' ps T) (s : ∀ p ∈ T, p ∈ T') : TabN qual pos pos' ps T' := h.elim .inl fun h => .inr (h.mono s)
theorem TabM.mono {qual : PySem.Str} {pos pos' : Pos} {ps : Array Value} {T T' : List (Addr × Obj)} (h : TabM qual pos pos' ps T) (s : ∀ p ∈ T, p ∈ T') : TabM qual pos pos' ps T' := h.elim (fun h => .inl (h.mono s)) fun h => .inr (h.mono s)
theorem lam_first {M : Model} {A : Around} {E : Value → Shared → Prop} {s : Shared} {h₀ : Heap} {L a c P : Addr} {m mg mb : PySem.Str → Option Value} {cn : PySem.Str} {cs : Scope} {ccd : Value} {cl : List (PySem.Str × Addr)} {rest K : List (Addr × Obj)}
  {p : Program} {loose : List PySem.Str} {mean : ExcName → Option Value} {name qual : PySem.Str} {params : Arguments} {body : PySem.Expr} {scope : Scope} {ps : Array Value} {pos pos' : Pos} {firstLine : Nat} {clos : List (PySem.Str × Addr)} {Q : Value → Shared → Prop}
    (F : Fr h₀ L s.heap m) (N : News h₀ L s.heap ((P, tabObj ps) :: rest)) (T : Top p loose mean mg mb h₀) (C : CodeHd h₀ c P) (hcd : ccd = .ref c) (hoff : ∀ p ∈ rest, p.1 ≠ P) (hK : ∀ p ∈ K, p ∈ rest) (ht : TabN qual pos pos' ps K)
    (hcl : closureFor scope (envX cn cs L a ccd cl) = pure clos)
    (h : ∀ f c' ctv h' tk ps' W, Fr h₀ L h' m → News h₀ L h' ((f, kla_obj name qual params body scope clos ((mg "__name__").getD .none) c' ctv) :: (P, tabObj ps') :: (W ++ rest)) →
      TabM qual pos pos' ps' (W ++ K) → RecIn qual (W ++ K) c' →
      (∀ q ∈ W ++ rest, q.1 < f) → P < f → (∀ p ∈ W, P < p.1 ∧ ∀ q ∈ rest, q.1 < p.1) → Q (.ref f) { s with heap := h', toks := tk }) :
    wpAny M A (makeFunction name qual params (.expr body) scope (envX cn cs L a ccd cl) [] [] [] pos firstLine) Q E s := by
  have hto : TriplesOk ps.toList := by
    rcases ht with rfl | ⟨c1, c2, rfl, _⟩
    · exact True.intro
    · simp [TriplesOk, rawInt]
  have hc : codeAmong pos ps.toList = none ∨ ∃ c', codeAmong pos ps.toList = some (.ref c') ∧ RecIn qual K c' := by
    rcases ht with rfl | ⟨c1, c2, rfl, h1, _⟩
    · exact .inl rfl
    · exact .inr ⟨c1, by simp [codeAmong, rawInt], h1⟩
  refine lam_tab F N T C hcd hoff hto (hc.imp id fun ⟨c', e, r⟩ => ⟨c', e, r.mono hK⟩) hcl fun f c' ctv h' tk ps' W F' N' e hr l1 l2 l3 => ?_
  rcases e with ⟨e1, rfl⟩ | ⟨e1, rfl, hrW⟩
  · rcases ht with rfl | ⟨c1, c2, rfl, h1, h2⟩
    · cases e1
    · have : c1 = c' := by simpa [codeAmong, rawInt] using e1
      subst this
      exact h f c1 ctv h' tk _ W F' N' (.inr ⟨c1, c2, rfl, h1.mono fun p hp => List.mem_append_right _ hp, h2.mono fun p hp => List.mem_append_right _ hp⟩) (h1.mono fun p hp => List.mem_append_right _ hp) l1 l2 l3
  · rcases ht with rfl | ⟨c1, c2, rfl, h1, h2⟩
    · exact h f c' ctv h' tk _ W F' N' (.inl ⟨c', rfl, hrW.mono fun p hp => List.mem_append_left _ hp⟩) (hrW.mono fun p hp => List.mem_append_left _ hp) l1 l2 l3
    · simp [codeAmong, rawInt] at e1
theorem lam_second {M : Model} {A : Around} {E : Value → Shared → Prop} {s : Shared} {h₀ : Heap} {L a c P : Addr} {m mg mb : PySem.Str → Option Value} {cn : PySem.Str} {cs : Scope} {ccd : Value} {cl : List (PySem.Str × Addr)} {rest K : List (Addr × Obj)}
  {p : Program} {loose : List PySem.Str} {mean : ExcName → Option Value} {name qual : PySem.Str} {params : Arguments} {body : PySem.Expr} {scope : Scope} {ps : Array Value} {pos pos' : Pos} {firstLine : Nat} {clos : List (PySem.Str × Addr)} {Q : Value → Shared → Prop}
    (F : Fr h₀ L s.heap m) (N : News h₀ L s.heap ((P, tabObj ps) :: rest)) (T : Top p loose mean mg mb h₀) (C : CodeHd h₀ c P) (hcd : ccd = .ref c) (hoff : ∀ p ∈ rest, p.1 ≠ P) (hK : ∀ p ∈ K, p ∈ rest) (ht : TabM qual pos' pos ps K) (hpos : (((pos'.line : Int) == (pos.line : Int)) && ((pos'.col : Int) == (pos.col : Int))) = false)
    (hcl : closureFor scope (envX cn cs L a ccd cl) = pure clos)
    (h : ∀ f c' ctv h' tk ps' W, Fr h₀ L h' m → News h₀ L h' ((f, kla_obj name qual params body scope clos ((mg "__name__").getD .none) c' ctv) :: (P, tabObj ps') :: (W ++ rest)) →
      TabB qual pos' pos ps' (W ++ K) → RecIn qual (W ++ K) c' →
      (∀ q ∈ W ++ rest, q.1 < f) → P < f → (∀ p ∈ W, P < p.1 ∧ ∀ q ∈ rest, q.1 < p.1) → Q (.ref f) { s with heap := h', toks := tk }) :
    wpAny M A (makeFunction name qual params (.expr body) scope (envX cn cs L a ccd cl) [] [] [] pos firstLine) Q E s := by
  have hto : TriplesOk ps.toList := by
    rcases ht with ⟨c1, rfl, _⟩ | ⟨c1, c2, rfl, _⟩
    · simp [TriplesOk, rawInt]
    · simp [TriplesOk, rawInt]
  have hc : codeAmong pos ps.toList = none ∨ ∃ c', codeAmong pos ps.toList = some (.ref c') ∧ RecIn qual K c' := by
    rcases ht with ⟨c1, rfl, h1⟩ | ⟨c1, c2, rfl, h1, h2⟩
    · exact .inl (by simp only [codeAmong, rawInt, hpos]; rfl)
    · exact .inr ⟨c2, by simp only [codeAmong, rawInt, hpos]; simp, h2⟩
  refine lam_tab F N T C hcd hoff hto (hc.imp id fun ⟨c', e, r⟩ => ⟨c', e, r.mono hK⟩) hcl fun f c' ctv h' tk ps' W F' N' e hr l1 l2 l3 => ?_
  rcases e with ⟨e1, rfl⟩ | ⟨e1, rfl, hrW⟩
  · rcases ht with ⟨c1, rfl, h1⟩ | ⟨c1, c2, rfl, h1, h2⟩
    · simp only [codeAmong, rawInt, hpos] at e1
      cases e1
    · have : c2 = c' := by
        simp only [codeAmong, rawInt, hpos] at e1
        simpa using e1
      subst this
      exact h f c2 ctv h' tk _ W F' N' ⟨c1, c2, rfl, h1.mono fun p hp => List.mem_append_right _ hp, h2.mono fun p hp => List.mem_append_right _ hp⟩ (h2.mono fun p hp => List.mem_append_right _ hp) l1 l2 l3
  · rcases ht with ⟨c1, rfl, h1⟩ | ⟨c1, c2, rfl, h1, h2⟩
    · exact h f c' ctv h' tk _ W F' N' ⟨c1, c', rfl, h1.mono fun p hp => List.mem_append_right _ hp, hrW.mono fun p hp => List.mem_append_left _ hp⟩ (hrW.mono fun p hp => List.mem_append_left _ hp) l1 l2 l3
    · simp only [codeAmong, rawInt, hpos] at e1
      simp at e1

/-- the end of a turn of the loop over the pieces -/
inductive PieceEnd (h₀ : Heap) (L : Addr) (s : Shared) (y : PySem.Str) (vy : Value) (qual : PySem.Str) (pos pos' : Pos) (x0 dl d7 : Addr × Obj) (A9 : Addr) (a8 a7 : Addr × Obj) (A6 : Addr) (a5 a4 a3 a2 a1 : Addr × Obj) (P : Addr) (U : List (Addr × Obj)) (f : Flow) (s₃ : Shared) : Prop where
  | mk : (f = .next) → ∀ h' tk' oP vP oW vW ps U₂ m', (s₃ = { s with heap := h', toks := tk' }) → (oP.data = .cell vP) → (oW.data = .cell vW) → (m' y = some vy) → (Fr h₀ L h' m') → (News h₀ L h' (x0 :: dl :: d7 :: (A9, oW) :: a8 :: a7 :: (A6, oP) :: a5 :: a4 :: a3 :: a2 :: a1 :: (P, tabObj ps) :: U₂)) → (TabN qual pos pos' ps U₂) → ((∀ p ∈ U, p ∈ U₂)) → (OwnOff U₂ [P, x0.1, dl.1, d7.1, A9, a8.1, a7.1, A6, a5.1, a4.1, a3.1, a2.1, a1.1]) → PieceEnd h₀ L s y vy qual pos pos' x0 dl d7 A9 a8 a7 A6 a5 a4 a3 a2 a1 P U f s₃
theorem PieceEnd.intro {h₀ : Heap} {L : Addr} {s : Shared} {y : PySem.Str} {vy : Value} {qual : PySem.Str} {pos pos' : Pos} {x0 dl d7 : Addr × Obj} {A9 : Addr} {a8 a7 : Addr × Obj} {A6 : Addr} {a5 a4 a3 a2 a1 : Addr × Obj} {P : Addr} {U all : List (Addr × Obj)} {h' : Heap} {tk' : Nat} {oP oW : Obj} {vP vW : Option Value} {ps : Array Value} {m' : PySem.Str → Option Value}
    (F : Fr h₀ L h' m') (N : News h₀ L h' all) (U₂ : List (Addr × Obj)) (sub : ∀ p ∈ x0 :: dl :: d7 :: (A9, oW) :: a8 :: a7 :: (A6, oP) :: a5 :: a4 :: a3 :: a2 :: a1 :: (P, tabObj ps) :: U₂, p ∈ all) (h1 : oP.data = .cell vP) (h2 : oW.data = .cell vW) (hm : m' y = some vy)
    (ht : TabN qual pos pos' ps U₂) (hs : ∀ p ∈ U, p ∈ U₂) (ho : OwnOff U₂ [P, x0.1, dl.1, d7.1, A9, a8.1, a7.1, A6, a5.1, a4.1, a3.1, a2.1, a1.1]) :
    PieceEnd h₀ L s y vy qual pos pos' x0 dl d7 A9 a8 a7 A6 a5 a4 a3 a2 a1 P U .next { s with heap := h', toks := tk' } := ⟨rfl, h', tk', oP, vP, oW, vW, ps, U₂, m', rfl, h1, h2, hm, F, fun p hp => N p (sub p hp), ht, hs, ho⟩
theorem lt_front (front : List (Addr × Obj)) {U : List (Addr × Obj)} {I : Addr} (h : ∀ p ∈ front ++ U, p.1 < I) : ∀ b ∈ front.map (·.1), @Ne Nat b I := fun b hb => by
  obtain ⟨q, hq, rfl⟩ := List.mem_map.mp hb
  exact Nat.ne_of_lt (h q (List.mem_append_left _ hq))
theorem lt_tail (front : List (Addr × Obj)) {U : List (Addr × Obj)} {I : Addr} (h : ∀ p ∈ front ++ U, p.1 < I) : ∀ p ∈ U, p.1 ≠ I := fun p hp => Nat.ne_of_lt (h p (List.mem_append_right _ hp))
theorem off_front (front : List (Addr × Obj)) {U : List (Addr × Obj)} {I : Addr} (h : ∀ b ∈ front.map (·.1), @Ne Nat b I) (hU : ∀ p ∈ U, p.1 ≠ I) : ∀ p ∈ front ++ U, p.1 ≠ I := fun p hp =>
  (List.mem_append.mp hp).elim (fun hp => h _ (List.mem_map_of_mem hp)) (hU p)
theorem own_ins {U : List (Addr × Obj)} {P I : Addr} {l : List Addr} (h : OwnOff U (P :: l)) (hI : ∀ p ∈ U, p.1 ≠ I) : OwnOff U (P :: I :: l) := fun p hp b hb => by
  rcases List.mem_cons.mp hb with rfl | hb
  · exact h p hp _ (.head _)
  rcases List.mem_cons.mp hb with rfl | hb
  · exact hI p hp
  · exact h p hp b (.tail _ hb)
inductive PieceJ (y : PySem.Str) (vy : Value) (qual : PySem.Str) (pos pos' : Pos) (D : Addr) (d7 : Addr × Obj) (A9 : Addr) (a8 a7 : Addr × Obj) (A6 : Addr) (a5 a4 a3 a2 a1 : Addr × Obj) (P : Addr) (U : List (Addr × Obj)) (I : Addr) (i : Nat) (m₁ : PySem.Str → Option Value) (r : List (Addr × Obj)) : Prop where
  | mk : ∀ oP oW vP vW ps U', (r = d7 :: (A9, oW) :: a8 :: a7 :: (A6, oP) :: a5 :: a4 :: a3 :: a2 :: a1 :: (P, tabObj ps) :: U') → (oP.data = .cell vP) → (oW.data = .cell vW) → ((∀ p ∈ U, p ∈ U')) → (TabN qual pos pos' ps U') → (OwnOff U' [P, I, D, d7.1, A9, a8.1, a7.1, A6, a5.1, a4.1, a3.1, a2.1, a1.1]) → ((∀ b ∈ [D, d7.1, A9, a8.1, a7.1, A6, a5.1, a4.1, a3.1, a2.1, a1.1, P], @Ne Nat b I)) → (m₁ y = some vy) → PieceJ y vy qual pos pos' D d7 A9 a8 a7 A6 a5 a4 a3 a2 a1 P U I i m₁ r
/-- the loop over the pieces: two cells change, the code table and its records grow -/
theorem for_pieces {prog : Program} {w : World} {A : Around} {E : Value → Shared → Prop} {s : Shared} {env : Env} {h₀ : Heap} {L : Addr} {Q : Flow → Shared → Prop} {tgt : PySem.Expr} {body : List Stmt} {D : Addr} {vs : List Value} {c : Nat} {m : PySem.Str → Option Value}
    {d7 : Addr × Obj} {A9 : Addr} {a8 a7 : Addr × Obj} {A6 : Addr} {a5 a4 a3 a2 a1 : Addr × Obj} {P : Addr} {U : List (Addr × Obj)} {oP oW : Obj} {vP vW : Option Value}
    (y : PySem.Str) (vy : Value) (qual : PySem.Str) (pos pos' : Pos)
    (hh : A.handled = none) (F : Fr h₀ L s.heap m) (N : News h₀ L s.heap ((D, listOf vs.toArray c) :: d7 :: (A9, oW) :: a8 :: a7 :: (A6, oP) :: a5 :: a4 :: a3 :: a2 :: a1 :: (P, tabObj #[]) :: U))
    (h1 : oP.data = .cell vP) (h2 : oW.data = .cell vW) (hm : m y = some vy) (hU : OwnOff U [P, D, d7.1, A9, a8.1, a7.1, A6, a5.1, a4.1, a3.1, a2.1, a1.1])
    (turn : ∀ (I : Addr) (i : Nat) (v : Value) (oI oP oW : Obj) (vP vW : Option Value) (ps : Array Value) U' (m₁ : PySem.Str → Option Value) h tk, vs[i]? = some v → oP.data = .cell vP → oW.data = .cell vW → (∀ p ∈ U, p ∈ U') → TabN qual pos pos' ps U' → OwnOff U' [P, I, D, d7.1, A9, a8.1, a7.1, A6, a5.1, a4.1, a3.1, a2.1, a1.1] → (∀ b ∈ [D, d7.1, A9, a8.1, a7.1, A6, a5.1, a4.1, a3.1, a2.1, a1.1, P], @Ne Nat b I) →
      Fr h₀ L h (withNames [(y, vy)] m₁) → News h₀ L h ((I, oI) :: (D, listOf vs.toArray c) :: d7 :: (A9, oW) :: a8 :: a7 :: (A6, oP) :: a5 :: a4 :: a3 :: a2 :: a1 :: (P, tabObj ps) :: U') →
      wpAny (model prog w) A (assign tgt env v) (fun _ s₂ => wpAny (model prog w) A (execs body env) (PieceEnd h₀ L s y vy qual pos pos' (I, oI) (D, listOf vs.toArray c) d7 A9 a8 a7 A6 a5 a4 a3 a2 a1 P U') E s₂) E { s with heap := h, toks := tk })
    (done : ∀ (oP oW : Obj) (vP vW : Option Value) (ps : Array Value) U' (m₁ : PySem.Str → Option Value) h tk, oP.data = .cell vP → oW.data = .cell vW → (∀ p ∈ U, p ∈ U') → OwnOff U' [P, D, d7.1, A9, a8.1, a7.1, A6, a5.1, a4.1, a3.1, a2.1, a1.1] →
      Fr h₀ L h (withNames [(y, vy)] m₁) → News h₀ L h ((D, listOf vs.toArray c) :: d7 :: (A9, oW) :: a8 :: a7 :: (A6, oP) :: a5 :: a4 :: a3 :: a2 :: a1 :: (P, tabObj ps) :: U') → Q .next { s with heap := h, toks := tk })
    (ht : ∀ I v, letOwnedTupleGo tgt (.ref I) v = pure () := by intro _ _; rfl)
    (hL : env.locals = L := by rfl) (hE : PassesOwn (model prog w) A env E := by passes_own) :
    wpAny (model prog w) A (pyIter (.ref D)) (fun it s₂ => codeAny (model prog w) A (.forLoop tgt it body [] env) (fun r s' => match r with | .ok f => Q f s' | .error e => cameBackBy (model prog w) A env E e s') s₂) E s := by
  refine for_list (PieceJ y vy qual pos pos' D d7 A9 a8 a7 A6 a5 a4 a3 a2 a1 P U) hh F N ?_ ?_ ?_ ht hL hE
  · intro I hI
    exact ⟨oP, oW, vP, vW, #[], U, rfl, h1, h2, fun _ h => h, .inl rfl, own_ins hU (lt_tail [_, _, _, _, _, _, _, _, _, _, _, _] hI), lt_front [_, _, _, _, _, _, _, _, _, _, _, _] hI, hm⟩
  · rintro I i v oI m₁ r h tk hv ⟨oP, oW, vP, vW, ps, U', rfl, h1, h2, hs, hT, hU', hI, hm₁⟩ hoff hDI F₁ N₁
    rw [withNames_eq (ks := [(y, vy)]) ((Mine.allC hm₁ (List.forall_mem_nil _)))] at F₁
    refine wpAny_mono (turn I i v oI oP oW vP vW ps U' m₁ h tk hv h1 h2 hs hT hU' hI F₁ N₁) (fun _ s₂ h₂ => wpAny_mono h₂ (fun f s₃ h₃ => ?_) fun _ _ e => e) fun _ _ e => e
    obtain ⟨rfl, h', tk', oP', vP', oW', vW', ps', U2, m', rfl, h1', h2', hm', F', N', hT', hs', hUU⟩ := h₃
    exact ⟨h', tk', m', _, rfl, F', N', off_front [_, _, _, _, _, _, _, _, _, _, _, _] hI (fun p hp => hUU p hp I (.tail _ (.head _))), _, rfl, oP', oW', vP', vW', ps', U2, rfl, h1', h2', fun p hp => hs' p (hs p hp), hT', hUU, hI, hm'⟩
  · rintro I m₁ r h tk ⟨oP, oW, vP, vW, ps, U', rfl, h1, h2, hs, hT, hU', hI, hm₁⟩ F₁ N₁
    rw [withNames_eq (ks := [(y, vy)]) ((Mine.allC hm₁ (List.forall_mem_nil _)))] at F₁
    exact done oP oW vP vW ps U' m₁ h tk h1 h2 hs (fun p hp b hb => hU' p hp b ((List.mem_cons.mp hb).elim (fun e => e ▸ .head _) fun h => .tail _ (.tail _ h))) F₁ N₁
theorem ltN {a b : Addr} (h : a < b) : @LT.lt Nat _ a b := h
theorem front_in {α : Type} {front U : List α} {P p : α} (h : p ∈ P :: (front ++ U)) : p ∈ front ++ P :: U := by
  rcases List.mem_cons.mp h with rfl | h
  · exact List.mem_append_right _ (.head _)
  rcases List.mem_append.mp h with h | h
  · exact List.mem_append_left _ h
  · exact List.mem_append_right _ (.tail _ h)
theorem lam_in {α : Type} {f P p : α} {front W U : List α} (h : p ∈ f :: (front ++ P :: (W ++ U))) : p ∈ f :: P :: (W ++ (front ++ U)) := by
  rcases List.mem_cons.mp h with rfl | h
  · exact .head _
  rcases List.mem_append.mp h with h | h
  · exact .tail _ (.tail _ (List.mem_append_right _ (List.mem_append_left _ h)))
  rcases List.mem_cons.mp h with rfl | h
  · exact .tail _ (.head _)
  rcases List.mem_append.mp h with h | h
  · exact .tail _ (.tail _ (List.mem_append_left _ h))
  · exact .tail _ (.tail _ (List.mem_append_right _ (List.mem_append_right _ h)))
theorem lam_off {P : Addr} {front W U : List (Addr × Obj)} (ho : OwnOff U (P :: front.map (·.1))) (l3 : ∀ p ∈ W, P < p.1 ∧ ∀ q ∈ front ++ U, q.1 < p.1) : OwnOff (W ++ U) (P :: front.map (·.1)) := by
  intro p hp b hb
  rcases List.mem_append.mp hp with hp | hp
  · rcases List.mem_cons.mp hb with rfl | hb
    · exact Nat.ne_of_gt (l3 p hp).1
    · obtain ⟨q, hq, rfl⟩ := List.mem_map.mp hb
      exact Nat.ne_of_gt ((l3 p hp).2 q (List.mem_append_left _ hq))
  · exact ho p hp b hb
section
variable {M : Model} {A : Around} {E : Value → Shared → Prop} {s : Shared} {h₀ : Heap} {L a c P : Addr} {m mg mb : PySem.Str → Option Value} {cn : PySem.Str} {cs : Scope} {ccd : Value} {cl : List (PySem.Str × Addr)} {U : List (Addr × Obj)}
  {p : Program} {loose : List PySem.Str} {mean : ExcName → Option Value} {name qual : PySem.Str} {params : Arguments} {body : PySem.Expr} {scope : Scope} {ps : Array Value} {pos pos' : Pos} {firstLine : Nat} {clos : List (PySem.Str × Addr)} {Q : Value → Shared → Prop}
theorem lam_piece1 (front : List (Addr × Obj))
    (F : Fr h₀ L s.heap m) (N : News h₀ L s.heap (front ++ (P, tabObj ps) :: U)) (T : Top p loose mean mg mb h₀) (C : CodeHd h₀ c P) (hcd : ccd = .ref c) (hf : ∀ p ∈ front, p.1 ≠ P) (ho : OwnOff U (P :: front.map (·.1))) (ht : TabN qual pos pos' ps U)
    (hcl : closureFor scope (envX cn cs L a ccd cl) = pure clos)
    (h : ∀ f c' ctv h' tk ps' U1, Fr h₀ L h' m → News h₀ L h' ((f, kla_obj name qual params body scope clos ((mg "__name__").getD .none) c' ctv) :: (front ++ (P, tabObj ps') :: U1)) →
      TabM qual pos pos' ps' U1 → RecIn qual U1 c' → (∀ p ∈ U, p ∈ U1) → OwnOff U1 (P :: front.map (·.1)) → Q (.ref f) { s with heap := h', toks := tk }) :
    wpAny M A (makeFunction name qual params (.expr body) scope (envX cn cs L a ccd cl) [] [] [] pos firstLine) Q E s :=
  lam_first (pos' := pos') (rest := front ++ U) (K := U) F (fun p hp => N p (front_in hp)) T C hcd (fun p hp => (List.mem_append.mp hp).elim (hf p) fun hp => ho p hp P (.head _)) (fun _ hp => List.mem_append_right _ hp) ht hcl
    fun f c' ctv h' tk ps' W F' N' ht' hr' _ _ l3 => h f c' ctv h' tk ps' (W ++ U) F' (fun p hp => N' p (lam_in hp)) ht' hr' (fun _ hp => List.mem_append_right _ hp) (lam_off ho l3)
theorem lam_piece2 (front : List (Addr × Obj))
    (F : Fr h₀ L s.heap m) (N : News h₀ L s.heap (front ++ (P, tabObj ps) :: U)) (T : Top p loose mean mg mb h₀) (C : CodeHd h₀ c P) (hcd : ccd = .ref c) (hf : ∀ p ∈ front, p.1 ≠ P) (ho : OwnOff U (P :: front.map (·.1))) (ht : TabM qual pos' pos ps U) (hpos : (((pos'.line : Int) == (pos.line : Int)) && ((pos'.col : Int) == (pos.col : Int))) = false)
    (hcl : closureFor scope (envX cn cs L a ccd cl) = pure clos)
    (h : ∀ f c' ctv h' tk ps' U1, Fr h₀ L h' m → News h₀ L h' ((f, kla_obj name qual params body scope clos ((mg "__name__").getD .none) c' ctv) :: (front ++ (P, tabObj ps') :: U1)) →
      TabB qual pos' pos ps' U1 → RecIn qual U1 c' → (∀ p ∈ U, p ∈ U1) → OwnOff U1 (P :: front.map (·.1)) → Q (.ref f) { s with heap := h', toks := tk }) :
    wpAny M A (makeFunction name qual params (.expr body) scope (envX cn cs L a ccd cl) [] [] [] pos firstLine) Q E s :=
  lam_second (rest := front ++ U) (K := U) F (fun p hp => N p (front_in hp)) T C hcd (fun p hp => (List.mem_append.mp hp).elim (hf p) fun hp => ho p hp P (.head _)) (fun _ hp => List.mem_append_right _ hp) ht hpos hcl
    fun f c' ctv h' tk ps' W F' N' ht' hr' _ _ l3 => h f c' ctv h' tk ps' (W ++ U) F' (fun p hp => N' p (lam_in hp)) ht' hr' (fun _ hp => List.mem_append_right _ hp) (lam_off ho l3)
end
/-- the lambda, its cell and its code record, kept through a call -/
inductive KeyKeep (qual : PySem.Str) (f A9 c : Addr) (oF oW : Obj) (all : List (Addr × Obj)) : Prop where
  | mk : ∀ keep oc vs t, keep = [(f, oF), (A9, oW), (c, oc)] → oc.data = .fields vs → vs[1]? = some (.str qual t) → (∀ p ∈ keep, p ∈ all) → KeyKeep qual f A9 c oF oW all
theorem key_keep {name qual : PySem.Str} {params : Arguments} {body : PySem.Expr} {scope : Scope} {clos : List (PySem.Str × Addr)} {mn ctv : Value} {f c A9 : Addr} {x1 x2 x3 : Addr × Obj} {oW : Obj} {rest T : List (Addr × Obj)} {h₀ h : Heap} {L : Addr}
    (N : News h₀ L h ((f, kla_obj name qual params body scope clos mn c ctv) :: x1 :: x2 :: x3 :: (A9, oW) :: rest)) (r : RecIn qual T c) (hT : ∀ p ∈ T, p ∈ rest) :
    KeyKeep qual f A9 c (kla_obj name qual params body scope clos mn c ctv) oW ((f, kla_obj name qual params body scope clos mn c ctv) :: x1 :: x2 :: x3 :: (A9, oW) :: rest) := by
  obtain ⟨oc, vs, t, hm, hd, hv⟩ := r
  refine ⟨_, oc, vs, t, rfl, hd, hv, fun p hp => ?_⟩
  rcases List.mem_cons.mp hp with rfl | hp
  · exact .head _
  rcases List.mem_cons.mp hp with rfl | hp
  · exact .tail _ (.tail _ (.tail _ (.tail _ (.head _))))
  · cases List.mem_singleton.mp hp
    exact .tail _ (.tail _ (.tail _ (.tail _ (.tail _ (hT _ hm)))))
theorem news_keep {h₀ h : Heap} {L : Addr} {a b c d : Addr × Obj} {news : List (Addr × Obj)} (N : News h₀ L h news) (hk : ∀ p ∈ [a, b, c], p ∈ news) (hd : d ∈ news) : News h₀ L h (a :: b :: c :: d :: news) := fun p hp => N p (by
  rcases List.mem_cons.mp hp with rfl | hp
  · exact hk _ (.head _)
  rcases List.mem_cons.mp hp with rfl | hp
  · exact hk _ (.tail _ (.head _))
  rcases List.mem_cons.mp hp with rfl | hp
  · exact hk _ (.tail _ (.tail _ (.head _)))
  rcases List.mem_cons.mp hp with rfl | hp
  · exact hd
  · exact hp)
theorem kept_wlen (b : Bool) (x : PySem.Str) (hx : x.length ≤ 6) : ∀ k, ∀ p ∈ keptRows b x k, p.1.length ≤ 360000
  | 0, _, hp => nomatch hp
  | k + 1, p, hp => by
    unfold keptRows rowsIns at hp
    rcases List.mem_append.mp hp with hp | hp
    · exact kept_wlen b x hx k p (List.mem_of_mem_take hp)
    rcases List.mem_cons.mp hp with rfl | hp
    · exact wr_len b (Nat.le_trans (Txt.slice_le _ _ _) hx)
    · exact kept_wlen b x hx k p (List.mem_of_mem_drop hp)
theorem neNat {a b : Addr} (h : a ≠ b) : @Ne Nat a b := h

theorem IsW.keyLt {b : Bool} {σ : Nat → Nat} {x y : PySem.Str} {v Y : List Nat} (S : Sig b σ) (h : IsW σ x v) (hy : IsW σ y Y) {ps : List Nat} {k : Nat} (hk : k < ps.length) :
    Mine.keyLt (fun z => Txt.slice z none (some ((Mine.wr b y).length : Int))) (ps.map (rowV b x)) (Mine.wr b y) k = lexN (v.drop (ps.getD k 0)) Y := by
  have e2 : (Mine.wr b y).length = (wrN b σ Y).length := by
    have := congrArg List.length (hy.wr (b := b))
    rw [Array.length_toList] at this
    exact this
  have e3 : (Txt.slice (((ps.map (rowV b x)).getD k (⟨#[]⟩, 0)).1) none (some ((Mine.wr b y).length : Int))).cps.toList = (wrN b σ (v.drop ps[k])).take (wrN b σ Y).length := by
    rw [List.getD_eq_getElem?_getD, List.getElem?_map, List.getElem?_eq_getElem hk, Option.map_some, Option.getD_some, slice_upto, e2]
    unfold rowV
    dsimp only
    rw [(h.from _).wr]
  have e4 : ps.getD k 0 = ps[k] := by rw [List.getD_eq_getElem?_getD, List.getElem?_eq_getElem hk]; rfl
  unfold Mine.keyLt
  rw [e4]
  cases q : lexN (v.drop ps[k]) Y with
  | true =>
    refine decide_eq_true ?_
    dsimp only
    rw [e3, hy.wr]
    exact (lt_take_iff _ _).mpr ((S.lt (h.from _).1 hy.1).mpr q)
  | false =>
    refine decide_eq_false fun e => ?_
    dsimp only at e
    rw [e3, hy.wr] at e
    rw [(S.lt (h.from _).1 hy.1).mp ((lt_take_iff _ _).mp e)] at q
    cases q
theorem IsW.keyGt {b : Bool} {σ : Nat → Nat} {x y : PySem.Str} {v Y : List Nat} (S : Sig b σ) (h : IsW σ x v) (hy : IsW σ y Y) {ps : List Nat} {k : Nat} (hk : k < ps.length) :
    Mine.keyGt (fun z => Txt.slice z none (some ((Mine.wr b y).length : Int))) (ps.map (rowV b x)) (Mine.wr b y) k = lexN Y ((v.drop (ps.getD k 0)).take Y.length) := by
  have e2 : (Mine.wr b y).length = (wrN b σ Y).length := by
    have := congrArg List.length (hy.wr (b := b))
    rw [Array.length_toList] at this
    exact this
  have e3 : (Txt.slice (((ps.map (rowV b x)).getD k (⟨#[]⟩, 0)).1) none (some ((Mine.wr b y).length : Int))).cps.toList = (wrN b σ (v.drop ps[k])).take (wrN b σ Y).length := by
    rw [List.getD_eq_getElem?_getD, List.getElem?_map, List.getElem?_eq_getElem hk, Option.map_some, Option.getD_some, slice_upto, e2]
    unfold rowV
    dsimp only
    rw [(h.from _).wr]
  have e4 : ps.getD k 0 = ps[k] := by rw [List.getD_eq_getElem?_getD, List.getElem?_eq_getElem hk]; rfl
  unfold Mine.keyGt
  rw [e4]
  cases q : lexN Y ((v.drop ps[k]).take Y.length) with
  | true =>
    refine decide_eq_true ?_
    dsimp only
    rw [e3, hy.wr]
    exact (S.gt (h.from _).1 hy.1).mpr q
  | false =>
    refine decide_eq_false fun e => ?_
    dsimp only at e
    rw [e3, hy.wr] at e
    rw [(S.gt (h.from _).1 hy.1).mp e] at q
    cases q
/-- how often a piece stands in a word, by the word's places in order -/
noncomputable def countOk (v Y : List Nat) : Bool :=
  Nat.beq (bisR (fun k => lexN Y ((v.drop ((ksV v).getD k 0)).take Y.length)) 6 0 v.length) (bisR (fun k => !lexN (v.drop ((ksV v).getD k 0)) Y) 6 0 v.length + ((List.range v.length).filter fun s => listEq ((v.drop s).take Y.length) Y).length)
noncomputable def words12 : List (List Nat) := words 1 ++ words 2
theorem count4 : ((words 4).all fun v => words12.all (countOk v)) = true := by decide +kernel
theorem count5 : ((words 5).all fun v => words12.all (countOk v)) = true := by decide +kernel
theorem count6_0 : ((words 6).take 122).all (fun v => words12.all (countOk v)) = true := by decide +kernel
theorem count6_1 : (((words 6).drop 122).take 122).all (fun v => words12.all (countOk v)) = true := by decide +kernel
theorem count6_2 : ((((words 6).drop 122).drop 122).take 122).all (fun v => words12.all (countOk v)) = true := by decide +kernel
theorem count6_3 : (((((words 6).drop 122).drop 122).drop 122).take 122).all (fun v => words12.all (countOk v)) = true := by decide +kernel
theorem count6_4 : ((((((words 6).drop 122).drop 122).drop 122).drop 122).take 122).all (fun v => words12.all (countOk v)) = true := by decide +kernel
theorem count6_5 : ((((((words 6).drop 122).drop 122).drop 122).drop 122).drop 122).all (fun v => words12.all (countOk v)) = true := by decide +kernel
theorem count6 : (words 6).all (fun v => words12.all (countOk v)) = true := (all_split 122 count6_0 (all_split 122 count6_1 (all_split 122 count6_2 (all_split 122 count6_3 (all_split 122 count6_4 count6_5)))))
theorem count_all : (words456.all fun v => words12.all (countOk v)) = true := by
  unfold words456
  rw [List.all_append, List.all_append, count4, count5, count6]
  rfl
theorem plain_count {b : Bool} {x x5 y : PySem.Str} {l l5 : List Int} {T : Int} (hx : x.cps.toList = l.map fun c => sg3 T (c.fmod 3).toNat) (hx5 : x5.cps.toList = l5.map fun c => sg3 T (c.fmod 3).toNat) (h4 : 4 ≤ x.length) (h6 : x.length ≤ 6) (hy : PieceOf x5 y) :
    ((bisR (fun k => keyGt (fun z => Txt.slice z none (some ((wr b y).length : Int))) (keptRows b x x.length) (wr b y) k) 6 0 (keptRows b x x.length).length : Nat) : Int) -
      ((bisR (fun k => !keyLt (fun z => Txt.slice z none (some ((wr b y).length : Int))) (keptRows b x x.length) (wr b y) k) 6 0 (keptRows b x x.length).length : Nat) : Int) =
      (((List.range x.length).filter fun s : Nat => Txt.slice x (some (0 + (s : Int))) (some (0 + (s : Int) + (y.length : Int))) == y).length : Nat) := by
  obtain ⟨σ, ρ, S, hr⟩ := sig_of b T
  have hw := word_of (b := b) hr hx
  have hw5 := word_of (b := b) hr hx5
  obtain ⟨k, n, hn, hk, ey⟩ := hy
  have hY : IsW σ y (((l5.map fun c => ρ (c.fmod 3).toNat).drop k).take n) := ⟨fun c hc => hw5.1 c (List.mem_of_mem_drop (List.mem_of_mem_take hc)), by rw [ey, hw5.2, List.map_take, List.map_drop]⟩
  have hYl : (((l5.map fun c => ρ (c.fmod 3).toNat).drop k).take n).length = n := by
    have := hw5.len
    rw [List.length_take, List.length_drop]
    omega
  generalize hv : (l.map fun c => ρ (c.fmod 3).toNat) = v at hw
  generalize hYe : ((l5.map fun c => ρ (c.fmod 3).toNat).drop k).take n = Y at hY hYl
  have hvl := hw.len
  rw [kept_P S hw, List.length_map]
  rw [hvl] at h4 h6
  have hpl := ks_len v
  have e1 : bisR (fun k => keyGt (fun z => Txt.slice z none (some ((wr b y).length : Int))) ((ksV v).map (rowV b x)) (wr b y) k) 6 0 (ksV v).length = bisR (fun k => lexN Y ((v.drop ((ksV v).getD k 0)).take Y.length)) 6 0 v.length := by
    rw [hpl]
    exact bisR_congr fun j hj => hw.keyGt S hY (by omega)
  have e2 : bisR (fun k => !keyLt (fun z => Txt.slice z none (some ((wr b y).length : Int))) ((ksV v).map (rowV b x)) (wr b y) k) 6 0 (ksV v).length = bisR (fun k => !lexN (v.drop ((ksV v).getD k 0)) Y) 6 0 v.length := by
    rw [hpl]
    exact bisR_congr fun j hj => by rw [hw.keyLt S hY (by omega)]
  have e3 : ((List.range x.length).filter fun s : Nat => Txt.slice x (some (0 + (s : Int))) (some (0 + (s : Int) + (y.length : Int))) == y) = ((List.range v.length).filter fun s => listEq ((v.drop s).take Y.length) Y) := by
    rw [hvl]
    refine List.filter_congr fun s _ => ?_
    rw [Int.zero_add, show ((s : Int) + (y.length : Int)) = ((s + y.length : Nat) : Int) from rfl, hY.len]
    have hr := hw.run s (s + Y.length)
    rw [show s + Y.length - s = Y.length from by omega] at hr
    have := IsW.eq S hr hY
    cases q : listEq ((v.drop s).take Y.length) Y with
    | true => exact beq_iff_eq.mpr (this.mpr (listEq_iff.mp q))
    | false => exact beq_eq_false_iff_ne.mpr fun e => by rw [listEq_iff.mpr (this.mp e)] at q; cases q
  rw [e1, e2, e3]
  have hY12 : Y ∈ words12 := by
    have := mem_words hY.1
    rw [hYl] at this
    rcases hn with rfl | rfl
    · exact List.mem_append_left _ this
    · exact List.mem_append_right _ this
  have := List.all_eq_true.mp (all456 count_all hw.1 h4 h6) Y hY12
  have := Nat.eq_of_beq_eq_true this
  omega

/-- how far two words begin alike -/
noncomputable def alikeV (X Y : List Nat) (n : Nat) : Nat := (maxI (((List.range n).filter fun s => listEq (X.take s) (Y.take s) && Nat.ble s (if Y.length < X.length then Y.length else X.length)).map fun i : Nat => (i : Int))).toNat
/-- the lead's signs, by the places in order -/
noncomputable def leadV (v ps : List Nat) : Nat → List Nat
  | 0 => []
  | i + 1 => leadV v ps i ++ (List.replicate (alikeV (v.drop (ps.getD i 0)) (v.drop (ps.getD (i + 1) 0)) v.length) 32 ++ [9])
section
variable {b : Bool} {σ : Nat → Nat} {x y : PySem.Str} {v X Y : List Nat}
theorem IsW.alike (S : Sig b σ) (hx : IsW σ x X) (hy : IsW σ y Y) (n : Nat) (hn : 0 < n) : alikeM x y n = (alikeV X Y n : Int) := by
  have h0 := (alikeM_le x y hn).1
  have e : alikeN x y n = (List.range n).filter fun s => listEq (X.take s) (Y.take s) && Nat.ble s (if Y.length < X.length then Y.length else X.length) := by
    unfold alikeN
    refine List.filter_congr fun s _ => ?_
    rw [Int.zero_add]
    congr 1
    · have := IsW.eq S (hx.upto s) (hy.upto s)
      cases q : listEq (X.take s) (Y.take s) with
      | true => exact beq_iff_eq.mpr (this.mpr (listEq_iff.mp q))
      | false => exact beq_eq_false_iff_ne.mpr fun e => by rw [listEq_iff.mpr (this.mp e)] at q; cases q
    · rw [hx.len, hy.len]
      have e2 : (if (Y.length : Int) < (X.length : Int) then (Y.length : Int) else (X.length : Int)) = ((if Y.length < X.length then Y.length else X.length : Nat) : Int) := by
        split <;> split <;> omega
      rw [e2]
      cases q : Nat.ble s (if Y.length < X.length then Y.length else X.length) with
      | true => exact decide_eq_true (by have := Nat.le_of_ble_eq_true q; omega)
      | false => exact decide_eq_false fun h => by rw [Nat.ble_eq.mpr (by omega)] at q; cases q
  unfold alikeM at h0 ⊢
  unfold alikeV
  rw [e] at h0 ⊢
  omega
theorem lead_V (S : Sig b σ) (h : IsW σ x v) {ps : List Nat} (h0 : 0 < v.length) : ∀ i, i < ps.length ∨ i = 0 → (leadS x (ps.map (rowV b x)) i).cps.toList = leadV v ps i
  | 0, _ => by show (PySem.Str.ofString "").cps.toList = []; decide +kernel
  | i + 1, hi => by
    have hi' : i + 1 < ps.length := by omega
    have ih := lead_V S h h0 (ps := ps) i (.inl (by omega))
    have e1 : ∀ j, j < ps.length → ((ps.map (rowV b x)).getD j (⟨#[]⟩, 0)).2 = ((ps.getD j 0 : Nat) : Int) := fun j hj => by
      rw [List.getD_eq_getElem?_getD, List.getElem?_map, List.getD_eq_getElem?_getD, List.getElem?_eq_getElem hj]
      rfl
    rw [leadS, leadV, e1 i (by omega), e1 (i + 1) hi', h.len, IsW.alike S (h.from _) (h.from _) _ h0]
    rw [show PySem.Str.ofString " " = ⟨#[32]⟩ from by decide +kernel, show PySem.Str.ofString "\t" = ⟨#[9]⟩ from by decide +kernel]
    show ((_ ++ _ : PySem.Str) ++ _ : PySem.Str).cps.toList = _
    rw [show ∀ a c : PySem.Str, (a ++ c).cps.toList = a.cps.toList ++ c.cps.toList from fun a c => Array.toList_append, show ∀ a c : PySem.Str, (a ++ c).cps.toList = a.cps.toList ++ c.cps.toList from fun a c => Array.toList_append, ih, mul_one_list, Int.toNat_natCast, List.append_assoc]
theorem leadV_signs (v ps : List Nat) : ∀ i, ∀ c ∈ leadV v ps i, c = 32 ∨ c = 9
  | 0, c, h => nomatch h
  | i + 1, c, h => by
    rw [leadV] at h
    rcases List.mem_append.mp h with h | h
    · exact leadV_signs v ps i c h
    rcases List.mem_append.mp h with h | h
    · exact .inl (List.eq_of_mem_replicate h)
    · exact .inr (List.mem_singleton.mp h)
end
theorem wsRun_app : ∀ {X : List Nat} {Y : List Nat} {st : Wst}, (∀ c ∈ X, c = 32 ∨ c = 9) → wsRun (X ++ Y) st = wsRun Y (wsRun X st)
  | [], _, _, _ => rfl
  | c :: X, Y, st, h => by
    have hr : ∀ d ∈ X, d = 32 ∨ d = 9 := fun d hd => h d (.tail _ hd)
    rw [List.cons_append, wsRun, wsRun]
    rcases h c (.head _) with rfl | rfl
    · rw [if_pos rfl, if_pos rfl]; exact wsRun_app hr
    · rw [if_neg (by decide), if_pos rfl, if_neg (by decide), if_pos rfl]; exact wsRun_app hr
/-- lists without what stood before -/
noncomputable def metLN (σ : List (List Nat)) (v : List Nat) : List (List Nat) := if σ.any (fun k => listEq k v) then σ else σ ++ [v]
theorem any_met {g : List Nat → PySem.Str} {Ok : List Nat → Prop} (hg : ∀ X Y, Ok X → Ok Y → (g X = g Y ↔ X = Y)) {X : List Nat} : ∀ s : List (List Nat), (∀ Y ∈ s, Ok Y) → Ok X → ((s.map g).any fun k => decide (k = g X)) = s.any fun k => listEq k X
  | [], _, _ => rfl
  | Y :: s, hs, hX => by
    rw [List.map_cons, List.any_cons, List.any_cons, any_met hg s (fun Z hZ => hs Z (.tail _ hZ)) hX]
    congr 1
    have := hg Y X (hs Y (.head _)) hX
    cases q : listEq Y X with
    | true => exact decide_eq_true (this.mpr (listEq_iff.mp q))
    | false => exact decide_eq_false fun e => by rw [listEq_iff.mpr (this.mp e)] at q; cases q
theorem met_map {g : List Nat → PySem.Str} {Ok : List Nat → Prop} (hg : ∀ X Y, Ok X → Ok Y → (g X = g Y ↔ X = Y)) : ∀ (L s : List (List Nat)), (∀ X ∈ L, Ok X) → (∀ X ∈ s, Ok X) → (L.map g).foldl metL (s.map g) = (L.foldl metLN s).map g
  | [], _, _, _ => rfl
  | X :: L, s, hL, hs => by
    rw [List.map_cons, List.foldl_cons, List.foldl_cons]
    have hX := hL X (.head _)
    have e : metL (s.map g) (g X) = (metLN s X).map g := by
      unfold metL metLN
      have e1 : ((s.map g).any fun k => decide (k = g X)) = s.any fun k => listEq k X := by
        exact any_met hg s hs hX
      rw [e1]
      split
      · rfl
      · rw [List.map_append]; rfl
    rw [e]
    refine met_map hg L _ (fun Y hY => hL Y (.tail _ hY)) fun Y hY => ?_
    unfold metLN at hY
    split at hY
    · exact hs Y hY
    · rcases List.mem_append.mp hY with hY | hY
      · exact hs Y hY
      · rw [List.mem_singleton.mp hY]; exact hX
/-- how many pieces of one size have come before, in a word -/
noncomputable def piecesV (v : List Nat) (k : Nat) : List (List Nat) := (List.range (v.length + 1 - k)).map fun j => (v.drop j).take k
noncomputable def againV (v : List Nat) : List Int := (List.range v.length).map fun i => (((v.length - i : Nat) : Int)) - (((piecesV v (i + 1)).foldl metLN []).length : Int)
theorem again_V {b : Bool} {σ : Nat → Nat} {x : PySem.Str} {v : List Nat} (S : Sig b σ) (h : IsW σ x v) : againI x = againV v := by
  unfold againI againV
  rw [h.len]
  refine List.map_congr_left fun i hi => ?_
  have hi := List.mem_range.mp hi
  unfold againAt
  rw [h.len]
  have e1 : ((v.length : Int) - (1 + (i : Int)) + 1 - 0).toNat = v.length - i := by omega
  rw [e1]
  congr 2
  have e2 : piecesOf x (1 + (i : Int)) (v.length - i) = (piecesV v (i + 1)).map fun X => (⟨(X.map σ).toArray⟩ : PySem.Str) := by
    unfold piecesOf piecesV
    rw [List.map_map, show v.length + 1 - (i + 1) = v.length - i from by omega]
    refine List.map_congr_left fun j _ => ?_
    refine str_list ?_
    have := (h.run j (j + (i + 1))).2
    rw [show j + (i + 1) - j = i + 1 from by omega] at this
    rw [Int.zero_add, show ((j : Int) + (1 + (i : Int))) = ((j + (i + 1) : Nat) : Int) from by omega, this]
    show _ = (List.toArray _).toList
    rw [List.toList_toArray]
  have hOk : ∀ X ∈ piecesV v (i + 1), ∀ c ∈ X, c < 3 := by
    intro X hX c hc
    unfold piecesV at hX
    obtain ⟨j, _, rfl⟩ := List.mem_map.mp hX
    exact h.1 c (List.mem_of_mem_drop (List.mem_of_mem_take hc))
  rw [e2]
  unfold metUp
  have := met_map (g := fun X => (⟨(X.map σ).toArray⟩ : PySem.Str)) (Ok := fun X => ∀ c ∈ X, c < 3) (fun X Y hX hY => ⟨fun e => S.map_inj hX hY (by
    have := congrArg (fun s : PySem.Str => s.cps.toList) e
    simpa using this), fun e => by rw [e]⟩) (piecesV v (i + 1)) [] hOk (fun X hX => nomatch hX)
  rw [List.map_nil] at this
  rw [this, List.length_map]
/-- the shape that a whole text's lead has, by its count -/
noncomputable def wsN (A : List Int) : Wst := ⟨((A.getD 0 0 + 1).fdiv 2).toNat, ((A.getD 0 0 + 1).fdiv 2).toNat + (A.length - 1) + ((List.range (normI A).length).map fun i => i * ((normI A).getD i 0).toNat).sum, A.length - 1, normI A⟩
noncomputable def wstEq (s t : Wst) : Bool := Nat.beq s.b t.b && Nat.beq s.n t.n && Nat.beq s.nt t.nt && decide (s.cnt = t.cnt)
theorem wstEq_iff {s t : Wst} (h : wstEq s t = true) : s = t := by
  unfold wstEq at h
  simp only [Bool.and_eq_true, decide_eq_true_eq] at h
  obtain ⟨⟨⟨h1, h2⟩, h3⟩, h4⟩ := h
  cases s; cases t
  rw [Wst.mk.injEq]
  exact ⟨Nat.eq_of_beq_eq_true h1, Nat.eq_of_beq_eq_true h2, Nat.eq_of_beq_eq_true h3, h4⟩
noncomputable def stV (v : List Nat) : List Nat := leadV v (ksV v) (v.length - 1)
noncomputable def tabs (n : Nat) : List (List Int) := match n with
  | 4 => [[1, 0, 0, 0], [2, 0, 0, 0], [2, 1, 0, 0], [3, 2, 1, 0]]
  | 5 => [[2, 0, 0, 0, 0], [2, 1, 0, 0, 0], [3, 0, 0, 0, 0], [3, 1, 0, 0, 0], [3, 2, 1, 0, 0], [4, 3, 2, 1, 0]]
  | 6 => [[3, 0, 0, 0, 0, 0], [3, 1, 0, 0, 0, 0], [3, 2, 1, 0, 0, 0], [4, 1, 0, 0, 0, 0], [4, 2, 0, 0, 0, 0], [4, 2, 1, 0, 0, 0], [4, 3, 2, 1, 0, 0], [5, 4, 3, 2, 1, 0]]
  | _ => []
noncomputable def leadOk (v : List Nat) : Bool :=
  (tabs v.length).any fun A => decide (againV v = A) && wstEq (wsRun (stV v ++ List.replicate ((A.getD 0 0 + 1).fdiv 2).toNat 32) ⟨0, 0, 0, []⟩) (wsN A) && decide (againV v.reverse = A)

theorem lead4 : (words 4).all leadOk = true := by decide +kernel
theorem lead5_0 : ((words 5).take 81).all leadOk = true := by decide +kernel
theorem lead5_1 : (((words 5).drop 81).take 81).all leadOk = true := by decide +kernel
theorem lead5_2 : (((words 5).drop 81).drop 81).all leadOk = true := by decide +kernel
theorem lead5 : (words 5).all leadOk = true := (all_split 81 lead5_0 (all_split 81 lead5_1 lead5_2))
theorem lead6_0 : ((words 6).take 81).all leadOk = true := by decide +kernel
theorem lead6_1 : (((words 6).drop 81).take 81).all leadOk = true := by decide +kernel
theorem lead6_2 : ((((words 6).drop 81).drop 81).take 81).all leadOk = true := by decide +kernel
theorem lead6_3 : (((((words 6).drop 81).drop 81).drop 81).take 81).all leadOk = true := by decide +kernel
theorem lead6_4 : ((((((words 6).drop 81).drop 81).drop 81).drop 81).take 81).all leadOk = true := by decide +kernel
theorem lead6_5 : (((((((words 6).drop 81).drop 81).drop 81).drop 81).drop 81).take 81).all leadOk = true := by decide +kernel
theorem lead6_6 : ((((((((words 6).drop 81).drop 81).drop 81).drop 81).drop 81).drop 81).take 81).all leadOk = true := by decide +kernel
theorem lead6_7 : (((((((((words 6).drop 81).drop 81).drop 81).drop 81).drop 81).drop 81).drop 81).take 81).all leadOk = true := by decide +kernel
theorem lead6_8 : (((((((((words 6).drop 81).drop 81).drop 81).drop 81).drop 81).drop 81).drop 81).drop 81).all leadOk = true := by decide +kernel
theorem lead6 : (words 6).all leadOk = true := (all_split 81 lead6_0 (all_split 81 lead6_1 (all_split 81 lead6_2 (all_split 81 lead6_3 (all_split 81 lead6_4 (all_split 81 lead6_5 (all_split 81 lead6_6 (all_split 81 lead6_7 lead6_8))))))))
theorem lead_all : words456.all leadOk = true := by
  unfold words456
  rw [List.all_append, List.all_append, lead4, lead5, lead6]
  rfl
/-- all that is asked of a whole text's count alone -/
noncomputable def tabOk (A : List Int) : Bool := decide (longW (wsN A) = longI A) && ((List.range 8).all fun i => decide (levelW (wsN A) (1 + (i : Int)) = levI A (1 + (i : Int)))) && decide (1 ≤ A.getD 0 0 ∧ A.getD 0 0 ≤ 5) && decide (1 ≤ longI A ∧ longI A ≤ 6) && decide (((((A.length : Int) - 1) :: A).filter fun a => decide (0 < a)).length ≤ A.length)
noncomputable def tabAll : List (List Int) := tabs 4 ++ tabs 5 ++ tabs 6
theorem tab_all : tabAll.all tabOk = true := by decide +kernel
/-- all that is asked of two counts -/
noncomputable def lawTop (A B : List Int) : Nat := ((if longI B > longI A then longI B else longI A) + 1).toNat
noncomputable def pairOk (A B : List Int) : Bool := (sameW (wsN A) (wsN B) == decide (A = B)) && (lessW (wsN A) (wsN B) == decide (witW (fun a b => decide (b ≤ a)) (levI A) (levI B) (lawTop A B) = []))
theorem pairs_ok : ((tabs 4).all fun A => (tabs 6).all fun B => pairOk A B && pairOk B A) && ((tabs 5).all fun A => (tabs 5).all fun B => pairOk A B && pairOk B A) = true := by decide +kernel

theorem leadOk_of {v : List Nat} (hv : ∀ c ∈ v, c < 3) (h4 : 4 ≤ v.length) (h6 : v.length ≤ 6) : againV v ∈ tabs v.length ∧ wsRun (stV v ++ List.replicate (((againV v).getD 0 0 + 1).fdiv 2).toNat 32) ⟨0, 0, 0, []⟩ = wsN (againV v) ∧ againV v.reverse = againV v := by
  obtain ⟨A, hA, h⟩ := List.any_eq_true.mp (all456 lead_all hv h4 h6)
  rw [Bool.and_eq_true, Bool.and_eq_true] at h
  have e := of_decide_eq_true h.1.1
  rw [e]
  exact ⟨hA, wstEq_iff h.1.2, of_decide_eq_true h.2⟩
section
variable {x x' z : PySem.Str} {l : List Int} {T : Int}
theorem plain_again (hx : x.cps.toList = l.map fun c => sg3 T (c.fmod 3).toNat) (h4 : 4 ≤ x.length) (h6 : x.length ≤ 6) : againI x ∈ tabs x.length := by
  obtain ⟨σ, ρ, S, hr⟩ := sig_of true T
  have hw := word_of (b := true) hr hx
  rw [again_V S hw]
  rw [hw.len] at h4 h6 ⊢
  exact (leadOk_of hw.1 h4 h6).1
theorem plain_rev (hx : x.cps.toList = l.map fun c => sg3 T (c.fmod 3).toNat) (h4 : 4 ≤ x.length) (h6 : x.length ≤ 6) (hx' : x'.cps.toList = x.cps.toList.reverse) : againI x' = againI x := by
  obtain ⟨σ, ρ, S, hr⟩ := sig_of true T
  have hw := word_of (b := true) hr hx
  have hw' : IsW σ x' (l.map fun c => ρ (c.fmod 3).toNat).reverse := ⟨fun c hc => hw.1 c (List.mem_reverse.mp hc), by rw [hx', hw.2, List.map_reverse]⟩
  rw [again_V S hw, again_V S hw']
  rw [hw.len] at h4 h6
  exact (leadOk_of hw.1 h4 h6).2.2
theorem plain_wsf {b : Bool} {Y : List Nat} (hx : x.cps.toList = l.map fun c => sg3 T (c.fmod 3).toNat) (h4 : 4 ≤ x.length) (h6 : x.length ≤ 6)
    (hz : z.cps.toList = (leadS x (keptRows b x x.length) ((keptRows b x x.length).length - 1)).cps.toList ++ List.replicate (((againI x).getD 0 0 + 1).fdiv 2).toNat 32 ++ Y) : wsOf z = wsRun Y (wsN (againI x)) := by
  obtain ⟨σ, ρ, S, hr⟩ := sig_of b T
  have hw := word_of (b := b) hr hx
  rw [again_V S hw, kept_P S hw, List.length_map] at hz
  rw [again_V S hw]
  rw [hw.len] at h4 h6
  rw [ks_len, lead_V S hw (by omega) _ (.inl (by rw [ks_len]; omega))] at hz
  unfold wsOf
  rw [hz, wsRun_app]
  · have := (leadOk_of hw.1 h4 h6).2.1
    unfold stV at this
    rw [this]
  · intro c hc
    rcases List.mem_append.mp hc with hc | hc
    · exact leadV_signs _ _ _ c hc
    · exact .inl (List.eq_of_mem_replicate hc)
theorem tab_of {n : Nat} {A : List Int} (h : A ∈ tabs n) (h4 : 4 ≤ n) (h6 : n ≤ 6) : tabOk A = true := by
  refine List.all_eq_true.mp tab_all A ?_
  unfold tabAll
  have : n = 4 ∨ n = 5 ∨ n = 6 := by omega
  rcases this with rfl | rfl | rfl
  · exact List.mem_append_left _ (List.mem_append_left _ h)
  · exact List.mem_append_left _ (List.mem_append_right _ h)
  · exact List.mem_append_right _ h
theorem tab_first {n : Nat} {A : List Int} (h : A ∈ tabs n) (h4 : 4 ≤ n) (h6 : n ≤ 6) : 1 ≤ A.getD 0 0 ∧ A.getD 0 0 ≤ 5 := by
  have h := tab_of h h4 h6
  unfold tabOk at h
  simp only [Bool.and_eq_true, decide_eq_true_eq] at h
  exact h.1.1.2
theorem tab_longI {n : Nat} {A : List Int} (h : A ∈ tabs n) (h4 : 4 ≤ n) (h6 : n ≤ 6) : 1 ≤ longI A ∧ longI A ≤ 6 := by
  have h := tab_of h h4 h6
  unfold tabOk at h
  simp only [Bool.and_eq_true, decide_eq_true_eq] at h
  exact h.1.2
theorem tab_few {n : Nat} {A : List Int} (h : A ∈ tabs n) (h4 : 4 ≤ n) (h6 : n ≤ 6) : ((((A.length : Int) - 1) :: A).filter fun a => decide (0 < a)).length ≤ A.length := by
  have h := tab_of h h4 h6
  unfold tabOk at h
  simp only [Bool.and_eq_true, decide_eq_true_eq] at h
  exact h.2
theorem tab_long {n : Nat} {A : List Int} (h : A ∈ tabs n) (h4 : 4 ≤ n) (h6 : n ≤ 6) : longW (wsN A) = longI A := by
  have h := tab_of h h4 h6
  unfold tabOk at h
  simp only [Bool.and_eq_true, decide_eq_true_eq] at h
  exact h.1.1.1.1
theorem tab_level {n : Nat} {A : List Int} (h : A ∈ tabs n) (h4 : 4 ≤ n) (h6 : n ≤ 6) {i : Nat} (hi : i < 8) : levelW (wsN A) (1 + (i : Int)) = levI A (1 + (i : Int)) := by
  have h := tab_of h h4 h6
  unfold tabOk at h
  simp only [Bool.and_eq_true, decide_eq_true_eq] at h
  exact of_decide_eq_true (List.all_eq_true.mp h.1.1.1.2 i (List.mem_range.mpr hi))
theorem pair_of {n m : Nat} {A B : List Int} (hA : A ∈ tabs n) (hB : B ∈ tabs m) (hnm : n + m = 10) (h4 : 4 ≤ n) (h6 : n ≤ 6) : pairOk A B = true := by
  have h := pairs_ok
  rw [Bool.and_eq_true] at h
  have : n = 4 ∧ m = 6 ∨ n = 5 ∧ m = 5 ∨ n = 6 ∧ m = 4 := by omega
  rcases this with ⟨rfl, rfl⟩ | ⟨rfl, rfl⟩ | ⟨rfl, rfl⟩
  · have := List.all_eq_true.mp (List.all_eq_true.mp h.1 A hA) B hB
    rw [Bool.and_eq_true] at this
    exact this.1
  · have := List.all_eq_true.mp (List.all_eq_true.mp (of_decide_eq_true h.2) A hA) B hB
    rw [Bool.and_eq_true] at this
    exact this.1
  · have := List.all_eq_true.mp (List.all_eq_true.mp h.1 B hB) A hA
    rw [Bool.and_eq_true] at this
    exact this.2
end
theorem kept_places (b : Bool) (x : PySem.Str) {n : Nat} : ∀ k, k ≤ n → ∀ p ∈ keptRows b x k, 0 ≤ p.2 ∧ p.2 < (n : Int)
  | 0, _, _, hp => nomatch hp
  | k + 1, hk, p, hp => by
    rcases rowsIns_mem hp with rfl | hp
    · dsimp only
      omega
    · exact kept_places b x k (by omega) p hp
theorem ints_first {vs : List Value} {ns : List Int} (h : IntsAre vs ns) (hl : 0 < ns.length) : ∃ t, vs[0]? = some (.int (ns.getD 0 0) t) := by
  cases h with
  | nil => cases hl
  | cons n t r => exact ⟨t, rfl⟩
theorem again_len (x : PySem.Str) : (againI x).length = x.length := by unfold againI; rw [List.length_map, List.length_range]
theorem again_lt {x : PySem.Str} (h : x.length ≤ 6) : (againI x).length < 64 := by rw [again_len]; exact Nat.lt_of_le_of_lt h (by decide)
theorem again_pos {x : PySem.Str} (h : 4 ≤ x.length) : 0 < (againI x).length := by rw [again_len]; exact Nat.lt_of_lt_of_le (by decide) h
theorem to_end13 {h₀ h : Heap} {L : Addr} {a b c d e f g i j k l m n : Addr × Obj} {U tl : List (Addr × Obj)} (N : News h₀ L h (tl ++ a :: b :: c :: d :: e :: f :: g :: i :: j :: k :: l :: m :: n :: U)) : News h₀ L h (a :: b :: c :: d :: e :: f :: g :: i :: j :: k :: l :: m :: n :: (U ++ tl)) :=
  to_end [a, b, c, d, e, f, g, i, j, k, l, m, n] N
theorem lead_le {b : Bool} {x : PySem.Str} (h4 : 4 ≤ x.length) (h6 : x.length ≤ 6) : (leadS x (keptRows b x x.length) ((keptRows b x x.length).length - 1)).length ≤ 35 := by
  have := leadS_len (x := x) (keptRows b x x.length) (by omega) h6 ((keptRows b x x.length).length - 1)
  rw [keptRows_len] at this ⊢
  omega
theorem str_app (a c : PySem.Str) : (a ++ c).cps.toList = a.cps.toList ++ c.cps.toList := Array.toList_append
theorem blank_list (n : Int) : (Txt.mul (PySem.Str.ofString " ") n).cps.toList = List.replicate n.toNat 32 := by
  rw [show PySem.Str.ofString " " = ⟨#[32]⟩ from by decide +kernel, mul_one_list]
theorem x_tab : (PySem.Str.ofString "x \t").cps.toList = [120, 32, 9] := by decide +kernel

theorem drop_to4 {h₀ h : Heap} {L : Addr} {a b c d e f g i j k l m n : Addr × Obj} {U : List (Addr × Obj)} (N : News h₀ L h (a :: b :: c :: d :: e :: f :: g :: i :: j :: k :: l :: m :: n :: U)) : News h₀ L h (a :: b :: e :: f :: U) := News.sel N [0, 1, 4, 5] 13
/-- a norm as _law_norm tells it -/
noncomputable def normT (A : List Int) : Dat := .tuple [.tuple ((normI A).map Dat.int), .int ((A.getD 0 0 + 1).fdiv 2)]
theorem normT_eq {A : List Int} (h : 1 ≤ A.getD 0 0) : normD (wsN A) = normT A := by
  unfold normD normT wsN
  dsimp only
  have h0 : 0 ≤ (A.getD 0 0 + 1).fdiv 2 := by rw [Int.fdiv_eq_ediv_of_nonneg _ (by decide)]; omega
  rw [Int.toNat_of_nonneg h0]
theorem norms_ok {A B C : List Int} (hA : 1 ≤ A.getD 0 0) (hB : 1 ≤ B.getD 0 0) (hC : 1 ≤ C.getD 0 0) : kqdOk 9 (.list [normT A, normT B, normT C]) = true :=
  three_ok ((Mine.allC (by rw [← normT_eq hA]; exact normD_ok _) ((Mine.allC (by rw [← normT_eq hB]; exact normD_ok _) ((Mine.allC (by rw [← normT_eq hC]; exact normD_ok _) (List.forall_mem_nil _)))))))
theorem tab_small0 : tabAll.all (fun A => Nat.ble (wsN A).b 59 && Nat.ble (wsN A).cnt.length 60) = true := by decide +kernel
theorem tab_small {n : Nat} {A : List Int} (h : A ∈ tabs n) (h4 : 4 ≤ n) (h6 : n ≤ 6) : (wsN A).b ≤ 59 ∧ (wsN A).cnt.length ≤ 60 := by
  have hA : A ∈ tabAll := by
    unfold tabAll
    have : n = 4 ∨ n = 5 ∨ n = 6 := by omega
    rcases this with rfl | rfl | rfl
    · exact List.mem_append_left _ (List.mem_append_left _ h)
    · exact List.mem_append_left _ (List.mem_append_right _ h)
    · exact List.mem_append_right _ h
  have := List.all_eq_true.mp tab_small0 A hA
  rw [Bool.and_eq_true] at this
  exact ⟨Nat.le_of_ble_eq_true this.1, Nat.le_of_ble_eq_true this.2⟩
theorem same_self (st : Wst) : sameW st st = true := by unfold sameW; simp
theorem same_blank (st : Wst) : sameW st (wsBlank st) = false := by
  unfold sameW wsBlank
  have : ¬ st.b = st.b + 1 := by omega
  rw [decide_eq_false this, Bool.and_false]
theorem pair_same {A B : List Int} (h : pairOk A B = true) : sameW (wsN A) (wsN B) = decide (A = B) := by
  unfold pairOk at h
  rw [Bool.and_eq_true] at h
  exact beq_iff_eq.mp h.1
theorem pair_less {A B : List Int} (h : pairOk A B = true) : lessW (wsN A) (wsN B) = decide (witW (fun a b => decide (b ≤ a)) (levI A) (levI B) (lawTop A B) = []) := by
  unfold pairOk at h
  rw [Bool.and_eq_true] at h
  exact beq_iff_eq.mp h.2
open Classical in
theorem list_dat {A B : List Int} : decide (Dat.list (A.map Dat.int) = Dat.list (B.map Dat.int)) = decide (A = B) := by
  by_cases h : A = B
  · subst h; rw [decide_eq_true rfl, decide_eq_true rfl]
  · rw [decide_eq_false h, decide_eq_false fun e => h (map_int_inj (Dat.list.inj e))]
theorem cut_new (front : List (Addr × Obj)) {h₀ h : Heap} {L : Addr} {x : Addr × Obj} {V tl : List (Addr × Obj)} (N : News h₀ L h (x :: (front ++ (V ++ tl)))) : News h₀ L h (front ++ V) := fun p hp => N p (by
  rcases List.mem_append.mp hp with hp | hp
  · exact .tail _ (List.mem_append_left _ hp)
  · exact .tail _ (List.mem_append_right _ (List.mem_append_left _ hp)))

/-- a told row of the ledger's -/
inductive TripAt (T : List (Addr × Obj)) (y : Value) (p : Int × Int × Int) : Prop where
  | mk : ∀ a t u v n, (y = .ref a) → ((a, ({ cls := .type "tuple", data := .seq #[.int p.1 t, .int p.2.1 u, .int p.2.2 v] n } : Obj)) ∈ T) → TripAt T y p
theorem TripAt.mono {T T' : List (Addr × Obj)} {y : Value} {p : Int × Int × Int} (h : TripAt T y p) (s : ∀ q ∈ T, q ∈ T') : TripAt T' y p :=
  let ⟨a, t, u, v, n, e, m⟩ := h; ⟨a, t, u, v, n, e, s _ m⟩
theorem TripAt.dat {T : List (Addr × Obj)} {y : Value} {p : Int × Int × Int} (h : TripAt T y p) : DatIn T y (rowD p) := by
  obtain ⟨a, t, u, v, n, rfl, m⟩ := h
  exact .tuple (vs := [_, _, _]) m (.cons (.int _ _) (.cons (.int _ _) (.cons (.int _ _) .nil)))
theorem trip_item {prog : Program} {w : World} {A : Around} {E : Value → Shared → Prop} {s : Shared} {h₀ : Heap} {L a : Addr} {news : List (Addr × Obj)} {value slice : PySem.Expr} {i j l : Int} {t u v u' : Tok} {k : Int} {n : Nat} {r : Value} {Q : Value → Shared → Prop}
    (N : News h₀ L s.heap news) (hm : (a, ({ cls := .type "tuple", data := .seq #[.int i t, .int j u, .int l v] n } : Obj)) ∈ news) (h0 : 0 ≤ k) (h1 : k < 3) (hv : [Value.int i t, .int j u, .int l v][k.toNat]? = some r) (h : Q r s)
    (hs : subscripted slice false (.ref a) (.int k u') = operate [.ref a, .int k u'] (getItem (.ref a) (.int k u')) := by with_unfolding_all rfl) :
    wpAny (model prog w) A (subscriptTail value slice (.ref a) (.int k u')) Q E s :=
  PyProof.Rows.item_tupleT (l := [.int i t, .int j u, .int l v]) ⟨_, (N _ hm).1, rfl, n, rfl⟩ (by omega) (by omega) (seqIndex_of h0 (by simpa using h1)) hv h hs
/-- the told rows -/
noncomputable def toldL (a b : Int → Int) (n : Nat) : List (Int × Int × Int) := (List.range n).map fun i : Nat => (1 + (i : Int), a (1 + (i : Int)), b (1 + (i : Int)))
theorem witW_filter (f : Int → Int → Bool) (a b : Int → Int) : ∀ n, witW f a b n = ((List.range n).filter fun i : Nat => f (a (1 + (i : Int))) (b (1 + (i : Int)))).map fun i : Nat => (1 + (i : Int), a (1 + (i : Int)), b (1 + (i : Int)))
  | 0 => rfl
  | n + 1 => by
    rw [witW, witW_filter f a b n, List.range_succ, List.filter_append, List.map_append]
    congr 1
    cases h : f (a (1 + (n : Int))) (b (1 + (n : Int))) <;> simp [h]
theorem witW_congr {f : Int → Int → Bool} {a b a' b' : Int → Int} : ∀ {n : Nat}, (∀ i : Nat, i < n → a (1 + (i : Int)) = a' (1 + (i : Int)) ∧ b (1 + (i : Int)) = b' (1 + (i : Int))) → witW f a b n = witW f a' b' n
  | 0, _ => rfl
  | n + 1, h => by
    rw [witW, witW, witW_congr fun i hi => h i (by omega), (h n (by omega)).1, (h n (by omega)).2]
theorem top_tab {n m : Nat} {A B : List Int} (hA : A ∈ tabs n) (hB : B ∈ tabs m) (h4 : 4 ≤ n) (h6 : n ≤ 6) (h4' : 4 ≤ m) (h6' : m ≤ 6) : (topW (wsN A) (wsN B) + 1).toNat = lawTop A B := by
  unfold topW lawTop
  rw [tab_long hA h4 h6, tab_long hB h4' h6']
theorem lawTop_le {n m : Nat} {A B : List Int} (hA : A ∈ tabs n) (hB : B ∈ tabs m) (h4 : 4 ≤ n) (h6 : n ≤ 6) (h4' : 4 ≤ m) (h6' : m ≤ 6) : lawTop A B ≤ 7 := by
  have h1 := tab_longI hA h4 h6
  have h2 := tab_longI hB h4' h6'
  unfold lawTop
  split <;> omega
theorem lawTop_comm (A B : List Int) : lawTop A B = lawTop B A := by
  unfold lawTop
  split <;> split <;> omega
theorem wit_tab (f : Int → Int → Bool) {n m : Nat} {A B : List Int} (hA : A ∈ tabs n) (hB : B ∈ tabs m) (h4 : 4 ≤ n) (h6 : n ≤ 6) (h4' : 4 ≤ m) (h6' : m ≤ 6) :
    witW f (levelW (wsN A)) (levelW (wsN B)) (topW (wsN A) (wsN B) + 1).toNat = witW f (levI A) (levI B) (lawTop A B) := by
  have hl := lawTop_le hA hB h4 h6 h4' h6'
  rw [top_tab hA hB h4 h6 h4' h6']
  exact witW_congr fun i hi => ⟨tab_level hA h4 h6 (by omega), tab_level hB h4' h6' (by omega)⟩
theorem rowD_ok (l : List (Int × Int × Int)) : kqdOk 9 (.list (l.map rowD)) = true := by
  refine List.all_eq_true.mpr fun d hd => ?_
  obtain ⟨p, _, rfl⟩ := List.mem_map.mp hd
  rfl
/-- kept told rows as data -/
theorem trips_dat {T : List (Addr × Obj)} {f : Int → Int → Bool} {a b : Int → Int} {n : Nat} {ys : List Value} (h : RelAt (fun i y => TripAt T y (1 + (i : Int), a (1 + (i : Int)), b (1 + (i : Int)))) ((List.range n).filter fun i : Nat => f (a (1 + (i : Int))) (b (1 + (i : Int)))) ys) : DatAll T ys ((witW f a b n).map rowD) := by
  rw [witW_filter, List.map_map]
  refine datAll_of (by rw [List.length_map, h.1]) fun j v e => ?_
  obtain ⟨k, hk, ht⟩ := h.2 j v e
  exact ⟨_, by rw [List.getElem?_map, hk]; rfl, ht.dat⟩
open Classical in
theorem rows_nil {l : List (Int × Int × Int)} : decide (Dat.list (l.map rowD) = Dat.list []) = decide (l = []) := by
  cases l with
  | nil => rw [decide_eq_true (show Dat.list (List.map rowD []) = Dat.list [] from rfl), decide_eq_true rfl]
  | cons p r => rw [decide_eq_false fun e => (by cases Dat.list.inj e), decide_eq_false fun e => (by cases e)]
theorem trip_at {a b : Int → Int} {n : Nat} {T : List (Addr × Obj)} {ys : List Value} {i : Nat} {v : Value} (hl : ys.length = n) (h : ∀ (i : Nat) (y : Value), ys[i]? = some y → TripAt T y (1 + (i : Int), a (1 + (i : Int)), b (1 + (i : Int)))) (e : ys.toArray[i]? = some v) : TripAt T v (1 + (i : Int), a (1 + (i : Int)), b (1 + (i : Int))) := h i v (by simpa using e)

/-- what a later stretch of the walk must show -/
structure Stg (P : Prop) : Prop where
  get : P
section
local macro_rules | `(tactic| cells_open $x:ident) => `(tactic| (refine Mine.kc_nine $x ?_; intro _ _ _ _ _ _ _ _ _ he _ _ _ _ _ _ _ _ _; subst he))
local macro_rules | `(tactic| walk_at "call type:list") => `(tactic| ((rename Mark 5 => mk5); refine Mine.list_text (by with_unfolding_all rfl) (by k_asm) (by k_asm) (by omega) ?_; intro D' ys' c' h' tk' F' N' l1 hs'; (try k_lt l1)))
noncomputable def walk_Law : (P : Prop) ×' (Stg P → PySem.Challenge.rw_rs0197_01.Holds) := by
 refine' ⟨_, fun stageH => ?body⟩
 case body =>
  refine hd ?_
  w_top off
  w_strict (
  k_go0
  all_goals try k_fold
  have q149 : @LT.lt Nat _ 149 _ := Heap.lt_size (hT8 149 (.head _))
  have q181 : @LT.lt Nat _ 181 _ := Heap.lt_size (hT8 181 (.tail _ (.head _)))
  iterate 16 (first | (k_unfold; (try dsimp only)) | (k_end; wrow_close) | walk1 | (dsimp only; walk1) | (leave1; (try dsimp only)) | fail "no step")
  iterate 35 (first | (k_unfold; (try dsimp only)) | (k_end; wrow_close) | walk1 | (dsimp only; walk1) | (leave1; (try dsimp only)) | fail "no step")
  refine Mine.slice_tmp_ints (ns := [3, 6, 7, 9, 0, 12, 4, 1, 10, 5]) (by k_asm) (by k_asm) (News.isList (by k_asm) (by k_mem)) (by repeat constructor) (by omega) ?_ (by with_unfolding_all rfl) (Nat.le_of_ble_eq_true rfl)
  intro D1 ws1 h1 F1 N1 l1 hw1
  (try k_lt l1)
  iterate 2 (first | (k_unfold; (try dsimp only)) | (k_end; wrow_close) | walk1 | (dsimp only; walk1) | (leave1; (try dsimp only)) | fail "no step")
  (rename IntsAre _ (_ ++ List.drop _ _) => hC)
  refine Mine.ex1 (cells_abs hC) ?_
  (try clear hC)
  intro C hCC
  have hC10 := hCC.1
  have hC := hCC.2
  (try clear hCC)
  (rename News _ _ _ _ => N5)
  have N6 := prune5 N5
  (try clear N5)
  (try clear hw1)
  (((rename _ ∧ _ => hkeep9q); revert hkeep9q; (repeat ((rename _ ∧ _ => hzq); clear hzq)); intro hkeep9q; (((repeat ((rename List.length _ = List.length _ => hzq); clear hzq)); (repeat ((rename List.length _ ≤ List.length _ => hzq); clear hzq)); (repeat ((rename List.length _ = min _ _ => hzq); clear hzq)); (repeat ((rename List.length _ = _ - _ => hzq); clear hzq))))))
  iterate 17 (first | (k_unfold; (try dsimp only)) | (k_end; wrow_close) | walk1 | (dsimp only; walk1) | (leave1; (try dsimp only)) | fail "no step")
  refine Mine.sum_any (by with_unfolding_all rfl) (by k_asm) (by k_asm) (News.isList (by k_asm) (by k_mem)) (by with_reducible assumption) ?_
  intro T9 h9 tk9 t9 F9 N9
  have hn0 := (mod3 (T9.fdiv 72)).1
  have hn1 := (mod3 (T9.fdiv 72)).2
  have N7 := prune1 N9
  (try clear N9)
  (rename _ ∧ _ => hz); clear hz
  (((repeat ((rename List.length _ = List.length _ => hzq); clear hzq)); (repeat ((rename List.length _ ≤ List.length _ => hzq); clear hzq)); (repeat ((rename List.length _ = min _ _ => hzq); clear hzq)); (repeat ((rename List.length _ = _ - _ => hzq); clear hzq))))
  (repeat ((fail_if_success (with_reducible show PyProof.Rows.LCg.CompSrc _ _ _ _ _ _ _ _ _ _ _ _ _ _)); (fail_if_success (with_reducible show PyProof.Rows.LCt.CompSrcT _ _ _ _ _ _ _ _ _ _ _ _ _ _ _)); (first | (k_unfold; (try dsimp only)) | (k_end; wrow_close) | walk1 | (dsimp only; walk1) | (leave1; (try dsimp only)) | fail "no step")))
  refine Mine.comp_range (by rfl) (by k_asm) (by k_asm) (by with_reducible assumption) (by omega) (by omega) ?_
  intro g3
  refine Mine.rest_same _ (fun i y => ∃ t, y = .str ⟨#[sg3 T9 i]⟩ t) ?_ trivial ?_
  · rintro i ys v I oI C oC D m₂ h tk E' hi ⟨tv, rfl⟩ hC hx₂ F2 N2 off ne
    (try dsimp only)
    refine Mine.absQ ?_
    intro K9 hK9
    iterate 22 (first | (k_unfold; (try dsimp only)) | (k_end; wrow_close) | walk1 | (dsimp only; walk1) | (leave1; (try dsimp only)) | fail "no step")
    exact hK9 (Mine.turnB (by k_asm) (by k_asm) (str_at item_sg))
  intro ys hl hr
  unfold LCg.FinE
  intro D3 h3 tk3 F3 N3 off3
  (simp only [LCg.Off1, and_true] at off3)
  have n34 : @Ne Nat _ _ := off3.2.2.2.2.2.2.1
  have n33 : @Ne Nat _ _ := off3.2.2.2.2.2.2.2.1
  have h3 : ∀ i : Nat, i < 3 → ∃ t, ys[i]? = some (Value.str ⟨#[sg3 T9 i]⟩ t) := fun i hi => by
    have hb : i < ys.length := by rw [hl]; exact hi
    obtain ⟨t, e⟩ := hr i ys[i] (List.getElem?_eq_getElem hb)
    exact ⟨t, by rw [List.getElem?_eq_getElem hb, e]⟩
  (try clear hr)
  (((repeat ((rename List.length _ = List.length _ => hzq); clear hzq)); (repeat ((rename List.length _ ≤ List.length _ => hzq); clear hzq)); (repeat ((rename List.length _ = min _ _ => hzq); clear hzq)); (repeat ((rename List.length _ = _ - _ => hzq); clear hzq))))
  (repeat ((fail_if_success (with_reducible show wpAny _ _ (eval (PySem.Expr.ListComp _ _ _ _) _) _ _ _)); (fail_if_success (with_reducible show wpAny _ _ (exec (PySem.Stmt.Assign _ (PySem.Expr.ListComp _ _ _ _) _) _) _ _ _)); (first | (k_unfold; (try dsimp only)) | (k_end; wrow_close) | walk1 | (dsimp only; walk1) | (leave1; (try dsimp only)) | fail "no step")))
  refine PyProof.Rows.LCg.ListComp_U (by k_asm) (by with_unfolding_all rfl) (by decide) (by rfl) (by decide) (by rfl) ?_
  (repeat ((fail_if_success (with_reducible show PyProof.Rows.LCg.CompSrc _ _ _ _ _ _ _ _ _ _ _ _ _ _)); (fail_if_success (with_reducible show PyProof.Rows.LCt.CompSrcT _ _ _ _ _ _ _ _ _ _ _ _ _ _ _)); (first | (k_unfold; (try dsimp only)) | (k_end; wrow_close) | walk1 | (dsimp only; walk1) | (leave1; (try dsimp only)) | fail "no step")))
  (rename IntsAre _ (List.take _ _) => hS4)
  refine LCg.CompSrc.ledger (by rfl) (by k_asm) (by k_asm) (by exact .head _) ?_ ?_
  · rw [List.size_toArray, hS4.length, PySem.sizeLine_eq, List.length_take]; omega
  intro g4
  refine Mine.rest_same _ (fun i y => ∃ c, (C.take (4 + (T9.fdiv 72).fmod 3).toNat)[i]? = some c ∧ ∃ t, y = .str ⟨#[sg3 T9 (c.fmod 3).toNat]⟩ t) ?_ (.inr ⟨_, .head _, rfl, _, rfl⟩) ?_
  · rintro i zs v I oI C2 oC D m₂ h tk E' hi hP hC2 hx₂ F2 N2 off ne
    (try dsimp only)
    refine Mine.absQ ?_
    intro K9 hK9
    obtain ⟨c, tc, hc, rfl⟩ := ints_at hS4 hP
    have hm3 := mod3 c
    obtain ⟨t3, e3⟩ := h3 (c.fmod 3).toNat (by omega)
    iterate 6 (first | (k_unfold; (try dsimp only)) | (k_end; wrow_close) | walk1 | (dsimp only; walk1) | (leave1; (try dsimp only)) | fail "no step")
    refine Mine.item_at (News.isList (by k_asm) (by k_mem)) hm3.1 (by omega) e3 ?_ (by with_unfolding_all rfl)
    exact hK9 (Mine.turnB (by k_asm) (by k_asm) ⟨c, hc, _, rfl⟩)
  intro zs4 hzl4 hzr4
  unfold LCg.FinE
  intro D4 h4' tk4 F4 N4 off4
  (simp only [LCg.Off1, and_true] at off4)
  iterate 1 (first | (k_unfold; (try dsimp only)) | (k_end; wrow_close) | walk1 | (dsimp only; walk1) | (leave1; (try dsimp only)) | fail "no step")
  have hw4 := word_strs (T := T9) (hzl4.trans (by rw [List.size_toArray, hS4.length])) hzr4
  refine Mine.join_word (News.isList (by k_asm) (by k_mem)) hw4 (by rw [List.length_map, List.length_take]; omega) ?_
  intro x4 t4 k4 hx4
  have N4' := prune1 (prune1 N4)
  (try clear N4); (try clear off4); (try clear hw4); (try clear hzr4); (try clear hzl4)
  (rename _ ∧ _ => hz); clear hz
  (((repeat ((rename List.length _ = List.length _ => hzq); clear hzq)); (repeat ((rename List.length _ ≤ List.length _ => hzq); clear hzq)); (repeat ((rename List.length _ = min _ _ => hzq); clear hzq)); (repeat ((rename List.length _ = _ - _ => hzq); clear hzq))))
  (repeat ((fail_if_success (with_reducible show wpAny _ _ (eval (PySem.Expr.ListComp _ _ _ _) _) _ _ _)); (fail_if_success (with_reducible show wpAny _ _ (exec (PySem.Stmt.Assign _ (PySem.Expr.ListComp _ _ _ _) _) _) _ _ _)); (first | (k_unfold; (try dsimp only)) | (k_end; wrow_close) | walk1 | (dsimp only; walk1) | (leave1; (try dsimp only)) | fail "no step")))
  refine PyProof.Rows.LCg.ListComp_U (by k_asm) (by with_unfolding_all rfl) (by decide) (by rfl) (by decide) (by rfl) ?_
  iterate 16 (first | (k_unfold; (try dsimp only)) | (k_end; wrow_close) | walk1 | (dsimp only; walk1) | (leave1; (try dsimp only)) | fail "no step")
  refine Mine.slice_tmp_ints (by k_asm) (by k_asm) (News.isList (by k_asm) (by k_mem)) hC (by omega) ?_ (by with_unfolding_all rfl) (by omega)
  intro D6 ws6 h6 F6 N6' l6 hi6
  (try k_lt l6)
  (repeat ((fail_if_success (with_reducible show PyProof.Rows.LCg.CompSrc _ _ _ _ _ _ _ _ _ _ _ _ _ _)); (fail_if_success (with_reducible show PyProof.Rows.LCt.CompSrcT _ _ _ _ _ _ _ _ _ _ _ _ _ _ _)); (first | (k_unfold; (try dsimp only)) | (k_end; wrow_close) | walk1 | (dsimp only; walk1) | (leave1; (try dsimp only)) | fail "no step")))
  (rename IntsAre _ (List.drop _ _) => hS5)
  refine LCg.CompSrc.ledger (by rfl) (by k_asm) (by k_asm) (by exact .head _) ?_ ?_
  · rw [List.size_toArray, hS5.length, PySem.sizeLine_eq, List.length_drop]; omega
  intro g5
  refine Mine.rest_same _ (fun i y => ∃ c, (C.drop (4 + (T9.fdiv 72).fmod 3).toNat)[i]? = some c ∧ ∃ t, y = .str ⟨#[sg3 T9 (c.fmod 3).toNat]⟩ t) ?_ (.inr ⟨_, .head _, rfl, _, rfl⟩) ?_
  · rintro  i zs v I oI C2 oC D m₂ h tk E' hi hP hC2 hx₂ F2 N2 off ne
    (try dsimp only)
    refine Mine.absQ ?_
    intro K9 hK9
    obtain ⟨c, tc, hc, rfl⟩ := ints_at hS5 hP
    have hm3 := mod3 c
    obtain ⟨t3, e3⟩ := h3 (c.fmod 3).toNat (by omega)
    iterate 6 (first | (k_unfold; (try dsimp only)) | (k_end; wrow_close) | walk1 | (dsimp only; walk1) | (leave1; (try dsimp only)) | fail "no step")
    refine Mine.item_at (News.isList (by k_asm) (by k_mem)) hm3.1 (by omega) e3 ?_ (by with_unfolding_all rfl)
    exact hK9 (Mine.turnB (by k_asm) (by k_asm) ⟨c, hc, _, rfl⟩)
  intro zs5 hzl5 hzr5
  unfold LCg.FinE
  intro D5 h5' tk5 F5 N5 off5
  (simp only [LCg.Off1, and_true] at off5)
  iterate 1 (first | (k_unfold; (try dsimp only)) | (k_end; wrow_close) | walk1 | (dsimp only; walk1) | (leave1; (try dsimp only)) | fail "no step")
  have hw5 := word_strs (T := T9) (hzl5.trans (by rw [List.size_toArray, hS5.length])) hzr5
  refine Mine.join_word (News.isList (by k_asm) (by k_mem)) hw5 (by rw [List.length_map, List.length_drop]; omega) ?_
  intro x5 t5 k5 hx5
  have N5' := prune1 (prune1 (prune1 (prune1 N5)))
  (try clear N5); (try clear off5); (try clear hw5); (try clear hzr5); (try clear hzl5)
  (try clear hS4)
  (try clear hS5)
  (try clear h3)
  (try clear hl)
  (try clear hC)
  (try clear n34); (try clear n33)
  (try clear off3)
  (try clear N4')
  (try clear hw1)
  repeat ((rename IntsAre _ _ => hz); clear hz)
  (((repeat ((rename _ ∧ _ => hzq); clear hzq)); (((repeat ((rename List.length _ = List.length _ => hzq); clear hzq)); (repeat ((rename List.length _ ≤ List.length _ => hzq); clear hzq)); (repeat ((rename List.length _ = min _ _ => hzq); clear hzq)); (repeat ((rename List.length _ = _ - _ => hzq); clear hzq))))))
  (first | (k_unfold; (try dsimp only)) | (k_end; wrow_close) | walk1 | (dsimp only; walk1) | (leave1; (try dsimp only)) | fail "no step")
  have hl4 := word_len hx4 rfl
  have hl5 := word_len hx5 rfl
  rw [List.length_map, List.length_take] at hl4
  rw [List.length_map, List.length_drop] at hl5
  have ha4 := len_ge (lo := 4) hl4 (by omega)
  have hb4 := len_le (hi := 6) hl4 (by omega)
  have ha5 := len_ge (lo := 4) hl5 (by omega)
  have hb5 := len_le (hi := 6) hl5 (by omega)
  (try clear hl4); (try clear hl5)
  have hs4 := word_sig hx4
  have hs5 := word_sig hx5
  (first | (k_unfold; (try dsimp only)) | (k_end; wrow_close) | walk1 | (dsimp only; walk1) | (leave1; (try dsimp only)) | fail "no step")
  refine PyProof.Rows.LCg.Assign_ListComp_U (F₀ := by k_asm) (by rfl) (by with_unfolding_all rfl) (by with_unfolding_all rfl) (by decide) (by rfl) (by decide) (by rfl) (by rfl) (by rfl) ?_
  (repeat ((fail_if_success (with_reducible show PyProof.Rows.LCg.CompSrc _ _ _ _ _ _ _ _ _ _ _ _ _ _)); (fail_if_success (with_reducible show PyProof.Rows.LCt.CompSrcT _ _ _ _ _ _ _ _ _ _ _ _ _ _ _)); (first | (k_unfold; (try dsimp only)) | (k_end; wrow_close) | walk1 | (dsimp only; walk1) | (leave1; (try dsimp only)) | fail "no step")))
  refine LCg.CompSrc.ledger (by rfl) (by k_asm) (by k_asm) (by exact .head _) ?_ ?_
  · rw [PySem.sizeLine_eq]; exact Nat.le_of_ble_eq_true rfl
  intro g6
  refine Mine.rest_grow _ (KeptAt ((T9.fdiv 36).fmod 2 == 0) [x4, Txt.sliceBy x4 none none (-1, k5 + 1), x5]) ?_ ?_ (fun chunk => .inr ⟨_, .head _, rfl, _, rfl⟩) ?_
  · exact fun i y T T' hs h => h.mono hs
  · rintro i ys chunk v I oI C oC D m₂ h tk E' hi hP hC hx₂ F6 N6 off ne
    (try dsimp only)
    refine Mine.absQ ?_
    intro K9 hK9
    (simp only [List.cons_append] at N6 off)
    obtain ⟨tv, rfl⟩ := three_at hP
    have hx6 : ([x4, Txt.sliceBy x4 none none (-1, k5 + 1), x5].getD i ⟨#[]⟩).length ≤ 6 := three_le hb4 (by rw [step_rev_len]; exact hb4) hb5 i
    iterate 10 (first | (k_unfold; (try dsimp only)) | (k_end; wrow_close) | walk1 | (dsimp only; walk1) | (leave1; (try dsimp only)) | fail "no step")
    refine con_useW (c_kept _ _ _ _ hx6) (by k_asm) (by k_asm) (by k_asm) (by k_asm) (by k_asm) (by exact rfl) trivial (by (first | exact Mine.uni2 (by assumption) rfl | exact Mine.uni1 (by assumption) rfl | exact Mine.uniN rfl | ktr_room)) (by (first | exact Mine.uni2 (by assumption) rfl | exact Mine.uni1 (by assumption) rfl | exact Mine.uniN rfl | ktr_units)) (fun _ _ h => h) ?_
    intro a9 vs9 c9 W9 h9 tk9 hr9 F9 N9 hf9
    (try dsimp only); (try k_fold)
    exact hK9 (TurnEnd.more _ (by k_asm) N9 hf9 ⟨a9, vs9, c9, rfl, .head _, hr9.mono fun p hp => .tail _ hp⟩)
  intro ys chunk hyl hyr hown
  unfold LCg.FinA
  intro D7 h7 tk7 F7 N7 off7
  (simp only [List.cons_append, List.nil_append] at N7 off7)
  (simp only [LCg.Off1] at off7)
  have N8 := prune2 N7
  (try clear N7)
  iterate 4 (first | (k_unfold; (try dsimp only)) | (k_end; wrow_close) | walk1 | (dsimp only; walk1) | (leave1; (try dsimp only)) | fail "no step")
  refine PyProof.Rows.LCg.ListComp_U (by k_asm) (by with_unfolding_all rfl) (by decide) (by rfl) (by decide) (by rfl) ?_
  (repeat ((fail_if_success (with_reducible show PyProof.Rows.LCg.CompSrc _ _ _ _ _ _ _ _ _ _ _ _ _ _)); (fail_if_success (with_reducible show PyProof.Rows.LCt.CompSrcT _ _ _ _ _ _ _ _ _ _ _ _ _ _ _)); (first | (k_unfold; (try dsimp only)) | (k_end; wrow_close) | walk1 | (dsimp only; walk1) | (leave1; (try dsimp only)) | fail "no step")))
  (rename News _ _ _ _ => N9)
  refine LCg.CompSrc.ledger (by rfl) (by k_asm) (front11 N9) (by exact .tail _ (.head _)) ?_ ?_
  · rw [PySem.sizeLine_eq]; exact Nat.le_of_ble_eq_true rfl
  intro g8
  have hc0 : ∀ p ∈ chunk, p.1 ≠ 149 := fun p hp => hown p hp 149 (.tail _ (.tail _ (.tail _ (.tail _ (.tail _ (.tail _ (.tail _ (.tail _ (.tail _ (.tail _ (.head _)))))))))))
  refine Mine.rest_due _ (DueAt ((T9.fdiv 36).fmod 2 == 0) [x4, Txt.sliceBy x4 none none (-1, tk7 + 1), x5]) ?_ ?_ (fun ps chunk => .inr ⟨_, .tail _ (.head _), rfl, _, rfl⟩) ?_
  · exact fun i y T T' hs h => h.mono hs
  · rintro i zs ps chunk2 v I oI C2 oC D m₂ h tk E' hi hP hC2 hx₂ F6 N6 off ne ht9 h149
    (try dsimp only)
    refine Mine.absQ ?_
    intro K9 hK9
    (simp only [List.cons_append] at N6 off)
    have hi3 : i < 3 := hi
    obtain ⟨tv, rfl⟩ := three_at hP
    have hx6 : ([x4, Txt.sliceBy x4 none none (-1, tk7 + 1), x5].getD i ⟨#[]⟩).length ≤ 6 := three_le hb4 (by rw [step_rev_len]; exact hb4) hb5 i
    have hx7 : 4 ≤ ([x4, Txt.sliceBy x4 none none (-1, tk7 + 1), x5].getD i ⟨#[]⟩).length := three_ge ha4 (by rw [step_rev_len]; exact ha4) ha5 hi3
    have hx8 := three_sig hs4 (rev_sig (u := tk7 + 1) hs4) hs5 i
    have hoI := off.mem (149, tabObj ps) (.head _)
    have n79 : @Ne Nat _ _ := off7.2.2.2.2.2.2.2.2.2.2.1
    iterate 10 (first | (k_unfold; (try dsimp only)) | (k_end; wrow_close) | walk1 | (dsimp only; walk1) | (leave1; (try dsimp only)) | fail "no step")
    (rename News _ _ _ _ => N7)
    refine c_due hx7 hx6 hx8 (K := chunk2) ?hK (by assumption) ht9 (by k_asm) (by k_asm) (by k_asm) (front3 N7) (by k_asm) (by exact rfl) ?ho (by (first | exact Mine.uni2 (by assumption) rfl | exact Mine.uni1 (by assumption) rfl | exact Mine.uniN rfl | ktr_room)) (by (first | exact Mine.uni2 (by assumption) rfl | exact Mine.uni1 (by assumption) rfl | exact Mine.uniN rfl | ktr_units)) ?_
    · intro p hp
      repeat (first | exact List.mem_append_right _ hp | refine List.Mem.tail _ ?_)
    · refine (Mine.allC (Ne.symm hoI.1) ((Mine.allC (Ne.symm hoI.2.1) ((Mine.allC (Ne.symm hoI.2.2) ?_)))))
      iterate 12 (refine (Mine.allC ?_ ?_); (· k_ne))
      exact fun p hp => (List.mem_append.mp hp).elim (hc0 p) (h149 p)
    · intro r9 ps9 tl9 h9 tk9 F9 N9 ht9' ho9 hw9 hr9
      obtain ⟨a9, vs9, c9, W9, rfl, rfl, hrows⟩ := hr9
      exact hK9 ⟨ps9, _, _, _, rfl, by k_asm, N9, ht9', ho9, hw9, ⟨a9, vs9, c9, rfl, .head _, hrows.mono fun p hp => .tail _ hp⟩⟩
  · intro zs ps chunk2 hzl hzr hown2 h149
    unfold LCg.FinE
    intro D9 h9' tk9' F9' N9' off9
    (simp only [List.cons_append, List.nil_append] at N9' off9)
    have hsr := rev_sig (u := tk7 + 1) hs4
    have hD1 := kept_dat (b := ((T9.fdiv 36).fmod 2 == 0)) (tx := [x4, Txt.sliceBy x4 none none (-1, k5 + 1), x5]) hyl hyr
    have hD2 := due_dat (b := ((T9.fdiv 36).fmod 2 == 0)) (tx := [x4, Txt.sliceBy x4 none none (-1, tk7 + 1), x5]) hzl hzr
    have er := (rev_list (x := x4) (u := tk7 + 1)).trans (by rw [hx4, ← List.map_reverse])
    have e9 : Dat.list (([x4, Txt.sliceBy x4 none none (-1, k5 + 1), x5]).map fun x => rowsDat (keptRows ((T9.fdiv 36).fmod 2 == 0) x x.length)) = Dat.list (([x4, Txt.sliceBy x4 none none (-1, tk7 + 1), x5]).map fun x => rowsDat (dueRows ((T9.fdiv 36).fmod 2 == 0) x)) := by
      rw [rev_tok (u := k5 + 1) (u' := tk7 + 1)]
      simp only [List.map_cons, List.map_nil]
      rw [plain_rows hx4 ha4 hb4, plain_rows er (by rw [step_rev_len]; exact ha4) (by rw [step_rev_len]; exact hb4), plain_rows hx5 ha5 hb5]
    refine Mine.dat_ne_eq N9' (.list (n := ys.length) (.tail _ (.tail _ (.tail _ (.head _)))) (hD1.mono ?s1)) (.list (n := zs.length) (.head _) (hD2.mono ?s2)) (three_ok ?o1) (three_ok ?o2) (by (first | exact Mine.uni2 (by assumption) rfl | exact Mine.uni1 (by assumption) rfl | exact Mine.uniN rfl | ktr_units)) ?e9 ?_
    (case s1 => intro p hp; repeat (first | exact List.mem_append_left _ hp | refine List.Mem.tail _ ?_))
    (case s2 => intro p hp; repeat (first | exact List.mem_append_right _ hp | refine List.Mem.tail _ ?_))
    (case o1 => exact (Mine.allC (rows_ok (kept_ok hs4 _)) ((Mine.allC (rows_ok (kept_ok (rev_sig hs4) _)) ((Mine.allC (rows_ok (kept_ok hs5 _)) (List.forall_mem_nil _)))))))
    (case o2 => exact (Mine.allC (rows_ok (due_ok hs4)) ((Mine.allC (rows_ok (due_ok (rev_sig hs4))) ((Mine.allC (rows_ok (due_ok hs5)) (List.forall_mem_nil _)))))))
    (case e9 => exact e9)
    (try clear e9); (try clear hD1); (try clear hD2)
    iterate 4 (first | (k_unfold; (try dsimp only)) | (k_end; wrow_close) | walk1 | (dsimp only; walk1) | (leave1; (try dsimp only)) | fail "no step")

    have mk5 : Mark 5 := rfl
    (rename News _ _ _ _ => N1)
    have N2 := drop4 N1
    have d9 := off7.2.1
    have d8 := off7.2.2.1
    have d7 := off7.2.2.2.1
    have d6 := off7.2.2.2.2.1
    have d149 := off7.2.2.2.2.2.2.2.2.2.2.1
    have d181 := off7.2.2.2.2.2.2.2.2.2.2.2.1
    have hc7 := off7.2.2.2.2.2.2.2.2.2.2.2.2
    (try clear off7)
    have hc7 : ∀ p ∈ (149, tabObj ps) :: chunk, p.1 ≠ D7 := (Mine.allC d149 (off1_out hc7))
    have hU := own_149 (x := tabObj ps) hown (by (iterate 10 (refine (Mine.allC ?_ ?_); (· k_ne))); exact List.forall_mem_nil _)
    have hG1 : HasTab 149 ((149, tabObj ps) :: chunk) := ⟨_, .head _⟩
    have hyr1 := fun i y e => KeptAt.mono (hyr i y e) (fun p hp => List.Mem.tail (149, tabObj ps) hp)
    (try clear N1); (try clear hown2); (try clear h149); (try clear hzr); (try clear hzl); (try clear off9); (try clear hown); (try clear hyr); (try clear d149); (try clear hc0)
    (dsimp only at hU)
    generalize (149, tabObj ps) :: chunk = chunk at N2 hc7 hU hG1 hyr1
    refine wpAny_For ?_
    (repeat ((fail_if_success (with_reducible show wpAny _ _ (eval (PySem.Expr.ListComp _ _ _ _) _) _ _ _)); (fail_if_success (with_reducible show wpAny _ _ (exec (PySem.Stmt.Assign _ (PySem.Expr.ListComp _ _ _ _) _) _) _ _ _)); (first | (k_unfold; (try dsimp only)) | (k_end; wrow_close) | walk1 | (dsimp only; walk1) | (leave1; (try dsimp only)) | fail "no step")))
    refine PyProof.Rows.LCg.ListComp_U (by k_asm) (by with_unfolding_all rfl) (by decide) (by rfl) (by decide) (by rfl) ?_
    (repeat ((fail_if_success (with_reducible show PyProof.Rows.LCg.CompSrc _ _ _ _ _ _ _ _ _ _ _ _ _ _)); (fail_if_success (with_reducible show PyProof.Rows.LCt.CompSrcT _ _ _ _ _ _ _ _ _ _ _ _ _ _ _)); (first | (k_unfold; (try dsimp only)) | (k_end; wrow_close) | walk1 | (dsimp only; walk1) | (leave1; (try dsimp only)) | fail "no step")))
    refine Mine.comp_range (by rfl) (by k_asm) (by k_asm) (by with_reducible assumption) (by omega) (by omega) ?_
    intro g9
    refine Mine.rest_same _ (fun i y => ∃ t, y = .str (Txt.slice x5 (some (0 + (i : Int))) (some (0 + (i : Int) + 2))) t) ?_ trivial ?_
    · rintro i zs2 v I oI C2 oC D m₂ h tk E' hi ⟨tv, rfl⟩ hC2 hx₂ F6 N6 off ne
      (try dsimp only)
      refine Mine.absQ ?_
      intro K9 hK9
      iterate 12 (first | (k_unfold; (try dsimp only)) | (k_end; wrow_close) | walk1 | (dsimp only; walk1) | (leave1; (try dsimp only)) | fail "no step")
      exact hK9 (Mine.turnB (by k_asm) (by k_asm) (str_at rfl))
    intro zs2 hzl2 hzr2
    unfold LCg.FinE
    intro D10 h10 tk10 F10 N10 off10
    (rename StrsAre _ _ => hsy)
    have hpc := pieces_of (x := x5) (n := zs2.length) (by rw [hzl2]; omega) hsy rfl hzr2
    have hsl := StrsAre.length hsy
    have e5 : x5.cps.toList.length = x5.length := Array.length_toList
    rw [List.length_map, e5] at hsl
    refine kmk_add_lit (by k_asm) (by k_asm) (News.isList (by k_asm) (by exact .tail _ (.head _))) (News.isList (by k_asm) (by exact .head _)) rfl ?_ ?_
    · intro D11 h11 F11 N11 l11
      have N12 := cut_end N11
      simp only [List.toList_toArray] at N12
      (try clear N10); (try clear N11); (try clear hsy); (try clear hzr2); (try clear off10); (try clear hsl); (try clear N2); (try clear N9); (try clear e5)
      have hr0 := three_kept hyl hyr1 0 (by decide)
      have hr1 := three_kept hyl hyr1 1 (by decide)
      have hr2 := three_kept hyl hyr1 2 (by decide)
      (try clear hyl); (try clear hyr1); (try clear hzl2)
      (((repeat ((rename _ ∧ _ => hzq); clear hzq)); (((repeat ((rename List.length _ = List.length _ => hzq); clear hzq)); (repeat ((rename List.length _ ≤ List.length _ => hzq); clear hzq)); (repeat ((rename List.length _ = min _ _ => hzq); clear hzq)); (repeat ((rename List.length _ = _ - _ => hzq); clear hzq))))))
      ((rename Mark 5 => mk5); clear mk5)
      first | revert hr2 | ((rename _ => hrev9); revert hrev9)
      first | revert hr1 | ((rename _ => hrev9); revert hrev9)
      first | revert hr0 | ((rename _ => hrev9); revert hrev9)
      first | revert N12 | ((rename _ => hrev9); revert hrev9)
      first | revert l11 | ((rename _ => hrev9); revert hrev9)
      first | revert F11 | ((rename _ => hrev9); revert hrev9)
      first | revert h11 | ((rename _ => hrev9); revert hrev9)
      first | revert D11 | ((rename _ => hrev9); revert hrev9)
      first | revert hpc | ((rename _ => hrev9); revert hrev9)
      first | revert F10 | ((rename _ => hrev9); revert hrev9)
      first | revert tk10 | ((rename _ => hrev9); revert hrev9)
      first | revert h10 | ((rename _ => hrev9); revert hrev9)
      first | revert D10 | ((rename _ => hrev9); revert hrev9)
      first | revert zs2 | ((rename _ => hrev9); revert hrev9)
      first | revert g9 | ((rename _ => hrev9); revert hrev9)
      iterate 1 ((rename _ => hrev9); clear hrev9)
      iterate 2 ((rename _ => hrev9); revert hrev9)
      iterate 4 ((rename _ => hrev9); clear hrev9)
      iterate 9 ((rename _ => hrev9); revert hrev9)
      first | revert hG1 | ((rename _ => hrev9); revert hrev9)
      first | revert hU | ((rename _ => hrev9); revert hrev9)
      first | revert hc7 | ((rename _ => hrev9); revert hrev9)
      first | revert chunk | ((rename _ => hrev9); revert hrev9)
      iterate 1 ((rename _ => hrev9); revert hrev9)
      first | revert d181 | ((rename _ => hrev9); revert hrev9)
      first | revert d6 | ((rename _ => hrev9); revert hrev9)
      first | revert d7 | ((rename _ => hrev9); revert hrev9)
      first | revert d8 | ((rename _ => hrev9); revert hrev9)
      first | revert d9 | ((rename _ => hrev9); revert hrev9)
      first | revert er | ((rename _ => hrev9); revert hrev9)
      first | clear hsr | ((rename _ => hrev9); clear hrev9)
      first | revert F9' | ((rename _ => hrev9); revert hrev9)
      first | clear tk9' | ((rename _ => hrev9); clear hrev9)
      first | revert h9' | ((rename _ => hrev9); revert hrev9)
      first | clear D9 | ((rename _ => hrev9); clear hrev9)
      first | revert chunk2 | ((rename _ => hrev9); revert hrev9)
      first | clear ps | ((rename _ => hrev9); clear hrev9)
      first | clear zs | ((rename _ => hrev9); clear hrev9)
      first | clear g8 | ((rename _ => hrev9); clear hrev9)
      iterate 2 ((rename _ => hrev9); revert hrev9)
      iterate 4 ((rename _ => hrev9); clear hrev9)
      first | revert tk7 | ((rename _ => hrev9); revert hrev9)
      first | clear h7 | ((rename _ => hrev9); clear hrev9)
      first | revert D7 | ((rename _ => hrev9); revert hrev9)
      iterate 1 ((rename _ => hrev9); revert hrev9)
      first | revert ys | ((rename _ => hrev9); revert hrev9)
      first | clear g6 | ((rename _ => hrev9); clear hrev9)
      iterate 5 ((rename _ => hrev9); clear hrev9)
      first | clear hs5 | ((rename _ => hrev9); clear hrev9)
      first | clear hs4 | ((rename _ => hrev9); clear hrev9)
      first | revert hb5 | ((rename _ => hrev9); revert hrev9)
      first | revert ha5 | ((rename _ => hrev9); revert hrev9)
      first | revert hb4 | ((rename _ => hrev9); revert hrev9)
      first | revert ha4 | ((rename _ => hrev9); revert hrev9)
      iterate 2 ((rename _ => hrev9); revert hrev9)
      iterate 1 ((rename _ => hrev9); clear hrev9)
      first | revert hx5 | ((rename _ => hrev9); revert hrev9)
      first | revert k5 | ((rename _ => hrev9); revert hrev9)
      first | revert t5 | ((rename _ => hrev9); revert hrev9)
      first | revert x5 | ((rename _ => hrev9); revert hrev9)
      first | clear tk5 | ((rename _ => hrev9); clear hrev9)
      first | clear h5' | ((rename _ => hrev9); clear hrev9)
      first | clear D5 | ((rename _ => hrev9); clear hrev9)
      first | clear zs5 | ((rename _ => hrev9); clear hrev9)
      first | clear g5 | ((rename _ => hrev9); clear hrev9)
      first | clear h6 | ((rename _ => hrev9); clear hrev9)
      first | clear ws6 | ((rename _ => hrev9); clear hrev9)
      first | clear D6 | ((rename _ => hrev9); clear hrev9)
      first | clear tk | ((rename _ => hrev9); clear hrev9)
      iterate 2 ((rename _ => hrev9); revert hrev9)
      iterate 1 ((rename _ => hrev9); clear hrev9)
      first | revert hx4 | ((rename _ => hrev9); revert hrev9)
      first | clear k4 | ((rename _ => hrev9); clear hrev9)
      first | revert t4 | ((rename _ => hrev9); revert hrev9)
      first | revert x4 | ((rename _ => hrev9); revert hrev9)
      first | clear tk4 | ((rename _ => hrev9); clear hrev9)
      first | clear h4' | ((rename _ => hrev9); clear hrev9)
      first | clear D4 | ((rename _ => hrev9); clear hrev9)
      first | clear zs4 | ((rename _ => hrev9); clear hrev9)
      first | clear g4 | ((rename _ => hrev9); clear hrev9)
      iterate 5 ((rename _ => hrev9); clear hrev9)
      iterate 1 ((rename _ => hrev9); revert hrev9)
      iterate 1 ((rename _ => hrev9); clear hrev9)
      first | clear tk3 | ((rename _ => hrev9); clear hrev9)
      first | clear h3 | ((rename _ => hrev9); clear hrev9)
      first | clear D3 | ((rename _ => hrev9); clear hrev9)
      iterate 1 ((rename _ => hrev9); clear hrev9)
      first | clear g3 | ((rename _ => hrev9); clear hrev9)
      iterate 7 ((rename _ => hrev9); clear hrev9)
      iterate 2 ((rename _ => hrev9); revert hrev9)
      iterate 3 ((rename _ => hrev9); clear hrev9)
      iterate 1 ((rename _ => hrev9); revert hrev9)
      iterate 1 ((rename _ => hrev9); clear hrev9)
      first | revert hn1 | ((rename _ => hrev9); revert hrev9)
      first | revert hn0 | ((rename _ => hrev9); revert hrev9)
      first | clear t9 | ((rename _ => hrev9); clear hrev9)
      first | clear tk9 | ((rename _ => hrev9); clear hrev9)
      first | clear h9 | ((rename _ => hrev9); clear hrev9)
      first | revert T9 | ((rename _ => hrev9); revert hrev9)
      iterate 5 ((rename _ => hrev9); clear hrev9)
      first | revert hC10 | ((rename _ => hrev9); revert hrev9)
      first | revert C | ((rename _ => hrev9); revert hrev9)
      iterate 3 ((rename _ => hrev9); clear hrev9)
      iterate 1 ((rename _ => hrev9); revert hrev9)
      first | clear h1 | ((rename _ => hrev9); clear hrev9)
      first | clear ws1 | ((rename _ => hrev9); clear hrev9)
      first | clear D1 | ((rename _ => hrev9); clear hrev9)
      iterate 10 ((rename _ => hrev9); clear hrev9)
      first | revert q181 | ((rename _ => hrev9); revert hrev9)
      first | clear q149 | ((rename _ => hrev9); clear hrev9)
      first | revert codeHd | ((rename _ => hrev9); revert hrev9)
      iterate 1 ((rename _ => hrev9); clear hrev9)
      first | clear lifted | ((rename _ => hrev9); clear hrev9)
      iterate 3 ((rename _ => hrev9); revert hrev9)
      iterate 6 ((rename _ => hrev9); clear hrev9)
      iterate 4 ((rename _ => hrev9); revert hrev9)
      iterate 5 ((rename _ => hrev9); clear hrev9)
      iterate 4 ((rename _ => hrev9); revert hrev9)
      iterate 12 ((rename _ => hrev9); clear hrev9)
      iterate 1 ((rename _ => hrev9); revert hrev9)
      iterate 4 ((rename _ => hrev9); clear hrev9)
      iterate 1 ((rename _ => hrev9); revert hrev9)
      iterate 2 ((rename _ => hrev9); clear hrev9)
      iterate 1 ((rename _ => hrev9); revert hrev9)
      iterate 1 ((rename _ => hrev9); clear hrev9)
      first | clear hT9 | ((rename _ => hrev9); clear hrev9)
      iterate 6 ((rename _ => hrev9); clear hrev9)
      first | clear hT8 | ((rename _ => hrev9); clear hrev9)
      iterate 1 ((rename _ => hrev9); revert hrev9)
      iterate 1 ((rename _ => hrev9); clear hrev9)
      iterate 2 ((rename _ => hrev9); revert hrev9)
      iterate 1 ((rename _ => hrev9); clear hrev9)
      iterate 1 ((rename _ => hrev9); revert hrev9)
      iterate 1 ((rename _ => hrev9); clear hrev9)
      iterate 5 ((rename _ => hrev9); revert hrev9)
      exact stageH.get
    · rw [PySem.sizeLine_eq, List.toList_toArray, List.toList_toArray]
      omega)
end
section
noncomputable def walk_Law6 : (P : Prop) ×' (Stg P → walk_Law.1) := by
 refine' ⟨_, fun stageH => ?body⟩
 case body =>
  conv => whnf
  w_top off
  w_strict (
  k_fill
  set_option tactic.hygienic false in intros
  obtain ⟨r0, vs0, c0, e0, m0, rows0⟩ := hr0
  replace rows0 : RowsAt chunk vs0 (keptRows ((T9.fdiv 36).fmod 2 == 0) x4 x4.length) := rows0
  have hpos0 : ∀ p ∈ chunk, ∀ b ∈ [D11, D7], p.1 ≠ b := fun p hp b hb => by
    rcases List.mem_cons.mp hb with rfl | hb
    · exact Nat.ne_of_lt (l11 p (by
        (iterate 13 (refine .tail _ ?_))
        exact List.mem_append_left _ hp))
    · cases List.mem_singleton.mp hb
      exact hc7 p hp
  have e9 := ltN (l11 _ (.tail _ (.tail _ (.tail _ (.head _)))))
  have e7 := ltN (l11 _ (.tail _ (.tail _ (.head _))))
  have e0' := ltN (l11 (181, tabObj #[]) (by (iterate 12 (refine .tail _ ?_)); exact .head _))
  (dsimp only at e7 e9 e0')
  (try clear l11)
  refine Mine.for_pieces (PySem.Str.ofString "rows") (.ref D7) (PySem.Str.ofString "law.<locals>.<lambda>") ⟨197, 50, 197, 83⟩ ⟨198, 50, 198, 83⟩ (by rfl) F11 N12 (by assumption) (by assumption) (by rfl) ?_ ?_ ?_
  · intro p hp b hb
    rcases List.mem_cons.mp hb with rfl | hb
    · exact hU p hp _ (.head _)
    rcases List.mem_cons.mp hb with rfl | hb
    · exact hpos0 p hp _ (.head _)
    rcases List.mem_cons.mp hb with rfl | hb
    · exact hpos0 p hp _ (.tail _ (.head _))
    · exact hU p hp b (.tail _ hb)
  · intro I i v oI oP oW vP vW ps U' m₁ h tk hv hoP hoW hsU hT hU' hI F1 N1
    (try dsimp only)
    (try clear hU); (try clear hpos0); (try clear N12); (try clear F11); (try clear F10)
    obtain ⟨y, ty, rfl, hy⟩ := hpc i v hv
    have hy2 := hy.len
    (dsimp only at hU')
    (simp only [List.mem_cons, List.not_mem_nil, or_false, forall_eq_or_imp, forall_eq] at hI)
    have i9 := neNat hI.2.2.1
    have i6 := neNat hI.2.2.2.2.2.1
    have i0 := neNat hI.2.2.2.2.2.2.2.2.2.2.2
    refine wpAny_assign_Name ?_
    (repeat ((fail_if_success (with_reducible show wpAny _ _ (call (Value.ref _) _ _) _ _ _)); (first | (k_unfold; (try dsimp only)) | (k_end; wrow_close) | walk1 | (dsimp only; walk1) | (leave1; (try dsimp only)) | fail "no step")))
    refine con_use1 (c_write _ y ty _ (by omega)) (by k_asm) (by k_asm) (by k_asm) (by k_asm) (by k_asm) (by exact rfl) (trivial) (by (first | exact Mine.uni2 (by assumption) rfl | exact Mine.uni1 (by assumption) rfl | exact Mine.uniN rfl | ktr_room)) (by (first | exact Mine.uni2 (by assumption) rfl | exact Mine.uni1 (by assumption) rfl | exact Mine.uniN rfl | ktr_units)) (fun _ _ h => h) ?_
    intro t9 h9 tk9 F9 N9
    (try dsimp only); (try k_fold)
    iterate 6 (first | (k_unfold; (try dsimp only)) | (k_end; wrow_close) | walk1 | (dsimp only; walk1) | (leave1; (try dsimp only)) | fail "no step")
    (repeat ((fail_if_success (with_reducible show wpAny _ _ (subscriptTail _ _ _ _) _ _ _)); (first | (k_unfold; (try dsimp only)) | (k_end; wrow_close) | walk1 | (dsimp only; walk1) | (leave1; (try dsimp only)) | fail "no step")))
    refine Mine.item_at (vs := ys) (News.isList (by k_asm) (by k_mem)) (by decide) (by decide) e0 ?_ (by with_unfolding_all rfl)
    (repeat ((fail_if_success (with_reducible show wpAny _ _ (eval (PySem.Expr.Lambda _ _ _ _) _) _ _ _)); (first | (k_unfold; (try dsimp only)) | (k_end; wrow_close) | walk1 | (dsimp only; walk1) | (leave1; (try dsimp only)) | fail "no step")))
    refine kla_eval (by rfl) ?_
    (rename News _ _ _ _ => N3)
    refine lam_piece1 (P := 181) (c := 183) (pos' := ⟨198, 50, 198, 83⟩) [_, _, _, _, _, _, _, _, _, _, _, _] (by k_asm) N3 (by k_asm) (by assumption) (by exact rfl) ?hf hU' hT (by exact rfl) ?_
    (case hf => ((iterate 12 (refine (Mine.allC ?_ ?_); (· k_ne))); exact List.forall_mem_nil _))
    intro f1 c1 ct1 h1 tk1 ps1 U1 F2 N2 ht1 hr1 hs1 hU1
    simp only [List.cons_append, List.nil_append, List.map_cons, List.map_nil] at N2 hU1
    (repeat ((fail_if_success (with_reducible show wpAny _ _ (call (Value.ref _) _ _) _ _ _)); (first | (k_unfold; (try dsimp only)) | (k_end; wrow_close) | walk1 | (dsimp only; walk1) | (leave1; (try dsimp only)) | fail "no step")))
    (rename World => w9)
    obtain ⟨keep1, oc1, vc1, tc1, hk1, hdc1, hvc1, hks1⟩ := key_keep N2 hr1 (by ((intro pq hpq; repeat (first | exact hpq | exact List.mem_append_left _ hpq | refine List.Mem.tail _ ?_))))
    have hwl := wr_len ((T9.fdiv 36).fmod 2 == 0) (x := y) (by omega)
    have hkey1 : KeyCon w9 f1 keep1 (fun z => Txt.slice z none (some ((wr ((T9.fdiv 36).fmod 2 == 0) y).length : Int))) := by
      subst hk1
      (rename Obj.data _ = Data.cell (some (Value.str (wr _ _) _)) => hdW)
      unfold KeyCon Con
      intro a x t i u n hx p loose mean mg mb dp un gd cn cs a' ccd cl outer A₀ base h₀ L m news s Q E B F X N T hk hpre hd hu hret
      obtain ⟨hkeep, hrow⟩ := hpre
      have Nk := news_keep N hkeep hrow
      (try clear N)
      refine wpAny_call ?_
      ((refine' kla_code ?k1 ?k2 ?k3 ?k4 ?k5 ?kA ?kF ?kK ?k6 ?k7 ?k8 ?k9 ?kB ?_ ?c2 ?c3 ?c4 ?c5; (case kA => exact rfl); (case kF => exact rfl); (case kK => first | exact rfl | assumption); (case k1 => k_asm); (case k2 => k_asm); (case k3 => k_asm); (case k4 => k_asm); (case k5 => k_asm); (case k6 => exact .head _); (case k7 => exact codeRec_news (by k_asm) (.tail _ (.tail _ (.head _))) (by assumption) (by assumption)); (case k8 => ktr_room); (case k9 => exact rfl); (case c5 => decide); (case kB => exact locs rfl); (case c2 => exact rfl); (case c3 => exact rfl); (case c4 => exact rfl); k_whole; intro g'q L'q h'q FG'q F'q N'q B'q X'q T'q; (try dsimp only); (try k_lift B'q); (try k_fold)))
      iterate 20 (first | (k_unfold; (try dsimp only)) | (k_end; wrow_close) | walk1 | (dsimp only; walk1) | (leave1; (try dsimp only)) | fail "no step")
      exact hret _ [] _ _ (by k_asm) (by (first | k_asm | (refine' cb_drop ?cbN ?cbS; (case cbN => assumption); (case cbS => (intro pq hpq; repeat (first | exact hpq | refine List.Mem.tail _ ?_)))))) (fun _ h => nomatch h) (RetS.mk rfl)
    refine conK_use1 (c_bisL w9 r0 f1 vs0 c0 (keptRows ((T9.fdiv 36).fmod 2 == 0) x4 x4.length) (wr ((T9.fdiv 36).fmod 2 == 0) y) t9 keep1 (by rw [hk1]; exact .head _) _ (by rw [keptRows_len]; exact hb4) (kept_wlen _ _ hb4 _) hkey1) (by k_asm) (by k_asm) (by k_asm) N2 (by k_asm) (by exact rfl) ⟨?q1, ?q2, hks1⟩ (by (first | exact Mine.uni2 (by assumption) rfl | exact Mine.uni1 (by assumption) rfl | exact Mine.uniN rfl | ktr_room)) (by (first | exact Mine.uni2 (by assumption) rfl | exact Mine.uni1 (by assumption) rfl | exact Mine.uniN rfl | ktr_units)) (fun _ _ h => h) ?_
    (case q1 => (refine (?_ : ∀ p ∈ U1, p ∈ _) _ (hs1 _ (hsU _ m0)); ((intro pq hpq; repeat (first | exact hpq | exact List.mem_append_left _ hpq | refine List.Mem.tail _ ?_)))))
    (case q2 => (refine rows0.mono fun p hp => (?_ : ∀ p ∈ U1, p ∈ _) _ (hs1 _ (hsU _ hp)); ((intro pq hpq; repeat (first | exact hpq | exact List.mem_append_left _ hpq | refine List.Mem.tail _ ?_)))))
    intro t9' h9 tk9 F9 N9
    (try clear N2); (try clear hks1); (try clear hkey1); (try clear hk1); (try clear hdc1); (try clear hvc1)
    have N9 := prune1 N9
    (try dsimp only); (try k_fold)
    (repeat ((fail_if_success (with_reducible show wpAny _ _ (subscriptTail _ _ _ _) _ _ _)); (first | (k_unfold; (try dsimp only)) | (k_end; wrow_close) | walk1 | (dsimp only; walk1) | (leave1; (try dsimp only)) | fail "no step")))
    refine Mine.item_at (vs := ys) (News.isList (by k_asm) (by k_mem)) (by decide) (by decide) e0 ?_ (by with_unfolding_all rfl)
    (repeat ((fail_if_success (with_reducible show wpAny _ _ (eval (PySem.Expr.Lambda _ _ _ _) _) _ _ _)); (first | (k_unfold; (try dsimp only)) | (k_end; wrow_close) | walk1 | (dsimp only; walk1) | (leave1; (try dsimp only)) | fail "no step")))
    refine kla_eval (by rfl) ?_
    (rename News _ _ _ _ => N4)
    refine lam_piece2 (P := 181) (c := 183) (pos' := ⟨197, 50, 197, 83⟩) [_, _, _, _, _, _, _, _, _, _, _, _] (by k_asm) N4 (by k_asm) (by assumption) (by exact rfl) ?hf2 hU1 ht1 (by decide) (by exact rfl) ?_
    (case hf2 => ((iterate 12 (refine (Mine.allC ?_ ?_); (· k_ne))); exact List.forall_mem_nil _))
    intro f2 c2 ct2 h2 tk2 ps2 U2 F5 N5 ht2 hr2 hs2 hU2
    simp only [List.cons_append, List.nil_append, List.map_cons, List.map_nil] at N5 hU2
    (repeat ((fail_if_success (with_reducible show wpAny _ _ (call (Value.ref _) _ _) _ _ _)); (first | (k_unfold; (try dsimp only)) | (k_end; wrow_close) | walk1 | (dsimp only; walk1) | (leave1; (try dsimp only)) | fail "no step")))
    obtain ⟨keep2, oc2, vc2, tc2, hk2, hdc2, hvc2, hks2⟩ := key_keep N5 hr2 (by ((intro pq hpq; repeat (first | exact hpq | exact List.mem_append_left _ hpq | refine List.Mem.tail _ ?_))))
    have hkey2 : KeyCon w9 f2 keep2 (fun z => Txt.slice z none (some ((wr ((T9.fdiv 36).fmod 2 == 0) y).length : Int))) := by
      subst hk2
      (rename Obj.data _ = Data.cell (some (Value.str (wr _ _) _)) => hdW)
      unfold KeyCon Con
      intro a x t i u n hx p loose mean mg mb dp un gd cn cs a' ccd cl outer A₀ base h₀ L m news s Q E B F X N T hk hpre hd hu hret
      obtain ⟨hkeep, hrow⟩ := hpre
      have Nk := news_keep N hkeep hrow
      (try clear N)
      refine wpAny_call ?_
      ((refine' kla_code ?k1 ?k2 ?k3 ?k4 ?k5 ?kA ?kF ?kK ?k6 ?k7 ?k8 ?k9 ?kB ?_ ?c2 ?c3 ?c4 ?c5; (case kA => exact rfl); (case kF => exact rfl); (case kK => first | exact rfl | assumption); (case k1 => k_asm); (case k2 => k_asm); (case k3 => k_asm); (case k4 => k_asm); (case k5 => k_asm); (case k6 => exact .head _); (case k7 => exact codeRec_news (by k_asm) (.tail _ (.tail _ (.head _))) (by assumption) (by assumption)); (case k8 => ktr_room); (case k9 => exact rfl); (case c5 => decide); (case kB => exact locs rfl); (case c2 => exact rfl); (case c3 => exact rfl); (case c4 => exact rfl); k_whole; intro g'q L'q h'q FG'q F'q N'q B'q X'q T'q; (try dsimp only); (try k_lift B'q); (try k_fold)))
      iterate 20 (first | (k_unfold; (try dsimp only)) | (k_end; wrow_close) | walk1 | (dsimp only; walk1) | (leave1; (try dsimp only)) | fail "no step")
      exact hret _ [] _ _ (by k_asm) (by (first | k_asm | (refine' cb_drop ?cbN ?cbS; (case cbN => assumption); (case cbS => (intro pq hpq; repeat (first | exact hpq | refine List.Mem.tail _ ?_)))))) (fun _ h => nomatch h) (RetS.mk rfl)
    refine conK_use1 (c_bisRk w9 r0 f2 vs0 c0 (keptRows ((T9.fdiv 36).fmod 2 == 0) x4 x4.length) (wr ((T9.fdiv 36).fmod 2 == 0) y) t9 keep2 (by rw [hk2]; exact .head _) _ (by rw [keptRows_len]; exact hb4) (kept_wlen _ _ hb4 _) hkey2) (by k_asm) (by k_asm) (by k_asm) N5 (by k_asm) (by exact rfl) ⟨?q3, ?q4, hks2⟩ (by (first | exact Mine.uni2 (by assumption) rfl | exact Mine.uni1 (by assumption) rfl | exact Mine.uniN rfl | ktr_room)) (by (first | exact Mine.uni2 (by assumption) rfl | exact Mine.uni1 (by assumption) rfl | exact Mine.uniN rfl | ktr_units)) (fun _ _ h => h) ?_
    (case q3 => (refine (?_ : ∀ p ∈ U2, p ∈ _) _ (hs2 _ (hs1 _ (hsU _ m0))); ((intro pq hpq; repeat (first | exact hpq | exact List.mem_append_left _ hpq | refine List.Mem.tail _ ?_)))))
    (case q4 => (refine rows0.mono fun p hp => (?_ : ∀ p ∈ U2, p ∈ _) _ (hs2 _ (hs1 _ (hsU _ hp))); ((intro pq hpq; repeat (first | exact hpq | exact List.mem_append_left _ hpq | refine List.Mem.tail _ ?_)))))
    intro t9'' h9 tk9 F9 N9
    (try clear N5); (try clear hks2); (try clear hkey2); (try clear hk2); (try clear hdc2); (try clear hvc2)
    have N9 := prune1 N9
    (try dsimp only); (try k_fold)
    iterate 13 (first | (k_unfold; (try dsimp only)) | (k_end; wrow_close) | walk1 | (dsimp only; walk1) | (leave1; (try dsimp only)) | fail "no step")
    refine PyProof.Rows.LCt.ListComp_T (by k_asm) (by with_unfolding_all rfl) (by decide) (by rfl) (by decide) (by rfl) ?_
    (repeat ((fail_if_success (with_reducible show PyProof.Rows.LCg.CompSrc _ _ _ _ _ _ _ _ _ _ _ _ _ _)); (fail_if_success (with_reducible show PyProof.Rows.LCt.CompSrcT _ _ _ _ _ _ _ _ _ _ _ _ _ _ _)); (first | (k_unfold; (try dsimp only)) | (k_end; wrow_close) | walk1 | (dsimp only; walk1) | (leave1; (try dsimp only)) | fail "no step")))
    refine Mine.comp_rangeT (by rfl) (by k_asm) (by k_asm) (by with_reducible assumption) (by omega) (by omega) ?_
    intro g6
    refine Mine.rest_sameT _ (fun s => Txt.slice x4 (some (0 + (s : Int))) (some (0 + (s : Int) + (y.length : Int))) == y) (fun i y => ∃ t, y = .int (0 + (i : Int)) t) ?_ trivial ?_
    · rintro j zs v I2 oI2 C2 oC2 D2 m₂ h tk E' hj ⟨tv, rfl⟩ hC hx₂ F6 N6 off ne
      (try dsimp only)
      refine Mine.absQ ?_
      intro K9 hK9
      iterate 22 (first | (k_unfold; (try dsimp only)) | (k_end; wrow_close) | walk1 | (dsimp only; walk1) | (leave1; (try dsimp only)) | fail "no step")
      refine hK9 ⟨rfl, ?_⟩
      split
      · (first | (k_unfold; (try dsimp only)) | (k_end; wrow_close) | walk1 | (dsimp only; walk1) | (leave1; (try dsimp only)) | fail "no step")
        exact (Mine.turnB (by k_asm) (by k_asm) ⟨_, rfl⟩)
      · exact (Mine.turnA (by k_asm) (by k_asm))
    · intro zs hzs
      unfold LCg.FinE
      intro D8 h8 tk8 F8 N8 off8
      rw [show (((x4.length : Nat) : Int) - 0).toNat = x4.length from by omega] at hzs
      have hzl := hzs.1
      have hzk : zs.length ≤ 6 := by rw [hzl]; exact Nat.le_trans (List.length_filter_le _ _) (by rw [List.length_range]; exact hb4)
      iterate 2 (first | (k_unfold; (try dsimp only)) | (k_end; wrow_close) | walk1 | (dsimp only; walk1) | (leave1; (try dsimp only)) | fail "no step")
      have hcnt := plain_count (b := ((T9.fdiv 36).fmod 2 == 0)) (y := y) hx4 hx5 ha4 hb4 hy
      rw [← hzl] at hcnt
      iterate 2 (first | (k_unfold; (try dsimp only)) | (k_end; wrow_close) | walk1 | (dsimp only; walk1) | (leave1; (try dsimp only)) | fail "no step")
      rw [hcnt]
      rw [if_neg (by simp)]
      iterate 3 (first | (k_unfold; (try dsimp only)) | (k_end; wrow_close) | walk1 | (dsimp only; walk1) | (leave1; (try dsimp only)) | fail "no step")
      refine PieceEnd.intro (by k_asm) (by k_asm) U2 (fun p hp => .tail _ hp) (by assumption) (by assumption) (by rfl) (.inr ht2) (fun p hp => hs2 p (hs1 p hp)) hU2
  · intro oP oW vP vW ps U' m₁ h tk hoP hoW hsU hU' F1 N1
    (try clear hU); (try clear hpos0); (try clear N12); (try clear F11); (try clear F10)
    first | revert N1 | ((rename _ => hrev9); revert hrev9)
    first | revert F1 | ((rename _ => hrev9); revert hrev9)
    first | revert hU' | ((rename _ => hrev9); revert hrev9)
    first | revert hsU | ((rename _ => hrev9); revert hrev9)
    first | clear hoW | ((rename _ => hrev9); clear hrev9)
    first | clear hoP | ((rename _ => hrev9); clear hrev9)
    first | revert tk | ((rename _ => hrev9); revert hrev9)
    first | revert h | ((rename _ => hrev9); revert hrev9)
    first | revert m₁ | ((rename _ => hrev9); revert hrev9)
    first | revert U' | ((rename _ => hrev9); revert hrev9)
    first | revert ps | ((rename _ => hrev9); revert hrev9)
    first | clear vW | ((rename _ => hrev9); clear hrev9)
    first | clear vP | ((rename _ => hrev9); clear hrev9)
    first | revert oW | ((rename _ => hrev9); revert hrev9)
    first | revert oP | ((rename _ => hrev9); revert hrev9)
    first | clear e0' | ((rename _ => hrev9); clear hrev9)
    first | clear e7 | ((rename _ => hrev9); clear hrev9)
    first | clear e9 | ((rename _ => hrev9); clear hrev9)
    first | revert rows0 | ((rename _ => hrev9); revert hrev9)
    first | revert m0 | ((rename _ => hrev9); revert hrev9)
    first | revert e0 | ((rename _ => hrev9); revert hrev9)
    first | revert c0 | ((rename _ => hrev9); revert hrev9)
    first | revert vs0 | ((rename _ => hrev9); revert hrev9)
    first | revert r0 | ((rename _ => hrev9); revert hrev9)
    first | revert hr2 | ((rename _ => hrev9); revert hrev9)
    first | revert hr1 | ((rename _ => hrev9); revert hrev9)
    first | revert h11 | ((rename _ => hrev9); revert hrev9)
    first | revert D11 | ((rename _ => hrev9); revert hrev9)
    first | clear hpc | ((rename _ => hrev9); clear hrev9)
    first | revert tk10 | ((rename _ => hrev9); revert hrev9)
    first | revert h10 | ((rename _ => hrev9); revert hrev9)
    first | clear D10 | ((rename _ => hrev9); clear hrev9)
    first | revert zs2 | ((rename _ => hrev9); revert hrev9)
    first | revert g9 | ((rename _ => hrev9); revert hrev9)
    iterate 2 ((rename _ => hrev9); clear hrev9)
    iterate 2 ((rename _ => hrev9); revert hrev9)
    iterate 2 ((rename _ => hrev9); clear hrev9)
    iterate 2 ((rename _ => hrev9); revert hrev9)
    iterate 1 ((rename _ => hrev9); clear hrev9)
    iterate 1 ((rename _ => hrev9); revert hrev9)
    iterate 1 ((rename _ => hrev9); clear hrev9)
    first | revert hG1 | ((rename _ => hrev9); revert hrev9)
    first | clear hc7 | ((rename _ => hrev9); clear hrev9)
    first | revert chunk | ((rename _ => hrev9); revert hrev9)
    iterate 1 ((rename _ => hrev9); clear hrev9)
    first | clear d181 | ((rename _ => hrev9); clear hrev9)
    first | clear d6 | ((rename _ => hrev9); clear hrev9)
    first | revert d7 | ((rename _ => hrev9); revert hrev9)
    first | revert d8 | ((rename _ => hrev9); revert hrev9)
    first | clear d9 | ((rename _ => hrev9); clear hrev9)
    first | revert er | ((rename _ => hrev9); revert hrev9)
    first | clear F9' | ((rename _ => hrev9); clear hrev9)
    first | clear h9' | ((rename _ => hrev9); clear hrev9)
    first | clear chunk2 | ((rename _ => hrev9); clear hrev9)
    iterate 2 ((rename _ => hrev9); clear hrev9)
    first | revert tk7 | ((rename _ => hrev9); revert hrev9)
    first | revert D7 | ((rename _ => hrev9); revert hrev9)
    iterate 1 ((rename _ => hrev9); clear hrev9)
    first | revert ys | ((rename _ => hrev9); revert hrev9)
    first | revert hb5 | ((rename _ => hrev9); revert hrev9)
    first | revert ha5 | ((rename _ => hrev9); revert hrev9)
    first | revert hb4 | ((rename _ => hrev9); revert hrev9)
    first | revert ha4 | ((rename _ => hrev9); revert hrev9)
    iterate 2 ((rename _ => hrev9); revert hrev9)
    first | revert hx5 | ((rename _ => hrev9); revert hrev9)
    first | revert k5 | ((rename _ => hrev9); revert hrev9)
    first | revert t5 | ((rename _ => hrev9); revert hrev9)
    first | revert x5 | ((rename _ => hrev9); revert hrev9)
    iterate 2 ((rename _ => hrev9); revert hrev9)
    first | revert hx4 | ((rename _ => hrev9); revert hrev9)
    first | revert t4 | ((rename _ => hrev9); revert hrev9)
    first | revert x4 | ((rename _ => hrev9); revert hrev9)
    iterate 1 ((rename _ => hrev9); revert hrev9)
    iterate 1 ((rename _ => hrev9); clear hrev9)
    iterate 2 ((rename _ => hrev9); revert hrev9)
    first | revert hn1 | ((rename _ => hrev9); revert hrev9)
    first | revert hn0 | ((rename _ => hrev9); revert hrev9)
    first | revert T9 | ((rename _ => hrev9); revert hrev9)
    first | revert hC10 | ((rename _ => hrev9); revert hrev9)
    first | revert C | ((rename _ => hrev9); revert hrev9)
    iterate 1 ((rename _ => hrev9); clear hrev9)
    first | revert q181 | ((rename _ => hrev9); revert hrev9)
    first | clear codeHd | ((rename _ => hrev9); clear hrev9)
    iterate 3 ((rename _ => hrev9); revert hrev9)
    iterate 1 ((rename _ => hrev9); clear hrev9)
    iterate 2 ((rename _ => hrev9); revert hrev9)
    iterate 2 ((rename _ => hrev9); clear hrev9)
    iterate 2 ((rename _ => hrev9); revert hrev9)
    iterate 1 ((rename _ => hrev9); clear hrev9)
    iterate 12 ((rename _ => hrev9); revert hrev9)
    exact stageH.get)
end
section
noncomputable def walk_Law7 : (P : Prop) ×' (Stg P → walk_Law6.1) := by
 refine' ⟨_, fun stageH => ?body⟩
 case body =>
  conv => whnf
  w_top off
  w_strict (
  k_fill
  set_option tactic.hygienic false in intros
  have N2 := prune1 N1
  (try clear N1)
  (repeat ((fail_if_success (with_reducible show wpAny _ _ (call (Value.ref _) _ _) _ _ _)); (first | (k_unfold; (try dsimp only)) | (k_end; wrow_close) | walk1 | (dsimp only; walk1) | (leave1; (try dsimp only)) | fail "no step")))
  refine con_useL (c_again _ x4 t4 hb4) (by k_asm) (by k_asm) (by k_asm) (by k_asm) (by k_asm) (by exact rfl) trivial (by (first | exact Mine.uni2 (by assumption) rfl | exact Mine.uni1 (by assumption) rfl | exact Mine.uniN rfl | ktr_room)) (by (first | exact Mine.uni2 (by assumption) rfl | exact Mine.uni1 (by assumption) rfl | exact Mine.uniN rfl | ktr_units)) (fun _ _ h => h) ?_
  intro D12 vm cm h9 tk9 hm12 F9 N9 hf9
  have g8 := neNat (hf9 _ (.head _) _ (.tail _ (.tail _ (.head _))))
  have g7 := neNat (hf9 _ (.head _) _ (.tail _ (.tail _ (.tail _ (.head _)))))
  (try clear hf9)
  (dsimp only at g8 g7)
  (try clear N2)
  (try dsimp only); (try k_fold)
  (repeat ((fail_if_success (with_reducible show wpAny _ _ (call (Value.ref _) _ _) _ _ _)); (first | (k_unfold; (try dsimp only)) | (k_end; wrow_close) | walk1 | (dsimp only; walk1) | (leave1; (try dsimp only)) | fail "no step")))
  refine con_useL (c_again _ x5 t5 hb5) (by k_asm) (by k_asm) (by k_asm) (by k_asm) (by k_asm) (by exact rfl) trivial (by (first | exact Mine.uni2 (by assumption) rfl | exact Mine.uni1 (by assumption) rfl | exact Mine.uniN rfl | ktr_room)) (by (first | exact Mine.uni2 (by assumption) rfl | exact Mine.uni1 (by assumption) rfl | exact Mine.uniN rfl | ktr_units)) (fun _ _ h => h) ?_
  intro D13 vh ch h10 tk10 hm13 F10 N10 hf10
  have g13 := neNat (hf10 _ (.head _) _ (.head _))
  have g18 := neNat (hf10 _ (.head _) _ (.tail _ (.tail _ (.tail _ (.head _)))))
  have g17 := neNat (hf10 _ (.head _) _ (.tail _ (.tail _ (.tail _ (.tail _ (.head _))))))
  (try clear hf10); (try clear N9)
  (dsimp only at g13 g18 g17)
  (try dsimp only); (try k_fold)
  iterate 11 (first | (k_unfold; (try dsimp only)) | (k_end; wrow_close) | walk1 | (dsimp only; walk1) | (leave1; (try dsimp only)) | fail "no step")
  (rename News _ _ _ _ => N11)
  have N12' := prune1 N11
  (try clear N11); (try clear g7); (try clear g8); (try clear g13); (try clear g18); (try clear g17)
  have hr0 : RowsOf ys chunk 0 (keptRows ((T9.fdiv 36).fmod 2 == 0) x4 x4.length) := ⟨r0, vs0, c0, e0, m0, rows0⟩
  (try clear e0); (try clear m0); (try clear rows0); (try clear hpc); (try clear hU'); (try clear hoP); (try clear hoW); (try clear d9); (try clear d8); (try clear d7); (try clear d6); (try clear d181); (try clear hc7); (try clear e9); (try clear e7); (try clear e0')
  (((repeat ((rename _ ∧ _ => hzq); clear hzq)); (((repeat ((rename List.length _ = List.length _ => hzq); clear hzq)); (repeat ((rename List.length _ ≤ List.length _ => hzq); clear hzq)); (repeat ((rename List.length _ = min _ _ => hzq); clear hzq)); (repeat ((rename List.length _ = _ - _ => hzq); clear hzq))))))
  obtain ⟨r0, vs0, c0, e0, m0, rows0⟩ := hr0
  obtain ⟨r1, vs1, c1, e1, m1, rows1⟩ := hr1
  obtain ⟨r2, vs2, c2, e2, m2, rows2⟩ := hr2
  refine Mine.named (Txt.sliceBy x4 none none (-1, k5 + 1)) ?_
  intro xr hxr
  have hrev : ∀ u, Txt.sliceBy x4 none none (-1, u) = xr := fun u => rev_tok.trans hxr.symm
  replace rows1 : RowsAt chunk vs1 (keptRows ((T9.fdiv 36).fmod 2 == 0) xr xr.length) := by rw [hxr]; exact rows1
  replace rows2 : RowsAt chunk vs2 (keptRows ((T9.fdiv 36).fmod 2 == 0) x5 x5.length) := rows2
  rw [hrev] at er
  have erl : xr.cps.toList = x4.cps.toList.reverse := by rw [hxr, rev_list]
  have har : 4 ≤ xr.length := by rw [hxr, step_rev_len]; exact ha4
  have hbr : xr.length ≤ 6 := by rw [hxr, step_rev_len]; exact hb4
  have hA4 := plain_again hx4 ha4 hb4
  have hA5 := plain_again hx5 ha5 hb5
  have hAr := plain_rev hx4 ha4 hb4 erl
  have hf4 := tab_first hA4 ha4 hb4
  have hf5 := tab_first hA5 ha5 hb5
  refine Mine.ex1 (ints_first hm12 (by rw [again_len]; omega)) ?_
  intro tm em
  refine Mine.ex1 (ints_first hm13 (by rw [again_len]; omega)) ?_
  intro th eh
  have hM4 := mul_blank (n := ((againI x4).getD 0 0 + 1).fdiv 2) (N := 3) (by rw [Int.fdiv_eq_ediv_of_nonneg _ (by decide)]; omega)
  have hM5 := mul_blank (n := ((againI x5).getD 0 0 + 1).fdiv 2) (N := 3) (by rw [Int.fdiv_eq_ediv_of_nonneg _ (by decide)]; omega)
  have hL4 := lead_le (b := ((T9.fdiv 36).fmod 2 == 0)) ha4 hb4
  have hLr := lead_le (b := ((T9.fdiv 36).fmod 2 == 0)) har hbr
  have hL5 := lead_le (b := ((T9.fdiv 36).fmod 2 == 0)) ha5 hb5
  have hxt : (PySem.Str.ofString "x \t").length = 3 := by decide +kernel
  (try clear hsr); (try clear hs4); (try clear hs5)
  (repeat ((fail_if_success (with_reducible show wpAny _ _ (subscriptTail _ _ _ _) _ _ _)); (first | (k_unfold; (try dsimp only)) | (k_end; wrow_close) | walk1 | (dsimp only; walk1) | (leave1; (try dsimp only)) | fail "no step")))
  refine Mine.item_at (vs := ys) (News.isList (by k_asm) (by k_mem)) (by decide) (by decide) e0 ?_ (by with_unfolding_all rfl)
  (repeat ((fail_if_success (with_reducible show wpAny _ _ (call (Value.ref _) _ _) _ _ _)); (first | (k_unfold; (try dsimp only)) | (k_end; wrow_close) | walk1 | (dsimp only; walk1) | (leave1; (try dsimp only)) | fail "no step")))
  refine con_use1 (c_lead _ r0 vs0 c0 (keptRows ((T9.fdiv 36).fmod 2 == 0) x4 x4.length) x4 t4 ha4 hb4 (keptRows_len _ _ _) (kept_places _ _ _ (Nat.le_refl _))) (by k_asm) (by k_asm) (by k_asm) (by k_asm) (by k_asm) (by exact rfl) ⟨?q1, ?q2⟩ (by (first | exact Mine.uni2 (by assumption) rfl | exact Mine.uni1 (by assumption) rfl | exact Mine.uniN rfl | ktr_room)) (by (first | exact Mine.uni2 (by assumption) rfl | exact Mine.uni1 (by assumption) rfl | exact Mine.uniN rfl | ktr_units)) (fun _ _ h => h) ?_
  (case q1 => (refine (?_ : ∀ p ∈ U', p ∈ _) _ (hsU _ m0); ((intro pq hpq; repeat (first | exact hpq | exact List.mem_append_left _ hpq | refine List.Mem.tail _ ?_)))))
  (case q2 => (refine rows0.mono fun p hp => (?_ : ∀ p ∈ U', p ∈ _) _ (hsU _ hp); ((intro pq hpq; repeat (first | exact hpq | exact List.mem_append_left _ hpq | refine List.Mem.tail _ ?_)))))
  intro t11 h11 tk11 F11 N11
  (try dsimp only); (try k_fold)
  (repeat ((fail_if_success (with_reducible show wpAny _ _ (subscriptTail _ _ _ _) _ _ _)); (first | (k_unfold; (try dsimp only)) | (k_end; wrow_close) | walk1 | (dsimp only; walk1) | (leave1; (try dsimp only)) | fail "no step")))
  refine Mine.item_at (vs := vm) (News.isList (by k_asm) (by k_mem)) (by decide) (by decide) em ?_ (by with_unfolding_all rfl)
  (repeat ((fail_if_success (with_reducible show wpAny _ _ (call (Value.ref _) _ _) _ _ _)); (first | (k_unfold; (try dsimp only)) | (k_end; wrow_close) | walk1 | (dsimp only; walk1) | (leave1; (try dsimp only)) | fail "no step")))
  refine con_useR (c_ws _ _ _ (by simp only [PySem.Str.length_append, hxt]; omega)) (by k_asm) (by k_asm) (by k_asm) (by k_asm) (by k_asm) (by exact rfl) trivial (by (first | exact Mine.uni2 (by assumption) rfl | exact Mine.uni1 (by assumption) rfl | exact Mine.uniN rfl | ktr_room)) (by (first | exact Mine.uni2 (by assumption) rfl | exact Mine.uni1 (by assumption) rfl | exact Mine.uniN rfl | ktr_units)) (fun _ _ h => h) ?_
  intro o1 tl12 h12 tk12 W1 F12 N12
  rw [plain_wsf (b := ((T9.fdiv 36).fmod 2 == 0)) (Y := [120, 32, 9]) hx4 ha4 hb4 (by rw [str_app, str_app, blank_list, x_tab])] at W1
  have N13 := to_end13 N12
  (try clear N12); (try clear N11)
  replace W1 := W1.mono (fun p hp => List.mem_append_right U' hp)
  have hs13 : ∀ p ∈ chunk, p ∈ U' ++ tl12 := fun p hp => List.mem_append_left _ (hsU p hp)
  generalize U' ++ tl12 = V1 at N13 W1 hs13
  refine Mine.ex1 (P := fun z1 => WsHas _ V1 o1 z1 (wsN (againI x4))) ⟨_, W1⟩ ?_
  (try clear W1)
  intro z1 W1
  (try clear hsU)
  (try dsimp only); (try k_fold)
  (repeat ((fail_if_success (with_reducible show wpAny _ _ (subscriptTail _ _ _ _) _ _ _)); (first | (k_unfold; (try dsimp only)) | (k_end; wrow_close) | walk1 | (dsimp only; walk1) | (leave1; (try dsimp only)) | fail "no step")))
  (first | (k_unfold; (try dsimp only)) | (k_end; wrow_close) | walk1 | (dsimp only; walk1) | (leave1; (try dsimp only)) | fail "no step")
  rw [hrev]
  (repeat ((fail_if_success (with_reducible show wpAny _ _ (subscriptTail _ _ _ _) _ _ _)); (first | (k_unfold; (try dsimp only)) | (k_end; wrow_close) | walk1 | (dsimp only; walk1) | (leave1; (try dsimp only)) | fail "no step")))
  refine Mine.item_at (vs := ys) (News.isList (by k_asm) (by k_mem)) (by decide) (by decide) e1 ?_ (by with_unfolding_all rfl)
  (repeat ((fail_if_success (with_reducible show wpAny _ _ (call (Value.ref _) _ _) _ _ _)); (first | (k_unfold; (try dsimp only)) | (k_end; wrow_close) | walk1 | (dsimp only; walk1) | (leave1; (try dsimp only)) | fail "no step")))
  refine con_use1 (c_lead _ r1 vs1 c1 (keptRows ((T9.fdiv 36).fmod 2 == 0) xr xr.length) xr _ har hbr (keptRows_len _ _ _) (kept_places _ _ _ (Nat.le_refl _))) (by k_asm) (by k_asm) (by k_asm) (by k_asm) (by k_asm) (by exact rfl) ⟨?q3, ?q4⟩ (by (first | exact Mine.uni2 (by assumption) rfl | exact Mine.uni1 (by assumption) rfl | exact Mine.uniN rfl | ktr_room)) (by (first | exact Mine.uni2 (by assumption) rfl | exact Mine.uni1 (by assumption) rfl | exact Mine.uniN rfl | ktr_units)) (fun _ _ h => h) ?_
  (case q3 => (refine (?_ : ∀ p ∈ V1, p ∈ _) _ (hs13 _ m1); ((intro pq hpq; repeat (first | exact hpq | exact List.mem_append_left _ hpq | refine List.Mem.tail _ ?_)))))
  (case q4 => (refine rows1.mono fun p hp => (?_ : ∀ p ∈ V1, p ∈ _) _ (hs13 _ hp); ((intro pq hpq; repeat (first | exact hpq | exact List.mem_append_left _ hpq | refine List.Mem.tail _ ?_)))))
  intro t14 h14 tk14 F14 N14
  (try dsimp only); (try k_fold)
  (repeat ((fail_if_success (with_reducible show wpAny _ _ (subscriptTail _ _ _ _) _ _ _)); (first | (k_unfold; (try dsimp only)) | (k_end; wrow_close) | walk1 | (dsimp only; walk1) | (leave1; (try dsimp only)) | fail "no step")))
  refine Mine.item_at (vs := vm) (News.isList (by k_asm) (by k_mem)) (by decide) (by decide) em ?_ (by with_unfolding_all rfl)
  (repeat ((fail_if_success (with_reducible show wpAny _ _ (call (Value.ref _) _ _) _ _ _)); (first | (k_unfold; (try dsimp only)) | (k_end; wrow_close) | walk1 | (dsimp only; walk1) | (leave1; (try dsimp only)) | fail "no step")))
  refine con_useR (c_ws _ _ _ (by simp only [PySem.Str.length_append, hxt]; omega)) (by k_asm) (by k_asm) (by k_asm) (by k_asm) (by k_asm) (by exact rfl) trivial (by (first | exact Mine.uni2 (by assumption) rfl | exact Mine.uni1 (by assumption) rfl | exact Mine.uniN rfl | ktr_room)) (by (first | exact Mine.uni2 (by assumption) rfl | exact Mine.uni1 (by assumption) rfl | exact Mine.uniN rfl | ktr_units)) (fun _ _ h => h) ?_
  intro o2 tl15 h15 tk15 W2 F15 N15
  rw [plain_wsf (b := ((T9.fdiv 36).fmod 2 == 0)) (Y := []) er har hbr (by rw [str_app, blank_list, hAr, List.append_nil])] at W2
  have N16 := to_end13 N15
  (try clear N15); (try clear N14)
  replace W2 := W2.mono (fun p hp => List.mem_append_right V1 hp)
  replace W1 := W1.mono (fun p hp => List.mem_append_left tl15 hp)
  have hs16 : ∀ p ∈ chunk, p ∈ V1 ++ tl15 := fun p hp => List.mem_append_left _ (hs13 p hp)
  generalize V1 ++ tl15 = V2 at N16 W1 W2 hs16
  refine Mine.ex1 (P := fun z2 => WsHas _ V2 o2 z2 (wsN (againI xr))) ⟨_, W2⟩ ?_
  (try clear W2)
  intro z2 W2
  rw [hAr] at W2
  (try clear hs13)
  (try dsimp only); (try k_fold)
  (repeat ((fail_if_success (with_reducible show wpAny _ _ (subscriptTail _ _ _ _) _ _ _)); (first | (k_unfold; (try dsimp only)) | (k_end; wrow_close) | walk1 | (dsimp only; walk1) | (leave1; (try dsimp only)) | fail "no step")))
  refine Mine.item_at (vs := ys) (News.isList (by k_asm) (by k_mem)) (by decide) (by decide) e2 ?_ (by with_unfolding_all rfl)
  (repeat ((fail_if_success (with_reducible show wpAny _ _ (call (Value.ref _) _ _) _ _ _)); (first | (k_unfold; (try dsimp only)) | (k_end; wrow_close) | walk1 | (dsimp only; walk1) | (leave1; (try dsimp only)) | fail "no step")))
  refine con_use1 (c_lead _ r2 vs2 c2 (keptRows ((T9.fdiv 36).fmod 2 == 0) x5 x5.length) x5 _ ha5 hb5 (keptRows_len _ _ _) (kept_places _ _ _ (Nat.le_refl _))) (by k_asm) (by k_asm) (by k_asm) (by k_asm) (by k_asm) (by exact rfl) ⟨?q5, ?q6⟩ (by (first | exact Mine.uni2 (by assumption) rfl | exact Mine.uni1 (by assumption) rfl | exact Mine.uniN rfl | ktr_room)) (by (first | exact Mine.uni2 (by assumption) rfl | exact Mine.uni1 (by assumption) rfl | exact Mine.uniN rfl | ktr_units)) (fun _ _ h => h) ?_
  (case q5 => (refine (?_ : ∀ p ∈ V2, p ∈ _) _ (hs16 _ m2); ((intro pq hpq; repeat (first | exact hpq | exact List.mem_append_left _ hpq | refine List.Mem.tail _ ?_)))))
  (case q6 => (refine rows2.mono fun p hp => (?_ : ∀ p ∈ V2, p ∈ _) _ (hs16 _ hp); ((intro pq hpq; repeat (first | exact hpq | exact List.mem_append_left _ hpq | refine List.Mem.tail _ ?_)))))
  intro t17 h17 tk17 F17 N17
  (try dsimp only); (try k_fold)
  (repeat ((fail_if_success (with_reducible show wpAny _ _ (subscriptTail _ _ _ _) _ _ _)); (first | (k_unfold; (try dsimp only)) | (k_end; wrow_close) | walk1 | (dsimp only; walk1) | (leave1; (try dsimp only)) | fail "no step")))
  refine Mine.item_at (vs := vh) (News.isList (by k_asm) (by k_mem)) (by decide) (by decide) eh ?_ (by with_unfolding_all rfl)
  (repeat ((fail_if_success (with_reducible show wpAny _ _ (call (Value.ref _) _ _) _ _ _)); (first | (k_unfold; (try dsimp only)) | (k_end; wrow_close) | walk1 | (dsimp only; walk1) | (leave1; (try dsimp only)) | fail "no step")))
  refine con_useR (c_ws _ _ _ (by simp only [PySem.Str.length_append, hxt]; omega)) (by k_asm) (by k_asm) (by k_asm) (by k_asm) (by k_asm) (by exact rfl) trivial (by (first | exact Mine.uni2 (by assumption) rfl | exact Mine.uni1 (by assumption) rfl | exact Mine.uniN rfl | ktr_room)) (by (first | exact Mine.uni2 (by assumption) rfl | exact Mine.uni1 (by assumption) rfl | exact Mine.uniN rfl | ktr_units)) (fun _ _ h => h) ?_
  intro o3 tl18 h18 tk18 W3 F18 N18
  refine Mine.named (leadS x5 (keptRows ((T9.fdiv 36).fmod 2 == 0) x5 x5.length) ((keptRows ((T9.fdiv 36).fmod 2 == 0) x5 x5.length).length - 1) ++ Txt.mul (PySem.Str.ofString " ") (((againI x5).getD 0 0 + 1).fdiv 2)) ?_
  intro z3 hz3
  rw [← hz3] at W3
  have hz3l : z3.cps.toList = (leadS x5 (keptRows ((T9.fdiv 36).fmod 2 == 0) x5 x5.length) ((keptRows ((T9.fdiv 36).fmod 2 == 0) x5 x5.length).length - 1)).cps.toList ++ List.replicate (((againI x5).getD 0 0 + 1).fdiv 2).toNat 32 := by rw [hz3, str_app, blank_list]
  have hz3n : z3.length ≤ 40 := by rw [hz3, PySem.Str.length_append]; omega
  (try clear hz3)
  rw [plain_wsf (b := ((T9.fdiv 36).fmod 2 == 0)) (Y := []) hx5 ha5 hb5 (by rw [hz3l, List.append_nil])] at W3
  have N19 := to_end13 N18
  (try clear N18); (try clear N17)
  replace W3 := W3.mono (fun p hp => List.mem_append_right V2 hp)
  replace W1 := W1.mono (fun p hp => List.mem_append_left tl18 hp)
  replace W2 := W2.mono (fun p hp => List.mem_append_left tl18 hp)
  replace hG1 := hG1.mono (fun p hp => List.mem_append_left tl18 (hs16 p hp))
  generalize V2 ++ tl18 = V3 at N19 W1 W2 W3 hG1
  (try clear hs16); (try clear rows0); (try clear rows1); (try clear rows2); (try clear m0); (try clear m1); (try clear m2); (try clear e0); (try clear e1); (try clear e2)
  (try dsimp only); (try k_fold)
  iterate 4 (first | (k_unfold; (try dsimp only)) | (k_end; wrow_close) | walk1 | (dsimp only; walk1) | (leave1; (try dsimp only)) | fail "no step")
  first | revert tk | ((rename _ => hrev9); revert hrev9)
  iterate 3 ((rename _ => hrev9); revert hrev9)
  first | revert hG1 | ((rename _ => hrev9); revert hrev9)
  first | revert W3 | ((rename _ => hrev9); revert hrev9)
  first | revert W2 | ((rename _ => hrev9); revert hrev9)
  first | revert W1 | ((rename _ => hrev9); revert hrev9)
  first | revert V3 | ((rename _ => hrev9); revert hrev9)
  first | revert hz3n | ((rename _ => hrev9); revert hrev9)
  first | revert hz3l | ((rename _ => hrev9); revert hrev9)
  first | revert z3 | ((rename _ => hrev9); revert hrev9)
  first | clear tk18 | ((rename _ => hrev9); clear hrev9)
  first | clear h18 | ((rename _ => hrev9); clear hrev9)
  first | clear tl18 | ((rename _ => hrev9); clear hrev9)
  first | revert o3 | ((rename _ => hrev9); revert hrev9)
  iterate 7 ((rename _ => hrev9); clear hrev9)
  first | clear ek | ((rename _ => hrev9); clear hrev9)
  first | clear qk | ((rename _ => hrev9); clear hrev9)
  first | clear tk17 | ((rename _ => hrev9); clear hrev9)
  first | clear h17 | ((rename _ => hrev9); clear hrev9)
  first | clear t17 | ((rename _ => hrev9); clear hrev9)
  iterate 2 ((rename _ => hrev9); clear hrev9)
  first | revert z2 | ((rename _ => hrev9); revert hrev9)
  first | clear V2 | ((rename _ => hrev9); clear hrev9)
  first | clear tk15 | ((rename _ => hrev9); clear hrev9)
  first | clear h15 | ((rename _ => hrev9); clear hrev9)
  first | clear tl15 | ((rename _ => hrev9); clear hrev9)
  first | revert o2 | ((rename _ => hrev9); revert hrev9)
  iterate 9 ((rename _ => hrev9); clear hrev9)
  first | clear tk14 | ((rename _ => hrev9); clear hrev9)
  first | clear h14 | ((rename _ => hrev9); clear hrev9)
  first | clear t14 | ((rename _ => hrev9); clear hrev9)
  iterate 5 ((rename _ => hrev9); clear hrev9)
  first | revert z1 | ((rename _ => hrev9); revert hrev9)
  first | clear V1 | ((rename _ => hrev9); clear hrev9)
  first | clear tk12 | ((rename _ => hrev9); clear hrev9)
  first | clear h12 | ((rename _ => hrev9); clear hrev9)
  first | clear tl12 | ((rename _ => hrev9); clear hrev9)
  first | revert o1 | ((rename _ => hrev9); revert hrev9)
  iterate 12 ((rename _ => hrev9); clear hrev9)
  first | clear tk11 | ((rename _ => hrev9); clear hrev9)
  first | clear h11 | ((rename _ => hrev9); clear hrev9)
  first | clear t11 | ((rename _ => hrev9); clear hrev9)
  first | clear hxt | ((rename _ => hrev9); clear hrev9)
  first | clear hL5 | ((rename _ => hrev9); clear hrev9)
  first | clear hLr | ((rename _ => hrev9); clear hrev9)
  first | clear hL4 | ((rename _ => hrev9); clear hrev9)
  first | clear hM5 | ((rename _ => hrev9); clear hrev9)
  first | clear hM4 | ((rename _ => hrev9); clear hrev9)
  first | clear eh | ((rename _ => hrev9); clear hrev9)
  first | clear th | ((rename _ => hrev9); clear hrev9)
  first | clear em | ((rename _ => hrev9); clear hrev9)
  first | clear tm | ((rename _ => hrev9); clear hrev9)
  first | revert hf5 | ((rename _ => hrev9); revert hrev9)
  first | revert hf4 | ((rename _ => hrev9); revert hrev9)
  first | clear hAr | ((rename _ => hrev9); clear hrev9)
  first | revert hA5 | ((rename _ => hrev9); revert hrev9)
  first | revert hA4 | ((rename _ => hrev9); revert hrev9)
  first | clear hbr | ((rename _ => hrev9); clear hrev9)
  first | clear har | ((rename _ => hrev9); clear hrev9)
  first | clear erl | ((rename _ => hrev9); clear hrev9)
  first | clear hrev | ((rename _ => hrev9); clear hrev9)
  first | clear hxr | ((rename _ => hrev9); clear hrev9)
  first | clear er | ((rename _ => hrev9); clear hrev9)
  first | revert xr | ((rename _ => hrev9); revert hrev9)
  first | clear c2 | ((rename _ => hrev9); clear hrev9)
  first | clear vs2 | ((rename _ => hrev9); clear hrev9)
  first | clear r2 | ((rename _ => hrev9); clear hrev9)
  first | clear c1 | ((rename _ => hrev9); clear hrev9)
  first | clear vs1 | ((rename _ => hrev9); clear hrev9)
  first | clear r1 | ((rename _ => hrev9); clear hrev9)
  first | clear c0 | ((rename _ => hrev9); clear hrev9)
  first | clear vs0 | ((rename _ => hrev9); clear hrev9)
  first | clear r0 | ((rename _ => hrev9); clear hrev9)
  iterate 1 ((rename _ => hrev9); clear hrev9)
  iterate 2 ((rename _ => hrev9); revert hrev9)
  iterate 1 ((rename _ => hrev9); clear hrev9)
  iterate 2 ((rename _ => hrev9); revert hrev9)
  iterate 4 ((rename _ => hrev9); clear hrev9)
  first | revert hm13 | ((rename _ => hrev9); revert hrev9)
  first | clear tk10 | ((rename _ => hrev9); clear hrev9)
  first | clear h10 | ((rename _ => hrev9); clear hrev9)
  first | revert ch | ((rename _ => hrev9); revert hrev9)
  first | revert vh | ((rename _ => hrev9); revert hrev9)
  first | revert D13 | ((rename _ => hrev9); revert hrev9)
  first | revert hm12 | ((rename _ => hrev9); revert hrev9)
  first | clear tk9 | ((rename _ => hrev9); clear hrev9)
  first | clear h9 | ((rename _ => hrev9); clear hrev9)
  first | revert cm | ((rename _ => hrev9); revert hrev9)
  first | revert vm | ((rename _ => hrev9); revert hrev9)
  first | revert D12 | ((rename _ => hrev9); revert hrev9)
  iterate 1 ((rename _ => hrev9); clear hrev9)
  first | clear h | ((rename _ => hrev9); clear hrev9)
  first | revert m₁ | ((rename _ => hrev9); revert hrev9)
  first | clear U' | ((rename _ => hrev9); clear hrev9)
  first | revert ps | ((rename _ => hrev9); revert hrev9)
  first | revert oW | ((rename _ => hrev9); revert hrev9)
  first | revert oP | ((rename _ => hrev9); revert hrev9)
  iterate 4 ((rename _ => hrev9); clear hrev9)
  first | clear D11 | ((rename _ => hrev9); clear hrev9)
  iterate 2 ((rename _ => hrev9); clear hrev9)
  first | clear zs2 | ((rename _ => hrev9); clear hrev9)
  first | clear g9 | ((rename _ => hrev9); clear hrev9)
  iterate 5 ((rename _ => hrev9); clear hrev9)
  first | clear chunk | ((rename _ => hrev9); clear hrev9)
  first | clear tk7 | ((rename _ => hrev9); clear hrev9)
  first | revert D7 | ((rename _ => hrev9); revert hrev9)
  first | revert ys | ((rename _ => hrev9); revert hrev9)
  first | revert hb5 | ((rename _ => hrev9); revert hrev9)
  first | revert ha5 | ((rename _ => hrev9); revert hrev9)
  first | revert hb4 | ((rename _ => hrev9); revert hrev9)
  first | revert ha4 | ((rename _ => hrev9); revert hrev9)
  iterate 1 ((rename _ => hrev9); clear hrev9)
  iterate 1 ((rename _ => hrev9); revert hrev9)
  first | revert hx5 | ((rename _ => hrev9); revert hrev9)
  first | clear k5 | ((rename _ => hrev9); clear hrev9)
  first | clear t5 | ((rename _ => hrev9); clear hrev9)
  first | revert x5 | ((rename _ => hrev9); revert hrev9)
  iterate 1 ((rename _ => hrev9); clear hrev9)
  iterate 1 ((rename _ => hrev9); revert hrev9)
  first | revert hx4 | ((rename _ => hrev9); revert hrev9)
  first | clear t4 | ((rename _ => hrev9); clear hrev9)
  first | revert x4 | ((rename _ => hrev9); revert hrev9)
  iterate 3 ((rename _ => hrev9); revert hrev9)
  first | revert hn1 | ((rename _ => hrev9); revert hrev9)
  first | revert hn0 | ((rename _ => hrev9); revert hrev9)
  first | revert T9 | ((rename _ => hrev9); revert hrev9)
  first | revert hC10 | ((rename _ => hrev9); revert hrev9)
  first | revert C | ((rename _ => hrev9); revert hrev9)
  first | clear q181 | ((rename _ => hrev9); clear hrev9)
  iterate 3 ((rename _ => hrev9); revert hrev9)
  iterate 6 ((rename _ => hrev9); clear hrev9)
  iterate 2 ((rename _ => hrev9); revert hrev9)
  iterate 2 ((rename _ => hrev9); clear hrev9)
  iterate 6 ((rename _ => hrev9); revert hrev9)
  exact stageH.get)
end
section
noncomputable def walk_Law9 : (P : Prop) ×' (Stg P → walk_Law7.1) := by
 refine' ⟨_, fun stageH => ?body⟩
 case body =>
  conv => whnf
  w_top off
  w_strict (
  k_fill
  set_option tactic.hygienic false in intros
  replace W3 : WsHas _ V3 o3 z3 (wsN (againI x5)) := W3
  (rename News _ _ _ _ => N19)
  obtain ⟨V3, N1, hG1, hG2, hsV⟩ := drop_to5 N19 hG1
  replace W1 := W1.mono hsV
  replace W2 := W2.mono hsV
  replace W3 := W3.mono hsV
  (try clear N19); (try clear hsV)
  obtain ⟨d1, E1, P1, v1, k1, k2, k3, k4, k5', tx1, tn1, tt1, tb1, hi1, N1⟩ := ws_front N1 (W1.mono (by ((intro pq hpq; repeat (first | exact hpq | exact List.mem_append_left _ hpq | refine List.Mem.tail _ ?_)))))
  obtain ⟨d2, E2, P2, v2, k6, k7, k8, k9, k10, tx2, tn2, tt2, tb2, hi2, N1⟩ := ws_front N1 (W2.mono (by ((intro pq hpq; repeat (first | exact hpq | exact List.mem_append_left _ hpq | refine List.Mem.tail _ ?_)))))
  obtain ⟨d3, E3, P3, v3, k11, k12, k13, k14, k15, tx3, tn3, tt3, tb3, hi3, N1⟩ := ws_front N1 (W3.mono (by ((intro pq hpq; repeat (first | exact hpq | exact List.mem_append_left _ hpq | refine List.Mem.tail _ ?_)))))
  have hw4 := tab_few hA4 ha4 hb4
  have hw5 := tab_few hA5 ha5 hb5
  (repeat ((fail_if_success (with_reducible show wpAny _ _ (call (Value.ref _) _ _) _ _ _)); (first | (k_unfold; (try dsimp only)) | (k_end; wrow_close) | walk1 | (dsimp only; walk1) | (leave1; (try dsimp only)) | fail "no step")))
  refine con_use (c_norm _ D12 vm (againI x4) cm hm12 (again_lt hb4) (again_pos ha4) hw4) (by k_asm) (by k_asm) (by k_asm) (by k_asm) (by k_asm) (by exact rfl) (by k_mem) (by (first | exact Mine.uni2 (by assumption) rfl | exact Mine.uni1 (by assumption) rfl | exact Mine.uniN rfl | ktr_room)) (by (first | exact Mine.uni2 (by assumption) rfl | exact Mine.uni1 (by assumption) rfl | exact Mine.uniN rfl | ktr_units)) ?_
  intro s20 tl20 h20 tk20 F20 N20 hf20 hp20
  (try clear hf20)
  have N20 := to_end [_, _, _, _, _, _, _, _, _, _, _, _, _, _, _, _, _] N20
  (simp only [List.cons_append, List.nil_append] at N20)
  replace hp20 := hp20.mono (fun p hp => List.mem_append_right V3 hp)
  replace W1 := W1.mono (fun p hp => List.mem_append_left tl20 hp)
  replace W2 := W2.mono (fun p hp => List.mem_append_left tl20 hp)
  replace W3 := W3.mono (fun p hp => List.mem_append_left tl20 hp)
  replace hG1 := hG1.mono (fun p hp => List.mem_append_left tl20 hp)
  replace hG2 := hG2.mono (fun p hp => List.mem_append_left tl20 hp)
  generalize V3 ++ tl20 = V4 at N20 hp20 W1 W2 W3 hG1 hG2
  (try dsimp only); (try k_fold)
  (repeat ((fail_if_success (with_reducible show wpAny _ _ (call (Value.ref _) _ _) _ _ _)); (first | (k_unfold; (try dsimp only)) | (k_end; wrow_close) | walk1 | (dsimp only; walk1) | (leave1; (try dsimp only)) | fail "no step")))
  refine con_use (c_norm _ D12 vm (againI x4) cm hm12 (again_lt hb4) (again_pos ha4) hw4) (by k_asm) (by k_asm) (by k_asm) (by k_asm) (by k_asm) (by exact rfl) (by k_mem) (by (first | exact Mine.uni2 (by assumption) rfl | exact Mine.uni1 (by assumption) rfl | exact Mine.uniN rfl | ktr_room)) (by (first | exact Mine.uni2 (by assumption) rfl | exact Mine.uni1 (by assumption) rfl | exact Mine.uniN rfl | ktr_units)) ?_
  intro s21 tl21 h21 tk21 F21 N21 hf21 hp21
  (try clear hf21)
  have N21 := to_end [_, _, _, _, _, _, _, _, _, _, _, _, _, _, _, _, _] N21
  (simp only [List.cons_append, List.nil_append] at N21)
  replace hp21 := hp21.mono (fun p hp => List.mem_append_right V4 hp)
  replace hp20 := hp20.mono (fun p hp => List.mem_append_left tl21 hp)
  replace W1 := W1.mono (fun p hp => List.mem_append_left tl21 hp)
  replace W2 := W2.mono (fun p hp => List.mem_append_left tl21 hp)
  replace W3 := W3.mono (fun p hp => List.mem_append_left tl21 hp)
  replace hG1 := hG1.mono (fun p hp => List.mem_append_left tl21 hp)
  replace hG2 := hG2.mono (fun p hp => List.mem_append_left tl21 hp)
  generalize V4 ++ tl21 = V5 at N21 hp20 hp21 W1 W2 W3 hG1 hG2
  (try dsimp only); (try k_fold)
  (repeat ((fail_if_success (with_reducible show wpAny _ _ (call (Value.ref _) _ _) _ _ _)); (first | (k_unfold; (try dsimp only)) | (k_end; wrow_close) | walk1 | (dsimp only; walk1) | (leave1; (try dsimp only)) | fail "no step")))
  refine con_use (c_norm _ D13 vh (againI x5) ch hm13 (again_lt hb5) (again_pos ha5) hw5) (by k_asm) (by k_asm) (by k_asm) (by k_asm) (by k_asm) (by exact rfl) (by k_mem) (by (first | exact Mine.uni2 (by assumption) rfl | exact Mine.uni1 (by assumption) rfl | exact Mine.uniN rfl | ktr_room)) (by (first | exact Mine.uni2 (by assumption) rfl | exact Mine.uni1 (by assumption) rfl | exact Mine.uniN rfl | ktr_units)) ?_
  intro s22 tl22 h22 tk22 F22 N22 hf22 hp22
  (try clear hf22)
  have N22 := to_end [_, _, _, _, _, _, _, _, _, _, _, _, _, _, _, _, _] N22
  (simp only [List.cons_append, List.nil_append] at N22)
  replace hp22 := hp22.mono (fun p hp => List.mem_append_right V5 hp)
  replace hp21 := hp21.mono (fun p hp => List.mem_append_left tl22 hp)
  replace hp20 := hp20.mono (fun p hp => List.mem_append_left tl22 hp)
  replace W1 := W1.mono (fun p hp => List.mem_append_left tl22 hp)
  replace W2 := W2.mono (fun p hp => List.mem_append_left tl22 hp)
  replace W3 := W3.mono (fun p hp => List.mem_append_left tl22 hp)
  replace hG1 := hG1.mono (fun p hp => List.mem_append_left tl22 hp)
  replace hG2 := hG2.mono (fun p hp => List.mem_append_left tl22 hp)
  generalize V5 ++ tl22 = V6 at N22 hp20 hp21 hp22 W1 W2 W3 hG1 hG2
  (try dsimp only); (try k_fold)
  (repeat ((fail_if_success (with_reducible show wpAny _ _ (compareOp _ _ _) _ _ _)); (first | (k_unfold; (try dsimp only)) | (k_end; wrow_close) | walk1 | (dsimp only; walk1) | (leave1; (try dsimp only)) | fail "no step")))
  (rename News _ _ _ _ => N30)
  refine Mine.dat_ne_eq N30 (d := .list [normT (againI x4), normT (againI x4), normT (againI x5)]) (e := .list [normT (againI x4), normT (againI x4), normT (againI x5)]) (.list (vs := [_, _, _]) (.tail _ (.head _)) (.cons ?n1 (.cons ?n2 (.cons ?n3 .nil)))) (.list (vs := [_, _, _]) (.head _) (.cons (hp20.mono (by ((intro pq hpq; repeat (first | exact hpq | exact List.mem_append_left _ hpq | refine List.Mem.tail _ ?_))))) (.cons (hp21.mono (by ((intro pq hpq; repeat (first | exact hpq | exact List.mem_append_left _ hpq | refine List.Mem.tail _ ?_))))) (.cons (hp22.mono (by ((intro pq hpq; repeat (first | exact hpq | exact List.mem_append_left _ hpq | refine List.Mem.tail _ ?_))))) .nil)))) (norms_ok hf4.1 hf4.1 hf5.1) (norms_ok hf4.1 hf4.1 hf5.1) (by (first | exact Mine.uni2 (by assumption) rfl | exact Mine.uni1 (by assumption) rfl | exact Mine.uniN rfl | ktr_units)) rfl ?_
  (case n1 => (rw [← normT_eq hf4.1]; exact normD_at (by k_mem) (by k_mem) (by assumption)))
  (case n2 => (rw [← normT_eq hf4.1]; exact normD_at (by k_mem) (by k_mem) (by assumption)))
  (case n3 => (rw [← normT_eq hf5.1]; exact normD_at (by k_mem) (by k_mem) (by assumption)))
  (try clear hp20); (try clear hp21); (try clear hp22)
  have N31 : News _ _ _ (_ :: _ :: _ :: _ :: V6) := fun p hp => N30 p (by (iterate 14 (refine .tail _ ?_)); exact hp)
  (try clear N30)
  iterate 5 (first | (k_unfold; (try dsimp only)) | (k_end; wrow_close) | walk1 | (dsimp only; walk1) | (leave1; (try dsimp only)) | fail "no step")
  (try clear hi1); (try clear hi2); (try clear hi3); (try clear tx1); (try clear tx2); (try clear tx3); (try clear tn1); (try clear tn2); (try clear tn3); (try clear tt1); (try clear tt2); (try clear tt3); (try clear hw4); (try clear hw5)
  have hsm4 := tab_small hA4 ha4 hb4
  have hsm5 := tab_small hA5 ha5 hb5
  (rename News _ _ _ _ => N31)
  obtain ⟨d1, E1, P1, v1, k1, k2, k3, k4, k5', tx1, tn1, tt1, tb1, hi1, N1⟩ := ws_front N31 (W1.mono (by ((intro pq hpq; repeat (first | exact hpq | exact List.mem_append_left _ hpq | refine List.Mem.tail _ ?_)))))
  obtain ⟨d2, E2, P2, v2, k6, k7, k8, k9, k10, tx2, tn2, tt2, tb2, hi2, N1⟩ := ws_front N1 (W2.mono (by ((intro pq hpq; repeat (first | exact hpq | exact List.mem_append_left _ hpq | refine List.Mem.tail _ ?_)))))
  obtain ⟨d3, E3, P3, v3, k11, k12, k13, k14, k15, tx3, tn3, tt3, tb3, hi3, N1⟩ := ws_front N1 (W3.mono (by ((intro pq hpq; repeat (first | exact hpq | exact List.mem_append_left _ hpq | refine List.Mem.tail _ ?_)))))
  (rename World => w9)
  have hC1 : Con w9 38 [.ref o1] 1 20 (fun news => WsHas w9 news o1 z1 (wsN (againI x4))) (RetI (longI (againI x4))) := by
    rw [← tab_long hA4 ha4 hb4]; exact c_wlong w9 o1 z1 _ (by omega) hsm4.2
  have hC2 : Con w9 52 [.ref o1, .ref o2] 1 100 (fun news => WsHas w9 news o1 z1 (wsN (againI x4)) ∧ WsHas w9 news o2 z2 (wsN (againI x4))) (RetB true) := by
    have := c_wequal w9 o1 o2 z1 z2 (wsN (againI x4)) (wsN (againI x4)) (by omega) hsm4.2 (by omega) hsm4.2
    rw [same_self] at this; exact this
  (repeat ((fail_if_success (with_reducible show wpAny _ _ (call (Value.ref _) _ _) _ _ _)); (first | (k_unfold; (try dsimp only)) | (k_end; wrow_close) | walk1 | (dsimp only; walk1) | (leave1; (try dsimp only)) | fail "no step")))
  refine con_use1 (hC1) (by k_asm) (by k_asm) (by k_asm) (by k_asm) (by k_asm) (by exact rfl) (W1.mono (by ((intro pq hpq; repeat (first | exact hpq | exact List.mem_append_left _ hpq | refine List.Mem.tail _ ?_))))) (by (first | exact Mine.uni2 (by assumption) rfl | exact Mine.uni1 (by assumption) rfl | exact Mine.uniN rfl | ktr_room)) (by (first | exact Mine.uni2 (by assumption) rfl | exact Mine.uni1 (by assumption) rfl | exact Mine.uniN rfl | ktr_units)) (fun _ _ h => h) ?_
  intro t9 h9 tk9 F9 N9
  (try dsimp only); (try k_fold)
  (repeat ((fail_if_success (with_reducible show wpAny _ _ (call (Value.ref _) _ _) _ _ _)); (first | (k_unfold; (try dsimp only)) | (k_end; wrow_close) | walk1 | (dsimp only; walk1) | (leave1; (try dsimp only)) | fail "no step")))
  refine con_use1 (c_longest _ D12 vm (againI x4) cm hm12 (again_lt hb4) (again_pos ha4)) (by k_asm) (by k_asm) (by k_asm) (by k_asm) (by k_asm) (by exact rfl) (by k_mem) (by (first | exact Mine.uni2 (by assumption) rfl | exact Mine.uni1 (by assumption) rfl | exact Mine.uniN rfl | ktr_room)) (by (first | exact Mine.uni2 (by assumption) rfl | exact Mine.uni1 (by assumption) rfl | exact Mine.uniN rfl | ktr_units)) (fun _ _ h => h) ?_
  intro t9 h9 tk9 F9 N9
  (try dsimp only); (try k_fold)
  iterate 3 (first | (k_unfold; (try dsimp only)) | (k_end; wrow_close) | walk1 | (dsimp only; walk1) | (leave1; (try dsimp only)) | fail "no step")
  rw [if_neg (by simp)]
  (repeat ((fail_if_success (with_reducible show wpAny _ _ (call (Value.ref _) _ _) _ _ _)); (first | (k_unfold; (try dsimp only)) | (k_end; wrow_close) | walk1 | (dsimp only; walk1) | (leave1; (try dsimp only)) | fail "no step")))
  refine con_use0 hC2 (by k_asm) (by k_asm) (by k_asm) (by k_asm) (by k_asm) (by exact rfl) ⟨W1.mono (by ((intro pq hpq; repeat (first | exact hpq | exact List.mem_append_left _ hpq | refine List.Mem.tail _ ?_)))), W2.mono (by ((intro pq hpq; repeat (first | exact hpq | exact List.mem_append_left _ hpq | refine List.Mem.tail _ ?_))))⟩ (by (first | exact Mine.uni2 (by assumption) rfl | exact Mine.uni1 (by assumption) rfl | exact Mine.uniN rfl | ktr_room)) (by (first | exact Mine.uni2 (by assumption) rfl | exact Mine.uni1 (by assumption) rfl | exact Mine.uniN rfl | ktr_units)) (fun _ _ h => h) ?_
  intro h9 tk9 F9 N9
  (try dsimp only); (try k_fold)
  iterate 10 (first | (k_unfold; (try dsimp only)) | (k_end; wrow_close) | walk1 | (dsimp only; walk1) | (leave1; (try dsimp only)) | fail "no step")
  have h10 : x4.length + x5.length = 10 := by
    have q4 := word_len hx4 rfl
    have q5 := word_len hx5 rfl
    rw [List.length_map, List.length_take] at q4
    rw [List.length_map, List.length_drop] at q5
    omega
  have hP := pair_of hA4 hA5 h10 ha4 hb4
  have hP' := pair_of hA5 hA4 (by omega) ha5 hb5
  have hC3 : Con w9 52 [.ref o1, .ref o3] 1 100 (fun news => WsHas w9 news o1 z1 (wsN (againI x4)) ∧ WsHas w9 news o3 z3 (wsN (againI x5))) (RetB (decide (againI x4 = againI x5))) := by
    have := c_wequal w9 o1 o3 z1 z3 (wsN (againI x4)) (wsN (againI x5)) (by omega) hsm4.2 (by omega) hsm5.2
    rw [pair_same hP] at this; exact this
  (repeat ((fail_if_success (with_reducible show wpAny _ _ (call (Value.ref _) _ _) _ _ _)); (first | (k_unfold; (try dsimp only)) | (k_end; wrow_close) | walk1 | (dsimp only; walk1) | (leave1; (try dsimp only)) | fail "no step")))
  refine con_use0 hC3 (by k_asm) (by k_asm) (by k_asm) (by k_asm) (by k_asm) (by exact rfl) ⟨W1.mono (by ((intro pq hpq; repeat (first | exact hpq | exact List.mem_append_left _ hpq | refine List.Mem.tail _ ?_)))), W3.mono (by ((intro pq hpq; repeat (first | exact hpq | exact List.mem_append_left _ hpq | refine List.Mem.tail _ ?_))))⟩ (by (first | exact Mine.uni2 (by assumption) rfl | exact Mine.uni1 (by assumption) rfl | exact Mine.uniN rfl | ktr_room)) (by (first | exact Mine.uni2 (by assumption) rfl | exact Mine.uni1 (by assumption) rfl | exact Mine.uniN rfl | ktr_units)) (fun _ _ h => h) ?_
  intro h9 tk9 F9 N9
  (try dsimp only); (try k_fold)
  (repeat ((fail_if_success (with_reducible show wpAny _ _ (compareOp _ _ _) _ _ _)); (first | (k_unfold; (try dsimp only)) | (k_end; wrow_close) | walk1 | (dsimp only; walk1) | (leave1; (try dsimp only)) | fail "no step")))
  refine Mine.dat_eq (d := .list ((againI x4).map Dat.int)) (e := .list ((againI x5).map Dat.int)) (by k_asm) (.list (by k_mem) (datInts hm12)) (.list (by k_mem) (datInts hm13)) (List.all_eq_true.mpr (ints_ok _ _)) (List.all_eq_true.mpr (ints_ok _ _)) (by (first | exact Mine.uni2 (by assumption) rfl | exact Mine.uni1 (by assumption) rfl | exact Mine.uniN rfl | ktr_units)) ?_
  rw [list_dat]
  iterate 3 (first | (k_unfold; (try dsimp only)) | (k_end; wrow_close) | walk1 | (dsimp only; walk1) | (leave1; (try dsimp only)) | fail "no step")
  rw [if_neg (by simp)]
  (repeat ((fail_if_success (with_reducible show wpAny _ _ (call (Value.ref _) _ _) _ _ _)); (first | (k_unfold; (try dsimp only)) | (k_end; wrow_close) | walk1 | (dsimp only; walk1) | (leave1; (try dsimp only)) | fail "no step")))
  have hb1 : (PySem.Str.ofString " ").length = 1 := by decide +kernel
  have hb2 : (PySem.Str.ofString " ").cps.toList = [32] := by decide +kernel
  refine con_useR (c_ws _ _ _ (by simp only [PySem.Str.length_append, hb1]; omega)) (by k_asm) (by k_asm) (by k_asm) (by k_asm) (by k_asm) (by exact rfl) trivial (by (first | exact Mine.uni2 (by assumption) rfl | exact Mine.uni1 (by assumption) rfl | exact Mine.uniN rfl | ktr_room)) (by (first | exact Mine.uni2 (by assumption) rfl | exact Mine.uni1 (by assumption) rfl | exact Mine.uniN rfl | ktr_units)) (fun _ _ h => h) ?_
  intro o4 tl12 h12 tk12 W4 F12 N12
  rw [plain_wsf (b := ((T9.fdiv 36).fmod 2 == 0)) (Y := [32]) hx5 ha5 hb5 (by rw [str_app, hz3l, hb2])] at W4
  (try dsimp only); (try k_fold)
  have hC4 : Con w9 52 [.ref o3, .ref o4] 1 100 (fun news => WsHas w9 news o3 z3 (wsN (againI x5)) ∧ WsHas w9 news o4 (z3 ++ PySem.Str.ofString " ") (wsBlank (wsN (againI x5)))) (RetB false) := by
    have := c_wequal w9 o3 o4 z3 (z3 ++ PySem.Str.ofString " ") (wsN (againI x5)) (wsBlank (wsN (againI x5))) (by omega) hsm5.2 (by show (wsN (againI x5)).b + 1 ≤ 60; omega) hsm5.2
    rw [same_blank] at this; exact this
  (repeat ((fail_if_success (with_reducible show wpAny _ _ (call (Value.ref _) _ _) _ _ _)); (first | (k_unfold; (try dsimp only)) | (k_end; wrow_close) | walk1 | (dsimp only; walk1) | (leave1; (try dsimp only)) | fail "no step")))
  refine con_use0 hC4 (by k_asm) (by k_asm) (by k_asm) (by k_asm) (by k_asm) (by exact rfl) ⟨(W3.mono (by ((intro pq hpq; repeat (first | exact hpq | exact List.mem_append_left _ hpq | refine List.Mem.tail _ ?_))))).mono (fun p hp => List.mem_append_right _ hp), W4.mono (fun p hp => List.mem_append_left _ hp)⟩ (by (first | exact Mine.uni2 (by assumption) rfl | exact Mine.uni1 (by assumption) rfl | exact Mine.uniN rfl | ktr_room)) (by (first | exact Mine.uni2 (by assumption) rfl | exact Mine.uni1 (by assumption) rfl | exact Mine.uniN rfl | ktr_units)) (fun _ _ h => h) ?_
  intro h9 tk9 F9 N9
  (try dsimp only); (try k_fold)
  iterate 9 (first | (k_unfold; (try dsimp only)) | (k_end; wrow_close) | walk1 | (dsimp only; walk1) | (leave1; (try dsimp only)) | fail "no step")
  (rename News _ _ _ _ => N40)
  have N41 : News _ _ _ (_ :: _ :: _ :: _ :: V6) := fun p hp => N40 p (by (refine List.mem_append_right _ ?_); (iterate 12 (refine .tail _ ?_)); exact hp)
  (try clear N40); (try clear N31); (try clear hi1); (try clear hi2); (try clear hi3); (try clear hC1); (try clear hC2); (try clear hC3); (try clear hC4); (try clear W4); (try clear hz3l); (try clear hz3n); (try clear hL4); (try clear hLr); (try clear hL5); (try clear hM4); (try clear hM5); (try clear em); (try clear eh)
  (rename Fr _ _ _ _ => F41)
  revert N41 F41
  repeat ((rename News _ _ _ _ => hz); clear hz)
  repeat ((rename Fr _ _ _ _ => hz); clear hz)
  intro N41 F41
  (((repeat ((rename _ ∧ _ => hzq); clear hzq)); (((repeat ((rename List.length _ = List.length _ => hzq); clear hzq)); (repeat ((rename List.length _ ≤ List.length _ => hzq); clear hzq)); (repeat ((rename List.length _ = min _ _ => hzq); clear hzq)); (repeat ((rename List.length _ = _ - _ => hzq); clear hzq))))))
  have hl4 := tab_longI hA4 ha4 hb4
  have hl5 := tab_longI hA5 ha5 hb5
  (repeat ((fail_if_success (with_reducible show wpAny _ _ (call (Value.ref _) _ _) _ _ _)); (first | (k_unfold; (try dsimp only)) | (k_end; wrow_close) | walk1 | (dsimp only; walk1) | (leave1; (try dsimp only)) | fail "no step")))
  refine con_use1 (c_longest _ D12 vm (againI x4) cm hm12 (again_lt hb4) (again_pos ha4)) (by k_asm) (by k_asm) (by k_asm) (by k_asm) (by k_asm) (by exact rfl) (by k_mem) (by (first | exact Mine.uni2 (by assumption) rfl | exact Mine.uni1 (by assumption) rfl | exact Mine.uniN rfl | ktr_room)) (by (first | exact Mine.uni2 (by assumption) rfl | exact Mine.uni1 (by assumption) rfl | exact Mine.uniN rfl | ktr_units)) (fun _ _ h => h) ?_
  intro t9 h9 tk9 F9 N9
  (try dsimp only); (try k_fold)
  (repeat ((fail_if_success (with_reducible show wpAny _ _ (call (Value.ref _) _ _) _ _ _)); (first | (k_unfold; (try dsimp only)) | (k_end; wrow_close) | walk1 | (dsimp only; walk1) | (leave1; (try dsimp only)) | fail "no step")))
  refine con_use1 (c_longest _ D13 vh (againI x5) ch hm13 (again_lt hb5) (again_pos ha5)) (by k_asm) (by k_asm) (by k_asm) (by k_asm) (by k_asm) (by exact rfl) (by k_mem) (by (first | exact Mine.uni2 (by assumption) rfl | exact Mine.uni1 (by assumption) rfl | exact Mine.uniN rfl | ktr_room)) (by (first | exact Mine.uni2 (by assumption) rfl | exact Mine.uni1 (by assumption) rfl | exact Mine.uniN rfl | ktr_units)) (fun _ _ h => h) ?_
  intro t9 h9 tk9 F9 N9
  (try dsimp only); (try k_fold)
  iterate 6 (first | (k_unfold; (try dsimp only)) | (k_end; wrow_close) | walk1 | (dsimp only; walk1) | (leave1; (try dsimp only)) | fail "no step")
  have hTl := lawTop_le hA4 hA5 ha4 hb4 ha5 hb5
  have hTe : (if longI (againI x5) > longI (againI x4) then longI (againI x5) else longI (againI x4)) + 1 = ((lawTop (againI x4) (againI x5) : Nat) : Int) := by
    unfold lawTop
    split <;> omega
  rw [hTe]
  generalize hTg : lawTop (againI x4) (againI x5) = top at hTl
  (try clear hTe)
  (repeat ((fail_if_success (with_reducible show wpAny _ _ (eval (PySem.Expr.ListComp _ _ _ _) _) _ _ _)); (fail_if_success (with_reducible show wpAny _ _ (exec (PySem.Stmt.Assign _ (PySem.Expr.ListComp _ _ _ _) _) _) _ _ _)); (first | (k_unfold; (try dsimp only)) | (k_end; wrow_close) | walk1 | (dsimp only; walk1) | (leave1; (try dsimp only)) | fail "no step")))
  refine PyProof.Rows.LCg.Assign_ListComp_U (F₀ := by k_asm) (by rfl) (by with_unfolding_all rfl) (by with_unfolding_all rfl) (by decide) (by rfl) (by decide) (by rfl) (by rfl) (by rfl) ?_
  (repeat ((fail_if_success (with_reducible show PyProof.Rows.LCg.CompSrc _ _ _ _ _ _ _ _ _ _ _ _ _ _)); (fail_if_success (with_reducible show PyProof.Rows.LCt.CompSrcT _ _ _ _ _ _ _ _ _ _ _ _ _ _ _)); (first | (k_unfold; (try dsimp only)) | (k_end; wrow_close) | walk1 | (dsimp only; walk1) | (leave1; (try dsimp only)) | fail "no step")))
  refine Mine.comp_range (by rfl) (by k_asm) (by k_asm) (by with_reducible assumption) (by omega) (by omega) ?_
  intro g11
  refine Mine.rest_grow _ (fun i y T => TripAt T y (1 + (i : Int), levI (againI x4) (1 + (i : Int)), levI (againI x5) (1 + (i : Int)))) (fun i y T T' hs h => h.mono hs) ?_ (fun chunk => trivial) ?_
  · rintro i ys3 chunk3 v I oI C2 oC D m₂ h tk E' hi ⟨tv, rfl⟩ hC2 hx₂ F6 N6 off ne
    (try dsimp only)
    refine Mine.absQ ?_
    intro K9 hK9
    (simp only [List.cons_append] at N6 off)
    rw [Mine.pm1] at hi
    (repeat ((fail_if_success (with_reducible show wpAny _ _ (call (Value.ref _) _ _) _ _ _)); (first | (k_unfold; (try dsimp only)) | (k_end; wrow_close) | walk1 | (dsimp only; walk1) | (leave1; (try dsimp only)) | fail "no step")))
    refine con_use1 (c_level _ D12 vm (againI x4) cm (1 + (i : Int)) tv hm12 (again_lt hb4) (again_pos ha4) (by omega) (by omega)) (by k_asm) (by k_asm) (by k_asm) (by k_asm) (by k_asm) (by exact rfl) (by k_mem) (by (first | exact Mine.uni2 (by assumption) rfl | exact Mine.uni1 (by assumption) rfl | exact Mine.uniN rfl | ktr_room)) (by (first | exact Mine.uni2 (by assumption) rfl | exact Mine.uni1 (by assumption) rfl | exact Mine.uniN rfl | ktr_units)) (fun _ _ h => h) ?_
    intro t9 h9 tk9 F9 N9
    (try dsimp only); (try k_fold)
    (repeat ((fail_if_success (with_reducible show wpAny _ _ (call (Value.ref _) _ _) _ _ _)); (first | (k_unfold; (try dsimp only)) | (k_end; wrow_close) | walk1 | (dsimp only; walk1) | (leave1; (try dsimp only)) | fail "no step")))
    refine con_use1 (c_level _ D13 vh (againI x5) ch (1 + (i : Int)) tv hm13 (again_lt hb5) (again_pos ha5) (by omega) (by omega)) (by k_asm) (by k_asm) (by k_asm) (by k_asm) (by k_asm) (by exact rfl) (by k_mem) (by (first | exact Mine.uni2 (by assumption) rfl | exact Mine.uni1 (by assumption) rfl | exact Mine.uniN rfl | ktr_room)) (by (first | exact Mine.uni2 (by assumption) rfl | exact Mine.uni1 (by assumption) rfl | exact Mine.uniN rfl | ktr_units)) (fun _ _ h => h) ?_
    intro t9 h9 tk9 F9 N9
    (try dsimp only); (try k_fold)
    iterate 4 (first | (k_unfold; (try dsimp only)) | (k_end; wrow_close) | walk1 | (dsimp only; walk1) | (leave1; (try dsimp only)) | fail "no step")
    (rename News _ _ _ _ => N7)
    exact hK9 (TurnEnd.more [_] (by k_asm) N7 (own_cons (by first | exact ne_lt (by assumption) | exact ne_lt' (by assumption)) own_nil) ⟨_, tv, _, _, _, rfl, .head _⟩)
  · intro ys3 chunk3 hyl3 hyr3 hown3
    unfold LCg.FinA
    intro D14 h14 tk14 F14 N14 off14
    (simp only [List.cons_append] at N14 off14)
    (try clear off14); (try clear hown3)
    (repeat ((fail_if_success (with_reducible show wpAny _ _ (eval (PySem.Expr.ListComp _ _ _ _) _) _ _ _)); (fail_if_success (with_reducible show wpAny _ _ (exec (PySem.Stmt.Assign _ (PySem.Expr.ListComp _ _ _ _) _) _) _ _ _)); (first | (k_unfold; (try dsimp only)) | (k_end; wrow_close) | walk1 | (dsimp only; walk1) | (leave1; (try dsimp only)) | fail "no step")))
    refine PyProof.Rows.LCg.Assign_ListComp_U (F₀ := by k_asm) (by rfl) (by with_unfolding_all rfl) (by with_unfolding_all rfl) (by decide) (by rfl) (by decide) (by rfl) (by rfl) (by rfl) ?_
    (repeat ((fail_if_success (with_reducible show PyProof.Rows.LCg.CompSrc _ _ _ _ _ _ _ _ _ _ _ _ _ _)); (fail_if_success (with_reducible show PyProof.Rows.LCt.CompSrcT _ _ _ _ _ _ _ _ _ _ _ _ _ _ _)); (first | (k_unfold; (try dsimp only)) | (k_end; wrow_close) | walk1 | (dsimp only; walk1) | (leave1; (try dsimp only)) | fail "no step")))
    (rename News _ _ _ _ => N15)
    refine LCg.CompSrc.ledger (by rfl) (by k_asm) N15 (by exact .head _) ?_ ?_
    · rw [List.size_toArray, PySem.sizeLine_eq]; omega
    intro g12
    refine Mine.rest_grow _ (fun i y T => TripAt T y (1 + (i : Int), levI (againI x5) (1 + (i : Int)), levI (againI x4) (1 + (i : Int)))) (fun i y T T' hs h => h.mono hs) ?_ (fun chunk => .inr ⟨_, .head _, rfl, _, rfl⟩) ?_
    · rintro i ys4 chunk4 v I oI C2 oC D m₂ h tk E' hi hP2 hC2 hx₂ F6 N6 off ne
      (try dsimp only)
      refine Mine.absQ ?_
      intro K9 hK9
      (simp only [List.cons_append] at N6 off)
      obtain ⟨ap, tp, up, vp, np, rfl, mp⟩ := trip_at (a := levI (againI x4)) (b := levI (againI x5)) rfl hyr3 hP2
      (repeat ((fail_if_success (with_reducible show wpAny _ _ (subscriptTail _ _ _ _) _ _ _)); (first | (k_unfold; (try dsimp only)) | (k_end; wrow_close) | walk1 | (dsimp only; walk1) | (leave1; (try dsimp only)) | fail "no step")))
      refine Mine.trip_item N6 (by (iterate 8 (refine .tail _ ?_)); exact List.mem_append_left _ (List.mem_append_right _ mp)) (by decide) (by decide) (by rfl) ?_
      (repeat ((fail_if_success (with_reducible show wpAny _ _ (subscriptTail _ _ _ _) _ _ _)); (first | (k_unfold; (try dsimp only)) | (k_end; wrow_close) | walk1 | (dsimp only; walk1) | (leave1; (try dsimp only)) | fail "no step")))
      refine Mine.trip_item N6 (by (iterate 8 (refine .tail _ ?_)); exact List.mem_append_left _ (List.mem_append_right _ mp)) (by decide) (by decide) (by rfl) ?_
      (repeat ((fail_if_success (with_reducible show wpAny _ _ (subscriptTail _ _ _ _) _ _ _)); (first | (k_unfold; (try dsimp only)) | (k_end; wrow_close) | walk1 | (dsimp only; walk1) | (leave1; (try dsimp only)) | fail "no step")))
      refine Mine.trip_item N6 (by (iterate 8 (refine .tail _ ?_)); exact List.mem_append_left _ (List.mem_append_right _ mp)) (by decide) (by decide) (by rfl) ?_
      iterate 2 (first | (k_unfold; (try dsimp only)) | (k_end; wrow_close) | walk1 | (dsimp only; walk1) | (leave1; (try dsimp only)) | fail "no step")
      (rename News _ _ _ _ => N7)
      exact hK9 (TurnEnd.more [_] (by k_asm) N7 (own_cons (by first | exact ne_lt (by assumption) | exact ne_lt' (by assumption)) own_nil) ⟨_, tp, _, _, _, rfl, .head _⟩)
    · intro ys4 chunk4 hyl4 hyr4 hown4
      unfold LCg.FinA
      intro D15 h15 tk15 F15 N16 off15
      (simp only [List.cons_append] at N16 off15)
      (try clear off15); (try clear hown4); (try clear N15)
      have N17 : News _ _ _ (_ :: _ :: (V6 ++ chunk3 ++ chunk4)) := fun p hp => N16 p (by
        rcases List.mem_cons.mp hp with rfl | hp
        · exact .head _
        rcases List.mem_cons.mp hp with rfl | hp
        · exact .tail _ (.head _)
        · exact .tail _ (.tail _ (.tail _ (.tail _ (.tail _ (.tail _ hp))))))
      (try clear N16)
      replace W1 := W1.mono (fun p hp => List.mem_append_left chunk4 (List.mem_append_left chunk3 hp))
      replace W2 := W2.mono (fun p hp => List.mem_append_left chunk4 (List.mem_append_left chunk3 hp))
      replace W3 := W3.mono (fun p hp => List.mem_append_left chunk4 (List.mem_append_left chunk3 hp))
      have hyr3' : ∀ (i : Nat) (y : Value), ys3[i]? = some y → TripAt (V6 ++ chunk3 ++ chunk4) y (1 + (i : Int), levI (againI x4) (1 + (i : Int)), levI (againI x5) (1 + (i : Int))) := fun i y e => (hyr3 i y e).mono (fun p hp => List.mem_append_left _ (List.mem_append_right _ hp))
      have hyr4' : ∀ (i : Nat) (y : Value), ys4[i]? = some y → TripAt (V6 ++ chunk3 ++ chunk4) y (1 + (i : Int), levI (againI x5) (1 + (i : Int)), levI (againI x4) (1 + (i : Int))) := fun i y e => (hyr4 i y e).mono (fun p hp => List.mem_append_right _ hp)
      (try clear hyr3); (try clear hyr4)
      replace hG1 := hG1.mono (fun p hp => List.mem_append_left chunk4 (List.mem_append_left chunk3 hp))
      replace hG2 := hG2.mono (fun p hp => List.mem_append_left chunk4 (List.mem_append_left chunk3 hp))
      generalize V6 ++ chunk3 ++ chunk4 = V7 at N17 W1 W2 W3 hyr3' hyr4' hG1 hG2
      have hn3 : ys3.length = top := by omega
      have hn4 : ys4.length = top := by rw [hyl4, List.size_toArray]; exact hn3
      (try clear hyl3); (try clear hyl4)
      iterate 2 (first | (k_unfold; (try dsimp only)) | (k_end; wrow_close) | walk1 | (dsimp only; walk1) | (leave1; (try dsimp only)) | fail "no step")
      first | revert hn4 | ((rename _ => hrev9); revert hrev9)
      first | revert hn3 | ((rename _ => hrev9); revert hrev9)
      first | revert hG2 | ((rename _ => hrev9); revert hrev9)
      first | revert hG1 | ((rename _ => hrev9); revert hrev9)
      first | revert hyr4' | ((rename _ => hrev9); revert hrev9)
      first | revert hyr3' | ((rename _ => hrev9); revert hrev9)
      first | revert W3 | ((rename _ => hrev9); revert hrev9)
      first | revert W2 | ((rename _ => hrev9); revert hrev9)
      first | revert W1 | ((rename _ => hrev9); revert hrev9)
      first | revert N17 | ((rename _ => hrev9); revert hrev9)
      first | revert V7 | ((rename _ => hrev9); revert hrev9)
      first | revert F15 | ((rename _ => hrev9); revert hrev9)
      first | revert tk15 | ((rename _ => hrev9); revert hrev9)
      first | revert h15 | ((rename _ => hrev9); revert hrev9)
      first | revert D15 | ((rename _ => hrev9); revert hrev9)
      first | clear chunk4 | ((rename _ => hrev9); clear hrev9)
      first | revert ys4 | ((rename _ => hrev9); revert hrev9)
      first | clear g12 | ((rename _ => hrev9); clear hrev9)
      first | clear F14 | ((rename _ => hrev9); clear hrev9)
      first | clear tk14 | ((rename _ => hrev9); clear hrev9)
      first | clear h14 | ((rename _ => hrev9); clear hrev9)
      first | revert D14 | ((rename _ => hrev9); revert hrev9)
      first | clear chunk3 | ((rename _ => hrev9); clear hrev9)
      first | revert ys3 | ((rename _ => hrev9); revert hrev9)
      first | clear g11 | ((rename _ => hrev9); clear hrev9)
      iterate 9 ((rename _ => hrev9); clear hrev9)
      first | clear tk | ((rename _ => hrev9); clear hrev9)
      iterate 3 ((rename _ => hrev9); clear hrev9)
      first | revert hTl | ((rename _ => hrev9); revert hrev9)
      first | revert hTg | ((rename _ => hrev9); revert hrev9)
      first | revert top | ((rename _ => hrev9); revert hrev9)
      iterate 1 ((rename _ => hrev9); revert hrev9)
      iterate 1 ((rename _ => hrev9); clear hrev9)
      first | clear ek | ((rename _ => hrev9); clear hrev9)
      first | clear qk | ((rename _ => hrev9); clear hrev9)
      first | clear tk9 | ((rename _ => hrev9); clear hrev9)
      first | clear h9 | ((rename _ => hrev9); clear hrev9)
      first | clear t9 | ((rename _ => hrev9); clear hrev9)
      iterate 5 ((rename _ => hrev9); clear hrev9)
      first | clear hl5 | ((rename _ => hrev9); clear hrev9)
      first | clear hl4 | ((rename _ => hrev9); clear hrev9)
      iterate 6 ((rename _ => hrev9); clear hrev9)
      first | clear tk12 | ((rename _ => hrev9); clear hrev9)
      first | clear h12 | ((rename _ => hrev9); clear hrev9)
      first | clear tl12 | ((rename _ => hrev9); clear hrev9)
      first | clear o4 | ((rename _ => hrev9); clear hrev9)
      first | clear hb2 | ((rename _ => hrev9); clear hrev9)
      first | clear hb1 | ((rename _ => hrev9); clear hrev9)
      iterate 6 ((rename _ => hrev9); clear hrev9)
      first | revert hP' | ((rename _ => hrev9); revert hrev9)
      first | revert hP | ((rename _ => hrev9); revert hrev9)
      first | clear h10 | ((rename _ => hrev9); clear hrev9)
      iterate 12 ((rename _ => hrev9); clear hrev9)
      first | clear tb3 | ((rename _ => hrev9); clear hrev9)
      first | clear tt3 | ((rename _ => hrev9); clear hrev9)
      first | clear tn3 | ((rename _ => hrev9); clear hrev9)
      first | clear tx3 | ((rename _ => hrev9); clear hrev9)
      first | clear k15 | ((rename _ => hrev9); clear hrev9)
      first | clear k14 | ((rename _ => hrev9); clear hrev9)
      first | clear k13 | ((rename _ => hrev9); clear hrev9)
      first | clear k12 | ((rename _ => hrev9); clear hrev9)
      first | clear k11 | ((rename _ => hrev9); clear hrev9)
      first | clear v3 | ((rename _ => hrev9); clear hrev9)
      first | clear P3 | ((rename _ => hrev9); clear hrev9)
      first | clear E3 | ((rename _ => hrev9); clear hrev9)
      first | clear d3 | ((rename _ => hrev9); clear hrev9)
      first | clear tb2 | ((rename _ => hrev9); clear hrev9)
      first | clear tt2 | ((rename _ => hrev9); clear hrev9)
      first | clear tn2 | ((rename _ => hrev9); clear hrev9)
      first | clear tx2 | ((rename _ => hrev9); clear hrev9)
      first | clear k10 | ((rename _ => hrev9); clear hrev9)
      first | clear k9 | ((rename _ => hrev9); clear hrev9)
      first | clear k8 | ((rename _ => hrev9); clear hrev9)
      first | clear k7 | ((rename _ => hrev9); clear hrev9)
      first | clear k6 | ((rename _ => hrev9); clear hrev9)
      first | clear v2 | ((rename _ => hrev9); clear hrev9)
      first | clear P2 | ((rename _ => hrev9); clear hrev9)
      first | clear E2 | ((rename _ => hrev9); clear hrev9)
      first | clear d2 | ((rename _ => hrev9); clear hrev9)
      first | clear tb1 | ((rename _ => hrev9); clear hrev9)
      first | clear tt1 | ((rename _ => hrev9); clear hrev9)
      first | clear tn1 | ((rename _ => hrev9); clear hrev9)
      first | clear tx1 | ((rename _ => hrev9); clear hrev9)
      first | clear k5' | ((rename _ => hrev9); clear hrev9)
      first | clear k4 | ((rename _ => hrev9); clear hrev9)
      first | clear k3 | ((rename _ => hrev9); clear hrev9)
      first | clear k2 | ((rename _ => hrev9); clear hrev9)
      first | clear k1 | ((rename _ => hrev9); clear hrev9)
      first | clear v1 | ((rename _ => hrev9); clear hrev9)
      first | clear P1 | ((rename _ => hrev9); clear hrev9)
      first | clear E1 | ((rename _ => hrev9); clear hrev9)
      first | clear d1 | ((rename _ => hrev9); clear hrev9)
      iterate 3 ((rename _ => hrev9); clear hrev9)
      first | clear V6 | ((rename _ => hrev9); clear hrev9)
      first | clear tk22 | ((rename _ => hrev9); clear hrev9)
      first | clear h22 | ((rename _ => hrev9); clear hrev9)
      first | clear tl22 | ((rename _ => hrev9); clear hrev9)
      first | clear s22 | ((rename _ => hrev9); clear hrev9)
      first | clear V5 | ((rename _ => hrev9); clear hrev9)
      first | clear tk21 | ((rename _ => hrev9); clear hrev9)
      first | clear h21 | ((rename _ => hrev9); clear hrev9)
      first | clear tl21 | ((rename _ => hrev9); clear hrev9)
      first | clear s21 | ((rename _ => hrev9); clear hrev9)
      first | clear V4 | ((rename _ => hrev9); clear hrev9)
      first | clear tk20 | ((rename _ => hrev9); clear hrev9)
      first | clear h20 | ((rename _ => hrev9); clear hrev9)
      first | clear tl20 | ((rename _ => hrev9); clear hrev9)
      first | clear s20 | ((rename _ => hrev9); clear hrev9)
      iterate 32 ((rename _ => hrev9); clear hrev9)
      first | clear V3 | ((rename _ => hrev9); clear hrev9)
      iterate 4 ((rename _ => hrev9); clear hrev9)
      first | revert z3 | ((rename _ => hrev9); revert hrev9)
      first | revert o3 | ((rename _ => hrev9); revert hrev9)
      first | revert z2 | ((rename _ => hrev9); revert hrev9)
      first | revert o2 | ((rename _ => hrev9); revert hrev9)
      first | revert z1 | ((rename _ => hrev9); revert hrev9)
      first | revert o1 | ((rename _ => hrev9); revert hrev9)
      first | revert hA5 | ((rename _ => hrev9); revert hrev9)
      first | revert hA4 | ((rename _ => hrev9); revert hrev9)
      first | revert xr | ((rename _ => hrev9); revert hrev9)
      iterate 4 ((rename _ => hrev9); clear hrev9)
      first | clear hm13 | ((rename _ => hrev9); clear hrev9)
      first | clear ch | ((rename _ => hrev9); clear hrev9)
      first | clear vh | ((rename _ => hrev9); clear hrev9)
      first | clear D13 | ((rename _ => hrev9); clear hrev9)
      first | clear hm12 | ((rename _ => hrev9); clear hrev9)
      first | clear cm | ((rename _ => hrev9); clear hrev9)
      first | clear vm | ((rename _ => hrev9); clear hrev9)
      first | clear D12 | ((rename _ => hrev9); clear hrev9)
      first | revert m₁ | ((rename _ => hrev9); revert hrev9)
      first | clear ps | ((rename _ => hrev9); clear hrev9)
      first | clear oW | ((rename _ => hrev9); clear hrev9)
      first | clear oP | ((rename _ => hrev9); clear hrev9)
      first | revert D7 | ((rename _ => hrev9); revert hrev9)
      first | clear ys | ((rename _ => hrev9); clear hrev9)
      first | revert hb5 | ((rename _ => hrev9); revert hrev9)
      first | revert ha5 | ((rename _ => hrev9); revert hrev9)
      first | revert hb4 | ((rename _ => hrev9); revert hrev9)
      first | revert ha4 | ((rename _ => hrev9); revert hrev9)
      iterate 1 ((rename _ => hrev9); clear hrev9)
      first | clear hx5 | ((rename _ => hrev9); clear hrev9)
      first | revert x5 | ((rename _ => hrev9); revert hrev9)
      iterate 1 ((rename _ => hrev9); clear hrev9)
      first | clear hx4 | ((rename _ => hrev9); clear hrev9)
      first | revert x4 | ((rename _ => hrev9); revert hrev9)
      iterate 3 ((rename _ => hrev9); clear hrev9)
      first | clear hn1 | ((rename _ => hrev9); clear hrev9)
      first | clear hn0 | ((rename _ => hrev9); clear hrev9)
      first | revert T9 | ((rename _ => hrev9); revert hrev9)
      first | clear hC10 | ((rename _ => hrev9); clear hrev9)
      first | revert C | ((rename _ => hrev9); revert hrev9)
      iterate 10 ((rename _ => hrev9); revert hrev9)
      first | revert w9 | ((rename _ => hrev9); revert hrev9)
      exact stageH.get)
end
section
theorem walk_Law12 : walk_Law9.1 := by
  conv => whnf
  w_top off
  w_strict (
  k_fill
  set_option tactic.hygienic false in intros
  have hsm4 := tab_small hA4 ha4 hb4
  have hsm5 := tab_small hA5 ha5 hb5
  have hs4 : (wsN (againI x4)).b ≤ 60 := by omega
  have hs5 : (wsN (againI x5)).b ≤ 60 := by omega
  replace hsm4 := hsm4.2
  replace hsm5 := hsm5.2
  have hT1 := wit_tab (fun a b => a != b) hA4 hA5 ha4 hb4 ha5 hb5
  have hT2 := wit_tab (fun a b => a != b) hA5 hA4 ha5 hb5 ha4 hb4
  have hT3 := wit_tab (fun a b => decide (b ≤ a)) hA4 hA5 ha4 hb4 ha5 hb5
  have hT4 := wit_tab (fun a b => decide (b ≤ a)) hA5 hA4 ha5 hb5 ha4 hb4
  have hL1 := pair_less hP
  have hL2 := pair_less hP'
  rw [hTg] at hT1 hT3 hL1
  rw [lawTop_comm, hTg] at hT2 hT4 hL2
  (rename News _ _ _ _ => N19)
  obtain ⟨d1, E1, P1, v1, k1, k2, k3, k4, k5', tx1, tn1, tt1, tb1, hi1, N1⟩ := ws_front N19 (W1.mono (by ((intro pq hpq; repeat (first | exact hpq | exact List.mem_append_left _ hpq | refine List.Mem.tail _ ?_)))))
  obtain ⟨d2, E2, P2, v2, k6, k7, k8, k9, k10, tx2, tn2, tt2, tb2, hi2, N1⟩ := ws_front N1 (W2.mono (by ((intro pq hpq; repeat (first | exact hpq | exact List.mem_append_left _ hpq | refine List.Mem.tail _ ?_)))))
  obtain ⟨d3, E3, P3, v3, k11, k12, k13, k14, k15, tx3, tn3, tt3, tb3, hi3, N1⟩ := ws_front N1 (W3.mono (by ((intro pq hpq; repeat (first | exact hpq | exact List.mem_append_left _ hpq | refine List.Mem.tail _ ?_)))))
  (try clear hi1); (try clear hi2); (try clear hi3)
  (repeat ((fail_if_success (with_reducible show wpAny _ _ (call (Value.ref _) _ _) _ _ _)); (first | (k_unfold; (try dsimp only)) | (k_end; wrow_close) | walk1 | (dsimp only; walk1) | (leave1; (try dsimp only)) | fail "no step")))
  refine con_useR3 (c_wnewit _ o1 o3 z1 z3 (wsN (againI x4)) (wsN (againI x5)) hs4 hsm4 hs5 hsm5) (by k_asm) (by k_asm) (by k_asm) (by k_asm) (by k_asm) (by exact rfl) ⟨W1.mono (by ((intro pq hpq; repeat (first | exact hpq | exact List.mem_append_left _ hpq | refine List.Mem.tail _ ?_)))), W3.mono (by ((intro pq hpq; repeat (first | exact hpq | exact List.mem_append_left _ hpq | refine List.Mem.tail _ ?_))))⟩ (by (first | exact Mine.uni2 (by assumption) rfl | exact Mine.uni1 (by assumption) rfl | exact Mine.uniN rfl | ktr_room)) (by (first | exact Mine.uni2 (by assumption) rfl | exact Mine.uni1 (by assumption) rfl | exact Mine.uniN rfl | ktr_units)) (fun _ _ h => h) ?_
  intro aw vw cw tl9 h9 tk9 hmw hdw F9 N9
  rw [hT1] at hdw
  have N9 := to_end [_, _, _, _, _, _, _, _, _, _, _, _, _, _] N9
  (simp only [List.cons_append, List.nil_append] at N9)
  (try dsimp only); (try k_fold)
  (repeat ((fail_if_success (with_reducible show wpAny _ _ (eval (PySem.Expr.ListComp _ _ _ _) _) _ _ _)); (fail_if_success (with_reducible show wpAny _ _ (exec (PySem.Stmt.Assign _ (PySem.Expr.ListComp _ _ _ _) _) _) _ _ _)); (first | (k_unfold; (try dsimp only)) | (k_end; wrow_close) | walk1 | (dsimp only; walk1) | (leave1; (try dsimp only)) | fail "no step")))
  refine PyProof.Rows.LCt.ListComp_T (by k_asm) (by with_unfolding_all rfl) (by decide) (by rfl) (by decide) (by rfl) ?_
  (repeat ((fail_if_success (with_reducible show PyProof.Rows.LCg.CompSrc _ _ _ _ _ _ _ _ _ _ _ _ _ _)); (fail_if_success (with_reducible show PyProof.Rows.LCt.CompSrcT _ _ _ _ _ _ _ _ _ _ _ _ _ _ _)); (first | (k_unfold; (try dsimp only)) | (k_end; wrow_close) | walk1 | (dsimp only; walk1) | (leave1; (try dsimp only)) | fail "no step")))
  (rename News _ _ _ _ => Nx)
  refine LCt.CompSrcT.ledger (by rfl) (by k_asm) Nx (by (iterate 13 (refine .tail _ ?_)); exact .head _) ?_ ?_
  · rw [List.size_toArray, PySem.sizeLine_eq]; omega
  intro gx
  refine Mine.rest_sameT _ (fun i : Nat => levI (againI x4) (1 + (i : Int)) != levI (againI x5) (1 + (i : Int))) (fun i y => TripAt V7 y (1 + (i : Int), levI (againI x4) (1 + (i : Int)), levI (againI x5) (1 + (i : Int)))) ?_ (.inr ⟨_, by (iterate 13 (refine .tail _ ?_)); exact .head _, rfl, _, rfl⟩) ?_
  · rintro i zs v I oI C2 oC D m₂ h tk E' hi hP2 hC2 hx₂ F6 N6 off ne
    (try dsimp only)
    refine Mine.absQ ?_
    intro K9 hK9
    obtain ⟨ap, tp, up, vp, np, rfl, mp⟩ := trip_at (a := levI (againI x4)) (b := levI (againI x5)) rfl hyr3' hP2
    (repeat ((fail_if_success (with_reducible show wpAny _ _ (subscriptTail _ _ _ _) _ _ _)); (first | (k_unfold; (try dsimp only)) | (k_end; wrow_close) | walk1 | (dsimp only; walk1) | (leave1; (try dsimp only)) | fail "no step")))
    refine Mine.trip_item N6 (by (iterate 17 (refine .tail _ ?_)); exact List.mem_append_left _ mp) (by decide) (by decide) (by rfl) ?_
    (repeat ((fail_if_success (with_reducible show wpAny _ _ (subscriptTail _ _ _ _) _ _ _)); (first | (k_unfold; (try dsimp only)) | (k_end; wrow_close) | walk1 | (dsimp only; walk1) | (leave1; (try dsimp only)) | fail "no step")))
    refine Mine.trip_item N6 (by (iterate 17 (refine .tail _ ?_)); exact List.mem_append_left _ mp) (by decide) (by decide) (by rfl) ?_
    iterate 2 (first | (k_unfold; (try dsimp only)) | (k_end; wrow_close) | walk1 | (dsimp only; walk1) | (leave1; (try dsimp only)) | fail "no step")
    refine hK9 ⟨rfl, ?_⟩
    split
    · (first | (k_unfold; (try dsimp only)) | (k_end; wrow_close) | walk1 | (dsimp only; walk1) | (leave1; (try dsimp only)) | fail "no step")
      exact (Mine.turnB (by k_asm) (by k_asm) ⟨ap, tp, up, vp, np, rfl, mp⟩)
    · exact (Mine.turnA (by k_asm) (by k_asm))
  intro zs hzs
  unfold LCg.FinE
  intro D20 h20 tk20 F20 N20 off20
  (try clear off20)
  rw [List.size_toArray, hn3] at hzs
  (repeat ((fail_if_success (with_reducible show wpAny _ _ (compareOp _ _ _) _ _ _)); (first | (k_unfold; (try dsimp only)) | (k_end; wrow_close) | walk1 | (dsimp only; walk1) | (leave1; (try dsimp only)) | fail "no step")))
  refine Mine.dat_ne_eq N20 (d := .list ((witW (fun a b => a != b) (levI (againI x4)) (levI (againI x5)) top).map rowD)) (e := .list ((witW (fun a b => a != b) (levI (againI x4)) (levI (againI x5)) top).map rowD)) (.list (by (iterate 15 (refine .tail _ ?_)); exact List.mem_append_right _ hmw) (hdw.mono (fun p hp => by (iterate 15 (refine .tail _ ?_)); exact List.mem_append_right _ hp))) (.list (.head _) ((trips_dat (f := fun a b => a != b) hzs).mono (fun p hp => by (iterate 15 (refine .tail _ ?_)); exact List.mem_append_left _ hp))) (rowD_ok _) (rowD_ok _) (by (first | exact Mine.uni2 (by assumption) rfl | exact Mine.uni1 (by assumption) rfl | exact Mine.uniN rfl | ktr_units)) rfl ?_
  have N21 := cut_new [_, _, _, _, _, _, _, _, _, _, _, _, _, _] N20
  (simp only [List.cons_append, List.nil_append] at N21)
  (rename Fr _ _ _ _ => F21)
  revert N21 F21
  repeat ((rename News _ _ _ _ => hz); clear hz)
  repeat ((rename Fr _ _ _ _ => hz); clear hz)
  intro N21 F21
  (try clear hzs); (try clear hmw); (try clear hdw)
  iterate 5 (first | (k_unfold; (try dsimp only)) | (k_end; wrow_close) | walk1 | (dsimp only; walk1) | (leave1; (try dsimp only)) | fail "no step")
  (repeat ((fail_if_success (with_reducible show wpAny _ _ (call (Value.ref _) _ _) _ _ _)); (first | (k_unfold; (try dsimp only)) | (k_end; wrow_close) | walk1 | (dsimp only; walk1) | (leave1; (try dsimp only)) | fail "no step")))
  refine con_useR3 (c_wnewit _ o3 o2 z3 z2 (wsN (againI x5)) (wsN (againI x4)) hs5 hsm5 hs4 hsm4) (by k_asm) (by k_asm) (by k_asm) (by k_asm) (by k_asm) (by exact rfl) ⟨W3.mono (by ((intro pq hpq; repeat (first | exact hpq | exact List.mem_append_left _ hpq | refine List.Mem.tail _ ?_)))), W2.mono (by ((intro pq hpq; repeat (first | exact hpq | exact List.mem_append_left _ hpq | refine List.Mem.tail _ ?_))))⟩ (by (first | exact Mine.uni2 (by assumption) rfl | exact Mine.uni1 (by assumption) rfl | exact Mine.uniN rfl | ktr_room)) (by (first | exact Mine.uni2 (by assumption) rfl | exact Mine.uni1 (by assumption) rfl | exact Mine.uniN rfl | ktr_units)) (fun _ _ h => h) ?_
  intro aw vw cw tl9 h9 tk9 hmw hdw F9 N9
  rw [hT2] at hdw
  have N9 := to_end [_, _, _, _, _, _, _, _, _, _, _, _, _, _] N9
  (simp only [List.cons_append, List.nil_append] at N9)
  (try dsimp only); (try k_fold)
  (repeat ((fail_if_success (with_reducible show wpAny _ _ (eval (PySem.Expr.ListComp _ _ _ _) _) _ _ _)); (fail_if_success (with_reducible show wpAny _ _ (exec (PySem.Stmt.Assign _ (PySem.Expr.ListComp _ _ _ _) _) _) _ _ _)); (first | (k_unfold; (try dsimp only)) | (k_end; wrow_close) | walk1 | (dsimp only; walk1) | (leave1; (try dsimp only)) | fail "no step")))
  refine PyProof.Rows.LCt.ListComp_T (by k_asm) (by with_unfolding_all rfl) (by decide) (by rfl) (by decide) (by rfl) ?_
  (repeat ((fail_if_success (with_reducible show PyProof.Rows.LCg.CompSrc _ _ _ _ _ _ _ _ _ _ _ _ _ _)); (fail_if_success (with_reducible show PyProof.Rows.LCt.CompSrcT _ _ _ _ _ _ _ _ _ _ _ _ _ _ _)); (first | (k_unfold; (try dsimp only)) | (k_end; wrow_close) | walk1 | (dsimp only; walk1) | (leave1; (try dsimp only)) | fail "no step")))
  (rename News _ _ _ _ => Nx)
  refine LCt.CompSrcT.ledger (by rfl) (by k_asm) Nx (by (iterate 12 (refine .tail _ ?_)); exact .head _) ?_ ?_
  · rw [List.size_toArray, PySem.sizeLine_eq]; omega
  intro gx
  refine Mine.rest_sameT _ (fun i : Nat => levI (againI x5) (1 + (i : Int)) != levI (againI x4) (1 + (i : Int))) (fun i y => TripAt V7 y (1 + (i : Int), levI (againI x5) (1 + (i : Int)), levI (againI x4) (1 + (i : Int)))) ?_ (.inr ⟨_, by (iterate 12 (refine .tail _ ?_)); exact .head _, rfl, _, rfl⟩) ?_
  · rintro i zs v I oI C2 oC D m₂ h tk E' hi hP2 hC2 hx₂ F6 N6 off ne
    (try dsimp only)
    refine Mine.absQ ?_
    intro K9 hK9
    obtain ⟨ap, tp, up, vp, np, rfl, mp⟩ := trip_at (a := levI (againI x5)) (b := levI (againI x4)) rfl hyr4' hP2
    (repeat ((fail_if_success (with_reducible show wpAny _ _ (subscriptTail _ _ _ _) _ _ _)); (first | (k_unfold; (try dsimp only)) | (k_end; wrow_close) | walk1 | (dsimp only; walk1) | (leave1; (try dsimp only)) | fail "no step")))
    refine Mine.trip_item N6 (by (iterate 17 (refine .tail _ ?_)); exact List.mem_append_left _ mp) (by decide) (by decide) (by rfl) ?_
    (repeat ((fail_if_success (with_reducible show wpAny _ _ (subscriptTail _ _ _ _) _ _ _)); (first | (k_unfold; (try dsimp only)) | (k_end; wrow_close) | walk1 | (dsimp only; walk1) | (leave1; (try dsimp only)) | fail "no step")))
    refine Mine.trip_item N6 (by (iterate 17 (refine .tail _ ?_)); exact List.mem_append_left _ mp) (by decide) (by decide) (by rfl) ?_
    iterate 2 (first | (k_unfold; (try dsimp only)) | (k_end; wrow_close) | walk1 | (dsimp only; walk1) | (leave1; (try dsimp only)) | fail "no step")
    refine hK9 ⟨rfl, ?_⟩
    split
    · (first | (k_unfold; (try dsimp only)) | (k_end; wrow_close) | walk1 | (dsimp only; walk1) | (leave1; (try dsimp only)) | fail "no step")
      exact (Mine.turnB (by k_asm) (by k_asm) ⟨ap, tp, up, vp, np, rfl, mp⟩)
    · exact (Mine.turnA (by k_asm) (by k_asm))
  intro zs hzs
  unfold LCg.FinE
  intro D20 h20 tk20 F20 N20 off20
  (try clear off20)
  rw [List.size_toArray, hn4] at hzs
  (repeat ((fail_if_success (with_reducible show wpAny _ _ (compareOp _ _ _) _ _ _)); (first | (k_unfold; (try dsimp only)) | (k_end; wrow_close) | walk1 | (dsimp only; walk1) | (leave1; (try dsimp only)) | fail "no step")))
  refine Mine.dat_ne_eq N20 (d := .list ((witW (fun a b => a != b) (levI (againI x5)) (levI (againI x4)) top).map rowD)) (e := .list ((witW (fun a b => a != b) (levI (againI x5)) (levI (againI x4)) top).map rowD)) (.list (by (iterate 15 (refine .tail _ ?_)); exact List.mem_append_right _ hmw) (hdw.mono (fun p hp => by (iterate 15 (refine .tail _ ?_)); exact List.mem_append_right _ hp))) (.list (.head _) ((trips_dat (f := fun a b => a != b) hzs).mono (fun p hp => by (iterate 15 (refine .tail _ ?_)); exact List.mem_append_left _ hp))) (rowD_ok _) (rowD_ok _) (by (first | exact Mine.uni2 (by assumption) rfl | exact Mine.uni1 (by assumption) rfl | exact Mine.uniN rfl | ktr_units)) rfl ?_
  have N21 := cut_new [_, _, _, _, _, _, _, _, _, _, _, _, _, _] N20
  (simp only [List.cons_append, List.nil_append] at N21)
  (rename Fr _ _ _ _ => F21)
  revert N21 F21
  repeat ((rename News _ _ _ _ => hz); clear hz)
  repeat ((rename Fr _ _ _ _ => hz); clear hz)
  intro N21 F21
  (try clear hzs); (try clear hmw); (try clear hdw)
  iterate 5 (first | (k_unfold; (try dsimp only)) | (k_end; wrow_close) | walk1 | (dsimp only; walk1) | (leave1; (try dsimp only)) | fail "no step")
  (repeat ((fail_if_success (with_reducible show wpAny _ _ (call (Value.ref _) _ _) _ _ _)); (first | (k_unfold; (try dsimp only)) | (k_end; wrow_close) | walk1 | (dsimp only; walk1) | (leave1; (try dsimp only)) | fail "no step")))
  refine con_useR3 (c_wnlw _ o1 o3 z1 z3 (wsN (againI x4)) (wsN (againI x5)) hs4 hsm4 hs5 hsm5) (by k_asm) (by k_asm) (by k_asm) (by k_asm) (by k_asm) (by exact rfl) ⟨W1.mono (by ((intro pq hpq; repeat (first | exact hpq | exact List.mem_append_left _ hpq | refine List.Mem.tail _ ?_)))), W3.mono (by ((intro pq hpq; repeat (first | exact hpq | exact List.mem_append_left _ hpq | refine List.Mem.tail _ ?_))))⟩ (by (first | exact Mine.uni2 (by assumption) rfl | exact Mine.uni1 (by assumption) rfl | exact Mine.uniN rfl | ktr_room)) (by (first | exact Mine.uni2 (by assumption) rfl | exact Mine.uni1 (by assumption) rfl | exact Mine.uniN rfl | ktr_units)) (fun _ _ h => h) ?_
  intro aw vw cw tl9 h9 tk9 hmw hdw F9 N9
  rw [hT3] at hdw
  have N9 := to_end [_, _, _, _, _, _, _, _, _, _, _, _, _, _] N9
  (simp only [List.cons_append, List.nil_append] at N9)
  (try dsimp only); (try k_fold)
  (repeat ((fail_if_success (with_reducible show wpAny _ _ (eval (PySem.Expr.ListComp _ _ _ _) _) _ _ _)); (fail_if_success (with_reducible show wpAny _ _ (exec (PySem.Stmt.Assign _ (PySem.Expr.ListComp _ _ _ _) _) _) _ _ _)); (first | (k_unfold; (try dsimp only)) | (k_end; wrow_close) | walk1 | (dsimp only; walk1) | (leave1; (try dsimp only)) | fail "no step")))
  refine PyProof.Rows.LCt.ListComp_T (by k_asm) (by with_unfolding_all rfl) (by decide) (by rfl) (by decide) (by rfl) ?_
  (repeat ((fail_if_success (with_reducible show PyProof.Rows.LCg.CompSrc _ _ _ _ _ _ _ _ _ _ _ _ _ _)); (fail_if_success (with_reducible show PyProof.Rows.LCt.CompSrcT _ _ _ _ _ _ _ _ _ _ _ _ _ _ _)); (first | (k_unfold; (try dsimp only)) | (k_end; wrow_close) | walk1 | (dsimp only; walk1) | (leave1; (try dsimp only)) | fail "no step")))
  (rename News _ _ _ _ => Nx)
  refine LCt.CompSrcT.ledger (by rfl) (by k_asm) Nx (by (iterate 13 (refine .tail _ ?_)); exact .head _) ?_ ?_
  · rw [List.size_toArray, PySem.sizeLine_eq]; omega
  intro gx
  refine Mine.rest_sameT _ (fun i : Nat => decide (levI (againI x5) (1 + (i : Int)) ≤ levI (againI x4) (1 + (i : Int)))) (fun i y => TripAt V7 y (1 + (i : Int), levI (againI x4) (1 + (i : Int)), levI (againI x5) (1 + (i : Int)))) ?_ (.inr ⟨_, by (iterate 13 (refine .tail _ ?_)); exact .head _, rfl, _, rfl⟩) ?_
  · rintro i zs v I oI C2 oC D m₂ h tk E' hi hP2 hC2 hx₂ F6 N6 off ne
    (try dsimp only)
    refine Mine.absQ ?_
    intro K9 hK9
    obtain ⟨ap, tp, up, vp, np, rfl, mp⟩ := trip_at (a := levI (againI x4)) (b := levI (againI x5)) rfl hyr3' hP2
    (repeat ((fail_if_success (with_reducible show wpAny _ _ (subscriptTail _ _ _ _) _ _ _)); (first | (k_unfold; (try dsimp only)) | (k_end; wrow_close) | walk1 | (dsimp only; walk1) | (leave1; (try dsimp only)) | fail "no step")))
    refine Mine.trip_item N6 (by (iterate 17 (refine .tail _ ?_)); exact List.mem_append_left _ mp) (by decide) (by decide) (by rfl) ?_
    (repeat ((fail_if_success (with_reducible show wpAny _ _ (subscriptTail _ _ _ _) _ _ _)); (first | (k_unfold; (try dsimp only)) | (k_end; wrow_close) | walk1 | (dsimp only; walk1) | (leave1; (try dsimp only)) | fail "no step")))
    refine Mine.trip_item N6 (by (iterate 17 (refine .tail _ ?_)); exact List.mem_append_left _ mp) (by decide) (by decide) (by rfl) ?_
    iterate 2 (first | (k_unfold; (try dsimp only)) | (k_end; wrow_close) | walk1 | (dsimp only; walk1) | (leave1; (try dsimp only)) | fail "no step")
    refine hK9 ⟨rfl, ?_⟩
    split
    · (first | (k_unfold; (try dsimp only)) | (k_end; wrow_close) | walk1 | (dsimp only; walk1) | (leave1; (try dsimp only)) | fail "no step")
      exact (Mine.turnB (by k_asm) (by k_asm) ⟨ap, tp, up, vp, np, rfl, mp⟩)
    · exact (Mine.turnA (by k_asm) (by k_asm))
  intro zs hzs
  unfold LCg.FinE
  intro D20 h20 tk20 F20 N20 off20
  (try clear off20)
  rw [List.size_toArray, hn3] at hzs
  (repeat ((fail_if_success (with_reducible show wpAny _ _ (compareOp _ _ _) _ _ _)); (first | (k_unfold; (try dsimp only)) | (k_end; wrow_close) | walk1 | (dsimp only; walk1) | (leave1; (try dsimp only)) | fail "no step")))
  refine Mine.dat_ne_eq N20 (d := .list ((witW (fun a b => decide (b ≤ a)) (levI (againI x4)) (levI (againI x5)) top).map rowD)) (e := .list ((witW (fun a b => decide (b ≤ a)) (levI (againI x4)) (levI (againI x5)) top).map rowD)) (.list (by (iterate 15 (refine .tail _ ?_)); exact List.mem_append_right _ hmw) (hdw.mono (fun p hp => by (iterate 15 (refine .tail _ ?_)); exact List.mem_append_right _ hp))) (.list (.head _) ((trips_dat (f := fun a b => decide (b ≤ a)) hzs).mono (fun p hp => by (iterate 15 (refine .tail _ ?_)); exact List.mem_append_left _ hp))) (rowD_ok _) (rowD_ok _) (by (first | exact Mine.uni2 (by assumption) rfl | exact Mine.uni1 (by assumption) rfl | exact Mine.uniN rfl | ktr_units)) rfl ?_
  have N21 := cut_new [_, _, _, _, _, _, _, _, _, _, _, _, _, _] N20
  (simp only [List.cons_append, List.nil_append] at N21)
  (rename Fr _ _ _ _ => F21)
  revert N21 F21
  repeat ((rename News _ _ _ _ => hz); clear hz)
  repeat ((rename Fr _ _ _ _ => hz); clear hz)
  intro N21 F21
  (try clear hzs); (try clear hmw); (try clear hdw)
  iterate 5 (first | (k_unfold; (try dsimp only)) | (k_end; wrow_close) | walk1 | (dsimp only; walk1) | (leave1; (try dsimp only)) | fail "no step")
  (repeat ((fail_if_success (with_reducible show wpAny _ _ (call (Value.ref _) _ _) _ _ _)); (first | (k_unfold; (try dsimp only)) | (k_end; wrow_close) | walk1 | (dsimp only; walk1) | (leave1; (try dsimp only)) | fail "no step")))
  refine con_useR3 (c_wnlw _ o3 o2 z3 z2 (wsN (againI x5)) (wsN (againI x4)) hs5 hsm5 hs4 hsm4) (by k_asm) (by k_asm) (by k_asm) (by k_asm) (by k_asm) (by exact rfl) ⟨W3.mono (by ((intro pq hpq; repeat (first | exact hpq | exact List.mem_append_left _ hpq | refine List.Mem.tail _ ?_)))), W2.mono (by ((intro pq hpq; repeat (first | exact hpq | exact List.mem_append_left _ hpq | refine List.Mem.tail _ ?_))))⟩ (by (first | exact Mine.uni2 (by assumption) rfl | exact Mine.uni1 (by assumption) rfl | exact Mine.uniN rfl | ktr_room)) (by (first | exact Mine.uni2 (by assumption) rfl | exact Mine.uni1 (by assumption) rfl | exact Mine.uniN rfl | ktr_units)) (fun _ _ h => h) ?_
  intro aw vw cw tl9 h9 tk9 hmw hdw F9 N9
  rw [hT4] at hdw
  have N9 := to_end [_, _, _, _, _, _, _, _, _, _, _, _, _, _] N9
  (simp only [List.cons_append, List.nil_append] at N9)
  (try dsimp only); (try k_fold)
  (repeat ((fail_if_success (with_reducible show wpAny _ _ (eval (PySem.Expr.ListComp _ _ _ _) _) _ _ _)); (fail_if_success (with_reducible show wpAny _ _ (exec (PySem.Stmt.Assign _ (PySem.Expr.ListComp _ _ _ _) _) _) _ _ _)); (first | (k_unfold; (try dsimp only)) | (k_end; wrow_close) | walk1 | (dsimp only; walk1) | (leave1; (try dsimp only)) | fail "no step")))
  refine PyProof.Rows.LCt.ListComp_T (by k_asm) (by with_unfolding_all rfl) (by decide) (by rfl) (by decide) (by rfl) ?_
  (repeat ((fail_if_success (with_reducible show PyProof.Rows.LCg.CompSrc _ _ _ _ _ _ _ _ _ _ _ _ _ _)); (fail_if_success (with_reducible show PyProof.Rows.LCt.CompSrcT _ _ _ _ _ _ _ _ _ _ _ _ _ _ _)); (first | (k_unfold; (try dsimp only)) | (k_end; wrow_close) | walk1 | (dsimp only; walk1) | (leave1; (try dsimp only)) | fail "no step")))
  (rename News _ _ _ _ => Nx)
  refine LCt.CompSrcT.ledger (by rfl) (by k_asm) Nx (by (iterate 12 (refine .tail _ ?_)); exact .head _) ?_ ?_
  · rw [List.size_toArray, PySem.sizeLine_eq]; omega
  intro gx
  refine Mine.rest_sameT _ (fun i : Nat => decide (levI (againI x4) (1 + (i : Int)) ≤ levI (againI x5) (1 + (i : Int)))) (fun i y => TripAt V7 y (1 + (i : Int), levI (againI x5) (1 + (i : Int)), levI (againI x4) (1 + (i : Int)))) ?_ (.inr ⟨_, by (iterate 12 (refine .tail _ ?_)); exact .head _, rfl, _, rfl⟩) ?_
  · rintro i zs v I oI C2 oC D m₂ h tk E' hi hP2 hC2 hx₂ F6 N6 off ne
    (try dsimp only)
    refine Mine.absQ ?_
    intro K9 hK9
    obtain ⟨ap, tp, up, vp, np, rfl, mp⟩ := trip_at (a := levI (againI x5)) (b := levI (againI x4)) rfl hyr4' hP2
    (repeat ((fail_if_success (with_reducible show wpAny _ _ (subscriptTail _ _ _ _) _ _ _)); (first | (k_unfold; (try dsimp only)) | (k_end; wrow_close) | walk1 | (dsimp only; walk1) | (leave1; (try dsimp only)) | fail "no step")))
    refine Mine.trip_item N6 (by (iterate 17 (refine .tail _ ?_)); exact List.mem_append_left _ mp) (by decide) (by decide) (by rfl) ?_
    (repeat ((fail_if_success (with_reducible show wpAny _ _ (subscriptTail _ _ _ _) _ _ _)); (first | (k_unfold; (try dsimp only)) | (k_end; wrow_close) | walk1 | (dsimp only; walk1) | (leave1; (try dsimp only)) | fail "no step")))
    refine Mine.trip_item N6 (by (iterate 17 (refine .tail _ ?_)); exact List.mem_append_left _ mp) (by decide) (by decide) (by rfl) ?_
    iterate 2 (first | (k_unfold; (try dsimp only)) | (k_end; wrow_close) | walk1 | (dsimp only; walk1) | (leave1; (try dsimp only)) | fail "no step")
    refine hK9 ⟨rfl, ?_⟩
    split
    · (first | (k_unfold; (try dsimp only)) | (k_end; wrow_close) | walk1 | (dsimp only; walk1) | (leave1; (try dsimp only)) | fail "no step")
      exact (Mine.turnB (by k_asm) (by k_asm) ⟨ap, tp, up, vp, np, rfl, mp⟩)
    · exact (Mine.turnA (by k_asm) (by k_asm))
  intro zs hzs
  unfold LCg.FinE
  intro D20 h20 tk20 F20 N20 off20
  (try clear off20)
  rw [List.size_toArray, hn4] at hzs
  (repeat ((fail_if_success (with_reducible show wpAny _ _ (compareOp _ _ _) _ _ _)); (first | (k_unfold; (try dsimp only)) | (k_end; wrow_close) | walk1 | (dsimp only; walk1) | (leave1; (try dsimp only)) | fail "no step")))
  refine Mine.dat_ne_eq N20 (d := .list ((witW (fun a b => decide (b ≤ a)) (levI (againI x5)) (levI (againI x4)) top).map rowD)) (e := .list ((witW (fun a b => decide (b ≤ a)) (levI (againI x5)) (levI (againI x4)) top).map rowD)) (.list (by (iterate 15 (refine .tail _ ?_)); exact List.mem_append_right _ hmw) (hdw.mono (fun p hp => by (iterate 15 (refine .tail _ ?_)); exact List.mem_append_right _ hp))) (.list (.head _) ((trips_dat (f := fun a b => decide (b ≤ a)) hzs).mono (fun p hp => by (iterate 15 (refine .tail _ ?_)); exact List.mem_append_left _ hp))) (rowD_ok _) (rowD_ok _) (by (first | exact Mine.uni2 (by assumption) rfl | exact Mine.uni1 (by assumption) rfl | exact Mine.uniN rfl | ktr_units)) rfl ?_
  have N21 := cut_new [_, _, _, _, _, _, _, _, _, _, _, _, _, _] N20
  (simp only [List.cons_append, List.nil_append] at N21)
  (rename Fr _ _ _ _ => F21)
  revert N21 F21
  repeat ((rename News _ _ _ _ => hz); clear hz)
  repeat ((rename Fr _ _ _ _ => hz); clear hz)
  intro N21 F21
  (try clear hzs); (try clear hmw); (try clear hdw)
  iterate 5 (first | (k_unfold; (try dsimp only)) | (k_end; wrow_close) | walk1 | (dsimp only; walk1) | (leave1; (try dsimp only)) | fail "no step")
  (repeat ((fail_if_success (with_reducible show wpAny _ _ (call (Value.ref _) _ _) _ _ _)); (first | (k_unfold; (try dsimp only)) | (k_end; wrow_close) | walk1 | (dsimp only; walk1) | (leave1; (try dsimp only)) | fail "no step")))
  have hC := c_wless w9 o1 o3 z1 z3 (wsN (againI x4)) (wsN (againI x5)) hs4 hsm4 hs5 hsm5
  rw [hL1] at hC
  refine con_use0 hC (by k_asm) (by k_asm) (by k_asm) (by k_asm) (by k_asm) (by exact rfl) ⟨W1.mono (by ((intro pq hpq; repeat (first | exact hpq | exact List.mem_append_left _ hpq | refine List.Mem.tail _ ?_)))), W3.mono (by ((intro pq hpq; repeat (first | exact hpq | exact List.mem_append_left _ hpq | refine List.Mem.tail _ ?_))))⟩ (by (first | exact Mine.uni2 (by assumption) rfl | exact Mine.uni1 (by assumption) rfl | exact Mine.uniN rfl | ktr_room)) (by (first | exact Mine.uni2 (by assumption) rfl | exact Mine.uni1 (by assumption) rfl | exact Mine.uniN rfl | ktr_units)) (fun _ _ h => h) ?_
  intro h9 tk9 F9 N9
  (try clear hC)
  (try dsimp only); (try k_fold)
  (repeat ((fail_if_success (with_reducible show wpAny _ _ (eval (PySem.Expr.ListComp _ _ _ _) _) _ _ _)); (fail_if_success (with_reducible show wpAny _ _ (exec (PySem.Stmt.Assign _ (PySem.Expr.ListComp _ _ _ _) _) _) _ _ _)); (first | (k_unfold; (try dsimp only)) | (k_end; wrow_close) | walk1 | (dsimp only; walk1) | (leave1; (try dsimp only)) | fail "no step")))
  refine PyProof.Rows.LCt.ListComp_T (by k_asm) (by with_unfolding_all rfl) (by decide) (by rfl) (by decide) (by rfl) ?_
  (repeat ((fail_if_success (with_reducible show PyProof.Rows.LCg.CompSrc _ _ _ _ _ _ _ _ _ _ _ _ _ _)); (fail_if_success (with_reducible show PyProof.Rows.LCt.CompSrcT _ _ _ _ _ _ _ _ _ _ _ _ _ _ _)); (first | (k_unfold; (try dsimp only)) | (k_end; wrow_close) | walk1 | (dsimp only; walk1) | (leave1; (try dsimp only)) | fail "no step")))
  (rename News _ _ _ _ => Nx)
  refine LCt.CompSrcT.ledger (by rfl) (by k_asm) Nx (by (iterate 13 (refine .tail _ ?_)); exact .head _) ?_ ?_
  · rw [List.size_toArray, PySem.sizeLine_eq]; omega
  intro gx
  refine Mine.rest_sameT _ (fun i : Nat => decide (levI (againI x5) (1 + (i : Int)) ≤ levI (againI x4) (1 + (i : Int)))) (fun i y => TripAt V7 y (1 + (i : Int), levI (againI x4) (1 + (i : Int)), levI (againI x5) (1 + (i : Int)))) ?_ (.inr ⟨_, by (iterate 13 (refine .tail _ ?_)); exact .head _, rfl, _, rfl⟩) ?_
  · rintro i zs v I oI C2 oC D m₂ h tk E' hi hP2 hC2 hx₂ F6 N6 off ne
    (try dsimp only)
    refine Mine.absQ ?_
    intro K9 hK9
    obtain ⟨ap, tp, up, vp, np, rfl, mp⟩ := trip_at (a := levI (againI x4)) (b := levI (againI x5)) rfl hyr3' hP2
    (repeat ((fail_if_success (with_reducible show wpAny _ _ (subscriptTail _ _ _ _) _ _ _)); (first | (k_unfold; (try dsimp only)) | (k_end; wrow_close) | walk1 | (dsimp only; walk1) | (leave1; (try dsimp only)) | fail "no step")))
    refine Mine.trip_item N6 (by (iterate 17 (refine .tail _ ?_)); exact mp) (by decide) (by decide) (by rfl) ?_
    (repeat ((fail_if_success (with_reducible show wpAny _ _ (subscriptTail _ _ _ _) _ _ _)); (first | (k_unfold; (try dsimp only)) | (k_end; wrow_close) | walk1 | (dsimp only; walk1) | (leave1; (try dsimp only)) | fail "no step")))
    refine Mine.trip_item N6 (by (iterate 17 (refine .tail _ ?_)); exact mp) (by decide) (by decide) (by rfl) ?_
    iterate 2 (first | (k_unfold; (try dsimp only)) | (k_end; wrow_close) | walk1 | (dsimp only; walk1) | (leave1; (try dsimp only)) | fail "no step")
    refine hK9 ⟨rfl, ?_⟩
    split
    · (first | (k_unfold; (try dsimp only)) | (k_end; wrow_close) | walk1 | (dsimp only; walk1) | (leave1; (try dsimp only)) | fail "no step")
      exact (Mine.turnB (by k_asm) (by k_asm) ⟨ap, tp, up, vp, np, rfl, mp⟩)
    · exact (Mine.turnA (by k_asm) (by k_asm))
  intro zs hzs
  unfold LCg.FinE
  intro D20 h20 tk20 F20 N20 off20
  (try clear off20)
  rw [List.size_toArray, hn3] at hzs
  (repeat ((fail_if_success (with_reducible show wpAny _ _ (compareOp _ _ _) _ _ _)); (first | (k_unfold; (try dsimp only)) | (k_end; wrow_close) | walk1 | (dsimp only; walk1) | (leave1; (try dsimp only)) | fail "no step")))
  refine Mine.dat_eq (d := .list ((witW (fun a b => decide (b ≤ a)) (levI (againI x4)) (levI (againI x5)) top).map rowD)) (e := .list []) (by k_asm) (.list (by k_mem) ((trips_dat (f := fun a b => decide (b ≤ a)) hzs).mono (fun p hp => by (iterate 16 (refine .tail _ ?_)); exact hp))) (.list (vs := []) (.head _) .nil) (rowD_ok _) (by rfl) (by (first | exact Mine.uni2 (by assumption) rfl | exact Mine.uni1 (by assumption) rfl | exact Mine.uniN rfl | ktr_units)) ?_
  rw [rows_nil]
  (try clear hzs)
  (rename News _ _ _ _ => N20)
  have N21 : News _ _ _ ([_, _, _, _, _, _, _, _, _, _, _, _, _, _] ++ V7) := fun p hp => N20 p (.tail _ (.tail _ hp))
  (simp only [List.cons_append, List.nil_append] at N21)
  (rename Fr _ _ _ _ => F21)
  revert N21 F21
  repeat ((rename News _ _ _ _ => hz); clear hz)
  repeat ((rename Fr _ _ _ _ => hz); clear hz)
  intro N21 F21
  iterate 2 (first | (k_unfold; (try dsimp only)) | (k_end; wrow_close) | walk1 | (dsimp only; walk1) | (leave1; (try dsimp only)) | fail "no step")
  rw [if_neg (by simp)]
  (repeat ((fail_if_success (with_reducible show wpAny _ _ (call (Value.ref _) _ _) _ _ _)); (first | (k_unfold; (try dsimp only)) | (k_end; wrow_close) | walk1 | (dsimp only; walk1) | (leave1; (try dsimp only)) | fail "no step")))
  have hC := c_wless w9 o3 o2 z3 z2 (wsN (againI x5)) (wsN (againI x4)) hs5 hsm5 hs4 hsm4
  rw [hL2] at hC
  refine con_use0 hC (by k_asm) (by k_asm) (by k_asm) (by k_asm) (by k_asm) (by exact rfl) ⟨W3.mono (by ((intro pq hpq; repeat (first | exact hpq | exact List.mem_append_left _ hpq | refine List.Mem.tail _ ?_)))), W2.mono (by ((intro pq hpq; repeat (first | exact hpq | exact List.mem_append_left _ hpq | refine List.Mem.tail _ ?_))))⟩ (by (first | exact Mine.uni2 (by assumption) rfl | exact Mine.uni1 (by assumption) rfl | exact Mine.uniN rfl | ktr_room)) (by (first | exact Mine.uni2 (by assumption) rfl | exact Mine.uni1 (by assumption) rfl | exact Mine.uniN rfl | ktr_units)) (fun _ _ h => h) ?_
  intro h9 tk9 F9 N9
  (try clear hC)
  (try dsimp only); (try k_fold)
  (repeat ((fail_if_success (with_reducible show wpAny _ _ (eval (PySem.Expr.ListComp _ _ _ _) _) _ _ _)); (fail_if_success (with_reducible show wpAny _ _ (exec (PySem.Stmt.Assign _ (PySem.Expr.ListComp _ _ _ _) _) _) _ _ _)); (first | (k_unfold; (try dsimp only)) | (k_end; wrow_close) | walk1 | (dsimp only; walk1) | (leave1; (try dsimp only)) | fail "no step")))
  refine PyProof.Rows.LCt.ListComp_T (by k_asm) (by with_unfolding_all rfl) (by decide) (by rfl) (by decide) (by rfl) ?_
  (repeat ((fail_if_success (with_reducible show PyProof.Rows.LCg.CompSrc _ _ _ _ _ _ _ _ _ _ _ _ _ _)); (fail_if_success (with_reducible show PyProof.Rows.LCt.CompSrcT _ _ _ _ _ _ _ _ _ _ _ _ _ _ _)); (first | (k_unfold; (try dsimp only)) | (k_end; wrow_close) | walk1 | (dsimp only; walk1) | (leave1; (try dsimp only)) | fail "no step")))
  (rename News _ _ _ _ => Nx)
  refine LCt.CompSrcT.ledger (by rfl) (by k_asm) Nx (by (iterate 12 (refine .tail _ ?_)); exact .head _) ?_ ?_
  · rw [List.size_toArray, PySem.sizeLine_eq]; omega
  intro gx
  refine Mine.rest_sameT _ (fun i : Nat => decide (levI (againI x4) (1 + (i : Int)) ≤ levI (againI x5) (1 + (i : Int)))) (fun i y => TripAt V7 y (1 + (i : Int), levI (againI x5) (1 + (i : Int)), levI (againI x4) (1 + (i : Int)))) ?_ (.inr ⟨_, by (iterate 12 (refine .tail _ ?_)); exact .head _, rfl, _, rfl⟩) ?_
  · rintro  i zs v I oI C2 oC D m₂ h tk E' hi hP2 hC2 hx₂ F6 N6 off ne
    (try dsimp only)
    refine Mine.absQ ?_
    intro K9 hK9
    obtain ⟨ap, tp, up, vp, np, rfl, mp⟩ := trip_at (a := levI (againI x5)) (b := levI (againI x4)) rfl hyr4' hP2
    (repeat ((fail_if_success (with_reducible show wpAny _ _ (subscriptTail _ _ _ _) _ _ _)); (first | (k_unfold; (try dsimp only)) | (k_end; wrow_close) | walk1 | (dsimp only; walk1) | (leave1; (try dsimp only)) | fail "no step")))
    refine Mine.trip_item N6 (by (iterate 17 (refine .tail _ ?_)); exact mp) (by decide) (by decide) (by rfl) ?_
    (repeat ((fail_if_success (with_reducible show wpAny _ _ (subscriptTail _ _ _ _) _ _ _)); (first | (k_unfold; (try dsimp only)) | (k_end; wrow_close) | walk1 | (dsimp only; walk1) | (leave1; (try dsimp only)) | fail "no step")))
    refine Mine.trip_item N6 (by (iterate 17 (refine .tail _ ?_)); exact mp) (by decide) (by decide) (by rfl) ?_
    iterate 2 (first | (k_unfold; (try dsimp only)) | (k_end; wrow_close) | walk1 | (dsimp only; walk1) | (leave1; (try dsimp only)) | fail "no step")
    refine hK9 ⟨rfl, ?_⟩
    split
    · (first | (k_unfold; (try dsimp only)) | (k_end; wrow_close) | walk1 | (dsimp only; walk1) | (leave1; (try dsimp only)) | fail "no step")
      exact (Mine.turnB (by k_asm) (by k_asm) ⟨ap, tp, up, vp, np, rfl, mp⟩)
    · exact (Mine.turnA (by k_asm) (by k_asm))
  intro zs hzs
  unfold LCg.FinE
  intro D20 h20 tk20 F20 N20 off20
  (try clear off20)
  rw [List.size_toArray, hn4] at hzs
  (repeat ((fail_if_success (with_reducible show wpAny _ _ (compareOp _ _ _) _ _ _)); (first | (k_unfold; (try dsimp only)) | (k_end; wrow_close) | walk1 | (dsimp only; walk1) | (leave1; (try dsimp only)) | fail "no step")))
  refine Mine.dat_eq (d := .list ((witW (fun a b => decide (b ≤ a)) (levI (againI x5)) (levI (againI x4)) top).map rowD)) (e := .list []) (by k_asm) (.list (by k_mem) ((trips_dat (f := fun a b => decide (b ≤ a)) hzs).mono (fun p hp => by (iterate 16 (refine .tail _ ?_)); exact hp))) (.list (vs := []) (.head _) .nil) (rowD_ok _) (by rfl) (by (first | exact Mine.uni2 (by assumption) rfl | exact Mine.uni1 (by assumption) rfl | exact Mine.uniN rfl | ktr_units)) ?_
  rw [rows_nil]
  (try clear hzs)
  iterate 2 (first | (k_unfold; (try dsimp only)) | (k_end; wrow_close) | walk1 | (dsimp only; walk1) | (leave1; (try dsimp only)) | fail "no step")
  (rename News _ _ _ _ => N50)
  refine And.intro ?g1 ?g2
  (case g2 => exact ⟨(hG1.mono (by ((intro pq hpq; repeat (first | exact hpq | exact List.mem_append_left _ hpq | refine List.Mem.tail _ ?_))))).grown N50, (hG2.mono (by ((intro pq hpq; repeat (first | exact hpq | exact List.mem_append_left _ hpq | refine List.Mem.tail _ ?_))))).grown N50, trivial⟩)
  (case g1 => (first | (k_unfold; (try dsimp only)) | (k_end; wrow_close) | walk1 | (dsimp only; walk1) | (leave1; (try dsimp only)) | fail "no step")))
end
theorem law_all : PySem.Challenge.rw_rs0197_01.Holds := walk_Law.2 ⟨walk_Law6.2 ⟨walk_Law7.2 ⟨walk_Law9.2 ⟨walk_Law12⟩⟩⟩⟩
end Mine
theorem PySem.Challenge.cw_rs0197_01_holds : PySem.Challenge.rw_rs0197_01.Holds :=
Mine.law_all
