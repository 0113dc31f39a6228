import PyProof.Rows.All
import Wide.All
import OpenK.AllK
import Wide.FinOn
import PySem.Challenge.RW_ny0092_01

section
open PySem PySem.W PyProof.Rows
set_option Elab.async false
set_option maxRecDepth 100000
set_option maxHeartbeats 8000000
namespace Mine
open_top hd for PySem.Challenge.rw_ny0092_01
theorem walk_off : True := by
  w_top off
  trivial
end Mine
end

section
open PySem PySem.W PyProof.Rows
set_option Elab.async false
set_option maxRecDepth 100000
namespace Mine

abbrev Led := List (Addr × Obj)



/-- a text with its mark -/
abbrev sv (p : Str × Tok) : Value := .str p.1 p.2
abbrev iv (p : Int × Tok) : Value := .int p.1 p.2
/-- a delay -/
def dval : Option (Int × Tok) → Value
  | none => .none
  | some p => .int p.1 p.2

abbrev entryDict (w : World) (t1 t2 t3 t4 : Tok) (la lr : Addr) (dv : Value) : Obj :=
  dictOf [⟨PyData.keyHash w.params (Str.ofString "useragents"), .str (Str.ofString "useragents") t1, .ref la⟩,
    ⟨PyData.keyHash w.params (Str.ofString "rulelines"), .str (Str.ofString "rulelines") t2, .ref lr⟩,
    ⟨PyData.keyHash w.params (Str.ofString "delay"), .str (Str.ofString "delay") t3, dv⟩,
    ⟨PyData.keyHash w.params (Str.ofString "req_rate"), .str (Str.ofString "req_rate") t4, .none⟩] 4

def EntryIn (w : World) (R : Led) (e : Addr) (ps : List (Str × Tok)) (dl : Option (Int × Tok)) : Prop :=
  ∃ dx la lr t1 t2 t3 t4 nl nr, (e, instObj 59 dx) ∈ R ∧ (dx, entryDict w t1 t2 t3 t4 la lr (dval dl)) ∈ R ∧
    (la, listOf (ps.map sv).toArray nl) ∈ R ∧ (lr, listOf #[] nr) ∈ R

theorem EntryIn.mono {w : World} {R R' : Led} {e : Addr} {ps : List (Str × Tok)} {dl : Option (Int × Tok)} (h : EntryIn w R e ps dl) (k : ∀ p ∈ R, p ∈ R') : EntryIn w R' e ps dl := by
  obtain ⟨dx, la, lr, t1, t2, t3, t4, nl, nr, h1, h2, h3, h4⟩ := h
  exact ⟨dx, la, lr, t1, t2, t3, t4, nl, nr, k _ h1, k _ h2, k _ h3, k _ h4⟩

/-- a contract: the tree, from any frame, room for dep frames and uni units -/
def Ctr (w : World) (mg mb : Str → Option Value) (mean : ExcName → Option Value) (loose : List Str) (tp : Program) (dep uni : Nat) (tree : Sem Value) (P : Led → Prop) (Post : Led → Value → Prop) : Prop :=
  ∀ (dp un : Nat) (gd : Option (List Code)) (cn : Str) (cs : Scope) (a : Addr) (ccd : Value) (cl : List (Str × Addr)) (outer : List Env) (A₀ : Around) (base h₀ : Heap) (L : Addr) (m : Str → Option Value) (news : Led) (s : Shared)
    (Q E : Value → Shared → Prop),
    Below A₀ base outer h₀ → Fr h₀ L s.heap m → (hd.heap_39 w.params).In h₀ → News h₀ L s.heap news → Top tp loose mean mg mb h₀ → cs.kind = .function → P news → dp + dep < 1000 → un + uni < 9900 →
    (∀ r tl h' tk', Fr h₀ L h' m → News h₀ L h' (tl ++ news) → (∀ q ∈ news, ∀ p ∈ tl, q.1 < p.1) → Post tl r → Q r { s with heap := h', toks := tk' }) →
    wpAny (model PySem.Challenge.rw_ny0092_01.row.prog w) (ktrTop dp un gd cn cs L a ccd cl outer) tree Q E s
/-- all of a ledger lies at or above d -/
def AllGe (d : Nat) : Led → Prop
  | [] => True
  | p :: r => @LE.le Nat _ d p.1 ∧ AllGe d r
theorem allGe_of {d : Nat} {l : Led} (h : AllGe d l) : ∀ p ∈ l, d ≤ p.1 := by
  induction l with
  | nil => intro p hp; cases hp
  | cons a r ih =>
    intro p hp
    rcases List.mem_cons.mp hp with e | hp
    · rw [e]; exact h.1
    · exact ih h.2 p hp
theorem below_new {news tl : Led} {d : Nat} (h1 : ∀ p ∈ news, p.1 < d) (h2 : AllGe d tl) : ∀ q ∈ news, ∀ p ∈ tl, q.1 < p.1 :=
  fun q hq p hp => Nat.lt_of_lt_of_le (h1 q hq) (allGe_of h2 p hp)
theorem allGe_append {d : Nat} {l l' : Led} (h : AllGe d l) (h' : AllGe d l') : AllGe d (l ++ l') := by
  induction l with
  | nil => exact h'
  | cons a r ih => exact ⟨h.1, ih h.2⟩
theorem allGe_mono {d d' : Nat} (hd : d' ≤ d) {l : Led} (h : AllGe d l) : AllGe d' l := by
  induction l with
  | nil => trivial
  | cons a r ih => exact ⟨Nat.le_trans hd h.1, ih h.2⟩
theorem allGe_intro {d : Nat} {l : Led} (h : ∀ p ∈ l, d ≤ p.1) : AllGe d l := by
  induction l with
  | nil => trivial
  | cons a r ih => exact ⟨h a (List.mem_cons_self ..), ih fun p hp => h p (List.mem_cons_of_mem _ hp)⟩
theorem EntryIn.elim {w : World} {R : Led} {e : Addr} {ps : List (Str × Tok)} {dl : Option (Int × Tok)} {P : Prop} (h : EntryIn w R e ps dl)
    (k : ∀ dx la lr t1 t2 t3 t4 nl nr, (e, instObj 59 dx) ∈ R → (dx, entryDict w t1 t2 t3 t4 la lr (dval dl)) ∈ R → (la, listOf (ps.map sv).toArray nl) ∈ R → (lr, listOf #[] nr) ∈ R → P) : P := by
  obtain ⟨dx, la, lr, t1, t2, t3, t4, nl, nr, h1, h2, h3, h4⟩ := h
  exact k dx la lr t1 t2 t3 t4 nl nr h1 h2 h3 h4
theorem EntryIn.intro {w : World} {R : Led} {e dx la lr : Addr} {t1 t2 t3 t4 : Tok} {nl nr : Nat} {ps : List (Str × Tok)} {dl : Option (Int × Tok)} (h1 : (e, instObj 59 dx) ∈ R) (h2 : (dx, entryDict w t1 t2 t3 t4 la lr (dval dl)) ∈ R)
    (h3 : (la, listOf (ps.map sv).toArray nl) ∈ R) (h4 : (lr, listOf #[] nr) ∈ R) : EntryIn w R e ps dl :=
  ⟨dx, la, lr, t1, t2, t3, t4, nl, nr, h1, h2, h3, h4⟩
theorem cj2 {A1 A2 P : Prop} (h : A1 ∧ A2) (k : A1 → A2 → P) : P := k h.1 h.2
theorem cj3 {A1 A2 A3 P : Prop} (h : A1 ∧ A2 ∧ A3) (k : A1 → A2 → A3 → P) : P := k h.1 h.2.1 h.2.2
theorem cj4 {A1 A2 A3 A4 P : Prop} (h : A1 ∧ A2 ∧ A3 ∧ A4) (k : A1 → A2 → A3 → A4 → P) : P := k h.1 h.2.1 h.2.2.1 h.2.2.2
theorem cj5 {A1 A2 A3 A4 A5 P : Prop} (h : A1 ∧ A2 ∧ A3 ∧ A4 ∧ A5) (k : A1 → A2 → A3 → A4 → A5 → P) : P := k h.1 h.2.1 h.2.2.1 h.2.2.2.1 h.2.2.2.2
theorem ex1c1 {α : Type} {p1 : α → Prop} {P : Prop} (h : ∃ x, p1 x) (k : ∀ x, p1 x → P) : P := by
  obtain ⟨x, h⟩ := h
  exact k x h
theorem ex1c2 {α : Type} {p1 p2 : α → Prop} {P : Prop} (h : ∃ x, p1 x ∧ p2 x) (k : ∀ x, p1 x → p2 x → P) : P := by
  obtain ⟨x, h⟩ := h
  exact k x h.1 h.2
theorem ex1c3 {α : Type} {p1 p2 p3 : α → Prop} {P : Prop} (h : ∃ x, p1 x ∧ p2 x ∧ p3 x) (k : ∀ x, p1 x → p2 x → p3 x → P) : P := by
  obtain ⟨x, h⟩ := h
  exact k x h.1 h.2.1 h.2.2
theorem ex1c4 {α : Type} {p1 p2 p3 p4 : α → Prop} {P : Prop} (h : ∃ x, p1 x ∧ p2 x ∧ p3 x ∧ p4 x) (k : ∀ x, p1 x → p2 x → p3 x → p4 x → P) : P := by
  obtain ⟨x, h⟩ := h
  exact k x h.1 h.2.1 h.2.2.1 h.2.2.2
theorem ex1c5 {α : Type} {p1 p2 p3 p4 p5 : α → Prop} {P : Prop} (h : ∃ x, p1 x ∧ p2 x ∧ p3 x ∧ p4 x ∧ p5 x) (k : ∀ x, p1 x → p2 x → p3 x → p4 x → p5 x → P) : P := by
  obtain ⟨x, h⟩ := h
  exact k x h.1 h.2.1 h.2.2.1 h.2.2.2.1 h.2.2.2.2
theorem ex2c3 {α β : Type} {p1 p2 p3 : α → β → Prop} {P : Prop} (h : ∃ x y, p1 x y ∧ p2 x y ∧ p3 x y) (k : ∀ x y, p1 x y → p2 x y → p3 x y → P) : P := by
  obtain ⟨x, y, h⟩ := h
  exact k x y h.1 h.2.1 h.2.2
theorem ex2c4 {α β : Type} {p1 p2 p3 p4 : α → β → Prop} {P : Prop} (h : ∃ x y, p1 x y ∧ p2 x y ∧ p3 x y ∧ p4 x y) (k : ∀ x y, p1 x y → p2 x y → p3 x y → p4 x y → P) : P := by
  obtain ⟨x, y, h⟩ := h
  exact k x y h.1 h.2.1 h.2.2.1 h.2.2.2
theorem ex2c5 {α β : Type} {p1 p2 p3 p4 p5 : α → β → Prop} {P : Prop} (h : ∃ x y, p1 x y ∧ p2 x y ∧ p3 x y ∧ p4 x y ∧ p5 x y) (k : ∀ x y, p1 x y → p2 x y → p3 x y → p4 x y → p5 x y → P) : P := by
  obtain ⟨x, y, h⟩ := h
  exact k x y h.1 h.2.1 h.2.2.1 h.2.2.2.1 h.2.2.2.2
theorem ex2c6 {α β : Type} {p1 p2 p3 p4 p5 p6 : α → β → Prop} {P : Prop} (h : ∃ x y, p1 x y ∧ p2 x y ∧ p3 x y ∧ p4 x y ∧ p5 x y ∧ p6 x y) (k : ∀ x y, p1 x y → p2 x y → p3 x y → p4 x y → p5 x y → p6 x y → P) : P := by
  obtain ⟨x, y, h⟩ := h
  exact k x y h.1 h.2.1 h.2.2.1 h.2.2.2.1 h.2.2.2.2.1 h.2.2.2.2.2
theorem ex3c2 {α β γ : Type} {p1 p2 : α → β → γ → Prop} {P : Prop} (h : ∃ x y z, p1 x y z ∧ p2 x y z) (k : ∀ x y z, p1 x y z → p2 x y z → P) : P := by
  obtain ⟨x, y, z, h⟩ := h
  exact k x y z h.1 h.2
theorem ex3c3 {α β γ : Type} {p1 p2 p3 : α → β → γ → Prop} {P : Prop} (h : ∃ x y z, p1 x y z ∧ p2 x y z ∧ p3 x y z) (k : ∀ x y z, p1 x y z → p2 x y z → p3 x y z → P) : P := by
  obtain ⟨x, y, z, h⟩ := h
  exact k x y z h.1 h.2.1 h.2.2
theorem ex3c4 {α β γ : Type} {p1 p2 p3 p4 : α → β → γ → Prop} {P : Prop} (h : ∃ x y z, p1 x y z ∧ p2 x y z ∧ p3 x y z ∧ p4 x y z) (k : ∀ x y z, p1 x y z → p2 x y z → p3 x y z → p4 x y z → P) : P := by
  obtain ⟨x, y, z, h⟩ := h
  exact k x y z h.1 h.2.1 h.2.2.1 h.2.2.2
theorem ex3c5 {α β γ : Type} {p1 p2 p3 p4 p5 : α → β → γ → Prop} {P : Prop} (h : ∃ x y z, p1 x y z ∧ p2 x y z ∧ p3 x y z ∧ p4 x y z ∧ p5 x y z) (k : ∀ x y z, p1 x y z → p2 x y z → p3 x y z → p4 x y z → p5 x y z → P) : P := by
  obtain ⟨x, y, z, h⟩ := h
  exact k x y z h.1 h.2.1 h.2.2.1 h.2.2.2.1 h.2.2.2.2
theorem ex3c6 {α β γ : Type} {p1 p2 p3 p4 p5 p6 : α → β → γ → Prop} {P : Prop} (h : ∃ x y z, p1 x y z ∧ p2 x y z ∧ p3 x y z ∧ p4 x y z ∧ p5 x y z ∧ p6 x y z) (k : ∀ x y z, p1 x y z → p2 x y z → p3 x y z → p4 x y z → p5 x y z → p6 x y z → P) : P := by
  obtain ⟨x, y, z, h⟩ := h
  exact k x y z h.1 h.2.1 h.2.2.1 h.2.2.2.1 h.2.2.2.2.1 h.2.2.2.2.2
theorem ex3c7 {α β γ : Type} {p1 p2 p3 p4 p5 p6 p7 : α → β → γ → Prop} {P : Prop} (h : ∃ x y z, p1 x y z ∧ p2 x y z ∧ p3 x y z ∧ p4 x y z ∧ p5 x y z ∧ p6 x y z ∧ p7 x y z) (k : ∀ x y z, p1 x y z → p2 x y z → p3 x y z → p4 x y z → p5 x y z → p6 x y z → p7 x y z → P) : P := by
  obtain ⟨x, y, z, h⟩ := h
  exact k x y z h.1 h.2.1 h.2.2.1 h.2.2.2.1 h.2.2.2.2.1 h.2.2.2.2.2.1 h.2.2.2.2.2.2
theorem ex4c8 {α β γ δ : Type} {p1 p2 p3 p4 p5 p6 p7 p8 : α → β → γ → δ → Prop} {P : Prop} (h : ∃ x y z u, p1 x y z u ∧ p2 x y z u ∧ p3 x y z u ∧ p4 x y z u ∧ p5 x y z u ∧ p6 x y z u ∧ p7 x y z u ∧ p8 x y z u) (k : ∀ x y z u, p1 x y z u → p2 x y z u → p3 x y z u → p4 x y z u → p5 x y z u → p6 x y z u → p7 x y z u → p8 x y z u → P) : P := by
  obtain ⟨x, y, z, u, h⟩ := h
  exact k x y z u h.1 h.2.1 h.2.2.1 h.2.2.2.1 h.2.2.2.2.1 h.2.2.2.2.2.1 h.2.2.2.2.2.2.1 h.2.2.2.2.2.2.2
theorem ex4c10 {α β γ δ : Type} {p1 p2 p3 p4 p5 p6 p7 p8 p9 p10 : α → β → γ → δ → Prop} {P : Prop} (h : ∃ x y z u, p1 x y z u ∧ p2 x y z u ∧ p3 x y z u ∧ p4 x y z u ∧ p5 x y z u ∧ p6 x y z u ∧ p7 x y z u ∧ p8 x y z u ∧ p9 x y z u ∧ p10 x y z u) (k : ∀ x y z u, p1 x y z u → p2 x y z u → p3 x y z u → p4 x y z u → p5 x y z u → p6 x y z u → p7 x y z u → p8 x y z u → p9 x y z u → p10 x y z u → P) : P := by
  obtain ⟨x, y, z, u, h⟩ := h
  exact k x y z u h.1 h.2.1 h.2.2.1 h.2.2.2.1 h.2.2.2.2.1 h.2.2.2.2.2.1 h.2.2.2.2.2.2.1 h.2.2.2.2.2.2.2.1 h.2.2.2.2.2.2.2.2.1 h.2.2.2.2.2.2.2.2.2
theorem ex4c11 {α β γ δ : Type} {p1 p2 p3 p4 p5 p6 p7 p8 p9 p10 p11 : α → β → γ → δ → Prop} {P : Prop} (h : ∃ x y z u, p1 x y z u ∧ p2 x y z u ∧ p3 x y z u ∧ p4 x y z u ∧ p5 x y z u ∧ p6 x y z u ∧ p7 x y z u ∧ p8 x y z u ∧ p9 x y z u ∧ p10 x y z u ∧ p11 x y z u) (k : ∀ x y z u, p1 x y z u → p2 x y z u → p3 x y z u → p4 x y z u → p5 x y z u → p6 x y z u → p7 x y z u → p8 x y z u → p9 x y z u → p10 x y z u → p11 x y z u → P) : P := by
  obtain ⟨x, y, z, u, h⟩ := h
  exact k x y z u h.1 h.2.1 h.2.2.1 h.2.2.2.1 h.2.2.2.2.1 h.2.2.2.2.2.1 h.2.2.2.2.2.2.1 h.2.2.2.2.2.2.2.1 h.2.2.2.2.2.2.2.2.1 h.2.2.2.2.2.2.2.2.2.1 h.2.2.2.2.2.2.2.2.2.2
theorem ex5c10 {α β γ δ ε : Type} {p1 p2 p3 p4 p5 p6 p7 p8 p9 p10 : α → β → γ → δ → ε → Prop} {P : Prop} (h : ∃ x y z u v, p1 x y z u v ∧ p2 x y z u v ∧ p3 x y z u v ∧ p4 x y z u v ∧ p5 x y z u v ∧ p6 x y z u v ∧ p7 x y z u v ∧ p8 x y z u v ∧ p9 x y z u v ∧ p10 x y z u v) (k : ∀ x y z u v, p1 x y z u v → p2 x y z u v → p3 x y z u v → p4 x y z u v → p5 x y z u v → p6 x y z u v → p7 x y z u v → p8 x y z u v → p9 x y z u v → p10 x y z u v → P) : P := by
  obtain ⟨x, y, z, u, v, h⟩ := h
  exact k x y z u v h.1 h.2.1 h.2.2.1 h.2.2.2.1 h.2.2.2.2.1 h.2.2.2.2.2.1 h.2.2.2.2.2.2.1 h.2.2.2.2.2.2.2.1 h.2.2.2.2.2.2.2.2.1 h.2.2.2.2.2.2.2.2.2
/-- the count of marks does not matter -/
theorem tok_any {α : Type} {M : Model} {A : Around} {t : Sem α} {Q : α → Shared → Prop} {E : Value → Shared → Prop} {s : Shared} (h : ∀ tk, wpAny M A t Q E { s with toks := tk }) : wpAny M A t Q E s := h s.toks
end Mine
end

section
open PySem PySem.W PyProof.Rows
set_option Elab.async false
set_option maxRecDepth 100000
namespace Mine

section
variable {prog : Program} {w : World} {A : Around} {R : Result → Shared → Prop} {I : Addr} {fp wr : List Addr} {G : Array GenState → Array GenState → Prop} {n : Nat} {P : Nat → Value → Prop} {St : Nat → Shared → Prop}

theorem strset_loop (W : WalksS prog w A.in1 I fp wr G n P St) (S : Addr) (hSf : S ∉ fp)
    (val : Nat → Str) (hval : ∀ i v, P i v → ∃ t, v = .str (val i) t) (hb : n + 1 < scanBound) :
    ∀ (k i : Nat) (s : Shared) (c : Nat), n - i = k → i ≤ n → St i s → c ≤ i →
      s.heap.SetOf (PySem.strKind prog w) S (fun k' => ((List.range i).map val).contains k') c →
      (∀ s' c', Moved (S :: wr) G s s' → c' ≤ n → s'.heap.SetOf (PySem.strKind prog w) S (fun k' => ((List.range n).map val).contains k') c' → R (.ok (.ret .none)) s') →
      codeAny (model prog w) A (.builtin "set.update.loop" ⟨[.ref S, .ref I], []⟩) R s := by
  have hSw : S ∉ wr := fun h => hSf (W.sub _ h)
  have hsub : ∀ b ∈ wr, b ∈ S :: wr := fun b hb => List.mem_cons_of_mem _ hb
  intro k
  induction k with
  | zero =>
    intro i s c hk hi hst hc hS hR
    have hin : i = n := by omega
    subst hin
    refine codeAny_builtin PyProof.Rows.F.entry_set_update_loop ?_
    rw [Around.under_plainId PyProof.Rows.F.plain_set_update_loop _]
    show wpAny _ A.in1 (pyNext (.ref I) >>= _) _ _ s
    refine wpAny_bind (W.done s _ _ hst fun s' hm => ?_)
    show wpAny _ A.in1 (ret Value.none) _ _ s'
    exact wpAny_pure (hR s' c (hm.mono hsub) hc (by
      obtain ⟨o, es, ep, t, ho, rest⟩ := hS
      exact ⟨o, es, ep, t, hm.heap S _ hSw ho, rest⟩))
  | succ k ih =>
    intro i s c hk hi hst hc hS hR
    have hlt : i < n := by omega
    refine codeAny_builtin PyProof.Rows.F.entry_set_update_loop ?_
    rw [Around.under_plainId PyProof.Rows.F.plain_set_update_loop _]
    show wpAny _ A.in1 (pyNext (.ref I) >>= _) _ _ s
    refine wpAny_bind (W.item i s _ _ hlt hst fun v s' hP hst' hm => ?_)
    obtain ⟨t, rfl⟩ := hval i v hP
    have hS' : s'.heap.SetOf (PySem.strKind prog w) S (fun k' => ((List.range i).map val).contains k') c := by
      obtain ⟨o, es, ep, tb, ho, rest⟩ := hS
      exact ⟨o, es, ep, tb, hm.heap S _ hSw ho, rest⟩
    show wpAny _ A.in1 (holding [Value.str (val i) t] (setAdd S (.str (val i) t)) >>= _) _ _ s'
    refine wpAny_bind (wpAny_holding ?_)
    unfold setAdd
    refine wpAny_holding ?_
    refine wpAny_bind ((PySem.strKind prog w).pyHash (k := val i) (strKind_is _ _ _ _) ?_)
    refine wpAny_setAddHashed_of (knd := PySem.strKind prog w) (s := { s' with toks := s'.toks + 1 }) (strKind_is _ _ _ _) rfl hS' (by omega) fun h' hsb hS2 => ?_
    have hSi : h'.SetOf (PySem.strKind prog w) S (fun k' => ((List.range (i + 1)).map val).contains k') (if ((List.range i).map val).contains (val i) then c else c + 1) :=
      SetOf_congr hS2 (fun k' => by
        rw [List.range_succ, List.map_append, List.contains_append]
        simp only [List.map_cons, List.map_nil, List.contains_cons, List.contains_nil, Bool.or_false]
        congr 1) rfl
    refine wpAny_pure ⟨plainId_quiet PyProof.Rows.F.plain_set_update_loop _, ih (i + 1) _ _ (by omega) hlt (W.frame _ s' _ _ hst' (Nat.le_succ _) fun b hb o e => ?_) (by split <;> omega) hSi fun s'' c'' hm'' hc'' hS'' => ?_⟩
    · rw [hsb.2 b (fun h : b = S => hSf (by rw [← h]; exact hb))]; exact e
    · refine hR s'' c'' (Moved.trans W.gtrans ((hm.mono hsub).then_heap (Nat.le_succ _) fun b o hb e => ?_) hm'') hc'' hS''
      rw [hsb.2 b (fun h : b = S => hb (by rw [h]; exact List.mem_cons_self))]; exact e
end

section
variable {prog : Program} {w : World} {A : Around} {E : Value → Shared → Prop} {s : Shared}

set_option maxHeartbeats 3200000 in
theorem call_set_strs {l : Addr} {ps : List (Str × Tok)} {nl : Nat} {Q : Value → Shared → Prop}
    (hh : A.handled = none) (hol : s.heap.get? l = some (W.listOf (ps.map sv).toArray nl)) (hb : ps.length + 1 < scanBound)
    (h : ∀ (h' : Heap) (tk c : Nat), c ≤ ps.length → h'.SetOf (PySem.strKind prog w) s.heap.objs.size (fun k' => (ps.map (·.1)).contains k') c →
      (∀ b o, b < s.heap.objs.size → s.heap.get? b = some o → h'.get? b = some o) → Q (.ref s.heap.objs.size) { s with heap := h', toks := tk }) :
    wpAny (model prog w) A (call (.type "set") [.ref l]) Q E s := by
  obtain ⟨c, tl, hmro⟩ := F.called_set.mro
  have hmade := F.called_set.made
  have hsub := F.called_set.sub
  refine wpAny_call (codeAny_of_tree ?_)
  show wpAny _ _ (callAny (.type "set") _) _ _ _
  refine wpAny_pure ⟨Code.quiet_builtin _ (by decide +kernel), codeAny_builtin F.entry_type_call ?_⟩
  rw [Around.under_plain (weight_type_call_type "set" [.ref l] []) rfl]
  have h1 := F.called_set.notType
  have h2 := F.called_set.canCreate
  have hct := F.typeCall_set_1 (.ref l)
  repeat (any_goals (first | assumption | wp_step))
  refine codeAny_mono (code_set_new_1 (.ref l) (E := E) (Q₁ := fun obj s₁ => ∃ led : Bool, obj = .ref s.heap.objs.size ∧ s₁ = { s with heap := s.heap.push { cls := .type "set", dict := none, data := .set #[] 0 (.fresh 0 0 led) } }) fun led => ⟨led, rfl, rfl⟩) fun r s₁ hr => ?_
  cases r with
  | error e => exact hr
  | ok fl =>
    cases fl with
    | ret obj =>
      obtain ⟨led, rfl, rfl⟩ := hr
      have hS : (s.heap.push { cls := .type "set", dict := none, data := .set #[] 0 (.fresh 0 0 led) }).get? s.heap.objs.size = some { cls := .type "set", dict := none, data := .set #[] 0 (.fresh 0 0 led) } := Heap.get?_push_size _ rfl
      have hT : Shared.TypeIs { s with heap := s.heap.push { cls := .type "set", dict := none, data := .set #[] 0 (.fresh 0 0 led) } } (.ref s.heap.objs.size) "set" := ⟨_, hS, rfl⟩
      have hli := F.called_set.init.lookup
      have hbi := F.called_set.init.bind (.ref s.heap.objs.size)
      repeat (any_goals (first | assumption | wp_step))
      refine codeAny_mono (codeAny_call_builtin (R := wants (fun r s₂ => r = .none ∧ ∃ h' tk c, s₂ = { s with heap := h', toks := tk } ∧ c ≤ ps.length ∧
          h'.SetOf (PySem.strKind prog w) s.heap.objs.size (fun k' => (ps.map (·.1)).contains k') c ∧
          (∀ b o, b < s.heap.objs.size → s.heap.get? b = some o → h'.get? b = some o)) E) F.called_set.init.plain F.entry_set_init (check_set_init_1 hT ?_)) fun r₂ s₂ hr₂ => ?_
      · have hol' : (s.heap.push { cls := .type "set", dict := none, data := .set #[] 0 (.fresh 0 0 led) }).get? l = some (W.listOf (ps.map sv).toArray nl) := Heap.get?_push_of_some _ hol
        have hsls := F.sub_list_set
        have hslf := F.sub_list_frozenset
        have hne : (Value.type "list" == Value.type "dict") = false := by decide
        have hl1 : (s.heap.push { cls := .type "set", dict := none, data := .set #[] 0 (.fresh 0 0 led) }).IsList l (ps.map sv).toArray := ⟨_, hol', rfl, nl, rfl⟩
        unfold Builtin.«set.__init__» noKeywords Builtin.Frozenset.updateFrom
        generalize hPI : pyIter = PI
        wp_walk
        subst hPI
        refine wpAny_pyIter_list hl1 ?_
        refine wpAny_bind (wpAny_runValue ?_)
        have hlS : l < s.heap.objs.size := Heap.lt_size hol
        have hh3 : A.in1.in1.in1.handled = none := by simp [hh]
        have hneI : l ≠ (s.heap.push { cls := .type "set", dict := none, data := .set #[] 0 (.fresh 0 0 led) }).objs.size := by
          rw [Heap.size_push]; exact Nat.ne_of_lt (Nat.lt_succ_of_lt hlS)
        have hSf : s.heap.objs.size ∉ [(s.heap.push { cls := .type "set", dict := none, data := .set #[] 0 (.fresh 0 0 led) }).objs.size, l] := by
          rw [Heap.size_push]; simp only [List.mem_cons, List.mem_singleton, List.not_mem_nil, or_false, not_or]
          exact ⟨Nat.ne_of_lt (Nat.lt_succ_self _), Nat.ne_of_gt hlS⟩
        have hval : ∀ (i : Nat) (v : Value), (ps.map sv).toArray[i]? = some v → ∃ t, v = .str ((fun i => (ps.map (·.1)).getD i Str.empty) i) t := fun i v hv => by
          simp only [List.getElem?_toArray, List.getElem?_map] at hv
          cases hp : ps[i]? with
          | none => rw [hp] at hv; cases hv
          | some q =>
            rw [hp] at hv
            simp only [Option.map_some, Option.some.injEq] at hv
            refine ⟨q.2, hv ▸ ?_⟩
            simp [List.getD, List.getElem?_map, hp]
        have hsz : (ps.map sv).toArray.size = ps.length := by simp
        have hall : (List.range (ps.map sv).toArray.size).map (fun i => (ps.map (·.1)).getD i Str.empty) = ps.map (·.1) := by
          rw [hsz]
          apply List.ext_getElem
          · simp
          · intro i h1 h2
            have h3 : i < ps.length := by simpa using h1
            simp [List.getD, List.getElem?_map, h3]
        refine strset_loop ((Walks.list hh3 _ l hneI (ps.map sv).toArray).toS) s.heap.objs.size
          hSf (fun i => (ps.map (·.1)).getD i Str.empty) hval (by rw [hsz]; exact hb) ((ps.map sv).toArray.size - 0) 0 _ 0 (by omega) (Nat.zero_le _)
          ⟨⟨_, Heap.get?_push_size _ rfl, rfl, rfl⟩, (hl1.push _)⟩ (Nat.le_refl _) ?hS0 ?hR
        case hS0 =>
          have hget : ((s.heap.push { cls := .type "set", dict := none, data := .set #[] 0 (.fresh 0 0 led) }).push { cls := .type "list_iterator", data := .fields #[.ref l, .int 0 0] }).get? s.heap.objs.size
              = some { cls := .type "set", dict := none, data := .set #[] 0 (.fresh 0 0 led) } := Heap.get?_push_of_some _ hS
          exact SetOf_congr ((setObjOf_fresh (knd := PySem.strKind prog w) led).setOf hget (by unfold scanBound; omega)) (fun _ => rfl) rfl
        case hR =>
          intro s' c' hm hc' hS'
          rw [hall] at hS'
          obtain ⟨h', g', d', tk', os'⟩ := s'
          have eg : g' = s.gens := hm.gens
          have ed : d' = s.drawn := hm.drawn
          have eo : os' = s.os := hm.os
          subst eg; subst ed; subst eo
          show wpAny _ _ _ _ _ _
          refine wpAny_pure ?_
          show wpAny _ _ (ret Value.none) _ _ _
          refine wpAny_pure ⟨rfl, h', tk', c', rfl, by rw [hsz] at hc'; exact hc', hS', fun b o hb e => ?_⟩
          have hb1 : b ≠ s.heap.objs.size := Nat.ne_of_lt hb
          have hb2 : b ≠ (s.heap.push { cls := .type "set", dict := none, data := .set #[] 0 (.fresh 0 0 led) }).objs.size := by
            rw [Heap.size_push]; exact Nat.ne_of_lt (Nat.lt_succ_of_lt hb)
          exact hm.heap b o (by simp only [List.mem_cons, List.mem_singleton, List.not_mem_nil, or_false, not_or]; exact ⟨hb1, hb2⟩) (Heap.get?_push_of_some _ (Heap.get?_push_of_some _ e))
      · cases r₂ with
        | error e => exact hr₂
        | ok fl₂ =>
          cases fl₂ with
          | ret r =>
            obtain ⟨rfl, h', tk, c, rfl, hc, hS', hk'⟩ := hr₂
            repeat (any_goals (first | assumption | wp_step))
            exact h _ _ c hc hS' hk'
          | _ => exact hr₂.elim
    | _ => exact hr.elim
end
end Mine
end

section
open PySem PySem.W PyProof.Rows
set_option Elab.async false
set_option maxRecDepth 100000
namespace Mine
theorem slot_md_get : Slot "method_descriptor" "__get__" "method_descriptor.__get__" :=
  .of (owner := "method_descriptor") (n := "__get__") (by rw [typeLookup_type, builtinLookup_eq_fast]; kernel_rfl) (by decide +kernel) (by decide +kernel) (by decide +kernel)
    (by first | exact .inl (by decide +kernel) | exact .inr (by decide +kernel)) (by rw [isSubtype_type]; kernel_rfl)
theorem entry_md_get : entryFor table "method_descriptor.__get__" = some Builtin.«method_descriptor.__get__» := entryFor_of_tree (by kernel_rfl)
theorem args_md_get (a b c : Value) : argsOk "method_descriptor.__get__" ⟨[a, b, c], []⟩ := by unfold argsOk; kernel_rfl
theorem md_noset : typeLookup (.type "method_descriptor") "__set__" = pure none := by rw [typeLookup_type, builtinLookup_eq_fast]; kernel_rfl
theorem md_nodel : typeLookup (.type "method_descriptor") "__delete__" = pure none := by rw [typeLookup_type, builtinLookup_eq_fast]; kernel_rfl
theorem set_getattr_none : typeLookup (.type "set") "__getattr__" = pure none := by rw [typeLookup_type, builtinLookup_eq_fast]; kernel_rfl
theorem sub_set_contains_owner : isSubtype (.type "set") (.type (".".intercalate ("set.__contains__".cutAt '.').dropLast)) = pure true := by
  rw [show ".".intercalate ("set.__contains__".cutAt '.').dropLast = "set" by decide +kernel, isSubtype_type]; kernel_rfl
theorem told_set_contains : Manifest.toldItsClass.contains "set.__contains__" = false := by decide +kernel

/-- a built-in's bound method -/
abbrev bmObj (id : String) (self : Value) : Obj := { cls := .type "builtin_function_or_method", data := .fields #[.builtin id, self] }

section
variable {prog : Program} {w : World} {A : Around} {E : Value → Shared → Prop} {s : Shared}
set_option maxHeartbeats 2000000

theorem md_get_set {a : Addr} {o : Obj} {R : Result → Shared → Prop} {h : Heap} {g : Array GenState} {d : Drawn} {t : Nat} {os : OsState} (hx : h.get? a = some o) (hc : o.cls = .type "set")
    (hq : R (.ok (.ret (.ref h.objs.size))) ⟨h.push (bmObj "set.__contains__" (.ref a)), g, d, t, os⟩) :
    codeAny (model prog w) A (.call (.builtin "method_descriptor.__get__") ⟨[.builtin "set.__contains__", .ref a, .type "set"], []⟩) R ⟨h, g, d, t, os⟩ := by
  have hT : (⟨h, g, d, t, os⟩ : Shared).TypeIs (.ref a) "set" := ⟨_, hx, hc⟩
  have hT5 : (⟨h, g, d, t, os⟩ : Shared).TypeIs (.builtin "set.__contains__") "method_descriptor" := F.type_set_contains
  have f8 := sub_set_contains_owner
  have f9 := told_set_contains
  refine codeAny_call_builtin slot_md_get.plain entry_md_get (slot_md_get.check _ _ _ _ _ _ _ _ hT5 (args_md_get _ _ _) ?_)
  repeat (any_goals (first | assumption | wp_step))

theorem set_contains_entry {a : Addr} {es : Array (Int × Value)} {ep : Nat} {tb : SetTable} {sl : Array (Option Value)} {u : Tok} {Q : Fin → Shared → Prop} {h : Heap} {g : Array GenState} {d : Drawn} {t : Nat} {os : OsState}
    (hx : h.get? a = some { cls := .type "set", dict := none, data := .set es ep tb, slots := sl })
    (hq : Q (.done (.ret (.ref h.objs.size))) ⟨h.push (bmObj "set.__contains__" (.ref a)), g, d, t, os⟩) :
    wpAny (model prog w) A (Builtin.«object.__getattribute__» ⟨[.ref a, .str "__contains__" u], []⟩) Q E ⟨h, g, d, t, os⟩ := by
  have hT : (⟨h, g, d, t, os⟩ : Shared).TypeIs (.ref a) "set" := ⟨_, hx, rfl⟩
  have hT5 : (⟨h, g, d, t, os⟩ : Shared).TypeIs (.builtin "set.__contains__") "method_descriptor" := F.type_set_contains
  have g1 := F.slot_set_contains.lookup
  have g2 := F.type_set_contains
  have g3 := slot_md_get.lookup
  have g4 := md_noset
  have g5 := md_nodel
  repeat (any_goals (first | assumption | wp_step))
  refine md_get_set hx rfl ?_
  repeat (any_goals (first | assumption | wp_step))

theorem set_contains_attr {a : Addr} {o : Obj} {es : Array (Int × Value)} {ep : Nat} {tb : SetTable} {Q : Value → Shared → Prop} (hx : s.heap.get? a = some o) (hc : o.cls = .type "set") (hd : o.dict = none) (hdat : o.data = .set es ep tb)
    (h : Q (.ref s.heap.objs.size) { s with heap := s.heap.push (bmObj "set.__contains__" (.ref a)), toks := s.toks + 1 }) :
    wpAny (model prog w) A (getAttr (.ref a) "__contains__" true) Q E s := by
  obtain ⟨c, dct, dat, sl⟩ := o
  simp only at hc hd hdat
  subst hc hd hdat
  obtain ⟨hp, g, d, tk, os⟩ := s
  have hT : ∀ tk', (⟨hp, g, d, tk', os⟩ : Shared).TypeIs (.ref a) "set" := fun _ => ⟨_, hx, rfl⟩
  have f3 := F.slot_set_getattribute.lookup
  have f4 := F.slot_set_getattribute.bind (.ref a)
  have f5 := set_getattr_none
  unfold getAttr getAttrBy
  repeat (any_goals (first | assumption | exact hT _ | wp_step))
  refine codeAny_call_builtin F.slot_set_getattribute.plain F.entry_set_ga (F.slot_set_getattribute.check _ _ _ _ _ _ _ _ (hT _) (F.args_set_getattribute_2 _ _) (set_contains_entry hx ?_))
  repeat (any_goals (first | assumption | wp_step))
end
theorem sub_set_module : isSubtype (.type "set") (.type "module") = pure false := by rw [isSubtype_type]; kernel_rfl
theorem sub_set_type : isSubtype (.type "set") (.type "type") = pure false := by rw [isSubtype_type]; kernel_rfl
section
variable {prog : Program} {w : World} {A : Around} {E : Value → Shared → Prop} {s : Shared}
set_option maxHeartbeats 2000000
theorem check_bm_contains {S : Addr} {es : Array (Int × Value)} {ep : Nat} {tb : SetTable} {sl : Array (Option Value)} {x : Value} {Q : Unit → Shared → Prop}
    (ho : s.heap.get? S = some { cls := .type "set", dict := none, data := .set es ep tb, slots := sl }) (hq : Q () s) :
    wpAny (model prog w) A (checkBoundCall "set.__contains__" ⟨[.ref S, x], []⟩) Q E s := by
  have f1 := sub_set_module
  have f2 := sub_set_type
  have hT : s.TypeIs (.ref S) "set" := ⟨_, ho, rfl⟩
  unfold checkBoundCall
  repeat (any_goals (first | assumption | wp_step))

theorem call_bm_contains {q S : Addr} {x : Str} {t : Tok} {St : Str → Bool} {n : Nat} {Q : Value → Shared → Prop}
    (hq : s.heap.get? q = some (bmObj "set.__contains__" (.ref S))) (hS : s.heap.SetOf (PySem.strKind prog w) S St n)
    (h : Q (.bool (St x)) { s with toks := s.toks + 1 }) :
    wpAny (model prog w) A (call (.ref q) [.str x t]) Q E s := by
  obtain ⟨o, es, ep, tb, ho, hc, hdat, rest⟩ := id hS
  obtain ⟨oc, od, oda, osl⟩ := o
  obtain ⟨hc1, hc2, hc3⟩ := hc
  simp only at hc1 hc2 hc3 hdat
  subst hc1 hc2 hc3 hdat
  refine wpAny_call (codeAny_of_tree ?_)
  show wpAny _ _ (callAny (.ref q) _) _ _ _
  unfold callAny
  refine wpAny_bind (wpAny_load hq ?_)
  dsimp only
  refine wpAny_ite ?_
  rw [if_pos (by decide)]
  refine wpAny_ite ?_
  rw [if_pos (by decide)]
  refine wpAny_bind (check_bm_contains ho ?_)
  refine wpAny_pure ⟨plainId_quiet F.slot_set_contains.plain _, codeAny_builtin entry_set_contains ?_⟩
  rw [Around.under_plainId F.slot_set_contains.plain _]
  unfold Builtin.«frozenset.__contains__» Builtin.Frozenset.oneOther
  simp only [List.isEmpty_nil, bind_assoc]
  unfold Builtin.Frozenset.addrOf Builtin.Frozenset.withSetAsKey setContains
  refine wpAny_bind (wpAny_pure ?_)
  try dsimp only
  refine wpAny_bind (wpAny_pure ?_)
  try dsimp only
  refine wpAny_bind (wpAny_tryCatch ?_)
  refine wpAny_holding ?_
  refine wpAny_bind ((PySem.strKind prog w).pyHash (k := x) (strKind_is _ _ _ _) ?_)
  refine wpAny_bind (wpAny_setFind_of (s := { s with toks := s.toks + 1 }) (strKind_is _ _ _ _) rfl hS fun r hr => ?_)
  refine wpAny_pure ?_
  show wpAny _ _ (ret (Value.bool r.isSome)) _ _ _
  rw [hr]
  exact wpAny_pure h
end
end Mine
end

section

open PySem PySem.W PyProof.Rows
set_option Elab.async false
set_option maxRecDepth 100000
namespace Mine

theorem mro_filter : mroOf (.type "filter") = pure [.type "filter", .type "object"] := by rw [mroOf_type]; kernel_rfl
theorem lookup_filter_new : typeLookup (.type "filter") "__new__" = pure (some (.builtin "filter.__new__")) := by rw [typeLookup_type, builtinLookup_eq_fast]; kernel_rfl
theorem slot_filter_init : Slot "filter" "__init__" "object.__init__" :=
  .of (owner := "object") (n := "__init__") (by rw [typeLookup_type, builtinLookup_eq_fast]; kernel_rfl) (by decide +kernel) (by decide +kernel) (by decide +kernel)
    (by first | exact .inl (by decide +kernel) | exact .inr (by decide +kernel)) (by rw [isSubtype_type]; kernel_rfl)
theorem slot_filter_next : Slot "filter" "__next__" "filter.__next__" :=
  .of (owner := "filter") (n := "__next__") (by rw [typeLookup_type, builtinLookup_eq_fast]; kernel_rfl) (by decide +kernel) (by decide +kernel) (by decide +kernel)
    (by first | exact .inl (by decide +kernel) | exact .inr (by decide +kernel)) (by rw [isSubtype_type]; kernel_rfl)
theorem slot_filter_iter : Slot "filter" "__iter__" "filter.__iter__" :=
  .of (owner := "filter") (n := "__iter__") (by rw [typeLookup_type, builtinLookup_eq_fast]; kernel_rfl) (by decide +kernel) (by decide +kernel) (by decide +kernel)
    (by first | exact .inl (by decide +kernel) | exact .inr (by decide +kernel)) (by rw [isSubtype_type]; kernel_rfl)
theorem called_filter : TypeCalled "filter" "filter.__new__" "object.__init__" :=
  ⟨by decide +kernel, by decide +kernel, ⟨_, _, mro_filter⟩, madeBy_type mro_filter lookup_filter_new (by decide +kernel), by decide +kernel, by rw [isSubtype_type]; kernel_rfl, slot_filter_init⟩
theorem typeCall_filter_2 (a b : Value) : checkTypeCall "filter" ⟨[a, b], []⟩ = pure () := by kernel_rfl
theorem newCall_filter_2 (a b : Value) : checkBuiltinCall "filter.__new__" ⟨[.type "filter", a, b], []⟩ = pure () := by kernel_rfl
theorem entry_filter_new : entryFor table "filter.__new__" = some Builtin.«filter.__new__» := entryFor_of_tree (by kernel_rfl)
theorem entry_filter_next : entryFor table "filter.__next__" = some Builtin.«filter.__next__» := entryFor_of_tree (by kernel_rfl)
theorem entry_filter_iter : entryFor table "filter.__iter__" = some Builtin.«dict_keyiterator.__iter__» :=
  entryFor_alias (id' := "dict_keyiterator.__iter__") (by kernel_rfl) (by first | rfl | decide +kernel | (unfold String.splitOn; simp +decide [String.splitOnAux])) (by decide +kernel) (by kernel_rfl)
theorem args_filter_next_1 (a : Value) : argsOk "filter.__next__" ⟨[a], []⟩ := by unfold argsOk; kernel_rfl
theorem args_filter_iter_1 (a : Value) : argsOk "filter.__iter__" ⟨[a], []⟩ := by unfold argsOk; kernel_rfl
theorem args_object_init_3 (a b c : Value) : argsOk "object.__init__" ⟨[a, b, c], []⟩ := by unfold argsOk; kernel_rfl
theorem sub_filter : isSubtype (.type "filter") (.type "filter") = pure true := by rw [isSubtype_type]; kernel_rfl
theorem filter_no_len : typeLookup (.type "filter") "__len__" = pure none := by rw [typeLookup_type, builtinLookup_eq_fast]; kernel_rfl
theorem filter_no_hint : typeLookup (.type "filter") "__length_hint__" = pure none := by rw [typeLookup_type, builtinLookup_eq_fast]; kernel_rfl

abbrev filterObj (q it : Addr) : Obj := { cls := .type "filter", data := .fields #[.ref q, .ref it] }
abbrev iterObj (l : Addr) : Obj := { cls := .type "list_iterator", data := .fields #[.ref l, .int 0 0] }

section
variable {prog : Program} {w : World} {A : Around} {E : Value → Shared → Prop} {s : Shared}
set_option maxHeartbeats 2000000

theorem meets_filter_new (q l : Addr) (items : Array Value) (n : Nat) (dct : Option Addr) (sl : Array (Option Value)) :
    Meets (Builtin.«filter.__new__» ⟨[.type "filter", .ref q, .ref l], []⟩) (fun _ R s => s.heap.get? l = some { cls := .type "list", dict := dct, data := .seq items n, slots := sl } ∧
      R (.ok (.ret (.ref (s.heap.push (iterObj l)).objs.size)))
        { s with heap := (s.heap.push (iterObj l)).push (filterObj q s.heap.objs.size) }) :=
  .of_wp fun prog w A R s h => by
    obtain ⟨hp, g, d, tk, os⟩ := s; obtain ⟨hl, h⟩ := h
    have hsub := sub_filter
    have hL : Heap.IsList (Shared.heap ⟨hp, g, d, tk, os⟩) l items := ⟨_, hl, rfl, n, rfl⟩
    wp_walk using wpAny_pyIter_list hL
    exact ⟨_, rfl, h⟩

theorem call_filter {q l : Addr} {items : Array Value} {n : Nat} {Q : Value → Shared → Prop} (hl : s.heap.get? l = some (W.listOf items n))
    (h : Q (.ref (s.heap.objs.size + 1)) { s with heap := (s.heap.push (iterObj l)).push (filterObj q s.heap.objs.size) }) :
    wpAny (model prog w) A (call (.type "filter") [.ref q, .ref l]) Q E s := by
  refine callType_new called_filter (by decide) (typeCall_filter_2 _ _) (newCall_filter_2 _ _) (fun obj => args_object_init_3 obj _ _) entry_filter_new
    (meets_filter_new q l items n none #[]) ⟨hl, ?_⟩
  have hz : (s.heap.push (iterObj l)).objs.size = s.heap.objs.size + 1 := Heap.size_push ..
  show _ ∧ _
  rw [hz]
  have he := Heap.get?_push_size (s.heap.push (iterObj l)) (o := filterObj q s.heap.objs.size) rfl
  rw [hz] at he
  exact ⟨⟨_, he, rfl⟩, h⟩

theorem iter_call_item {it l : Addr} {i : Nat} {items} {x : Value} {Q : Option Value → Shared → Prop} (hit : s.heap.IsListIter it l i)
    (hl : s.heap.IsList l items) (hx : items[i]? = some x)
    (hQ : ∀ h', h'.IsListIter it l (i + 1) → Heap.SameBut it s.heap h' → Q (some x) { s with heap := h' }) :
    wpAny (model prog w) A (callSpecial? (.ref it) "__next__") Q E s := by
  obtain ⟨o, ho, hc, hd⟩ := id hit
  obtain ⟨ol, hol, _, nl, hdl⟩ := hl
  refine wpAny_callSpecial?_slot (name := Str.ofString "__next__") hit.typeIs slot_listiter_next
    (wpAny_call_entry slot_listiter_next hit.typeIs entry_listiter_next ?_ (args_listiter_next _))
  show wpAny _ _ (field (.ref it) 0 >>= _) _ _ s
  refine wpAny_bind (wpAny_field ho hd (x := .ref l) rfl ?_)
  show wpAny _ _ (if (Value.ref l == Value.none) = true then _ else _) _ _ s
  rw [if_neg (show ¬ ((Value.ref l == Value.none) = true) from Bool.false_ne_true)]
  show wpAny _ _ (field (.ref it) 1 >>= _) _ _ s
  refine wpAny_bind (wpAny_field ho hd (x := .int i 0) rfl ?_)
  show wpAny _ _ (seqItems? (.ref l) >>= _) _ _ s
  refine wpAny_bind (wpAny_seqItems hol hdl ?_)
  simp only [Int.toNat_natCast, hx]
  refine wpAny_bind (wpAny_setField ho hd (by simp) (wpAny_pure ⟨x, rfl, (hQ _ ?_ (Heap.SameBut.update ..))⟩))
  exact ⟨_, Heap.get?_update_self _ ho (Obj.isFreed_of_fields (Obj.data_mapFields hd _)), (Obj.cls_mapFields ..).trans hc, by
    rw [Obj.data_mapFields hd]; simp [rawInt]⟩

theorem iter_call_end {it l : Addr} {i : Nat} {items} {Q : Option Value → Shared → Prop} (hh : A.handled = none)
    (hit : s.heap.IsListIter it l i) (hl : s.heap.IsList l items) (hx : items[i]? = none)
    (hE : ∀ h' e, Heap.ExtBut it s.heap h' → (∃ o, h'.get? e = some o ∧ o.cls = .type "StopIteration") → E (.ref e) { s with heap := h' }) :
    wpAny (model prog w) A (callSpecial? (.ref it) "__next__") Q E s := by
  obtain ⟨o, ho, hc, hd⟩ := id hit
  obtain ⟨ol, hol, _, nl, hdl⟩ := hl
  refine wpAny_callSpecial?_slot (name := Str.ofString "__next__") hit.typeIs slot_listiter_next
    (wpAny_call_entry slot_listiter_next hit.typeIs entry_listiter_next ?_ (args_listiter_next _))
  show wpAny _ _ (field (.ref it) 0 >>= _) _ _ s
  refine wpAny_bind (wpAny_field ho hd (x := .ref l) rfl ?_)
  show wpAny _ _ (if (Value.ref l == Value.none) = true then _ else _) _ _ s
  rw [if_neg (show ¬ ((Value.ref l == Value.none) = true) from Bool.false_ne_true)]
  show wpAny _ _ (field (.ref it) 1 >>= _) _ _ s
  refine wpAny_bind (wpAny_field ho hd (x := .int i 0) rfl ?_)
  show wpAny _ _ (seqItems? (.ref l) >>= _) _ _ s
  refine wpAny_bind (wpAny_seqItems hol hdl ?_)
  simp only [Int.toNat_natCast, hx]
  refine wpAny_bind (wpAny_rule (wpAny_bind (wpAny_setField ho hd (by simp) ?_)))
  show wpAny _ _ (newExc (.type "StopIteration") [] >>= _) _ _ _
  refine wpAny_bind ?_
  simp only [newExc, newTuple]
  refine wpAny_bind (wpAny_newObj_type ?_ (by size_fits))
  refine wpAny_bind (m := firstArgMember _ _) (wpAny_of_eq (a := Value.none) (by first | rfl | (simp only [firstArgMember]; rfl)) ?_)
  refine wpAny_newObj_type ?_ (by size_fits)
  simp only [raiseNew]
  refine wpAny_bind (wpAny_handled ?_)
  first | rw [show A.in1.handled = none from hh] | rw [hh]
  refine wpAny_bind (wpAny_pure (wpAny_throw ?_))
  exact hE _ _ (((Heap.SameBut.update ..).extBut.push _).push _) ⟨_, Heap.get?_push_size _ rfl, rfl⟩

/-- what a filter over a list of texts stands on -/
def FilterAt (prog : Program) (w : World) (fo it l q S : Addr) (ps : List (Str × Tok)) (nl : Nat) (p : Str → Bool) (j : Nat) (h : Heap) : Prop :=
  h.get? fo = some (filterObj q it) ∧ h.IsListIter it l j ∧ h.get? l = some (W.listOf (ps.map sv).toArray nl) ∧ h.get? q = some (bmObj "set.__contains__" (.ref S)) ∧ ∃ n, h.SetOf (PySem.strKind prog w) S p n

theorem FilterAt.ext {fo it l q S : Addr} {ps : List (Str × Tok)} {nl : Nat} {p : Str → Bool} {j j' : Nat} {h h' : Heap} (x : FilterAt prog w fo it l q S ps nl p j h)
    (hi : h'.IsListIter it l j') (k : ∀ b o, b ≠ it → h.get? b = some o → h'.get? b = some o) (h1 : fo ≠ it) (h2 : l ≠ it) (h3 : q ≠ it) (h4 : S ≠ it) : FilterAt prog w fo it l q S ps nl p j' h' := by
  obtain ⟨a, b, c, d, n, o, es, ep, t, ho, r⟩ := x
  exact ⟨k _ _ h1 a, hi, k _ _ h2 c, k _ _ h3 d, n, o, es, ep, t, k _ _ h4 ho, r⟩

theorem filter_next_code {fo it l q S : Addr} {ps : List (Str × Tok)} {nl : Nat} {p : Str → Bool} (h1 : fo ≠ it) (h2 : l ≠ it) (h3 : q ≠ it) (h4 : S ≠ it) {R : Result → Shared → Prop} (hh : A.handled = none) :
    ∀ (k j : Nat) (s : Shared), ps.length - j = k → j ≤ ps.length → FilterAt prog w fo it l q S ps nl p j s.heap →
      (∀ j' x h' tk, j ≤ j' → ps[j']? = some x → p x.1 = true → (∀ i y, j ≤ i → i < j' → ps[i]? = some y → p y.1 = false) → FilterAt prog w fo it l q S ps nl p (j' + 1) h' → (∀ b o, b ≠ it → s.heap.get? b = some o → h'.get? b = some o) →
        R (.ok (.ret (sv x))) { s with heap := h', toks := tk }) →
      (∀ h' tk e, (∀ i y, j ≤ i → ps[i]? = some y → p y.1 = false) → (∀ b o, b ≠ it → s.heap.get? b = some o → h'.get? b = some o) → (∃ o, h'.get? e = some o ∧ o.cls = .type "StopIteration") → R (.error (.ref e)) { s with heap := h', toks := tk }) →
      codeAny (model prog w) A (.builtin "filter.__next__" ⟨[.ref fo], []⟩) R s := by
  intro k
  induction k with
  | zero =>
    intro j s hk hj hF hR hE
    have hF' := hF
    obtain ⟨a, b, c, d, n, hS⟩ := hF
    refine codeAny_builtin entry_filter_next ?_
    rw [Around.under_plainId slot_filter_next.plain _]
    show wpAny _ A.in1 (field (.ref fo) 0 >>= _) _ _ s
    refine wpAny_bind (wpAny_field a rfl (x := .ref q) rfl ?_)
    show wpAny _ A.in1 (field (.ref fo) 1 >>= _) _ _ s
    refine wpAny_bind (wpAny_field a rfl (x := .ref it) rfl ?_)
    refine wpAny_bind (iter_call_end (by simpa using hh) b ⟨_, c, rfl, nl, rfl⟩ (by simp; omega) fun h' e he hx => ?_)
    exact hE h' s.toks e (fun i y hi hy => absurd (List.getElem?_eq_some_iff.mp hy).1 (by omega)) (fun b o hb e => he b o hb e) hx
  | succ k ih =>
    intro j s hk hj hF hR hE
    have hF' := hF
    obtain ⟨a, b, c, d, n, hS⟩ := hF
    have hlt : j < ps.length := by omega
    refine codeAny_builtin entry_filter_next ?_
    rw [Around.under_plainId slot_filter_next.plain _]
    show wpAny _ A.in1 (field (.ref fo) 0 >>= _) _ _ s
    refine wpAny_bind (wpAny_field a rfl (x := .ref q) rfl ?_)
    show wpAny _ A.in1 (field (.ref fo) 1 >>= _) _ _ s
    refine wpAny_bind (wpAny_field a rfl (x := .ref it) rfl ?_)
    refine wpAny_bind (iter_call_item (x := sv ps[j]) b ⟨_, c, rfl, nl, rfl⟩ (by simp [hlt]) fun h' hi' hs' => ?_)
    have hF1 : FilterAt prog w fo it l q S ps nl p (j + 1) h' := hF'.ext hi' (fun b o hb e => hs'.extBut b o hb e) h1 h2 h3 h4
    obtain ⟨a1, b1, c1, d1, n1, hS1⟩ := id hF1
    dsimp only
    refine wpAny_bind (wpAny_holding ?_)
    refine wpAny_ite ?_
    rw [if_neg (by simp)]
    refine wpAny_bind (call_bm_contains (s := { s with heap := h' }) d1 hS1 ?_)
    refine wpAny_holding (wpAny_truthy_bool ?_)
    refine wpAny_ite ?_
    cases hp : p ps[j].1 with
    | true =>
      rw [if_pos rfl]
      exact wpAny_pure (hR j ps[j] h' _ (Nat.le_refl _) (by simp [hlt]) hp (fun i y h1 h2 => absurd h2 (by omega)) hF1 (fun b o hb e => hs'.extBut b o hb e))
    | false =>
      rw [if_neg (by simp)]
      refine wpAny_pure ⟨plainId_quiet slot_filter_next.plain _, ih (j + 1) _ (by omega) hlt hF1 (fun j' x h'' tk hj' hx hpx hno hF2 hk2 => ?_) fun h'' tk e hno hk2 hx => ?_⟩
      · refine hR j' x h'' tk (by omega) hx hpx (fun i y hi hi' hy => ?_) hF2 fun b o hb e => hk2 b o hb (hs'.extBut b o hb e)
        by_cases e : i = j
        · subst e
          have : y = ps[i] := by rw [List.getElem?_eq_getElem hlt] at hy; exact (Option.some.inj hy).symm
          rw [this]; exact hp
        · exact hno i y (by omega) hi' hy
      · refine hE h'' tk e (fun i y hi hy => ?_) (fun b o hb e => hk2 b o hb (hs'.extBut b o hb e)) hx
        by_cases e : i = j
        · subst e
          have : y = ps[i] := by rw [List.getElem?_eq_getElem hlt] at hy; exact (Option.some.inj hy).symm
          rw [this]; exact hp
        · exact hno i y (by omega) hy
end
end Mine
end

section
open PySem PySem.W PyProof.Rows
set_option Elab.async false
set_option maxRecDepth 100000
namespace Mine
section
variable {prog : Program} {w : World} {A : Around} {E : Value → Shared → Prop} {s : Shared}
set_option maxHeartbeats 2000000

theorem take_filter_len {ps : List (Str × Tok)} {p : Str → Bool} {j j' : Nat} {x : Str × Tok} (hx : ps[j']? = some x) (hp : p x.1 = true) (hj : j ≤ j')
    (hno : ∀ i y, j ≤ i → i < j' → ps[i]? = some y → p y.1 = false) :
    ((ps.take (j' + 1)).filter fun a => p a.1) = ((ps.take j).filter fun a => p a.1) ++ [x] := by
  have h1 : ps.take (j' + 1) = ps.take j ++ ((ps.drop j).take (j' - j) ++ [x]) := by
    rw [List.take_add_one, hx, ← List.append_assoc]
    congr 1
    rw [← List.take_add]
    congr 1
    omega
  rw [h1, List.filter_append, List.filter_append]
  congr 1
  have h2 : ((ps.drop j).take (j' - j)).filter (fun a => p a.1) = [] := by
    rw [List.filter_eq_nil_iff]
    intro a ha
    obtain ⟨i, hi, e⟩ := List.mem_iff_getElem.mp ha
    have hi' : i < j' - j := by
      have := List.length_take_le (j' - j) (ps.drop j); omega
    have : ps[j + i]? = some a := by
      rw [← e, List.getElem_take, List.getElem_drop]
      have hlt : j + i < ps.length := by
        simp only [List.length_take, List.length_drop] at hi; omega
      rw [List.getElem?_eq_getElem hlt]
    rw [hno (j + i) a (by omega) (by omega) this]
    simp
  rw [h2]
  simp [hp]

theorem take_filter_all {ps : List (Str × Tok)} {p : Str → Bool} {j : Nat}
    (hno : ∀ i y, j ≤ i → ps[i]? = some y → p y.1 = false) : ((ps.take j).filter fun a => p a.1) = ps.filter fun a => p a.1 := by
  conv => rhs; rw [← List.take_append_drop j ps, List.filter_append]
  have h2 : (ps.drop j).filter (fun a => p a.1) = [] := by
    rw [List.filter_eq_nil_iff]
    intro a ha
    obtain ⟨i, hi, e⟩ := List.mem_iff_getElem.mp ha
    have hlt : j + i < ps.length := by simp only [List.length_drop] at hi; omega
    have : ps[j + i]? = some a := by
      rw [← e, List.getElem_drop, List.getElem?_eq_getElem hlt]
    rw [hno (j + i) a (by omega) this]
    simp
  rw [h2, List.append_nil]

/-- a filter over a list of texts, by a set's bound method, as an iterator -/
theorem walks_filter {fo it l q S : Addr} {ps : List (Str × Tok)} {nl : Nat} {p : Str → Bool} (h1 : fo ≠ it) (h2 : l ≠ it) (h3 : q ≠ it) (h4 : S ≠ it) (hh : A.handled = none) :
    Walks prog w A fo [fo, it, l, q, S] [it] (ps.filter fun a => p a.1).length (fun i v => ((ps.filter fun a => p a.1).map sv)[i]? = some v)
      (fun i h => ∃ j, j ≤ ps.length ∧ ((ps.take j).filter fun a => p a.1).length = i ∧ FilterAt prog w fo it l q S ps nl p j h) where
  sub := fun b hb => by simp at hb; simp [hb]
  frame := fun i h h' st k => by
    obtain ⟨j, hj, hi, a, b, c, d, n, o, es, ep, t, ho, r⟩ := st
    exact ⟨j, hj, hi, k _ (by simp) _ a, b.at fun o e => k it (by simp) o e, k _ (by simp) _ c, k _ (by simp) _ d, n, o, es, ep, t, k _ (by simp) _ ho, r⟩
  item := fun i s Q E hi st hQ => by
    obtain ⟨j, hj, hij, hF⟩ := st
    have hT : s.TypeIs (.ref fo) "filter" := ⟨_, hF.1, rfl⟩
    unfold pyNext
    refine wpAny_bind (wpAny_attempt (wpAny_callSpecial?_slot (name := Str.ofString "__next__") hT slot_filter_next ?_))
    refine wpAny_call (codeAny_of_tree ?_)
    show wpAny _ _ (do checkBuiltinCall "filter.__next__" ⟨[.ref fo], []⟩; again (.builtin "filter.__next__" ⟨[.ref fo], []⟩)) _ _ s
    refine wpAny_bind (slot_filter_next.check _ _ _ _ _ _ _ _ hT (args_filter_next_1 _) (wpAny_pure ⟨plainId_quiet slot_filter_next.plain _, ?_⟩))
    refine filter_next_code h1 h2 h3 h4 hh (ps.length - j) j s rfl hj hF (fun j' x h' tk hj' hx hp hno hF' hk => ?_) fun h' tk e hno hk hx => ?_
    · have hl := take_filter_len hx hp hj' hno
      refine wpAny_pure (hQ (sv x) h' tk ?_ ⟨j' + 1, by have := (List.getElem?_eq_some_iff.mp hx).1; omega, by rw [hl, List.length_append, hij]; rfl, hF'⟩ fun b o hb e => hk b o (fun q => hb (by simp [q])) e)
      rw [List.getElem?_map]
      have hpre : ((ps.take (j' + 1)).filter fun a => p a.1) <+: (ps.filter fun a => p a.1) := (List.take_prefix _ _).filter _
      have e1 : ((ps.take (j' + 1)).filter fun a => p a.1)[i]? = some x := by rw [hl, ← hij]; simp
      obtain ⟨r, hr⟩ := hpre
      have hlt : i < ((ps.take (j' + 1)).filter fun a => p a.1).length := (List.getElem?_eq_some_iff.mp e1).1
      rw [← hr, List.getElem?_append_left hlt, e1]
      rfl
    · exfalso
      have := take_filter_all hno
      rw [this] at hij
      omega
  done := fun s Q E st hQ => by
    obtain ⟨j, hj, hij, hF⟩ := st
    have hT : s.TypeIs (.ref fo) "filter" := ⟨_, hF.1, rfl⟩
    unfold pyNext
    refine wpAny_bind (wpAny_attempt (wpAny_callSpecial?_slot (name := Str.ofString "__next__") hT slot_filter_next ?_))
    refine wpAny_call (codeAny_of_tree ?_)
    show wpAny _ _ (do checkBuiltinCall "filter.__next__" ⟨[.ref fo], []⟩; again (.builtin "filter.__next__" ⟨[.ref fo], []⟩)) _ _ s
    refine wpAny_bind (slot_filter_next.check _ _ _ _ _ _ _ _ hT (args_filter_next_1 _) (wpAny_pure ⟨plainId_quiet slot_filter_next.plain _, ?_⟩))
    refine filter_next_code h1 h2 h3 h4 hh (ps.length - j) j s rfl hj hF (fun j' x h' tk hj' hx hp hno hF' hk => ?_) fun h' tk e hno hk hx => ?_
    · exfalso
      have hl := take_filter_len hx hp hj' hno
      have hpre : ((ps.take (j' + 1)).filter fun a => p a.1) <+: (ps.filter fun a => p a.1) := (List.take_prefix _ _).filter _
      have := hpre.length_le
      rw [hl, List.length_append, hij] at this
      simp only [List.length_cons, List.length_nil] at this
      omega
    · obtain ⟨o, ho, hc⟩ := hx
      refine wpAny_bind (wpAny_isInstance (T := "StopIteration") (b := true) ⟨o, ho, hc⟩ isSubtype_stop ?_)
      exact wpAny_pure (hQ _ _ fun b o hb e => hk b o (fun q => hb (by simp [q])) e)
  self := fun i s Q E st hQ => by
    obtain ⟨j, hj, hij, hF⟩ := st
    have hT : s.TypeIs (.ref fo) "filter" := ⟨_, hF.1, rfl⟩
    refine wpAny_pyIter_slot hT slot_filter_iter (wpAny_call_entry slot_filter_iter hT entry_filter_iter ?_ (args_filter_iter_1 _))
    show wpAny _ _ (ret (.ref fo)) _ _ s
    exact wpAny_pure ⟨_, rfl, "filter", _, hT, slot_filter_next.lookup, hQ⟩
end

section
variable {prog : Program} {w : World} {A : Around} {s : Shared} {R : Result → Shared → Prop}
variable {I : Addr} {fp wr : List Addr} {G : Array GenState → Array GenState → Prop} {n : Nat} {P : Nat → Value → Prop} {St : Nat → Shared → Prop}

theorem extend_filter (W : WalksS prog w A.in1 I fp wr G n P St) (hT : ∀ i s, St i s → s.TypeIs (.ref I) "filter") (S : Addr) (res : Value) (c₀ : Nat) (hst : St 0 s) (hSf : S ∉ fp) (hI : I ∈ fp)
    (hS : s.heap.get? S = some { cls := .type "list", data := .seq #[] c₀ })
    (hR : ∀ s' acc' c', Moved (S :: wr) G s s' → s'.heap.get? S = some { cls := .type "list", dict := none, data := .seq acc' c', slots := #[] } → ItemsOf P acc' n → R (.ok (.ret res)) s') (hn : n ≤ sizeLine) :
    wpAny (model prog w) A.in1 (Builtin.List.listExtendWith (.ref S) (.ref I) res)
      (fun fin s' => match fin with | .done f => R (.ok f) s' | .again c' => c'.quiet = true ∧ codeAny (model prog w) A c' R s') (fun e s' => R (.error e) s') s := by
  have hSI : S ≠ I := fun e => hSf (e ▸ hI)
  unfold Builtin.List.listExtendWith
  refine wpAny_bind (wpAny_typeOf (hT 0 _ hst) ?_)
  have h1 : Builtin.List.listSameRef (.ref S) (.ref I) = false := by simp [Builtin.List.listSameRef, hSI]
  have h2 : (Value.type "filter" == Value.type "list") = false := by decide
  have h3 : (Value.type "filter" == Value.type "tuple") = false := by decide
  simp only [h1, h2, h3, Bool.or_false, Bool.false_eq_true, if_false]
  refine wpAny_bind (W.self 0 _ _ _ hst ?_)
  refine wpAny_bind (wpAny_holding ?_)
  unfold Builtin.List.listLengthHint
  refine wpAny_bind (wpAny_specialOf (hT 0 _ hst) filter_no_len ?_)
  show wpAny _ A.in1 (specialOf (Value.ref I) (Str.ofString "__length_hint__") >>= _) _ _ _
  refine wpAny_bind (wpAny_specialOf (hT 0 _ hst) filter_no_hint ?_)
  refine wpAny_pure ?_
  show wpAny _ A.in1 (rule "list.extend.makes-room" >>= fun _ => Builtin.List.listTouch (.ref S) >>= fun _ =>
    again (.builtin "list.extend.loop" ⟨[.ref S, .ref I, res], []⟩)) _ _ _
  refine wpAny_bind (wpAny_rule ?_)
  refine wpAny_bind ?_
  show wpAny _ A.in1 (updateSeq S (·.push .none) >>= fun _ => updateSeq S (·.pop)) _ _ _
  refine wpAny_bind (wpAny_updateSeq hS rfl ?_)
  have hS₂ := Heap.get?_update_self (Obj.mapSeq (·.push Value.none)) hS rfl
  refine wpAny_updateSeq (hz := by seq_fits) hS₂ rfl ?_
  have hS₃ := Heap.get?_update_self (Obj.mapSeq (·.pop)) hS₂ rfl
  have oth : ∀ b o, b ≠ S → s.heap.get? b = some o → ((s.heap.update S (Obj.mapSeq (·.push Value.none))).update S (Obj.mapSeq (·.pop))).get? b = some o :=
    fun b o hb e => (Heap.get?_update_other _ _ (Ne.symm hb)).trans ((Heap.get?_update_other _ _ (Ne.symm hb)).trans e)
  refine wpAny_pure ⟨plainId_quiet F.plain_extend_loop _, codeAny_extend_loopS W hn _ hSf _ n 0 _ _ _ rfl (Nat.zero_le _)
    (W.frame 0 s _ s.toks hst (Nat.le_refl _) fun b hb o e => oth b o (fun h => hSf (h ▸ hb)) e) hS₃ (ItemsOf.nil P) fun s' acc' c' hm hS' hacc => ?_⟩
  exact hR s' acc' c' (Moved.trans W.gtrans ((Moved.refl W.grefl).then_heap (Nat.le_refl _) fun b o hb e => oth b o (fun h => hb (h ▸ List.mem_cons_self)) e) hm) hS' hacc

theorem list_init_filter (W : WalksS prog w A.in1 I fp wr G n P St) (hT : ∀ i s, St i s → s.TypeIs (.ref I) "filter") (S : Addr) (hst : St 0 s) (hSf : S ∉ fp) (hI : I ∈ fp)
    (hS : s.heap.get? S = some { cls := .type "list", data := .seq #[] })
    (hR : ∀ s' acc' c', Moved (S :: wr) G s s' → s'.heap.get? S = some { cls := .type "list", dict := none, data := .seq acc' c', slots := #[] } → ItemsOf P acc' n → R (.ok (.ret .none)) s') (hn : n ≤ sizeLine) :
    wpAny (model prog w) A.in1 (Builtin.«list.__init__» ⟨[.ref S, .ref I], []⟩)
      (fun fin s' => match fin with | .done f => R (.ok f) s' | .again c' => c'.quiet = true ∧ codeAny (model prog w) A c' R s') (fun e s' => R (.error e) s') s := by
  show wpAny _ A.in1 (do let old ← Builtin.List.listItems (.ref S); Builtin.List.listUpdate (.ref S) (fun _ => #[]); letGo old.toList.reverse; Builtin.List.listExtendWith (.ref S) (.ref I) .none) _ _ s
  refine wpAny_bind ?_
  unfold Builtin.List.listItems
  refine wpAny_bind (wpAny_seqItems hS rfl (wpAny_pure ?_))
  show wpAny _ A.in1 (updateSeq S (fun _ => #[]) >>= fun _ => letGo (#[] : Array Value).toList.reverse >>= fun _ => Builtin.List.listExtendWith (.ref S) (.ref I) .none) _ _ s
  refine wpAny_bind (wpAny_updateSeq hS rfl ?_)
  have hS₂ := Heap.get?_update_self (Obj.mapSeq (fun _ => (#[] : Array Value))) hS rfl
  have oth : ∀ b o, b ≠ S → s.heap.get? b = some o → (s.heap.update S (Obj.mapSeq (fun _ => (#[] : Array Value)))).get? b = some o :=
    fun b o hb e => (Heap.get?_update_other _ _ (Ne.symm hb)).trans e
  refine wpAny_bind (wpAny_letGo ?_)
  refine extend_filter (hn := hn) W hT S .none _ (W.frame 0 s _ s.toks hst (Nat.le_refl _) fun b hb o e => oth b o (fun h => hSf (h ▸ hb)) e) hSf hI hS₂ fun s' acc' c' hm hS' hacc => ?_
  exact hR s' acc' c' (Moved.trans W.gtrans ((Moved.refl W.grefl).then_heap (Nat.le_refl _) fun b o hb e => oth b o (fun h => hb (h ▸ List.mem_cons_self)) e) hm) hS' hacc
end

section
variable {prog : Program} {w : World} {A : Around} {E : Value → Shared → Prop} {s : Shared}
variable {I : Addr} {fp wr : List Addr} {G : Array GenState → Array GenState → Prop} {n : Nat} {P : Nat → Value → Prop} {St : Nat → Shared → Prop}

theorem call_list_filter {Q : Value → Shared → Prop} (W : WalksS prog w A.in1.in1 I fp wr G n P St) (hT : ∀ i s, St i s → s.TypeIs (.ref I) "filter") (hst : St 0 s) (hfp : ∀ b ∈ fp, b < s.heap.objs.size) (hI : I ∈ fp)
    (hQ : ∀ s' acc' c', Moved (s.heap.objs.size :: wr) G { s with heap := s.heap.push { cls := .type "list", data := .seq #[] } } s' →
      s'.heap.get? s.heap.objs.size = some { cls := .type "list", dict := none, data := .seq acc' c', slots := #[] } → ItemsOf P acc' n → Q (.ref s.heap.objs.size) s') (hn : n ≤ sizeLine) :
    wpAny (model prog w) A (call (.type "list") [.ref I]) Q E s := by
  have hSf : s.heap.objs.size ∉ fp := fun hm => Nat.lt_irrefl _ (hfp _ hm)
  refine callType_codes (Q₁ := fun obj s₁ => obj = .ref s.heap.objs.size ∧ s₁ = { s with heap := s.heap.push { cls := .type "list", data := .seq #[] } }) F.called_list (F.typeCall_list_1 _) F.entry_list_init
    (code_list_new _ ⟨rfl, rfl⟩) fun obj s₁ h₁ => ?_
  obtain ⟨rfl, rfl⟩ := h₁
  have hS : (s.heap.push { cls := .type "list", data := .seq #[] }).get? s.heap.objs.size = some { cls := .type "list", data := .seq #[] } := Heap.get?_push_size _ rfl
  refine ⟨⟨_, hS, rfl⟩, F.args_list_init_2 _ _, list_init_filter (hn := hn) W hT _ (W.frame 0 s _ s.toks hst (Nat.le_refl _) fun b _ o e => Heap.get?_push_of_some _ e) hSf hI hS fun s' acc' c' hm hS' hacc => ?_⟩
  exact ⟨rfl, hQ s' acc' c' hm hS' hacc⟩
end

section
variable {prog : Program} {w : World} {A : Around} {E : Value → Shared → Prop} {s : Shared} {h₀ h h' : Heap} {L : Addr} {m : Str → Option Value} {news : Led}

theorem fr_but (F : Fr h₀ L h m) {wr : List Addr} (k : ∀ b o, b ∉ wr → h.get? b = some o → h'.get? b = some o) (hL : L ∉ wr) (hw : ∀ b ∈ wr, h₀.get? b = none) : Fr h₀ L h' m :=
  ⟨F.ns.at' fun o e => k L o hL e, fun b o e => k b o (fun hb => by rw [hw b hb] at e; cases e) (F.keep b o e), F.above⟩
theorem news_but (N : News h₀ L h news) {wr : List Addr} (k : ∀ b o, b ∉ wr → h.get? b = some o → h'.get? b = some o) (hn : ∀ p ∈ news, p.1 ∉ wr) : News h₀ L h' news :=
  fun p hp => ⟨k _ _ (hn p hp) (N p hp).1, (N p hp).2⟩
theorem fresh_none (F : Fr h₀ L h m) {b : Addr} (hb : h.objs.size ≤ b) : h₀.get? b = none := by
  cases hq : h₀.get? b with
  | none => rfl
  | some o => exact absurd (Heap.lt_size (F.keep _ _ hq)) (Nat.not_lt.mpr hb)
theorem fresh_ne (F : Fr h₀ L h m) {b : Addr} (hb : h.objs.size ≤ b) : b ≠ L := by
  obtain ⟨oL, _, _, hL, _⟩ := F.ns
  exact fun e => absurd (Heap.lt_size hL) (Nat.not_lt.mpr (e ▸ hb))
theorem news_lt (N : News h₀ L h news) {p : Addr × Obj} (hp : p ∈ news) : p.1 < h.objs.size := Heap.lt_size (N p hp).1

theorem set_N {l : Addr} {ps : List (Str × Tok)} {nl : Nat} {Q : Value → Shared → Prop} (F : Fr h₀ L s.heap m) (N : News h₀ L s.heap news) (hm : (l, W.listOf (ps.map sv).toArray nl) ∈ news)
    (hh : A.handled = none) (hb : ps.length + 1 < scanBound)
    (h : ∀ a h' tk o c, Fr h₀ L h' m → News h₀ L h' ((a, o) :: news) → c ≤ ps.length → o.SetObjOf (PySem.strKind prog w) (fun k => (ps.map (·.1)).contains k) c → (∀ p ∈ news, p.1 < a) → Q (.ref a) { s with heap := h', toks := tk }) :
    wpAny (model prog w) A (call (.type "set") [.ref l]) Q E s := by
  refine call_set_strs hh (N _ hm).1 hb fun h' tk c hc hS hk => ?_
  obtain ⟨o, ho, hso⟩ := hS.objOf
  have hk' : ∀ b o, b ∉ ([] : List Addr) → s.heap.get? b = some o → h'.get? b = some o := fun b o _ e => hk b o (Heap.lt_size e) e
  refine h _ h' tk o c (fr_but F hk' (by simp) (by simp)) (fun p hp => ?_) hc hso fun p hp => news_lt N hp
  rcases List.mem_cons.mp hp with rfl | hp
  · exact ⟨ho, fresh_ne F (Nat.le_refl _), fresh_none F (Nat.le_refl _)⟩
  · exact news_but N hk' (by simp) p hp

theorem contains_N {S : Addr} {o : Obj} {St : Str → Bool} {n : Nat} {Q : Value → Shared → Prop} (F : Fr h₀ L s.heap m) (N : News h₀ L s.heap news) (hm : (S, o) ∈ news) (ho : o.SetObjOf (PySem.strKind prog w) St n)
    (h : ∀ a h', Fr h₀ L h' m → News h₀ L h' ((a, bmObj "set.__contains__" (.ref S)) :: news) → (∀ p ∈ news, p.1 < a) → Q (.ref a) { s with heap := h', toks := s.toks + 1 }) :
    wpAny (model prog w) A (getAttr (.ref S) (Str.ofString "__contains__") true) Q E s := by
  obtain ⟨⟨a1, a2, a3⟩, es, ep, t, hd, _⟩ := ho
  refine set_contains_attr (N _ hm).1 a1 a2 hd ?_
  exact h _ _ (F.push _) (N.push F _) fun p hp => news_lt N hp

theorem filter_N {q l : Addr} {items : Array Value} {nl : Nat} {Q : Value → Shared → Prop} (F : Fr h₀ L s.heap m) (N : News h₀ L s.heap news) (hm : (l, W.listOf items nl) ∈ news)
    (h : ∀ it fo h', Fr h₀ L h' m → News h₀ L h' ((fo, filterObj q it) :: (it, iterObj l) :: news) → (∀ p ∈ news, p.1 < it) → it < fo → Q (.ref fo) { s with heap := h' }) :
    wpAny (model prog w) A (call (.type "filter") [.ref q, .ref l]) Q E s := by
  refine call_filter (N _ hm).1 ?_
  have hz : (s.heap.push (iterObj l)).objs.size = s.heap.objs.size + 1 := Heap.size_push ..
  refine h s.heap.objs.size _ _ ((F.push _).push _) ?_ (fun p hp => news_lt N hp) (Nat.lt_succ_self _)
  have := News.push (F.push (iterObj l)) (N.push F (iterObj l)) (filterObj q s.heap.objs.size)
  rw [hz] at this
  exact this

set_option maxHeartbeats 1000000 in
theorem list_filter_N {fo it l q S : Addr} {o : Obj} {ps : List (Str × Tok)} {nl n : Nat} {p : Str → Bool} {Q : Value → Shared → Prop} (F : Fr h₀ L s.heap m)
    (N : News h₀ L s.heap ((fo, filterObj q it) :: (it, iterObj l) :: (q, bmObj "set.__contains__" (.ref S)) :: (S, o) :: news)) (ho : o.SetObjOf (PySem.strKind prog w) p n) (hm : (l, W.listOf (ps.map sv).toArray nl) ∈ news)
    (hlt' : ∀ r ∈ (q, bmObj "set.__contains__" (.ref S)) :: (S, o) :: news, r.1 < it) (h1 : it < fo) (hh : A.handled = none) (hz : ps.length ≤ sizeLine) (hn : n < scanBound)
    (h : ∀ a h' tk c, Fr h₀ L h' m → News h₀ L h' ((a, W.listOf ((ps.filter fun a => p a.1).map sv).toArray c) :: news) → (∀ r ∈ news, r.1 < a) → Q (.ref a) { s with heap := h', toks := tk }) :
    wpAny (model prog w) A (call (.type "list") [.ref fo]) Q E s := by
  have hlt : ∀ r ∈ news, r.1 < it := fun r hr => hlt' r (by simp [hr])
  have h2 : q < it := hlt' (q, bmObj "set.__contains__" (.ref S)) (by simp)
  have h3 : S < it := hlt' (S, o) (by simp)
  have Nfo := N (fo, filterObj q it) (by simp)
  have Nit := N (it, iterObj l) (by simp)
  have Nq := N (q, bmObj "set.__contains__" (.ref S)) (by simp)
  have NS := N (S, o) (by simp)
  have Nl := N (l, W.listOf (ps.map sv).toArray nl) (by simp [hm])
  have hl := hlt _ hm
  have e1 : fo ≠ it := Nat.ne_of_gt h1
  have e2 : l ≠ it := Nat.ne_of_lt hl
  have e3 : q ≠ it := Nat.ne_of_lt h2
  have e4 : S ≠ it := Nat.ne_of_lt h3
  refine call_list_filter ((walks_filter (prog := prog) (w := w) (A := A.in1.in1) (ps := ps) (nl := nl) (p := p) e1 e2 e3 e4 (by simpa using hh)).toS) ?_ ?_ ?_ (by simp) (fun s' acc' c' hm' hS' hacc => ?_) (Nat.le_trans (List.length_filter_le _ _) hz)
  · rintro i s' ⟨j, _, _, hF⟩
    exact ⟨_, hF.1, rfl⟩
  · exact ⟨0, Nat.zero_le _, rfl, Nfo.1, ⟨_, Nit.1, rfl, rfl⟩, Nl.1, Nq.1, n, ho.setOf NS.1 hn⟩
  · intro b hb
    simp only [List.mem_cons, List.not_mem_nil, or_false] at hb
    rcases hb with rfl | rfl | rfl | rfl | rfl
    · exact Heap.lt_size Nfo.1
    · exact Heap.lt_size Nit.1
    · exact Heap.lt_size Nl.1
    · exact Heap.lt_size Nq.1
    · exact Heap.lt_size NS.1
  · obtain ⟨h', g', d', tk', os'⟩ := s'
    have eg : g' = s.gens := hm'.gens
    have ed : d' = s.drawn := hm'.drawn
    have eo : os' = s.os := hm'.os
    subst eg; subst ed; subst eo
    have eacc : acc' = ((ps.filter fun a => p a.1).map sv).toArray := by
      apply Array.ext'
      apply List.ext_getElem?
      intro i
      have hs : acc'.toList.length = ((ps.filter fun a => p a.1).map sv).length := by
        rw [Array.length_toList, hacc.1, List.length_map]
      by_cases hi : i < acc'.toList.length
      · have h2 := hacc.2 i acc'.toList[i] (by rw [← Array.getElem?_toList]; exact List.getElem?_eq_getElem hi)
        rw [List.getElem?_eq_getElem hi, ← h2]
      · rw [List.getElem?_eq_none (by omega), List.getElem?_eq_none (by simp only; omega)]
    subst eacc
    have k : ∀ b o, b ∉ [s.heap.objs.size, it] → s.heap.get? b = some o → h'.get? b = some o := fun b o hb e =>
      hm'.heap b o hb (Heap.get?_push_of_some _ e)
    have Lne : L ∉ [s.heap.objs.size, it] := by
      simp only [List.mem_cons, List.not_mem_nil, or_false, not_or]
      exact ⟨Ne.symm (fresh_ne F (Nat.le_refl _)), Ne.symm Nit.2.1⟩
    have wne : ∀ b ∈ [s.heap.objs.size, it], h₀.get? b = none := by
      intro b hb
      simp only [List.mem_cons, List.not_mem_nil, or_false] at hb
      rcases hb with rfl | rfl
      · exact fresh_none F (Nat.le_refl _)
      · exact Nit.2.2
    refine h s.heap.objs.size h' tk' c' (fr_but F k Lne wne) (fun r hr => ?_) fun r hr => Heap.lt_size (N r (by simp [hr])).1
    rcases List.mem_cons.mp hr with rfl | hr
    · exact ⟨hS', fresh_ne F (Nat.le_refl _), fresh_none F (Nat.le_refl _)⟩
    · have Nr := N r (by simp [hr])
      refine ⟨k _ _ ?_ Nr.1, Nr.2⟩
      simp only [List.mem_cons, List.not_mem_nil, or_false, not_or]
      exact ⟨Nat.ne_of_lt (Heap.lt_size Nr.1), Nat.ne_of_lt (hlt r hr)⟩
end
end Mine
end

section
open PySem PySem.W PyProof.Rows
set_option Elab.async false
set_option maxRecDepth 100000
namespace Mine

/-- a goal that the walk leaves alone -/
def Halt (P : Prop) : Prop := P
theorem Halt.go {P : Prop} (h : P) : Halt P := h

abbrev rangeObj (a b c : Int) (t u v : Tok) : Obj := { cls := .type "range", data := .fields #[.int a t, .int b u, .int c v] }

def LoopR (prog : Program) (w : World) (A : Around) (env : Env) (x : Str) (px : Pos) (body : List Stmt) (Q : Flow → Shared → Prop) (it : Value) (s₂ : Shared) : Prop :=
  codeAny (model prog w) A (.forLoop (.Name x px) it body [] env) (fun r s' => match r with | .ok f => Q f s' | .error _ => False) s₂

/-- the end of a turn -/
def TurnEnd (h₀ : Heap) (L : Addr) (wr : List Addr) (own : Led) (J : (Str → Option Value) → Led → Prop) (s : Shared) (Q : Flow → Shared → Prop) (f : Flow) (s₂ : Shared) : Prop :=
  match f with
  | .ret v => Q (.ret v) s₂
  | .brk => Q .next s₂
  | _ => ∃ h' tk' m' nw', s₂ = { s with heap := h', toks := tk' } ∧ Fr h₀ L h' m' ∧ News h₀ L h' (nw' ++ own) ∧ (∀ p ∈ nw', p.1 ∉ wr) ∧ J m' nw'

section
variable {prog : Program} {w : World} {A : Around} {E : Value → Shared → Prop} {s : Shared} {env : Env} {h₀ : Heap} {L : Addr} {m : Str → Option Value} {nw : Led} {x : Str} {px : Pos} {body : List Stmt} {Q : Flow → Shared → Prop}

theorem TurnEnd.ret {wr : List Addr} {own : Led} {J : (Str → Option Value) → Led → Prop} {v : Value} {s₂ : Shared} (h : Q (.ret v) s₂) : TurnEnd h₀ L wr own J s Q (.ret v) s₂ := h
theorem TurnEnd.next {wr : List Addr} {own : Led} {J : (Str → Option Value) → Led → Prop} {h' : Heap} {tk' : Nat} {m' : Str → Option Value} {all : Led} (nw' : Led) (F : Fr h₀ L h' m') (N : News h₀ L h' all) (hs : ∀ p ∈ nw' ++ own, p ∈ all)
    (hw : ∀ p ∈ nw', p.1 ∉ wr) (hj : J m' nw') : TurnEnd h₀ L wr own J s Q .next { s with heap := h', toks := tk' } :=
  ⟨h', tk', m', nw', rfl, F, fun p hp => N p (hs p hp), hw, hj⟩

theorem News.nilA {h : Heap} (N : News h₀ L h ([] ++ nw)) : News h₀ L h nw := N
theorem fr_known {h : Heap} {y : Str} {v : Value} (F : Fr h₀ L h m) (e : m y = some v) : Fr h₀ L h (fun z => if z = y then some v else m z) := by
  have : (fun z => if z = y then some v else m z) = m := by
    funext z
    by_cases hz : z = y
    · subst hz; simp [e]
    · simp [hz]
  rw [this]; exact F

theorem lookup_known {m : Str → Option Value} {z : Str} {v : Value} : ∀ {ks : List (Str × Value)}, (∀ p ∈ ks, m p.1 = some p.2) → ks.lookup z = some v → m z = some v
  | [], _, h => by simp at h
  | (k, u) :: r, hk, h => by
    simp only [List.lookup_cons] at h
    split at h
    · rename_i e
      have e' : z = k := by simpa using e
      cases h
      rw [e']; exact hk (k, _) (List.mem_cons_self ..)
    · exact lookup_known (fun p hp => hk p (List.mem_cons_of_mem _ hp)) h
theorem fr_knowns {h : Heap} (ks : List (Str × Value)) (F : Fr h₀ L h m) (e : ∀ p ∈ ks, m p.1 = some p.2) : Fr h₀ L h (fun z => (ks.lookup z).or (m z)) := by
  have : (fun z => (ks.lookup z).or (m z)) = m := by
    funext z
    cases hl : ks.lookup z with
    | none => rfl
    | some v => rw [lookup_known e hl]; rfl
  rw [this]; exact F

theorem For_my {iter : Expr} {pos : Pos}
    (h : wpAny (model prog w) A (eval iter env) (fun xv s₁ => Halt (wpAny (model prog w) A (pyIter xv) (fun it s₂ => LoopR prog w A env x px body Q it s₂) E s₁)) E s)
    (hs : ∀ x, foldedSetIterable iter env x = pure x := by intro _; rfl) :
    wpAny (model prog w) A (exec (.For (.Name x px) iter body [] pos) env) Q E s := by
  refine wpAny_For (wpAny_mono h (fun xv s₁ h₁ => wpAny_mono (show wpAny _ _ _ _ _ _ from h₁) (fun it s₂ h₂ => ?_) fun _ _ e => e) fun _ _ e => e) hs
  refine codeAny_mono h₂ fun r s' hr => ?_
  cases r with
  | ok f => exact hr
  | error e => exact hr.elim

theorem loop_walk {I : Addr} {fp wr : List Addr} {n : Nat} {P : Nat → Value → Prop} {St : Nat → Heap → Prop} (W : Walks prog w A I fp wr n P St) (J : Nat → (Str → Option Value) → Led → Prop)
    (hL : L ∉ fp) (hwr : ∀ b ∈ wr, h₀.get? b = none) (hst : St 0 s.heap) (F : Fr h₀ L s.heap m) (N : News h₀ L s.heap nw) (hnw : ∀ p ∈ nw, p.1 ∉ wr) (h0 : J 0 m nw)
    (step : ∀ i v m₁ nw₁ own h tk, i < n → P i v → J i m₁ nw₁ → (∀ p ∈ nw₁, p.1 ∉ wr) → (∀ b ∈ fp, h₀.get? b = none → ∀ o, h.get? b = some o → (b, o) ∈ own) → (∀ p ∈ own, p.1 ∈ fp) → Fr h₀ L h m₁ → News h₀ L h (nw₁ ++ own) → St (i + 1) h →
      wpAny (model prog w) A (storeName env x v) (fun _ s₂ => wpAny (model prog w) A (execs body env) (TurnEnd h₀ L wr own (J (i + 1)) s Q) (fun _ _ => False) s₂) (fun _ _ => False) { s with heap := h, toks := tk })
    (done : ∀ m₁ nw₁ h tk, J n m₁ nw₁ → Fr h₀ L h m₁ → News h₀ L h nw₁ → Q .next { s with heap := h, toks := tk }) :
    LoopR prog w A env x px body Q (.ref I) s := by
  have hLw : L ∉ wr := fun h => hL (W.sub _ h)
  unfold LoopR
  refine codeAny_forLoop
    (fun k s' => ∃ h' tk m' nw' i, s' = { s with heap := h', toks := tk } ∧ St i h' ∧ Fr h₀ L h' m' ∧ News h₀ L h' nw' ∧ (∀ p ∈ nw', p.1 ∉ wr) ∧ J i m' nw' ∧ i ≤ n ∧ k = n + 1 - i) ?_ (n + 1)
    ⟨s.heap, s.toks, m, nw, 0, rfl, hst, F, N, hnw, h0, Nat.zero_le _, rfl⟩
  rintro k s' ⟨h', tk, m', nw', i, rfl, hst', F', N', hnw', hJ, hi, rfl⟩
  by_cases hlt : i < n
  · refine W.item i _ _ _ hlt hst' fun v h₁ tk₁ hP hst₁ hk₁ => ?_
    have F₁ : Fr h₀ L h₁ m' := fr_but F' hk₁ hLw hwr
    have N₁ : News h₀ L h₁ nw' := news_but N' hk₁ hnw'
    have Nown : News h₀ L h₁ (ownOf h₀ fp h₁) := news_ownOf hL
    have N₂ : News h₀ L h₁ (nw' ++ ownOf h₀ fp h₁) := fun p hp => (List.mem_append.mp hp).elim (N₁ p) (Nown p)
    refine wpAny_mono (wpAny_assign_Name (step i v m' nw' (ownOf h₀ fp h₁) h₁ tk₁ hlt hP hJ hnw' (fun b hb hn o e => mem_ownOf hb hn e) ownOf_sub F₁ N₂ hst₁)) (fun _ s₂ h₂ => ?_) fun _ _ f => f.elim
    refine wpAny_mono h₂ (fun f s₃ h₃ => ?_) fun _ _ f => f.elim
    have next : (∃ h' tk' m' nw', s₃ = { s with heap := h', toks := tk' } ∧ Fr h₀ L h' m' ∧ News h₀ L h' (nw' ++ ownOf h₀ fp h₁) ∧ (∀ p ∈ nw', p.1 ∉ wr) ∧ J (i + 1) m' nw') →
        ∃ m_1, m_1 < n + 1 - i ∧ ∃ h' tk m' nw' i, s₃ = { s with heap := h', toks := tk } ∧ St i h' ∧ Fr h₀ L h' m' ∧ News h₀ L h' nw' ∧ (∀ p ∈ nw', p.1 ∉ wr) ∧ J i m' nw' ∧ i ≤ n ∧ m_1 = n + 1 - i := by
      rintro ⟨h₃', tk₃, m₃, nw₃, e, F₃, N₃, hw₃, hJ₃⟩
      refine ⟨n + 1 - (i + 1), by omega, h₃', tk₃, m₃, nw₃, i + 1, e, ?_, F₃, fun p hp => N₃ p (List.mem_append_left _ hp), hw₃, hJ₃, hlt, rfl⟩
      refine W.frame _ _ _ hst₁ fun b hb o e => ?_
      cases hn : h₀.get? b with
      | some o₀ =>
        have : o₀ = o := by have := F₁.keep b o₀ hn; rw [e] at this; exact (Option.some.inj this).symm
        exact this ▸ F₃.keep b o₀ hn
      | none => exact (N₃ _ (List.mem_append_right _ (mem_ownOf hb hn e))).1
    cases f with
    | ret v => exact h₃
    | brk => exact h₃
    | cont => exact next h₃
    | next => exact next h₃
  · have hin : i = n := by omega
    subst hin
    refine W.done _ _ _ hst' fun h₁ tk₁ hk₁ => wpAny_execs_nil ?_
    exact done m' nw' h₁ tk₁ hJ (fr_but F' hk₁ hLw hwr) (news_but N' hk₁ hnw')

/-- a list's iterator, the list itself told to the sign -/
theorem walks_listX (hh : A.handled = none) (I l : Addr) (hne : l ≠ I) (vs : List Value) (nl : Nat) :
    Walks prog w A I [I, l] [I] vs.length (fun i v => vs[i]? = some v) (fun i h => h.IsListIter I l i ∧ h.get? l = some (W.listOf vs.toArray nl)) where
  sub := fun b hb => by simp at hb; simp [hb]
  frame := fun _ _ _ st hk => ⟨st.1.at fun o e => hk I (by simp) o e, hk l (by simp) _ st.2⟩
  item := fun i s Q E hi st hQ => by
    refine wpAny_pyNext_list_item st.1 ⟨_, st.2, rfl, nl, rfl⟩ (x := vs[i]) (by simp [hi]) fun h' hit' hs' => ?_
    exact hQ _ h' s.toks (by simp [hi]) ⟨hit', hs'.extBut l _ hne st.2⟩ fun b o hb e => hs'.extBut b o (fun h => hb (by simp [h])) e
  done := fun s Q E st hQ => wpAny_pyNext_list_end hh st.1 ⟨_, st.2, rfl, nl, rfl⟩ (by simp) fun h' he' => hQ h' s.toks fun b o hb e => he' b o (fun h => hb (by simp [h])) e
  self := fun _ _ _ _ st hQ => wpAny_pyIter_listiter st.1 hQ

/-- a loop over a list of the ledger -/
theorem loop_list {l : Addr} {vs : List Value} {nl : Nat} (J : Nat → (Str → Option Value) → Led → Prop) (hh : A.handled = none) (F : Fr h₀ L s.heap m) (N : News h₀ L s.heap nw) (hm : (l, W.listOf vs.toArray nl) ∈ nw) (h0 : J 0 m nw)
    (step : ∀ i v m₁ nw₁ own I oI h tk, vs[i]? = some v → J i m₁ nw₁ → (∀ p ∈ nw₁, p.1 ≠ I) → (I, oI) ∈ own → (l, W.listOf vs.toArray nl) ∈ own → (∀ p ∈ own, p.1 = I ∨ p.1 = l) → Fr h₀ L h m₁ → News h₀ L h (nw₁ ++ own) →
      wpAny (model prog w) A (storeName env x v) (fun _ s₂ => wpAny (model prog w) A (execs body env) (TurnEnd h₀ L [I] own (J (i + 1)) s Q) (fun _ _ => False) s₂) (fun _ _ => False) { s with heap := h, toks := tk })
    (done : ∀ m₁ nw₁ h tk, J vs.length m₁ nw₁ → Fr h₀ L h m₁ → News h₀ L h nw₁ → Q .next { s with heap := h, toks := tk }) :
    Halt (wpAny (model prog w) A (pyIter (.ref l)) (fun it s₂ => LoopR prog w A env x px body Q it s₂) E s) := by
  have hls : s.heap.IsList l vs.toArray := ⟨_, (N _ hm).1, rfl, nl, rfl⟩
  have hlt : l < s.heap.objs.size := Heap.lt_size (N _ hm).1
  show wpAny _ _ _ _ _ _
  refine wpAny_pyIter_list hls ?_
  have up : ∀ b o, s.heap.get? b = some o → (s.heap.push { cls := .type "list_iterator", data := .fields #[.ref l, .int 0 0] }).get? b = some o := fun b o e => Heap.get?_push_of_some _ e
  refine loop_walk (s := { s with heap := s.heap.push { cls := .type "list_iterator", data := .fields #[.ref l, .int 0 0] } }) (h₀ := h₀) (L := L) (walks_listX hh s.heap.objs.size l (Nat.ne_of_lt hlt) vs nl) J ?_ ?_ ⟨⟨_, Heap.get?_push_size _ rfl, rfl, rfl⟩, up _ _ (N _ hm).1⟩ (F.keeps up) (N.grown up) (fun p hp => ?_) h0 ?_ done
  · simp only [List.mem_cons, List.not_mem_nil, or_false, not_or]
    exact ⟨Nat.ne_of_lt F.ns.lt, fun e => (N _ hm).2.1 e.symm⟩
  · intro b hb
    rw [List.mem_singleton.mp hb]
    exact next_is_new F
  · simp only [List.mem_cons, List.not_mem_nil, or_false]
    exact Nat.ne_of_lt (Heap.lt_size (N p hp).1)
  · intro i v m₁ nw₁ own h tk hi hP hJ hw how hsub F₁ N₁ hst
    obtain ⟨⟨oI, hoI, _⟩, hol⟩ := hst
    refine step i v m₁ nw₁ own s.heap.objs.size oI h tk hP hJ (fun p hp => by simpa using hw p hp) (how _ (by simp) (next_is_new F) oI hoI) (how _ (by simp) (N _ hm).2.2 _ hol) (fun p hp => by simpa using hsub p hp) F₁ N₁

/-- a loop over a range of the ledger -/
theorem loop_range {r : Addr} {a b c : Int} {t u v : Tok} {n : Nat} (J : Nat → (Str → Option Value) → Led → Prop) (hh : A.handled = none) (F : Fr h₀ L s.heap m) (N : News h₀ L s.heap nw) (hm : (r, rangeObj a b c t u v) ∈ nw)
    (hsm : Builtin.Range.small a b c = true) (hn : Builtin.Range.rangeSize a b c = (n : Int)) (h0 : J 0 m nw)
    (step : ∀ i t m₁ nw₁ own I oI h tk, i < n → J i m₁ nw₁ → (∀ p ∈ nw₁, p.1 ≠ I) → (I, oI) ∈ own → (∀ p ∈ own, p.1 = I) → Fr h₀ L h m₁ → News h₀ L h (nw₁ ++ own) →
      wpAny (model prog w) A (storeName env x (.int (a + (i : Int) * c) t)) (fun _ s₂ => wpAny (model prog w) A (execs body env) (TurnEnd h₀ L [I] own (J (i + 1)) s Q) (fun _ _ => False) s₂) (fun _ _ => False) { s with heap := h, toks := tk })
    (done : ∀ m₁ nw₁ h tk, J n m₁ nw₁ → Fr h₀ L h m₁ → News h₀ L h nw₁ → Q .next { s with heap := h, toks := tk }) :
    Halt (wpAny (model prog w) A (pyIter (.ref r)) (fun it s₂ => LoopR prog w A env x px body Q it s₂) E s) := by
  show wpAny _ _ _ _ _ _
  refine wpAny_pyIter_range (show IsRange s.heap r a b c t u v from (N _ hm).1) hsm ?_
  have up : ∀ b' o, s.heap.get? b' = some o → (s.heap.push { cls := .type "range_iterator", data := .fields #[rawInt a, rawInt (Builtin.Range.rangeSize a b c), rawInt c] }).get? b' = some o := fun b' o e => Heap.get?_push_of_some _ e
  refine loop_walk (s := { s with heap := s.heap.push { cls := .type "range_iterator", data := .fields #[rawInt a, rawInt (Builtin.Range.rangeSize a b c), rawInt c] } }) (h₀ := h₀) (L := L) (Walks.range hh s.heap.objs.size a c n) J ?_ ?_ ?_ (F.keeps up) (N.grown up) (fun p hp => ?_) h0 ?_ done
  · simp only [List.mem_cons, List.not_mem_nil, or_false]
    exact Nat.ne_of_lt F.ns.lt
  · intro b hb
    rw [List.mem_singleton.mp hb]
    exact next_is_new F
  · show IsRangeIter _ _ _ _ _
    rw [hn]
    simpa using Heap.get?_push_size _ rfl
  · simp only [List.mem_cons, List.not_mem_nil, or_false]
    exact Nat.ne_of_lt (Heap.lt_size (N p hp).1)
  · intro i v m₁ nw₁ own h tk hi hP hJ hw how hsub F₁ N₁ hst
    obtain ⟨t', rfl⟩ := hP
    exact step i t' m₁ nw₁ own s.heap.objs.size _ h tk hi hJ (fun p hp => by simpa using hw p hp) (how _ (by simp) (next_is_new F) _ hst) (fun p hp => by simpa using hsub p hp) F₁ N₁

theorem range1_N {b : Int} {u : Tok} {Q : Value → Shared → Prop} (F : Fr h₀ L s.heap m) (N : News h₀ L s.heap nw)
    (h : ∀ r h' tk t v, Fr h₀ L h' m → News h₀ L h' ((r, rangeObj 0 b 1 t u v) :: nw) → (∀ p ∈ nw, p.1 < r) → Q (.ref r) { s with heap := h', toks := tk }) :
    wpAny (model prog w) A (call (.type "range") [.int b u]) Q E s :=
  call_range_1 (h _ _ _ _ _ (F.push _) (N.push F _) fun p hp => news_lt N hp)
theorem range2_N {a b : Int} {t u : Tok} {Q : Value → Shared → Prop} (F : Fr h₀ L s.heap m) (N : News h₀ L s.heap nw)
    (h : ∀ r h' tk v, Fr h₀ L h' m → News h₀ L h' ((r, rangeObj a b 1 t u v) :: nw) → (∀ p ∈ nw, p.1 < r) → Q (.ref r) { s with heap := h', toks := tk }) :
    wpAny (model prog w) A (call (.type "range") [.int a t, .int b u]) Q E s :=
  call_range_2 (h _ _ _ _ (F.push _) (N.push F _) fun p hp => news_lt N hp)
theorem range3_N {a b c : Int} {t u v : Tok} {Q : Value → Shared → Prop} (F : Fr h₀ L s.heap m) (N : News h₀ L s.heap nw) (hc : c ≠ 0) (hp : Builtin.divisionGoesByPylong (b - a) c = false)
    (h : ∀ r h', Fr h₀ L h' m → News h₀ L h' ((r, rangeObj a b c t u v) :: nw) → (∀ p ∈ nw, p.1 < r) → Q (.ref r) { s with heap := h', toks := s.toks }) :
    wpAny (model prog w) A (call (.type "range") [.int a t, .int b u, .int c v]) Q E s :=
  call_range_3 hc (h _ _ (F.push _) (N.push F _) fun p hp => news_lt N hp) (.inl hp)
end
end Mine
end

section
open PySem PySem.W PyProof.Rows
set_option Elab.async false
set_option maxRecDepth 100000
namespace Mine
theorem strsAre_sv : ∀ ps : List (Str × Tok), StrsAre (ps.map sv) (ps.map (·.1))
  | [] => .nil
  | p :: r => .cons p.1 p.2 (strsAre_sv r)
section
variable {prog : Program} {w : World} {A : Around} {E : Value → Shared → Prop} {s : Shared} {h₀ : Heap} {L : Addr} {news : Led}
theorem any_eq_mem (ys : List Str) (k : Str) : ys.any (· == k) = decide (k ∈ ys) := by
  rw [Bool.eq_iff_iff]; simp
theorem in_N {l : Addr} {ps : List (Str × Tok)} {nl : Nat} {k : Str} {t : Tok} {Q : Value → Shared → Prop} (N : News h₀ L s.heap news) (hm : (l, W.listOf (ps.map sv).toArray nl) ∈ news)
    (h : Q (.bool (decide (k ∈ ps.map (·.1)))) s) : wpAny (model prog w) A (compareOp .In (.str k t) (.ref l)) Q E s :=
  in_list_strs ⟨_, (N _ hm).1, rfl, nl, rfl⟩ (strsAre_sv ps) (by rw [any_eq_mem]; exact h)
theorem notin_N {l : Addr} {ps : List (Str × Tok)} {nl : Nat} {k : Str} {t : Tok} {Q : Value → Shared → Prop} (N : News h₀ L s.heap news) (hm : (l, W.listOf (ps.map sv).toArray nl) ∈ news)
    (h : Q (.bool (!decide (k ∈ ps.map (·.1)))) s) : wpAny (model prog w) A (compareOp .NotIn (.str k t) (.ref l)) Q E s :=
  notin_list_strs ⟨_, (N _ hm).1, rfl, nl, rfl⟩ (strsAre_sv ps) (by rw [any_eq_mem]; exact h)
end
abbrev five : List Str := [Str.ofString "fig", Str.ofString "Fig", Str.ofString "ig", Str.ofString "*", Str.ofString "plum"]
def appl (fits : List Str) (ps : List (Str × Tok)) : Bool := ps.any fun p => fits.contains p.1
theorem appl_true {fits : List Str} {ps : List (Str × Tok)} {i : Nat} {qa : Str} {qt : Tok} (h : ps[i]? = some (qa, qt)) (hq : fits.contains qa = true) : appl fits ps = true :=
  List.any_eq_true.mpr ⟨(qa, qt), List.mem_of_getElem? h, hq⟩
theorem appl_false {fits : List Str} {ps : List (Str × Tok)} (h : ∀ p ∈ ps, fits.contains p.1 = false) : appl fits ps = false := by
  unfold appl
  rw [List.any_eq_false]
  intro p hp
  rw [h p hp]
  exact Bool.false_ne_true
theorem take_step {fits : List Str} {ps : List (Str × Tok)} {i : Nat} {qa : Str} {qt : Tok} (hno : ∀ p ∈ ps.take i, fits.contains p.1 = false) (h : ps[i]? = some (qa, qt)) (hq : fits.contains qa = false) : ∀ p ∈ ps.take (i + 1), fits.contains p.1 = false := by
  intro p hp
  rw [List.take_add_one, h] at hp
  rcases List.mem_append.mp hp with hp | hp
  · exact hno p hp
  · simp only [Option.toList_some, List.mem_singleton] at hp
    rw [hp]; exact hq
section
variable {prog : Program} {w : World} {A : Around} {E : Value → Shared → Prop} {s : Shared} {h₀ : Heap} {L : Addr} {m : Str → Option Value} {news : Led}
theorem split_T {x y f : Str} {rest : List Str} {t u : Tok} {Q : Value → Shared → Prop} (F : Fr h₀ L s.heap m) (N : News h₀ L s.heap news) (e : Txt.split x y = f :: rest) (hy : (y.length == 0) = false) (hz : x.length + 2 ≤ sizeLine)
    (h : ∀ D tf vs h' tk, Fr h₀ L h' m → News h₀ L h' ((D, W.listOf (Value.str f tf :: vs).toArray 0) :: news) → (∀ p ∈ news, p.1 < D) → Q (.ref D) { s with heap := h', toks := tk }) :
    wpAny (model prog w) A (call (.builtin "str.split") [.str x t, .str y u]) Q E s := by
  refine KSpl.split1 F N hy (fun D l h' k e' _ F' N' hl => ?_) hz
  rw [e] at e'
  cases l with
  | nil => cases e'
  | cons p r =>
    rw [List.map_cons, List.cons.injEq] at e'
    refine h D p.2 (r.map sv) h' k F' ?_ hl
    rw [← e'.1]; exact N'
theorem first_T {value slice : Expr} {l : Addr} {v : Value} {vs : List Value} {nl : Nat} {u : Tok} {Q : Value → Shared → Prop} (N : News h₀ L s.heap news) (hm : (l, W.listOf (v :: vs).toArray nl) ∈ news) (h : Q v s)
    (hs : subscripted slice false (.ref l) (.int 0 u) = operate [.ref l, .int 0 u] (getItem (.ref l) (.int 0 u)) := by with_unfolding_all rfl) :
    wpAny (model prog w) A (subscriptTail value slice (.ref l) (.int 0 u)) Q E s := by
  have hl : s.heap.IsList l (v :: vs).toArray := ⟨_, (N _ hm).1, rfl, nl, rfl⟩
  exact tail_any hl.typeIs slot_list_getitem.lookup (wpAny_getItem_list hl (Int.le_refl 0) (by decide) rfl h) hs
theorem lower_T {x : Str} {t : Tok} {Q : Value → Shared → Prop} (hx : x.length ≤ 5592405) (h : ∀ t' tk', Q (.str (Txt.lower x) t') { s with toks := tk' }) : wpAny (model prog w) A (call (.builtin "str.lower") [.str x t]) Q E s :=
  SCL.lower hx fun _ => h _ _
end
theorem fit_no {q z : Str} {b c : Bool} (h : q ≠ z → b = !c) (h1 : (q != z) = true) (h2 : b = true) : c = false := by
  have := h (bne_iff_ne.mp h1)
  rw [h2] at this
  cases c with
  | false => rfl
  | true => cases this
theorem fit_yes {q z : Str} {b c : Bool} (h : q ≠ z → b = !c) (h1 : (q != z) = true) (h2 : b = false) : c = true := by
  have := h (bne_iff_ne.mp h1)
  rw [h2] at this
  cases c with
  | true => rfl
  | false => cases this
theorem fit_star {fits : List Str} {q z : Str} (h : fits.contains z = false) (h1 : (q != z) = false) : fits.contains q = false := by
  have e : q = z := by simpa using h1
  rw [e]; exact h
theorem five_short : ∀ q ∈ five, q.length ≤ 5592405 := by
  intro q hq
  simp only [five, List.mem_cons, List.not_mem_nil, or_false] at hq
  rcases hq with rfl | rfl | rfl | rfl | rfl
  all_goals decide +kernel
end Mine
end

section
open PySem PySem.W PyProof.Rows
set_option Elab.async false
set_option maxRecDepth 100000
namespace Mine
def WEnd (h₀ : Heap) (L : Addr) (J : Nat → (Str → Option Value) → Led → Prop) (k : Nat) (s : Shared) (Q : Flow → Shared → Prop) (f : Flow) (s₂ : Shared) : Prop :=
  match f with
  | .ret v => Q (.ret v) s₂
  | .brk => Q .next s₂
  | _ => ∃ k' h' tk' m' nw', k' < k ∧ s₂ = { s with heap := h', toks := tk' } ∧ Fr h₀ L h' m' ∧ News h₀ L h' nw' ∧ J k' m' nw'
section
variable {prog : Program} {w : World} {A : Around} {E : Value → Shared → Prop} {s : Shared} {env : Env} {h₀ : Heap} {L : Addr} {m : Str → Option Value} {nw : Led} {body : List Stmt} {Q : Flow → Shared → Prop}
theorem WEnd.next {J : Nat → (Str → Option Value) → Led → Prop} {k : Nat} {h' : Heap} {tk' : Nat} {m' : Str → Option Value} {nw' : Led} (k' : Nat) (hk : k' < k) (F : Fr h₀ L h' m') (N : News h₀ L h' nw') (hj : J k' m' nw') : WEnd h₀ L J k s Q .next { s with heap := h', toks := tk' } :=
  ⟨k', h', tk', m', nw', hk, rfl, F, N, hj⟩
theorem While_my {test : Expr} {pos : Pos} (J : Nat → (Str → Option Value) → Led → Prop) (k₀ : Nat) (F : Fr h₀ L s.heap m) (N : News h₀ L s.heap nw) (h0 : J k₀ m nw)
    (turn : ∀ k m₁ nw₁ h tk, J k m₁ nw₁ → Fr h₀ L h m₁ → News h₀ L h nw₁ →
      wpAny (model prog w) A (isTrue test env (eval test env)) (fun b s₂ => if b = true then wpAny (model prog w) A (execs body env) (WEnd h₀ L J k s Q) (fun _ _ => False) s₂ else Q .next s₂) (fun _ _ => False) { s with heap := h, toks := tk }) :
    wpAny (model prog w) A (exec (.While test body [] pos) env) Q E s := by
  refine wpAny_While ?_
  refine codeAny_whileLoop (fun k s' => ∃ h' tk m' nw', s' = { s with heap := h', toks := tk } ∧ Fr h₀ L h' m' ∧ News h₀ L h' nw' ∧ J k m' nw') ?_ k₀ ⟨s.heap, s.toks, m, nw, rfl, F, N, h0⟩
  rintro k s' ⟨h', tk, m', nw', rfl, F', N', hJ⟩
  refine wpAny_mono (turn k m' nw' h' tk hJ F' N') (fun b s₂ h₂ => ?_) fun _ _ f => f.elim
  cases b with
  | false => exact wpAny_execs_nil (by simpa using h₂)
  | true =>
    simp only [if_true] at h₂ ⊢
    refine wpAny_mono h₂ (fun f s₃ h₃ => ?_) fun _ _ f => f.elim
    have next : (∃ k' h' tk' m' nw', k' < k ∧ s₃ = { s with heap := h', toks := tk' } ∧ Fr h₀ L h' m' ∧ News h₀ L h' nw' ∧ J k' m' nw') →
        ∃ m, m < k ∧ ∃ h' tk m' nw', s₃ = { s with heap := h', toks := tk } ∧ Fr h₀ L h' m' ∧ News h₀ L h' nw' ∧ J m m' nw' := fun ⟨k', h', tk', m', nw', hk, e, F, N, j⟩ => ⟨k', hk, h', tk', m', nw', e, F, N, j⟩
    cases f with
    | ret v => exact h₃
    | brk => exact h₃
    | cont => exact next h₃
    | next => exact next h₃
end
section
variable {prog : Program} {w : World} {A : Around} {E : Value → Shared → Prop} {s : Shared} {h₀ : Heap} {L : Addr} {news : Led} {value slice : Expr}
theorem item_N {l : Addr} {vs : List Value} {nl : Nat} {k : Int} {u : Tok} {v : Value} {Q : Value → Shared → Prop} (N : News h₀ L s.heap news) (hm : (l, W.listOf vs.toArray nl) ∈ news)
    (h0 : 0 ≤ k) (hx : vs[k.toNat]? = some v) (hz : vs.length ≤ 1000) (h : Q v s)
    (hs : subscripted slice false (.ref l) (.int k u) = operate [.ref l, .int k u] (getItem (.ref l) (.int k u)) := by with_unfolding_all rfl) :
    wpAny (model prog w) A (subscriptTail value slice (.ref l) (.int k u)) Q E s := by
  have hl : s.heap.IsList l vs.toArray := ⟨_, (N _ hm).1, rfl, nl, rfl⟩
  have hlt := (List.getElem?_eq_some_iff.mp hx).1
  exact tail_any hl.typeIs slot_list_getitem.lookup (wpAny_getItem_list hl h0 (by omega) (by simpa using hx) h) hs
theorem len_M {α : Type} {f : α → Value} {l : Addr} {xs : List α} {nl : Nat} {Q : Value → Shared → Prop} (N : News h₀ L s.heap news) (hm : (l, W.listOf (xs.map f).toArray nl) ∈ news) (hz : xs.length ≤ 1000)
    (h : ∀ t tk, Q (.int (xs.length : Int) t) { s with toks := tk }) : wpAny (model prog w) A (call (.builtin "len") [.ref l]) Q E s := by
  have e : (xs.map f).toArray.size = xs.length := by simp
  refine len_list ⟨_, (N _ hm).1, rfl, nl, rfl⟩ (by rw [e]; omega) ?_
  rw [e]; exact h _ _
theorem halt_of {P : Prop} (h : Halt P) : P := h
theorem item_I {l : Addr} {ns : List (Int × Tok)} {nl : Nat} {k : Int} {u : Tok} {Q : Value → Shared → Prop} (N : News h₀ L s.heap news) (hm : (l, W.listOf (ns.map iv).toArray nl) ∈ news)
    (h0 : 0 ≤ k) (hx : k < (ns.length : Int)) (hz : ns.length ≤ 1000) (h : Q (.int (ns.getD k.toNat (0, 0)).1 (ns.getD k.toNat (0, 0)).2) s)
    (hs : subscripted slice false (.ref l) (.int k u) = operate [.ref l, .int k u] (getItem (.ref l) (.int k u)) := by with_unfolding_all rfl) :
    wpAny (model prog w) A (subscriptTail value slice (.ref l) (.int k u)) Q E s := by
  have hlt : k.toNat < ns.length := by omega
  refine item_N (v := iv (ns.getD k.toNat (0, 0))) N hm h0 ?_ (by simpa using hz) h hs
  rw [List.getElem?_map, List.getD_eq_getElem?_getD, List.getElem?_eq_getElem hlt]
  rfl
theorem item_R {l : Addr} {rs : List Addr} {nl : Nat} {k : Int} {u : Tok} {Q : Value → Shared → Prop} (N : News h₀ L s.heap news) (hm : (l, W.listOf (rs.map Value.ref).toArray nl) ∈ news)
    (h0 : 0 ≤ k) (hx : k < (rs.length : Int)) (hz : rs.length ≤ 1000) (h : Q (.ref (rs.getD k.toNat 0)) s)
    (hs : subscripted slice false (.ref l) (.int k u) = operate [.ref l, .int k u] (getItem (.ref l) (.int k u)) := by with_unfolding_all rfl) :
    wpAny (model prog w) A (subscriptTail value slice (.ref l) (.int k u)) Q E s := by
  have hlt : k.toNat < rs.length := by omega
  refine item_N (v := .ref (rs.getD k.toNat 0)) N hm h0 ?_ (by simpa using hz) h hs
  rw [List.getElem?_map, List.getD_eq_getElem?_getD, List.getElem?_eq_getElem hlt]
  rfl
end
end Mine
end

section
open PySem PySem.W PyProof.Rows
set_option Elab.async false
set_option maxRecDepth 100000
namespace Mine
theorem via_val {M : Model} {A : Around} {t : Sem Value} {Q E : Value → Shared → Prop} {s : Shared} (v : Value) (h : ∀ Q' : Value → Shared → Prop, (∀ tk', Q' v { s with toks := tk' }) → wpAny M A t Q' E s) (k : ∀ tk', Q v { s with toks := tk' }) : wpAny M A t Q E s := h Q k
end Mine
end

section
open PySem PySem.W PyProof.Rows
set_option Elab.async false
set_option maxRecDepth 100000
namespace Mine
theorem binds_peek {K : Frag} {s : Shared} {fd : FuncData} {args : Args} {binds : List (Str × Value)} (X : K.In s.heap) (e : ∀ S : Setting, peek K S (bindArgs fd args) = some binds) : BindsTo s fd args binds :=
  fun _ _ _ _ hq => (Looks.of_peek X (e _)).here hq
theorem half (lo hi : Nat) : ∃ mid : Nat, ((lo : Int) + (hi : Int)).fdiv 2 = (mid : Int) ∧ mid = (lo + hi) / 2 := by
  refine ⟨(lo + hi) / 2, ?_, rfl⟩
  rw [Int.fdiv_eq_ediv_of_nonneg _ (by decide)]
  omega
theorem some_int {a b : Int} {t : Tok} (h : a = b) : some (Value.int a t) = some (Value.int b t) := by rw [h]
theorem sorted_le {ns : List (Int × Tok)} (hs : (ns.map (·.1)).Pairwise (· ≤ ·)) {i j : Nat} (hij : i ≤ j) (hj : j < ns.length) : (ns.getD i (0, 0)).1 ≤ (ns.getD j (0, 0)).1 := by
  have hi : i < ns.length := by omega
  simp only [List.getD_eq_getElem?_getD, List.getElem?_eq_getElem hi, List.getElem?_eq_getElem hj, Option.getD_some]
  by_cases e : i = j
  · subst e; exact Int.le_refl _
  · have := List.pairwise_iff_getElem.mp hs i j (by simpa using hi) (by simpa using hj) (by omega)
    simpa using this
end Mine
end

section
open PySem PySem.W PyProof.Rows
set_option Elab.async false
set_option maxRecDepth 100000
namespace Mine
theorem Ctr.use {w : World} {mg mb : Str → Option Value} {mean : ExcName → Option Value} {loose : List Str} {tp : Program} {dep uni : Nat} {tree : Sem Value} {P : Led → Prop} {Post : Led → Value → Prop} (C : Ctr w mg mb mean loose tp dep uni tree P Post)
    {dp un : Nat} {gd : Option (List Code)} {cn : Str} {cs : Scope} {a : Addr} {ccd : Value} {cl : List (Str × Addr)} {outer : List Env} {A₀ : Around} {base h₀ : Heap} {L : Addr} {m : Str → Option Value} {news : Led} {s : Shared} {Q E : Value → Shared → Prop}
    (B : Below A₀ base outer h₀) (F : Fr h₀ L s.heap m) (X : (hd.heap_39 w.params).In h₀) (N : News h₀ L s.heap news) (T : Top tp loose mean mg mb h₀) (hk : cs.kind = .function) (hP : P news) (hd : dp + dep < 1000) (hu : un + uni < 9900)
    (ret : ∀ r tl h' tk', Fr h₀ L h' m → News h₀ L h' (tl ++ news) → (∀ q ∈ news, ∀ p ∈ tl, q.1 < p.1) → Post tl r → Q r { s with heap := h', toks := tk' }) :
    wpAny (model PySem.Challenge.rw_ny0092_01.row.prog w) (ktrTop dp un gd cn cs L a ccd cl outer) tree Q E s :=
  C _ _ _ _ _ _ _ _ _ _ _ _ _ _ _ _ _ _ B F X N T hk hP hd hu ret
end Mine
end

section
open PySem PySem.W PyProof.Rows PyProof.Rows.LCg PyProof.Rows.LCt
set_option Elab.async false
set_option maxRecDepth 100000
namespace Mine

section
variable {prog : Program} {w : World} {A : Around} {E : Value → Shared → Prop} {s : Shared} {h₀ : Heap} {L : Addr} {m : Str → Option Value} {env : Env}

theorem compEnd_mono {s₁ : Shared} {I C D : Addr} {oI oC oD : Obj} {S : Led → Prop} {rest rest' : Value → Led → Prop} {y : Value} {s₂ : Shared} (h : CompEnd h₀ L m s₁ I oI C oC D oD S rest y s₂) (k : ∀ nw, rest y nw → rest' y nw) :
    CompEnd h₀ L m s₁ I oI C oC D oD S rest' y s₂ := by
  obtain ⟨h', tk, nw, e, F, N, o, hS, r⟩ := h
  exact ⟨h', tk, nw, e, F, N, o, hS, k nw r⟩

theorem compRest_ind {elt : Expr} {x : Str} {scope : Scope} {cl : List (Str × Addr)} {S : Led → Prop} {P : Nat → Value → Prop} {Fin : List Value → Led → Prop} {n : Nat} (J : Nat → List Value → Led → Prop)
    (fin : ∀ ys nw, J n ys nw → Fin ys nw)
    (step : ∀ i ys nw, i < n → J i ys nw → ∀ v I oI C oC D m₂ h tk (E' : Value → Shared → Prop), P i v → NsObj oC m₂ → m₂ x = some v → Fr h₀ L h m → News h₀ L h ((I, oI) :: (C, oC) :: (D, lst ys) :: nw) → Off3 I C D nw → ((@Ne Nat I C) ∧ (@Ne Nat I D) ∧ (@Ne Nat C D)) →
      wpAny (model prog w) A (eval elt (compEnvC scope cl C env)) (CompEnd h₀ L m { s with heap := h, toks := tk } I oI C oC D (lst ys) S (fun y nw' => J (i + 1) (ys ++ [y]) nw')) E' { s with heap := h, toks := tk }) :
    ∀ k i ys nw, i + k = n → J i ys nw → CompRest prog w A h₀ L m env elt x scope cl s S P Fin k i ys nw := by
  intro k
  induction k with
  | zero => intro i ys nw e hJ; exact fin ys nw (by simpa using (show i = n by omega) ▸ hJ)
  | succ k ih =>
    intro i ys nw e hJ
    intro v I oI C oC D m₂ h tk E' hP hC hx F N off ne
    exact wpAny_mono (step i ys nw (by omega) hJ v I oI C oC D m₂ h tk E' hP hC hx F N off ne) (fun y s' hy => compEnd_mono hy fun nw' hj => ih (i + 1) _ _ (by omega) hj) fun _ _ e => e

theorem compRestT_ind {ct elt : Expr} {x : Str} {scope : Scope} {cl : List (Str × Addr)} {S : Led → Prop} {P : Nat → Value → Prop} {Fin : List Value → Led → Prop} {n : Nat} (J : Nat → List Value → Led → Prop)
    (fin : ∀ ys nw, J n ys nw → Fin ys nw)
    (step : ∀ i ys nw, i < n → J i ys nw → ∀ v I oI C oC D m₂ h tk (E' : Value → Shared → Prop), P i v → NsObj oC m₂ → m₂ x = some v → Fr h₀ L h m → News h₀ L h ((I, oI) :: (C, oC) :: (D, lst ys) :: nw) → Off3 I C D nw → ((@Ne Nat I C) ∧ (@Ne Nat I D) ∧ (@Ne Nat C D)) →
      wpAny (model prog w) A (isTrue ct (compEnvC scope cl C env) (eval ct (compEnvC scope cl C env))) (fun ok s' => if ok = true then
        wpAny (model prog w) A (eval elt (compEnvC scope cl C env)) (CompEnd h₀ L m { s with heap := h, toks := tk } I oI C oC D (lst ys) S (fun y nw' => J (i + 1) (ys ++ [y]) nw')) E' s'
        else CompEnd h₀ L m { s with heap := h, toks := tk } I oI C oC D (lst ys) S (fun _ nw' => J (i + 1) ys nw') Value.none s') E' { s with heap := h, toks := tk }) :
    ∀ k i ys nw, i + k = n → J i ys nw → CompRestT prog w A h₀ L m env ct elt x scope cl s S P Fin k i ys nw := by
  intro k
  induction k with
  | zero => intro i ys nw e hJ; exact fin ys nw (by simpa using (show i = n by omega) ▸ hJ)
  | succ k ih =>
    intro i ys nw e hJ
    intro v I oI C oC D m₂ h tk E' hP hC hx F N off ne
    refine wpAny_mono (step i ys nw (by omega) hJ v I oI C oC D m₂ h tk E' hP hC hx F N off ne) (fun ok s' hy => ?_) fun _ _ e => e
    cases ok with
    | true =>
      simp only [if_true] at hy ⊢
      exact wpAny_mono hy (fun y s' hy => compEnd_mono hy fun nw' hj => ih (i + 1) _ _ (by omega) hj) fun _ _ e => e
    | false =>
      simp only [Bool.false_eq_true, if_false] at hy ⊢
      exact compEnd_mono hy fun nw' hj => ih (i + 1) _ _ (by omega) hj

/-- what stands behind a comprehension's iterable -/
def CompR (prog : Program) (w : World) (A : Around) (env : Env) (e : Expr) (scope : Scope) (cl : List (Str × Addr)) (use : Option (Value → Sem Unit)) (Q : Value → Shared → Prop) (E : Value → Shared → Prop) (it : Value) (s₂ : Shared) : Prop :=
  wpAny (model prog w) A (newList []) (fun acc s₃ => wpAny (model prog w) A (newFunctionEnv scope env.globals cl [] env.qual none .none (some env)) (fun cenv s₄ =>
    codeAny (model prog w) A (.compStart e 0 it acc { cenv with scope := relabel scope env }) (compPost (model prog w) A E use Q acc cenv.locals) s₄) E s₃) E s₂

/-- a turn's end in a comprehension of pairs with a test -/
def CEnd (h₀ : Heap) (L : Addr) (m : Str → Option Value) (s : Shared) (C : Addr) (oC : Obj) (D : Addr) (oD : Obj) (wr : List Addr) (own : Led) (rest : Value → Led → Prop) (y : Value) (s₂ : Shared) : Prop :=
  ∃ h' tk' nw', s₂ = { s with heap := h', toks := tk' } ∧ Fr h₀ L h' m ∧ News h₀ L h' ((C, oC) :: (D, oD) :: (nw' ++ own)) ∧ (∀ p ∈ nw', p.1 ≠ C ∧ p.1 ≠ D ∧ p.1 ∉ wr) ∧ rest y nw'
theorem CEnd.intro {h' : Heap} {tk' : Nat} {C D : Addr} {oC oD : Obj} {wr : List Addr} {own all : Led} {rest : Value → Led → Prop} {y : Value} (nw' : Led) (F : Fr h₀ L h' m) (N : News h₀ L h' all) (hs : ∀ p ∈ (C, oC) :: (D, oD) :: (nw' ++ own), p ∈ all)
    (hw : ∀ p ∈ nw', p.1 ≠ C ∧ p.1 ≠ D ∧ p.1 ∉ wr) (hj : rest y nw') : CEnd h₀ L m s C oC D oD wr own rest y { s with heap := h', toks := tk' } :=
  ⟨h', tk', nw', rfl, F, fun p hp => N p (hs p hp), hw, hj⟩

theorem comp_pairs {ct elt iter : Expr} {x x₂ : Str} {px px₂ tp : Pos} {tk} {scope : Scope} {cl : List (Str × Addr)} {pos : Pos} {I : Addr} {fp wr : List Addr} {n : Nat} {Pt : Nat → Array Value → Prop} {St : Nat → Heap → Prop} {Mid : Nat → Addr → Heap → Prop}
    {use : Option (Value → Sem Unit)} {Q : Value → Shared → Prop} {nw : Led}
    (W : WalksU prog w A I fp wr n Pt St Mid) (hsz : n ≤ sizeLine) (J : Nat → List Value → Led → Prop)
    (hcell : ∀ y ∈ scope.names, y.2 ≠ .cell) (hkind : scope.kind = .function) (hx : scope.names.lookup x = some .local) (hx₂ : scope.names.lookup x₂ = some .local) (hxx : x ≠ x₂) (hh : A.handled = none)
    (hst : St 0 s.heap) (hfp : ∀ b ∈ fp, b < s.heap.objs.size) (hL : L ∉ fp) (hwr : ∀ b ∈ wr, h₀.get? b = none)
    (F : Fr h₀ L s.heap m) (N : News h₀ L s.heap nw) (hnw : ∀ p ∈ nw, p.1 ∉ wr) (h0 : J 0 [] nw)
    (step : ∀ i vals ys nw₁ own C oC D mC h tk (E' : Value → Shared → Prop), i < n → Pt i vals → J i ys nw₁ → ys.length ≤ i → ∃ v₁ v₂, vals = #[v₁, v₂] ∧ (NsObj oC mC → mC x = some v₁ → mC x₂ = some v₂ → Fr h₀ L h m → News h₀ L h ((C, oC) :: (D, lst ys) :: (nw₁ ++ own)) →
      C ≠ D → (∀ p ∈ nw₁ ++ own, p.1 ≠ C ∧ p.1 ≠ D) → (∀ p ∈ nw₁, p.1 ∉ wr) → (∀ b ∈ fp, h₀.get? b = none → ∀ o, h.get? b = some o → (b, o) ∈ own) → (∀ p ∈ own, p.1 ∈ fp) →
      wpAny (model prog w) A (isTrue ct (compEnvC scope cl C env) (eval ct (compEnvC scope cl C env))) (fun ok s' => if ok = true then
        wpAny (model prog w) A (eval elt (compEnvC scope cl C env)) (CEnd h₀ L m s C oC D (lst ys) wr own (fun y nw' => J (i + 1) (ys ++ [y]) nw')) E' s'
        else CEnd h₀ L m s C oC D (lst ys) wr own (fun _ nw' => J (i + 1) ys nw') Value.none s') E' { s with heap := h, toks := tk }))
    (done : ∀ D C h tk m' ys nw₁, J n ys nw₁ → Fr h₀ L h m → News h₀ L h ((D, lst ys) :: nw₁) → Off1 D nw₁ → h.Ns C m' → h₀.get? C = none → C ≠ L → C ≠ D → (∀ p ∈ nw₁, p.1 ≠ C) → compPost (model prog w) A E use Q (.ref D) C (.ok .next) { s with heap := h, toks := tk }) :
    CompR prog w A env (.ListComp elt [⟨.Tuple [.Name x px, .Name x₂ px₂] tk tp, iter, [ct], 0⟩] scope pos) scope cl use Q E (.ref I) s := by
  unfold CompR
  refine wpAny_newObj_type (wpAny_newFunctionEnv hcell (by intro y hy; simp at hy) (fun h₁ hns₁ hsb₁ => ?_) hkind)
  dsimp only at hns₁ hsb₁ ⊢
  generalize hH2 : s.heap.push { cls := .type "list", dict := none, data := .seq ([] : List Value).toArray } = H2 at hns₁ hsb₁ ⊢
  have hC : H2.objs.size = s.heap.objs.size + 1 := by rw [← hH2, Heap.size_push]
  generalize hCn : H2.objs.size = C at hns₁ hsb₁ hC ⊢
  generalize hDn : s.heap.objs.size = D at hC
  have hDC : D ≠ C := by rw [hC]; exact Nat.ne_of_lt (Nat.lt_succ_self _)
  have below : ∀ b, b < D → b ≠ C ∧ b ≠ D := fun b hb => ⟨by rw [hC]; exact Nat.ne_of_lt (Nat.lt_succ_of_lt hb), Nat.ne_of_lt hb⟩
  have hDf : D ∉ fp := fun hm => Nat.lt_irrefl _ (hDn ▸ hfp _ hm)
  have hCf : C ∉ fp := fun hm => by have := hfp _ hm; rw [hDn, hC] at this; exact Nat.lt_irrefl _ (Nat.lt_of_succ_lt this)
  have hCw : C ∉ wr := fun h => hCf (W.sub _ h)
  have hDw : D ∉ wr := fun h => hDf (W.sub _ h)
  have hLw : L ∉ wr := fun h => hL (W.sub _ h)
  have lt : ∀ b o, s.heap.get? b = some o → b < D := fun b o e => hDn ▸ Heap.lt_size e
  have old : ∀ b o, s.heap.get? b = some o → h₁.get? b = some o := fun b o e => hsb₁.extBut b o (below b (lt b o e)).1 (Heap.get?_push_of_some _ (hH2 ▸ Heap.get?_push_of_some _ e))
  have hacc : h₁.get? D = some (lst []) := hsb₁.extBut _ _ hDC (Heap.get?_push_of_some _ (by rw [← hH2, ← hDn]; exact Heap.get?_push_size _ rfl))
  have hst₁ : St 0 h₁ := W.frame _ _ _ hst fun b _ o e => old b o e
  have hD₀ : h₀.get? D = none := fresh_none F (Nat.le_of_eq hDn)
  have hC₀ : h₀.get? C = none := fresh_none F (by rw [hDn, hC]; exact Nat.le_succ _)
  have hDL : D ≠ L := fresh_ne F (Nat.le_of_eq hDn)
  have hCL : C ≠ L := fresh_ne F (by rw [hDn, hC]; exact Nat.le_succ _)
  have loop : ∀ s₃ : Shared, s₃ = { s with heap := h₁, toks := s.toks + ([] : List (Str × Value)).length } →
      codeAny (model prog w) A (.compLoop (.ListComp elt [⟨.Tuple [.Name x px, .Name x₂ px₂] tk tp, iter, [ct], 0⟩] scope pos) 0 (.ref I) (.ref D) (compEnvC scope cl C env))
        (compPost (model prog w) A E use Q (.ref D) C) s₃ := by
    rintro s₃ rfl
    refine kct_loop
      (fun k s' => ∃ h' tk i ys m' nw', s' = { s with heap := h', toks := tk } ∧ i ≤ n ∧ k = n + 1 - i ∧ ys.length ≤ i ∧ St i h' ∧ Fr h₀ L h' m ∧ h'.Ns C m' ∧ News h₀ L h' ((D, lst ys) :: nw') ∧
        (∀ p ∈ nw', p.1 ≠ C ∧ p.1 ≠ D ∧ p.1 ∉ wr) ∧ J i ys nw') ?_ (n + 1)
      ⟨h₁, _, 0, [], _, nw, rfl, Nat.zero_le _, rfl, Nat.le_refl _, hst₁, F.keeps old, hns₁, fun p hp => ?_, fun p hp => ⟨(below _ (lt _ _ (N p hp).1)).1, (below _ (lt _ _ (N p hp).1)).2, hnw p hp⟩, h0⟩
    · rintro k s' ⟨h', tk', i, ys, m', nw', rfl, hi, rfl, hyl, hst', F', hn', N', off', hJ⟩
      by_cases hlt : i < n
      · refine W.item i _ _ _ hlt hst' fun T vals h₂ tk₂ hPv hT hMid hk₂ => ?_
        refine W.go _ _ _ i T _ _ _ hMid fun h₃ hst₃ hk₃ => ?_
        have hT₃ : h₃.IsTuple T vals := hT.at fun o e => hk₃ T o (W.apart _ _ _ hMid) e
        have k3 : ∀ b o, b ∉ wr → h'.get? b = some o → h₃.get? b = some o := fun b o hb e => hk₃ b o hb (hk₂ b o hb e)
        obtain ⟨v₁, v₂, rfl, _⟩ := step i vals ys nw' (ownOf h₀ fp h₃) C (lst ys) D (fun _ => none) h₃ 0 (fun _ _ => False) hlt hPv hJ hyl
        refine kcp_assign hh hT₃ (lookup_relabel_local hx) (lookup_relabel_local hx₂) (by simp [compEnvC, relabel, hkind]) (hn'.at' fun o e => k3 _ o hCw e) (fun h₄ tk₄ hn₄ hk₄ => ?_)
        have k4 : ∀ b o, b ≠ C → b ∉ wr → h'.get? b = some o → h₄.get? b = some o := fun b o hb hw e => hk₄ b o hb (k3 b o hw e)
        have hst₄ : St (i + 1) h₄ := W.frame _ _ _ hst₃ fun b hb o e => hk₄ b o (fun q => hCf (by have q' : b = C := q; rw [← q']; exact hb)) e
        obtain ⟨oC, heC, hoC⟩ := ns_obj hn₄
        have F₄ : Fr h₀ L h₄ m := fr_but F' (wr := C :: wr) (fun b o hb e => k4 b o (fun q => hb (by simp [q])) (fun q => hb (by simp [q])) e)
          (by simp only [List.mem_cons, not_or]; exact ⟨Ne.symm hCL, hLw⟩) (by intro b hb; rcases List.mem_cons.mp hb with rfl | hb; exact hC₀; exact hwr b hb)
        have N₄ : News h₀ L h₄ ((C, oC) :: (D, lst ys) :: (nw' ++ ownOf h₀ fp h₄)) := fun p hp => by
          rcases List.mem_cons.mp hp with rfl | hp
          · exact ⟨heC, hCL, hC₀⟩
          · rcases List.mem_cons.mp hp with rfl | hp
            · have z := N' _ (List.mem_cons_self ..)
              exact ⟨k4 _ _ hDC hDw z.1, z.2⟩
            · rcases List.mem_append.mp hp with hp | hp
              · have z := N' _ (List.mem_cons_of_mem _ hp)
                exact ⟨k4 _ _ (off' p hp).1 (off' p hp).2.2 z.1, z.2⟩
              · exact news_ownOf hL p hp
        obtain ⟨u₁, u₂, eu, st⟩ := step i #[v₁, v₂] ys nw' (ownOf h₀ fp h₄) C oC D _ h₄ tk₄ (notedBy (model prog w) A (compEnvC scope cl C env) fun e s' => compPost (model prog w) A E use Q (.ref D) C (.error e) s') hlt hPv hJ hyl
        have e1 : v₁ = u₁ ∧ v₂ = u₂ := by
          have := congrArg Array.toList eu
          simp only [List.cons.injEq, and_true] at this
          exact this
        obtain ⟨rfl, rfl⟩ := e1
        refine wpAny_mono (st hoC (by simp [hxx]) (by simp) F₄ N₄ (Ne.symm hDC) (fun p hp => ?_) (fun p hp => (off' p hp).2.2) (fun b hb hn o e => mem_ownOf hb hn e) ownOf_sub) (fun ok s₅ h₅ => ?_) fun _ _ e => e
        · rcases List.mem_append.mp hp with hp | hp
          · exact ⟨(off' p hp).1, (off' p hp).2.1⟩
          · have := ownOf_sub p hp
            exact ⟨fun q => hCf (q ▸ this), fun q => hDf (q ▸ this)⟩
        have frame : ∀ h₆ nw₆ oD, Fr h₀ L h₆ m → News h₀ L h₆ ((C, oC) :: (D, oD) :: (nw₆ ++ ownOf h₀ fp h₄)) → St (i + 1) h₆ := fun h₆ nw₆ oD F₆ N₆ => W.frame _ _ _ hst₄ fun b hb o e => by
          cases hn : h₀.get? b with
          | some o₀ =>
            have : o₀ = o := by have := F₄.keep b o₀ hn; rw [e] at this; exact (Option.some.inj this).symm
            exact this ▸ F₆.keep b o₀ hn
          | none => exact (N₆ _ (List.mem_cons_of_mem _ (List.mem_cons_of_mem _ (List.mem_append_right _ (mem_ownOf hb hn e))))).1
        cases ok with
        | true =>
          simp only [if_true] at h₅ ⊢
          refine wpAny_mono h₅ (fun y s₆ h₆ => ?_) fun _ _ e => e
          obtain ⟨h₆, tk₆, nw₆, rfl, F₆, N₆, off₆, hJ₆⟩ := h₆
          have zC := (N₆ (C, oC) List.mem_cons_self).1
          have zD := (N₆ (D, lst ys) (List.mem_cons_of_mem _ List.mem_cons_self)).1
          refine append_at (hsz := by show ys.toArray.size ≤ sizeLine; rw [List.size_toArray]; exact Nat.le_trans (Nat.le_trans hyl hi) hsz) zD fun h₇ hs₇ hD₇ => ?_
          refine ⟨n + 1 - (i + 1), by omega, h₇, tk₆, i + 1, ys ++ [y], _, nw₆, rfl, hlt, rfl, by rw [List.length_append, List.length_singleton]; exact Nat.succ_le_succ hyl, W.frame _ _ _ (frame h₆ nw₆ _ F₆ N₆) fun b hb o e => hs₇.extBut b o (fun q => hDf (q ▸ hb)) e, F₆.change hs₇ hDL hD₀,
            (hoC.ns zC).sameBut hs₇ (Ne.symm hDC), fun p hp => ?_, off₆, hJ₆⟩
          rcases List.mem_cons.mp hp with rfl | hp
          · exact ⟨hD₇.trans (congrArg some (lst_snoc ys y)), hDL, hD₀⟩
          · have z := N₆ p (List.mem_cons_of_mem _ (List.mem_cons_of_mem _ (List.mem_append_left _ hp)))
            exact ⟨hs₇.extBut _ _ (off₆ p hp).2.1 z.1, z.2⟩
        | false =>
          simp only [Bool.false_eq_true, if_false] at h₅ ⊢
          obtain ⟨h₆, tk₆, nw₆, rfl, F₆, N₆, off₆, hJ₆⟩ := h₅
          have zC := (N₆ (C, oC) List.mem_cons_self).1
          refine ⟨n + 1 - (i + 1), by omega, h₆, tk₆, i + 1, ys, _, nw₆, rfl, hlt, rfl, Nat.le_succ_of_le hyl, frame h₆ nw₆ _ F₆ N₆, F₆, hoC.ns zC, fun p hp => ?_, off₆, hJ₆⟩
          rcases List.mem_cons.mp hp with rfl | hp
          · exact N₆ _ (List.mem_cons_of_mem _ List.mem_cons_self)
          · exact N₆ p (List.mem_cons_of_mem _ (List.mem_cons_of_mem _ (List.mem_append_left _ hp)))
      · obtain rfl : i = n := Nat.le_antisymm hi (Nat.not_lt.mp hlt)
        refine W.done _ _ _ hst' fun h₂ tk₂ hk₂ => ?_
        have off1 : Off1 D nw' := by
          clear N' hJ
          induction nw' with
          | nil => trivial
          | cons p r ih => exact ⟨(off' p (List.mem_cons_self ..)).2.1, ih fun q hq => off' q (List.mem_cons_of_mem _ hq)⟩
        exact done D C h₂ tk₂ m' ys nw' hJ (fr_but F' hk₂ hLw hwr) (news_but N' hk₂ fun p hp => by
          rcases List.mem_cons.mp hp with rfl | hp
          · exact hDw
          · exact (off' p hp).2.2) off1 (hn'.at' fun o e => hk₂ _ o hCw e) hC₀ hCL (Ne.symm hDC) fun p hp => (off' p hp).1
    · rcases List.mem_cons.mp hp with rfl | hp
      · exact ⟨hacc, hDL, hD₀⟩
      · exact ⟨old _ _ (N p hp).1, (N p hp).2⟩
  exact codeAny_compStart_list (loop _ rfl) (W.self 0 _ _ _ hst₁ (loop _ rfl))

theorem ListComp_my {elt target iter : Expr} {ifs : List Expr} {scope : Scope} {cl : List (Str × Addr)} {pos : Pos} {Q : Value → Shared → Prop}
    (hclos : closureFor scope env = pure cl) (hkind : scope.kind = .function) (hnames : ∀ y ∈ scope.names, y.2 = .local → scope.names.lookup y.1 = some .local)
    (h : wpAny (model prog w) A (eval iter env) (fun xv s₁ => Halt (wpAny (model prog w) A (pyIter xv) (fun it s₂ => CompR prog w A env (.ListComp elt [⟨target, iter, ifs, 0⟩] scope pos) scope cl none Q E it s₂) E s₁)) E s)
    (hs : ∀ x, foldedSetIterable iter env x = pure x := by intro _; rfl) :
    wpAny (model prog w) A (eval (.ListComp elt [⟨target, iter, ifs, 0⟩] scope pos) env) Q E s := by
  rw [eval_ListComp]
  exact wpAny_comprehension_free (use := none) rfl hs hclos hkind hnames (wpAny_mono h (fun xv s₁ h₁ => h₁) fun _ _ e => e)

theorem Assign_ListComp_my {elt target iter : Expr} {ifs : List Expr} {y : Str} {py : Pos} {scope : Scope} {cl : List (Str × Addr)} {pos spos : Pos} {Q : Flow → Shared → Prop}
    (hsw : swapsWith (.ListComp elt [⟨target, iter, ifs, 0⟩] scope pos) (some (.Name y py)) spos.line env = pure true)
    (hclos : closureFor scope env = pure cl) (hkind : scope.kind = .function) (hnames : ∀ z ∈ scope.names, z.2 = .local → scope.names.lookup z.1 = some .local)
    (h : wpAny (model prog w) A (eval iter env) (fun xv s₁ => Halt (wpAny (model prog w) A (pyIter xv) (fun it s₂ => CompR prog w A env (.ListComp elt [⟨target, iter, ifs, 0⟩] scope pos) scope cl (some (assign (.Name y py) env)) (fun _ s' => Q .next s') E it s₂) E s₁)) E s)
    (hs : ∀ x, foldedSetIterable iter env x = pure x := by intro _; rfl) :
    wpAny (model prog w) A (exec (.Assign [.Name y py] (.ListComp elt [⟨target, iter, ifs, 0⟩] scope pos) spos) env) Q E s := by
  rw [exec_Assign_Name_used _ _ _ _ hsw]
  refine wpAny_bind (wpAny_standAt (wpAny_bind ?_))
  show wpAny _ A (do let _ ← comprehension (.ListComp elt [⟨target, iter, ifs, 0⟩] scope pos) scope env _ (newList []) false (eval iter env) (some (assign (.Name y py) env))) _ _ s
  exact wpAny_bind (wpAny_mono (wpAny_comprehension_free (use := some (assign (.Name y py) env)) (Q := fun _ s' => Q .next s') rfl hs hclos hkind hnames
    (wpAny_mono h (fun xv s₁ h₁ => h₁) fun _ _ e => e)) (fun _ s' hq => wpAny_pure (wpAny_pure hq)) fun _ _ e => e)

theorem post_none {Q : Value → Shared → Prop} {D C : Addr} {h : Heap} {tk : Nat} {m' : Str → Option Value} {ys : List Value} {nw₁ : Led} (fin : FinE h₀ L m s Q ys nw₁)
    (F : Fr h₀ L h m) (N : News h₀ L h ((D, lst ys) :: nw₁)) (o1 : Off1 D nw₁) (hn : h.Ns C m') (hC₀ : h₀.get? C = none) (hCL : C ≠ L) (hCD : C ≠ D) (offC : ∀ p ∈ nw₁, p.1 ≠ C) :
    compPost (model prog w) A E none Q (.ref D) C (.ok .next) { s with heap := h, toks := tk } := by
  refine ⟨m', hn, fun h'' hs'' => fin D h'' tk (F.change hs'' hCL hC₀) (fun p hp => ?_) o1⟩
  refine ⟨hs''.extBut _ _ ?_ (N p hp).1, (N p hp).2⟩
  rcases List.mem_cons.mp hp with rfl | hp
  · exact Ne.symm hCD
  · exact offC p hp

theorem post_assign {Qn : Shared → Prop} {y : Str} {py : Pos} {D C : Addr} {h : Heap} {tk : Nat} {m' : Str → Option Value} {ys : List Value} {nw₁ : Led} (fin : ∀ D h tk, Fr h₀ L h (fun z => if z = y then some (.ref D) else m z) → News h₀ L h ((D, lst ys) :: nw₁) → Off1 D nw₁ → Qn { s with heap := h, toks := tk })
    (hLe : env.locals = L) (hy : env.kindOf y = some .local) (hp : (env.scope.kind == .class || (env.scope.kind == .module && env.locals != env.globals)) = false)
    (F : Fr h₀ L h m) (N : News h₀ L h ((D, lst ys) :: nw₁)) (o1 : Off1 D nw₁) (hn : h.Ns C m') (hC₀ : h₀.get? C = none) (hCL : C ≠ L) (hCD : C ≠ D) (offC : ∀ p ∈ nw₁, p.1 ≠ C) :
    compPost (model prog w) A E (some (assign (.Name y py) env)) (fun _ s' => Qn s') (.ref D) C (.ok .next) { s with heap := h, toks := tk } := by
  subst hLe
  show wpAny _ A (assign (.Name y py) env (.ref D)) _ _ _
  refine wpAny_assign_Name (wpAny_storeName_local hy F.ns (fun h₂ hn₂ hs₂ => ?_) hp)
  have hL₀ : h₀.get? env.locals = none := Heap.get?_none_of_le F.above
  have F₂ : Fr h₀ env.locals h₂ (fun z => if z = y then some (.ref D) else m z) := ⟨hn₂, fun b o e => hs₂.extBut b o (fun q => by rw [q, hL₀] at e; cases e) (F.keep b o e), F.above⟩
  refine ⟨m', hn.sameBut hs₂ hCL, fun h'' hs'' => fin D h'' _ (F₂.change hs'' hCL hC₀) (fun p hp => ?_) o1⟩
  have z : h₂.get? p.1 = some p.2 := hs₂.extBut _ _ (N p hp).2.1 (N p hp).1
  refine ⟨hs''.extBut _ _ ?_ z, (N p hp).2⟩
  rcases List.mem_cons.mp hp with rfl | hp
  · exact Ne.symm hCD
  · exact offC p hp
end
end Mine
end

section
open PySem PySem.W PyProof.Rows PyProof.Rows.LCg PyProof.Rows.LCt
set_option Elab.async false
set_option maxRecDepth 100000
namespace Mine
section
variable {prog : Program} {w : World} {A : Around} {E : Value → Shared → Prop} {s : Shared} {h₀ : Heap} {L : Addr} {m : Str → Option Value} {news : Led} {g : Obj → Led} {value slice : Expr}

theorem ret_filter {h : Heap} {all : Led} (d : Nat) (N : News h₀ L h all) (hn : ∀ p ∈ news, p ∈ all) : News h₀ L h (all.filter (fun p => decide (d ≤ p.1)) ++ news) :=
  fun p hp => (List.mem_append.mp hp).elim (fun h => N p (List.mem_filter.mp h).1) fun h => N p (hn p h)
theorem below_filter {all : Led} {d : Nat} (hd : ∀ q ∈ news, q.1 < d) : ∀ q ∈ news, ∀ p ∈ all.filter (fun p => decide (d ≤ p.1)), q.1 < p.1 :=
  fun q hq p hp => Nat.lt_of_lt_of_le (hd q hq) (of_decide_eq_true (List.mem_filter.mp hp).2)
theorem mem_ge {all : Led} {d a : Nat} {o : Obj} (h : (a, o) ∈ all) (hd : d ≤ a) : (a, o) ∈ all.filter (fun p => decide (d ≤ p.1)) := List.mem_filter.mpr ⟨h, decide_eq_true hd⟩

theorem updF_news {D : Addr} {o o' : Obj} {h' : Heap} (F : Fr h₀ L s.heap m) (N : News h₀ L s.heap news) (U : UpdF D o news g) (hs : Heap.SameBut D s.heap h') (ho : h'.get? D = some o') : Fr h₀ L h' m ∧ News h₀ L h' (g o') := by
  obtain ⟨pre, post, rfl, hg, a, b⟩ := U.split
  have z := N (D, o) (List.mem_append.mpr (.inr (.head _)))
  refine ⟨F.change hs z.2.1 z.2.2, ?_⟩
  rw [hg]
  exact news_set N a b hs ho

theorem updF_mem {D : Addr} {o : Obj} (U : UpdF D o news g) : (D, o) ∈ news := by
  obtain ⟨pre, post, rfl, _, _, _⟩ := U.split
  exact List.mem_append.mpr (.inr (.head _))

theorem extend_N {D b : Addr} {its2 : Array Value} {n n2 : Nat} {Q : Value → Shared → Prop} (F : Fr h₀ L s.heap m) (N : News h₀ L s.heap news) (U : UpdF D (W.listOf #[] n) news g) (hb : (b, W.listOf its2 n2) ∈ news) (hz : its2.size ≤ 1000)
    (h : ∀ h' n', Fr h₀ L h' m → News h₀ L h' (g (W.listOf its2 n')) → Q .none { s with heap := h' }) : wpAny (model prog w) A (call (.builtin "list.extend") [.ref D, .ref b]) Q E s := by
  have z := N _ (updF_mem U)
  have h1 : (#[] : Array Value).size ≤ sizeLine := Nat.zero_le _
  have h2 : (#[] : Array Value).size + its2.size ≤ sizeLine + 1 := by rw [sizeLine_eq]; simp; omega
  refine call_meets PySem.F.slot_list_extend ⟨_, z.1, rfl⟩ PySem.F.entry_list_extend (PySem.F.args_list_extend_2 _ _) (PySem.AutoSeq1.list_extend_list_list_0 D #[] n b its2 n2 (by simp) h1 h2) ⟨z.1, (N _ hb).1, ?_⟩
  have hs : Heap.SameBut D s.heap (s.heap.update D (Obj.mapSeq fun x => x ++ its2)) := Heap.SameBut.update ..
  have ho := Heap.get?_update_self (Obj.mapSeq fun x => x ++ its2) z.1 rfl
  obtain ⟨F', N'⟩ := updF_news F N U hs ho
  have e : ∃ n', (Obj.mapSeq (fun x => x ++ its2) (W.listOf #[] n)) = W.listOf its2 n' := by
    refine ⟨(if (((fun x => x ++ its2) (#[] : Array Value)).size == (#[] : Array Value).size) = true then n else n + 1), ?_⟩
    show ({ cls := .type "list", data := .seq (#[] ++ its2) _ } : Obj) = _
    simp only [Array.empty_append]
  obtain ⟨n', e⟩ := e
  refine h _ n' F' ?_
  rw [← e]
  exact N'

theorem rev_N {α : Type} {f : α → Value} {l : Addr} {xs : List α} {nl : Nat} {vk : Value} {ops : List Value} {Q : Value → Shared → Prop} (F : Fr h₀ L s.heap m) (N : News h₀ L s.heap news) (hm : (l, W.listOf (xs.map f).toArray nl) ∈ news) (pk : IsPart vk (some (-1))) (hz : xs.length ≤ 1000)
    (h : ∀ D h', Fr h₀ L h' m → News h₀ L h' ((D, W.listOf (xs.reverse.map f).toArray 0) :: news) → (∀ p ∈ news, p.1 < D) → Q (.ref D) { s with heap := h' })
    (hs : subscripted slice false (.ref l) (.ref s.heap.objs.size) = operate ops (getItem (.ref l) (.ref s.heap.objs.size))) (ht : ∀ r, letTemporaryGo value (.ref l) r = pure ()) :
    wpAny (model prog w) A (subscriptTail value slice (.ref l) (.ref s.heap.objs.size)) Q E { s with heap := s.heap.push { cls := .type "slice", data := .fields #[.none, .none, vk] } } :=
  krv_lit F N ⟨_, (N _ hm).1, rfl, nl, rfl⟩ pk (by simp) h hs ht (by rw [sizeLine_eq]; simp; omega)
end
end Mine
end

section
open PySem PySem.W PyProof.Rows PyProof.Rows.LCg PyProof.Rows.LCt
set_option Elab.async false
set_option maxRecDepth 100000
namespace Mine
abbrev enumObj (it : Addr) : Obj := { cls := .type "enumerate", data := .fields #[.none, .bool false, .ref it, rawInt 0, .none, .none] }
section
variable {prog : Program} {w : World} {A : Around} {E : Value → Shared → Prop} {s : Shared} {h₀ : Heap} {L : Addr} {m : Str → Option Value} {news : Led} {env : Env}
theorem enum_N {l : Addr} {items : Array Value} {nl : Nat} {Q : Value → Shared → Prop} (F : Fr h₀ L s.heap m) (N : News h₀ L s.heap news) (hm : (l, W.listOf items nl) ∈ news)
    (h : ∀ it e h', Fr h₀ L h' m → News h₀ L h' ((e, enumObj it) :: (it, iterObj l) :: news) → (∀ p ∈ news, p.1 < it) → it < e → Q (.ref e) { s with heap := h' }) :
    wpAny (model prog w) A (call (.type "enumerate") [.ref l]) Q E s := by
  refine callType_new PySem.F.called_enumerate (by decide) (PySem.F.typeCall_enumerate_1 _) (PySem.F.newCall_enumerate_1 _) (fun obj => PySem.F.args_object_init_2 obj _) PySem.F.entry_enumerate_new
    (meets_enumerate_newL l items nl none #[]) ⟨(N _ hm).1, ?_⟩
  have hz : (s.heap.push (iterObj l)).objs.size = s.heap.objs.size + 1 := Heap.size_push ..
  have hp := News.push (F.push (iterObj l)) (N.push F (iterObj l)) (enumObj s.heap.objs.size)
  refine ⟨⟨_, Heap.get?_push_size _ rfl, rfl⟩, ?_⟩
  show Q (.ref (s.heap.push (iterObj l)).objs.size) _
  exact h s.heap.objs.size (s.heap.push (iterObj l)).objs.size _ ((F.push _).push _) hp (fun p hp => news_lt N hp) (by rw [hz]; exact Nat.lt_succ_self _)

/-- a comprehension over an enumerated list of the ledger, with a test -/
theorem comp_enum {ct elt iter : Expr} {x x₂ : Str} {px px₂ tp : Pos} {tk} {scope : Scope} {cl : List (Str × Addr)} {pos : Pos} {it e l : Addr} {vs : List Value} {nl : Nat} {use : Option (Value → Sem Unit)} {Q : Value → Shared → Prop}
    (J : Nat → List Value → Led → Prop) (hsz : vs.length ≤ 1000)
    (hcell : ∀ y ∈ scope.names, y.2 ≠ .cell) (hkind : scope.kind = .function) (hx : scope.names.lookup x = some .local) (hx₂ : scope.names.lookup x₂ = some .local) (hxx : x ≠ x₂) (hh : A.handled = none)
    (F : Fr h₀ L s.heap m) (N : News h₀ L s.heap ((e, enumObj it) :: (it, iterObj l) :: news)) (hm : (l, W.listOf vs.toArray nl) ∈ news) (hlt : ∀ p ∈ news, p.1 < it) (hie : it < e) (h0 : J 0 [] news)
    (step : ∀ i v t ys nw₁ own C oC D mC h tk (E' : Value → Shared → Prop), vs[i]? = some v → J i ys nw₁ → ys.length ≤ i → (NsObj oC mC → mC x = some (.int (i : Int) t) → mC x₂ = some v → Fr h₀ L h m → News h₀ L h ((C, oC) :: (D, lst ys) :: (nw₁ ++ own)) →
      C ≠ D → (∀ p ∈ nw₁ ++ own, p.1 ≠ C ∧ p.1 ≠ D) → (∀ p ∈ nw₁, p.1 ∉ [e, it]) →
      wpAny (model prog w) A (isTrue ct (compEnvC scope cl C env) (eval ct (compEnvC scope cl C env))) (fun ok s' => if ok = true then
        wpAny (model prog w) A (eval elt (compEnvC scope cl C env)) (CEnd h₀ L m s C oC D (lst ys) [e, it] own (fun y nw' => J (i + 1) (ys ++ [y]) nw')) E' s'
        else CEnd h₀ L m s C oC D (lst ys) [e, it] own (fun _ nw' => J (i + 1) ys nw') Value.none s') E' { s with heap := h, toks := tk }))
    (done : ∀ D C h tk m' ys nw₁, J vs.length ys nw₁ → Fr h₀ L h m → News h₀ L h ((D, lst ys) :: nw₁) → Off1 D nw₁ → h.Ns C m' → h₀.get? C = none → C ≠ L → C ≠ D → (∀ p ∈ nw₁, p.1 ≠ C) → compPost (model prog w) A E use Q (.ref D) C (.ok .next) { s with heap := h, toks := tk }) :
    Halt (wpAny (model prog w) A (pyIter (.ref e)) (fun it s₂ => CompR prog w A env (.ListComp elt [⟨.Tuple [.Name x px, .Name x₂ px₂] tk tp, iter, [ct], 0⟩] scope pos) scope cl use Q E it s₂) E s) := by
  have Ne := N (e, enumObj it) (by simp)
  have Ni := N (it, iterObj l) (by simp)
  have Nl := N (l, W.listOf vs.toArray nl) (by simp [hm])
  have hl := hlt _ hm
  show wpAny _ _ _ _ _ _
  refine wpAny_pyIter_enum (i := 0) (old := .none) Ne.1 ?_
  have W := (WalksT.enumerate (prog := prog) (w := w) hh e it l (Nat.ne_of_gt hie) (Nat.ne_of_lt (Nat.lt_trans hl hie)) (Nat.ne_of_lt hl) vs.toArray).toU
  have hsv : vs.toArray.size = vs.length := List.size_toArray
  rw [hsv] at W
  refine comp_pairs (nw := news) W (Nat.le_trans hsz (by show 1000 ≤ 16777216; decide)) J hcell hkind hx hx₂ hxx hh ⟨⟨_, Ne.1⟩, ⟨_, Ni.1, rfl, rfl⟩, ⟨_, Nl.1, rfl, nl, rfl⟩⟩ ?_ ?_ ?_ F (fun p hp => N p (by simp [hp])) ?_ h0 ?_ done
  · intro b hb
    simp only [List.mem_cons, List.not_mem_nil, or_false] at hb
    rcases hb with rfl | rfl | rfl
    · exact Heap.lt_size Ne.1
    · exact Heap.lt_size Ni.1
    · exact Heap.lt_size Nl.1
  · simp only [List.mem_cons, List.not_mem_nil, or_false, not_or]
    exact ⟨fun q => Ne.2.1 q.symm, fun q => Ni.2.1 q.symm, fun q => Nl.2.1 q.symm⟩
  · intro b hb
    simp only [List.mem_cons, List.not_mem_nil, or_false] at hb
    rcases hb with rfl | rfl
    · exact Ne.2.2
    · exact Ni.2.2
  · intro p hp
    simp only [List.mem_cons, List.not_mem_nil, or_false, not_or]
    exact ⟨Nat.ne_of_lt (Nat.lt_trans (hlt p hp) hie), Nat.ne_of_lt (hlt p hp)⟩
  · intro i vals ys nw₁ own C oC D mC h tk E' hi hP hJ hyl
    obtain ⟨t, v, hv, rfl⟩ := hP
    refine ⟨_, _, rfl, fun hC hx hx₂ F₁ N₁ hCD off hw _ _ => step i v t ys nw₁ own C oC D mC h tk E' (by simpa using hv) hJ hyl hC hx hx₂ F₁ N₁ hCD off hw⟩

/-- the same where a turn leaves nothing behind but its item -/
theorem comp_enum_ro {ct elt iter : Expr} {x x₂ : Str} {px px₂ tp : Pos} {tk} {scope : Scope} {cl : List (Str × Addr)} {pos : Pos} {it e l : Addr} {vs : List Value} {nl : Nat} {use : Option (Value → Sem Unit)} {Q : Value → Shared → Prop}
    (J : Nat → List Value → Prop) (hsz : vs.length ≤ 1000)
    (hcell : ∀ y ∈ scope.names, y.2 ≠ .cell) (hkind : scope.kind = .function) (hx : scope.names.lookup x = some .local) (hx₂ : scope.names.lookup x₂ = some .local) (hxx : x ≠ x₂) (hh : A.handled = none)
    (F : Fr h₀ L s.heap m) (N : News h₀ L s.heap ((e, enumObj it) :: (it, iterObj l) :: news)) (hm : (l, W.listOf vs.toArray nl) ∈ news) (hlt : ∀ p ∈ news, p.1 < it) (hie : it < e) (h0 : J 0 [])
    (step : ∀ i v t ys own C oC D mC h tk (E' : Value → Shared → Prop), vs[i]? = some v → J i ys → NsObj oC mC → mC x = some (.int (i : Int) t) → mC x₂ = some v → Fr h₀ L h m → News h₀ L h ((C, oC) :: (D, lst ys) :: (news ++ own)) →
      wpAny (model prog w) A (isTrue ct (compEnvC scope cl C env) (eval ct (compEnvC scope cl C env))) (fun ok s' => if ok = true then
        wpAny (model prog w) A (eval elt (compEnvC scope cl C env)) (fun y s' => Halt (J (i + 1) (ys ++ [y]) ∧ ∃ h' tk', s' = { s with heap := h', toks := tk' } ∧ Fr h₀ L h' m ∧ News h₀ L h' ((C, oC) :: (D, lst ys) :: (news ++ own)))) E' s'
        else Halt (J (i + 1) ys ∧ ∃ h' tk', s' = { s with heap := h', toks := tk' } ∧ Fr h₀ L h' m ∧ News h₀ L h' ((C, oC) :: (D, lst ys) :: (news ++ own)))) E' { s with heap := h, toks := tk })
    (done : ∀ D C h tk m' ys, J vs.length ys → Fr h₀ L h m → News h₀ L h ((D, lst ys) :: news) → Off1 D news → h.Ns C m' → h₀.get? C = none → C ≠ L → C ≠ D → (∀ p ∈ news, p.1 ≠ C) → compPost (model prog w) A E use Q (.ref D) C (.ok .next) { s with heap := h, toks := tk }) :
    Halt (wpAny (model prog w) A (pyIter (.ref e)) (fun it s₂ => CompR prog w A env (.ListComp elt [⟨.Tuple [.Name x px, .Name x₂ px₂] tk tp, iter, [ct], 0⟩] scope pos) scope cl use Q E it s₂) E s) := by
  refine comp_enum (fun i ys nw => nw = news ∧ J i ys) hsz hcell hkind hx hx₂ hxx hh F N hm hlt hie ⟨rfl, h0⟩ ?_ ?_
  · rintro i v t ys nw₁ own C oC D mC h tk E' hv ⟨rfl, hJ⟩ hyl hC hx hx₂ F₁ N₁ hCD off hw
    have off' : ∀ p ∈ nw₁, p.1 ≠ C ∧ p.1 ≠ D ∧ p.1 ∉ [e, it] := fun p hp => ⟨(off p (List.mem_append_left _ hp)).1, (off p (List.mem_append_left _ hp)).2, hw p hp⟩
    refine wpAny_mono (step i v t ys own C oC D mC h tk E' hv hJ hC hx hx₂ F₁ N₁) (fun ok s' h' => ?_) fun _ _ e => e
    cases ok with
    | true =>
      simp only [if_true] at h' ⊢
      refine wpAny_mono h' (fun y s' h'' => ?_) fun _ _ e => e
      obtain ⟨hj, h6, tk6, rfl, F6, N6⟩ := h''
      exact CEnd.intro nw₁ F6 N6 (fun p hp => hp) off' ⟨rfl, hj⟩
    | false =>
      simp only [Bool.false_eq_true, if_false] at h' ⊢
      obtain ⟨hj, h6, tk6, rfl, F6, N6⟩ := h'
      exact CEnd.intro nw₁ F6 N6 (fun p hp => hp) off' ⟨rfl, hj⟩
  · rintro D C h tk m' ys nw₁ ⟨rfl, hJ⟩ F₁ N₁ o1 hn hC₀ hCL hCD offC
    exact done D C h tk m' ys hJ F₁ N₁ o1 hn hC₀ hCL hCD offC
end
theorem agents_snoc {ps : List (Str × Tok)} {a : Str} {t : Tok} (hps : ∀ p ∈ ps, p.1 ∈ five) (ha : a ∈ five) : ∀ p ∈ ps ++ [(a, t)], p.1 ∈ five := by
  intro p hp
  rcases List.mem_append.mp hp with hp | hp
  · exact hps p hp
  · rw [List.mem_singleton.mp hp]; exact ha
theorem map_snoc (ps : List (Str × Tok)) (a : Str) (t : Tok) : ps.map sv ++ [Value.str a t] = (ps ++ [(a, t)]).map sv := by simp
theorem len_snoc {ps : List (Str × Tok)} {a : Str} {t : Tok} {n : Nat} (h : ps.length ≤ n) : (ps ++ [(a, t)]).length ≤ n + 1 := by simp; omega
theorem rec_at {t1 t2 t3 t4 t5 : Tok} {i : Nat} {v : Value} (h : [Value.str (Str.ofString "fig") t1, Value.str (Str.ofString "Fig") t2, Value.str (Str.ofString "ig") t3, Value.str (Str.ofString "*") t4, Value.str (Str.ofString "plum") t5][i]? = some v) :
    ∃ ag tv, v = Value.str ag tv ∧ ag ∈ five ∧ (0 : Int) ≤ (i : Int) ∧ (i : Int) ≤ 4 := by
  rcases i with _ | _ | _ | _ | _ | i
  all_goals simp only [List.getElem?_cons_zero, List.getElem?_cons_succ, List.getElem?_nil, Option.some.injEq, reduceCtorEq] at h
  all_goals subst h
  all_goals exact ⟨_, _, rfl, by simp [five], by decide, by decide⟩
section
variable {prog : Program} {w : World} {A : Around} {E : Value → Shared → Prop} {s : Shared}
theorem pow_T {i : Int} {t u : Tok} {Q : Value → Shared → Prop} (h0 : 0 ≤ i) (h1 : i ≤ 4) (h : ∀ p t' tk', 0 < p → p ≤ 1000 → Q (.int p t') { s with toks := tk' }) : wpAny (model prog w) A (binaryOp .Pow (.int 2 t) (.int i u)) Q E s := by
  refine pow_int_small h0 (by omega) (by decide) ?_
  have e : i = 0 ∨ i = 1 ∨ i = 2 ∨ i = 3 ∨ i = 4 := by omega
  rcases e with rfl | rfl | rfl | rfl | rfl
  all_goals exact h _ _ _ (by decide) (by decide)
theorem floordiv_T {a b : Int} {t u : Tok} {Q : Value → Shared → Prop} (h0 : 0 < b) (h1 : b ≤ 1000) (h : ∀ d t' tk', Q (.int d t') { s with toks := tk' }) : wpAny (model prog w) A (binaryOp .FloorDiv (.int a t) (.int b u)) Q E s :=
  floordiv_int (by omega) (h _ _ _) (Or.inl (PyProof.noPylong_small (by omega)))
end
end Mine
end

section
open PySem PySem.W PyProof.Rows PyProof.Rows.LCg PyProof.Rows.LCt
set_option Elab.async false
set_option maxRecDepth 100000
namespace Mine
section
variable {prog : Program} {w : World} {A : Around} {E : Value → Shared → Prop} {s : Shared} {h₀ : Heap} {L : Addr} {m : Str → Option Value} {news : Led} {g : Obj → Led} {value slice : Expr} {d : Addr} {o : Obj}

theorem dget_I {kvs : List (Int × Value)} {k : Int} {t : Tok} {v : Value} {Q : Value → Shared → Prop} (N : News h₀ L s.heap news) (hm : (d, o) ∈ news) (hd : o.IsDictOf (intKind prog w) kvs) (hv : valueAt kvs k = some v)
    (h : Q v { s with toks := s.toks + 1 }) (hs : subscripted slice false (.ref d) (.int k t) = operate [.ref d, .int k t] (getItem (.ref d) (.int k t)) := by with_unfolding_all rfl) :
    wpAny (model prog w) A (subscriptTail value slice (.ref d) (.int k t)) Q E s := by
  have hm' := (Heap.dictOf_iff.mpr ⟨o, (N _ hm).1, hd⟩ : s.heap.DictOf (intKind prog w) d kvs).mapOf
  exact tail_any hm'.typeIs slot_dict_getitem.lookup (wpAny_getItem_of (intKind_is _ _ _ _) hm' hv h) hs
theorem dget_S {kvs : List (Str × Value)} {k : Str} {t : Tok} {v : Value} {Q : Value → Shared → Prop} (N : News h₀ L s.heap news) (hm : (d, o) ∈ news) (hd : o.IsDictOf (PySem.strKind prog w) kvs) (hv : valueAt kvs k = some v)
    (h : Q v { s with toks := s.toks + 1 }) (hs : subscripted slice false (.ref d) (.str k t) = operate [.ref d, .str k t] (getItem (.ref d) (.str k t)) := by with_unfolding_all rfl) :
    wpAny (model prog w) A (subscriptTail value slice (.ref d) (.str k t)) Q E s := by
  have hm' := (Heap.dictOf_iff.mpr ⟨o, (N _ hm).1, hd⟩ : s.heap.DictOf (PySem.strKind prog w) d kvs).mapOf
  exact tail_any hm'.typeIs slot_dict_getitem.lookup (wpAny_getItem_of (strKind_is _ _ _ _) hm' hv h) hs

theorem dset_I {kvs : List (Int × Value)} {k : Int} {t : Tok} {v : Value} {Q : Unit → Shared → Prop} (F : Fr h₀ L s.heap m) (N : News h₀ L s.heap news) (U : UpdF d o news g) (hd : o.IsDictOf (intKind prog w) kvs) (hz : kvs.length ≤ 1000)
    (h : ∀ h' o' tk, Fr h₀ L h' m → News h₀ L h' (g o') → o'.IsDictOf (intKind prog w) (stored kvs k v) → Q () { s with heap := h', toks := tk }) :
    wpAny (model prog w) A (setItem (.ref d) (.int k t) v) Q E s := by
  have z := N _ (updF_mem U)
  refine wpAny_setItem_pairs (hsz := by rw [sizeLine_eq]; omega) (intKind_is _ _ _ _) (Heap.dictOf_iff.mpr ⟨o, z.1, hd⟩) fun h' hd' hs => ?_
  obtain ⟨o', ho', hd''⟩ := Heap.dictOf_iff.mp hd'
  obtain ⟨F', N'⟩ := updF_news F N U hs ho'
  exact h h' o' _ F' N' hd''
theorem dset_S {kvs : List (Str × Value)} {k : Str} {t : Tok} {v : Value} {Q : Unit → Shared → Prop} (F : Fr h₀ L s.heap m) (N : News h₀ L s.heap news) (U : UpdF d o news g) (hd : o.IsDictOf (PySem.strKind prog w) kvs) (hz : kvs.length ≤ 1000)
    (h : ∀ h' o' tk, Fr h₀ L h' m → News h₀ L h' (g o') → o'.IsDictOf (PySem.strKind prog w) (stored kvs k v) → Q () { s with heap := h', toks := tk }) :
    wpAny (model prog w) A (setItem (.ref d) (.str k t) v) Q E s := by
  have z := N _ (updF_mem U)
  refine wpAny_setItem_pairs (hsz := by rw [sizeLine_eq]; omega) (strKind_is _ _ _ _) (Heap.dictOf_iff.mpr ⟨o, z.1, hd⟩) fun h' hd' hs => ?_
  obtain ⟨o', ho', hd''⟩ := Heap.dictOf_iff.mp hd'
  obtain ⟨F', N'⟩ := updF_news F N U hs ho'
  exact h h' o' _ F' N' hd''

theorem app_R {D a : Addr} {rs : List Addr} {n : Nat} {Q : Value → Shared → Prop} (F : Fr h₀ L s.heap m) (N : News h₀ L s.heap news) (U : UpdF D (W.listOf (rs.map Value.ref).toArray n) news g) (hz : rs.length ≤ 1000)
    (h : ∀ h', Fr h₀ L h' m → News h₀ L h' (g (W.listOf ((rs ++ [a]).map Value.ref).toArray (n + 1))) → Q .none { s with heap := h' }) :
    wpAny (model prog w) A (call (.builtin "list.append") [.ref D, .ref a]) Q E s := by
  have z := N _ (updF_mem U)
  refine append_at (hsz := by rw [sizeLine_eq]; simp; omega) z.1 fun h' hs ho => ?_
  obtain ⟨F', N'⟩ := updF_news F N U hs ho
  refine h h' F' ?_
  have e : ((rs.map Value.ref).toArray.push (Value.ref a)) = ((rs ++ [a]).map Value.ref).toArray := by simp
  rw [← e]; exact N'

theorem dlen_I {kvs : List (Int × Value)} {Q : Value → Shared → Prop} (N : News h₀ L s.heap news) (hm : (d, o) ∈ news) (hd : o.IsDictOf (intKind prog w) kvs) (hsys : (d == sysModules) = false) (hz : kvs.length ≤ 1000)
    (h : ∀ t tk, Q (.int (kvs.length : Int) t) { s with toks := tk }) : wpAny (model prog w) A (call (.builtin "len") [.ref d]) Q E s :=
  call_len_dict (knd := intKind prog w) hsys (Heap.dictOf_iff.mpr ⟨o, (N _ hm).1, hd⟩) (by omega) (h _ _)
end

/-! the plain law: merged stretches -/
abbrev Rec := List (Str × Tok) × Option (Int × Tok)
abbrev rec0 : Rec := ([], none)
def has (recs : List Rec) (k : Nat) (a : Str) : Bool := ((recs.getD k rec0).1.map (·.1)).contains a
/-- a has every record from i to j - 1 -/
def hasAll (recs : List Rec) (i j : Nat) (a : Str) : Bool := (List.range j).all fun k => decide (k < i) || has recs k a
def mps (recs : List Rec) (i j : Nat) : List (Str × Tok) := (recs.getD i rec0).1.filter fun p => hasAll recs (i + 1) j p.1
def mdl (recs : List Rec) (i : Nat) : Nat → Option (Int × Tok)
  | 0 => none
  | j + 1 => if j < i then none else (recs.getD j rec0).2.or (mdl recs i j)

theorem hasAll_iff {recs : List Rec} {i j : Nat} {a : Str} : hasAll recs i j a = true ↔ ∀ k, i ≤ k → k < j → has recs k a = true := by
  unfold hasAll
  rw [List.all_eq_true]
  constructor
  · intro h k h1 h2
    have := h k (List.mem_range.mpr h2)
    simp only [Bool.or_eq_true, decide_eq_true_eq] at this
    rcases this with h | h
    · omega
    · exact h
  · intro h k hk
    simp only [Bool.or_eq_true, decide_eq_true_eq]
    rcases Nat.lt_or_ge k i with h1 | h1
    · exact .inl h1
    · exact .inr (h k h1 (List.mem_range.mp hk))
theorem mps_one (recs : List Rec) (i : Nat) : mps recs i (i + 1) = (recs.getD i rec0).1 := by
  unfold mps
  rw [List.filter_eq_self]
  intro p _
  exact hasAll_iff.mpr fun k h1 h2 => by omega
theorem mdl_succ (recs : List Rec) (i j : Nat) : mdl recs i (j + 1) = if j < i then none else (recs.getD j rec0).2.or (mdl recs i j) := rfl
theorem mdl_low (recs : List Rec) (i : Nat) : ∀ j, j ≤ i → mdl recs i j = none
  | 0, _ => rfl
  | j + 1, h => by rw [mdl_succ, if_pos (by omega)]
theorem mdl_one (recs : List Rec) (i : Nat) : mdl recs i (i + 1) = (recs.getD i rec0).2 := by
  rw [mdl_succ, if_neg (by omega), mdl_low recs i i (Nat.le_refl _), Option.or_none]
theorem mps_cut {recs : List Rec} {i c j : Nat} (h1 : i < c) (h2 : c < j) :
    mps recs i j = (mps recs i c).filter fun p => ((mps recs c j).map (·.1)).contains p.1 := by
  unfold mps
  rw [List.filter_filter]
  apply List.filter_congr
  intro p _
  rw [Bool.eq_iff_iff, Bool.and_eq_true, List.contains_iff_mem]
  have key : p.1 ∈ ((recs.getD c rec0).1.filter fun q => hasAll recs (c + 1) j q.1).map (·.1) ↔ has recs c p.1 = true ∧ hasAll recs (c + 1) j p.1 = true := by
    unfold has
    rw [List.contains_iff_mem]
    simp only [List.mem_map, List.mem_filter]
    constructor
    · rintro ⟨q, ⟨hq, ha⟩, e⟩
      exact ⟨⟨q, hq, e⟩, e ▸ ha⟩
    · rintro ⟨⟨q, hq, e⟩, ha⟩
      exact ⟨q, ⟨hq, by rw [e]; exact ha⟩, e⟩
  rw [key, hasAll_iff, hasAll_iff, hasAll_iff]
  constructor
  · intro h
    exact ⟨⟨h c (by omega) h2, fun k a b => h k (by omega) b⟩, fun k a b => h k a (by omega)⟩
  · rintro ⟨⟨hc, hr⟩, hl⟩ k a b
    rcases Nat.lt_trichotomy k c with e | e | e
    · exact hl k a e
    · rw [e]; exact hc
    · exact hr k (by omega) b
theorem mdl_cut {recs : List Rec} {i c : Nat} (h1 : i < c) : ∀ j, c < j → mdl recs i j = (mdl recs c j).or (mdl recs i c)
  | 0, h => absurd h (Nat.not_lt_zero _)
  | j + 1, h => by
    rcases Nat.lt_or_ge c j with e | e
    · rw [mdl_succ, mdl_succ, if_neg (by omega), if_neg (by omega), mdl_cut h1 j e, Option.or_assoc]
    · have : j = c := by omega
      subst this
      rw [mdl_succ, mdl_succ, if_neg (by omega), if_neg (by omega), mdl_low recs j j (Nat.le_refl _), Option.or_none]
end Mine
end

section
open PySem PySem.W PyProof.Rows PyProof.Rows.LCg PyProof.Rows.LCt
set_option Elab.async false
set_option maxRecDepth 100000
namespace Mine
def RowsIn (w : World) (recs : List Rec) (lo : Nat) (kvs : List (Int × Value)) (R : Led) : Prop :=
  ∀ k, lo ≤ k → k < recs.length → ∃ l nl es, valueAt kvs (k : Int) = some (.ref l) ∧ (l, W.listOf (List.map Value.ref es).toArray nl) ∈ R ∧ es.length = recs.length - k ∧
    ∀ t, t < recs.length - k → EntryIn w R (es.getD t 0) (mps recs k (k + t + 1)) (mdl recs k (k + t + 1))
theorem RowsIn.mono {w : World} {recs : List Rec} {lo : Nat} {kvs : List (Int × Value)} {R R' : Led} (h : RowsIn w recs lo kvs R) (k : ∀ p ∈ R, p ∈ R') : RowsIn w recs lo kvs R' := by
  intro q h1 h2
  obtain ⟨l, nl, es, a, b, c, d⟩ := h q h1 h2
  exact ⟨l, nl, es, a, k _ b, c, fun t ht => (d t ht).mono k⟩
theorem mps_len {recs : List Rec} {i j : Nat} (h : ∀ k, (recs.getD k rec0).1.length ≤ 5) : (mps recs i j).length ≤ 1000 :=
  Nat.le_trans (List.length_filter_le _ _) (Nat.le_trans (h i) (by decide))
theorem upd_head {h₀ : Heap} {L : Addr} {h h' : Heap} {D : Addr} {o o' : Obj} {m : Str → Option Value} {nw rest : Led} (F : Fr h₀ L h m) (N : News h₀ L h nw) (hD : (D, o) ∈ nw) (hr : ∀ p ∈ rest, p ∈ nw ∧ p.1 ≠ D) (hs : Heap.SameBut D h h') (ho : h'.get? D = some o') :
    Fr h₀ L h' m ∧ News h₀ L h' ((D, o') :: rest) := by
  have z := N _ hD
  refine ⟨F.change hs z.2.1 z.2.2, fun p hp => ?_⟩
  rcases List.mem_cons.mp hp with rfl | hp
  · exact ⟨ho, z.2⟩
  · have y := N _ (hr p hp).1
    exact ⟨hs.extBut _ _ (hr p hp).2 y.1, y.2⟩
theorem valueAt_new {K : Type} [DecidableEq K] {kvs : List (K × Value)} {k : K} {v : Value} (h : valueAt kvs k = none) : valueAt (kvs ++ [(k, v)]) k = some v := by
  unfold valueAt at h ⊢
  rw [Option.map_eq_none_iff] at h
  rw [List.find?_append, h]
  simp
theorem valueAt_old {K : Type} [DecidableEq K] {kvs : List (K × Value)} {k q : K} {v u : Value} (h : valueAt kvs q = some u) : valueAt (kvs ++ [(k, v)]) q = some u := by
  unfold valueAt at h ⊢
  rw [Option.map_eq_some_iff] at h
  obtain ⟨x, hx, e⟩ := h
  rw [List.find?_append, hx]
  simp [e]
theorem getD_old {es : List Addr} {e : Addr} {q : Nat} (h : q < es.length) : (es ++ [e]).getD q 0 = es.getD q 0 := by
  rw [List.getD_eq_getElem?_getD, List.getD_eq_getElem?_getD, List.getElem?_append_left h]
theorem getD_new {es : List Addr} {e : Addr} {q : Nat} (h : q = es.length) : (es ++ [e]).getD q 0 = e := by
  rw [List.getD_eq_getElem?_getD, h, List.getElem?_append_right (Nat.le_refl _), Nat.sub_self]
  rfl
theorem small_down {q : Nat} (hz : q ≤ 8) : Builtin.Range.small ((q : Int) - 1) (-1) (-1) = true := by
  rcases q with _ | _ | _ | _ | _ | _ | _ | _ | _ | q
  all_goals first | omega | decide +kernel
theorem small_up {a b : Nat} (ha : a ≤ 20) (hb : b ≤ 20) : Builtin.Range.small (a : Int) (b : Int) 1 = true := by
  have h : ∀ x : Fin 21, ∀ y : Fin 21, Builtin.Range.small ((x.1 : Nat) : Int) ((y.1 : Nat) : Int) 1 = true := by decide +kernel
  exact h ⟨a, by omega⟩ ⟨b, by omega⟩
theorem size_up {a b : Nat} : Builtin.Range.rangeSize (a : Int) (b : Int) 1 = ((b - a : Nat) : Int) := by
  unfold Builtin.Range.rangeSize
  rw [if_pos (by decide)]
  split
  · rw [Int.ediv_one]; omega
  · omega
section
variable {prog : Program} {w : World} {A : Around} {E : Value → Shared → Prop} {s : Shared} {h₀ : Heap} {L : Addr} {m : Str → Option Value} {news rest : Led} {d : Addr} {o : Obj}
theorem dset_IH {kvs : List (Int × Value)} {k : Int} {t : Tok} {v : Value} {Q : Unit → Shared → Prop} (F : Fr h₀ L s.heap m) (N : News h₀ L s.heap news) (hD : (d, o) ∈ news) (rest : Led) (hr : ∀ p ∈ rest, p ∈ news ∧ p.1 ≠ d) (hd : o.IsDictOf (intKind prog w) kvs) (hz : kvs.length ≤ 1000)
    (h : ∀ h' o' tk, Fr h₀ L h' m → News h₀ L h' ((d, o') :: rest) → o'.IsDictOf (intKind prog w) (stored kvs k v) → Q () { s with heap := h', toks := tk }) :
    Halt (wpAny (model prog w) A (setItem (.ref d) (.int k t) v) Q E s) := by
  have z := N _ hD
  show wpAny _ _ _ _ _ _
  refine wpAny_setItem_pairs (hsz := by rw [sizeLine_eq]; omega) (intKind_is _ _ _ _) (Heap.dictOf_iff.mpr ⟨o, z.1, hd⟩) fun h' hd' hs => ?_
  obtain ⟨o', ho', hd''⟩ := Heap.dictOf_iff.mp hd'
  obtain ⟨F', N'⟩ := upd_head F N hD hr hs ho'
  exact h h' o' _ F' N' hd''
theorem dset_SH {kvs : List (Str × Value)} {k : Str} {t : Tok} {v : Value} {Q : Unit → Shared → Prop} (F : Fr h₀ L s.heap m) (N : News h₀ L s.heap news) (hD : (d, o) ∈ news) (rest : Led) (hr : ∀ p ∈ rest, p ∈ news ∧ p.1 ≠ d) (hd : o.IsDictOf (PySem.strKind prog w) kvs) (hz : kvs.length ≤ 1000)
    (h : ∀ h' o' tk, Fr h₀ L h' m → News h₀ L h' ((d, o') :: rest) → o'.IsDictOf (PySem.strKind prog w) (stored kvs k v) → Q () { s with heap := h', toks := tk }) :
    Halt (wpAny (model prog w) A (setItem (.ref d) (.str k t) v) Q E s) := by
  have z := N _ hD
  show wpAny _ _ _ _ _ _
  refine wpAny_setItem_pairs (hsz := by rw [sizeLine_eq]; omega) (strKind_is _ _ _ _) (Heap.dictOf_iff.mpr ⟨o, z.1, hd⟩) fun h' hd' hs => ?_
  obtain ⟨o', ho', hd''⟩ := Heap.dictOf_iff.mp hd'
  obtain ⟨F', N'⟩ := upd_head F N hD hr hs ho'
  exact h h' o' _ F' N' hd''
theorem mod_T {a b : Int} {t u : Tok} {Q : Value → Shared → Prop} (hb : b ≠ 0) (h : ∀ t' tk', Q (.int (a.fmod b) t') { s with toks := tk' }) : wpAny (model prog w) A (binaryOp .Mod (.int a t) (.int b u)) Q E s := mod_int' hb (h _ _)
theorem add_T {a b : Int} {t u : Tok} {Q : Value → Shared → Prop} (h : ∀ t' tk', Q (.int (a + b) t') { s with toks := tk' }) : wpAny (model prog w) A (binaryOp .Add (.int a t) (.int b u)) Q E s := add_int (h _ _)
theorem sub_T {a b : Int} {t u : Tok} {Q : Value → Shared → Prop} (h : ∀ t' tk', Q (.int (a - b) t') { s with toks := tk' }) : wpAny (model prog w) A (binaryOp .Sub (.int a t) (.int b u)) Q E s := sub_int (h _ _)
theorem app_RH {D a : Addr} {rs : List Addr} {n : Nat} {Q : Value → Shared → Prop} (F : Fr h₀ L s.heap m) (N : News h₀ L s.heap news) (hD : (D, W.listOf (rs.map Value.ref).toArray n) ∈ news) (rest : Led) (hr : ∀ p ∈ rest, p ∈ news ∧ p.1 ≠ D) (hz : rs.length ≤ 1000)
    (h : ∀ h', Fr h₀ L h' m → News h₀ L h' ((D, W.listOf ((rs ++ [a]).map Value.ref).toArray (n + 1)) :: rest) → Q .none { s with heap := h' }) :
    Halt (wpAny (model prog w) A (call (.builtin "list.append") [.ref D, .ref a]) Q E s) := by
  have z := N _ hD
  show wpAny _ _ _ _ _ _
  refine append_at (hsz := by rw [sizeLine_eq]; simp; omega) z.1 fun h' hs ho => ?_
  obtain ⟨F', N'⟩ := upd_head F N hD hr hs ho
  refine h h' F' ?_
  have e : ((rs.map Value.ref).toArray.push (Value.ref a)) = ((rs ++ [a]).map Value.ref).toArray := by simp
  rw [← e]; exact N'
end
theorem rows_ar {n i u j c a b d : Nat} {x : Int} {P : Prop} (hu : u < n - 1 - i) (hj : j = i + 2 + u) (hz : n ≤ 8) (h1 : a = n) (h2 : b = u + 1) (h3 : d = n - c) (hc : (i : Int) + 1 + x = (c : Int)) (hc1 : i + 1 ≤ c) (hc2 : c + 1 ≤ j)
    (k : (0 : Int) ≤ (j : Int) - 1 → (j : Int) - 1 < (a : Int) → a ≤ 1000 → (j : Int) - (i : Int) - 1 ≠ 0 → 0 ≤ (i : Int) + 1 + x - (i : Int) - 1 → (i : Int) + 1 + x - (i : Int) - 1 < (b : Int) → b ≤ 1000 → 0 ≤ (j : Int) - ((i : Int) + 1 + x) - 1 → (j : Int) - ((i : Int) + 1 + x) - 1 < (d : Int) → d ≤ 1000 →
      ((i : Int) + 1 + x - (i : Int) - 1).toNat = c - i - 1 → ((j : Int) - ((i : Int) + 1 + x) - 1).toNat = j - c - 1 → c - i - 1 < u + 1 → j - c - 1 < n - c → i + (c - i - 1) + 1 = c → c + (j - c - 1) + 1 = j → i < c → c < j → P) : P := by
  rw [hc] at k; subst h1 h2 h3; clear hc
  have g := Nat.add_lt_of_lt_sub (Nat.add_lt_of_lt_sub hu)
  have q6 : j ≤ a := by clear hc1 hc2 hu k; omega
  have q5 : c ≤ i + 1 + u := by clear g hu q6 hc1 hz k; omega
  have q0 : i + 2 ≤ j := by clear g hu q6 hc1 hc2 hz k q5; omega
  have q3 : u + 1 ≤ 1000 := by clear hu hj hc1 hc2 q6 q5 q0 k; omega
  have q2 : a ≤ 1000 := Nat.le_trans hz (by decide)
  clear g hj hu hz
  refine k ?_ ?_ q2 ?_ ?_ ?_ q3 ?_ ?_ (Nat.le_trans (Nat.sub_le _ _) q2) ?_ ?_ ?_ ?_ ?_ ?_ hc1 hc2
  all_goals clear q2 q3 k
  · clear q5 q6 hc2 hc1; omega
  · clear q5 hc2 hc1 q0; omega
  · clear q5 q6 hc2 hc1; omega
  · clear q5 q6 hc2 q0; omega
  · clear q6 hc2 q0; omega
  · clear q5 q6 hc1 q0; omega
  · clear q5 hc1 q0; omega
  · clear q5 q6 hc2 q0; omega
  · clear q5 q6 hc1 q0; omega
  · clear q6 hc2 q0; omega
  · clear q5 hc1 q0; omega
  · clear q5 q6 hc2 q0; omega
  · clear q5 q6 hc1 q0; omega
theorem rows_cut {i j : Nat} (a : Int) (h : i + 2 ≤ j) : ∃ c : Nat, (i : Int) + 1 + a.fmod ((j : Int) - (i : Int) - 1) = (c : Int) ∧ i + 1 ≤ c ∧ c + 1 ≤ j := by
  have g1 : (0 : Int) < (j : Int) - (i : Int) - 1 := by omega
  have g2 := Int.fmod_nonneg_of_pos a g1
  have g3 := Int.fmod_lt_of_pos a g1
  generalize a.fmod ((j : Int) - (i : Int) - 1) = x at g2 g3 ⊢
  exact ⟨((i : Int) + 1 + x).toNat, by omega, by omega, by omega⟩
theorem rows_in {n i u j c : Nat} (hu : u < n - 1 - i) (hj : j = i + 2 + u) (hc2 : c + 1 ≤ j) : c < n := by omega
theorem rows_end {n t i k q b : Nat} (hi : i + t + 1 = n) (hb : b = n - 1 - i + 1) : n - (t + 1) = i ∧ b = n - i ∧ (q < n - i → q < n - 1 - i + 1) ∧ (i + 1 ≤ k → n - t ≤ k) := by
  have e1 : n - t = i + 1 := by clear hb; omega
  have e2 : n - i = t + 1 := by clear hb e1; omega
  have e3 : n - 1 - i = t := by clear hb e1 e2; omega
  rw [e1, e2, e3]; rw [e3] at hb
  exact ⟨by rw [Nat.sub_add_eq, e1]; rfl, hb, id, id⟩
theorem rows_at {n t a : Nat} {i : Nat} {P : Prop} (hi : i + t + 1 = n) (ha : a = n) (hz : n ≤ 8) (k : (a : Int) - 1 + (t : Int) * -1 = (i : Int) → i + 2 ≤ 20 → a + 1 ≤ 20 → n - 1 - i = a + 1 - (i + 2) → t ≤ 1000 → i < n → a ≤ 1000 → (0 : Int) ≤ (i : Int) → (i : Int) < (a : Int) → P) : P := by
  subst ha
  have q : i < a := by omega
  have q1 : t < a := by omega
  refine k (by clear q q1 hz; omega) ?_ ?_ ?_ ?_ q ?_ (Int.natCast_nonneg i) (Int.ofNat_lt.mpr q)
  all_goals clear hi
  all_goals omega
theorem rows_q {i u j q : Nat} (hj : j = i + 2 + u) (e : q = u + 1) : i + q + 1 = j := by omega
theorem rows_ij {i u j : Nat} (hj : j = i + 2 + u) : i + 2 ≤ j := by omega
theorem rows_j {i u j : Nat} (hj : j = i + 2 + u) : (i : Int) + 2 + (u : Int) * 1 = (j : Int) := by omega
theorem rows_none {n t i : Nat} {x : Int} (hi : i + t + 1 = n) (h : ((n - t : Nat) : Int) ≤ x) : x ≠ (i : Int) ∧ (i : Int) ≤ x := by omega
end Mine
end

section
open PySem PySem.W PyProof.Rows PyProof.Rows.LCg PyProof.Rows.LCt
set_option Elab.async false
set_option maxRecDepth 100000
namespace Mine
section
variable {prog : Program} {w : World} {A : Around} {E : Value → Shared → Prop} {h₀ : Heap} {L : Addr} {m : Str → Option Value} {env : Env} {news : Led}
  {ct elt : Expr} {x : Str} {scope : Scope} {cl : List (Str × Addr)} {Fin : Shared → List Value → Led → Prop} {s₁ : Shared}

/-- a comprehension with a test over a range; a turn leaves nothing but its item -/
theorem srcT_range {r : Addr} {a b : Int} {t u v : Tok} {n : Nat} (J : Nat → List Value → Prop) (hh : A.handled = none) (F : Fr h₀ L s₁.heap m) (N : News h₀ L s₁.heap news) (hm : (r, rangeObj a b 1 t u v) ∈ news)
    (hsm : Builtin.Range.small a b 1 = true) (hn : Builtin.Range.rangeSize a b 1 = ((n : Nat) : Int)) (hsz : n ≤ 1000) (h0 : J 0 [])
    (step : ∀ i t ys I oI C oC D m₂ h tk (E' : Value → Shared → Prop), i < n → J i ys → NsObj oC m₂ → m₂ x = some (.int (a + (i : Int)) t) → Fr h₀ L h m → News h₀ L h ((I, oI) :: (C, oC) :: (D, lst ys) :: news) →
      wpAny (model prog w) A (isTrue ct (compEnvC scope cl C env) (eval ct (compEnvC scope cl C env))) (fun ok s' => if ok = true then
        wpAny (model prog w) A (eval elt (compEnvC scope cl C env)) (fun y s' => Halt (J (i + 1) (ys ++ [y]) ∧ ∃ h' tk', s' = { s₁ with heap := h', toks := tk' } ∧ Fr h₀ L h' m ∧ News h₀ L h' ((I, oI) :: (C, oC) :: (D, lst ys) :: news))) E' s'
        else Halt (J (i + 1) ys ∧ ∃ h' tk', s' = { s₁ with heap := h', toks := tk' } ∧ Fr h₀ L h' m ∧ News h₀ L h' ((I, oI) :: (C, oC) :: (D, lst ys) :: news))) E' { s₁ with heap := h, toks := tk })
    (fin : ∀ g ys, J n ys → Fin { s₁ with heap := g } ys news) :
    Halt (CompSrcT prog w A h₀ L m env ct elt x scope cl Fin (.ref r) s₁) := by
  refine CompSrcT.range hh F N (show IsRange s₁.heap r a b 1 t u v from (N _ hm).1) hsm hn (Nat.le_trans hsz (by show 1000 ≤ 16777216; decide)) fun g => ?_
  refine compRestT_ind (n := n) (fun i ys nw => nw = news ∧ J i ys) (fun ys nw hJ => hJ.1 ▸ fin g ys hJ.2) ?_ n 0 [] news (by omega) ⟨rfl, h0⟩
  rintro i ys nw hi ⟨rfl, hJ⟩ v I oI C oC D m₂ h tk E' ⟨t, rfl⟩ hC hx F₁ N₁ off ne
  refine wpAny_mono (step i t ys I oI C oC D m₂ h tk E' hi hJ hC hx F₁ N₁) (fun ok s' h' => ?_) fun _ _ e => e
  cases ok with
  | true =>
    simp only [if_true] at h' ⊢
    refine wpAny_mono h' (fun y s' h'' => ?_) fun _ _ e => e
    obtain ⟨hj, h6, tk6, rfl, F6, N6⟩ := h''
    exact ⟨h6, tk6, nw, rfl, F6, N6, off, trivial, rfl, hj⟩
  | false =>
    simp only [Bool.false_eq_true, if_false] at h' ⊢
    obtain ⟨hj, h6, tk6, rfl, F6, N6⟩ := h'
    exact ⟨h6, tk6, nw, rfl, F6, N6, off, trivial, rfl, hj⟩

/-- a comprehension without a test over a list of the ledger; a turn may leave things behind -/
theorem src_listG {l : Addr} {vs : List Value} {nl : Nat} (J : Nat → List Value → Led → Prop) (hh : A.handled = none) (F : Fr h₀ L s₁.heap m) (N : News h₀ L s₁.heap news) (hm : (l, W.listOf vs.toArray nl) ∈ news) (hsz : vs.length ≤ 1000) (h0 : J 0 [] news)
    (step : ∀ i v ys nw I oI C oC D m₂ h tk (E' : Value → Shared → Prop), vs[i]? = some v → J i ys nw → (l, W.listOf vs.toArray nl) ∈ nw → NsObj oC m₂ → m₂ x = some v → Fr h₀ L h m → News h₀ L h ((I, oI) :: (C, oC) :: (D, lst ys) :: nw) →
      wpAny (model prog w) A (eval elt (compEnvC scope cl C env)) (fun y s' => Halt (∃ h' tk' tl, s' = { s₁ with heap := h', toks := tk' } ∧ Fr h₀ L h' m ∧ News h₀ L h' (tl ++ (I, oI) :: (C, oC) :: (D, lst ys) :: nw) ∧ (∀ q ∈ (I, oI) :: (C, oC) :: (D, lst ys) :: nw, ∀ p ∈ tl, q.1 < p.1) ∧ J (i + 1) (ys ++ [y]) (tl ++ nw))) E' { s₁ with heap := h, toks := tk })
    (fin : ∀ g ys nw, J vs.length ys nw → Fin { s₁ with heap := g } ys nw) :
    Halt (CompSrc prog w A h₀ L m env elt x scope cl Fin (.ref l) s₁) := by
  have hsv : vs.toArray.size = vs.length := List.size_toArray
  refine CompSrc.ledger hh F N hm (by rw [hsv]; exact Nat.le_trans hsz (by show 1000 ≤ 16777216; decide)) fun g => ?_
  rw [hsv]
  refine compRest_ind (n := vs.length) (fun i ys nw => (l, W.listOf vs.toArray nl) ∈ nw ∧ J i ys nw) (fun ys nw hJ => fin g ys nw hJ.2) ?_ vs.length 0 [] news (by omega) ⟨hm, h0⟩
  rintro i ys nw hi ⟨hmn, hJ⟩ v I oI C oC D m₂ h tk E' hv hC hx F₁ N₁ off ne
  refine wpAny_mono (step i v ys nw I oI C oC D m₂ h tk E' (by simpa using hv) hJ hmn hC hx F₁ N₁) (fun y s' h'' => ?_) fun _ _ e => e
  obtain ⟨h6, tk6, tl, rfl, F6, N6, hlt, hj⟩ := h''
  refine ⟨h6, tk6, tl ++ nw, rfl, F6, fun p hp => N6 p ?_, Off3.of fun p hp => ?_, .inr ⟨_, List.mem_append_right _ hmn, rfl, _, rfl⟩, List.mem_append_right _ hmn, hj⟩
  · simp only [List.mem_cons, List.mem_append] at hp ⊢
    rcases hp with h | h | h | h | h
    · exact .inr (.inl h)
    · exact .inr (.inr (.inl h))
    · exact .inr (.inr (.inr (.inl h)))
    · exact .inl h
    · exact .inr (.inr (.inr (.inr h)))
  · rcases List.mem_append.mp hp with hp | hp
    · exact ⟨Nat.ne_of_gt (hlt (I, oI) (by simp) p hp), Nat.ne_of_gt (hlt (C, oC) (by simp) p hp), Nat.ne_of_gt (hlt (D, lst ys) (by simp) p hp)⟩
    · exact off.mem p hp

/-- the same where a turn leaves nothing but its item -/
theorem src_list {l : Addr} {vs : List Value} {nl : Nat} (J : Nat → List Value → Prop) (hh : A.handled = none) (F : Fr h₀ L s₁.heap m) (N : News h₀ L s₁.heap news) (hm : (l, W.listOf vs.toArray nl) ∈ news) (hsz : vs.length ≤ 1000) (h0 : J 0 [])
    (step : ∀ i v ys I oI C oC D m₂ h tk (E' : Value → Shared → Prop), vs[i]? = some v → J i ys → NsObj oC m₂ → m₂ x = some v → Fr h₀ L h m → News h₀ L h ((I, oI) :: (C, oC) :: (D, lst ys) :: news) →
      wpAny (model prog w) A (eval elt (compEnvC scope cl C env)) (fun y s' => Halt (J (i + 1) (ys ++ [y]) ∧ ∃ h' tk', s' = { s₁ with heap := h', toks := tk' } ∧ Fr h₀ L h' m ∧ News h₀ L h' ((I, oI) :: (C, oC) :: (D, lst ys) :: news))) E' { s₁ with heap := h, toks := tk })
    (fin : ∀ g ys, J vs.length ys → Fin { s₁ with heap := g } ys news) :
    Halt (CompSrc prog w A h₀ L m env elt x scope cl Fin (.ref l) s₁) := by
  refine src_listG (fun i ys nw => nw = news ∧ J i ys) hh F N hm hsz ⟨rfl, h0⟩ ?_ (fun g ys nw hJ => hJ.1 ▸ fin g ys hJ.2)
  rintro i v ys nw I oI C oC D m₂ h tk E' hv ⟨rfl, hJ⟩ hmn hC hx F₁ N₁
  refine wpAny_mono (step i v ys I oI C oC D m₂ h tk E' hv hJ hC hx F₁ N₁) (fun y s' h'' => ?_) fun _ _ e => e
  obtain ⟨hj, h6, tk6, rfl, F6, N6⟩ := h''
  exact ⟨h6, tk6, [], rfl, F6, N6, fun _ _ p hp => (nomatch hp), rfl, hj⟩
end
section
variable {M : Model} {A : Around} {E : Value → Shared → Prop} {s : Shared} {h₀ : Heap} {L a : Addr} {m : Str → Option Value} {cn : Str} {cs : Scope} {ccd : Value} {cl : List (Str × Addr)}
  {x : Str} {v : Value} {news : Led} {c : Addr} {o : Obj} {v₀ : Option Value}
/-- a store into a cell of the ledger -/
theorem storeX_H {Q : Unit → Shared → Prop} (F : Fr h₀ L s.heap m) (N : News h₀ L s.heap news) (hc : cl.lookup x = some c) (hm : (c, o) ∈ news) (hd : o.data = .cell v₀) (rest : Led) (hr : ∀ p ∈ rest, p ∈ news ∧ p.1 ≠ c)
    (h : ∀ h' o', Fr h₀ L h' m → News h₀ L h' ((c, o') :: rest) → o'.data = .cell (some v) → Q () { s with heap := h' })
    (hk : cs.kind = .function := by rfl) (hx : (envX cn cs L a ccd cl).kindOf x = some .cell := by rfl) : wpAny M A (storeName (envX cn cs L a ccd cl) x v) Q E s := by
  have z := N _ hm
  refine wpAny_storeName_cell hk hx hc ⟨o, z.1, hd⟩ fun h' hv hs => ?_
  obtain ⟨o', ho', hd'⟩ := hv
  obtain ⟨F', N'⟩ := upd_head F N hm hr hs ho'
  exact h h' o' F' N' hd'
end
end Mine
end

section
open PySem PySem.W PyProof.Rows PyProof.Rows.LCg PyProof.Rows.LCt
set_option Elab.async false
set_option maxRecDepth 100000
namespace Mine
/-- the records without a, and their number behind them -/
def lack (recs : List Rec) (a : Str) : List Int := ((List.range recs.length).filter fun k => !has recs k a).map (fun (k : Nat) => (k : Int)) ++ [(recs.length : Int)]
def LacksIn (recs : List Rec) (as : List Str) (kvs : List (Str × Value)) (R : Led) : Prop :=
  ∀ a ∈ as, ∃ l nl ns, valueAt kvs a = some (.ref l) ∧ (l, W.listOf (List.map iv ns).toArray nl) ∈ R ∧ ns.map (·.1) = lack recs a
theorem five_at {vs : List Value} {k1 k2 k3 k4 k5 : Tok} (e : vs = [.str (Str.ofString "fig") k1, .str (Str.ofString "Fig") k2, .str (Str.ofString "ig") k3, .str (Str.ofString "*") k4, .str (Str.ofString "plum") k5]) {t : Nat} {v : Value} (hv : vs[t]? = some v) :
    ∃ a tv, v = .str a tv ∧ a ∉ five.take t ∧ five.take (t + 1) = five.take t ++ [a] ∧ t < 5 := by
  subst e
  rcases t with _ | _ | _ | _ | _ | t
  all_goals simp only [List.getElem?_cons_zero, List.getElem?_cons_succ, List.getElem?_nil, Option.some.injEq, reduceCtorEq] at hv
  all_goals (subst hv; exact ⟨_, _, rfl, by decide +kernel, by decide +kernel, by decide⟩)
theorem range_snoc_yes {recs : List Rec} {a : Str} {i : Nat} (h : has recs i a = false) : ((List.range (i + 1)).filter fun k => !has recs k a).map (fun (k : Nat) => (k : Int)) = ((List.range i).filter fun k => !has recs k a).map (fun (k : Nat) => (k : Int)) ++ [(i : Int)] := by
  rw [List.range_succ, List.filter_append, List.map_append]
  simp [h]
theorem range_snoc_no {recs : List Rec} {a : Str} {i : Nat} (h : has recs i a = true) : ((List.range (i + 1)).filter fun k => !has recs k a).map (fun (k : Nat) => (k : Int)) = ((List.range i).filter fun k => !has recs k a).map (fun (k : Nat) => (k : Int)) := by
  rw [List.range_succ, List.filter_append, List.map_append]
  simp [h]
end Mine
end

section
open PySem PySem.W PyProof.Rows PyProof.Rows.LCg PyProof.Rows.LCt
set_option Elab.async false
set_option maxRecDepth 100000
namespace Mine
/-- what a table of inner codes holds: nothing, or the one code told in the ledger -/
def TabOk (pos : Pos) (qual : Str) (ps : Array Value) (R : Led) : Prop :=
  ps = #[] ∨ ∃ c' oc vs t, ps = #[rawInt pos.line, rawInt pos.col, .ref c'] ∧ (c', oc) ∈ R ∧ oc.data = .fields vs ∧ vs[1]? = some (.str qual t)
theorem TabOk.mono {pos : Pos} {qual : Str} {ps : Array Value} {R R' : Led} (h : TabOk pos qual ps R) (k : ∀ p ∈ R, p ∈ R') : TabOk pos qual ps R' := by
  rcases h with h | ⟨c', oc, vs, t, a, b, r⟩
  · exact .inl h
  · exact .inr ⟨c', oc, vs, t, a, k _ b, r⟩
section
variable {M : Model} {A : Around} {E : Value → Shared → Prop} {s : Shared} {h₀ : Heap} {L a c P : Addr} {m mg mb : Str → Option Value} {cn : Str} {cs : Scope} {ccd : Value} {cl : List (Str × Addr)} {news : Led}
  {p : Program} {loose : List Str} {mean : ExcName → Option Value} {name qual : Str} {params : Arguments} {body : Expr} {scope : Scope} {ps : Array Value} {pos : Pos} {firstLine : Nat} {clos : List (Str × Addr)}
theorem lam_N {Q : Value → Shared → Prop} (F : Fr h₀ L s.heap m) (N : News h₀ L s.heap news) (T : Top p loose mean mg mb h₀) (C : CodeHd h₀ c P) (hcd : ccd = .ref c) (hm : (P, tabObj ps) ∈ news) (rest : Led) (hr : ∀ q ∈ rest, q ∈ news ∧ q.1 ≠ P) (R₀ : Led) (hok : TabOk pos qual ps R₀) (hR₀ : ∀ q ∈ R₀, q ∈ rest)
    (hcl : closureFor scope (envX cn cs L a ccd cl) = pure clos)
    (h : ∀ f c' oc vs t ctv ps' tl h' tk, Fr h₀ L h' m → News h₀ L h' ((f, kla_obj name qual params body scope clos ((mg "__name__").getD .none) c' ctv) :: (P, tabObj ps') :: (tl ++ rest)) → (c', oc) ∈ tl ++ rest → oc.data = .fields vs → vs[1]? = some (.str qual t) →
      TabOk pos qual ps' (tl ++ R₀) → (∀ q ∈ (P, tabObj ps) :: rest, q.1 < f ∧ ∀ p ∈ tl, q.1 < p.1) → (∀ p ∈ tl, p.1 < f) → Q (.ref f) { s with heap := h', toks := tk }) :
    wpAny M A (makeFunction name qual params (.expr body) scope (envX cn cs L a ccd cl) [] [] [] pos firstLine) Q E s := by
  have N' : News h₀ L s.heap ((P, tabObj ps) :: rest) := fun q hq => by
    rcases List.mem_cons.mp hq with rfl | hq
    · exact N _ hm
    · exact N _ (hr q hq).1
  rcases hok with rfl | ⟨c', oc, vs, t, rfl, hc₀, hd', hv'⟩
  · refine kla_nest F N' T C hcd (.head fun q hq => (hr q hq).2) (by simp [TriplesOk]) (by simp [codeAmong]) hcl fun f c' oc vs t ctv h' tk F₁ N₁ d1 d2 l1 l2 => ?_
    refine h f c' oc vs t ctv _ [(c', oc)] h' tk F₁ (fun q hq => N₁ q ?_) (by simp) d1 d2 (.inr ⟨c', oc, vs, t, rfl, by simp, d1, d2⟩) (fun q hq => ⟨Nat.lt_trans (l1 q hq) l2, fun p hp => by rw [List.mem_singleton.mp hp]; exact l1 q hq⟩) (fun p hp => by rw [List.mem_singleton.mp hp]; exact l2)
    simp only [List.mem_cons, List.singleton_append] at hq ⊢
    rcases hq with h | h | h | h
    · exact .inl h
    · exact .inr (.inr (.inl h))
    · exact .inr (.inl h)
    · exact .inr (.inr (.inr h))
  · have hc' := hR₀ _ hc₀
    refine kla_hit (c' := c') F N' T C hcd List.mem_cons_self (by simp [TriplesOk, rawInt]) (by simp [codeAmong, rawInt]) hcl fun f ctv h' tk F₁ N₁ l1 => ?_
    exact h f c' oc vs t ctv _ [] h' tk F₁ N₁ hc' hd' hv' (.inr ⟨c', oc, vs, t, rfl, hc₀, hd', hv'⟩) (fun q hq => ⟨l1 q hq, fun p hp => (nomatch hp)⟩) (fun p hp => nomatch hp)
end
end Mine
end

section
open PySem PySem.W PyProof.Rows
set_option Elab.async false
set_option maxRecDepth 100000
namespace Mine
theorem lack_sorted (recs : List Rec) (a : Str) : (lack recs a).Pairwise (· ≤ ·) := by
  unfold lack
  rw [List.pairwise_append]
  refine ⟨?_, by simp, ?_⟩
  · rw [List.pairwise_map]
    refine List.Pairwise.imp (fun {x y} h => ?_) (List.Pairwise.filter _ List.pairwise_lt_range)
    omega
  · intro x hx y hy
    rw [List.mem_singleton] at hy
    rw [List.mem_map] at hx
    obtain ⟨k, hk, rfl⟩ := hx
    have := List.mem_range.mp (List.mem_filter.mp hk).1
    omega
theorem mem_lack {recs : List Rec} {a : Str} {x : Int} : x ∈ lack recs a ↔ (∃ k : Nat, x = (k : Int) ∧ k < recs.length ∧ has recs k a = false) ∨ x = (recs.length : Int) := by
  unfold lack
  simp only [List.mem_append, List.mem_map, List.mem_filter, List.mem_range, List.mem_singleton]
  constructor
  · rintro (⟨k, ⟨h1, h2⟩, rfl⟩ | h)
    · exact .inl ⟨k, rfl, h1, by simpa using h2⟩
    · exact .inr h
  · rintro (⟨k, rfl, h1, h2⟩ | h)
    · exact .inl ⟨k, ⟨h1, by simpa using h2⟩, rfl⟩
    · exact .inr h
/-- V is where a, from record i on, ends -/
def LastAt (recs : List Rec) (a : Str) (i : Nat) (V : Int) : Prop := ∃ v : Nat, V = (v : Int) ∧ i ≤ v ∧ v ≤ recs.length ∧ (∀ x, i ≤ x → x < v → has recs x a = true) ∧ (v < recs.length → has recs v a = false)
theorem lastAt_of {recs : List Rec} {a : Str} {i : Nat} {ns : List (Int × Tok)} (hns : ns.map (·.1) = lack recs a) {k : Nat} (hk : k < ns.length) (hlo : ∀ j < k, (ns.getD j (0, 0)).1 < (i : Int)) (hV : (i : Int) ≤ (ns.getD k (0, 0)).1) :
    LastAt recs a i (ns.getD k (0, 0)).1 := by
  have hget : ∀ j, j < ns.length → (ns.getD j (0, 0)).1 ∈ lack recs a := by
    intro j hj
    rw [← hns, List.getD_eq_getElem?_getD, List.getElem?_eq_getElem hj]
    exact List.mem_map_of_mem (List.getElem_mem hj)
  have hmin : ∀ y ∈ lack recs a, (i : Int) ≤ y → (ns.getD k (0, 0)).1 ≤ y := by
    intro y hy hiy
    rw [← hns] at hy
    obtain ⟨q, hq, rfl⟩ := List.mem_map.mp hy
    obtain ⟨j, hj, rfl⟩ := List.getElem_of_mem hq
    have e : (ns.getD j (0, 0)) = ns[j] := by rw [List.getD_eq_getElem?_getD, List.getElem?_eq_getElem hj]; rfl
    rcases Nat.lt_or_ge j k with h | h
    · have := hlo j h
      rw [e] at this
      omega
    · rw [← e]
      exact sorted_le (hns ▸ lack_sorted recs a) h hj
  have hmem := hget k hk
  generalize (ns.getD k (0, 0)).1 = V at *
  obtain ⟨v, rfl⟩ : ∃ v : Nat, V = (v : Int) := ⟨V.toNat, by omega⟩
  have hvn : v ≤ recs.length := by
    rcases mem_lack.mp hmem with ⟨k', e, h, _⟩ | e <;> omega
  refine ⟨v, rfl, by omega, hvn, fun x h1 h2 => ?_, fun h => ?_⟩
  · cases hh : has recs x a with
    | true => rfl
    | false =>
      have := hmin (x : Int) (mem_lack.mpr (.inl ⟨x, rfl, by omega, hh⟩)) (by omega)
      omega
  · rcases mem_lack.mp hmem with ⟨k', e, _, h'⟩ | e
    · have : v = k' := by omega
      rw [this]; exact h'
    · omega
theorem lack_reach {recs : List Rec} {a : Str} {i : Nat} {ns : List (Int × Tok)} (hns : ns.map (·.1) = lack recs a) (hi : i ≤ recs.length) : ∃ j, j < ns.length ∧ (i : Int) ≤ (ns.getD j (0, 0)).1 := by
  have h : (recs.length : Int) ∈ ns.map (·.1) := by rw [hns]; exact mem_lack.mpr (.inr rfl)
  obtain ⟨q, hq, e⟩ := List.mem_map.mp h
  obtain ⟨j, hj, rfl⟩ := List.getElem_of_mem hq
  refine ⟨j, hj, ?_⟩
  rw [List.getD_eq_getElem?_getD, List.getElem?_eq_getElem hj]
  show (i : Int) ≤ ns[j].1
  rw [e]; omega
theorem mem_mps {recs : List Rec} {a : Str} {i j : Nat} (h : i < j) : a ∈ (mps recs i j).map (·.1) ↔ ∀ x, i ≤ x → x < j → has recs x a = true := by
  unfold mps
  simp only [List.mem_map, List.mem_filter]
  constructor
  · rintro ⟨p, ⟨hp, hh⟩, rfl⟩ x h1 h2
    rcases Nat.lt_or_ge i x with h3 | h3
    · exact hasAll_iff.mp hh x h3 h2
    · have : x = i := by omega
      subst this
      unfold has
      rw [List.contains_iff_mem]
      exact List.mem_map_of_mem hp
  · intro hall
    have h0 := hall i (Nat.le_refl _) h
    unfold has at h0
    rw [List.contains_iff_mem] at h0
    obtain ⟨p, hp, rfl⟩ := List.mem_map.mp h0
    exact ⟨p, ⟨hp, hasAll_iff.mpr fun x h1 h2 => hall x (by omega) h2⟩, rfl⟩
theorem mem_mps_last {recs : List Rec} {a : Str} {i j : Nat} {V : Int} (hV : LastAt recs a i V) (h : i < j) (hj : j ≤ recs.length) : a ∈ (mps recs i j).map (·.1) ↔ (j : Int) ≤ V := by
  obtain ⟨v, rfl, h1, h2, h3, h4⟩ := hV
  rw [mem_mps h]
  constructor
  · intro hall
    rcases Nat.lt_or_ge v j with h5 | h5
    · have := hall v h1 h5
      rw [h4 (by omega)] at this
      cases this
    · omega
  · intro hle x h5 h6
    exact h3 x h5 (by omega)
theorem appl_iff {fits : List Str} {ps : List (Str × Tok)} : appl fits ps = true ↔ ∃ a ∈ fits, a ∈ ps.map (·.1) := by
  unfold appl
  rw [List.any_eq_true]
  constructor
  · rintro ⟨p, hp, h⟩
    exact ⟨p.1, List.contains_iff_mem.mp h, List.mem_map_of_mem hp⟩
  · rintro ⟨a, ha, h⟩
    obtain ⟨p, hp, rfl⟩ := List.mem_map.mp h
    exact ⟨p, hp, List.contains_iff_mem.mpr ha⟩
/-- the row's applies: up to the farthest end -/
theorem appl_row {recs : List Rec} {fits : List Str} {i j : Nat} {V : Str → Int} {M : Int} (hV : ∀ a ∈ fits, LastAt recs a i (V a)) (hM : ∃ a ∈ fits, V a = M) (hmax : ∀ a ∈ fits, V a ≤ M) (h : i < j) (hj : j ≤ recs.length) :
    appl fits (mps recs i j) = true ↔ (j : Int) ≤ M := by
  rw [appl_iff]
  constructor
  · rintro ⟨a, ha, hm⟩
    exact Int.le_trans ((mem_mps_last (hV a ha) h hj).mp hm) (hmax a ha)
  · intro hle
    obtain ⟨a, ha, e⟩ := hM
    exact ⟨a, ha, (mem_mps_last (hV a ha) h hj).mpr (by omega)⟩
theorem appl_mono {recs : List Rec} {fits : List Str} {i j j' : Nat} (h : i < j) (hjj : j ≤ j') (ha : appl fits (mps recs i j') = true) : appl fits (mps recs i j) = true := by
  rw [appl_iff] at ha ⊢
  obtain ⟨a, h1, h2⟩ := ha
  exact ⟨a, h1, (mem_mps h).mpr fun x q1 q2 => (mem_mps (by omega)).mp h2 x q1 (by omega)⟩
theorem count_is {recs : List Rec} {fits : List Str} {i k : Nat} {V : Str → Int} {M : Int} (hi : i < recs.length) (hV : ∀ a ∈ fits, LastAt recs a i (V a)) (hM : ∃ a ∈ fits, V a = M) (hmax : ∀ a ∈ fits, V a ≤ M)
    (hk : k ≤ recs.length - i) (h1 : ∀ j < k, appl fits (mps recs i (i + j + 1)) = true) (h2 : ∀ j, k ≤ j → j < recs.length - i → appl fits (mps recs i (i + j + 1)) = false) : (i : Int) + (k : Int) = M := by
  obtain ⟨a, ha, e⟩ := hM
  obtain ⟨v, ev, q1, q2, _, _⟩ := hV a ha
  have key : ∀ j, j < recs.length - i → (appl fits (mps recs i (i + j + 1)) = true ↔ ((i + j + 1 : Nat) : Int) ≤ M) := fun j hj => appl_row hV ⟨a, ha, e⟩ hmax (by omega) (by omega)
  rcases Nat.lt_trichotomy (i + k) v with h | h | h
  · have := (key k (by omega)).mpr (by omega)
    rw [h2 k (Nat.le_refl _) (by omega)] at this
    cases this
  · omega
  · have := (key (v - i) (by omega)).mp (h1 (v - i) (by omega))
    omega
theorem lastAt_ex (recs : List Rec) (a : Str) : ∀ (n i : Nat), i + n = recs.length → ∃ V, LastAt recs a i V
  | 0, i, h => ⟨_, i, rfl, Nat.le_refl _, by omega, fun x h1 h2 => by omega, fun h1 => by omega⟩
  | n + 1, i, h => by
    cases hh : has recs i a with
    | false => exact ⟨_, i, rfl, Nat.le_refl _, by omega, fun x h1 h2 => by omega, fun _ => hh⟩
    | true =>
      obtain ⟨V, v, rfl, h1, h2, h3, h4⟩ := lastAt_ex recs a n (i + 1) (by omega)
      refine ⟨_, v, rfl, by omega, h2, fun x h5 h6 => ?_, h4⟩
      rcases Nat.lt_or_ge i x with h7 | h7
      · exact h3 x h7 h6
      · have : x = i := by omega
        rw [this]; exact hh
theorem lastAt_unique {recs : List Rec} {a : Str} {i : Nat} {x y : Int} (hx : LastAt recs a i x) (hy : LastAt recs a i y) : x = y := by
  obtain ⟨v, rfl, h1, h2, h3, h4⟩ := hx
  obtain ⟨u, rfl, k1, k2, k3, k4⟩ := hy
  rcases Nat.lt_trichotomy v u with h | h | h
  · have := k3 v h1 h
    rw [h4 (by omega)] at this
    cases this
  · rw [h]
  · have := h3 u k1 h
    rw [k4 (by omega)] at this
    cases this
theorem ends_fn (recs : List Rec) (i : Nat) (hi : i ≤ recs.length) : ∃ V : Str → Int, (∀ a, LastAt recs a i (V a)) ∧ ∀ a x, LastAt recs a i x → x = V a := by
  have h : ∀ a, ∃ x, LastAt recs a i x := fun a => lastAt_ex recs a (recs.length - i) i (by omega)
  exact ⟨fun a => Classical.choose (h a), fun a => Classical.choose_spec (h a), fun a x hx => lastAt_unique hx (Classical.choose_spec (h a))⟩
end Mine
end

section
open PySem PySem.W PyProof.Rows PyProof.Rows.LCg PyProof.Rows.LCt
set_option Elab.async false
set_option maxRecDepth 100000
namespace Mine
abbrev tupO (vs : Array Value) (n : Nat) : Obj := { cls := .type "tuple", data := .seq vs n }
section
variable {prog : Program} {w : World} {A : Around} {E : Value → Shared → Prop} {s : Shared} {h₀ : Heap} {L : Addr} {m : Str → Option Value} {news : Led} {env : Env}
/-- a comprehension with a test over a list of pairs of the ledger; a turn leaves nothing but its item -/
theorem comp_tups {ct elt iter : Expr} {x x₂ : Str} {px px₂ tp : Pos} {tk} {scope : Scope} {cl : List (Str × Addr)} {pos : Pos} {l : Addr} {tvs : List (Addr × Value × Value)} {nl : Nat} {use : Option (Value → Sem Unit)} {Q : Value → Shared → Prop}
    (J : Nat → List Value → Prop) (hsz : tvs.length ≤ 1000)
    (hcell : ∀ y ∈ scope.names, y.2 ≠ .cell) (hkind : scope.kind = .function) (hx : scope.names.lookup x = some .local) (hx₂ : scope.names.lookup x₂ = some .local) (hxx : x ≠ x₂) (hh : A.handled = none)
    (F : Fr h₀ L s.heap m) (N : News h₀ L s.heap news) (hm : (l, W.listOf (tvs.map fun t => Value.ref t.1).toArray nl) ∈ news) (ht : ∀ t ∈ tvs, ∃ n, (t.1, tupO #[t.2.1, t.2.2] n) ∈ news) (h0 : J 0 [])
    (step : ∀ i tv ys own C oC D mC h tk (E' : Value → Shared → Prop), tvs[i]? = some tv → J i ys → NsObj oC mC → mC x = some tv.2.1 → mC x₂ = some tv.2.2 → Fr h₀ L h m → News h₀ L h ((C, oC) :: (D, lst ys) :: (news ++ own)) →
      wpAny (model prog w) A (isTrue ct (compEnvC scope cl C env) (eval ct (compEnvC scope cl C env))) (fun ok s' => if ok = true then
        wpAny (model prog w) A (eval elt (compEnvC scope cl C env)) (fun y s' => Halt (J (i + 1) (ys ++ [y]) ∧ ∃ h' tk', s' = { s with heap := h', toks := tk' } ∧ Fr h₀ L h' m ∧ News h₀ L h' ((C, oC) :: (D, lst ys) :: (news ++ own)))) E' s'
        else Halt (J (i + 1) ys ∧ ∃ h' tk', s' = { s with heap := h', toks := tk' } ∧ Fr h₀ L h' m ∧ News h₀ L h' ((C, oC) :: (D, lst ys) :: (news ++ own)))) E' { s with heap := h, toks := tk })
    (done : ∀ D C h tk m' ys, J tvs.length ys → Fr h₀ L h m → News h₀ L h ((D, lst ys) :: news) → Off1 D news → h.Ns C m' → h₀.get? C = none → C ≠ L → C ≠ D → (∀ p ∈ news, p.1 ≠ C) → compPost (model prog w) A E use Q (.ref D) C (.ok .next) { s with heap := h, toks := tk }) :
    Halt (wpAny (model prog w) A (pyIter (.ref l)) (fun it s₂ => CompR prog w A env (.ListComp elt [⟨.Tuple [.Name x px, .Name x₂ px₂] tk tp, iter, [ct], 0⟩] scope pos) scope cl use Q E it s₂) E s) := by
  have Nl := N _ hm
  have hlt : l < s.heap.objs.size := Heap.lt_size Nl.1
  have hls : s.heap.IsList l (tvs.map fun t => Value.ref t.1).toArray := ⟨_, Nl.1, rfl, nl, rfl⟩
  show wpAny _ _ _ _ _ _
  refine wpAny_pyIter_list hls ?_
  have up : ∀ b o, s.heap.get? b = some o → (s.heap.push { cls := .type "list_iterator", data := .fields #[.ref l, .int 0 0] }).get? b = some o := fun b o e => Heap.get?_push_of_some _ e
  let Ts : Nat → Addr := fun j => (tvs[j]?.map fun t => t.1).getD 0
  let vals : Nat → Array Value := fun j => (tvs[j]?.map fun t => (#[t.2.1, t.2.2] : Array Value)).getD #[.none, .none]
  have hsz' : (tvs.map fun t => Value.ref t.1).toArray.size = tvs.length := by simp
  have at' : ∀ j, j < tvs.length → ∃ t, tvs[j]? = some t ∧ t ∈ tvs := fun j hj => ⟨tvs[j], by simp [hj], List.getElem_mem hj⟩
  have hTs : ∀ j, j < tvs.length → ∃ n, (Ts j, tupO (vals j) n) ∈ news := fun j hj => by
    obtain ⟨t, e, hm⟩ := at' j hj
    simp only [Ts, vals, e, Option.map_some, Option.getD_some]; exact ht t hm
  have hTlt : ∀ j, j < tvs.length → Ts j < s.heap.objs.size := fun j hj => by obtain ⟨n, e⟩ := hTs j hj; exact Heap.lt_size (N _ e).1
  have hit : ∀ j, j < (tvs.map fun t => Value.ref t.1).toArray.size → (tvs.map fun t => Value.ref t.1).toArray[j]? = some (.ref (Ts j)) := fun j hj => by
    obtain ⟨t, e, _⟩ := at' j (hsz' ▸ hj)
    simp [Ts, e]
  have W := WalksU.listOfTuples (prog := prog) (w := w) hh s.heap.objs.size l (Nat.ne_of_lt hlt) (tvs.map fun t => Value.ref t.1).toArray Ts vals hit fun j hj => Nat.ne_of_lt (hTlt j (hsz' ▸ hj))
  rw [hsz'] at W
  refine comp_pairs (s := { s with heap := s.heap.push { cls := .type "list_iterator", data := .fields #[.ref l, .int 0 0] } }) (nw := news) W (Nat.le_trans hsz (by show 1000 ≤ 16777216; decide)) (fun i ys nw => nw = news ∧ J i ys) hcell hkind hx hx₂ hxx hh
    ⟨⟨_, Heap.get?_push_size _ rfl, rfl, rfl⟩, ⟨_, up _ _ Nl.1, rfl, nl, rfl⟩, fun k hk => ?_⟩ ?_ ?_ ?_ (F.keeps up) (N.grown up) ?_ ⟨rfl, h0⟩ ?_ ?_
  · obtain ⟨n, e⟩ := hTs k hk
    exact ⟨_, up _ _ (N _ e).1, rfl, n, rfl⟩
  · intro b hb
    show b < (s.heap.push _).objs.size
    rw [Heap.size_push]
    simp only [List.mem_cons, List.mem_map, List.mem_range] at hb
    rcases hb with rfl | rfl | ⟨k, hk, rfl⟩
    · exact Nat.lt_succ_self _
    · exact Nat.lt_succ_of_lt hlt
    · exact Nat.lt_succ_of_lt (hTlt k hk)
  · simp only [List.mem_cons, List.mem_map, List.mem_range, not_or, not_exists, not_and]
    refine ⟨Nat.ne_of_lt F.ns.lt, fun q => Nl.2.1 q.symm, fun k hk q => ?_⟩
    obtain ⟨n, e⟩ := hTs k hk
    exact (N _ e).2.1 q
  · intro b hb
    rw [List.mem_singleton.mp hb]
    exact next_is_new F
  · intro p hp
    simp only [List.mem_singleton]
    exact Nat.ne_of_lt (Heap.lt_size (N p hp).1)
  · rintro i vs' ys nw₁ own C oC D mC h tk E' hi rfl ⟨rfl, hJ⟩ hyl
    obtain ⟨t, e, hmt⟩ := at' i hi
    refine ⟨t.2.1, t.2.2, by simp only [vals, e, Option.map_some, Option.getD_some], fun hC hx hx₂ F₁ N₁ hCD off hw _ _ => ?_⟩
    have off' : ∀ p ∈ nw₁, p.1 ≠ C ∧ p.1 ≠ D ∧ p.1 ∉ [s.heap.objs.size] := fun p hp => ⟨(off p (List.mem_append_left _ hp)).1, (off p (List.mem_append_left _ hp)).2, hw p hp⟩
    refine wpAny_mono (step i t ys own C oC D mC h tk E' e hJ hC hx hx₂ F₁ N₁) (fun ok s' h' => ?_) fun _ _ e => e
    cases ok with
    | true =>
      simp only [if_true] at h' ⊢
      refine wpAny_mono h' (fun y s' h'' => ?_) fun _ _ e => e
      obtain ⟨hj, h6, tk6, rfl, F6, N6⟩ := h''
      exact CEnd.intro nw₁ F6 N6 (fun p hp => hp) off' ⟨rfl, hj⟩
    | false =>
      simp only [Bool.false_eq_true, if_false] at h' ⊢
      obtain ⟨hj, h6, tk6, rfl, F6, N6⟩ := h'
      exact CEnd.intro nw₁ F6 N6 (fun p hp => hp) off' ⟨rfl, hj⟩
  · rintro D C h tk m' ys nw₁ ⟨rfl, hJ⟩ F₁ N₁ o1 hn hC₀ hCL hCD offC
    exact done D C h tk m' ys hJ F₁ N₁ o1 hn hC₀ hCL hCD offC
end
end Mine
end

section
open PySem PySem.W PyProof.Rows PyProof.Rows.LCg PyProof.Rows.LCt
set_option Elab.async false
set_option maxRecDepth 100000
namespace Mine
def LoopRT (prog : Program) (w : World) (A : Around) (env : Env) (tgt : Expr) (body : List Stmt) (Q : Flow → Shared → Prop) (it : Value) (s₂ : Shared) : Prop :=
  codeAny (model prog w) A (.forLoop tgt it body [] env) (fun r s' => match r with | .ok f => Q f s' | .error _ => False) s₂
section
variable {prog : Program} {w : World} {A : Around} {E : Value → Shared → Prop} {s : Shared} {env : Env} {h₀ : Heap} {m : Str → Option Value} {nw : Led} {x x₂ : Str} {px px₂ tp : Pos} {k : Nat} {body : List Stmt} {Q : Flow → Shared → Prop}
theorem For_myT {tgt iter : Expr} {pos : Pos}
    (h : wpAny (model prog w) A (eval iter env) (fun xv s₁ => Halt (wpAny (model prog w) A (pyIter xv) (fun it s₂ => LoopRT prog w A env tgt body Q it s₂) E s₁)) E s)
    (hs : ∀ x, foldedSetIterable iter env x = pure x := by intro _; rfl) :
    wpAny (model prog w) A (exec (.For tgt iter body [] pos) env) Q E s := by
  refine wpAny_For (wpAny_mono h (fun xv s₁ h₁ => wpAny_mono (show wpAny _ _ _ _ _ _ from h₁) (fun it s₂ h₂ => ?_) fun _ _ e => e) fun _ _ e => e) hs
  refine codeAny_mono h₂ fun r s' hr => ?_
  cases r with
  | ok f => exact hr
  | error e => exact hr.elim
/-- a loop over a list of pairs of the ledger, both names local -/
theorem loop_tups {l : Addr} {tvs : List (Addr × Value × Value)} {nl : Nat} (J : Nat → (Str → Option Value) → Led → Prop) (hh : A.handled = none) (hx : env.kindOf x = some .local) (hx₂ : env.kindOf x₂ = some .local)
    (hp : (env.scope.kind == .class || (env.scope.kind == .module && env.locals != env.globals)) = false)
    (F : Fr h₀ env.locals s.heap m) (N : News h₀ env.locals s.heap nw) (hm : (l, W.listOf (tvs.map fun t => Value.ref t.1).toArray nl) ∈ nw) (ht : ∀ t ∈ tvs, ∃ n, (t.1, tupO #[t.2.1, t.2.2] n) ∈ nw) (h0 : J 0 m nw)
    (step : ∀ i tv m₁ nw₁ own I h tk, tvs[i]? = some tv → J i m₁ nw₁ → (∀ p ∈ nw₁, p.1 ≠ I) → (∀ p ∈ own, p.1 = I ∨ p.1 = l ∨ ∃ t ∈ tvs, p.1 = t.1) → (∃ oI, (I, oI) ∈ own) → Fr h₀ env.locals h (fun z => if z = x₂ then some tv.2.2 else if z = x then some tv.2.1 else m₁ z) → News h₀ env.locals h (nw₁ ++ own) →
      wpAny (model prog w) A (execs body env) (TurnEnd h₀ env.locals [I] own (J (i + 1)) s Q) (fun _ _ => False) { s with heap := h, toks := tk })
    (done : ∀ m₁ nw₁ h tk, J tvs.length m₁ nw₁ → Fr h₀ env.locals h m₁ → News h₀ env.locals h nw₁ → Q .next { s with heap := h, toks := tk }) :
    Halt (wpAny (model prog w) A (pyIter (.ref l)) (fun it s₂ => LoopRT prog w A env (.Tuple [.Name x px, .Name x₂ px₂] k tp) body Q it s₂) E s) := by
  have Nl := N _ hm
  have hlt : l < s.heap.objs.size := Heap.lt_size Nl.1
  have hls : s.heap.IsList l (tvs.map fun t => Value.ref t.1).toArray := ⟨_, Nl.1, rfl, nl, rfl⟩
  show wpAny _ _ _ _ _ _
  refine wpAny_pyIter_list hls ?_
  have up : ∀ b o, s.heap.get? b = some o → (s.heap.push { cls := .type "list_iterator", data := .fields #[.ref l, .int 0 0] }).get? b = some o := fun b o e => Heap.get?_push_of_some _ e
  let Ts : Nat → Addr := fun j => (tvs[j]?.map fun t => t.1).getD 0
  let vals : Nat → Array Value := fun j => (tvs[j]?.map fun t => (#[t.2.1, t.2.2] : Array Value)).getD #[.none, .none]
  have hsz' : (tvs.map fun t => Value.ref t.1).toArray.size = tvs.length := by simp
  have at' : ∀ j, j < tvs.length → ∃ t, tvs[j]? = some t ∧ t ∈ tvs := fun j hj => ⟨tvs[j], by simp [hj], List.getElem_mem hj⟩
  have hTs : ∀ j, j < tvs.length → ∃ n, (Ts j, tupO (vals j) n) ∈ nw := fun j hj => by
    obtain ⟨t, e, hm⟩ := at' j hj
    simp only [Ts, vals, e, Option.map_some, Option.getD_some]; exact ht t hm
  have hTlt : ∀ j, j < tvs.length → Ts j < s.heap.objs.size := fun j hj => by obtain ⟨n, e⟩ := hTs j hj; exact Heap.lt_size (N _ e).1
  have hit : ∀ j, j < (tvs.map fun t => Value.ref t.1).toArray.size → (tvs.map fun t => Value.ref t.1).toArray[j]? = some (.ref (Ts j)) := fun j hj => by
    obtain ⟨t, e, _⟩ := at' j (hsz' ▸ hj)
    simp [Ts, e]
  have W := WalksU.listOfTuples (prog := prog) (w := w) hh s.heap.objs.size l (Nat.ne_of_lt hlt) (tvs.map fun t => Value.ref t.1).toArray Ts vals hit fun j hj => Nat.ne_of_lt (hTlt j (hsz' ▸ hj))
  rw [hsz'] at W
  have WT := KTurns.ofWalksU (elts := [.Name x px, .Name x₂ px₂]) (k := k) (pos := tp) W
  unfold LoopRT
  refine ktu_loop (s := { s with heap := s.heap.push { cls := .type "list_iterator", data := .fields #[.ref l, .int 0 0] } }) (h₀ := h₀) (m := m) (news := nw) WT ?_ ?_ ?_ ⟨⟨_, Heap.get?_push_size _ rfl, rfl, rfl⟩, ⟨_, up _ _ Nl.1, rfl, nl, rfl⟩, fun k hk => ?_⟩ (F.keeps up) (N.grown up) J h0 ?_ ?_
  · simp only [List.mem_cons, List.mem_map, List.mem_range, not_or, not_exists, not_and]
    refine ⟨Nat.ne_of_lt F.ns.lt, fun q => Nl.2.1 q.symm, fun k hk q => ?_⟩
    obtain ⟨n, e⟩ := hTs k hk
    exact (N _ e).2.1 q
  · intro b hb
    rw [List.mem_singleton.mp hb]
    exact next_is_new F
  · intro p hp
    simp only [List.mem_singleton]
    exact Nat.ne_of_lt (Heap.lt_size (N p hp).1)
  · obtain ⟨n, e⟩ := hTs k hk
    exact ⟨_, up _ _ (N _ e).1, rfl, n, rfl⟩
  · rintro i v m₁ nw₁ h₁ tk₁ own hi ⟨T, vs', rfl, rfl, hT⟩ hJ hw hsub hat hown hst F₁ N₁
    obtain ⟨t, e, hmt⟩ := at' i hi
    have ev : vals i = #[t.2.1, t.2.2] := by simp only [vals, e, Option.map_some, Option.getD_some]
    rw [ev] at hT
    refine kcp_assign hh hT hx hx₂ hp F₁.ns fun h₂ tk₂ hn₂ hk₂ => ?_
    have hL₀ : h₀.get? env.locals = none := Heap.get?_none_of_le F₁.above
    have F₂ : Fr h₀ env.locals h₂ (fun z => if z = x₂ then some t.2.2 else if z = x then some t.2.1 else m₁ z) := ⟨hn₂, fun b o e => hk₂ b o (fun q => by rw [q, hL₀] at e; cases e) (F₁.keep b o e), F₁.above⟩
    have N₂ : News h₀ env.locals h₂ (nw₁ ++ own) := fun p hp => by
      have z := N₁ p (by rcases List.mem_append.mp hp with h | h; exact List.mem_append_right _ h; exact List.mem_append_left _ h)
      exact ⟨hk₂ _ _ z.2.1 z.1, z.2⟩
    refine wpAny_mono (step i t m₁ nw₁ own s.heap.objs.size h₂ tk₂ e hJ (fun p hp => by simpa using hw p hp) (fun p hp => ?_) ?_ F₂ N₂) (fun f s₃ h₃ => ?_) fun _ _ f => f.elim
    · have := hsub p hp
      simp only [List.mem_cons, List.mem_map, List.mem_range] at this
      rcases this with h | h | ⟨j, hj, h⟩
      · exact .inl h
      · exact .inr (.inl h)
      · obtain ⟨t', e', hm'⟩ := at' j hj
        refine .inr (.inr ⟨t', hm', ?_⟩)
        rw [← h]; simp only [Ts, e', Option.map_some, Option.getD_some]
    · obtain ⟨⟨oI, hoI, _⟩, _⟩ := hst
      exact ⟨oI, hown _ (by simp) (next_is_new F) oI hoI⟩
    · have next : (∃ h' tk' m' nw', s₃ = { s with heap := h', toks := tk' } ∧ Fr h₀ env.locals h' m' ∧ News h₀ env.locals h' (nw' ++ own) ∧ (∀ p ∈ nw', p.1 ∉ [s.heap.objs.size]) ∧ J (i + 1) m' nw') → LoopStepU h₀ env.locals [s.heap.objs.size] own (J (i + 1)) { s with heap := h₁, toks := tk₁ } .next s₃ := by
        rintro ⟨h', tk', m', nw', rfl, F', N', hw', hJ'⟩
        exact ⟨rfl, h', tk', m', nw', rfl, F', fun p hp => N' p (by rcases List.mem_append.mp hp with h | h; exact List.mem_append_right _ h; exact List.mem_append_left _ h), hw', hJ'⟩
      cases f with
      | ret v => exact h₃
      | brk => exact h₃
      | cont => exact next h₃
      | next => exact next h₃
  · intro h' tk m' nw' F' N' _ hJ
    exact done m' nw' h' tk hJ F' N'
end
end Mine
end

section
open PySem PySem.W PyProof.Rows PyProof.Rows.LCg PyProof.Rows.LCt
set_option Elab.async false
set_option maxRecDepth 100000
namespace Mine
/-- data of strs, ints, lists and tuples that are alike to themselves -/
def sDat (ps : List (Str × Tok)) : List PyData := ps.map fun p => PyData.str p.1
def dDat : Option (Int × Tok) → PyData
  | none => .none
  | some p => .int p.1
def rDat (r : List (Str × Tok) × Option (Int × Tok)) : PyData := .tuple [.list (sDat r.1), dDat r.2]
theorem eqv_sDat : ∀ ps : List (Str × Tok), PyData.eqvAll (sDat ps) (sDat ps) = true
  | [] => rfl
  | p :: r => by
    show (PyData.eqv (.str p.1) (.str p.1) && PyData.eqvAll (sDat r) (sDat r)) = true
    rw [eqv_sDat r]; simp [PyData.eqv]
theorem eqv_dDat (d : Option (Int × Tok)) : PyData.eqv (dDat d) (dDat d) = true := by
  cases d with
  | none => rfl
  | some p => simp [dDat, PyData.eqv]
theorem eqv_rDat (r : List (Str × Tok) × Option (Int × Tok)) : PyData.eqv (rDat r) (rDat r) = true := by
  simp only [rDat, PyData.eqv, PyData.eqvAll, eqv_sDat, eqv_dDat, Bool.and_self]
theorem eqv_rDats : ∀ rs : List (List (Str × Tok) × Option (Int × Tok)), PyData.eqvAll (rs.map rDat) (rs.map rDat) = true
  | [] => rfl
  | r :: t => by simp only [List.map_cons, PyData.eqvAll, eqv_rDat, eqv_rDats t, Bool.and_self]
theorem five_ok : ∀ a ∈ five, PyData.strOk a = true := by
  intro a ha
  simp only [five, List.mem_cons, List.not_mem_nil, or_false] at ha
  rcases ha with rfl | rfl | rfl | rfl | rfl <;> decide +kernel
theorem lay_sDat : ∀ ps : List (Str × Tok), (∀ p ∈ ps, p.1 ∈ five) → PyData.canLayAll0 (sDat ps) = true
  | [], _ => rfl
  | p :: r, h => by
    show (PyData.canLayAll0 (.str p.1 :: sDat r)) = true
    simp only [PyData.canLayAll0, PyData.canLay0, lay_sDat r (fun q hq => h q (List.mem_cons_of_mem _ hq)), five_ok p.1 (h p List.mem_cons_self), Bool.and_self]
theorem dep_sDat : ∀ ps : List (Str × Tok), PyData.depthAll (sDat ps) = 0
  | [] => rfl
  | p :: r => by
    show (PyData.depthAll (.str p.1 :: sDat r)) = 0
    simp only [PyData.depthAll, PyData.depth, dep_sDat r, Nat.max_self]
theorem lay_dDat (d : Option (Int × Tok)) : PyData.canLay0 (dDat d) = true := by cases d <;> rfl
theorem dep_dDat (d : Option (Int × Tok)) : PyData.depth (dDat d) = 0 := by cases d <;> rfl
theorem shaped_sDat (ps : List (Str × Tok)) (h : ∀ p ∈ ps, p.1 ∈ five) : SeqAt.shaped (.list (sDat ps)) = true := by
  simp [SeqAt.shaped, PyData.canLay0, PyData.depth, lay_sDat ps h, dep_sDat]
theorem lay_rDats : ∀ rs : List (List (Str × Tok) × Option (Int × Tok)), (∀ r ∈ rs, ∀ p ∈ r.1, p.1 ∈ five) → PyData.canLayAll0 (rs.map rDat) = true
  | [], _ => rfl
  | r :: t, h => by simp [rDat, PyData.canLayAll0, PyData.canLay0, lay_sDat r.1 (h r List.mem_cons_self), lay_dDat, lay_rDats t fun q hq => h q (List.mem_cons_of_mem _ hq)]
theorem dep_rDats : ∀ rs : List (List (Str × Tok) × Option (Int × Tok)), PyData.depthAll (rs.map rDat) ≤ 2
  | [] => by simp [PyData.depthAll]
  | r :: t => by
    have := dep_rDats t
    simp only [List.map_cons, rDat, PyData.depthAll, PyData.depth, dep_sDat, dep_dDat]
    omega
theorem shaped_rDats (rs : List (List (Str × Tok) × Option (Int × Tok))) (h : ∀ r ∈ rs, ∀ p ∈ r.1, p.1 ∈ five) : SeqAt.shaped (.list (rs.map rDat)) = true := by
  have := dep_rDats rs
  have h2 : PyData.depth (.list (rs.map rDat)) ≤ 64 := by simp only [PyData.depth]; omega
  show (PyData.canLay0 (.list (rs.map rDat)) && decide (PyData.depth (.list (rs.map rDat)) ≤ 64)) = true
  rw [Bool.and_eq_true]
  exact ⟨by simp only [PyData.canLay0]; exact lay_rDats rs h, decide_eq_true h2⟩
theorem readsAll_sv {h : Heap} : ∀ ps : List (Str × Tok), ReadsAll h (ps.map sv) (sDat ps) []
  | [] => .nil
  | p :: r => ReadsAll.cons (as := []) (Reads.str (h := h) p.1 p.2) (readsAll_sv r)
theorem reads_sv {h₀ h : Heap} {L l : Addr} {news : Led} {ps : List (Str × Tok)} {n : Nat} (N : News h₀ L h news) (hm : (l, W.listOf (ps.map sv).toArray n) ∈ news) : Reads h (.ref l) (.list (sDat ps)) [l] :=
  Reads.list (N _ hm).1 rfl rfl (by simpa using readsAll_sv ps)
theorem reads_dv {h : Heap} (d : Option (Int × Tok)) : Reads h (dval d) (dDat d) [] := by
  cases d with
  | none => exact Reads.none
  | some p => exact Reads.int p.1 p.2
theorem sDat_eq {ps qs : List (Str × Tok)} (h : ps.map (·.1) = qs.map (·.1)) : sDat ps = sDat qs := by
  have e : ∀ l : List (Str × Tok), sDat l = (l.map (·.1)).map PyData.str := fun l => by simp [sDat]
  rw [e, e, h]
section
variable {prog : Program} {w : World} {A : Around} {E : Value → Shared → Prop} {s : Shared} {h₀ : Heap} {L : Addr} {m : Str → Option Value} {news : Led}
theorem ne_strs {a b : Addr} {ps qs : List (Str × Tok)} {n1 n2 : Nat} {Q : Value → Shared → Prop} (N : News h₀ L s.heap news) (ha : (a, W.listOf (ps.map sv).toArray n1) ∈ news) (hb : (b, W.listOf (qs.map sv).toArray n2) ∈ news)
    (h5 : ∀ p ∈ ps, p.1 ∈ five) (e : ps.map (·.1) = qs.map (·.1)) (hu : A.units + 64 < cLine) (h : Q (.bool false) s) : Halt (wpAny (model prog w) A (compareOp .NotEq (.ref a) (.ref b)) Q E s) := by
  have rb := reads_sv N hb
  rw [← sDat_eq e] at rb
  refine ne_dataH (reads_sv N ha) rb (shaped_sDat ps h5) (shaped_sDat ps h5) hu ?_
  simp only [PyData.eqv, eqv_sDat, Bool.not_true]
  exact h
theorem ne_dval {d : Option (Int × Tok)} {Q : Value → Shared → Prop} (hu : A.units + 64 < cLine) (h : Q (.bool false) s) : wpAny (model prog w) A (compareOp .NotEq (dval d) (dval d)) Q E s := by
  have hs : SeqAt.shaped (dDat d) = true := by
    show (PyData.canLay0 (dDat d) && decide (PyData.depth (dDat d) ≤ 64)) = true
    rw [lay_dDat, dep_dDat]; rfl
  refine ne_dataH (reads_dv d) (reads_dv d) hs hs hu ?_
  rw [eqv_dDat]
  exact h
end
end Mine
end

section
open PySem PySem.W PyProof.Rows
set_option Elab.async false
set_option maxRecDepth 100000
namespace Mine
/-- the records that have a delay -/
def tells (recs : List Rec) (n : Nat) : List Int := ((List.range n).filter fun k => (recs.getD k rec0).2.isSome).map (fun (k : Nat) => (k : Int))
theorem tells_yes {recs : List Rec} {i : Nat} (h : (recs.getD i rec0).2.isSome = true) : tells recs (i + 1) = tells recs i ++ [(i : Int)] := by
  unfold tells
  rw [List.range_succ, List.filter_append, List.map_append, List.filter_cons, if_pos h]; rfl
theorem tells_no {recs : List Rec} {i : Nat} (h : (recs.getD i rec0).2.isSome = false) : tells recs (i + 1) = tells recs i := by
  unfold tells
  rw [List.range_succ, List.filter_append, List.map_append, List.filter_cons, if_neg (by rw [h]; decide)]
  simp
theorem mem_tells {recs : List Rec} {n : Nat} {v : Int} : v ∈ tells recs n ↔ ∃ x : Nat, v = (x : Int) ∧ x < n ∧ (recs.getD x rec0).2.isSome = true := by
  unfold tells
  simp only [List.mem_map, List.mem_filter, List.mem_range]
  constructor
  · rintro ⟨x, ⟨h1, h2⟩, rfl⟩; exact ⟨x, rfl, h1, h2⟩
  · rintro ⟨x, rfl, h1, h2⟩; exact ⟨x, ⟨h1, h2⟩, rfl⟩
theorem tells_sorted (recs : List Rec) (n : Nat) : (tells recs n).Pairwise (· ≤ ·) := by
  unfold tells
  rw [List.pairwise_map]
  exact List.Pairwise.imp (fun {x y} h => by omega) (List.Pairwise.filter _ List.pairwise_lt_range)
theorem tells_len (recs : List Rec) (n : Nat) : (tells recs n).length ≤ n := by
  unfold tells
  rw [List.length_map]
  have h2 := List.length_filter_le (fun k => (recs.getD k rec0).2.isSome) (List.range n)
  rw [List.length_range] at h2
  exact h2
theorem mdl_some {recs : List Rec} {i t : Nat} {d : Int × Tok} (hit : i ≤ t) (h : (recs.getD t rec0).2 = some d) : ∀ j, t < j → (∀ x, t < x → x < j → (recs.getD x rec0).2 = none) → mdl recs i j = some d
  | 0, htj, _ => by omega
  | j + 1, htj, hn => by
    rw [mdl_succ, if_neg (by omega)]
    rcases Nat.lt_or_ge t j with h1 | h1
    · rw [hn j h1 (by omega)]
      exact mdl_some hit h j h1 fun x a b => hn x a (by omega)
    · have : j = t := by omega
      rw [this, h]; rfl
theorem mdl_none {recs : List Rec} {i : Nat} : ∀ j, (∀ x, i ≤ x → x < j → (recs.getD x rec0).2 = none) → mdl recs i j = none
  | 0, _ => rfl
  | j + 1, hn => by
    rw [mdl_succ]
    split
    · rfl
    · rw [hn j (by omega) (by omega)]
      exact mdl_none j fun x a b => hn x a (by omega)
theorem getD_mem {qs : List (Int × Tok)} {k : Nat} (h : k < qs.length) : (qs.getD k (0, 0)).1 ∈ qs.map (·.1) := by
  rw [List.getD_eq_getElem?_getD, List.getElem?_eq_getElem h]
  exact List.mem_map_of_mem (List.getElem_mem h)
theorem told_none {recs : List Rec} {n : Nat} {qs : List (Int × Tok)} (hqs : qs.map (·.1) = tells recs n) {j : Nat} (hhi : ∀ q, 0 ≤ q → q < qs.length → (j : Int) ≤ (qs.getD q (0, 0)).1) : ∀ y, y < j → y < n → (recs.getD y rec0).2 = none := by
  intro y h1 h2
  cases hh : (recs.getD y rec0).2 with
  | none => rfl
  | some d =>
    have hm : (y : Int) ∈ qs.map (·.1) := by rw [hqs]; exact mem_tells.mpr ⟨y, rfl, h2, by rw [hh]; rfl⟩
    obtain ⟨p, hp, e⟩ := List.mem_map.mp hm
    obtain ⟨q, hq, rfl⟩ := List.getElem_of_mem hp
    have := hhi q (Nat.zero_le _) hq
    rw [List.getD_eq_getElem?_getD, List.getElem?_eq_getElem hq] at this
    have e' : qs[q].1 = (y : Int) := e
    have t : (j : Int) ≤ qs[q].1 := this
    omega
theorem told_some {recs : List Rec} {n : Nat} {qs : List (Int × Tok)} (hqs : qs.map (·.1) = tells recs n) {j k : Nat} (hk0 : 0 < k) (hk : k ≤ qs.length) (hlo : ∀ q < k, (qs.getD q (0, 0)).1 < (j : Int))
    (hhi : ∀ q, k ≤ q → q < qs.length → (j : Int) ≤ (qs.getD q (0, 0)).1) :
    ∃ (x : Nat) (tx : Tok) (d : Int × Tok), qs[((k : Int) - 1).toNat]? = some ((x : Int), tx) ∧ x < n ∧ x < j ∧ (recs.getD x rec0).2 = some d ∧ ∀ y, x < y → y < j → y < n → (recs.getD y rec0).2 = none := by
  have hk1 : k - 1 < qs.length := by omega
  have ek : ((k : Int) - 1).toNat = k - 1 := by omega
  have hm := getD_mem hk1
  rw [hqs] at hm
  obtain ⟨x, ex, h1, h2⟩ := mem_tells.mp hm
  have hl := hlo (k - 1) (by omega)
  have eg : qs.getD (k - 1) (0, 0) = qs[k - 1] := by rw [List.getD_eq_getElem?_getD, List.getElem?_eq_getElem hk1]; rfl
  rw [Option.isSome_iff_exists] at h2
  obtain ⟨d, hd⟩ := h2
  refine ⟨x, (qs.getD (k - 1) (0, 0)).2, d, ?_, h1, by omega, hd, fun y a b c => ?_⟩
  · rw [ek, List.getElem?_eq_getElem hk1, ← eg, ← ex]
  · cases hh : (recs.getD y rec0).2 with
    | none => rfl
    | some d' =>
      have hm : (y : Int) ∈ qs.map (·.1) := by rw [hqs]; exact mem_tells.mpr ⟨y, rfl, c, by rw [hh]; rfl⟩
      obtain ⟨p, hp, e⟩ := List.mem_map.mp hm
      obtain ⟨q, hq, rfl⟩ := List.getElem_of_mem hp
      have e' : qs[q].1 = (y : Int) := e
      have eq : (qs.getD q (0, 0)).1 = (y : Int) := by rw [List.getD_eq_getElem?_getD, List.getElem?_eq_getElem hq]; exact e'
      rcases Nat.lt_or_ge q k with h | h
      · have := sorted_le (ns := qs) (hqs ▸ tells_sorted recs n) (show q ≤ k - 1 by omega) hk1
        omega
      · have := hhi q h hq
        omega
/-- a merge's agents: those of the first record that last -/
theorem mps_last {recs : List Rec} {i j : Nat} {V : Str → Int} (hV : ∀ a, LastAt recs a i (V a)) (h : i < j) (hj : j ≤ recs.length) : mps recs i j = (recs.getD i rec0).1.filter fun p => decide (V p.1 ≥ (j : Int)) := by
  unfold mps
  refine List.filter_congr fun p hp => ?_
  have h0 : has recs i p.1 = true := by unfold has; rw [List.contains_iff_mem]; exact List.mem_map_of_mem hp
  have key : hasAll recs (i + 1) j p.1 = true ↔ (j : Int) ≤ V p.1 := by
    rw [← mem_mps_last (hV p.1) h hj, mem_mps h, hasAll_iff]
    constructor
    · intro hall x h1 h2
      rcases Nat.lt_or_ge i x with h3 | h3
      · exact hall x h3 h2
      · have : x = i := by omega
        rw [this]; exact h0
    · exact fun hall x h1 h2 => hall x (by omega) h2
  cases hh : hasAll recs (i + 1) j p.1 with
  | true => exact (decide_eq_true (key.mp hh)).symm
  | false => exact (decide_eq_false fun hle => by rw [key.mpr hle] at hh; cases hh).symm
end Mine
end

section
open PySem PySem.W PyProof.Rows PyProof.Rows.LCg PyProof.Rows.LCt
set_option Elab.async false
set_option maxRecDepth 100000
namespace Mine
abbrev lamPos : Pos := ⟨97, 47, 97, 89⟩
abbrev lamQual : Str := Str.ofString "_law_known.<locals>.<lambda>"
/-- the contract of _law_known: the table of its inner codes may grow -/
def KCtr (w : World) (mg mb : Str → Option Value) (mean : ExcName → Option Value) (loose : List Str) (tp : Program) (dep uni : Nat) (tree : Sem Value) (P : Led → Prop) : Prop :=
  ∀ (dp un : Nat) (gd : Option (List Code)) (cn : Str) (cs : Scope) (a : Addr) (ccd : Value) (cl : List (Str × Addr)) (outer : List Env) (A₀ : Around) (base h₀ : Heap) (L : Addr) (m : Str → Option Value) (ps : Array Value) (R R₀ : Led) (s : Shared)
    (Q E : Value → Shared → Prop),
    Below A₀ base outer h₀ → Fr h₀ L s.heap m → (hd.heap_39 w.params).In h₀ → News h₀ L s.heap ((105, tabObj ps) :: R) → Top tp loose mean mg mb h₀ → cs.kind = .function → CodeHd h₀ 107 105 → TabOk lamPos lamQual ps R₀ → (∀ p ∈ R₀, p ∈ R) → (∀ p ∈ R, p.1 ≠ 105) → P R → dp + dep < 1000 → un + uni < 9800 →
    (∀ ps' tl h' tk', Fr h₀ L h' m → News h₀ L h' ((105, tabObj ps') :: (tl ++ R)) → (∀ p ∈ tl, p.1 ≠ 105) → (∀ q ∈ R, ∀ p ∈ tl, q.1 < p.1) → TabOk lamPos lamQual ps' (tl ++ R₀) → Q (.bool true) { s with heap := h', toks := tk' }) →
    wpAny (model PySem.Challenge.rw_ny0092_01.row.prog w) (ktrTop dp un gd cn cs L a ccd cl outer) tree Q E s
theorem KCtr.use {w : World} {mg mb : Str → Option Value} {mean : ExcName → Option Value} {loose : List Str} {tp : Program} {dep uni : Nat} {tree : Sem Value} {P : Led → Prop} (C : KCtr w mg mb mean loose tp dep uni tree P)
    {dp un : Nat} {gd : Option (List Code)} {cn : Str} {cs : Scope} {a : Addr} {ccd : Value} {cl : List (Str × Addr)} {outer : List Env} {A₀ : Around} {base h₀ : Heap} {L : Addr} {m : Str → Option Value} {ps : Array Value} {R R₀ : Led} {s : Shared} {Q E : Value → Shared → Prop}
    (B : Below A₀ base outer h₀) (F : Fr h₀ L s.heap m) (X : (hd.heap_39 w.params).In h₀) (N : News h₀ L s.heap ((105, tabObj ps) :: R)) (T : Top tp loose mean mg mb h₀) (hk : cs.kind = .function) (CH : CodeHd h₀ 107 105) (hT : TabOk lamPos lamQual ps R₀) (hR₀ : ∀ p ∈ R₀, p ∈ R) (hR : ∀ p ∈ R, p.1 ≠ 105)
    (hP : P R) (hd : dp + dep < 1000) (hu : un + uni < 9800)
    (ret : ∀ ps' tl h' tk', Fr h₀ L h' m → News h₀ L h' ((105, tabObj ps') :: (tl ++ R)) → (∀ p ∈ tl, p.1 ≠ 105) → (∀ q ∈ R, ∀ p ∈ tl, q.1 < p.1) → TabOk lamPos lamQual ps' (tl ++ R₀) → Q (.bool true) { s with heap := h', toks := tk' }) :
    wpAny (model PySem.Challenge.rw_ny0092_01.row.prog w) (ktrTop dp un gd cn cs L a ccd cl outer) tree Q E s :=
  C _ _ _ _ _ _ _ _ _ _ _ _ _ _ _ _ _ _ _ _ B F X N T hk CH hT hR₀ hR hP hd hu ret
/-- a thing of the ledger that is neither of the two cells nor the table, and is old or new -/
def KOk (L' : Nat) (R : Led) (p : Addr × Obj) : Prop := @Ne Nat p.1 (L' + 1 + 1 + 1 + 1 + 1) ∧ @Ne Nat p.1 (L' + 1 + 1 + 1 + 1) ∧ @Ne Nat p.1 105 ∧ (p ∈ R ∨ @LE.le Nat _ L' p.1)
theorem KOk.high {L' a : Nat} {R : Led} {o : Obj} (h : L' + 1 + 1 + 1 + 1 + 1 < a) (h105 : 105 < L') : KOk L' R (a, o) := by
  refine ⟨?_, ?_, ?_, .inr (show L' ≤ a by omega)⟩
  all_goals show a ≠ _
  all_goals omega
theorem KOk.cell {L' a : Nat} {R : Led} {o : Obj} (h : a < L' + 1 + 1 + 1 + 1) (h' : L' ≤ a) (h105 : 105 < L') : KOk L' R (a, o) := by
  refine ⟨?_, ?_, ?_, .inr h'⟩
  all_goals show a ≠ _
  all_goals omega
theorem KOk.c3 {L' : Nat} {R : Led} {o : Obj} (h105 : 105 < L') : KOk L' R (L' + 1 + 1 + 1, o) := KOk.cell (by omega) (by omega) h105
theorem KOk.c2 {L' : Nat} {R : Led} {o : Obj} (h105 : 105 < L') : KOk L' R (L' + 1 + 1, o) := KOk.cell (by omega) (by omega) h105
theorem KOk.c1 {L' : Nat} {R : Led} {o : Obj} (h105 : 105 < L') : KOk L' R (L' + 1, o) := KOk.cell (by omega) (by omega) h105
theorem lt4 {L' : Nat} (h105 : 105 < L') : 105 < L' + 1 + 1 + 1 + 1 := by omega
theorem KOk.low {L' : Nat} {R : Led} {p : Addr × Obj} (hp : p ∈ R) (h : @LT.lt Nat _ p.1 L') (h1 : p.1 ≠ 105) : KOk L' R p := by
  obtain ⟨a, o⟩ := p
  have h2 : @LT.lt Nat _ a L' := h
  refine ⟨?_, ?_, h1, .inl hp⟩
  all_goals show @Ne Nat a _
  all_goals omega
theorem mps_five {recs : List Rec} (h5 : ∀ k, ∀ p ∈ (recs.getD k rec0).1, p.1 ∈ five) {i j : Nat} : ∀ p ∈ mps recs i j, p.1 ∈ five := fun p hp => h5 i p (List.mem_filter.mp hp).1
theorem led_of {h₀ h : Heap} {L : Addr} {p q : Addr × Obj} {G : Led} (N : News h₀ L h (p :: q :: G)) : ∃ G', G' = p :: q :: G ∧ p ∈ G' ∧ q ∈ G' ∧ (∀ x ∈ G, x ∈ G') ∧ News h₀ L h G' :=
  ⟨_, rfl, by simp, by simp, fun x hx => by simp [hx], N⟩
theorem ints_iv : ∀ qs : List (Int × Tok), IntsAre (qs.map iv) (qs.map (·.1))
  | [] => .nil
  | p :: r => .cons p.1 p.2 (ints_iv r)
theorem sv_at {fs : List (Str × Tok)} {t : Nat} {v : Value} (h : (fs.map sv)[t]? = some v) : ∃ p, v = .str p.1 p.2 ∧ fs[t]? = some p ∧ p ∈ fs ∧ fs.take (t + 1) = fs.take t ++ [p] := by
  rw [List.getElem?_map, Option.map_eq_some_iff] at h
  obtain ⟨p, hp, rfl⟩ := h
  refine ⟨p, rfl, hp, List.mem_of_getElem? hp, ?_⟩
  rw [List.take_add_one, hp]; rfl
theorem lack_len (recs : List Rec) (a : Str) : (lack recs a).length ≤ recs.length + 1 := by
  unfold lack
  rw [List.length_append, List.length_map, List.length_singleton]
  have h2 := List.length_filter_le (fun k => !has recs k a) (List.range recs.length)
  rw [List.length_range] at h2
  omega
theorem ns_len {recs : List Rec} {a : Str} {ns : List (Int × Tok)} (h : ns.map (·.1) = lack recs a) : ns.length ≤ recs.length + 1 := by
  have := congrArg List.length h
  rw [List.length_map] at this
  rw [this]; exact lack_len recs a
end Mine
end

section
open PySem PySem.W PyProof.Rows PyProof.Rows.LCg PyProof.Rows.LCt
set_option Elab.async false
set_option maxRecDepth 100000
namespace Mine
section
variable {prog : Program} {w : World} {A : Around} {E : Value → Shared → Prop} {s : Shared} {h₀ : Heap} {L : Addr} {news : Led} {value slice : Expr}
theorem item_P {l : Addr} {ns : List (Int × Tok)} {nl : Nat} {k x : Int} {u tx : Tok} {Q : Value → Shared → Prop} (N : News h₀ L s.heap news) (hm : (l, W.listOf (ns.map iv).toArray nl) ∈ news)
    (h0 : 0 ≤ k) (hg : ns[k.toNat]? = some (x, tx)) (hz : ns.length ≤ 1000) (h : Q (.int x tx) s)
    (hs : subscripted slice false (.ref l) (.int k u) = operate [.ref l, .int k u] (getItem (.ref l) (.int k u)) := by with_unfolding_all rfl) :
    wpAny (model prog w) A (subscriptTail value slice (.ref l) (.int k u)) Q E s :=
  item_N (v := .int x tx) N hm h0 (by rw [List.getElem?_map, hg]; rfl) (by simpa using hz) h hs
end
theorem off1_mem {D : Addr} : ∀ {nw : Led}, LCg.Off1 D nw → ∀ p ∈ nw, p.1 ≠ D
  | [], _, p, hp => nomatch hp
  | q :: r, h, p, hp => by
    rcases List.mem_cons.mp hp with e | hp
    · rw [e]; exact h.1
    · exact off1_mem h.2 p hp
/-- the pairs of an agent and its end, told in a ledger over news0 -/
def EndsIn (V : Str → Int) (ps : List (Str × Tok)) (d : Nat) (news0 : Led) (i : Nat) (ys : List Value) (nw : Led) : Prop :=
  ∃ as : List (Addr × (Str × Tok) × Tok), as.map (fun x => x.2.1) = ps.take i ∧ ys = as.map (fun x => Value.ref x.1) ∧ (∀ x ∈ as, ∃ n, (x.1, tupO #[.str x.2.1.1 x.2.1.2, .int (V x.2.1.1) x.2.2] n) ∈ nw) ∧
    (∀ p ∈ news0, p ∈ nw) ∧ ∀ p ∈ nw, p ∈ news0 ∨ @LT.lt Nat _ d p.1
theorem EndsIn.snoc {V : Str → Int} {ps : List (Str × Tok)} {d : Nat} {news0 : Led} {i : Nat} {ys : List Value} {nw : Led} (h : EndsIn V ps d news0 i ys nw) {p : Str × Tok} (hp : ps.take (i + 1) = ps.take i ++ [p]) {T : Addr} {tt : Tok} {n : Nat} (hT : @LT.lt Nat _ d T) :
    EndsIn V ps d news0 (i + 1) (ys ++ [.ref T]) ((T, tupO #[.str p.1 p.2, .int (V p.1) tt] n) :: nw) := by
  obtain ⟨as, h1, rfl, h3, h4, h5⟩ := h
  refine ⟨as ++ [(T, p, tt)], by rw [hp, List.map_append, h1]; rfl, by simp, fun x hx => ?_, fun q hq => List.mem_cons_of_mem _ (h4 q hq), fun q hq => ?_⟩
  · rcases List.mem_append.mp hx with hx | hx
    · obtain ⟨n, hn⟩ := h3 x hx
      exact ⟨n, List.mem_cons_of_mem _ hn⟩
    · rw [List.mem_singleton.mp hx]
      exact ⟨n, List.mem_cons_self⟩
  · rcases List.mem_cons.mp hq with rfl | hq
    · exact .inr hT
    · exact h5 q hq
abbrev tvOf (V : Str → Int) (x : Addr × (Str × Tok) × Tok) : Addr × Value × Value := (x.1, .str x.2.1.1 x.2.1.2, .int (V x.2.1.1) x.2.2)
theorem tv_at {V : Str → Int} {as : List (Addr × (Str × Tok) × Tok)} {ps : List (Str × Tok)} (hps : as.map (fun x => x.2.1) = ps) {t : Nat} {tv : Addr × Value × Value} (h : (as.map (tvOf V))[t]? = some tv) :
    ∃ (p : Str × Tok) (tt : Tok), tv.2.1 = .str p.1 p.2 ∧ tv.2.2 = .int (V p.1) tt ∧ ps.take (t + 1) = ps.take t ++ [p] := by
  rw [List.getElem?_map, Option.map_eq_some_iff] at h
  obtain ⟨x, hx, rfl⟩ := h
  refine ⟨x.2.1, x.2.2, rfl, rfl, ?_⟩
  rw [← hps, List.take_add_one, List.getElem?_map, hx]; rfl
theorem filt_yes {f : Str × Tok → Bool} {ps : List (Str × Tok)} {t : Nat} {p : Str × Tok} (h : ps.take (t + 1) = ps.take t ++ [p]) (hp : f p = true) : ((ps.take (t + 1)).filter f).map sv = ((ps.take t).filter f).map sv ++ [.str p.1 p.2] := by
  rw [h, List.filter_append, List.map_append, List.filter_cons, if_pos hp]; rfl
theorem filt_no {f : Str × Tok → Bool} {ps : List (Str × Tok)} {t : Nat} {p : Str × Tok} (h : ps.take (t + 1) = ps.take t ++ [p]) (hp : f p = false) : ((ps.take (t + 1)).filter f).map sv = ((ps.take t).filter f).map sv := by
  rw [h, List.filter_append, List.map_append, List.filter_cons, if_neg (by rw [hp]; decide)]; simp
end Mine
end

section
open PySem PySem.W PyProof.Rows PyProof.Rows.LCg PyProof.Rows.LCt
set_option Elab.async false
set_option maxRecDepth 100000
namespace Mine
variable {w : World} {mg mb : Str → Option Value} {mean : ExcName → Option Value} {loose : List Str} {tp : Program}
local macro_rules | `(tactic| k_room) => `(tactic| ((try simp only [depth_under_make, depth_under_kw, depth_in1, depth_deeper, depth_caller]); (show _ < 1000); (try dsimp only [ktrTop]); omega))
local macro_rules | `(tactic| k_units) => `(tactic| ((try simp only [units_under_make, units_in1, units_deeper, Around.mark_units, units_caller]); (show _ < 9900); (try dsimp only [ktrTop]); omega))
local macro_rules | `(tactic| k_mem) => `(tactic| assumption)
local macro_rules | `(tactic| walk_at "MY steps") => `(tactic| repeat' (first | (k_unfold; (try dsimp only)) | ((with_reducible show wpAny _ _ (exec _ _) _ _ _); k_fold) | walk1 | (dsimp only; walk1)))
local macro_rules | `(tactic| walk_at "call type:set cons nil") => `(tactic| (k_here; (with_reducible show wpAny _ _ (call (Value.type "set") [Value.ref _]) _ _ _); k_dflt (refine' set_N ?k1 ?k2 ?k3 ?k4 ?k5 ?_; (case k1 => k_asm); (case k2 => k_asm); (case k3 => k_mem); (case k4 => exact rfl); (case k5 => (show _ < 4096; omega)); k_whole); intro a' h' tk' o' c' F' N' hc' ho' l1; (try k_sweep)))
local macro_rules | `(tactic| walk_at "getAttr ref") => `(tactic| (k_here; (with_reducible show wpAny _ _ (getAttr (Value.ref _) (PySem.Str.ofString "__contains__") _) _ _ _); k_dflt (refine' contains_N ?k1 ?k2 ?k3 ?k4 ?_; (case k1 => k_asm); (case k2 => k_asm); (case k3 => exact List.Mem.head _); (case k4 => assumption); k_whole); intro a' h' F' N' l1; (try k_sweep)))
local macro_rules | `(tactic| walk_at "call type:filter cons nil") => `(tactic| (k_here; (with_reducible show wpAny _ _ (call (Value.type "filter") [Value.ref _, Value.ref _]) _ _ _); k_dflt (refine' filter_N ?k1 ?k2 ?k3 ?_; (case k1 => k_asm); (case k2 => k_asm); (case k3 => k_mem); k_whole); intro it' fo' h' F' N' l1 l2; (try k_sweep)))
local macro_rules | `(tactic| walk_at "call type:list cons nil") => `(tactic| (k_here; (with_reducible show wpAny _ _ (call (Value.type "list") [Value.ref _]) _ _ _); k_dflt (refine' list_filter_N ?k1 ?k2 ?k3 ?k4 ?k5 ?k6 ?k7 ?k8 ?k9 ?_; (case k1 => k_asm); (case k2 => k_asm); (case k3 => assumption); (case k4 => k_mem); (case k5 => assumption); (case k6 => assumption); (case k7 => exact rfl); (case k8 => (show _ ≤ 16777216; omega)); (case k9 => (show _ < 4096; omega)); k_whole); intro a' h' tk' c' F' N' l1; (try k_lt l1); (try k_sweep)))
local macro_rules | `(tactic| walk_at "exec For Name Attribute cons nil") => `(tactic| (k_here; k_dflt (refine For_my ?_)))
local macro_rules | `(tactic| walk_at "exec For Name Call cons nil") => `(tactic| (k_here; k_dflt (refine For_my ?_)))
local macro_rules | `(tactic| walk_at "call type:range cons nil") => `(tactic| (k_here; k_dflt (first
  | (refine' range1_N ?k1 ?k2 ?_; (case k1 => k_asm); (case k2 => k_asm); k_whole; intro r' h' tk' t' v' F' N' l1; (try k_lt l1); (try k_sweep))
  | (refine' range2_N ?k1 ?k2 ?_; (case k1 => k_asm); (case k2 => k_asm); k_whole; intro r' h' tk' v' F' N' l1; (try k_lt l1); (try k_sweep))
  | (refine' range3_N ?k1 ?k2 ?k3 ?k4 ?_; (case k1 => k_asm); (case k2 => k_asm); (case k3 => decide); (case k4 => exact PyProof.noPylong_small (by omega)); k_whole; intro r' h' F' N' l1; (try k_lt l1); (try k_sweep)))))
local macro_rules | `(tactic| walk_at "compareOp In str ref") => `(tactic| (k_here; (with_reducible show wpAny _ _ (compareOp CmpOp.In (Value.str _ _) (Value.ref _)) _ _ _); k_dflt (refine' in_N ?k1 ?k2 ?_; (case k1 => k_asm); (case k2 => k_mem); k_whole)))
local macro_rules | `(tactic| walk_at "compareOp NotIn str ref") => `(tactic| (k_here; (with_reducible show wpAny _ _ (compareOp CmpOp.NotIn (Value.str _ _) (Value.ref _)) _ _ _); k_dflt (refine' notin_N ?k1 ?k2 ?_; (case k1 => k_asm); (case k2 => k_mem); k_whole)))
local macro_rules | `(tactic| walk_at "TurnEnd") => `(tactic| refine TurnEnd.ret ?_)
local macro_rules | `(tactic| walk_at "WEnd") => `(tactic| (show (Mine.WEnd _ _ _ _ _ _ (Flow.ret _) _); dsimp only [Mine.WEnd]))
local macro_rules | `(tactic| walk_at "call builtin:len") => `(tactic| (k_here; (with_reducible show wpAny _ _ (call (Value.builtin "len") [Value.ref _]) _ _ _); k_dflt (refine' len_M ?k1 ?k2 ?k3 ?_; (case k1 => k_asm); (case k2 => k_mem); (case k3 => omega); k_whole); intro t' tk'))
local macro_rules | `(tactic| walk_at "exec While Compare cons nil") => `(tactic| (k_here; refine halt_of ?_))
local macro_rules | `(tactic| walk_at "MY ar") => `(tactic| first | with_reducible assumption | omega)
local macro_rules | `(tactic| walk_at "MY item") => `(tactic| (k_here; (with_reducible show wpAny _ _ (subscriptTail _ _ (Value.ref _) (Value.int _ _)) _ _ _); k_dflt (first
  | (refine' item_I ?k1 ?k2 ?k3 ?k4 ?k5 ?_ ?k6; (case k1 => k_asm); (case k2 => k_mem); (case k3 => walk_at "MY ar"); (case k4 => walk_at "MY ar"); (case k5 => walk_at "MY ar"); (case k6 => with_unfolding_all rfl); k_whole)
  | (refine' item_R ?k1 ?k2 ?k3 ?k4 ?k5 ?_ ?k6; (case k1 => k_asm); (case k2 => k_mem); (case k3 => walk_at "MY ar"); (case k4 => walk_at "MY ar"); (case k5 => walk_at "MY ar"); (case k6 => with_unfolding_all rfl); k_whole)
  | (refine' dget_I ?k1 ?k2 ?k3 ?k4 ?_ ?k6; (case k4 => with_reducible assumption); (case k1 => k_asm); (case k3 => with_reducible assumption); (case k2 => k_mem); (case k6 => with_unfolding_all rfl); k_whole))))
local macro_rules | `(tactic| walk_at "subscriptTail Name Name ref int") => `(tactic| walk_at "MY item")
local macro_rules | `(tactic| walk_at "subscriptTail Name Call ref int") => `(tactic| walk_at "MY item")
local macro_rules | `(tactic| walk_at "subscriptTail Subscript BinOp ref int") => `(tactic| walk_at "MY item")
local macro_rules | `(tactic| walk_at "subscriptTail Subscript Name ref int") => `(tactic| walk_at "MY item")
local macro_rules | `(tactic| walk_at "subscriptTail Name Subscript ref int") => `(tactic| walk_at "MY item")
local macro_rules | `(tactic| walk_at "subscriptTail Name BinOp ref int") => `(tactic| walk_at "MY item")
local macro_rules | `(tactic| walk_at "MY room") => `(tactic| (dsimp only [ktrTop, Around.deeper, Around.under, Around.in1]; omega))
local macro_rules | `(tactic| walk_at "call type:enumerate cons nil") => `(tactic| (k_here; (with_reducible show wpAny _ _ (call (Value.type "enumerate") [Value.ref _]) _ _ _); k_dflt (refine' enum_N ?k1 ?k2 ?k3 ?_; (case k1 => k_asm); (case k2 => k_asm); (case k3 => k_mem); k_whole); intro it' e' h' F' N' l1 l2; (try k_sweep)))
local macro_rules | `(tactic| walk_at "exec Assign cons ListComp") => `(tactic| (k_here; (with_reducible show wpAny _ _ (exec (Stmt.Assign [Expr.Name _ _] (Expr.ListComp _ [⟨Expr.Tuple _ _ _, _, _, _⟩] _ _) _) _) _ _ _); k_dflt (refine' Assign_ListComp_my ?k1 ?k2 ?k3 ?k4 ?_; (case k1 => with_unfolding_all rfl); (case k2 => with_unfolding_all rfl); (case k3 => rfl); (case k4 => decide))))
local macro_rules | `(tactic| walk_at "call builtin:list.extend") => `(tactic| (k_here; (with_reducible show wpAny _ _ (call (Value.builtin "list.extend") [Value.ref _, Value.ref _]) _ _ _); k_dflt (refine' extend_N ?k1 ?k2 ?k3 ?k4 ?k5 ?_; (case k1 => k_asm); (case k2 => k_asm); (case k3 => k_updF); (case k4 => k_mem); (case k5 => (simp only [List.size_toArray, List.length_map, List.length_reverse]; omega)); k_whole); intro h' n' F' N'; (try dsimp only at N'); (try k_sweep)))
local macro_rules | `(tactic| walk_at "subscriptTail Name Slice ref ref") => `(tactic| (k_here; (with_reducible show wpAny _ _ (subscriptTail _ (PySem.Expr.Slice none none (some _) _) (Value.ref _) (Value.ref _)) _ _ _); k_dflt (refine' rev_N ?F ?N ?l ?k ?z ?_ ?s ?t; (case F => k_asm); (case N => k_asm); (case l => k_mem); (case k => exact IsPart.int _ _); (case z => omega); (case s => with_unfolding_all rfl); (case t => kmk_pure); k_whole); intro D' h' F' N' l1; (try k_lt l1); (try k_sweep)))
local macro_rules | `(tactic| walk_at "MY sub") => `(tactic| (intro p9 hp9; repeat' (first | exact hp9 | refine List.mem_cons_of_mem _ ?_)))
local macro_rules | `(tactic| walk_at "MY f") => `(tactic| ((try show wpAny _ _ _ _ _ _); (try k_fold)))
section
local macro_rules | `(tactic| walk_at "MY steps") => `(tactic| repeat' (first | (k_unfold; (try dsimp only)) | ((with_reducible show wpAny _ _ (exec _ _) _ _ _); k_fold; (try (refine tok_any ?_; intro tk; dsimp only))) | walk1 | (dsimp only; walk1)))
local macro_rules | `(tactic| walk_at "eval IfExp Compare Attribute") => `(tactic| (k_here; refine halt_of ?_))
set_option maxHeartbeats 4000000
theorem merge_ctr (e1 e2 : Addr) (ps1 ps2 : List (Str × Tok)) (dl1 dl2 : Option (Int × Tok)) (hz1 : ps1.length ≤ 1000) (hz2 : ps2.length ≤ 1000) :
    Ctr w mg mb mean loose tp 10 100 (call (.ref 70) [.ref e1, .ref e2]) (fun R => EntryIn w R e1 ps1 dl1 ∧ EntryIn w R e2 ps2 dl2)
      (fun tl r => ∃ e, r = .ref e ∧ EntryIn w tl e (ps1.filter fun p => (ps2.map (·.1)).contains p.1) (dl2.or dl1)) := by
  unfold Ctr
  k_fill
  intro dp un gd cn cs a ccd cl outer A₀ base h₀ L m news s Q E B F X N T hk hR hd hu hret
  refine cj2 hR ?_
  clear hR
  intro hR1 hR2
  refine hR1.elim ?_
  clear hR1
  intro dx1 la1 lr1 t11 t12 t13 t14 nl1 nr1 h11 h12 h13 h14
  refine hR2.elim ?_
  clear hR2
  intro dx2 la2 lr2 t21 t22 t23 t24 nl2 nr2 h21 h22 h23 h24
  refine wpAny_call ?_
  k_dflt (refine' code_def (binds := [(Str.ofString "e1", .ref e1), (Str.ofString "e2", .ref e2)]) ?k1 ?k2 ?k3 ?k4 ?k5 ?kA ?kF ?kK ?k6 ?k7 ?k8 ?k9 ?kB ?_ ?c2 ?c3 ?c4 ?c5; (case kA => exact rfl); (case kF => exact rfl); (case kK => assumption); (case k1 => k_asm); (case k2 => k_asm); (case k3 => k_asm); (case k4 => k_asm); (case k5 => k_asm); (case k6 => k_is); (case k7 => k_is); (case k8 => ktr_room); (case k9 => exact BindsTo.of_eq rfl); (case c5 => decide); (case kB => exact locs rfl); (case c2 => exact rfl); (case c3 => exact rfl); (case c4 => exact rfl); k_whole; intro g' L' h' FG' F' N' B' X' T'; (try dsimp only); (try k_fold))
  walk_at "MY steps"
  refine Halt.go ?_
  walk_at "MY f"
  refine via_val (dval (dl2.or dl1)) (fun Q' hQ' => ?_) (fun tk9 => ?_)
  · refine IfExp_ ?_
    rcases dl2 with _ | ⟨d2, u2⟩ <;> simp only [dval] at h22
    · rcases dl1 with _ | ⟨d1, u1⟩ <;> simp only [dval] at h12
      all_goals walk_at "MY steps"
      all_goals exact hQ' _
    · walk_at "MY steps"
      exact hQ' _
  · obtain ⟨dv, hdv⟩ : ∃ dv, dv = dval (dl2.or dl1) := ⟨_, rfl⟩
    rw [← hdv]
    walk_at "MY steps"
    refine Halt.go ?_
    refine IfExp_ ?_
    walk_at "MY steps"
    subst hdv
    refine hret _ [_, _, _, _, _, _] _ _ (by k_asm) (by k_asm) ?_ ⟨_, rfl, EntryIn.intro (by k_mem) (by k_mem) (by k_mem) (by k_mem)⟩
    refine below_new (by assumption) ?_
    simp only [AllGe, and_true]
    omega
end

section
local macro_rules | `(tactic| walk_at "call builtin:str.split") => `(tactic| (k_here; (with_reducible show wpAny _ _ (call (Value.builtin "str.split") _) _ _ _); k_dflt (refine' split_T ?k1 ?k2 ?k3 ?k4 ?k5 ?_; (case k1 => k_asm); (case k2 => k_asm); (case k3 => with_reducible assumption); (case k4 => decide +kernel); (case k5 => with_reducible assumption); k_whole); intro D' t' v' h' tk' F' N' l1; (try k_lt l1); (try k_sweep)))
local macro_rules | `(tactic| walk_at "subscriptTail Call") => `(tactic| (k_here; (with_reducible show wpAny _ _ (subscriptTail _ _ (Value.ref _) (Value.int _ _)) _ _ _); k_dflt (refine' first_T ?k1 ?k2 ?_ ?k6; (case k1 => k_asm); (case k2 => exact List.Mem.head _); (case k6 => with_unfolding_all rfl); k_whole)))
local macro_rules | `(tactic| walk_at "call builtin:str.lower") => `(tactic| (k_here; (with_reducible show wpAny _ _ (call (Value.builtin "str.lower") [Value.str _ _]) _ _ _); k_dflt (refine' lower_T ?k1 ?_; (case k1 => with_reducible assumption); k_whole); intro t' tk'))
set_option maxHeartbeats 4000000
theorem applies_none (e : Addr) (ps : List (Str × Tok)) (dl : Option (Int × Tok)) :
    Ctr w mg mb mean loose tp 10 100 (call (.ref 49) [.ref e, .none]) (fun R => EntryIn w R e ps dl)
      (fun tl r => tl = [] ∧ r = .bool (decide (Str.ofString "*" ∈ ps.map (·.1)))) := by
  unfold Ctr
  k_fill
  intro dp un gd cn cs a ccd cl outer A₀ base h₀ L m news s Q E B F X N T hk hR hd hu hret
  refine hR.elim ?_
  intro dx1 la1 lr1 t11 t12 t13 t14 nl1 nr1 h11 h12 h13 h14
  refine wpAny_call ?_
  k_dflt (refine' code_def (binds := [(Str.ofString "self", .ref e), (Str.ofString "useragent", .none)]) ?k1 ?k2 ?k3 ?k4 ?k5 ?kA ?kF ?kK ?k6 ?k7 ?k8 ?k9 ?kB ?_ ?c2 ?c3 ?c4 ?c5; (case kA => exact rfl); (case kF => exact rfl); (case kK => assumption); (case k1 => k_asm); (case k2 => k_asm); (case k3 => k_asm); (case k4 => k_asm); (case k5 => k_asm); (case k6 => k_is); (case k7 => k_is); (case k8 => ktr_room); (case k9 => exact BindsTo.of_eq rfl); (case c5 => decide); (case kB => exact locs rfl); (case c2 => exact rfl); (case c3 => exact rfl); (case c4 => exact rfl); k_whole; intro g' L' h' FG' F' N' B' X' T'; (try dsimp only); (try k_fold))
  walk_at "MY steps"
  exact hret _ [] _ _ (by k_asm) (by k_asm) (fun _ _ _ h9 => nomatch h9) ⟨rfl, rfl⟩

theorem applies_gen (u0 f : Str) (rest fits : List Str) (e : Addr) (t0 : Tok) (ps : List (Str × Tok)) (dl : Option (Int × Tok)) (hall : ∀ p ∈ ps, p.1 ∈ five)
    (hsp : Txt.split u0 (Str.ofString "/") = f :: rest) (hul : u0.length + 2 ≤ sizeLine) (hfl : f.length ≤ 5592405) (hst : fits.contains (Str.ofString "*") = false)
    (hfit : ∀ q ∈ five, q ≠ Str.ofString "*" → (Builtin.Str.occurrences (Txt.lower f) (Txt.lower q) 0 (Txt.lower f).length 1).isEmpty = !fits.contains q) :
    Ctr w mg mb mean loose tp 10 100 (call (.ref 49) [.ref e, .str u0 t0]) (fun R => EntryIn w R e ps dl)
      (fun tl r => tl = [] ∧ r = .bool (appl fits ps)) := by
  unfold Ctr
  k_fill
  intro dp un gd cn cs a ccd cl outer A₀ base h₀ L m news s Q E B F X N T hk hR hd hu hret
  refine hR.elim ?_
  intro dx1 la1 lr1 t11 t12 t13 t14 nl1 nr1 h11 h12 h13 h14
  refine wpAny_call ?_
  k_dflt (refine' code_def (binds := [(Str.ofString "self", .ref e), (Str.ofString "useragent", .str u0 t0)]) ?k1 ?k2 ?k3 ?k4 ?k5 ?kA ?kF ?kK ?k6 ?k7 ?k8 ?k9 ?kB ?_ ?c2 ?c3 ?c4 ?c5; (case kA => exact rfl); (case kF => exact rfl); (case kK => assumption); (case k1 => k_asm); (case k2 => k_asm); (case k3 => k_asm); (case k4 => k_asm); (case k5 => k_asm); (case k6 => k_is); (case k7 => k_is); (case k8 => ktr_room); (case k9 => exact BindsTo.of_eq rfl); (case c5 => decide); (case kB => exact locs rfl); (case c2 => exact rfl); (case c3 => exact rfl); (case c4 => exact rfl); k_whole; intro g' L' h' FG' F' N' B' X' T'; (try dsimp only); (try k_fold))
  walk_at "MY steps"
  k_dflt (refine' loop_list (vs := ps.map sv) (fun i m nw => (∃ tu, m (Str.ofString "useragent") = some (.str (Txt.lower f) tu)) ∧ (∀ q ∈ news, q ∈ nw) ∧ ∀ p ∈ ps.take i, fits.contains p.1 = false) ?k1 ?k2 ?k3 ?k4 ?k5 ?_ ?_; (case k1 => exact rfl); (case k2 => k_asm); (case k3 => k_asm); (case k4 => k_mem); (case k5 => exact ⟨⟨_, rfl⟩, fun q hq => List.mem_cons_of_mem _ hq, fun p hp => nomatch hp⟩))
  · intro i v m₁ nw₁ own I oI h9 tk9 hv hJ hI ho1 ho2 ho3 F9 N9
    walk_at "MY f"
    refine cj3 hJ ?_
    clear hJ
    intro hu1 hsub hno
    refine hu1.elim ?_
    clear hu1
    intro tu hu1
    rw [List.getElem?_map] at hv
    cases hpi : ps[i]? with
    | none => rw [hpi] at hv; cases hv
    | some q =>
      rw [hpi] at hv
      obtain ⟨qa, qt⟩ := q
      simp only [Option.map_some, Option.some.injEq] at hv
      subst hv
      have h5 := hall (qa, qt) (List.mem_of_getElem? hpi)
      have hql := five_short _ h5
      have hft := hfit _ h5
      replace F9 := fr_known F9 hu1
      dsimp only [sv] at hql hft ⊢
      walk_at "MY steps"
      · exact TurnEnd.next nw₁ (by assumption) (by assumption) (fun p hp => hp) (fun p hp => by rw [List.mem_singleton]; exact hI p hp) ⟨⟨_, rfl⟩, hsub, take_step hno hpi (fit_no hft (by assumption) (by assumption))⟩
      · exact hret _ [] _ _ (by k_asm) (fun p hp => (by k_asm : News h₀ L _ (nw₁ ++ own)) p (List.mem_append_left _ (hsub p hp))) (fun _ _ _ h9 => nomatch h9) ⟨rfl, by rw [appl_true hpi (fit_yes hft (by assumption) (by assumption))]⟩
      · exact TurnEnd.next nw₁ (by assumption) (by assumption) (fun p hp => hp) (fun p hp => by rw [List.mem_singleton]; exact hI p hp) ⟨⟨_, rfl⟩, hsub, take_step hno hpi (fit_star hst (by assumption))⟩
  · intro m₁ nw₁ h9 tk9 hJ F9 N9
    refine cj3 hJ ?_
    clear hJ
    intro _ hsub hno
    dsimp only
    walk_at "MY steps"
    exact hret _ [] _ _ (by k_asm) (fun p hp => (by k_asm : News h₀ L _ nw₁) p (hsub p hp)) (fun _ _ _ h9 => nomatch h9) ⟨rfl, by rw [appl_false]; intro p hp; refine hno p ?_; rw [List.length_map, List.take_length]; exact hp⟩

theorem applies_1 (e : Addr) (t0 : Tok) (ps : List (Str × Tok)) (dl : Option (Int × Tok)) (hall : ∀ p ∈ ps, p.1 ∈ five) :
    Ctr w mg mb mean loose tp 10 100 (call (.ref 49) [.ref e, .str (Str.ofString "xFig/plum") t0]) (fun R => EntryIn w R e ps dl)
      (fun tl r => tl = [] ∧ r = .bool (appl [Str.ofString "fig", Str.ofString "Fig", Str.ofString "ig"] ps)) :=
  applies_gen (Str.ofString "xFig/plum") (Str.ofString "xFig") [Str.ofString "plum"] _ e t0 ps dl hall (by decide +kernel) (by decide +kernel) (by decide +kernel) (by decide +kernel) (by decide +kernel)
theorem applies_2 (e : Addr) (t0 : Tok) (ps : List (Str × Tok)) (dl : Option (Int × Tok)) (hall : ∀ p ∈ ps, p.1 ∈ five) :
    Ctr w mg mb mean loose tp 10 100 (call (.ref 49) [.ref e, .str (Str.ofString "Plumig") t0]) (fun R => EntryIn w R e ps dl)
      (fun tl r => tl = [] ∧ r = .bool (appl [Str.ofString "ig", Str.ofString "plum"] ps)) :=
  applies_gen (Str.ofString "Plumig") (Str.ofString "Plumig") [] _ e t0 ps dl hall (by decide +kernel) (by decide +kernel) (by decide +kernel) (by decide +kernel) (by decide +kernel)
theorem applies_3 (e : Addr) (t0 : Tok) (ps : List (Str × Tok)) (dl : Option (Int × Tok)) (hall : ∀ p ∈ ps, p.1 ∈ five) :
    Ctr w mg mb mean loose tp 10 100 (call (.ref 49) [.ref e, .str (Str.ofString "ig*/fig") t0]) (fun R => EntryIn w R e ps dl)
      (fun tl r => tl = [] ∧ r = .bool (appl [Str.ofString "ig"] ps)) :=
  applies_gen (Str.ofString "ig*/fig") (Str.ofString "ig*") [Str.ofString "fig"] _ e t0 ps dl hall (by decide +kernel) (by decide +kernel) (by decide +kernel) (by decide +kernel) (by decide +kernel)
end

section
set_option maxHeartbeats 4000000
theorem bisect_plain (l : Addr) (ns : List (Int × Tok)) (nl : Nat) (xv : Int) (tx : Tok) (hz : ns.length ≤ 1000) (hs : (ns.map (·.1)).Pairwise (· ≤ ·)) :
    Ctr w mg mb mean loose tp 10 100 (call (.ref 79) [.ref l, .int xv tx]) (fun R => (l, W.listOf (ns.map iv).toArray nl) ∈ R)
      (fun tl r => tl = [] ∧ ∃ (k : Nat) (t : Tok), r = .int (k : Int) t ∧ k ≤ ns.length ∧ (∀ j < k, (ns.getD j (0, 0)).1 < xv) ∧ ∀ j, k ≤ j → j < ns.length → xv ≤ (ns.getD j (0, 0)).1) := by
  unfold Ctr
  k_fill
  intro dp un gd cn cs a ccd cl outer A₀ base h₀ L m news s Q E B F X N T hk hR hd hu hret
  refine wpAny_call ?_
  k_dflt (refine' code_def (binds := [(Str.ofString "a", .ref l), (Str.ofString "x", .int xv tx), (Str.ofString "lo", .int 0 265), (Str.ofString "hi", .none), (Str.ofString "key", .none)]) ?k1 ?k2 ?k3 ?k4 ?k5 ?kA ?kF ?kK ?k6 ?k7 ?k8 ?k9 ?kB ?_ ?c2 ?c3 ?c4 ?c5; (case kA => exact rfl); (case kF => exact rfl); (case kK => assumption); (case k1 => k_asm); (case k2 => k_asm); (case k3 => k_asm); (case k4 => k_asm); (case k5 => k_asm); (case k6 => k_is); (case k7 => k_is); (case k8 => ktr_room); (case k9 => exact binds_peek (by k_in) (fun S => by with_unfolding_all rfl)); (case c5 => decide); (case kB => exact locs rfl); (case c2 => exact rfl); (case c3 => exact rfl); (case c4 => exact rfl); k_whole; intro g' L' h' FG' F' N' B' X' T'; (try dsimp only); (try k_fold))
  walk_at "MY steps"
  show wpAny _ _ _ _ _ _
  k_dflt (refine' While_my (fun k m nw => ∃ (lo hi : Nat) (tl th : Tok), m (Str.ofString "lo") = some (.int (lo : Int) tl) ∧ m (Str.ofString "hi") = some (.int (hi : Int) th) ∧ m (Str.ofString "a") = some (.ref l) ∧ m (Str.ofString "x") = some (.int xv tx) ∧ (∀ q ∈ news, q ∈ nw) ∧ lo ≤ hi ∧ hi ≤ ns.length ∧ (∀ j < lo, (ns.getD j (0, 0)).1 < xv) ∧ (∀ j, hi ≤ j → j < ns.length → xv ≤ (ns.getD j (0, 0)).1) ∧ k = hi - lo) ns.length ?k1 ?k2 ?k3 ?_; (case k1 => k_asm); (case k2 => k_asm); (case k3 => exact ⟨0, ns.length, _, _, rfl, rfl, rfl, rfl, fun q hq => hq, Nat.zero_le _, Nat.le_refl _, fun j hj => absurd hj (Nat.not_lt_zero _), fun j h1 h2 => absurd h2 (Nat.not_lt.mpr h1), rfl⟩))
  intro k m₁ nw₁ h9 tk9 hJ F9 N9
  refine ex4c10 hJ ?_
  clear hJ
  intro lo hi tl th e1 e2 e3 e4 hsub hlh hhn hlo hhi hk9
  subst hk9
  have hR' := hsub _ hR
  replace F9 := fr_knowns [(Str.ofString "lo", .int (lo : Int) tl), (Str.ofString "hi", .int (hi : Int) th), (Str.ofString "a", .ref l), (Str.ofString "x", .int xv tx)] F9 (by simp only [List.forall_mem_cons, List.not_mem_nil, false_implies, implies_true, and_true]; exact ⟨e1, e2, e3, e4⟩)
  refine ex1c2 (half lo hi) ?_
  intro mid hmid hm2
  walk_at "MY f"
  walk_at "MY steps"
  · have a1 : (ns.getD (((lo : Int) + (hi : Int)).fdiv 2).toNat (0, 0)).1 < xv := by assumption
    have a2 : (lo : Int) < (hi : Int) := by assumption
    rw [hmid, Int.toNat_natCast] at a1
    refine WEnd.next (hi - (mid + 1)) (by omega) (by assumption) (by assumption) ⟨mid + 1, hi, _, th, some_int (show ((lo : Int) + (hi : Int)).fdiv 2 + 1 = ((mid + 1 : Nat) : Int) by rw [hmid]; rfl), rfl, rfl, rfl, hsub, by omega, hhn, fun j hj => ?_, hhi, rfl⟩
    · exact Int.lt_of_le_of_lt (sorted_le hs (show j ≤ mid by omega) (by omega)) a1
  · have a1 : ¬ (ns.getD (((lo : Int) + (hi : Int)).fdiv 2).toNat (0, 0)).1 < xv := by assumption
    have a2 : (lo : Int) < (hi : Int) := by assumption
    rw [hmid, Int.toNat_natCast] at a1
    refine WEnd.next (mid - lo) (by omega) (by assumption) (by assumption) ⟨lo, mid, tl, _, rfl, some_int hmid, rfl, rfl, hsub, by omega, by omega, hlo, fun j h1 h2 => ?_, rfl⟩
    · exact Int.le_trans (Int.not_lt.mp a1) (sorted_le hs h1 h2)
  · have a2 : ¬ (lo : Int) < (hi : Int) := by assumption
    have e : lo = hi := by omega
    exact hret _ [] _ _ (by k_asm) (fun p hp => (by k_asm : News h₀ L _ nw₁) p (hsub p hp)) (fun _ _ _ h9 => nomatch h9) ⟨rfl, lo, tl, rfl, by omega, hlo, fun j h1 h2 => hhi j (by omega) h2⟩
end

section
local macro_rules | `(tactic| walk_at "call ref") => `(tactic| (k_here; (with_reducible show wpAny _ _ (call (Value.ref 79) [Value.ref _, Value.int _ _]) _ _ _); k_dflt (refine' Ctr.use (bisect_plain _ _ _ _ _ ?z ?s) ?k1 ?k2 ?k3 ?k4 ?k5 ?k6 ?k7 ?k8 ?k9 ?_; (case k1 => k_asm); (case k2 => k_asm); (case k3 => k_asm); (case k4 => k_asm); (case k5 => k_asm); (case k6 => first | exact rfl | assumption); (case k7 => k_mem); (case z => omega); (case s => assumption); (case k8 => walk_at "MY room"); (case k9 => walk_at "MY room"); k_whole); intro r' tl' h' tk' F' N' hl' hp'; obtain ⟨e9, kk', tt', e8, hk1', hk2', hk3'⟩ := hp'; subst e9; subst e8; clear hl'; replace N' := News.nilA N'; (try k_sweep)))
set_option maxHeartbeats 4000000
theorem lasts_ctr (l : Addr) (ns : List (Int × Tok)) (nl : Nat) (xv : Int) (tx : Tok) (hz : ns.length ≤ 1000) (hs : (ns.map (·.1)).Pairwise (· ≤ ·)) (hx : ∃ j, j < ns.length ∧ xv ≤ (ns.getD j (0, 0)).1) :
    Ctr w mg mb mean loose tp 15 150 (call (.ref 103) [.ref l, .int xv tx]) (fun R => (l, W.listOf (ns.map iv).toArray nl) ∈ R)
      (fun tl r => tl = [] ∧ ∃ (k : Nat) (t : Tok), r = .int (ns.getD k (0, 0)).1 t ∧ k < ns.length ∧ (∀ j < k, (ns.getD j (0, 0)).1 < xv) ∧ xv ≤ (ns.getD k (0, 0)).1) := by
  unfold Ctr
  k_fill
  intro dp un gd cn cs a ccd cl outer A₀ base h₀ L m news s Q E B F X N T hk hR hd hu hret
  obtain ⟨jx, hjx, hjx'⟩ := hx
  refine wpAny_call ?_
  k_dflt (refine' code_def (binds := [(Str.ofString "lack", .ref l), (Str.ofString "i", .int xv tx)]) ?k1 ?k2 ?k3 ?k4 ?k5 ?kA ?kF ?kK ?k6 ?k7 ?k8 ?k9 ?kB ?_ ?c2 ?c3 ?c4 ?c5; (case kA => exact rfl); (case kF => exact rfl); (case kK => assumption); (case k1 => k_asm); (case k2 => k_asm); (case k3 => k_asm); (case k4 => k_asm); (case k5 => k_asm); (case k6 => k_is); (case k7 => k_is); (case k8 => ktr_room); (case k9 => exact BindsTo.of_eq rfl); (case c5 => decide); (case kB => exact locs rfl); (case c2 => exact rfl); (case c3 => exact rfl); (case c4 => exact rfl); k_whole; intro g' L' h' FG' F' N' B' X' T'; (try dsimp only); (try k_fold))
  walk_at "MY steps"
  rename_i hA tkA FA kk tt hk1 hk2 hk3 NA
  have hlt : kk < ns.length := by
    rcases Nat.lt_or_ge kk ns.length with h | h
    · exact h
    · exact absurd (hk2 jx (by omega)) (Int.not_lt.mpr hjx')
  walk_at "MY steps"
  exact hret _ [] _ _ (by k_asm) (by k_asm) (fun _ _ _ h9 => nomatch h9) ⟨rfl, kk, _, rfl, hlt, hk2, hk3 kk (Nat.le_refl _) hlt⟩
end

section
local macro_rules | `(tactic| walk_at "binaryOp Pow int int") => `(tactic| (k_here; k_dflt (refine' pow_T ?k1 ?k2 ?_; (case k1 => with_reducible assumption); (case k2 => with_reducible assumption); k_whole); intro p' t' tk' hp1' hp2'; dsimp only))
local macro_rules | `(tactic| walk_at "binaryOp FloorDiv int int") => `(tactic| (k_here; k_dflt (refine' floordiv_T ?k1 ?k2 ?_; (case k1 => first | with_reducible assumption | decide); (case k2 => first | with_reducible assumption | decide); k_whole); intro d' t' tk'; dsimp only))
local macro_rules | `(tactic| walk_at "MY steps") => `(tactic| repeat' (first | (k_unfold; (try dsimp only)) | ((with_reducible show wpAny _ _ (exec _ _) _ _ _); k_fold; (try (refine tok_any ?_; intro tk; dsimp only))) | walk1 | (dsimp only; walk1)))
set_option maxHeartbeats 4000000
theorem record_ctr (n : Int) (tn : Tok) :
    Ctr w mg mb mean loose tp 10 100 (call (.ref 84) [.int n tn]) (fun _ => True)
      (fun tl r => ∃ e ps dl, r = .ref e ∧ EntryIn w tl e ps dl ∧ (∀ p ∈ ps, p.1 ∈ five) ∧ ps.length ≤ 5) := by
  unfold Ctr
  k_fill
  intro dp un gd cn cs a ccd cl outer A₀ base h₀ L m news s Q E B F X N T hk hR hd hu hret
  refine wpAny_call ?_
  k_dflt (refine' code_defC (binds := [(Str.ofString "n", .int n tn)]) ?k1 ?k2 ?k3 ?k4 ?k5 ?kA ?kF ?kK ?k6 ?k7 ?k8 ?k9 ?kB ?kD ?_ ?c2 ?c3 ?c4; (case kA => exact rfl); (case kF => exact rfl); (case kK => assumption); (case k1 => k_asm); (case k2 => k_asm); (case k3 => k_asm); (case k4 => k_asm); (case k5 => k_asm); (case k6 => k_is); (case k7 => k_is); (case k8 => ktr_room); (case k9 => exact BindsTo.of_eq rfl); (case kB => exact rfl); (case kD => decide +kernel); (case c2 => exact rfl); (case c3 => exact rfl); (case c4 => exact rfl); k_whole; intro g' L' h' tk' cells' FG' F' N' Y' B' X' T' l1; k_cells Y'; (try simp only [List.cons_append, List.nil_append] at N'); (try dsimp only); (try k_fold))
  walk_at "MY steps"
  k_dflt (refine' comp_enum_ro (fun i ys => ∃ ps : List (Str × Tok), ys = ps.map sv ∧ (∀ p ∈ ps, p.1 ∈ five) ∧ ps.length ≤ i) ?z ?c1 ?c2 ?c3 ?c4 ?c5 ?c6 ?k1 ?k2 ?k3 ?k4 ?k5 ?k6 ?_ ?_; (case k1 => k_asm); (case k2 => k_asm); (case k3 => exact List.Mem.head _); (case k4 => assumption); (case k5 => assumption); (case c1 => decide); (case c2 => rfl); (case c3 => rfl); (case c4 => rfl); (case c5 => decide); (case c6 => rfl); (case z => exact Nat.le_of_ble_eq_true rfl); (case k6 => exact ⟨[], rfl, by simp, Nat.le_refl _⟩))
  · intro i v t ys own C oC D mC h9 tk9 E' hv hJ hC hmk hma F9 N9
    refine ex1c3 hJ ?_
    clear hJ
    intro ps hys hps hpl
    subst hys
    refine ex2c4 (rec_at hv) ?_
    clear hv
    intro ag tv hv hag hi0 hi4
    subst hv
    walk_at "MY f"
    walk_at "MY steps"
    · exact Halt.go ⟨⟨_, map_snoc _ _ _, agents_snoc hps hag, len_snoc hpl⟩, _, _, rfl, by k_asm, by k_asm⟩
    · exact Halt.go ⟨⟨ps, rfl, hps, Nat.le_succ_of_le hpl⟩, _, _, rfl, by k_asm, by k_asm⟩
  · rintro D C h9 tk9 m9 ys ⟨ps, rfl, hps, hpl⟩ F9 N9 o1 hn hC0 hCL hCD offC
    k_dflt (refine' post_assign ?_ ?a ?b ?c F9 N9 o1 hn hC0 hCL hCD offC; (case a => rfl); (case b => rfl); (case c => rfl))
    clear F9 N9 o1 hn hC0 hCL hCD offC
    intro D h9 tk9 F9 N9 o1
    simp only [LCg.Off1] at o1
    replace hpl : ps.length ≤ 5 := hpl
    walk_at "MY steps"
    · exact hret _ _ _ _ (by k_asm) (ret_filter L' (by k_asm) (by walk_at "MY sub")) (below_filter (by assumption)) ⟨_, ps.reverse, some (_, _), rfl, EntryIn.intro (mem_ge (by k_mem) (by omega)) (mem_ge (by k_mem) (by omega)) (mem_ge (by k_mem) (by omega)) (mem_ge (by k_mem) (by omega)), fun p hp => hps p (List.mem_reverse.mp hp), by rw [List.length_reverse]; exact hpl⟩
    · exact hret _ _ _ _ (by k_asm) (ret_filter L' (by k_asm) (by walk_at "MY sub")) (below_filter (by assumption)) ⟨_, ps.reverse, none, rfl, EntryIn.intro (mem_ge (by k_mem) (by omega)) (mem_ge (by k_mem) (by omega)) (mem_ge (by k_mem) (by omega)) (mem_ge (by k_mem) (by omega)), fun p hp => hps p (List.mem_reverse.mp hp), by rw [List.length_reverse]; exact hpl⟩
    · exact hret _ _ _ _ (by k_asm) (ret_filter L' (by k_asm) (by walk_at "MY sub")) (below_filter (by assumption)) ⟨_, ps, some (_, _), rfl, EntryIn.intro (mem_ge (by k_mem) (by omega)) (mem_ge (by k_mem) (by omega)) (mem_ge (by k_mem) (by omega)) (mem_ge (by k_mem) (by omega)), hps, hpl⟩
    · exact hret _ _ _ _ (by k_asm) (ret_filter L' (by k_asm) (by walk_at "MY sub")) (below_filter (by assumption)) ⟨_, ps, none, rfl, EntryIn.intro (mem_ge (by k_mem) (by omega)) (mem_ge (by k_mem) (by omega)) (mem_ge (by k_mem) (by omega)) (mem_ge (by k_mem) (by omega)), hps, hpl⟩
end

local macro_rules | `(tactic| walk_at "binaryOp Mod int int") => `(tactic| (k_here; k_dflt (refine' mod_T ?k1 ?_; (case k1 => walk_at "MY ar"); k_whole); intro t' tk'; dsimp only))
local macro_rules | `(tactic| walk_at "binaryOp Add int int") => `(tactic| (k_here; k_dflt (refine' add_T ?_; k_whole); intro t' tk'; dsimp only))
local macro_rules | `(tactic| walk_at "binaryOp Sub int int") => `(tactic| (k_here; k_dflt (refine' sub_T ?_; k_whole); intro t' tk'; dsimp only))
local macro_rules | `(tactic| walk_at "MY item2") => `(tactic| (k_here; (with_reducible show wpAny _ _ (subscriptTail _ _ (Value.ref _) (Value.int _ _)) _ _ _); k_dflt (first
  | (refine' dget_I ?k1 ?k2 ?k3 ?k4 ?_ ?k6; (case k4 => with_reducible assumption); (case k1 => k_asm); (case k3 => with_reducible assumption); (case k2 => k_mem); (case k6 => with_unfolding_all rfl); k_whole)
  | (refine' item_R ?k1 ?k2 ?k3 ?k4 ?k5 ?_ ?k6; (case k1 => k_asm); (case k2 => with_reducible k_mem); (case k3 => walk_at "MY ar"); (case k4 => walk_at "MY ar"); (case k5 => walk_at "MY ar"); (case k6 => with_unfolding_all rfl); k_whole)
  | (refine' item_I ?k1 ?k2 ?k3 ?k4 ?k5 ?_ ?k6; (case k1 => k_asm); (case k2 => with_reducible k_mem); (case k3 => walk_at "MY ar"); (case k4 => walk_at "MY ar"); (case k5 => walk_at "MY ar"); (case k6 => with_unfolding_all rfl); k_whole))))
local macro_rules | `(tactic| walk_at "subscriptTail Name Name ref int") => `(tactic| walk_at "MY item2")
local macro_rules | `(tactic| walk_at "subscriptTail Name Call ref int") => `(tactic| walk_at "MY item2")
local macro_rules | `(tactic| walk_at "subscriptTail Subscript BinOp ref int") => `(tactic| walk_at "MY item2")
local macro_rules | `(tactic| walk_at "subscriptTail Subscript Name ref int") => `(tactic| walk_at "MY item2")
local macro_rules | `(tactic| walk_at "subscriptTail Name Subscript ref int") => `(tactic| walk_at "MY item2")
local macro_rules | `(tactic| walk_at "subscriptTail Name BinOp ref int") => `(tactic| walk_at "MY item2")
local macro_rules | `(tactic| walk_at "CompSrcT") => `(tactic| (k_here; refine halt_of ?_))
local macro_rules | `(tactic| walk_at "CompSrc") => `(tactic| (k_here; refine halt_of ?_))
local macro_rules | `(tactic| walk_at "eval ListComp") => `(tactic| (k_here; k_dflt (first
  | (refine LCt.ListComp_T (F₀ := by k_asm) (by with_unfolding_all rfl) (by decide) (by rfl) (by decide) (by rfl) ?_)
  | (refine LCg.ListComp_U (F₀ := by k_asm) (by with_unfolding_all rfl) (by decide) (by rfl) (by decide) (by rfl) ?_)
  | (refine' ListComp_my ?k2 ?k3 ?k4 ?_; (case k2 => with_unfolding_all rfl); (case k3 => rfl); (case k4 => decide)))))
local macro_rules | `(tactic| walk_at "exec Assign cons ListComp") => `(tactic| (k_here; k_dflt (first
  | (refine LCt.Assign_ListComp_T (F₀ := by k_asm) (by rfl) (by with_unfolding_all rfl) (by with_unfolding_all rfl) (by decide) (by rfl) (by decide) (by rfl) (by rfl) (by rfl) ?_)
  | (refine LCg.Assign_ListComp_U (F₀ := by k_asm) (by rfl) (by with_unfolding_all rfl) (by with_unfolding_all rfl) (by decide) (by rfl) (by decide) (by rfl) (by rfl) (by rfl) ?_))))
local macro_rules | `(tactic| walk_at "exec For Name List cons nil") => `(tactic| (k_here; k_dflt (refine For_my ?_)))
local macro_rules | `(tactic| walk_at "subscriptTail Name Name ref str") => `(tactic| (k_here; (with_reducible show wpAny _ _ (subscriptTail _ _ (Value.ref _) (Value.str _ _)) _ _ _); k_dflt (refine' dget_S ?k1 ?k2 ?k3 ?k4 ?_ ?k6; (case k4 => with_reducible assumption); (case k1 => k_asm); (case k3 => with_reducible assumption); (case k2 => k_mem); (case k6 => with_unfolding_all rfl); k_whole)))
section
local macro_rules | `(tactic| walk_at "setItem ref int") => `(tactic| (k_here; refine halt_of ?_))
local macro_rules | `(tactic| walk_at "call builtin:list.append") => `(tactic| (k_here; refine halt_of ?_))
local macro_rules | `(tactic| walk_at "call ref") => `(tactic| (k_here; (with_reducible show wpAny _ _ (call (Value.ref 70) [Value.ref _, Value.ref _]) _ _ _); refine halt_of ?_))
set_option maxHeartbeats 4000000
theorem rows_ctr (R₀ : Led) (lr ln : Addr) (rs : List Addr) (nr nn : Nat) (ns : List (Int × Tok)) (recs : List Rec) (hrs : rs.length = recs.length) (hns : ns.length = recs.length) (hz : recs.length ≤ 8) (h5 : ∀ k, (recs.getD k rec0).1.length ≤ 5) :
    Ctr w mg mb mean loose tp 20 200 (call (.ref 91) [.ref lr, .ref ln]) (fun R => R = R₀ ∧ (lr, W.listOf (rs.map Value.ref).toArray nr) ∈ R ∧ (ln, W.listOf (ns.map iv).toArray nn) ∈ R ∧ ∀ k, k < recs.length → EntryIn w R (rs.getD k 0) (recs.getD k rec0).1 (recs.getD k rec0).2)
      (fun tl r => ∃ d od kvs, r = .ref d ∧ (d, od) ∈ tl ∧ od.IsDictOf (intKind PySem.Challenge.rw_ny0092_01.row.prog w) kvs ∧ kvs.length = recs.length ∧ (d == sysModules) = false ∧ RowsIn w recs 0 kvs (tl ++ R₀)) := by
  unfold Ctr
  k_fill
  intro dp un gd cn cs a ccd cl outer A₀ base h₀ L m news s Q E B F X N T hk hR hd hu hret
  obtain ⟨rfl, hlr, hln, hrec⟩ := hR
  refine wpAny_call ?_
  k_dflt (refine' code_def (binds := [(Str.ofString "records", .ref lr), (Str.ofString "numbers", .ref ln)]) ?k1 ?k2 ?k3 ?k4 ?k5 ?kA ?kF ?kK ?k6 ?k7 ?k8 ?k9 ?kB ?_ ?c2 ?c3 ?c4 ?c5; (case kA => exact rfl); (case kF => exact rfl); (case kK => assumption); (case k1 => k_asm); (case k2 => k_asm); (case k3 => k_asm); (case k4 => k_asm); (case k5 => k_asm); (case k6 => k_is); (case k7 => k_is); (case k8 => ktr_room); (case k9 => exact BindsTo.of_eq rfl); (case c5 => decide); (case kB => exact locs rfl); (case c2 => exact rfl); (case c3 => exact rfl); (case c4 => exact rfl); k_whole; intro g' L' h' FG' F' N' B' X' T'; (try dsimp only); (try k_fold))
  walk_at "MY steps"
  rename_i dR _ oR lR sR _ _ hiR _ _ _ _ _ _ rA hA FA NA lA
  have e0 : Builtin.Range.rangeSize ((rs.length : Int) - 1) (-1) (-1) = ((recs.length : Nat) : Int) := by
    rw [hrs]
    unfold Builtin.Range.rangeSize
    rw [if_neg (by decide)]
    split
    · rw [show - -(1 : Int) = 1 from rfl, Int.ediv_one]; omega
    · omega
  have NA' : News g' L' hA ((dR, oR) :: (rA, rangeObj _ _ _ _ _ _) :: news) := fun p hp => NA p (by
    rcases List.mem_cons.mp hp with rfl | hp
    · exact List.mem_cons_of_mem _ List.mem_cons_self
    · rcases List.mem_cons.mp hp with rfl | hp
      · exact List.mem_cons_self
      · exact List.mem_cons_of_mem _ (List.mem_cons_of_mem _ hp))
  clear NA
  have hsm : Builtin.Range.small ((rs.length : Int) - 1) (-1) (-1) = true := by rw [hrs]; exact small_down hz
  k_dflt (refine' loop_range (n := recs.length) (fun t m nw => m (Str.ofString "records") = some (.ref lr) ∧ m (Str.ofString "numbers") = some (.ref ln) ∧ m (Str.ofString "rows") = some (.ref dR) ∧
            ∃ od kvs fz, nw = (dR, od) :: fz ∧ od.IsDictOf (intKind PySem.Challenge.rw_ny0092_01.row.prog w) kvs ∧ kvs.length = t ∧ (∀ p ∈ kvs, ((recs.length - t : Nat) : Int) ≤ p.1) ∧ RowsIn w recs (recs.length - t) kvs fz ∧ (∀ p ∈ fz, p.1 ≠ dR ∧ (p ∈ news ∨ dR ≤ p.1)) ∧ ∀ q ∈ news, q ∈ fz)
            ?k1 ?k2 NA' ?k4 hsm e0 ?zz7 ?_ ?_; (case k1 => exact rfl); (case k2 => k_asm); (case k4 => exact List.mem_cons_of_mem _ List.mem_cons_self))
  · refine ⟨rfl, rfl, rfl, oR, [], _, rfl, hiR, rfl, by simp, fun k h1 h2 => absurd h2 (Nat.not_lt.mpr h1), fun p hp => ?_, fun q hq => List.mem_cons_of_mem _ hq⟩
    rcases List.mem_cons.mp hp with rfl | hp
    · exact ⟨Nat.ne_of_gt lA.1, .inr (Nat.le_of_lt lA.1)⟩
    · exact ⟨Nat.ne_of_lt (lR p hp), .inl hp⟩
  · intro t ti m₁ nw₁ own I oI h9 tk9 ht hJ hI ho1 ho2 F9 N9
    walk_at "MY f"
    refine cj4 hJ ?_
    clear hJ
    intro em1 em2 em3 hJ
    refine ex3c7 hJ ?_
    clear hJ
    intro od kvs fz hnw hod hkl hkk hrows hfz hsub
    subst hnw
    obtain ⟨i, hi⟩ : ∃ i, i + t + 1 = recs.length := ⟨recs.length - t - 1, by clear e0 hkl hns hrs; omega⟩
    refine rows_at hi hrs hz ?_
    intro ei ei1 ei2 ei3 ei4 ei5 ei6 ei7 ei8
    rw [ei]
    replace F9 := fr_knowns [(Str.ofString "records", .ref lr), (Str.ofString "numbers", .ref ln), (Str.ofString "rows", .ref dR)] F9 (by simp only [List.forall_mem_cons, List.not_mem_nil, false_implies, implies_true, and_true]; exact ⟨em1, em2, em3⟩)
    simp only [List.cons_append] at N9
    obtain ⟨fo, hfo⟩ : ∃ fo, fo = fz ++ own := ⟨_, rfl⟩
    rw [← hfo] at N9
    have hlr' : (lr, W.listOf (rs.map Value.ref).toArray nr) ∈ fo := by rw [hfo]; exact List.mem_append_left _ (hsub _ hlr)
    have hln' : (ln, W.listOf (ns.map iv).toArray nn) ∈ fo := by rw [hfo]; exact List.mem_append_left _ (hsub _ hln)
    walk_at "MY f"
    walk_at "MY steps"
    rename_i _ lI hB FB NB lB
    have hfoI : ∀ p ∈ fo, p.1 < lI := ktn_ltOf lB.2
    have hIl : I < lI := hfoI (I, oI) (by rw [hfo]; exact List.mem_append_right _ ho1)
    have hId : I ≠ dR := fun e => hI (dR, od) List.mem_cons_self e.symm
    have hfod : ∀ p ∈ fo, p.1 ≠ dR := by
      intro p hp
      rw [hfo] at hp
      rcases List.mem_append.mp hp with h | h
      · exact (hfz p h).1
      · rw [ho2 p h]; exact hId
    have hnone : valueAt kvs (i : Int) = none := by
      unfold valueAt
      rw [Option.map_eq_none_iff, List.find?_eq_none]
      intro p hp e
      have := hkk p hp
      have e' : p.1 = (i : Int) := by simpa using e
      exact (rows_none hi this).1 e'
    refine dset_IH FB NB (List.mem_cons_of_mem _ List.mem_cons_self) ((lI, W.listOf #[Value.ref (rs.getD ((i : Int)).toNat 0)] 0) :: fo) ?_ hod (hkl ▸ ei4) ?_
    · intro p hp
      rcases List.mem_cons.mp hp with rfl | hp
      · exact ⟨List.mem_cons_self, Nat.ne_of_gt lB.1⟩
      · exact ⟨List.mem_cons_of_mem _ (List.mem_cons_of_mem _ hp), hfod p hp⟩
    intro hC odC tkC FC NC hodC
    rw [stored_absent hnone] at hodC
    have hvI : valueAt (kvs ++ [((i : Int), Value.ref lI)]) (i : Int) = some (.ref lI) := valueAt_new hnone
    have hrowsC : RowsIn w recs (i + 1) (kvs ++ [((i : Int), Value.ref lI)]) fz := by
      intro k h1 h2
      obtain ⟨l, nl, es, q1, q2⟩ := hrows k ((rows_end (q := 0) hi rfl).2.2.2 h1) h2
      exact ⟨l, nl, es, valueAt_old q1, q2⟩
    walk_at "MY steps"
    rename_i rD hD _ _ FD ND lD
    have ND' : News g' L' hD ((lI, W.listOf ([rs.getD i 0].map Value.ref).toArray 0) :: (dR, odC) :: (((rD, rangeObj _ _ _ _ _ _) :: fz) ++ own)) := fun p hp => ND p (by
      rw [hfo]
      rcases List.mem_cons.mp hp with rfl | hp
      · exact List.mem_cons_of_mem _ (List.mem_cons_of_mem _ List.mem_cons_self)
      · rcases List.mem_cons.mp hp with rfl | hp
        · exact List.mem_cons_of_mem _ List.mem_cons_self
        · rcases List.mem_cons.mp hp with rfl | hp
          · exact List.mem_cons_self
          · exact List.mem_cons_of_mem _ (List.mem_cons_of_mem _ (List.mem_cons_of_mem _ hp)))
    have e1 : Builtin.Range.rangeSize ((i : Int) + 2) ((rs.length : Int) + 1) 1 = ((recs.length - 1 - i : Nat) : Int) := by
      have := @size_up (i + 2) (rs.length + 1)
      rw [ei3]
      exact this
    have hsm1 : Builtin.Range.small ((i : Int) + 2) ((rs.length : Int) + 1) 1 = true := small_up (a := i + 2) (b := rs.length + 1) ei1 ei2
    k_dflt (refine' loop_range (n := recs.length - 1 - i) (fun u m nw => m (Str.ofString "records") = some (.ref lr) ∧ m (Str.ofString "numbers") = some (.ref ln) ∧ m (Str.ofString "rows") = some (.ref dR) ∧ m (Str.ofString "i") = some (.int (i : Int) ti) ∧
              ∃ es nl fy, nw = (lI, W.listOf (List.map Value.ref es).toArray nl) :: (dR, odC) :: (fy ++ own) ∧ es.length = u + 1 ∧ (∀ q, q < u + 1 → EntryIn w fy (es.getD q 0) (mps recs i (i + q + 1)) (mdl recs i (i + q + 1))) ∧ RowsIn w recs (i + 1) (kvs ++ [((i : Int), Value.ref lI)]) fy ∧ (∀ p ∈ fy, p.1 ≠ lI ∧ p.1 ≠ dR ∧ p.1 ≠ I ∧ (p ∈ news ∨ dR ≤ p.1)) ∧ ∀ q ∈ news, q ∈ fy)
              ?k1 ?k2 ND' ?k4 hsm1 e1 ?kk7 ?_ ?_; (case k1 => exact rfl); (case k2 => k_asm); (case k4 => exact List.mem_cons_of_mem _ (List.mem_cons_of_mem _ List.mem_cons_self)))
    · refine ⟨rfl, rfl, rfl, rfl, [rs.getD i 0], 0, _, rfl, rfl, fun q hq => ?_, hrowsC.mono fun p hp => List.mem_cons_of_mem _ hp, fun p hp => ?_, fun q hq => List.mem_cons_of_mem _ (hsub q hq)⟩
      · have : q = 0 := Nat.lt_one_iff.mp hq
        subst this
        show EntryIn w _ (rs.getD i 0) (mps recs i (i + 1)) (mdl recs i (i + 1))
        rw [mps_one, mdl_one]
        exact (hrec i ei5).mono fun p hp => List.mem_cons_of_mem _ (hsub p hp)
      · rcases List.mem_cons.mp hp with rfl | hp
        · exact ⟨Nat.ne_of_gt lD.2.1, Nat.ne_of_gt lD.1, Nat.ne_of_gt (Nat.lt_trans hIl lD.2.1), .inr (Nat.le_of_lt lD.1)⟩
        · exact ⟨Nat.ne_of_lt (hfoI p (by rw [hfo]; exact List.mem_append_left _ hp)), (hfz p hp).1, hI p (List.mem_cons_of_mem _ hp), (hfz p hp).2⟩
    · intro u tu m₂ nw₂ own2 I2 oI2 h10 tk10 hu2 hJ2 hI2 hp1 hp2 F10 N10
      walk_at "MY f"
      refine cj5 hJ2 ?_
      clear hJ2
      intro em1' em2' em3' em4' hJ2
      refine ex3c6 hJ2 ?_
      clear hJ2
      intro es nl fy hnw hel hes hrowsY hfy hsubY
      subst hnw
      obtain ⟨j, hj⟩ : ∃ j, j = i + 2 + u := ⟨_, rfl⟩
      have ej := rows_j hj
      rw [ej]
      replace F10 := fr_knowns [(Str.ofString "records", .ref lr), (Str.ofString "numbers", .ref ln), (Str.ofString "rows", .ref dR), (Str.ofString "i", .int (i : Int) ti)] F10 (by simp only [List.forall_mem_cons, List.not_mem_nil, false_implies, implies_true, and_true]; exact ⟨em1', em2', em3', em4'⟩)
      simp only [List.cons_append] at N10
      obtain ⟨fp, hfp⟩ : ∃ fp, fp = fy ++ own ++ own2 := ⟨_, rfl⟩
      rw [← hfp] at N10
      have hyp : ∀ p ∈ fy, p ∈ fp := fun p hp => by rw [hfp]; exact List.mem_append_left _ (List.mem_append_left _ hp)
      have hlr'' := hyp _ (hsubY _ hlr)
      have hln'' := hyp _ (hsubY _ hln)
      refine ex1c3 (rows_cut (i := i) (ns.getD ((j : Int) - 1).toNat (0, 0)).1 (rows_ij hj)) ?_
      intro c hc hc1 hc2
      refine ex3c4 (hrowsY c hc1 (rows_in hu2 hj hc2)) ?_
      intro lc nc ec hv2 hm2 hl2 hen2
      refine rows_ar hu2 hj hz hns hel hl2 hc hc1 hc2 ?_
      intro a1 a2 a3 a4 a5 a6 a7 a8 a9 a10 z1 z2 y1 y2 x1 x2 y3 y4
      have hm2' := hyp _ hm2
      rw [← hc] at hv2
      clear e0 hsm e1 hsm1 ei ej hrowsC hrows hnone hrec
      walk_at "MY f"
      walk_at "MY steps"
      have g1 := hes (c - i - 1) y1
      have g2 := hen2 (j - c - 1) y2
      rw [x1] at g1
      rw [x2] at g2
      rw [z1, z2]
      clear z1 z2 x1 x2 y1 y2 a1 a2 a3 a4 a5 a6 a8 a9 a10
      walk_at "MY f"
      k_dflt (refine' Ctr.use (merge_ctr _ _ (mps recs i c) (mps recs c j) (mdl recs i c) (mdl recs c j) (mps_len h5) (mps_len h5)) ?k1 ?k2 ?k3 ?k4 ?k5 ?k6 ?k7 ?k8 ?k9 ?_; (case k1 => k_asm); (case k2 => k_asm); (case k3 => k_asm); (case k4 => k_asm); (case k5 => k_asm); (case k6 => first | exact rfl | assumption); (case k7 => exact ⟨g1.mono fun p hp => List.mem_cons_of_mem _ (List.mem_cons_of_mem _ (hyp p hp)), g2.mono fun p hp => List.mem_cons_of_mem _ (List.mem_cons_of_mem _ (hyp p hp))⟩); (case k8 => walk_at "MY room"); (case k9 => walk_at "MY room"); k_whole)
      intro r11 tl11 h11 tk11 F11 N11 hl11 hp11
      refine ex1c2 hp11 ?_
      clear hp11
      intro eN hr11 hEN
      subst hr11
      rw [← mps_cut y3 y4, ← mdl_cut y3 j y4] at hEN
      walk_at "MY steps"
      have hlt : ∀ q ∈ (lI, W.listOf (List.map Value.ref es).toArray nl) :: (dR, odC) :: fp, ∀ p ∈ tl11, q.1 < p.1 := hl11
      have hdl : dR ≠ lI := Nat.ne_of_lt lB.1
      have hI2l : I2 ≠ lI := fun e => hI2 _ List.mem_cons_self e.symm
      refine app_RH (by k_asm) N11 (List.mem_append_right _ List.mem_cons_self) ((dR, odC) :: (((tl11 ++ fy) ++ own) ++ own2)) ?_ a7 ?_
      · intro p hp
        rcases List.mem_cons.mp hp with rfl | hp
        · exact ⟨List.mem_append_right _ (List.mem_cons_of_mem _ List.mem_cons_self), hdl⟩
        · rw [List.append_assoc, List.append_assoc] at hp
          rcases List.mem_append.mp hp with hp | hp
          · exact ⟨List.mem_append_left _ hp, Nat.ne_of_gt (hlt _ List.mem_cons_self p hp)⟩
          · rw [← List.append_assoc, ← hfp] at hp
            refine ⟨List.mem_append_right _ (List.mem_cons_of_mem _ (List.mem_cons_of_mem _ hp)), ?_⟩
            rw [hfp] at hp
            rcases List.mem_append.mp hp with hp | hp
            · rcases List.mem_append.mp hp with hp | hp
              · exact (hfy p hp).1
              · rw [ho2 p hp]; exact Nat.ne_of_lt hIl
            · rw [hp2 p hp]; exact hI2l
      intro h12 F12 N12
      dsimp only
      walk_at "MY steps"
      refine TurnEnd.next ((lI, W.listOf (List.map Value.ref (es ++ [eN])).toArray (nl + 1)) :: (dR, odC) :: ((tl11 ++ fy) ++ own)) F12 N12 (fun p hp => by simpa using hp) ?_ ⟨rfl, rfl, rfl, rfl, es ++ [eN], nl + 1, tl11 ++ fy, rfl, by rw [List.length_append, hel]; rfl, ?_, hrowsY.mono fun p hp => List.mem_append_right _ hp, ?_, fun q hq => List.mem_append_right _ (hsubY q hq)⟩
      · intro p hp
        simp only [List.mem_cons, List.not_mem_nil, or_false]
        rcases List.mem_cons.mp hp with rfl | hp
        · exact fun e => hI2l e.symm
        · rcases List.mem_cons.mp hp with rfl | hp
          · exact hI2 (dR, odC) (List.mem_cons_of_mem _ List.mem_cons_self)
          · rw [List.append_assoc] at hp
            rcases List.mem_append.mp hp with hp | hp
            · exact Nat.ne_of_gt (hlt (I2, oI2) (List.mem_cons_of_mem _ (List.mem_cons_of_mem _ (by rw [hfp]; exact List.mem_append_right _ hp1))) p hp)
            · exact hI2 p (List.mem_cons_of_mem _ (List.mem_cons_of_mem _ hp))
      · intro q hq
        rcases Nat.lt_or_ge q (u + 1) with h | h
        · rw [getD_old (hel ▸ h)]
          exact (hes q h).mono fun p hp => List.mem_append_right _ hp
        · have e : q = u + 1 := Nat.le_antisymm (Nat.lt_succ_iff.mp hq) h
          rw [getD_new (hel ▸ e)]
          rw [rows_q hj e]
          exact hEN.mono fun p hp => List.mem_append_left _ hp
      · intro p hp
        rcases List.mem_append.mp hp with hp | hp
        · have k1 := hlt _ List.mem_cons_self p hp
          have k2 := hlt _ (List.mem_cons_of_mem _ List.mem_cons_self) p hp
          have k3 := hlt (I, oI) (List.mem_cons_of_mem _ (List.mem_cons_of_mem _ (by rw [hfp]; exact List.mem_append_left _ (List.mem_append_right _ ho1)))) p hp
          exact ⟨Nat.ne_of_gt k1, Nat.ne_of_gt k2, Nat.ne_of_gt k3, .inr (Nat.le_of_lt k2)⟩
        · exact hfy p hp
    · intro m₃ nw₃ h13 tk13 hJ2 F13 N13
      refine cj5 hJ2 ?_
      clear hJ2
      intro em1' em2' em3' em4' hJ2
      refine ex3c6 hJ2 ?_
      clear hJ2
      intro es nl fy hnw hel hes hrowsY hfy hsubY
      subst hnw
      dsimp only
      walk_at "MY steps"
      have hlast := (rows_end (k := 0) (q := 0) hi hel).1
      have hel' := (rows_end (k := 0) (q := 0) hi hel).2.1
      have hqq : ∀ q, q < recs.length - i → q < recs.length - 1 - i + 1 := fun q => (rows_end (k := 0) (q := q) hi hel).2.2.1
      refine TurnEnd.next ((dR, odC) :: (lI, W.listOf (List.map Value.ref es).toArray nl) :: fy) F13 N13 ?_ ?_ ⟨em1', em2', em3', odC, _, _, rfl, hodC, by rw [List.length_append, hkl]; rfl, ?_, ?_, ?_, fun q hq => List.mem_cons_of_mem _ (hsubY q hq)⟩
      · intro p hp
        simp only [List.cons_append, List.mem_cons] at hp ⊢
        rcases hp with h | h | h
        · exact .inr (.inl h)
        · exact .inl h
        · exact .inr (.inr h)
      · intro p hp
        simp only [List.mem_cons, List.not_mem_nil, or_false] at hp ⊢
        rcases hp with rfl | rfl | hp
        · exact fun e => hId e.symm
        · exact Nat.ne_of_gt hIl
        · exact (hfy p hp).2.2.1
      · intro p hp
        rw [hlast]
        rcases List.mem_append.mp hp with hp | hp
        · exact (rows_none hi (hkk p hp)).2
        · rw [List.mem_singleton.mp hp]; exact Int.le_refl _
      · rw [hlast]
        intro k h1 h2
        rcases Nat.lt_or_ge i k with h | h
        · exact (hrowsY.mono fun p hp => List.mem_cons_of_mem _ hp) k h h2
        · have e : k = i := Nat.le_antisymm h h1
          subst e
          exact ⟨lI, nl, es, hvI, List.mem_cons_self, hel', fun q hq => (hes q (hqq q hq)).mono fun p hp => List.mem_cons_of_mem _ hp⟩
      · intro p hp
        rcases List.mem_cons.mp hp with rfl | hp
        · exact ⟨Nat.ne_of_gt lB.1, .inr (Nat.le_of_lt lB.1)⟩
        · exact ⟨(hfy p hp).2.1, (hfy p hp).2.2.2⟩
  · intro m₁ nw₁ h9 tk9 hJ F9 N9
    refine cj4 hJ ?_
    clear hJ
    intro em1 em2 em3 hJ
    refine ex3c7 hJ ?_
    clear hJ
    intro od kvs fz hnw hod hkl hkk hrows hfz hsub
    subst hnw
    replace F9 := fr_knowns [(Str.ofString "rows", .ref dR)] F9 (by simp only [List.forall_mem_cons, List.not_mem_nil, false_implies, implies_true, and_true]; exact em3)
    dsimp only
    walk_at "MY steps"
    refine hret _ _ _ _ (by k_asm) (ret_filter dR (by k_asm) fun p hp => List.mem_cons_of_mem _ (hsub p hp)) (below_filter lR) ⟨dR, od, kvs, rfl, mem_ge List.mem_cons_self (Nat.le_refl _), hod, hkl, sR, ?_⟩
    rw [Nat.sub_self] at hrows
    refine hrows.mono fun p hp => ?_
    rcases (hfz p hp).2 with h | h
    · exact List.mem_append_right _ h
    · exact List.mem_append_left _ (List.mem_filter.mpr ⟨List.mem_cons_of_mem _ hp, decide_eq_true h⟩)
end

section
local macro_rules | `(tactic| walk_at "binaryOp Add ref ref") => `(tactic| (k_here; refine halt_of ?_))
local macro_rules | `(tactic| walk_at "setItem ref str") => `(tactic| (k_here; refine halt_of ?_))
set_option maxHeartbeats 4000000
theorem lacks_ctr (lr : Addr) (rs : List Addr) (nr : Nat) (recs : List Rec) (hrs : rs.length = recs.length) (hz : recs.length ≤ 8) :
    Ctr w mg mb mean loose tp 20 200 (call (.ref 96) [.ref lr]) (fun R => (lr, W.listOf (rs.map Value.ref).toArray nr) ∈ R ∧ ∀ k, k < recs.length → EntryIn w R (rs.getD k 0) (recs.getD k rec0).1 (recs.getD k rec0).2)
      (fun tl r => ∃ d od kvs, r = .ref d ∧ (d, od) ∈ tl ∧ od.IsDictOf (PySem.strKind PySem.Challenge.rw_ny0092_01.row.prog w) kvs ∧ (d == sysModules) = false ∧ LacksIn recs five kvs tl) := by
  unfold Ctr
  k_fill
  intro dp un gd cn cs a ccd cl outer A₀ base h₀ L m news s Q E B F X N T hk hR hd hu hret
  obtain ⟨hlr, hrec⟩ := hR
  refine wpAny_call ?_
  k_dflt (refine' code_defC (binds := [(Str.ofString "records", .ref lr)]) ?k1 ?k2 ?k3 ?k4 ?k5 ?kA ?kF ?kK ?k6 ?k7 ?k8 ?k9 ?kB ?kD ?_ ?c2 ?c3 ?c4; (case kA => exact rfl); (case kF => exact rfl); (case kK => assumption); (case k1 => k_asm); (case k2 => k_asm); (case k3 => k_asm); (case k4 => k_asm); (case k5 => k_asm); (case k6 => k_is); (case k7 => k_is); (case k8 => ktr_room); (case k9 => exact BindsTo.of_eq rfl); (case kB => exact rfl); (case kD => decide +kernel); (case c2 => exact rfl); (case c3 => exact rfl); (case c4 => exact rfl); k_whole; intro g' L' h' tk' cells' FG' F' N' Y' B' X' T' l1; k_cells Y'; (try simp only [List.cons_append, List.nil_append] at N'); (try dsimp only); (try k_fold))
  walk_at "MY steps"
  rename_i oA oR dA dRc _ _ ts _ _ _ _ _ dD _ oD loD hsD _ _ _ l2 _ lF hA FA NA lA
  have eA : ∃ v0, oA.data = .cell v0 := ⟨_, dA⟩
  have eR : oR.data = .cell (some (.ref lr)) := dRc.trans rfl
  clear dA dRc
  have NA' : News g' L' hA ((L' + 1 + 1, oA) :: (dD, oD) :: (lF, W.listOf _ _) :: (L' + 1, oR) :: news) := fun p hp => NA p (by
    simp only [List.mem_cons] at hp ⊢
    rcases hp with h | h | h | h | h
    · exact .inr (.inr (.inl h))
    · exact .inr (.inl h)
    · exact .inl h
    · exact .inr (.inr (.inr (.inl h)))
    · exact .inr (.inr (.inr (.inr h))))
  k_dflt (refine' loop_list (fun t m nw => m (Str.ofString "size") = some (.int (rs.length : Int) ts) ∧ m (Str.ofString "lacks") = some (.ref dD) ∧
            ∃ oc od kvs fz, nw = (L' + 1 + 1, oc) :: (dD, od) :: fz ∧ (∃ v0, oc.data = .cell v0) ∧ od.IsDictOf (PySem.strKind PySem.Challenge.rw_ny0092_01.row.prog w) kvs ∧ kvs.map (·.1) = five.take t ∧ LacksIn recs (five.take t) kvs (fz.filter fun p => decide (L' ≤ p.1)) ∧ (∀ p ∈ fz, @Ne Nat p.1 (L' + 1 + 1) ∧ p.1 ≠ dD) ∧ (L' + 1, oR) ∈ fz ∧ ∀ q ∈ news, q ∈ fz)
            ?k1 ?k2 NA' ?k4 ?zz7 ?_ ?_; (case k1 => exact rfl); (case k2 => k_asm); (case k4 => exact List.mem_cons_of_mem _ (List.mem_cons_of_mem _ List.mem_cons_self)))
  · refine ⟨rfl, rfl, oA, oD, [], _, rfl, eA, hsD, rfl, ?_, ?_, List.mem_cons_of_mem _ List.mem_cons_self, fun q hq => List.mem_cons_of_mem _ (List.mem_cons_of_mem _ hq)⟩
    · intro a ha; simp at ha
    · intro p hp
      rcases List.mem_cons.mp hp with rfl | hp
      · exact ⟨Nat.ne_of_gt lA.2.1, Nat.ne_of_gt lA.1⟩
      · rcases List.mem_cons.mp hp with rfl | hp
        · exact ⟨Nat.ne_of_lt (Nat.lt_succ_self _), Nat.ne_of_lt l2.2.1⟩
        · have := l1 p hp
          exact ⟨Nat.ne_of_lt (Nat.lt_of_lt_of_le this (Nat.le_trans (Nat.le_succ _) (Nat.le_succ _))), Nat.ne_of_lt (ktn_ltOf l2.2.2 p hp)⟩
  · intro t v m₁ nw₁ own I oI h9 tk9 hv hJ hI ho1 ho2 ho3 F9 N9
    walk_at "MY f"
    obtain ⟨ag, tv, rfl, hnin, htake, ht5⟩ := five_at rfl hv
    clear hv
    refine cj3 hJ ?_
    clear hJ
    intro em1 em2 hJ
    refine ex4c8 hJ ?_
    clear hJ
    intro oc od kvs fz hnw hoc hod hkk hla hfz hcr hsub
    subst hnw
    refine hoc.elim ?_
    clear hoc
    intro v0 hoc
    replace F9 := fr_knowns [(Str.ofString "size", .int (rs.length : Int) ts), (Str.ofString "lacks", .ref dD)] F9 (by simp only [List.forall_mem_cons, List.not_mem_nil, false_implies, implies_true, and_true]; exact ⟨em1, em2⟩)
    simp only [List.cons_append] at N9
    obtain ⟨fo, hfo⟩ : ∃ fo, fo = fz ++ own := ⟨_, rfl⟩
    rw [← hfo] at N9
    have hlr' : (lr, W.listOf (rs.map Value.ref).toArray nr) ∈ fo := by rw [hfo]; exact List.mem_append_left _ (hsub _ hlr)
    have hcr' : (L' + 1, oR) ∈ fo := by rw [hfo]; exact List.mem_append_left _ hcr
    have hoI : ∀ p ∈ own, p.1 ≠ L' + 1 + 1 ∧ p.1 ≠ dD := by
      intro p hp
      rcases ho3 p hp with e | e
      · exact ⟨fun q => hI _ List.mem_cons_self (q.symm.trans e), fun q => hI _ (List.mem_cons_of_mem _ List.mem_cons_self) (q.symm.trans e)⟩
      · rw [e]; exact ⟨Nat.ne_of_gt lA.2.1, Nat.ne_of_gt lA.1⟩
    have hfoA : ∀ p ∈ fo, p.1 ≠ L' + 1 + 1 ∧ p.1 ≠ dD := by
      intro p hp
      rw [hfo] at hp
      rcases List.mem_append.mp hp with h | h
      · exact hfz p h
      · exact hoI p h
    k_dflt (refine' storeX_H ?k1 ?k2 ?k3 ?k4 ?k5 ((dD, od) :: fo) ?_ ?_ ?k6 ?k7; (case k1 => k_asm); (case k2 => k_asm); (case k3 => exact rfl); (case k4 => exact List.mem_cons_self); (case k5 => exact hoc); (case k6 => exact rfl); (case k7 => exact rfl))
    · intro p hp
      refine ⟨List.mem_cons_of_mem _ hp, ?_⟩
      rcases List.mem_cons.mp hp with rfl | hp
      · exact Nat.ne_of_gt l2.1
      · exact (hfoA p hp).1
    intro hB oB FB NB dB
    walk_at "MY f"
    walk_at "MY steps"
    rename_i rC hC _ _ _ FC NC lC
    have e1 : Builtin.Range.rangeSize 0 (rs.length : Int) 1 = ((recs.length : Nat) : Int) := by rw [hrs]; exact @size_up 0 recs.length
    have hsm1 : Builtin.Range.small 0 (rs.length : Int) 1 = true := small_up (a := 0) (b := rs.length) (by omega) (by omega)
    k_dflt (refine' srcT_range (n := recs.length) (fun i ys => ∃ qs : List (Int × Tok), ys = qs.map iv ∧ qs.map (·.1) = ((List.range i).filter fun k => !has recs k ag).map (fun (k : Nat) => (k : Int))) ?k1 ?k2 ?k3 ?k4 hsm1 e1 ?k5 ?k6 ?_ ?_; (case k1 => exact rfl); (case k2 => exact FC); (case k3 => exact NC); (case k4 => exact List.mem_cons_self); (case k5 => omega); (case k6 => exact ⟨[], rfl, rfl⟩))
    · rintro i ti ys I2 oI2 C2 oC2 D2 m2 h10 tk10 E' hi ⟨qs, rfl, hqs⟩ hC2 hx2 F10 N10
      walk_at "MY f"
      clear e1 hsm1
      rw [Int.zero_add] at hx2
      refine EntryIn.elim ((hrec i hi).mono fun p hp => (show p ∈ fo by rw [hfo]; exact List.mem_append_left _ (hsub p hp))) ?_
      intro dx1 la1 lr1 t11 t12 t13 t14 nl1 nr1 h11 h12 h13 h14
      replace h11 : (rs.getD ((i : Int)).toNat 0, instObj 59 dx1) ∈ fo := h11
      walk_at "MY f"
      walk_at "MY steps"
      · rename_i hyes
        have hh : has recs i ag = true := by unfold has; rw [List.contains_iff_mem]; exact hyes
        exact Halt.go ⟨⟨qs, rfl, by rw [range_snoc_no hh]; exact hqs⟩, _, _, rfl, by k_asm, by k_asm⟩
      · rename_i hno
        have hh : has recs i ag = false := by unfold has; rw [← Bool.not_eq_true, List.contains_iff_mem]; exact hno
        exact Halt.go ⟨⟨qs ++ [((i : Int), ti)], by simp, by rw [range_snoc_yes hh, List.map_append, hqs]; rfl⟩, _, _, rfl, by k_asm, by k_asm⟩
    · rintro gC ys ⟨qs, rfl, hqs⟩ D3 h11 tk11 F11 N11 o1
      simp only [LCg.Off1] at o1
      clear e1 hsm1
      walk_at "MY steps"
      rename_i lS hS FS NS lS'
      have hql : qs.length ≤ 8 := by
        have := congrArg List.length hqs
        rw [List.length_map, List.length_map] at this
        have h2 := List.length_filter_le (fun k => !has recs k ag) (List.range recs.length)
        rw [List.length_range] at h2
        omega
      refine Halt.go (add_lists (vs := qs.map iv) (ws := [.int (rs.length : Int) ts]) FS NS ⟨_, (NS _ (List.mem_cons_of_mem _ List.mem_cons_self)).1, rfl, _, rfl⟩ ⟨_, (NS _ List.mem_cons_self).1, rfl, _, rfl⟩ ?_ (by rw [sizeLine_eq, List.length_map, List.length_singleton]; omega))
      intro hT FT NT
      have lT : ∀ p ∈ (lS, W.listOf #[.int (rs.length : Int) ts] 0) :: (D3, lst (List.map iv qs)) :: (rC, rangeObj 0 (rs.length : Int) 1 _ ts _) :: (L' + 1 + 1, oB) :: (dD, od) :: fo, p.1 < hS.objs.size := fun p hp => news_lt NS hp
      dsimp only at FT NT ⊢
      generalize hS.objs.size = lN at NT lT ⊢
      have eN : ((qs.map iv) ++ [Value.int (rs.length : Int) ts]).toArray = (List.map iv (qs ++ [((rs.length : Int), ts)])).toArray := by simp
      rw [eN] at NT
      walk_at "MY steps"
      have hcN : L' + 1 + 1 < lN := lT (L' + 1 + 1, oB) (by simp)
      have hdN : dD < lN := lT (dD, od) (by simp)
      have hfN : ∀ p ∈ fo, p.1 < lN := fun p hp => lT p (by simp [hp])
      have hnone : valueAt kvs ag = none := by
        unfold valueAt
        rw [Option.map_eq_none_iff, List.find?_eq_none]
        intro p hp e
        have e' : p.1 = ag := by simpa using e
        exact hnin (hkk ▸ (e' ▸ List.mem_map_of_mem hp))
      have hkl : kvs.length = t := by
        have := congrArg List.length hkk
        rw [List.length_map, List.length_take] at this
        have : five.length = 5 := rfl
        omega
      refine dset_SH FT NT (by simp) ((lN, W.listOf (List.map iv (qs ++ [((rs.length : Int), ts)])).toArray 0) :: (L' + 1 + 1, oB) :: fo) ?_ hod (by omega) ?_
      · intro p hp
        simp only [List.mem_cons] at hp ⊢
        rcases hp with rfl | rfl | hp
        · exact ⟨.inl rfl, Nat.ne_of_gt hdN⟩
        · exact ⟨by simp, Nat.ne_of_lt l2.1⟩
        · exact ⟨by simp [hp], (hfoA p hp).2⟩
      intro hU odU tkU FU NU hodU
      rw [stored_absent hnone] at hodU
      dsimp only
      walk_at "MY steps"
      refine TurnEnd.next ((L' + 1 + 1, oB) :: (dD, odU) :: (lN, W.listOf (List.map iv (qs ++ [((rs.length : Int), ts)])).toArray 0) :: fz) FU NU ?_ ?_ ⟨rfl, rfl, oB, odU, _, _, rfl, ⟨_, dB⟩, hodU, ?_, ?_, ?_, List.mem_cons_of_mem _ hcr, fun q hq => List.mem_cons_of_mem _ (hsub q hq)⟩
      · intro p hp
        rw [hfo]
        simp only [List.cons_append, List.mem_cons] at hp ⊢
        rcases hp with h | h | h | h
        · exact .inr (.inr (.inl h))
        · exact .inl h
        · exact .inr (.inl h)
        · exact .inr (.inr (.inr h))
      · intro p hp
        simp only [List.mem_cons, List.not_mem_nil, or_false] at hp ⊢
        rcases hp with rfl | rfl | rfl | hp
        · exact hI (L' + 1 + 1, oc) List.mem_cons_self
        · exact hI (dD, od) (List.mem_cons_of_mem _ List.mem_cons_self)
        · exact Nat.ne_of_gt (hfN (I, oI) (by rw [hfo]; exact List.mem_append_right _ ho1))
        · exact hI p (List.mem_cons_of_mem _ (List.mem_cons_of_mem _ hp))
      · rw [List.map_append, hkk, htake]; rfl
      · rw [htake]
        intro a2 ha2
        rcases List.mem_append.mp ha2 with ha2 | ha2
        · refine ex3c3 (hla a2 ha2) ?_
          intro l nl ns q1 q2 q3
          exact ⟨l, nl, ns, valueAt_old q1, List.mem_filter.mpr ⟨List.mem_cons_of_mem _ (List.mem_filter.mp q2).1, (List.mem_filter.mp q2).2⟩, q3⟩
        · rw [List.mem_singleton.mp ha2]
          refine ⟨lN, 0, qs ++ [((rs.length : Int), ts)], valueAt_new hnone, mem_ge List.mem_cons_self (Nat.le_of_lt (Nat.lt_trans (Nat.lt_succ_of_lt (Nat.lt_succ_self _)) hcN)), ?_⟩
          unfold lack
          rw [List.map_append, hqs, ← hrs]; rfl
      · intro p hp
        rcases List.mem_cons.mp hp with rfl | hp
        · exact ⟨Nat.ne_of_gt hcN, Nat.ne_of_gt hdN⟩
        · exact hfz p hp
  · intro m₁ nw₁ h9 tk9 hJ F9 N9
    refine cj3 hJ ?_
    clear hJ
    intro em1 em2 hJ
    refine ex4c8 hJ ?_
    clear hJ
    intro oc od kvs fz hnw hoc hod hkk hla hfz hcr hsub
    subst hnw
    replace F9 := fr_knowns [(Str.ofString "lacks", .ref dD)] F9 (by simp only [List.forall_mem_cons, List.not_mem_nil, false_implies, implies_true, and_true]; exact em2)
    dsimp only
    walk_at "MY steps"
    refine hret _ _ _ _ (by k_asm) (ret_filter L' (by k_asm) fun p hp => List.mem_cons_of_mem _ (List.mem_cons_of_mem _ (hsub p hp))) (below_filter l1) ⟨dD, od, kvs, rfl, mem_ge (List.mem_cons_of_mem _ List.mem_cons_self) (Nat.le_of_lt (Nat.lt_trans (Nat.lt_succ_of_lt (Nat.lt_succ_self _)) l2.1)), hod, loD, fun a2 ha2 => ?_⟩
    refine ex3c3 (hla a2 ha2) ?_
    intro l nl ns q1 q2 q3
    exact ⟨l, nl, ns, q1, List.mem_filter.mpr ⟨List.mem_cons_of_mem _ (List.mem_cons_of_mem _ (List.mem_filter.mp q2).1), (List.mem_filter.mp q2).2⟩, q3⟩
end

section
local macro_rules | `(tactic| walk_at "MY mark") => `(tactic| skip)
local macro_rules | `(tactic| walk_at "call ref") => `(tactic| (k_here; refine halt_of ?_))
local macro_rules | `(tactic| walk_at "callWith ref") => `(tactic| (k_here; (with_reducible show wpAny _ _ (callWith _ (Value.ref _) _ (backTo _ (starEach (_ :: _) _)) []) _ _ _); k_dflt (refine' callWith_F ?k1 ?_; (case k1 => exact FnAt.of (by k_asm) (by k_mem)); k_whole)))
set_option maxHeartbeats 4000000
theorem bisect_key (l f : Addr) (fd : FuncData) (es : List Addr) (nl : Nat) (bs : Nat → Bool) (hz : es.length ≤ 1000) (hmono : ∀ i j, i ≤ j → bs i = true → bs j = true) (P : Led → Prop)
    (hkey : ∀ j, j < es.length → Ctr w mg mb mean loose tp 20 200 (call (.ref f) [.ref (es.getD j 0)]) P (fun tl r => tl = [] ∧ r = .bool (bs j))) :
    Ctr w mg mb mean loose tp 40 400 (call (.ref 79) [.ref l, .bool true] [(Str.ofString "key", .ref f)]) (fun R => (l, W.listOf (es.map Value.ref).toArray nl) ∈ R ∧ (f, ({ cls := .type "function", data := .func fd } : Obj)) ∈ R ∧ P R)
      (fun tl r => tl = [] ∧ ∃ (k : Nat) (t : Tok), r = .int (k : Int) t ∧ k ≤ es.length ∧ (∀ j < k, bs j = false) ∧ ∀ j, k ≤ j → j < es.length → bs j = true) := by
  unfold Ctr
  k_fill
  intro dp un gd cn cs a ccd cl outer A₀ base h₀ L m news s Q E B F X N T hk hR hd hu hret
  obtain ⟨hR, hfn, hP⟩ := hR
  refine wpAny_call ?_
  k_dflt (refine' code_def (binds := [(Str.ofString "a", .ref l), (Str.ofString "x", .bool true), (Str.ofString "lo", .int 0 265), (Str.ofString "hi", .none), (Str.ofString "key", .ref f)]) ?k1 ?k2 ?k3 ?k4 ?k5 ?kA ?kF ?kK ?k6 ?k7 ?k8 ?k9 ?kB ?_ ?c2 ?c3 ?c4 ?c5; (case kA => exact rfl); (case kF => exact rfl); (case kK => assumption); (case k1 => k_asm); (case k2 => k_asm); (case k3 => k_asm); (case k4 => k_asm); (case k5 => k_asm); (case k6 => k_is); (case k7 => k_is); (case k8 => ktr_room); (case k9 => exact binds_peek (by k_in) (fun S => by with_unfolding_all rfl)); (case c5 => decide); (case kB => exact locs rfl); (case c2 => exact rfl); (case c3 => exact rfl); (case c4 => exact rfl); k_whole; intro g' L' h' FG' F' N' B' X' T'; (try dsimp only); (try k_fold))
  walk_at "MY steps"
  show wpAny _ _ _ _ _ _
  k_dflt (refine' While_my (fun k m nw => ∃ (lo hi : Nat) (tl th : Tok), m (Str.ofString "lo") = some (.int (lo : Int) tl) ∧ m (Str.ofString "hi") = some (.int (hi : Int) th) ∧ m (Str.ofString "a") = some (.ref l) ∧ m (Str.ofString "x") = some (.bool true) ∧ m (Str.ofString "key") = some (.ref f) ∧ nw = news ∧ lo ≤ hi ∧ hi ≤ es.length ∧ (∀ j < lo, bs j = false) ∧ (∀ j, hi ≤ j → j < es.length → bs j = true) ∧ k = hi - lo) es.length ?k1 ?k2 ?k3 ?_; (case k1 => k_asm); (case k2 => k_asm); (case k3 => exact ⟨0, es.length, _, _, rfl, rfl, rfl, rfl, rfl, rfl, Nat.zero_le _, Nat.le_refl _, fun j hj => absurd hj (Nat.not_lt_zero _), fun j h1 h2 => absurd h2 (Nat.not_lt.mpr h1), rfl⟩))
  intro k m₁ nw₁ h9 tk9 hJ F9 N9
  refine ex4c11 hJ ?_
  clear hJ
  intro lo hi tl th e1 e2 e3 e4 e5 hnw hlh hhn hlo hhi hk9
  subst hnw hk9
  replace F9 := fr_knowns [(Str.ofString "lo", .int (lo : Int) tl), (Str.ofString "hi", .int (hi : Int) th), (Str.ofString "a", .ref l), (Str.ofString "x", .bool true), (Str.ofString "key", .ref f)] F9 (by simp only [List.forall_mem_cons, List.not_mem_nil, false_implies, implies_true, and_true]; exact ⟨e1, e2, e3, e4, e5⟩)
  refine ex1c2 (half lo hi) ?_
  intro mid hmid hm2
  walk_at "MY steps"
  · have a2 : (lo : Int) < (hi : Int) := by assumption
    have hml : mid < es.length := by omega
    have em : (((lo : Int) + (hi : Int)).fdiv 2).toNat = mid := by rw [hmid]; rfl
    rw [em]
    walk_at "MY f"
    k_dflt (refine' Ctr.use (hkey mid hml) ?k1 ?k2 ?k3 ?k4 ?k5 ?k6 ?k7 ?k8 ?k9 ?_; (case k1 => k_asm); (case k2 => k_asm); (case k3 => k_asm); (case k4 => k_asm); (case k5 => k_asm); (case k6 => first | exact rfl | assumption); (case k7 => exact hP); (case k8 => walk_at "MY room"); (case k9 => walk_at "MY room"); k_whole)
    intro r11 tl11 h11 tk11 F11 N11 hl11 hp11
    obtain ⟨rfl, rfl⟩ := hp11
    replace N11 := News.nilA N11
    cases hb : bs mid with
    | true =>
      walk_at "MY steps"
      exact WEnd.next (mid - lo) (by omega) (by assumption) (by assumption) ⟨lo, mid, tl, _, rfl, some_int hmid, rfl, rfl, rfl, rfl, by omega, by omega, hlo, fun j h1 h2 => hmono mid j h1 hb, rfl⟩
    | false =>
      walk_at "MY steps"
      refine WEnd.next (hi - (mid + 1)) (by omega) (by assumption) (by assumption) ⟨mid + 1, hi, _, th, some_int (show ((lo : Int) + (hi : Int)).fdiv 2 + 1 = ((mid + 1 : Nat) : Int) by rw [hmid]; rfl), rfl, rfl, rfl, rfl, rfl, by omega, hhn, fun j hj => ?_, hhi, rfl⟩
      cases hj2 : bs j with
      | false => rfl
      | true => exact absurd (hmono j mid (by omega) hj2) (by rw [hb]; decide)
  · have a2 : ¬ (lo : Int) < (hi : Int) := by assumption
    have e : lo = hi := by omega
    exact hret _ [] _ _ (by k_asm) (by k_asm) (fun _ _ _ h9 => nomatch h9) ⟨rfl, lo, tl, rfl, by omega, hlo, fun j h1 h2 => hhi j (by omega) h2⟩
end

section
local macro_rules | `(tactic| walk_at "storeName") => `(tactic| (k_here; (with_reducible show wpAny _ _ (storeName _ (PySem.Str.ofString "count") _) _ _ _); refine halt_of ?_))
local macro_rules | `(tactic| walk_at "call ref") => `(tactic| (k_here; refine halt_of ?_))
local macro_rules | `(tactic| walk_at "eval Lambda") => `(tactic| (k_here; k_dflt (refine' kla_eval ?d0 ?_; (case d0 => exact rfl)); refine halt_of ?_))
local macro_rules | `(tactic| walk_at "call builtin:len") => `(tactic| (k_here; (with_reducible show wpAny _ _ (call (Value.builtin "len") [Value.ref _]) _ _ _); k_dflt (first
  | (refine' dlen_I ?k1 ?k2 ?k3 ?k4 ?k5 ?_; (case k4 => with_reducible assumption); (case k3 => with_reducible assumption); (case k1 => k_asm); (case k2 => k_mem); (case k5 => omega); k_whole)
  | (refine' len_M ?k1 ?k2 ?k3 ?_; (case k1 => k_asm); (case k2 => k_mem); (case k3 => omega); k_whole)); intro t' tk'))
local macro_rules | `(tactic| walk_at "eval ListComp") => `(tactic| (k_here; refine halt_of ?_))
local macro_rules | `(tactic| walk_at "call builtin:max") => `(tactic| (k_here; refine halt_of ?_))
set_option maxHeartbeats 4000000
theorem known_ctr (nv : Value) (lf dl dr : Addr) (fs : List (Str × Tok)) (nf : Nat) (od or : Obj) (kl : List (Str × Value)) (kr : List (Int × Value)) (recs : List Rec) (hz : recs.length ≤ 8)
    (h5 : ∀ k, ∀ p ∈ (recs.getD k rec0).1, p.1 ∈ five) (hf5 : ∀ p ∈ fs, p.1 ∈ five) (hfne : 0 < fs.length) (hfz : fs.length ≤ 5)
    (hkr : kr.length = recs.length) (hsr : (dr == sysModules) = false) (hdr : or.IsDictOf (intKind PySem.Challenge.rw_ny0092_01.row.prog w) kr) (hdl : od.IsDictOf (PySem.strKind PySem.Challenge.rw_ny0092_01.row.prog w) kl)
    (hap : ∀ e ps dl, (∀ p ∈ ps, p.1 ∈ five) → Ctr w mg mb mean loose tp 10 100 (call (.ref 49) [.ref e, nv]) (fun R => EntryIn w R e ps dl) (fun tl r => tl = [] ∧ r = .bool (appl (fs.map (·.1)) ps))) :
    KCtr w mg mb mean loose tp 80 800 (call (.ref 108) [nv, .ref lf, .ref dl, .ref dr]) (fun R => (lf, W.listOf (fs.map sv).toArray nf) ∈ R ∧ (dl, od) ∈ R ∧ (dr, or) ∈ R ∧ RowsIn w recs 0 kr R ∧ LacksIn recs five kl R) := by
  unfold KCtr
  k_fill
  intro dp un gd cn cs a ccd cl outer A₀ base h₀ L m ps₀ R R₀ s Q E B F X N T hk CH hT₀ hR₀ hR105 hR hd hu hret
  obtain ⟨hlf, hdlm, hdrm, hrows, hlacks⟩ := hR
  refine wpAny_call ?_
  k_dflt (refine' code_defC (binds := [(Str.ofString "name", nv), (Str.ofString "fits", .ref lf), (Str.ofString "lacks", .ref dl), (Str.ofString "rows", .ref dr)]) ?k1 ?k2 ?k3 ?k4 ?k5 ?kA ?kF ?kK ?k6 ?k7 ?k8 ?k9 ?kB ?kD ?_ ?c2 ?c3 ?c4; (case kA => exact rfl); (case kF => exact rfl); (case kK => assumption); (case k1 => k_asm); (case k2 => k_asm); (case k3 => k_asm); (case k4 => k_asm); (case k5 => k_asm); (case k6 => k_is); (case k7 => k_is); (case k8 => ktr_room); (case k9 => exact BindsTo.of_eq rfl); (case kB => exact rfl); (case kD => decide +kernel); (case c2 => exact rfl); (case c3 => exact rfl); (case c4 => exact rfl); k_whole; intro g' L' h' tk' cells' FG' F' N' Y' B' X' T' l1; k_cells Y'; (try simp only [List.cons_append, List.nil_append] at N'); (try dsimp only); (try k_fold))
  have CH' : CodeHd g' 107 105 := CodeHd.keeps CH FG'.keep
  walk_at "MY steps"
  rename_i oC oI oR oL oN dC dI dR dL dN ts _ rA hA _ tA vA FA NA lA
  have eC : ∃ v0, oC.data = .cell v0 := ⟨_, dC⟩
  have eI : ∃ v0, oI.data = .cell v0 := ⟨_, dI⟩
  have eR : oR.data = .cell (some (.ref dr)) := dR.trans rfl
  have eL : oL.data = .cell (some (.ref dl)) := dL.trans rfl
  have eN : oN.data = .cell (some nv) := dN.trans rfl
  clear dC dI dR dL dN
  have h105 : @LT.lt Nat _ 105 L' := l1 (105, tabObj ps₀) List.mem_cons_self
  have lR : ∀ p ∈ R, @LT.lt Nat _ p.1 L' := fun p hp => l1 p (List.mem_cons_of_mem _ hp)
  have e0 : Builtin.Range.rangeSize 0 (kr.length : Int) 1 = ((recs.length : Nat) : Int) := by rw [hkr]; exact @size_up 0 recs.length
  have hsm : Builtin.Range.small 0 (kr.length : Int) 1 = true := small_up (a := 0) (b := kr.length) (by omega) (by omega)
  have NA' : News g' L' hA ((L' + 1 + 1 + 1 + 1 + 1, oC) :: (L' + 1 + 1 + 1 + 1, oI) :: (105, tabObj ps₀) :: (rA, rangeObj 0 (kr.length : Int) 1 tA ts vA) :: (L' + 1 + 1 + 1, oR) :: (L' + 1 + 1, oL) :: (L' + 1, oN) :: R) := fun p hp => NA p (by
    simp only [List.mem_cons] at hp ⊢
    rcases hp with h | h | h | h | h | h | h | h <;> simp only [h, true_or, or_true])
  k_dflt (refine' loop_range (n := recs.length) (fun t m nw => m (Str.ofString "fits") = some (.ref lf) ∧
            ∃ oc oi ps fz f0, nw = (L' + 1 + 1 + 1 + 1 + 1, oc) :: (L' + 1 + 1 + 1 + 1, oi) :: (105, tabObj ps) :: fz ∧ (∃ v0, oc.data = .cell v0) ∧ (∃ v0, oi.data = .cell v0) ∧ TabOk lamPos lamQual ps f0 ∧ (∀ p ∈ f0, p ∈ fz ∧ (p ∈ R₀ ∨ @LE.le Nat _ L' p.1)) ∧ (∀ p ∈ fz, KOk L' R p) ∧ (L' + 1 + 1 + 1, oR) ∈ fz ∧ (L' + 1 + 1, oL) ∈ fz ∧ (L' + 1, oN) ∈ fz ∧ ∀ q ∈ R, q ∈ fz)
            ?k1 ?k2 NA' ?k4 hsm e0 ?zz7 ?_ ?_; (case k1 => exact rfl); (case k2 => k_asm); (case k4 => exact List.mem_cons_of_mem _ (List.mem_cons_of_mem _ (List.mem_cons_of_mem _ List.mem_cons_self))))
  · refine ⟨rfl, oC, oI, ps₀, _, R₀, rfl, eC, eI, hT₀, fun p hp => ⟨by simp [hR₀ p hp], .inl hp⟩, fun p hp => ?_, by simp, by simp, by simp, fun q hq => by simp [hq]⟩
    simp only [List.mem_cons] at hp
    rcases hp with rfl | rfl | rfl | rfl | hp
    · exact KOk.high lA.1 h105
    · exact KOk.c3 h105
    · exact KOk.c2 h105
    · exact KOk.c1 h105
    · exact KOk.low hp (lR p hp) (hR105 p hp)
  · intro i ti m₁ nw₁ own I oI2 h9 tk9 ht hJ hI ho1 ho2 F9 N9
    walk_at "MY f"
    clear e0 hsm eC eI
    refine cj2 hJ ?_
    clear hJ
    intro em1 hJ
    refine ex5c10 hJ ?_
    clear hJ
    intro oc oi ps fz f0 hnw hoc hoi htab hf0 hfz hmR hmL hmN hsub
    subst hnw
    refine hoc.elim ?_
    clear hoc
    intro vc hoc
    refine hoi.elim ?_
    clear hoi
    intro vi hoi
    rw [Int.mul_one, Int.zero_add]
    replace F9 := fr_knowns [(Str.ofString "fits", .ref lf)] F9 (by simp only [List.forall_mem_cons, List.not_mem_nil, false_implies, implies_true, and_true]; exact em1)
    simp only [List.cons_append] at N9
    obtain ⟨fo, hfo⟩ : ∃ fo, fo = fz ++ own := ⟨_, rfl⟩
    rw [← hfo] at N9
    have hzo : ∀ p ∈ fz, p ∈ fo := fun p hp => by rw [hfo]; exact List.mem_append_left _ hp
    have hRo : ∀ p ∈ R, p ∈ fo := fun p hp => hzo p (hsub p hp)
    have hmR' := hzo _ hmR
    have hmL' := hzo _ hmL
    have hmN' := hzo _ hmN
    have hdr' := hRo _ hdrm
    have hdl' := hRo _ hdlm
    have hlf' := hRo _ hlf
    have hfoN : ∀ p ∈ fo, @Ne Nat p.1 (L' + 1 + 1 + 1 + 1 + 1) ∧ @Ne Nat p.1 (L' + 1 + 1 + 1 + 1) ∧ @Ne Nat p.1 105 := by
      intro p hp
      rw [hfo] at hp
      rcases List.mem_append.mp hp with h | h
      · exact ⟨(hfz p h).1, (hfz p h).2.1, (hfz p h).2.2.1⟩
      · rw [ho2 p h]
        exact ⟨fun e => hI _ List.mem_cons_self e.symm, fun e => hI _ (List.mem_cons_of_mem _ List.mem_cons_self) e.symm, fun e => hI (105, tabObj ps) (List.mem_cons_of_mem _ (List.mem_cons_of_mem _ List.mem_cons_self)) e.symm⟩
    k_dflt (refine' storeX_H ?k1 ?k2 ?k3 ?k4 ?k5 ((L' + 1 + 1 + 1 + 1 + 1, oc) :: (105, tabObj ps) :: fo) ?_ ?_ ?k6 ?k7; (case k1 => k_asm); (case k2 => k_asm); (case k3 => exact rfl); (case k4 => exact List.mem_cons_of_mem _ List.mem_cons_self); (case k5 => exact hoi); (case k6 => exact rfl); (case k7 => exact rfl))
    · intro p hp
      simp only [List.mem_cons] at hp ⊢
      rcases hp with rfl | rfl | hp
      · exact ⟨.inl rfl, Nat.ne_of_gt (Nat.lt_succ_self _)⟩
      · exact ⟨by simp, Nat.ne_of_lt (lt4 h105)⟩
      · exact ⟨by simp [hp], (hfoN p hp).2.1⟩
    intro hB oB FB NB dB
    refine ex3c4 (hrows i (Nat.zero_le _) ht) ?_
    intro lE nE es hv1 hmE hlE hens
    have hmE' := hRo _ hmE
    walk_at "MY f"
    walk_at "MY steps"
    refine Halt.go (lam_N (c := 107) (P := 105) (ps := ps) (by k_asm) NB T' CH' rfl (by simp) ((L' + 1 + 1 + 1 + 1, oB) :: (L' + 1 + 1 + 1 + 1 + 1, oc) :: fo) ?_ f0 htab (fun p hp => by simp [hzo p (hf0 p hp).1]) rfl ?_)
    · intro p hp
      simp only [List.mem_cons] at hp ⊢
      rcases hp with rfl | rfl | hp
      · exact ⟨.inl rfl, Nat.ne_of_gt (lt4 h105)⟩
      · exact ⟨by simp, Nat.ne_of_gt (Nat.lt_succ_of_lt (lt4 h105))⟩
      · exact ⟨by simp [hp], (hfoN p hp).2.2⟩
    intro f c' oc' vs' t' ctv ps' tl hF tkF FF NF q1 q2 q3 q4 q5 q6
    dsimp only
    walk_at "MY steps"
    obtain ⟨G, hG⟩ : ∃ G, G = tl ++ (L' + 1 + 1 + 1 + 1, oB) :: (L' + 1 + 1 + 1 + 1 + 1, oc) :: fo := ⟨_, rfl⟩
    rw [← hG] at NF q1
    have hoG : ∀ p ∈ fo, p ∈ G := fun p hp => by rw [hG]; exact List.mem_append_right _ (List.mem_cons_of_mem _ (List.mem_cons_of_mem _ hp))
    refine ex1c5 (led_of NF) ?_
    intro G' hG' hmf hm105 hGG NG
    have hkey : ∀ j, j < es.length → Ctr w mg mb mean loose tp 20 200 (call (.ref f) [.ref (es.getD j 0)]) (fun R' => ∀ p ∈ G', p ∈ R') (fun tl r => tl = [] ∧ r = .bool (!appl (fs.map (·.1)) (mps recs i (i + j + 1)))) := by
      intro j hj
      unfold Ctr
      k_fill
      intro dp un gd cn cs a ccd cl outer A₀ base h₀ L m news s Q E B F X N T hk hR hd hu hret
      have u1 := hR _ hmf
      have u2 := hR _ (hGG _ q1)
      have u3 := hR _ (hGG _ (hoG _ hmN'))
      have hen := (hens j (by omega)).mono fun p hp => hR p (hGG p (hoG p (hRo p hp)))
      have hen' := hen
      refine hen'.elim ?_
      intro dx1 la1 lr1 t11 t12 t13 t14 nl1 nr1 h11 h12 h13 h14
      refine wpAny_call ?_
      k_dflt (refine' kla_code ?k1 ?k2 ?k3 ?k4 ?k5 ?kA ?kF ?kK ?k6 ?k7 ?k8 ?k9 ?kB ?_ ?c2 ?c3 ?c4 ?c5; (case kA => exact rfl); (case kF => exact rfl); (case kK => assumption); (case k1 => k_asm); (case k2 => k_asm); (case k3 => k_asm); (case k4 => k_asm); (case k5 => k_asm); (case k6 => exact u1); (case k7 => exact codeRec_news (by k_asm) u2 q2 q3); (case k8 => ktr_room); (case k9 => exact rfl); (case c5 => decide); (case kB => exact locs rfl); (case c2 => exact rfl); (case c3 => exact rfl); (case c4 => exact rfl); k_whole; intro g' L' h' FG' F' N' B' X' T'; (try dsimp only); (try k_lift B'); (try k_fold))
      walk_at "MY steps"
      walk_at "MY f"
      k_dflt (refine' Ctr.use (hap _ (mps recs i (i + j + 1)) (mdl recs i (i + j + 1)) (mps_five h5)) ?k1 ?k2 ?k3 ?k4 ?k5 ?k6 ?k7 ?k8 ?k9 ?_; (case k1 => k_asm); (case k2 => k_asm); (case k3 => k_asm); (case k4 => k_asm); (case k5 => k_asm); (case k6 => first | exact rfl | assumption); (case k7 => exact hen); (case k8 => walk_at "MY room"); (case k9 => walk_at "MY room"); k_whole)
      intro r11 tl11 h11 tk11 F11 N11 hl11 hp11
      obtain ⟨rfl, rfl⟩ := hp11
      replace N11 := News.nilA N11
      walk_at "MY steps"
      exact hret _ [] _ _ (by k_asm) (by k_asm) (fun _ _ _ h9 => nomatch h9) ⟨rfl, rfl⟩
    have hmono : ∀ j1 j2, j1 ≤ j2 → (!appl (fs.map (·.1)) (mps recs i (i + j1 + 1))) = true → (!appl (fs.map (·.1)) (mps recs i (i + j2 + 1))) = true := by
      intro j1 j2 hj h
      simp only [Bool.not_eq_true'] at h ⊢
      cases hh : appl (fs.map (·.1)) (mps recs i (i + j2 + 1)) with
      | false => rfl
      | true => rw [appl_mono (by omega) (by omega) hh] at h; cases h
    obtain ⟨fd, hfd⟩ : ∃ fd : FuncData, (f, ({ cls := .type "function", data := .func fd } : Obj)) ∈ G' := ⟨_, hmf⟩
    show wpAny _ _ (call (.ref 79) [.ref lE, .bool true] [(Str.ofString "key", .ref f)]) _ _ _
    k_dflt (refine' Ctr.use (bisect_key lE f fd es nE (fun j => !appl (fs.map (·.1)) (mps recs i (i + j + 1))) ?z hmono (fun R' => ∀ p ∈ G', p ∈ R') hkey) ?k1 ?k2 ?k3 ?k4 ?k5 ?k6 ?k7 ?k8 ?k9 ?_; (case z => omega); (case k1 => k_asm); (case k2 => k_asm); (case k3 => k_asm); (case k4 => exact NG); (case k5 => k_asm); (case k6 => first | exact rfl | assumption); (case k7 => exact ⟨hGG _ (hoG _ hmE'), hfd, fun p hp => hp⟩); (case k8 => walk_at "MY room"); (case k9 => walk_at "MY room"); k_whole)
    intro r12 tl12 h12 tk12 F12 N12 hl12 hp12
    refine cj2 hp12 ?_
    clear hp12
    intro htl hp12
    subst htl
    refine ex2c4 hp12 ?_
    clear hp12
    intro ck ct hr12 hck hc1 hc2
    subst hr12
    replace N12 := News.nilA N12
    walk_at "MY steps"
    obtain ⟨H, hH⟩ : ∃ H, H = tl ++ (L' + 1 + 1 + 1 + 1, oB) :: fo := ⟨_, rfl⟩
    have hHI : (L' + 1 + 1 + 1 + 1, oB) ∈ H := by rw [hH]; simp
    have hHo : ∀ p ∈ fo, p ∈ H := fun p hp => by rw [hH]; simp [hp]
    have hHG : ∀ p ∈ H, p ∈ G := fun p hp => by
      rw [hH] at hp
      rw [hG]
      rcases List.mem_append.mp hp with h | h
      · exact List.mem_append_left _ h
      · refine List.mem_append_right _ ?_
        rcases List.mem_cons.mp h with h | h
        · rw [h]; exact List.mem_cons_self
        · exact List.mem_cons_of_mem _ (List.mem_cons_of_mem _ h)
    have htl : ∀ p ∈ tl, @LT.lt Nat _ (L' + 1 + 1 + 1 + 1 + 1) p.1 := fun p hp => (q5 (L' + 1 + 1 + 1 + 1 + 1, oc) (by simp)).2 p hp
    have hHC : ∀ p ∈ H, @Ne Nat p.1 (L' + 1 + 1 + 1 + 1 + 1) := fun p hp => by
      rw [hH] at hp
      rcases List.mem_append.mp hp with h | h
      · exact Nat.ne_of_gt (htl p h)
      · rcases List.mem_cons.mp h with h | h
        · rw [h]; exact Nat.ne_of_lt (Nat.lt_succ_self _)
        · exact (hfoN p h).1
    show wpAny _ _ _ _ _ _
    k_dflt (refine' storeX_H ?k1 ?k2 ?k3 ?k4 ?k5 ((105, tabObj ps') :: H) ?_ ?_ ?k6 ?k7; (case k1 => k_asm); (case k2 => exact N12); (case k3 => exact rfl); (case k4 => exact hGG (L' + 1 + 1 + 1 + 1 + 1, oc) (by rw [hG]; simp)); (case k5 => exact hoc); (case k6 => exact rfl); (case k7 => exact rfl))
    · intro p hp
      rcases List.mem_cons.mp hp with rfl | hp
      · exact ⟨hm105, Nat.ne_of_lt (Nat.lt_succ_of_lt (lt4 h105))⟩
      · exact ⟨hGG p (hHG p hp), hHC p hp⟩
    intro h13 oK F13 N13 dK
    clear hkey hmono hfd hm105 hmf NG N12 FF NF F12
    dsimp only
    have hHR := hHo _ hmR'
    have hHL := hHo _ hmL'
    have hHN := hHo _ hmN'
    have hHdr := hHo _ hdr'
    have hHdl := hHo _ hdl'
    have hHlf := hHo _ hlf'
    have hHE := hHo _ hmE'
    walk_at "MY steps"
    refine Halt.go ?_
    walk_at "MY f"
    clear F9 N9 FB NB FA NA NA' N F
    refine ex1c2 (ends_fn recs i (Nat.le_of_lt ht)) ?_
    intro V hV1 hV2
    k_dflt (refine' LCg.ListComp_U (F₀ := F13) ?u1 ?u2 ?u3 ?u4 ?u5 ?_; (case u1 => with_unfolding_all rfl); (case u2 => decide); (case u3 => rfl); (case u4 => decide); (case u5 => rfl))
    walk_at "MY steps"
    k_dflt (refine' src_list (fun t ys => ∃ qs : List (Int × Tok), ys = qs.map iv ∧ qs.map (·.1) = (fs.take t).map fun p => V p.1) ?k1 ?k2 ?k3 ?k4 ?k5 ?k6 ?_ ?_; (case k1 => exact rfl); (case k2 => exact F13); (case k3 => exact N13); (case k4 => exact List.mem_cons_of_mem _ (List.mem_cons_of_mem _ hHlf)); (case k5 => rw [List.length_map]; omega); (case k6 => exact ⟨[], rfl, rfl⟩))
    · rintro t v ys I2 oI2 C2 oC2 D2 m2 h14 tk14 E' hv ⟨qs, rfl, hqs⟩ hC2 hx2 F14 N14
      walk_at "MY f"
      refine ex1c4 (sv_at hv) ?_
      intro p hpv hpt hpm htk
      subst hpv
      refine ex3c3 (hlacks p.1 (hf5 p hpm)) ?_
      intro l nl ns hva hml hns
      have hHl := hHo _ (hRo _ hml)
      clear hv F13 N13
      walk_at "MY f"
      walk_at "MY steps"
      have hnl := ns_len hns
      walk_at "MY f"
      k_dflt (refine' Ctr.use (lasts_ctr l ns nl (i : Int) ti ?z ?s ?x) ?k1 ?k2 ?k3 ?k4 ?k5 ?k6 ?k7 ?k8 ?k9 ?_; (case z => omega); (case s => rw [hns]; exact lack_sorted _ _); (case x => exact lack_reach hns (Nat.le_of_lt ht)); (case k1 => k_asm); (case k2 => exact F14); (case k3 => k_asm); (case k4 => exact N14); (case k5 => k_asm); (case k6 => first | exact rfl | assumption); (case k7 => exact List.mem_cons_of_mem _ (List.mem_cons_of_mem _ (List.mem_cons_of_mem _ (List.mem_cons_of_mem _ (List.mem_cons_of_mem _ hHl))))); (case k8 => walk_at "MY room"); (case k9 => walk_at "MY room"); k_whole)
      intro r15 tl15 h15 tk15 F15 N15 hl15 hp15
      refine cj2 hp15 ?_
      clear hp15
      intro htl hp15
      subst htl
      refine ex2c4 hp15 ?_
      clear hp15
      intro k tt hr15 hk1 hk2 hk3
      subst hr15
      replace N15 := News.nilA N15
      have hVk := hV2 _ _ (lastAt_of hns hk1 hk2 hk3)
      rw [hVk]
      walk_at "MY steps"
      exact Halt.go ⟨⟨qs ++ [(V p.1, tt)], by simp, by rw [htk, List.map_append, List.map_append, hqs]; rfl⟩, _, _, rfl, by k_asm, by k_asm⟩
    · rintro gC ys ⟨qs, rfl, hqs⟩ D3 h14 tk14 F14 N14 o1
      simp only [LCg.Off1] at o1
      walk_at "MY steps"
      have hqs' : qs.map (·.1) = fs.map fun p => V p.1 := by rw [hqs, List.length_map, List.take_length]
      show wpAny _ _ _ _ _ _
      k_dflt (refine' kso_max (vs := qs.map iv) (ns := qs.map (·.1)) ?k1 ?k2 ?k3 ?k4 ?k5 ?k6 ?_; (case k1 => exact F14); (case k2 => exact N14); (case k3 => exact ⟨_, (N14 _ List.mem_cons_self).1, rfl, _, rfl⟩); (case k4 => exact ints_iv qs); (case k5 => rw [hqs', List.length_map]; exact hfne); (case k6 => exact rfl))
      intro h15 M tM tk15 F15 N15 hM1 hM2
      rw [hqs'] at hM1 hM2
      have eM : (i : Int) + (ck : Int) = M := by
        obtain ⟨p, hp, e⟩ := List.mem_map.mp hM1
        refine count_is (recs := recs) (fits := fs.map (·.1)) (V := V) ht (fun a _ => hV1 a) ⟨p.1, List.mem_map_of_mem hp, e⟩ (fun a ha => ?_) (by omega) (fun j hj => ?_) (fun j h1 h2 => ?_)
        · obtain ⟨q, hq, rfl⟩ := List.mem_map.mp ha
          exact hM2 _ (List.mem_map_of_mem (f := fun p : Str × Tok => V p.1) hq)
        · simpa using hc1 j hj
        · simpa using hc2 j h1 (by omega)
      subst eM
      clear hM1 hM2 F14 N14
      replace N15 : News g' L' h15 ((L' + 1 + 1 + 1 + 1 + 1, oK) :: (105, tabObj ps') :: H) := fun p hp => N15 p (List.mem_cons_of_mem _ hp)
      dsimp only
      walk_at "MY steps"
      · exact absurd rfl (by assumption)
      refine Halt.go ?_
      walk_at "MY f"
      k_dflt (refine' LCt.ListComp_T (F₀ := F15) ?u1 ?u2 ?u3 ?u4 ?u5 ?_; (case u1 => with_unfolding_all rfl); (case u2 => decide); (case u3 => rfl); (case u4 => decide); (case u5 => rfl))
      walk_at "MY steps"
      rename_i tL _ rC hC _ tC vC FC NC lC
      have e1 : Builtin.Range.rangeSize 0 (es.length : Int) 1 = ((es.length : Nat) : Int) := @size_up 0 es.length
      have hsm1 : Builtin.Range.small 0 (es.length : Int) 1 = true := small_up (a := 0) (b := es.length) (by omega) (by omega)
      k_dflt (refine' srcT_range (n := es.length) (fun _ ys => ys = []) ?k1 ?k2 ?k3 ?k4 hsm1 e1 ?k5 ?k6 ?_ ?_; (case k1 => exact rfl); (case k2 => exact FC); (case k3 => exact NC); (case k4 => exact List.mem_cons_self); (case k5 => omega); (case k6 => exact rfl))
      · rintro j tj ys I2 oI2 C2 oC2 D2 m2 h16 tk16 E' hj rfl hC2 hx2 F16 N16
        walk_at "MY f"
        clear e1 hsm1 FC NC
        rw [Int.zero_add] at hx2
        have hen := (hens j (by omega)).mono fun p hp => hHo p (hRo p hp)
        have hen' := hen
        refine hen'.elim ?_
        intro dx1 la1 lr1 t11 t12 t13 t14 nl1 nr1 h11 h12 h13' h14'
        replace h11 : (es.getD ((j : Int)).toNat 0, instObj 59 dx1) ∈ H := h11
        have hb : appl (fs.map (·.1)) (mps recs i (i + j + 1)) = decide ((j : Int) < (ck : Int)) := by
          rcases Nat.lt_or_ge j ck with h | h
          · rw [decide_eq_true (by omega)]; simpa using hc1 j h
          · rw [decide_eq_false (by omega)]; simpa using hc2 j h hj
        walk_at "MY f"
        walk_at "MY steps"
        walk_at "MY f"
        k_dflt (refine' Ctr.use (hap _ (mps recs i (i + j + 1)) (mdl recs i (i + j + 1)) (mps_five h5)) ?k1 ?k2 ?k3 ?k4 ?k5 ?k6 ?k7 ?k8 ?k9 ?_; (case k1 => k_asm); (case k2 => exact F16); (case k3 => k_asm); (case k4 => exact N16); (case k5 => k_asm); (case k6 => first | exact rfl | assumption); (case k7 => exact hen.mono fun p hp => by simp [hp]); (case k8 => walk_at "MY room"); (case k9 => walk_at "MY room"); k_whole)
        intro r17 tl17 h17 tk17 F17 N17 hl17 hp17
        obtain ⟨rfl, rfl⟩ := hp17
        replace N17 := News.nilA N17
        rw [hb]
        walk_at "MY steps"
        · rename_i hne
          simp at hne
        · exact Halt.go ⟨rfl, _, _, rfl, by k_asm, by k_asm⟩
      · rintro gC ys rfl D3 h17 tk17 F17 N17 o1
        simp only [LCg.Off1] at o1
        clear e1 hsm1 FC NC
        walk_at "MY steps"
        rename_i lZ hZ FZ NZ lZ'
        have htI : ∀ p ∈ tl, @LT.lt Nat _ I p.1 := fun p hp => (q5 (I, oI2) (List.mem_cons_of_mem _ (List.mem_cons_of_mem _ (List.mem_cons_of_mem _ (by rw [hfo]; exact List.mem_append_right _ ho1))))).2 p hp
        refine TurnEnd.next ((L' + 1 + 1 + 1 + 1 + 1, oK) :: (L' + 1 + 1 + 1 + 1, oB) :: (105, tabObj ps') :: (tl ++ fz)) FZ NZ ?_ ?_ ⟨rfl, oK, oB, ps', _, _, rfl, ⟨_, dK⟩, ⟨_, dB⟩, q4, fun p hp => ?_, ?_, List.mem_append_right _ hmR, List.mem_append_right _ hmL, List.mem_append_right _ hmN, fun q hq => List.mem_append_right _ (hsub q hq)⟩
        · intro p hp
          simp only [List.cons_append, List.append_assoc, List.mem_cons, List.mem_append] at hp ⊢
          rcases hp with h | h | h | h | h | h
          · simp only [h, true_or, or_true]
          · rw [h]; simp only [hHI, or_true]
          · simp only [h, true_or, or_true]
          · have : p ∈ H := by rw [hH]; exact List.mem_append_left _ h
            simp only [this, or_true]
          · have := hHo p (hzo p h)
            simp only [this, or_true]
          · have := hHo p (by rw [hfo]; exact List.mem_append_right _ h)
            simp only [this, or_true]
        · intro p hp
          simp only [List.mem_cons, List.mem_append, List.not_mem_nil, or_false] at hp ⊢
          rcases hp with rfl | rfl | rfl | h | h
          · exact hI (L' + 1 + 1 + 1 + 1 + 1, oc) List.mem_cons_self
          · exact hI (L' + 1 + 1 + 1 + 1, oi) (List.mem_cons_of_mem _ List.mem_cons_self)
          · exact hI (105, tabObj ps) (List.mem_cons_of_mem _ (List.mem_cons_of_mem _ List.mem_cons_self))
          · exact Nat.ne_of_gt (htI p h)
          · exact hI p (List.mem_cons_of_mem _ (List.mem_cons_of_mem _ (List.mem_cons_of_mem _ h)))
        · rcases List.mem_append.mp hp with h | h
          · exact ⟨List.mem_append_left _ h, .inr (Nat.le_of_lt (Nat.lt_of_le_of_lt (Nat.le_add_right L' 5) (htl p h)))⟩
          · exact ⟨List.mem_append_right _ (hf0 p h).1, (hf0 p h).2⟩
        · intro p hp
          rcases List.mem_append.mp hp with h | h
          · exact KOk.high (htl p h) h105
          · exact hfz p h
  · intro m₁ nw₁ h9 tk9 hJ F9 N9
    refine cj2 hJ ?_
    clear hJ
    intro em1 hJ
    refine ex5c10 hJ ?_
    clear hJ
    intro oc oi ps fz f0 hnw hoc hoi htab hf0 hfz hmR hmL hmN hsub
    subst hnw
    clear FA NA NA' F N e0 hsm
    dsimp only
    walk_at "MY steps"
    rename_i kF kN Tc kX
    have hin : ∀ p ∈ f0, p ∈ fz.filter (fun p => decide (@LE.le Nat _ L' p.1)) ++ R₀ := fun p hp => by
      rcases (hf0 p hp).2 with h | h
      · exact List.mem_append_right _ h
      · exact List.mem_append_left _ (List.mem_filter.mpr ⟨(hf0 p hp).1, decide_eq_true h⟩)
    refine hret ps (fz.filter fun p => decide (@LE.le Nat _ L' p.1)) _ _ (by k_asm) (fun p hp => kN p ?_) (fun p hp => (hfz p (List.mem_filter.mp hp).1).2.2.1) (fun q hq p hp => Nat.lt_of_lt_of_le (lR q hq) (of_decide_eq_true (List.mem_filter.mp hp).2)) (htab.mono hin)
    rcases List.mem_cons.mp hp with h | h
    · rw [h]; simp
    · rcases List.mem_append.mp h with h | h
      · have := (List.mem_filter.mp h).1
        simp [this]
      · have := hsub p h
        simp [this]
end

section
local macro_rules | `(tactic| walk_at "call ref") => `(tactic| (k_here; refine halt_of ?_))
local macro_rules | `(tactic| walk_at "eval ListComp") => `(tactic| (k_here; refine halt_of ?_))
local macro_rules | `(tactic| walk_at "exec Assign cons ListComp") => `(tactic| (k_here; refine halt_of ?_))
local macro_rules | `(tactic| walk_at "subscriptTail Name Name ref int") => `(tactic| (k_here; (with_reducible show wpAny _ _ (subscriptTail _ _ (Value.ref _) (Value.int _ _)) _ _ _); k_dflt (refine' item_P ?k1 ?k2 ?k3 ?k4 ?k5 ?_ ?k6; (case k4 => with_reducible assumption); (case k1 => k_asm); (case k2 => k_mem); (case k3 => omega); (case k5 => omega); (case k6 => with_unfolding_all rfl); k_whole)))
local macro_rules | `(tactic| walk_at "compareOp NotEq ref ref") => `(tactic| (k_here; refine halt_of ?_))
set_option maxHeartbeats 4000000
theorem told_ctr (lr dl dr : Addr) (rs : List Addr) (nr : Nat) (od or : Obj) (kl : List (Str × Value)) (kr : List (Int × Value)) (recs : List Rec) (hz : recs.length ≤ 8) (hrs : rs.length = recs.length)
    (h5 : ∀ k, ∀ p ∈ (recs.getD k rec0).1, p.1 ∈ five) (h5l : ∀ k, (recs.getD k rec0).1.length ≤ 5)
    (hdr : or.IsDictOf (intKind PySem.Challenge.rw_ny0092_01.row.prog w) kr) (hdl : od.IsDictOf (PySem.strKind PySem.Challenge.rw_ny0092_01.row.prog w) kl) :
    Ctr w mg mb mean loose tp 40 400 (call (.ref 113) [.ref lr, .ref dl, .ref dr]) (fun R => (lr, W.listOf (rs.map Value.ref).toArray nr) ∈ R ∧ (dl, od) ∈ R ∧ (dr, or) ∈ R ∧ (∀ k, k < recs.length → EntryIn w R (rs.getD k 0) (recs.getD k rec0).1 (recs.getD k rec0).2) ∧ RowsIn w recs 0 kr R ∧ LacksIn recs five kl R)
      (fun tl r => tl = [] ∧ r = .bool true) := by
  unfold Ctr
  k_fill
  intro dp un gd cn cs a ccd cl outer A₀ base h₀ L m R s Q E B F X N T hk hR hd hu hret
  obtain ⟨hlr, hdlm, hdrm, hrec, hrows, hlacks⟩ := hR
  refine wpAny_call ?_
  k_dflt (refine' code_defC (binds := [(Str.ofString "records", .ref lr), (Str.ofString "lacks", .ref dl), (Str.ofString "rows", .ref dr)]) ?k1 ?k2 ?k3 ?k4 ?k5 ?kA ?kF ?kK ?k6 ?k7 ?k8 ?k9 ?kB ?kD ?_ ?c2 ?c3 ?c4; (case kA => exact rfl); (case kF => exact rfl); (case kK => assumption); (case k1 => k_asm); (case k2 => k_asm); (case k3 => k_asm); (case k4 => k_asm); (case k5 => k_asm); (case k6 => k_is); (case k7 => k_is); (case k8 => ktr_room); (case k9 => exact BindsTo.of_eq rfl); (case kB => exact rfl); (case kD => decide +kernel); (case c2 => exact rfl); (case c3 => exact rfl); (case c4 => exact rfl); k_whole; intro g' L' h' tk' cells' FG' F' N' Y' B' X' T' l1; k_cells Y'; (try simp only [List.cons_append, List.nil_append] at N'); (try dsimp only); (try k_fold))
  walk_at "MY steps"
  rename_i oJ oI oL oR dJ dI dL dR
  have eJ : ∃ v0, oJ.data = .cell v0 := ⟨_, dJ⟩
  have eI : ∃ v0, oI.data = .cell v0 := ⟨_, dI⟩
  have eR : oR.data = .cell (some (.ref lr)) := dR.trans rfl
  have eL : oL.data = .cell (some (.ref dl)) := dL.trans rfl
  clear dJ dI dR dL
  refine Halt.go ?_
  walk_at "MY f"
  k_dflt (refine' LCt.Assign_ListComp_T (F₀ := F') ?v1 ?v2 ?u1 ?u2 ?u3 ?u4 ?u5 ?v3 ?v4 ?_; (case v1 => rfl); (case v2 => with_unfolding_all rfl); (case u1 => with_unfolding_all rfl); (case u2 => decide); (case u3 => rfl); (case u4 => decide); (case u5 => rfl); (case v3 => rfl); (case v4 => rfl))
  walk_at "MY steps"
  rename_i tZ _ rA hA _ tA vA FA NA lA
  have e0 : Builtin.Range.rangeSize 0 (rs.length : Int) 1 = ((recs.length : Nat) : Int) := by rw [hrs]; exact @size_up 0 recs.length
  have hsm : Builtin.Range.small 0 (rs.length : Int) 1 = true := small_up (a := 0) (b := rs.length) (by omega) (by omega)
  k_dflt (refine' srcT_range (n := recs.length) (fun i ys => ∃ qs : List (Int × Tok), ys = qs.map iv ∧ qs.map (·.1) = tells recs i) ?k1 ?k2 ?k3 ?k4 hsm e0 ?k5 ?k6 ?_ ?_; (case k1 => exact rfl); (case k2 => exact FA); (case k3 => exact NA); (case k4 => exact List.mem_cons_self); (case k5 => omega); (case k6 => exact ⟨[], rfl, rfl⟩))
  · rintro i ti ys I2 oI2 C2 oC2 D2 m2 h10 tk10 E' hi ⟨qs, rfl, hqs⟩ hC2 hx2 F10 N10
    walk_at "MY f"
    clear e0 hsm FA NA
    rw [Int.zero_add] at hx2
    refine EntryIn.elim (hrec i hi) ?_
    intro dx1 la1 lr1 t11 t12 t13 t14 nl1 nr1 h11 h12 h13 h14
    replace h11 : (rs.getD ((i : Int)).toNat 0, instObj 59 dx1) ∈ R := h11
    cases hdl : (recs.getD i rec0).2 with
    | none =>
      rw [hdl] at h12
      simp only [dval] at h12
      walk_at "MY steps"
      exact Halt.go ⟨⟨qs, rfl, by rw [tells_no (by rw [hdl]; rfl)]; exact hqs⟩, _, _, rfl, by k_asm, by k_asm⟩
    | some d =>
      rw [hdl] at h12
      simp only [dval] at h12
      walk_at "MY steps"
      exact Halt.go ⟨⟨qs ++ [((i : Int), ti)], by simp, by rw [tells_yes (by rw [hdl]; rfl), List.map_append, hqs]; rfl⟩, _, _, rfl, by k_asm, by k_asm⟩
  · rintro gC ys ⟨qs, rfl, hqs⟩ D3 h11 tk11 F11 N11 o1
    simp only [LCg.Off1] at o1
    clear e0 hsm FA NA
    walk_at "MY steps"
    rename_i tB _ rB hB _ tB' vB FB NB lB
    have hlL : ∀ p ∈ R, @LT.lt Nat _ p.1 L' := l1
    obtain ⟨B0, hB0⟩ : ∃ B0, B0 = (rB, rangeObj 0 (rs.length : Int) 1 tB' tB vB) :: (D3, W.listOf (qs.map iv).toArray (qs.map iv).length) :: (L' + 1 + 1, oL) :: (L' + 1, oR) :: R := ⟨_, rfl⟩
    have NB' : News g' L' hB ((L' + 1 + 1 + 1 + 1, oJ) :: (L' + 1 + 1 + 1, oI) :: B0) := fun p hp => NB p (by
      rw [hB0] at hp
      simp only [List.mem_cons] at hp ⊢
      rcases hp with h | h | h | h | h | h | h <;> simp only [h, true_or, or_true])
    have hBr : (rB, rangeObj 0 (rs.length : Int) 1 tB' tB vB) ∈ B0 := by rw [hB0]; simp
    have hBD : (D3, W.listOf (qs.map iv).toArray (qs.map iv).length) ∈ B0 := by rw [hB0]; simp
    have hBL : (L' + 1 + 1, oL) ∈ B0 := by rw [hB0]; simp
    have hBR : (L' + 1, oR) ∈ B0 := by rw [hB0]; simp
    have hBs : ∀ p ∈ R, p ∈ B0 := fun p hp => by rw [hB0]; simp [hp]
    have hBN : ∀ p ∈ B0, @Ne Nat p.1 (L' + 1 + 1 + 1 + 1) ∧ @Ne Nat p.1 (L' + 1 + 1 + 1) := by
      intro p hp
      rw [hB0] at hp
      simp only [List.mem_cons] at hp
      rcases hp with rfl | rfl | rfl | rfl | hp
      · exact ⟨Nat.ne_of_gt lB.2.2.1, Nat.ne_of_gt lB.2.2.2.1⟩
      · exact ⟨Ne.symm o1.2.1, Ne.symm o1.2.2.1⟩
      · exact ⟨Nat.ne_of_lt (Nat.lt_succ_of_lt (Nat.lt_succ_self _)), Nat.ne_of_lt (Nat.lt_succ_self _)⟩
      · exact ⟨Nat.ne_of_lt (Nat.lt_succ_of_lt (Nat.lt_succ_of_lt (Nat.lt_succ_self _))), Nat.ne_of_lt (Nat.lt_succ_of_lt (Nat.lt_succ_self _))⟩
      · have := hlL p hp
        exact ⟨Nat.ne_of_lt (Nat.lt_of_lt_of_le this (Nat.le_add_right _ 4)), Nat.ne_of_lt (Nat.lt_of_lt_of_le this (Nat.le_add_right _ 3))⟩
    clear NB o1 lB hB0
    have hql : qs.length ≤ 8 := by
      have := congrArg List.length hqs
      rw [List.length_map] at this
      have := tells_len recs recs.length
      omega
    have e0 : Builtin.Range.rangeSize 0 (rs.length : Int) 1 = ((recs.length : Nat) : Int) := by rw [hrs]; exact @size_up 0 recs.length
    have hsm : Builtin.Range.small 0 (rs.length : Int) 1 = true := small_up (a := 0) (b := rs.length) (by omega) (by omega)
    k_dflt (refine' loop_range (n := recs.length) (fun t m nw => m (Str.ofString "rows") = some (.ref dr) ∧ m (Str.ofString "told") = some (.ref D3) ∧
            ∃ oj oi, nw = (L' + 1 + 1 + 1 + 1, oj) :: (L' + 1 + 1 + 1, oi) :: B0 ∧ (∃ v0, oj.data = .cell v0) ∧ (∃ v0, oi.data = .cell v0))
                ?k1 ?k2 NB' ?k4 hsm e0 ?zz7 ?_ ?_; (case k1 => exact rfl); (case k2 => k_asm); (case k4 => exact List.mem_cons_of_mem _ (List.mem_cons_of_mem _ hBr)))
    · exact ⟨rfl, rfl, oJ, oI, rfl, eJ, eI⟩
    · intro i ti m₁ nw₁ own I oI2 h9 tk9 ht hJ hI ho1 ho2 F9 N9
      walk_at "MY f"
      clear e0 hsm eJ eI NB' FB
      refine cj3 hJ ?_
      clear hJ
      intro em1 em2 hJ
      refine ex2c3 hJ ?_
      clear hJ
      intro oj oi hnw hoj hoi
      subst hnw
      refine hoj.elim ?_
      clear hoj
      intro vj hoj
      refine hoi.elim ?_
      clear hoi
      intro vi hoi
      rw [Int.mul_one, Int.zero_add]
      replace F9 := fr_knowns [(Str.ofString "rows", .ref dr), (Str.ofString "told", .ref D3)] F9 (by simp only [List.forall_mem_cons, List.not_mem_nil, false_implies, implies_true, and_true]; exact ⟨em1, em2⟩)
      simp only [List.cons_append] at N9
      obtain ⟨fo, hfo⟩ : ∃ fo, fo = B0 ++ own := ⟨_, rfl⟩
      rw [← hfo] at N9
      have hBo : ∀ p ∈ B0, p ∈ fo := fun p hp => by rw [hfo]; exact List.mem_append_left _ hp
      have hRo : ∀ p ∈ R, p ∈ fo := fun p hp => hBo p (hBs p hp)
      have hfN : ∀ p ∈ fo, @Ne Nat p.1 (L' + 1 + 1 + 1 + 1) ∧ @Ne Nat p.1 (L' + 1 + 1 + 1) := by
        intro p hp
        rw [hfo] at hp
        rcases List.mem_append.mp hp with h | h
        · exact hBN p h
        · rw [ho2 p h]
          exact ⟨fun e => hI _ List.mem_cons_self e.symm, fun e => hI _ (List.mem_cons_of_mem _ List.mem_cons_self) e.symm⟩
      k_dflt (refine' storeX_H ?k1 ?k2 ?k3 ?k4 ?k5 ((L' + 1 + 1 + 1 + 1, oj) :: fo) ?_ ?_ ?k6 ?k7; (case k1 => k_asm); (case k2 => k_asm); (case k3 => exact rfl); (case k4 => exact List.mem_cons_of_mem _ List.mem_cons_self); (case k5 => exact hoi); (case k6 => exact rfl); (case k7 => exact rfl))
      · intro p hp
        rcases List.mem_cons.mp hp with rfl | hp
        · exact ⟨List.mem_cons_self, Nat.ne_of_gt (Nat.lt_succ_self _)⟩
        · exact ⟨List.mem_cons_of_mem _ (List.mem_cons_of_mem _ hp), (hfN p hp).2⟩
      intro hC oC FC NC dC
      clear F9 N9
      have hmL := hBo _ hBL
      have hmR := hBo _ hBR
      have hmD := hBo _ hBD
      have hmlr := hRo _ hlr
      have hmdl := hRo _ hdlm
      have hmdr := hRo _ hdrm
      have hen := (hrec i ht).mono hRo
      refine hen.elim ?_
      intro dx1 la1 lr1 t11 t12 t13 t14 nl1 nr1 h11 h12 h13 h14
      replace h11 : (rs.getD ((i : Int)).toNat 0, instObj 59 dx1) ∈ fo := h11
      walk_at "MY steps"
      refine Halt.go ?_
      walk_at "MY f"
      k_dflt (refine' LCg.Assign_ListComp_U (F₀ := FC) ?v1 ?v2 ?u1 ?u2 ?u3 ?u4 ?u5 ?v3 ?v4 ?_; (case v1 => rfl); (case v2 => with_unfolding_all rfl); (case u1 => with_unfolding_all rfl); (case u2 => decide); (case u3 => rfl); (case u4 => decide); (case u5 => rfl); (case v3 => rfl); (case v4 => rfl))
      walk_at "MY steps"
      refine ex1c2 (ends_fn recs i (Nat.le_of_lt ht)) ?_
      intro V hV1 hV2
      have hpl := h5l i
      k_dflt (refine' src_listG (EndsIn V (recs.getD i rec0).1 (L' + 1 + 1 + 1 + 1) ((L' + 1 + 1 + 1, oC) :: (L' + 1 + 1 + 1 + 1, oj) :: fo)) ?k1 ?k2 ?k3 ?k4 ?k5 ?k6 ?_ ?_; (case k1 => exact rfl); (case k2 => exact FC); (case k3 => exact NC); (case k4 => exact List.mem_cons_of_mem _ (List.mem_cons_of_mem _ h13)); (case k5 => rw [List.length_map]; omega); (case k6 => exact ⟨[], rfl, rfl, fun x hx => (nomatch hx), fun p hp => hp, fun p hp => .inl hp⟩))
      · rintro t v ys nw I3 oI3 C3 oC3 D4 m2 h15 tk15 E' hv hJ hmn hC2 hx2 F15 N15
        walk_at "MY f"
        refine ex1c4 (sv_at hv) ?_
        intro p hpv hpt hpm htk
        subst hpv
        refine ex3c3 (hlacks p.1 (h5 i p hpm)) ?_
        intro l nl ns hva hml hns
        have hJ' := hJ
        refine ex1c5 hJ' ?_
        intro as ha1 ha2 ha3 ha4 ha5
        have g1 := ha4 _ List.mem_cons_self
        have g2 : ∀ p ∈ fo, p ∈ nw := fun p hp => ha4 p (List.mem_cons_of_mem _ (List.mem_cons_of_mem _ hp))
        have g3 := g2 _ hmL
        have g4 := g2 _ hmdl
        have g5 := g2 _ (hRo _ hml)
        clear hv FC NC hmn
        walk_at "MY steps"
        have hnl := ns_len hns
        walk_at "MY f"
        k_dflt (refine' Ctr.use (lasts_ctr l ns nl (i : Int) ti ?z ?s ?x) ?k1 ?k2 ?k3 ?k4 ?k5 ?k6 ?k7 ?k8 ?k9 ?_; (case z => omega); (case s => rw [hns]; exact lack_sorted _ _); (case x => exact lack_reach hns (Nat.le_of_lt ht)); (case k1 => k_asm); (case k2 => exact F15); (case k3 => k_asm); (case k4 => exact N15); (case k5 => k_asm); (case k6 => first | exact rfl | assumption); (case k7 => exact List.mem_cons_of_mem _ (List.mem_cons_of_mem _ (List.mem_cons_of_mem _ g5))); (case k8 => walk_at "MY room"); (case k9 => walk_at "MY room"); k_whole)
        intro r16 tl16 h16 tk16 F16 N16 hl16 hp16
        refine cj2 hp16 ?_
        clear hp16
        intro htl hp16
        subst htl
        refine ex2c4 hp16 ?_
        clear hp16
        intro k tt hr16 hk1 hk2 hk3
        subst hr16
        replace N16 := News.nilA N16
        have hVk := hV2 _ _ (lastAt_of hns hk1 hk2 hk3)
        rw [hVk]
        walk_at "MY steps"
        rename_i T hT FT NT lT
        refine Halt.go ⟨_, _, [_], rfl, FT, NT, fun q hq p hp => ?_, hJ.snoc htk (ktn_ltOf lT.2.2.2 _ (ha4 _ (List.mem_cons_of_mem _ List.mem_cons_self)))⟩
        rw [List.mem_singleton.mp hp]
        simp only [List.mem_cons] at hq
        rcases hq with rfl | rfl | rfl | hq
        · exact lT.1
        · exact lT.2.1
        · exact lT.2.2.1
        · exact ktn_ltOf lT.2.2.2 q hq
      · intro gC ys nw hJ D5 h15 tk15 F15 N15 o1
        refine ex1c5 hJ ?_
        clear hJ
        intro as ha1 ha2 ha3 ha4 ha5
        rw [List.length_map, List.take_length] at ha1
        have g1 := ha4 _ List.mem_cons_self
        have g2 : ∀ p ∈ fo, p ∈ nw := fun p hp => ha4 p (List.mem_cons_of_mem _ (List.mem_cons_of_mem _ hp))
        have g3 := g2 _ hmL
        have g4 := g2 _ hmR
        have g5 := g2 _ hmlr
        walk_at "MY steps"
        rename_i t1 _ t2 _ t3 _ rE hE _ vE FE NE lE
        have o1m := off1_mem o1
        have hcell : ∀ p ∈ nw, @Ne Nat p.1 (L' + 1 + 1 + 1 + 1) → p ∈ nw.filter (fun p => decide (@Ne Nat p.1 (L' + 1 + 1 + 1 + 1))) := fun p hp h => List.mem_filter.mpr ⟨hp, decide_eq_true h⟩
        obtain ⟨B1, hB1⟩ : ∃ B1, B1 = (rE, rangeObj ((i : Int) + 1) ((rs.length : Int) + 1) 1 t1 t3 vE) :: (D5, W.listOf ys.toArray ys.length) :: nw.filter (fun p => decide (@Ne Nat p.1 (L' + 1 + 1 + 1 + 1))) := ⟨_, rfl⟩
        have hBr1 : (rE, rangeObj ((i : Int) + 1) ((rs.length : Int) + 1) 1 t1 t3 vE) ∈ B1 := by rw [hB1]; simp
        have hBD5 : (D5, W.listOf ys.toArray ys.length) ∈ B1 := by rw [hB1]; simp
        have hB1s : ∀ p ∈ nw, @Ne Nat p.1 (L' + 1 + 1 + 1 + 1) → p ∈ B1 := fun p hp h => by rw [hB1]; exact List.mem_cons_of_mem _ (List.mem_cons_of_mem _ (hcell p hp h))
        have hB1o : ∀ p ∈ fo, p ∈ B1 := fun p hp => hB1s p (g2 p hp) (hfN p hp).1
        have hB1C : (L' + 1 + 1 + 1, oC) ∈ B1 := hB1s _ g1 (Nat.ne_of_lt (Nat.lt_succ_self _))
        have hj0 : (L' + 1 + 1 + 1 + 1, oj) ∈ nw := ha4 _ (List.mem_cons_of_mem _ List.mem_cons_self)
        have hB1N : ∀ p ∈ B1, @Ne Nat p.1 (L' + 1 + 1 + 1 + 1) := by
          intro p hp
          rw [hB1] at hp
          simp only [List.mem_cons] at hp
          rcases hp with rfl | rfl | hp
          · exact Nat.ne_of_gt (ktn_ltOf lE.2 _ hj0)
          · exact Ne.symm (o1m _ hj0)
          · exact of_decide_eq_true (List.mem_filter.mp hp).2
        have NE' : News g' L' hE ((L' + 1 + 1 + 1 + 1, oj) :: B1) := fun p hp => NE p (by
          rcases List.mem_cons.mp hp with h | h
          · rw [h]; exact List.mem_cons_of_mem _ (List.mem_cons_of_mem _ hj0)
          · rw [hB1] at h
            simp only [List.mem_cons] at h ⊢
            rcases h with h | h | h
            · exact .inl h
            · exact .inr (.inl h)
            · exact .inr (.inr (List.mem_filter.mp h).1))
        have hB1t : ∀ x ∈ as, ∃ n, (x.1, tupO #[.str x.2.1.1 x.2.1.2, .int (V x.2.1.1) x.2.2] n) ∈ B1 := by
          intro x hx
          obtain ⟨n, hn⟩ := ha3 x hx
          refine ⟨n, hB1s _ hn fun e => ?_⟩
          have z1 := (NE' _ List.mem_cons_self).1
          have z2 := (NE _ (List.mem_cons_of_mem _ (List.mem_cons_of_mem _ hn))).1
          have e' : x.1 = L' + 1 + 1 + 1 + 1 := e
          dsimp only at z1 z2
          rw [e', z1] at z2
          have z3 := Option.some.inj z2
          rw [z3] at hoj
          cases hoj
        clear NE lE hB1 ha3 ha4 ha5 g3 g4 g5 g1 o1 hcell
        have e2 : Builtin.Range.rangeSize ((i : Int) + 1) ((rs.length : Int) + 1) 1 = ((recs.length - i : Nat) : Int) := by
          have := @size_up (i + 1) (rs.length + 1)
          rw [hrs] at this ⊢
          rw [show recs.length + 1 - (i + 1) = recs.length - i by omega] at this
          exact this
        have hsm2 : Builtin.Range.small ((i : Int) + 1) ((rs.length : Int) + 1) 1 = true := small_up (a := i + 1) (b := rs.length + 1) (by omega) (by omega)
        k_dflt (refine' loop_range (n := recs.length - i) (fun t m nw => m (Str.ofString "rows") = some (.ref dr) ∧ m (Str.ofString "told") = some (.ref D3) ∧ m (Str.ofString "ends") = some (.ref D5) ∧
                ∃ oj, nw = (L' + 1 + 1 + 1 + 1, oj) :: B1 ∧ (∃ v0, oj.data = .cell v0))
                    ?k1 ?k2 NE' ?k4 hsm2 e2 ?zz8 ?_ ?_; (case k1 => exact rfl); (case k2 => k_asm); (case k4 => exact List.mem_cons_of_mem _ hBr1))
        · exact ⟨rfl, rfl, rfl, oj, rfl, ⟨_, hoj⟩⟩
        · intro q tj m₂ nw₂ own2 I4 oI4 h17 tk17 hq hJ2 hI2 ho12 ho22 F17 N17
          walk_at "MY f"
          clear e2 hsm2 NE' FE hoj
          refine cj4 hJ2 ?_
          clear hJ2
          intro en1 en2 en3 hJ2
          refine ex1c2 hJ2 ?_
          clear hJ2
          intro oj2 hnw hoj2
          subst hnw
          refine hoj2.elim ?_
          clear hoj2
          intro vj2 hoj2
          obtain ⟨j, hj⟩ : ∃ j : Nat, j = i + 1 + q := ⟨_, rfl⟩
          have ejj : ((i : Int) + 1) + (q : Int) * 1 = (j : Int) := by omega
          rw [ejj]
          replace F17 := fr_knowns [(Str.ofString "rows", .ref dr), (Str.ofString "told", .ref D3), (Str.ofString "ends", .ref D5)] F17 (by simp only [List.forall_mem_cons, List.not_mem_nil, false_implies, implies_true, and_true]; exact ⟨en1, en2, en3⟩)
          simp only [List.cons_append] at N17
          obtain ⟨f2, hf2⟩ : ∃ f2, f2 = B1 ++ own2 := ⟨_, rfl⟩
          rw [← hf2] at N17
          have hB2 : ∀ p ∈ B1, p ∈ f2 := fun p hp => by rw [hf2]; exact List.mem_append_left _ hp
          have hf2N : ∀ p ∈ f2, @Ne Nat p.1 (L' + 1 + 1 + 1 + 1) := by
            intro p hp
            rw [hf2] at hp
            rcases List.mem_append.mp hp with h | h
            · exact hB1N p h
            · rw [ho22 p h]
              exact fun e => hI2 _ List.mem_cons_self e.symm
          k_dflt (refine' storeX_H ?k1 ?k2 ?k3 ?k4 ?k5 f2 ?_ ?_ ?k6 ?k7; (case k1 => k_asm); (case k2 => k_asm); (case k3 => exact rfl); (case k4 => exact List.mem_cons_self); (case k5 => exact hoj2); (case k6 => exact rfl); (case k7 => exact rfl))
          · exact fun p hp => ⟨List.mem_cons_of_mem _ hp, hf2N p hp⟩
          intro hK oK FK NK dK
          clear F17 N17
          have hij : i < j := by omega
          have hjn : j ≤ recs.length := by omega
          refine ex3c4 (hrows i (Nat.zero_le _) ht) ?_
          intro lE nE es hv1 hmE hlE hens
          have w1 := hB2 _ (hB1o _ (hRo _ hmE))
          have w2 := hB2 _ (hB1o _ hmdr)
          have w3 := hB2 _ (hB1o _ hmR)
          have w4 := hB2 _ (hB1o _ hmlr)
          have w5 := hB2 _ (hB1o _ hmD)
          have w6 := hB2 _ hB1C
          have w7 := hB2 _ hBD5
          have hen2 : EntryIn w f2 (es.getD (((j : Int) - (i : Int)) - 1).toNat 0) (mps recs i j) (mdl recs i j) := by
            have := hens (j - i - 1) (by omega)
            rw [show i + (j - i - 1) + 1 = j by omega] at this
            rw [show (((j : Int) - (i : Int)) - 1).toNat = j - i - 1 by omega]
            exact this.mono fun p hp => hB2 p (hB1o p (hRo p hp))
          refine hen2.elim ?_
          intro dx2 la2 lr2 t21 t22 t23 t24 nl2 nr2 u11 u12 u13 u14
          have hal : as.length = (recs.getD i rec0).1.length := by rw [← ha1, List.length_map]
          have hasl : as.length ≤ 5 := by omega
          have w8 : (D5, W.listOf ((as.map (tvOf V)).map fun t => Value.ref t.1).toArray ys.length) ∈ f2 := by
            rw [show (as.map (tvOf V)).map (fun t => Value.ref t.1) = ys by rw [ha2, List.map_map]; rfl]
            exact w7
          have w9 : ∀ t ∈ as.map (tvOf V), ∃ n, (t.1, tupO #[t.2.1, t.2.2] n) ∈ f2 := by
            intro t ht
            obtain ⟨x, hx, rfl⟩ := List.mem_map.mp ht
            obtain ⟨n, hn⟩ := hB1t x hx
            exact ⟨n, hB2 _ hn⟩
          have hmp : mps recs i j = (recs.getD i rec0).1.filter fun p => decide (V p.1 ≥ (j : Int)) := mps_last hV1 hij hjn
          walk_at "MY steps"
          rename_i hP FP NP
          have hqz : qs.length ≤ 1000 := by omega
          have hqS : (qs.map (·.1)).Pairwise (· ≤ ·) := by rw [hqs]; exact tells_sorted _ _
          show wpAny _ _ (call (Value.ref 79) [Value.ref D3, Value.int (j : Int) tj]) _ _ _
          k_dflt (refine' Ctr.use (bisect_plain D3 qs (qs.map iv).length (j : Int) tj hqz hqS) ?k1 ?k2 ?k3 ?k4 ?k5 ?k6 ?k7 ?k8 ?k9 ?_; (case k1 => k_asm); (case k2 => exact FP); (case k3 => k_asm); (case k4 => exact NP); (case k5 => k_asm); (case k6 => first | exact rfl | assumption); (case k7 => exact List.mem_cons_of_mem _ w5); (case k8 => walk_at "MY room"); (case k9 => walk_at "MY room"); k_whole)
          intro r18 tl18 h18 tk18 F18 N18 hl18 hp18
          refine cj2 hp18 ?_
          clear hp18
          intro htl hp18
          subst htl
          refine ex2c4 hp18 ?_
          clear hp18
          intro k tt hr18 hk1 hk2 hk3
          subst hr18
          replace N18 := News.nilA N18
          clear FP NP hqS
          rcases Nat.eq_zero_or_pos k with rfl | hk0
          · have hmd : mdl recs i j = none := mdl_none j fun x _ hx => told_none hqs hk3 x hx (by omega)
            rw [hmd] at u12
            simp only [dval] at u12
            walk_at "MY steps"
            rename_i hQ FQ NQ
            refine Halt.go ?_
            walk_at "MY f"
            k_dflt (refine' ListComp_my ?k2 ?k3 ?k4 ?_; (case k2 => with_unfolding_all rfl); (case k3 => rfl); (case k4 => decide))
            walk_at "MY steps"
            k_dflt (refine' comp_tups (tvs := as.map (tvOf V)) (nl := ys.length) (fun t zs => zs = (((recs.getD i rec0).1.take t).filter fun p => decide (V p.1 ≥ (j : Int))).map sv) ?z ?c1 ?c2 ?c3 ?c4 ?c5 ?c6 ?k1 ?k2 ?k3 ?k4 ?k6 ?_ ?_; (case k1 => exact FQ); (case k2 => exact NQ); (case k3 => exact List.mem_cons_of_mem _ w8); (case k4 => exact fun t ht => (w9 t ht).elim fun n hn => ⟨n, List.mem_cons_of_mem _ hn⟩); (case c1 => decide); (case c2 => rfl); (case c3 => rfl); (case c4 => rfl); (case c5 => decide); (case c6 => rfl); (case z => rw [List.length_map]; omega); (case k6 => rfl))
            · rintro t tv zs own3 C5 oC5 D6 mC h20 tk20 E' htv rfl hC5 hxa hxe F20 N20
              walk_at "MY f"
              refine ex2c3 (tv_at ha1 htv) ?_
              intro p te ep1 ep2 htk
              rw [ep1] at hxa
              rw [ep2] at hxe
              clear ep1 ep2 htv FQ NQ
              walk_at "MY steps"
              · rename_i hge
                exact Halt.go ⟨(filt_yes htk (decide_eq_true hge)).symm, _, _, rfl, by k_asm, by k_asm⟩
              · rename_i hge
                exact Halt.go ⟨(filt_no htk (decide_eq_false hge)).symm, _, _, rfl, by k_asm, by k_asm⟩
            · rintro D6 C6 h21 tk21 m6 zs rfl F21 N21 o21 hn6 hC6 hCL6 hCD6 offC6
              refine post_none ?_ F21 N21 o21 hn6 hC6 hCL6 hCD6 offC6
              clear F21 N21 o21 hn6 hC6 hCL6 hCD6 offC6 FQ NQ
              intro D7 h22 tk22 F22 N22 o22
              walk_at "MY steps"
              refine ne_strs N22 (List.mem_cons_of_mem _ (List.mem_cons_of_mem _ u13)) List.mem_cons_self (mps_five h5) ?_ ?_ ?_
              · rw [hmp, List.length_map, hal, List.take_length]
              · first
                  | units_room
                  | (dsimp only [ktrTop, Around.deeper, Around.under, Around.in1, cLine]; omega)
              · walk_at "MY steps"
                refine TurnEnd.next ((L' + 1 + 1 + 1 + 1, oK) :: B1) F22 N22 (fun p hp => ?_) (fun p hp => ?_) ⟨rfl, rfl, rfl, oK, rfl, ⟨_, dK⟩⟩
                · rw [List.cons_append, ← hf2] at hp
                  exact List.mem_cons_of_mem _ hp
                · rw [List.mem_singleton]
                  rcases List.mem_cons.mp hp with rfl | hp
                  · exact hI2 (L' + 1 + 1 + 1 + 1, oj2) List.mem_cons_self
                  · exact hI2 p (List.mem_cons_of_mem _ hp)
          · refine ex3c5 (told_some hqs hk0 hk1 hk2 hk3) ?_
            intro x tx d hg hxn hxj hxd hxno
            refine EntryIn.elim ((hrec x hxn).mono fun p hp => hB2 p (hB1o p (hRo p hp))) ?_
            intro dx3 la3 lr3 t31 t32 t33 t34 nl3 nr3 v11 v12 v13 v14
            replace v11 : (rs.getD ((x : Int)).toNat 0, instObj 59 dx3) ∈ f2 := v11
            rw [hxd] at v12
            simp only [dval] at v12
            rcases Nat.lt_or_ge x i with hix | hix
            · have hmd : mdl recs i j = none := mdl_none j fun y a b => hxno y (by omega) b (by omega)
              rw [hmd] at u12
              simp only [dval] at u12
              walk_at "MY steps"
              rename_i hQ FQ NQ
              refine Halt.go ?_
              walk_at "MY f"
              k_dflt (refine' ListComp_my ?k2 ?k3 ?k4 ?_; (case k2 => with_unfolding_all rfl); (case k3 => rfl); (case k4 => decide))
              walk_at "MY steps"
              k_dflt (refine' comp_tups (tvs := as.map (tvOf V)) (nl := ys.length) (fun t zs => zs = (((recs.getD i rec0).1.take t).filter fun p => decide (V p.1 ≥ (j : Int))).map sv) ?z ?c1 ?c2 ?c3 ?c4 ?c5 ?c6 ?k1 ?k2 ?k3 ?k4 ?k6 ?_ ?_; (case k1 => exact FQ); (case k2 => exact NQ); (case k3 => exact List.mem_cons_of_mem _ w8); (case k4 => exact fun t ht => (w9 t ht).elim fun n hn => ⟨n, List.mem_cons_of_mem _ hn⟩); (case c1 => decide); (case c2 => rfl); (case c3 => rfl); (case c4 => rfl); (case c5 => decide); (case c6 => rfl); (case z => rw [List.length_map]; omega); (case k6 => rfl))
              · rintro t tv zs own3 C5 oC5 D6 mC h20 tk20 E' htv rfl hC5 hxa hxe F20 N20
                walk_at "MY f"
                refine ex2c3 (tv_at ha1 htv) ?_
                intro p te ep1 ep2 htk
                rw [ep1] at hxa
                rw [ep2] at hxe
                clear ep1 ep2 htv FQ NQ
                walk_at "MY steps"
                · rename_i hge
                  exact Halt.go ⟨(filt_yes htk (decide_eq_true hge)).symm, _, _, rfl, by k_asm, by k_asm⟩
                · rename_i hge
                  exact Halt.go ⟨(filt_no htk (decide_eq_false hge)).symm, _, _, rfl, by k_asm, by k_asm⟩
              · rintro D6 C6 h21 tk21 m6 zs rfl F21 N21 o21 hn6 hC6 hCL6 hCD6 offC6
                refine post_none ?_ F21 N21 o21 hn6 hC6 hCL6 hCD6 offC6
                clear F21 N21 o21 hn6 hC6 hCL6 hCD6 offC6 FQ NQ
                intro D7 h22 tk22 F22 N22 o22
                walk_at "MY steps"
                refine ne_strs N22 (List.mem_cons_of_mem _ (List.mem_cons_of_mem _ u13)) List.mem_cons_self (mps_five h5) ?_ ?_ ?_
                · rw [hmp, List.length_map, hal, List.take_length]
                · first
                    | units_room
                    | (dsimp only [ktrTop, Around.deeper, Around.under, Around.in1, cLine]; omega)
                · walk_at "MY steps"
                  refine TurnEnd.next ((L' + 1 + 1 + 1 + 1, oK) :: B1) F22 N22 (fun p hp => ?_) (fun p hp => ?_) ⟨rfl, rfl, rfl, oK, rfl, ⟨_, dK⟩⟩
                  · rw [List.cons_append, ← hf2] at hp
                    exact List.mem_cons_of_mem _ hp
                  · rw [List.mem_singleton]
                    rcases List.mem_cons.mp hp with rfl | hp
                    · exact hI2 (L' + 1 + 1 + 1 + 1, oj2) List.mem_cons_self
                    · exact hI2 p (List.mem_cons_of_mem _ hp)
            · have hmd : mdl recs i j = some d := mdl_some hix hxd j hxj fun y a b => hxno y a b (by omega)
              rw [hmd] at u12
              simp only [dval] at u12
              walk_at "MY steps"
              · exact absurd rfl (by assumption)
              rename_i hQ FQ NQ _
              refine Halt.go ?_
              walk_at "MY f"
              k_dflt (refine' ListComp_my ?k2 ?k3 ?k4 ?_; (case k2 => with_unfolding_all rfl); (case k3 => rfl); (case k4 => decide))
              walk_at "MY steps"
              k_dflt (refine' comp_tups (tvs := as.map (tvOf V)) (nl := ys.length) (fun t zs => zs = (((recs.getD i rec0).1.take t).filter fun p => decide (V p.1 ≥ (j : Int))).map sv) ?z ?c1 ?c2 ?c3 ?c4 ?c5 ?c6 ?k1 ?k2 ?k3 ?k4 ?k6 ?_ ?_; (case k1 => exact FQ); (case k2 => exact NQ); (case k3 => exact List.mem_cons_of_mem _ w8); (case k4 => exact fun t ht => (w9 t ht).elim fun n hn => ⟨n, List.mem_cons_of_mem _ hn⟩); (case c1 => decide); (case c2 => rfl); (case c3 => rfl); (case c4 => rfl); (case c5 => decide); (case c6 => rfl); (case z => rw [List.length_map]; omega); (case k6 => rfl))
              · rintro t tv zs own3 C5 oC5 D6 mC h20 tk20 E' htv rfl hC5 hxa hxe F20 N20
                walk_at "MY f"
                refine ex2c3 (tv_at ha1 htv) ?_
                intro p te ep1 ep2 htk
                rw [ep1] at hxa
                rw [ep2] at hxe
                clear ep1 ep2 htv FQ NQ
                walk_at "MY steps"
                · rename_i hge
                  exact Halt.go ⟨(filt_yes htk (decide_eq_true hge)).symm, _, _, rfl, by k_asm, by k_asm⟩
                · rename_i hge
                  exact Halt.go ⟨(filt_no htk (decide_eq_false hge)).symm, _, _, rfl, by k_asm, by k_asm⟩
              · rintro D6 C6 h21 tk21 m6 zs rfl F21 N21 o21 hn6 hC6 hCL6 hCD6 offC6
                refine post_none ?_ F21 N21 o21 hn6 hC6 hCL6 hCD6 offC6
                clear F21 N21 o21 hn6 hC6 hCL6 hCD6 offC6 FQ NQ
                intro D7 h22 tk22 F22 N22 o22
                walk_at "MY steps"
                refine ne_strs N22 (List.mem_cons_of_mem _ (List.mem_cons_of_mem _ u13)) List.mem_cons_self (mps_five h5) ?_ ?_ ?_
                · rw [hmp, List.length_map, hal, List.take_length]
                · first
                    | units_room
                    | (dsimp only [ktrTop, Around.deeper, Around.under, Around.in1, cLine]; omega)
                · walk_at "MY steps"
                  refine TurnEnd.next ((L' + 1 + 1 + 1 + 1, oK) :: B1) F22 N22 (fun p hp => ?_) (fun p hp => ?_) ⟨rfl, rfl, rfl, oK, rfl, ⟨_, dK⟩⟩
                  · rw [List.cons_append, ← hf2] at hp
                    exact List.mem_cons_of_mem _ hp
                  · rw [List.mem_singleton]
                    rcases List.mem_cons.mp hp with rfl | hp
                    · exact hI2 (L' + 1 + 1 + 1 + 1, oj2) List.mem_cons_self
                    · exact hI2 p (List.mem_cons_of_mem _ hp)
        · intro m₂ nw₂ h18 tk18 hJ2 F18 N18
          refine cj4 hJ2 ?_
          clear hJ2
          intro en1 en2 en3 hJ2
          refine ex1c2 hJ2 ?_
          clear hJ2
          intro oj2 hnw hoj2
          subst hnw
          clear e2 hsm2 NE' FE
          dsimp only
          walk_at "MY steps"
          refine TurnEnd.next ((L' + 1 + 1 + 1 + 1, oj2) :: (L' + 1 + 1 + 1, oC) :: B0) F18 N18 (fun p hp => ?_) (fun p hp => ?_) ⟨?_, ?_, oj2, oC, rfl, hoj2, ⟨_, dC⟩⟩
          · simp only [List.cons_append, List.mem_cons] at hp
            rcases hp with h | h | h
            · rw [h]; exact List.mem_cons_self
            · rw [h]; exact List.mem_cons_of_mem _ hB1C
            · rw [← hfo] at h; exact List.mem_cons_of_mem _ (hB1o p h)
          · rw [List.mem_singleton]
            simp only [List.mem_cons] at hp
            rcases hp with rfl | rfl | h
            · exact hI (L' + 1 + 1 + 1 + 1, oj) List.mem_cons_self
            · exact hI (L' + 1 + 1 + 1, oi) (List.mem_cons_of_mem _ List.mem_cons_self)
            · exact hI p (List.mem_cons_of_mem _ (List.mem_cons_of_mem _ h))
          · exact en1
          · exact en2
    · intro m₁ nw₁ h9 tk9 hJ F9 N9
      refine cj3 hJ ?_
      clear hJ
      intro em1 em2 hJ
      refine ex2c3 hJ ?_
      clear hJ
      intro oj oi hnw hoj hoi
      subst hnw
      clear NB' FB e0 hsm
      dsimp only
      walk_at "MY steps"
      rename_i kF kN Tc kX
      refine hret _ [] _ _ kF (fun p hp => kN p ?_) (fun _ _ _ h9 => nomatch h9) ⟨rfl, rfl⟩
      exact List.mem_cons_of_mem _ (List.mem_cons_of_mem _ (hBs p hp))
end

section
theorem ints_form : ∀ {vs : List Value} {ns : List Int}, IntsAre vs ns → ∃ ps : List (Int × Tok), vs = ps.map iv ∧ ps.length = ns.length
  | _, _, .nil => ⟨[], rfl, rfl⟩
  | _, _, .cons n t r => by
    obtain ⟨ps, e, h⟩ := ints_form r
    exact ⟨(n, t) :: ps, by rw [e]; rfl, by simp [h]⟩
theorem iv_at {qs : List (Int × Tok)} {t : Nat} {v : Value} (h : (qs.map iv)[t]? = some v) : ∃ n tn, v = .int n tn := by
  rw [List.getElem?_map, Option.map_eq_some_iff] at h
  obtain ⟨p, hp, rfl⟩ := h
  exact ⟨_, _, rfl⟩
theorem ref_at {rs : List Addr} {t : Nat} {v : Value} (h : (rs.map Value.ref)[t]? = some v) : t < rs.length ∧ v = .ref (rs.getD t 0) := by
  rw [List.getElem?_map, Option.map_eq_some_iff] at h
  obtain ⟨a, ha, rfl⟩ := h
  have hl := (List.getElem?_eq_some_iff.mp ha).1
  exact ⟨hl, by rw [List.getD_eq_getElem?_getD, ha]; rfl⟩
theorem rec_old {recs : List Rec} {r : Rec} {k : Nat} (h : k < recs.length) : (recs ++ [r]).getD k rec0 = recs.getD k rec0 := by
  rw [List.getD_eq_getElem?_getD, List.getD_eq_getElem?_getD, List.getElem?_append_left h]
theorem rec_new {recs : List Rec} {r : Rec} {k : Nat} (h : k = recs.length) : (recs ++ [r]).getD k rec0 = r := by
  rw [List.getD_eq_getElem?_getD, h, List.getElem?_append_right (Nat.le_refl _), Nat.sub_self]; rfl
theorem nums_led {h₀ h : Heap} {L lN : Addr} {ps : List (Int × Tok)} {t1 t2 t3 : Tok} {rest : Led} (hp : ps.length ≤ 5)
    (N : News h₀ L h ((lN, ({ cls := .type "list", data := .seq (ps.map iv ++ [Value.int 67 t1, Value.int 9 t2, Value.int 1095 t3]).toArray } : Obj)) :: rest)) : ∃ nums : List (Int × Tok), nums.length ≤ 8 ∧ News h₀ L h ((lN, W.listOf (nums.map iv).toArray 0) :: rest) :=
  ⟨ps ++ [(67, t1), (9, t2), (1095, t3)], by simp; omega, by rw [List.map_append]; exact N⟩
theorem recs_all {P : Rec → Prop} {recs : List Rec} (h : ∀ r ∈ recs, P r) (h0 : P rec0) (k : Nat) : P (recs.getD k rec0) := by
  rw [List.getD_eq_getElem?_getD]
  cases e : recs[k]? with
  | none => exact h0
  | some r => exact h r (List.mem_of_getElem? e)
/-- the records made so far, told in a ledger of their own -/
def RecsIn (w : World) (news0 : Led) (i : Nat) (ys : List Value) (nw : Led) : Prop :=
  ∃ (rs : List Addr) (recs : List Rec) (own : Led), ys = rs.map Value.ref ∧ rs.length = i ∧ recs.length = i ∧ (∀ k, k < i → EntryIn w own (rs.getD k 0) (recs.getD k rec0).1 (recs.getD k rec0).2) ∧
    (∀ r ∈ recs, (∀ p ∈ r.1, p.1 ∈ five) ∧ r.1.length ≤ 5) ∧ (∀ p ∈ own, p ∈ nw ∧ @LT.lt Nat _ 105 p.1) ∧ ∀ p ∈ news0, p ∈ nw
theorem RecsIn.snoc {w : World} {news0 : Led} {i : Nat} {ys : List Value} {nw tl : Led} {e : Addr} {ps : List (Str × Tok)} {dl : Option (Int × Tok)} (h : RecsIn w news0 i ys nw) (he : EntryIn w tl e ps dl) (h1 : ∀ p ∈ ps, p.1 ∈ five) (h2 : ps.length ≤ 5)
    (htl : ∀ p ∈ tl, @LT.lt Nat _ 105 p.1) : RecsIn w news0 (i + 1) (ys ++ [.ref e]) (tl ++ nw) := by
  obtain ⟨rs, recs, own, rfl, a1, a2, a3, a4, a5, a6⟩ := h
  refine ⟨rs ++ [e], recs ++ [(ps, dl)], tl ++ own, by simp, by simp [a1], by simp [a2], fun k hk => ?_, fun r hr => ?_, fun p hp => ?_, fun p hp => List.mem_append_right _ (a6 p hp)⟩
  · rcases Nat.lt_or_ge k i with h | h
    · rw [getD_old (by omega), rec_old (by omega)]
      exact (a3 k h).mono fun p hp => List.mem_append_right _ hp
    · rw [getD_new (by omega), rec_new (by omega)]
      exact he.mono fun p hp => List.mem_append_left _ hp
  · rcases List.mem_append.mp hr with hr | hr
    · exact a4 r hr
    · rw [List.mem_singleton.mp hr]; exact ⟨h1, h2⟩
  · rcases List.mem_append.mp hp with hp | hp
    · exact ⟨List.mem_append_left _ hp, htl p hp⟩
    · exact ⟨List.mem_append_right _ (a5 p hp).1, (a5 p hp).2⟩
/-- a pair of a list of agents and a delay -/
def TupIn (R : Led) (T : Addr) (r : Rec) : Prop := ∃ lc n c, (T, tupO #[.ref lc, dval r.2] n) ∈ R ∧ (lc, W.listOf (r.1.map sv).toArray c) ∈ R
theorem TupIn.mono {R R' : Led} {T : Addr} {r : Rec} (h : TupIn R T r) (k : ∀ p ∈ R, p ∈ R') : TupIn R' T r := by
  obtain ⟨lc, n, c, h1, h2⟩ := h
  exact ⟨lc, n, c, k _ h1, k _ h2⟩
def TupsIn (recs : List Rec) (R : Led) (i : Nat) (ys : List Value) (nw : Led) : Prop :=
  ∃ (ts : List Addr) (own : Led), ys = ts.map Value.ref ∧ ts.length = i ∧ (∀ k, k < i → TupIn (own ++ R) (ts.getD k 0) (recs.getD k rec0)) ∧ (∀ p ∈ own, p ∈ nw ∧ @LT.lt Nat _ 105 p.1) ∧ (105, tabObj #[]) ∈ nw ∧ ∀ p ∈ R, p ∈ nw
theorem TupsIn.snoc {recs : List Rec} {R : Led} {i : Nat} {ys : List Value} {nw tl : Led} {T : Addr} (h : TupsIn recs R i ys nw) (ht : TupIn (tl ++ R) T (recs.getD i rec0)) (h105 : ∀ p ∈ tl, @LT.lt Nat _ 105 p.1) : TupsIn recs R (i + 1) (ys ++ [.ref T]) (tl ++ nw) := by
  obtain ⟨ts, own, rfl, q2, q3, q4, q5, q6⟩ := h
  refine ⟨ts ++ [T], tl ++ own, by simp, by simp [q2], fun k hk => ?_, fun p hp => ?_, List.mem_append_right _ q5, fun p hp => List.mem_append_right _ (q6 p hp)⟩
  · rcases Nat.lt_or_ge k i with h | h
    · rw [getD_old (by omega)]
      exact (q3 k h).mono fun p hp => by rw [List.append_assoc]; exact List.mem_append_right _ hp
    · rw [getD_new (by omega), show k = i by omega]
      exact ht.mono fun p hp => by
        rcases List.mem_append.mp hp with h | h
        · exact List.mem_append_left _ (List.mem_append_left _ h)
        · exact List.mem_append_right _ h
  · rcases List.mem_append.mp hp with hp | hp
    · exact ⟨List.mem_append_left _ hp, h105 p hp⟩
    · exact ⟨List.mem_append_right _ (q4 p hp).1, (q4 p hp).2⟩
theorem getD_tail {rs : List Addr} {t : Nat} : rs.getD t 0 = (rs[t]?).getD 0 := List.getD_eq_getElem?_getD ..
/-- reading the pairs -/
theorem readsAll_tups {h₀ h : Heap} {L : Addr} {R : Led} (N : News h₀ L h R) : ∀ (ts : List Addr) (recs : List Rec), ts.length = recs.length → (∀ k, k < recs.length → TupIn R (ts.getD k 0) (recs.getD k rec0)) → ∃ as, ReadsAll h (ts.map Value.ref) (recs.map rDat) as
  | [], [], _, _ => ⟨_, .nil⟩
  | T :: ts, r :: recs, e, ht => by
    obtain ⟨as, ih⟩ := readsAll_tups N ts recs (by simpa using e) fun k hk => ht (k + 1) (by simpa using hk)
    obtain ⟨lc, n, c, h1, h2⟩ := ht 0 (by simp)
    have rd : Reads h (.ref T) (rDat r) _ := Reads.tuple (N _ h1).1 rfl rfl (ReadsAll.cons (reads_sv N h2) (ReadsAll.cons (reads_dv r.2) ReadsAll.nil))
    exact ⟨_, .cons rd ih⟩
theorem eq_tups {prog : Program} {w : World} {A : Around} {E : Value → Shared → Prop} {s : Shared} {h₀ : Heap} {L : Addr} {R : Led} {a b : Addr} {ts us : List Addr} {recs : List Rec} {n1 n2 : Nat} {Q : Value → Shared → Prop} (N : News h₀ L s.heap R)
    (ha : (a, W.listOf (ts.map Value.ref).toArray n1) ∈ R) (hb : (b, W.listOf (us.map Value.ref).toArray n2) ∈ R) (e1 : ts.length = recs.length) (e2 : us.length = recs.length)
    (h1 : ∀ k, k < recs.length → TupIn R (ts.getD k 0) (recs.getD k rec0)) (h2 : ∀ k, k < recs.length → TupIn R (us.getD k 0) (recs.getD k rec0)) (h5 : ∀ r ∈ recs, ∀ p ∈ r.1, p.1 ∈ five) (hu : A.units + 64 < cLine) (h : Q (.bool true) s) :
    Halt (wpAny (model prog w) A (compareOp .Eq (.ref a) (.ref b)) Q E s) := by
  obtain ⟨as, ra⟩ := readsAll_tups N ts recs e1 h1
  obtain ⟨bs, rb⟩ := readsAll_tups N us recs e2 h2
  refine eq_dataH (Reads.list (N _ ha).1 rfl rfl (by simpa using ra)) (Reads.list (N _ hb).1 rfl rfl (by simpa using rb)) (shaped_rDats recs h5) (shaped_rDats recs h5) hu ?_
  simp only [PyData.eqv, eqv_rDats]
  exact h
/-- the ledger without the table -/
def no105 (nw : Led) : Led := nw.filter fun p => decide (@Ne Nat p.1 105)
theorem mem_no105 {nw : Led} {p : Addr × Obj} : p ∈ no105 nw ↔ p ∈ nw ∧ @Ne Nat p.1 105 := by
  unfold no105
  rw [List.mem_filter]
  exact ⟨fun h => ⟨h.1, of_decide_eq_true h.2⟩, fun h => ⟨h.1, decide_eq_true h.2⟩⟩
def Un105 (nw : Led) : Prop := ∀ o, (105, o) ∈ nw → ∃ ps, o = tabObj ps
theorem un105 {h₀ h : Heap} {L : Addr} {nw : Led} {ps : Array Value} (N : News h₀ L h nw) (hm : (105, tabObj ps) ∈ nw) : Un105 nw := fun o ho =>
  ⟨ps, Option.some.inj ((N _ ho).1.symm.trans (N _ hm).1)⟩
theorem drop105 {nw : Led} (hu : Un105 nw) {a : Addr} {o : Obj} (hm : (a, o) ∈ nw) (ho : ∀ ps, o ≠ tabObj ps) : (a, o) ∈ no105 nw := by
  refine mem_no105.mpr ⟨hm, fun e => ?_⟩
  have e' : a = 105 := e
  subst e'
  obtain ⟨ps, h⟩ := hu o hm
  exact ho ps h
theorem EntryIn.drop {w : World} {nw : Led} {e : Addr} {ps : List (Str × Tok)} {dl : Option (Int × Tok)} (hu : Un105 nw) (h : EntryIn w nw e ps dl) : EntryIn w (no105 nw) e ps dl := by
  obtain ⟨dx, la, lr, t1, t2, t3, t4, nl, nr, h1, h2, h3, h4⟩ := h
  exact ⟨dx, la, lr, t1, t2, t3, t4, nl, nr, drop105 hu h1 (fun ps e => by cases congrArg Obj.cls e), drop105 hu h2 (fun ps e => by cases congrArg Obj.data e), drop105 hu h3 (fun ps e => by cases congrArg Obj.data e), drop105 hu h4 (fun ps e => by cases congrArg Obj.data e)⟩
theorem RowsIn.drop {w : World} {recs : List Rec} {lo : Nat} {kvs : List (Int × Value)} {nw : Led} (hu : Un105 nw) (h : RowsIn w recs lo kvs nw) : RowsIn w recs lo kvs (no105 nw) := by
  intro k h1 h2
  obtain ⟨l, nl, es, a, b, c, d⟩ := h k h1 h2
  exact ⟨l, nl, es, a, drop105 hu b (fun ps e => by cases congrArg Obj.data e), c, fun t ht => (d t ht).drop hu⟩
theorem LacksIn.mono {recs : List Rec} {as : List Str} {kvs : List (Str × Value)} {R R' : Led} (h : LacksIn recs as kvs R) (k : ∀ p ∈ R, p ∈ R') : LacksIn recs as kvs R' := by
  intro a ha
  obtain ⟨l, nl, ns, q1, q2, q3⟩ := h a ha
  exact ⟨l, nl, ns, q1, k _ q2, q3⟩
theorem news_no105 {h₀ h : Heap} {L : Addr} {nw : Led} {ps : Array Value} (N : News h₀ L h nw) (hm : (105, tabObj ps) ∈ nw) : News h₀ L h ((105, tabObj ps) :: no105 nw) := fun p hp => by
  rcases List.mem_cons.mp hp with rfl | hp
  · exact N _ hm
  · exact N p (mem_no105.mp hp).1
/-- the four names and what fits them -/
def NameOk (nv : Value) (fits : List Str) : Prop :=
  (∃ t, nv = .str (Str.ofString "xFig/plum") t ∧ fits = [Str.ofString "fig", Str.ofString "Fig", Str.ofString "ig"]) ∨ (∃ t, nv = .str (Str.ofString "Plumig") t ∧ fits = [Str.ofString "ig", Str.ofString "plum"]) ∨
  (∃ t, nv = .str (Str.ofString "ig*/fig") t ∧ fits = [Str.ofString "ig"]) ∨ (nv = .none ∧ fits = [Str.ofString "*"])
theorem NameOk.five {nv : Value} {fits : List Str} (h : NameOk nv fits) : ∀ a ∈ fits, a ∈ five := by
  rcases h with ⟨t, _, rfl⟩ | ⟨t, _, rfl⟩ | ⟨t, _, rfl⟩ | ⟨_, rfl⟩
  all_goals (intro a ha; simp only [List.mem_cons, List.not_mem_nil, or_false] at ha ⊢)
  · rcases ha with h | h | h <;> simp [h]
  · rcases ha with h | h <;> simp [h]
  · simp [ha]
  · simp [ha]
theorem NameOk.len {nv : Value} {fits : List Str} (h : NameOk nv fits) : 0 < fits.length ∧ fits.length ≤ 5 := by
  rcases h with ⟨t, _, rfl⟩ | ⟨t, _, rfl⟩ | ⟨t, _, rfl⟩ | ⟨_, rfl⟩
  all_goals decide
theorem star_appl (ps : List (Str × Tok)) : decide (Str.ofString "*" ∈ ps.map (·.1)) = appl [Str.ofString "*"] ps := by
  cases h : appl [Str.ofString "*"] ps with
  | true =>
    obtain ⟨a, ha, hm⟩ := appl_iff.mp h
    rw [List.mem_singleton.mp ha] at hm
    exact decide_eq_true hm
  | false =>
    refine decide_eq_false fun hm => ?_
    rw [appl_iff.mpr ⟨_, List.mem_singleton.mpr rfl, hm⟩] at h
    cases h
theorem NameOk.hap {w : World} {mg mb : Str → Option Value} {mean : ExcName → Option Value} {loose : List Str} {tp : Program} {nv : Value} {fits : List Str} (h : NameOk nv fits) :
    ∀ e ps dl, (∀ p ∈ ps, p.1 ∈ Mine.five) → Ctr w mg mb mean loose tp 10 100 (call (.ref 49) [.ref e, nv]) (fun R => EntryIn w R e ps dl) (fun tl r => tl = [] ∧ r = .bool (appl fits ps)) := by
  intro e ps dl h5
  rcases h with ⟨t, rfl, rfl⟩ | ⟨t, rfl, rfl⟩ | ⟨t, rfl, rfl⟩ | ⟨rfl, rfl⟩
  · exact applies_1 e t ps dl h5
  · exact applies_2 e t ps dl h5
  · exact applies_3 e t ps dl h5
  · have := applies_none (w := w) (mg := mg) (mb := mb) (mean := mean) (loose := loose) (tp := tp) e ps dl
    rw [star_appl] at this
    exact this
theorem names_led {h₀ h : Heap} {L ln d1 d2 d3 d4 f1 f2 f3 f4 : Addr} {t1 t2 t3 t4 t5 t6 t7 t8 t9 t10 : Tok} {R4 : Led}
    (N : News h₀ L h ((ln, W.listOf #[.ref d1, .ref d2, .ref d3, .ref d4] 0) :: (d4, tupO #[.none, .ref f4] 0) :: (f4, W.listOf #[.str (Str.ofString "*") t10] 0) :: (d3, tupO #[.str (Str.ofString "ig*/fig") t8, .ref f3] 0) :: (f3, W.listOf #[.str (Str.ofString "ig") t9] 0) ::
      (d2, tupO #[.str (Str.ofString "Plumig") t5, .ref f2] 0) :: (f2, W.listOf #[.str (Str.ofString "ig") t6, .str (Str.ofString "plum") t7] 0) :: (d1, tupO #[.str (Str.ofString "xFig/plum") t1, .ref f1] 0) ::
      (f1, W.listOf #[.str (Str.ofString "fig") t2, .str (Str.ofString "Fig") t3, .str (Str.ofString "ig") t4] 0) :: (105, tabObj #[]) :: R4)) (hne4 : ∀ p ∈ R4, @Ne Nat p.1 105) :
    ∃ (R5 : Led) (tvs : List (Addr × Value × Value)), News h₀ L h ((105, tabObj #[]) :: R5) ∧ (∀ p ∈ R5, @Ne Nat p.1 105) ∧ (∀ p ∈ R4, p ∈ R5) ∧ (ln, W.listOf (tvs.map fun t => Value.ref t.1).toArray 0) ∈ R5 ∧
      ∀ tv ∈ tvs, (tv.1, tupO #[tv.2.1, tv.2.2] 0) ∈ R5 ∧ ∃ lf fs, tv.2.2 = .ref lf ∧ (lf, W.listOf (List.map sv fs).toArray 0) ∈ R5 ∧ NameOk tv.2.1 (fs.map (·.1)) := by
  obtain ⟨nw, hnw⟩ : ∃ nw, nw = (ln, W.listOf #[.ref d1, .ref d2, .ref d3, .ref d4] 0) :: (d4, tupO #[.none, .ref f4] 0) :: (f4, W.listOf #[.str (Str.ofString "*") t10] 0) :: (d3, tupO #[.str (Str.ofString "ig*/fig") t8, .ref f3] 0) :: (f3, W.listOf #[.str (Str.ofString "ig") t9] 0) ::
      (d2, tupO #[.str (Str.ofString "Plumig") t5, .ref f2] 0) :: (f2, W.listOf #[.str (Str.ofString "ig") t6, .str (Str.ofString "plum") t7] 0) :: (d1, tupO #[.str (Str.ofString "xFig/plum") t1, .ref f1] 0) ::
      (f1, W.listOf #[.str (Str.ofString "fig") t2, .str (Str.ofString "Fig") t3, .str (Str.ofString "ig") t4] 0) :: (105, tabObj #[]) :: R4 := ⟨_, rfl⟩
  rw [← hnw] at N
  have m0 : (ln, W.listOf #[.ref d1, .ref d2, .ref d3, .ref d4] 0) ∈ nw := hnw ▸ List.mem_cons_self
  obtain ⟨n1, e1⟩ : ∃ n1, nw = (ln, W.listOf #[.ref d1, .ref d2, .ref d3, .ref d4] 0) :: n1 := ⟨_, hnw⟩
  have tl : ∀ {p q : Addr × Obj} {r : Led}, p ∈ r → p ∈ q :: r := fun h => List.mem_cons_of_mem _ h
  have m105 : (105, tabObj #[]) ∈ nw := hnw ▸ tl (tl (tl (tl (tl (tl (tl (tl (tl List.mem_cons_self))))))))
  have k4 : (d4, tupO #[.none, .ref f4] 0) ∈ nw := hnw ▸ tl List.mem_cons_self
  have j4 : (f4, W.listOf (List.map sv [(Str.ofString "*", t10)]).toArray 0) ∈ nw := hnw ▸ tl (tl List.mem_cons_self)
  have k3 : (d3, tupO #[.str (Str.ofString "ig*/fig") t8, .ref f3] 0) ∈ nw := hnw ▸ tl (tl (tl List.mem_cons_self))
  have j3 : (f3, W.listOf (List.map sv [(Str.ofString "ig", t9)]).toArray 0) ∈ nw := hnw ▸ tl (tl (tl (tl List.mem_cons_self)))
  have k2 : (d2, tupO #[.str (Str.ofString "Plumig") t5, .ref f2] 0) ∈ nw := hnw ▸ tl (tl (tl (tl (tl List.mem_cons_self))))
  have j2 : (f2, W.listOf (List.map sv [(Str.ofString "ig", t6), (Str.ofString "plum", t7)]).toArray 0) ∈ nw := hnw ▸ tl (tl (tl (tl (tl (tl List.mem_cons_self)))))
  have k1 : (d1, tupO #[.str (Str.ofString "xFig/plum") t1, .ref f1] 0) ∈ nw := hnw ▸ tl (tl (tl (tl (tl (tl (tl List.mem_cons_self))))))
  have j1 : (f1, W.listOf (List.map sv [(Str.ofString "fig", t2), (Str.ofString "Fig", t3), (Str.ofString "ig", t4)]).toArray 0) ∈ nw := hnw ▸ tl (tl (tl (tl (tl (tl (tl (tl List.mem_cons_self)))))))
  have mR : ∀ p ∈ R4, p ∈ nw := fun p hp => hnw ▸ tl (tl (tl (tl (tl (tl (tl (tl (tl (tl hp)))))))))
  clear hnw e1
  have u := un105 N m105
  have hl : ∀ {a : Addr} {vs : Array Value} {n : Nat}, (a, W.listOf vs n) ∈ nw → (a, W.listOf vs n) ∈ no105 nw := fun hm => drop105 u hm fun ps e => by cases congrArg Obj.data e
  have ht : ∀ {a : Addr} {vs : Array Value} {n : Nat}, (a, tupO vs n) ∈ nw → (a, tupO vs n) ∈ no105 nw := fun hm => drop105 u hm fun ps e => by cases congrArg Obj.data e
  refine ⟨no105 nw, [(d1, .str (Str.ofString "xFig/plum") t1, .ref f1), (d2, .str (Str.ofString "Plumig") t5, .ref f2), (d3, .str (Str.ofString "ig*/fig") t8, .ref f3), (d4, .none, .ref f4)], news_no105 N m105, fun p hp => (mem_no105.mp hp).2, fun p hp => mem_no105.mpr ⟨mR p hp, hne4 p hp⟩, hl m0, fun tv htv => ?_⟩
  rcases List.mem_cons.mp htv with rfl | htv
  · exact ⟨ht k1, f1, _, rfl, hl j1, .inl ⟨t1, rfl, rfl⟩⟩
  rcases List.mem_cons.mp htv with rfl | htv
  · exact ⟨ht k2, f2, _, rfl, hl j2, .inr (.inl ⟨t5, rfl, rfl⟩)⟩
  rcases List.mem_cons.mp htv with rfl | htv
  · exact ⟨ht k3, f3, _, rfl, hl j3, .inr (.inr (.inl ⟨t8, rfl, rfl⟩))⟩
  rcases List.mem_cons.mp htv with rfl | htv
  · exact ⟨ht k4, f4, _, rfl, hl j4, .inr (.inr (.inr ⟨rfl, rfl⟩))⟩
  · exact nomatch htv
def TupsE (recs : List Rec) (R : Led) (i : Nat) (ys : List Value) (nw : Led) : Prop :=
  ∃ ts : List Addr, ys = ts.map Value.ref ∧ ts.length = i ∧ (∀ k, k < i → TupIn nw (ts.getD k 0) (recs.getD k rec0)) ∧ ∀ p ∈ R, p ∈ nw
theorem TupsE.snoc {recs : List Rec} {R : Led} {i : Nat} {ys : List Value} {nw tl : Led} {T : Addr} (h : TupsE recs R i ys nw) (ht : TupIn (tl ++ nw) T (recs.getD i rec0)) : TupsE recs R (i + 1) (ys ++ [.ref T]) (tl ++ nw) := by
  obtain ⟨ts, rfl, q2, q3, q6⟩ := h
  refine ⟨ts ++ [T], by simp, by simp [q2], fun k hk => ?_, fun p hp => List.mem_append_right _ (q6 p hp)⟩
  rcases Nat.lt_or_ge k i with h | h
  · rw [getD_old (by omega)]
    exact (q3 k h).mono fun p hp => List.mem_append_right _ hp
  · rw [getD_new (by omega), show k = i by omega]
    exact ht
theorem post_true (ns : List Int) : PySem.Challenge.rw_ny0092_01.row.claim.post [ofPy (PyData.list (List.map PyData.int ns))] (WData.bool true) [ofPy (PyData.list (List.map PyData.int ns))] = true := by
  wrow_post
end

section
local macro_rules | `(tactic| walk_at "MY mark") => `(tactic| skip)
local macro_rules | `(tactic| walk_at "call ref") => `(tactic| (k_here; refine halt_of ?_))
local macro_rules | `(tactic| walk_at "eval ListComp") => `(tactic| (k_here; refine halt_of ?_))
local macro_rules | `(tactic| walk_at "exec Assign cons ListComp") => `(tactic| (k_here; refine halt_of ?_))
local macro_rules | `(tactic| walk_at "binaryOp Add ref ref") => `(tactic| (k_here; refine halt_of ?_))
local macro_rules | `(tactic| walk_at "compareOp Eq ref ref") => `(tactic| (k_here; refine halt_of ?_))
set_option maxHeartbeats 8000000
theorem law_holds : PySem.Challenge.rw_ny0092_01.Holds := by
  refine hd ?_
  k_go0
  all_goals try k_fold
  rename World => w0
  walk_at "MY steps"
  rename_i Da ws ha hIw hCw hLw la Db cb hb lb lc hc Fc Nc lC
  obtain ⟨ps, rfl, hpl⟩ := ints_form hIw
  have hp5 : ps.length ≤ 5 := by rw [hpl, hCw]; exact Nat.min_le_left _ _
  refine Halt.go (add_lists (vs := ps.map iv) (ws := [_, _, _]) Fc Nc ⟨_, (Nc _ (List.mem_cons_of_mem _ List.mem_cons_self)).1, rfl, _, rfl⟩ ⟨_, (Nc _ List.mem_cons_self).1, rfl, _, rfl⟩ ?_ (by rw [sizeLine_eq, List.length_map]; simp; omega))
  intro hT FT NT
  obtain ⟨nums, hn8, NT⟩ := nums_led hp5 NT
  have l105 : @LT.lt Nat _ 105 hc.objs.size := news_lt Nc (List.mem_cons_of_mem _ (List.mem_cons_of_mem _ (List.mem_cons_of_mem _ List.mem_cons_self)))
  dsimp only at FT NT ⊢
  generalize hc.objs.size = lN at NT l105 ⊢
  replace NT : News _ _ hT [(lN, W.listOf (nums.map iv).toArray 0), (105, tabObj #[])] := fun p hp => NT p (by
    simp only [List.mem_cons, List.not_mem_nil, or_false] at hp ⊢
    rcases hp with h | h <;> simp only [h, true_or, or_true])
  clear Fc Nc lC lb la hIw hCw hLw
  walk_at "MY steps"
  rename_i hV FV NV
  refine Halt.go ?_
  walk_at "MY f"
  k_dflt (refine' LCg.Assign_ListComp_U (F₀ := FV) ?v1 ?v2 ?u1 ?u2 ?u3 ?u4 ?u5 ?v3 ?v4 ?_; (case v1 => rfl); (case v2 => with_unfolding_all rfl); (case u1 => with_unfolding_all rfl); (case u2 => decide); (case u3 => rfl); (case u4 => decide); (case u5 => rfl); (case v3 => rfl); (case v4 => rfl))
  walk_at "MY steps"
  k_dflt (refine' src_listG (RecsIn w0 [(lN, W.listOf (nums.map iv).toArray 0), (105, tabObj #[])]) ?k1 ?k2 ?k3 ?k4 ?k5 ?k6 ?_ ?_; (case k1 => exact rfl); (case k2 => exact FV); (case k3 => exact NV); (case k4 => exact List.mem_cons_self); (case k5 => rw [List.length_map]; omega); (case k6 => exact ⟨[], [], [], rfl, rfl, rfl, fun k hk => absurd hk (Nat.not_lt_zero _), fun r hr => (nomatch hr), fun p hp => (nomatch hp), fun p hp => hp⟩))
  · rintro t v ys nw I3 oI3 C3 oC3 D4 m2 h15 tk15 E' hv hJ hmn hC2 hx2 F15 N15
    walk_at "MY f"
    obtain ⟨n, tn, rfl⟩ := iv_at hv
    clear FV NV hv
    walk_at "MY steps"
    walk_at "MY f"
    k_dflt (refine' Ctr.use (record_ctr n tn) ?k1 ?k2 ?k3 ?k4 ?k5 ?k6 ?k7 ?k8 ?k9 ?_; (case k1 => k_asm); (case k2 => exact F15); (case k3 => k_asm); (case k4 => exact N15); (case k5 => k_asm); (case k6 => first | exact rfl | assumption); (case k7 => trivial); (case k8 => exact Nat.le_of_ble_eq_true rfl); (case k9 => exact Nat.le_of_ble_eq_true rfl); k_whole)
    intro r16 tl16 h16 tk16 F16 N16 hl16 hp16
    refine ex3c4 hp16 ?_
    clear hp16
    intro e ps dl hr16 he hp1 hp2
    subst hr16
    have h105 : (105, tabObj #[]) ∈ nw := by
      obtain ⟨_, _, _, _, _, _, _, _, _, a6⟩ := hJ
      exact a6 _ (by simp)
    walk_at "MY steps"
    exact Halt.go ⟨_, _, tl16, rfl, F16, N16, hl16, hJ.snoc he hp1 hp2 fun p hp => hl16 (105, tabObj #[]) (by simp [h105]) p hp⟩
  intro g1 ys nw hJ D5 h15 tk15 F15 N15 o1
  refine ex3c7 hJ ?_
  clear hJ
  intro rs recs own hys a1 a2 a3 a4 a5 a6
  subst hys
  rw [List.length_map] at a1 a2 a3
  have o1m := off1_mem o1
  have hz : recs.length ≤ 8 := by omega
  have hrs : rs.length = recs.length := by omega
  have hnr : nums.length = recs.length := a2.symm
  have h5 : ∀ k, ∀ p ∈ (recs.getD k rec0).1, p.1 ∈ five := recs_all (P := fun r => ∀ p ∈ r.1, p.1 ∈ five) (fun r hr => (a4 r hr).1) (fun p hp => nomatch hp)
  have h5l : ∀ k, (recs.getD k rec0).1.length ≤ 5 := recs_all (P := fun r => r.1.length ≤ 5) (fun r hr => (a4 r hr).2) (Nat.zero_le _)
  have hb5 : ∀ r ∈ recs, ∀ p ∈ r.1, p.1 ∈ five := fun r hr => (a4 r hr).1
  obtain ⟨R1, hR1⟩ : ∃ R1, R1 = (D5, W.listOf (rs.map Value.ref).toArray (rs.map Value.ref).length) :: (lN, W.listOf (nums.map iv).toArray 0) :: own := ⟨_, rfl⟩
  have hne1 : ∀ p ∈ R1, @Ne Nat p.1 105 := by
    intro p hp
    rw [hR1] at hp
    simp only [List.mem_cons] at hp
    rcases hp with rfl | rfl | hp
    · exact Ne.symm (o1m (105, tabObj #[]) (a6 _ (by simp)))
    · exact Nat.ne_of_gt l105
    · exact Nat.ne_of_gt (a5 p hp).2
  have N1 : News _ _ h15 ((105, tabObj #[]) :: R1) := fun p hp => N15 p (by
    rcases List.mem_cons.mp hp with h | h
    · rw [h]; exact List.mem_cons_of_mem _ (a6 _ (by simp))
    · rw [hR1] at h
      simp only [List.mem_cons] at h
      rcases h with h | h | h
      · rw [h]; exact List.mem_cons_self
      · rw [h]; exact List.mem_cons_of_mem _ (a6 _ (by simp))
      · exact List.mem_cons_of_mem _ (a5 p h).1)
  have r1 : (D5, W.listOf (rs.map Value.ref).toArray (rs.map Value.ref).length) ∈ R1 := by rw [hR1]; simp
  have r2 : (lN, W.listOf (nums.map iv).toArray 0) ∈ R1 := by rw [hR1]; simp
  have r3 : ∀ k, k < recs.length → EntryIn w0 R1 (rs.getD k 0) (recs.getD k rec0).1 (recs.getD k rec0).2 := fun k hk => (a3 k (by omega)).mono fun p hp => by rw [hR1]; simp [hp]
  clear N15 o1 o1m a3 a4 a5 a6 hR1 NV FV
  walk_at "MY steps"
  refine Halt.go ?_
  walk_at "MY f"
  k_dflt (refine' LCg.Assign_ListComp_U (F₀ := F15) ?v1 ?v2 ?u1 ?u2 ?u3 ?u4 ?u5 ?v3 ?v4 ?_; (case v1 => rfl); (case v2 => with_unfolding_all rfl); (case u1 => with_unfolding_all rfl); (case u2 => decide); (case u3 => rfl); (case u4 => decide); (case u5 => rfl); (case v3 => rfl); (case v4 => rfl))
  walk_at "MY steps"
  k_dflt (refine' src_listG (TupsIn recs R1) ?k1 ?k2 ?k3 ?k4 ?k5 ?k6 ?_ ?_; (case k1 => exact rfl); (case k2 => exact F15); (case k3 => exact N1); (case k4 => exact List.mem_cons_of_mem _ r1); (case k5 => rw [List.length_map]; omega); (case k6 => exact ⟨[], [], rfl, rfl, fun k hk => absurd hk (Nat.not_lt_zero _), fun p hp => (nomatch hp), List.mem_cons_self, fun p hp => List.mem_cons_of_mem _ hp⟩))
  · rintro t v ys nw I3 oI3 C3 oC3 D4 m2 h16 tk16 E' hv hJ hmn hC2 hx2 F16 N16
    walk_at "MY f"
    obtain ⟨htl, rfl⟩ := ref_at hv
    have hJ' := hJ
    refine ex2c6 hJ' ?_
    clear hJ'
    intro ts own q1 q2 q3 q4 q5 q6
    refine EntryIn.elim ((r3 t (by omega)).mono q6) ?_
    intro dx1 la1 lr1 t11 t12 t13 t14 nl1 nr1 h11 h12 h13 h14
    have hpl1 := h5l t
    clear hv N1 F15
    cases hdl : (recs.getD t rec0).2 with
    | none =>
      rw [hdl] at h12
      simp only [dval] at h12
      walk_at "MY steps"
      k_dflt (refine' list_copyK ?k1 ?k2 ?k3 ?_ ?z; (case k1 => exact F16); (case k2 => exact N16); (case k3 => exact ⟨_, (N16 _ (List.mem_cons_of_mem _ (List.mem_cons_of_mem _ (List.mem_cons_of_mem _ h13)))).1, rfl, _, rfl⟩); (case z => rw [sizeLine_eq, List.size_toArray, List.length_map]; omega); k_whole)
      intro Dl cl hL FL NL lL
      walk_at "MY steps"
      rename_i T hTt FTt NTt lTt
      refine Halt.go ⟨_, _, [_, _], rfl, FTt, NTt, fun q hq p hp => ?_, hJ.snoc (tl := [_, _]) ⟨Dl, _, cl, by rw [hdl]; exact List.mem_cons_self, by simp⟩ fun p hp => ?_⟩
      · simp only [List.mem_cons, List.not_mem_nil, or_false] at hp
        rcases hp with rfl | rfl
        · exact Nat.lt_trans (lL q hq) lTt.1
        · exact lL q hq
      · simp only [List.mem_cons, List.not_mem_nil, or_false] at hp
        rcases hp with rfl | rfl
        · exact Nat.lt_trans (lL (105, tabObj #[]) (by simp [q5])) lTt.1
        · exact lL (105, tabObj #[]) (by simp [q5])
    | some d =>
      rw [hdl] at h12
      simp only [dval] at h12
      walk_at "MY steps"
      k_dflt (refine' list_copyK ?k1 ?k2 ?k3 ?_ ?z; (case k1 => exact F16); (case k2 => exact N16); (case k3 => exact ⟨_, (N16 _ (List.mem_cons_of_mem _ (List.mem_cons_of_mem _ (List.mem_cons_of_mem _ h13)))).1, rfl, _, rfl⟩); (case z => rw [sizeLine_eq, List.size_toArray, List.length_map]; omega); k_whole)
      intro Dl cl hL FL NL lL
      walk_at "MY steps"
      rename_i T hTt FTt NTt lTt
      refine Halt.go ⟨_, _, [_, _], rfl, FTt, NTt, fun q hq p hp => ?_, hJ.snoc (tl := [_, _]) ⟨Dl, _, cl, by rw [hdl]; exact List.mem_cons_self, by simp⟩ fun p hp => ?_⟩
      · simp only [List.mem_cons, List.not_mem_nil, or_false] at hp
        rcases hp with rfl | rfl
        · exact Nat.lt_trans (lL q hq) lTt.1
        · exact lL q hq
      · simp only [List.mem_cons, List.not_mem_nil, or_false] at hp
        rcases hp with rfl | rfl
        · exact Nat.lt_trans (lL (105, tabObj #[]) (by simp [q5])) lTt.1
        · exact lL (105, tabObj #[]) (by simp [q5])
  intro g2 ys nw hJ D6 h16 tk16 F16 N16 o1
  refine ex2c6 hJ ?_
  clear hJ
  intro os own2 hys q2 q3 q4 q5 q6
  subst hys
  rw [List.length_map] at q2 q3
  have o1m := off1_mem o1
  obtain ⟨R2, hR2⟩ : ∃ R2, R2 = (D6, W.listOf (os.map Value.ref).toArray (os.map Value.ref).length) :: (own2 ++ R1) := ⟨_, rfl⟩
  have hne2 : ∀ p ∈ R2, @Ne Nat p.1 105 := by
    intro p hp
    rw [hR2] at hp
    rcases List.mem_cons.mp hp with rfl | hp
    · exact Ne.symm (o1m (105, tabObj #[]) q5)
    · rcases List.mem_append.mp hp with hp | hp
      · exact Nat.ne_of_gt (q4 p hp).2
      · exact hne1 p hp
  have N2 : News _ _ h16 ((105, tabObj #[]) :: R2) := fun p hp => N16 p (by
    rcases List.mem_cons.mp hp with h | h
    · rw [h]; exact List.mem_cons_of_mem _ q5
    · rw [hR2] at h
      rcases List.mem_cons.mp h with h | h
      · rw [h]; exact List.mem_cons_self
      · rcases List.mem_append.mp h with h | h
        · exact List.mem_cons_of_mem _ (q4 p h).1
        · exact List.mem_cons_of_mem _ (q6 p h))
  have hR12 : ∀ p ∈ R1, p ∈ R2 := fun p hp => by rw [hR2]; simp [hp]
  have s1 : (D6, W.listOf (os.map Value.ref).toArray (os.map Value.ref).length) ∈ R2 := by rw [hR2]; simp
  have s2 : ∀ k, k < recs.length → TupIn R2 (os.getD k 0) (recs.getD k rec0) := fun k hk => (q3 k (by omega)).mono fun p hp => by rw [hR2]; exact List.mem_cons_of_mem _ hp
  have hos : os.length = recs.length := by omega
  clear N16 N1 o1 o1m q3 q4 q5 q6 hR2
  walk_at "MY steps"
  walk_at "MY f"
  k_dflt (refine' Ctr.use (rows_ctr ((105, tabObj #[]) :: R2) D5 lN rs (rs.map Value.ref).length 0 nums recs hrs hnr hz h5l) ?k1 ?k2 ?k3 ?k4 ?k5 ?k6 ?k7 ?k8 ?k9 ?_; (case k1 => k_asm); (case k2 => exact F16); (case k3 => k_asm); (case k4 => exact N2); (case k5 => k_asm); (case k6 => first | exact rfl | assumption); (case k7 => exact ⟨rfl, List.mem_cons_of_mem _ (hR12 _ r1), List.mem_cons_of_mem _ (hR12 _ r2), fun k hk => (r3 k hk).mono fun p hp => List.mem_cons_of_mem _ (hR12 p hp)⟩); (case k8 => exact Nat.le_of_ble_eq_true rfl); (case k9 => exact Nat.le_of_ble_eq_true rfl); k_whole)
  intro r17 tl17 h17 tk17 F17 N17 hl17 hp17
  refine ex3c6 hp17 ?_
  clear hp17
  intro dr odr kr hr17 hdrm hdr hkr hsr hrows
  subst hr17
  have m105 : (105, tabObj #[]) ∈ tl17 ++ (105, tabObj #[]) :: R2 := by simp
  have u105 := un105 N17 m105
  obtain ⟨R3, hR3⟩ : ∃ R3, R3 = no105 (tl17 ++ (105, tabObj #[]) :: R2) := ⟨_, rfl⟩
  have N3 := news_no105 N17 m105
  have hrows3 := hrows.drop u105
  rw [← hR3] at N3 hrows3
  have hne3 : ∀ p ∈ R3, @Ne Nat p.1 105 := fun p hp => by rw [hR3] at hp; exact (mem_no105.mp hp).2
  have hR23 : ∀ p ∈ R2, p ∈ R3 := fun p hp => by rw [hR3]; exact mem_no105.mpr ⟨by simp [hp], hne2 p hp⟩
  have hdr3 : (dr, odr) ∈ R3 := by rw [hR3]; exact mem_no105.mpr ⟨by simp [hdrm], Nat.ne_of_gt (hl17 (105, tabObj #[]) List.mem_cons_self _ hdrm)⟩
  clear N17 hrows m105 u105 hR3 N2 F16 hl17 hdrm
  walk_at "MY steps"
  rename_i hA2 FA2 NA2
  walk_at "MY f"
  k_dflt (refine' Ctr.use (lacks_ctr D5 rs (rs.map Value.ref).length recs hrs hz) ?k1 ?k2 ?k3 ?k4 ?k5 ?k6 ?k7 ?k8 ?k9 ?_; (case k1 => k_asm); (case k2 => exact FA2); (case k3 => k_asm); (case k4 => exact NA2); (case k5 => k_asm); (case k6 => first | exact rfl | assumption); (case k7 => exact ⟨List.mem_cons_of_mem _ (hR23 _ (hR12 _ r1)), fun k hk => (r3 k hk).mono fun p hp => List.mem_cons_of_mem _ (hR23 p (hR12 p hp))⟩); (case k8 => exact Nat.le_of_ble_eq_true rfl); (case k9 => exact Nat.le_of_ble_eq_true rfl); k_whole)
  intro r18 tl18 h18 tk18 F18 N18 hl18 hp18
  refine ex3c5 hp18 ?_
  clear hp18
  intro dl odl kl hr18 hdlm hdl hsl hlacks
  subst hr18
  have m105 : (105, tabObj #[]) ∈ tl18 ++ (105, tabObj #[]) :: R3 := by simp
  obtain ⟨R4, hR4⟩ : ∃ R4, R4 = no105 (tl18 ++ (105, tabObj #[]) :: R3) := ⟨_, rfl⟩
  have N4 := news_no105 N18 m105
  rw [← hR4] at N4
  have hne4 : ∀ p ∈ R4, @Ne Nat p.1 105 := fun p hp => by rw [hR4] at hp; exact (mem_no105.mp hp).2
  have hR34 : ∀ p ∈ R3, p ∈ R4 := fun p hp => by rw [hR4]; exact mem_no105.mpr ⟨by simp [hp], hne3 p hp⟩
  have htl4 : ∀ p ∈ tl18, p ∈ R4 := fun p hp => by rw [hR4]; exact mem_no105.mpr ⟨by simp [hp], Nat.ne_of_gt (hl18 (105, tabObj #[]) List.mem_cons_self p hp)⟩
  have hdl4 := htl4 _ hdlm
  have hdr4 := hR34 _ hdr3
  have hlacks4 := hlacks.mono htl4
  have hrows4 := hrows3.mono hR34
  have r14 := hR34 _ (hR23 _ (hR12 _ r1))
  have r34 : ∀ k, k < recs.length → EntryIn w0 R4 (rs.getD k 0) (recs.getD k rec0).1 (recs.getD k rec0).2 := fun k hk => (r3 k hk).mono fun p hp => hR34 p (hR23 p (hR12 p hp))
  have s14 := hR34 _ (hR23 _ s1)
  have s24 : ∀ k, k < recs.length → TupIn R4 (os.getD k 0) (recs.getD k rec0) := fun k hk => (s2 k hk).mono fun p hp => hR34 p (hR23 p hp)
  clear N18 hlacks m105 hR4 NA2 FA2 hl18 hdlm htl4 hrows3 hdr3 hR34 hne3 hR23 hne2 hR12 hne1 r1 r2 r3 s1 s2
  walk_at "MY steps"
  rename_i _ f1 _ lf1 d1 _ ld1 f2 _ lf2 d2 _ ld2 f3 _ lf3 d3 _ ld3 f4 _ lf4 d4 _ ld4 ln _ lln hN FN NN
  refine ex2c5 (names_led NN hne4) ?_
  intro R5 tvs N5 hne5 hR45 hln htvs
  clear NN hne4 lf1 lf2 lf3 lf4 ld1 ld2 ld3 ld4 lln
  have hdl5 := hR45 _ hdl4
  have hdr5 := hR45 _ hdr4
  have hlacks5 := hlacks4.mono hR45
  have hrows5 := hrows4.mono hR45
  have r15 := hR45 _ r14
  have r35 : ∀ k, k < recs.length → EntryIn w0 R5 (rs.getD k 0) (recs.getD k rec0).1 (recs.getD k rec0).2 := fun k hk => (r34 k hk).mono hR45
  have s15 := hR45 _ s14
  have s25 : ∀ k, k < recs.length → TupIn R5 (os.getD k 0) (recs.getD k rec0) := fun k hk => (s24 k hk).mono hR45
  clear hdl4 hdr4 hlacks4 hrows4 r14 r34 s14 s24 hR45
  k_dflt (refine For_myT ?_)
  walk_at "MY steps"
  k_dflt (refine' loop_tups (tvs := tvs) (nl := 0) (fun _ m nw => m (Str.ofString "records") = some (.ref D5) ∧ m (Str.ofString "lacks") = some (.ref dl) ∧ m (Str.ofString "rows") = some (.ref dr) ∧ m (Str.ofString "olds") = some (.ref D6) ∧
      ∃ ps fz f0, nw = (105, tabObj ps) :: fz ∧ TabOk lamPos lamQual ps f0 ∧ (∀ p ∈ f0, p ∈ fz) ∧ (∀ p ∈ fz, @Ne Nat p.1 105) ∧ ∀ q ∈ R5, q ∈ fz)
            ?k1 ?k2 ?k3 ?k4 ?k5 ?k6 ?k7 ?k8 ?k9 ?_ ?_; (case k1 => exact rfl); (case k2 => rfl); (case k3 => rfl); (case k4 => rfl); (case k5 => exact FN); (case k6 => exact N5); (case k7 => exact List.mem_cons_of_mem _ hln); (case k8 => exact fun t ht => ⟨0, List.mem_cons_of_mem _ (htvs t ht).1⟩); (case k9 => exact ⟨rfl, rfl, rfl, rfl, #[], R5, [], rfl, .inl rfl, fun p hp => (nomatch hp), hne5, fun q hq => hq⟩))
  · intro t tv m₁ nw₁ own I h19 tk19 htv hJ hI ho hoI F19 N19
    walk_at "MY f"
    refine cj5 hJ ?_
    clear hJ
    intro em1 em2 em3 em4 hJ
    refine ex3c5 hJ ?_
    clear hJ
    intro ps fz f0 hnw htab hf0 hfz hsub
    subst hnw
    refine hoI.elim ?_
    clear hoI
    intro oI hoI
    walk_at "MY f"
    refine cj2 (htvs tv (List.mem_of_getElem? htv)) ?_
    intro htm hlfs
    refine ex2c3 hlfs ?_
    clear hlfs
    intro lf fs ef hlf hok
    rw [ef] at F19
    generalize tv.2.1 = nv at F19 hok
    replace F19 := fr_knowns [(Str.ofString "name", nv), (Str.ofString "fits", .ref lf), (Str.ofString "records", .ref D5), (Str.ofString "lacks", .ref dl), (Str.ofString "rows", .ref dr), (Str.ofString "olds", .ref D6)] F19 (by simp only [List.forall_mem_cons, List.not_mem_nil, false_implies, implies_true, and_true]; exact ⟨rfl, rfl, em1, em2, em3, em4⟩)
    simp only [List.cons_append] at N19
    obtain ⟨fo, hfo⟩ : ∃ fo, fo = fz ++ own := ⟨_, rfl⟩
    rw [← hfo] at N19
    have hfR : ∀ p ∈ R5, p ∈ fo := fun p hp => by rw [hfo]; exact List.mem_append_left _ (hsub p hp)
    have hfo105 : ∀ p ∈ fo, p.1 ≠ 105 := by
      intro p hp
      rw [hfo] at hp
      rcases List.mem_append.mp hp with h | h
      · exact hfz p h
      · rcases ho p h with e | e | ⟨t', ht', e⟩
        · exact fun q => hI (105, tabObj ps) List.mem_cons_self (q.symm.trans e)
        · rw [e]; exact hne5 _ hln
        · rw [e]; exact hne5 _ (htvs t' ht').1
    clear FN N5
    walk_at "MY steps"
    have hf5 : ∀ p ∈ fs, p.1 ∈ five := fun p hp => hok.five _ (List.mem_map_of_mem hp)
    have hfl := hok.len
    rw [List.length_map] at hfl
    show wpAny _ _ _ _ _ _
    k_dflt (refine' KCtr.use (R₀ := f0) (known_ctr nv lf dl dr fs 0 odl odr kl kr recs hz h5 hf5 hfl.1 hfl.2 hkr hsr hdr hdl hok.hap) ?k1 ?k2 ?k3 ?k4 ?k5 ?k6 ?k7 ?k8 ?k9 ?kA ?kB ?kC ?kD ?_; (case k1 => k_asm); (case k2 => exact F19); (case k3 => k_asm); (case k4 => exact N19); (case k5 => k_asm); (case k6 => first | exact rfl | assumption); (case k7 => exact codeHd); (case k8 => exact htab); (case k9 => exact fun p hp => by rw [hfo]; exact List.mem_append_left _ (hf0 p hp)); (case kA => exact hfo105); (case kB => exact ⟨hfR _ hlf, hfR _ hdl5, hfR _ hdr5, hrows5.mono hfR, hlacks5.mono hfR⟩); (case kC => exact Nat.le_of_ble_eq_true rfl); (case kD => exact Nat.le_of_ble_eq_true rfl); k_whole)
    intro ps' tl h20 tk20 F20 N20 hne20 hlt20 htab20
    clear F19 N19
    walk_at "MY steps"
    refine TurnEnd.next ((105, tabObj ps') :: (tl ++ fz)) F20 N20 (fun p hp => ?_) (fun p hp => ?_) ⟨rfl, rfl, rfl, rfl, ps', tl ++ fz, tl ++ f0, rfl, htab20, fun p hp => ?_, fun p hp => ?_, fun q hq => List.mem_append_right _ (hsub q hq)⟩
    · rw [hfo]
      simp only [List.cons_append, List.append_assoc] at hp ⊢
      exact hp
    · rw [List.mem_singleton]
      rcases List.mem_cons.mp hp with rfl | hp
      · exact hI (105, tabObj ps) List.mem_cons_self
      · rcases List.mem_append.mp hp with hp | hp
        · exact Nat.ne_of_gt (hlt20 (I, oI) (by rw [hfo]; exact List.mem_append_right _ hoI) p hp)
        · exact hI p (List.mem_cons_of_mem _ hp)
    · rcases List.mem_append.mp hp with hp | hp
      · exact List.mem_append_left _ hp
      · exact List.mem_append_right _ (hf0 p hp)
    · rcases List.mem_append.mp hp with hp | hp
      · exact hne20 p hp
      · exact hfz p hp
  · intro m₁ nw₁ h19 tk19 hJ F19 N19
    refine cj5 hJ ?_
    clear hJ
    intro em1 em2 em3 em4 hJ
    refine ex3c5 hJ ?_
    clear hJ
    intro ps fz f0 hnw htab hf0 hfz hsub
    subst hnw
    replace F19 := fr_knowns [(Str.ofString "records", .ref D5), (Str.ofString "lacks", .ref dl), (Str.ofString "rows", .ref dr), (Str.ofString "olds", .ref D6)] F19 (by simp only [List.forall_mem_cons, List.not_mem_nil, false_implies, implies_true, and_true]; exact ⟨em1, em2, em3, em4⟩)
    clear FN N5
    dsimp only
    walk_at "MY steps"
    walk_at "MY f"
    k_dflt (refine' Ctr.use (told_ctr D5 dl dr rs (rs.map Value.ref).length odl odr kl kr recs hz hrs h5 h5l hdr hdl) ?k1 ?k2 ?k3 ?k4 ?k5 ?k6 ?k7 ?k8 ?k9 ?_; (case k1 => k_asm); (case k2 => exact F19); (case k3 => k_asm); (case k4 => exact N19); (case k5 => k_asm); (case k6 => first | exact rfl | assumption); (case k7 => exact ⟨List.mem_cons_of_mem _ (hsub _ r15), List.mem_cons_of_mem _ (hsub _ hdl5), List.mem_cons_of_mem _ (hsub _ hdr5), fun k hk => (r35 k hk).mono fun p hp => List.mem_cons_of_mem _ (hsub p hp), hrows5.mono fun p hp => List.mem_cons_of_mem _ (hsub p hp), hlacks5.mono fun p hp => List.mem_cons_of_mem _ (hsub p hp)⟩); (case k8 => exact Nat.le_of_ble_eq_true rfl); (case k9 => exact Nat.le_of_ble_eq_true rfl); k_whole)
    intro r20 tl20 h20 tk20 F20 N20 hl20 hp20
    obtain ⟨rfl, rfl⟩ := hp20
    replace N20 := News.nilA N20
    clear F19 N19
    walk_at "MY steps"
    refine Halt.go ?_
    walk_at "MY f"
    k_dflt (refine' LCg.ListComp_U (F₀ := F20) ?u1 ?u2 ?u3 ?u4 ?u5 ?_; (case u1 => with_unfolding_all rfl); (case u2 => decide); (case u3 => rfl); (case u4 => decide); (case u5 => rfl))
    walk_at "MY steps"
    k_dflt (refine' src_listG (TupsE recs ((105, tabObj ps) :: fz)) ?k1 ?k2 ?k3 ?k4 ?k5 ?k6 ?_ ?_; (case k1 => exact rfl); (case k2 => exact F20); (case k3 => exact N20); (case k4 => exact List.mem_cons_of_mem _ (hsub _ r15)); (case k5 => rw [List.length_map]; omega); (case k6 => exact ⟨[], rfl, rfl, fun k hk => absurd hk (Nat.not_lt_zero _), fun p hp => hp⟩))
    · rintro t v ys nw I3 oI3 C3 oC3 D7 m2 h21 tk21 E' hv hJ hmn hC2 hx2 F21 N21
      walk_at "MY f"
      obtain ⟨htl, rfl⟩ := ref_at hv
      have hJ' := hJ
      refine ex1c4 hJ' ?_
      clear hJ'
      intro ts q1 q2 q3 q6
      refine EntryIn.elim ((r35 t (by omega)).mono fun p hp => q6 p (List.mem_cons_of_mem _ (hsub p hp))) ?_
      intro dx1 la1 lr1 t11 t12 t13 t14 nl1 nr1 h11 h12 h13 h14
      clear hv F20 N20
      cases hdv : (recs.getD t rec0).2 with
      | none =>
        rw [hdv] at h12
        simp only [dval] at h12
        walk_at "MY steps"
        rename_i T hTt FTt NTt lTt
        refine Halt.go ⟨_, _, [_], rfl, FTt, NTt, fun q hq p hp => ?_, hJ.snoc (tl := [_]) ⟨la1, _, nl1, by rw [hdv]; exact List.mem_cons_self, List.mem_append_right _ h13⟩⟩
        rw [List.mem_singleton.mp hp]
        simp only [List.mem_cons] at hq
        rcases hq with rfl | rfl | rfl | hq
        · exact lTt.1
        · exact lTt.2.1
        · exact lTt.2.2.1
        · exact ktn_ltOf lTt.2.2.2 q hq
      | some d =>
        rw [hdv] at h12
        simp only [dval] at h12
        walk_at "MY steps"
        rename_i T hTt FTt NTt lTt
        refine Halt.go ⟨_, _, [_], rfl, FTt, NTt, fun q hq p hp => ?_, hJ.snoc (tl := [_]) ⟨la1, _, nl1, by rw [hdv]; exact List.mem_cons_self, List.mem_append_right _ h13⟩⟩
        rw [List.mem_singleton.mp hp]
        simp only [List.mem_cons] at hq
        rcases hq with rfl | rfl | rfl | hq
        · exact lTt.1
        · exact lTt.2.1
        · exact lTt.2.2.1
        · exact ktn_ltOf lTt.2.2.2 q hq
    · intro g3 ys nw hJ D8 h21 tk21 F21 N21 o1
      refine ex1c4 hJ ?_
      clear hJ
      intro ts hys q2 q3 q6
      subst hys
      rw [List.length_map] at q2 q3
      clear F20 N20
      walk_at "MY steps"
      refine eq_tups (recs := recs) N21 List.mem_cons_self (List.mem_cons_of_mem _ (q6 _ (List.mem_cons_of_mem _ (hsub _ s15)))) (by omega) hos (fun k hk => (q3 k (by omega)).mono fun p hp => List.mem_cons_of_mem _ hp) (fun k hk => (s25 k hk).mono fun p hp => List.mem_cons_of_mem _ (q6 p (List.mem_cons_of_mem _ (hsub p hp)))) hb5 (Nat.le_of_ble_eq_true rfl) ?_
      have g105 : (105, tabObj ps) ∈ nw := q6 _ List.mem_cons_self
      walk_at "MY steps"
      show GoodW _ _ _ _ _ (.ok (.ret (.bool _))) _
      refine goodW_bool (by assumption) (by assumption) (raisesW_false ?_) ?_
      · wrow_none_raised
      · exact post_true _
end

end Mine
end

theorem PySem.Challenge.cw_ny0092_01_holds : PySem.Challenge.rw_ny0092_01.Holds :=
  Mine.law_holds
