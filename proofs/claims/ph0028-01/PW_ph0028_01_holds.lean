import PyProof.Rows.All
import Wide.All
import OpenK.AllK
import Wide.FinOn
import Lean
import PySem.Challenge.RW_ph0028_01
set_option Elab.async false
set_option compiler.extract_closed false

-- ======== Head ========
section
open PySem PySem.W PyProof.Rows
namespace Mine
set_option maxRecDepth 100000 in
set_option maxHeartbeats 8000000 in
open_top hd for PySem.Challenge.rw_ph0028_01
end Mine

end

-- ======== Base1 ========
section
open PySem PySem.W PyProof.Rows
set_option maxRecDepth 100000
namespace Mine

/-- every object stays -/
abbrev Kp (h h' : Heap) : Prop := ∀ b o, h.get? b = some o → h'.get? b = some o

theorem keeps_refl {s : Shared} : Keeps s s := ⟨s.heap, s.toks, rfl, fun _ _ e => e⟩
theorem keeps_mk {s : Shared} {h : Heap} {tk : Nat} (k : Kp s.heap h) : Keeps s { s with heap := h, toks := tk } := ⟨h, tk, rfl, k⟩
theorem keeps_heap {s s' : Shared} (k : Keeps s s') : Kp s.heap s'.heap := by
  obtain ⟨h', tk, rfl, k⟩ := k; exact k
theorem keeps_trans {s s' s'' : Shared} (a : Keeps s s') (b : Keeps s' s'') : Keeps s s'' := by
  obtain ⟨h', tk, rfl, k⟩ := a
  obtain ⟨h'', tk', rfl, k'⟩ := b
  exact ⟨h'', tk', rfl, fun b o e => k' b o (k b o e)⟩
theorem keeps_tok {s : Shared} {k : Nat} : Keeps s { s with toks := k } := ⟨s.heap, k, rfl, fun _ _ e => e⟩
theorem kp_push {h : Heap} {o : Obj} : Kp h (h.push o) := fun _ _ e => Heap.get?_push_of_some _ e
theorem keeps_push {s : Shared} {o : Obj} : Keeps s { s with heap := s.heap.push o } := ⟨_, s.toks, rfl, kp_push⟩

/-- a tree that ends, changes nothing that stood, and gives what P says -/
def Ev {α : Type} (M : Model) (A : Around) (t : Sem α) (P : α → Heap → Prop) (s : Shared) : Prop :=
  ∀ E : Value → Shared → Prop, wpAny M A t (fun v s' => Keeps s s' ∧ P v s'.heap) E s

section
variable {α β : Type} {M : Model} {A : Around} {s : Shared} {t : Sem α} {P : α → Heap → Prop}

theorem Ev.use (h : Ev M A t P s) {Q : α → Shared → Prop} {E : Value → Shared → Prop}
    (hQ : ∀ v h' tk, Kp s.heap h' → P v h' → Q v { s with heap := h', toks := tk }) : wpAny M A t Q E s :=
  wpAny_mono (h E) (fun v s' ⟨k, p⟩ => by obtain ⟨h', tk, rfl, k⟩ := k; exact hQ v h' tk k p) fun _ _ e => e
theorem Ev.use' (h : Ev M A t P s) {Q : α → Shared → Prop} {E : Value → Shared → Prop}
    (hQ : ∀ v s', Keeps s s' → P v s'.heap → Q v s') : wpAny M A t Q E s :=
  wpAny_mono (h E) (fun v s' ⟨k, p⟩ => hQ v s' k p) fun _ _ e => e
theorem Ev.mono {P' : α → Heap → Prop} (h : Ev M A t P s) (hp : ∀ a h', Kp s.heap h' → P a h' → P' a h') : Ev M A t P' s :=
  fun E => wpAny_mono (h E) (fun _ _ ⟨k, p⟩ => ⟨k, hp _ _ (keeps_heap k) p⟩) fun _ _ e => e
end

/-- what a name reads as -/
def Rd (env : Env) (h : Heap) (x : Str) (v : Value) : Prop :=
  (env.kindOf x = some .local ∧ ∃ m, h.Ns env.locals m ∧ m x = some v) ∨
  ((env.kindOf x = some .cell ∨ (env.kindOf x = some .free ∧ (x == ("__classdict__" : Str)) = false)) ∧ ∃ c, env.cells.lookup x = some c ∧ h.IsCell c (some v))

theorem Rd.keeps {env : Env} {h h' : Heap} {x : Str} {v : Value} (r : Rd env h x v) (k : Kp h h') : Rd env h' x v := by
  rcases r with ⟨a, m, hn, e⟩ | ⟨a, c, e, hc⟩
  · exact .inl ⟨a, m, hn.keeps k, e⟩
  · exact .inr ⟨a, c, e, hc.keeps k⟩

section
variable {M : Model} {A : Around} {E : Value → Shared → Prop} {s : Shared} {env : Env}

theorem name_rd {x : Str} {pos : Pos} {v : Value} {Q : Value → Shared → Prop} (hk : env.scope.kind = .function) (r : Rd env s.heap x v) (h : Q v s)
    (hd : (x == ("__debug__" : Str)) = false := by decide) : wpAny M A (eval (.Name x pos) env) Q E s := by
  rcases r with ⟨a, m, hn, e⟩ | ⟨a | ⟨a, hc'⟩, c, e, hc⟩
  · exact wpAny_Name (wpAny_loadName_local hk a hn e h) hd
  · exact wpAny_Name (wpAny_loadName_cell hk a e hc h) hd
  · exact wpAny_Name (wpAny_loadName_free hk a e hc h hc') hd
theorem Ev.name {x : Str} {pos : Pos} {v : Value} (hk : env.scope.kind = .function) (r : Rd env s.heap x v)
    (hd : (x == ("__debug__" : Str)) = false := by decide) : Ev M A (eval (.Name x pos) env) (fun u _ => u = v) s :=
  fun _ => name_rd hk r ⟨keeps_refl, rfl⟩ hd
end

/-- values by what they are -/
abbrev VP := Value → Heap → Prop
def IsS (x : Str) : VP := fun v _ => ∃ t, v = .str x t
def IsI (n : Int) : VP := fun v _ => ∃ t, v = .int n t
def IsB (b : Bool) : VP := fun v _ => v = .bool b
def IsV (u : Value) : VP := fun v _ => v = u
def Stb {α : Type} (P : α → Heap → Prop) : Prop := ∀ a h h', Kp h h' → P a h → P a h'

inductive All2 {α β : Type} (F : α → β → Prop) : List α → List β → Prop
  | nil : All2 F [] []
  | cons {a b l₁ l₂} : F a b → All2 F l₁ l₂ → All2 F (a :: l₁) (b :: l₂)
theorem All2.mono {α β : Type} {F G : α → β → Prop} {l₁ : List α} {l₂ : List β} (h : All2 F l₁ l₂) (k : ∀ a b, F a b → G a b) : All2 G l₁ l₂ := by
  induction h with
  | nil => exact .nil
  | cons a _ ih => exact .cons (k _ _ a) ih
theorem All2.length {α β : Type} {F : α → β → Prop} {l₁ : List α} {l₂ : List β} (h : All2 F l₁ l₂) : l₁.length = l₂.length := by
  induction h with
  | nil => rfl
  | cons a _ ih => simp [ih]
theorem All2.append {α β : Type} {F : α → β → Prop} {l₁ k₁ : List α} {l₂ k₂ : List β} (h : All2 F l₁ l₂) (k : All2 F k₁ k₂) : All2 F (l₁ ++ k₁) (l₂ ++ k₂) := by
  induction h with
  | nil => exact k
  | cons a _ ih => exact .cons a ih
theorem All2.snoc {α β : Type} {F : α → β → Prop} {l₁ : List α} {l₂ : List β} {a : α} {b : β} (h : All2 F l₁ l₂) (k : F a b) : All2 F (l₁ ++ [a]) (l₂ ++ [b]) := h.append (.cons k .nil)
theorem All2.get {α β : Type} {F : α → β → Prop} {l₁ : List α} {l₂ : List β} (h : All2 F l₁ l₂) : ∀ {i : Nat} {a : α}, l₁[i]? = some a → ∃ b, l₂[i]? = some b ∧ F a b := by
  induction h with
  | nil => intro i a e; simp at e
  | cons h _ ih =>
    intro i a e
    cases i with
    | zero => simp at e; subst e; exact ⟨_, rfl, h⟩
    | succ i => simpa using ih (by simpa using e)
theorem All2.get' {α β : Type} {F : α → β → Prop} {l₁ : List α} {l₂ : List β} (h : All2 F l₁ l₂) : ∀ {i : Nat} {b : β}, l₂[i]? = some b → ∃ a, l₁[i]? = some a ∧ F a b := by
  induction h with
  | nil => intro i a e; simp at e
  | cons h _ ih =>
    intro i a e
    cases i with
    | zero => simp at e; subst e; exact ⟨_, rfl, h⟩
    | succ i => simpa using ih (by simpa using e)
theorem All2.map_left {α β γ : Type} {F : β → γ → Prop} {f : α → β} {l₁ : List α} {l₂ : List γ} (h : All2 (fun a => F (f a)) l₁ l₂) : All2 F (l₁.map f) l₂ := by
  induction h with
  | nil => exact .nil
  | cons a _ ih => exact .cons a ih
theorem All2.of_map_left {α β γ : Type} {F : β → γ → Prop} {f : α → β} : ∀ {l₁ : List α} {l₂ : List γ}, All2 F (l₁.map f) l₂ → All2 (fun a => F (f a)) l₁ l₂
  | [], _, h => by cases h; exact .nil
  | _ :: _, _, h => by cases h with | cons a r => exact .cons a r.of_map_left
theorem All2.drop {α β : Type} {F : α → β → Prop} {l₁ : List α} {l₂ : List β} (h : All2 F l₁ l₂) : ∀ n, All2 F (l₁.drop n) (l₂.drop n) := by
  induction h with
  | nil => intro n; simp; exact .nil
  | cons a r ih => intro n; cases n with
    | zero => exact .cons a r
    | succ n => exact ih n
theorem All2.take {α β : Type} {F : α → β → Prop} {l₁ : List α} {l₂ : List β} (h : All2 F l₁ l₂) : ∀ n, All2 F (l₁.take n) (l₂.take n) := by
  induction h with
  | nil => intro n; simp; exact .nil
  | cons a r ih => intro n; cases n with
    | zero => exact .nil
    | succ n => exact .cons a (ih n)

/-- a plain list object -/
abbrev lobj (vs : List Value) (n : Nat) : Obj := { cls := .type "list", data := .seq vs.toArray n }
abbrev tobj (vs : List Value) (n : Nat) : Obj := { cls := .type "tuple", data := .seq vs.toArray n }
/-- a list whose items are, in turn, what P says of xs -/
def IsL {α : Type} (P : α → VP) (xs : List α) : VP := fun v h => ∃ a vs n, v = .ref a ∧ h.get? a = some (lobj vs n) ∧ All2 (fun x v => P x v h) xs vs
def IsT {α : Type} (P : α → VP) (xs : List α) : VP := fun v h => ∃ a vs n, v = .ref a ∧ h.get? a = some (tobj vs n) ∧ All2 (fun x v => P x v h) xs vs
theorem stb_S {x : Str} : Stb (IsS x) := fun _ _ _ _ h => h
theorem stb_I {x : Int} : Stb (IsI x) := fun _ _ _ _ h => h
theorem stb_L {α : Type} {P : α → VP} {xs : List α} (hP : ∀ x, Stb (P x)) : Stb (IsL P xs) := fun _ _ _ k ⟨a, vs, n, e, ho, r⟩ => ⟨a, vs, n, e, k _ _ ho, r.mono fun _ _ p => hP _ _ _ _ k p⟩
theorem stb_T {α : Type} {P : α → VP} {xs : List α} (hP : ∀ x, Stb (P x)) : Stb (IsT P xs) := fun _ _ _ k ⟨a, vs, n, e, ho, r⟩ => ⟨a, vs, n, e, k _ _ ho, r.mono fun _ _ p => hP _ _ _ _ k p⟩

end Mine

end

-- ======== Base2 ========
section
open PySem PySem.W PyProof.Rows
set_option maxRecDepth 100000
namespace Mine

def upd (ρ : Str → Option Value) (x : Str) (v : Value) : Str → Option Value := fun y => if y = x then some v else ρ y
def updAll (ρ : Str → Option Value) : List (Str × Value) → Str → Option Value
  | [] => ρ
  | (x, v) :: r => updAll (upd ρ x v) r

/-- a frame: its names read as ρ says; all of hb stands -/
structure Fm (hb : Heap) (env : Env) (fc : List Addr) (ρ : Str → Option Value) (h : Heap) : Prop where
  kind : env.scope.kind = .function
  apart : env.cells.Pairwise fun x y => x.2 ≠ y.2
  ns : ∃ m, h.Ns env.locals m
  keep : Kp hb h
  vars : ∀ x v, ρ x = some v → Rd env h x v
  cells : ∀ c ∈ fc, ∃ v, h.IsCell c v
  freshL : hb.get? env.locals = none
  freshC : ∀ c ∈ fc, hb.get? c = none

/-- the frame's own objects apart, every object stays -/
def KpF (env : Env) (fc : List Addr) (h h' : Heap) : Prop := ∀ b o, b ≠ env.locals → b ∉ fc → h.get? b = some o → h'.get? b = some o
/-- lists and tuples stay -/
def Sq (h h' : Heap) : Prop := ∀ b o xs n, o.data = .seq xs n → h.get? b = some o → h'.get? b = some o
theorem Kp.sq {h h' : Heap} (k : Kp h h') : Sq h h' := fun b o _ _ _ e => k b o e
theorem Sq.trans {h h' h'' : Heap} (a : Sq h h') (b : Sq h' h'') : Sq h h'' := fun c o xs n d e => b c o xs n d (a c o xs n d e)
def StbQ {α : Type} (P : α → Heap → Prop) : Prop := ∀ a h h', Sq h h' → P a h → P a h'
theorem stq_S {x : Str} : StbQ (IsS x) := fun _ _ _ _ h => h
theorem stq_I {x : Int} : StbQ (IsI x) := fun _ _ _ _ h => h
theorem stq_L {α : Type} {P : α → VP} {xs : List α} (hP : ∀ x, StbQ (P x)) : StbQ (IsL P xs) := fun _ _ _ k ⟨a, vs, n, e, ho, r⟩ => ⟨a, vs, n, e, k _ _ _ _ rfl ho, r.mono fun _ _ p => hP _ _ _ _ k p⟩
theorem stq_T {α : Type} {P : α → VP} {xs : List α} (hP : ∀ x, StbQ (P x)) : StbQ (IsT P xs) := fun _ _ _ k ⟨a, vs, n, e, ho, r⟩ => ⟨a, vs, n, e, k _ _ _ _ rfl ho, r.mono fun _ _ p => hP _ _ _ _ k p⟩
theorem StbQ.stb {α : Type} {P : α → Heap → Prop} (h : StbQ P) : Stb P := fun a h₁ h₂ k p => h a h₁ h₂ k.sq p

section
variable {hb : Heap} {env : Env} {fc : List Addr} {ρ : Str → Option Value} {h h' : Heap}
theorem Fm.kept (F : Fm hb env fc ρ h) (k : Kp h h') : Fm hb env fc ρ h' :=
  ⟨F.kind, F.apart, let ⟨m, e⟩ := F.ns; ⟨m, e.keeps k⟩, fun b o e => k b o (F.keep b o e), fun x v e => (F.vars x v e).keeps k, fun c hc => let ⟨v, e⟩ := F.cells c hc; ⟨v, e.keeps k⟩, F.freshL, F.freshC⟩
theorem Fm.sq (F : Fm hb env fc ρ h) (k : KpF env fc h h') : Sq h h' := fun b o xs n d e => by
  refine k b o (fun q => ?_) (fun q => ?_) e
  · obtain ⟨m, o', es, ep, e', d', _⟩ := F.ns
    rw [q, e'] at e; cases e; rw [d'] at d; cases d
  · obtain ⟨v, o', e', d'⟩ := F.cells b q
    rw [e'] at e; cases e; rw [d'] at d; cases d
theorem Fm.base (F : Fm hb env fc ρ h) (k : KpF env fc h h') : Kp hb h' := fun b o e =>
  k b o (fun q => by rw [q, F.freshL] at e; cases e) (fun q => by rw [F.freshC b q] at e; cases e) (F.keep b o e)
theorem Fm.rd (F : Fm hb env fc ρ h) {x : Str} {v : Value} (e : ρ x = some v) : Rd env h x v := F.vars x v e
/-- may be stored -/
def Own (env : Env) (fc : List Addr) (x : Str) : Prop := env.kindOf x = some .local ∨ (env.kindOf x = some .cell ∧ ∃ c, env.cells.lookup x = some c ∧ c ∈ fc)
theorem lookup_inj {cs : List (Str × Addr)} (ap : cs.Pairwise fun x y => x.2 ≠ y.2) {x y : Str} {c : Addr} (a : cs.lookup x = some c) (b : cs.lookup y = some c) : x = y :=
  name_of_addr ap (PySem.mem_of_lookup a) (PySem.mem_of_lookup b)
end

section
variable {M : Model} {A : Around} {E : Value → Shared → Prop} {s : Shared} {hb : Heap} {env : Env} {fc : List Addr} {ρ : Str → Option Value}
theorem Fm.store {x : Str} {v : Value} {Q : Unit → Shared → Prop} (F : Fm hb env fc ρ s.heap) (ho : Own env fc x)
    (hQ : ∀ h' tk, Fm hb env fc (upd ρ x v) h' → KpF env fc s.heap h' → Q () { s with heap := h', toks := tk }) : wpAny M A (storeName env x v) Q E s := by
  rcases ho with hl | ⟨hl, c, hc, hm⟩
  · obtain ⟨m, hn⟩ := F.ns
    refine wpAny_storeName_local hl hn (fun h' hn' hs' => ?_) (by rw [F.kind]; rfl)
    have kf : KpF env fc s.heap h' := fun b o hb _ e => hs'.extBut b o hb e
    have nc : ∀ c v, s.heap.IsCell c v → c ≠ env.locals := fun c v ⟨o, e, d⟩ q => by
      obtain ⟨o', es, ep, e', d', _⟩ := hn
      rw [q, e'] at e; cases e; rw [d'] at d; cases d
    refine hQ h' _ ⟨F.kind, F.apart, ⟨_, hn'⟩, F.base kf, fun y u e => ?_, fun c hc => ?_, F.freshL, F.freshC⟩ kf
    · unfold upd at e
      split at e
      · rename_i q; cases e; subst q; exact .inl ⟨hl, _, hn', by simp⟩
      · rename_i q
        rcases F.vars y u e with ⟨a, m', hn₂, em⟩ | ⟨a, c, ec, hcl⟩
        · refine .inl ⟨a, _, hn', ?_⟩
          simp only [q, if_false]
          obtain ⟨o₁, es₁, ep₁, e₁, d₁, _, f₁⟩ := hn
          obtain ⟨o₂, es₂, ep₂, e₂, d₂, _, f₂⟩ := hn₂
          rw [e₁] at e₂; cases e₂; rw [d₁] at d₂; cases d₂
          rw [← f₁ y, f₂ y]; exact em
        · exact .inr ⟨a, c, ec, hcl.sameBut hs' (nc c _ hcl)⟩
    · obtain ⟨v, hv⟩ := F.cells c hc
      exact ⟨v, hv.sameBut hs' (nc c _ hv)⟩
  · obtain ⟨v₀, hv⟩ := F.cells c hm
    refine wpAny_storeName_cell F.kind hl hc hv fun h' hc' hs' => ?_
    have kf : KpF env fc s.heap h' := fun b o _ hb e => hs'.extBut b o (fun q => hb (q ▸ hm)) e
    have nl : env.locals ≠ c := fun q => by
      obtain ⟨m, o', es, ep, e', d', _⟩ := F.ns
      obtain ⟨o, e, d⟩ := hv
      rw [← q, e'] at e; cases e; rw [d'] at d; cases d
    refine hQ h' s.toks ⟨F.kind, F.apart, ?_, F.base kf, fun y u e => ?_, fun c' hc₂ => ?_, F.freshL, F.freshC⟩ kf
    · obtain ⟨m, hn⟩ := F.ns; exact ⟨m, hn.sameBut hs' nl⟩
    · unfold upd at e
      split at e
      · rename_i q; cases e; subst q; exact .inr ⟨.inl hl, c, hc, hc'⟩
      · rename_i q
        rcases F.vars y u e with ⟨a, m', hn₂, em⟩ | ⟨a, c', ec, hcl⟩
        · exact .inl ⟨a, m', hn₂.sameBut hs' nl, em⟩
        · exact .inr ⟨a, c', ec, hcl.sameBut hs' fun qc => q (lookup_inj F.apart (qc ▸ ec) hc)⟩
    · by_cases qc : c' = c
      · exact ⟨some v, qc ▸ hc'⟩
      · obtain ⟨v', hv'⟩ := F.cells c' hc₂
        exact ⟨v', hv'.sameBut hs' qc⟩

theorem cellsFrom_append : ∀ (names : List (Str × NameKind)) (n : Nat) (acc : List (Str × Addr)), cellsFrom n names acc = cellsFrom n names [] ++ acc
  | [], n, acc => rfl
  | (x, k) :: r, n, acc => by
    unfold cellsFrom
    split
    · rw [cellsFrom_append r (n + 1) ((x, n) :: acc), cellsFrom_append r (n + 1) [(x, n)], List.append_assoc]; rfl
    · exact cellsFrom_append r n acc
theorem pushCells_cell : ∀ (names : List (Str × NameKind)) (h : Heap), ∀ p ∈ cellsFrom h.objs.size names [], h.objs.size ≤ p.2 ∧ (pushCells h names).IsCell p.2 none
  | [], h, p, hp => by simp [cellsFrom] at hp
  | (x, k) :: r, h, p, hp => by
    unfold cellsFrom at hp
    unfold pushCells
    split at hp
    · rename_i q
      rw [if_pos q]
      have sz : (h.push { cls := .type "cell", data := .cell none }).objs.size = h.objs.size + 1 := Heap.size_push ..
      rw [cellsFrom_append, List.mem_append] at hp
      rcases hp with hp | hp
      · have := pushCells_cell r (h.push { cls := .type "cell", data := .cell none }) p (by rw [sz]; exact hp)
        exact ⟨by have := this.1; rw [sz] at this; omega, this.2⟩
      · rw [List.mem_singleton.mp hp]
        exact ⟨Nat.le_refl _, ⟨_, pushCells_keeps _ _ _ _ (Heap.get?_push_size _ rfl), rfl⟩⟩
    · rename_i q
      rw [if_neg q]
      exact pushCells_cell r h p hp
theorem cellsFrom_apart : ∀ (names : List (Str × NameKind)) (n : Nat), (cellsFrom n names []).Pairwise (fun x y => x.2 ≠ y.2) ∧ ∀ p ∈ cellsFrom n names [], n ≤ p.2
  | [], n => ⟨.nil, fun _ h => by simp [cellsFrom] at h⟩
  | (x, k) :: r, n => by
    unfold cellsFrom
    split
    · rw [cellsFrom_append]
      obtain ⟨a, b⟩ := cellsFrom_apart r (n + 1)
      refine ⟨List.pairwise_append.mpr ⟨a, List.pairwise_singleton _ _, fun p hp q hq => ?_⟩, fun p hp => ?_⟩
      · rw [List.mem_singleton.mp hq]; exact Nat.ne_of_gt (Nat.lt_of_lt_of_le (Nat.lt_succ_self _) (b p hp))
      · rcases List.mem_append.mp hp with hp | hp
        · have := b p hp; omega
        · rw [List.mem_singleton.mp hp]; exact Nat.le_refl _
    · exact cellsFrom_apart r n

/-- the new block of a call or a comprehension -/
abbrev nenv (scope : Scope) (n globals : Addr) (closure : List (Str × Addr)) (qual : Str) (func : Option Addr) (code : Value) (around : Option Env) (builtins : Addr) : Env :=
  newEnv scope n globals (cellsFrom (n + 1) scope.names closure) qual func code around builtins
abbrev ncells (scope : Scope) (n : Addr) : List Addr := (cellsFrom (n + 1) scope.names []).map (·.2)

theorem nenv_locals {scope : Scope} {n globals : Addr} {closure : List (Str × Addr)} {qual : Str} {func : Option Addr} {code : Value} {around : Option Env} {builtins : Addr} :
    (nenv scope n globals closure qual func code around builtins).locals = n := by cases around <;> rfl
theorem nenv_scope {scope : Scope} {n globals : Addr} {closure : List (Str × Addr)} {qual : Str} {func : Option Addr} {code : Value} {around : Option Env} {builtins : Addr} :
    (nenv scope n globals closure qual func code around builtins).scope = scope := by cases around <;> rfl
theorem nenv_cells {scope : Scope} {n globals : Addr} {closure : List (Str × Addr)} {qual : Str} {func : Option Addr} {code : Value} {around : Option Env} {builtins : Addr} :
    (nenv scope n globals closure qual func code around builtins).cells = cellsFrom (n + 1) scope.names closure := by cases around <;> rfl

theorem binds_go {P : Env} (f : Str × Value → PUnit → Sem (ForInStep PUnit)) (hf : ∀ n v u, f (n, v) u = (do storeName env n v; pure (.yield ⟨⟩))) :
    ∀ (binds : List (Str × Value)) (ρ : Str → Option Value) (s : Shared) (Q : PUnit → Shared → Prop), Fm hb env fc ρ s.heap → (∀ x ∈ binds, Own env fc x.1) →
      (∀ h' tk, Fm hb env fc (updAll ρ binds) h' → Q ⟨⟩ { s with heap := h', toks := tk }) → wpAny M A (forIn binds ⟨⟩ f) Q E s
  | [], ρ, s, Q, F, _, h => by rw [List.forIn_nil]; exact wpAny_pure (h s.heap s.toks F)
  | (n, v) :: r, ρ, s, Q, F, ho, h => by
    rw [List.forIn_cons, hf]
    refine wpAny_bind (wpAny_bind (F.store (ho (n, v) List.mem_cons_self) fun h' tk F' _ => wpAny_pure ?_))
    exact binds_go (P := P) f hf r (upd ρ n v) { s with heap := h', toks := tk } Q F' (fun x hx => ho x (List.mem_cons_of_mem _ hx)) fun h₂ tk₂ F₂ => h h₂ tk₂ F₂

theorem newEnv_Fm {scope : Scope} {globals : Addr} {closure : List (Str × Addr)} {binds : List (Str × Value)} {qual : Str} {func : Option Addr} {code : Value} {around : Option Env} {builtins : Addr} {Q : Env → Shared → Prop}
    (hk : scope.kind = .function) (hcl : closure.Pairwise fun x y => x.2 ≠ y.2) (hlt : ∀ p ∈ closure, p.2 < s.heap.objs.size)
    (ho : ∀ x ∈ binds, Own (nenv scope s.heap.objs.size globals closure qual func code around builtins) (ncells scope s.heap.objs.size) x.1)
    (hQ : ∀ h₁ tk, Fm s.heap (nenv scope s.heap.objs.size globals closure qual func code around builtins) (ncells scope s.heap.objs.size) (updAll (fun _ => none) binds) h₁ →
      Q (nenv scope s.heap.objs.size globals closure qual func code around builtins) { s with heap := h₁, toks := tk }) :
    wpAny M A (newFunctionEnv scope globals closure binds qual func code around builtins) Q E s := by
  unfold newFunctionEnv
  refine wpAny_bind (wpAny_alloc ?_)
  refine wpAny_bind (wpAny_layCells _ (fun name kind cells => by cases hkc : kind == NameKind.cell <;> simp [hkc]) _ _ _ _ ?_)
  have e1 : ∀ o : Obj, ({ s with heap := s.heap.push o } : Shared).heap.objs.size = s.heap.objs.size + 1 := fun o => Heap.size_push ..
  rw [e1]
  generalize hH : s.heap.push { cls := .type (if around.isSome then "dict" else "frame"), data := .dict #[] } = H
  have hHs : H.objs.size = s.heap.objs.size + 1 := by rw [← hH]; exact Heap.size_push ..
  have kH : Kp s.heap H := by rw [← hH]; exact kp_push
  have hnew : ∀ a, s.heap.objs.size ≤ a → s.heap.get? a = none := fun a ha => Heap.get?_none_of_le ha
  have hns : H.Ns s.heap.objs.size (fun _ => none) := by rw [← hH]; exact Heap.Ns.new s.heap _
  have cl := pushCells_cell scope.names H
  rw [hHs] at cl
  have ap := cellsFrom_apart scope.names (s.heap.objs.size + 1)
  have F : Fm s.heap (nenv scope s.heap.objs.size globals closure qual func code around builtins) (ncells scope s.heap.objs.size) (fun _ => none) (pushCells H scope.names) := by
    refine ⟨by rw [nenv_scope]; exact hk, ?_, ?_, fun b o e => pushCells_keeps _ _ _ _ (kH b o e), (fun x v e => by cases e), fun c hc => ?_, ?_, fun c hc => ?_⟩
    · rw [nenv_cells, cellsFrom_append]
      exact List.pairwise_append.mpr ⟨ap.1, hcl, fun p hp q hq => Nat.ne_of_gt (Nat.lt_of_lt_of_le (Nat.lt_succ_of_lt (hlt q hq)) (ap.2 p hp))⟩
    · rw [nenv_locals]; exact ⟨_, hns.keeps (pushCells_keeps _ _)⟩
    · obtain ⟨p, hp, rfl⟩ := List.mem_map.mp hc
      exact ⟨none, (cl p hp).2⟩
    · rw [nenv_locals]; exact hnew _ (Nat.le_refl _)
    · obtain ⟨p, hp, rfl⟩ := List.mem_map.mp hc
      exact hnew _ (Nat.le_trans (Nat.le_succ _) (ap.2 p hp))
  have main : ∀ Q' : PUnit → Shared → Prop, (∀ h₁ tk, Fm s.heap (nenv scope s.heap.objs.size globals closure qual func code around builtins) (ncells scope s.heap.objs.size) (updAll (fun _ => none) binds) h₁ → Q' ⟨⟩ { s with heap := h₁, toks := tk }) →
      wpAny M A (forIn binds PUnit.unit fun x _ => do storeName (nenv scope s.heap.objs.size globals closure qual func code around builtins) x.1 x.2; pure (ForInStep.yield PUnit.unit)) Q' E { s with heap := pushCells H scope.names } := fun Q' h' =>
    binds_go (P := nenv scope s.heap.objs.size globals closure qual func code around builtins) _ (fun _ _ _ => rfl) binds (fun _ => none) { s with heap := pushCells H scope.names } Q' F ho fun h₁ tk F₁ => h' h₁ tk F₁
  cases around with
  | none => exact wpAny_bind (main _ fun h₁ tk F₁ => wpAny_pure (hQ h₁ tk F₁))
  | some o => exact wpAny_bind (main _ fun h₁ tk F₁ => wpAny_pure (hQ h₁ tk F₁))
end

section
variable {prog : Program} {w : World} {A : Around} {E : Value → Shared → Prop} {s : Shared}
/-- a call of a def that never raises -/
theorem call_fm {f : Addr} {o : Obj} {fd : FuncData} {body : List Stmt} {vals : List Value} {binds : List (Str × Value)} {Q : Value → Shared → Prop}
    (ho : s.heap.get? f = some o) (hdata : o.data = .func fd) (hlim : s.heap.NoLimit) (hcd : s.heap.CodeRec fd.code fd.qualname) (hbody : fd.body = .stmts body) (hbind : BindsTo s fd ⟨vals, []⟩ binds)
    (hroom : A.depth < recursionLimit) (hco : fd.scope.isCoroutine = false) (hgen : fd.scope.isGenerator = false) (hk : fd.scope.kind = .function)
    (hcl : fd.closure.Pairwise fun x y => x.2 ≠ y.2) (hlt : ∀ p ∈ fd.closure, p.2 < s.heap.objs.size)
    (hown : ∀ x ∈ binds, Own (nenv fd.scope s.heap.objs.size fd.globals fd.closure (fd.qualname ++ ".<locals>.") (some f) fd.code none fd.builtins) (ncells fd.scope s.heap.objs.size) x.1)
    (h : ∀ env, env = nenv fd.scope s.heap.objs.size fd.globals fd.closure (fd.qualname ++ ".<locals>.") (some f) fd.code none fd.builtins → ∀ h₁ tk, Fm s.heap env (ncells fd.scope s.heap.objs.size) (updAll (fun _ => none) binds) h₁ →
      wpAny (model prog w) (A.deeper env) (execs body env) (fun fl s' => Q (match fl with | .ret v => v | _ => .none) s') (fun _ _ => False) { s with heap := h₁, toks := tk }) :
    wpAny (model prog w) A (call (.ref f) vals) Q E s := by
  refine wpAny_call (codeAny_call_function hroom ho hdata hco hgen hbody hcd (hbind _ _ _ _ ?_))
  refine newEnv_Fm hk hcl hlt hown fun h₁ tk F => ⟨hlim.keeps F.keep, codeAny_func ?_⟩
  exact wpAny_mono (h _ rfl h₁ tk F) (fun _ _ x => x) fun _ _ x => x.elim
end
end Mine

end

-- ======== Base3 ========
section
open PySem PySem.W PyProof.Rows
set_option maxRecDepth 100000
namespace Mine

/-- tuples stay (asked only where tk is true) -/
def Tk (tk : Bool) (h h' : Heap) : Prop := tk = true → ∀ b o xs n, o.cls = .type "tuple" → o.data = .seq xs n → h.get? b = some o → h'.get? b = some o
theorem Tk.off {h h' : Heap} : Tk false h h' := fun e => nomatch e
theorem Tk.trans {tk : Bool} {h h' h'' : Heap} (a : Tk tk h h') (b : Tk tk h' h'') : Tk tk h h'' := fun e c o xs n q d x => b e c o xs n q d (a e c o xs n q d x)
theorem Kp.tk {tk : Bool} {h h' : Heap} (k : Kp h h') : Tk tk h h' := fun _ b o _ _ _ _ e => k b o e
theorem Sq.tk {tk : Bool} {h h' : Heap} (k : Sq h h') : Tk tk h h' := fun _ b o xs n _ d e => k b o xs n d e

/-- an iterator that gives n items in turn -/
structure It (prog : Program) (w : World) (A : Around) (target : Expr) (tk : Bool) (I : Addr) (fp wr : List Addr) (n : Nat) (P : Nat → Value → Heap → Prop) (St : Nat → Heap → Prop) : Prop where
  sub : ∀ b ∈ wr, b ∈ fp
  frame : ∀ i h h', St i h → (∀ b ∈ fp, ∀ o, h.get? b = some o → h'.get? b = some o) → St i h'
  step : ∀ i (s : Shared) (Q : Value → Shared → Prop) (E : Value → Shared → Prop), i < n → St i s.heap →
    (∀ v h' tk, P i v h' → St (i + 1) h' → (∀ b o, b ∉ wr → s.heap.get? b = some o → h'.get? b = some o) → Q v { s with heap := h', toks := tk }) →
    wpAny (model prog w) A (pyNext (.ref I)) (fun r s₁ => ∃ v, r = some v ∧ wpAny (model prog w) A (letOwnedTupleGo target (.ref I) v) (fun _ s₂ => Q v s₂) E s₁) E s
  done : ∀ (s : Shared) (Q : Option Value → Shared → Prop) (E : Value → Shared → Prop), St n s.heap →
    (∀ h' tk, (∀ b o, b ∉ wr → s.heap.get? b = some o → h'.get? b = some o) → Q none { s with heap := h', toks := tk }) → wpAny (model prog w) A (pyNext (.ref I)) Q E s
  self : ∀ i (s : Shared) (Q : Value → Shared → Prop) (E : Value → Shared → Prop), St i s.heap → Q (.ref I) s → wpAny (model prog w) A (pyIter (.ref I)) Q E s
  nt : tk = true → ∀ i h, St i h → ∀ b ∈ wr, ∀ o xs n, h.get? b = some o → o.data ≠ .seq xs n

section
variable {prog : Program} {w : World} {A : Around} {E : Value → Shared → Prop} {R : Result → Shared → Prop} {s : Shared}

abbrev tests (ifs : List Expr) (env : Env) : Sem Bool :=
  forIn ifs true fun c r => if r = true then do let ok ← isTrue c env (eval c env); pure (ForInStep.yield ok) else pure (ForInStep.yield r)

theorem comp_turns {e target iter : Expr} {d : Nat} {ifs : List Expr} {it acc : Value} {env : Env} {emit : Sem Unit}
    (heq : compTurn e d it acc env = (do
      standAt iter.pos
      match ← pyNext it with
      | none => pure (.done .next)
      | some v =>
        letOwnedTupleGo target it v
        assign target env v
        let mut ok := true
        for c in ifs do
          if ok then ok ← isTrue c env (eval c env)
        if ok then emit
        again (.compLoop e d it acc env)))
    (I : Nat → Shared → Prop)
    (turn : ∀ n s, I n s → ∀ E' : Value → Shared → Prop, wpAny (model prog w) A (pyNext it) (fun r s₁ => match r with
      | none => R (.ok .next) s₁
      | some v => wpAny (model prog w) A (letOwnedTupleGo target it v) (fun _ s₁' => wpAny (model prog w) A (assign target env v) (fun _ s₂ =>
          wpAny (model prog w) A (tests ifs env) (fun ok s₃ => if ok = true then wpAny (model prog w) A emit (fun _ s₄ => ∃ m, m < n ∧ I m s₄) E' s₃ else ∃ m, m < n ∧ I m s₃) E' s₂) E' s₁') E' s₁) E' s)
    (n : Nat) (h : I n s) (hden : (model prog w).den (.compLoop e d it acc env) = (compTurn e d it acc env).onRaise (fun x => do noteFrame x env; theTreesLotGoes x)) (hund : A.under (.compLoop e d it acc env) = A) :
    codeAny (model prog w) A (.compLoop e d it acc env) R s := by
  refine codeAny_loop rfl I (fun n s hI => ?_) n h
  rw [hden, hund]
  refine wpAny_noted ?_
  rw [heq]
  refine wpAny_bind (wpAny_standAt (wpAny_bind (wpAny_mono (turn n s hI _) (fun r s₁ h₁ => ?_) fun _ _ h' => h')))
  cases r with
  | none => exact wpAny_pure h₁
  | some v =>
    refine wpAny_bind (wpAny_mono h₁ (fun _ s₁' h₁' => ?_) fun _ _ h' => h')
    refine wpAny_bind (wpAny_mono h₁' (fun _ s₂ h₂ => wpAny_bind (wpAny_mono h₂ (fun ok s₃ h₃ => ?_) fun _ _ h' => h')) fun _ _ h' => h')
    cases ok with
    | false => exact wpAny_pure ⟨rfl, h₃⟩
    | true => exact wpAny_bind (wpAny_mono h₃ (fun _ s₄ h₄ => wpAny_pure ⟨rfl, h₄⟩) fun _ _ h' => h')

/-- what the target's names read as behind the assignment -/
def Assigns (prog : Program) (w : World) (A : Around) (hb : Heap) (env : Env) (fc : List Addr) (target : Expr) (P : Value → Heap → Prop) (V : (Str → Option Value) → Heap → Prop) : Prop :=
  ∀ (v : Value) (ρ : Str → Option Value) (s : Shared) (Q : Unit → Shared → Prop) (E : Value → Shared → Prop), P v s.heap → Fm hb env fc ρ s.heap →
    (∀ h' tk ρ', Fm hb env fc ρ' h' → V ρ' h' → KpF env fc s.heap h' → Q () { s with heap := h', toks := tk }) → wpAny (model prog w) A (assign target env v) Q E s

theorem comp_it {e target iter : Expr} {d : Nat} {ifs : List Expr} {acc : Value} {env : Env} {emit : Sem Unit} {hb : Heap} {fc : List Addr} {ρ₀ : Str → Option Value}
    {tk : Bool} {I : Addr} {fp wr ac : List Addr} {n : Nat} {P : Nat → Value → Heap → Prop} {St : Nat → Heap → Prop}
    (heq : compTurn e d (.ref I) acc env = (do
      standAt iter.pos
      match ← pyNext (.ref I) with
      | none => pure (.done .next)
      | some v =>
        letOwnedTupleGo target (.ref I) v
        assign target env v
        let mut ok := true
        for c in ifs do
          if ok then ok ← isTrue c env (eval c env)
        if ok then emit
        again (.compLoop e d (.ref I) acc env)))
    (W : It prog w A target tk I fp wr n P St) (p : Nat → Bool) (V : Nat → (Str → Option Value) → Heap → Prop) (J : Nat → Heap → Prop)
    (hV : ∀ i ρ h h', V i ρ h → Kp h h' → V i ρ h')
    (hL : env.locals ∉ fp) (hfc : ∀ c ∈ fc, c ∉ fp) (hac : ∀ a ∈ ac, a ∉ fp ∧ a ≠ env.locals ∧ a ∉ fc ∧ hb.get? a = none) (hwr : ∀ b ∈ wr, hb.get? b = none)
    (hcf : ∀ x c, env.cells.lookup x = some c → c ∉ wr ∧ c ∉ ac)
    (hJ : ∀ i h h', J i h → Tk tk h h' → (∀ a ∈ ac, ∀ o, h.get? a = some o → h'.get? a = some o) → J i h')
    (hassign : ∀ i, i < n → Assigns prog w A hb env fc target (P i) (V i))
    (htests : ∀ i ρ h tk', i < n → V i ρ h → Fm hb env fc ρ h → Ev (model prog w) A (tests ifs env) (fun ok _ => ok = p i) { s with heap := h, toks := tk' })
    (hskip : ∀ i h, i < n → p i = false → J i h → J (i + 1) h)
    (hemit : ∀ i ρ (h : Heap) tk' (Q : Unit → Shared → Prop) (E' : Value → Shared → Prop), i < n → p i = true → V i ρ h → Fm hb env fc ρ h → J i h →
      (∀ h' tk'', J (i + 1) h' → (∀ b o, b ∉ ac → h.get? b = some o → h'.get? b = some o) → Q () { s with heap := h', toks := tk'' }) → wpAny (model prog w) A emit Q E' { s with heap := h, toks := tk' })
    (hst : St 0 s.heap) (F : Fm hb env fc ρ₀ s.heap) (h0 : J 0 s.heap) (hden : (model prog w).den (.compLoop e d (.ref I) acc env) = (compTurn e d (.ref I) acc env).onRaise (fun x => do noteFrame x env; theTreesLotGoes x)) (hund : A.under (.compLoop e d (.ref I) acc env) = A)
    (hR : ∀ h' tk' ρ', Fm hb env fc ρ' h' → J n h' → R (.ok .next) { s with heap := h', toks := tk' }) :
    codeAny (model prog w) A (.compLoop e d (.ref I) acc env) R s := by
  have hLw : env.locals ∉ wr := fun h => hL (W.sub _ h)
  -- a change beyond the frame
  have frAc : ∀ {h h' : Heap} {ρ : Str → Option Value} (X : List Addr), Fm hb env fc ρ h → (∀ b o, b ∉ X → h.get? b = some o → h'.get? b = some o) → env.locals ∉ X → (∀ c ∈ fc, c ∉ X) → (∀ b ∈ X, hb.get? b = none) → (∀ x c, env.cells.lookup x = some c → c ∉ X) → Fm hb env fc ρ h' := by
    intro h h' ρ X F k a b c e
    refine ⟨F.kind, F.apart, ?_, fun b' o q => k b' o (fun m => by rw [c b' m] at q; cases q) (F.keep b' o q), fun x v q => ?_, fun c' hc' => ?_, F.freshL, F.freshC⟩
    · obtain ⟨m, hn⟩ := F.ns; exact ⟨m, hn.at' fun o q => k _ o a q⟩
    · rcases F.vars x v q with ⟨a1, m, hn, em⟩ | ⟨a1, c1, ec, hc1⟩
      · exact .inl ⟨a1, m, hn.at' fun o q => k _ o a q, em⟩
      · obtain ⟨o, eo, d⟩ := hc1
        exact .inr ⟨a1, c1, ec, o, k _ o (e x c1 ec) eo, d⟩
    · obtain ⟨v, o, eo, d⟩ := F.cells c' hc'
      exact ⟨v, o, k _ o (b c' hc') eo, d⟩
  refine comp_turns (target := target) (iter := iter) (ifs := ifs) (emit := emit) heq
    (fun k s' => ∃ h' tk' ρ i, s' = { s with heap := h', toks := tk' } ∧ St i h' ∧ Fm hb env fc ρ h' ∧ J i h' ∧ i ≤ n ∧ k = n + 1 - i) ?_ (n + 1)
    ⟨s.heap, s.toks, ρ₀, 0, rfl, hst, F, h0, Nat.zero_le _, rfl⟩ hden hund
  rintro k s' ⟨h', tk', ρ, i, rfl, hst', F', hJ', hi, rfl⟩ E'
  by_cases hlt : i < n
  · refine wpAny_mono (W.step i _ (fun v s₂ => wpAny (model prog w) A (assign target env v) (fun _ s₂ =>
          wpAny (model prog w) A (tests ifs env) (fun ok s₃ => if ok = true then wpAny (model prog w) A emit (fun _ s₄ => ∃ m, m < n + 1 - i ∧ ∃ h' tk' ρ i, s₄ = { s with heap := h', toks := tk' } ∧ St i h' ∧ Fm hb env fc ρ h' ∧ J i h' ∧ i ≤ n ∧ m = n + 1 - i) E' s₃ else ∃ m, m < n + 1 - i ∧ ∃ h' tk' ρ i, s₃ = { s with heap := h', toks := tk' } ∧ St i h' ∧ Fm hb env fc ρ h' ∧ J i h' ∧ i ≤ n ∧ m = n + 1 - i) E' s₂) E' s₂) E' hlt hst' ?_) (fun r s₁ h₁ => ?_) fun _ _ e => e
    · intro v h₁ tk₁ hP hst₁ hk₁
      have F₁ := frAc wr F' hk₁ hLw (fun c hc hm => hfc c hc (W.sub _ hm)) hwr (fun x c ec => (hcf x c ec).1)
      have hJ₁ : J i h₁ := hJ i h' h₁ hJ' (fun t b o xs m _ d e => hk₁ b o (fun hm => W.nt t i h' hst' b hm o xs m e d) e) (fun a ha o e => hk₁ _ _ (fun hm => (hac a ha).1 (W.sub _ hm)) e)
      refine hassign i hlt v ρ _ _ _ hP F₁ fun h₂ tk₂ ρ₂ F₂ hV₂ kf => ?_
      have up₂ : ∀ b ∈ fp, ∀ o, h₁.get? b = some o → h₂.get? b = some o := fun b hb' o e => kf b o (fun q => hL (q ▸ hb')) (fun q => hfc b q hb') e
      have hst₂ : St (i + 1) h₂ := W.frame _ _ _ hst₁ up₂
      have ac₂ : ∀ a ∈ ac, ∀ o, h₁.get? a = some o → h₂.get? a = some o := fun a ha o e => kf a o (hac a ha).2.1 (hac a ha).2.2.1 e
      have hJ₂ : J i h₂ := hJ i h₁ h₂ hJ₁ (F₁.sq kf).tk ac₂
      refine (htests i ρ₂ h₂ tk₂ hlt hV₂ F₂).use fun ok h₃ tk₃ k₃ hok => ?_
      have hst₃ : St (i + 1) h₃ := W.frame _ _ _ hst₂ fun b _ o e => k₃ b o e
      have hJ₃ : J i h₃ := hJ i h₂ h₃ hJ₂ k₃.tk fun a _ o e => k₃ a o e
      have F₃ := F₂.kept k₃
      have hV₃ := hV _ _ _ _ hV₂ k₃
      subst hok
      cases hp : p i with
      | false =>
        simp only [Bool.false_eq_true, if_false]
        exact ⟨n + 1 - (i + 1), by omega, h₃, tk₃, ρ₂, i + 1, rfl, hst₃, F₃, hskip i h₃ hlt hp hJ₃, hlt, rfl⟩
      | true =>
        simp only [if_true]
        refine hemit i ρ₂ h₃ tk₃ _ _ hlt hp hV₃ F₃ hJ₃ fun h₄ tk₄ hJ₄ k₄ => ?_
        refine ⟨n + 1 - (i + 1), by omega, h₄, tk₄, ρ₂, i + 1, rfl, W.frame _ _ _ hst₃ fun b hb' o e => k₄ b o (fun ha => (hac b ha).1 hb') e, ?_, hJ₄, hlt, rfl⟩
        exact frAc ac F₃ k₄ (fun ha => (hac _ ha).2.1 rfl) (fun c hc ha => (hac c ha).2.2.1 hc) (fun b hb' => (hac b hb').2.2.2) (fun x c ec => (hcf x c ec).2)
    · obtain ⟨v, rfl, h₁⟩ := h₁
      exact h₁
  · have hin : i = n := by omega
    subst hin
    refine W.done _ _ _ hst' fun h₁ tk₁ hk₁ => ?_
    have F₁ := frAc wr F' hk₁ hLw (fun c hc hm => hfc c hc (W.sub _ hm)) hwr (fun x c ec => (hcf x c ec).1)
    have hJ₁ : J i h₁ := hJ i h' h₁ hJ' (fun t b o xs m _ d e => hk₁ b o (fun hm => W.nt t i h' hst' b hm o xs m e d) e) (fun a ha o e => hk₁ _ _ (fun hm => (hac a ha).1 (W.sub _ hm)) e)
    exact hR h₁ tk₁ ρ F₁ hJ₁
end
end Mine

end

-- ======== Base4 ========
section
open PySem PySem.W PyProof.Rows
set_option maxRecDepth 100000
namespace Mine

theorem Fm.weaken {hb hb' : Heap} {env : Env} {fc : List Addr} {ρ : Str → Option Value} {h : Heap} (F : Fm hb env fc ρ h) (k : Kp hb' hb) : Fm hb' env fc ρ h :=
  have n : ∀ a, hb.get? a = none → hb'.get? a = none := fun a e => by
    cases q : hb'.get? a with
    | none => rfl
    | some o => rw [k a o q] at e; cases e
  ⟨F.kind, F.apart, F.ns, fun b o e => F.keep b o (k b o e), F.vars, F.cells, n _ F.freshL, fun c hc => n _ (F.freshC c hc)⟩

/-- an expression that gives an iterator over xs -/
def Src (prog : Program) (w : World) (A : Around) (target : Expr) (tk : Bool) {α : Type} (t : Sem Value) (xs : List α) (P : α → VP) (s : Shared) : Prop :=
  ∀ (Q : Value → Shared → Prop) (E : Value → Shared → Prop),
    (∀ I fp wr St s₂, Keeps s s₂ → It prog w A target tk I fp wr xs.length (fun i v h => ∃ a, xs[i]? = some a ∧ P a v h) St → St 0 s₂.heap → (∀ b ∈ fp, b < s₂.heap.objs.size) → (∀ b ∈ wr, s.heap.get? b = none) → Q (.ref I) s₂) →
    wpAny (model prog w) A t (fun xv s₁ => wpAny (model prog w) A (pyIter xv) Q E s₁) E s

/-- the block of a comprehension -/
abbrev cenv (scope : Scope) (cl : List (Str × Addr)) (env : Env) (C : Addr) : Env :=
  { nenv scope C env.globals cl env.qual none .none (some env) builtinsNs with scope := relabel scope env }

theorem none_of {s : Shared} {h : Heap} (k : Kp s.heap h) {a : Addr} (e : h.get? a = none) : s.heap.get? a = none := by
  cases q : s.heap.get? a with
  | none => rfl
  | some o => rw [k a o q] at e; cases e

theorem cellsFrom_mem {names : List (Str × NameKind)} {n : Nat} {cl : List (Str × Addr)} {x : Str} {c : Addr} (h : (cellsFrom n names cl).lookup x = some c) : n ≤ c ∨ (x, c) ∈ cl := by
  have m := PySem.mem_of_lookup h
  rw [cellsFrom_append, List.mem_append] at m
  rcases m with m | m
  · exact .inl ((cellsFrom_apart names n).2 _ m)
  · exact .inr m

section
variable {prog : Program} {w : World} {A : Around} {E : Value → Shared → Prop} {s : Shared} {env : Env} {α : Type}

theorem Fm.relabel {hb h : Heap} {scope : Scope} {cl : List (Str × Addr)} {C : Addr} {fc : List Addr} (F : Fm hb (nenv scope C env.globals cl env.qual none .none (some env) builtinsNs) fc (fun _ => none) h) :
    Fm hb (cenv scope cl env C) fc (fun _ => none) h :=
  ⟨F.kind, F.apart, F.ns, F.keep, (fun _ _ e => nomatch e), F.cells, F.freshL, F.freshC⟩

/-- the shell of a comprehension: D the thing that is built (already there as oD), C its block -/
theorem comp_shell {e target iter : Expr} {ifs : List Expr} {rest : List Comprehension} {scope : Scope} {pos : Pos} {cl : List (Str × Addr)} {tk : Bool} {xs : List α} {P : α → VP} {oD : Obj} {newAcc : Sem Value}
    {use : Option (Value → Sem Unit)} {Q : Value → Shared → Prop}
    (hcle : clausesOf e = ⟨target, iter, ifs, 0⟩ :: rest) (hfold : ∀ x, foldedSetIterable iter env x = pure x) (hk : scope.kind = .function) (hnames : ∀ x ∈ scope.names, x.2 = .local → scope.names.lookup x.1 = some .local)
    (hclos : closureFor scope env = pure cl) (hcp : cl.Pairwise fun x y => x.2 ≠ y.2) (hcl : ∀ q ∈ cl, ∃ v, s.heap.IsCell q.2 v)
    (hnew : ∀ (s' : Shared) (Q' : Value → Shared → Prop) (E' : Value → Shared → Prop), Q' (.ref s'.heap.objs.size) { s' with heap := s'.heap.push oD } → wpAny (model prog w) A newAcc Q' E' s') (hoD : oD.isFreed = false)
    (hsrc : Src prog w A target tk (eval iter env) xs P s)
    (hstart : ∀ I fp wr St D C (s' : Shared), Keeps s s' → It prog w A target tk I fp wr xs.length (fun i v h => ∃ a, xs[i]? = some a ∧ P a v h) St → St 0 s'.heap → (∀ b ∈ fp, b < D) → (∀ b ∈ wr, s.heap.get? b = none) →
      D < C → s.heap.get? D = none → s.heap.get? C = none → s'.heap.get? D = some oD → (∀ q ∈ cl, ∃ o, s.heap.get? q.2 = some o) →
      Fm s.heap (cenv scope cl env C) (ncells scope C) (fun _ => none) s'.heap →
      codeAny (model prog w) A (.compLoop e 0 (.ref I) (.ref D) (cenv scope cl env C)) (fun r s'' => r = .ok .next ∧ ∃ m, s''.heap.Ns C m ∧ compPost (model prog w) A E use Q (.ref D) C (.ok .next) s'') s')
    (hcs : ∀ (I : Addr) (acc : Value) (env' : Env) (R : Result → Shared → Prop) (s' : Shared), codeAny (model prog w) A (.compLoop e 0 (.ref I) acc env') R s' →
      (∀ Q' E', Q' (.ref I) s' → wpAny (model prog w) A (pyIter (.ref I)) Q' E' s') → codeAny (model prog w) A (.compStart e 0 (.ref I) acc env') R s') :
    wpAny (model prog w) A (comprehension e scope env pos newAcc false (eval iter env) use) Q E s := by
  refine wpAny_comprehension_free hcle hfold hclos hk hnames (hsrc _ _ fun I fp wr St s₂ k₂ W hst hfp hwr => ?_)
  refine hnew _ _ _ ?_
  have sz : ({ s₂ with heap := s₂.heap.push oD } : Shared).heap.objs.size = s₂.heap.objs.size + 1 := Heap.size_push ..
  have kD : Kp s.heap (s₂.heap.push oD) := fun b o e => kp_push _ _ (keeps_heap k₂ b o e)
  refine newEnv_Fm hk hcp (fun q hq => ?_) (fun x hx => by cases hx) fun h₁ tk₁ F₁ => ?_
  · obtain ⟨v, hv⟩ := hcl q hq
    have a := (hv.keeps (keeps_heap k₂)).lt
    exact Nat.lt_of_lt_of_le a (by rw [sz]; exact Nat.le_succ _)
  rw [sz] at F₁ ⊢
  have F₂ : Fm s.heap (cenv scope cl env (s₂.heap.objs.size + 1)) (ncells scope (s₂.heap.objs.size + 1)) (fun _ => none) h₁ := (F₁.relabel).weaken kD
  have hns : ∀ a, s₂.heap.objs.size ≤ a → s.heap.get? a = none := fun a ha => none_of (keeps_heap k₂) (Heap.get?_none_of_le ha)
  have hD : h₁.get? s₂.heap.objs.size = some oD := F₁.keep _ _ (Heap.get?_push_size _ hoD)
  have hst₁ : St 0 h₁ := W.frame _ _ _ hst fun b _ o e => F₁.keep _ _ (kp_push _ _ e)
  have keeps₁ : Keeps s { s₂ with heap := h₁, toks := tk₁ } := by
    obtain ⟨h2, t2, rfl, k2⟩ := k₂
    exact ⟨h₁, tk₁, rfl, fun b o e => F₁.keep _ _ (kD b o e)⟩
  have loop : codeAny (model prog w) A (.compLoop e 0 (.ref I) (.ref s₂.heap.objs.size) (cenv scope cl env (s₂.heap.objs.size + 1))) (compPost (model prog w) A E use Q (.ref s₂.heap.objs.size) (s₂.heap.objs.size + 1)) { s₂ with heap := h₁, toks := tk₁ } := by
    refine codeAny_mono (hstart I fp wr St s₂.heap.objs.size (s₂.heap.objs.size + 1) { s₂ with heap := h₁, toks := tk₁ } keeps₁ W hst₁ hfp hwr (Nat.lt_succ_self _) (hns _ (Nat.le_refl _)) (hns _ (Nat.le_succ _)) hD (fun q hq => ?_) F₂) fun r s' h => ?_
    · obtain ⟨v, o, e, _⟩ := hcl q hq; exact ⟨o, e⟩
    · obtain ⟨rfl, _, _, h⟩ := h; exact h
  exact hcs I _ _ _ _ loop fun Q' E' h' => W.self 0 _ _ _ hst₁ h'
end
end Mine

end

-- ======== Base5 ========
section
open PySem PySem.W PyProof.Rows
set_option maxRecDepth 100000
namespace Mine

theorem take_filter_succ {α : Type} (p : α → Bool) (l : List α) (i : Nat) (v : α) (h : l[i]? = some v) : (l.take (i + 1)).filter p = (l.take i).filter p ++ (if p v then [v] else []) := take_succ_filter p l i v h

/-- what stands behind a comprehension that builds at D, its block at C -/
structure CompDone (s : Shared) (C D : Addr) (Φ : Obj → Heap → Prop) (h : Heap) : Prop where
  kp : Kp s.heap h
  nD : s.heap.get? D = none
  nC : s.heap.get? C = none
  ne : D ≠ C
  ns : ∃ m, h.Ns C m
  at_ : ∃ o, h.get? D = some o ∧ Φ o h

theorem CompDone.sameBut {s : Shared} {C D : Addr} {Φ : Obj → Heap → Prop} {h h' : Heap} {tk : Bool} (x : CompDone s C D Φ h) (hs : Heap.SameBut C h h') (hΦ : ∀ o h h', Tk tk h h' → Φ o h → Φ o h') :
    Kp s.heap h' ∧ ∃ o, h'.get? D = some o ∧ Φ o h' := by
  refine ⟨fun b o e => hs.extBut b o (fun q => by rw [q, x.nC] at e; cases e) (x.kp b o e), ?_⟩
  obtain ⟨o, e, p⟩ := x.at_
  refine ⟨o, hs.extBut _ _ x.ne e, hΦ o h h' (fun _ b o xs n _ d e => hs.extBut b o (fun q => ?_) e) p⟩
  obtain ⟨m, o', es, ep, e', d', _⟩ := x.ns
  rw [q, e'] at e; cases e; rw [d'] at d; cases d

section
variable {prog : Program} {w : World} {A : Around} {E : Value → Shared → Prop} {s : Shared} {env : Env} {α : Type}

/-- the list that a comprehension builds -/
def LstOf (G : α → VP) (zs : List α) : Obj → Heap → Prop := fun o h => ∃ ys n, o = lobj ys n ∧ All2 (fun a y => G a y h) zs ys
theorem LstOf.tk {G : α → VP} {tk : Bool} {zs : List α} (hG : ∀ a y h h', Tk tk h h' → G a y h → G a y h') : ∀ o h h', Tk tk h h' → LstOf G zs o h → LstOf G zs o h' :=
  fun _ _ _ t ⟨ys, n, e, r⟩ => ⟨ys, n, e, r.mono fun _ _ g => hG _ _ _ _ t g⟩

theorem append_lobj {D : Addr} {ys : List Value} {n : Nat} {y : Value} {Q : Value → Shared → Prop} (e : s.heap.get? D = some (lobj ys n)) (hsz : ys.length ≤ sizeLine)
    (hQ : ∀ h', h'.get? D = some (lobj (ys ++ [y]) (n + 1)) → Heap.SameBut D s.heap h' → Q .none { s with heap := h' }) :
    wpAny (model prog w) A (call (.builtin "list.append") [.ref D, y]) Q E s := by
  have hl : s.heap.IsList D ys.toArray := ⟨_, e, rfl, n, rfl⟩
  refine wpAny_call_entry slot_list_append hl.typeIs entry_list_append ?_ (args_list_append _ _)
  show wpAny _ _ (updateSeq D (·.push y) >>= fun _ => ret .none) _ _ s
  refine wpAny_bind (wpAny_updateSeq (hz := by rw [List.size_toArray]; exact hsz) (_hz' := by rw [Array.size_push, List.size_toArray]; omega) e rfl (wpAny_pure ⟨.none, rfl, hQ _ ?_ (Heap.SameBut.update ..)⟩))
  rw [Heap.get?_update_self _ e (by rfl)]
  simp [Obj.mapSeq]

theorem listComp_core {elt target iter : Expr} {ifs : List Expr} {scope : Scope} {pos cpos : Pos} {cl : List (Str × Addr)} {tk : Bool} {xs : List α} {P : α → VP} {G : α → VP} {use : Option (Value → Sem Unit)} {Q : Value → Shared → Prop}
    (p : α → Bool) (V : α → (Str → Option Value) → Heap → Prop)
    (hclos : closureFor scope env = pure cl) (hcp : cl.Pairwise fun x y => x.2 ≠ y.2) (hcl : ∀ q ∈ cl, ∃ v, s.heap.IsCell q.2 v)
    (hV : ∀ a ρ h h', V a ρ h → Kp h h' → V a ρ h') (hG : ∀ a y h h', Tk tk h h' → G a y h → G a y h') (hn : xs.length ≤ 1000)
    (hsrc : Src prog w A target tk (eval iter env) xs P s)
    (hassign : ∀ a C, a ∈ xs → Assigns prog w A s.heap (cenv scope cl env C) (ncells scope C) target (P a) (V a))
    (htests : ∀ a C ρ h tk', a ∈ xs → V a ρ h → Kp s.heap h → Fm s.heap (cenv scope cl env C) (ncells scope C) ρ h → Ev (model prog w) A (tests ifs (cenv scope cl env C)) (fun ok _ => ok = p a) { s with heap := h, toks := tk' })
    (helt : ∀ a C ρ h tk', a ∈ xs → p a = true → V a ρ h → Kp s.heap h → Fm s.heap (cenv scope cl env C) (ncells scope C) ρ h → Ev (model prog w) A (eval elt (cenv scope cl env C)) (G a) { s with heap := h, toks := tk' })
    (hfin : ∀ D C h' tk', CompDone s C D (LstOf G (xs.filter p)) h' → compPost (model prog w) A E use Q (.ref D) C (.ok .next) { s with heap := h', toks := tk' })
    (hfold : ∀ x, foldedSetIterable iter env x = pure x := by intro _; rfl) (hk : scope.kind = .function := by rfl) (hnames : ∀ x ∈ scope.names, x.2 = .local → scope.names.lookup x.1 = some .local := by decide) :
    wpAny (model prog w) A (comprehension (.ListComp elt [⟨target, iter, ifs, 0⟩] scope pos) scope env cpos (newList []) false (eval iter env) use) Q E s := by
  refine comp_shell (oD := lobj [] 0) (rest := []) (ifs := ifs) (iter := iter) (target := target) rfl hfold hk hnames hclos hcp hcl (fun s' Q' E' h' => wpAny_newObj_type h') rfl hsrc ?_ ?_
  · intro I fp wr St D C s' ks W hst hfp hwr hDC hD hC hoD hclo F
    have hCf : C ∉ fp := fun h => Nat.lt_asymm hDC (hfp C h)
    have hDf : D ∉ fp := fun h => Nat.lt_irrefl _ (hfp D h)
    obtain ⟨hs, ts, rfl, kss⟩ := ks
    refine comp_it (s := { s with heap := hs, toks := ts }) (emit := do let _ ← call (.builtin "list.append") [.ref D, ← eval elt (cenv scope cl env C)]) (ac := [D]) (hb := s.heap) (fc := ncells scope C) (by rfl) W
      (fun i => (xs[i]?.map p).getD false) (fun i ρ h => ∃ a, xs[i]? = some a ∧ V a ρ h) (fun i h => ∃ o, h.get? D = some o ∧ LstOf G ((xs.take i).filter p) o h)
      (fun i ρ h h' ⟨a, e, v⟩ k => ⟨a, e, hV a ρ h h' v k⟩) hCf (fun c hc h => ?_) (fun a ha => ?_) hwr (fun x c ec => ?_) (fun i h h' ⟨o, e, L⟩ t k => ⟨o, k D (List.mem_singleton.mpr rfl) o e, LstOf.tk hG _ _ _ t L⟩)
      (fun i hi v ρ s₁ Q₁ E₁ ⟨a, ea, hP⟩ F₁ h₁ => ?_) (fun i ρ h tk' hi ⟨a, ea, v⟩ F₁ => ?_) (fun i h hi hp ⟨o, e, L⟩ => ?_) (fun i ρ h tk' Q₁ E₁ hi hp ⟨a, ea, v⟩ F₁ hJ h₁ => ?_) hst F ⟨_, hoD, [], 0, rfl, by simpa using All2.nil⟩ (by rfl) (by rfl) (fun h' tk' ρ' F' hJ' => ?_)
    · obtain ⟨q, hq, rfl⟩ := List.mem_map.mp hc
      have a := (cellsFrom_apart scope.names (C + 1)).2 q hq
      exact Nat.lt_irrefl _ (Nat.lt_trans hDC (Nat.lt_trans (Nat.lt_of_lt_of_le (Nat.lt_succ_self _) a) (hfp _ h)))
    · rw [List.mem_singleton.mp ha]
      refine ⟨hDf, Nat.ne_of_lt hDC, fun h => ?_, hD⟩
      obtain ⟨q, hq, e⟩ := List.mem_map.mp h
      have a := (cellsFrom_apart scope.names (C + 1)).2 q hq
      rw [e] at a
      exact Nat.lt_irrefl _ (Nat.lt_trans hDC (Nat.lt_of_lt_of_le (Nat.lt_succ_self _) a))
    · rcases cellsFrom_mem ec with a | a
      · refine ⟨fun h => ?_, fun h => ?_⟩
        · exact Nat.lt_irrefl _ (Nat.lt_trans hDC (Nat.lt_trans (Nat.lt_of_lt_of_le (Nat.lt_succ_self _) a) (hfp _ (W.sub _ h))))
        · rw [List.mem_singleton.mp h] at a
          exact Nat.lt_irrefl _ (Nat.lt_trans hDC (Nat.lt_of_lt_of_le (Nat.lt_succ_self _) a))
      · obtain ⟨o, eo⟩ := hclo _ a
        refine ⟨fun h => ?_, fun h => ?_⟩
        · rw [hwr _ h] at eo; cases eo
        · rw [List.mem_singleton.mp h, hD] at eo; cases eo
    · exact hassign a C (List.mem_of_getElem? ea) v ρ s₁ Q₁ E₁ hP F₁ fun h' tk' ρ' F' v' kf => h₁ h' tk' ρ' F' ⟨a, ea, v'⟩ kf
    · simp only [ea, Option.map_some, Option.getD_some]
      exact htests a C ρ h tk' (List.mem_of_getElem? ea) v F₁.keep F₁
    · refine ⟨o, e, ?_⟩
      have hi' : i < xs.length := hi
      obtain ⟨a, ea⟩ : ∃ a, xs[i]? = some a := ⟨xs[i], List.getElem?_eq_getElem hi'⟩
      rw [take_filter_succ p xs i a ea]
      simp only [ea, Option.map_some, Option.getD_some] at hp
      simpa [hp] using L
    · simp only [ea, Option.map_some, Option.getD_some] at hp
      obtain ⟨o, e, ys, m, rfl, L⟩ := hJ
      refine wpAny_bind ((helt a C ρ h tk' (List.mem_of_getElem? ea) hp v F₁.keep F₁).use fun y h₂ tk₂ k₂ g => wpAny_bind ?_)
      have hlen : ys.length ≤ sizeLine := by
        have a1 := L.length
        have a2 : ((xs.take i).filter p).length ≤ (xs.take i).length := List.length_filter_le _ _
        have a3 : (xs.take i).length ≤ xs.length := by rw [List.length_take]; omega
        have a4 : sizeLine = 16777216 := by decide
        omega
      refine append_lobj (k₂ _ _ e) hlen fun h₃ e₃ s₃ => wpAny_pure ?_
      have t₃ : Tk tk h₂ h₃ := fun _ b o xs' n' c d e' => s₃.extBut b o (fun q => by rw [q, k₂ _ _ e] at e'; cases e'; simp at c) e'
      refine h₁ h₃ tk₂ ⟨_, e₃, ys ++ [y], m + 1, rfl, ?_⟩ fun b o hb e' => s₃.extBut b o (fun q => hb (by rw [q]; exact List.mem_singleton.mpr rfl)) (k₂ _ _ e')
      rw [take_filter_succ p xs i a ea]
      simp only [hp, if_true]
      exact (L.mono fun _ _ g' => hG _ _ _ _ (k₂.tk.trans t₃) g').snoc (hG _ _ _ _ t₃ g)
    · refine ⟨rfl, ?_⟩
      obtain ⟨m, hm⟩ := F'.ns
      refine ⟨m, hm, hfin D C h' tk' ⟨F'.keep, hD, hC, Nat.ne_of_lt hDC, ⟨m, hm⟩, ?_⟩⟩
      obtain ⟨o, e, L⟩ := hJ'
      rw [List.take_length] at L
      exact ⟨o, e, L⟩
  · intro I acc env' R s' h0 h1
    exact codeAny_compStart_list h0 (h1 _ _ h0)

/-- a list comprehension of one clause, read off -/
theorem Ev.listComp {elt target iter : Expr} {ifs : List Expr} {scope : Scope} {pos : Pos} {cl : List (Str × Addr)} {tk : Bool} {xs : List α} {P : α → VP} {G : α → VP}
    (p : α → Bool) (V : α → (Str → Option Value) → Heap → Prop)
    (hclos : closureFor scope env = pure cl) (hcp : cl.Pairwise fun x y => x.2 ≠ y.2) (hcl : ∀ q ∈ cl, ∃ v, s.heap.IsCell q.2 v)
    (hV : ∀ a ρ h h', V a ρ h → Kp h h' → V a ρ h') (hG : ∀ a y h h', Tk tk h h' → G a y h → G a y h') (hn : xs.length ≤ 1000)
    (hsrc : Src prog w A target tk (eval iter env) xs P s)
    (hassign : ∀ a C, a ∈ xs → Assigns prog w A s.heap (cenv scope cl env C) (ncells scope C) target (P a) (V a))
    (htests : ∀ a C ρ h tk', a ∈ xs → V a ρ h → Kp s.heap h → Fm s.heap (cenv scope cl env C) (ncells scope C) ρ h → Ev (model prog w) A (tests ifs (cenv scope cl env C)) (fun ok _ => ok = p a) { s with heap := h, toks := tk' })
    (helt : ∀ a C ρ h tk', a ∈ xs → p a = true → V a ρ h → Kp s.heap h → Fm s.heap (cenv scope cl env C) (ncells scope C) ρ h → Ev (model prog w) A (eval elt (cenv scope cl env C)) (G a) { s with heap := h, toks := tk' })
    (hfold : ∀ x, foldedSetIterable iter env x = pure x := by intro _; rfl) (hk : scope.kind = .function := by rfl) (hnames : ∀ x ∈ scope.names, x.2 = .local → scope.names.lookup x.1 = some .local := by decide) :
    Ev (model prog w) A (eval (.ListComp elt [⟨target, iter, ifs, 0⟩] scope pos) env) (fun v h => IsL G (xs.filter p) v h ∧ ∃ a, v = .ref a ∧ s.heap.get? a = none) s := by
  intro E
  rw [eval_ListComp]
  refine listComp_core p V hclos hcp hcl hV hG hn hsrc hassign htests helt (fun D C h' tk' x => ?_) hfold hk hnames
  obtain ⟨m, hm⟩ := x.ns
  refine ⟨m, hm, fun h'' hs'' => ?_⟩
  obtain ⟨k, o, e, ys, n, rfl, L⟩ := x.sameBut hs'' (LstOf.tk hG)
  exact ⟨keeps_mk k, ⟨D, ys, n, rfl, e, L⟩, D, rfl, x.nD⟩

theorem used_frame {hb : Heap} {fc : List Addr} {ρ : Str → Option Value} {y : Str} {C D : Addr} {py : Pos} {Φ : Obj → Heap → Prop} {tk : Bool} {Q : Value → Shared → Prop} {h' : Heap} {tk' : Nat}
    (F : Fm hb env fc ρ s.heap) (ho : Own env fc y) (hC : ∀ x c, env.cells.lookup x = some c → ∃ o, s.heap.get? c = some o) (hΦ : ∀ o h h', Tk tk h h' → Φ o h → Φ o h') (x : CompDone s C D Φ h')
    (hQ : ∀ h' tk', Fm hb env fc (upd ρ y (.ref D)) h' → KpF env fc s.heap h' → s.heap.get? D = none → (∃ o, h'.get? D = some o ∧ Φ o h') → Q .none { s with heap := h', toks := tk' }) :
    compPost (model prog w) A E (some (assign (.Name y py) env)) Q (.ref D) C (.ok .next) { s with heap := h', toks := tk' } := by
  have CL : C ≠ env.locals := fun q => by
    obtain ⟨m, o, es, ep, e, _⟩ := F.ns
    have := x.nC; rw [q, e] at this; cases this
  have CF : ∀ c ∈ fc, c ≠ C := fun c hc q => by
    obtain ⟨v, o, e, _⟩ := F.cells c hc
    have := x.nC; rw [← q, e] at this; cases this
  have DL : D ≠ env.locals := fun q => by
    obtain ⟨m, o, es, ep, e, _⟩ := F.ns
    have := x.nD; rw [q, e] at this; cases this
  have DF : D ∉ fc := fun hc => by
    obtain ⟨v, o, e, _⟩ := F.cells D hc
    have := x.nD; rw [e] at this; cases this
  show wpAny _ A (assign (.Name y py) env (.ref D)) _ _ _
  have F' : Fm hb env fc ρ h' := F.kept x.kp
  refine wpAny_assign_Name (F'.store ho fun h₂ tk₂ F₂ kf => ?_)
  obtain ⟨m, hm⟩ := x.ns
  have hm₂ : h₂.Ns C m := hm.at' fun o e => kf C o CL (fun hc => CF C hc rfl) e
  refine ⟨m, hm₂, fun h₃ hs₃ => ?_⟩
  obtain ⟨o, e, p⟩ := x.at_
  have e₂ : h₂.get? D = some o := kf D o DL DF e
  have t₃ : Tk tk h₂ h₃ := fun _ b o xs n _ d e => hs₃.extBut b o (fun q => by
    obtain ⟨o', es, ep, e', d', _⟩ := hm₂
    rw [q, e'] at e; cases e; rw [d'] at d; cases d) e
  have hbC : hb.get? C = none := none_of (s := { s with heap := hb }) (fun b o e => F.keep b o e) x.nC
  have F₃ : Fm hb env fc (upd ρ y (.ref D)) h₃ := by
    refine ⟨F₂.kind, F₂.apart, ?_, fun b o q => hs₃.extBut b o (fun z => by rw [z, hbC] at q; cases q) (F₂.keep b o q), fun z v q => ?_, fun c hc => ?_, F₂.freshL, F₂.freshC⟩
    · obtain ⟨m', hn⟩ := F₂.ns; exact ⟨m', hn.sameBut hs₃ (Ne.symm CL)⟩
    · rcases F₂.vars z v q with ⟨a1, m', hn, em⟩ | ⟨a1, c1, ec, hc1⟩
      · exact .inl ⟨a1, m', hn.sameBut hs₃ (Ne.symm CL), em⟩
      · refine .inr ⟨a1, c1, ec, hc1.sameBut hs₃ fun qc => ?_⟩
        obtain ⟨o', e'⟩ := hC z c1 ec
        have := x.nC; rw [← qc, e'] at this; cases this
    · obtain ⟨v, hv⟩ := F₂.cells c hc; exact ⟨v, hv.sameBut hs₃ (CF c hc)⟩
  refine hQ h₃ tk₂ F₃ (fun b o b1 b2 q => hs₃.extBut b o (fun z => by rw [z, x.nC] at q; cases q) (kf b o b1 b2 (x.kp b o q))) x.nD ⟨o, hs₃.extBut _ _ x.ne e₂, hΦ _ _ _ t₃ (hΦ _ _ _ (F'.sq kf).tk p)⟩
end
end Mine

end

-- ======== Base6 ========
section
open PySem PySem.W PyProof.Rows
set_option maxRecDepth 100000
namespace Mine

/-- an iterator as zip asks it -/
structure Nx (prog : Program) (w : World) (it : Addr) (fp : List Addr) (n : Nat) (P : Nat → Value → Prop) (St : Nat → Heap → Prop) : Prop where
  mem : it ∈ fp
  frame : ∀ i h h', St i h → (∀ b ∈ fp, ∀ o, h.get? b = some o → h'.get? b = some o) → St i h'
  live : ∀ i h, St i h → ∀ b ∈ fp, ∃ o, h.get? b = some o
  item : ∀ (A : Around) i (s : Shared) (Q : Value → Shared → Prop) (E : Value → Shared → Prop), i < n → St i s.heap →
    (∀ v h' tk, P i v → St (i + 1) h' → Heap.SameBut it s.heap h' → Q v { s with heap := h', toks := tk }) → wpAny (model prog w) A (Builtin.SmallTypes.nextOf (.ref it)) Q E s
  done : ∀ (A : Around) (s : Shared) (Q : Value → Shared → Prop) (E : Value → Shared → Prop), A.handled = none → St n s.heap →
    (∀ h' e, Heap.ExtBut it s.heap h' → (∃ o, h'.get? e = some o ∧ o.cls = .type "StopIteration") → E (.ref e) { s with heap := h' }) → wpAny (model prog w) A (Builtin.SmallTypes.nextOf (.ref it)) Q E s

section
variable {prog : Program} {w : World} {A : Around} {E : Value → Shared → Prop} {s : Shared}

theorem Nx.list {it l : Addr} (hne : l ≠ it) (items : Array Value) : Nx prog w it [it, l] items.size (fun i v => items[i]? = some v) (fun i h => h.IsListIter it l i ∧ h.IsList l items) where
  mem := by simp
  frame := fun _ _ _ st hk => ⟨st.1.at fun o e => hk it (by simp) o e, st.2.at fun o e => hk l (by simp) o e⟩
  live := fun i h st b hb => by
    simp at hb
    rcases hb with rfl | rfl
    · obtain ⟨o, e, _⟩ := st.1; exact ⟨o, e⟩
    · obtain ⟨o, e, _⟩ := st.2; exact ⟨o, e⟩
  item := fun A i s Q E hi st hQ => wpAny_nextOf_list_item st.1 st.2 (x := items[i]) (by simp [hi]) fun h' a b => hQ _ h' s.toks (by simp [hi]) ⟨a, st.2.extBut b.extBut hne⟩ b
  done := fun A s Q E hh st hE => wpAny_nextOf_list_end hh st.1 st.2 (by simp) hE

theorem nextOf_tuple_item {it t : Addr} {i : Nat} {items} {x : Value} {Q : Value → Shared → Prop} (hit : s.heap.IsTupleIter it t i) (ht : s.heap.IsTuple t items) (hx : items[i]? = some x)
    (hQ : ∀ h', h'.IsTupleIter it t (i + 1) → Heap.SameBut it s.heap h' → Q x { s with heap := h' }) : wpAny (model prog w) A (Builtin.SmallTypes.nextOf (.ref it)) Q E s := by
  obtain ⟨o, ho, hc, hd⟩ := id hit
  obtain ⟨ol, hol, _, nl, hdl⟩ := ht
  unfold Builtin.SmallTypes.nextOf
  refine wpAny_bind (wpAny_callSpecial?_slot (name := Str.ofString "__next__") hit.typeIs F.slot_tuple_iterator_next
    (wpAny_call_entry F.slot_tuple_iterator_next hit.typeIs F.entry_tuple_iterator_next ?_ (F.args_tuple_iterator_next_1 _)))
  show wpAny _ _ (field (.ref it) 0 >>= _) _ _ s
  refine wpAny_bind (wpAny_field ho hd (x := .ref t) rfl ?_)
  show wpAny _ _ (if (Value.ref t == Value.none) = true then _ else _) _ _ s
  rw [if_neg (show ¬ ((Value.ref t == Value.none) = true) from Bool.false_ne_true)]
  show wpAny _ _ (field (.ref it) 1 >>= _) _ _ s
  refine wpAny_bind (wpAny_field ho hd (x := .int i 0) rfl ?_)
  show wpAny _ _ (seqItems? (.ref t) >>= _) _ _ s
  refine wpAny_bind (wpAny_seqItems hol hdl ?_)
  simp only [Int.toNat_natCast, hx]
  refine wpAny_bind (wpAny_setField ho hd (by simp) (wpAny_pure ⟨x, rfl, wpAny_pure (hQ _ ?_ (Heap.SameBut.update ..))⟩))
  exact ⟨_, Heap.get?_update_self _ ho (Obj.isFreed_of_fields (Obj.data_mapFields hd _)), (Obj.cls_mapFields ..).trans hc, by
    rw [Obj.data_mapFields hd]; simp [rawInt]⟩

theorem nextOf_tuple_end {it t : Addr} {i : Nat} {items} {Q : Value → Shared → Prop} (hh : A.handled = none) (hit : s.heap.IsTupleIter it t i) (ht : s.heap.IsTuple t items) (hx : items[i]? = none)
    (hE : ∀ h' e, Heap.ExtBut it s.heap h' → (∃ o, h'.get? e = some o ∧ o.cls = .type "StopIteration") → E (.ref e) { s with heap := h' }) : wpAny (model prog w) A (Builtin.SmallTypes.nextOf (.ref it)) Q E s := by
  obtain ⟨o, ho, hc, hd⟩ := id hit
  obtain ⟨ol, hol, _, nl, hdl⟩ := ht
  unfold Builtin.SmallTypes.nextOf
  refine wpAny_bind (wpAny_callSpecial?_slot (name := Str.ofString "__next__") hit.typeIs F.slot_tuple_iterator_next
    (wpAny_call_entry F.slot_tuple_iterator_next hit.typeIs F.entry_tuple_iterator_next ?_ (F.args_tuple_iterator_next_1 _)))
  show wpAny _ _ (field (.ref it) 0 >>= _) _ _ s
  refine wpAny_bind (wpAny_field ho hd (x := .ref t) rfl ?_)
  show wpAny _ _ (if (Value.ref t == Value.none) = true then _ else _) _ _ s
  rw [if_neg (show ¬ ((Value.ref t == Value.none) = true) from Bool.false_ne_true)]
  show wpAny _ _ (field (.ref it) 1 >>= _) _ _ s
  refine wpAny_bind (wpAny_field ho hd (x := .int i 0) rfl ?_)
  show wpAny _ _ (seqItems? (.ref t) >>= _) _ _ s
  refine wpAny_bind (wpAny_seqItems hol hdl ?_)
  simp only [Int.toNat_natCast, hx]
  refine wpAny_bind (wpAny_rule (wpAny_bind (wpAny_setField ho hd (by simp) ?_)))
  show wpAny _ _ (newExc (.type "StopIteration") [] >>= _) _ _ _
  refine wpAny_bind ?_
  simp only [newExc, newTuple]
  refine wpAny_bind (wpAny_newObj_type ?_ (by size_fits))
  refine wpAny_bind (m := firstArgMember _ _) (wpAny_of_eq (a := Value.none) (by first | rfl | (simp only [firstArgMember]; rfl)) ?_)
  refine wpAny_newObj_type ?_ (by size_fits)
  simp only [raiseNew]
  refine wpAny_bind (wpAny_handled ?_)
  first | rw [show A.in1.handled = none from hh] | rw [hh]
  refine wpAny_bind (wpAny_pure (wpAny_throw ?_))
  exact hE _ _ (((Heap.SameBut.update ..).extBut.push _).push _) ⟨_, Heap.get?_push_size _ rfl, rfl⟩

theorem Nx.tuple {it l : Addr} (hne : l ≠ it) (items : Array Value) : Nx prog w it [it, l] items.size (fun i v => items[i]? = some v) (fun i h => h.IsTupleIter it l i ∧ h.IsTuple l items) where
  mem := by simp
  frame := fun _ _ _ st hk => ⟨st.1.at fun o e => hk it (by simp) o e, st.2.at fun o e => hk l (by simp) o e⟩
  live := fun i h st b hb => by
    simp at hb
    rcases hb with rfl | rfl
    · obtain ⟨o, e, _⟩ := st.1; exact ⟨o, e⟩
    · obtain ⟨o, e, _⟩ := st.2; exact ⟨o, e⟩
  item := fun A i s Q E hi st hQ => nextOf_tuple_item st.1 st.2 (x := items[i]) (by simp [hi]) fun h' a b => hQ _ h' s.toks (by simp [hi]) ⟨a, st.2.extBut b.extBut hne⟩ b
  done := fun A s Q E hh st hE => nextOf_tuple_end hh st.1 st.2 (by simp) hE

theorem isStrIter_at {h h' : Heap} {a : Addr} {ty : String} {x : Str} {t : Tok} {i : Nat} (y : h.IsStrIter a ty x t i) (k : ∀ o, h.get? a = some o → h'.get? a = some o) : h'.IsStrIter a ty x t i :=
  let ⟨o, ho, r⟩ := y; ⟨o, k o ho, r⟩

theorem nextOf_str_item {it : Addr} {x : Str} {t : Tok} {i c : Nat} {Q : Value → Shared → Prop} (hit : s.heap.IsStrIter it "str_ascii_iterator" x t i) (hx : x.cps[i]? = some c)
    (hQ : ∀ h', h'.IsStrIter it "str_ascii_iterator" x t (i + 1) → Heap.SameBut it s.heap h' → Q (.str ⟨#[c]⟩ s.toks) { s with heap := h', toks := s.toks + 1 }) : wpAny (model prog w) A (Builtin.SmallTypes.nextOf (.ref it)) Q E s := by
  obtain ⟨o, ho, hc, hd⟩ := id hit
  unfold Builtin.SmallTypes.nextOf
  refine wpAny_bind (wpAny_callSpecial?_slot (name := Str.ofString "__next__") hit.typeIs F.slot_str_ascii_iterator_next
    (wpAny_call_entry F.slot_str_ascii_iterator_next hit.typeIs F.entry_str_ascii_iterator_next ?_ (F.args_str_ascii_iterator_next_1 _)))
  show wpAny _ _ (field (.ref it) 0 >>= _) _ _ s
  refine wpAny_bind (wpAny_field ho hd (x := .str x t) rfl ?_)
  show wpAny _ _ (field (.ref it) 1 >>= _) _ _ s
  refine wpAny_bind (wpAny_field ho hd (x := .int i 0) rfl ?_)
  simp only [Int.toNat_natCast, hx]
  refine wpAny_bind (wpAny_setField ho hd (by simp) (wpAny_bind (wpAny_mkStr (wpAny_pure ⟨_, rfl, wpAny_pure (hQ _ ?_ (Heap.SameBut.update ..))⟩) (by show 1 ≤ sizeLine; decide))))
  exact ⟨_, Heap.get?_update_self _ ho (Obj.isFreed_of_fields (Obj.data_mapFields hd _)), (Obj.cls_mapFields ..).trans hc, by
    rw [Obj.data_mapFields hd]; simp [rawInt]⟩

theorem nextOf_str_end {it : Addr} {x : Str} {t : Tok} {i : Nat} {Q : Value → Shared → Prop} (hh : A.handled = none) (hit : s.heap.IsStrIter it "str_ascii_iterator" x t i) (hx : x.cps[i]? = none)
    (hE : ∀ h' e, Heap.ExtBut it s.heap h' → (∃ o, h'.get? e = some o ∧ o.cls = .type "StopIteration") → E (.ref e) { s with heap := h' }) : wpAny (model prog w) A (Builtin.SmallTypes.nextOf (.ref it)) Q E s := by
  obtain ⟨o, ho, hc, hd⟩ := id hit
  unfold Builtin.SmallTypes.nextOf
  refine wpAny_bind (wpAny_callSpecial?_slot (name := Str.ofString "__next__") hit.typeIs F.slot_str_ascii_iterator_next
    (wpAny_call_entry F.slot_str_ascii_iterator_next hit.typeIs F.entry_str_ascii_iterator_next ?_ (F.args_str_ascii_iterator_next_1 _)))
  show wpAny _ _ (field (.ref it) 0 >>= _) _ _ s
  refine wpAny_bind (wpAny_field ho hd (x := .str x t) rfl ?_)
  show wpAny _ _ (field (.ref it) 1 >>= _) _ _ s
  refine wpAny_bind (wpAny_field ho hd (x := .int i 0) rfl ?_)
  simp only [Int.toNat_natCast, hx]
  refine wpAny_bind (wpAny_rule (wpAny_bind (wpAny_setField ho hd (by simp) (wpAny_bind (wpAny_letGo ?_)))))
  show wpAny _ _ (newExc (.type "StopIteration") [] >>= _) _ _ _
  refine wpAny_bind ?_
  simp only [newExc, newTuple]
  refine wpAny_bind (wpAny_newObj_type ?_ (by size_fits))
  refine wpAny_bind (m := firstArgMember _ _) (wpAny_of_eq (a := Value.none) (by first | rfl | (simp only [firstArgMember]; rfl)) ?_)
  refine wpAny_newObj_type ?_ (by size_fits)
  simp only [raiseNew]
  refine wpAny_bind (wpAny_handled ?_)
  first | rw [show A.in1.handled = none from hh] | rw [hh]
  refine wpAny_bind (wpAny_pure (wpAny_throw ?_))
  exact hE _ _ (((Heap.SameBut.update ..).extBut.push _).push _) ⟨_, Heap.get?_push_size _ rfl, rfl⟩

theorem Nx.str {it : Addr} (x : Str) (t : Tok) : Nx prog w it [it] x.cps.size (fun i v => ∃ c u, x.cps[i]? = some c ∧ v = .str ⟨#[c]⟩ u) (fun i h => h.IsStrIter it "str_ascii_iterator" x t i) where
  mem := by simp
  frame := fun _ _ _ st hk => isStrIter_at st fun o e => hk it (by simp) o e
  live := fun i h st b hb => by
    simp at hb; subst hb
    obtain ⟨o, e, _⟩ := st; exact ⟨o, e⟩
  item := fun A i s Q E hi st hQ => nextOf_str_item (c := x.cps[i]) st (by simp [hi]) fun h' a b => hQ _ h' _ ⟨x.cps[i], s.toks, by simp [hi], rfl⟩ a b
  done := fun A s Q E hh st hE => nextOf_str_end hh st (by simp) hE

/-- zip's own objects and its two iterators lie apart -/
structure ZA (z TI TO i1 i2 : Addr) (fp1 fp2 : List Addr) : Prop where
  TIz : TI ≠ z
  TOz : TO ≠ z
  TITO : TI ≠ TO
  TI1 : TI ∉ fp1
  TI2 : TI ∉ fp2
  z1 : z ∉ fp1
  z2 : z ∉ fp2
  TO1 : TO ∉ fp1
  TO2 : TO ∉ fp2
  i12 : i1 ∉ fp2
  i21 : i2 ∉ fp1

theorem ne_of_mem_not {a b : Addr} {l : List Addr} (h : a ∈ l) (h' : b ∉ l) : a ≠ b := fun e => h' (e ▸ h)

section
variable {z TI TO i1 i2 : Addr} {fp1 fp2 : List Addr} {n1 n2 : Nat} {P1 P2 : Nat → Value → Prop} {S1 S2 : Nat → Heap → Prop} (N1 : Nx prog w i1 fp1 n1 P1 S1) (N2 : Nx prog w i2 fp2 n2 P2 S2) (D : ZA z TI TO i1 i2 fp1 fp2)

include N1 N2 D
theorem zipN_item {i : Nat} {a b : Value} {Q : Value → Shared → Prop} (h1 : i < n1) (h2 : i < n2) (hz : IsZip s.heap z TI TO .none) (hTI : IsPair s.heap TI (.ref i1) (.ref i2)) (hTO : IsPair s.heap TO a b) (s1 : S1 i s.heap) (s2 : S2 i s.heap)
    (hQ : ∀ h' tk (T : Addr) x y, IsZip h' z TI TO (rawInt T) → IsPair h' TO x y → P1 i x → P2 i y → S1 (i + 1) h' → S2 (i + 1) h' → IsPair h' T x y → T ≠ z → (∀ c o, c ≠ z → c ≠ TO → c ≠ i1 → c ≠ i2 → s.heap.get? c = some o → h'.get? c = some o) → Q (.ref T) { s with heap := h', toks := tk }) :
    wpAny (model prog w) A (Builtin.«zip.__next__» ⟨[.ref z], []⟩) (fun fin s' => ∃ v, fin = .done (.ret v) ∧ Q v s') E s := by
  have iz1 : i1 ≠ z := ne_of_mem_not N1.mem D.z1
  have iz2 : i2 ≠ z := ne_of_mem_not N2.mem D.z2
  have iO1 : i1 ≠ TO := ne_of_mem_not N1.mem D.TO1
  have iO2 : i2 ≠ TO := ne_of_mem_not N2.mem D.TO2
  have ii : i2 ≠ i1 := ne_of_mem_not N2.mem D.i12
  show wpAny _ _ (field (.ref z) 2 >>= _) _ _ _
  refine wpAny_bind (wpAny_field hz rfl (x := .bool false) rfl ?_)
  show wpAny _ _ (field (.ref z) 3 >>= _) _ _ _
  refine wpAny_bind (wpAny_field hz rfl (x := .ref TI) rfl ?_)
  refine wpAny_bind (wpAny_seqItems hTI rfl ?_)
  show wpAny _ _ (Builtin.SmallTypes.ownedTupleIsFree (.ref z) >>= _) _ _ _
  refine wpAny_bind ?_
  unfold Builtin.SmallTypes.ownedTupleIsFree
  refine wpAny_bind (wpAny_field hz rfl (x := .none) rfl (wpAny_pure ?_))
  simp only [if_true]
  refine wpAny_bind (wpAny_rule ?_)
  refine wpAny_bind (wpAny_field hz rfl (x := .ref TO) rfl ?_)
  refine wpAny_bind (wpAny_setField_rec hz (by simp) fun h₁ hz₁ hs₁ => ?_)
  replace hz₁ : IsZip h₁ z TI TO .ellipsis := hz₁
  refine wpAny_bind ?_
  simp only [List.zipIdx_cons, List.zipIdx_nil, List.forIn_cons, List.forIn_nil]
  refine wpAny_bind (wpAny_bind (wpAny_onRaise ?_))
  show wpAny _ _ (Builtin.SmallTypes.nextOf (.ref i1) >>= _) _ _ _
  have a1 : S1 i h₁ := N1.frame _ _ _ s1 fun b hb o e => hs₁.extBut b o (ne_of_mem_not hb D.z1) e
  have a2 : S2 i h₁ := N2.frame _ _ _ s2 fun b hb o e => hs₁.extBut b o (ne_of_mem_not hb D.z2) e
  refine wpAny_bind (N1.item _ i _ _ _ h1 a1 fun x h₂ tk₂ px b1 hs₂ => wpAny_pure ?_)
  have b2 : S2 i h₂ := N2.frame _ _ _ a2 fun b hb o e => hs₂.extBut b o (ne_of_mem_not hb D.i12) e
  have hTO₂ : IsPair h₂ TO a b := hs₂.extBut _ _ (Ne.symm iO1) (hs₁.extBut _ _ D.TOz hTO)
  refine wpAny_bind (wpAny_seqItems hTO₂ rfl ?_)
  refine wpAny_bind (wpAny_updateSeq_pair hTO₂ fun h₃ hTO₃ hs₃ => ?_)
  replace hTO₃ : IsPair h₃ TO x b := hTO₃
  refine wpAny_bind (wpAny_letGo (wpAny_pure ?_))
  refine wpAny_bind (wpAny_bind (wpAny_onRaise ?_))
  show wpAny _ _ (Builtin.SmallTypes.nextOf (.ref i2) >>= _) _ _ _
  have c1 : S1 (i + 1) h₃ := N1.frame _ _ _ b1 fun b hb o e => hs₃.extBut b o (ne_of_mem_not hb D.TO1) e
  have c2 : S2 i h₃ := N2.frame _ _ _ b2 fun b hb o e => hs₃.extBut b o (ne_of_mem_not hb D.TO2) e
  refine wpAny_bind (N2.item _ i _ _ _ h2 c2 fun y h₄ tk₄ py d2 hs₄ => wpAny_pure ?_)
  have d1 : S1 (i + 1) h₄ := N1.frame _ _ _ c1 fun b hb o e => hs₄.extBut b o (ne_of_mem_not hb D.i21) e
  have hTO₄ : IsPair h₄ TO x b := hs₄.extBut _ _ (Ne.symm iO2) hTO₃
  refine wpAny_bind (wpAny_seqItems hTO₄ rfl ?_)
  refine wpAny_bind (wpAny_updateSeq_pair hTO₄ fun h₅ hTO₅ hs₅ => ?_)
  replace hTO₅ : IsPair h₅ TO x y := hTO₅
  refine wpAny_bind (wpAny_letGo (wpAny_pure (wpAny_pure ?_)))
  refine wpAny_bind (wpAny_seqItems hTO₅ rfl ?_)
  refine wpAny_bind (wpAny_newTuple ?_)
  have e1 : S1 (i + 1) h₅ := N1.frame _ _ _ d1 fun b hb o e => hs₅.extBut b o (ne_of_mem_not hb D.TO1) e
  have e2 : S2 (i + 1) h₅ := N2.frame _ _ _ d2 fun b hb o e => hs₅.extBut b o (ne_of_mem_not hb D.TO2) e
  have hz₅ : IsZip h₅ z TI TO .ellipsis := hs₅.extBut _ _ (Ne.symm D.TOz) (hs₄.extBut _ _ (Ne.symm iz2) (hs₃.extBut _ _ (Ne.symm D.TOz) (hs₂.extBut _ _ (Ne.symm iz1) hz₁)))
  have hk₅ : ∀ c o, c ≠ z → c ≠ TO → c ≠ i1 → c ≠ i2 → s.heap.get? c = some o → h₅.get? c = some o := fun c o c1 c2 c3 c4 e =>
    hs₅.extBut _ _ c2 (hs₄.extBut _ _ c4 (hs₃.extBut _ _ c2 (hs₂.extBut _ _ c3 (hs₁.extBut _ _ c1 e))))
  have hzlt : z < h₅.objs.size := Heap.lt_size hz₅
  show wpAny _ _ (Builtin.SmallTypes.ownedTupleHandOut (.ref z) (.ref h₅.objs.size) >>= _) _ _ _
  refine wpAny_bind ?_
  unfold Builtin.SmallTypes.ownedTupleHandOut
  have hz₆ : IsZip (h₅.push { cls := .type "tuple", data := .seq #[x, y] }) z TI TO .ellipsis := Heap.get?_push_of_some _ hz₅
  refine wpAny_bind (wpAny_setField_rec hz₆ (by simp) fun h₇ hz₇ hs₇ => ?_)
  replace hz₇ : IsZip h₇ z TI TO (rawInt h₅.objs.size) := hz₇
  refine wpAny_setField_rec hz₇ (by simp) fun h₈ hz₈ hs₈ => ?_
  replace hz₈ : IsZip h₈ z TI TO (rawInt h₅.objs.size) := hz₈
  have up : ∀ c o, c ≠ z → h₅.get? c = some o → h₈.get? c = some o := fun c o c1 e => hs₈.extBut _ _ c1 (hs₇.extBut _ _ c1 (Heap.get?_push_of_some _ e))
  have hT₈ : IsPair h₈ h₅.objs.size x y := hs₈.extBut _ _ (Nat.ne_of_gt hzlt) (hs₇.extBut _ _ (Nat.ne_of_gt hzlt) (Heap.get?_push_size _ rfl))
  refine wpAny_pure ⟨_, rfl, ?_⟩
  exact hQ h₈ _ _ x y hz₈ (up _ _ D.TOz hTO₅) px py (N1.frame _ _ _ e1 fun b hb o e => up b o (ne_of_mem_not hb D.z1) e) (N2.frame _ _ _ e2 fun b hb o e => up b o (ne_of_mem_not hb D.z2) e) hT₈ (Nat.ne_of_gt hzlt)
    fun c o c1 c2 c3 c4 e => up c o c1 (hk₅ c o c1 c2 c3 c4 e)

theorem zipN_end {a b : Value} {Q : Fin → Shared → Prop} (hh : A.handled = none) (hz : IsZip s.heap z TI TO .none) (hTI : IsPair s.heap TI (.ref i1) (.ref i2)) (hTO : IsPair s.heap TO a b) (s1 : S1 n1 s.heap)
    (hE : ∀ h' e, (∀ c o, c ≠ z → c ≠ TO → c ≠ i1 → c ≠ i2 → s.heap.get? c = some o → h'.get? c = some o) → (∃ o, h'.get? e = some o ∧ o.cls = .type "StopIteration") → E (.ref e) { s with heap := h' }) :
    wpAny (model prog w) A (Builtin.«zip.__next__» ⟨[.ref z], []⟩) Q E s := by
  have iz1 : i1 ≠ z := ne_of_mem_not N1.mem D.z1
  show wpAny _ _ (field (.ref z) 2 >>= _) _ _ _
  refine wpAny_bind (wpAny_field hz rfl (x := .bool false) rfl ?_)
  show wpAny _ _ (field (.ref z) 3 >>= _) _ _ _
  refine wpAny_bind (wpAny_field hz rfl (x := .ref TI) rfl ?_)
  refine wpAny_bind (wpAny_seqItems hTI rfl ?_)
  show wpAny _ _ (Builtin.SmallTypes.ownedTupleIsFree (.ref z) >>= _) _ _ _
  refine wpAny_bind ?_
  unfold Builtin.SmallTypes.ownedTupleIsFree
  refine wpAny_bind (wpAny_field hz rfl (x := .none) rfl (wpAny_pure ?_))
  simp only [if_true]
  refine wpAny_bind (wpAny_rule ?_)
  refine wpAny_bind (wpAny_field hz rfl (x := .ref TO) rfl ?_)
  refine wpAny_bind (wpAny_setField_rec hz (by simp) fun h₁ hz₁ hs₁ => ?_)
  replace hz₁ : IsZip h₁ z TI TO .ellipsis := hz₁
  refine wpAny_bind ?_
  simp only [List.zipIdx_cons, List.zipIdx_nil, List.forIn_cons, List.forIn_nil]
  refine wpAny_bind (wpAny_bind (wpAny_onRaise ?_))
  show wpAny _ _ (Builtin.SmallTypes.nextOf (.ref i1) >>= _) _ _ _
  have a1 : S1 n1 h₁ := N1.frame _ _ _ s1 fun b hb o e => hs₁.extBut b o (ne_of_mem_not hb D.z1) e
  refine wpAny_bind (N1.done _ _ _ _ hh a1 fun h₂ e hs₂ he => ?_)
  obtain ⟨oe, hoe, hce⟩ := he
  have hz₂ : IsZip h₂ z TI TO .ellipsis := hs₂ _ _ (Ne.symm iz1) hz₁
  have hez : e ≠ z := fun x => by subst x; rw [hz₂] at hoe; cases hoe; simp at hce
  exact wpAny_setField_rec hz₂ (by simp) fun h₃ _ hs₃ => hE h₃ e (fun c o c1 _ c3 _ x => hs₃.extBut _ _ c1 (hs₂ _ _ c3 (hs₁.extBut _ _ c1 x))) ⟨oe, hs₃.extBut _ _ hez hoe, hce⟩

theorem It.zip {elts : List Expr} {x1 : Nat} {pos : Pos} (hh : A.handled = none) (hn : n1 ≤ n2) :
    It prog w A (.Tuple elts x1 pos) false z ([z, TI, TO] ++ fp1 ++ fp2) [z, TO, i1, i2] n1 (fun i v h => ∃ T x y, v = .ref T ∧ IsPair h T x y ∧ P1 i x ∧ P2 i y)
      (fun i h => IsZip h z TI TO .none ∧ IsPair h TI (.ref i1) (.ref i2) ∧ (∃ a b, IsPair h TO a b) ∧ S1 i h ∧ S2 i h) where
  sub := fun b hb => by
    simp only [List.mem_cons, List.not_mem_nil, or_false] at hb
    rcases hb with rfl | rfl | rfl | rfl
    · simp
    · simp
    · exact List.mem_append_left _ (List.mem_append_right _ N1.mem)
    · exact List.mem_append_right _ N2.mem
  frame := fun i h h' ⟨a, b, ⟨u, v, c⟩, d, e⟩ k => ⟨k z (by simp) _ a, k TI (by simp) _ b, ⟨u, v, k TO (by simp) _ c⟩, N1.frame _ _ _ d fun b hb o q => k b (by simp [hb]) o q, N2.frame _ _ _ e fun b hb o q => k b (by simp [hb]) o q⟩
  step := fun i s Q E hi ⟨hz, hTI, ⟨a, b, hTO⟩, s1, s2⟩ hQ => by
    have hT : s.TypeIs (.ref z) "zip" := ⟨_, hz, rfl⟩
    unfold pyNext
    refine wpAny_bind (wpAny_attempt (wpAny_callSpecial?_slot (name := Str.ofString "__next__") hT F.slot_zip_next
      (wpAny_call_entry F.slot_zip_next hT F.entry_zip_next
        (zipN_item N1 N2 D hi (Nat.lt_of_lt_of_le hi hn) hz hTI hTO s1 s2 fun h' tk T x y a1 a2 a3 a4 a5 a6 a7 a8 hk => wpAny_pure ⟨_, rfl, ?_⟩) (F.args_zip_next_1 _))))
    refine wpAny_letOwnedTupleGo_zip a1 fun h'' hz' hs' => ?_
    refine hQ _ h'' tk ⟨T, x, y, rfl, hs'.extBut _ _ a8 a7, a3, a4⟩ ⟨hz', hs'.extBut _ _ D.TIz (hk _ _ D.TIz D.TITO (fun q => D.TI1 (q ▸ N1.mem)) (fun q => D.TI2 (q ▸ N2.mem)) hTI), ⟨_, _, hs'.extBut _ _ D.TOz a2⟩,
      N1.frame _ _ _ a5 fun b hb o e => hs'.extBut b o (ne_of_mem_not hb D.z1) e, N2.frame _ _ _ a6 fun b hb o e => hs'.extBut b o (ne_of_mem_not hb D.z2) e⟩ fun c o hc e => ?_
    simp only [List.mem_cons, List.not_mem_nil, or_false, not_or] at hc
    exact hs'.extBut _ _ hc.1 (hk c o hc.1 hc.2.1 hc.2.2.1 hc.2.2.2 e)
  done := fun s Q E ⟨hz, hTI, ⟨a, b, hTO⟩, s1, s2⟩ hQ => by
    have hT : s.TypeIs (.ref z) "zip" := ⟨_, hz, rfl⟩
    unfold pyNext
    refine wpAny_bind (wpAny_attempt (wpAny_callSpecial?_slot (name := Str.ofString "__next__") hT F.slot_zip_next
      (wpAny_call_entry F.slot_zip_next hT F.entry_zip_next (zipN_end N1 N2 D hh hz hTI hTO s1 fun h' e hk he => ?_) (F.args_zip_next_1 _))))
    obtain ⟨o, ho, hc⟩ := he
    refine wpAny_bind (wpAny_isInstance (T := "StopIteration") (b := true) ⟨o, ho, hc⟩ isSubtype_stop ?_)
    refine wpAny_pure (hQ _ _ fun c o hc e => ?_)
    simp only [List.mem_cons, List.not_mem_nil, or_false, not_or] at hc
    exact hk c o hc.1 hc.2.1 hc.2.2.1 hc.2.2.2 e
  self := fun i s Q E ⟨hz, _⟩ h => wpAny_pyIter_zip hz h
  nt := fun e => nomatch e
end
end
end Mine

end

-- ======== Base7 ========
section
open PySem PySem.W PyProof.Rows
set_option maxRecDepth 100000
namespace Mine

/-- a text by its signs -/
def tx (l : List Nat) : Str := ⟨l.toArray⟩
theorem tx_cps (l : List Nat) : (tx l).cps = l.toArray := rfl
theorem tx_inj {a b : List Nat} (h : tx a = tx b) : a = b := by
  have := congrArg (fun s : Str => s.cps.toList) h
  simpa [tx] using this

section
variable {prog : Program} {w : World} {A : Around} {E : Value → Shared → Prop} {s : Shared} {α : Type}

theorem It.ofWalks {target : Expr} {tk : Bool} {I : Addr} {fp wr : List Addr} {n : Nat} {P : Nat → Value → Prop} {P' : Nat → Value → Heap → Prop} {St : Nat → Heap → Prop} (W : Walks prog w A I fp wr n P St)
    (hgo : ∀ i v (s : Shared) (Q : Unit → Shared → Prop) (E : Value → Shared → Prop), St i s.heap → Q () s → wpAny (model prog w) A (letOwnedTupleGo target (.ref I) v) Q E s)
    (hP : ∀ i v h, i < n → P i v → St (i + 1) h → P' i v h) (hnt : ∀ i h, St i h → ∀ b ∈ wr, ∀ o xs n, h.get? b = some o → o.data ≠ .seq xs n) : It prog w A target tk I fp wr n P' St where
  sub := W.sub
  frame := W.frame
  step := fun i s Q E hi st hQ => W.item i s _ E hi st fun v h' tk' p st' k => ⟨v, rfl, hgo (i + 1) v _ _ _ st' (hQ v h' tk' (hP i v h' hi p st') st' k)⟩
  done := W.done
  self := W.self
  nt := fun _ => hnt

theorem nt_list {I ax : Addr} {items : Array Value} : ∀ i (h : Heap), (h.IsListIter I ax i ∧ h.IsList ax items) → ∀ b ∈ [I], ∀ o xs n, h.get? b = some o → o.data ≠ .seq xs n := by
  intro i h st b hb o xs n e q
  rw [List.mem_singleton.mp hb] at e
  obtain ⟨o', e', _, d⟩ := st.1
  rw [e'] at e; cases e; rw [d] at q; cases q

/-- a list's items, none of which lies in the heap -/
theorem Src.list {target : Expr} {tk : Bool} {t : Sem Value} {xs : List α} {P : α → VP} (hh : A.handled = none) (ht : Ev (model prog w) A t (IsL P xs) s) (hP : ∀ a v h h', P a v h → P a v h') : Src prog w A target tk t xs P s := by
  intro Q E hQ
  refine ht.use' fun v s₁ k₁ ⟨a, vs, n, e, ho, r⟩ => ?_
  subst e
  have hl : s₁.heap.IsList a vs.toArray := ⟨_, ho, rfl, n, rfl⟩
  have hlt : a < s₁.heap.objs.size := Heap.lt_size ho
  refine wpAny_pyIter_list hl ?_
  have W := Walks.list (prog := prog) (w := w) (A := A) hh s₁.heap.objs.size a (Nat.ne_of_lt hlt) vs.toArray
  have hsz : vs.toArray.size = xs.length := by rw [List.size_toArray, r.length]
  rw [hsz] at W
  refine hQ _ _ _ _ _ (keeps_trans k₁ keeps_push) (It.ofWalks W (fun i v s' Q' E' st q => letGo_listiter st.1 q) (fun i v h hi p st => ?_) nt_list) ⟨⟨_, Heap.get?_push_size _ rfl, rfl, rfl⟩, hl.push _⟩ (fun b hb => ?_) (fun b hb => ?_)
  · have p' : vs.toArray[i]? = some v := p
    obtain ⟨x, ex, px⟩ := r.get' (by simpa using p')
    exact ⟨x, ex, hP _ _ _ _ px⟩
  · show b < (s₁.heap.push _).objs.size
    rw [Heap.size_push]
    rcases List.mem_cons.mp hb with rfl | hb
    · exact Nat.lt_succ_self _
    · rw [List.mem_singleton.mp hb]; exact Nat.lt_succ_of_lt hlt
  · rw [List.mem_singleton.mp hb]
    exact none_of (keeps_heap k₁) (Heap.get?_none_of_le (Nat.le_refl _))

/-- a text's signs -/
theorem Src.str {x : Str} {px : Pos} {tk : Bool} {t : Sem Value} {l : List Nat} (hh : A.handled = none) (ht : Ev (model prog w) A t (IsS (tx l)) s) (ha : ∀ c ∈ l, c < 128) : Src prog w A (.Name x px) tk t l (fun c => IsS (tx [c])) s := by
  intro Q E hQ
  refine ht.use' fun v s₁ k₁ ⟨u, e⟩ => ?_
  subst e
  refine wpAny_pyIter_ascii (by rw [tx_cps]; simpa using ha) ?_
  have W := Walks.strAscii (prog := prog) (w := w) (A := A) hh s₁.heap.objs.size (tx l) u
  have hsz : (tx l).cps.size = l.length := by rw [tx_cps, List.size_toArray]
  rw [hsz] at W
  refine hQ _ _ _ _ _ (keeps_trans k₁ keeps_push) (It.ofWalks W (fun i v s' Q' E' st q => wpAny_pure q) (fun i v h hi p st => ?_) (fun i h st b hb o xs n e q => ?_)) ⟨_, Heap.get?_push_size _ rfl, rfl, rfl⟩ (fun b hb => ?_) (fun b hb => ?_)
  · obtain ⟨c, t', e1, e2⟩ := p
    rw [tx_cps] at e1
    exact ⟨c, by simpa using e1, t', e2⟩
  · rw [List.mem_singleton.mp hb] at e
    obtain ⟨o', e', _, d⟩ := st
    rw [e'] at e; cases e; rw [d] at q; cases q
  · show b < (s₁.heap.push _).objs.size
    rw [Heap.size_push, List.mem_singleton.mp hb]; exact Nat.lt_succ_self _
  · rw [List.mem_singleton.mp hb]
    exact none_of (keeps_heap k₁) (Heap.get?_none_of_le (Nat.le_refl _))
end

section
variable {prog : Program} {w : World} {A : Around} {hb : Heap} {env : Env} {fc : List Addr}
theorem Assigns.name {x : Str} {px : Pos} {P : Value → Heap → Prop} (ho : Own env fc x) (hP : StbQ P) :
    Assigns prog w A hb env fc (.Name x px) P (fun ρ h => ∃ v, ρ x = some v ∧ P v h) :=
  fun v ρ s Q E p F h => wpAny_assign_Name (F.store ho fun h' tk F' kf => h h' tk _ F' ⟨v, by simp [upd], hP _ _ _ (F.sq kf) p⟩ kf)

theorem Assigns.pair {x y : Str} {px py pos : Pos} {k : Nat} {P1 P2 : Value → Prop} (hh : A.handled = none) (hx : Own env fc x) (hy : Own env fc y) (hne : x ≠ y) :
    Assigns prog w A hb env fc (.Tuple [.Name x px, .Name y py] k pos) (fun v h => ∃ a vs n u1 u2, v = .ref a ∧ h.get? a = some (tobj vs n) ∧ vs = [u1, u2] ∧ P1 u1 ∧ P2 u2)
      (fun ρ _ => ∃ u1 u2, ρ x = some u1 ∧ ρ y = some u2 ∧ P1 u1 ∧ P2 u2) := by
  intro v ρ s Q E ⟨a, vs, n, u1, u2, e1, ho, e2, p1, p2⟩ F h
  subst e1 e2
  have ht : s.heap.IsTuple a #[u1, u2] := ⟨_, ho, rfl, n, rfl⟩
  refine wpAny_assign_Tuple hh ht (by rfl) (by rfl) fun h₁ hx₁ => ?_
  have k₁ : Kp s.heap h₁ := fun b o e => hx₁ b o (Nat.ne_of_lt (Heap.lt_size e)) e
  show wpAny _ A (do holding [u2] (assign (.Name x px) env u1); assignInOrder [assign (.Name y py) env] [u2]) Q E _
  refine wpAny_bind (wpAny_holding (wpAny_assign_Name ((F.kept k₁).store hx fun h₂ tk₂ F₂ kf₂ => ?_)))
  show wpAny _ A (do holding [] (assign (.Name y py) env u2); assignInOrder [] []) Q E _
  refine wpAny_bind (wpAny_holding (wpAny_assign_Name (F₂.store hy fun h₃ tk₃ F₃ kf₃ => wpAny_pure ?_)))
  refine h h₃ tk₃ _ F₃ ⟨u1, u2, ?_, ?_, p1, p2⟩ fun b o b1 b2 e => kf₃ b o b1 b2 (kf₂ b o b1 b2 (k₁ b o e))
  · simp [upd, hne]
  · simp [upd]
end
end Mine

end

-- ======== Base8 ========
section
open PySem PySem.W PyProof.Rows
set_option maxRecDepth 100000
namespace Mine

section
variable {prog : Program} {w : World} {A : Around} {s : Shared} {env : Env}

theorem Ev.cstr {x : Str} {k : Nat} {pos : Pos} : Ev (model prog w) A (eval (.Constant (.str x) k pos) env) (IsS x) s := fun _ => wpAny_Constant_str ⟨keeps_tok, _, rfl⟩
theorem Ev.cint {i : Int} {k : Nat} {pos : Pos} : Ev (model prog w) A (eval (.Constant (.int i) k pos) env) (IsI i) s := fun _ => wpAny_Constant_int ⟨keeps_tok, _, rfl⟩
theorem Ev.cstr' {x : Str} {l : List Nat} {k : Nat} {pos : Pos} (h : x = tx l := by rfl) : Ev (model prog w) A (eval (.Constant (.str x) k pos) env) (IsS (tx l)) s := h ▸ Ev.cstr

theorem Ev.sub {value slice : Expr} {pos : Pos} {P1 P2 R : VP} (h1 : Ev (model prog w) A (eval value env) P1 s) (h2 : ∀ o s₁, Keeps s s₁ → P1 o s₁.heap → Ev (model prog w) A (eval slice env) P2 s₁)
    (h3 : ∀ o i s₁ s₂, Keeps s s₁ → P1 o s₁.heap → Keeps s₁ s₂ → P2 i s₂.heap → Ev (model prog w) A (subscriptTail value slice o i) R s₂) : Ev (model prog w) A (eval (.Subscript value slice pos) env) R s :=
  fun _ => Subscript_ (h1.use' fun o s₁ k₁ p₁ => (h2 o s₁ k₁ p₁).use' fun i s₂ k₂ p₂ => (h3 o i s₁ s₂ k₁ p₁ k₂ p₂).use' fun _ _ k₃ p₃ => ⟨keeps_trans (keeps_trans k₁ k₂) k₃, p₃⟩)

theorem Ev.binop {l r : Expr} {op : Operator} {pos : Pos} {P1 P2 R : VP} (h1 : Ev (model prog w) A (eval l env) P1 s) (h2 : ∀ o s₁, Keeps s s₁ → P1 o s₁.heap → Ev (model prog w) A (eval r env) P2 s₁)
    (h3 : ∀ o i s₁ s₂, Keeps s s₁ → P1 o s₁.heap → Keeps s₁ s₂ → P2 i s₂.heap → Ev (model prog w) A (binaryOp op o i) R s₂) : Ev (model prog w) A (eval (.BinOp l op r pos) env) R s :=
  fun _ => wpAny_BinOp (h1.use' fun o s₁ k₁ p₁ => (h2 o s₁ k₁ p₁).use' fun i s₂ k₂ p₂ => (h3 o i s₁ s₂ k₁ p₁ k₂ p₂).use' fun _ _ k₃ p₃ => ⟨keeps_trans (keeps_trans k₁ k₂) k₃, p₃⟩)

theorem Ev.cmpT {l r : Expr} {op : CmpOp} {pos : Pos} {whole : Sem Value} {P1 P2 : VP} {b : Bool} (h1 : Ev (model prog w) A (eval l env) P1 s) (h2 : ∀ o s₁, Keeps s s₁ → P1 o s₁.heap → Ev (model prog w) A (eval r env) P2 s₁)
    (h3 : ∀ o i s₁ s₂, Keeps s s₁ → P1 o s₁.heap → Keeps s₁ s₂ → P2 i s₂.heap → Ev (model prog w) A (compareOp op o i) (IsB b) s₂)
    (hm : behindInMarks op r = false := by with_unfolding_all rfl) : Ev (model prog w) A (isTrue (.Compare l [op] [r] pos) env whole) (fun c _ => c = b) s :=
  fun _ => wpAny_isTrue_Compare1 (h1.use' fun o s₁ k₁ p₁ => (h2 o s₁ k₁ p₁).use' fun i s₂ k₂ p₂ => (h3 o i s₁ s₂ k₁ p₁ k₂ p₂).use' fun v s₃ k₃ p₃ => by
    have e : v = .bool b := p₃
    subst e
    exact wpAny_truthy_bool ⟨keeps_trans (keeps_trans k₁ k₂) k₃, rfl⟩) hm
theorem Ev.cmp {l r : Expr} {op : CmpOp} {pos : Pos} {P1 P2 : VP} {b : Bool} (h1 : Ev (model prog w) A (eval l env) P1 s) (h2 : ∀ o s₁, Keeps s s₁ → P1 o s₁.heap → Ev (model prog w) A (eval r env) P2 s₁)
    (h3 : ∀ o i s₁ s₂, Keeps s s₁ → P1 o s₁.heap → Keeps s₁ s₂ → P2 i s₂.heap → Ev (model prog w) A (compareOp op o i) (IsB b) s₂)
    (hm : behindInMarks op r = false := by with_unfolding_all rfl) : Ev (model prog w) A (eval (.Compare l [op] [r] pos) env) (IsB b) s :=
  fun _ => wpAny_Compare1 (h1.use' fun o s₁ k₁ p₁ => (h2 o s₁ k₁ p₁).use' fun i s₂ k₂ p₂ => (h3 o i s₁ s₂ k₁ p₁ k₂ p₂).use' fun v s₃ k₃ p₃ => ⟨keeps_trans (keeps_trans k₁ k₂) k₃, p₃⟩) hm

theorem Ev.tests0 : Ev (model prog w) A (tests [] env) (fun ok _ => ok = true) s := fun _ => wpAny_tests_nil ⟨keeps_refl, rfl⟩
theorem Ev.tests1 {c : Expr} {b : Bool} (h : Ev (model prog w) A (isTrue c env (eval c env)) (fun ok _ => ok = b) s) : Ev (model prog w) A (tests [c] env) (fun ok _ => ok = b) s := fun _ => wpAny_tests_one (h.use' fun _ _ k p => ⟨k, p⟩)
theorem Ev.truthT {e : Expr} {whole : Sem Value} {P : VP} {b : Bool} (h : Ev (model prog w) A whole P s) (ht : ∀ v s₁, Keeps s s₁ → P v s₁.heap → Ev (model prog w) A (truthy v) (fun c _ => c = b) s₁)
    (he : isTrue e env whole = (do let v ← whole; standAt e.pos; holding [v] (truthy v)) := by rfl) : Ev (model prog w) A (isTrue e env whole) (fun c _ => c = b) s :=
  fun _ => wpAny_isTrue_value (h.use' fun v s₁ k₁ p => (ht v s₁ k₁ p).use' fun _ _ k₂ q => ⟨keeps_trans k₁ k₂, q⟩) he
theorem Ev.ifexp {test body orelse : Expr} {pos : Pos} {b : Bool} {P : VP} (ht : Ev (model prog w) A (isTrue test env (eval test env)) (fun c _ => c = b) s)
    (h1 : ∀ s₁, Keeps s s₁ → b = true → Ev (model prog w) A (eval body env) P s₁) (h2 : ∀ s₁, Keeps s s₁ → b = false → Ev (model prog w) A (eval orelse env) P s₁) : Ev (model prog w) A (eval (.IfExp test body orelse pos) env) P s :=
  fun _ => wpAny_IfExp (ht.use' fun c s₁ k₁ e => by
    subst e
    cases c with
    | true => exact (h1 s₁ k₁ rfl).use' fun _ _ k₂ q => ⟨keeps_trans k₁ k₂, q⟩
    | false => exact (h2 s₁ k₁ rfl).use' fun _ _ k₂ q => ⟨keeps_trans k₁ k₂, q⟩)

/-- signs in texts -/
theorem Ev.inStr {c : Nat} {l : List Nat} {t u : Tok} : Ev (model prog w) A (compareOp .In (.str (tx [c]) t) (.str (tx l) u)) (IsB (decide (c ∈ l))) s := fun _ => by
  refine PyProof.Rows.in_str ⟨keeps_refl, ?_⟩
  show Value.bool _ = _
  rw [show tx [c] = ⟨#[c]⟩ from rfl, StrLaws.found_one, tx_cps]
theorem Ev.notInStr {c : Nat} {l : List Nat} {t u : Tok} : Ev (model prog w) A (compareOp .NotIn (.str (tx [c]) t) (.str (tx l) u)) (IsB (!decide (c ∈ l))) s := fun _ => by
  refine PyProof.Rows.notIn_str ⟨keeps_refl, ?_⟩
  show Value.bool _ = _
  rw [show tx [c] = ⟨#[c]⟩ from rfl, StrLaws.found_one, tx_cps]
theorem Ev.eqStr {a b : List Nat} {t u : Tok} : Ev (model prog w) A (compareOp .Eq (.str (tx a) t) (.str (tx b) u)) (IsB (decide (a = b))) s := fun _ => by
  refine PySem.P.eq_str ⟨keeps_refl, ?_⟩
  show Value.bool _ = _
  rw [tx_cps, tx_cps]
  by_cases h : a = b
  · simp [h]
  · simp [h]
theorem Ev.eqInt {a b : Int} {t u : Tok} : Ev (model prog w) A (compareOp .Eq (.int a t) (.int b u)) (IsB (decide (a = b))) s := fun _ => PyProof.Rows.eq_int ⟨keeps_refl, by show Value.bool _ = _; congr 1⟩
theorem Ev.modInt {a b : Int} {t u : Tok} (hb : b ≠ 0) : Ev (model prog w) A (binaryOp .Mod (.int a t) (.int b u)) (IsI (a.fmod b)) s := fun _ => PyProof.Rows.mod_int' hb ⟨keeps_tok, _, rfl⟩
theorem Ev.addInt {a b : Int} {t u : Tok} : Ev (model prog w) A (binaryOp .Add (.int a t) (.int b u)) (IsI (a + b)) s := fun _ => wpAny_add_int ⟨keeps_tok, _, rfl⟩

/-- a dict of texts' keys -/
theorem mapOf_keeps {h h' : Heap} {a : Addr} {f : Str → Option Value} (m : h.MapOf (strKind prog w) a f) (k : Kp h h') : h'.MapOf (strKind prog w) a f := let ⟨o, es, ep, ho, r⟩ := m; ⟨o, es, ep, k _ _ ho, r⟩
theorem Ev.subDict {value slice : Expr} {a : Addr} {f : Str → Option Value} {x : Str} {t : Tok} {u : Value} (m : s.heap.MapOf (strKind prog w) a f) (e : f x = some u)
    (hs : subscripted slice false (.ref a) (.str x t) = operate [.ref a, .str x t] (getItem (.ref a) (.str x t)) := by with_unfolding_all rfl) : Ev (model prog w) A (subscriptTail value slice (.ref a) (.str x t)) (IsV u) s :=
  fun _ => tail_any m.typeIs slot_dict_getitem.lookup (wpAny_getItem_of (strKind_is prog w x t) m e ⟨keeps_tok, rfl⟩) hs

theorem strsAre_of {xs : List (List Nat)} {vs : List Value} {h : Heap} (r : All2 (fun x v => IsS (tx x) v h) xs vs) : StrsAre vs (xs.map tx) := by
  induction r with
  | nil => exact .nil
  | cons a _ ih =>
    obtain ⟨t, rfl⟩ := a
    exact .cons _ t ih
theorem glued_nil (xs : List (List Nat)) : Txt.join (tx []) (xs.map tx) = tx xs.flatten := by
  have go : ∀ (l : List (List Nat)) (acc : List Nat), ((l.map tx).foldl (fun (acc : Array Nat) (p : Str) => acc ++ (tx []).cps ++ p.cps) acc.toArray) = (acc ++ l.flatten).toArray := by
    intro l
    induction l with
    | nil => intro acc; simp
    | cons a r ih =>
      intro acc
      have e1 : acc.toArray ++ (tx []).cps ++ (tx a).cps = (acc ++ a).toArray := by simp [tx]
      rw [List.map_cons, List.foldl_cons, e1, ih (acc ++ a)]
      simp
  unfold Txt.join Builtin.Str.glued
  cases xs with
  | nil => rfl
  | cons a r =>
    have := go r a
    simp only [List.map_cons, List.drop_succ_cons, List.drop_zero, List.headD_cons, List.flatten_cons]
    exact congrArg Str.mk this
theorem Ev.joinL {D : Addr} {vs : List Value} {n : Nat} {t : Tok} {xs : List (List Nat)} (e : s.heap.get? D = some (lobj vs n)) (r : All2 (fun x v => IsS (tx x) v s.heap) xs vs) (hlen : (xs.map List.length).sum ≤ 16777216) :
    Ev (model prog w) A (call (.builtin "str.join") [.str (tx []) t, .ref D]) (IsS (tx xs.flatten)) s := fun _ => by
  refine join_list (ys := xs.map tx) ⟨_, e, rfl, n, rfl⟩ (strsAre_of r) ?_ fun t' k => ?_
  · have e1 : (tx []).length = 0 := rfl
    have e2 : (List.map (fun x => Str.length x) (List.map tx xs)) = xs.map List.length := by
      rw [List.map_map]; apply List.map_congr_left; intro x _; exact List.size_toArray
    rw [e1, Nat.mul_zero, Nat.add_zero, e2]
    exact hlen
  · rw [glued_nil]; exact ⟨keeps_tok, _, rfl⟩

/-- a method of one argument -/
theorem Ev.meth1 {o e : Expr} {name : Str} {apos pos : Pos} {pl : Sem Bool} {P1 P2 R : VP} {id : String} (h1 : Ev (model prog w) A (eval o env) P1 s)
    (hg : ∀ ov s₁ (Q : Value × List Value → Shared → Prop) (E : Value → Shared → Prop), Keeps s s₁ → P1 ov s₁.heap → Q (.builtin id, [ov]) s₁ → wpAny (model prog w) A (getMethod ov name pl) Q E s₁)
    (h2 : ∀ ov s₁, Keeps s s₁ → P1 ov s₁.heap → Ev (model prog w) A (eval e env) P2 s₁)
    (h3 : ∀ ov v s₁ s₂, Keeps s s₁ → P1 ov s₁.heap → Keeps s₁ s₂ → P2 v s₂.heap → Ev (model prog w) A (call (.builtin id) [ov, v]) R s₂)
    (he : starEach [e] env = [(false, eval e env)] := by rfl)
    (hm : eval (.Call (.Attribute o name apos) [e] [] pos) env = (do
      let ov ← eval o env
      standAt apos.atName
      let (f, first) ← holding [ov] (getMethod ov name pl)
      callWith pos f first (backTo pos (starEach [e] env)) []) := by rfl) :
    Ev (model prog w) A (eval (.Call (.Attribute o name apos) [e] [] pos) env) R s := fun E => by
  refine MethodCall_ (h1.use' fun ov s₁ k₁ p₁ => hg ov s₁ _ _ k₁ p₁ ?_) hm
  rw [he]
  refine Calls.callWith_builtin rfl (Calls.evalArgs_plain (Calls.spliced_cons ?_))
  show wpAny _ A (eval e env) _ E s₁
  refine (h2 ov s₁ k₁ p₁).use' fun v s₂ k₂ p₂ => Calls.spliced_nil ?_
  exact (h3 ov v s₁ s₂ k₁ p₁ k₂ p₂).use' fun _ _ k₃ r => ⟨keeps_trans (keeps_trans k₁ k₂) k₃, r⟩

/-- "".join(e) -/
theorem Ev.join {e : Expr} {k : Nat} {p apos pos : Pos} {pl : Sem Bool} {x : Str} {P : VP} {R : VP} (h : ∀ s₁, Keeps s s₁ → Ev (model prog w) A (eval e env) P s₁)
    (hj : ∀ v t s₁, Keeps s s₁ → P v s₁.heap → Ev (model prog w) A (call (.builtin "str.join") [.str x t, v]) R s₁)
    (he : starEach [e] env = [(false, eval e env)] := by rfl)
    (hm : eval (.Call (.Attribute (.Constant (.str x) k p) "join" apos) [e] [] pos) env = (do
      let ov ← eval (.Constant (.str x) k p) env
      standAt apos.atName
      let (f, first) ← holding [ov] (getMethod ov "join" pl)
      callWith pos f first (backTo pos (starEach [e] env)) []) := by rfl) :
    Ev (model prog w) A (eval (.Call (.Attribute (.Constant (.str x) k p) "join" apos) [e] [] pos) env) R s :=
  Ev.meth1 (id := "str.join") (P1 := IsS x) Ev.cstr (fun ov s₁ Q E k₁ ⟨t, e1⟩ q => by subst e1; exact GM.join q) (fun ov s₁ k₁ _ => h s₁ k₁)
    (fun ov v s₁ s₂ k₁ ⟨t, e1⟩ k₂ p₂ => by subst e1; exact hj v t s₂ (keeps_trans k₁ k₂) p₂) he hm
end
end Mine

end

-- ======== Base9 ========
section
open PySem PySem.W PyProof.Rows
set_option maxRecDepth 100000
namespace Mine

/-- all but W stays -/
def KpW (W : List Addr) (h h' : Heap) : Prop := ∀ b o, b ∉ W → h.get? b = some o → h'.get? b = some o
theorem KpW.refl {W : List Addr} {h : Heap} : KpW W h h := fun _ _ _ e => e
theorem KpW.trans {W : List Addr} {h h' h'' : Heap} (a : KpW W h h') (b : KpW W h' h'') : KpW W h h'' := fun c o n e => b c o n (a c o n e)
theorem Kp.kw {W : List Addr} {h h' : Heap} (k : Kp h h') : KpW W h h' := fun b o _ e => k b o e
theorem KpF.kw {env : Env} {fc W : List Addr} {h h' : Heap} (k : KpF env fc h h') (h1 : env.locals ∈ W) (h2 : ∀ c ∈ fc, c ∈ W) : KpW W h h' := fun b o n e => k b o (fun q => n (q ▸ h1)) (fun q => n (h2 b q)) e
theorem sameBut_kw {W : List Addr} {a : Addr} {h h' : Heap} (k : Heap.SameBut a h h') (h1 : a ∈ W) : KpW W h h' := fun b o n e => k.extBut b o (fun q => n (q ▸ h1)) e

/-- a source of a for: what it leans on among the objects that stood is so -/
def SrcF (prog : Program) (w : World) (A : Around) (target : Expr) {α : Type} (t : Sem Value) (xs : List α) (P : α → VP) (so : List Addr) (s : Shared) : Prop :=
  ∀ (Q : Value → Shared → Prop) (E : Value → Shared → Prop),
    (∀ I fp wr St s₂, Keeps s s₂ → It prog w A target true I fp wr xs.length (fun i v h => ∃ a, xs[i]? = some a ∧ P a v h) St → St 0 s₂.heap → (∀ b ∈ fp, b ∈ so ∨ s.heap.get? b = none) → (∀ b ∈ wr, s.heap.get? b = none) → Q (.ref I) s₂) →
    wpAny (model prog w) A t (fun xv s₁ => wpAny (model prog w) A (pyIter xv) Q E s₁) E s

section
variable {prog : Program} {w : World} {A : Around} {E : Value → Shared → Prop} {s : Shared} {env : Env} {α : Type}

theorem SrcF.str {x : Str} {px : Pos} {t : Sem Value} {l : List Nat} (hh : A.handled = none) (ht : Ev (model prog w) A t (IsS (tx l)) s) (ha : ∀ c ∈ l, c < 128) : SrcF prog w A (.Name x px) t l (fun c => IsS (tx [c])) [] s := by
  intro Q E hQ
  refine ht.use' fun v s₁ k₁ ⟨u, e⟩ => ?_
  subst e
  refine wpAny_pyIter_ascii (by rw [tx_cps]; simpa using ha) ?_
  have W := Walks.strAscii (prog := prog) (w := w) (A := A) hh s₁.heap.objs.size (tx l) u
  have hsz : (tx l).cps.size = l.length := by rw [tx_cps, List.size_toArray]
  rw [hsz] at W
  have fresh : s.heap.get? s₁.heap.objs.size = none := none_of (keeps_heap k₁) (Heap.get?_none_of_le (Nat.le_refl _))
  refine hQ _ _ _ _ _ (keeps_trans k₁ keeps_push) (It.ofWalks W (fun i v s' Q' E' st q => wpAny_pure q) (fun i v h hi p st => ?_) (fun i h st b hb o xs n e q => ?_)) ⟨_, Heap.get?_push_size _ rfl, rfl, rfl⟩ (fun b hb => ?_) (fun b hb => ?_)
  · obtain ⟨c, t', e1, e2⟩ := p
    rw [tx_cps] at e1
    exact ⟨c, by simpa using e1, t', e2⟩
  · rw [List.mem_singleton.mp hb] at e
    obtain ⟨o', e', _, d⟩ := st
    rw [e'] at e; cases e; rw [d] at q; cases q
  · rw [List.mem_singleton.mp hb]; exact .inr fresh
  · rw [List.mem_singleton.mp hb]; exact fresh

theorem SrcF.list {target : Expr} {t : Sem Value} {vs : List Value} {so : List Addr} (hh : A.handled = none)
    (ht : Ev (model prog w) A t (fun v h => ∃ a n, v = .ref a ∧ h.get? a = some (lobj vs n) ∧ (a ∈ so ∨ s.heap.get? a = none)) s) : SrcF prog w A target t vs (fun v u _ => u = v) so s := by
  intro Q E hQ
  refine ht.use' fun v s₁ k₁ ⟨a, n, e, ho, hso⟩ => ?_
  subst e
  have hl : s₁.heap.IsList a vs.toArray := ⟨_, ho, rfl, n, rfl⟩
  have hlt : a < s₁.heap.objs.size := Heap.lt_size ho
  refine wpAny_pyIter_list hl ?_
  have fresh : s.heap.get? s₁.heap.objs.size = none := none_of (keeps_heap k₁) (Heap.get?_none_of_le (Nat.le_refl _))
  have W := Walks.list (prog := prog) (w := w) (A := A) hh s₁.heap.objs.size a (Nat.ne_of_lt hlt) vs.toArray
  rw [List.size_toArray] at W
  refine hQ _ _ _ _ _ (keeps_trans k₁ keeps_push) (It.ofWalks W (fun i v s' Q' E' st q => letGo_listiter st.1 q) (fun i v h hi p st => ?_) nt_list) ⟨⟨_, Heap.get?_push_size _ rfl, rfl, rfl⟩, hl.push _⟩ (fun b hb => ?_) (fun b hb => ?_)
  · have p' : vs.toArray[i]? = some v := p
    exact ⟨v, by simpa using p', rfl⟩
  · rcases List.mem_cons.mp hb with rfl | hb
    · exact .inr fresh
    · rw [List.mem_singleton.mp hb]; exact hso
  · rw [List.mem_singleton.mp hb]; exact fresh

/-- a for by what holds between the turns -/
theorem For_it {target iter : Expr} {body : List Stmt} {pos : Pos} {xs : List α} {P : α → VP} {so : List Addr} {Q : Flow → Shared → Prop} (W : List Addr) (J : Nat → Heap → Prop)
    (hsrc : SrcF prog w A target (eval iter env) xs P so s) (hso : ∀ b ∈ W, b ∉ so) (hWs : ∀ b ∈ W, s.heap.get? b ≠ none)
    (hJ : ∀ i h h', J i h → Sq h h' → (∀ b o, s.heap.get? b ≠ none → h.get? b = some o → h'.get? b = some o) → J i h') (h0 : J 0 s.heap)
    (step : ∀ i a v h tk, xs[i]? = some a → P a v h → J i h → wpAny (model prog w) A (assign target env v) (fun _ s₂ => wpAny (model prog w) A (execs body env) (fun fl s₃ => match fl with
      | .next | .cont => ∃ h' tk', s₃ = { s with heap := h', toks := tk' } ∧ J (i + 1) h' ∧ KpW W h h'
      | .brk => Q .next s₃
      | .ret v => Q (.ret v) s₃) (fun _ _ => False) s₂) (fun _ _ => False) { s with heap := h, toks := tk })
    (done : ∀ h tk, J xs.length h → Q .next { s with heap := h, toks := tk })
    (hs : ∀ x, foldedSetIterable iter env x = pure x := by intro _; rfl) :
    wpAny (model prog w) A (exec (.For target iter body [] pos) env) Q E s := by
  refine wpAny_For (hsrc _ _ fun I fp wr St s₂ k₂ W' hst hfp hwr => ?_) hs
  obtain ⟨h₂, t₂, rfl, kk⟩ := k₂
  have ev : ∀ {α : Type} {m : Sem α} {Q' : α → Shared → Prop} {E' : Value → Shared → Prop} {s' : Shared}, wpAny (model prog w) A m Q' (fun _ _ => False) s' → wpAny (model prog w) A m Q' E' s' := fun h => wpAny_mono h (fun _ _ x => x) fun _ _ x => x.elim
  refine codeAny_forLoop_any
    (fun k s' => ∃ h' tk i, s' = { s with heap := h', toks := tk } ∧ St i h' ∧ J i h' ∧ i ≤ xs.length ∧ k = xs.length + 1 - i) ?_ (xs.length + 1)
    ⟨h₂, t₂, 0, rfl, hst, hJ 0 s.heap h₂ h0 (Kp.sq kk) fun b o _ e => kk b o e, Nat.zero_le _, rfl⟩
  rintro k s' ⟨h', tk, i, rfl, hst', hJ', hi, rfl⟩
  have stay : ∀ h₁ : Heap, (∀ b o, b ∉ wr → h'.get? b = some o → h₁.get? b = some o) → J i h₁ := fun h₁ hk₁ =>
    hJ i h' h₁ hJ' (fun b o xs' n d e => hk₁ b o (fun hm => W'.nt rfl i h' hst' b hm o xs' n e d) e) fun b o hne e => hk₁ b o (fun hm => hne (hwr b hm)) e
  by_cases hlt : i < xs.length
  · refine wpAny_mono (W'.step i _ (fun v s₂ => wpAny (model prog w) A (assign target env v) (fun _ s₂ => wpAny (model prog w) A (execs body env) (fun f s₃ => match f with
            | .next | .cont => ∃ m, m < xs.length + 1 - i ∧ ∃ h' tk i, s₃ = { s with heap := h', toks := tk } ∧ St i h' ∧ J i h' ∧ i ≤ xs.length ∧ m = xs.length + 1 - i
            | .brk => Q .next s₃
            | .ret v => Q (.ret v) s₃) (fun _ _ => False) s₂) (fun _ _ => False) s₂) (fun _ _ => False) hlt hst' ?_) (fun r s₁ h₁ => ?_) fun _ _ x => x.elim
    · intro v h₁ tk₁ hP hst₁ hk₁
      obtain ⟨a, ea, pa⟩ := hP
      refine wpAny_mono (step i a v h₁ tk₁ ea pa (stay h₁ hk₁)) (fun _ s₂ h₂ => wpAny_mono h₂ (fun f s₃ h₃ => ?_) fun _ _ x => x) fun _ _ x => x
      have fin : (∃ h' tk', s₃ = { s with heap := h', toks := tk' } ∧ J (i + 1) h' ∧ KpW W h₁ h') → ∃ m, m < xs.length + 1 - i ∧ ∃ h' tk i, s₃ = { s with heap := h', toks := tk } ∧ St i h' ∧ J i h' ∧ i ≤ xs.length ∧ m = xs.length + 1 - i := by
        rintro ⟨h₄, tk₄, e₄, hJ₃, kw⟩
        refine ⟨xs.length + 1 - (i + 1), by omega, h₄, tk₄, i + 1, e₄, W'.frame _ _ _ hst₁ fun b hb o e => kw b o (fun hw => ?_) e, hJ₃, hlt, rfl⟩
        rcases hfp b hb with q | q
        · exact hso b hw q
        · exact hWs b hw q
      cases f with
      | next => exact fin h₃
      | cont => exact fin h₃
      | brk => exact h₃
      | ret v => exact h₃
    · obtain ⟨v, rfl, h₁⟩ := h₁
      refine ev (wpAny_mono h₁ (fun _ s₂ h₂ => ev (wpAny_mono h₂ (fun _ s₃ h₃ => ev (wpAny_mono h₃ (fun f s₄ h₄ => ?_) fun _ _ x => x)) fun _ _ x => x)) fun _ _ x => x)
      cases f <;> exact h₄
  · have hin : i = xs.length := by omega
    subst hin
    refine W'.done _ _ _ hst' fun h₁ tk₁ hk₁ => wpAny_execs_nil ?_
    exact done h₁ tk₁ (stay h₁ hk₁)
end
end Mine

end

-- ======== Fun1 ========
section
open PySem PySem.W PyProof.Rows
set_option maxRecDepth 100000
namespace Mine

noncomputable abbrev KK (w : World) : Frag := Mine.hd.heap_39 w.params
abbrev PG : Program := PySem.Challenge.rw_ph0028_01.row.prog

/-- what stands below every call -/
structure Gd (w : World) (mg mb : Str → Option Value) (h : Heap) : Prop where
  X : (KK w).In h
  g : h.Ns mainGlobals mg
  b : h.Ns builtinsNs mb
  bu : ∀ x : Str, x ≠ "__name__" → mb x = bootBuiltins x
  lim : h.NoLimit
  bm : ∃ bm ob, mg "__builtins__" = some (.ref bm) ∧ bm ≠ builtinsNs ∧ bm ≠ 123 ∧ h.get? bm = some ob ∧ ob.cls = .type "module" ∧ ob.dict = some builtinsNs ∧ ob.data = .plain
  C : CodeHd h 125 123

/-- all but the table of the lambda's code stays -/
def Kt (h h' : Heap) : Prop := ∀ b o, b ≠ 123 → h.get? b = some o → h'.get? b = some o
theorem Kp.kt {h h' : Heap} (k : Kp h h') : Kt h h' := fun b o _ e => k b o e
theorem kk_123 (w : World) : (KK w).lookup 123 = none := rfl
theorem Gd.kt {w : World} {mg mb : Str → Option Value} {h h' : Heap} (G : Gd w mg mb h) (k : Kt h h') : Gd w mg mb h' := by
  refine ⟨fun a o e => k a o (fun q => ?_) (G.X a o e), ?_, ?_, G.bu, ?_, ?_, ?_⟩
  · rw [q, kk_123] at e; cases e
  · obtain ⟨o, es, ep, e, r⟩ := G.g; exact ⟨o, es, ep, k _ _ (by decide) e, r⟩
  · obtain ⟨o, es, ep, e, r⟩ := G.b; exact ⟨o, es, ep, k _ _ (by decide) e, r⟩
  · obtain ⟨mc, ⟨o, es, ep, e, r⟩, q⟩ := G.lim; exact ⟨mc, ⟨o, es, ep, k _ _ (by decide) e, r⟩, q⟩
  · obtain ⟨bm, ob, a1, a2, a3, a4, a5⟩ := G.bm; exact ⟨bm, ob, a1, a2, a3, k _ _ a3 a4, a5⟩
  · obtain ⟨o, vs, f, tf, fl, tg, b, n, tt, e, r⟩ := G.C
    exact ⟨o, vs, f, tf, fl, tg, b, n, tt, k _ _ (by decide) e, r⟩
theorem Gd.kp {w : World} {mg mb : Str → Option Value} {h h' : Heap} (G : Gd w mg mb h) (k : Kp h h') : Gd w mg mb h' := G.kt k.kt

/-- room for n calls more -/
structure Rm (A : Around) (n : Nat) : Prop where
  hh : A.handled = none
  dp : A.depth + n < recursionLimit
  un : A.units + 64 + 8 * n < cLine
  fr : ∃ l, A.frames = some l
theorem Rm.deeper {A : Around} {n : Nat} {env : Env} (R : Rm A (n + 1)) : Rm (A.deeper env) n := by
  refine ⟨R.hh, ?_, ?_, ?_⟩
  · have := R.dp; show A.depth + 1 + n < _; omega
  · have := R.un; show A.units + 3 + 64 + 8 * n < _; omega
  · obtain ⟨l, e⟩ := R.fr; exact ⟨env :: l, by show A.frames.map _ = _; rw [e]; rfl⟩
theorem Rm.lt {A : Around} {n : Nat} (R : Rm A n) : A.depth < recursionLimit := by have := R.dp; omega
section
variable {w : World} {A : Around} {E : Value → Shared → Prop} {s : Shared} {env : Env} {mg mb : Str → Option Value}
theorem gname {x : Str} {pos : Pos} {v : Value} {M : Model} (G : Gd w mg mb s.heap) (hk : env.scope.kind = .function) (e : nsIn (KK w) mainGlobals x = some (some v)) (hg : env.globals = mainGlobals)
    (hx : env.kindOf x = some .globalImplicit) (hd : (x == ("__debug__" : Str)) = false := by decide) : Ev M A (eval (.Name x pos) env) (IsV v) s :=
  fun _ => Calls.Name_function_global hk hx (Calls.loadGlobal_global (hg ▸ G.g) (mg_of G.X G.g e) ⟨keeps_refl, rfl⟩) hd
theorem bname {x : Str} {pos : Pos} {v : Value} {M : Model} (G : Gd w mg mb s.heap) (hk : env.scope.kind = .function) (e : nsIn (KK w) mainGlobals x = some none) (hv : bootBuiltins x = some v) (hn : x ≠ "__name__") (hg : env.globals = mainGlobals) (hb : env.builtins = builtinsNs)
    (hx : env.kindOf x = some .globalImplicit) (hd : (x == ("__debug__" : Str)) = false := by decide) : Ev M A (eval (.Name x pos) env) (IsV v) s :=
  fun _ => Calls.Name_function_global hk hx (Calls.loadGlobal_builtin (hg ▸ G.g) (mg_none_of G.X G.g e) (hb ▸ G.b) ((G.bu x hn).trans hv) ⟨keeps_refl, rfl⟩) hd
end

/-- the text's defs by their addresses -/
noncomputable def fnAt (a : Addr) : FuncData := match (Mine.hd.heap_39 { strHash := fun _ => 0, shareClass := fun _ => 0, mergeTok := id, idOf := fun _ => 0, idOfShared := fun _ _ => 0, followText := fun _ => false, idOfImm := fun _ => 0 }).lookup a with
  | some ⟨_, _, .func f, _⟩ => f
  | _ => default
noncomputable def bodyAt (a : Addr) : List Stmt := match (fnAt a).body with
  | .stmts b => b
  | _ => []
noncomputable abbrev envAt (a n : Addr) : Env := nenv (fnAt a).scope n (fnAt a).globals (fnAt a).closure ((fnAt a).qualname ++ ".<locals>.") (some a) (fnAt a).code none (fnAt a).builtins
noncomputable abbrev fcAt (a n : Addr) : List Addr := ncells (fnAt a).scope n
def OwnAll (env : Env) (fc : List Addr) : List (Str × Value) → Prop
  | [] => True
  | x :: r => Own env fc x.1 ∧ OwnAll env fc r
theorem OwnAll.all {env : Env} {fc : List Addr} {l : List (Str × Value)} : OwnAll env fc l → ∀ x ∈ l, Own env fc x.1 := by
  induction l with
  | nil => intro _ x hx; cases hx
  | cons q r ih =>
    intro h x hx
    rcases List.mem_cons.mp hx with e | e
    · rw [e]; exact h.1
    · exact ih h.2 x e
abbrev retv : Flow → Value
  | .ret v => v
  | _ => .none

section
variable {w : World} {A : Around} {E : Value → Shared → Prop} {s : Shared} {mg mb : Str → Option Value} {k : Nat}
theorem call_at {a : Addr} {o : Obj} {vals : List Value} {binds : List (Str × Value)} {Q : Value → Shared → Prop} (G : Gd w mg mb s.heap) (R : Rm A k)
    (ho : (KK w).lookup a = some o) (hd : o.data = .func (fnAt a)) (hb : (fnAt a).body = .stmts (bodyAt a)) (hcd : codeIn (KK w) (fnAt a).code (fnAt a).qualname = true)
    (hbind : BindsTo s (fnAt a) ⟨vals, []⟩ binds) (hco : (fnAt a).scope.isCoroutine = false) (hgen : (fnAt a).scope.isGenerator = false) (hk : (fnAt a).scope.kind = .function)
    (hcl : (fnAt a).closure.Pairwise fun x y => x.2 ≠ y.2) (hlt : ∀ p ∈ (fnAt a).closure, p.2 < s.heap.objs.size) (hown : OwnAll (envAt a s.heap.objs.size) (fcAt a s.heap.objs.size) binds)
    (h : ∀ n h₁ tk, s.heap.get? n = none → Fm s.heap (envAt a n) (fcAt a n) (updAll (fun _ => none) binds) h₁ →
      wpAny (model PG w) (A.deeper (envAt a n)) (execs (bodyAt a) (envAt a n)) (fun fl s' => Q (retv fl) s') (fun _ _ => False) { s with heap := h₁, toks := tk }) :
    wpAny (model PG w) A (call (.ref a) vals) Q E s :=
  call_fm (G.X _ _ ho) hd G.lim (codeRec_of G.X hcd) hb hbind R.lt hco hgen hk hcl hlt hown.all fun env he h₁ tk F => by
    subst he; exact h _ h₁ tk (Heap.get?_none_of_le (Nat.le_refl _)) F
/-- a def without a closure that changes nothing that stood -/
theorem Ev.callAt {a : Addr} {o : Obj} {vals : List Value} {P : VP} (binds : List (Str × Value)) (G : Gd w mg mb s.heap) (R : Rm A k)
    (h : ∀ n h₁ tk, s.heap.get? n = none → Fm s.heap (envAt a n) (fcAt a n) (updAll (fun _ => none) binds) h₁ →
      wpAny (model PG w) (A.deeper (envAt a n)) (execs (bodyAt a) (envAt a n)) (fun fl s' => Keeps s s' ∧ P (retv fl) s'.heap) (fun _ _ => False) { s with heap := h₁, toks := tk })
    (hown : OwnAll (envAt a s.heap.objs.size) (fcAt a s.heap.objs.size) binds)
    (hbind : BindsTo s (fnAt a) ⟨vals, []⟩ binds := by exact BindsTo.of_eq rfl)
    (ho : (KK w).lookup a = some o := by rfl) (hd : o.data = .func (fnAt a) := by rfl) (hb : (fnAt a).body = .stmts (bodyAt a) := by rfl) (hcd : codeIn (KK w) (fnAt a).code (fnAt a).qualname = true := by rfl)
    (hco : (fnAt a).scope.isCoroutine = false := by rfl) (hgen : (fnAt a).scope.isGenerator = false := by rfl) (hk : (fnAt a).scope.kind = .function := by rfl) (hcl : (fnAt a).closure = [] := by rfl) :
    Ev (model PG w) A (call (.ref a) vals) P s := fun _ =>
  call_at G R ho hd hb hcd hbind hco hgen hk (by rw [hcl]; exact List.Pairwise.nil) (by rw [hcl]; intro p hp; cases hp) hown h
end

section
variable {prog : Program} {w : World} {A : Around} {s : Shared} {env : Env} {mg mb : Str → Option Value}
/-- a built-in function of one argument, by its name -/
theorem Ev.bcall1 {f e : Expr} {pos : Pos} {id : String} {P R : VP} (h0 : Ev (model prog w) A (eval f env) (IsV (.builtin id)) s) (h1 : ∀ s₁, Keeps s s₁ → Ev (model prog w) A (eval e env) P s₁)
    (h2 : ∀ v s₁, Keeps s s₁ → P v s₁.heap → Ev (model prog w) A (call (.builtin id) [v]) R s₁)
    (hs : starEach [e] env = [(false, eval e env)] := by rfl)
    (he : eval (.Call f [e] [] pos) env = (do callWith pos (← eval f env) [] (backTo pos (starEach [e] env)) (backToKw pos (keywordEach [] env))) := by rfl) : Ev (model prog w) A (eval (.Call f [e] [] pos) env) R s := fun E => by
  refine Call_ (h0.use' fun v s₁ k₁ e1 => ?_) he
  have e1 : v = .builtin id := e1
  subst e1
  rw [hs]
  refine Calls.callWith_builtin rfl (Calls.evalArgs_plain (Calls.spliced_cons ?_))
  show wpAny _ A (eval e env) _ E s₁
  refine (h1 s₁ k₁).use' fun v s₂ k₂ p₂ => Calls.spliced_nil ?_
  exact (h2 v s₂ (keeps_trans k₁ k₂) p₂).use' fun _ _ k₃ r => ⟨keeps_trans (keeps_trans k₁ k₂) k₃, r⟩
theorem Ev.lenStr {l : List Nat} {t : Tok} (hl : l.length ≤ 1000) : Ev (model prog w) A (call (.builtin "len") [.str (tx l) t]) (IsI l.length) s := fun _ => by
  have e : (tx l).length = l.length := List.size_toArray
  exact PySem.P.len_str (by rw [e]; omega) ⟨keeps_tok, s.toks + 1, by rw [e]⟩
theorem Ev.leInt {a b : Int} {t u : Tok} : Ev (model prog w) A (compareOp .LtE (.int a t) (.int b u)) (IsB (decide (a ≤ b))) s := fun _ => PyProof.Rows.le_int ⟨keeps_refl, rfl⟩
theorem Ev.gtInt {a b : Int} {t u : Tok} : Ev (model prog w) A (compareOp .Gt (.int a t) (.int b u)) (IsB (decide (b < a))) s := fun _ => PyProof.Rows.gt_int ⟨keeps_refl, rfl⟩
theorem Ev.subList0 {value slice : Expr} {a : Addr} {vs : List Value} {n : Nat} {i : Int} {t : Tok} {u : Value} (e : s.heap.get? a = some (lobj vs n)) (h0 : 0 ≤ i) (h1 : i < 1000) (hx : vs[i.toNat]? = some u)
    (hs : subscripted slice false (.ref a) (.int i t) = operate [.ref a, .int i t] (getItem (.ref a) (.int i t)) := by with_unfolding_all rfl) : Ev (model prog w) A (subscriptTail value slice (.ref a) (.int i t)) (IsV u) s := fun _ => by
  have hl : s.heap.IsList a vs.toArray := ⟨_, e, rfl, n, rfl⟩
  exact tail_any hl.typeIs slot_list_getitem.lookup (wpAny_getItem_list hl h0 (by omega) (by simpa using hx) ⟨keeps_refl, rfl⟩) hs
theorem Ev.subListN {value slice : Expr} {a : Addr} {vs : List Value} {n : Nat} {t : Tok} {u : Value} (e : s.heap.get? a = some (lobj vs n)) (hx : vs.getLast? = some u)
    (hs : subscripted slice false (.ref a) (.int (-1) t) = operate [.ref a, .int (-1) t] (getItem (.ref a) (.int (-1) t)) := by with_unfolding_all rfl) : Ev (model prog w) A (subscriptTail value slice (.ref a) (.int (-1) t)) (IsV u) s := fun _ => by
  have hl : s.heap.IsList a vs.toArray := ⟨_, e, rfl, n, rfl⟩
  have hne : vs ≠ [] := by rintro rfl; simp at hx
  have hpos : 0 < vs.length := List.length_pos_iff.mpr hne
  refine tail_any hl.typeIs slot_list_getitem.lookup (wpAny_getItem_list_neg (x := u) hl (by decide) (by rw [List.size_toArray]; omega) (by decide) ?_ ⟨keeps_refl, rfl⟩) hs
  rw [List.size_toArray, show ((-1 : Int) + (vs.length : Int)).toNat = vs.length - 1 from by omega]
  rw [List.getLast?_eq_getElem?] at hx
  simpa using hx
theorem Ev.neg1 {k : Nat} {p pos : Pos} : Ev (model prog w) A (eval (.UnaryOp .USub (.Constant (.int 1) k p) pos) env) (IsI (-1)) s := fun _ =>
  wpAny_UnaryOp (wpAny_Constant_int (PySem.P.neg_int ⟨keeps_tok, _, rfl⟩))
end

def lesser (xs : List (List Nat)) : List Nat := if (xs.headD []).length ≤ (xs.getLastD []).length then xs.headD [] else xs.getLastD []
abbrev IsTx : List Nat → VP := fun x => IsS (tx x)
theorem All2.head {α β : Type} {F : α → β → Prop} {a : α} {l₁ : List α} {l₂ : List β} (h : All2 F (a :: l₁) l₂) : ∃ b r, l₂ = b :: r ∧ F a b := by
  cases h with | cons h _ => exact ⟨_, _, rfl, h⟩
theorem All2.last {α β : Type} {F : α → β → Prop} {l₁ : List α} {l₂ : List β} (h : All2 F l₁ l₂) {a : α} (e : l₁.getLast? = some a) : ∃ b, l₂.getLast? = some b ∧ F a b := by
  rw [List.getLast?_eq_getElem?] at e
  obtain ⟨b, e', f⟩ := h.get e
  refine ⟨b, ?_, f⟩
  rw [List.getLast?_eq_getElem?, ← h.length]; exact e'

theorem lesser_ev {w : World} {A : Around} {s : Shared} {mg mb : Str → Option Value} {k : Nat} (G : Gd w mg mb s.heap) (R : Rm A (k + 1)) {v : Value} {xs : List (List Nat)} (hv : IsL IsTx xs v s.heap) (hne : xs ≠ []) (hlen : ∀ x ∈ xs, x.length ≤ 1000) :
    Ev (model PG w) A (call (.ref 133) [v]) (IsTx (lesser xs)) s := by
  obtain ⟨y, r, rfl⟩ := List.exists_cons_of_ne_nil hne
  obtain ⟨z, hz⟩ : ∃ z, (y :: r).getLast? = some z := ⟨_, List.getLast?_eq_some_getLast (by simp)⟩
  have hzm : z ∈ y :: r := List.mem_of_getLast? hz
  refine Ev.callAt [("parts", v)] G R (fun n h₁ tk hn F => ?_) ⟨.inl rfl, trivial⟩
  obtain ⟨a, vs, m, rfl, ho, L⟩ := hv
  obtain ⟨v0, vr, rfl, t0, e0⟩ := L.head
  obtain ⟨v1, l1, t1, e1⟩ := L.last hz
  subst e0 e1
  refine wpAny_execs_cons (wpAny_Return_some ?_)
  have ho' : ∀ s₁ : Shared, Keeps { s with heap := h₁, toks := tk } s₁ → s₁.heap.get? a = some (lobj (.str (tx y) t0 :: vr) m) := fun s₁ k => keeps_heap k _ _ (F.keep _ _ ho)
  have rd : ∀ s₁ : Shared, Keeps { s with heap := h₁, toks := tk } s₁ → Rd (envAt 133 n) s₁.heap "parts" (.ref a) := fun s₁ k => (F.rd rfl).keeps (keeps_heap k)
  have G' : ∀ s₁ : Shared, Keeps { s with heap := h₁, toks := tk } s₁ → Gd w mg mb s₁.heap := fun s₁ k => G.kp fun b o e => keeps_heap k _ _ (F.keep _ _ e)
  have at0 : ∀ s₁ pos p1 p2, Keeps { s with heap := h₁, toks := tk } s₁ → Ev (model PG w) (A.deeper (envAt 133 n)) (eval (.Subscript (.Name "parts" p1) (.Constant (.int 0) 0 p2) pos) (envAt 133 n)) (IsTx y) s₁ := fun s₁ pos p1 p2 k =>
    Ev.sub (Ev.name rfl (rd s₁ k)) (fun o s₂ k₂ _ => Ev.cint) fun o i s₂ s₃ k₂ e2 k₃ ⟨ti, e3⟩ => by
      subst e2 e3
      exact (Ev.subList0 (ho' s₃ (keeps_trans k (keeps_trans k₂ k₃))) (by decide) (by decide) rfl).mono fun _ _ _ e => ⟨t0, e⟩
  have at1 : ∀ s₁ pos p1 p2 p3, Keeps { s with heap := h₁, toks := tk } s₁ → Ev (model PG w) (A.deeper (envAt 133 n)) (eval (.Subscript (.Name "parts" p1) (.UnaryOp .USub (.Constant (.int 1) 0 p2) p3) pos) (envAt 133 n)) (IsTx z) s₁ := fun s₁ pos p1 p2 p3 k =>
    Ev.sub (Ev.name rfl (rd s₁ k)) (fun o s₂ k₂ _ => Ev.neg1) fun o i s₂ s₃ k₂ e2 k₃ ⟨ti, e3⟩ => by
      subst e2 e3
      exact (Ev.subListN (ho' s₃ (keeps_trans k (keeps_trans k₂ k₃))) l1).mono fun _ _ _ e => ⟨t1, e⟩
  have lenN : ∀ s₁ p, Keeps { s with heap := h₁, toks := tk } s₁ → Ev (model PG w) (A.deeper (envAt 133 n)) (eval (.Name "len" p) (envAt 133 n)) (IsV (.builtin "len")) s₁ := fun s₁ p k =>
    bname (G' s₁ k) rfl rfl (by decide +kernel) (by decide) rfl rfl rfl
  refine Ev.use' (P := IsTx (lesser (y :: r))) (Ev.ifexp (b := decide ((y.length : Int) ≤ z.length))
    (Ev.cmpT (P1 := IsI y.length) (P2 := IsI z.length) (Ev.bcall1 (P := IsTx y) (lenN _ _ keeps_refl) (fun s₁ k₁ => at0 s₁ _ _ _ k₁) fun v s₁ k₁ ⟨t, e⟩ => by subst e; exact Ev.lenStr (hlen y (by simp)))
      (fun o s₁ k₁ _ => Ev.bcall1 (P := IsTx z) (lenN _ _ k₁) (fun s₂ k₂ => at1 s₂ _ _ _ _ (keeps_trans k₁ k₂)) fun v s₁ k₁ ⟨t, e⟩ => by subst e; exact Ev.lenStr (hlen z hzm))
      fun o i s₁ s₂ _ ⟨t1, e1⟩ _ ⟨t2, e2⟩ => by subst e1 e2; exact Ev.leInt)
    (fun s₁ k₁ hb => (at0 s₁ _ _ _ k₁).mono fun _ _ _ q => ?_) (fun s₁ k₁ hb => (at1 s₁ _ _ _ _ k₁).mono fun _ _ _ q => ?_)) fun v s' k p => ?_
  · have e1 : (y :: r).getLastD [] = z := by rw [List.getLastD_eq_getLast?, hz]; rfl
    have e2 : lesser (y :: r) = y := by
      unfold lesser; rw [e1]; rw [if_pos]; rfl
      have := of_decide_eq_true hb
      show y.length ≤ z.length
      omega
    rw [e2]; exact q
  · have e1 : (y :: r).getLastD [] = z := by rw [List.getLastD_eq_getLast?, hz]; rfl
    have e2 : lesser (y :: r) = z := by
      unfold lesser; rw [e1]; rw [if_neg]
      have := of_decide_eq_false hb
      show ¬ y.length ≤ z.length
      omega
    rw [e2]; exact q
  · obtain ⟨h', tk', rfl, k⟩ := k
    exact ⟨keeps_mk fun b o e => k _ _ (F.keep _ _ e), p⟩
end Mine

end

-- ======== Fun2 ========
section
open PySem PySem.W PyProof.Rows
set_option maxRecDepth 100000
namespace Mine

section
variable {prog : Program} {w : World} {A : Around} {E : Value → Shared → Prop} {s : Shared} {env : Env} {mg mb : Str → Option Value}

/-- (e1, e2) -/
theorem Ev.tuple2 {e1 e2 : Expr} {k : Nat} {pos : Pos} {P1 P2 : VP} (h1 : Ev (model prog w) A (eval e1 env) P1 s) (h2 : ∀ v s₁, Keeps s s₁ → P1 v s₁.heap → Ev (model prog w) A (eval e2 env) P2 s₁) (hP1 : Stb P1) (hP2 : Stb P2)
    (he : starEach [e1, e2] env = [(false, eval e1 env), (false, eval e2 env)] := by rfl) :
    Ev (model prog w) A (eval (.Tuple [e1, e2] k pos) env) (fun v h => ∃ a v1 v2, v = .ref a ∧ s.heap.get? a = none ∧ h.get? a = some (tobj [v1, v2] 0) ∧ P1 v1 h ∧ P2 v2 h) s := fun E => by
  refine wpAny_Tuple ?_
  rw [he]
  show wpAny _ A (spliced [(false, eval e1 env), (false, eval e2 env)]) _ E s
  refine Calls.spliced_cons (h1.use' fun v1 s₁ k₁ p₁ => Calls.spliced_cons ((h2 v1 s₁ k₁ p₁).use' fun v2 s₂ k₂ p₂ => Calls.spliced_nil ?_))
  refine ⟨by show 2 ≤ sizeLine; decide, keeps_trans (keeps_trans k₁ k₂) keeps_push, _, v1, v2, rfl, none_of (keeps_heap (keeps_trans k₁ k₂)) (Heap.get?_none_of_le (Nat.le_refl _)), Heap.get?_push_size _ rfl, ?_, ?_⟩
  · exact hP1 _ _ _ (fun b o e => kp_push _ _ (keeps_heap k₂ _ _ e)) p₁
  · exact hP2 _ _ _ kp_push p₂

theorem Ev.nil {pos : Pos} : Ev (model prog w) A (eval (.List [] pos) env) (fun v h => ∃ a, v = .ref a ∧ s.heap.get? a = none ∧ h.get? a = some (lobj [] 0)) s := fun E =>
  wpAny_List (wpAny_items_nil ⟨by decide, keeps_push, _, rfl, Heap.get?_none_of_le (Nat.le_refl _), Heap.get?_push_size _ rfl⟩)

/-- o.append(e), a statement -/
theorem exec_append {o e : Expr} {apos pos spos : Pos} {pl : Sem Bool} {a : Addr} {ys : List Value} {n : Nat} {P : VP} {Q : Flow → Shared → Prop} (h1 : Ev (model prog w) A (eval o env) (IsV (.ref a)) s)
    (h2 : ∀ s₁, Keeps s s₁ → Ev (model prog w) A (eval e env) P s₁) (ha : s.heap.get? a = some (lobj ys n)) (hlen : ys.length ≤ 1000)
    (hQ : ∀ v h₁ h' tk, Kp s.heap h₁ → P v h₁ → Heap.SameBut a h₁ h' → h'.get? a = some (lobj (ys ++ [v]) (n + 1)) → Q .next { s with heap := h', toks := tk })
    (he : starEach [e] env = [(false, eval e env)] := by rfl)
    (hm : eval (.Call (.Attribute o "append" apos) [e] [] pos) env = (do
      let ov ← eval o env
      standAt apos.atName
      let (f, first) ← holding [ov] (getMethod ov "append" pl)
      callWith pos f first (backTo pos (starEach [e] env)) []) := by rfl)
    (hi : interactive env = false := by rfl) (hs : swapsWith (.Call (.Attribute o "append" apos) [e] [] pos) none spos.line env = pure false := by rfl) :
    wpAny (model prog w) A (exec (.Expr (.Call (.Attribute o "append" apos) [e] [] pos) spos) env) Q E s := by
  refine wpAny_Expr (MethodCall_ (h1.use' fun ov s₁ k₁ e1 => ?_) hm) hi hs
  have e1 : ov = .ref a := e1
  subst e1
  refine Calls.getMethod_list_append (keeps_heap k₁ _ _ ha) rfl rfl ?_
  rw [he]
  refine Calls.callWith_builtin rfl (Calls.evalArgs_plain (Calls.spliced_cons ?_))
  show wpAny _ A (eval e env) _ E s₁
  refine (h2 s₁ k₁).use' fun v s₂ k₂ p₂ => Calls.spliced_nil ?_
  have k := keeps_trans k₁ k₂
  refine append_lobj (keeps_heap k _ _ ha) (by have : sizeLine = 16777216 := by decide
                                               omega) fun h' e' hs' => ?_
  obtain ⟨h₂, t₂, rfl, kk⟩ := k
  exact hQ v h₂ h' _ kk p₂ hs' e'

theorem Ev.truthyL {a : Addr} {vs : List Value} {n : Nat} (e : s.heap.get? a = some (lobj vs n)) (hl : vs.length ≤ 1000) : Ev (model prog w) A (truthy (.ref a)) (fun c _ => c = !vs.isEmpty) s := fun _ => by
  refine wpAny_truthy_list (items := vs.toArray) ⟨_, e, rfl, n, rfl⟩ (by rw [List.size_toArray]; omega) ⟨keeps_tok, ?_⟩
  simp

/-- f(x), f a name that holds a def of the call's or the text's -/
theorem Ev.fcall1 {f e : Expr} {pos : Pos} {a : Addr} {o : Obj} {fd : FuncData} {P R : VP} (h0 : Ev (model prog w) A (eval f env) (IsV (.ref a)) s) (ha : s.heap.get? a = some o) (hd : o.data = .func fd)
    (h1 : ∀ s₁, Keeps s s₁ → Ev (model prog w) A (eval e env) P s₁)
    (h2 : ∀ v s₁, Keeps s s₁ → P v s₁.heap → Ev (model prog w) A (call (.ref a) [v]) R s₁)
    (hs : starEach [e] env = [(false, eval e env)] := by rfl)
    (he : eval (.Call f [e] [] pos) env = (do callWith pos (← eval f env) [] (backTo pos (starEach [e] env)) (backToKw pos (keywordEach [] env))) := by rfl) : Ev (model prog w) A (eval (.Call f [e] [] pos) env) R s := fun E => by
  refine Call_ (h0.use' fun v s₁ k₁ e1 => ?_) he
  have e1 : v = .ref a := e1
  subst e1
  rw [hs]
  refine Calls.callWith_function (o := o) (fd := fd) (Calls.evalArgs_plain (Calls.spliced_cons ?_))
  show wpAny _ A (eval e env) _ E s₁
  refine (h1 s₁ k₁).use' fun v s₂ k₂ p₂ => Calls.spliced_nil ?_
  refine ⟨⟨keeps_heap (keeps_trans k₁ k₂) _ _ ha, hd⟩, ?_⟩
  exact (h2 v s₂ (keeps_trans k₁ k₂) p₂).use' fun _ _ k₃ r => ⟨keeps_trans (keeps_trans k₁ k₂) k₃, r⟩
end

abbrev IsC : Nat → VP := fun c => IsS (tx [c])
/-- the two lists that a split gives -/
abbrev IsHalves (a b : List Nat) : VP := IsT (fun xs => IsL IsC xs) [a, b]

theorem Fm.frameW {hb : Heap} {env : Env} {fc : List Addr} {ρ : Str → Option Value} {h h' : Heap} (F : Fm hb env fc ρ h) {W : List Addr} (k : KpW W h h') (h1 : env.locals ∉ W) (h2 : ∀ x c, env.cells.lookup x = some c → c ∉ W) (h3 : ∀ c ∈ fc, c ∉ W) (h4 : ∀ b ∈ W, hb.get? b = none) : Fm hb env fc ρ h' := by
  refine ⟨F.kind, F.apart, ?_, fun b' o q => k b' o (fun m => by rw [h4 b' m] at q; cases q) (F.keep b' o q), fun x v q => ?_, fun c' hc' => ?_, F.freshL, F.freshC⟩
  · obtain ⟨m, hn⟩ := F.ns; exact ⟨m, hn.at' fun o q => k _ o h1 q⟩
  · rcases F.vars x v q with ⟨a1, m, hn, em⟩ | ⟨a1, c1, ec, hc1⟩
    · exact .inl ⟨a1, m, hn.at' fun o q => k _ o h1 q, em⟩
    · obtain ⟨o, eo, d⟩ := hc1
      exact .inr ⟨a1, c1, ec, o, k _ o (h2 x c1 ec) eo, d⟩
  · obtain ⟨v, o, eo, d⟩ := F.cells c' hc'
    exact ⟨v, o, k _ o (h3 c' hc') eo, d⟩

theorem upd_ne {ρ : Str → Option Value} {x y : Str} {v : Value} (h : y ≠ x) : upd ρ x v y = ρ y := by simp [upd, h]
theorem Fm.loc_ne {hb : Heap} {env : Env} {fc : List Addr} {ρ : Str → Option Value} {h : Heap} (F : Fm hb env fc ρ h) : h.get? env.locals ≠ none := by
  obtain ⟨m', o', es, ep, e', _⟩ := F.ns
  rw [e']; simp
/-- a frame between the turns of a loop that began at h₅ -/
theorem Fm.stay {hb : Heap} {env : Env} {fc : List Addr} {ρ ρ₅ : Str → Option Value} {h h' h₅ : Heap} (F : Fm hb env fc ρ h) (F₅ : Fm hb env fc ρ₅ h₅) (kk : ∀ b o, h₅.get? b ≠ none → h.get? b = some o → h'.get? b = some o)
    (hcl : ∀ x c, env.cells.lookup x = some c → h₅.get? c ≠ none) : Fm hb env fc ρ h' := by
  refine ⟨F.kind, F.apart, ?_, fun b o e => kk b o ?_ (F.keep b o e), fun x v e => ?_, fun c hc => ?_, F.freshL, F.freshC⟩
  · obtain ⟨m', hn'⟩ := F.ns
    exact ⟨m', hn'.at' fun o e => kk _ o F₅.loc_ne e⟩
  · rw [F₅.keep b o e]; simp
  · rcases F.vars x v e with ⟨a1, m, hn', em⟩ | ⟨a1, c1, ec, o, eo, d⟩
    · exact .inl ⟨a1, m, hn'.at' fun o e => kk _ o F₅.loc_ne e, em⟩
    · exact .inr ⟨a1, c1, ec, o, kk _ o (hcl x c1 ec) eo, d⟩
  · obtain ⟨v, o, eo, d⟩ := F.cells c hc
    refine ⟨v, o, kk _ o ?_ eo, d⟩
    obtain ⟨v', o', eo', d'⟩ := F₅.cells c hc
    rw [eo']; simp

theorem split_ev {w : World} {A : Around} {s : Shared} {mg mb : Str → Option Value} {k : Nat} (G : Gd w mg mb s.heap) (R : Rm A (k + 1)) {l : List Nat} {t : Tok} {f : Addr} {o : Obj} {fd : FuncData} (p : Nat → Bool)
    (hl : ∀ c ∈ l, c < 128) (hlen : l.length ≤ 900) (hf : s.heap.get? f = some o) (hfd : o.data = .func fd)
    (hp : ∀ c t' A' h tk, c ∈ l → Rm A' k → Kp s.heap h → Ev (model PG w) A' (call (.ref f) [.str (tx [c]) t']) (fun v h' => ∃ a vs n, v = .ref a ∧ h'.get? a = some (lobj vs n) ∧ vs.length ≤ 1000 ∧ (!vs.isEmpty) = p c) { s with heap := h, toks := tk }) :
    Ev (model PG w) A (call (.ref 28) [.str (tx l) t, .ref f]) (IsHalves (l.filter p) (l.filter fun c => !p c)) s := by
  refine Ev.callAt [("s", .str (tx l) t), ("predicate", .ref f)] G R (fun n h₁ tk₁ hn F => ?_) ⟨.inl rfl, .inl rfl, trivial⟩
  have R' : Rm (A.deeper (envAt 28 n)) k := R.deeper
  refine wpAny_execs_cons (wpAny_Assign_Name (Ev.use Ev.nil fun v₂ h₂ tk₂ k₂ ⟨y, e2, yn, yo⟩ => ?_))
  subst e2
  refine (F.kept k₂).store (.inl rfl) fun h₃ tk₃ F₃ kf₃ => ?_
  have yo₃ := (F.kept k₂).sq kf₃ _ _ _ _ rfl yo
  refine wpAny_execs_cons (wpAny_Assign_Name (Ev.use Ev.nil fun v₄ h₄ tk₄ k₄ ⟨z, e4, zn, zo⟩ => ?_))
  subst e4
  refine (F₃.kept k₄).store (.inl rfl) fun h₅ tk₅ F₅ kf₅ => ?_
  have yo₅ := (F₃.kept k₄).sq kf₅ _ _ _ _ rfl (k₄ _ _ yo₃)
  have zo₅ := (F₃.kept k₄).sq kf₅ _ _ _ _ rfl zo
  have yz : y ≠ z := fun q => by
    have a1 : h₃.get? z = none := zn
    rw [← q, yo₃] at a1; cases a1
  have ys : s.heap.get? y = none := none_of F.keep yn
  have zs : s.heap.get? z = none := none_of F₃.keep zn
  have nL : ∀ {h : Heap} {ρ}, Fm s.heap (envAt 28 n) (fcAt 28 n) ρ h → ∀ {a vs m}, h.get? a = some (lobj vs m) → a ≠ (envAt 28 n).locals := fun F' a vs m e q => by
    obtain ⟨m', o', es, ep, e', d', _⟩ := F'.ns
    rw [q, e'] at e; cases e; cases d'
  refine wpAny_execs_cons ?_
  refine For_it (W := [(envAt 28 n).locals, y, z]) (xs := l) (P := IsC) (so := [])
    (J := fun i h => ∃ ρ us ns m1 m2, Fm s.heap (envAt 28 n) (fcAt 28 n) ρ h ∧ ρ "yes" = some (.ref y) ∧ ρ "no" = some (.ref z) ∧ ρ "predicate" = some (.ref f) ∧ h.get? y = some (lobj us m1) ∧ h.get? z = some (lobj ns m2) ∧
      All2 (fun c v => IsC c v h) ((l.take i).filter p) us ∧ All2 (fun c v => IsC c v h) ((l.take i).filter fun c => !p c) ns)
    (SrcF.str R'.hh ((Ev.name rfl (F₅.rd rfl)).mono fun _ _ _ e => ⟨t, e⟩) hl) (fun b _ h => by cases h) ?_ ?_ ?_ ?_ ?_
  · intro b hb
    simp only [List.mem_cons, List.not_mem_nil, or_false] at hb
    rcases hb with q | q | q <;> rw [q]
    · exact F₅.loc_ne
    · show h₅.get? y ≠ none
      rw [yo₅]; simp
    · show h₅.get? z ≠ none
      rw [zo₅]; simp
  · rintro i h h' ⟨ρ, us, ns, m1, m2, F', r1, r2, r3, y', z', L1, L2⟩ sq kk
    exact ⟨ρ, us, ns, m1, m2, F'.stay F₅ kk (fun x c ec => by cases ec), r1, r2, r3, sq _ _ _ _ rfl y', sq _ _ _ _ rfl z', L1, L2⟩
  · exact ⟨_, [], [], 0, 0, F₅, rfl, rfl, rfl, yo₅, zo₅, by simpa using All2.nil, by simpa using All2.nil⟩
  · rintro i c v h tk ec ⟨tv, ev⟩ ⟨ρ, us, ns, m1, m2, F', r1, r2, r3, y', z', L1, L2⟩
    subst ev
    have hc : c ∈ l := List.mem_of_getElem? ec
    refine wpAny_assign_Name (F'.store (.inl rfl) fun h₆ tk₆ F₆ kf₆ => ?_)
    have q1 : upd ρ "x" (.str (tx [c]) tv) "yes" = some (.ref y) := (upd_ne (by decide)).trans r1
    have q2 : upd ρ "x" (.str (tx [c]) tv) "no" = some (.ref z) := (upd_ne (by decide)).trans r2
    have q3 : upd ρ "x" (.str (tx [c]) tv) "predicate" = some (.ref f) := (upd_ne (by decide)).trans r3
    have y₆ := F'.sq kf₆ _ _ _ _ rfl y'
    have z₆ := F'.sq kf₆ _ _ _ _ rfl z'
    have kw₆ : KpW [(envAt 28 n).locals, y, z] h h₆ := kf₆.kw (by simp) (by intro c hc; cases hc)
    have len1 : us.length ≤ 1000 := by
      have a1 := L1.length; have a2 := List.length_filter_le p (l.take i); have a3 : (l.take i).length ≤ l.length := by rw [List.length_take]; omega
      omega
    have len2 : ns.length ≤ 1000 := by
      have a1 := L2.length; have a2 := List.length_filter_le (fun c => !p c) (l.take i); have a3 : (l.take i).length ≤ l.length := by rw [List.length_take]; omega
      omega
    refine wpAny_execs_cons (wpAny_If ?_)
    refine Ev.use (P := fun b _ => b = p c) (Ev.truthT (P := fun v h' => ∃ a vs n, v = .ref a ∧ h'.get? a = some (lobj vs n) ∧ vs.length ≤ 1000 ∧ (!vs.isEmpty) = p c) (Ev.fcall1 (P := IsC c) (Ev.name rfl (F₆.rd q3)) (F₆.keep _ _ hf) hfd (fun s₁ k₁ => (Ev.name rfl ((F₆.rd rfl).keeps (keeps_heap k₁))).mono fun _ _ _ e => ⟨tv, e⟩) (fun v s₁ k₁ ⟨t', e'⟩ => ?_)) (fun v s₁ k₁ ⟨a, vs, m, e1, e2, e3, e4⟩ => ?_)) (fun b h₇ tk₇ k₇ hb => ?_)
    · subst e'
      obtain ⟨h₈, t₈, rfl, k₈⟩ := k₁
      exact hp c t' _ h₈ t₈ hc R' fun b o e => k₈ _ _ (F₆.keep _ _ e)
    · subst e1
      rw [← e4]; exact Ev.truthyL e2 e3
    have F₇ := F₆.kept k₇
    subst hb
    cases hpc : p c with
    | true =>
      simp only [if_true]
      refine wpAny_execs_cons (exec_append (P := IsC c) (Ev.name rfl (F₇.rd q1)) (fun s₁ k₁ => (Ev.name rfl ((F₇.rd rfl).keeps (keeps_heap k₁))).mono fun _ _ _ e => ⟨tv, e⟩) (k₇ _ _ y₆) len1 fun v h₈ h₉ tk₉ k₈ pv hs₉ y₉ => ?_)
      refine wpAny_execs_nil (wpAny_execs_nil ?_)
      refine ⟨h₉, tk₉, rfl, ⟨_, us ++ [v], ns, m1 + 1, m2, ?_, q1, q2, q3, y₉, hs₉.extBut _ _ (Ne.symm yz) (k₈ _ _ (k₇ _ _ z₆)), ?_, ?_⟩, (kw₆.trans k₇.kw).trans (k₈.kw.trans (sameBut_kw hs₉ (by simp)))⟩
      · exact (F₇.kept k₈).frameW (W := [y]) (sameBut_kw hs₉ (by simp)) (by simpa using Ne.symm (nL F₇ (k₇ _ _ y₆))) (fun x c ec => by cases ec) (by intro c hc; cases hc) (by simpa using ys)
      · rw [take_filter_succ p l i c ec, hpc]; simp only [if_true]
        exact (L1.mono fun _ _ q => q).snoc pv
      · rw [take_filter_succ _ l i c ec, hpc]; simp only [Bool.not_true, Bool.false_eq_true, if_false, List.append_nil]; exact L2.mono fun _ _ q => q
    | false =>
      simp only [Bool.false_eq_true, if_false]
      refine wpAny_execs_cons (exec_append (P := IsC c) (Ev.name rfl (F₇.rd q2)) (fun s₁ k₁ => (Ev.name rfl ((F₇.rd rfl).keeps (keeps_heap k₁))).mono fun _ _ _ e => ⟨tv, e⟩) (k₇ _ _ z₆) len2 fun v h₈ h₉ tk₉ k₈ pv hs₉ z₉ => ?_)
      refine wpAny_execs_nil (wpAny_execs_nil ?_)
      refine ⟨h₉, tk₉, rfl, ⟨_, us, ns ++ [v], m1, m2 + 1, ?_, q1, q2, q3, hs₉.extBut _ _ yz (k₈ _ _ (k₇ _ _ y₆)), z₉, ?_, ?_⟩, (kw₆.trans k₇.kw).trans (k₈.kw.trans (sameBut_kw hs₉ (by simp)))⟩
      · exact (F₇.kept k₈).frameW (W := [z]) (sameBut_kw hs₉ (by simp)) (by simpa using Ne.symm (nL F₇ (k₇ _ _ z₆))) (fun x c ec => by cases ec) (by intro c hc; cases hc) (by simpa using zs)
      · rw [take_filter_succ p l i c ec, hpc]; simp only [Bool.false_eq_true, if_false, List.append_nil]; exact L1.mono fun _ _ q => q
      · rw [take_filter_succ _ l i c ec, hpc]; simp only [Bool.not_false, if_true]
        exact (L2.mono fun _ _ q => q).snoc pv
  · rintro h tk ⟨ρ, us, ns, m1, m2, F', r1, r2, r3, y', z', L1, L2⟩
    rw [List.take_length] at L1 L2
    refine wpAny_execs_cons (wpAny_Return_some ?_)
    refine Ev.use' (Ev.tuple2 (P1 := fun v h => v = .ref y ∧ h.get? y = some (lobj us m1)) (P2 := fun v h => v = .ref z ∧ h.get? z = some (lobj ns m2)) ((Ev.name rfl (F'.rd r1)).mono fun _ _ k e => ⟨e, k _ _ y'⟩)
      (fun v s₁ k₁ _ => (Ev.name rfl ((F'.rd r2).keeps (keeps_heap k₁))).mono fun _ _ k e => ⟨e, k _ _ (keeps_heap k₁ _ _ z')⟩) (fun _ _ _ k q => ⟨q.1, k _ _ q.2⟩) (fun _ _ _ k q => ⟨q.1, k _ _ q.2⟩)) fun v s' k hx => ?_
    obtain ⟨a, v1, v2, e1, _, e2, ⟨e3, e4⟩, e5, e6⟩ := hx
    subst e1 e3 e5
    obtain ⟨h', tk', rfl, k⟩ := k
    refine ⟨keeps_mk fun b o e => k _ _ (F'.keep _ _ e), a, _, _, rfl, e2, .cons ⟨y, us, m1, rfl, e4, L1⟩ (.cons ⟨z, ns, m2, rfl, e6, L2⟩ .nil)⟩
end Mine

end

-- ======== Fun3 ========
section
open PySem PySem.W PyProof.Rows
set_option maxRecDepth 100000
namespace Mine

/-- the table of the lambda's code: empty, or its one triple -/
def Tab (qual : Str) (pos : Pos) (h : Heap) : Prop :=
  h.get? 123 = some (tabObj #[]) ∨ ∃ c', h.get? 123 = some (tabObj #[rawInt pos.line, rawInt pos.col, .ref c']) ∧ c' ≠ 123 ∧ h.CodeRec (.ref c') qual

/-- the table with its triple -/
def Full (qual : Str) (pos : Pos) (c' : Addr) (h : Heap) : Prop :=
  h.get? 123 = some (tabObj #[rawInt pos.line, rawInt pos.col, .ref c']) ∧ c' ≠ 123 ∧ h.CodeRec (.ref c') qual
theorem Full.tab {qual : Str} {pos : Pos} {c' : Addr} {h : Heap} (x : Full qual pos c' h) : Tab qual pos h := .inr ⟨c', x⟩
theorem Full.kp {qual : Str} {pos : Pos} {c' : Addr} {h h' : Heap} (x : Full qual pos c' h) (k : Kp h h') : Full qual pos c' h' := ⟨k _ _ x.1, x.2.1, x.2.2.keeps k⟩

section
variable {w : World} {A : Around} {E : Value → Shared → Prop} {s : Shared} {env : Env} {mg mb : Str → Option Value}
theorem mkLam {params : Arguments} {body : Expr} {scope : Scope} {pos : Pos} {clos : List (Str × Addr)} {Q : Value → Shared → Prop} (G : Gd w mg mb s.heap) (T : Tab (env.qual ++ "<lambda>") pos s.heap)
    (hcl : closureFor scope env = pure clos) (hge : env.globals = mainGlobals) (hcode : env.code = .ref 125)
    (hQ : ∀ f c' ctv h' tk, Kt s.heap h' → Full (env.qual ++ "<lambda>") pos c' h' → (∀ c'', Full (env.qual ++ "<lambda>") pos c'' s.heap → Kp s.heap h') → s.heap.get? f = none → f ≠ 123 → h'.get? f = some (kla_obj "<lambda>" (env.qual ++ "<lambda>") params body scope clos ((mg "__name__").getD .none) c' ctv) → h'.CodeRec (.ref c') (env.qual ++ "<lambda>") → Q (.ref f) { s with heap := h', toks := tk })
    (hdef : defaultsOf params env = ([], []) := by rfl) : wpAny (model PG w) A (eval (.Lambda params body scope pos) env) Q E s := by
  obtain ⟨bm, ob, b1, b2, b3, b4, b5, b6, b7⟩ := G.bm
  have hbG : bm ≠ mainGlobals := fun q => by
    obtain ⟨o, es, ep, e, hd, _⟩ := G.g
    rw [q, e] at b4; cases b4; rw [hd] at b7; cases b7
  have hb : s.heap.BuiltinsAt mg 123 := ⟨bm, ob, b1, b2, hbG, b3, b4, b5, b6, b7⟩
  have lt123 : ∀ {ps}, s.heap.get? 123 = some (tabObj ps) → 123 < s.heap.objs.size := fun e => Heap.lt_size e
  refine kla_eval hdef ?_
  rcases T with T | ⟨c', T, hc, hr⟩
  · refine kla_makeFunction hcl hge G.g hcode G.C T ?_ rfl (by decide) hb fun c' ctv h' tk hx hge' hlt hrec htb => ?_
    · exact trivial
    have hlt' := lt123 T
    have k : Kt s.heap (h'.push (kla_obj "<lambda>" (env.qual ++ "<lambda>") params body scope clos ((mg "__name__").getD .none) c' ctv)) := fun b o hb' e => kp_push _ _ (hx b o hb' e)
    refine hQ _ c' ctv _ tk k ⟨kp_push _ _ htb, Nat.ne_of_gt (Nat.lt_of_lt_of_le hlt' hge'), hrec.keeps kp_push⟩ (fun c'' x => by have z := x.1; rw [T] at z; cases z) ?_ ?_ (Heap.get?_push_size _ rfl) (hrec.keeps kp_push)
    · exact Heap.get?_none_of_le (Nat.le_trans hge' (Nat.le_of_lt hlt))
    · exact Nat.ne_of_gt (Nat.lt_of_lt_of_le hlt' (Nat.le_trans hge' (Nat.le_of_lt hlt)))
  · refine kla_makeFunctionHit (cv := .ref c') hcl hge G.g hcode G.C T ?_ ?_ hb fun ctv h' tk hk hsz => ?_
    · simp [TriplesOk, rawInt]
    · simp [codeAmong, rawInt]
    have hlt' := lt123 T
    refine hQ _ c' ctv _ tk (fun b o _ e => kp_push _ _ (hk b o e)) ⟨kp_push _ _ (hk _ _ T), hc, (hr.keeps hk).keeps kp_push⟩ (fun _ _ b o e => kp_push _ _ (hk b o e)) (Heap.get?_none_of_le hsz) (Nat.ne_of_gt (Nat.lt_of_lt_of_le hlt' hsz)) (Heap.get?_push_size _ rfl) ((hr.keeps hk).keeps kp_push)

/-- a call of such a function -/
theorem callLam {f c' : Addr} {name qual : Str} {params : Arguments} {body : Expr} {scope : Scope} {clos : List (Str × Addr)} {pm ctv : Value} {vals : List Value} {binds : List (Str × Value)} {P : VP}
    (ho : s.heap.get? f = some (kla_obj name qual params body scope clos pm c' ctv)) (hr : s.heap.CodeRec (.ref c') qual) (hlim : s.heap.NoLimit) (hroom : A.depth < recursionLimit)
    (hbind : bindArgs (kla_fn name qual params body scope clos pm (.ref c') ctv) ⟨vals, []⟩ = pure binds) (hk : scope.kind = .function) (hco : scope.isCoroutine = false) (hgen : scope.isGenerator = false)
    (hcp : clos.Pairwise fun x y => x.2 ≠ y.2) (hlt : ∀ p ∈ clos, ∃ o, s.heap.get? p.2 = some o)
    (hown : ∀ n, OwnAll (nenv scope n mainGlobals clos (qual ++ ".<locals>.") (some f) (.ref c') none builtinsNs) (ncells scope n) binds)
    (h : ∀ n h₁ tk, s.heap.get? n = none → Fm s.heap (nenv scope n mainGlobals clos (qual ++ ".<locals>.") (some f) (.ref c') none builtinsNs) (ncells scope n) (updAll (fun _ => none) binds) h₁ →
      Ev (model PG w) (A.deeper (nenv scope n mainGlobals clos (qual ++ ".<locals>.") (some f) (.ref c') none builtinsNs)) (eval body (nenv scope n mainGlobals clos (qual ++ ".<locals>.") (some f) (.ref c') none builtinsNs)) P { s with heap := h₁, toks := tk }) :
    Ev (model PG w) A (call (.ref f) vals) P s := fun E => by
  refine wpAny_call (kla_callFunE hroom ho rfl hco hgen rfl hr ?_)
  rw [hbind]
  refine wpAny_pure (newEnv_Fm hk hcp (fun p hp => let ⟨o, e⟩ := hlt p hp; Heap.lt_size e) (hown _).all fun h₁ tk F => ⟨hlim.keeps F.keep, kla_codeExpr ?_⟩)
  refine (h _ h₁ tk (Heap.get?_none_of_le (Nat.le_refl _)) F).use' fun v s' k p => ?_
  obtain ⟨h', tk', rfl, k⟩ := k
  exact ⟨keeps_mk fun b o e => k _ _ (F.keep _ _ e), p⟩
end

def L6 : List Nat := [97, 98, 99, 100, 101, 102]
/-- a state's next one, as a dict of texts -/
def IsStep (w : World) (δ : Nat → Nat) : VP := fun v h => ∃ a f, v = .ref a ∧ h.MapOf (strKind PG w) a f ∧ ∀ c ∈ L6, ∃ t, f (tx [c]) = some (.str (tx [δ c]) t)
theorem stb_step {w : World} {δ : Nat → Nat} : Stb (IsStep w δ) := fun _ _ _ k ⟨a, f, e, m, r⟩ => ⟨a, f, e, mapOf_keeps m k, r⟩

/-- step[state] -/
theorem Ev.stepAt {w : World} {A : Around} {s : Shared} {env : Env} {δ : Nat → Nat} {x y : Str} {px py pos : Pos} {v : Value} {c : Nat} {t : Tok} (hk : env.scope.kind = .function) (r1 : Rd env s.heap x v) (r2 : Rd env s.heap y (.str (tx [c]) t)) (hs : IsStep w δ v s.heap) (hc : c ∈ L6)
    (hd : (x == ("__debug__" : Str)) = false := by decide) (hd' : (y == ("__debug__" : Str)) = false := by decide)
    (hsub : ∀ a, subscripted (.Name y py) false (.ref a) (.str (tx [c]) t) = operate [.ref a, .str (tx [c]) t] (getItem (.ref a) (.str (tx [c]) t)) := by intro _; with_unfolding_all rfl) :
    Ev (model PG w) A (eval (.Subscript (.Name x px) (.Name y py) pos) env) (IsC (δ c)) s :=
  Ev.sub (Ev.name hk r1 hd) (fun o s₁ k₁ _ => Ev.name hk (r2.keeps (keeps_heap k₁)) hd') fun o i s₁ s₂ k₁ e1 k₂ e2 => by
    subst e1 e2
    obtain ⟨a, f, e, m, r⟩ := hs
    subst e
    obtain ⟨t', et⟩ := r c hc
    exact (Ev.subDict (mapOf_keeps m (keeps_heap (keeps_trans k₁ k₂))) et (hsub a)).mono fun _ _ _ q => ⟨t', q⟩

end Mine

end

-- ======== Fun4 ========
section
open PySem PySem.W PyProof.Rows
set_option maxRecDepth 100000
namespace Mine

section
variable {prog : Program} {w : World} {A : Around} {E : Value → Shared → Prop} {s : Shared} {env : Env}

/-- f(e1, e2), where e2 may change the table -/
theorem fcall2 {f e1 e2 : Expr} {pos : Pos} {a : Addr} {o : Obj} {fd : FuncData} {P : VP} {Q : Value → Shared → Prop} (h0 : Ev (model prog w) A (eval f env) (IsV (.ref a)) s) (hd : o.data = .func fd)
    (h1 : ∀ s₁, Keeps s s₁ → Ev (model prog w) A (eval e1 env) P s₁)
    (h2 : ∀ v1 s₁, Keeps s s₁ → P v1 s₁.heap → wpAny (model prog w) A (eval e2 env) (fun v2 s₂ => s₂.heap.get? a = some o ∧ wpAny (model prog w) A (call (.ref a) [v1, v2]) Q E s₂) E s₁)
    (hs : starEach [e1, e2] env = [(false, eval e1 env), (false, eval e2 env)] := by rfl)
    (he : eval (.Call f [e1, e2] [] pos) env = (do callWith pos (← eval f env) [] (backTo pos (starEach [e1, e2] env)) (backToKw pos (keywordEach [] env))) := by rfl) : wpAny (model prog w) A (eval (.Call f [e1, e2] [] pos) env) Q E s := by
  refine Call_ (h0.use' fun v s₁ k₁ e1' => ?_) he
  have e1' : v = .ref a := e1'
  subst e1'
  rw [hs]
  refine Calls.callWith_function (o := o) (fd := fd) (Calls.evalArgs_plain (Calls.spliced_cons ?_))
  show wpAny _ A (eval e1 env) _ E s₁
  refine (h1 s₁ k₁).use' fun v s₂ k₂ p₂ => Calls.spliced_cons ?_
  show wpAny _ A (eval e2 env) _ E s₂
  refine wpAny_mono (h2 v s₂ (keeps_trans k₁ k₂) p₂) (fun v2 s₃ h₃ => Calls.spliced_nil ?_) fun _ _ x => x
  exact ⟨⟨h₃.1, hd⟩, h₃.2⟩

theorem It.withObjs {target : Expr} {tk : Bool} {I : Addr} {fp wr : List Addr} {n : Nat} {P : Nat → Value → Prop} {P' : Nat → Value → Heap → Prop} {St : Nat → Heap → Prop} (W : Walks prog w A I fp wr n P St) (objs : List (Addr × Obj)) (hobj : ∀ q ∈ objs, q.1 ∉ wr)
    (hgo : ∀ i v (s : Shared) (Q : Unit → Shared → Prop) (E : Value → Shared → Prop), St i s.heap → Q () s → wpAny (model prog w) A (letOwnedTupleGo target (.ref I) v) Q E s)
    (hP : ∀ i v h, i < n → P i v → (∀ q ∈ objs, h.get? q.1 = some q.2) → P' i v h) (hnt : ∀ i h, St i h → ∀ b ∈ wr, ∀ o xs n, h.get? b = some o → o.data ≠ .seq xs n) :
    It prog w A target tk I (fp ++ objs.map (·.1)) wr n P' (fun i h => St i h ∧ ∀ q ∈ objs, h.get? q.1 = some q.2) where
  sub := fun b hb => List.mem_append_left _ (W.sub b hb)
  frame := fun i h h' ⟨a, b⟩ k => ⟨W.frame i h h' a fun b hb o e => k b (List.mem_append_left _ hb) o e, fun q hq => k _ (List.mem_append_right _ (List.mem_map.mpr ⟨q, hq, rfl⟩)) _ (b q hq)⟩
  step := fun i s Q E hi ⟨st, ob⟩ hQ => W.item i s _ E hi st fun v h' tk' p st' k => by
    have ob' : ∀ q ∈ objs, h'.get? q.1 = some q.2 := fun q hq => k _ _ (hobj q hq) (ob q hq)
    exact ⟨v, rfl, hgo (i + 1) v _ _ _ st' (hQ v h' tk' (hP i v h' hi p ob') ⟨st', ob'⟩ k)⟩
  done := fun s Q E ⟨st, _⟩ hQ => W.done s Q E st hQ
  self := fun i s Q E ⟨st, _⟩ hQ => W.self i s Q E st hQ
  nt := fun _ i h ⟨st, _⟩ => hnt i h st

/-- the two lists of a split, one after the other -/
theorem Src.halves {target : Expr} {tk : Bool} {t : Sem Value} {a b : List Nat} (hh : A.handled = none) (ht : Ev (model prog w) A t (IsHalves a b) s) : Src prog w A target tk t [a, b] (fun l => IsL IsC l) s := by
  intro Q E hQ
  refine ht.use' fun v s₁ k₁ ⟨T, vs, n, e, ho, r⟩ => ?_
  subst e
  cases r with
  | cons h1 r =>
    cases r with
    | cons h2 r =>
      cases r
      obtain ⟨y, us, m1, e1, yo, L1⟩ := h1
      obtain ⟨z, ns, m2, e2, zo, L2⟩ := h2
      subst e1 e2
      have hl : s₁.heap.IsTuple T #[.ref y, .ref z] := ⟨_, ho, rfl, n, rfl⟩
      have hlt : T < s₁.heap.objs.size := Heap.lt_size ho
      have ylt : y < s₁.heap.objs.size := Heap.lt_size yo
      have zlt : z < s₁.heap.objs.size := Heap.lt_size zo
      refine wpAny_pyIter_tuple hl ?_
      have W := Walks.tuple (prog := prog) (w := w) (A := A) hh s₁.heap.objs.size T (Nat.ne_of_lt hlt) #[.ref y, .ref z]
      refine hQ _ _ _ _ _ (keeps_trans k₁ keeps_push) (It.withObjs W [(y, lobj us m1), (z, lobj ns m2)] (fun q hq => ?_) (fun i v s' Q' E' st q => letGo_tupleiter st.1 q) (fun i v h hi p ob => ?_) (fun i h st b hb o xs n e q => ?_)) ⟨⟨⟨_, Heap.get?_push_size _ rfl, rfl, rfl⟩, hl.push _⟩, fun q hq => ?_⟩ (fun b hb => ?_) (fun b hb => ?_)
      · simp only [List.mem_cons, List.not_mem_nil, or_false] at hq
        rcases hq with rfl | rfl
        · simpa using Nat.ne_of_lt ylt
        · simpa using Nat.ne_of_lt zlt
      · have p' : (#[Value.ref y, Value.ref z] : Array Value)[i]? = some v := p
        have oy := ob (y, lobj us m1) (by simp)
        have oz := ob (z, lobj ns m2) (by simp)
        match i, hi with
        | 0, _ => simp at p'; subst p'; exact ⟨a, rfl, y, us, m1, rfl, oy, L1.mono fun _ _ q => q⟩
        | 1, _ => simp at p'; subst p'; exact ⟨b, rfl, z, ns, m2, rfl, oz, L2.mono fun _ _ q => q⟩
      · rw [List.mem_singleton.mp hb] at e
        obtain ⟨o', e', _, d⟩ := st.1
        rw [e'] at e; cases e; rw [d] at q; cases q
      · simp only [List.mem_cons, List.not_mem_nil, or_false] at hq
        rcases hq with rfl | rfl
        · exact kp_push _ _ yo
        · exact kp_push _ _ zo
      · show b < (s₁.heap.push _).objs.size
        rw [Heap.size_push]
        simp only [List.map_cons, List.map_nil, List.mem_append, List.mem_cons, List.not_mem_nil, or_false] at hb
        rcases hb with (q | q) | (q | q) <;> rw [q]
        · exact Nat.lt_succ_self _
        · exact Nat.lt_succ_of_lt hlt
        · exact Nat.lt_succ_of_lt ylt
        · exact Nat.lt_succ_of_lt zlt
      · rw [List.mem_singleton.mp hb]
        exact none_of (keeps_heap k₁) (Heap.get?_none_of_le (Nat.le_refl _))
end

theorem canLay_tx {l : List Nat} (h : ∀ c ∈ l, c < 128) : PyData.canLay0 (.str (tx l)) = true := by
  show (tx l).cps.all (· < 0x110000) = true
  rw [tx_cps]
  simp only [List.all_toArray, List.all_eq_true, decide_eq_true_eq]
  intro c hc
  exact Nat.lt_trans (h c hc) (by decide)
theorem canLayAll_tx {xs : List (List Nat)} (h : ∀ x ∈ xs, ∀ c ∈ x, c < 128) : PyData.canLayAll0 (xs.map fun x => .str (tx x)) = true := by
  induction xs with
  | nil => rfl
  | cons a r ih =>
    show (PyData.canLay0 (.str (tx a)) && PyData.canLayAll0 (r.map _)) = true
    rw [canLay_tx (h a (by simp)), ih fun x hx => h x (by simp [hx])]; rfl
theorem reads_strs {h : Heap} {xs : List (List Nat)} {vs : List Value} (r : All2 (fun x v => IsTx x v h) xs vs) : ReadsAll h vs (xs.map fun x => .str (tx x)) [] := by
  induction r with
  | nil => exact .nil
  | cons a _ ih => obtain ⟨t, rfl⟩ := a; exact .cons (as := []) (.str _ _) ih
theorem depthAll_strs (xs : List (List Nat)) : PyData.depthAll (xs.map fun x => PyData.str (tx x)) = 0 := by
  induction xs with
  | nil => rfl
  | cons a r ih => show max _ (PyData.depthAll _) = 0; rw [ih]; rfl
theorem eqvAll_strs : ∀ xs ys : List (List Nat), PyData.eqvAll (xs.map fun x => PyData.str (tx x)) (ys.map fun x => PyData.str (tx x)) = decide (xs = ys)
  | [], [] => rfl
  | [], _ :: _ => rfl
  | _ :: _, [] => rfl
  | x :: xs, y :: ys => by
    show ((tx x == tx y) && PyData.eqvAll _ _) = _
    rw [eqvAll_strs xs ys]
    by_cases h : x = y
    · subst h; simp
    · have : (tx x == tx y) = false := by
        rw [beq_eq_false_iff_ne]; exact fun q => h (tx_inj q)
      rw [this]; simp [h]

section
variable {w : World} {A : Around} {s : Shared} {n : Nat}
theorem all2_single {l : List Nat} {vs : List Value} {h : Heap} (r : All2 (fun c v => IsC c v h) l vs) : All2 (fun x v => IsTx x v h) (l.map fun c => [c]) vs := All2.map_left r
/-- a split told twice -/
theorem Ev.eqHalves {a b : List Nat} {v1 v2 : Value} (R : Rm A n) (h1 : IsHalves a b v1 s.heap) (h2 : IsHalves a b v2 s.heap) (ha : ∀ c ∈ a, c < 128) (hb : ∀ c ∈ b, c < 128) : Ev (model PG w) A (compareOp .Eq v1 v2) (IsB true) s := fun _ => by
  have rd : ∀ v, IsHalves a b v s.heap → ∃ as, Reads s.heap v (.tuple [.list ((a.map fun c => [c]).map fun x => .str (tx x)), .list ((b.map fun c => [c]).map fun x => .str (tx x))]) as := by
    rintro v ⟨T, vs, m, rfl, ho, r⟩
    cases r with
    | cons p1 r =>
      cases r with
      | cons p2 r =>
        cases r
        obtain ⟨y, us, m1, rfl, yo, L1⟩ := p1
        obtain ⟨z, ns, m2, rfl, zo, L2⟩ := p2
        exact ⟨_, .tuple ho rfl rfl (.cons (.list yo rfl rfl (reads_strs (all2_single L1))) (.cons (.list zo rfl rfl (reads_strs (all2_single L2))) .nil))⟩
  obtain ⟨as, r1⟩ := rd v1 h1
  obtain ⟨bs, r2⟩ := rd v2 h2
  have cl : ∀ l : List Nat, (∀ c ∈ l, c < 128) → PyData.canLayAll0 ((l.map fun c => [c]).map fun x => PyData.str (tx x)) = true := fun l hl => canLayAll_tx (by
    intro x hx c hc
    obtain ⟨d, hd, rfl⟩ := List.mem_map.mp hx
    rw [List.mem_singleton.mp hc]; exact hl d hd)
  have ca : PyData.canLay0 (.tuple [.list ((a.map fun c => [c]).map fun x => PyData.str (tx x)), .list ((b.map fun c => [c]).map fun x => .str (tx x))]) = true := by
    show (PyData.canLayAll0 _ && (PyData.canLayAll0 _ && true)) = true
    rw [cl a ha, cl b hb]; rfl
  refine PySem.SeqAt.compareEq_reads r1 r2 ca ca ?_ ⟨keeps_refl, ?_⟩
  · have e : PyData.depth (.tuple [.list ((a.map fun c => [c]).map fun x => PyData.str (tx x)), .list ((b.map fun c => [c]).map fun x => .str (tx x))]) ≤ 64 := by
      show max (PyData.depthAll _ + 1) (max (PyData.depthAll _ + 1) 0) + 1 ≤ 64
      rw [depthAll_strs, depthAll_strs]; decide
    have := R.un
    omega
  · show Value.bool _ = _
    congr 1
    show (PyData.eqvAll _ _ && (PyData.eqvAll _ _ && true)) = true
    rw [eqvAll_strs, eqvAll_strs]; simp
end
end Mine

end

-- ======== Fun5 ========
section
open PySem PySem.W PyProof.Rows
set_option maxRecDepth 100000
namespace Mine

theorem rd_cell {env : Env} {h : Heap} {x : Str} {v : Value} {c : Addr} (r : Rd env h x v) (hk : env.kindOf x ≠ some .local) (hc : env.cells.lookup x = some c) : h.IsCell c (some v) := by
  rcases r with ⟨a, _⟩ | ⟨_, c', e, q⟩
  · exact absurd a hk
  · rw [hc] at e; cases e; exact q
theorem ncells_mem {names : List (Str × NameKind)} {n : Nat} {x : Str} {c : Addr} (h : (cellsFrom (n + 1) names []).lookup x = some c) : c ∈ (cellsFrom (n + 1) names []).map (·.2) :=
  List.mem_map.mpr ⟨(x, c), PySem.mem_of_lookup h, rfl⟩

theorem Fm.other {hb : Heap} {env : Env} {fc : List Addr} {ρ : Str → Option Value} {h h' : Heap} (F : Fm hb env fc ρ h) (k : KpF env fc h h') {b : Addr} {o : Obj} (e : h.get? b = some o) (d1 : ∀ es ep, o.data ≠ .dict es ep) (d2 : ∀ v, o.data ≠ .cell v) : h'.get? b = some o := by
  refine k b o (fun q => ?_) (fun q => ?_) e
  · obtain ⟨m, o', es, ep, e', d', _⟩ := F.ns
    rw [q, e'] at e; cases e; exact d1 _ _ d'
  · obtain ⟨v, o', e', d'⟩ := F.cells b q
    rw [e'] at e; cases e; exact d2 _ d'
theorem Fm.full {hb : Heap} {env : Env} {fc : List Addr} {ρ : Str → Option Value} {h h' : Heap} {qual : Str} {pos : Pos} {c' : Addr} (F : Fm hb env fc ρ h) (k : KpF env fc h h') (T : Full qual pos c' h) : Full qual pos c' h' := by
  obtain ⟨T, a, c, o, ws, t, e1, e2, e3, e4⟩ := T
  exact ⟨F.other k T (by intro _ _ q; cases q) (by intro _ q; cases q), a, c, o, ws, t, e1, F.other k e2 (by rw [e3]; intro _ _ q; cases q) (by rw [e3]; intro _ q; cases q), e3, e4⟩

theorem step_kt {w : World} {δ : Nat → Nat} {v : Value} {h h' : Heap} {ps : Array Value} (hs : IsStep w δ v h) (ht : h.get? 123 = some (tabObj ps)) (k : Kt h h') : IsStep w δ v h' := by
  obtain ⟨a, f, e, ⟨o, es, ep, ho, hx, hd, r⟩, q⟩ := hs
  refine ⟨a, f, e, ⟨o, es, ep, k _ _ (fun z => ?_) ho, hx, hd, r⟩, q⟩
  rw [z, ht] at ho; cases ho; cases hd
theorem Tab.at_ {qual : Str} {pos : Pos} {h : Heap} (T : Tab qual pos h) : ∃ ps, h.get? 123 = some (tabObj ps) := by
  rcases T with T | ⟨c', T, _⟩
  · exact ⟨_, T⟩
  · exact ⟨_, T⟩
theorem Tab.kp {qual : Str} {pos : Pos} {h h' : Heap} (T : Tab qual pos h) (k : Kp h h') : Tab qual pos h' := by
  rcases T with T | ⟨c', T, a, b⟩
  · exact .inl (k _ _ T)
  · exact .inr ⟨c', k _ _ T, a, b.keeps k⟩

theorem sum_singles : ∀ l : List Nat, ((l.map fun c => [c]).map List.length).sum = l.length
  | [] => rfl
  | _ :: r => by
    have := sum_singles r
    simp only [List.map_cons, List.sum_cons, List.length_cons, List.length_nil]; omega
theorem flatten_singles : ∀ l : List Nat, (l.map fun c => [c]).flatten = l
  | [] => rfl
  | x :: r => by
    have := flatten_singles r
    simp only [List.map_cons, List.flatten_cons, List.singleton_append]; rw [this]

def pin (δ : Nat → Nat) (goal : List Nat) (c : Nat) : Bool := decide (δ c ∈ goal)
def halves (δ : Nat → Nat) (part goal : List Nat) : List (List Nat) := [part.filter (pin δ goal), part.filter fun c => !pin δ goal c].filter fun l => !l.isEmpty

theorem isEmpty_filter_eq {goal : List Nat} {d : Nat} : (!(goal.filter fun o => decide ([o] = [d])).isEmpty) = decide (d ∈ goal) := by
  induction goal with
  | nil => rfl
  | cons a r ih =>
    rw [List.filter_cons]
    by_cases h : a = d
    · subst h; simp
    · have h1 : decide ([a] = [d]) = false := by simp [h]
      rw [h1]
      simp only [Bool.false_eq_true, if_false]
      rw [ih]
      have : (d ∈ a :: r) = (d ∈ r) := by simp [Ne.symm h]
      simp only [this]

/-- the lambda's place in the text -/
def lamPos : Pos := ⟨62, 29, 62, 92⟩
def lamQual : Str := "_law_halves.<locals>.<lambda>"

theorem halves_spec {w : World} {A : Around} {E : Value → Shared → Prop} {s : Shared} {mg mb : Str → Option Value} {k : Nat} (G : Gd w mg mb s.heap) (R : Rm A (k + 3)) (T : Tab lamQual lamPos s.heap) {part goal : List Nat} {δ : Nat → Nat} {t1 t2 : Tok} {vs : Value}
    (hs : IsStep w δ vs s.heap) (hp : ∀ c ∈ part, c ∈ L6) (hg : ∀ c ∈ goal, c < 128) (hlp : part.length ≤ 100) (hlg : goal.length ≤ 100) {Q : Value → Shared → Prop}
    (hQ : ∀ v h' tk, Kt s.heap h' → (∃ c', Full lamQual lamPos c' h') → (∀ c', Full lamQual lamPos c' s.heap → Kp s.heap h') → IsL IsTx (halves δ part goal) v h' → (∃ a, v = .ref a ∧ s.heap.get? a = none) → Q v { s with heap := h', toks := tk }) :
    wpAny (model PG w) A (call (.ref 126) [.str (tx part) t1, vs, .str (tx goal) t2]) Q E s := by
  have hpa : ∀ c ∈ part, c < 128 := fun c hc => by
    have := hp c hc
    simp only [L6, List.mem_cons, List.not_mem_nil, or_false] at this
    omega
  refine call_at G R (binds := [("part", .str (tx part) t1), ("step", vs), ("goal", .str (tx goal) t2)]) rfl rfl rfl rfl (BindsTo.of_eq rfl) rfl rfl rfl (by exact List.Pairwise.nil) (by intro p hp; cases hp) ⟨.inl rfl, .inr ⟨rfl, _, rfl, ?_⟩, .inr ⟨rfl, _, rfl, ?_⟩, trivial⟩ fun n h₁ tk₁ hn F => ?_
  · exact List.mem_cons_of_mem _ (List.mem_cons_self ..)
  · exact List.mem_cons_self ..
  obtain ⟨ps, hT⟩ := T.at_
  have R' : Rm (A.deeper (envAt 126 n)) (k + 2) := R.deeper
  have n123 : n ≠ 123 := fun q => by rw [q, hT] at hn; cases hn
  have c123 : ∀ c ∈ fcAt 126 n, c ≠ 123 := fun c hc q => by have := F.freshC c hc; rw [q, hT] at this; cases this
  have F0 : Fm (hideAll s.heap [123]) (envAt 126 n) (fcAt 126 n) _ h₁ := F.weaken fun b o e => of_hideAll _ e
  have ktF : ∀ {h h' : Heap} {ρ}, Fm (hideAll s.heap [123]) (envAt 126 n) (fcAt 126 n) ρ h → Kt h h' → Fm (hideAll s.heap [123]) (envAt 126 n) (fcAt 126 n) ρ h' := fun F' k =>
    F'.frameW (W := [123]) (fun b o hb e => k b o (by simpa using hb) e) (fun q => n123 (List.mem_singleton.mp q)) (fun x c ec => by simpa using c123 c (ncells_mem ec)) (fun c hc => by simpa using c123 c hc) (by simpa using hideAll_none [123] (by simp))
  have ktB : ∀ {h : Heap} {ρ}, Fm (hideAll s.heap [123]) (envAt 126 n) (fcAt 126 n) ρ h → Kt s.heap h := fun F' b o hb e => F'.keep b o (hideAll_get _ e (by simpa using hb))
  have T₁ : Tab lamQual lamPos h₁ := T.kp F.keep
  obtain ⟨o28, e28, d28⟩ : ∃ o, (KK w).lookup 28 = some o ∧ o.data = .func (fnAt 28) := ⟨_, rfl, rfl⟩
  -- told
  refine wpAny_execs_cons (wpAny_Assign_Name (fcall2 (a := 28) (o := o28) (P := fun v _ => v = .str (tx part) t1) (gname (G.kp F.keep) rfl rfl rfl rfl) d28 (fun s₁ k₁ => Ev.name rfl ((F.rd rfl).keeps (keeps_heap k₁))) fun v1 s₁ k₁ e1 => ?_))
  subst e1
  obtain ⟨h₂, tk₂, rfl, k₂⟩ := k₁
  have k₂' : Kp s.heap h₂ := fun b o e => k₂ b o (F.keep b o e)
  refine mkLam (clos := [("step", n + 1), ("goal", n + 2)]) (G.kp k₂') (T₁.kp k₂) rfl rfl rfl fun f c' ctv h₃ tk₃ kt₃ T₃ kk₃ fn f123 fo fr => ?_
  have F₃ := ktF (F0.kept k₂) kt₃
  have G₃ : Gd w mg mb h₃ := (G.kp k₂').kt kt₃
  have hs₂ : IsStep w δ vs h₂ := stb_step _ _ _ k₂' hs
  have hs₃ : IsStep w δ vs h₃ := step_kt hs₂ (k₂' _ _ hT) kt₃
  refine ⟨G₃.X _ _ e28, ?_⟩
  have cg : h₃.IsCell (n + 2) (some (.str (tx goal) t2)) := rd_cell (F₃.rd (x := "goal") rfl) (by intro q; cases q) rfl
  have cs : h₃.IsCell (n + 1) (some vs) := rd_cell (F₃.rd (x := "step") rfl) (by intro q; cases q) rfl
  refine (split_ev (k := k + 1) G₃ R' (pin δ goal) hpa (by omega) fo rfl ?_).use fun v h₄ tk₄ k₄ hv => ?_
  · -- the lambda
    intro c t' A' h tk hc RA kh
    have hG := (G₃.kp kh).lim
    obtain ⟨o1, eo1, do1⟩ := cs
    obtain ⟨o2, eo2, do2⟩ := cg
    refine Ev.mono (P := fun v h => IsL IsC (goal.filter fun o => decide ([o] = [δ c])) v h) (callLam (binds := [("state", .str (tx [c]) t')]) (kh _ _ fo) (fr.keeps kh) hG RA.lt rfl rfl rfl rfl (List.pairwise_cons.mpr ⟨fun q hq => ?_, List.pairwise_singleton _ _⟩) (fun q hq => ?_) (fun m => ⟨.inr ⟨rfl, _, rfl, ?_⟩, trivial⟩) fun m h₅ tk₅ hm F₅ => ?_) ?_
    · rw [List.mem_singleton.mp hq]; exact Nat.ne_of_lt (Nat.lt_succ_self _)
    · simp only [List.mem_cons, List.not_mem_nil, or_false] at hq
      rcases hq with rfl | rfl
      · exact ⟨o1, kh _ _ eo1⟩
      · exact ⟨o2, kh _ _ eo2⟩
    · exact List.mem_cons_self ..
    · have k₅ : Kp h₃ h₅ := fun b o e => F₅.keep b o (kh b o e)
      have c1 : h₅.IsCell (n + 1) (some vs) := ⟨o1, k₅ _ _ eo1, do1⟩
      have c2 : h₅.IsCell (n + 2) (some (.str (tx goal) t2)) := ⟨o2, k₅ _ _ eo2, do2⟩
      have c3 : h₅.IsCell (m + 1) (some (.str (tx [c]) t')) := rd_cell (F₅.rd (x := "state") rfl) (by intro q; cases q) rfl
      refine Ev.mono (Ev.listComp (tk := false) (xs := goal) (P := IsC) (G := IsC) (cl := [("step", n + 1), ("state", m + 1)]) (fun o => decide ([o] = [δ c])) (fun a ρ h => ∃ v, ρ "other" = some v ∧ IsC a v h) rfl (List.pairwise_cons.mpr ⟨fun q hq => ?_, List.pairwise_singleton _ _⟩) (fun q hq => ?_) (fun _ _ _ _ x _ => x) (fun _ _ _ _ _ x => x) (by omega)
        (Src.str RA.deeper.hh ?_ hg) (fun a C _ => Assigns.name (.inl rfl) stq_S) (fun a C ρ h' tk' ha ⟨v, ev, va⟩ kk F' => ?_) (fun a C ρ h' tk' ha _ ⟨v, ev, va⟩ kk F' => ?_)) (fun _ _ _ x => x.1)
      · rw [List.mem_singleton.mp hq]
        intro q
        have q' : n + 1 = m + 1 := q
        have q'' : n = m := Nat.succ.inj q'
        obtain ⟨mm, on, es, ep, en, _⟩ := F₃.ns
        have en' : h₃.get? n = some on := en
        have hm' : h.get? m = none := hm
        rw [← q'', kh _ _ en'] at hm'; cases hm'
      · simp only [List.mem_cons, List.not_mem_nil, or_false] at hq
        rcases hq with rfl | rfl
        · exact ⟨_, c1⟩
        · exact ⟨_, c3⟩
      · exact (Ev.name rfl (.inr ⟨.inr ⟨rfl, rfl⟩, _, rfl, c2⟩)).mono fun _ _ _ e => ⟨t2, e⟩
      · exact Ev.tests1 (Ev.cmpT (P1 := IsC a) (P2 := IsC (δ c)) ((Ev.name rfl (F'.rd ev)).mono fun _ _ _ e => by have e' : _ = v := e; rw [e']; exact va)
          (fun o s₁ k₁ _ => Ev.stepAt rfl (.inr ⟨.inr ⟨rfl, rfl⟩, _, rfl, (c1.keeps kk).keeps (keeps_heap k₁)⟩) (.inr ⟨.inl rfl, _, rfl, (c3.keeps kk).keeps (keeps_heap k₁)⟩) (stb_step _ _ _ (keeps_heap k₁) (stb_step _ _ _ kk (stb_step _ _ _ k₅ hs₃))) (hp c hc))
          (fun o i s₁ s₂ _ ⟨u1, e1⟩ _ ⟨u2, e2⟩ => by subst e1 e2; exact Ev.eqStr))
      · exact (Ev.name rfl (F'.rd ev)).mono fun _ _ _ e => by have e' : _ = v := e; rw [e']; exact va
    · rintro v h' _ ⟨a, us, m, e, ho, L⟩
      refine ⟨a, us, m, e, ho, ?_, ?_⟩
      · have a1 := L.length; have a2 := List.length_filter_le (fun o => decide ([o] = [δ c])) goal
        omega
      · have a1 : us.isEmpty = (goal.filter fun o => decide ([o] = [δ c])).isEmpty := by
          have := L.length
          rw [Bool.eq_iff_iff, List.isEmpty_iff_length_eq_zero, List.isEmpty_iff_length_eq_zero]; omega
        rw [a1, isEmpty_filter_eq]; rfl
  have F₄ := F₃.kept k₄
  have T₄ : Full lamQual lamPos c' h₄ := Full.kp T₃ k₄
  refine F₄.store (.inl rfl) fun h₅ tk₅ F₅ kf₅ => ?_
  have hv₅ : IsHalves _ _ v h₅ := stq_T (fun _ => stq_L fun _ => stq_S) _ _ _ (F₄.sq kf₅) hv
  have T₅ : Full lamQual lamPos c' h₅ := F₄.full kf₅ T₄
  have hs₅ : IsStep w δ vs h₅ := step_kt hs (by exact hT) (ktB F₅)
  have cg₅ : h₅.IsCell (n + 2) (some (.str (tx goal) t2)) := rd_cell (F₅.rd (x := "goal") rfl) (by intro q; cases q) rfl
  have cs₅ : h₅.IsCell (n + 1) (some vs) := rd_cell (F₅.rd (x := "step") rfl) (by intro q; cases q) rfl
  have hclq : ∀ (h : Heap), Kp h₅ h → ∀ q ∈ ([("step", n + 1), ("goal", n + 2)] : List (Str × Addr)), ∃ v, h.IsCell q.2 v := fun h kh q hq => by
    simp only [List.mem_cons, List.not_mem_nil, or_false] at hq
    rcases hq with rfl | rfl
    · exact ⟨_, cs₅.keeps kh⟩
    · exact ⟨_, cg₅.keeps kh⟩
  have hcpq : ([("step", n + 1), ("goal", n + 2)] : List (Str × Addr)).Pairwise fun x y => x.2 ≠ y.2 := List.pairwise_cons.mpr ⟨fun q hq => by rw [List.mem_singleton.mp hq]; exact Nat.ne_of_lt (Nat.lt_succ_self _), List.pairwise_singleton _ _⟩
  -- due
  refine wpAny_execs_cons (wpAny_Assign_Name (Ev.use (Ev.tuple2 (P1 := IsL IsC (part.filter (pin δ goal))) (P2 := IsL IsC (part.filter fun c => !pin δ goal c)) ?_ ?_ (stb_L fun _ => stb_S) (stb_L fun _ => stb_S)) ?_))
  · refine Ev.mono (Ev.listComp (tk := false) (xs := part) (P := IsC) (G := IsC) (cl := [("step", n + 1), ("goal", n + 2)]) (pin δ goal) (fun a ρ h => ∃ v, ρ "state" = some v ∧ IsC a v h) rfl hcpq (hclq _ fun _ _ e => e) (fun _ _ _ _ x _ => x) (fun _ _ _ _ _ x => x) (by omega)
        (Src.str R'.hh ((Ev.name rfl (F₅.rd rfl)).mono fun _ _ _ e => ⟨t1, e⟩) hpa) (fun a C _ => Assigns.name (.inl rfl) stq_S) (fun a C ρ h' tk' ha ⟨v, ev, va⟩ kk F' => ?_) (fun a C ρ h' tk' ha _ ⟨v, ev, va⟩ kk F' => ?_)) (fun _ _ _ x => x.1)
    · obtain ⟨u, eu⟩ := va
      subst eu
      exact Ev.tests1 (Ev.cmpT (P1 := IsC (δ a)) (P2 := IsTx goal) (Ev.stepAt rfl (.inr ⟨.inl rfl, _, rfl, cs₅.keeps kk⟩) (F'.rd ev) (stb_step _ _ _ kk hs₅) (hp a ha))
        (fun o s₁ k₁ _ => (Ev.name rfl (.inr ⟨.inl rfl, _, rfl, (cg₅.keeps kk).keeps (keeps_heap k₁)⟩)).mono fun _ _ _ e => ⟨t2, e⟩)
        (fun o i s₁ s₂ _ ⟨u1, e1⟩ _ ⟨u2, e2⟩ => by subst e1 e2; exact Ev.inStr))
    · exact (Ev.name rfl (F'.rd ev)).mono fun _ _ _ e => by have e' : _ = v := e; rw [e']; exact va
  · intro v1 s₁ k₁ _
    obtain ⟨h₆, tk₆, rfl, k₆⟩ := k₁
    refine Ev.mono (Ev.listComp (tk := false) (xs := part) (P := IsC) (G := IsC) (cl := [("step", n + 1), ("goal", n + 2)]) (fun c => !pin δ goal c) (fun a ρ h => ∃ v, ρ "state" = some v ∧ IsC a v h) rfl hcpq (hclq _ k₆) (fun _ _ _ _ x _ => x) (fun _ _ _ _ _ x => x) (by omega)
        (Src.str R'.hh ((Ev.name rfl ((F₅.kept k₆).rd rfl)).mono fun _ _ _ e => ⟨t1, e⟩) hpa) (fun a C _ => Assigns.name (.inl rfl) stq_S) (fun a C ρ h' tk' ha ⟨v, ev, va⟩ kk F' => ?_) (fun a C ρ h' tk' ha _ ⟨v, ev, va⟩ kk F' => ?_)) (fun _ _ _ x => x.1)
    · obtain ⟨u, eu⟩ := va
      subst eu
      exact Ev.tests1 (Ev.cmpT (P1 := IsC (δ a)) (P2 := IsTx goal) (Ev.stepAt rfl (.inr ⟨.inl rfl, _, rfl, (cs₅.keeps k₆).keeps kk⟩) (F'.rd ev) (stb_step _ _ _ kk (stb_step _ _ _ k₆ hs₅)) (hp a ha))
        (fun o s₁ k₁ _ => (Ev.name rfl (.inr ⟨.inl rfl, _, rfl, ((cg₅.keeps k₆).keeps kk).keeps (keeps_heap k₁)⟩)).mono fun _ _ _ e => ⟨t2, e⟩)
        (fun o i s₁ s₂ _ ⟨u1, e1⟩ _ ⟨u2, e2⟩ => by subst e1 e2; exact Ev.notInStr))
    · exact (Ev.name rfl (F'.rd ev)).mono fun _ _ _ e => by have e' : _ = v := e; rw [e']; exact va
  rintro w6 h₆ tk₆ k₆ ⟨d, v1, v2, e1, dn, do_, p1, p2⟩
  subst e1
  have F₆ := F₅.kept k₆
  refine F₆.store (.inl rfl) fun h₇ tk₇ F₇ kf₇ => ?_
  have sq₇ := F₆.sq kf₇
  have hv₇ : IsHalves _ _ v h₇ := stq_T (fun _ => stq_L fun _ => stq_S) _ _ _ (k₆.sq.trans sq₇) hv₅
  have hd₇ : IsHalves _ _ (.ref d) h₇ := stq_T (fun _ => stq_L fun _ => stq_S) _ _ _ sq₇ ⟨d, [v1, v2], 0, rfl, do_, .cons p1 (.cons p2 .nil)⟩
  have T₇ : Full lamQual lamPos c' h₇ := F₆.full kf₇ (T₅.kp k₆)
  have x₇ : ∀ c', Full lamQual lamPos c' s.heap → ∀ o, s.heap.get? 123 = some o → h₇.get? 123 = some o := fun c'' x o e => by
    have z := x.1
    rw [e] at z; cases z
    exact F₆.other kf₇ (k₆ _ _ (F₄.other kf₅ (k₄ _ _ (kk₃ c'' (x.kp k₂') _ _ (k₂' _ _ e))) (by intro _ _ q; cases q) (by intro _ q; cases q))) (by intro _ _ q; cases q) (by intro _ q; cases q)
  have rdv : upd (upd (updAll (fun _ => none) [("part", .str (tx part) t1), ("step", vs), ("goal", .str (tx goal) t2)]) "told" v) "due" (.ref d) "told" = some v := rfl
  -- the end
  refine wpAny_execs_cons (wpAny_Return_some (Ev.use (P := fun u h => IsL IsTx (halves δ part goal) u h ∧ ∃ a, u = .ref a ∧ h₇.get? a = none) (Ev.ifexp (b := true) (Ev.cmpT (P1 := fun u _ => u = v) (P2 := fun u _ => u = .ref d) (Ev.name rfl (F₇.rd rdv)) (fun o s₁ k₁ _ => Ev.name rfl ((F₇.rd rfl).keeps (keeps_heap k₁))) (fun o i s₁ s₂ k₁ e1 k₂ e2 => ?_)) (fun s₁ k₁ _ => ?_) (fun _ _ q => by cases q)) ?_))
  · subst e1 e2
    have kk := keeps_heap (keeps_trans k₁ k₂)
    exact Ev.eqHalves R' (stb_T (fun _ => stb_L fun _ => stb_S) _ _ _ kk hv₇) (stb_T (fun _ => stb_L fun _ => stb_S) _ _ _ kk hd₇) (fun c hc => hpa c (List.mem_filter.mp hc).1) (fun c hc => hpa c (List.mem_filter.mp hc).1)
  · obtain ⟨h₈, tk₈, rfl, k₈⟩ := k₁
    refine Ev.mono (Ev.listComp (tk := false) (xs := [part.filter (pin δ goal), part.filter fun c => !pin δ goal c]) (P := fun l => IsL IsC l) (G := IsTx) (cl := []) (fun l => !l.isEmpty) (fun a ρ h => ∃ v, ρ "half" = some v ∧ IsL IsC a v h) rfl List.Pairwise.nil (fun q hq => by cases hq) (fun a ρ h h' ⟨v, e, q⟩ kk => ⟨v, e, stb_L (fun _ => stb_S) _ _ _ kk q⟩) (fun _ _ _ _ _ x => x) (by simp)
        (Src.halves R'.hh ((Ev.name rfl ((F₇.kept k₈).rd rdv)).mono fun _ _ kk e => by have e' : _ = v := e; rw [e']; exact stb_T (fun _ => stb_L fun _ => stb_S) _ _ _ (fun b o q => kk _ _ (k₈ _ _ q)) hv₇)) (fun a C _ => Assigns.name (.inl rfl) (stq_L fun _ => stq_S)) (fun a C ρ h' tk' ha ⟨u, ev, us, vv, m, e1, ho, L⟩ kk F' => ?_) (fun a C ρ h' tk' ha _ ⟨u, ev, va⟩ kk F' => ?_)) (fun u h' kk x => ⟨x.1, ?_⟩)
    · subst e1
      have la : a.length ≤ 100 := by
        simp only [List.mem_cons, List.not_mem_nil, or_false] at ha
        rcases ha with rfl | rfl <;> exact Nat.le_trans (List.length_filter_le _ _) hlp
      have hl := L.length
      refine Ev.tests1 (Ev.truthT (P := fun v _ => v = .ref us) (Ev.name rfl (F'.rd ev)) (fun v s₁ k₁ e => ?_))
      subst e
      refine Ev.mono (Ev.truthyL (keeps_heap k₁ _ _ ho) (by omega)) fun c _ _ e => ?_
      rw [e]
      congr 1
      rw [Bool.eq_iff_iff, List.isEmpty_iff_length_eq_zero, List.isEmpty_iff_length_eq_zero]; omega
    · have la : a.length ≤ 100 := by
        simp only [List.mem_cons, List.not_mem_nil, or_false] at ha
        rcases ha with rfl | rfl <;> exact Nat.le_trans (List.length_filter_le _ _) hlp
      refine Ev.join (P := IsL IsC a) (fun s₁ k₁ => (Ev.name rfl ((F'.rd ev).keeps (keeps_heap k₁))).mono fun _ _ kk e => by have e' : _ = u := e; rw [e']; exact stb_L (fun _ => stb_S) _ _ _ (fun b o q => kk _ _ (keeps_heap k₁ _ _ q)) va) fun v t s₁ k₁ ⟨D, ws, m, e1, ho, L⟩ => ?_
      subst e1
      refine Ev.mono (Ev.joinL ho (all2_single L) ?_) fun _ _ _ q => ?_
      · rw [sum_singles]; omega
      · rw [flatten_singles] at q; exact q
    · obtain ⟨a, e, q⟩ := x.2
      exact ⟨a, e, none_of (s := { s with heap := h₇ }) k₈ q⟩
  rintro u h₈ tk₈ k₈ ⟨hu, a, e, ha⟩
  refine hQ u h₈ tk₈ (ktB (F₇.kept k₈)) ⟨c', T₇.kp k₈⟩ (fun c'' x b o e => ?_) hu ⟨a, e, ?_⟩
  · by_cases hb : b = 123
    · subst hb; exact k₈ _ _ (x₇ c'' x o e)
    · exact ktB (F₇.kept k₈) b o hb e
  cases q : s.heap.get? a with
  | none => rfl
  | some o =>
    by_cases z : a = 123
    · rw [z] at ha
      obtain ⟨ps', e'⟩ := T₇.tab.at_
      rw [e'] at ha; cases ha
    · rw [ktB F₇ a o z q] at ha; cases ha
end Mine

end

-- ======== Acc1 ========
section
open PySem PySem.W PySem.Calls PyProof.Rows Builtin Builtin.ObjectAttr
set_option maxRecDepth 100000
namespace Mine

abbrev aobj (d : Addr) (vs : List Value) (n : Nat) : Obj := { cls := .ref 107, dict := some d, data := .seq vs.toArray n }
abbrev dob (w : World) (tk : Tok) (v : Value) : Obj := Obj.putName "_initial_size" (PyData.keyHash w.params "_initial_size") (.str "_initial_size" tk) v emptyDict

section
variable {w : World} {A : Around} {E : Value → Shared → Prop} {s : Shared} {x d : Addr} {vs : List Value} {n : Nat} {od : Obj}

theorem acc_list {M : Model} {h : Heap} (X : (KK w).In h) {ox : Obj} {od : Option Obj} (I : InstAt h x ox 107 od) : Looks M h (isInstance (.ref x) (.type "list")) true := I.type.andThen (looks_mroIn X rfl)
theorem acc_object {M : Model} {h : Heap} (X : (KK w).In h) {ox : Obj} {od : Option Obj} (I : InstAt h x ox 107 od) : Looks M h (isInstance (.ref x) (.type "object")) true := I.type.andThen (looks_mroIn X rfl)

theorem inst_of {h : Heap} (hx : h.get? x = some (aobj d vs n)) (hd : h.get? d = some od) : InstAt h x (aobj d vs n) 107 (some od) := ⟨hx, rfl, rfl, hd⟩

/-- a method of the class's own -/
theorem acc_method {f : Addr} {name : Str} {pl : Sem Bool} {Q : Value × List Value → Shared → Prop} (X : (KK w).In s.heap) (hx : s.heap.get? x = some (aobj d vs n)) (hd : s.heap.get? d = some od)
    (hf : findIn (KK w) (.ref 107) name = some (some (.ref f))) (ht : typeIn (KK w) (.ref f) = some (.type "function")) (hs : shadowIn (some od) name = some false) (h : Q (.ref f, [.ref x]) s) :
    wpAny (model PG w) A (getMethod (.ref x) name pl) Q E s := by
  have I := inst_of hx hd
  have hcan : (Manifest.canonical "list.__getattribute__" != "object.__getattribute__") = false := PySem.canon_list_getattribute
  unfold getMethod specialOf
  refine wpAny_bind (wpAny_bind (I.type.here ((looks_findIn (r := some (.builtin "list.__getattribute__")) X rfl).here ?_)))
  dsimp only
  rw [hcan, if_neg (by decide)]
  refine wpAny_bind (wpAny_bind (I.type.here ((looks_findIn (r := none) X rfl).here ?_)))
  refine wpAny_bind (wpAny_bind (I.type.here ((looks_findIn X hf).here (wpAny_bind ((looks_typeIn X ht).here ?_)))))
  rw [if_neg (by decide +kernel)]
  refine wpAny_bind (wpAny_loadPart hx ?_)
  obtain ⟨r, a, b⟩ := Option.map_eq_some_iff.mp hs
  refine wpAny_bind (wpAny_bind (wpAny_loadPart hd ?_))
  rw [nsLook_of a]
  refine wpAny_pure ?_
  rw [b]
  exact wpAny_bind (wpAny_rule (wpAny_pure h))
/-- list's append, found over the class -/
theorem acc_append_method {pl : Sem Bool} {Q : Value × List Value → Shared → Prop} (X : (KK w).In s.heap) (hx : s.heap.get? x = some (aobj d vs n)) (hd : s.heap.get? d = some od)
    (hs : shadowIn (some od) "append" = some false) (h : Q (.builtin "list.append", [.ref x]) s) :
    wpAny (model PG w) A (getMethod (.ref x) "append" pl) Q E s := by
  have I := inst_of hx hd
  have hcan : (Manifest.canonical "list.__getattribute__" != "object.__getattribute__") = false := PySem.canon_list_getattribute
  unfold getMethod specialOf
  refine wpAny_bind (wpAny_bind (I.type.here ((looks_findIn (r := some (.builtin "list.__getattribute__")) X rfl).here ?_)))
  dsimp only
  rw [hcan, if_neg (by decide)]
  refine wpAny_bind (wpAny_bind (I.type.here ((looks_findIn (r := none) X rfl).here ?_)))
  refine wpAny_bind (wpAny_bind (I.type.here ((looks_findIn (r := some (.builtin "list.append")) X rfl).here (wpAny_bind ((looks_typeIn (t := .type "method_descriptor") X rfl).here ?_)))))
  rw [if_neg (by decide +kernel)]
  refine wpAny_bind (wpAny_loadPart hx ?_)
  obtain ⟨r, a, b⟩ := Option.map_eq_some_iff.mp hs
  refine wpAny_bind (wpAny_bind (wpAny_loadPart hd ?_))
  rw [nsLook_of a]
  refine wpAny_pure ?_
  rw [b]
  exact wpAny_bind (wpAny_rule (wpAny_pure h))

theorem check_method {M : Model} {i owner n : String} {self : Value} {rest : List Value} {kw : List (Str × Value)} {Q : Unit → Shared → Prop}
    (hk : builtinKind i = some .method) (hs : splitId i = some (owner, n)) (hi : Looks M s.heap (isInstance self (.type owner)) true) (ha : argsOk i ⟨self :: rest, kw⟩) (q : Q () s) :
    wpAny M A (checkBuiltinCall i ⟨self :: rest, kw⟩) Q E s := by
  simp only [checkBuiltinCall, hk, hs]
  refine wpAny_bind (hi.here ?_)
  simp only [Bool.not_true, Bool.false_eq_true, if_false]
  cases hsig : Manifest.signature? i with
  | none => exact wpAny_pure q
  | some sig =>
    simp only [argsOk, hsig] at ha
    have h2 : Bind.checkArgs i sig ⟨self :: rest, kw⟩ = pure () := ha
    show wpAny M A (Bind.checkArgs i sig ⟨self :: rest, kw⟩) Q E s
    rw [h2]; exact wpAny_pure q

theorem acc_append {y : Value} {Q : Value → Shared → Prop} (X : (KK w).In s.heap) (hx : s.heap.get? x = some (aobj d vs n)) (hd : s.heap.get? d = some od) (hsz : vs.length ≤ 1000)
    (hQ : ∀ h', h'.get? x = some (aobj d (vs ++ [y]) (n + 1)) → Heap.SameBut x s.heap h' → Q .none { s with heap := h' }) :
    wpAny (model PG w) A (call (.builtin "list.append") [.ref x, y]) Q E s := by
  have hsz' : vs.length ≤ sizeLine := by have : sizeLine = 16777216 := by decide
                                         omega
  refine wpAny_call (codeAny_call_builtin (by decide +kernel) entry_list_append (check_method (by decide +kernel) (by decide +kernel : splitId "list.append" = some ("list", "append")) (acc_list X (inst_of hx hd)) (args_list_append _ _) ?_))
  show wpAny _ _ (updateSeq x (·.push y) >>= fun _ => ret .none) _ _ s
  refine wpAny_bind (wpAny_updateSeq (hz := by rw [List.size_toArray]; exact hsz') (_hz' := by rw [Array.size_push, List.size_toArray]; have : sizeLine = 16777216 := by decide
                                                                                               omega) hx rfl (wpAny_pure (hQ _ ?_ (Heap.SameBut.update ..))))
  rw [Heap.get?_update_self _ hx (by rfl)]
  simp [Obj.mapSeq]
end
end Mine

end

-- ======== Acc2 ========
section
open PySem PySem.W PySem.Calls PyProof.Rows Builtin Builtin.ObjectAttr
set_option maxRecDepth 100000
set_option maxHeartbeats 4000000
namespace Mine
section
variable {w : World} {A : Around} {E : Value → Shared → Prop} {s : Shared} {x d : Addr} {vs : List Value} {n : Nat} {od : Obj}

theorem pass_list (self : Value) : refuseLoop self "__setattr__" [.ref 107, .type "list", .type "object"] = pure () := by
  rw [refuseLoop_ref]; kernel_rfl

theorem acc_setInit {v : Value} {Q : Unit → Shared → Prop} (X : (KK w).In s.heap) (hx : s.heap.get? x = some (aobj d vs n)) (hd : s.heap.get? d = some emptyDict)
    (hQ : ∀ h' tk, h'.get? d = some (dob w tk v) → Heap.SameBut d s.heap h' → Q () { s with heap := h', toks := s.toks + 2 }) :
    wpAny (model PG w) A (setAttr (.ref x) "_initial_size" v) Q E s := by
  obtain ⟨hh, gg, dr, tt, os⟩ := s
  have I := inst_of hx hd
  refine set_plain X I rfl ?_
  dsimp only at X hx hd I ⊢
  have SF := PySem.F.store_object
  have sub := acc_object (M := model PG w) X I
  refine codeAny_call_builtin SF.slot.plain SF.entry (@check_slot (model PG w) _ _ _ "object.__setattr__" "object" "__setattr__" (.ref x) [.str "_initial_size" tt, v] [] _ SF.kind SF.split sub (SF.args (.ref x) (.str "_initial_size" tt) v) ?_)
  have hm : Looks (model PG w) hh (mroOf (.ref 107)) [.ref 107, .type "list", .type "object"] := (looks_clsIn X rfl).andThen .now
  rw [osa_eq, refuse_eq]
  refine wpAny_bind (wpAny_bind (I.type.at (wpAny_bind (hm.at ?_))))
  rw [pass_list]
  refine wpAny_pure (wpAny_bind (I.type.at (wpAny_bind ((looks_findIn (r := none) X rfl).at (wpAny_bind (wpAny_pure ?_))))))
  refine wpAny_bind (wpAny_pure (wpAny_bind (wpAny_bind (wpAny_loadPart hx (wpAny_bind ((looks_clsIn X rfl).at ?_))))))
  refine wpAny_pure (a := some d) (wpAny_bind (wpAny_pure (wpAny_bind ?_)))
  unfold nsSet
  refine wpAny_bind (wpAny_bind (wpAny_askSetting (wpAny_pure (wpAny_bind (wpAny_mkText (wpAny_bind (wpAny_loadPart hd ?_)))))))
  show wpAny (model PG w) A.in1 (updatePart d (some (Value.str (Str.ofString "_initial_size") 0)) (Obj.putName "_initial_size" (PyData.keyHash w.params "_initial_size") (.str "_initial_size" (tt + 1)) v)) _ _ _
  refine wpAny_updatePart hd ?_
  have D' : (hh.update d (Obj.putName "_initial_size" (PyData.keyHash w.params "_initial_size") (.str "_initial_size" (tt + 1)) v)).get? d = some (dob w (tt + 1) v) := by
    rw [Heap.get?_update_self _ hd (by rfl)]
  refine wpAny_bind (wpAny_lookBehind D' (pastItsLine_dict (by show 1 ≤ sizeLine + 1; decide)) ?_)
  exact wpAny_pure (hQ _ _ D' (Heap.SameBut.update ..))

abbrev aobj0 (d : Addr) : Obj := { cls := .ref 107, dict := some d, data := .seq #[] }
theorem acc_made {M : Model} {h : Heap} (X : (KK w).In h) : Looks M h (Bind.madeBy (.ref 107)) (some "list.__new__") := by
  have hm : Looks M h (mroOf (.ref 107)) [.ref 107, .type "list", .type "object"] := (looks_clsIn X rfl).andThen .now
  obtain ⟨o, ho, hs⟩ : ∃ o, (KK w).lookup 107 = some o ∧ o.slots[4]? = some (some (.builtin "list.__new__")) := ⟨_, rfl, rfl⟩
  intro A Q E s k q
  unfold Bind.madeBy
  refine wpAny_bind (hm A _ E s k ?_)
  rw [List.forIn_cons]
  refine wpAny_bind (wpAny_bind (wpAny_bind (wpAny_bind (wpAny_loadPart (k _ _ (X _ _ ho)) (wpAny_pure ?_)))))
  dsimp only
  rw [hs]
  exact wpAny_pure (wpAny_pure (wpAny_pure q))
theorem acc_base {M : Model} {h : Heap} (X : (KK w).In h) : Looks M h (Bind.staticBase (.ref 107)) (.ref 107) := by
  have hm : Looks M h (mroOf (.ref 107)) [.ref 107, .type "list", .type "object"] := (looks_clsIn X rfl).andThen .now
  intro A Q E s k q
  unfold Bind.staticBase
  refine wpAny_bind (hm A _ E s k ?_)
  rw [List.forIn_cons]
  exact wpAny_bind (wpAny_bind (wpAny_bind (acc_made X A _ E s k (wpAny_pure (wpAny_pure (wpAny_pure q))))))

theorem kind_list_new : builtinKind "list.__new__" = some .builtinFn := by decide +kernel
theorem split_list_new : splitId "list.__new__" = some ("list", "__new__") := by decide +kernel
theorem own_find {h : Heap} {M : Model} (X : (KK w).In h) : Looks M h (isType (.ref 107)) true := by
  obtain ⟨o, cd, ho, hd⟩ : ∃ o cd, (KK w).lookup 107 = some o ∧ o.data = .cls cd := ⟨_, _, rfl, rfl⟩
  intro A Q E s k q
  obtain ⟨hh, gg, dr, tt, os⟩ := s
  exact ks_wpAny_isType_cls (k _ _ (X _ _ ho)) hd q

theorem acc_new {R : Result → Shared → Prop} (X : (KK w).In s.heap)
    (hq : R (.ok (.ret (.ref (s.heap.objs.size + 1)))) { s with heap := (s.heap.push emptyDict).push (aobj0 s.heap.objs.size) }) :
    codeAny (model PG w) A (.call (.builtin "list.__new__") ⟨[.ref 107], []⟩) R s := by
  obtain ⟨hh, gg, dr, tt, os⟩ := s
  dsimp only at X hq
  have base := acc_base (M := model PG w) X
  have made := acc_made (M := model PG w) X
  have typ := own_find (M := model PG w) X
  have top : Looks (model PG w) hh (isSubtype (.ref 107) (.type "list")) true := looks_mroIn X rfl
  refine codeAny_call_builtin_code (plainId_quiet F.plain_list_new _) ?_
  have args : argsOk "list.__new__" ⟨[.ref 107], []⟩ := by unfold argsOk; kernel_rfl
  have fin : codeAny (model PG w) A (.builtin "list.__new__" ⟨[.ref 107], []⟩) R ⟨hh, gg, dr, tt, os⟩ := by
    refine codeAny_builtin_stack F.entry_list_new rfl fun p st => ?_
    rw [Around.under_plainId F.plain_list_new _]
    have hown := owner_list_new
    simp only [hown]
    repeat (first | lk | wp_step)
    obtain ⟨o, cd, ho, hd, hdel⟩ : ∃ o cd, (KK w).lookup 107 = some o ∧ o.data = .cls cd ∧ cd.hasDel = false := ⟨_, _, rfl, rfl, rfl⟩
    refine nd_load (Heap.get?_push_of_some _ (Heap.get?_push_of_some _ (X _ _ ho))) (nd_pure ?_)
    rw [hd]
    refine wpAny_pure ?_
    rw [hdel]
    refine wpAny_pure (wpAny_pure ?_)
    show R _ _
    rw [Heap.size_push]
    exact hq
  simp only [checkBuiltinCall, kind_list_new, split_list_new]
  rw [if_pos (by decide)]
  refine wpAny_bind (typ.at ?_)
  simp only [Bool.not_true, Bool.false_eq_true, if_false]
  refine wpAny_bind (top.at ?_)
  simp only [Bool.not_true, Bool.false_eq_true, if_false]
  refine wpAny_bind (base.at (wpAny_bind (made.at ?_)))
  simp only [bne_self_eq_false, Bool.false_eq_true, if_false]
  cases hsig : Manifest.signature? "list.__new__" with
  | none => exact wpAny_pure fin
  | some sig =>
    simp only [argsOk, hsig] at args
    have h2 : Bind.checkArgs "list.__new__" sig ⟨[.ref 107], []⟩ = pure () := args
    show wpAny _ _ (Bind.checkArgs "list.__new__" sig ⟨[.ref 107], []⟩) _ _ _
    rw [h2]; exact wpAny_pure fin

/-- the class called with nothing -/
theorem acc_make {R : Result → Shared → Prop} (X : (KK w).In s.heap)
    (hq : codeAny (model PG w) (A.under (.builtin "type.__call__" ⟨[.ref 107], []⟩)) (.call (.ref 45) ⟨[.ref (s.heap.objs.size + 1)], []⟩) (InitBack (s.heap.objs.size + 1) R) { s with heap := (s.heap.push emptyDict).push (aobj0 s.heap.objs.size) }) :
    codeAny (model PG w) A (.call (.ref 107) ⟨[], []⟩) R s := by
  obtain ⟨hh, gg, dr, tt, os⟩ := s
  dsimp only at X hq
  have made := acc_made (M := model PG w) X
  have call : Looks (model PG w) hh (specialOf (.ref 107) "__call__") (some (.builtin "type.__call__")) := looks_specialIn X rfl
  have typ : Looks (model PG w) hh (isInstance (.ref 107) (.type "type")) true := looks_instIn X rfl
  have self : Looks (model PG w) hh (isSubtype (.ref 107) (.ref 107)) true := looks_mroIn X rfl
  have hi : Looks (model PG w) hh (typeLookup (.ref 107) "__init__") (some (.ref 45)) := looks_findIn X rfl
  have hm : Looks (model PG w) hh (mroOf (.ref 107)) [.ref 107, .type "list", .type "object"] := (looks_clsIn X rfl).andThen .now
  obtain ⟨o, cd, ho, hd⟩ : ∃ o cd, (KK w).lookup 107 = some o ∧ o.data = .cls cd := ⟨_, _, rfl, rfl⟩
  refine codeAny_of_tree ?_
  show wpAny _ _ (callAny (.ref 107) _) _ _ _
  unfold callAny
  refine wpAny_bind (wpAny_loadPart (X _ _ ho) ?_)
  rw [hd]
  show wpAny _ _ (callAny.viaDunder (.ref 107) _) _ _ _
  unfold callAny.viaDunder
  refine wpAny_bind (call.at ?_)
  dsimp only
  rw [tc_bind]
  refine wpAny_bind (wpAny_pure (wpAny_bind (wpAny_pure ?_)))
  refine wpAny_pure (a := Fin.again (.call (.builtin "type.__call__") ⟨[.ref 107], []⟩)) (And.intro rfl ?_)
  refine codeAny_call_builtin_at (Code.quiet_builtin _ (by decide +kernel)) entry_typeCall (check_slot tc_kind tc_split typ (tc_args _ _ _) ?_)
  unfold Builtin.«type.__call__»
  repeat (first | with_reducible refine wpAny_call ?_ | lk)
  refine acc_new (s := ⟨hh, gg, dr, tt, os⟩) X ?_
  dsimp only
  have k : ∀ b o, hh.get? b = some o → ((hh.push emptyDict).push (aobj0 hh.objs.size)).get? b = some o := fun b o e => Heap.get?_push_of_some _ (Heap.get?_push_of_some _ e)
  have hx : ((hh.push emptyDict).push (aobj0 hh.objs.size)).get? (hh.objs.size + 1) = some (aobj0 hh.objs.size) := by heap_get
  have t1 : Looks (model PG w) ((hh.push emptyDict).push (aobj0 hh.objs.size)) (typeOf (.ref (hh.objs.size + 1))) (.ref 107) := (Looks.ld hx).andThen .now
  have s1 := self.keeps k
  have i1 := hi.keeps k
  have b1 := (bind_fn (M := model PG w) (f := 45) X (.ref (hh.objs.size + 1)) rfl).keeps k
  unfold isInstance callSpecial? specialOf
  repeat (first | with_reducible refine wpAny_call ?_ | lk)
  refine codeAny_mono hq fun r s' z => ?_
  rcases r with e | (v | _ | _ | _) <;> first | exact z | exact z.elim | skip
  obtain ⟨rfl, z⟩ := z
  exact wpAny_pure (wpAny_pure z)
end
end Mine

end

-- ======== Acc3 ========
section
open PySem PySem.W PySem.Calls PyProof.Rows Builtin Builtin.ObjectAttr
set_option maxRecDepth 100000
set_option maxHeartbeats 4000000
namespace Mine
section
variable {w : World} {A : Around} {E : Value → Shared → Prop} {x d : Addr} {vs : List Value} {n : Nat} {od : Obj}
abbrev mwObj (id : String) (x : Addr) : Obj := { cls := .type "method-wrapper", data := .fields #[.builtin id, .ref x] }
theorem wd_get {id : String} {Q : Fin → Shared → Prop} {h : Heap} {g dr t os} (hid : id = "list.__init__" ∨ id = "list.__len__") (hx : ∃ o, h.get? x = some o ∧ o.cls = .ref 107) (L : Looks (model PG w) h (isSubtype (.ref 107) (.type "list")) true)
    (hq : Q (.done (.ret (.ref h.objs.size))) ⟨h.push (mwObj id x), g, dr, t, os⟩) :
    wpAny (model PG w) A (Builtin.«wrapper_descriptor.__get__» ⟨[.builtin id, .ref x, .ref 107], []⟩) Q E ⟨h, g, dr, t, os⟩ := by
  have e : (".".intercalate (id.cutAt '.').dropLast) = "list" := by rcases hid with rfl | rfl <;> decide +kernel
  have fin : ∀ Q' : Fin → Shared → Prop, Q' (.done (.ret (.ref h.objs.size))) ⟨h.push (mwObj id x), g, dr, t, os⟩ → wpAny (model PG w) A (do
      let v ← newFields "method-wrapper" [Value.builtin id, Value.ref x]
      ret v) Q' E ⟨h, g, dr, t, os⟩ := fun Q' q => by
    unfold newFields
    exact wpAny_bind (wpAny_newObj_type (wpAny_pure q))
  unfold Builtin.«wrapper_descriptor.__get__»
  rcases hid with rfl | rfl
  · repeat (first | lk | wp_step | k_node)
    obtain ⟨o, hx, hc⟩ := hx
    refine nd_load hx (nd_pure (wpAny_pure ?_))
    rw [e, hc]
    refine L.at (wpAny_pure ?_)
    exact fin _ hq
  · repeat (first | lk | wp_step | k_node)
    obtain ⟨o, hx, hc⟩ := hx
    refine nd_load hx (nd_pure (wpAny_pure ?_))
    rw [e, hc]
    refine L.at (wpAny_pure ?_)
    exact fin _ hq

theorem slot_wd_get : Slot "wrapper_descriptor" "__get__" "wrapper_descriptor.__get__" := .of (owner := "wrapper_descriptor") (n := "__get__") (by rw [typeLookup_type, builtinLookup_eq_fast]; kernel_rfl) (by decide +kernel) (by decide +kernel) (by decide +kernel)
  (by first | exact .inl (by decide +kernel) | exact .inr (by decide +kernel)) (by rw [isSubtype_type]; kernel_rfl)
theorem entry_wd_get : entryFor table "wrapper_descriptor.__get__" = some Builtin.«wrapper_descriptor.__get__» := entryFor_of_tree (by kernel_rfl)
theorem args_wd_get (a b c : Value) : argsOk "wrapper_descriptor.__get__" ⟨[a, b, c], []⟩ := by unfold argsOk; kernel_rfl

theorem super_ga {so : Addr} {id : String} {name : Str} {tk : Tok} {Q : Fin → Shared → Prop} {h : Heap} {g dr t os}
    (hid : id = "list.__init__" ∨ id = "list.__len__") (X : (KK w).In h) (hso : h.get? so = some (ks_superObj 107 x 107)) (hx : h.get? x = some (aobj d vs n))
    (hf : alongIn (KK w) name [.type "list", .type "object"] = some (some (.builtin id))) (hxC : x ≠ 107) (hn : (name == ("__class__" : Str)) = false)
    (hq : Q (.done (.ret (.ref h.objs.size))) ⟨h.push (mwObj id x), g, dr, t, os⟩) :
    wpAny (model PG w) A (Builtin.«super.__getattribute__» ⟨[.ref so, .str name tk], []⟩) Q E ⟨h, g, dr, t, os⟩ := by
  have hno : Looks (model PG w) h (opaqueClassAbove (.ref 107)) none := looks_opaque X rfl
  have hC : Looks (model PG w) h (mroOf (.ref 107)) [.ref 107, .type "list", .type "object"] := (looks_clsIn X rfl).andThen .now
  have hl : (([.ref 107, .type "list", .type "object"] : List Value).dropWhile (· != .ref 107)).drop 1 = [.type "list", .type "object"] := by decide
  have L : Looks (model PG w) h (isSubtype (.ref 107) (.type "list")) true := looks_mroIn X rfl
  have hlk := slot_wd_get.lookup
  have hne : (Value.ref x == Value.ref 107) = false := by simp [hxC]
  have hty : typeOf (.builtin id) = pure (.type "wrapper_descriptor") := by rcases hid with rfl | rfl <;> kernel_rfl
  have hTf : (⟨h, g, dr, t, os⟩ : Shared).TypeIs (.builtin id) "wrapper_descriptor" := hty
  have hdt : (ks_superObj 107 x 107).data = .fields #[.ref 107, .ref x, .ref 107] := rfl
  have f0 : (#[.ref 107, .ref x, .ref 107] : Array Value)[0]? = some (.ref 107) := rfl
  have f1 : (#[.ref 107, .ref x, .ref 107] : Array Value)[1]? = some (.ref x) := rfl
  have f2 : (#[.ref 107, .ref x, .ref 107] : Array Value)[2]? = some (.ref 107) := rfl
  unfold Builtin.«super.__getattribute__»
  repeat (first
    | (with_reducible refine wpAny_field hso hdt f0 ?_) | (with_reducible refine wpAny_field hso hdt f1 ?_) | (with_reducible refine wpAny_field hso hdt f2 ?_)
    | (with_reducible refine ks_wpAny_notOpaque hno ?_)
    | (with_reducible refine Looks.at hC ?_; rw [hl])
    | (refine ks_forIn_along X (fun _ _ => rfl) rfl ?_ hf)
    | (with_reducible refine wpAny_typeOf hTf ?_)
    | (with_reducible refine wpAny_call_entry slot_wd_get hTf entry_wd_get ?_ (args_wd_get _ _ _))
    | (simp only [hn, hne, Bool.or_false, Bool.false_eq_true, if_false])
    | (refine wd_get hid ⟨_, hx, rfl⟩ L ?_)
    | (with_reducible refine ⟨_, rfl, ?_⟩)
    | wp_step
    | dsimp only)
  all_goals exact hq

theorem super_method {so : Addr} {id : String} {name : Str} {pl : Sem Bool} {Q : Value × List Value → Shared → Prop} {h : Heap} {g dr t os}
    (hid : id = "list.__init__" ∨ id = "list.__len__") (X : (KK w).In h) (hso : h.get? so = some (ks_superObj 107 x 107)) (hx : h.get? x = some (aobj d vs n))
    (hf : alongIn (KK w) name [.type "list", .type "object"] = some (some (.builtin id))) (hxC : x ≠ 107) (hn : (name == ("__class__" : Str)) = false)
    (hq : Q (.ref h.objs.size, []) ⟨h.push (mwObj id x), g, dr, t + 1, os⟩) :
    wpAny (model PG w) A (getMethod (.ref so) name pl) Q E ⟨h, g, dr, t, os⟩ := by
  have hlk := F.ks_slot_super_ga.lookup
  have hcan := F.ks_canon_super_ga
  have hT : ∀ t', (⟨h, g, dr, t', os⟩ : Shared).TypeIs (.ref so) "super" := fun _ => ⟨_, hso, rfl⟩
  unfold getMethod
  refine wpAny_bind (wpAny_specialOf (hT _) hlk ?_)
  show wpAny _ _ (if (Manifest.canonical "super.__getattribute__" != "object.__getattribute__") = true then _ else _) _ _ _
  rw [if_pos hcan]
  unfold getAttr getAttrBy
  refine wpAny_bind (wpAny_bind (wpAny_mkText (wpAny_holding (wpAny_bind (wpAny_typeOf (hT _) (wpAny_bind (wpAny_of_eq hlk ?_)))))))
  show wpAny _ _ (getAttrByItsOwn (.ref so) (.str name t) (.type "super") (.builtin "super.__getattribute__") true false) _ _ _
  unfold getAttrByItsOwn hookBefore callGetattribute boundAndCalled
  refine wpAny_bind (wpAny_of_eq (show (if onTheHeap (.type "super") then typeLookup (.type "super") "__getattr__" else pure none) = pure none from rfl) ?_)
  refine wpAny_bind (wpAny_attempt (wpAny_holding ?_))
  show wpAny _ _ (bindSpecial (.builtin "super.__getattribute__") (.ref so) >>= _) _ _ _
  refine wpAny_bind (wpAny_of_eq (F.ks_slot_super_ga.bind _) ?_)
  refine wpAny_mono (Q := fun v s' => v = .ref h.objs.size ∧ s' = ⟨h.push (mwObj id x), g, dr, t + 1, os⟩) (E := fun _ _ => False)
    (wpAny_call_entry F.ks_slot_super_ga (hT _) F.ks_entry_super_ga (super_ga hid X hso hx hf hxC hn ⟨_, rfl, rfl, rfl⟩) (F.ks_gaArgs_super _ _)) (fun v s' hv => ?_) fun _ _ z => z.elim
  obtain ⟨rfl, rfl⟩ := hv
  exact wpAny_pure (wpAny_pure hq)
end
end Mine

end

-- ======== Acc4 ========
section
open PySem PySem.W PySem.Calls PyProof.Rows Builtin Builtin.ObjectAttr
set_option maxRecDepth 100000
set_option maxHeartbeats 4000000
namespace Mine
section
variable {w : World} {A : Around} {E : Value → Shared → Prop} {s : Shared} {x d : Addr} {vs : List Value} {n : Nat} {od : Obj}

theorem machine0 {M : Model} {f : Value} {first : List Value} {pos : Pos} {Q : Value → Shared → Prop} (hk : Looks M s.heap (keeperOf f) .machine) (h : wpAny M A (call f first) Q E s) : wpAny M A (callWith pos f first [] []) Q E s := by
  unfold callWith
  refine wpAny_bind (wpAny_holding ?_)
  refine wpAny_mono (Q := fun a s' => a = ⟨[], []⟩ ∧ s' = s) (E := E) ?_ (fun a s' e => ?_) fun _ _ z => z
  · exact PySem.evalArgs_none ⟨rfl, rfl⟩
  obtain ⟨rfl, rfl⟩ := e
  refine wpAny_bind (wpAny_standAt (wpAny_bind (hk.here ?_)))
  simp only [List.any_nil, Bool.or_self, List.append_nil]
  exact wpAny_bind (wpAny_mono h (fun r s' hr => wpAny_bind (wpAny_holding (wpAny_point (wpAny_pure hr)))) fun _ _ x => x)

theorem mw_keeper {M : Model} {h : Heap} {a : Addr} {id : String} (e : h.get? a = some (mwObj id x)) : Looks M h (keeperOf (.ref a)) .machine := by
  intro A Q E s k q
  unfold keeperOf
  refine wpAny_bind (wpAny_loadPart (k _ _ e) ?_)
  exact wpAny_pure q
theorem call_mw {a : Addr} {id : String} {b : Builtin} {Q : Value → Shared → Prop} (e : s.heap.get? a = some (mwObj id x)) (hc : checkBoundCall id ⟨[.ref x], []⟩ = pure ()) (hp : plainId id = true) (hb : entryFor table id = some b)
    (h : wpAny (model PG w) A.in1 (b ⟨[.ref x], []⟩) (fun fin s' => ∃ v, fin = .done (.ret v) ∧ Q v s') E s) : wpAny (model PG w) A (call (.ref a) []) Q E s := by
  refine wpAny_call (codeAny_of_tree ?_)
  show wpAny _ A.in1 (callAny (.ref a) ⟨[], []⟩) _ _ _
  unfold callAny
  refine wpAny_bind (wpAny_loadPart e ?_)
  show wpAny _ A.in1 (do checkBoundCall id ⟨[.ref x], []⟩; again (.builtin id ⟨[.ref x], []⟩)) _ _ _
  rw [hc]
  refine wpAny_bind (wpAny_pure (wpAny_pure ⟨plainId_quiet hp _, codeAny_builtin hb ?_⟩))
  rw [Around.under_plainId hp _]
  exact wpAny_mono h (fun fin s' ⟨v, e, q⟩ => by subst e; exact q) fun _ _ z => z
theorem bound_init : checkBoundCall "list.__init__" ⟨[.ref x], []⟩ = pure () := by kernel_rfl
theorem bound_len : checkBoundCall "list.__len__" ⟨[.ref x], []⟩ = pure () := by kernel_rfl

theorem run_len {Q : Value → Shared → Prop} (hx : s.heap.get? x = some (aobj d vs n)) (hq : Q (.int vs.length s.toks) { s with toks := s.toks + 1 }) :
    wpAny (model PG w) A (Builtin.«list.__len__» ⟨[.ref x], []⟩) (fun fin s' => ∃ v, fin = .done (.ret v) ∧ Q v s') E s := by
  show wpAny _ _ (do retInt (← seqSize x)) _ _ s
  unfold seqSize
  refine wpAny_bind (wpAny_bind (wpAny_load hx ?_))
  refine wpAny_pure (wpAny_bind (wpAny_mkInt (wpAny_pure ⟨_, rfl, ?_⟩)))
  simpa using hq
theorem run_init {Q : Value → Shared → Prop} (hx : s.heap.get? x = some (aobj d [] n)) (hq : ∀ h' n', h'.get? x = some (aobj d [] n') → Heap.SameBut x s.heap h' → Q .none { s with heap := h' }) :
    wpAny (model PG w) A (Builtin.«list.__init__» ⟨[.ref x], []⟩) (fun fin s' => ∃ v, fin = .done (.ret v) ∧ Q v s') E s := by
  show wpAny _ _ (List.listItems (.ref x) >>= fun old => updateSeq x (fun _ => #[]) >>= fun _ => letGo old.toList.reverse >>= fun _ => ret .none) _ _ s
  refine wpAny_bind (wpAny_bind (wpAny_seqItems hx rfl ?_))
  refine wpAny_pure (wpAny_bind (wpAny_updateSeq (hz := by decide) (_hz' := by decide) hx rfl ?_))
  refine wpAny_bind (wpAny_letGo (wpAny_pure ⟨_, rfl, ?_⟩))
  refine hq _ n ?_ (Heap.SameBut.update ..)
  rw [Heap.get?_update_self _ hx (by rfl)]
  simp [Obj.mapSeq]
end
end Mine

end

-- ======== Acc5 ========
section
open PySem PySem.W PySem.Calls PyProof.Rows Builtin Builtin.ObjectAttr
set_option maxRecDepth 100000
set_option maxHeartbeats 4000000
namespace Mine
section
variable {w : World} {A : Around} {E : Value → Shared → Prop} {s : Shared} {x d : Addr} {vs : List Value} {n : Nat} {mg mb : Str → Option Value}

theorem code_at {a : Addr} {o : Obj} {vals : List Value} {R : Result → Shared → Prop} (binds : List (Str × Value)) (G : Gd w mg mb s.heap) (hroom : A.depth < recursionLimit)
    (hcl : (fnAt a).closure.Pairwise fun x y => x.2 ≠ y.2) (hlt : ∀ p ∈ (fnAt a).closure, p.2 < s.heap.objs.size) (hown : OwnAll (envAt a s.heap.objs.size) (fcAt a s.heap.objs.size) binds)
    (hbind : BindsTo s (fnAt a) ⟨vals, []⟩ binds)
    (h : ∀ n h₁ tk, s.heap.get? n = none → Fm s.heap (envAt a n) (fcAt a n) (updAll (fun _ => none) binds) h₁ →
      PySem.wpAt (model PG w) (A.deeper (envAt a n)) (.func (bodyAt a) (envAt a n)) (execs (bodyAt a) (envAt a n)) (fun fl s' => R (.ok (.ret (retv fl))) s') (fun _ _ => False) { s with heap := h₁, toks := tk })
    (ho : (KK w).lookup a = some o := by rfl) (hd : o.data = .func (fnAt a) := by rfl) (hb : (fnAt a).body = .stmts (bodyAt a) := by rfl) (hcd : codeIn (KK w) (fnAt a).code (fnAt a).qualname = true := by rfl)
    (hco : (fnAt a).scope.isCoroutine = false := by rfl) (hgen : (fnAt a).scope.isGenerator = false := by rfl) (hk : (fnAt a).scope.kind = .function := by rfl) :
    codeAny (model PG w) A (.call (.ref a) ⟨vals, []⟩) R s := by
  refine codeAny_call_function hroom (G.X _ _ ho) hd hco hgen hb (codeRec_of G.X hcd) (hbind _ _ _ _ ?_)
  refine newEnv_Fm hk hcl hlt hown.all fun h₁ tk F => ⟨G.lim.keeps F.keep, ks_codeAny_funcAt ?_⟩
  refine ks_wpAt_mono (h _ h₁ tk (Heap.get?_none_of_le (Nat.le_refl _)) F) (fun fl s' z => z) fun _ _ z => z.elim

theorem super_base {a n : Addr} {attr : Str} {p0 p1 : Pos} {whole : Sem Value} {body : List Stmt} {Q : Value → Shared → Prop} {ar : Arg} {cc : Addr} {oc : Obj} {vs' : Array Value} {file : Str} {tf : Tok} {o32 oa : Obj} (G : Gd w mg mb s.heap) (r : Rd (envAt a n) s.heap "self" (.ref x)) {m : Nat} (hx : s.heap.get? x = some (aobj d vs m))
    (hq : ∀ so h', h'.get? so = some (ks_superObj 107 x 107) → Kp s.heap h' → s.heap.get? so = none → Q (.ref so) { s with heap := h' })
    (hat : (attr == ("__class__" : Str)) = false)
    (hks : (envAt a n).kindOf "super" = some .globalImplicit) (hkc : (envAt a n).kindOf "__class__" = some .free) (hk : (envAt a n).scope.kind = .function) (hc : (envAt a n).cells.lookup ("__class__" : Str) = some 32)
    (hka : (envAt a n).kindOf "self" = some .local)
    (ho : (KK w).lookup a = some oa) (hd : oa.data = .func (fnAt a))
    (hp : ((fnAt a).params.posonlyargs ++ (fnAt a).params.args).head? = some ar) (har : ar.arg = "self") (hco : (envAt a n).code = .ref cc) (hcc : (KK w).lookup cc = some oc) (hoc : oc.data = .fields vs') (hvs : vs'[2]? = some (.str file tf))
    (hfile : ((PG.main.file : Str) == file) = true) (h32 : (KK w).lookup 32 = some o32) (h32d : o32.data = .cell (some (.ref 107))) (hgl : (envAt a n).globals = mainGlobals) (hbn : (envAt a n).builtins = builtinsNs) :
    PySem.wpAt (model PG w) A (.func body (envAt a n)) (attributeBase (.Call (.Name "super" p0) [] [] p1) attr (envAt a n) whole) Q E s := by
  obtain ⟨hh, gg, dr, tt, os⟩ := s
  obtain ⟨oD, cd, hoD, hdD⟩ : ∃ o cd, (KK w).lookup 107 = some o ∧ o.data = .cls cd := ⟨_, _, rfl, rfl⟩
  have X := G.X
  dsimp only at X hx hq r G
  refine ks_wpAt_super_base (env := envAt a n) hks hkc hat rfl (X _ _ ho) hd hp hco (X _ _ hcc) hoc hvs hfile (by rfl) ?_
  refine ks_loadName_global hk hks (loadGlobal_builtin (env := envAt a n) (hgl ▸ G.g) (mg_none_of G.X G.g rfl) (hbn ▸ G.b) ((G.bu _ (by decide)).trans (by decide +kernel : bootBuiltins "super" = some (.type "super"))) ⟨rfl, ?_⟩)
  refine wpAny_loadName_free hk hkc hc ⟨_, X _ _ h32, h32d⟩ ?_
  rw [har]
  rcases r with ⟨_, m', hns, em⟩ | ⟨q | ⟨q, _⟩, _⟩
  · refine wpAny_loadName_local hk hka hns em ?_
    refine ks_wpAny_isType_cls (X _ _ hoD) hdD ⟨rfl, ?_⟩
    refine ks_wpAny_call_super (X _ _ hoD) hdD hx rfl (fun c e => by cases e) (looks_mroIn X rfl) (fun h' e k => ?_)
    exact hq _ h' e k (Heap.get?_none_of_le (Nat.le_refl _))
  · rw [hka] at q; cases q
  · rw [hka] at q; cases q

/-- an accumulator with what waits in it -/
def Acc (w : World) (x d : Addr) (vs : List Value) (h : Heap) : Prop := (∃ n, h.get? x = some (aobj d vs n)) ∧ ∃ tk v, h.get? d = some (dob w tk v)
theorem Acc.kp {h h' : Heap} (a : Acc w x d vs h) (k : ∀ o, (h.get? x = some o → h'.get? x = some o) ∧ (h.get? d = some o → h'.get? d = some o)) : Acc w x d vs h' := by
  obtain ⟨⟨n, e⟩, tk, v, e'⟩ := a
  exact ⟨⟨n, (k _).1 e⟩, tk, v, (k _).2 e'⟩
theorem Acc.kept {h h' : Heap} (a : Acc w x d vs h) (k : Kp h h') : Acc w x d vs h' := a.kp fun o => ⟨k _ o, k _ o⟩
theorem Acc.ne {h : Heap} (a : Acc w x d vs h) : x ≠ d := fun q => by
  obtain ⟨⟨n, e⟩, tk, v, e'⟩ := a
  rw [← q, e] at e'; cases e'
theorem shadow (w : World) (tk : Tok) (v : Value) (name : Str) (h : (Value.str "_initial_size" tk).isStr name = false := by rfl) : shadowIn (some (dob w tk v)) name = some false := by
  unfold shadowIn
  show Option.map _ (match ([_] : List DictEntry).find? (·.key.isStr name) with | some e => some (some e.val) | none => _) = _
  rw [List.find?_cons_of_neg (by simpa using h), List.find?_nil]
  rfl
end
end Mine

end

-- ======== Acc6 ========
section
open PySem PySem.W PySem.Calls PyProof.Rows Builtin Builtin.ObjectAttr
set_option maxRecDepth 100000
set_option maxHeartbeats 4000000
namespace Mine
section
variable {w : World} {A : Around} {E : Value → Shared → Prop} {s : Shared} {x d : Addr} {vs : List Value} {n : Nat} {mg mb : Str → Option Value}

theorem clo45 : (fnAt 45).closure = [(("__class__" : Str), (32 : Addr))] := rfl
theorem clo104 : (fnAt 104).closure = [(("__class__" : Str), (32 : Addr))] := rfl
theorem cells45 {m : Addr} : (envAt 45 m).cells = [(("__class__" : Str), (32 : Addr))] := rfl
theorem cells104 {m : Addr} : (envAt 104 m).cells = [(("__class__" : Str), (32 : Addr))] := rfl
theorem ne107 {h : Heap} (X : (KK w).In h) (hx : h.get? x = some (aobj d vs n)) : x ≠ 107 := fun q => by
  obtain ⟨o, cd, ho, hd⟩ : ∃ o cd, (KK w).lookup 107 = some o ∧ o.data = .cls cd := ⟨_, _, rfl, rfl⟩
  rw [q, X _ _ ho] at hx; cases hx; cases hd
theorem kk32 : ∃ o, (KK w).lookup 32 = some o ∧ o.data = .cell (some (.ref 107)) := ⟨_, rfl, rfl⟩

theorem acc_init {R : Result → Shared → Prop} {hb : Heap} (G : Gd w mg mb hb) (kb : Kp hb s.heap) (nd0 : hb.get? d = none) (hroom : A.depth < recursionLimit) (hx : s.heap.get? x = some (aobj d [] n)) (hd : s.heap.get? d = some emptyDict)
    (hR : ∀ h' tk, Acc w x d [] h' → KpW [x, d] s.heap h' → R (.ok (.ret .none)) { s with heap := h', toks := tk }) :
    codeAny (model PG w) A (.call (.ref 45) ⟨[.ref x], []⟩) R s := by
  obtain ⟨o32, h32, h32d⟩ := kk32 (w := w)
  have G' : Gd w mg mb s.heap := G.kp kb
  refine code_at (a := 45) [("self", .ref x), ("initial_size", .int 0 223)] G' hroom ?_ ?_ ⟨.inl rfl, .inl rfl, trivial⟩ (binds_K G'.X rfl rfl rfl rfl rfl) fun n' h₁ tk₁ hn F => ?_
  · exact List.pairwise_singleton _ _
  · intro p hp
    rw [clo45] at hp
    rw [List.mem_singleton.mp hp]
    exact Heap.lt_size (G'.X _ _ h32)
  have nx : n' ≠ x := fun q => by rw [q, hx] at hn; cases hn
  have nd : n' ≠ d := fun q => by rw [q, hd] at hn; cases hn
  have xd : x ≠ d := fun q => by rw [← q, hx] at hd; cases hd
  refine ks_wpAt_execs_cons (ks_wpAt_Assign_Attr (wpAt_of_wpAny (name_rd rfl (F.rd rfl) (name_rd rfl (F.rd rfl) ?_))))
  refine acc_setInit (vs := []) (n := n) (G'.kp F.keep).X (F.keep _ _ hx) (F.keep _ _ hd) fun h₂ tk₂ e₂ s₂ => ?_
  have r₂ : Rd (envAt 45 n') h₂ "self" (.ref x) := by
    rcases F.rd (x := "self") rfl with ⟨a, m, hm, e⟩ | ⟨a | ⟨a, _⟩, _⟩
    · exact .inl ⟨a, m, hm.sameBut s₂ nd, e⟩
    · cases a
    · cases a
  have kb₂ : Kp hb h₂ := fun b o e => s₂.extBut b o (fun q => by rw [q, nd0] at e; cases e) (F.keep _ _ (kb _ _ e))
  have G₂ : Gd w mg mb h₂ := G.kp kb₂
  have x₂ : h₂.get? x = some (aobj d [] n) := s₂.extBut _ _ xd (F.keep _ _ hx)
  refine ks_wpAt_execs_cons (ks_wpAt_Expr_any (ks_wpAt_MethodCall (super_base G₂ r₂ x₂ (fun so h₃ e₃ k₃ sn => ?_) rfl rfl rfl rfl rfl rfl rfl rfl rfl rfl rfl rfl rfl rfl rfl h32 h32d rfl rfl)))
  have x₃ := k₃ _ _ x₂
  have d₃ := k₃ _ _ e₂
  have G₃ := G₂.kp k₃
  have so1 : so ≠ x := fun q => by
    have sn' : h₂.get? so = none := sn
    rw [q, x₂] at sn'; cases sn'
  refine super_method (.inl rfl) G₃.X e₃ x₃ rfl (ne107 G₃.X x₃) rfl ?_
  refine machine0 (mw_keeper (id := "list.__init__") (x := x) (Heap.get?_push_size _ rfl)) ?_
  refine call_mw (x := x) (id := "list.__init__") (Heap.get?_push_size _ rfl) bound_init (by decide +kernel) PySem.F.entry_list_init ?_
  refine run_init (kp_push _ _ x₃) fun h₄ n₄ x₄ s₄ => ?_
  refine wpAt_of_wpAny (wpAny_execs_nil ?_)
  have d₄ : h₄.get? d = some _ := s₄.extBut _ _ (Ne.symm xd) (kp_push _ _ d₃)
  refine hR h₄ _ ⟨⟨n₄, x₄⟩, _, _, d₄⟩ fun b o hb' e => ?_
  simp only [List.mem_cons, List.not_mem_nil, or_false, not_or] at hb'
  exact s₄.extBut _ _ hb'.1 (kp_push _ _ (k₃ _ _ (s₂.extBut _ _ hb'.2 (F.keep _ _ e))))

/-- _Accumulator() -/
theorem acc_make_call {Q : Value → Shared → Prop} (G : Gd w mg mb s.heap) (hroom : A.depth + 1 < recursionLimit)
    (hQ : ∀ x d h' tk, Acc w x d [] h' → Kp s.heap h' → s.heap.get? x = none → s.heap.get? d = none → Q (.ref x) { s with heap := h', toks := tk }) :
    wpAny (model PG w) A (call (.ref 107) []) Q E s := by
  have xe : ((s.heap.push emptyDict).push (aobj0 s.heap.objs.size)).get? (s.heap.objs.size + 1) = some (aobj0 s.heap.objs.size) := by heap_get
  have de : ((s.heap.push emptyDict).push (aobj0 s.heap.objs.size)).get? s.heap.objs.size = some emptyDict := by heap_get
  have kb : Kp s.heap ((s.heap.push emptyDict).push (aobj0 s.heap.objs.size)) := fun b o e => kp_push _ _ (kp_push _ _ e)
  have nx : s.heap.get? (s.heap.objs.size + 1) = none := Heap.get?_none_of_le (Nat.le_succ _)
  have nd : s.heap.get? s.heap.objs.size = none := Heap.get?_none_of_le (Nat.le_refl _)
  refine wpAny_call (acc_make G.X ?_)
  refine acc_init (n := 0) G kb nd (by rw [depth_under_make]; omega) xe de fun h' tk a k => ⟨rfl, ?_⟩
  refine hQ _ _ h' tk a (fun b o e => k b o (fun q => ?_) (kb _ _ e)) nx nd
  simp only [List.mem_cons, List.not_mem_nil, or_false] at q
  rcases q with q | q <;> rw [q] at e
  · rw [nx] at e; cases e
  · rw [nd] at e; cases e
end
end Mine

end

-- ======== Acc7 ========
section
open PySem PySem.W PySem.Calls PyProof.Rows Builtin Builtin.ObjectAttr
set_option maxRecDepth 100000
set_option maxHeartbeats 4000000
namespace Mine
section
variable {w : World} {A : Around} {E : Value → Shared → Prop} {s : Shared} {x d : Addr} {vs : List Value} {n k : Nat} {mg mb : Str → Option Value}

theorem push_spec {v1 v2 : Value} {Q : Value → Shared → Prop} (G : Gd w mg mb s.heap) (R : Rm A k) (a : Acc w x d vs s.heap) (hlen : vs.length ≤ 900)
    (hQ : ∀ T h' tk, Acc w x d (vs ++ [.ref T]) h' → h'.get? T = some (tobj [v1, v2] 0) → s.heap.get? T = none → KpW [x] s.heap h' → Q .none { s with heap := h', toks := tk }) :
    wpAny (model PG w) A (call (.ref 52) [.ref x, v1, v2]) Q E s := by
  refine call_at G R (binds := [("self", .ref x), ("fws", v1), ("string", v2)]) rfl rfl rfl rfl (BindsTo.of_eq rfl) rfl rfl rfl (by exact List.Pairwise.nil) (by intro p hp; cases hp) ⟨.inl rfl, .inl rfl, .inl rfl, trivial⟩ fun n' h₁ tk₁ hn F => ?_
  have a₁ := a.kept F.keep
  obtain ⟨⟨m, hx⟩, tkd, vd, hd⟩ := a₁
  refine wpAny_execs_cons (wpAny_Expr (MethodCall_ (name_rd rfl (F.rd rfl) ?_) rfl) rfl rfl)
  refine acc_append_method (G.kp F.keep).X hx hd (shadow w tkd vd _) ?_
  refine Calls.callWith_builtin rfl (Calls.evalArgs_plain (Calls.spliced_cons ?_))
  show wpAny _ (A.deeper (envAt 52 n')) (PySem.eval _ (envAt 52 n')) _ _ _
  refine Ev.use (Ev.tuple2 (P1 := fun v _ => v = v1) (P2 := fun v _ => v = v2) (Ev.name rfl (F.rd rfl)) (fun v s₁ k₁ _ => Ev.name rfl ((F.rd rfl).keeps (keeps_heap k₁))) (fun _ _ _ _ q => q) (fun _ _ _ _ q => q)) fun v h₂ tk₂ k₂ ⟨T, u1, u2, e1, Tn, To, e2, e3⟩ => ?_
  subst e1 e2 e3
  refine Calls.spliced_nil ?_
  refine acc_append (G.kp fun b o e => k₂ _ _ (F.keep _ _ e)).X (k₂ _ _ hx) (k₂ _ _ hd) (by omega) fun h₃ x₃ s₃ => ?_
  refine wpAny_execs_nil ?_
  have xd := a.ne
  have Tx : T ≠ x := fun q => by
    have z : h₁.get? T = none := Tn
    rw [q, hx] at z; cases z
  refine hQ T h₃ _ ⟨⟨_, x₃⟩, tkd, vd, s₃.extBut _ _ (Ne.symm xd) (k₂ _ _ hd)⟩ (s₃.extBut _ _ Tx To) (none_of F.keep Tn) fun b o hb e => s₃.extBut _ _ (by simpa using hb) (k₂ _ _ (F.keep _ _ e))

theorem count_ev (G : Gd w mg mb s.heap) (R : Rm A k) (a : Acc w x d vs s.heap) : Ev (model PG w) A (call (.ref 104) [.ref x]) (IsI vs.length) s := fun E => by
  obtain ⟨o32, h32, h32d⟩ := kk32 (w := w)
  refine wpAny_call (code_at (a := 104) [("self", .ref x)] G R.lt ?_ ?_ ⟨.inl rfl, trivial⟩ (BindsTo.of_eq rfl) fun n' h₁ tk₁ hn F => ?_)
  · exact List.pairwise_singleton _ _
  · intro p hp
    rw [clo104] at hp
    rw [List.mem_singleton.mp hp]
    exact Heap.lt_size (G.X _ _ h32)
  obtain ⟨⟨m, hx⟩, tkd, vd, hd⟩ := a.kept F.keep
  have G₁ := G.kp F.keep
  refine ks_wpAt_execs_cons (ks_wpAt_Return_some (ks_wpAt_MethodCall (super_base G₁ (F.rd rfl) hx (fun so h₃ e₃ k₃ sn => ?_) rfl rfl rfl rfl rfl rfl rfl rfl rfl rfl rfl rfl rfl rfl rfl h32 h32d rfl rfl)))
  have x₃ := k₃ _ _ hx
  have G₃ := G₁.kp k₃
  refine super_method (.inr rfl) G₃.X e₃ x₃ rfl (ne107 G₃.X x₃) rfl ?_
  refine machine0 (mw_keeper (id := "list.__len__") (x := x) (Heap.get?_push_size _ rfl)) ?_
  refine call_mw (x := x) (id := "list.__len__") (Heap.get?_push_size _ rfl) bound_len (by decide +kernel) PySem.F.entry_list_len ?_
  refine run_len (kp_push _ _ x₃) ?_
  exact ⟨keeps_mk fun b o e => kp_push _ _ (k₃ _ _ (F.keep _ _ e)), _, rfl⟩
end
end Mine

end

-- ======== Acc8 ========
section
open PySem PySem.W PySem.Calls PyProof.Rows Builtin Builtin.ObjectAttr
set_option maxRecDepth 100000
set_option maxHeartbeats 4000000
namespace Mine
section
variable {w : World} {A : Around} {E : Value → Shared → Prop} {s : Shared} {x d : Addr} {vs : List Value} {n : Nat} {od : Obj}

theorem acc_special {M : Model} {h : Heap} (X : (KK w).In h) {ox : Obj} {od : Option Obj} (I : InstAt h x ox 107 od) {name : Str} {r : Option Value} (e : findIn (KK w) (.ref 107) name = some r) :
    Looks M h (specialOf (.ref x) name) r := I.type.andThen (looks_findIn X e)

theorem acc_key {M : Model} {h : Heap} (X : (KK w).In h) {ox : Obj} {od : Option Obj} (I : InstAt h x ox 107 od) {k : Value} {name : Str} : Looks M h (sequenceKey (.ref x) k name) k := by
  have hs : Looks M h (isSubtype (.ref 107) (.type "collections.deque")) false := looks_mroIn X rfl
  intro A Q E s kk q
  unfold sequenceKey
  refine wpAny_bind (I.type A _ E s kk ?_)
  show wpAny M A (do
    let b ← seqItemTypes.anyM fun n => isSubtype (.ref 107) (.type n)
    if !b then return k
    _) Q E s
  refine wpAny_bind ?_
  unfold seqItemTypes
  simp only [List.anyM]
  refine wpAny_bind (hs A _ E s kk ?_)
  refine wpAny_pure ?_
  rw [if_pos (by decide)]
  exact wpAny_pure q

theorem acc_notPy {M : Model} {h : Heap} (X : (KK w).In h) {ox : Obj} {od : Option Obj} (I : InstAt h x ox 107 od) : Looks M h (getitemInPython (.ref x)) false := by
  intro A Q E s kk q
  unfold getitemInPython
  refine wpAny_bind (acc_special X I (r := some (.builtin "list.__getitem__")) rfl A _ E s kk ?_)
  exact wpAny_pure q

theorem find_getitem : findIn (KK w) (.ref 107) "__getitem__" = some (some (.builtin "list.__getitem__")) := rfl
theorem find_setitem : findIn (KK w) (.ref 107) "__setitem__" = some (some (.builtin "list.__setitem__")) := rfl
theorem type_getitem : typeIn (KK w) (.builtin "list.__getitem__") = some (.type "method_descriptor") := rfl
theorem type_setitem : typeIn (KK w) (.builtin "list.__setitem__") = some (.type "wrapper_descriptor") := rfl
theorem split_getitem : splitId "list.__getitem__" = some ("list", "__getitem__") := by decide +kernel
theorem split_setitem : splitId "list.__setitem__" = some ("list", "__setitem__") := by decide +kernel
theorem kind_getitem : builtinKind "list.__getitem__" = some .method := by decide +kernel
theorem kind_setitem : builtinKind "list.__setitem__" = some .slot := by decide +kernel

theorem plain_getitem : plainId "list.__getitem__" = true := by decide +kernel
theorem plain_setitem : plainId "list.__setitem__" = true := by decide +kernel
theorem run_getSlice {sl : Addr} {items : Array Value} {vl vu vt : Value} {lo hi st : Option Int} {o : Obj} {Q : Fin → Shared → Prop} (hx : s.heap.get? x = some o) (hxd : o.data = .seq items n)
    (hs : s.heap.IsSliceOf sl vl vu vt) (pl : IsPart vl lo) (pu : IsPart vu hi) (ps : IsPart vt st) (h0 : st ≠ some 0)
    (h : Q (.done (.ret (.ref s.heap.objs.size))) { s with heap := s.heap.push { cls := .type "list", data := .seq (slicePick items lo hi st) } })
    (hsz : items.size ≤ sizeLine) : wpAny (model PG w) A (Builtin.«list.__getitem__» ⟨[.ref x, .ref sl], []⟩) Q E s := by
  obtain ⟨os, hos, hcs, hds⟩ := id hs
  have hTs : s.TypeIs (.ref sl) "slice" := ⟨os, hos, hcs⟩
  show wpAny _ _ (Builtin.List.listSubscript? (.ref sl) >>= _) _ _ s
  refine wpAny_bind ?_
  · unfold Builtin.List.listSubscript?
    refine wpAny_bind (wpAny_specialOf hTs slice_no_index ?_)
    simp only [Option.isNone_none, if_true]
    refine wpAny_pure ?_
    show wpAny _ _ (typeOf (.ref sl) >>= _) _ _ s
    refine wpAny_bind (wpAny_typeOf hTs ?_)
    rw [if_neg (by decide)]
    rw [listSliceParts_eq]
    have hstep : ¬ ((rawPart st == rawInt 0) = true) := by
      cases st with
      | none => exact Bool.false_ne_true
      | some c =>
        intro hh
        have : c = 0 := by simpa [rawPart, rawInt] using hh
        exact h0 (by rw [this])
    refine wpAny_bind (wpAny_bind (wpAny_field hos hds (x := vt) rfl (wpAny_bind (wpAny_listPart ps ?_))))
    rw [if_neg hstep]
    refine wpAny_bind (wpAny_field hos hds (x := vl) rfl (wpAny_bind (wpAny_listPart pl ?_)))
    refine wpAny_bind (wpAny_field hos hds (x := vu) rfl (wpAny_bind (wpAny_listPart pu (wpAny_pure ?_))))
    refine wpAny_bind (m := Builtin.List.listItems (.ref x)) ?_
    · unfold Builtin.List.listItems
      refine wpAny_bind (wpAny_seqItems hx hxd (wpAny_pure ?_))
      refine wpAny_bind (wpAny_of_eq (sliceIndices_raw lo hi st items.size h0) ?_)
      exact wpAny_bind (wpAny_newObj_type (wpAny_pure h) (Nat.le_trans (slicePick_size_le items lo hi st) hsz))

theorem acc_getSlice {sl : Addr} {i : Nat} {t : Tok} {Q : Value → Shared → Prop} (X : (KK w).In s.heap) (hx : s.heap.get? x = some (aobj d vs n)) (hd : s.heap.get? d = some od)
    (hs : s.heap.IsSliceOf sl (.int i t) .none .none) (hi : i ≤ vs.length) (hlen : vs.length ≤ 1000)
    (h : Q (.ref s.heap.objs.size) { s with heap := s.heap.push (lobj (vs.drop i) 0) }) :
    wpAny (model PG w) A (getItem (.ref x) (.ref sl)) Q E s := by
  have I := inst_of hx hd
  have hL : Looks (model PG w) s.heap (isInstance (.ref x) (.type "list")) true := acc_list X I
  unfold getItem
  refine wpAny_holding ?_
  refine wpAny_bind ((acc_key X I).here ?_)
  unfold callSpecial?
  refine wpAny_bind (wpAny_bind ((acc_special X I find_getitem).here ?_))
  refine wpAny_holding ?_
  unfold bindSpecial
  refine wpAny_bind (wpAny_bind ((looks_typeIn X type_getitem).here ?_))
  rw [if_pos (by decide)]
  refine wpAny_pure (wpAny_bind ?_)
  show wpAny _ _ (call (.builtin "list.__getitem__") [.ref x, .ref sl]) _ _ _
  refine wpAny_call ?_
  refine codeAny_call_builtin plain_getitem F.entry_list_getitem ?_
  refine check_method (i := "list.__getitem__") (owner := "list") (n := "__getitem__") (self := .ref x) (rest := [.ref sl]) (kw := []) kind_getitem split_getitem hL (F.args_list_getitem_2 _ _) ?_
  have hz : sizeLine = 16777216 := by decide
  refine run_getSlice (st := none) hx rfl hs (.int i t) .none .none (by simp) ?_ (by simp only [List.size_toArray]; omega)
  have e : slicePick vs.toArray (some (i : Int)) none none = (vs.drop i).toArray := slicePick_from vs.toArray i (by simpa using hi)
  rw [e]
  exact wpAny_pure (wpAny_pure h)

theorem slice_one (i : Nat) (l : List Value) (hi : i ≤ l.length) : sliceBounds (some (i : Int)) none none l.toArray.size = ((i : Int), (l.length : Int), 1) := by
  simp only [sliceBounds, Option.getD_none, show (1 : Int) > 0 by decide, if_true, if_neg (show ¬ ((i : Int) < 0) by omega), List.size_toArray]
  congr 1
  omega

theorem run_setSlice {sl e : Addr} {i : Nat} {t : Tok} {m : Nat} {Q : Fin → Shared → Prop} (hx : s.heap.get? x = some (aobj d vs n))
    (hs : s.heap.IsSliceOf sl (.int i t) .none .none) (he : s.heap.get? e = some (lobj [] m)) (hi : i ≤ vs.length) (hlen : vs.length ≤ 1000) (hne : x ≠ e)
    (h : ∀ h' n', h'.get? x = some (aobj d (vs.take i) n') → Heap.SameBut x s.heap h' → Q (.done (.ret .none)) { s with heap := h' }) :
    wpAny (model PG w) A (Builtin.«list.__setitem__» ⟨[.ref x, .ref sl, .ref e], []⟩) Q E s := by
  obtain ⟨os, hos, hcs, hds⟩ := id hs
  have hTs : s.TypeIs (.ref sl) "slice" := ⟨os, hos, hcs⟩
  have hTe : s.TypeIs (.ref e) "list" := ⟨_, he, rfl⟩
  have hz : sizeLine = 16777216 := by decide
  have hni : some (i : Int) ≠ some 0 ∨ True := .inr trivial
  show wpAny _ _ (Builtin.List.listSubscript? (.ref sl) >>= _) _ _ s
  refine wpAny_bind ?_
  unfold Builtin.List.listSubscript?
  refine wpAny_bind (wpAny_specialOf hTs slice_no_index ?_)
  simp only [Option.isNone_none, if_true]
  refine wpAny_pure ?_
  show wpAny _ _ (typeOf (.ref sl) >>= _) _ _ s
  refine wpAny_bind (wpAny_typeOf hTs ?_)
  rw [if_neg (by decide)]
  rw [listSliceParts_eq]
  refine wpAny_bind (wpAny_bind (wpAny_field hos hds (x := .none) rfl (wpAny_bind (wpAny_listPart .none ?_))))
  rw [if_neg (by exact Bool.false_ne_true)]
  refine wpAny_bind (wpAny_field hos hds (x := .int i t) rfl (wpAny_bind (wpAny_listPart (.int i t) ?_)))
  refine wpAny_bind (wpAny_field hos hds (x := .none) rfl (wpAny_bind (wpAny_listPart .none (wpAny_pure ?_))))
  have hsame : Builtin.List.listSameRef (.ref x) (.ref e) = false := by
    show (x == e) = false
    simpa using hne
  rw [hsame]
  simp only [Bool.false_eq_true, if_false]
  refine wpAny_bind (m := Builtin.List.listAllItems (.ref e) _) ?_
  unfold Builtin.List.listAllItems
  refine wpAny_bind (wpAny_typeOf hTe ?_)
  rw [if_pos (by decide)]
  unfold Builtin.List.listItems
  refine wpAny_bind (wpAny_seqItems he rfl (wpAny_pure ?_))
  refine wpAny_bind ?_
  refine wpAny_bind (wpAny_seqItems hx rfl (wpAny_pure ?_))
  refine wpAny_bind (wpAny_of_eq (sliceIndices_raw (some i) none none vs.toArray.size (by simp)) ?_)
  rw [slice_one i vs hi]
  rw [if_pos (by rfl)]
  refine wpAny_bind (wpAny_rule ?_)
  rw [if_neg (by unfold Builtin.List.listTooLong; simp only [List.size_toArray, List.length_nil, gt_iff_lt, decide_eq_true_eq]; omega)]
  have e1 : ∀ xs : List Value, xs = vs → (xs.toArray.extract 0 (i : Int).toNat ++ ([] : List Value).toArray ++ xs.toArray.extract (max (i : Int) (vs.length : Int)).toNat xs.toArray.size) = (vs.take i).toArray := by
    rintro xs rfl
    have a1 : (max (i : Int) (xs.length : Int)).toNat = xs.length := by omega
    rw [a1]
    simp
  unfold Builtin.List.listUpdate
  refine wpAny_bind (wpAny_updateSeq (hz := by rw [List.size_toArray]; omega) (_hz' := by rw [e1 _ rfl, List.size_toArray, List.length_take]; omega) hx rfl (wpAny_bind (wpAny_letGo (wpAny_pure (h _ (if (vs.take i).toArray.size == vs.toArray.size then n else n + 1) ?_ (Heap.SameBut.update ..))))))
  rw [Heap.get?_update_self _ hx (by rfl)]
  simp only [Obj.mapSeq]
  have e2 := e1 vs rfl
  simp only [Int.toNat_natCast] at e2 ⊢
  exact congrArg (fun a => some ({ cls := .ref 107, dict := some d, data := .seq a (if a.size == vs.toArray.size then n else n + 1) } : Obj)) e2

theorem acc_setSlice {sl e : Addr} {i : Nat} {t : Tok} {m : Nat} {Q : Unit → Shared → Prop} (X : (KK w).In s.heap) (hx : s.heap.get? x = some (aobj d vs n)) (hd : s.heap.get? d = some od)
    (hs : s.heap.IsSliceOf sl (.int i t) .none .none) (he : s.heap.get? e = some (lobj [] m)) (hi : i ≤ vs.length) (hlen : vs.length ≤ 1000) (hne : x ≠ e)
    (h : ∀ h' n', h'.get? x = some (aobj d (vs.take i) n') → Heap.SameBut x s.heap h' → Q () { s with heap := h' }) :
    wpAny (model PG w) A (setItem (.ref x) (.ref sl) (.ref e)) Q E s := by
  have I := inst_of hx hd
  have hL : Looks (model PG w) s.heap (isInstance (.ref x) (.type "list")) true := acc_list X I
  unfold setItem
  refine wpAny_holding ?_
  refine wpAny_bind ((acc_key X I).here ?_)
  unfold callSpecial?
  refine wpAny_bind (wpAny_bind ((acc_special X I find_setitem).here ?_))
  refine wpAny_holding ?_
  unfold bindSpecial
  refine wpAny_bind (wpAny_bind ((looks_typeIn X type_setitem).here ?_))
  rw [if_pos (by decide)]
  refine wpAny_pure (wpAny_bind ?_)
  show wpAny _ _ (call (.builtin "list.__setitem__") [.ref x, .ref sl, .ref e]) _ _ _
  refine wpAny_call ?_
  refine codeAny_call_builtin plain_setitem F.entry_list_setitem ?_
  refine check_slot (i := "list.__setitem__") (owner := "list") (n := "__setitem__") (self := .ref x) (rest := [.ref sl, .ref e]) (kw := []) kind_setitem split_setitem hL (F.args_list_setitem_3 _ _ _) ?_
  refine run_setSlice hx hs he hi hlen hne fun h' n' e1 e2 => ?_
  exact wpAny_pure (wpAny_pure (h h' n' e1 e2))

theorem acc_eval_slice {env : Env} {value : Expr} {lower upper : Option Expr} {p pos : Pos} {Q : Value → Shared → Prop}
    (h : wpAny (model PG w) A (PySem.eval value env) (fun o s₁ => wpAny (model PG w) A (PySem.eval (.Slice lower upper none p) env) (fun i s₂ => Looks (model PG w) s₂.heap (getitemInPython o) false ∧ wpAny (model PG w) A (getItem o i) Q E s₂) E s₁) E s)
    (ht : ∀ o r, letTemporaryGo value o r = pure () := by intro _ _; rfl) :
    wpAny (model PG w) A (PySem.eval (.Subscript value (.Slice lower upper none p) pos) env) Q E s := by
  rw [eval_Subscript]
  refine wpAny_bind (wpAny_mono h (fun o s₁ h₁ => wpAny_bind (wpAny_holding (wpAny_mono h₁ (fun i s₂ h₂ => wpAny_bind (wpAny_standAt ?_)) fun _ _ x => x)))
    fun _ _ x => x)
  have fin : wpAny (model PG w) A (operate [i, o] (getItem o i)) (fun r s₃ => wpAny (model PG w) A (letTemporaryGo value o r >>= fun _ => pure r) Q E s₃) E s₂ :=
    wpAny_operating (wpAny_mono h₂.2 (fun r s₃ h₃ => wpAny_bind (wpAny_of_eq (ht o r) (wpAny_pure h₃))) fun _ _ x => x)
  exact wpAny_bind (h₂.1.here (wpAny_bind fin))
end
end Mine

end

-- ======== Acc9 ========
section
open PySem PySem.W PySem.Calls PyProof.Rows Builtin Builtin.ObjectAttr
set_option maxRecDepth 100000
set_option maxHeartbeats 4000000
namespace Mine
section
variable {w : World} {A : Around} {E : Value → Shared → Prop} {s : Shared} {x d : Addr} {vs : List Value} {n k : Nat} {mg mb : Str → Option Value}

theorem pop_spec {i : Nat} {t : Tok} {Q : Value → Shared → Prop} (G : Gd w mg mb s.heap) (R : Rm A k) (a : Acc w x d vs s.heap) (hlen : vs.length ≤ 900) (hi : i ≤ vs.length)
    (hQ : ∀ P h' tk, Acc w x d (vs.take i) h' → h'.get? P = some (lobj (vs.drop i) 0) → s.heap.get? P = none → KpW [x] s.heap h' → Q (.ref P) { s with heap := h', toks := tk }) :
    wpAny (model PG w) A (call (.ref 60) [.ref x, .int i t]) Q E s := by
  refine call_at G R (binds := [("self", .ref x), ("i", .int i t)]) rfl rfl rfl rfl (binds_K G.X rfl rfl rfl rfl rfl) rfl rfl rfl (by exact List.Pairwise.nil) (by intro p hp; cases hp) ⟨.inl rfl, .inl rfl, trivial⟩ fun n' h₁ tk₁ hn F => ?_
  have a₁ := a.kept F.keep
  obtain ⟨⟨m, hx⟩, tkd, vd, hd⟩ := id a₁
  have xd := a.ne
  have X₁ := (G.kp F.keep).X
  -- popped = self[i:]
  refine wpAny_execs_cons (wpAny_Assign_Name (acc_eval_slice (name_rd rfl (F.rd rfl) (wpAny_Slice ?_))))
  refine name_rd rfl (F.rd rfl) ?_
  rw [evalPart_none]
  refine wpAny_pure (wpAny_pure ?_)
  have kp1 : Kp h₁ (h₁.push { cls := .type "slice", data := .fields #[.int i t, .none, .none] }) := kp_push
  have X₂ := (G.kp fun b o e => kp1 _ _ (F.keep _ _ e)).X
  refine ⟨acc_notPy X₂ (inst_of (kp1 _ _ hx) (kp1 _ _ hd)), ?_⟩
  refine acc_getSlice X₂ (kp1 _ _ hx) (kp1 _ _ hd) (Heap.IsSliceOf.new ..) hi (by omega) ?_
  generalize hH : (h₁.push { cls := .type "slice", data := .fields #[.int i t, .none, .none] }) = H
  have kH : Kp h₁ H := hH ▸ kp1
  have fP : h₁.get? H.objs.size = none := none_of (s := { s with heap := h₁ }) kH (Heap.get?_none_of_le (Nat.le_refl _))
  have P₂ : (H.push (lobj (vs.drop i) 0)).get? H.objs.size = some (lobj (vs.drop i) 0) := Heap.get?_push_size _ rfl
  have k₂ : Kp h₁ (H.push (lobj (vs.drop i) 0)) := fun b o e => kp_push _ _ (kH _ _ e)
  generalize hP : H.objs.size = P at fP P₂ ⊢
  generalize hH2 : H.push (lobj (vs.drop i) 0) = H2 at P₂ k₂ ⊢
  have F₂ := F.kept k₂
  refine F₂.store (.inl rfl) fun h₃ tk₃ F₃ kf₃ => ?_
  have P₃ : h₃.get? P = some (lobj (vs.drop i) 0) := F₂.sq kf₃ _ _ _ _ rfl P₂
  have nl : ∀ {a vs' m'} {h : Heap}, h₁.get? a = some { cls := .ref 107, dict := some d, data := .seq vs' m' } → a ≠ (envAt 60 n').locals := fun {a vs' m'} h e q => by
    obtain ⟨m', o', es, ep, e', d', _⟩ := F.ns
    rw [q, e'] at e; cases e; cases d'
  have x₃ : h₃.get? x = some (aobj d vs m) := F₂.sq kf₃ _ _ _ _ rfl (k₂ _ _ hx)
  have d₃ : h₃.get? d = some (dob w tkd vd) := by
    have hdn : s.heap.get? d ≠ none := by
      obtain ⟨_, tk', v', e'⟩ := a
      rw [e']; simp
    refine kf₃ d _ (fun q => ?_) (fun q => by cases q) (k₂ _ _ hd)
    have z : s.heap.get? d = none := by rw [q]; exact F.freshL
    exact hdn z
  -- self[i:] = []
  refine wpAny_execs_cons (wpAny_Assign_Subscript (Ev.use Ev.nil fun v₄ h₄ tk₄ k₄ ⟨e, e4, en, eo⟩ => ?_) rfl)
  subst e4
  have F₄ := F₃.kept k₄
  refine name_rd rfl (F₄.rd rfl) (wpAny_Slice (name_rd rfl (F₄.rd rfl) ?_))
  rw [evalPart_none]
  refine wpAny_pure (wpAny_pure ?_)
  have kp5 : Kp h₄ (h₄.push { cls := .type "slice", data := .fields #[.int i t, .none, .none] }) := kp_push
  have F₅ := F₄.kept kp5
  have X₅ := (G.kp F₅.keep).X
  have xe : x ≠ e := fun q => by
    have z : h₃.get? e = none := en
    rw [← q, x₃] at z; cases z
  refine acc_setSlice X₅ (kp5 _ _ (k₄ _ _ x₃)) (kp5 _ _ (k₄ _ _ d₃)) (Heap.IsSliceOf.new ..) (kp5 _ _ eo) hi (by omega) xe fun h₆ n₆ x₆ s₆ => ?_
  have rp : Rd (envAt 60 n') h₆ "popped" (.ref P) := by
    rcases F₅.rd (x := "popped") rfl with ⟨a, m, hm, e⟩ | ⟨a | ⟨a, _⟩, _⟩
    · refine .inl ⟨a, m, hm.sameBut s₆ (fun q => ?_), e⟩
      have z := F.freshL
      obtain ⟨⟨mx, ex⟩, _⟩ := a₁
      have q' : (envAt 60 n').locals = x := q
      rw [q'] at z
      obtain ⟨⟨my, ey⟩, _⟩ := ‹Acc w x d vs s.heap›
      rw [ey] at z; cases z
    · cases a
    · cases a
  refine wpAny_execs_cons (wpAny_Return_some (name_rd rfl rp ?_))
  have Px : P ≠ x := fun q => by rw [q, hx] at fP; cases fP
  refine hQ P h₆ _ ⟨⟨n₆, x₆⟩, tkd, vd, s₆.extBut _ _ (Ne.symm xd) (kp5 _ _ (k₄ _ _ d₃))⟩ (s₆.extBut _ _ Px (kp5 _ _ (k₄ _ _ P₃))) (none_of F.keep fP) fun b o hb e => ?_
  exact s₆.extBut _ _ (by simpa using hb) (F₅.keep _ _ e)
end
end Mine

end

-- ======== Base10 ========
section
open PySem PySem.W PyProof.Rows
set_option maxRecDepth 100000
namespace Mine

section
variable {w : World} {A : Around} {E : Value → Shared → Prop} {s : Shared} {env : Env} {α : Type}

/-- the dict that a comprehension builds -/
def DctOf (w : World) (kf : α → Str) (G : α → Value → Prop) (zs : List α) : Obj → Heap → Prop := fun o _ => ∃ kvs, o.IsDictOf (strKind PG w) kvs ∧ All2 (fun a q => q.1 = kf a ∧ G a q.2) zs kvs
theorem DctOf.tk {kf : α → Str} {G : α → Value → Prop} {zs : List α} : ∀ o (h h' : Heap), Tk false h h' → DctOf w kf G zs o h → DctOf w kf G zs o h' := fun _ _ _ _ x => x

theorem map_fst_of {kf : α → Str} {G : α → Value → Prop} {zs : List α} {kvs : List (Str × Value)} (r : All2 (fun a q => q.1 = kf a ∧ G a q.2) zs kvs) : kvs.map (·.1) = zs.map kf := by
  induction r with
  | nil => rfl
  | cons a _ ih => rw [List.map_cons, List.map_cons, a.1, ih]

theorem DctOf.map {kf : α → Str} {G : α → Value → Prop} {zs : List α} {o : Obj} {h : Heap} {D : Addr} (x : DctOf w kf G zs o h) (e : h.get? D = some o) (hn : (zs.map kf).Nodup) :
    ∃ f, h.MapOf (strKind PG w) D f ∧ ∀ a ∈ zs, ∃ v, f (kf a) = some v ∧ G a v := by
  obtain ⟨kvs, hd, r⟩ := x
  refine ⟨valueAt kvs, Heap.DictOf.mapOf (Heap.dictOf_iff.mpr ⟨o, e, hd⟩), fun a ha => ?_⟩
  obtain ⟨i, ei⟩ := List.getElem?_of_mem ha
  obtain ⟨⟨k, v⟩, eq, ek, g⟩ := r.get ei
  dsimp only at ek g
  subst ek
  exact ⟨v, valueAt_of_get (by rw [map_fst_of r]; exact hn) eq, g⟩

theorem dictComp_core {kx vx target iter : Expr} {scope : Scope} {pos cpos : Pos} {cl : List (Str × Addr)} {xs : List α} {P : α → VP} {kf : α → Str} {G : α → Value → Prop} {use : Option (Value → Sem Unit)} {Q : Value → Shared → Prop}
    (V : α → (Str → Option Value) → Heap → Prop)
    (hclos : closureFor scope env = pure cl) (hcp : cl.Pairwise fun x y => x.2 ≠ y.2) (hcl : ∀ q ∈ cl, ∃ v, s.heap.IsCell q.2 v)
    (hV : ∀ a ρ h h', V a ρ h → Kp h h' → V a ρ h') (hn : xs.length ≤ 1000) (hnd : (xs.map kf).Nodup)
    (hsrc : Src PG w A target false (eval iter env) xs P s)
    (hassign : ∀ a C, a ∈ xs → Assigns PG w A s.heap (cenv scope cl env C) (ncells scope C) target (P a) (V a))
    (hkey : ∀ a C ρ h tk', a ∈ xs → V a ρ h → Kp s.heap h → Fm s.heap (cenv scope cl env C) (ncells scope C) ρ h → Ev (model PG w) A (eval kx (cenv scope cl env C)) (IsS (kf a)) { s with heap := h, toks := tk' })
    (hval : ∀ a C ρ h tk', a ∈ xs → V a ρ h → Kp s.heap h → Fm s.heap (cenv scope cl env C) (ncells scope C) ρ h → Ev (model PG w) A (eval vx (cenv scope cl env C)) (fun v _ => G a v) { s with heap := h, toks := tk' })
    (hfin : ∀ D C h' tk', CompDone s C D (DctOf w kf G xs) h' → compPost (model PG w) A E use Q (.ref D) C (.ok .next) { s with heap := h', toks := tk' })
    (hfold : ∀ x, foldedSetIterable iter env x = pure x := by intro _; rfl) (hk : scope.kind = .function := by rfl) (hnames : ∀ x ∈ scope.names, x.2 = .local → scope.names.lookup x.1 = some .local := by decide) :
    wpAny (model PG w) A (comprehension (.DictComp kx vx [⟨target, iter, [], 0⟩] scope pos) scope env cpos newDict false (eval iter env) use) Q E s := by
  refine comp_shell (oD := emptyDict) (rest := []) (ifs := []) (iter := iter) (target := target) rfl hfold hk hnames hclos hcp hcl (fun s' Q' E' h' => wpAny_newObj_type h') rfl hsrc ?_ ?_
  · intro I fp wr St D C s' ks W hst hfp hwr hDC hD hC hoD hclo F
    have hCf : C ∉ fp := fun h => Nat.lt_asymm hDC (hfp C h)
    have hDf : D ∉ fp := fun h => Nat.lt_irrefl _ (hfp D h)
    obtain ⟨hs, ts, rfl, kss⟩ := ks
    refine comp_it (s := { s with heap := hs, toks := ts }) (emit := do
            let kv ← eval kx (cenv scope cl env C)
            let vv ← holding [kv] (eval vx (cenv scope cl env C))
            standAt { kx.pos with endLine := vx.pos.endLine, endCol := vx.pos.endCol }
            holding [kv, vv] (dictSet D kv vv)) (ac := [D]) (hb := s.heap) (fc := ncells scope C) (by rfl) W
      (fun i => true) (fun i ρ h => ∃ a, xs[i]? = some a ∧ V a ρ h) (fun i h => ∃ kvs, h.DictOf (strKind PG w) D kvs ∧ All2 (fun a q => q.1 = kf a ∧ G a q.2) (xs.take i) kvs)
      (fun i ρ h h' ⟨a, e, v⟩ k => ⟨a, e, hV a ρ h h' v k⟩) hCf (fun c hc h => ?_) (fun a ha => ?_) hwr (fun x c ec => ?_) (fun i h h' ⟨kvs, e, L⟩ t k => ⟨kvs, e.at fun o e' => k D (List.mem_singleton.mpr rfl) o e', L⟩)
      (fun i hi v ρ s₁ Q₁ E₁ ⟨a, ea, hP⟩ F₁ h₁ => ?_) (fun i ρ h tk' hi ⟨a, ea, v⟩ F₁ => ?_) (fun i h hi hp _ => ?_) (fun i ρ h tk' Q₁ E₁ hi hp ⟨a, ea, v⟩ F₁ hJ h₁ => ?_) hst F ⟨[], Heap.dictOf_iff.mpr ⟨_, hoD, ?_⟩, by simpa using All2.nil⟩ (by rfl) (by rfl) (fun h' tk' ρ' F' hJ' => ?_)
    · obtain ⟨q, hq, rfl⟩ := List.mem_map.mp hc
      have a := (cellsFrom_apart scope.names (C + 1)).2 q hq
      exact Nat.lt_irrefl _ (Nat.lt_trans hDC (Nat.lt_trans (Nat.lt_of_lt_of_le (Nat.lt_succ_self _) a) (hfp _ h)))
    · rw [List.mem_singleton.mp ha]
      refine ⟨hDf, Nat.ne_of_lt hDC, fun h => ?_, hD⟩
      obtain ⟨q, hq, e⟩ := List.mem_map.mp h
      have a := (cellsFrom_apart scope.names (C + 1)).2 q hq
      rw [e] at a
      exact Nat.lt_irrefl _ (Nat.lt_trans hDC (Nat.lt_of_lt_of_le (Nat.lt_succ_self _) a))
    · rcases cellsFrom_mem ec with a | a
      · refine ⟨fun h => ?_, fun h => ?_⟩
        · exact Nat.lt_irrefl _ (Nat.lt_trans hDC (Nat.lt_trans (Nat.lt_of_lt_of_le (Nat.lt_succ_self _) a) (hfp _ (W.sub _ h))))
        · rw [List.mem_singleton.mp h] at a
          exact Nat.lt_irrefl _ (Nat.lt_trans hDC (Nat.lt_of_lt_of_le (Nat.lt_succ_self _) a))
      · obtain ⟨o, eo⟩ := hclo _ a
        refine ⟨fun h => ?_, fun h => ?_⟩
        · rw [hwr _ h] at eo; cases eo
        · rw [List.mem_singleton.mp h, hD] at eo; cases eo
    · exact hassign a C (List.mem_of_getElem? ea) v ρ s₁ Q₁ E₁ hP F₁ fun h' tk' ρ' F' v' kf => h₁ h' tk' ρ' F' ⟨a, ea, v'⟩ kf
    · exact Ev.tests0
    · cases hp
    · obtain ⟨kvs, e, L⟩ := hJ
      refine wpAny_bind ((hkey a C ρ h tk' (List.mem_of_getElem? ea) v F₁.keep F₁).use fun y h₂ tk₂ k₂ ⟨ty, ey⟩ => wpAny_bind (wpAny_holding ?_))
      subst ey
      refine (hval a C ρ h₂ tk₂ (List.mem_of_getElem? ea) (hV _ _ _ _ v k₂) (fun b o q => k₂ _ _ (F₁.keep _ _ q)) (F₁.kept k₂)).use fun u h₃ tk₃ k₃ g => wpAny_bind (wpAny_standAt (wpAny_holding ?_))
      have hlen : kvs.length ≤ sizeLine := by
        have a1 := L.length
        have a3 : (xs.take i).length ≤ xs.length := by rw [List.length_take]; omega
        have a4 : sizeLine = 16777216 := by decide
        omega
      refine wpAny_dictSet_pairs (hsz := hlen) (strKind_is PG w (kf a) ty) (e.at fun o q => k₃ _ _ (k₂ _ _ q)) fun h₄ e₄ s₄ => ?_
      refine h₁ h₄ _ ⟨_, e₄, ?_⟩ fun b o hb' e' => s₄.extBut b o (fun q => hb' (by rw [q]; exact List.mem_singleton.mpr rfl)) (k₃ _ _ (k₂ _ _ e'))
      have absent : valueAt kvs (kf a) = none := by
        refine valueAt_none_of_not_mem ?_
        rw [map_fst_of L]
        intro hm
        have hi' : i < xs.length := hi
        have ei : xs[i] = a := by rw [List.getElem?_eq_getElem hi'] at ea; simpa using ea
        obtain ⟨b, hb1, hb2⟩ := List.mem_map.mp hm
        obtain ⟨j, ej⟩ := List.getElem?_of_mem hb1
        rw [List.getElem?_take] at ej
        split at ej
        · rename_i hji
          have x1 : (xs.map kf)[j]? = some (kf a) := by rw [List.getElem?_map, ej]; simp [hb2]
          have x2 : (xs.map kf)[i]? = some (kf a) := by rw [List.getElem?_map, ea]; rfl
          have := (List.getElem?_inj (by rw [List.length_map]; omega) hnd).mp (x1.trans x2.symm)
          omega
        · cases ej
      rw [stored_absent absent, List.take_add_one, ea]
      exact L.append (.cons ⟨rfl, g⟩ .nil)
    · exact ⟨#[], 0, ⟨rfl, rfl, rfl⟩, rfl, fun _ he => by simp at he, Pairs.nil, List.nodup_nil⟩
    · refine ⟨rfl, ?_⟩
      obtain ⟨m, hm⟩ := F'.ns
      refine ⟨m, hm, hfin D C h' tk' ⟨F'.keep, hD, hC, Nat.ne_of_lt hDC, ⟨m, hm⟩, ?_⟩⟩
      obtain ⟨kvs, e, L⟩ := hJ'
      rw [List.take_length] at L
      obtain ⟨o, eo, ho⟩ := Heap.dictOf_iff.mp e
      exact ⟨o, eo, kvs, ho, L⟩
  · intro I acc env' R s' h0 h1
    exact codeAny_compStart_dict h0 (h1 _ _ h0)

theorem Ev.dictComp {kx vx target iter : Expr} {scope : Scope} {pos : Pos} {cl : List (Str × Addr)} {xs : List α} {P : α → VP} {kf : α → Str} {G : α → Value → Prop}
    (V : α → (Str → Option Value) → Heap → Prop)
    (hclos : closureFor scope env = pure cl) (hcp : cl.Pairwise fun x y => x.2 ≠ y.2) (hcl : ∀ q ∈ cl, ∃ v, s.heap.IsCell q.2 v)
    (hV : ∀ a ρ h h', V a ρ h → Kp h h' → V a ρ h') (hn : xs.length ≤ 1000) (hnd : (xs.map kf).Nodup)
    (hsrc : Src PG w A target false (eval iter env) xs P s)
    (hassign : ∀ a C, a ∈ xs → Assigns PG w A s.heap (cenv scope cl env C) (ncells scope C) target (P a) (V a))
    (hkey : ∀ a C ρ h tk', a ∈ xs → V a ρ h → Kp s.heap h → Fm s.heap (cenv scope cl env C) (ncells scope C) ρ h → Ev (model PG w) A (eval kx (cenv scope cl env C)) (IsS (kf a)) { s with heap := h, toks := tk' })
    (hval : ∀ a C ρ h tk', a ∈ xs → V a ρ h → Kp s.heap h → Fm s.heap (cenv scope cl env C) (ncells scope C) ρ h → Ev (model PG w) A (eval vx (cenv scope cl env C)) (fun v _ => G a v) { s with heap := h, toks := tk' })
    (hfold : ∀ x, foldedSetIterable iter env x = pure x := by intro _; rfl) (hk : scope.kind = .function := by rfl) (hnames : ∀ x ∈ scope.names, x.2 = .local → scope.names.lookup x.1 = some .local := by decide) :
    Ev (model PG w) A (eval (.DictComp kx vx [⟨target, iter, [], 0⟩] scope pos) env) (fun v h => ∃ D, v = .ref D ∧ s.heap.get? D = none ∧ ∃ o, h.get? D = some o ∧ DctOf w kf G xs o h) s := by
  intro E
  rw [arm_eval_DictComp]
  refine dictComp_core V hclos hcp hcl hV hn hnd hsrc hassign hkey hval (fun D C h' tk' x => ?_) hfold hk hnames
  obtain ⟨m, hm⟩ := x.ns
  refine ⟨m, hm, fun h'' hs'' => ?_⟩
  obtain ⟨k, o, e, d⟩ := x.sameBut hs'' DctOf.tk
  exact ⟨keeps_mk k, D, rfl, x.nD, o, e, d⟩

theorem exec_dict_used {kx vx target iter : Expr} {scope : Scope} {pos py spos : Pos} {y : Str} {cl : List (Str × Addr)} {xs : List α} {P : α → VP} {kf : α → Str} {G : α → Value → Prop} {hb : Heap} {fc : List Addr} {ρ : Str → Option Value} {Q : Flow → Shared → Prop}
    (V : α → (Str → Option Value) → Heap → Prop) (F : Fm hb env fc ρ s.heap) (ho : Own env fc y) (hC : ∀ x c, env.cells.lookup x = some c → ∃ o, s.heap.get? c = some o)
    (hclos : closureFor scope env = pure cl) (hcp : cl.Pairwise fun x y => x.2 ≠ y.2) (hcl : ∀ q ∈ cl, ∃ v, s.heap.IsCell q.2 v)
    (hV : ∀ a ρ h h', V a ρ h → Kp h h' → V a ρ h') (hn : xs.length ≤ 1000) (hnd : (xs.map kf).Nodup)
    (hsrc : Src PG w A target false (eval iter env) xs P s)
    (hassign : ∀ a C, a ∈ xs → Assigns PG w A s.heap (cenv scope cl env C) (ncells scope C) target (P a) (V a))
    (hkey : ∀ a C ρ h tk', a ∈ xs → V a ρ h → Kp s.heap h → Fm s.heap (cenv scope cl env C) (ncells scope C) ρ h → Ev (model PG w) A (eval kx (cenv scope cl env C)) (IsS (kf a)) { s with heap := h, toks := tk' })
    (hval : ∀ a C ρ h tk', a ∈ xs → V a ρ h → Kp s.heap h → Fm s.heap (cenv scope cl env C) (ncells scope C) ρ h → Ev (model PG w) A (eval vx (cenv scope cl env C)) (fun v _ => G a v) { s with heap := h, toks := tk' })
    (hQ : ∀ D h' tk', Fm hb env fc (upd ρ y (.ref D)) h' → KpF env fc s.heap h' → s.heap.get? D = none → (∃ o, h'.get? D = some o ∧ DctOf w kf G xs o h') → Q .next { s with heap := h', toks := tk' })
    (hsw : swapsWith (.DictComp kx vx [⟨target, iter, [], 0⟩] scope pos) (some (.Name y py)) spos.line env = pure true := by rfl)
    (hfold : ∀ x, foldedSetIterable iter env x = pure x := by intro _; rfl) (hk : scope.kind = .function := by rfl) (hnames : ∀ x ∈ scope.names, x.2 = .local → scope.names.lookup x.1 = some .local := by decide) :
    wpAny (model PG w) A (exec (.Assign [.Name y py] (.DictComp kx vx [⟨target, iter, [], 0⟩] scope pos) spos) env) Q E s := by
  rw [exec_Assign_Name_used _ _ _ _ hsw]
  refine wpAny_bind (wpAny_standAt (wpAny_bind ?_))
  show wpAny _ A (do let _ ← comprehension (.DictComp kx vx [⟨target, iter, [], 0⟩] scope pos) scope env _ newDict false (eval iter env) (some (assign (.Name y py) env))) _ _ s
  refine wpAny_bind (wpAny_mono (Q := fun _ s' => Q .next s') (E := E) ?_ (fun _ s' hq => wpAny_pure (wpAny_pure hq)) fun _ _ e => e)
  refine dictComp_core V hclos hcp hcl hV hn hnd hsrc hassign hkey hval (fun D C h' tk' x => ?_) hfold hk hnames
  exact used_frame F ho hC DctOf.tk x fun h₂ tk₂ F₂ kf nD o => hQ D h₂ tk₂ F₂ kf nD o

theorem exec_list_used {elt target iter : Expr} {ifs : List Expr} {scope : Scope} {pos py spos : Pos} {y : Str} {cl : List (Str × Addr)} {tk : Bool} {xs : List α} {P : α → VP} {G : α → VP} {hb : Heap} {fc : List Addr} {ρ : Str → Option Value} {Q : Flow → Shared → Prop}
    (p : α → Bool) (V : α → (Str → Option Value) → Heap → Prop) (F : Fm hb env fc ρ s.heap) (ho : Own env fc y) (hC : ∀ x c, env.cells.lookup x = some c → ∃ o, s.heap.get? c = some o)
    (hclos : closureFor scope env = pure cl) (hcp : cl.Pairwise fun x y => x.2 ≠ y.2) (hcl : ∀ q ∈ cl, ∃ v, s.heap.IsCell q.2 v)
    (hV : ∀ a ρ h h', V a ρ h → Kp h h' → V a ρ h') (hG : ∀ a y h h', Tk tk h h' → G a y h → G a y h') (hn : xs.length ≤ 1000)
    (hsrc : Src PG w A target tk (eval iter env) xs P s)
    (hassign : ∀ a C, a ∈ xs → Assigns PG w A s.heap (cenv scope cl env C) (ncells scope C) target (P a) (V a))
    (htests : ∀ a C ρ h tk', a ∈ xs → V a ρ h → Kp s.heap h → Fm s.heap (cenv scope cl env C) (ncells scope C) ρ h → Ev (model PG w) A (tests ifs (cenv scope cl env C)) (fun ok _ => ok = p a) { s with heap := h, toks := tk' })
    (helt : ∀ a C ρ h tk', a ∈ xs → p a = true → V a ρ h → Kp s.heap h → Fm s.heap (cenv scope cl env C) (ncells scope C) ρ h → Ev (model PG w) A (eval elt (cenv scope cl env C)) (G a) { s with heap := h, toks := tk' })
    (hQ : ∀ D h' tk', Fm hb env fc (upd ρ y (.ref D)) h' → KpF env fc s.heap h' → s.heap.get? D = none → IsL G (xs.filter p) (.ref D) h' → Q .next { s with heap := h', toks := tk' })
    (hsw : swapsWith (.ListComp elt [⟨target, iter, ifs, 0⟩] scope pos) (some (.Name y py)) spos.line env = pure true := by rfl)
    (hfold : ∀ x, foldedSetIterable iter env x = pure x := by intro _; rfl) (hk : scope.kind = .function := by rfl) (hnames : ∀ x ∈ scope.names, x.2 = .local → scope.names.lookup x.1 = some .local := by decide) :
    wpAny (model PG w) A (exec (.Assign [.Name y py] (.ListComp elt [⟨target, iter, ifs, 0⟩] scope pos) spos) env) Q E s := by
  rw [exec_Assign_Name_used _ _ _ _ hsw]
  refine wpAny_bind (wpAny_standAt (wpAny_bind ?_))
  show wpAny _ A (do let _ ← comprehension (.ListComp elt [⟨target, iter, ifs, 0⟩] scope pos) scope env _ (newList []) false (eval iter env) (some (assign (.Name y py) env))) _ _ s
  refine wpAny_bind (wpAny_mono (Q := fun _ s' => Q .next s') (E := E) ?_ (fun _ s' hq => wpAny_pure (wpAny_pure hq)) fun _ _ e => e)
  refine listComp_core p V hclos hcp hcl hV hG hn hsrc hassign htests helt (fun D C h' tk' x => ?_) hfold hk hnames
  exact used_frame F ho hC (LstOf.tk hG) x fun h₂ tk₂ F₂ kf nD ⟨o, e, ys, n, eo, L⟩ => hQ D h₂ tk₂ F₂ kf nD ⟨D, ys, n, rfl, eo ▸ e, L⟩
end
end Mine

end

-- ======== Base11 ========
section
open PySem PySem.W PyProof.Rows
set_option maxRecDepth 100000
namespace Mine

section
variable {prog : Program} {w : World} {A : Around} {E : Value → Shared → Prop} {R : Result → Shared → Prop} {s : Shared}

/-- as Assigns, and Z goes on -/
def AssignsZ (prog : Program) (w : World) (A : Around) (hb : Heap) (env : Env) (fc : List Addr) (target : Expr) (P : Value → Heap → Prop) (Z : (Str → Option Value) → Prop) (V : (Str → Option Value) → Heap → Prop) : Prop :=
  ∀ (v : Value) (ρ : Str → Option Value) (s : Shared) (Q : Unit → Shared → Prop) (E : Value → Shared → Prop), P v s.heap → Z ρ → Fm hb env fc ρ s.heap →
    (∀ h' tk ρ', Fm hb env fc ρ' h' → Z ρ' → V ρ' h' → KpF env fc s.heap h' → Q () { s with heap := h', toks := tk }) → wpAny (model prog w) A (assign target env v) Q E s

/-- a turn's emission may change the frame's names -/
theorem comp_it2 {e target iter : Expr} {d : Nat} {ifs : List Expr} {acc : Value} {env : Env} {emit : Sem Unit} {hb : Heap} {fc : List Addr} {ρ₀ : Str → Option Value}
    {tk : Bool} {I : Addr} {fp wr ac kept : List Addr} {n : Nat} {P : Nat → Value → Heap → Prop} {St : Nat → Heap → Prop}
    (heq : compTurn e d (.ref I) acc env = (do
      standAt iter.pos
      match ← pyNext (.ref I) with
      | none => pure (.done .next)
      | some v =>
        letOwnedTupleGo target (.ref I) v
        assign target env v
        let mut ok := true
        for c in ifs do
          if ok then ok ← isTrue c env (eval c env)
        if ok then emit
        again (.compLoop e d (.ref I) acc env)))
    (W : It prog w A target tk I fp wr n P St) (p : Nat → Bool) (Z : (Str → Option Value) → Prop) (V : Nat → (Str → Option Value) → Heap → Prop) (J : Nat → Heap → Prop)
    (hV : ∀ i ρ h h', V i ρ h → Kp h h' → V i ρ h')
    (hL : env.locals ∉ fp) (hfc : ∀ c ∈ fc, c ∉ fp) (hac : ∀ a ∈ ac, a ∉ fp ∧ a ≠ env.locals ∧ a ∉ fc ∧ hb.get? a = none) (hwr : ∀ b ∈ wr, hb.get? b = none)
    (hkept : ∀ a ∈ kept, a ∉ wr ∧ a ≠ env.locals ∧ a ∉ fc)
    (hcf : ∀ x c, env.cells.lookup x = some c → c ∉ wr ∧ c ∉ ac)
    (hJ : ∀ i h h', J i h → Tk tk h h' → (∀ a ∈ ac, ∀ o, h.get? a = some o → h'.get? a = some o) → (∀ a ∈ kept, ∀ o, h.get? a = some o → h'.get? a = some o) → J i h')
    (hassign : ∀ i, i < n → AssignsZ prog w A hb env fc target (P i) Z (V i))
    (htests : ∀ i ρ h tk', i < n → Z ρ → V i ρ h → Fm hb env fc ρ h → Ev (model prog w) A (tests ifs env) (fun ok _ => ok = p i) { s with heap := h, toks := tk' })
    (hskip : ∀ i h, i < n → p i = false → J i h → J (i + 1) h)
    (hemit : ∀ i ρ (h : Heap) tk' (Q : Unit → Shared → Prop) (E' : Value → Shared → Prop), i < n → p i = true → Z ρ → V i ρ h → Fm hb env fc ρ h → St (i + 1) h → J i h →
      (∀ h' tk'' ρ', J (i + 1) h' → Fm hb env fc ρ' h' → Z ρ' → (∀ b ∈ fp, ∀ o, h.get? b = some o → h'.get? b = some o) → Q () { s with heap := h', toks := tk'' }) → wpAny (model prog w) A emit Q E' { s with heap := h, toks := tk' })
    (hst : St 0 s.heap) (F : Fm hb env fc ρ₀ s.heap) (z0 : Z ρ₀) (h0 : J 0 s.heap) (hden : (model prog w).den (.compLoop e d (.ref I) acc env) = (compTurn e d (.ref I) acc env).onRaise (fun x => do noteFrame x env; theTreesLotGoes x)) (hund : A.under (.compLoop e d (.ref I) acc env) = A)
    (hR : ∀ h' tk' ρ', Fm hb env fc ρ' h' → Z ρ' → J n h' → R (.ok .next) { s with heap := h', toks := tk' }) :
    codeAny (model prog w) A (.compLoop e d (.ref I) acc env) R s := by
  have hLw : env.locals ∉ wr := fun h => hL (W.sub _ h)
  have frAc : ∀ {h h' : Heap} {ρ : Str → Option Value} (X : List Addr), Fm hb env fc ρ h → (∀ b o, b ∉ X → h.get? b = some o → h'.get? b = some o) → env.locals ∉ X → (∀ c ∈ fc, c ∉ X) → (∀ b ∈ X, hb.get? b = none) → (∀ x c, env.cells.lookup x = some c → c ∉ X) → Fm hb env fc ρ h' :=
    fun X F k a b c e => F.frameW (W := X) k a e b c
  refine comp_turns (target := target) (iter := iter) (ifs := ifs) (emit := emit) heq
    (fun k s' => ∃ h' tk' ρ i, s' = { s with heap := h', toks := tk' } ∧ St i h' ∧ Fm hb env fc ρ h' ∧ Z ρ ∧ J i h' ∧ i ≤ n ∧ k = n + 1 - i) ?_ (n + 1)
    ⟨s.heap, s.toks, ρ₀, 0, rfl, hst, F, z0, h0, Nat.zero_le _, rfl⟩ hden hund
  rintro k s' ⟨h', tk', ρ, i, rfl, hst', F', hZ', hJ', hi, rfl⟩ E'
  by_cases hlt : i < n
  · refine wpAny_mono (W.step i _ (fun v s₂ => wpAny (model prog w) A (assign target env v) (fun _ s₂ =>
          wpAny (model prog w) A (tests ifs env) (fun ok s₃ => if ok = true then wpAny (model prog w) A emit (fun _ s₄ => ∃ m, m < n + 1 - i ∧ ∃ h' tk' ρ i, s₄ = { s with heap := h', toks := tk' } ∧ St i h' ∧ Fm hb env fc ρ h' ∧ Z ρ ∧ J i h' ∧ i ≤ n ∧ m = n + 1 - i) E' s₃ else ∃ m, m < n + 1 - i ∧ ∃ h' tk' ρ i, s₃ = { s with heap := h', toks := tk' } ∧ St i h' ∧ Fm hb env fc ρ h' ∧ Z ρ ∧ J i h' ∧ i ≤ n ∧ m = n + 1 - i) E' s₂) E' s₂) E' hlt hst' ?_) (fun r s₁ h₁ => ?_) fun _ _ e => e
    · intro v h₁ tk₁ hP hst₁ hk₁
      have F₁ := frAc wr F' hk₁ hLw (fun c hc hm => hfc c hc (W.sub _ hm)) hwr (fun x c ec => (hcf x c ec).1)
      have hJ₁ : J i h₁ := hJ i h' h₁ hJ' (fun t b o xs m _ d e => hk₁ b o (fun hm => W.nt t i h' hst' b hm o xs m e d) e) (fun a ha o e => hk₁ _ _ (fun hm => (hac a ha).1 (W.sub _ hm)) e) (fun a ha o e => hk₁ _ _ (hkept a ha).1 e)
      refine hassign i hlt v ρ _ _ _ hP hZ' F₁ fun h₂ tk₂ ρ₂ F₂ hZ₂ hV₂ kf => ?_
      have up₂ : ∀ b ∈ fp, ∀ o, h₁.get? b = some o → h₂.get? b = some o := fun b hb' o e => kf b o (fun q => hL (q ▸ hb')) (fun q => hfc b q hb') e
      have hst₂ : St (i + 1) h₂ := W.frame _ _ _ hst₁ up₂
      have ac₂ : ∀ a ∈ ac, ∀ o, h₁.get? a = some o → h₂.get? a = some o := fun a ha o e => kf a o (hac a ha).2.1 (hac a ha).2.2.1 e
      have hJ₂ : J i h₂ := hJ i h₁ h₂ hJ₁ (F₁.sq kf).tk ac₂ (fun a ha o e => kf a o (hkept a ha).2.1 (hkept a ha).2.2 e)
      refine (htests i ρ₂ h₂ tk₂ hlt hZ₂ hV₂ F₂).use fun ok h₃ tk₃ k₃ hok => ?_
      have hst₃ : St (i + 1) h₃ := W.frame _ _ _ hst₂ fun b _ o e => k₃ b o e
      have hJ₃ : J i h₃ := hJ i h₂ h₃ hJ₂ k₃.tk (fun a _ o e => k₃ a o e) fun a _ o e => k₃ a o e
      have F₃ := F₂.kept k₃
      have hV₃ := hV _ _ _ _ hV₂ k₃
      subst hok
      cases hp : p i with
      | false =>
        simp only [Bool.false_eq_true, if_false]
        exact ⟨n + 1 - (i + 1), by omega, h₃, tk₃, ρ₂, i + 1, rfl, hst₃, F₃, hZ₂, hskip i h₃ hlt hp hJ₃, hlt, rfl⟩
      | true =>
        simp only [if_true]
        refine hemit i ρ₂ h₃ tk₃ _ _ hlt hp hZ₂ hV₃ F₃ hst₃ hJ₃ fun h₄ tk₄ ρ₄ hJ₄ F₄ hZ₄ k₄ => ?_
        exact ⟨n + 1 - (i + 1), by omega, h₄, tk₄, ρ₄, i + 1, rfl, W.frame _ _ _ hst₃ k₄, F₄, hZ₄, hJ₄, hlt, rfl⟩
    · obtain ⟨v, rfl, h₁⟩ := h₁
      exact h₁
  · have hin : i = n := by omega
    subst hin
    refine W.done _ _ _ hst' fun h₁ tk₁ hk₁ => ?_
    have F₁ := frAc wr F' hk₁ hLw (fun c hc hm => hfc c hc (W.sub _ hm)) hwr (fun x c ec => (hcf x c ec).1)
    have hJ₁ : J i h₁ := hJ i h' h₁ hJ' (fun t b o xs m _ d e => hk₁ b o (fun hm => W.nt t i h' hst' b hm o xs m e d) e) (fun a ha o e => hk₁ _ _ (fun hm => (hac a ha).1 (W.sub _ hm)) e) (fun a ha o e => hk₁ _ _ (hkept a ha).1 e)
    exact hR h₁ tk₁ ρ F₁ hZ' hJ₁

theorem codeAny_compStart1 {elt target iter target2 iter2 : Expr} {ifs ifs2 : List Expr} {scope : Scope} {pos : Pos} {it acc : Value} {env : Env}
    (h0 : codeAny (model prog w) A (.compLoop (.ListComp elt [⟨target, iter, ifs, 0⟩, ⟨target2, iter2, ifs2, 0⟩] scope pos) 1 it acc env) R s)
    (h : wpAny (model prog w) A (pyIter it) (fun it' s' => codeAny (model prog w) A (.compLoop (.ListComp elt [⟨target, iter, ifs, 0⟩, ⟨target2, iter2, ifs2, 0⟩] scope pos) 1 it' acc env) R s')
      (notedBy (model prog w) A env fun x s' => R (.error x) s') s) :
    codeAny (model prog w) A (.compStart (.ListComp elt [⟨target, iter, ifs, 0⟩, ⟨target2, iter2, ifs2, 0⟩] scope pos) 1 it acc env) R s := by
  refine codeAny_of_tree ?_
  show wpAny _ _ ((compStart (.ListComp elt [⟨target, iter, ifs, 0⟩, ⟨target2, iter2, ifs2, 0⟩] scope pos) 1 it acc env).onRaise (fun x => do noteFrame x env; standAt theWindowsPlace)) _ _ s
  refine wpAny_notedAt ?_
  unfold compStart
  show wpAny _ _ (ask >>= _) _ _ s
  refine wpAny_bind (wpAny_askSetting (wpAny_ite ?_))
  split
  · first
      | exact wpAny_bind (wpAny_pure (wpAny_pure (And.intro rfl h0)))
      | exact wpAny_pure (And.intro rfl h0)
  · first
      | exact wpAny_bind (wpAny_rule (wpAny_bind (wpAny_standAt (wpAny_bind (wpAny_mono h (fun it' s' h' => wpAny_pure (And.intro rfl h')) fun _ _ x => x)))))
      | (refine wpAny_bind (wpAny_rule ?_); show wpAny _ _ (standAt iter2.pos >>= _) _ _ s; exact wpAny_bind (wpAny_standAt (wpAny_bind (wpAny_mono h (fun it' s' h' => wpAny_pure (And.intro rfl h')) fun _ _ x => x))))
end
end Mine

end

-- ======== Base12 ========
section
open PySem PySem.W PyProof.Rows
set_option maxRecDepth 100000
namespace Mine

theorem compTurn_two (elt iter iter2 target target2 : Expr) (scope : Scope) (pos : Pos) (it acc : Value) (env : Env) :
    compTurn (.ListComp elt [⟨target, iter, [], 0⟩, ⟨target2, iter2, [], 0⟩] scope pos) 0 it acc env = (do
      standAt iter.pos
      match ← pyNext it with
      | none => pure (.done .next)
      | some v =>
        letOwnedTupleGo target it v
        assign target env v
        let mut ok := true
        for c in ([] : List Expr) do
          if ok then ok ← isTrue c env (eval c env)
        if ok then (do
            let x ← eval iter2 env
            standAt iter2.pos
            let x ← foldedSetIterable iter2 env x
            let _ ← runOwn (.compStart (.ListComp elt [⟨target, iter, [], 0⟩, ⟨target2, iter2, [], 0⟩] scope pos) 1 (← holding [x] (pyIter x)) acc env) env)
        again (.compLoop (.ListComp elt [⟨target, iter, [], 0⟩, ⟨target2, iter2, [], 0⟩] scope pos) 0 it acc env)) := by
  show (standAt iter.pos >>= fun _ => pyNext it >>= fun r => match r with
      | none => pure (.done .next)
      | some v => letOwnedTupleGo target it v >>= fun _ => assign target env v >>= fun _ =>
          eval iter2 env >>= fun x => standAt iter2.pos >>= fun _ => foldedSetIterable iter2 env x >>= fun x => holding [x] (pyIter x) >>= fun i =>
          runOwn (.compStart (.ListComp elt [⟨target, iter, [], 0⟩, ⟨target2, iter2, [], 0⟩] scope pos) 1 i acc env) env >>= fun _ =>
          again (.compLoop (.ListComp elt [⟨target, iter, [], 0⟩, ⟨target2, iter2, [], 0⟩] scope pos) 0 it acc env)) = _
  simp only [List.forIn_nil, pure_bind, if_true, bind_assoc]

section
variable {w : World} {A : Around} {E : Value → Shared → Prop} {s : Shared} {env : Env} {α β : Type}

theorem flat_succ {xs : List α} {i : Nat} {a : α} {γ : Type} (f : α → List γ) (e : xs[i]? = some a) : (xs.take (i + 1)).flatMap f = (xs.take i).flatMap f ++ f a := by
  rw [List.take_add_one, e, List.flatMap_append]; simp

theorem listComp2_core {elt iter : Expr} {t1 t2 x2 : Str} {p1 p2 q2 : Pos} {k2 : Nat} {scope : Scope} {pos cpos : Pos} {cl : List (Str × Addr)} {xs : List α} {ys : List Nat} {P : α → Value → Prop} {G : α → Nat → Value → Prop} {use : Option (Value → Sem Unit)} {Q : Value → Shared → Prop}
    (hh : A.handled = none) (h12 : t1 ≠ t2) (hx2 : x2 = tx ys) (hya : ∀ c ∈ ys, c < 128)
    (hclos : closureFor scope env = pure cl) (hcp : cl.Pairwise fun x y => x.2 ≠ y.2) (hcl : ∀ q ∈ cl, ∃ v, s.heap.IsCell q.2 v)
    (hn : xs.length * ys.length ≤ 1000)
    (hsrc : Src PG w A (.Name t1 p1) false (eval iter env) xs (fun a v _ => P a v) s)
    (hown1 : ∀ C, Own (cenv scope cl env C) (ncells scope C) t1) (hown2 : ∀ C, Own (cenv scope cl env C) (ncells scope C) t2)
    (helt : ∀ a b C ρ h tk' v1 v2, a ∈ xs → b ∈ ys → ρ t1 = some v1 → P a v1 → ρ t2 = some v2 → (∃ t, v2 = .str (tx [b]) t) → Kp s.heap h → Fm s.heap (cenv scope cl env C) (ncells scope C) ρ h → Ev (model PG w) A (eval elt (cenv scope cl env C)) (fun v _ => G a b v) { s with heap := h, toks := tk' })
    (hfin : ∀ D C h' tk', CompDone s C D (LstOf (fun (q : α × Nat) v _ => G q.1 q.2 v) (xs.flatMap fun a => ys.map fun b => (a, b))) h' → compPost (model PG w) A E use Q (.ref D) C (.ok .next) { s with heap := h', toks := tk' })
    (hfold : ∀ x, foldedSetIterable iter env x = pure x := by intro _; rfl) (hk : scope.kind = .function := by rfl) (hnames : ∀ x ∈ scope.names, x.2 = .local → scope.names.lookup x.1 = some .local := by decide) :
    wpAny (model PG w) A (comprehension (.ListComp elt [⟨.Name t1 p1, iter, [], 0⟩, ⟨.Name t2 p2, .Constant (.str x2) k2 q2, [], 0⟩] scope pos) scope env cpos (newList []) false (eval iter env) use) Q E s := by
  subst hx2
  refine comp_shell (oD := lobj [] 0) (rest := [⟨.Name t2 p2, .Constant (.str (tx ys)) k2 q2, [], 0⟩]) (ifs := []) (iter := iter) (target := .Name t1 p1) rfl hfold hk hnames hclos hcp hcl (fun s' Q' E' h' => wpAny_newObj_type h') rfl hsrc ?_ ?_
  · intro I fp wr St D C s' ks W hst hfp hwr hDC hD hC hoD hclo F
    have hCf : C ∉ fp := fun h => Nat.lt_asymm hDC (hfp C h)
    have hDf : D ∉ fp := fun h => Nat.lt_irrefl _ (hfp D h)
    obtain ⟨hs, ts, rfl, kss⟩ := ks
    have cells_gt : ∀ c ∈ ncells scope C, C < c := fun c hc => by
      obtain ⟨q, hq, rfl⟩ := List.mem_map.mp hc
      exact Nat.lt_of_lt_of_le (Nat.lt_succ_self _) ((cellsFrom_apart scope.names (C + 1)).2 q hq)
    have fcf : ∀ c ∈ ncells scope C, c ∉ fp := fun c hc h => Nat.lt_irrefl _ (Nat.lt_trans hDC (Nat.lt_trans (cells_gt c hc) (hfp _ h)))
    have fcD : D ∉ ncells scope C := fun h => Nat.lt_irrefl _ (Nat.lt_trans hDC (cells_gt D h))
    have hcf : ∀ x c, (cenv scope cl env C).cells.lookup x = some c → (∀ (b : Addr), b ∈ wr → c ≠ b) ∧ c ≠ D := fun x c ec => by
      rcases cellsFrom_mem ec with a | a
      · refine ⟨fun b hb q => ?_, fun h => ?_⟩
        · subst q
          exact Nat.lt_irrefl _ (Nat.lt_trans hDC (Nat.lt_trans (Nat.lt_of_lt_of_le (Nat.lt_succ_self _) a) (hfp _ (W.sub _ hb))))
        · rw [h] at a
          exact Nat.lt_irrefl _ (Nat.lt_trans hDC (Nat.lt_of_lt_of_le (Nat.lt_succ_self _) a))
      · obtain ⟨o, eo⟩ := hclo _ a
        refine ⟨fun b hb q => ?_, fun h => ?_⟩
        · subst q; rw [hwr _ hb] at eo; cases eo
        · rw [h, hD] at eo; cases eo
    refine comp_it2 (s := { s with heap := hs, toks := ts }) (iter := iter) (ifs := []) (target := .Name t1 p1) (kept := []) (ac := [D]) (hb := s.heap) (fc := ncells scope C) (compTurn_two ..) W
      (fun _ => true) (fun _ => True) (fun i ρ h => ∃ a, xs[i]? = some a ∧ ∃ v, ρ t1 = some v ∧ P a v) (fun i h => ∃ o, h.get? D = some o ∧ LstOf (fun (q : α × Nat) v _ => G q.1 q.2 v) ((xs.take i).flatMap fun a => ys.map fun b => (a, b)) o h)
      (fun i ρ h h' v k => v) hCf fcf (fun a ha => ?_) hwr (fun a ha => by cases ha) (fun x c ec => ?_) (fun i h h' ⟨o, e, L⟩ t k _ => ⟨o, k D (List.mem_singleton.mpr rfl) o e, L⟩)
      (fun i hi v ρ s₁ Q₁ E₁ ⟨a, ea, hP⟩ z F₁ h₁ => ?_) (fun i ρ h tk' hi _ v F₁ => Ev.tests0) (fun i h hi hp _ => by cases hp) (fun i ρ h tk' Q₁ E₁ hi hp _ ⟨a, ea, v1, ev1, pv1⟩ F₁ hSt hJ h₁ => ?_) hst F trivial ⟨_, hoD, [], 0, rfl, by simpa using All2.nil⟩ (by rfl) (by rfl) (fun h' tk' ρ' F' _ hJ' => ?_)
    · rw [List.mem_singleton.mp ha]
      exact ⟨hDf, Nat.ne_of_lt hDC, fcD, hD⟩
    · exact ⟨fun h => (hcf x c ec).1 c h rfl, fun h => (hcf x c ec).2 (List.mem_singleton.mp h)⟩
    · exact wpAny_assign_Name (F₁.store (hown1 C) fun h' tk' F' kf => h₁ h' tk' _ F' trivial ⟨a, ea, v, by simp [upd], hP⟩ kf)
    · -- the inner loop
      have ham : a ∈ xs := List.mem_of_getElem? ea
      have hi' : i < xs.length := hi
      obtain ⟨oD, eD, LD⟩ := hJ
      have Dlt : D < h.objs.size := Heap.lt_size eD
      refine wpAny_bind (wpAny_Constant_str ?_)
      refine wpAny_bind (wpAny_standAt (wpAny_bind ?_))
      have hf2 : ∀ v, foldedSetIterable (.Constant (.str (tx ys)) k2 q2) (cenv scope cl env C) v = pure v := fun _ => rfl
      rw [hf2]
      refine wpAny_pure (wpAny_bind (wpAny_holding ?_))
      refine wpAny_pyIter_ascii (by rw [tx_cps]; simpa using hya) ?_
      generalize hI2 : h.objs.size = I2 at Dlt
      dsimp only
      have W2 := Walks.strAscii (prog := PG) (w := w) (A := A) hh I2 (tx ys) tk'
      have hsz : (tx ys).cps.size = ys.length := by rw [tx_cps, List.size_toArray]
      rw [hsz] at W2
      have fresh : h.get? I2 = none := hI2 ▸ Heap.get?_none_of_le (Nat.le_refl _)
      have freshS : s.heap.get? I2 = none := none_of F₁.keep fresh
      refine wpAny_bind (wpAny_runOwn ?_)
      refine codeAny_mono (R := fun r s₃ => r = .ok .next ∧ Q₁ () s₃) ?_ (fun r s₃ ⟨e, q⟩ => by subst e; exact wpAny_pure q)
      show codeAny (model PG w) A _ _ _
      have kp2 : Kp h (h.push { cls := .type "str_ascii_iterator", data := .fields #[.str (tx ys) tk', .int 0 0] }) := kp_push
      have F₂ := F₁.kept kp2
      have hst2 : (h.push { cls := .type "str_ascii_iterator", data := .fields #[.str (tx ys) tk', .int 0 0] }).IsStrIter I2 "str_ascii_iterator" (tx ys) tk' 0 := ⟨_, hI2 ▸ Heap.get?_push_size _ rfl, rfl, rfl⟩
      have W2' : It PG w A (.Name t2 p2) true I2 [I2] [I2] ys.length (fun j v _ => ∃ b, ys[j]? = some b ∧ ∃ t, v = .str (tx [b]) t) _ := It.ofWalks W2 (fun i v s' Q' E' st q => wpAny_pure q) (fun j v h hj p st => by
        obtain ⟨c, t', e1, e2⟩ := p
        rw [tx_cps] at e1
        exact ⟨c, by simpa using e1, t', e2⟩) (fun j h st b hb o xs n e q => by
        rw [List.mem_singleton.mp hb] at e
        obtain ⟨o', e', _, d⟩ := st
        rw [e'] at e; cases e; rw [d] at q; cases q)
      have inner : codeAny (model PG w) A (.compLoop (.ListComp elt [⟨.Name t1 p1, iter, [], 0⟩, ⟨.Name t2 p2, .Constant (.str (tx ys)) k2 q2, [], 0⟩] scope pos) 1 (.ref I2) (.ref D) (cenv scope cl env C)) (fun r s₃ => r = .ok .next ∧ Q₁ () s₃) { s with heap := (h.push { cls := .type "str_ascii_iterator", data := .fields #[.str (tx ys) tk', .int 0 0] }), toks := tk' + 1 } := by
        refine comp_it2 (s := { s with heap := (h.push { cls := .type "str_ascii_iterator", data := .fields #[.str (tx ys) tk', .int 0 0] }), toks := tk' + 1 }) (iter := .Constant (.str (tx ys)) k2 q2) (ifs := []) (target := .Name t2 p2) (emit := do let _ ← call (.builtin "list.append") [.ref D, ← eval elt (cenv scope cl env C)]) (kept := fp) (ac := [D]) (hb := s.heap) (fc := ncells scope C) (ρ₀ := ρ) (by rfl) W2'
          (fun _ => true) (fun ρ => ρ t1 = some v1) (fun j ρ h => ∃ b, ys[j]? = some b ∧ ∃ v, ρ t2 = some v ∧ ∃ t, v = .str (tx [b]) t)
          (fun j h' => (∃ o, h'.get? D = some o ∧ LstOf (fun (q : α × Nat) v _ => G q.1 q.2 v) (((xs.take i).flatMap fun a => ys.map fun b => (a, b)) ++ (ys.take j).map fun b => (a, b)) o h') ∧ ∀ b ∈ fp, ∀ o, h.get? b = some o → h'.get? b = some o)
          (fun i ρ h h' v k => v) ?_ ?_ ?_ ?_ ?_ ?_ ?_ ?_ ?_ ?_ ?_ ?_ ?_ ?_ ?_ ?_ ?_ ?_
        · rw [List.mem_singleton]
          intro q
          have := F₁.loc_ne
          rw [show (cenv scope cl env C).locals = I2 from q, fresh] at this
          exact this rfl
        · intro c hc
          rw [List.mem_singleton]
          rintro rfl
          obtain ⟨v, o, e, _⟩ := F₁.cells c hc
          rw [fresh] at e; cases e
        · intro a ha
          rw [List.mem_singleton.mp ha]
          refine ⟨?_, Nat.ne_of_lt hDC, fcD, hD⟩
          rw [List.mem_singleton]; rintro rfl
          exact Nat.lt_irrefl _ Dlt
        · intro b hb
          rw [List.mem_singleton.mp hb]; exact freshS
        · intro a ha
          refine ⟨?_, fun q => hCf ((show a = C from q) ▸ ha), fun q => fcf a q ha⟩
          rw [List.mem_singleton]; rintro rfl
          exact Nat.lt_irrefl _ (Nat.lt_trans (hfp _ ha) Dlt)
        · intro x c ec
          refine ⟨?_, fun q => (hcf x c ec).2 (List.mem_singleton.mp q)⟩
          rw [List.mem_singleton]; rintro rfl
          have hcc := cellsFrom_mem ec
          rcases hcc with q | q
          · have hc2 : c ∈ ncells scope C ∨ (x, c) ∈ cl := by
              have m := PySem.mem_of_lookup ec
              have m' : (x, c) ∈ cellsFrom (C + 1) scope.names cl := m
              rw [cellsFrom_append, List.mem_append] at m'
              rcases m' with m' | m'
              · exact .inl (List.mem_map.mpr ⟨(x, c), m', rfl⟩)
              · exact .inr m'
            rcases hc2 with q2 | q2
            · obtain ⟨v, o, e, _⟩ := F₁.cells c q2
              rw [fresh] at e; cases e
            · obtain ⟨o, eo⟩ := hclo _ q2
              rw [freshS] at eo; cases eo
          · obtain ⟨o, eo⟩ := hclo _ q
            rw [freshS] at eo; cases eo
        · rintro j h' h'' ⟨⟨o, e, L⟩, kk⟩ t k1 k2
          exact ⟨⟨o, k1 D (List.mem_singleton.mpr rfl) o e, L⟩, fun b hb o e => k2 b hb o (kk b hb o e)⟩
        · intro j hj v ρ' s₁ Q₂ E₂ ⟨b, eb, hb⟩ z F₃ h₂
          exact wpAny_assign_Name (F₃.store (hown2 C) fun h' tk' F' kf => h₂ h' tk' _ F' ((upd_ne h12).trans z) ⟨b, eb, v, by simp [upd], hb⟩ kf)
        · intro j ρ' h' tk'' hj _ _ _
          exact Ev.tests0
        · intro j h' hj q
          cases q
        · rintro j ρ' h' tk'' Q₂ E₂ hj - z ⟨b, eb, v2, ev2, pv2⟩ F₃ hSt3 ⟨⟨o, eo, zs, m, rfl, L⟩, kk⟩ hq
          have hbm : b ∈ ys := List.mem_of_getElem? eb
          refine wpAny_bind ((helt a b C ρ' h' tk'' v1 v2 ham hbm z pv1 ev2 pv2 F₃.keep F₃).use fun y h₄ tk₄ k₄ g => wpAny_bind ?_)
          have hlen : zs.length ≤ sizeLine := by
            have a1 := L.length
            have a4 : sizeLine = 16777216 := by decide
            have a5 : ((xs.take i).flatMap fun a => ys.map fun b => (a, b)).length = i * ys.length := by
              rw [List.length_flatMap]
              simp only [List.length_map]
              rw [List.map_const', List.sum_replicate_nat, List.length_take, Nat.min_eq_left (Nat.le_of_lt hi')]
            have a6 : ((ys.take j).map fun b => (a, b)).length ≤ ys.length := by rw [List.length_map, List.length_take]; omega
            have a7 : i * ys.length + ys.length ≤ xs.length * ys.length := by
              have : (i + 1) * ys.length ≤ xs.length * ys.length := Nat.mul_le_mul_right _ hi'
              rw [Nat.succ_mul] at this; exact this
            rw [List.length_append, a5] at a1
            omega
          refine append_lobj (k₄ _ _ eo) hlen fun h₅ e₅ s₅ => wpAny_pure ?_
          have F₅ : Fm s.heap (cenv scope cl env C) (ncells scope C) ρ' h₅ := (F₃.kept k₄).frameW (W := [D]) (sameBut_kw s₅ (by simp)) (fun q => Nat.ne_of_gt hDC (List.mem_singleton.mp q)) (fun x c ec q => (hcf x c ec).2 (List.mem_singleton.mp q)) (fun c hc q => fcD (by rw [← List.mem_singleton.mp q]; exact hc)) (fun b hb => by rw [List.mem_singleton.mp hb]; exact hD)
          refine hq h₅ tk₄ ρ' ⟨⟨_, e₅, zs ++ [y], m + 1, rfl, ?_⟩, fun b' hb' o e => s₅.extBut _ _ (fun q => hDf (q ▸ hb')) (k₄ _ _ (kk b' hb' o e))⟩ F₅ z fun b' hb' o e => ?_
          · rw [List.take_add_one, eb]
            simp only [Option.toList_some, List.map_append, List.map_cons, List.map_nil]
            rw [← List.append_assoc]
            exact L.snoc g
          · rw [List.mem_singleton.mp hb'] at e ⊢
            exact s₅.extBut _ _ (fun q => Nat.lt_irrefl _ (q ▸ Dlt)) (k₄ _ _ e)
        · exact hst2
        · exact F₂
        · exact ev1
        · exact ⟨⟨oD, kp2 _ _ eD, by rw [List.take_zero, List.map_nil, List.append_nil]; exact LD⟩, fun b hb o e => kp2 _ _ e⟩
        · rfl
        · rfl
        · rintro h' tk'' ρ' F' z ⟨⟨o, e, L⟩, kk⟩
          refine ⟨rfl, h₁ h' tk'' ρ' ⟨o, e, ?_⟩ F' trivial kk⟩
          rw [List.take_length] at L
          rw [flat_succ _ ea]; exact L
      exact codeAny_compStart1 inner (W2'.self 0 _ _ _ hst2 inner)
    · refine ⟨rfl, ?_⟩
      obtain ⟨m, hm⟩ := F'.ns
      refine ⟨m, hm, hfin D C h' tk' ⟨F'.keep, hD, hC, Nat.ne_of_lt hDC, ⟨m, hm⟩, ?_⟩⟩
      obtain ⟨o, e, L⟩ := hJ'
      rw [List.take_length] at L
      exact ⟨o, e, L⟩
  · intro I acc env' R s' h0 h1
    exact codeAny_compStart_list h0 (h1 _ _ h0)

theorem exec_list2_used {elt iter : Expr} {t1 t2 x2 : Str} {p1 p2 q2 : Pos} {k2 : Nat} {scope : Scope} {pos py spos : Pos} {y : Str} {cl : List (Str × Addr)} {xs : List α} {ys : List Nat} {P : α → Value → Prop} {G : α → Nat → Value → Prop} {hb : Heap} {fc : List Addr} {ρ : Str → Option Value} {Q : Flow → Shared → Prop}
    (F : Fm hb env fc ρ s.heap) (ho : Own env fc y) (hC : ∀ x c, env.cells.lookup x = some c → ∃ o, s.heap.get? c = some o)
    (hh : A.handled = none) (h12 : t1 ≠ t2) (hx2 : x2 = tx ys) (hya : ∀ c ∈ ys, c < 128)
    (hclos : closureFor scope env = pure cl) (hcp : cl.Pairwise fun x y => x.2 ≠ y.2) (hcl : ∀ q ∈ cl, ∃ v, s.heap.IsCell q.2 v)
    (hn : xs.length * ys.length ≤ 1000)
    (hsrc : Src PG w A (.Name t1 p1) false (eval iter env) xs (fun a v _ => P a v) s)
    (hown1 : ∀ C, Own (cenv scope cl env C) (ncells scope C) t1) (hown2 : ∀ C, Own (cenv scope cl env C) (ncells scope C) t2)
    (helt : ∀ a b C ρ h tk' v1 v2, a ∈ xs → b ∈ ys → ρ t1 = some v1 → P a v1 → ρ t2 = some v2 → (∃ t, v2 = .str (tx [b]) t) → Kp s.heap h → Fm s.heap (cenv scope cl env C) (ncells scope C) ρ h → Ev (model PG w) A (eval elt (cenv scope cl env C)) (fun v _ => G a b v) { s with heap := h, toks := tk' })
    (hQ : ∀ D h' tk', Fm hb env fc (upd ρ y (.ref D)) h' → KpF env fc s.heap h' → s.heap.get? D = none → IsL (fun (q : α × Nat) v _ => G q.1 q.2 v) (xs.flatMap fun a => ys.map fun b => (a, b)) (.ref D) h' → Q .next { s with heap := h', toks := tk' })
    (hsw : swapsWith (.ListComp elt [⟨.Name t1 p1, iter, [], 0⟩, ⟨.Name t2 p2, .Constant (.str x2) k2 q2, [], 0⟩] scope pos) (some (.Name y py)) spos.line env = pure true := by rfl)
    (hfold : ∀ x, foldedSetIterable iter env x = pure x := by intro _; rfl) (hk : scope.kind = .function := by rfl) (hnames : ∀ x ∈ scope.names, x.2 = .local → scope.names.lookup x.1 = some .local := by decide) :
    wpAny (model PG w) A (exec (.Assign [.Name y py] (.ListComp elt [⟨.Name t1 p1, iter, [], 0⟩, ⟨.Name t2 p2, .Constant (.str x2) k2 q2, [], 0⟩] scope pos) spos) env) Q E s := by
  rw [exec_Assign_Name_used _ _ _ _ hsw]
  refine wpAny_bind (wpAny_standAt (wpAny_bind ?_))
  show wpAny _ A (do let _ ← comprehension (.ListComp elt [⟨.Name t1 p1, iter, [], 0⟩, ⟨.Name t2 p2, .Constant (.str x2) k2 q2, [], 0⟩] scope pos) scope env _ (newList []) false (eval iter env) (some (assign (.Name y py) env))) _ _ s
  refine wpAny_bind (wpAny_mono (Q := fun _ s' => Q .next s') (E := E) ?_ (fun _ s' hq => wpAny_pure (wpAny_pure hq)) fun _ _ e => e)
  refine listComp2_core hh h12 hx2 hya hclos hcp hcl hn hsrc hown1 hown2 helt (fun D C h' tk' x => ?_) hfold hk hnames
  exact used_frame (tk := false) F ho hC (LstOf.tk fun _ _ _ _ _ x => x) x fun h₂ tk₂ F₂ kf nD ⟨o, e, ys, n, eo, L⟩ => hQ D h₂ tk₂ F₂ kf nD ⟨D, ys, n, rfl, eo ▸ e, L⟩
end
end Mine

end

-- ======== Base13 ========
section
open PySem PySem.W PyProof.Rows
set_option maxRecDepth 100000
namespace Mine

/-- a goal with its sign -/
def IsG : Nat × List Nat → VP := fun g v h => ∃ a n u1 u2, v = .ref a ∧ h.get? a = some (tobj [u1, u2] n) ∧ (∃ t, u1 = .str (tx [g.1]) t) ∧ ∃ t, u2 = .str (tx g.2) t
theorem stq_G {g : Nat × List Nat} : StbQ (IsG g) := fun _ _ _ k ⟨a, n, u1, u2, e, ho, r⟩ => ⟨a, n, u1, u2, e, k _ _ _ _ rfl ho, r⟩

section
variable {prog : Program} {w : World} {A : Around} {E : Value → Shared → Prop} {s : Shared} {env : Env} {hb : Heap} {fc : List Addr} {ρ : Str → Option Value}

theorem szl : sizeLine = 16777216 := by decide

theorem Ev.lenL {a : Addr} {vs : List Value} {n : Nat} (e : s.heap.get? a = some (lobj vs n)) (hl : vs.length ≤ 1000) : Ev (model prog w) A (call (.builtin "len") [.ref a]) (IsI vs.length) s := fun _ => by
  have h : s.heap.IsList a vs.toArray := ⟨_, e, rfl, n, rfl⟩
  exact len_list h (by rw [List.size_toArray]; omega) ⟨keeps_tok, s.toks + 1, by rw [List.size_toArray]⟩

theorem Ev.addL {a b : Addr} {vs us : List Value} {n m : Nat} (e : s.heap.get? a = some (lobj vs n)) (e' : s.heap.get? b = some (lobj us m)) (hl : vs.length + us.length ≤ 1000) :
    Ev (model prog w) A (binaryOp .Add (.ref a) (.ref b)) (fun v h => ∃ D, v = .ref D ∧ s.heap.get? D = none ∧ h.get? D = some (lobj (vs ++ us) 0)) s := fun E => by
  have hz := szl
  have e1 : vs.toArray ++ us.toArray = (vs ++ us).toArray := by simp
  refine concat_meets ⟨_, e, rfl⟩ ⟨_, e', rfl⟩ noFill_list_add seq_list_add PySem.F.slot_list_add PySem.F.entry_list_add (PySem.F.args_list_add_2 _ _) (list_addW a b vs.toArray us.toArray n m none none #[] #[] (by simp only [List.size_toArray]; omega)) ⟨e, e', ?_⟩
  rw [e1]
  exact ⟨keeps_push, _, rfl, Heap.get?_none_of_le (Nat.le_refl _), Heap.get?_push_size _ rfl⟩

theorem drop_min {α : Type} (l : List α) (a : Nat) : l.drop (min a l.length) = l.drop a := by
  by_cases h : a ≤ l.length
  · rw [Nat.min_eq_left h]
  · rw [Nat.min_eq_right (by omega), List.drop_of_length_le (Nat.le_refl _), List.drop_of_length_le (by omega)]
theorem take_min' {α : Type} (l : List α) (b : Nat) : l.take (min b l.length) = l.take b := by
  by_cases h : b ≤ l.length
  · rw [Nat.min_eq_left h]
  · rw [Nat.min_eq_right (by omega), List.take_of_length_le (Nat.le_refl _), List.take_of_length_le (by omega)]
theorem pick_nat {lo hi : Option Int} (items : List Value) {a b : Nat} (e : sliceBounds lo hi none items.toArray.size = ((a : Int), (b : Int), 1)) : slicePick items.toArray lo hi none = ((items.drop a).take (b - a)).toArray := by
  unfold slicePick
  rw [e]
  simp only [sliceRange_one, pick_run]
theorem pick_from (l : List Value) (i : Nat) : slicePick l.toArray (some (i : Int)) none none = (l.drop i).toArray := by
  rw [pick_nat (a := min i l.length) (b := l.length)]
  · rw [drop_min, List.take_of_length_le (by rw [List.length_drop]; omega)]
  · simp only [sliceBounds, Option.getD_none, show (1 : Int) > 0 by decide, if_true, if_neg (show ¬ ((i : Int) < 0) by omega), List.size_toArray]
    congr 1
    omega
theorem pick_upto (l : List Value) (i : Nat) : slicePick l.toArray none (some (i : Int)) none = (l.take i).toArray := by
  rw [pick_nat (a := 0) (b := min i l.length)]
  · rw [List.drop_zero, Nat.sub_zero, take_min']
  · simp only [sliceBounds, Option.getD_none, show (1 : Int) > 0 by decide, if_true, if_neg (show ¬ ((i : Int) < 0) by omega), List.size_toArray]
    congr 1
    congr 1
    omega
theorem pick_both (l : List Value) (i j : Nat) : slicePick l.toArray (some (i : Int)) (some (j : Int)) none = ((l.take j).drop i).toArray := by
  rw [pick_nat (a := min i l.length) (b := min j l.length)]
  · rw [drop_min, List.drop_take]
    congr 1
    by_cases h : i ≤ l.length
    · rw [Nat.min_eq_left h]
      by_cases h' : j ≤ l.length
      · rw [Nat.min_eq_left h']
      · rw [Nat.min_eq_right (by omega), List.take_of_length_le (by rw [List.length_drop]; omega), List.take_of_length_le (by rw [List.length_drop]; omega)]
    · rw [List.drop_of_length_le (by omega), List.take_nil, List.take_nil]
  · simp only [sliceBounds, Option.getD_none, show (1 : Int) > 0 by decide, if_true, if_neg (show ¬ ((i : Int) < 0) by omega), if_neg (show ¬ ((j : Int) < 0) by omega), List.size_toArray]
    congr 1
    · omega
    · congr 1
      omega

/-- a slice of a list: lower and upper told apart -/
theorem Ev.sliceG {value : Expr} {lower upper : Option Expr} {p pos : Pos} {a : Addr} {vs us : List Value} {n : Nat} {lo hi : Option Int} (h1 : Ev (model prog w) A (eval value env) (IsV (.ref a)) s)
    (h2 : ∀ s₁, Keeps s s₁ → Ev (model prog w) A (evalPart lower env) (fun v _ => IsPart v lo) s₁) (h3 : ∀ s₁, Keeps s s₁ → Ev (model prog w) A (evalPart upper env) (fun v _ => IsPart v hi) s₁)
    (e : s.heap.get? a = some (lobj vs n)) (hl : vs.length ≤ 1000) (hp : slicePick vs.toArray lo hi none = us.toArray) (ht : ∀ o r, letTemporaryGo value o r = pure () := by intro _ _; rfl) :
    Ev (model prog w) A (eval (.Subscript value (.Slice lower upper none p) pos) env) (fun v h => ∃ D, v = .ref D ∧ s.heap.get? D = none ∧ h.get? D = some (lobj us 0)) s := fun E => by
  have hz := szl
  refine wpAny_Subscript_list_slice (h1.use' fun o s₁ k₁ e1 => (h2 s₁ k₁).use' fun vl s₂ k₂ pl => (h3 s₂ (keeps_trans k₁ k₂)).use' fun vu s₃ k₃ pu => ?_) ht
  have e1 : o = .ref a := e1
  have k := keeps_trans (keeps_trans k₁ k₂) k₃
  refine ⟨a, vs.toArray, lo, hi, e1, ⟨_, keeps_heap k _ _ e, rfl, n, rfl⟩, by rw [List.size_toArray]; omega, pl, pu, ?_⟩
  rw [hp]
  obtain ⟨h', tk', rfl, k⟩ := k
  refine ⟨keeps_mk fun b o q => kp_push _ _ (kp_push _ _ (k b o q)), _, rfl, none_of (s := s) k (Heap.get?_none_of_le (Nat.le_succ _)), ?_⟩
  have e1 := Heap.get?_push_size (h'.push { cls := .type "slice", data := .fields #[vl, vu, .none] }) (o := lobj us 0) rfl
  rw [Heap.size_push] at e1
  exact e1
theorem Ev.partNone : Ev (model prog w) A (evalPart none env) (fun v _ => IsPart v none) s := fun _ => wpAny_evalPart_none ⟨keeps_refl, .none⟩
theorem Ev.partInt {e : Expr} {i : Int} (h : Ev (model prog w) A (eval e env) (IsI i) s) : Ev (model prog w) A (evalPart (some e) env) (fun v _ => IsPart v (some i)) s := h.mono fun _ _ _ ⟨t, e⟩ => e ▸ .int i t

/-- o.extend(e), a statement -/
theorem exec_extend {o e : Expr} {apos pos spos : Pos} {pl : Sem Bool} {a : Addr} {ys us : List Value} {n : Nat} {Q : Flow → Shared → Prop} (h1 : Ev (model prog w) A (eval o env) (IsV (.ref a)) s)
    (h2 : ∀ s₁, Keeps s s₁ → Ev (model prog w) A (eval e env) (fun v h => ∃ b m, v = .ref b ∧ h.get? b = some (lobj us m)) s₁) (ha : s.heap.get? a = some (lobj ys n)) (hlen : ys.length + us.length ≤ 1000)
    (hQ : ∀ h₁ h' tk n', Kp s.heap h₁ → Heap.SameBut a h₁ h' → h'.get? a = some (lobj (ys ++ us) n') → Q .next { s with heap := h', toks := tk })
    (he : starEach [e] env = [(false, eval e env)] := by rfl)
    (hm : eval (.Call (.Attribute o "extend" apos) [e] [] pos) env = (do
      let ov ← eval o env
      standAt apos.atName
      let (f, first) ← holding [ov] (getMethod ov "extend" pl)
      callWith pos f first (backTo pos (starEach [e] env)) []) := by rfl)
    (hi : interactive env = false := by rfl) (hs : swapsWith (.Call (.Attribute o "extend" apos) [e] [] pos) none spos.line env = pure false := by rfl) :
    wpAny (model prog w) A (exec (.Expr (.Call (.Attribute o "extend" apos) [e] [] pos) spos) env) Q E s := by
  have hz := szl
  refine wpAny_Expr (MethodCall_ (h1.use' fun ov s₁ k₁ e1 => ?_) hm) hi hs
  have e1 : ov = .ref a := e1
  subst e1
  refine getMethod_list_of PySem.F.slot_list_extend PySem.F.type_list_extend (items := ys.toArray) ⟨_, keeps_heap k₁ _ _ ha, rfl, n, rfl⟩ ⟨_, keeps_heap k₁ _ _ ha, rfl⟩ ?_
  rw [he]
  refine Calls.callWith_builtin rfl (Calls.evalArgs_plain (Calls.spliced_cons ?_))
  show wpAny _ A (eval e env) _ E s₁
  refine (h2 s₁ k₁).use' fun v s₂ k₂ ⟨b, m, e2, eb⟩ => Calls.spliced_nil ?_
  subst e2
  have k := keeps_trans k₁ k₂
  have ha₂ := keeps_heap k _ _ ha
  refine call_meets PySem.F.slot_list_extend ⟨_, ha₂, rfl⟩ PySem.F.entry_list_extend (PySem.F.args_list_extend_2 _ _) (AutoSeq1.list_extend_list_list_0 a ys.toArray n b us.toArray m (extend_door (by simp only [List.size_toArray]; omega)) (by simp only [List.size_toArray]; omega) (by simp only [List.size_toArray]; omega)) ⟨ha₂, eb, ?_⟩
  obtain ⟨h₂, t₂, rfl, kk⟩ := k
  refine hQ h₂ _ _ (if (ys.toArray ++ us.toArray).size == ys.toArray.size then n else n + 1) kk (Heap.SameBut.update ..) ?_
  have e3 : ys.toArray ++ us.toArray = (ys ++ us).toArray := by simp
  rw [Heap.get?_update_self _ ha₂ (by rw [mapSeq_app]; rfl), mapSeq_app, e3]

/-- x, y = a tuple -/
theorem Fm.pair {x y : Str} {px py pos : Pos} {k : Nat} {a : Addr} {u1 u2 : Value} {n : Nat} {Q : Unit → Shared → Prop} (F : Fm hb env fc ρ s.heap) (hh : A.handled = none) (hx : Own env fc x) (hy : Own env fc y)
    (e : s.heap.get? a = some (tobj [u1, u2] n)) (hQ : ∀ h' tk, Fm hb env fc (upd (upd ρ x u1) y u2) h' → KpF env fc s.heap h' → Q () { s with heap := h', toks := tk }) :
    wpAny (model prog w) A (assign (.Tuple [.Name x px, .Name y py] k pos) env (.ref a)) Q E s := by
  have ht : s.heap.IsTuple a #[u1, u2] := ⟨_, e, rfl, n, rfl⟩
  refine wpAny_assign_Tuple hh ht (by rfl) (by rfl) fun h₁ hx₁ => ?_
  have k₁ : Kp s.heap h₁ := fun b o e => hx₁ b o (Nat.ne_of_lt (Heap.lt_size e)) e
  show wpAny _ A (do holding [u2] (assign (.Name x px) env u1); assignInOrder [assign (.Name y py) env] [u2]) Q E _
  refine wpAny_bind (wpAny_holding (wpAny_assign_Name ((F.kept k₁).store hx fun h₂ tk₂ F₂ kf₂ => ?_)))
  show wpAny _ A (do holding [] (assign (.Name y py) env u2); assignInOrder [] []) Q E _
  refine wpAny_bind (wpAny_holding (wpAny_assign_Name (F₂.store hy fun h₃ tk₃ F₃ kf₃ => wpAny_pure ?_)))
  exact hQ h₃ tk₃ F₃ fun b o b1 b2 e => kf₃ b o b1 b2 (kf₂ b o b1 b2 (k₁ b o e))

theorem Fm.swap2 {x y : Str} {a : Addr} {u1 u2 : Value} {n : Nat} {Q : Shared → Prop} (F : Fm hb env fc ρ s.heap) (hh : A.handled = none) (hx : Own env fc x) (hy : Own env fc y)
    (e : s.heap.get? a = some (tobj [u1, u2] n)) (hQ : ∀ h' tk, Fm hb env fc (upd (upd ρ y u2) x u1) h' → KpF env fc s.heap h' → Q { s with heap := h', toks := tk }) :
    wpAny (model prog w) A (unpackItems (.ref a) 2 none) (fun items s₂ => wpAny (model prog w) A (assignInOrder [bindName env y, bindName env x] items.reverse) (fun _ => Q) E s₂) E s := by
  have ht : s.heap.IsTuple a #[u1, u2] := ⟨_, e, rfl, n, rfl⟩
  have up := @wpAny_unpackItems_tuple prog w A E s a #[u1, u2] (fun items s₂ => wpAny (model prog w) A (assignInOrder [bindName env y, bindName env x] items.reverse) (fun _ => Q) E s₂) hh ht
  refine up fun h₁ hx₁ => ?_
  have k₁ : Kp s.heap h₁ := fun b o e => hx₁ b o (Nat.ne_of_lt (Heap.lt_size e)) e
  show wpAny _ A (do holding [u1] (bindName env y u2); assignInOrder [bindName env x] [u1]) _ E _
  refine wpAny_bind (wpAny_holding (wpAny_bindName ((F.kept k₁).store hy fun h₂ tk₂ F₂ kf₂ => ?_)))
  show wpAny _ A (do holding [] (bindName env x u1); assignInOrder [] []) _ E _
  refine wpAny_bind (wpAny_holding (wpAny_bindName (F₂.store hx fun h₃ tk₃ F₃ kf₃ => wpAny_pure ?_)))
  exact hQ h₃ tk₃ F₃ fun b o b1 b2 e => kf₃ b o b1 b2 (kf₂ b o b1 b2 (k₁ b o e))

theorem Fm.swap3 {x y z : Str} {a : Addr} {u1 u2 u3 : Value} {n : Nat} {Q : Shared → Prop} (F : Fm hb env fc ρ s.heap) (hh : A.handled = none) (hx : Own env fc x) (hy : Own env fc y) (hz : Own env fc z)
    (e : s.heap.get? a = some (tobj [u1, u2, u3] n)) (hQ : ∀ h' tk, Fm hb env fc (upd (upd (upd ρ z u3) y u2) x u1) h' → KpF env fc s.heap h' → Q { s with heap := h', toks := tk }) :
    wpAny (model prog w) A (unpackItems (.ref a) 3 none) (fun items s₂ => wpAny (model prog w) A (assignInOrder [bindName env z, bindName env y, bindName env x] items.reverse) (fun _ => Q) E s₂) E s := by
  have ht : s.heap.IsTuple a #[u1, u2, u3] := ⟨_, e, rfl, n, rfl⟩
  have up := @wpAny_unpackItems_tuple prog w A E s a #[u1, u2, u3] (fun items s₂ => wpAny (model prog w) A (assignInOrder [bindName env z, bindName env y, bindName env x] items.reverse) (fun _ => Q) E s₂) hh ht
  refine up fun h₁ hx₁ => ?_
  have k₁ : Kp s.heap h₁ := fun b o e => hx₁ b o (Nat.ne_of_lt (Heap.lt_size e)) e
  show wpAny _ A (do holding [u2, u1] (bindName env z u3); assignInOrder [bindName env y, bindName env x] [u2, u1]) _ E _
  refine wpAny_bind (wpAny_holding (wpAny_bindName ((F.kept k₁).store hz fun h₂ tk₂ F₂ kf₂ => ?_)))
  show wpAny _ A (do holding [u1] (bindName env y u2); assignInOrder [bindName env x] [u1]) _ E _
  refine wpAny_bind (wpAny_holding (wpAny_bindName (F₂.store hy fun h₃ tk₃ F₃ kf₃ => ?_)))
  show wpAny _ A (do holding [] (bindName env x u1); assignInOrder [] []) _ E _
  refine wpAny_bind (wpAny_holding (wpAny_bindName (F₃.store hx fun h₄ tk₄ F₄ kf₄ => wpAny_pure ?_)))
  exact hQ h₄ tk₄ F₄ fun b o b1 b2 e => kf₄ b o b1 b2 (kf₃ b o b1 b2 (kf₂ b o b1 b2 (k₁ b o e)))

/-- a while by what holds between the turns and a measure -/
theorem While_it {test : Expr} {body : List Stmt} {pos : Pos} {Q : Flow → Shared → Prop} (J : Nat → Heap → Prop) {n₀ : Nat} (h0 : J n₀ s.heap)
    (step : ∀ n h tk, J n h → wpAny (model prog w) A (isTrue test env (eval test env)) (fun b s₂ => if b = true then wpAny (model prog w) A (execs body env) (fun fl s₃ => match fl with
      | .next | .cont => ∃ m h' tk', m < n ∧ s₃ = { s with heap := h', toks := tk' } ∧ J m h'
      | .brk => Q .next s₃
      | .ret v => Q (.ret v) s₃) (fun _ _ => False) s₂ else Q .next s₂) (fun _ _ => False) { s with heap := h, toks := tk }) :
    wpAny (model prog w) A (exec (.While test body [] pos) env) Q E s := by
  have ev : ∀ {α : Type} {m : Sem α} {Q' : α → Shared → Prop} {E' : Value → Shared → Prop} {s' : Shared}, wpAny (model prog w) A m Q' (fun _ _ => False) s' → wpAny (model prog w) A m Q' E' s' := fun h => wpAny_mono h (fun _ _ x => x) fun _ _ x => x.elim
  refine wpAny_While (codeAny_whileLoop (fun n s' => ∃ h tk, s' = { s with heap := h, toks := tk } ∧ J n h) ?_ n₀ ⟨s.heap, s.toks, rfl, h0⟩)
  rintro n s' ⟨h, tk, rfl, hJ⟩
  refine ev (wpAny_mono (step n h tk hJ) (fun b s₂ h₂ => ?_) fun _ _ x => x)
  cases b with
  | true =>
    simp only [if_true] at h₂ ⊢
    refine ev (wpAny_mono h₂ (fun f s₃ h₃ => ?_) fun _ _ x => x)
    cases f with
    | next => obtain ⟨m, h', tk', hm, e, hJ'⟩ := h₃; exact ⟨m, hm, h', tk', e, hJ'⟩
    | cont => obtain ⟨m, h', tk', hm, e, hJ'⟩ := h₃; exact ⟨m, hm, h', tk', e, hJ'⟩
    | brk => exact h₃
    | ret v => exact h₃
  | false =>
    simp only [Bool.false_eq_true, if_false] at h₂ ⊢
    exact wpAny_execs_nil h₂
end
end Mine

end

-- ======== Par1 ========
section
open PySem PySem.W PyProof.Rows
set_option maxRecDepth 100000
namespace Mine

def S2 : List Nat := [48, 49]
/-- the two steps by their signs -/
def IsSteps (w : World) (δ : Nat → Nat → Nat) : VP := fun v h => ∃ a f, v = .ref a ∧ h.MapOf (strKind PG w) a f ∧ ∀ sg ∈ S2, ∃ u, f (tx [sg]) = some u ∧ IsStep w (δ sg) u h
theorem stb_steps {w : World} {δ : Nat → Nat → Nat} : Stb (IsSteps w δ) := fun _ _ _ k ⟨a, f, e, m, r⟩ => ⟨a, f, e, mapOf_keeps m k, fun sg hs => let ⟨u, e, q⟩ := r sg hs; ⟨u, e, stb_step _ _ _ k q⟩⟩
theorem steps_kt {w : World} {δ : Nat → Nat → Nat} {v : Value} {h h' : Heap} {ps : Array Value} (hs : IsSteps w δ v h) (ht : h.get? 123 = some (tabObj ps)) (k : Kt h h') : IsSteps w δ v h' := by
  obtain ⟨a, f, e, ⟨o, es, ep, ho, hx, hd, r⟩, q⟩ := hs
  refine ⟨a, f, e, ⟨o, es, ep, k _ _ (fun z => ?_) ho, hx, hd, r⟩, fun sg hs => let ⟨u, e, q⟩ := q sg hs; ⟨u, e, step_kt q ht k⟩⟩
  rw [z, ht] at ho; cases ho; cases hd

section
variable {hb : Heap} {env : Env} {fc : List Addr} {ρ : Str → Option Value} {h h' : Heap} {a : Addr} {o : Obj} {xs : Array Value} {n : Nat}
theorem Fm.seq_ne (F : Fm hb env fc ρ h) (e : h.get? a = some o) (d : o.data = .seq xs n) : a ≠ env.locals ∧ a ∉ fc := by
  refine ⟨fun q => ?_, fun q => ?_⟩
  · obtain ⟨m, o', es, ep, e', d', _⟩ := F.ns
    rw [q, e'] at e; cases e; rw [d'] at d; cases d
  · obtain ⟨v, o', e', d'⟩ := F.cells a q
    rw [e'] at e; cases e; rw [d'] at d; cases d
theorem Fm.change (F : Fm hb env fc ρ h) (hcl : ∀ x c, env.cells.lookup x = some c → c ∈ fc) (e : h.get? a = some o) (d : o.data = .seq xs n) (hn : hb.get? a = none) (k : KpW [a] h h') : Fm hb env fc ρ h' := by
  obtain ⟨q1, q2⟩ := F.seq_ne e d
  exact F.frameW k (by simpa using Ne.symm q1) (fun x c ec q => q2 (List.mem_singleton.mp q ▸ hcl x c ec)) (fun c hc q => q2 (List.mem_singleton.mp q ▸ hc)) (by simpa using hn)
theorem Acc.kf {w : World} {x d : Addr} {vs : List Value} (A : Acc w x d vs h) (F : Fm hb env fc ρ h) (k : KpF env fc h h') (dl : d ≠ env.locals) (dc : d ∉ fc) : Acc w x d vs h' := by
  obtain ⟨⟨m, e⟩, tk, v, e'⟩ := A
  exact ⟨⟨m, F.sq k _ _ _ _ rfl e⟩, tk, v, k _ _ dl dc e'⟩
theorem Acc.kw {w : World} {x d : Addr} {vs : List Value} {W : List Addr} (A : Acc w x d vs h) (k : KpW W h h') (h1 : x ∉ W) (h2 : d ∉ W) : Acc w x d vs h' := by
  obtain ⟨⟨m, e⟩, tk, v, e'⟩ := A
  exact ⟨⟨m, k _ _ h1 e⟩, tk, v, k _ _ h2 e'⟩
end

section
variable {w : World} {A : Around} {E : Value → Shared → Prop} {s : Shared} {env : Env} {mg mb : Str → Option Value} {k : Nat} {x d : Addr} {vs : List Value}

theorem fd52 : ∃ o, (KK w).lookup 52 = some o ∧ o.data = .func (fnAt 52) := ⟨_, rfl, rfl⟩
theorem fd60 : ∃ o, (KK w).lookup 60 = some o ∧ o.data = .func (fnAt 60) := ⟨_, rfl, rfl⟩
theorem fd104 : ∃ o, (KK w).lookup 104 = some o ∧ o.data = .func (fnAt 104) := ⟨_, rfl, rfl⟩
theorem fd126 : ∃ o, (KK w).lookup 126 = some o ∧ o.data = .func (fnAt 126) := ⟨_, rfl, rfl⟩
theorem fd133 : ∃ o, (KK w).lookup 133 = some o ∧ o.data = .func (fnAt 133) := ⟨_, rfl, rfl⟩
theorem find_push : findIn (KK w) (.ref 107) "push" = some (some (.ref 52)) := rfl
theorem find_pop_from : findIn (KK w) (.ref 107) "pop_from" = some (some (.ref 60)) := rfl
theorem find_count : findIn (KK w) (.ref 107) "part_count" = some (some (.ref 104)) := rfl
theorem ty52 : typeIn (KK w) (.ref 52) = some (.type "function") := rfl
theorem ty60 : typeIn (KK w) (.ref 60) = some (.type "function") := rfl
theorem ty104 : typeIn (KK w) (.ref 104) = some (.type "function") := rfl

theorem acc_get {f : Addr} {name : Str} {pl : Sem Bool} {Q : Value × List Value → Shared → Prop} (X : (KK w).In s.heap) (a : Acc w x d vs s.heap)
    (hf : findIn (KK w) (.ref 107) name = some (some (.ref f))) (ht : typeIn (KK w) (.ref f) = some (.type "function")) (hs : ∀ tk, (Value.str "_initial_size" tk).isStr name = false) (h : Q (.ref f, [.ref x]) s) :
    wpAny (model PG w) A (getMethod (.ref x) name pl) Q E s := by
  obtain ⟨⟨m, hx⟩, tkd, vd, hd⟩ := a
  exact acc_method X hx hd hf ht (shadow w tkd vd name (hs tkd)) h

/-- waiting.push(e1, e2) -/
theorem exec_push {oe e1 e2 : Expr} {apos pos spos : Pos} {pl : Sem Bool} {P1 P2 : Value → Prop} {Q : Flow → Shared → Prop} (G : Gd w mg mb s.heap) (R : Rm A k) (a : Acc w x d vs s.heap) (hlen : vs.length ≤ 900)
    (h0 : Ev (model PG w) A (eval oe env) (IsV (.ref x)) s)
    (h1 : ∀ s₁, Keeps s s₁ → Ev (model PG w) A (eval e1 env) (fun v _ => P1 v) s₁) (h2 : ∀ s₁, Keeps s s₁ → Ev (model PG w) A (eval e2 env) (fun v _ => P2 v) s₁)
    (hQ : ∀ v1 v2 T h' tk, P1 v1 → P2 v2 → Acc w x d (vs ++ [.ref T]) h' → h'.get? T = some (tobj [v1, v2] 0) → s.heap.get? T = none → KpW [x] s.heap h' → Q .next { s with heap := h', toks := tk })
    (he : starEach [e1, e2] env = [(false, eval e1 env), (false, eval e2 env)] := by rfl)
    (hm : eval (.Call (.Attribute oe "push" apos) [e1, e2] [] pos) env = (do
      let ov ← eval oe env
      standAt apos.atName
      let (f, first) ← holding [ov] (getMethod ov "push" pl)
      callWith pos f first (backTo pos (starEach [e1, e2] env)) []) := by rfl)
    (hi : interactive env = false := by rfl) (hs : swapsWith (.Call (.Attribute oe "push" apos) [e1, e2] [] pos) none spos.line env = pure false := by rfl) :
    wpAny (model PG w) A (exec (.Expr (.Call (.Attribute oe "push" apos) [e1, e2] [] pos) spos) env) Q E s := by
  obtain ⟨o52, ho, hd⟩ := fd52 (w := w)
  refine wpAny_Expr (MethodCall_ (h0.use' fun ov s₁ k₁ e1 => ?_) hm) hi hs
  have e1 : ov = .ref x := e1
  subst e1
  refine acc_get (G.kp (keeps_heap k₁)).X (a.kept (keeps_heap k₁)) find_push ty52 (fun _ => rfl) ?_
  rw [he]
  refine Calls.callWith_function (o := o52) (fd := fnAt 52) (Calls.evalArgs_plain (Calls.spliced_cons ?_))
  show wpAny _ A (eval _ env) _ E s₁
  refine (h1 s₁ k₁).use' fun v1 s₂ k₂ p1 => Calls.spliced_cons ?_
  show wpAny _ A (eval _ env) _ E s₂
  refine (h2 s₂ (keeps_trans k₁ k₂)).use' fun v2 s₃ k₃ p2 => Calls.spliced_nil ?_
  have kk := keeps_trans (keeps_trans k₁ k₂) k₃
  have G₃ := G.kp (keeps_heap kk)
  refine ⟨⟨G₃.X _ _ ho, hd⟩, ?_⟩
  obtain ⟨h₃, tk₃, rfl, kk⟩ := kk
  refine push_spec G₃ R (a.kept kk) hlen fun T h' tk a' eT nT kw => ?_
  exact hQ v1 v2 T h' tk p1 p2 a' eT (none_of kk nT) fun b o hb e => kw b o hb (kk b o e)

/-- waiting.part_count() -/
theorem Ev.count {oe : Expr} {apos pos : Pos} {pl : Sem Bool} (G : Gd w mg mb s.heap) (R : Rm A k) (a : Acc w x d vs s.heap)
    (h0 : Ev (model PG w) A (eval oe env) (IsV (.ref x)) s)
    (hm : eval (.Call (.Attribute oe "part_count" apos) [] [] pos) env = (do
      let ov ← eval oe env
      standAt apos.atName
      let (f, first) ← holding [ov] (getMethod ov "part_count" pl)
      callWith pos f first (backTo pos (starEach [] env)) []) := by rfl) :
    Ev (model PG w) A (eval (.Call (.Attribute oe "part_count" apos) [] [] pos) env) (IsI vs.length) s := fun E => by
  obtain ⟨o104, ho, hd⟩ := fd104 (w := w)
  refine MethodCall_ (h0.use' fun ov s₁ k₁ e1 => ?_) hm
  have e1 : ov = .ref x := e1
  subst e1
  refine acc_get (G.kp (keeps_heap k₁)).X (a.kept (keeps_heap k₁)) find_count ty104 (fun _ => rfl) ?_
  refine Calls.callWith_function (o := o104) (fd := fnAt 104) (PySem.evalArgs_none ?_)
  have G₁ := G.kp (keeps_heap k₁)
  refine ⟨⟨G₁.X _ _ ho, hd⟩, ?_⟩
  exact (count_ev G₁ R (a.kept (keeps_heap k₁))).use' fun _ _ k₂ p => ⟨keeps_trans k₁ k₂, p⟩

/-- waiting.pop_from(e) -/
theorem eval_pop {oe e1 : Expr} {apos pos : Pos} {pl : Sem Bool} {i : Nat} {Q : Value → Shared → Prop} (G : Gd w mg mb s.heap) (R : Rm A k) (a : Acc w x d vs s.heap) (hlen : vs.length ≤ 900) (hi : i ≤ vs.length)
    (h0 : Ev (model PG w) A (eval oe env) (IsV (.ref x)) s)
    (h1 : ∀ s₁, Keeps s s₁ → Ev (model PG w) A (eval e1 env) (IsI i) s₁)
    (hQ : ∀ P h' tk, Acc w x d (vs.take i) h' → h'.get? P = some (lobj (vs.drop i) 0) → s.heap.get? P = none → KpW [x] s.heap h' → Q (.ref P) { s with heap := h', toks := tk })
    (he : starEach [e1] env = [(false, eval e1 env)] := by rfl)
    (hm : eval (.Call (.Attribute oe "pop_from" apos) [e1] [] pos) env = (do
      let ov ← eval oe env
      standAt apos.atName
      let (f, first) ← holding [ov] (getMethod ov "pop_from" pl)
      callWith pos f first (backTo pos (starEach [e1] env)) []) := by rfl) :
    wpAny (model PG w) A (eval (.Call (.Attribute oe "pop_from" apos) [e1] [] pos) env) Q E s := by
  obtain ⟨o60, ho, hd⟩ := fd60 (w := w)
  refine MethodCall_ (h0.use' fun ov s₁ k₁ e1 => ?_) hm
  have e1 : ov = .ref x := e1
  subst e1
  refine acc_get (G.kp (keeps_heap k₁)).X (a.kept (keeps_heap k₁)) find_pop_from ty60 (fun _ => rfl) ?_
  rw [he]
  refine Calls.callWith_function (o := o60) (fd := fnAt 60) (Calls.evalArgs_plain (Calls.spliced_cons ?_))
  show wpAny _ A (eval _ env) _ E s₁
  refine (h1 s₁ k₁).use' fun v1 s₂ k₂ ⟨t1, e1⟩ => Calls.spliced_nil ?_
  subst e1
  have kk := keeps_trans k₁ k₂
  have G₃ := G.kp (keeps_heap kk)
  refine ⟨⟨G₃.X _ _ ho, hd⟩, ?_⟩
  obtain ⟨h₃, tk₃, rfl, kk⟩ := kk
  refine pop_spec G₃ R (a.kept kk) hlen hi fun P h' tk a' eT nT kw => ?_
  exact hQ P h' tk a' eT (none_of kk nT) fun b o hb e => kw b o hb (kk b o e)

/-- _law_halves(e1, e2, e3) -/
theorem eval_halves {f e1 e2 e3 : Expr} {pos : Pos} {part goal : List Nat} {δ : Nat → Nat} {Q : Value → Shared → Prop} (G : Gd w mg mb s.heap) (R : Rm A (k + 3)) (T : Tab lamQual lamPos s.heap)
    (h0 : Ev (model PG w) A (eval f env) (IsV (.ref 126)) s)
    (h1 : ∀ s₁, Keeps s s₁ → Ev (model PG w) A (eval e1 env) (IsTx part) s₁) (h2 : ∀ s₁, Keeps s s₁ → Ev (model PG w) A (eval e2 env) (IsStep w δ) s₁) (h3 : ∀ s₁, Keeps s s₁ → Ev (model PG w) A (eval e3 env) (IsTx goal) s₁)
    (hp : ∀ c ∈ part, c ∈ L6) (hg : ∀ c ∈ goal, c < 128) (hlp : part.length ≤ 100) (hlg : goal.length ≤ 100)
    (hQ : ∀ v h' tk, Kt s.heap h' → (∃ c', Full lamQual lamPos c' h') → (∀ c', Full lamQual lamPos c' s.heap → Kp s.heap h') → IsL IsTx (halves δ part goal) v h' → (∃ a, v = .ref a ∧ s.heap.get? a = none) → Q v { s with heap := h', toks := tk })
    (hs : starEach [e1, e2, e3] env = [(false, eval e1 env), (false, eval e2 env), (false, eval e3 env)] := by rfl)
    (he : eval (.Call f [e1, e2, e3] [] pos) env = (do callWith pos (← eval f env) [] (backTo pos (starEach [e1, e2, e3] env)) (backToKw pos (keywordEach [] env))) := by rfl) :
    wpAny (model PG w) A (eval (.Call f [e1, e2, e3] [] pos) env) Q E s := by
  obtain ⟨o126, ho, hd⟩ := fd126 (w := w)
  refine Call_ (h0.use' fun v s₁ k₁ e1' => ?_) he
  have e1' : v = .ref 126 := e1'
  subst e1'
  rw [hs]
  refine Calls.callWith_function (o := o126) (fd := fnAt 126) (Calls.evalArgs_plain (Calls.spliced_cons ?_))
  show wpAny _ A (eval e1 env) _ E s₁
  refine (h1 s₁ k₁).use' fun v1 s₂ k₂ ⟨t1, p1⟩ => Calls.spliced_cons ?_
  show wpAny _ A (eval e2 env) _ E s₂
  refine (h2 s₂ (keeps_trans k₁ k₂)).use' fun v2 s₃ k₃ p2 => Calls.spliced_cons ?_
  show wpAny _ A (eval e3 env) _ E s₃
  refine (h3 s₃ (keeps_trans (keeps_trans k₁ k₂) k₃)).use' fun v3 s₄ k₄ ⟨t3, p3⟩ => Calls.spliced_nil ?_
  subst p1 p3
  have kk := keeps_trans (keeps_trans (keeps_trans k₁ k₂) k₃) k₄
  have G₄ := G.kp (keeps_heap kk)
  refine ⟨⟨G₄.X _ _ ho, hd⟩, ?_⟩
  have T₄ := T.kp (keeps_heap kk)
  have p2' := stb_step _ _ _ (keeps_heap k₄) p2
  obtain ⟨h₄, tk₄, rfl, kk⟩ := kk
  refine halves_spec G₄ R T₄ p2' hp hg hlp hlg fun v h' tk kt T' kf hv ⟨a, e, na⟩ => ?_
  exact hQ v h' tk (fun b o hb e => kt b o hb (kk b o e)) T' (fun c' x b o e => kf c' (x.kp kk) b o (kk b o e)) hv ⟨a, e, none_of kk na⟩

/-- _law_lesser(e) -/
theorem Ev.lesser {f e : Expr} {pos : Pos} {xs : List (List Nat)} (G : Gd w mg mb s.heap) (R : Rm A (k + 1)) (h0 : Ev (model PG w) A (eval f env) (IsV (.ref 133)) s)
    (h1 : ∀ s₁, Keeps s s₁ → Ev (model PG w) A (eval e env) (IsL IsTx xs) s₁) (hne : xs ≠ []) (hlen : ∀ x ∈ xs, x.length ≤ 1000)
    (hs : starEach [e] env = [(false, eval e env)] := by rfl)
    (he : eval (.Call f [e] [] pos) env = (do callWith pos (← eval f env) [] (backTo pos (starEach [e] env)) (backToKw pos (keywordEach [] env))) := by rfl) : Ev (model PG w) A (eval (.Call f [e] [] pos) env) (IsTx (lesser xs)) s := by
  obtain ⟨o, ho, hd⟩ := fd133 (w := w)
  exact Ev.fcall1 h0 (G.X _ _ ho) hd h1 (fun v s₁ k₁ p => lesser_ev (G.kp (keeps_heap k₁)) R p hne hlen) hs he

/-- steps[sign] -/
theorem Ev.stepsAt {δ : Nat → Nat → Nat} {y z : Str} {py pz pos : Pos} {v : Value} {c : Nat} {t : Tok} (hk : env.scope.kind = .function) (r1 : Rd env s.heap y v) (r2 : Rd env s.heap z (.str (tx [c]) t)) (hs : IsSteps w δ v s.heap) (hc : c ∈ S2)
    (hd : (y == ("__debug__" : Str)) = false := by decide) (hd' : (z == ("__debug__" : Str)) = false := by decide)
    (hsub : ∀ a, subscripted (.Name z pz) false (.ref a) (.str (tx [c]) t) = operate [.ref a, .str (tx [c]) t] (getItem (.ref a) (.str (tx [c]) t)) := by intro _; with_unfolding_all rfl) :
    Ev (model PG w) A (eval (.Subscript (.Name y py) (.Name z pz) pos) env) (IsStep w (δ c)) s :=
  Ev.sub (Ev.name hk r1 hd) (fun o s₁ k₁ _ => Ev.name hk (r2.keeps (keeps_heap k₁)) hd') fun o i s₁ s₂ k₁ e1 k₂ e2 => by
    subst e1 e2
    obtain ⟨a, f, e, m, r⟩ := hs
    subst e
    obtain ⟨u, et, q⟩ := r c hc
    refine (Ev.subDict (mapOf_keeps m (keeps_heap (keeps_trans k₁ k₂))) et (hsub a)).mono fun v h' k' e => ?_
    have e : v = u := e
    rw [e]
    exact stb_step _ _ _ (fun b o x => k' _ _ (keeps_heap (keeps_trans k₁ k₂) _ _ x)) q
end
end Mine

end

-- ======== Par2 ========
section
open PySem PySem.W PyProof.Rows
set_option maxRecDepth 100000
namespace Mine

/-- the parting's state: the parts, what waits, what went -/
structure St where
  parts : List (List Nat)
  laid : List (Nat × List Nat)
  gone : List (Nat × List Nat)
def both (g : List Nat) : List (Nat × List Nat) := [(48, g), (49, g)]
def turn (δ : Nat → Nat) (goal : List Nat) (acc : List (List Nat) × List (Nat × List Nat)) (part : List Nat) : List (List Nat) × List (Nat × List Nat) :=
  (acc.1 ++ halves δ part goal, if (halves δ part goal).length = 2 then acc.2 ++ both (lesser (halves δ part goal)) else acc.2)
def next (δ : Nat → Nat → Nat) (st : St) (i : Nat) : St := match st.laid[i]? with
  | none => st
  | some g =>
    let r := st.parts.foldl (turn (δ g.1) g.2) ([], st.laid.take i ++ st.laid.drop (i + 1))
    ⟨r.1, r.2, st.gone ++ [g]⟩
/-- all that the walk asks of a state -/
structure Ok (st : St) : Prop where
  np : st.parts.length ≤ 6
  pt : ∀ p ∈ st.parts, p ≠ [] ∧ p.length ≤ 6 ∧ ∀ c ∈ p, c ∈ L6
  nl : st.laid.length ≤ 12
  gl : ∀ g ∈ st.laid, g.1 ∈ S2 ∧ g.2.length ≤ 6 ∧ ∀ c ∈ g.2, c ∈ L6
  ng : st.gone.length ≤ 12

theorem isG_tk {g : Nat × List Nat} {v : Value} {h h' : Heap} (k : Tk true h h') (i : IsG g v h) : IsG g v h' := by
  obtain ⟨a, n, u1, u2, e, ho, r⟩ := i
  exact ⟨a, n, u1, u2, e, k rfl _ _ _ _ rfl rfl ho, r⟩
theorem allG_tk {gs : List (Nat × List Nat)} {vs : List Value} {h h' : Heap} (k : Tk true h h') (r : All2 (fun g v => IsG g v h) gs vs) : All2 (fun g v => IsG g v h') gs vs := r.mono fun _ _ i => isG_tk k i
theorem kw_tk {W : List Addr} {h h' : Heap} (k : KpW W h h') (c : ∀ b ∈ W, ∀ o, h.get? b = some o → o.cls ≠ .type "tuple") : Tk true h h' := fun _ b o xs n hc _ e => k b o (fun hm => c b hm o e hc) e
theorem kw1_tk {a : Addr} {o : Obj} {h h' : Heap} (k : KpW [a] h h') (e : h.get? a = some o) (c : o.cls ≠ .type "tuple") : Tk true h h' :=
  kw_tk k fun b hb o' e' => by rw [List.mem_singleton.mp hb, e] at e'; cases e'; exact c
theorem isL_stay {α : Type} {P : α → Value → Prop} {xs : List α} {v : Value} {W : List Addr} {h h' : Heap} (k : KpW W h h') (i : IsL (fun x v _ => P x v) xs v h) (n : ∀ a, v = .ref a → a ∉ W) : IsL (fun x v _ => P x v) xs v h' := by
  obtain ⟨a, vs, m, e, ho, r⟩ := i
  exact ⟨a, vs, m, e, k _ _ (n a e) ho, r⟩
theorem acc_cls {w : World} {x d : Addr} {vs : List Value} {h : Heap} (a : Acc w x d vs h) : ∃ o xs n, h.get? x = some o ∧ o.cls = .ref 107 ∧ o.data = .seq xs n := let ⟨⟨m, e⟩, _⟩ := a; ⟨_, _, m, e, rfl, rfl⟩

abbrev FP (hb0 : Heap) (n : Addr) (ρ : Str → Option Value) (h : Heap) : Prop := Fm (hideAll hb0 [123]) (envAt 138 n) (fcAt 138 n) ρ h
abbrev nm (hb0 : Heap) (a : Addr) : Prop := (hideAll hb0 [123]).get? a = none
/-- names but these read on -/
def Agr (xs : List Str) (ρ ρ' : Str → Option Value) : Prop := ∀ y, y ∉ xs → ρ' y = ρ y
theorem Agr.refl {xs : List Str} {ρ : Str → Option Value} : Agr xs ρ ρ := fun _ _ => rfl
theorem Agr.upd {xs : List Str} {ρ ρ' : Str → Option Value} {x : Str} {v : Value} (a : Agr xs ρ ρ') (h : x ∈ xs) : Agr xs ρ (upd ρ' x v) := fun y hy => (upd_ne fun q : y = x => hy (q ▸ h)).trans (a y hy)
theorem Agr.trans {xs ys : List Str} {ρ ρ' ρ'' : Str → Option Value} (a : Agr xs ρ ρ') (b : Agr ys ρ' ρ'') (h : ∀ x ∈ ys, x ∈ xs) : Agr xs ρ ρ'' := fun y hy => (b y fun q => hy (h y q)).trans (a y hy)

section
variable {w : World} {A : Around} {E : Value → Shared → Prop} {s : Shared} {mg mb : Str → Option Value} {k : Nat} {hb0 : Heap} {n x d l : Addr} {ρ : Str → Option Value}

theorem fp_kt {h : Heap} (F : FP hb0 n ρ h) : Kt hb0 h := fun b o hb e => F.keep b o (hideAll_get _ e (by simpa using hb))
theorem hcl138 : ∀ y c, (envAt 138 n).cells.lookup y = some c → c ∈ fcAt 138 n := fun _ _ ec => ncells_mem ec
theorem fc138 : fcAt 138 n = [n + 1] := rfl
theorem fp_push {h h' : Heap} (F : FP hb0 n ρ h) {a : Addr} {o : Obj} {xs : Array Value} {m : Nat} (e : h.get? a = some o) (dd : o.data = .seq xs m) (hn : nm hb0 a) (kw : KpW [a] h h') : FP hb0 n ρ h' := F.change hcl138 e dd hn kw

/-- pushing goals one after the other -/
theorem for_push {iter : Expr} {pl : Sem Bool} {p1 p2 p3 p4 p5 p6 p7 p8 : Pos} {pos : Pos} {gs ws : List Value} {goals wg : List (Nat × List Nat)} {so : List Addr} {Q : Flow → Shared → Prop} (G0 : Gd w mg mb hb0) (R : Rm A k)
    (F : FP hb0 n ρ s.heap) (hw : ρ "waiting" = some (.ref x)) (a : Acc w x d ws s.heap) (hx : nm hb0 x) (dl : d ≠ n) (dc : d ≠ n + 1)
    (hsrc : SrcF PG w A (.Tuple [.Name "sign" p1, .Name "goal" p2] 0 p3) (eval iter (envAt 138 n)) gs (fun v u _ => u = v) so s) (hso : ∀ b ∈ [n, n + 1, x], b ∉ so)
    (hg : All2 (fun g v => IsG g v s.heap) goals gs) (hwg : All2 (fun g v => IsG g v s.heap) wg ws) (hlen : ws.length + goals.length ≤ 900)
    (hfold : ∀ v, foldedSetIterable iter (envAt 138 n) v = pure v)
    (hm : eval (.Call (.Attribute (.Name "waiting" p4) "push" p5) [.Name "sign" p6, .Name "goal" p7] [] p8) (envAt 138 n) = (do
      let ov ← eval (.Name "waiting" p4) (envAt 138 n)
      standAt p5.atName
      let (f, first) ← holding [ov] (getMethod ov "push" pl)
      callWith p8 f first (backTo p8 (starEach [.Name "sign" p6, .Name "goal" p7] (envAt 138 n))) []))
    (hQ : ∀ ρ' vs h' tk, FP hb0 n ρ' h' → Agr ["sign", "goal"] ρ ρ' → Acc w x d vs h' → All2 (fun g v => IsG g v h') (wg ++ goals) vs → KpW [n, n + 1, x] s.heap h' → Q .next { s with heap := h', toks := tk }) :
    wpAny (model PG w) A (exec (.For (.Tuple [.Name "sign" p1, .Name "goal" p2] 0 p3) iter [.Expr (.Call (.Attribute (.Name "waiting" p4) "push" p5) [.Name "sign" p6, .Name "goal" p7] [] p8) p8] [] pos) (envAt 138 n)) Q E s := by
  have L := hg.length
  refine For_it (W := [n, n + 1, x]) (xs := gs) (P := fun v u _ => u = v) (so := so)
    (J := fun i h => ∃ ρ' vs, FP hb0 n ρ' h ∧ Agr ["sign", "goal"] ρ ρ' ∧ Acc w x d vs h ∧ All2 (fun g v => IsG g v h) (wg ++ goals.take i) vs ∧ KpW [n, n + 1, x] s.heap h ∧ Tk true s.heap h)
    hsrc hso ?_ ?_ ⟨ρ, ws, F, .refl, a, by simpa using hwg, .refl, fun _ _ _ _ _ _ _ e => e⟩ ?_ ?_ hfold
  · intro b hb
    simp only [List.mem_cons, List.not_mem_nil, or_false] at hb
    rcases hb with q | q | q
    · rw [q]; exact F.loc_ne
    · rw [q]
      obtain ⟨v, o, e, _⟩ := F.cells (n + 1) (by rw [fc138]; simp)
      rw [e]; simp
    · rw [q]; obtain ⟨⟨m, e⟩, _⟩ := a; rw [e]; simp
  · rintro i h h' ⟨ρ', vs, F', ag, a', r, kw, tk⟩ sq kk
    refine ⟨ρ', vs, F'.stay F kk (fun y c ec => ?_), ag, ?_, allG_tk sq.tk r, fun b o hb e => kk b o (by rw [e]; simp) (kw b o hb e), tk.trans sq.tk⟩
    · obtain ⟨v, o, e, _⟩ := F.cells c (hcl138 y c ec)
      rw [e]; simp
    · obtain ⟨⟨m, e⟩, tkd, vd, e'⟩ := a'
      refine ⟨⟨m, sq _ _ _ _ rfl e⟩, tkd, vd, kk _ _ ?_ e'⟩
      obtain ⟨_, _, _, e0⟩ := a
      rw [e0]; simp
  · rintro i v u h tk ev eu ⟨ρ', vs, F', ag, a', r, kw, tkk⟩
    subst eu
    obtain ⟨g, eg, ig⟩ := hg.get' ev
    obtain ⟨ta, tn, u1, u2, e1, ho, ⟨t1, et1⟩, ⟨t2, et2⟩⟩ := isG_tk tkk ig
    subst e1
    refine F'.pair R.hh (.inl rfl) (.inl rfl) ho fun h₁ tk₁ F₁ kf₁ => ?_
    have a₁ := a'.kf F' kf₁ dl (by rw [fc138]; simpa using dc)
    have sq₁ := F'.sq kf₁
    have rW : upd (upd ρ' "sign" u1) "goal" u2 "waiting" = some (.ref x) := ((upd_ne (by decide)).trans (upd_ne (by decide))).trans ((ag _ (by decide)).trans hw)
    have rS : upd (upd ρ' "sign" u1) "goal" u2 "sign" = some u1 := (upd_ne (by decide)).trans (by simp [upd])
    have rG : upd (upd ρ' "sign" u1) "goal" u2 "goal" = some u2 := by simp [upd]
    have hlen' : vs.length ≤ 900 := by
      have q := r.length
      have q2 := hwg.length
      rw [List.length_append, List.length_take] at q; omega
    have G₁ : Gd w mg mb h₁ := G0.kt (fp_kt F₁)
    refine wpAny_execs_cons (exec_push (hm := hm) (P1 := fun v => v = u1) (P2 := fun v => v = u2) G₁ R a₁ hlen' (Ev.name rfl (F₁.rd rW)) (fun s₁ k₁ => Ev.name rfl ((F₁.rd rS).keeps (keeps_heap k₁))) (fun s₁ k₁ => Ev.name rfl ((F₁.rd rG).keeps (keeps_heap k₁))) fun v1 v2 T h₂ tk₂ ev1 ev2 a₂ eT nT kw₂ => ?_)
    subst ev1 ev2
    refine wpAny_execs_nil ?_
    obtain ⟨o, xs, m, ex, cx, dx⟩ := acc_cls a₁
    have tk₂' : Tk true h₁ h₂ := kw1_tk kw₂ ex (by rw [cx]; intro q; cases q)
    have kwF : KpW [n, n + 1, x] h h₁ := kf₁.kw (by exact List.mem_cons_self ..) (by intro c hc; rw [fc138] at hc; rw [List.mem_singleton.mp hc]; simp)
    have kw12 : KpW [n, n + 1, x] h₁ h₂ := fun b o hb e => kw₂ b o (fun q => hb (by rw [List.mem_singleton.mp q]; simp)) e
    refine ⟨h₂, tk₂, rfl, ⟨_, _, fp_push F₁ ex dx hx kw₂, (ag.upd (by simp)).upd (by simp), a₂, ?_, (kw.trans kwF).trans kw12, (tkk.trans sq₁.tk).trans tk₂'⟩, kwF.trans kw12⟩
    rw [List.take_add_one, eg, ← List.append_assoc]
    refine (allG_tk (sq₁.tk.trans tk₂') r).append ?_
    exact .cons ⟨T, 0, _, _, rfl, eT, ⟨t1, et1⟩, ⟨t2, et2⟩⟩ .nil
  · rintro h tk ⟨ρ', vs, F', ag, a', r, kw, _⟩
    rw [← L, List.take_length] at r
    exact hQ ρ' vs h tk F' ag a' r kw
end
end Mine

end

-- ======== Par3 ========
section
open PySem PySem.W PyProof.Rows
set_option maxRecDepth 100000
set_option maxHeartbeats 1000000
namespace Mine

noncomputable def wBody : List Stmt := match bodyAt 138 with
  | [_, _, _, _, .While _ b _ _, _] => b
  | _ => []
noncomputable def pBody : List Stmt := match wBody with
  | [_, _, _, _, _, _, _, .For _ _ b _ _, _] => b
  | _ => []

theorem halves_len {δ : Nat → Nat} {part goal : List Nat} : (halves δ part goal).length ≤ 2 := Nat.le_trans (List.length_filter_le _ _) (by simp)
theorem halves_mem {δ : Nat → Nat} {part goal y : List Nat} (h : y ∈ halves δ part goal) : y.length ≤ part.length := by
  unfold halves at h
  have h := (List.mem_filter.mp h).1
  simp only [List.mem_cons, List.not_mem_nil, or_false] at h
  rcases h with rfl | rfl <;> exact List.length_filter_le _ _

section
variable {w : World} {A : Around} {E : Value → Shared → Prop} {s : Shared} {mg mb : Str → Option Value} {k : Nat} {hb0 : Heap} {n x d l af : Addr} {ρ : Str → Option Value}

theorem fp_kt123 {h h' : Heap} (F : FP hb0 n ρ h) (T : ∃ ps, h.get? 123 = some (tabObj ps)) (kt : Kt h h') : FP hb0 n ρ h' := by
  obtain ⟨ps, hT⟩ := T
  refine F.frameW (W := [123]) (fun b o hb e => kt b o (by simpa using hb) e) (fun q => ?_) (fun y c ec => ?_) (fun c hc => ?_) (by simpa using hideAll_none [123] (by simp))
  · obtain ⟨m, o, es, ep, e, dd, _⟩ := F.ns
    rw [List.mem_singleton.mp q, hT] at e; cases e; cases dd
  · intro q
    obtain ⟨v, o, e, dd⟩ := F.cells c (hcl138 y c ec)
    rw [List.mem_singleton.mp q, hT] at e; cases e; cases dd
  · intro q
    obtain ⟨v, o, e, dd⟩ := F.cells c hc
    rw [List.mem_singleton.mp q, hT] at e; cases e; cases dd

/-- both signs pushed and laid -/
theorem for_both {hs : List (List Nat)} {hv : Value} {gl : List (Nat × List Nat)} {ws lvs : List Value} {lm : Nat} {lt : Expr} {pos p1 p2 : Pos} {body : List Stmt} {Q : Flow → Shared → Prop} (G0 : Gd w mg mb hb0) (R : Rm A (k + 1))
    (hbody : body = match pBody with
      | [_, _, .If _ [.For _ _ b _ _] _ _] => b
      | _ => [])
    (F : FP hb0 n ρ s.heap) (rH : ρ "halves" = some hv) (hH : IsL IsTx hs hv s.heap) (hne : hs ≠ []) (hlen : ∀ y ∈ hs, y.length ≤ 1000) (hHl : hv ≠ .ref l)
    (rW : ρ "waiting" = some (.ref x)) (rL : ρ "laid" = some (.ref l)) (hl : s.heap.get? l = some (lobj lvs lm)) (a : Acc w x d ws s.heap) (hx : nm hb0 x) (hnl : nm hb0 l) (dl : d ≠ n) (dc : d ≠ n + 1)
    (Ll : All2 (fun g v => IsG g v s.heap) gl lvs) (Lw : All2 (fun g v => IsG g v s.heap) gl ws) (hgl : gl.length ≤ 500)
    (hQ : ∀ ρ' ws' lvs' lm' h' tk, FP hb0 n ρ' h' → Agr ["other"] ρ ρ' → Acc w x d ws' h' → h'.get? l = some (lobj lvs' lm') → All2 (fun g v => IsG g v h') (gl ++ both (lesser hs)) ws' → All2 (fun g v => IsG g v h') (gl ++ both (lesser hs)) lvs' →
      KpW [n, n + 1, x, l] s.heap h' → Q .next { s with heap := h', toks := tk }) :
    wpAny (model PG w) A (exec (.For (.Name "other" p1) (.Constant (.str "01") 0 p2) body [] pos) (envAt 138 n)) Q E s := by
  obtain ⟨ox, oxs, om, ex, cx, dx⟩ := acc_cls a
  have xl : x ≠ l := fun q => by rw [q, hl] at ex; cases ex; cases cx
  have dl' : d ≠ l := fun q => by
    obtain ⟨_, tkd, vd, e⟩ := a
    rw [q, hl] at e
    have z := congrArg Obj.cls (Option.some.inj e)
    change Value.type "list" = Value.type "dict" at z
    simp at z
  subst hbody
  refine For_it (W := [n, n + 1, x, l]) (xs := S2) (P := IsC) (so := [])
    (J := fun i h => ∃ ρ' ws' lvs' lm', FP hb0 n ρ' h ∧ Agr ["other"] ρ ρ' ∧ Acc w x d ws' h ∧ h.get? l = some (lobj lvs' lm') ∧ All2 (fun g v => IsG g v h) (gl ++ (both (lesser hs)).take i) ws' ∧ All2 (fun g v => IsG g v h) (gl ++ (both (lesser hs)).take i) lvs' ∧ KpW [n, n + 1, x, l] s.heap h)
    (SrcF.str R.hh Ev.cstr' (by decide)) (fun b _ q => by cases q) ?_ ?_ ⟨ρ, ws, lvs, lm, F, .refl, a, hl, by simpa using Lw, by simpa using Ll, .refl⟩ ?_ ?_
  · intro b hb
    simp only [List.mem_cons, List.not_mem_nil, or_false] at hb
    rcases hb with q | q | q | q
    · rw [q]; exact F.loc_ne
    · rw [q]
      obtain ⟨v, o, e, _⟩ := F.cells (n + 1) (by rw [fc138]; simp)
      rw [e]; simp
    · rw [q, ex]; simp
    · rw [q, hl]; simp
  · rintro i h h' ⟨ρ', ws', lvs', lm', F', ag, a', hl', r1, r2, kw⟩ sq kk
    refine ⟨ρ', ws', lvs', lm', F'.stay F kk (fun y c ec => ?_), ag, ?_, sq _ _ _ _ rfl hl', allG_tk sq.tk r1, allG_tk sq.tk r2, fun b o hb e => kk b o (by rw [e]; simp) (kw b o hb e)⟩
    · obtain ⟨v, o, e, _⟩ := F.cells c (hcl138 y c ec)
      rw [e]; simp
    · obtain ⟨⟨m, e⟩, tkd, vd, e'⟩ := a'
      refine ⟨⟨m, sq _ _ _ _ rfl e⟩, tkd, vd, kk _ _ ?_ e'⟩
      obtain ⟨_, _, _, e0⟩ := a
      rw [e0]; simp
  · rintro i sg v h tk ei ⟨tv, ev⟩ ⟨ρ', ws', lvs', lm', F', ag, a', hl', r1, r2, kw⟩
    subst ev
    have hH' : IsL IsTx hs hv h := isL_stay (P := fun y v => ∃ t, v = .str (tx y) t) kw hH fun b eb hb => by
      obtain ⟨b', vs', m', eb', ho', _⟩ := hH
      have e2 : b = b' := by rw [eb] at eb'; cases eb'; rfl
      subst e2
      obtain ⟨q1, q2⟩ := F.seq_ne ho' rfl
      simp only [List.mem_cons, List.not_mem_nil, or_false] at hb
      rcases hb with q | q | q | q
      · exact q1 q
      · exact q2 (by rw [fc138, q]; simp)
      · rw [q, ex] at ho'; cases ho'; cases cx
      · exact hHl (by rw [eb, q])
    refine wpAny_assign_Name (F'.store (.inl rfl) fun h₁ tk₁ F₁ kf₁ => ?_)
    have a₁ := a'.kf F' kf₁ dl (by rw [fc138]; simpa using dc)
    have sq₁ := F'.sq kf₁
    have hl₁ := sq₁ _ _ _ _ rfl hl'
    have hH₁ : IsL IsTx hs hv h₁ := stq_L (fun _ => stq_S) _ _ _ sq₁ hH'
    have rW' : upd ρ' "other" (.str (tx [sg]) tv) "waiting" = some (.ref x) := (upd_ne (by decide)).trans ((ag _ (by decide)).trans rW)
    have rL' : upd ρ' "other" (.str (tx [sg]) tv) "laid" = some (.ref l) := (upd_ne (by decide)).trans ((ag _ (by decide)).trans rL)
    have rH' : upd ρ' "other" (.str (tx [sg]) tv) "halves" = some hv := (upd_ne (by decide)).trans ((ag _ (by decide)).trans rH)
    have rO' : upd ρ' "other" (.str (tx [sg]) tv) "other" = some (.str (tx [sg]) tv) := by simp [upd]
    have blen : (both (lesser hs)).length = 2 := rfl
    have lenW : ws'.length ≤ 900 := by have q := r1.length; rw [List.length_append, List.length_take] at q; omega
    have lenL : lvs'.length ≤ 1000 := by have q := r2.length; rw [List.length_append, List.length_take] at q; omega
    have G₁ : Gd w mg mb h₁ := G0.kt (fp_kt F₁)
    -- waiting.push(other, _law_lesser(halves))
    refine wpAny_execs_cons (exec_push (P1 := fun v => v = .str (tx [sg]) tv) (P2 := fun v => ∃ t, v = .str (tx (lesser hs)) t) G₁ R a₁ lenW (Ev.name rfl (F₁.rd rW')) (fun s₁ k₁ => Ev.name rfl ((F₁.rd rO').keeps (keeps_heap k₁)))
      (fun s₁ k₁ => Ev.lesser (G₁.kp (keeps_heap k₁)) R (gname (G₁.kp (keeps_heap k₁)) rfl rfl rfl rfl) (fun s₂ k₂ => (Ev.name rfl ((F₁.rd rH').keeps (keeps_heap (keeps_trans k₁ k₂)))).mono fun _ _ k e => by
        have e : _ = hv := e
        rw [e]; exact stb_L (fun _ => stb_S) _ _ _ (fun b o q => k _ _ (keeps_heap (keeps_trans k₁ k₂) _ _ q)) hH₁) hne hlen) fun v1 v2 T h₂ tk₂ ev1 ev2 a₂ eT nT kw₂ => ?_)
    subst ev1
    obtain ⟨t2, ev2⟩ := ev2
    subst ev2
    obtain ⟨o1, xs1, m1, ex1, cx1, dx1⟩ := acc_cls a₁
    have tk₂' : Tk true h₁ h₂ := kw1_tk kw₂ ex1 (by rw [cx1]; intro q; cases q)
    have F₂ : FP hb0 n _ h₂ := fp_push F₁ ex1 dx1 hx kw₂
    have hl₂ : h₂.get? l = some (lobj lvs' lm') := kw₂ _ _ (by simpa using Ne.symm xl) hl₁
    have G₂ : Gd w mg mb h₂ := G0.kt (fp_kt F₂)
    have hH₂ : IsL IsTx hs hv h₂ := isL_stay (P := fun y v => ∃ t, v = .str (tx y) t) kw₂ hH₁ fun b eb hb => by
      obtain ⟨b', vs', m', eb', ho', _⟩ := hH₁
      rw [eb] at eb'; cases eb'
      rw [List.mem_singleton.mp hb, ex1] at ho'; cases ho'; cases cx1
    -- laid.append((other, _law_lesser(halves)))
    refine wpAny_execs_cons (exec_append (P := fun v h => IsG (sg, lesser hs) v h) (Ev.name rfl (F₂.rd rL')) (fun s₁ k₁ => Ev.mono (Ev.tuple2 (P1 := IsV (.str (tx [sg]) tv)) (P2 := IsTx (lesser hs)) (Ev.name rfl ((F₂.rd rO').keeps (keeps_heap k₁)))
        (fun v s₂ k₂ _ => Ev.lesser (G₂.kp (keeps_heap (keeps_trans k₁ k₂))) R (gname (G₂.kp (keeps_heap (keeps_trans k₁ k₂))) rfl rfl rfl rfl) (fun s₃ k₃ => (Ev.name rfl ((F₂.rd rH').keeps (keeps_heap (keeps_trans (keeps_trans k₁ k₂) k₃)))).mono fun _ _ k e => by
          have e : _ = hv := e
          rw [e]; exact stb_L (fun _ => stb_S) _ _ _ (fun b o q => k _ _ (keeps_heap (keeps_trans (keeps_trans k₁ k₂) k₃) _ _ q)) hH₂) hne hlen) (fun _ _ _ _ q => q) stb_S)
        (fun v h' _ ⟨ta, u1, u2, e1, _, e2, e3, e4⟩ => ?_)) hl₂ lenL fun v h₃ h₄ tk₄ k₃ iv s₄ l₄ => ?_)
    · have e3 : u1 = .str (tx [sg]) tv := e3
      exact ⟨ta, 0, u1, u2, e1, e2, ⟨tv, e3⟩, e4⟩
    refine wpAny_execs_nil ?_
    have l₃ := k₃ _ _ hl₂
    have kw₄ : KpW [l] h₃ h₄ := sameBut_kw s₄ (by simp)
    have tk₄' : Tk true h₃ h₄ := kw1_tk kw₄ l₃ (by simp)
    have F₄ : FP hb0 n _ h₄ := fp_push (F₂.kept k₃) l₃ rfl hnl kw₄
    have a₄ : Acc w x d (ws' ++ [.ref T]) h₄ := (a₂.kept k₃).kw kw₄ (by simpa using xl) (by simpa using dl')
    have kwF : KpW [n, n + 1, x, l] h h₁ := kf₁.kw (by exact List.mem_cons_self ..) (by intro c hc; rw [fc138] at hc; rw [List.mem_singleton.mp hc]; simp)
    have kwA : KpW [n, n + 1, x, l] h₁ h₄ := fun b o hb e => by
      simp only [List.mem_cons, List.not_mem_nil, or_false, not_or] at hb
      exact kw₄ _ _ (by simpa using hb.2.2.2) (k₃ _ _ (kw₂ _ _ (by simpa using hb.2.2.1) e))
    have eg : (both (lesser hs))[i]? = some (sg, lesser hs) := by
      match i, ei with
      | 0, ei => simp only [S2, List.getElem?_cons_zero, Option.some.injEq] at ei; subst ei; rfl
      | 1, ei => simp only [S2, List.getElem?_cons_succ, List.getElem?_cons_zero, Option.some.injEq] at ei; subst ei; rfl
      | i + 2, ei => simp [S2] at ei
    have tkA : Tk true h h₄ := sq₁.tk.trans (tk₂'.trans (k₃.tk.trans tk₄'))
    refine ⟨h₄, tk₄, rfl, ⟨_, _, _, _, F₄, ag.upd (by simp), a₄, l₄, ?_, ?_, (kw.trans kwF).trans kwA⟩, kwF.trans kwA⟩
    · rw [List.take_add_one, eg, ← List.append_assoc]
      exact (allG_tk tkA r1).append (.cons (isG_tk (k₃.tk.trans tk₄') ⟨T, 0, _, _, rfl, eT, ⟨tv, rfl⟩, ⟨t2, rfl⟩⟩) .nil)
    · rw [List.take_add_one, eg, ← List.append_assoc]
      exact (allG_tk tkA r2).append (.cons (isG_tk tk₄' iv) .nil)
  · rintro h tk ⟨ρ', ws', lvs', lm', F', ag, a', hl', r1, r2, kw⟩
    have e : (both (lesser hs)).take S2.length = both (lesser hs) := rfl
    rw [e] at r1 r2
    exact hQ ρ' ws' lvs' lm' h tk F' ag a' hl' r1 r2 kw
end
end Mine

end

-- ======== Par4 ========
section
open PySem PySem.W PyProof.Rows
set_option maxRecDepth 100000
set_option maxHeartbeats 1000000
namespace Mine

section
variable {w : World} {A : Around} {E : Value → Shared → Prop} {s : Shared} {mg mb : Str → Option Value} {k : Nat} {hb0 : Heap} {n x d l af : Addr} {ρ : Str → Option Value}

theorem ne123 {h : Heap} {a : Addr} {o : Obj} {qual : Str} {pos : Pos} (T : Tab qual pos h) (e : h.get? a = some o) (c : o.cls ≠ .none) : a ≠ 123 := fun q => by
  obtain ⟨ps, hT⟩ := T.at_
  rw [q, hT] at e; cases e; exact c rfl
theorem fp_nW {h : Heap} (F : FP hb0 n ρ h) : ∀ b ∈ [n, n + 1], ∃ o, h.get? b = some o ∧ ∀ us, o.data ≠ .fields us := fun b hb => by
  simp only [List.mem_cons, List.not_mem_nil, or_false] at hb
  rcases hb with q | q
  · obtain ⟨m, o, es, ep, e, dd, _⟩ := F.ns
    exact ⟨o, q ▸ e, fun us q => by rw [dd] at q; cases q⟩
  · obtain ⟨v, o, e, dd⟩ := F.cells (n + 1) (by rw [fc138]; simp)
    exact ⟨o, q ▸ e, fun us q => by rw [dd] at q; cases q⟩

theorem full_kw {h h' : Heap} {W : List Addr} {qual : Str} {pos : Pos} {c' : Addr} (T : Full qual pos c' h) (k : KpW W h h') (nW : ∀ b ∈ W, ∀ o, h.get? b = some o → ∀ us, o.data ≠ .fields us) : Full qual pos c' h' := by
  have out : ∀ {b o us}, h.get? b = some o → o.data = .fields us → h'.get? b = some o := fun {b o us} e dd => k b o (fun hb => nW b hb o e _ dd) e
  obtain ⟨T, a, c, o, vs, t, e1, e2, e3, e4⟩ := T
  exact ⟨out T rfl, a, c, o, vs, t, e1, out e2 e3, e3, e4⟩
theorem fp_nW' {h : Heap} (F : FP hb0 n ρ h) : ∀ b ∈ [n, n + 1], ∀ o, h.get? b = some o → ∀ us, o.data ≠ .fields us := fun b hb o e us => by
  obtain ⟨o', e', d⟩ := fp_nW F b hb
  rw [e] at e'; cases e'; exact d us
theorem lobj_nf {h : Heap} {a : Addr} {vs : List Value} {m : Nat} (e : h.get? a = some (lobj vs m)) : ∀ o, h.get? a = some o → ∀ us, o.data ≠ .fields us := fun o e' us q => by rw [e] at e'; cases e'; cases q
theorem acc_nf {h : Heap} {vs : List Value} (a : Acc w x d vs h) : ∀ o, h.get? x = some o → ∀ us, o.data ≠ .fields us := fun o e' us q => by
  obtain ⟨⟨m, e⟩, _⟩ := a
  rw [e] at e'; cases e'; cases q
theorem full_kw5 {h h' : Heap} {vs as ls : List Value} {am lm : Nat} {qual : Str} {pos : Pos} {c' : Addr} (T : Full qual pos c' h) (F : FP hb0 n ρ h) (a : Acc w x d vs h) (hl : h.get? l = some (lobj ls lm)) (haf : h.get? af = some (lobj as am)) (k : KpW [n, n + 1, x, l, af] h h') : Full qual pos c' h' := by
  refine full_kw T k fun b hb o e => ?_
  simp only [List.mem_cons, List.not_mem_nil, or_false] at hb
  rcases hb with q | q | q | q | q
  · exact fp_nW' F b (by simp [q]) o e
  · exact fp_nW' F b (by simp [q]) o e
  · exact acc_nf a o (q ▸ e)
  · exact lobj_nf hl o (q ▸ e)
  · exact lobj_nf haf o (q ▸ e)

/-- one part of a turn -/
theorem part_turn {δ : Nat → Nat → Nat} {sg : Nat} {goal part : List Nat} {acc : List (List Nat) × List (Nat × List Nat)} {t1 t2 t3 : Tok} {sv : Value} {avs ws lvs : List Value} {am lm : Nat} {Q : Flow → Shared → Prop}
    (G0 : Gd w mg mb hb0) (R : Rm A (k + 3)) {c' : Addr} (T : Full lamQual lamPos c' s.heap) (T0 : Tab lamQual lamPos hb0)
    (F : FP hb0 n ρ s.heap) (rsteps : ρ "steps" = some sv) (hst : IsSteps w δ sv hb0) (rsign : ρ "sign" = some (.str (tx [sg]) t1)) (hsg : sg ∈ S2) (rgoal : ρ "goal" = some (.str (tx goal) t2)) (rpart : ρ "part" = some (.str (tx part) t3))
    (rafter : ρ "after" = some (.ref af)) (haf : s.heap.get? af = some (lobj avs am)) (La : All2 (fun y v => IsTx y v s.heap) acc.1 avs)
    (rW : ρ "waiting" = some (.ref x)) (rL : ρ "laid" = some (.ref l)) (hl : s.heap.get? l = some (lobj lvs lm)) (a : Acc w x d ws s.heap)
    (hx : nm hb0 x) (hnl : nm hb0 l) (hna : nm hb0 af) (dl : d ≠ n) (dc : d ≠ n + 1) (la : l ≠ af)
    (Ll : All2 (fun g v => IsG g v s.heap) acc.2 lvs) (Lw : All2 (fun g v => IsG g v s.heap) acc.2 ws)
    (hp : ∀ c ∈ part, c ∈ L6) (hpl : part.length ≤ 6) (hg : ∀ c ∈ goal, c ∈ L6) (hgl : goal.length ≤ 6) (hal : acc.1.length ≤ 900) (hll : acc.2.length ≤ 500)
    (hQ : ∀ ρ' ws' lvs' avs' lm' am' h' tk, FP hb0 n ρ' h' → Agr ["halves", "other"] ρ ρ' → Acc w x d ws' h' → h'.get? l = some (lobj lvs' lm') → h'.get? af = some (lobj avs' am') → All2 (fun y v => IsTx y v h') (turn (δ sg) goal acc part).1 avs' →
      All2 (fun g v => IsG g v h') (turn (δ sg) goal acc part).2 ws' → All2 (fun g v => IsG g v h') (turn (δ sg) goal acc part).2 lvs' →
      KpW [n, n + 1, x, l, af] s.heap h' → Q .next { s with heap := h', toks := tk }) :
    wpAny (model PG w) A (execs pBody (envAt 138 n)) Q E s := by
  have lt128 : ∀ c ∈ L6, c < 128 := by decide
  obtain ⟨ox, oxs, om, ex, cx, dx⟩ := acc_cls a
  have xl : x ≠ l := fun q => by rw [q, hl] at ex; cases ex; cases cx
  have xa : x ≠ af := fun q => by rw [q, haf] at ex; cases ex; cases cx
  have da : d ≠ af := fun q => by
    obtain ⟨_, tkd, vd, e⟩ := a
    rw [q, haf] at e
    have z := congrArg Obj.cls (Option.some.inj e)
    change Value.type "list" = Value.type "dict" at z
    simp at z
  have stK : ∀ {h : Heap} {ρ}, FP hb0 n ρ h → IsSteps w δ sv h := fun F' => by
    obtain ⟨ps, hT⟩ := T0.at_
    exact steps_kt hst hT (fp_kt F')
  have G : Gd w mg mb s.heap := G0.kt (fp_kt F)
  -- halves = ..
  refine wpAny_execs_cons (wpAny_Assign_Name (eval_halves (k := k) G R T.tab (gname G rfl rfl rfl rfl) (fun s₁ k₁ => (Ev.name rfl ((F.rd rpart).keeps (keeps_heap k₁))).mono fun _ _ _ e => ⟨t3, e⟩)
    (fun s₁ k₁ => Ev.stepsAt rfl ((F.rd rsteps).keeps (keeps_heap k₁)) ((F.rd rsign).keeps (keeps_heap k₁)) (stb_steps _ _ _ (keeps_heap k₁) (stK F)) hsg)
    (fun s₁ k₁ => (Ev.name rfl ((F.rd rgoal).keeps (keeps_heap k₁))).mono fun _ _ _ e => ⟨t2, e⟩) hp (fun c hc => lt128 _ (hg c hc)) (by omega) (by omega) fun v h₁ tk₁ _ _ kf₁ hv ⟨b, eb, nb⟩ => ?_))
  have k₁ : Kp s.heap h₁ := kf₁ c' T
  have F₁ : FP hb0 n ρ h₁ := F.kept k₁
  have tk₁' : Tk true s.heap h₁ := k₁.tk
  have l₁ := k₁ _ _ hl
  have af₁ := k₁ _ _ haf
  have a₁ : Acc w x d ws h₁ := a.kept k₁
  refine F₁.store (.inl rfl) fun h₂ tk₂ F₂ kf₂ => ?_
  have sq₂ := F₁.sq kf₂
  have l₂ := sq₂ _ _ _ _ rfl l₁
  have af₂ := sq₂ _ _ _ _ rfl af₁
  have a₂ := a₁.kf F₁ kf₂ dl (by rw [fc138]; simpa using dc)
  have hv₂ : IsL IsTx (halves (δ sg) part goal) v h₂ := stq_L (fun _ => stq_S) _ _ _ sq₂ hv
  obtain ⟨b', hvs, hm, eb', hvo, Lh⟩ := id hv₂
  have ebb : v = .ref b' := eb'
  have bb : b' = b := by rw [eb] at eb'; cases eb'; rfl
  have bl : b' ≠ l := fun q => by rw [← bb, q, hl] at nb; cases nb
  have ba : b' ≠ af := fun q => by rw [← bb, q, haf] at nb; cases nb
  have hlen2 := Lh.length
  have hh2 : (halves (δ sg) part goal).length ≤ 2 := halves_len
  have lena := La.length
  have rH : upd ρ "halves" v "halves" = some v := by simp [upd]
  -- after.extend(halves)
  refine wpAny_execs_cons (exec_extend (a := af) (us := hvs) (Ev.name rfl (F₂.rd ((upd_ne (by decide)).trans rafter))) (fun s₁ k₁ => (Ev.name rfl ((F₂.rd rH).keeps (keeps_heap k₁))).mono fun u h' k' e => ⟨b', hm, (show u = v from e).trans ebb, k' _ _ (keeps_heap k₁ _ _ hvo)⟩) af₂ (by omega) fun h₃ h₄ tk₄ am' k₃ s₄ af₄ => ?_)
  have af₃ := k₃ _ _ af₂
  have kw₄ : KpW [af] h₃ h₄ := sameBut_kw s₄ (by simp)
  have F₄ : FP hb0 n _ h₄ := fp_push (F₂.kept k₃) af₃ rfl hna kw₄
  have tk₄' : Tk true h₃ h₄ := kw1_tk kw₄ af₃ (by simp)
  have l₄ := kw₄ _ _ (by simpa using la) (k₃ _ _ l₂)
  have a₄ : Acc w x d ws h₄ := (a₂.kept k₃).kw kw₄ (by simpa using xa) (by simpa using da)
  have hvo₄ := kw₄ _ _ (by simpa using ba) (k₃ _ _ hvo)
  have hv₄ : IsL IsTx (halves (δ sg) part goal) v h₄ := ⟨b', hvs, hm, ebb, hvo₄, Lh.mono fun _ _ q => q⟩
  have tkA : Tk true s.heap h₄ := tk₁'.trans (sq₂.tk.trans (k₃.tk.trans tk₄'))
  have G₄ : Gd w mg mb h₄ := G0.kt (fp_kt F₄)
  have kwA : KpW [n, n + 1, x, l, af] s.heap h₄ := fun c o hc e => by
    simp only [List.mem_cons, List.not_mem_nil, or_false, not_or] at hc
    exact kw₄ _ _ (by simpa using hc.2.2.2.2) (k₃ _ _ (kf₂ _ _ hc.1 (by rw [fc138]; simpa using hc.2.1) (k₁ _ _ e)))
  have La₄ : All2 (fun y v => IsTx y v h₄) (acc.1 ++ halves (δ sg) part goal) (avs ++ hvs) := (La.mono fun _ _ q => q).append (Lh.mono fun _ _ q => q)
  -- if len(halves) == 2
  refine wpAny_execs_cons (wpAny_If (Ev.use (P := fun c _ => c = decide (((halves (δ sg) part goal).length : Int) = 2)) (Ev.cmpT (P1 := IsI (halves (δ sg) part goal).length) (P2 := IsI 2)
    (Ev.bcall1 (id := "len") (P := fun u _ => u = v) (bname G₄ rfl rfl (by decide +kernel) (by decide) rfl rfl rfl) (fun s₁ k₁ => (Ev.name rfl ((F₄.rd rH).keeps (keeps_heap k₁))))
      fun u s₁ k₁ e => by
        have e : u = v := e
        rw [e, ebb]
        refine (Ev.lenL (keeps_heap k₁ _ _ hvo₄) (by omega)).mono fun _ _ _ q => ?_
        rw [hlen2]; exact q)
    (fun o s₁ k₁ _ => Ev.cint) (fun o i s₁ s₂ _ ⟨t1, e1⟩ _ ⟨t2, e2⟩ => by subst e1 e2; exact Ev.eqInt)) fun c h₅ tk₅ k₅ ec => ?_))
  have F₅ := F₄.kept k₅
  have kw5 : KpW [n, n + 1, x, l, af] s.heap h₅ := kwA.trans k₅.kw
  by_cases h2 : (halves (δ sg) part goal).length = 2
  · have ec' : c = true := by rw [ec]; simp [h2]
    rw [ec']
    simp only [if_true]
    have hne : halves (δ sg) part goal ≠ [] := fun q => by rw [q] at h2; simp at h2
    refine wpAny_execs_cons (for_both (k := k + 2) (hs := halves (δ sg) part goal) (hv := v) (gl := acc.2) (lt := .Name "x" default) G0 R rfl F₅ rH (stb_L (fun _ => stb_S) _ _ _ k₅ hv₄) hne (fun y hy => by have := halves_mem hy; omega) (by rw [ebb]; intro q; cases q; exact bl rfl)
      ((upd_ne (by decide)).trans rW) ((upd_ne (by decide)).trans rL) (k₅ _ _ l₄) (a₄.kept k₅) hx hnl dl dc (allG_tk (tkA.trans k₅.tk) Ll) (allG_tk (tkA.trans k₅.tk) Lw) hll fun ρ' ws' lvs' lm' h₆ tk₆ F₆ ag a₆ l₆ r1 r2 kw₆ => ?_)
    refine wpAny_execs_nil (wpAny_execs_nil ?_)
    have e2 : (turn (δ sg) goal acc part).2 = acc.2 ++ both (lesser (halves (δ sg) part goal)) := by unfold turn; rw [if_pos h2]
    have af₅ := k₅ _ _ af₄
    have nxl : af ∉ [n, n + 1, x, l] := by
      obtain ⟨q1, q2⟩ := F₅.seq_ne af₅ rfl
      rw [fc138] at q2
      have q1 : af ≠ n := q1
      simp only [List.mem_cons, List.not_mem_nil, or_false, not_or]
      exact ⟨q1, by simpa using q2, Ne.symm xa, Ne.symm la⟩
    refine hQ ρ' ws' lvs' (avs ++ hvs) lm' am' h₆ tk₆ F₆ ?_ a₆ l₆ (kw₆ _ _ nxl af₅) (La₄.mono fun _ _ q => q) (by rw [e2]; exact r1) (by rw [e2]; exact r2) (kw5.trans fun c o hc e => kw₆ c o (fun q => hc ?_) e)
    · exact (Agr.upd (Agr.refl (ρ := ρ)) (by simp)).trans ag (by simp)
    · simp only [List.mem_cons, List.not_mem_nil, or_false] at q ⊢
      rcases q with q | q | q | q <;> simp [q]
  · have ec' : c = false := by rw [ec]; simpa using fun q : ((halves (δ sg) part goal).length : Int) = 2 => h2 (by omega)
    rw [ec']
    simp only [Bool.false_eq_true, if_false]
    refine wpAny_execs_nil (wpAny_execs_nil ?_)
    have e2 : (turn (δ sg) goal acc part).2 = acc.2 := by unfold turn; rw [if_neg h2]
    exact hQ _ ws lvs (avs ++ hvs) lm am' h₅ tk₅ F₅ (Agr.refl.upd (by simp)) (a₄.kept k₅) (k₅ _ _ l₄) (k₅ _ _ af₄) (La₄.mono fun _ _ q => q) (by rw [e2]; exact allG_tk (tkA.trans k₅.tk) Lw) (by rw [e2]; exact allG_tk (tkA.trans k₅.tk) Ll) kw5
end
end Mine

end

-- ======== Par5 ========
section
open PySem PySem.W PyProof.Rows
set_option maxRecDepth 100000
set_option maxHeartbeats 1000000
namespace Mine

theorem turn_len {δ : Nat → Nat} {goal part : List Nat} {acc : List (List Nat) × List (Nat × List Nat)} : (turn δ goal acc part).1.length ≤ acc.1.length + 2 ∧ (turn δ goal acc part).2.length ≤ acc.2.length + 2 := by
  have h := halves_len (δ := δ) (part := part) (goal := goal)
  unfold turn
  refine ⟨by rw [List.length_append]; omega, ?_⟩
  dsimp only
  split
  · rw [List.length_append]; exact Nat.le_refl _
  · omega
theorem turns_len {δ : Nat → Nat} {goal : List Nat} : ∀ (parts : List (List Nat)) (acc : List (List Nat) × List (Nat × List Nat)), (parts.foldl (turn δ goal) acc).1.length ≤ acc.1.length + 2 * parts.length ∧ (parts.foldl (turn δ goal) acc).2.length ≤ acc.2.length + 2 * parts.length
  | [], acc => by simp
  | p :: r, acc => by
    have h1 := turn_len (δ := δ) (goal := goal) (part := p) (acc := acc)
    have h2 := turns_len (δ := δ) (goal := goal) r (turn δ goal acc p)
    rw [List.foldl_cons, List.length_cons]
    omega

section
variable {w : World} {A : Around} {E : Value → Shared → Prop} {s : Shared} {mg mb : Str → Option Value} {k : Nat} {hb0 : Heap} {n x d l af p : Addr} {ρ : Str → Option Value}

theorem for_parts {δ : Nat → Nat → Nat} {sg : Nat} {goal : List Nat} {parts : List (List Nat)} {acc : List (List Nat) × List (Nat × List Nat)} {t1 t2 : Tok} {sv : Value} {pvs avs ws lvs : List Value} {pm am lm : Nat} {pos p1 p2 : Pos} {Q : Flow → Shared → Prop}
    (G0 : Gd w mg mb hb0) (R : Rm A (k + 3)) {c' : Addr} (T : Full lamQual lamPos c' s.heap) (T0 : Tab lamQual lamPos hb0)
    (F : FP hb0 n ρ s.heap) (rsteps : ρ "steps" = some sv) (hst : IsSteps w δ sv hb0) (rsign : ρ "sign" = some (.str (tx [sg]) t1)) (hsg : sg ∈ S2) (rgoal : ρ "goal" = some (.str (tx goal) t2))
    (rparts : ρ "parts" = some (.ref p)) (hpo : s.heap.get? p = some (lobj pvs pm)) (Lp : All2 (fun y v => IsTx y v s.heap) parts pvs)
    (rafter : ρ "after" = some (.ref af)) (haf : s.heap.get? af = some (lobj avs am)) (La : All2 (fun y v => IsTx y v s.heap) acc.1 avs)
    (rW : ρ "waiting" = some (.ref x)) (rL : ρ "laid" = some (.ref l)) (hl : s.heap.get? l = some (lobj lvs lm)) (a : Acc w x d ws s.heap)
    (hx : nm hb0 x) (hnl : nm hb0 l) (hna : nm hb0 af) (dl : d ≠ n) (dc : d ≠ n + 1) (la : l ≠ af) (pl : p ≠ l) (pa : p ≠ af)
    (Ll : All2 (fun g v => IsG g v s.heap) acc.2 lvs) (Lw : All2 (fun g v => IsG g v s.heap) acc.2 ws)
    (hp : ∀ q ∈ parts, q.length ≤ 6 ∧ ∀ c ∈ q, c ∈ L6) (hg : ∀ c ∈ goal, c ∈ L6) (hgl : goal.length ≤ 6) (hpn : parts.length ≤ 6) (hal : acc.1.length ≤ 100) (hll : acc.2.length ≤ 100)
    (hQ : ∀ ρ' ws' lvs' avs' lm' am' h' tk, FP hb0 n ρ' h' → Agr ["part", "halves", "other"] ρ ρ' → Acc w x d ws' h' → h'.get? l = some (lobj lvs' lm') → h'.get? af = some (lobj avs' am') → All2 (fun y v => IsTx y v h') (parts.foldl (turn (δ sg) goal) acc).1 avs' →
      All2 (fun g v => IsG g v h') (parts.foldl (turn (δ sg) goal) acc).2 ws' → All2 (fun g v => IsG g v h') (parts.foldl (turn (δ sg) goal) acc).2 lvs' →
      KpW [n, n + 1, x, l, af] s.heap h' → Q .next { s with heap := h', toks := tk }) :
    wpAny (model PG w) A (exec (.For (.Name "part" p1) (.Name "parts" p2) pBody [] pos) (envAt 138 n)) Q E s := by
  obtain ⟨ox, oxs, om, ex, cx, dx⟩ := acc_cls a
  have px : p ≠ x := fun q => by rw [← q, hpo] at ex; cases ex; cases cx
  have pn := F.seq_ne hpo rfl
  have Lplen := Lp.length
  have pW : p ∉ [n, n + 1, x, l, af] := by
    have q1 : p ≠ n := pn.1
    have q2 := pn.2
    rw [fc138] at q2
    simp only [List.mem_cons, List.not_mem_nil, or_false, not_or] at q2 ⊢
    exact ⟨q1, q2, px, pl, pa⟩
  refine For_it (W := [n, n + 1, x, l, af]) (xs := pvs) (P := fun v u _ => u = v) (so := [p])
    (J := fun i h => ∃ ρ' ws' lvs' avs' lm' am', FP hb0 n ρ' h ∧ Agr ["part", "halves", "other"] ρ ρ' ∧ Acc w x d ws' h ∧ h.get? l = some (lobj lvs' lm') ∧ h.get? af = some (lobj avs' am') ∧ All2 (fun y v => IsTx y v h) ((parts.take i).foldl (turn (δ sg) goal) acc).1 avs' ∧
      All2 (fun g v => IsG g v h) ((parts.take i).foldl (turn (δ sg) goal) acc).2 ws' ∧ All2 (fun g v => IsG g v h) ((parts.take i).foldl (turn (δ sg) goal) acc).2 lvs' ∧ KpW [n, n + 1, x, l, af] s.heap h)
    (SrcF.list R.hh ((Ev.name rfl (F.rd rparts)).mono fun v h' k e => ⟨p, pm, e, k _ _ hpo, .inl (by simp)⟩)) ?_ ?_ ?_ ⟨ρ, ws, lvs, avs, lm, am, F, .refl, a, hl, haf, La, Lw, Ll, .refl⟩ ?_ ?_
  · intro b hb q
    rw [List.mem_singleton.mp q] at hb
    exact pW hb
  · intro b hb
    simp only [List.mem_cons, List.not_mem_nil, or_false] at hb
    rcases hb with q | q | q | q | q
    · rw [q]; exact F.loc_ne
    · rw [q]
      obtain ⟨v, o, e, _⟩ := F.cells (n + 1) (by rw [fc138]; simp)
      rw [e]; simp
    · rw [q, ex]; simp
    · rw [q, hl]; simp
    · rw [q, haf]; simp
  · rintro i h h' ⟨ρ', ws', lvs', avs', lm', am', F', ag, a', l', af', r1, r2, r3, kw⟩ sq kk
    refine ⟨ρ', ws', lvs', avs', lm', am', F'.stay F kk (fun y c ec => ?_), ag, ?_, sq _ _ _ _ rfl l', sq _ _ _ _ rfl af', r1.mono fun _ _ q => q, allG_tk sq.tk r2, allG_tk sq.tk r3, fun b o hb e => kk b o (by rw [e]; simp) (kw b o hb e)⟩
    · obtain ⟨v, o, e, _⟩ := F.cells c (hcl138 y c ec)
      rw [e]; simp
    · obtain ⟨⟨m, e⟩, tkd, vd, e'⟩ := a'
      refine ⟨⟨m, sq _ _ _ _ rfl e⟩, tkd, vd, kk _ _ ?_ e'⟩
      obtain ⟨_, _, _, e0⟩ := a
      rw [e0]; simp
  · rintro i v u h tk ev eu ⟨ρ', ws', lvs', avs', lm', am', F', ag, a', l', af', r1, r2, r3, kw⟩
    subst eu
    obtain ⟨q, eq, t3, et⟩ := Lp.get' ev
    subst et
    have hqm : q ∈ parts := List.mem_of_getElem? eq
    have hi : i < parts.length := (List.getElem?_eq_some_iff.mp eq).1
    refine wpAny_assign_Name (F'.store (.inl rfl) fun h₁ tk₁ F₁ kf₁ => ?_)
    have sq₁ := F'.sq kf₁
    have tl := turns_len (δ := δ sg) (goal := goal) (parts.take i) acc
    have tl2 : (parts.take i).length ≤ 6 := by rw [List.length_take]; omega
    have rd : ∀ (y : Str) (v : Value), y ≠ "part" → y ≠ "halves" → y ≠ "other" → ρ y = some v → upd ρ' "part" (.str (tx q) t3) y = some v := fun y v h1 h2 h3 e => (upd_ne h1).trans ((ag y (by simp [h1, h2, h3])).trans e)
    refine wpAny_mono (Q := fun fl s₃ => fl = .next ∧ ∃ h' tk', s₃ = { s with heap := h', toks := tk' } ∧ (∃ ρ' ws' lvs' avs' lm' am', FP hb0 n ρ' h' ∧ Agr ["part", "halves", "other"] ρ ρ' ∧ Acc w x d ws' h' ∧ h'.get? l = some (lobj lvs' lm') ∧ h'.get? af = some (lobj avs' am') ∧ All2 (fun y v => IsTx y v h') ((parts.take (i + 1)).foldl (turn (δ sg) goal) acc).1 avs' ∧
      All2 (fun g v => IsG g v h') ((parts.take (i + 1)).foldl (turn (δ sg) goal) acc).2 ws' ∧ All2 (fun g v => IsG g v h') ((parts.take (i + 1)).foldl (turn (δ sg) goal) acc).2 lvs' ∧ KpW [n, n + 1, x, l, af] s.heap h') ∧ KpW [n, n + 1, x, l, af] h h') (E := fun _ _ => False) ?_ (fun fl s₃ ⟨e, h', tk', e', j, kw'⟩ => by subst e; exact ⟨h', tk', e', j, kw'⟩) fun _ _ z => z
    refine part_turn (k := k) (acc := (parts.take i).foldl (turn (δ sg) goal) acc) (part := q) (t3 := t3) G0 R (F'.full kf₁ (full_kw5 T F a hl haf kw)) T0 F₁ (rd _ _ (by decide) (by decide) (by decide) rsteps) hst (rd _ _ (by decide) (by decide) (by decide) rsign) hsg (rd _ _ (by decide) (by decide) (by decide) rgoal) (by simp [upd]) (rd _ _ (by decide) (by decide) (by decide) rafter) (sq₁ _ _ _ _ rfl af') (r1.mono fun _ _ z => z)
      (rd _ _ (by decide) (by decide) (by decide) rW) (rd _ _ (by decide) (by decide) (by decide) rL) (sq₁ _ _ _ _ rfl l') (a'.kf F' kf₁ dl (by rw [fc138]; simpa using dc)) hx hnl hna dl dc la (allG_tk sq₁.tk r3) (allG_tk sq₁.tk r2) (hp q hqm).2 (hp q hqm).1 hg hgl (by omega) (by omega) ?_
    intro ρ'' ws'' lvs'' avs'' lm'' am'' h₂ tk₂ F₂ ag₂ a₂ l₂ af₂ r1' r2' r3' kw₂
    have kwF : KpW [n, n + 1, x, l, af] h h₁ := kf₁.kw (by exact List.mem_cons_self ..) (by intro c hc; rw [fc138] at hc; rw [List.mem_singleton.mp hc]; simp)
    have ef : (parts.take (i + 1)).foldl (turn (δ sg) goal) acc = turn (δ sg) goal ((parts.take i).foldl (turn (δ sg) goal) acc) q := by rw [List.take_add_one, eq, List.foldl_append]; rfl
    rw [← ef] at r1' r2' r3'
    exact ⟨rfl, h₂, tk₂, rfl, ⟨ρ'', ws'', lvs'', avs'', lm'', am'', F₂, (ag.upd (by simp)).trans ag₂ (by simp), a₂, l₂, af₂, r1', r2', r3', (kw.trans kwF).trans kw₂⟩, kwF.trans kw₂⟩
  · rintro h tk ⟨ρ', ws', lvs', avs', lm', am', F', ag, a', l', af', r1, r2, r3, kw⟩
    rw [← Lplen, List.take_length] at r1 r2 r3
    exact hQ ρ' ws' lvs' avs' lm' am' h tk F' ag a' l' af' r1 r2 r3 kw
end
end Mine

end

-- ======== Par6 ========
section
open PySem PySem.W PyProof.Rows
set_option maxRecDepth 100000
set_option maxHeartbeats 1000000
namespace Mine

def gd (g : Nat × List Nat) : PyData := .tuple [.str (tx [g.1]), .str (tx g.2)]
theorem reads_goals {h : Heap} {gs : List (Nat × List Nat)} {vs : List Value} (r : All2 (fun g v => IsG g v h) gs vs) : ∃ as, ReadsAll h vs (gs.map gd) as := by
  induction r with
  | nil => exact ⟨_, .nil⟩
  | cons p _ ih =>
    obtain ⟨a, n, u1, u2, e, ho, ⟨t1, e1⟩, t2, e2⟩ := p
    obtain ⟨as, q⟩ := ih
    subst e e1 e2
    exact ⟨_, .cons (.tuple ho rfl rfl (.cons (.str _ _) (.cons (.str _ _) .nil))) q⟩
theorem canLay_goals : ∀ {gs : List (Nat × List Nat)}, (∀ g ∈ gs, g.1 < 128 ∧ ∀ c ∈ g.2, c < 128) → PyData.canLayAll0 (gs.map gd) = true
  | [], _ => rfl
  | g :: r, h => by
    show ((PyData.canLay0 (.str (tx [g.1])) && (PyData.canLay0 (.str (tx g.2)) && true)) && PyData.canLayAll0 (r.map gd)) = true
    have hg := h g (by simp)
    rw [canLay_tx (by simpa using hg.1), canLay_tx hg.2, canLay_goals fun g' hg' => h g' (by simp [hg'])]; rfl
theorem depth_goals : ∀ gs : List (Nat × List Nat), PyData.depthAll (gs.map gd) ≤ 1
  | [] => by show (0 : Nat) ≤ 1; omega
  | g :: r => by
    show max (max 0 (max 0 0) + 1) (PyData.depthAll (r.map gd)) ≤ 1
    have := depth_goals r
    omega

section
variable {w : World} {A : Around} {E : Value → Shared → Prop} {s : Shared} {env : Env} {k : Nat}
theorem Ev.neGoals {a b : Addr} {vs us : List Value} {n m : Nat} {gs : List (Nat × List Nat)} (R : Rm A k) (e1 : s.heap.get? a = some (lobj vs n)) (e2 : s.heap.get? b = some (lobj us m)) (r1 : All2 (fun g v => IsG g v s.heap) gs vs) (r2 : All2 (fun g v => IsG g v s.heap) gs us)
    (hg : ∀ g ∈ gs, g.1 < 128 ∧ ∀ c ∈ g.2, c < 128) : Ev (model PG w) A (compareOp .NotEq (.ref a) (.ref b)) (IsB false) s := fun _ => by
  obtain ⟨as, q1⟩ := reads_goals r1
  obtain ⟨bs, q2⟩ := reads_goals r2
  have cl : PyData.canLay0 (.list (gs.map gd)) = true := canLay_goals hg
  refine PySem.SeqAt.compareNe_reads (.list e1 rfl rfl q1) (.list e2 rfl rfl q2) cl cl ?_ ⟨keeps_refl, ?_⟩
  · have e : PyData.depth (.list (gs.map gd)) ≤ 64 := by
      show PyData.depthAll (gs.map gd) + 1 ≤ 64
      have := depth_goals gs
      omega
    have := R.un
    omega
  · show Value.bool _ = _
    rw [PySem.SeqAt.eqv_refl _ cl]; rfl

/-- (e1, e2), the second told by the first -/
theorem Ev.tuple2d {e1 e2 : Expr} {kk : Nat} {pos : Pos} {P1 : VP} {P2 : Value → VP} (h1 : Ev (model PG w) A (eval e1 env) P1 s) (h2 : ∀ v s₁, Keeps s s₁ → P1 v s₁.heap → Ev (model PG w) A (eval e2 env) (P2 v) s₁) (hP1 : Stb P1) (hP2 : ∀ v, Stb (P2 v))
    (he : starEach [e1, e2] env = [(false, eval e1 env), (false, eval e2 env)] := by rfl) :
    Ev (model PG w) A (eval (.Tuple [e1, e2] kk pos) env) (fun v h => ∃ a v1 v2, v = .ref a ∧ s.heap.get? a = none ∧ h.get? a = some (tobj [v1, v2] 0) ∧ P1 v1 h ∧ P2 v1 v2 h) s := fun E => by
  refine wpAny_Tuple ?_
  rw [he]
  show wpAny _ A (spliced [(false, eval e1 env), (false, eval e2 env)]) _ E s
  refine Calls.spliced_cons (h1.use' fun v1 s₁ k₁ p₁ => Calls.spliced_cons ((h2 v1 s₁ k₁ p₁).use' fun v2 s₂ k₂ p₂ => Calls.spliced_nil ?_))
  refine ⟨by show 2 ≤ sizeLine; decide, keeps_trans (keeps_trans k₁ k₂) keeps_push, _, v1, v2, rfl, none_of (keeps_heap (keeps_trans k₁ k₂)) (Heap.get?_none_of_le (Nat.le_refl _)), Heap.get?_push_size _ rfl, ?_, ?_⟩
  · exact hP1 _ _ _ (fun b o e => kp_push _ _ (keeps_heap k₂ _ _ e)) p₁
  · exact hP2 _ _ _ _ kp_push p₂
end

theorem fmod_nat (a b : Nat) : (a : Int).fmod (b : Int) = ((a % b : Nat) : Int) := by
  rw [Int.fmod_eq_emod_of_nonneg _ (by omega)]; rfl
theorem fmod_lt (a : Int) {b : Nat} (h : 0 < b) : ∃ i : Nat, i < b ∧ a.fmod (b : Int) = (i : Int) := by
  have h1 := Int.fmod_nonneg_of_pos a (show (0 : Int) < b by omega)
  have h2 := Int.fmod_lt_of_pos a (show (0 : Int) < b by omega)
  exact ⟨(a.fmod b).toNat, by omega, by omega⟩

theorem none_kp {h h' : Heap} {a : Addr} (k : Kp h h') (e : h'.get? a = none) : h.get? a = none := by
  cases q : h.get? a with
  | none => rfl
  | some o => rw [k a o q] at e; cases e
theorem fp_tk {w : World} {hb0 : Heap} {n x d : Addr} {ρ : Str → Option Value} {vs : List Value} {h h' : Heap} (F : FP hb0 n ρ h) (a : Acc w x d vs h) (k : KpW [n, n + 1, x] h h') : Tk true h h' := by
  intro _ b o xs m hc hd e
  obtain ⟨q1, q2⟩ := F.seq_ne e hd
  rw [fc138] at q2
  refine k b o (fun hb => ?_) e
  simp only [List.mem_cons, List.not_mem_nil, or_false] at hb q2
  rcases hb with q | q | q
  · exact q1 q
  · exact q2 q
  · obtain ⟨⟨m', e'⟩, _⟩ := a
    rw [q, e'] at e; cases e; cases hc
/-- what stands between the turns of the while -/
structure Cur (w : World) (hb0 : Heap) (n x d : Addr) (sv : Value) (pk : Addr) (st : St) (c' l g p : Addr) (ws lvs gvs pvs : List Value) (lm gm pm : Nat) (ρ : Str → Option Value) (h : Heap) : Prop where
  F : FP hb0 n ρ h
  T : Full lamQual lamPos c' h
  rS : ρ "steps" = some sv
  rK : ρ "picks" = some (.ref pk)
  rW : ρ "waiting" = some (.ref x)
  rL : ρ "laid" = some (.ref l)
  rG : ρ "gone" = some (.ref g)
  rP : ρ "parts" = some (.ref p)
  a : Acc w x d ws h
  hl : h.get? l = some (lobj lvs lm)
  hg : h.get? g = some (lobj gvs gm)
  hp : h.get? p = some (lobj pvs pm)
  Lw : All2 (fun g v => IsG g v h) st.laid ws
  Ll : All2 (fun g v => IsG g v h) st.laid lvs
  Lg : All2 (fun g v => IsG g v h) st.gone gvs
  Lp : All2 (fun y v => IsTx y v h) st.parts pvs
  hx : nm hb0 x
  nl : nm hb0 l
  ng : nm hb0 g
  lg : l ≠ g
  lp : l ≠ p
  gp : g ≠ p
  dl : d ≠ n
  dc : d ≠ n + 1
def Curs (w : World) (hb0 : Heap) (n x d : Addr) (sv : Value) (pk : Addr) (st : St) (h : Heap) : Prop := ∃ c' l g p ws lvs gvs pvs lm gm pm ρ, Cur w hb0 n x d sv pk st c' l g p ws lvs gvs pvs lm gm pm ρ h
theorem Cur.kept {w : World} {hb0 : Heap} {n x d : Addr} {sv : Value} {pk : Addr} {st : St} {c' l g p : Addr} {ws lvs gvs pvs : List Value} {lm gm pm : Nat} {ρ : Str → Option Value} {h h' : Heap} (c : Cur w hb0 n x d sv pk st c' l g p ws lvs gvs pvs lm gm pm ρ h) (k : Kp h h') :
    Cur w hb0 n x d sv pk st c' l g p ws lvs gvs pvs lm gm pm ρ h' :=
  ⟨c.F.kept k, c.T.kp k, c.rS, c.rK, c.rW, c.rL, c.rG, c.rP, c.a.kept k, k _ _ c.hl, k _ _ c.hg, k _ _ c.hp, allG_tk k.tk c.Lw, allG_tk k.tk c.Ll, allG_tk k.tk c.Lg, c.Lp.mono fun _ _ q => q, c.hx, c.nl, c.ng, c.lg, c.lp, c.gp, c.dl, c.dc⟩

section
variable {w : World} {A : Around} {E : Value → Shared → Prop} {s : Shared} {mg mb : Str → Option Value} {k : Nat} {hb0 : Heap} {n x d : Addr}

theorem while_turn {δ : Nat → Nat → Nat} {st : St} {sv : Value} {pk : Addr} {kvs : List Value} {km : Nat} {picks : List Int} {Q : Flow → Shared → Prop}
    (G0 : Gd w mg mb hb0) (R : Rm A (k + 3)) (T0 : Tab lamQual lamPos hb0) (hst : IsSteps w δ sv hb0) (hpk : hb0.get? pk = some (lobj kvs km)) (Lk : All2 (fun i v => IsI i v hb0) picks kvs) (hkn : picks ≠ []) (hkl : picks.length ≤ 100)
    (C : Curs w hb0 n x d sv pk st s.heap) (O : Ok st) (hpos : 0 < st.laid.length)
    (hQ : ∀ i h' tk, i < st.laid.length → Curs w hb0 n x d sv pk (next δ st i) h' → Q .next { s with heap := h', toks := tk }) :
    wpAny (model PG w) A (execs wBody (envAt 138 n)) Q E s := by
  obtain ⟨c', l, g, p, ws, lvs, gvs, pvs, lm, gm, pm, ρ, C⟩ := C
  have lt128 : ∀ c ∈ L6, c < 128 := by decide
  have lt2 : ∀ c ∈ S2, c < 128 := by decide
  have pk123 : pk ≠ 123 := ne123 T0 hpk (by simp)
  have pkS : ∀ {h : Heap} {ρ}, FP hb0 n ρ h → h.get? pk = some (lobj kvs km) := fun F' => fp_kt F' _ _ pk123 hpk
  have gS : ∀ {h : Heap} {ρ}, FP hb0 n ρ h → Gd w mg mb h := fun F' => G0.kt (fp_kt F')
  have lenG := C.Lg.length
  have lenK := Lk.length
  have lenW := C.Lw.length
  have lenL := C.Ll.length
  have nG := O.ng
  have nL := O.nl
  have hkpos : 0 < picks.length := List.length_pos_iff.mpr hkn
  have hj : st.gone.length % picks.length < picks.length := Nat.mod_lt _ hkpos
  obtain ⟨pick, hpick⟩ : ∃ a, picks[st.gone.length % picks.length]? = some a := ⟨_, List.getElem?_eq_getElem hj⟩
  obtain ⟨pv, hpv, tpv, epv⟩ := Lk.get hpick
  obtain ⟨i, hi, ei⟩ := fmod_lt pick hpos
  obtain ⟨gi, egi⟩ : ∃ a, st.laid[i]? = some a := ⟨_, List.getElem?_eq_getElem hi⟩
  have hgi : gi ∈ st.laid := List.mem_of_getElem? egi
  -- place = ..
  have lenN : ∀ s₁ pos, Keeps s s₁ → Ev (model PG w) A (eval (.Name "len" pos) (envAt 138 n)) (IsV (.builtin "len")) s₁ := fun s₁ pos k₁ => bname ((gS C.F).kp (keeps_heap k₁)) rfl rfl (by decide +kernel) (by decide) rfl rfl rfl
  refine wpAny_execs_cons (wpAny_Assign_Name (Ev.use (P := IsI i) (Ev.mono (Ev.binop (P1 := IsI pick) (P2 := IsI ws.length) (R := IsI i)
    (Ev.sub (P1 := IsV (.ref pk)) (P2 := IsI ((st.gone.length % picks.length : Nat) : Int)) (Ev.name rfl (C.F.rd C.rK)) (fun o s₁ k₁ _ => Ev.binop (P1 := IsI st.gone.length) (P2 := IsI picks.length)
        (Ev.bcall1 (id := "len") (P := IsV (.ref g)) (lenN _ _ k₁) (fun s₂ k₂ => Ev.name rfl ((C.F.rd C.rG).keeps (keeps_heap (keeps_trans k₁ k₂)))) fun v s₂ k₂ e => by
          have e : v = .ref g := e
          subst e
          rw [lenG]; exact Ev.lenL (keeps_heap (keeps_trans k₁ k₂) _ _ C.hg) (by omega))
        (fun o s₂ k₂ _ => Ev.bcall1 (id := "len") (P := IsV (.ref pk)) (lenN _ _ (keeps_trans k₁ k₂)) (fun s₃ k₃ => Ev.name rfl ((C.F.rd C.rK).keeps (keeps_heap (keeps_trans (keeps_trans k₁ k₂) k₃)))) fun v s₃ k₃ e => by
          have e : v = .ref pk := e
          subst e
          rw [lenK]; exact Ev.lenL (keeps_heap (keeps_trans (keeps_trans k₁ k₂) k₃) _ _ (pkS C.F)) (by omega))
        fun o i s₂ s₃ k₂ ⟨t1, e1⟩ k₃ ⟨t2, e2⟩ => by
          subst e1 e2
          exact (Ev.modInt (by omega)).mono fun _ _ _ q => by rw [fmod_nat] at q; exact q)
      fun o i s₁ s₂ k₁ e1 k₂ ⟨t2, e2⟩ => by
        have e1 : o = .ref pk := e1
        subst e1 e2
        refine (Ev.subList0 (u := pv) (keeps_heap (keeps_trans k₁ k₂) _ _ (pkS C.F)) (by omega) (by omega) (by rw [Int.toNat_natCast]; exact hpv)).mono fun v _ _ e => ?_
        exact ⟨tpv, (show v = pv from e).trans epv⟩)
    (fun o s₁ k₁ _ => Ev.count ((gS C.F).kp (keeps_heap k₁)) R (C.a.kept (keeps_heap k₁)) (Ev.name rfl ((C.F.rd C.rW).keeps (keeps_heap k₁))))
    fun o j s₁ s₂ k₁ ⟨t1, e1⟩ k₂ ⟨t2, e2⟩ => by
      subst e1 e2
      refine (Ev.modInt (by rw [← lenW]; omega)).mono fun _ _ _ q => ?_
      rw [← lenW, ei] at q; exact q) fun _ _ _ q => q) fun v h₁ tk₁ k₁ ⟨ti, ev⟩ => ?_))
  subst ev
  have C₁ := C.kept k₁
  refine C₁.F.store (.inl rfl) fun h₂ tk₂ F₂ kf₂ => ?_
  have sq₂ := C₁.F.sq kf₂
  have a₂ := C₁.a.kf C₁.F kf₂ C.dl (by rw [fc138]; simpa using C.dc)
  have T₂ := C₁.F.full kf₂ C₁.T
  have rPl : ∀ {v : Value}, upd ρ "place" v "place" = some v := by simp [upd]
  -- taken = waiting.pop_from(place)
  refine wpAny_execs_cons (wpAny_Assign_Name (eval_pop (i := i) (gS F₂) R a₂ (by omega) (by omega) (Ev.name rfl (F₂.rd ((upd_ne (by decide)).trans C.rW))) (fun s₁ k₁ => (Ev.name rfl ((F₂.rd rPl).keeps (keeps_heap k₁))).mono fun _ _ _ e => ⟨ti, e⟩) fun P h₃ tk₃ a₃ hP nP kw₃ => ?_))
  obtain ⟨o2, xs2, m2, ex2, cx2, dx2⟩ := acc_cls a₂
  have F₃ : FP hb0 n _ h₃ := fp_push F₂ ex2 dx2 C.hx kw₃
  have tk23 : Tk true h₂ h₃ := kw1_tk kw₃ ex2 (by rw [cx2]; intro q; cases q)
  have T₃ := full_kw T₂ kw₃ fun b hb o e => acc_nf a₂ o (by rw [← List.mem_singleton.mp hb]; exact e)
  have nx : ∀ {b : Addr} {vs : List Value} {m : Nat}, h₂.get? b = some (lobj vs m) → b ∉ [x] := fun e q => by rw [List.mem_singleton.mp q, ex2] at e; cases e; cases cx2
  refine F₃.store (.inl rfl) fun h₄ tk₄ F₄ kf₄ => ?_
  have sq₄ := F₃.sq kf₄
  have a₄ := a₃.kf F₃ kf₄ C.dl (by rw [fc138]; simpa using C.dc)
  have T₄ := F₃.full kf₄ T₃
  have P₄ := sq₄ _ _ _ _ rfl hP
  have l₂ := sq₂ _ _ _ _ rfl C₁.hl
  have g₂ := sq₂ _ _ _ _ rfl C₁.hg
  have p₂ := sq₂ _ _ _ _ rfl C₁.hp
  have l₄ := sq₄ _ _ _ _ rfl (kw₃ _ _ (nx l₂) l₂)
  have g₄ := sq₄ _ _ _ _ rfl (kw₃ _ _ (nx g₂) g₂)
  have p₄ := sq₄ _ _ _ _ rfl (kw₃ _ _ (nx p₂) p₂)
  have tk14 : Tk true h₁ h₄ := sq₂.tk.trans (tk23.trans sq₄.tk)
  have Pl : P ≠ l := fun q => by rw [q, l₂] at nP; cases nP
  have Pg : P ≠ g := fun q => by rw [q, g₂] at nP; cases nP
  have Pp : P ≠ p := fun q => by rw [q, p₂] at nP; cases nP
  obtain ⟨ρ₄, hρ₄⟩ : ∃ ρ₄, ρ₄ = upd (upd ρ "place" (.int (i : Int) ti)) "taken" (.ref P) := ⟨_, rfl⟩
  rw [← hρ₄] at F₄
  have rd₄ : ∀ (y : Str) (v : Value), y ≠ "place" → y ≠ "taken" → ρ y = some v → ρ₄ y = some v := fun y v q1 q2 e => by rw [hρ₄]; exact (upd_ne q2).trans ((upd_ne q1).trans e)
  have rT₄ : ρ₄ "taken" = some (.ref P) := by rw [hρ₄]; simp [upd]
  have rPl₄ : ρ₄ "place" = some (.int (i : Int) ti) := by rw [hρ₄]; exact (upd_ne (by decide)).trans (by simp [upd])
  have Lw₄ : All2 (fun g v => IsG g v h₄) st.laid ws := allG_tk tk14 C₁.Lw
  have Ll₄ : All2 (fun g v => IsG g v h₄) st.laid lvs := allG_tk tk14 C₁.Ll
  have gl128 : ∀ g ∈ st.laid, g.1 < 128 ∧ ∀ c ∈ g.2, c < 128 := fun g hg => ⟨lt2 _ (O.gl g hg).1, fun c hc => lt128 _ ((O.gl g hg).2.2 c hc)⟩
  -- if taken != laid[place:]
  refine wpAny_execs_cons (wpAny_If (Ev.use (P := fun c _ => c = false) (Ev.cmpT (P1 := IsV (.ref P)) (P2 := fun v h => ∃ D, v = .ref D ∧ h.get? D = some (lobj (lvs.drop i) 0)) (Ev.name rfl (F₄.rd rT₄))
    (fun o s₁ k₁ _ => (Ev.sliceG (lo := some i) (hi := none) (Ev.name rfl ((F₄.rd (rd₄ _ _ (by decide) (by decide) C.rL)).keeps (keeps_heap k₁))) (fun s₂ k₂ => Ev.partInt ((Ev.name rfl ((F₄.rd rPl₄).keeps (keeps_heap (keeps_trans k₁ k₂)))).mono fun _ _ _ e => ⟨ti, e⟩)) (fun s₂ k₂ => Ev.partNone) (keeps_heap k₁ _ _ l₄) (by omega) (pick_from lvs i)).mono fun _ _ _ ⟨D, e, _, hD⟩ => ⟨D, e, hD⟩)
    (fun o j s₁ s₂ k₁ e1 k₂ ⟨D, e2, hD⟩ => by
      have e1 : o = .ref P := e1
      subst e1 e2
      have k := keeps_heap (keeps_trans k₁ k₂)
      exact Ev.neGoals R (k _ _ P₄) hD ((allG_tk k.tk Lw₄).drop i) ((allG_tk k.tk Ll₄).drop i) (fun g hg => gl128 g (List.mem_of_mem_drop hg)))) fun c h₅ tk₅ k₅ ec => ?_))
  subst ec
  simp only [Bool.false_eq_true, if_false]
  refine wpAny_execs_nil ?_
  have F₅ := F₄.kept k₅
  have P₅ := k₅ _ _ P₄
  have Lw₅ := allG_tk k₅.tk Lw₄
  have Ll₅ := allG_tk k₅.tk Ll₄
  -- for sign, goal in taken[1:]
  have dd : (ws.drop i).drop 1 = ws.drop (i + 1) := by rw [List.drop_drop]
  have sl1 : slicePick (ws.drop i).toArray (some (1 : Int)) none none = (ws.drop (i + 1)).toArray := by
    have := pick_from (ws.drop i) 1
    rw [dd] at this; exact this
  have lenD : (ws.drop i).length ≤ 1000 := by rw [List.length_drop]; omega
  refine wpAny_execs_cons (for_push (hm := rfl) (so := []) (gs := ws.drop (i + 1)) (ws := ws.take i) (goals := st.laid.drop (i + 1)) (wg := st.laid.take i) G0 R F₅ (rd₄ _ _ (by decide) (by decide) C.rW) (a₄.kept k₅) C.hx C.dl C.dc
    (SrcF.list R.hh ((Ev.sliceG (lo := some 1) (hi := none) (us := ws.drop (i + 1)) (Ev.name rfl (F₅.rd rT₄)) (fun s₂ k₂ => Ev.partInt Ev.cint) (fun s₂ k₂ => Ev.partNone) P₅ lenD sl1).mono fun _ _ _ ⟨D, e, nD, hD⟩ => ⟨D, 0, e, hD, .inr nD⟩))
    (fun b _ q => by cases q) (Lw₅.drop (i + 1)) (Lw₅.take i) (by rw [List.length_take, List.length_drop]; omega) (by intro _; rfl) fun ρ₆ ws₆ h₆ tk₆ F₆ ag₆ a₆ Lw₆ kw₆ => ?_)
  have l₅ := k₅ _ _ l₄
  have g₅ := k₅ _ _ g₄
  have p₅ := k₅ _ _ p₄
  obtain ⟨o5, xs5, m5, ex5, cx5, dx5⟩ := acc_cls (a₄.kept k₅)
  have nx5 : ∀ {b : Addr} {vs : List Value} {m : Nat}, h₅.get? b = some (lobj vs m) → b ∉ [n, n + 1, x] := fun {b vs m} e q => by
    obtain ⟨q1, q2⟩ := F₅.seq_ne e rfl
    rw [fc138] at q2
    simp only [List.mem_cons, List.not_mem_nil, or_false] at q q2
    rcases q with q | q | q
    · exact q1 q
    · exact q2 q
    · rw [q, ex5] at e; cases e; cases cx5
  have tk56 : Tk true h₅ h₆ := fp_tk F₅ (a₄.kept k₅) kw₆
  have l₆ := kw₆ _ _ (nx5 l₅) l₅
  have g₆ := kw₆ _ _ (nx5 g₅) g₅
  have p₆ := kw₆ _ _ (nx5 p₅) p₅
  have P₆ := kw₆ _ _ (nx5 P₅) P₅
  have T₆ := full_kw (T₄.kp k₅) kw₆ fun b hb o e => by
    simp only [List.mem_cons, List.not_mem_nil, or_false] at hb
    rcases hb with q | q | q
    · exact fp_nW' F₅ b (by simp [q]) o e
    · exact fp_nW' F₅ b (by simp [q]) o e
    · exact acc_nf (a₄.kept k₅) o (q ▸ e)
  have Ll₆ := allG_tk tk56 Ll₅
  have Lv₆ := allG_tk tk56 Lw₅
  have rd₆ : ∀ (y : Str) (v : Value), y ≠ "place" → y ≠ "taken" → y ≠ "sign" → y ≠ "goal" → ρ y = some v → ρ₆ y = some v := fun y v q1 q2 q3 q4 e => (ag₆ y (by simp [q3, q4])).trans (rd₄ y v q1 q2 e)
  have rT₆ : ρ₆ "taken" = some (.ref P) := (ag₆ _ (by decide)).trans rT₄
  have rPl₆ : ρ₆ "place" = some (.int (i : Int) ti) := (ag₆ _ (by decide)).trans rPl₄
  -- laid, after = (laid[:place] + taken[1:], [])
  refine wpAny_execs_cons (Assign_Tuple_swapped (names := ["laid", "after"]) ?_)
  refine (Ev.use (Ev.tuple2d (P1 := fun v h => ∃ D, v = .ref D ∧ h₆.get? D = none ∧ h.get? D = some (lobj (lvs.take i ++ ws.drop (i + 1)) 0)) (P2 := fun v1 v h => ∃ D, v = .ref D ∧ h₆.get? D = none ∧ v ≠ v1 ∧ h.get? D = some (lobj [] 0))
    (Ev.mono (Ev.binop (P1 := fun v h => ∃ D, v = .ref D ∧ h.get? D = some (lobj (lvs.take i) 0)) (P2 := fun v h => ∃ D, v = .ref D ∧ h.get? D = some (lobj (ws.drop (i + 1)) 0)) (R := fun v h => ∃ D, v = .ref D ∧ h₆.get? D = none ∧ h.get? D = some (lobj (lvs.take i ++ ws.drop (i + 1)) 0))
      ((Ev.sliceG (lo := none) (hi := some i) (us := lvs.take i) (Ev.name rfl (F₆.rd (rd₆ _ _ (by decide) (by decide) (by decide) (by decide) C.rL))) (fun s₂ k₂ => Ev.partNone) (fun s₂ k₂ => Ev.partInt ((Ev.name rfl ((F₆.rd rPl₆).keeps (keeps_heap k₂))).mono fun _ _ _ e => ⟨ti, e⟩)) l₆ (by omega) (pick_upto lvs i)).mono fun _ _ _ ⟨D, e, _, hD⟩ => ⟨D, e, hD⟩)
      (fun o s₁ k₁ _ => (Ev.sliceG (lo := some 1) (hi := none) (us := ws.drop (i + 1)) (Ev.name rfl ((F₆.rd rT₆).keeps (keeps_heap k₁))) (fun s₂ k₂ => Ev.partInt Ev.cint) (fun s₂ k₂ => Ev.partNone) (keeps_heap k₁ _ _ P₆) lenD sl1).mono fun _ _ _ ⟨D, e, _, hD⟩ => ⟨D, e, hD⟩)
      fun o j s₁ s₂ k₁ ⟨D1, e1, hD1⟩ k₂ ⟨D2, e2, hD2⟩ => by
        subst e1 e2
        refine (Ev.addL (keeps_heap k₂ _ _ hD1) hD2 (by rw [List.length_take, List.length_drop]; omega)).mono fun v h' _ ⟨D, e, nD, hD⟩ => ⟨D, e, ?_, hD⟩
        exact none_kp (keeps_heap (keeps_trans k₁ k₂)) nD) fun _ _ _ q => q)
    (fun v s₁ k₁ ⟨D, e, _, hD⟩ => Ev.nil.mono fun u h' _ ⟨D2, e2, nD2, hD2⟩ => ⟨D2, e2, none_kp (keeps_heap k₁) nD2, (fun q => by
      rw [e, e2] at q; cases q
      rw [hD] at nD2; cases nD2), hD2⟩) (fun _ _ _ k ⟨D, e, nD, hD⟩ => ⟨D, e, nD, k _ _ hD⟩) (fun _ _ _ _ k ⟨D, e, nD, ne, hD⟩ => ⟨D, e, nD, ne, k _ _ hD⟩)) fun v h₇ tk₇ k₇ hx₇ => ?_)
  obtain ⟨ta, v1, v2, e, _, eo, ⟨D, e1, nD, hD⟩, ⟨B, e2, nB, hne, hB⟩⟩ := hx₇
  subst e e1 e2
  have BD : D ≠ B := fun q => hne (by rw [q])
  refine Fm.swap2 (x := "laid") (y := "after") (s := { s with heap := h₇, toks := tk₇ }) (F₆.kept k₇) R.hh (.inl rfl) (.inl rfl) eo fun h₈ tk₈ F₈ kf₈ => ?_
  have sq₈ := (F₆.kept k₇).sq kf₈
  have a₈ := (a₆.kept k₇).kf (F₆.kept k₇) kf₈ C.dl (by rw [fc138]; simpa using C.dc)
  have T₈ := (F₆.kept k₇).full kf₈ (T₆.kp k₇)
  have tk68 : Tk true h₆ h₈ := k₇.tk.trans sq₈.tk
  have D₈ := sq₈ _ _ _ _ rfl hD
  have B₈ := sq₈ _ _ _ _ rfl hB
  have P₈ := sq₈ _ _ _ _ rfl (k₇ _ _ P₆)
  have g₈ := sq₈ _ _ _ _ rfl (k₇ _ _ g₆)
  have p₈ := sq₈ _ _ _ _ rfl (k₇ _ _ p₆)
  have Dg : D ≠ g := fun q => by rw [q, g₆] at nD; cases nD
  have Dp : D ≠ p := fun q => by rw [q, p₆] at nD; cases nD
  have Bg : B ≠ g := fun q => by rw [q, g₆] at nB; cases nB
  have Bp : B ≠ p := fun q => by rw [q, p₆] at nB; cases nB
  have nmD : nm hb0 D := none_of (s := { s with heap := hideAll hb0 [123] }) F₆.keep nD
  have nmB : nm hb0 B := none_of (s := { s with heap := hideAll hb0 [123] }) F₆.keep nB
  obtain ⟨ρ₈, hρ₈⟩ : ∃ ρ₈, ρ₈ = upd (upd ρ₆ "after" (.ref B)) "laid" (.ref D) := ⟨_, rfl⟩
  rw [← hρ₈] at F₈
  have rd₈ : ∀ (y : Str) (v : Value), y ≠ "place" → y ≠ "taken" → y ≠ "sign" → y ≠ "goal" → y ≠ "laid" → y ≠ "after" → ρ y = some v → ρ₈ y = some v := fun y v q1 q2 q3 q4 q5 q6 e => by
    rw [hρ₈]; exact (upd_ne q5).trans ((upd_ne q6).trans (rd₆ y v q1 q2 q3 q4 e))
  have rT₈ : ρ₈ "taken" = some (.ref P) := by rw [hρ₈]; exact (upd_ne (by decide)).trans ((upd_ne (by decide)).trans rT₆)
  have rL₈ : ρ₈ "laid" = some (.ref D) := by rw [hρ₈]; simp [upd]
  have rA₈ : ρ₈ "after" = some (.ref B) := by rw [hρ₈]; exact (upd_ne (by decide)).trans (by simp [upd])
  have Ld₈ : All2 (fun g v => IsG g v h₈) (st.laid.take i ++ st.laid.drop (i + 1)) (lvs.take i ++ ws.drop (i + 1)) := allG_tk tk68 ((Ll₆.take i).append (Lv₆.drop (i + 1)))
  have Lw₈ : All2 (fun g v => IsG g v h₈) (st.laid.take i ++ st.laid.drop (i + 1)) ws₆ := allG_tk tk68 Lw₆
  have Lv₈ := allG_tk tk68 Lv₆
  have Lg₈ : All2 (fun g v => IsG g v h₈) st.gone gvs := allG_tk (tk14.trans (k₅.tk.trans (tk56.trans tk68))) C₁.Lg
  have Lp₈ : All2 (fun y v => IsTx y v h₈) st.parts pvs := C₁.Lp.mono fun _ _ q => q
  -- sign, goal = taken[0]
  obtain ⟨wi, ewi, ig⟩ := Lv₈.get egi
  obtain ⟨ga, gn, u1, u2, eg1, go, ⟨t1, et1⟩, ⟨t2, et2⟩⟩ := ig
  have hd0 : (ws.drop i)[(0 : Int).toNat]? = some wi := by
    rw [show (0 : Int).toNat = 0 from rfl, List.getElem?_drop]; exact ewi
  refine wpAny_execs_cons (Assign_Tuple (Ev.use (P := IsV wi) (Ev.sub (P1 := IsV (.ref P)) (P2 := IsI 0) (Ev.name rfl (F₈.rd rT₈)) (fun o s₁ k₁ _ => Ev.cint) fun o j s₁ s₂ k₁ e1 k₂ ⟨t3, e2⟩ => by
      have e1 : o = .ref P := e1
      subst e1 e2
      exact Ev.subList0 (keeps_heap (keeps_trans k₁ k₂) _ _ P₈) (by decide) (by decide) hd0) fun v h₉ tk₉ k₉ ev => ?_))
  have ev : v = wi := ev
  subst ev eg1
  refine Fm.pair (x := "sign") (y := "goal") (s := { s with heap := h₉, toks := tk₉ }) (F₈.kept k₉) R.hh (.inl rfl) (.inl rfl) (k₉ _ _ go) fun h10 tk10 F10 kf10 => ?_
  subst et1 et2
  have sq10 := (F₈.kept k₉).sq kf10
  have a10 := (a₈.kept k₉).kf (F₈.kept k₉) kf10 C.dl (by rw [fc138]; simpa using C.dc)
  have T10 := (F₈.kept k₉).full kf10 (T₈.kp k₉)
  have tk810 : Tk true h₈ h10 := k₉.tk.trans sq10.tk
  have D10 := sq10 _ _ _ _ rfl (k₉ _ _ D₈)
  have B10 := sq10 _ _ _ _ rfl (k₉ _ _ B₈)
  have g10 := sq10 _ _ _ _ rfl (k₉ _ _ g₈)
  have p10 := sq10 _ _ _ _ rfl (k₉ _ _ p₈)
  obtain ⟨ρ10, hρ10⟩ : ∃ ρ10, ρ10 = upd (upd ρ₈ "sign" (.str (tx [gi.1]) t1)) "goal" (.str (tx gi.2) t2) := ⟨_, rfl⟩
  rw [← hρ10] at F10
  have rd10 : ∀ (y : Str) (v : Value), y ≠ "sign" → y ≠ "goal" → ρ₈ y = some v → ρ10 y = some v := fun y v q1 q2 e => by rw [hρ10]; exact (upd_ne q2).trans ((upd_ne q1).trans e)
  have rSg : ρ10 "sign" = some (.str (tx [gi.1]) t1) := by rw [hρ10]; exact (upd_ne (by decide)).trans (by simp [upd])
  have rGl : ρ10 "goal" = some (.str (tx gi.2) t2) := by rw [hρ10]; simp [upd]
  -- gone.append((sign, goal))
  refine wpAny_execs_cons (exec_append (P := fun v h => IsG gi v h) (Ev.name rfl (F10.rd (rd10 _ _ (by decide) (by decide) (rd₈ _ _ (by decide) (by decide) (by decide) (by decide) (by decide) (by decide) C.rG)))) (fun s₁ k₁ => Ev.mono (Ev.tuple2 (P1 := IsV (.str (tx [gi.1]) t1)) (P2 := IsV (.str (tx gi.2) t2)) (Ev.name rfl ((F10.rd rSg).keeps (keeps_heap k₁)))
        (fun v s₂ k₂ _ => Ev.name rfl ((F10.rd rGl).keeps (keeps_heap (keeps_trans k₁ k₂)))) (fun _ _ _ _ q => q) (fun _ _ _ _ q => q))
        (fun v h' _ ⟨ta, u1, u2, e1, _, e2, e3, e4⟩ => ⟨ta, 0, u1, u2, e1, e2, ⟨t1, e3⟩, ⟨t2, e4⟩⟩)) g10 (by omega) fun gv h11 h12 tk12 k11 iv s12 g12 => ?_)
  have kw12 : KpW [g] h11 h12 := sameBut_kw s12 (by simp)
  have g11 := k11 _ _ g10
  have F12 : FP hb0 n ρ10 h12 := fp_push (F10.kept k11) g11 rfl C.ng kw12
  have tk12' : Tk true h10 h12 := k11.tk.trans (kw1_tk kw12 g11 (by simp))
  have D12 := kw12 _ _ (by simpa using Dg) (k11 _ _ D10)
  have B12 := kw12 _ _ (by simpa using Bg) (k11 _ _ B10)
  have p12 := kw12 _ _ (by simpa using Ne.symm C.gp) (k11 _ _ p10)
  have xg : x ≠ g := fun q => by
    obtain ⟨o, xs, m, e, c, _⟩ := acc_cls a10
    rw [q, g10] at e; cases e; cases c
  have dg : d ≠ g := fun q => by
    obtain ⟨_, tkd, vd, e⟩ := a10
    rw [q, g10] at e
    have z := congrArg Obj.cls (Option.some.inj e)
    change Value.type "list" = Value.type "dict" at z
    simp at z
  have a12 := (a10.kept k11).kw kw12 (by simpa using xg) (by simpa using dg)
  have T12 := full_kw (T10.kp k11) kw12 fun b hb o e => lobj_nf g11 o (by rw [← List.mem_singleton.mp hb]; exact e)
  have tk812 := tk810.trans tk12'
  -- for part in parts
  refine wpAny_execs_cons (for_parts (k := k) (acc := ([], st.laid.take i ++ st.laid.drop (i + 1))) (parts := st.parts) (sg := gi.1) (goal := gi.2) G0 R T12 T0 F12
    (rd10 _ _ (by decide) (by decide) (rd₈ _ _ (by decide) (by decide) (by decide) (by decide) (by decide) (by decide) C.rS)) hst rSg (O.gl gi hgi).1 rGl
    (rd10 _ _ (by decide) (by decide) (rd₈ _ _ (by decide) (by decide) (by decide) (by decide) (by decide) (by decide) C.rP)) p12 (Lp₈.mono fun _ _ q => q)
    (rd10 _ _ (by decide) (by decide) rA₈) B12 .nil
    (rd10 _ _ (by decide) (by decide) (rd₈ _ _ (by decide) (by decide) (by decide) (by decide) (by decide) (by decide) C.rW)) (rd10 _ _ (by decide) (by decide) rL₈) D12 a12 C.hx nmD nmB C.dl C.dc BD (Ne.symm Dp) (Ne.symm Bp)
    (allG_tk tk812 Ld₈) (allG_tk tk812 Lw₈) (fun q hq => (O.pt q hq).2) (O.gl gi hgi).2.2 (O.gl gi hgi).2.1 O.np (by simp) (by rw [List.length_append, List.length_take, List.length_drop]; omega)
    fun ρ13 ws13 lvs13 avs13 lm13 am13 h13 tk13 F13 ag13 a13 l13 af13 r1 r2 r3 kw13 => ?_)
  -- parts = after
  have rd13 : ∀ (y : Str) (v : Value), y ≠ "part" → y ≠ "halves" → y ≠ "other" → ρ10 y = some v → ρ13 y = some v := fun y v q1 q2 q3 e => (ag13 y (by simp [q1, q2, q3])).trans e
  have pc : (n : Nat) + 1 ∈ fcAt 138 n := by rw [fc138]; simp
  refine wpAny_execs_cons (wpAny_Assign_Name (Ev.use (P := IsV (.ref B)) (Ev.name rfl (F13.rd (rd13 _ _ (by decide) (by decide) (by decide) (rd10 _ _ (by decide) (by decide) rA₈)))) fun v h14 tk14' k14 ev => ?_))
  have ev : v = .ref B := ev
  subst ev
  have F14 := F13.kept k14
  refine F14.store (.inr ⟨rfl, n + 1, rfl, pc⟩) fun h15 tk15 F15 kf15 => wpAny_execs_nil ?_
  have sq15 := F14.sq kf15
  have nW5 : ∀ {b : Addr} {vs : List Value} {m : Nat}, h12.get? b = some (lobj vs m) → b ≠ D → b ≠ B → b ∉ [n, n + 1, x, D, B] := fun {b vs m} e hD hB q => by
    obtain ⟨q1, q2⟩ := F12.seq_ne e rfl
    rw [fc138] at q2
    simp only [List.mem_cons, List.not_mem_nil, or_false] at q q2
    rcases q with q | q | q | q | q
    · exact q1 q
    · exact q2 q
    · obtain ⟨o, xs, m, e', c, _⟩ := acc_cls a12
      rw [q, e'] at e; cases e; cases c
    · exact hD q
    · exact hB q
  have g15 := sq15 _ _ _ _ rfl (k14 _ _ (kw13 _ _ (nW5 g12 (Ne.symm Dg) (Ne.symm Bg)) g12))
  have tk1213 : Tk true h12 h13 := fun _ b o xs m hc hd e => by
    obtain ⟨q1, q2⟩ := F12.seq_ne e hd
    rw [fc138] at q2
    refine kw13 b o (fun hb => ?_) e
    simp only [List.mem_cons, List.not_mem_nil, or_false] at hb q2
    rcases hb with q | q | q | q | q
    · exact q1 q
    · exact q2 q
    · obtain ⟨⟨m', e'⟩, _⟩ := a12
      rw [q, e'] at e; cases e; cases hc
    · rw [q, D12] at e; cases e; simp at hc
    · rw [q, B12] at e; cases e; simp at hc
  have tk1315 : Tk true h13 h15 := k14.tk.trans sq15.tk
  have en : next δ st i = ⟨(st.parts.foldl (turn (δ gi.1) gi.2) ([], st.laid.take i ++ st.laid.drop (i + 1))).1, (st.parts.foldl (turn (δ gi.1) gi.2) ([], st.laid.take i ++ st.laid.drop (i + 1))).2, st.gone ++ [gi]⟩ := by
    unfold next; rw [egi]
  have rd15 : ∀ (y : Str) (v : Value), y ≠ "parts" → ρ13 y = some v → upd ρ13 "parts" (.ref B) y = some v := fun y v q e => (upd_ne q).trans e
  have rdC : ∀ (y : Str) (v : Value), y ≠ "place" → y ≠ "taken" → y ≠ "sign" → y ≠ "goal" → y ≠ "laid" → y ≠ "after" → y ≠ "part" → y ≠ "halves" → y ≠ "other" → y ≠ "parts" → ρ y = some v → upd ρ13 "parts" (.ref B) y = some v :=
    fun y v q1 q2 q3 q4 q5 q6 q7 q8 q9 q10 e => rd15 y v q10 (rd13 y v q7 q8 q9 (rd10 y v q3 q4 (rd₈ y v q1 q2 q3 q4 q5 q6 e)))
  refine hQ i h15 tk15 hi ⟨c', D, g, B, ws13, lvs13, gvs ++ [gv], avs13, lm13, gm + 1, am13, upd ρ13 "parts" (.ref B), ?_⟩
  rw [en]
  exact {
    F := F15
    T := F14.full kf15 ((full_kw5 T12 F12 a12 D12 B12 kw13).kp k14)
    rS := rdC _ _ (by decide) (by decide) (by decide) (by decide) (by decide) (by decide) (by decide) (by decide) (by decide) (by decide) C.rS
    rK := rdC _ _ (by decide) (by decide) (by decide) (by decide) (by decide) (by decide) (by decide) (by decide) (by decide) (by decide) C.rK
    rW := rdC _ _ (by decide) (by decide) (by decide) (by decide) (by decide) (by decide) (by decide) (by decide) (by decide) (by decide) C.rW
    rL := rd15 _ _ (by decide) (rd13 _ _ (by decide) (by decide) (by decide) (rd10 _ _ (by decide) (by decide) rL₈))
    rG := rdC _ _ (by decide) (by decide) (by decide) (by decide) (by decide) (by decide) (by decide) (by decide) (by decide) (by decide) C.rG
    rP := by simp [upd]
    a := (a13.kept k14).kf F14 kf15 C.dl (by rw [fc138]; simpa using C.dc)
    hl := sq15 _ _ _ _ rfl (k14 _ _ l13)
    hg := g15
    hp := sq15 _ _ _ _ rfl (k14 _ _ af13)
    Lw := allG_tk tk1315 r2
    Ll := allG_tk tk1315 r3
    Lg := (allG_tk (tk812.trans (tk1213.trans tk1315)) Lg₈).append (.cons (isG_tk ((kw1_tk kw12 g11 (by simp)).trans (tk1213.trans tk1315)) iv) .nil)
    Lp := r1.mono fun _ _ q => q
    hx := C.hx
    nl := nmD
    ng := C.ng
    lg := Dg
    lp := BD
    gp := Ne.symm Bg
    dl := C.dl
    dc := C.dc }
end
end Mine

end

-- ======== Par7 ========
section
open PySem PySem.W PyProof.Rows
set_option maxRecDepth 100000
set_option maxHeartbeats 1000000
namespace Mine

section
variable {w : World} {A : Around} {E : Value → Shared → Prop} {s : Shared} {env : Env} {mg mb : Str → Option Value} {k : Nat}

theorem keep107 : keepIn (KK w) (.ref 107) = true := rfl
/-- _Accumulator() -/
theorem Ev.accNew {f : Expr} {pos : Pos} (G : Gd w mg mb s.heap) (R : Rm A (k + 1)) (h0 : Ev (model PG w) A (eval f env) (IsV (.ref 107)) s)
    (he : eval (.Call f [] [] pos) env = (do callWith pos (← eval f env) [] (backTo pos (starEach [] env)) (backToKw pos (keywordEach [] env))) := by rfl) :
    Ev (model PG w) A (eval (.Call f [] [] pos) env) (fun v h => ∃ x d, v = .ref x ∧ Acc w x d [] h ∧ s.heap.get? x = none ∧ s.heap.get? d = none) s := fun E => by
  refine Call_ (h0.use' fun v s₁ k₁ e1 => ?_) he
  have e1 : v = .ref 107 := e1
  subst e1
  have G₁ := G.kp (keeps_heap k₁)
  refine callWith_K0 G₁.X keep107 ?_
  refine acc_make_call G₁ (by have := R.dp; omega) fun x d h' tk a kp nx nd => ?_
  obtain ⟨h₁, t₁, rfl, kk⟩ := k₁
  exact ⟨keeps_mk fun b o e => kp _ _ (kk _ _ e), x, d, rfl, a, none_kp kk nx, none_kp kk nd⟩

/-- (e1, e2, e3), each told by those ahead -/
theorem Ev.tuple3d {e1 e2 e3 : Expr} {kk : Nat} {pos : Pos} {P1 : VP} {P2 : Value → VP} {P3 : Value → Value → VP} (h1 : Ev (model PG w) A (eval e1 env) P1 s) (h2 : ∀ v s₁, Keeps s s₁ → P1 v s₁.heap → Ev (model PG w) A (eval e2 env) (P2 v) s₁)
    (h3 : ∀ v u s₁, Keeps s s₁ → P1 v s₁.heap → P2 v u s₁.heap → Ev (model PG w) A (eval e3 env) (P3 v u) s₁) (hP1 : Stb P1) (hP2 : ∀ v, Stb (P2 v)) (hP3 : ∀ v u, Stb (P3 v u))
    (he : starEach [e1, e2, e3] env = [(false, eval e1 env), (false, eval e2 env), (false, eval e3 env)] := by rfl) :
    Ev (model PG w) A (eval (.Tuple [e1, e2, e3] kk pos) env) (fun v h => ∃ a v1 v2 v3, v = .ref a ∧ h.get? a = some (tobj [v1, v2, v3] 0) ∧ P1 v1 h ∧ P2 v1 v2 h ∧ P3 v1 v2 v3 h) s := fun E => by
  refine wpAny_Tuple ?_
  rw [he]
  show wpAny _ A (spliced [(false, eval e1 env), (false, eval e2 env), (false, eval e3 env)]) _ E s
  refine Calls.spliced_cons (h1.use' fun v1 s₁ k₁ p₁ => Calls.spliced_cons ((h2 v1 s₁ k₁ p₁).use' fun v2 s₂ k₂ p₂ => Calls.spliced_cons ((h3 v1 v2 s₂ (keeps_trans k₁ k₂) (hP1 _ _ _ (keeps_heap k₂) p₁) p₂).use' fun v3 s₃ k₃ p₃ => Calls.spliced_nil ?_)))
  refine ⟨by show 3 ≤ sizeLine; decide, keeps_trans (keeps_trans (keeps_trans k₁ k₂) k₃) keeps_push, _, v1, v2, v3, rfl, Heap.get?_push_size _ rfl, ?_, ?_, ?_⟩
  · exact hP1 _ _ _ (fun b o e => kp_push _ _ (keeps_heap k₃ _ _ (keeps_heap k₂ _ _ e))) p₁
  · exact hP2 _ _ _ _ (fun b o e => kp_push _ _ (keeps_heap k₃ _ _ e)) p₂
  · exact hP3 _ _ _ _ _ kp_push p₃
end

theorem halves_ne {δ : Nat → Nat} {part goal : List Nat} (h : part ≠ []) : halves δ part goal ≠ [] := fun q => by
  obtain ⟨c, r, rfl⟩ := List.exists_cons_of_ne_nil h
  unfold halves at q
  rw [List.filter_eq_nil_iff] at q
  cases hc : pin δ goal c with
  | true => exact q _ (List.mem_cons_self ..) (by simp [hc])
  | false => exact q _ (List.mem_cons_of_mem _ (List.mem_cons_self ..)) (by simp [hc])
theorem nodup_L6 : (L6.map fun c => tx [c]).Nodup := by decide +kernel

/-- what a parting gives back -/
def IsParted (st : St) : VP := fun v h => ∃ t p g pvs gvs pm gm, v = .ref t ∧ h.get? t = some (tobj [.ref p, .ref g] 0) ∧ h.get? p = some (lobj pvs pm) ∧ h.get? g = some (lobj gvs gm) ∧ All2 (fun y v => IsTx y v h) st.parts pvs ∧ All2 (fun g v => IsG g v h) st.gone gvs

section
variable {w : World} {A : Around} {E : Value → Shared → Prop} {s : Shared} {mg mb : Str → Option Value} {k : Nat}

theorem parted_spec {δ : Nat → Nat → Nat} {glad : List Nat} {sv : Value} {tg : Tok} {pk : Addr} {kvs : List Value} {km : Nat} {picks : List Int} {Q : Value → Shared → Prop}
    (I : St → Prop) (μ : St → Nat)
    (G : Gd w mg mb s.heap) (R : Rm A (k + 6)) (T : Tab lamQual lamPos s.heap) (hst : IsSteps w δ sv s.heap) (hgl : ∀ c ∈ glad, c ∈ L6) (hgn : glad.length ≤ 6)
    (hpk : s.heap.get? pk = some (lobj kvs km)) (Lk : All2 (fun i v => IsI i v s.heap) picks kvs) (hkn : picks ≠ []) (hkl : picks.length ≤ 100)
    (i0 : I ⟨halves id L6 glad, both (lesser (halves id L6 glad)), []⟩)
    (istep : ∀ st i, I st → i < st.laid.length → I (next δ st i) ∧ μ (next δ st i) < μ st) (iok : ∀ st, I st → Ok st)
    (hQ : ∀ st v h' tk, I st → st.laid = [] → IsParted st v h' → Kt s.heap h' → Tab lamQual lamPos h' → Q v { s with heap := h', toks := tk }) :
    wpAny (model PG w) A (call (.ref 138) [sv, .str (tx glad) tg, .ref pk]) Q E s := by
  have lt128 : ∀ c ∈ L6, c < 128 := by decide
  refine call_at G R (binds := [("steps", sv), ("glad", .str (tx glad) tg), ("picks", .ref pk)]) rfl rfl rfl rfl (BindsTo.of_eq rfl) rfl rfl rfl (by exact List.Pairwise.nil) (by intro p hp; cases hp) ⟨.inl rfl, .inl rfl, .inl rfl, trivial⟩ fun n h₁ tk₁ hn F => ?_
  have R' : Rm (A.deeper (envAt 138 n)) (k + 5) := R.deeper
  have F₁ : FP s.heap n _ h₁ := F.weaken fun b o e => of_hideAll _ e
  have G₁ := G.kp F.keep
  have T₁ : Tab lamQual lamPos h₁ := T.kp F.keep
  have O0 := iok _ i0
  have hh0 : halves id L6 glad ≠ [] := halves_ne (by decide)
  -- parts = ..
  refine wpAny_execs_cons (wpAny_Assign_Name (eval_halves (k := k + 2) (part := L6) (goal := glad) (δ := id) G₁ R' T₁ (gname G₁ rfl rfl rfl rfl) (fun s₁ k₁ => Ev.cstr') (fun s₁ k₁ => ?_)
    (fun s₁ k₁ => (Ev.name rfl ((F₁.rd rfl).keeps (keeps_heap k₁))).mono fun _ _ _ e => ⟨tg, e⟩) (fun _ h => h) (fun c hc => lt128 _ (hgl c hc)) (by decide) (by omega) fun v h₂ tk₂ kt₂ ⟨c', T₂⟩ _ hv ⟨b, eb, nb⟩ => ?_))
  · refine Ev.mono (Ev.dictComp (xs := L6) (P := IsC) (kf := fun c => tx [c]) (G := fun c v => ∃ t, v = .str (tx [c]) t) (cl := []) (fun a ρ h => ∃ v, ρ "state" = some v ∧ IsC a v h) rfl List.Pairwise.nil (fun q hq => by cases hq) (fun _ _ _ _ x _ => x) (by decide) nodup_L6
      (Src.str R'.hh Ev.cstr' (by decide)) (fun a C _ => Assigns.name (.inl rfl) stq_S) (fun a C ρ h' tk' ha ⟨v, ev, va⟩ kk F' => ?_) (fun a C ρ h' tk' ha ⟨v, ev, va⟩ kk F' => ?_)) fun v h' _ ⟨D, e, _, o, eo, d⟩ => ?_
    · exact (Ev.name rfl (F'.rd ev)).mono fun _ _ _ e => by have e' : _ = v := e; rw [e']; exact va
    · exact (Ev.name rfl (F'.rd ev)).mono fun _ _ _ e => by have e' : _ = v := e; rw [e']; exact va
    · obtain ⟨f, m, r⟩ := d.map eo nodup_L6
      exact ⟨D, f, e, m, fun c hc => by obtain ⟨v, ev, t, et⟩ := r c hc; exact ⟨t, by rw [ev, et]; rfl⟩⟩
  have F₂ : FP s.heap n _ h₂ := fp_kt123 F₁ T₁.at_ kt₂
  have pc : (n : Nat) + 1 ∈ fcAt 138 n := by rw [fc138]; simp
  refine F₂.store (.inr ⟨rfl, n + 1, rfl, pc⟩) fun h₃ tk₃ F₃ kf₃ => ?_
  have sq₃ := F₂.sq kf₃
  have hv₃ : IsL IsTx (halves id L6 glad) v h₃ := stq_L (fun _ => stq_S) _ _ _ sq₃ hv
  have T₃ := F₂.full kf₃ T₂
  obtain ⟨b', pvs, pm, ev, hpo, Lp⟩ := id hv₃
  subst ev
  have lenP := Lp.length
  have nP := O0.np
  have np : (halves id L6 glad).length ≤ 2 := halves_len
  have rP : ∀ {ρ : Str → Option Value}, upd ρ "parts" (.ref b') "parts" = some (.ref b') := by simp [upd]
  -- if not parts
  refine wpAny_execs_cons (wpAny_If (isTrue_not (Ev.use (P := fun c _ => c = true) (Ev.truthT (P := fun v _ => v = .ref b') (Ev.name rfl (F₃.rd rP)) (fun v s₁ k₁ e => by
      subst e
      refine (Ev.truthyL (keeps_heap k₁ _ _ hpo) (by omega)).mono fun c _ _ e => ?_
      rw [e]
      cases pvs with
      | nil => exact absurd (List.length_eq_zero_iff.mp lenP) hh0
      | cons => rfl)) fun c h₄ tk₄ k₄ ec => ?_)))
  subst ec
  simp only [Bool.not_true, Bool.false_eq_true, if_false]
  refine wpAny_execs_nil ?_
  have F₄ := F₃.kept k₄
  have G₄ : Gd w mg mb h₄ := G.kt (fp_kt F₄)
  -- waiting, laid, gone = ..
  refine wpAny_execs_cons (Assign_Tuple_swapped (names := ["waiting", "laid", "gone"]) ?_)
  refine Ev.use (Ev.tuple3d (P1 := fun v h => ∃ x d, v = .ref x ∧ Acc w x d [] h ∧ h₄.get? x = none ∧ h₄.get? d = none) (P2 := fun v1 v h => ∃ l lvs lm, v = .ref l ∧ h₄.get? l = none ∧ h.get? l = some (lobj lvs lm) ∧ All2 (fun g v => IsG g v h) (both (lesser (halves id L6 glad))) lvs)
      (P3 := fun v1 v2 v h => ∃ g, v = .ref g ∧ h₄.get? g = none ∧ v2 ≠ .ref g ∧ h.get? g = some (lobj [] 0))
      (Ev.accNew (k := k + 4) G₄ R' (gname G₄ rfl rfl rfl rfl)) (fun v s₁ k₁ _ => ?_) (fun v u s₁ k₁ _ ⟨l, lvs, lm, e, nl, hl, _⟩ => Ev.nil.mono fun y h' _ ⟨g, eg, ng, hg⟩ => ⟨g, eg, none_kp (keeps_heap k₁) ng, (fun q => ?_), hg⟩)
      (fun _ _ _ k ⟨x, d, e, a, nx, nd⟩ => ⟨x, d, e, a.kept k, nx, nd⟩) (fun _ _ _ _ k ⟨l, lvs, lm, e, nl, hl, r⟩ => ⟨l, lvs, lm, e, nl, k _ _ hl, allG_tk k.tk r⟩) (fun _ _ _ _ _ k ⟨g, e, ng, ne, hg⟩ => ⟨g, e, ng, ne, k _ _ hg⟩))
    fun v h₅ tk₅ k₅ hx₅ => ?_
  · have cP : s₁.heap.IsCell (n + 1) (some (.ref b')) := rd_cell ((F₄.rd rP).keeps (keeps_heap k₁)) (by intro q; cases q) rfl
    have hv₁ : IsL IsTx (halves id L6 glad) (.ref b') s₁.heap := stb_L (fun _ => stb_S) _ _ _ (fun b o e => keeps_heap k₁ _ _ (k₄ _ _ e)) hv₃
    refine Ev.mono (Ev.listComp (tk := true) (xs := S2) (P := IsC) (G := fun sg => IsG (sg, lesser (halves id L6 glad))) (cl := [("parts", n + 1)]) (fun _ => true) (fun a ρ h => ∃ v, ρ "sign" = some v ∧ IsC a v h) rfl (List.pairwise_singleton _ _) (fun q hq => by rw [List.mem_singleton.mp hq]; exact ⟨_, cP⟩) (fun _ _ _ _ x _ => x) (fun _ _ _ _ t x => isG_tk t x) (by decide)
      (Src.str R'.hh Ev.cstr' (by decide)) (fun a C _ => Assigns.name (.inl rfl) stq_S) (fun a C ρ h' tk' ha _ kk F' => Ev.tests0) (fun a C ρ h' tk' ha _ ⟨v, ev, va⟩ kk F' => ?_)) fun v h' k' ⟨⟨l, lvs, lm, e, hl, r⟩, l2, e2, nl⟩ => ?_
    · refine Ev.mono (Ev.tuple2 (P1 := IsC a) (P2 := IsTx (lesser (halves id L6 glad))) ((Ev.name rfl (F'.rd ev)).mono fun _ _ _ e => by have e' : _ = v := e; rw [e']; exact va)
        (fun u s₂ k₂ _ => Ev.lesser (k := k + 4) (G₄.kp fun b o q => keeps_heap k₂ _ _ (kk _ _ (keeps_heap k₁ _ _ q))) R' (gname (G₄.kp fun b o q => keeps_heap k₂ _ _ (kk _ _ (keeps_heap k₁ _ _ q))) rfl rfl rfl rfl)
          (fun s₃ k₃ => (Ev.name rfl (.inr ⟨.inl rfl, _, rfl, (cP.keeps kk).keeps (keeps_heap (keeps_trans k₂ k₃))⟩)).mono fun _ _ k e => by
            have e : _ = Value.ref b' := e
            rw [e]; exact stb_L (fun _ => stb_S) _ _ _ (fun b o q => k _ _ (keeps_heap (keeps_trans k₂ k₃) _ _ (kk _ _ q))) hv₁) hh0 (fun y hy => by have := halves_mem hy; have : L6.length = 6 := rfl; omega)) stb_S stb_S) fun v h' _ ⟨ta, u1, u2, e1, _, e2, e3, e4⟩ => ⟨ta, 0, u1, u2, e1, e2, e3, e4⟩
    · refine ⟨l, lvs, lm, e, ?_, hl, ?_⟩
      · rw [e] at e2; cases e2; exact none_kp (keeps_heap k₁) nl
      · have e4 : S2.filter (fun _ => true) = S2 := rfl
        rw [e4] at r
        exact All2.map_left (f := fun sg => (sg, lesser (halves id L6 glad))) (l₁ := S2) r
  · rw [e] at q; cases q
    rw [hl] at ng; cases ng
  obtain ⟨ta, v1, v2, v3, e, eo, ⟨x, d, e1, a, nx, nd⟩, ⟨l, lvs, lm, e2, nl, hl, Ll⟩, ⟨g, e3, ng, ne, hg⟩⟩ := hx₅
  subst e e1 e2 e3
  have lg : l ≠ g := fun q => ne (by rw [q])
  refine Fm.swap3 (x := "waiting") (y := "laid") (z := "gone") (s := { s with heap := h₅, toks := tk₅ }) (F₄.kept k₅) R'.hh (.inl rfl) (.inl rfl) (.inl rfl) eo fun h₆ tk₆ F₆ kf₆ => ?_
  have sq₆ := (F₄.kept k₅).sq kf₆
  have dl : d ≠ n := fun q => F₄.loc_ne (by show h₄.get? n = none; rw [← q]; exact nd)
  have dc : d ≠ n + 1 := fun q => by
    obtain ⟨v, o, e, _⟩ := F₄.cells (n + 1) pc
    rw [← q, nd] at e; cases e
  have a₆ := a.kf (F₄.kept k₅) kf₆ dl (by rw [fc138]; simpa using dc)
  have l₆ := sq₆ _ _ _ _ rfl hl
  have g₆ := sq₆ _ _ _ _ rfl hg
  have Ll₆ := allG_tk sq₆.tk Ll
  have p₄ := k₄ _ _ hpo
  have p₆ := sq₆ _ _ _ _ rfl (k₅ _ _ p₄)
  have T₆ := (F₄.kept k₅).full kf₆ ((T₃.kp k₄).kp k₅)
  have lp : l ≠ b' := fun q => by rw [q, p₄] at nl; cases nl
  have gp : g ≠ b' := fun q => by rw [q, p₄] at ng; cases ng
  have nx' : nm s.heap x := none_kp F₄.keep nx
  have nl' : nm s.heap l := none_kp F₄.keep nl
  have ng' : nm s.heap g := none_kp F₄.keep ng
  have rl₆ : ∀ {ρ : Str → Option Value} {v1 v2 v3 : Value}, upd (upd (upd ρ "gone" v3) "laid" v2) "waiting" v1 "laid" = some v2 := fun {ρ v1 v2 v3} => (upd_ne (by decide)).trans (by simp [upd])
  have rg₆ : ∀ {ρ : Str → Option Value} {v1 v2 v3 : Value}, upd (upd (upd ρ "gone" v3) "laid" v2) "waiting" v1 "gone" = some v3 := fun {ρ v1 v2 v3} => (upd_ne (by decide)).trans ((upd_ne (by decide)).trans (by simp [upd]))
  have rw₆ : ∀ {ρ : Str → Option Value} {v1 v2 v3 : Value}, upd (upd (upd ρ "gone" v3) "laid" v2) "waiting" v1 "waiting" = some v1 := by simp [upd]
  have ro₆ : ∀ {ρ : Str → Option Value} {v1 v2 v3 : Value} {y : Str}, y ≠ "waiting" → y ≠ "laid" → y ≠ "gone" → upd (upd (upd ρ "gone" v3) "laid" v2) "waiting" v1 y = ρ y := fun h1 h2 h3 => (upd_ne h1).trans ((upd_ne h2).trans (upd_ne h3))
  have lenL := Ll.length
  have nL := O0.nl
  have bl : (both (lesser (halves id L6 glad))).length = 2 := rfl
  obtain ⟨ox, oxs, om, ex, cx, dx⟩ := acc_cls a₆
  have lx : l ≠ x := fun q => by rw [q, ex] at l₆; cases l₆; cases cx
  have gx : g ≠ x := fun q => by rw [q, ex] at g₆; cases g₆; cases cx
  have px : b' ≠ x := fun q => by rw [q, ex] at p₆; cases p₆; cases cx
  -- for sign, goal in laid
  refine wpAny_execs_cons (for_push (hm := rfl) (so := [l]) (gs := lvs) (ws := []) (goals := both (lesser (halves id L6 glad))) (wg := []) G R' F₆ rw₆ a₆ nx' dl dc
    (SrcF.list R'.hh ((Ev.name rfl (F₆.rd rl₆)).mono fun _ _ k e => ⟨l, lm, e, k _ _ l₆, .inl (by simp)⟩)) (fun b hb q => ?_) Ll₆ .nil (by rw [bl]; decide) (by intro _; rfl) fun ρ₇ ws₇ h₇ tk₇ F₇ ag₇ a₇ Lw₇ kw₇ => ?_)
  · rw [List.mem_singleton.mp q] at hb
    obtain ⟨q1, q2⟩ := F₆.seq_ne l₆ rfl
    rw [fc138] at q2
    simp only [List.mem_cons, List.not_mem_nil, or_false] at hb q2
    rcases hb with q | q | q
    · exact q1 q
    · exact q2 q
    · exact lx q
  have out : ∀ {b : Addr} {vs : List Value} {m : Nat}, h₆.get? b = some (lobj vs m) → b ≠ x → h₇.get? b = some (lobj vs m) := fun {b vs m} e hbx => kw₇ _ _ (fun hb => by
    obtain ⟨q1, q2⟩ := F₆.seq_ne e rfl
    rw [fc138] at q2
    simp only [List.mem_cons, List.not_mem_nil, or_false] at hb q2
    rcases hb with q | q | q
    · exact q1 q
    · exact q2 q
    · exact hbx q) e
  have tk67 : Tk true h₆ h₇ := fp_tk F₆ a₆ kw₇
  have T₇ := full_kw T₆ kw₇ fun b hb o e => by
    simp only [List.mem_cons, List.not_mem_nil, or_false] at hb
    rcases hb with q | q | q
    · exact fp_nW' F₆ b (by simp [q]) o e
    · exact fp_nW' F₆ b (by simp [q]) o e
    · exact acc_nf a₆ o (q ▸ e)
  have ag : ∀ y : Str, y ≠ "sign" → y ≠ "goal" → ρ₇ y = _ := fun y h1 h2 => ag₇ y (by simp [h1, h2])
  -- while waiting.part_count() > 0
  refine wpAny_execs_cons (While_it (fun m h => ∃ st, μ st = m ∧ I st ∧ Curs w s.heap n x d sv pk st h) ⟨_, rfl, i0, c', l, g, b', ws₇, lvs, [], pvs, lm, 0, pm, ρ₇, ?_⟩ ?_)
  · exact {
      F := F₇
      T := T₇
      rS := (ag _ (by decide) (by decide)).trans ((ro₆ (by decide) (by decide) (by decide)).trans rfl)
      rK := (ag _ (by decide) (by decide)).trans ((ro₆ (by decide) (by decide) (by decide)).trans rfl)
      rW := (ag _ (by decide) (by decide)).trans rw₆
      rL := (ag _ (by decide) (by decide)).trans rl₆
      rG := (ag _ (by decide) (by decide)).trans rg₆
      rP := (ag _ (by decide) (by decide)).trans ((ro₆ (by decide) (by decide) (by decide)).trans rP)
      a := a₇
      hl := out l₆ lx
      hg := out g₆ gx
      hp := out p₆ px
      Lw := Lw₇
      Ll := allG_tk tk67 Ll₆
      Lg := .nil
      Lp := Lp.mono fun _ _ q => q
      hx := nx'
      nl := nl'
      ng := ng'
      lg := lg
      lp := lp
      gp := gp
      dl := dl
      dc := dc }
  · rintro m h tk ⟨st, rfl, hI, C⟩
    obtain ⟨c'', l', g', p', ws, lvs', gvs, pvs', lm', gm', pm', ρ, C⟩ := C
    have O := iok st hI
    have lenW := C.Lw.length
    have Gh : Gd w mg mb h := G.kt (fp_kt C.F)
    refine Ev.use (P := fun b _ => b = decide ((0 : Int) < (ws.length : Int))) (Ev.cmpT (P1 := IsI ws.length) (P2 := IsI 0) (Ev.count Gh R' C.a (Ev.name rfl (C.F.rd C.rW))) (fun o s₁ k₁ _ => Ev.cint) (fun o i s₁ s₂ _ ⟨t1, e1⟩ _ ⟨t2, e2⟩ => by subst e1 e2; exact Ev.gtInt)) fun b h₈ tk₈ k₈ eb => ?_
    have C₈ := C.kept k₈
    by_cases hpos : 0 < st.laid.length
    · have eb' : b = true := by rw [eb]; exact decide_eq_true (by omega)
      rw [eb']
      simp only [if_true]
      refine wpAny_mono (Q := fun fl s₃ => fl = .next ∧ ∃ m h' tk', m < μ st ∧ s₃ = { s with heap := h', toks := tk' } ∧ ∃ st', μ st' = m ∧ I st' ∧ Curs w s.heap n x d sv pk st' h') (E := fun _ _ => False) ?_ (fun fl s₃ ⟨e, q⟩ => by subst e; exact q) fun _ _ z => z
      refine while_turn (k := k + 2) (s := { s with heap := h₈, toks := tk₈ }) G R' T hst hpk Lk hkn hkl ⟨c'', l', g', p', ws, lvs', gvs, pvs', lm', gm', pm', ρ, C₈⟩ O hpos fun i h' tk' hi C' => ?_
      have hs := istep st i hI hi
      exact ⟨rfl, μ (next δ st i), h', tk', hs.2, rfl, _, rfl, hs.1, C'⟩
    · have eb' : b = false := by rw [eb]; exact decide_eq_false (by omega)
      rw [eb']
      simp only [Bool.false_eq_true, if_false]
      have hl0 : st.laid = [] := List.length_eq_zero_iff.mp (by omega)
      -- return (parts, gone)
      refine wpAny_execs_cons (wpAny_Return_some (Ev.use (Ev.tuple2 (P1 := fun v _ => v = .ref p') (P2 := fun v _ => v = .ref g') (Ev.name rfl (C₈.F.rd C₈.rP)) (fun v s₁ k₁ _ => Ev.name rfl ((C₈.F.rd C₈.rG).keeps (keeps_heap k₁))) (fun _ _ _ _ q => q) (fun _ _ _ _ q => q)) fun v h₉ tk₉ k₉ ⟨ta, v1, v2, e1, _, e2, e3, e4⟩ => ?_))
      subst e1 e3 e4
      have C₉ := C₈.kept k₉
      exact hQ st _ h₉ tk₉ hI hl0 ⟨ta, p', g', pvs', gvs, pm', gm', rfl, e2, C₉.hp, C₉.hg, C₉.Lp, C₉.Lg⟩ (fp_kt C₉.F) C₉.T.tab
end
end Mine

end

-- ======== Zip1 ========
section
open PySem PySem.W PyProof.Rows
set_option maxRecDepth 100000
set_option maxHeartbeats 1000000
namespace Mine

abbrev zg1 (h : Heap) (o1 : Obj) : Heap := h.push o1
abbrev zg2 (h : Heap) (o1 o2 : Obj) : Heap := (zg1 h o1).push o2
abbrev zg3 (h : Heap) (o1 o2 : Obj) : Heap := (zg2 h o1 o2).push { cls := .type "tuple", data := .seq #[.ref h.objs.size, .ref (zg1 h o1).objs.size] }
abbrev zg4 (h : Heap) (o1 o2 : Obj) : Heap := (zg3 h o1 o2).push { cls := .type "tuple", data := .seq #[.none, .none] }
abbrev zg5 (h : Heap) (o1 o2 : Obj) : Heap := (zg4 h o1 o2).push { cls := .type "zip", data := .fields #[.none, .bool false, .bool false, .ref (zg2 h o1 o2).objs.size, .ref (zg3 h o1 o2).objs.size] }

/-- an iterator made of v is the object o -/
def Mkit (v : Value) (o : Obj) (s : Shared) : Prop := ∀ (prog : Program) (w : World) (A : Around) (Q : Value → Shared → Prop) (E : Value → Shared → Prop), Q (.ref s.heap.objs.size) { s with heap := s.heap.push o } → wpAny (model prog w) A (pyIter v) Q E s

theorem meets_zip_gen (v1 v2 : Value) (o1 o2 : Obj) :
    Meets (Builtin.«zip.__new__» ⟨[.type "zip", v1, v2], []⟩) (fun _ R s => Mkit v1 o1 s ∧ Mkit v2 o2 { s with heap := s.heap.push o1 } ∧
      R (.ok (.ret (.ref (zg4 s.heap o1 o2).objs.size))) { s with heap := zg5 s.heap o1 o2 }) :=
  .of_wp fun prog w A R s h => by
    obtain ⟨hp, g, d, tk, os⟩ := s; obtain ⟨h1, h2, h⟩ := h
    have hsub := sub_zip
    have H1 : ∀ {A : Around} {Q : Value → Shared → Prop} {E : Value → Shared → Prop}, Q (.ref hp.objs.size) ⟨hp.push o1, g, d, tk, os⟩ → wpAny (model prog w) A (pyIter v1) Q E ⟨hp, g, d, tk, os⟩ := fun q => h1 prog w _ _ _ q
    have H2 : ∀ {A : Around} {Q : Value → Shared → Prop} {E : Value → Shared → Prop}, Q (.ref (hp.push o1).objs.size) ⟨(hp.push o1).push o2, g, d, tk, os⟩ → wpAny (model prog w) A (pyIter v2) Q E ⟨hp.push o1, g, d, tk, os⟩ := fun q => h2 prog w _ _ _ q
    wp_walk using H1, H2
    exact ⟨_, rfl, h⟩

section
variable {prog : Program} {w : World} {A : Around} {E : Value → Shared → Prop} {s : Shared}

theorem call_zip_gen {v1 v2 : Value} {o1 o2 : Obj} {Q : Value → Shared → Prop} (h1 : Mkit v1 o1 s) (h2 : Mkit v2 o2 { s with heap := s.heap.push o1 }) (f1 : o1.isFreed = false) (f2 : o2.isFreed = false)
    (h : ∀ h', IsZip h' (s.heap.objs.size + 4) (s.heap.objs.size + 2) (s.heap.objs.size + 3) .none → IsPair h' (s.heap.objs.size + 2) (.ref s.heap.objs.size) (.ref (s.heap.objs.size + 1)) →
      IsPair h' (s.heap.objs.size + 3) .none .none → h'.get? s.heap.objs.size = some o1 → h'.get? (s.heap.objs.size + 1) = some o2 → h'.objs.size = s.heap.objs.size + 5 →
      Kp s.heap h' → Q (.ref (s.heap.objs.size + 4)) { s with heap := h' }) :
    wpAny (model prog w) A (call (.type "zip") [v1, v2]) Q E s := by
  refine callType_new F.called_zip (by decide) (F.typeCall_zip_2 _ _) (F.newCall_zip_2 _ _) (fun obj => F.args_object_init_3 obj _ _) F.entry_zip_new
    (meets_zip_gen v1 v2 o1 o2) ⟨h1, h2, ?_⟩
  have z1 : (zg1 s.heap o1).objs.size = s.heap.objs.size + 1 := Heap.size_push ..
  have z2 : (zg2 s.heap o1 o2).objs.size = s.heap.objs.size + 2 := by rw [Heap.size_push, z1]
  have z3 : (zg3 s.heap o1 o2).objs.size = s.heap.objs.size + 3 := by rw [Heap.size_push, z2]
  have z4 : (zg4 s.heap o1 o2).objs.size = s.heap.objs.size + 4 := by rw [Heap.size_push, z3]
  have z5 : (zg5 s.heap o1 o2).objs.size = s.heap.objs.size + 5 := by rw [Heap.size_push, z4]
  have g5 : (zg5 s.heap o1 o2).get? (zg4 s.heap o1 o2).objs.size = some _ := Heap.get?_push_size _ rfl
  have g4 : (zg5 s.heap o1 o2).get? (zg3 s.heap o1 o2).objs.size = some _ := Heap.get?_push_of_some _ (Heap.get?_push_size _ rfl)
  have g3 : (zg5 s.heap o1 o2).get? (zg2 s.heap o1 o2).objs.size = some _ := Heap.get?_push_of_some _ (Heap.get?_push_of_some _ (Heap.get?_push_size _ rfl))
  have g2 : (zg5 s.heap o1 o2).get? (zg1 s.heap o1).objs.size = some o2 := Heap.get?_push_of_some _ (Heap.get?_push_of_some _ (Heap.get?_push_of_some _ (Heap.get?_push_size _ f2)))
  have g1 : (zg5 s.heap o1 o2).get? s.heap.objs.size = some o1 := Heap.get?_push_of_some _ (Heap.get?_push_of_some _ (Heap.get?_push_of_some _ (Heap.get?_push_of_some _ (Heap.get?_push_size _ f1))))
  show _ ∧ _
  rw [z2, z3, z4] at g5
  rw [z1, z2] at g3
  rw [z3] at g4
  rw [z1] at g2
  rw [z4]
  exact ⟨⟨_, g5, rfl⟩, h _ g5 g3 g4 g1 g2 z5 fun c o x =>
    Heap.get?_push_of_some _ (Heap.get?_push_of_some _ (Heap.get?_push_of_some _ (Heap.get?_push_of_some _ (Heap.get?_push_of_some _ x))))⟩
end

/-- a value that zip can draw from -/
def Zs (w : World) (v : Value) (h : Heap) (n : Nat) (P : Nat → Value → Prop) : Prop := ∃ (o : Obj) (old : List Addr) (St : Addr → Nat → Heap → Prop),
  o.isFreed = false ∧ (∀ b ∈ old, ∃ o, h.get? b = some o) ∧ (∀ s : Shared, Kp h s.heap → Mkit v o s) ∧ (∀ I, I ∉ old → Nx PG w I (I :: old) n P (St I)) ∧ ∀ I h', Kp h h' → h'.get? I = some o → St I 0 h'

theorem Zs.list {w : World} {h : Heap} {l : Addr} {vs : List Value} {m : Nat} (e : h.get? l = some (lobj vs m)) : Zs w (.ref l) h vs.length (fun i v => vs[i]? = some v) := by
  have hl : ∀ {h' : Heap}, Kp h h' → h'.IsList l vs.toArray := fun k => ⟨_, k _ _ e, rfl, m, rfl⟩
  refine ⟨{ cls := .type "list_iterator", data := .fields #[.ref l, .int 0 0] }, [l], fun I i h => h.IsListIter I l i ∧ h.IsList l vs.toArray, rfl, (fun b hb => by rw [List.mem_singleton.mp hb]; exact ⟨_, e⟩), fun s k prog w A Q E q => wpAny_pyIter_list (hl k) q, fun I hI => ?_, fun I h' k e' => ⟨⟨_, e', rfl, rfl⟩, hl k⟩⟩
  have N := Nx.list (prog := PG) (w := w) (it := I) (l := l) (fun q => hI (by simp [q])) vs.toArray
  simpa using N
theorem Zs.tuple {w : World} {h : Heap} {l : Addr} {vs : List Value} {m : Nat} (e : h.get? l = some (tobj vs m)) : Zs w (.ref l) h vs.length (fun i v => vs[i]? = some v) := by
  have hl : ∀ {h' : Heap}, Kp h h' → h'.IsTuple l vs.toArray := fun k => ⟨_, k _ _ e, rfl, m, rfl⟩
  refine ⟨{ cls := .type "tuple_iterator", data := .fields #[.ref l, .int 0 0] }, [l], fun I i h => h.IsTupleIter I l i ∧ h.IsTuple l vs.toArray, rfl, (fun b hb => by rw [List.mem_singleton.mp hb]; exact ⟨_, e⟩), fun s k prog w A Q E q => wpAny_pyIter_tuple (hl k) q, fun I hI => ?_, fun I h' k e' => ⟨⟨_, e', rfl, rfl⟩, hl k⟩⟩
  have N := Nx.tuple (prog := PG) (w := w) (it := I) (l := l) (fun q => hI (by simp [q])) vs.toArray
  simpa using N
theorem Zs.str {w : World} {h : Heap} {l : List Nat} {t : Tok} (ha : ∀ c ∈ l, c < 128) : Zs w (.str (tx l) t) h l.length (fun i v => ∃ c, l[i]? = some c ∧ ∃ u, v = .str (tx [c]) u) := by
  refine ⟨{ cls := .type "str_ascii_iterator", data := .fields #[.str (tx l) t, .int 0 0] }, [], fun I i h => h.IsStrIter I "str_ascii_iterator" (tx l) t i, rfl, (fun b hb => by cases hb), fun s k prog w A Q E q => wpAny_pyIter_ascii (by rw [tx_cps]; simpa using ha) q, fun I _ => ?_, fun I h' k e' => ⟨_, e', rfl, rfl⟩⟩
  have N := Nx.str (prog := PG) (w := w) (it := I) (tx l) t
  have e1 : (tx l).cps.size = l.length := by rw [tx_cps, List.size_toArray]
  rw [e1] at N
  exact { N with item := fun A i s Q E hi st hQ => N.item A i s Q E hi st fun v h' tk ⟨c, u, ec, ev⟩ => hQ v h' tk ⟨c, by rw [tx_cps] at ec; simpa using ec, u, ev⟩ }

theorem It.mono {prog : Program} {w : World} {A : Around} {target : Expr} {tk : Bool} {I : Addr} {fp wr : List Addr} {n : Nat} {P P' : Nat → Value → Heap → Prop} {St : Nat → Heap → Prop} (W : It prog w A target tk I fp wr n P St)
    (h : ∀ i v h, i < n → P i v h → P' i v h) : It prog w A target tk I fp wr n P' St :=
  { W with step := fun i s Q E hi st hQ => W.step i s Q E hi st fun v h' tk p => hQ v h' tk (h i v h' hi p) }

section
variable {w : World} {A : Around} {E : Value → Shared → Prop} {s : Shared} {env : Env} {α β : Type}

/-- zip(e1, e2) -/
theorem Src.zip {e1 e2 f : Expr} {x y : Str} {px py tp pos : Pos} {xs : List (α × β)} {n2 : Nat} {P1 : α → Value → Prop} {P2 : β → Value → Prop} (hh : A.handled = none) (h0 : Ev (model PG w) A (eval f env) (IsV (.type "zip")) s)
    (h1 : ∀ s₁, Keeps s s₁ → Ev (model PG w) A (eval e1 env) (fun v h => Zs w v h xs.length (fun i v => ∃ q, xs[i]? = some q ∧ P1 q.1 v)) s₁)
    (h2 : ∀ s₁, Keeps s s₁ → Ev (model PG w) A (eval e2 env) (fun v h => Zs w v h n2 (fun i v => ∀ q, xs[i]? = some q → P2 q.2 v)) s₁) (hn : xs.length ≤ n2)
    (hs : starEach [e1, e2] env = [(false, eval e1 env), (false, eval e2 env)] := by rfl)
    (he : eval (.Call f [e1, e2] [] pos) env = (do callWith pos (← eval f env) [] (backTo pos (starEach [e1, e2] env)) (backToKw pos (keywordEach [] env))) := by rfl) :
    Src PG w A (.Tuple [.Name x px, .Name y py] 0 tp) false (eval (.Call f [e1, e2] [] pos) env) xs (fun q v h => ∃ a vs n u1 u2, v = .ref a ∧ h.get? a = some (tobj vs n) ∧ vs = [u1, u2] ∧ P1 q.1 u1 ∧ P2 q.2 u2) s := by
  intro Q E hQ
  refine Call_ (h0.use' fun v s₁ k₁ e0 => ?_) he
  have e0 : v = .type "zip" := e0
  subst e0
  rw [hs]
  refine PyProof.Rows.callWith_type rfl (Calls.evalArgs_plain ?_)
  refine Calls.spliced_cons ?_
  show wpAny _ A (eval e1 env) _ E s₁
  refine (h1 s₁ k₁).use' fun v1 s₂ k₂ z1 => Calls.spliced_cons ?_
  show wpAny _ A (eval e2 env) _ E s₂
  refine (h2 s₂ (keeps_trans k₁ k₂)).use' fun v2 s₃ k₃ z2 => Calls.spliced_nil ?_
  obtain ⟨o1, old1, St1, f1, lt1, m1, N1, i1⟩ := z1
  obtain ⟨o2, old2, St2, f2, lt2, m2, N2, i2⟩ := z2
  have kk := keeps_trans (keeps_trans k₁ k₂) k₃
  refine call_zip_gen (m1 s₃ (keeps_heap k₃)) (m2 _ kp_push) f1 f2 fun h' hz hTI hTO g1 g2 hsz kp => ?_
  have lt1' : ∀ a ∈ old1, a < s₃.heap.objs.size := fun a ha => by
    obtain ⟨o, e⟩ := lt1 a ha
    exact Heap.lt_size (keeps_heap k₃ _ _ e)
  have lt2' : ∀ a ∈ old2, a < s₃.heap.objs.size := fun a ha => by
    obtain ⟨o, e⟩ := lt2 a ha
    exact Heap.lt_size e
  generalize hb : s₃.heap.objs.size = b at hz hTI hTO g1 g2 hsz lt1' lt2' ⊢
  have ne : ∀ i j : Nat, i ≠ j → (b + i : Nat) ≠ b + j := fun i j h q => h (by omega)
  have nlt : ∀ i : Nat, ¬ (b + i : Nat) < b := fun i => by omega
  have nin1 : ∀ i : Nat, i ≠ 0 → (b + i : Nat) ∉ (b :: old1 : List Nat) := fun i hi q => by
    rcases List.mem_cons.mp q with q | q
    · exact ne i 0 hi q
    · exact nlt i (lt1' _ q)
  have nin2 : ∀ i : Nat, i ≠ 1 → (b + i : Nat) ∉ ((b + 1) :: old2 : List Nat) := fun i hi q => by
    rcases List.mem_cons.mp q with q | q
    · exact ne i 1 hi q
    · exact nlt i (lt2' _ q)
  have N1' := N1 b (fun q => nlt 0 (lt1' _ q))
  have N2' := N2 (b + 1) (fun q => nlt 1 (lt2' _ q))
  have D : ZA (b + 4) (b + 2) (b + 3) b (b + 1) (b :: old1) ((b + 1) :: old2) :=
    ⟨ne 2 4 (by decide), ne 3 4 (by decide), ne 2 3 (by decide), nin1 2 (by decide), nin2 2 (by decide), nin1 4 (by decide), nin2 4 (by decide), nin1 3 (by decide), nin2 3 (by decide), nin2 0 (by decide), nin1 1 (by decide)⟩
  have W := (It.zip (A := A) N1' N2' D (elts := [.Name x px, .Name y py]) (x1 := 0) (pos := tp) hh hn).mono (P' := fun i v h => ∃ q, xs[i]? = some q ∧ ∃ a vs n u1 u2, v = .ref a ∧ h.get? a = some (tobj vs n) ∧ vs = [u1, u2] ∧ P1 q.1 u1 ∧ P2 q.2 u2)
    fun i v h hi ⟨T, u1, u2, ev, ho, ⟨q, eq, p1⟩, p2⟩ => ⟨q, eq, T, [u1, u2], 0, u1, u2, ev, ho, rfl, p1, p2 q eq⟩
  have hold : ∀ i : Nat, s.heap.get? (b + i) = none := fun i => none_kp (keeps_heap kk) (Heap.get?_none_of_le (hb ▸ Nat.le_add_right b i))
  refine wpAny_pyIter_zip hz ?_
  refine hQ (b + 4) _ _ _ _ ?_ W ⟨hz, hTI, ⟨_, _, hTO⟩, i1 b h' (fun c o e => kp _ _ (keeps_heap k₃ _ _ e)) g1, i2 (b + 1) h' kp g2⟩ (fun c hc => ?_) (fun c hc => ?_)
  · obtain ⟨hh3, t3, rfl, kk⟩ := kk
    exact keeps_mk fun c o e => kp _ _ (kk _ _ e)
  · show c < h'.objs.size
    rw [hsz]
    have lt : ∀ i : Nat, i < 5 → (b + i : Nat) < b + 5 := fun i hi => by omega
    have lts : ∀ c : Nat, c < b → c < b + 5 := fun c hc => by omega
    simp only [List.cons_append, List.nil_append, List.mem_cons, List.mem_append, or_assoc] at hc
    rcases hc with q | q | q | q | q | q | q
    · rw [q]; exact lt 4 (by decide)
    · rw [q]; exact lt 2 (by decide)
    · rw [q]; exact lt 3 (by decide)
    · rw [q]; exact lt 0 (by decide)
    · exact lts _ (lt1' _ q)
    · rw [q]; exact lt 1 (by decide)
    · exact lts _ (lt2' _ q)
  · simp only [List.mem_cons, List.not_mem_nil, or_false] at hc
    rcases hc with q | q | q | q
    · rw [q]; exact hold 4
    · rw [q]; exact hold 3
    · rw [q]; exact hold 0
    · rw [q]; exact hold 1
end
end Mine

end

-- ======== Mach1 ========
section
open PySem PySem.W PyProof.Rows
set_option maxRecDepth 100000
set_option maxHeartbeats 1000000
namespace Mine

section
variable {w : World} {A : Around} {E : Value → Shared → Prop} {s : Shared} {env : Env}

theorem Ev.fdivInt {a b : Int} {t u : Tok} (hb : b ≠ 0) (hs : b.natAbs < 1073741824) : Ev (model PG w) A (binaryOp .FloorDiv (.int a t) (.int b u)) (IsI (a.fdiv b)) s := fun _ =>
  PyProof.Rows.floordiv_int hb ⟨keeps_tok, _, rfl⟩ (.inl (PyProof.noPylong_small hs))

theorem Ev.subStr {value slice : Expr} {l : List Nat} {i c : Nat} {t u : Tok} (hl : l.length ≤ 1000) (hc : l[i]? = some c)
    (hs : subscripted slice false (.str (tx l) t) (.int i u) = operate [.str (tx l) t, .int i u] (getItem (.str (tx l) t) (.int i u)) := by with_unfolding_all rfl) :
    Ev (model PG w) A (subscriptTail value slice (.str (tx l) t) (.int i u)) (IsC c) s := fun _ => by
  have hi : i < l.length := (List.getElem?_eq_some_iff.mp hc).1
  have hlen : (tx l).length = l.length := List.size_toArray
  refine tail_any (typeIs_str s (tx l) t) PySem.F.slot_str_getitem.lookup (PySem.P.getItem_str (c := c) ?_ ?_ ⟨keeps_tok, _, rfl⟩) hs
  · have h1 : ¬ ((i : Int) < -(2 ^ 63 : Int)) := by omega
    have h2 : ¬ ((i : Int) ≥ 2 ^ 63) := by omega
    rw [decide_eq_false h1, decide_eq_false h2]; rfl
  · rw [hlen]
    have e : seqIndex? (i : Int) l.length = some i := by
      unfold seqIndex?
      simp only [show ¬ ((i : Int) < 0) by omega, if_false]
      simp [hi]
    rw [e]
    show (tx l).cps[i]? = some c
    rw [tx_cps]; simpa using hc

/-- the items of a display -/
theorem splice_ev : ∀ {es : List Expr} {Ps : List (Value → Prop)} {s : Shared}, All2 (fun e P => ∀ s₁, Keeps s s₁ → Ev (model PG w) A (eval e env) (fun v _ => P v) s₁) es Ps → Ev (model PG w) A (spliced (es.map fun e => (false, eval e env))) (fun vs _ => All2 (fun P v => P v) Ps vs) s
  | _, _, s, .nil => fun _ => Calls.spliced_nil ⟨keeps_refl, .nil⟩
  | _, _, s, .cons h r => fun E => by
    refine Calls.spliced_cons ((h s keeps_refl).use' fun v s₁ k₁ p => ?_)
    refine (splice_ev (r.mono fun _ _ q s₂ k₂ => q s₂ (keeps_trans k₁ k₂))).use' fun vs s₂ k₂ p₂ => ?_
    exact ⟨keeps_trans k₁ k₂, .cons p p₂⟩

theorem Ev.listD {elts : List Expr} {pos : Pos} (Ps : List (Value → Prop)) (h : All2 (fun e P => ∀ s₁, Keeps s s₁ → Ev (model PG w) A (eval e env) (fun v _ => P v) s₁) elts Ps) (hl : Ps.length ≤ 100)
    (he : backTo pos (starEach elts env) = elts.map fun e => (false, eval e env) := by rfl) :
    Ev (model PG w) A (eval (.List elts pos) env) (fun v h => ∃ D vs, v = .ref D ∧ s.heap.get? D = none ∧ h.get? D = some (lobj vs 0) ∧ All2 (fun P v => P v) Ps vs) s := fun E => by
  have hz := szl
  refine wpAny_List ?_
  rw [he]
  refine (splice_ev h).use' fun vs s₁ k₁ r => ?_
  have hlen := r.length
  exact ⟨by omega, keeps_trans k₁ keeps_push, _, vs, rfl, none_kp (keeps_heap k₁) (Heap.get?_none_of_le (Nat.le_refl _)), Heap.get?_push_size _ rfl, r⟩
theorem Ev.tupleD {elts : List Expr} {pos : Pos} {kk : Nat} (Ps : List (Value → Prop)) (h : All2 (fun e P => ∀ s₁, Keeps s s₁ → Ev (model PG w) A (eval e env) (fun v _ => P v) s₁) elts Ps) (hl : Ps.length ≤ 100)
    (he : backTo pos (starEach elts env) = elts.map fun e => (false, eval e env) := by rfl) :
    Ev (model PG w) A (eval (.Tuple elts kk pos) env) (fun v h => ∃ D vs, v = .ref D ∧ s.heap.get? D = none ∧ h.get? D = some (tobj vs 0) ∧ All2 (fun P v => P v) Ps vs) s := fun E => by
  have hz := szl
  refine PySem.wpAny_Tuple ?_
  rw [he]
  refine (splice_ev h).use' fun vs s₁ k₁ r => ?_
  have hlen := r.length
  exact ⟨by omega, keeps_trans k₁ keeps_push, _, vs, rfl, none_kp (keeps_heap k₁) (Heap.get?_none_of_le (Nat.le_refl _)), Heap.get?_push_size _ rfl, r⟩
def isInts (ns : List Int) : List (Value → Prop) := ns.map fun n v => ∃ t, v = .int n t
theorem isInts_all {ns : List Int} {vs : List Value} (r : All2 (fun (P : Value → Prop) v => P v) (isInts ns) vs) : All2 (fun n v => ∃ t, v = .int n t) ns vs := All2.of_map_left r

/-- T(e), T a built-in type -/
theorem Ev.tcall1 {f e : Expr} {pos : Pos} {T : String} {P R : VP} (h0 : Ev (model PG w) A (eval f env) (IsV (.type T)) s) (h1 : ∀ s₁, Keeps s s₁ → Ev (model PG w) A (eval e env) P s₁)
    (h2 : ∀ v s₁, Keeps s s₁ → P v s₁.heap → Ev (model PG w) A (call (.type T) [v]) R s₁)
    (hs : starEach [e] env = [(false, eval e env)] := by rfl)
    (he : eval (.Call f [e] [] pos) env = (do callWith pos (← eval f env) [] (backTo pos (starEach [e] env)) (backToKw pos (keywordEach [] env))) := by rfl) : Ev (model PG w) A (eval (.Call f [e] [] pos) env) R s := fun E => by
  refine Call_ (h0.use' fun v s₁ k₁ e1 => ?_) he
  have e1 : v = .type T := e1
  subst e1
  rw [hs]
  refine PyProof.Rows.callWith_type rfl (Calls.evalArgs_plain (Calls.spliced_cons ?_))
  show wpAny _ A (eval e env) _ E s₁
  refine (h1 s₁ k₁).use' fun v s₂ k₂ p₂ => Calls.spliced_nil ?_
  exact (h2 v s₂ (keeps_trans k₁ k₂) p₂).use' fun _ _ k₃ r => ⟨keeps_trans (keeps_trans k₁ k₂) k₃, r⟩

theorem Ev.listOf {a : Addr} {vs : List Value} {n : Nat} (e : s.heap.get? a = some (lobj vs n)) (hl : vs.length ≤ 1000) : Ev (model PG w) A (call (.type "list") [.ref a]) (fun v h => ∃ D c, v = .ref D ∧ h.get? D = some (lobj vs c)) s := fun _ => by
  have hz := szl
  exact call_list_seq a (items := vs.toArray) (n := n) (.inl rfl) e rfl rfl (fun h' c' k e' => ⟨keeps_mk k, _, c', rfl, e'⟩) (by rw [List.size_toArray]; omega)

theorem rep_foldl (v : Value) : ∀ (m : Nat) (acc : Array Value), List.foldl (fun x1 x2 => x1 ++ x2) acc (List.replicate m [v].toArray) = acc ++ (List.replicate m v).toArray
  | 0, acc => by simp
  | m + 1, acc => by
    rw [List.replicate_succ, List.foldl_cons, rep_foldl v m, List.replicate_succ, Array.append_assoc]
    have e : #[v] ++ (List.replicate m v).toArray = (v :: List.replicate m v).toArray := by apply Array.toList_inj.mp; simp
    rw [e]
theorem Ev.mulL {l : Addr} {v : Value} {n : Nat} {u : Tok} {x : Int} (e : s.heap.get? l = some (lobj [v] n)) (h0 : 0 ≤ x) (hm : x ≤ 1000) : Ev (model PG w) A (binaryOp .Mult (.ref l) (.int x u)) (fun r h => ∃ D, r = .ref D ∧ h.get? D = some (lobj (List.replicate x.toNat v) 0)) s := fun E => by
  obtain ⟨items, hi⟩ : ∃ items : Array Value, items = [v].toArray := ⟨_, rfl⟩
  have hsz : items.size * x.toNat ≤ 2 ^ 24 := by rw [hi, List.size_toArray, List.length_singleton]; omega
  have e2 : List.foldl (fun x1 x2 => x1 ++ x2) #[] (List.replicate (if [v].toArray.isEmpty = true then 0 else x.toNat) [v].toArray) = (List.replicate x.toNat v).toArray := by
    have e3 : (if [v].toArray.isEmpty = true then 0 else x.toNat) = x.toNat := by simp
    rw [e3, rep_foldl]; simp
  rw [← hi] at e2
  have e : s.heap.get? l = some { cls := .type "list", dict := none, data := .seq items n, slots := #[] } := by rw [hi]; exact e
  refine wpAny_binaryOp_repeat_ref (T := "list") (U := "int") (by decide) ⟨_, e, rfl⟩ (fun s' => typeIs_int s' x u) noFill_list_mul PySem.F.fills_int_mul PySem.F.slot_int_rmul repeat_list PySem.F.slot_int_index.lookup
    (call_meets PySem.F.slot_int_rmul (typeIs_int s x u) PySem.F.entry_int_rmul (PySem.F.args_int_rmul_2 _ _) (int___rmul___int_list x u l items n)
      ⟨e, rfl, ⟨_, e, rfl⟩, call_meets PySem.F.slot_list_mul ⟨_, e, rfl⟩ PySem.F.entry_list_mul (PySem.F.args_list_mul_2 _ _)
        (AutoListH.list___mul___list_int_3 l items n x u (by simp [Builtin.List.listFitsIndex]; omega) (by omega) (by simp [Builtin.List.listTooLong, sizeLine]; omega))
        ⟨e, ?_⟩⟩)
  exact ⟨keeps_push, _, rfl, by rw [e2]; exact Heap.get?_push_size _ rfl⟩

/-- {k1: v1, k2: v2}, the keys texts -/
theorem Ev.dict2 {k1 k2 v1 v2 : Expr} {pos : Pos} {x1 x2 : Str} {P1 P2 : VP} (hne : x1 ≠ x2) (hk1 : ∀ s₁, Keeps s s₁ → Ev (model PG w) A (eval k1 env) (IsS x1) s₁) (h1 : ∀ s₁, Keeps s s₁ → Ev (model PG w) A (eval v1 env) P1 s₁)
    (hk2 : ∀ s₁, Keeps s s₁ → Ev (model PG w) A (eval k2 env) (IsS x2) s₁) (h2 : ∀ s₁, Keeps s s₁ → Ev (model PG w) A (eval v2 env) P2 s₁)
    (hP1 : ∀ v h h', KpW [s.heap.objs.size] h h' → P1 v h → P1 v h') (hP2 : ∀ v h h', KpW [s.heap.objs.size] h h' → P2 v h → P2 v h') :
    Ev (model PG w) A (eval (.Dict [some k1, some k2] [v1, v2] pos) env) (fun v h => ∃ D u1 u2, v = .ref D ∧ h.MapOf (strKind PG w) D (valueAt [(x1, u1), (x2, u2)]) ∧ P1 u1 h ∧ P2 u2 h) s := fun E => by
  have kp : Keeps s { s with heap := s.heap.push emptyDict } := keeps_push
  have dz : ∀ s₁ : Shared, Keeps { s with heap := s.heap.push emptyDict } s₁ → s₁.heap.DictOf (strKind PG w) s.heap.objs.size [] := fun s₁ k => (Heap.DictOf.new s.heap).at fun o e => keeps_heap k _ _ e
  refine wpAny_Dict_walk (knd := strKind PG w) rfl rfl (by simp) (by simp) ?_
  refine pairTrees_cons_walk ((hk1 _ kp).use' fun kv1 s₁ k₁ ⟨t1, e1⟩ => (h1 s₁ (keeps_trans kp k₁)).use' fun u1 s₂ k₂ p1 => ?_)
  have kk2 := keeps_trans (keeps_trans kp k₁) k₂
  refine pairTrees_cons_walk ((hk2 s₂ kk2).use' fun kv2 s₃ k₃ ⟨t2, e2⟩ => (h2 s₃ (keeps_trans kk2 k₃)).use' fun u2 s₄ k₄ p2 => pairTrees_nil_walk ?_)
  subst e1 e2
  have kk4 := keeps_trans (keeps_trans kk2 k₃) k₄
  refine ⟨[(x1, u1), (x2, u2)], ?_, dz _ (keeps_trans (keeps_trans (keeps_trans k₁ k₂) k₃) k₄), fun h' hd hs => ?_⟩
  · exact ⟨strKind_is PG w x1 t1, rfl, strKind_is PG w x2 t2, rfl, trivial⟩
  · have em : merged ([] : List (Str × Value)) [(x1, u1), (x2, u2)] = [(x1, u1), (x2, u2)] := by
      simp [merged, stored, hne]
    rw [em] at hd
    obtain ⟨h4, t4, rfl, kk4⟩ := kk4
    have kwA : KpW [s.heap.objs.size] h4 h' := sameBut_kw hs (by simp)
    refine ⟨keeps_mk fun b o e => hs.extBut b o (fun q => ?_) (kk4 _ _ e), _, u1, u2, rfl, hd.mapOf, hP1 _ _ _ ?_ p1, hP2 _ _ _ kwA p2⟩
    · have := Heap.lt_size e; rw [q] at this; exact Nat.lt_irrefl _ this
    · exact fun b o hb e => kwA b o hb (keeps_heap k₄ _ _ (keeps_heap k₃ _ _ e))
end
end Mine

end

-- ======== Mach2 ========
section
open PySem PySem.W PyProof.Rows
set_option maxRecDepth 100000
set_option maxHeartbeats 1000000
namespace Mine

theorem Zs.mono {w : World} {v : Value} {h : Heap} {n : Nat} {P P' : Nat → Value → Prop} (z : Zs w v h n P) (hp : ∀ i v, i < n → P i v → P' i v) : Zs w v h n P' := by
  obtain ⟨o, old, St, a, b, c, N, e⟩ := z
  exact ⟨o, old, St, a, b, c, fun I hI => { N I hI with item := fun A i s Q E hi st hQ => (N I hI).item A i s Q E hi st fun v h' tk p => hQ v h' tk (hp i v hi p) }, e⟩

def base6 : List Int := [45, 31, 5, 60, 13, 23]
def nums (script : List Int) : List Int := (base6.zip (script.take 6 ++ List.replicate 6 0)).map fun q => q.1 + q.2
theorem nums_len (script : List Int) : (nums script).length = 6 := by
  unfold nums
  rw [List.length_map, List.length_zip, List.length_append, List.length_replicate]
  show min 6 _ = 6
  omega
def nth6 (i : Nat) : Nat := (L6[i % 6]?).getD 97
theorem nth6_mem (i : Nat) : nth6 i ∈ L6 := by
  have h : i % 6 < 6 := Nat.mod_lt _ (by decide)
  unfold nth6
  rw [List.getElem?_eq_getElem (by exact h)]
  exact List.getElem_mem _
theorem nth6_at (i : Nat) (h : i < 6) : L6[i]? = some (nth6 i) := by
  unfold nth6
  rw [Nat.mod_eq_of_lt h, List.getElem?_eq_getElem (by exact h)]; rfl

def gladBit (q : Nat × Int) : Bool := decide ((q.2.fdiv 36).fmod 2 = 1)
/-- a state's number -/
def stepOf (f : Int → Nat) (ns : List Int) (c : Nat) : Nat := match (L6.zip ns).find? (fun q => q.1 == c) with
  | some q => nth6 (f q.2)
  | none => 97
theorem stepOf_mem {f : Int → Nat} {ns : List Int} {c : Nat} : stepOf f ns c ∈ L6 := by
  unfold stepOf
  split
  · exact nth6_mem _
  · decide

theorem zip_nodup {ns : List Int} (h : ns.length = 6) : ((L6.zip ns).map fun q => tx [q.1]).Nodup := by
  have e : ((L6.zip ns).map fun q => tx [q.1]) = L6.map fun c => tx [c] := by
    have e1 : ((L6.zip ns).map Prod.fst) = L6 := List.map_fst_zip (by rw [h]; decide)
    have e2 : L6.map (fun c => tx [c]) = ((L6.zip ns).map Prod.fst).map fun c => tx [c] := by rw [e1]
    rw [e2, List.map_map]; rfl
  rw [e]; exact nodup_L6

theorem isStep_of {w : World} {f : Int → Nat} {ns : List Int} {D : Addr} {o : Obj} {h : Heap} (hn : ns.length = 6) (e : h.get? D = some o) (d : DctOf w (fun q : Nat × Int => tx [q.1]) (fun q v => ∃ t, v = .str (tx [nth6 (f q.2)]) t) (L6.zip ns) o h) : IsStep w (stepOf f ns) (.ref D) h := by
  obtain ⟨g, m, r⟩ := d.map e (zip_nodup hn)
  refine ⟨D, g, rfl, m, fun c hc => ?_⟩
  cases hq : (L6.zip ns).find? (fun q => q.1 == c) with
  | none =>
    obtain ⟨i, hi⟩ := List.getElem?_of_mem hc
    have hi6 : i < ns.length := by have := (List.getElem?_eq_some_iff.mp hi).1; rw [hn]; exact this
    have : (c, ns[i]) ∈ L6.zip ns := by
      refine List.mem_of_getElem? (i := i) ?_
      rw [List.getElem?_zip_eq_some]; exact ⟨hi, List.getElem?_eq_getElem hi6⟩
    have z := List.find?_eq_none.mp hq _ this
    simp at z
  | some q =>
    have h1 := List.find?_some hq
    have h2 := List.mem_of_find?_eq_some hq
    obtain ⟨v, ev, t, et⟩ := r q h2
    have e1 : q.1 = c := by simpa using h1
    refine ⟨t, ?_⟩
    rw [← e1, ev, et]
    unfold stepOf
    rw [e1, hq]

/-- what a machine is -/
def IsMach (w : World) (δ : Nat → Nat → Nat) (glad : List Nat) : VP := fun v h => ∃ t sv gv n, v = .ref t ∧ h.get? t = some (tobj [sv, gv] n) ∧ IsSteps w δ sv h ∧ IsTx glad gv h

section
variable {w : World} {A : Around} {E : Value → Shared → Prop} {s : Shared} {mg mb : Str → Option Value} {k : Nat}

theorem machine_spec {l : Addr} {svs : List Value} {sm : Nat} {script : List Int} {Q : Value → Shared → Prop} (G : Gd w mg mb s.heap) (R : Rm A (k + 1)) (hl : s.heap.get? l = some (lobj svs sm)) (Ls : All2 (fun i v => IsI i v s.heap) script svs) (hlen : script.length ≤ 63)
    (hQ : ∀ δ glad v h' tk, (∀ sg c, δ sg c ∈ L6) → (∀ c ∈ glad, c ∈ L6) → glad.length ≤ 6 → IsMach w δ glad v h' → Kp s.heap h' → Q v { s with heap := h', toks := tk }) :
    wpAny (model PG w) A (call (.ref 116) [.ref l]) Q E s := by
  refine call_at G R (binds := [("script", .ref l)]) rfl rfl rfl rfl (BindsTo.of_eq rfl) rfl rfl rfl (by exact List.Pairwise.nil) (by intro p hp; cases hp) ⟨.inl rfl, trivial⟩ fun n h₁ tk₁ hn F => ?_
  have R' : Rm (A.deeper (envAt 116 n)) k := R.deeper
  have hh := R'.hh
  have lenS := Ls.length
  have zipN : ∀ (s₁ : Shared) pos, Kp s.heap s₁.heap → Ev (model PG w) (A.deeper (envAt 116 n)) (eval (.Name "zip" pos) (envAt 116 n)) (IsV (.type "zip")) s₁ := fun s₁ pos k₁ => bname (G.kp k₁) rfl rfl (by decide +kernel) (by decide) rfl rfl rfl
  -- numbers = ..
  refine wpAny_execs_cons (exec_list_used (tk := false) (xs := base6.zip (script.take 6 ++ List.replicate 6 0)) (P := fun q v h => ∃ a vs n u1 u2, v = .ref a ∧ h.get? a = some (tobj vs n) ∧ vs = [u1, u2] ∧ (∃ t, u1 = .int q.1 t) ∧ ∃ t, u2 = .int q.2 t) (G := fun q => IsI (q.1 + q.2)) (cl := [])
    (fun _ => true) (fun q ρ _ => ∃ u1 u2, ρ "x" = some u1 ∧ ρ "y" = some u2 ∧ (∃ t, u1 = .int q.1 t) ∧ ∃ t, u2 = .int q.2 t) F (.inl rfl) (fun x c ec => by cases ec) rfl List.Pairwise.nil (fun q hq => by cases hq) (fun _ _ _ _ x _ => x) (fun _ _ _ _ _ x => x) ?_
    ?_ (fun a C _ => Assigns.pair hh (.inl rfl) (.inl rfl) (by decide)) (fun a C ρ h tk' ha _ kk F' => Ev.tests0) (fun a C ρ h tk' ha _ ⟨u1, u2, r1, r2, ⟨t1, e1⟩, ⟨t2, e2⟩⟩ kk F' => ?_) fun D h₂ tk₂ F₂ kf₂ nD hD => ?_)
  · rw [List.length_zip]; have : base6.length = 6 := rfl; omega
  · refine Src.zip (P1 := fun a u => ∃ t, u = .int a t) (P2 := fun a u => ∃ t, u = .int a t) (n2 := (script.take 6 ++ List.replicate 6 0).length) hh ?_ (fun s₁ k₁ => ?_) (fun s₁ k₁ => ?_) ?_
    · exact zipN _ _ F.keep
    · refine (Ev.tupleD (isInts base6) (.cons (fun _ _ => Ev.cint) (.cons (fun _ _ => Ev.cint) (.cons (fun _ _ => Ev.cint) (.cons (fun _ _ => Ev.cint) (.cons (fun _ _ => Ev.cint) (.cons (fun _ _ => Ev.cint) .nil)))))) (by decide)).mono fun v h' k' ⟨D, vs, e, _, hD, r⟩ => ?_
      have r := isInts_all r
      have lr := r.length
      have lb : base6.length = 6 := rfl
      subst e
      have z := Zs.tuple (w := w) hD
      have el : vs.length = (base6.zip (script.take 6 ++ List.replicate 6 0)).length := by
        rw [List.length_zip, List.length_append, List.length_replicate]; omega
      rw [el] at z
      refine z.mono fun i v hi ev => ?_
      obtain ⟨q, hq⟩ : ∃ q, (base6.zip (script.take 6 ++ List.replicate 6 0))[i]? = some q := ⟨_, List.getElem?_eq_getElem hi⟩
      refine ⟨q, hq, ?_⟩
      obtain ⟨b, hb, pb⟩ := r.get' ev
      rw [List.getElem?_zip_eq_some] at hq
      rw [hq.1] at hb; cases hb
      exact pb
    · refine (Ev.binop (P1 := fun v h => ∃ D c, v = .ref D ∧ h.get? D = some (lobj (svs.take 6) c)) (P2 := fun v h => ∃ D z t, v = .ref D ∧ z = .int 0 t ∧ h.get? D = some (lobj (List.replicate 6 z) 0)) (R := fun v h => ∃ D z t, v = .ref D ∧ z = .int 0 t ∧ h.get? D = some (lobj (svs.take 6 ++ List.replicate 6 z) 0))
        (Ev.tcall1 (T := "list") (P := fun v h => ∃ D, v = .ref D ∧ h.get? D = some (lobj (svs.take 6) 0)) (bname (G.kp fun b o e => keeps_heap k₁ _ _ (F.keep _ _ e)) rfl rfl (by decide +kernel) (by decide) rfl rfl rfl)
          (fun s₂ k₂ => (Ev.sliceG (lo := none) (hi := some 6) (us := svs.take 6) (Ev.name rfl ((F.rd (x := "script") rfl).keeps (keeps_heap (keeps_trans k₁ k₂)))) (fun s₃ k₃ => Ev.partNone) (fun s₃ k₃ => Ev.partInt Ev.cint) (keeps_heap (keeps_trans k₁ k₂) _ _ (F.keep _ _ hl)) (by omega) (pick_upto svs 6)).mono fun _ _ _ ⟨D, e, _, hD⟩ => ⟨D, e, hD⟩)
          (fun v s₂ k₂ ⟨D, e, hD⟩ => by subst e; exact Ev.listOf hD (by rw [List.length_take]; omega)))
        (fun o s₂ k₂ _ => Ev.binop (P1 := fun v h => ∃ D z t, v = .ref D ∧ z = .int 0 t ∧ h.get? D = some (lobj [z] 0)) (P2 := IsI 6)
          ((Ev.listD (isInts [0]) (.cons (fun _ _ => Ev.cint) .nil) (by decide)).mono fun v h' _ ⟨D, vs, e, _, hD, r⟩ => by
            have r' := isInts_all r
            clear r
            cases r' with
            | cons p r2 => cases r2; obtain ⟨t, et⟩ := p; exact ⟨D, _, t, e, et, hD⟩)
          (fun o s₃ k₃ _ => Ev.cint)
          (fun o j s₃ s₄ k₃ ⟨D, z, t, e1, ez, hD⟩ k₄ ⟨t2, e2⟩ => by
            subst e1 e2
            exact (Ev.mulL (keeps_heap k₄ _ _ hD) (by decide) (by decide)).mono fun v h' _ ⟨D', e', hD'⟩ => ⟨D', z, t, e', ez, hD'⟩))
        fun o j s₂ s₃ k₂ ⟨D1, c1, e1, h1⟩ k₃ ⟨D2, z, t, e2, ez, h2⟩ => by
          subst e1 e2
          exact (Ev.addL (keeps_heap k₃ _ _ h1) h2 (by rw [List.length_take, List.length_replicate]; omega)).mono fun v h' _ ⟨D', e', _, hD'⟩ => ⟨D', z, t, e', ez, hD'⟩).mono fun v h' _ ⟨D, z, t, e, ez, hD⟩ => ?_
      subst e ez
      have z := Zs.list (w := w) hD
      have el : (svs.take 6 ++ List.replicate 6 (Value.int 0 t)).length = (script.take 6 ++ List.replicate 6 0).length := by
        rw [List.length_append, List.length_append, List.length_take, List.length_take, List.length_replicate, List.length_replicate, lenS]
      rw [el] at z
      refine z.mono fun i v hi ev q hq => ?_
      have rall : All2 (fun (i : Int) v => ∃ t, v = Value.int i t) (script.take 6 ++ List.replicate 6 0) (svs.take 6 ++ List.replicate 6 (Value.int 0 t)) := by
        refine All2.append ((Ls.take 6).mono fun _ _ q => q) ?_
        have : ∀ m : Nat, All2 (fun (i : Int) v => ∃ t, v = Value.int i t) (List.replicate m 0) (List.replicate m (Value.int 0 t)) := fun m => by
          induction m with
          | zero => exact .nil
          | succ m ih => exact .cons ⟨t, rfl⟩ ih
        exact this 6
      obtain ⟨b, hb, pb⟩ := rall.get' ev
      rw [List.getElem?_zip_eq_some] at hq
      rw [hq.2] at hb; cases hb
      exact pb
    · rw [List.length_zip]; exact Nat.min_le_right _ _
  · exact Ev.binop (P1 := IsI a.1) (P2 := IsI a.2) ((Ev.name rfl (F'.rd r1)).mono fun _ _ _ e => ⟨t1, (show _ = u1 from e).trans e1⟩) (fun o s₁ k₁ _ => (Ev.name rfl ((F'.rd r2).keeps (keeps_heap k₁))).mono fun _ _ _ e => ⟨t2, (show _ = u2 from e).trans e2⟩)
      fun o j s₁ s₂ _ ⟨t1, e1⟩ _ ⟨t2, e2⟩ => by subst e1 e2; exact Ev.addInt
  have R0 := nums_len script
  obtain ⟨ns, hns⟩ : ∃ ns, ns = nums script := ⟨_, rfl⟩
  rw [← hns] at R0
  have hD2 : IsL (fun x v _ => ∃ t, v = .int x t) ns (.ref D) h₂ := by
    obtain ⟨b, vs, m, e, ho, r⟩ := hD
    refine ⟨b, vs, m, e, ho, ?_⟩
    rw [hns]
    have e3 : (base6.zip (script.take 6 ++ List.replicate 6 0)).filter (fun _ => true) = base6.zip (script.take 6 ++ List.replicate 6 0) := List.filter_eq_self.mpr fun _ _ => rfl
    rw [e3] at r
    exact All2.map_left (f := fun q : Int × Int => q.1 + q.2) (F := fun x v => ∃ t, v = Value.int x t) r
  clear hD
  -- a source of pairs
  have srcP : ∀ {h : Heap} {tk : Nat} {ρ : Str → Option Value} {tp pos px1 px2 p3 p4 p5 : Pos} {k3 : Nat}, Fm s.heap (envAt 116 n) (fcAt 116 n) ρ h → ρ "numbers" = some (.ref D) → IsL (fun x v _ => ∃ t, v = .int x t) ns (.ref D) h →
      (heq : eval (.Call (.Name "zip" p3) [.Constant (.str "abcdef") k3 p4, .Name "numbers" p5] [] pos) (envAt 116 n) = (do callWith pos (← eval (.Name "zip" p3) (envAt 116 n)) [] (backTo pos (starEach [.Constant (.str "abcdef") k3 p4, .Name "numbers" p5] (envAt 116 n))) (backToKw pos (keywordEach [] (envAt 116 n))))) →
      Src PG w (A.deeper (envAt 116 n)) (.Tuple [.Name "state" px1, .Name "x" px2] 0 tp) false (eval (.Call (.Name "zip" p3) [.Constant (.str "abcdef") k3 p4, .Name "numbers" p5] [] pos) (envAt 116 n)) (L6.zip ns)
        (fun q v h => ∃ a vs n u1 u2, v = .ref a ∧ h.get? a = some (tobj vs n) ∧ vs = [u1, u2] ∧ (∃ t, u1 = .str (tx [q.1]) t) ∧ ∃ t, u2 = .int q.2 t) { s with heap := h, toks := tk } := by
    intro h tk ρ tp pos px1 px2 p3 p4 p5 k3 F' rN hD heq
    refine Src.zip (P1 := fun a u => ∃ t, u = .str (tx [a]) t) (P2 := fun a u => ∃ t, u = .int a t) (n2 := ns.length) hh ?_ (fun s₁ k₁ => ?_) (fun s₁ k₁ => ?_) ?_ (he := heq)
    · exact zipN _ _ F'.keep
    · refine Ev.mono (Ev.cstr' (l := L6)) fun v h' _ ⟨t, e⟩ => ?_
      subst e
      have z := Zs.str (w := w) (h := h') (l := L6) (t := t) (by decide)
      have el : L6.length = (L6.zip ns).length := by rw [List.length_zip, R0]; rfl
      rw [el] at z
      refine z.mono fun i v hi ⟨c, ec, ev⟩ => ?_
      obtain ⟨q, hq⟩ : ∃ q, (L6.zip ns)[i]? = some q := ⟨_, List.getElem?_eq_getElem hi⟩
      refine ⟨q, hq, ?_⟩
      rw [List.getElem?_zip_eq_some] at hq
      rw [hq.1] at ec; cases ec
      exact ev
    · refine Ev.mono (Ev.name rfl ((F'.rd rN).keeps (keeps_heap k₁))) fun v h' k' e => ?_
      have e : v = .ref D := e
      subst e
      obtain ⟨b, vs, m, eb, ho, r⟩ := hD
      cases eb
      have z := Zs.list (w := w) (k' _ _ (keeps_heap k₁ _ _ ho))
      rw [← r.length] at z
      refine z.mono fun i v hi ev q hq => ?_
      obtain ⟨x, hx, px⟩ := r.get' ev
      rw [List.getElem?_zip_eq_some] at hq
      rw [hq.2] at hx; cases hx
      exact px
    · rw [List.length_zip]; exact Nat.min_le_right _ _
  have pairV : ∀ (C : Addr) (scope : Scope) (cl : List (Str × Addr)) {px1 px2 tp : Pos} (q : Nat × Int), Own (cenv scope cl (envAt 116 n) C) (ncells scope C) "state" → Own (cenv scope cl (envAt 116 n) C) (ncells scope C) "x" → ∀ hb,
      Assigns PG w (A.deeper (envAt 116 n)) hb (cenv scope cl (envAt 116 n) C) (ncells scope C) (.Tuple [.Name "state" px1, .Name "x" px2] 0 tp) (fun v h => ∃ a vs n u1 u2, v = .ref a ∧ h.get? a = some (tobj vs n) ∧ vs = [u1, u2] ∧ (∃ t, u1 = .str (tx [q.1]) t) ∧ ∃ t, u2 = .int q.2 t)
        (fun ρ _ => ∃ u1 u2, ρ "state" = some u1 ∧ ρ "x" = some u2 ∧ (∃ t, u1 = .str (tx [q.1]) t) ∧ ∃ t, u2 = .int q.2 t) := fun C scope cl px1 px2 tp q h1 h2 hb => Assigns.pair hh h1 h2 (by decide)
  have zl : (L6.zip ns).length = 6 := by rw [List.length_zip, R0]; rfl
  have rD : ∀ {ρ : Str → Option Value}, upd ρ "numbers" (.ref D) "numbers" = some (.ref D) := by simp [upd]
  -- zero = ..
  refine wpAny_execs_cons (exec_dict_used (s := { s with heap := h₂, toks := tk₂ }) (xs := L6.zip ns) (kf := fun q => tx [q.1]) (G := fun q v => ∃ t, v = .str (tx [nth6 ((q.2.fmod 6).toNat)]) t) (cl := [])
    (fun q ρ _ => ∃ u1 u2, ρ "state" = some u1 ∧ ρ "x" = some u2 ∧ (∃ t, u1 = .str (tx [q.1]) t) ∧ ∃ t, u2 = .int q.2 t) F₂ (.inl rfl) (fun x c ec => by cases ec) rfl List.Pairwise.nil (fun q hq => by cases hq) (fun _ _ _ _ x _ => x) (by omega) (zip_nodup R0)
    (srcP F₂ rD hD2 rfl) (fun q C _ => pairV C _ _ q (.inl rfl) (.inl rfl) _) (fun a C ρ h tk' ha ⟨u1, u2, r1, r2, ⟨t1, e1⟩, ⟨t2, e2⟩⟩ kk F' => ?_) (fun a C ρ h tk' ha ⟨u1, u2, r1, r2, ⟨t1, e1⟩, ⟨t2, e2⟩⟩ kk F' => ?_) fun Z h₃ tk₃ F₃ kf₃ nZ ⟨oZ, eZ, dZ⟩ => ?_)
  · exact (Ev.name rfl (F'.rd r1)).mono fun _ _ _ e => ⟨t1, (show _ = u1 from e).trans e1⟩
  · subst e2
    obtain ⟨i, hi, ei⟩ := fmod_lt a.2 (b := 6) (by decide)
    have ei : a.2.fmod 6 = (i : Int) := ei
    rw [ei, Int.toNat_natCast]
    exact Ev.sub (P1 := IsS (tx L6)) (P2 := IsI i) Ev.cstr' (fun o s₁ k₁ _ => Ev.binop (P1 := IsI a.2) (P2 := IsI 6) ((Ev.name rfl ((F'.rd r2).keeps (keeps_heap k₁))).mono fun _ _ _ e => ⟨t2, e⟩) (fun o s₂ k₂ _ => Ev.cint)
        fun o j s₂ s₃ _ ⟨t3, e3⟩ _ ⟨t4, e4⟩ => by subst e3 e4; exact (Ev.modInt (by decide)).mono fun _ _ _ q => by rw [ei] at q; exact q)
      fun o j s₁ s₂ _ ⟨t3, e3⟩ _ ⟨t4, e4⟩ => by subst e3 e4; exact Ev.subStr (by decide) (nth6_at i hi)
  have ZL : Z ≠ (envAt 116 n).locals := fun q => F₂.loc_ne (by rw [← q]; exact nZ)
  have hD3 : IsL (fun x v _ => ∃ t, v = .int x t) ns (.ref D) h₃ := stq_L (fun _ _ _ _ _ q => q) _ _ _ (F₂.sq kf₃) hD2
  have rD3 : ∀ {ρ : Str → Option Value} {v : Value}, upd (upd ρ "numbers" (.ref D)) "zero" v "numbers" = some (.ref D) := fun {ρ v} => (upd_ne (by decide)).trans rD
  -- one = ..
  refine wpAny_execs_cons (exec_dict_used (s := { s with heap := h₃, toks := tk₃ }) (xs := L6.zip ns) (kf := fun q => tx [q.1]) (G := fun q v => ∃ t, v = .str (tx [nth6 (((q.2.fdiv 6).fmod 6).toNat)]) t) (cl := [])
    (fun q ρ _ => ∃ u1 u2, ρ "state" = some u1 ∧ ρ "x" = some u2 ∧ (∃ t, u1 = .str (tx [q.1]) t) ∧ ∃ t, u2 = .int q.2 t) F₃ (.inl rfl) (fun x c ec => by cases ec) rfl List.Pairwise.nil (fun q hq => by cases hq) (fun _ _ _ _ x _ => x) (by omega) (zip_nodup R0)
    (srcP F₃ rD3 hD3 rfl) (fun q C _ => pairV C _ _ q (.inl rfl) (.inl rfl) _) (fun a C ρ h tk' ha ⟨u1, u2, r1, r2, ⟨t1, e1⟩, ⟨t2, e2⟩⟩ kk F' => ?_) (fun a C ρ h tk' ha ⟨u1, u2, r1, r2, ⟨t1, e1⟩, ⟨t2, e2⟩⟩ kk F' => ?_) fun O h₄ tk₄ F₄ kf₄ nO ⟨oO, eO, dO⟩ => ?_)
  · exact (Ev.name rfl (F'.rd r1)).mono fun _ _ _ e => ⟨t1, (show _ = u1 from e).trans e1⟩
  · subst e2
    obtain ⟨i, hi, ei⟩ := fmod_lt (a.2.fdiv 6) (b := 6) (by decide)
    have ei : (a.2.fdiv 6).fmod 6 = (i : Int) := ei
    rw [ei, Int.toNat_natCast]
    exact Ev.sub (P1 := IsS (tx L6)) (P2 := IsI i) Ev.cstr' (fun o s₁ k₁ _ => Ev.binop (P1 := IsI (a.2.fdiv 6)) (P2 := IsI 6)
        (Ev.binop (P1 := IsI a.2) (P2 := IsI 6) ((Ev.name rfl ((F'.rd r2).keeps (keeps_heap k₁))).mono fun _ _ _ e => ⟨t2, e⟩) (fun o s₂ k₂ _ => Ev.cint) fun o j s₂ s₃ _ ⟨t3, e3⟩ _ ⟨t4, e4⟩ => by subst e3 e4; exact Ev.fdivInt (by decide) (by decide)) (fun o s₂ k₂ _ => Ev.cint)
        fun o j s₂ s₃ _ ⟨t3, e3⟩ _ ⟨t4, e4⟩ => by subst e3 e4; exact (Ev.modInt (by decide)).mono fun _ _ _ q => by rw [ei] at q; exact q)
      fun o j s₁ s₂ _ ⟨t3, e3⟩ _ ⟨t4, e4⟩ => by subst e3 e4; exact Ev.subStr (by decide) (nth6_at i hi)
  have OL : O ≠ (envAt 116 n).locals := fun q => F₃.loc_ne (by rw [← q]; exact nO)
  have hD4 : IsL (fun x v _ => ∃ t, v = .int x t) ns (.ref D) h₄ := stq_L (fun _ _ _ _ _ q => q) _ _ _ (F₃.sq kf₄) hD3
  have eZ4 : h₄.get? Z = some oZ := kf₄ _ _ ZL (fun q => by cases q) eZ
  have rD4 : ∀ {ρ : Str → Option Value} {v u : Value}, upd (upd (upd ρ "numbers" (.ref D)) "zero" v) "one" u "numbers" = some (.ref D) := fun {ρ v u} => (upd_ne (by decide)).trans rD3
  have rZ4 : ∀ {ρ : Str → Option Value} {v u : Value}, upd (upd (upd ρ "numbers" (.ref D)) "zero" v) "one" u "zero" = some v := fun {ρ v u} => (upd_ne (by decide)).trans (by simp [upd])
  have rO4 : ∀ {ρ : Str → Option Value} {v u : Value}, upd (upd (upd ρ "numbers" (.ref D)) "zero" v) "one" u "one" = some u := by simp [upd]
  have st0 : IsStep w (stepOf (fun x => (x.fmod 6).toNat) ns) (.ref Z) h₄ := isStep_of R0 eZ4 dZ
  have st1 : IsStep w (stepOf (fun x => ((x.fdiv 6).fmod 6).toNat) ns) (.ref O) h₄ := isStep_of R0 eO dO
  -- return ..
  refine wpAny_execs_cons (wpAny_Return_some (Ev.use (Ev.tuple2 (P1 := IsSteps w (fun sg => if sg = 48 then stepOf (fun x => (x.fmod 6).toNat) ns else stepOf (fun x => ((x.fdiv 6).fmod 6).toNat) ns)) (P2 := IsTx (((L6.zip ns).filter gladBit).map fun q : Nat × Int => q.1)) ?_ ?_ stb_steps stb_S) fun v h₅ tk₅ k₅ ⟨ta, v1, v2, e, _, ho, p1, p2⟩ => ?_))
  · refine Ev.mono (Ev.dict2 (x1 := tx [48]) (x2 := tx [49]) (P1 := IsV (.ref Z)) (P2 := IsV (.ref O)) (by decide +kernel) (fun s₁ k₁ => Ev.cstr) (fun s₁ k₁ => Ev.name rfl ((F₄.rd rZ4).keeps (keeps_heap k₁))) (fun s₁ k₁ => Ev.cstr) (fun s₁ k₁ => Ev.name rfl ((F₄.rd rO4).keeps (keeps_heap k₁))) (fun _ _ _ _ q => q) (fun _ _ _ _ q => q)) fun v h' k' ⟨M, u1, u2, e, m, p1, p2⟩ => ?_
    have p1 : u1 = .ref Z := p1
    have p2 : u2 = .ref O := p2
    subst p1 p2
    refine ⟨M, _, e, m, fun sg hs => ?_⟩
    simp only [S2, List.mem_cons, List.not_mem_nil, or_false] at hs
    rcases hs with rfl | rfl
    · exact ⟨.ref Z, by simp [valueAt], stb_step _ _ _ k' st0⟩
    · refine ⟨.ref O, ?_, stb_step _ _ _ k' st1⟩
      have hne : tx [48] ≠ tx [49] := by decide +kernel
      simp [valueAt, hne]
  · intro v1 s₁ k₁ _
    obtain ⟨h₆, tk₆, rfl, kk₆⟩ := k₁
    have F₆ := F₄.kept kk₆
    refine Ev.join (P := IsL IsC (((L6.zip ns).filter gladBit).map fun q : Nat × Int => q.1)) (fun s₂ k₂ => ?_) fun v t s₂ k₂ ⟨M, ws, m, e1, ho, L⟩ => ?_
    · obtain ⟨h₇, tk₇, rfl, kk₇⟩ := k₂
      have F₇ := F₆.kept kk₇
      have hD7 : IsL (fun x v _ => ∃ t, v = .int x t) ns (.ref D) h₇ := stq_L (fun _ _ _ _ _ q => q) _ _ _ (Kp.sq fun b o q => kk₇ _ _ (kk₆ _ _ q)) hD4
      refine Ev.mono (Ev.listComp (tk := false) (xs := L6.zip ns) (P := fun q v h => ∃ a vs n u1 u2, v = .ref a ∧ h.get? a = some (tobj vs n) ∧ vs = [u1, u2] ∧ (∃ t, u1 = .str (tx [q.1]) t) ∧ ∃ t, u2 = .int q.2 t) (G := fun q => IsC q.1) (cl := []) gladBit
        (fun q ρ _ => ∃ u1 u2, ρ "state" = some u1 ∧ ρ "x" = some u2 ∧ (∃ t, u1 = .str (tx [q.1]) t) ∧ ∃ t, u2 = .int q.2 t) rfl List.Pairwise.nil (fun q hq => by cases hq) (fun _ _ _ _ x _ => x) (fun _ _ _ _ _ x => x) (by omega)
        (srcP F₇ rD4 hD7 rfl) (fun q C _ => pairV C _ _ q (.inl rfl) (.inl rfl) _) (fun a C ρ h tk' ha ⟨u1, u2, r1, r2, ⟨t1, e1⟩, ⟨t2, e2⟩⟩ kk F' => ?_) (fun a C ρ h tk' ha _ ⟨u1, u2, r1, r2, ⟨t1, e1⟩, ⟨t2, e2⟩⟩ kk F' => ?_)) fun v h' _ ⟨⟨M, ws, m, e, ho, r⟩, _⟩ => ?_
      · subst e2
        exact Ev.tests1 (Ev.cmpT (P1 := IsI ((a.2.fdiv 36).fmod 2)) (P2 := IsI 1) (Ev.binop (P1 := IsI (a.2.fdiv 36)) (P2 := IsI 2)
          (Ev.binop (P1 := IsI a.2) (P2 := IsI 36) ((Ev.name rfl (F'.rd r2)).mono fun _ _ _ e => ⟨t2, e⟩) (fun o s₂ k₂ _ => Ev.cint) fun o j s₂ s₃ _ ⟨t3, e3⟩ _ ⟨t4, e4⟩ => by subst e3 e4; exact Ev.fdivInt (by decide) (by decide)) (fun o s₂ k₂ _ => Ev.cint)
          fun o j s₂ s₃ _ ⟨t3, e3⟩ _ ⟨t4, e4⟩ => by subst e3 e4; exact Ev.modInt (by decide)) (fun o s₂ k₂ _ => Ev.cint) fun o j s₂ s₃ _ ⟨t3, e3⟩ _ ⟨t4, e4⟩ => by subst e3 e4; exact Ev.eqInt)
      · exact (Ev.name rfl (F'.rd r1)).mono fun _ _ _ e => ⟨t1, (show _ = u1 from e).trans e1⟩
      · exact ⟨M, ws, m, e, ho, All2.map_left (f := fun q : Nat × Int => q.1) (F := fun c v => IsC c v h') r⟩
    · subst e1
      refine Ev.mono (Ev.joinL ho (all2_single L) ?_) fun _ _ _ q => ?_
      · rw [sum_singles, List.length_map]
        have := List.length_filter_le gladBit (L6.zip ns)
        omega
      · rw [flatten_singles] at q; exact q
  · subst e
    refine hQ _ _ _ h₅ tk₅ (fun sg c => ?_) (fun c hc => ?_) ?_ ⟨ta, v1, v2, 0, rfl, ho, p1, p2⟩ fun b o q => k₅ _ _ (F₄.keep _ _ q)
    · split <;> exact stepOf_mem
    · obtain ⟨q, hq, rfl⟩ := List.mem_map.mp hc
      exact (List.of_mem_zip (List.mem_filter.mp hq).1).1
    · rw [List.length_map]
      have := List.length_filter_le gladBit (L6.zip ns)
      omega
end
end Mine

end

-- ======== Cls1 ========
section
open PySem PySem.W PyProof.Rows
set_option maxRecDepth 100000
set_option maxHeartbeats 1000000
namespace Mine

def pre (δ : Nat → Nat) (row : List Nat) : List Nat := L6.filter fun c => decide (δ c ∈ row)
def rowsN (δ : Nat → Nat → Nat) (rows : List (List Nat)) : List (List Nat) := rows.flatMap fun row => S2.map fun sg => pre (δ sg) row
def rowsAt (δ : Nat → Nat → Nat) (glad : List Nat) : Nat → List (List Nat)
  | 0 => [glad]
  | k + 1 => rowsN δ (rowsAt δ glad k)
def everyAt (δ : Nat → Nat → Nat) (glad : List Nat) : Nat → List (List Nat)
  | 0 => [glad]
  | k + 1 => everyAt δ glad k ++ rowsAt δ glad (k + 1)
def view (every : List (List Nat)) (c : Nat) : List Nat := every.map fun row => if c ∈ row then 49 else 48
def alike (every : List (List Nat)) (c : Nat) : List Nat := L6.filter fun o => decide (view every o = view every c)
def classes (every : List (List Nat)) : List (List Nat) := (((L6.map (alike every)).zip L6).filter fun q => decide ([q.1.headD 0] = [q.2])).map fun q => q.1

theorem pre_len {δ : Nat → Nat} {row : List Nat} : (pre δ row).length ≤ 6 := List.length_filter_le _ _
theorem rowsN_len {δ : Nat → Nat → Nat} {rows : List (List Nat)} : (rowsN δ rows).length = rows.length * 2 := by
  unfold rowsN
  rw [List.length_flatMap]
  simp only [List.length_map]
  rw [List.map_const', List.sum_replicate_nat]; rfl
theorem rowsAt_len {δ : Nat → Nat → Nat} {glad : List Nat} : ∀ k, (rowsAt δ glad k).length = 2 ^ k
  | 0 => rfl
  | k + 1 => by
    show (rowsN δ (rowsAt δ glad k)).length = _
    rw [rowsN_len, rowsAt_len k, Nat.pow_succ]
theorem everyAt_len {δ : Nat → Nat → Nat} {glad : List Nat} : ∀ k, (everyAt δ glad k).length + 1 = 2 ^ (k + 1)
  | 0 => rfl
  | k + 1 => by
    show (everyAt δ glad k ++ rowsAt δ glad (k + 1)).length + 1 = _
    rw [List.length_append, rowsAt_len]
    have := everyAt_len (δ := δ) (glad := glad) k
    rw [Nat.pow_succ 2 (k + 1)]; omega

section
variable {prog : Program} {w : World} {A : Around} {E : Value → Shared → Prop} {s : Shared} {env : Env}
theorem SrcF.range {target e f : Expr} {pos : Pos} {m : Nat} (hh : A.handled = none) (h0 : Ev (model PG w) A (eval f env) (IsV (.type "range")) s) (h1 : ∀ s₁, Keeps s s₁ → Ev (model PG w) A (eval e env) (IsI m) s₁) (hm : m ≤ 1000)
    (hgo : ∀ (I : Addr) (x left step : Int) v (s : Shared) (Q : Unit → Shared → Prop) (E : Value → Shared → Prop), IsRangeIter s.heap I x left step → Q () s → wpAny (model PG w) A (letOwnedTupleGo target (.ref I) v) Q E s)
    (hs : starEach [e] env = [(false, eval e env)] := by rfl)
    (he : eval (.Call f [e] [] pos) env = (do callWith pos (← eval f env) [] (backTo pos (starEach [e] env)) (backToKw pos (keywordEach [] env))) := by rfl) :
    SrcF PG w A target (eval (.Call f [e] [] pos) env) (List.range m) (fun i => IsI (i : Int)) [] s := by
  intro Q E hQ
  refine Call_ (h0.use' fun v s₁ k₁ e1 => ?_) he
  have e1 : v = .type "range" := e1
  subst e1
  rw [hs]
  refine PyProof.Rows.callWith_type rfl (Calls.evalArgs_plain (Calls.spliced_cons ?_))
  show wpAny _ A (eval e env) _ E s₁
  refine (h1 s₁ k₁).use' fun v s₂ k₂ ⟨t2, e2⟩ => Calls.spliced_nil ?_
  subst e2
  have kk := keeps_trans k₁ k₂
  refine call_range_1 ?_
  refine wpAny_pyIter_range (IsRange.new ..) (small_one (by omega) (by omega) (by omega) (by omega)) ?_
  have hsz : Builtin.Range.rangeSize 0 m 1 = (m : Int) := by rw [rangeSize_one]; split <;> omega
  obtain ⟨h', tk', rfl, kk⟩ := kk
  have W := Walks.range (prog := PG) (w := w) (A := A) hh (h'.push { cls := .type "range", data := .fields #[.int 0 tk', .int m t2, .int 1 (tk' + 1)] }).objs.size 0 1 m
  have fresh : s.heap.get? (h'.push { cls := .type "range", data := .fields #[.int 0 tk', .int m t2, .int 1 (tk' + 1)] }).objs.size = none := none_kp kk (Heap.get?_none_of_le (by rw [Heap.size_push]; exact Nat.le_succ _))
  have lm : (List.range m).length = m := List.length_range
  obtain ⟨R, hR⟩ : ∃ R, R = (h'.push { cls := .type "range", data := .fields #[.int 0 tk', .int m t2, .int 1 (tk' + 1)] }).objs.size := ⟨_, rfl⟩
  rw [← hR] at W fresh
  have W' : It PG w A target true R [R] [R] (List.range m).length (fun i v h => ∃ a, (List.range m)[i]? = some a ∧ IsI (a : Int) v h) (fun i h => IsRangeIter h R (0 + (i : Nat) * 1) ((m : Int) - (i : Nat)) 1) := by
    rw [lm]
    refine It.ofWalks W (fun i v s' Q' E' st q => hgo _ _ _ _ v _ _ _ st q) (fun i v h hi p st => ?_) (fun i h st b hb o xs n e q => ?_)
    · obtain ⟨t, p⟩ := p
      exact ⟨i, by rw [List.getElem?_range hi], t, by rw [p]; simp⟩
    · rw [List.mem_singleton.mp hb] at e
      have st : h.get? _ = _ := st
      rw [st] at e; cases e; cases q
  show Q (.ref (h'.push { cls := .type "range", data := .fields #[.int 0 tk', .int m t2, .int 1 (tk' + 1)] }).objs.size) _
  rw [← hR]
  refine hQ R [R] [R] _ _ (keeps_mk fun b o e => kp_push _ _ (kp_push _ _ (kk _ _ e))) W' ?_ (fun b hb => ?_) (fun b hb => ?_)
  · show IsRangeIter _ R (0 + ((0 : Nat) : Int) * 1) ((m : Int) - ((0 : Nat) : Int)) 1
    have e1 : (0 + ((0 : Nat) : Int) * 1) = 0 := by simp
    have e2 : ((m : Int) - ((0 : Nat) : Int)) = Builtin.Range.rangeSize 0 m 1 := by rw [hsz]; simp
    rw [e1, e2, hR]
    exact Heap.get?_push_size _ rfl
  · rw [List.mem_singleton.mp hb]; exact .inr fresh
  · rw [List.mem_singleton.mp hb]; exact fresh
end
end Mine

end

-- ======== Cls2 ========
section
open PySem PySem.W PyProof.Rows
set_option maxRecDepth 100000
set_option maxHeartbeats 1000000
namespace Mine

theorem fc121 {n : Addr} : fcAt 121 n = [n + 3, n + 2, n + 1] := rfl
theorem hcl121 {n : Addr} : ∀ y c, (envAt 121 n).cells.lookup y = some c → c ∈ fcAt 121 n := fun _ _ ec => ncells_mem ec
theorem stq_LT {xs : List (List Nat)} : StbQ (IsL IsTx xs) := stq_L fun _ => stq_S

section
variable {w : World} {A : Around} {E : Value → Shared → Prop} {s : Shared} {mg mb : Str → Option Value} {k : Nat}

theorem classes_spec {δ : Nat → Nat → Nat} {glad : List Nat} {sv : Value} {tg : Tok} {Q : Value → Shared → Prop} (G : Gd w mg mb s.heap) (R : Rm A (k + 1)) (hst : IsSteps w δ sv s.heap) (hgl : ∀ c ∈ glad, c ∈ L6)
    (hQ : ∀ v h' tk, IsL IsTx (classes (everyAt δ glad 4)) v h' → Kp s.heap h' → Q v { s with heap := h', toks := tk }) :
    wpAny (model PG w) A (call (.ref 121) [sv, .str (tx glad) tg]) Q E s := by
  refine call_at G R (binds := [("steps", sv), ("glad", .str (tx glad) tg)]) rfl rfl rfl rfl (BindsTo.of_eq rfl) rfl rfl rfl (by exact List.Pairwise.nil) (by intro p hp; cases hp) ⟨.inr ⟨rfl, _, rfl, ?_⟩, .inl rfl, trivial⟩ fun n h₁ tk₁ hn F => ?_
  · rw [fc121]; simp
  have R' : Rm (A.deeper (envAt 121 n)) k := R.deeper
  have hh := R'.hh
  have c1 : (n : Nat) + 1 ∈ fcAt 121 n := by rw [fc121]; simp
  have c2 : (n : Nat) + 2 ∈ fcAt 121 n := by rw [fc121]; simp
  have c3 : (n : Nat) + 3 ∈ fcAt 121 n := by rw [fc121]; simp
  have lt128 : ∀ c ∈ L6, c < 128 := by decide
  -- rows, every = ([glad], [glad])
  refine wpAny_execs_cons (Assign_Tuple (Ev.use (Ev.tuple2 (P1 := IsL IsTx [glad]) (P2 := IsL IsTx [glad]) ?_ ?_ (stb_L fun _ => stb_S) (stb_L fun _ => stb_S)) fun v h₂ tk₂ k₂ ⟨ta, v1, v2, e, _, eo, p1, p2⟩ => ?_))
  · refine (Ev.listD [fun v => ∃ t, v = .str (tx glad) t] (.cons (fun s₁ k₁ => (Ev.name rfl ((F.rd (x := "glad") rfl).keeps (keeps_heap k₁))).mono fun _ _ _ e => ⟨tg, e⟩) .nil) (by simp)).mono fun v h' _ ⟨D, vs, e, _, hD, r⟩ => ⟨D, vs, 0, e, hD, ?_⟩
    cases r with
    | cons p r2 => cases r2; exact .cons p .nil
  · intro v s₁ k₁ _
    refine (Ev.listD [fun v => ∃ t, v = .str (tx glad) t] (.cons (fun s₂ k₂ => (Ev.name rfl ((F.rd (x := "glad") rfl).keeps (keeps_heap (keeps_trans k₁ k₂)))).mono fun _ _ _ e => ⟨tg, e⟩) .nil) (by simp)).mono fun v h' _ ⟨D, vs, e, _, hD, r⟩ => ⟨D, vs, 0, e, hD, ?_⟩
    cases r with
    | cons p r2 => cases r2; exact .cons p .nil
  subst e
  refine Fm.pair (x := "rows") (y := "every") (s := { s with heap := h₂, toks := tk₂ }) (F.kept k₂) hh (.inl rfl) (.inr ⟨rfl, _, rfl, c2⟩) eo fun h₃ tk₃ F₃ kf₃ => ?_
  have sq₃ := (F.kept k₂).sq kf₃
  have p1₃ : IsL IsTx (rowsAt δ glad 0) v1 h₃ := stq_LT _ _ _ sq₃ p1
  have p2₃ : IsL IsTx (everyAt δ glad 0) v2 h₃ := stq_LT _ _ _ sq₃ p2
  have rS : ∀ {ρ' : Str → Option Value}, Agr ["size", "rows", "every"] (updAll (fun _ => none) [("steps", sv), ("glad", .str (tx glad) tg)]) ρ' → ρ' "steps" = some sv := fun ag => (ag _ (by decide)).trans rfl
  -- for size in range(4)
  refine wpAny_execs_cons (For_it (s := { s with heap := h₃, toks := tk₃ }) (W := [n, n + 1, n + 2, n + 3]) (xs := List.range 4) (P := fun i => IsI (i : Int)) (so := [])
    (J := fun i h => ∃ ρ rv ev, Fm s.heap (envAt 121 n) (fcAt 121 n) ρ h ∧ Agr ["size", "rows", "every"] (updAll (fun _ => none) [("steps", sv), ("glad", .str (tx glad) tg)]) ρ ∧ ρ "rows" = some rv ∧ IsL IsTx (rowsAt δ glad i) rv h ∧ ρ "every" = some ev ∧ IsL IsTx (everyAt δ glad i) ev h)
    ?_ (fun b _ q => by cases q) ?_ ?_ ⟨_, v1, v2, F₃, (Agr.refl.upd (by simp)).upd (by simp), (upd_ne (by decide)).trans (by simp [upd]), p1₃, by simp [upd], p2₃⟩ ?_ ?_)
  · refine SrcF.range (m := 4) hh ?_ (fun s₁ k₁ => Ev.cint) (by decide) (fun I x left step v s Q E st q => wpAny_pure q)
    exact bname (G.kp F₃.keep) rfl rfl (by decide +kernel) (by decide) rfl rfl rfl
  · intro b hb
    simp only [List.mem_cons, List.not_mem_nil, or_false] at hb
    have cc : ∀ c ∈ fcAt 121 n, h₃.get? c ≠ none := fun c hc => by
      obtain ⟨v, o, e, _⟩ := F₃.cells c hc
      rw [e]; simp
    rcases hb with q | q | q | q
    · rw [q]; exact F₃.loc_ne
    · rw [q]; exact cc _ c1
    · rw [q]; exact cc _ c2
    · rw [q]; exact cc _ c3
  · rintro i h h' ⟨ρ, rv, ev, F', ag, r1, L1, r2, L2⟩ sq kk
    refine ⟨ρ, rv, ev, F'.stay F₃ kk (fun y c ec => ?_), ag, r1, stq_LT _ _ _ sq L1, r2, stq_LT _ _ _ sq L2⟩
    obtain ⟨v, o, e, _⟩ := F₃.cells c (hcl121 y c ec)
    rw [e]; simp
  · rintro i j u h tk ej ⟨tu, eu⟩ ⟨ρ, rv, ev, F', ag, r1, L1, r2, L2⟩
    have hi4 : i < 4 := by have := (List.getElem?_eq_some_iff.mp ej).1; rwa [List.length_range] at this
    subst eu
    refine wpAny_assign_Name (F'.store (.inl rfl) fun h₄ tk₄ F₄ kf₄ => ?_)
    have sq₄ := F'.sq kf₄
    have L1₄ := stq_LT _ _ _ sq₄ L1
    have L2₄ := stq_LT _ _ _ sq₄ L2
    have ag₄ := ag.upd (x := "size") (v := .int (j : Int) tu) (by simp)
    have r1₄ := (upd_ne (ρ := ρ) (x := "size") (y := "rows") (v := .int (j : Int) tu) (by decide)).trans r1
    have r2₄ := (upd_ne (ρ := ρ) (x := "size") (y := "every") (v := .int (j : Int) tu) (by decide)).trans r2
    have rl := rowsAt_len (δ := δ) (glad := glad) i
    have p2i : 2 ^ i ≤ 8 := by have : i ≤ 3 := by omega
                               exact Nat.pow_le_pow_right (by decide) this
    have cS : h₄.IsCell (n + 1) (some sv) := rd_cell (F₄.rd (rS ag₄)) (by intro q; cases q) rfl
    -- rows = [...]
    refine wpAny_execs_cons (exec_list2_used (s := { s with heap := h₄, toks := tk₄ }) (xs := rowsAt δ glad i) (ys := S2) (P := fun row v => ∃ t, v = .str (tx row) t) (G := fun row sg v => ∃ t, v = .str (tx (pre (δ sg) row)) t) (cl := [("steps", n + 1)]) F₄ (.inl rfl)
      (fun x c ec => ?_) hh (by decide) rfl (by decide) rfl (List.pairwise_singleton _ _) (fun q hq => by rw [List.mem_singleton.mp hq]; exact ⟨_, cS⟩) (by rw [rl]; show 2 ^ i * 2 ≤ 1000; omega)
      (Src.list hh ((Ev.name rfl (F₄.rd r1₄)).mono fun v h' k' e => by have e : v = rv := e; rw [e]; exact stb_L (fun _ => stb_S) _ _ _ k' L1₄) (fun _ _ _ _ q => q)) (fun C => .inr ⟨rfl, C + 1, rfl, ?_⟩) (fun C => .inr ⟨rfl, C + 2, rfl, ?_⟩)
      (fun row sg C ρ' h' tk' u1 u2 hrow hsg e1 ⟨t1, et1⟩ e2 ⟨t2, et2⟩ kk F'' => ?_) fun D h₅ tk₅ F₅ kf₅ nD hD => ?_)
    · obtain ⟨v, o, e, _⟩ := F₄.cells c (hcl121 x c ec)
      exact ⟨o, e⟩
    · exact List.mem_cons_of_mem _ (List.mem_cons_self ..)
    · exact List.mem_cons_self ..
    · subst et1 et2
      have cR : h'.IsCell (C + 1) (some (.str (tx row) t1)) := rd_cell (F''.rd e1) (by intro q; cases q) rfl
      have cG : h'.IsCell (C + 2) (some (.str (tx [sg]) t2)) := rd_cell (F''.rd e2) (by intro q; cases q) rfl
      have cS' : h'.IsCell (n + 1) (some sv) := cS.keeps kk
      have hst' : IsSteps w δ sv h' := stb_steps _ _ _ (fun b o q => kk _ _ (F₄.keep _ _ q)) hst
      have nC : ∀ i : Nat, 0 < i → i ≤ 3 → (C + 1 : Nat) ≠ n + i ∧ (C + 2 : Nat) ≠ n + i := fun i h0 h3 => by
        have hi : (n + i : Nat) ∈ fcAt 121 n := by
          rw [fc121]
          rcases (show i = 1 ∨ i = 2 ∨ i = 3 by omega) with q | q | q <;> subst q <;> simp
        obtain ⟨v, o, e, _⟩ := F₄.cells _ hi
        refine ⟨fun q => ?_, fun q => ?_⟩
        · have z := F''.freshC (C + 1) (List.mem_cons_of_mem _ (List.mem_cons_self ..))
          have z : h₄.get? (C + 1) = none := z
          rw [show (C + 1 : Addr) = n + i from q, e] at z; cases z
        · have z := F''.freshC (C + 2) (List.mem_cons_self ..)
          have z : h₄.get? (C + 2) = none := z
          rw [show (C + 2 : Addr) = n + i from q, e] at z; cases z
      refine Ev.join (P := IsL IsC (pre (δ sg) row)) (fun s₁ k₁ => Ev.mono (Ev.listComp (tk := false) (xs := L6) (P := IsC) (G := IsC) (cl := [("steps", n + 1), ("sign", C + 2), ("row", C + 1)]) (fun c => decide (δ sg c ∈ row)) (fun a ρ h => ∃ v, ρ "state" = some v ∧ IsC a v h) rfl ?_ (fun q hq => ?_) (fun _ _ _ _ x _ => x) (fun _ _ _ _ _ x => x) (by decide)
        (Src.str hh Ev.cstr' lt128) (fun a C' _ => Assigns.name (.inl rfl) stq_S) (fun a C' ρ'' h'' tk'' ha ⟨v, ev, va⟩ k2 F3 => ?_) (fun a C' ρ'' h'' tk'' ha _ ⟨v, ev, va⟩ k2 F3 => ?_)) fun _ _ _ x => x.1) fun v t s₁ k₁ ⟨M, ws, m, e1, ho, L⟩ => ?_
      · refine List.pairwise_cons.mpr ⟨fun q hq => ?_, List.pairwise_cons.mpr ⟨fun q hq => ?_, List.pairwise_singleton _ _⟩⟩
        · simp only [List.mem_cons, List.not_mem_nil, or_false] at hq
          rcases hq with rfl | rfl
          · exact Ne.symm (nC 1 (by decide) (by decide)).2
          · exact Ne.symm (nC 1 (by decide) (by decide)).1
        · rw [List.mem_singleton.mp hq]; exact Nat.ne_of_gt (Nat.lt_succ_self _)
      · simp only [List.mem_cons, List.not_mem_nil, or_false] at hq
        rcases hq with rfl | rfl | rfl
        · exact ⟨_, cS'.keeps (keeps_heap k₁)⟩
        · exact ⟨_, cG.keeps (keeps_heap k₁)⟩
        · exact ⟨_, cR.keeps (keeps_heap k₁)⟩
      · have kA : Kp h' h'' := fun b o q => k2 _ _ (keeps_heap k₁ _ _ q)
        exact Ev.tests1 (Ev.cmpT (P1 := IsC (δ sg a)) (P2 := IsTx row) (Ev.sub (P1 := IsStep w (δ sg)) (P2 := IsC a)
            (Ev.stepsAt rfl (.inr ⟨.inl rfl, _, rfl, cS'.keeps kA⟩) (.inr ⟨.inl rfl, _, rfl, cG.keeps kA⟩) (stb_steps _ _ _ kA hst') hsg)
            (fun o s₂ k₂ _ => (Ev.name rfl ((F3.rd ev).keeps (keeps_heap k₂))).mono fun _ _ _ e => by have e : _ = v := e; rw [e]; exact va)
            fun o j s₂ s₃ k₂ hs k₃ ⟨t4, e4⟩ => by
              subst e4
              obtain ⟨a', f, e', m, r⟩ := stb_step _ _ _ (keeps_heap k₃) hs
              subst e'
              obtain ⟨t5, et5⟩ := r a ha
              exact (Ev.subDict m et5).mono fun _ _ _ q => ⟨t5, q⟩)
          (fun o s₂ k₂ _ => (Ev.name rfl (.inr ⟨.inl rfl, _, rfl, (cR.keeps kA).keeps (keeps_heap k₂)⟩)).mono fun _ _ _ e => ⟨t1, e⟩)
          (fun o j s₂ s₃ _ ⟨t3, e3⟩ _ ⟨t4, e4⟩ => by subst e3 e4; exact Ev.inStr))
      · exact (Ev.name rfl (F3.rd ev)).mono fun _ _ _ e => by have e : _ = v := e; rw [e]; exact va
      · subst e1
        refine Ev.mono (Ev.joinL ho (all2_single L) ?_) fun _ _ _ q => ?_
        · rw [sum_singles]; have := pre_len (δ := δ sg) (row := row); omega
        · rw [flatten_singles] at q; exact q
    have sq₅ := F₄.sq kf₅
    have hD' : IsL IsTx (rowsAt δ glad (i + 1)) (.ref D) h₅ := by
      obtain ⟨b, vs, m, e, ho, r⟩ := hD
      refine ⟨b, vs, m, e, ho, ?_⟩
      have e1 : rowsAt δ glad (i + 1) = ((rowsAt δ glad i).flatMap fun a => S2.map fun b => (a, b)).map fun q => pre (δ q.2) q.1 := by
        show rowsN δ (rowsAt δ glad i) = _
        unfold rowsN
        rw [List.map_flatMap]
        congr 1
      rw [e1]
      exact All2.map_left (f := fun q : List Nat × Nat => pre (δ q.2) q.1) (F := fun x v => IsTx x v h₅) r
    have L2₅ := stq_LT _ _ _ sq₅ L2₄
    have r1₅ : ∀ {ρ : Str → Option Value}, upd ρ "rows" (.ref D) "rows" = some (.ref D) := by simp [upd]
    -- every = every + rows
    refine wpAny_execs_cons (wpAny_Assign_Name (Ev.use (P := IsL IsTx (everyAt δ glad (i + 1))) (Ev.binop (P1 := IsL IsTx (everyAt δ glad i)) (P2 := IsL IsTx (rowsAt δ glad (i + 1)))
      ((Ev.name rfl (F₅.rd ((upd_ne (by decide)).trans r2₄))).mono fun v h' k' e => by have e : v = ev := e; rw [e]; exact stb_L (fun _ => stb_S) _ _ _ k' L2₅)
      (fun o s₁ k₁ _ => (Ev.name rfl ((F₅.rd r1₅).keeps (keeps_heap k₁))).mono fun v h' k' e => by have e : v = .ref D := e; rw [e]; exact stb_L (fun _ => stb_S) _ _ _ (fun b o q => k' _ _ (keeps_heap k₁ _ _ q)) hD')
      (fun o j s₁ s₂ k₁ ⟨a1, vs1, m1, e1, h1, q1⟩ k₂ ⟨a2, vs2, m2, e2, h2, q2⟩ => by
        subst e1 e2
        have l1 := q1.length
        have l2 := q2.length
        have l3 := everyAt_len (δ := δ) (glad := glad) i
        have l4 := rowsAt_len (δ := δ) (glad := glad) (i + 1)
        have p3 : 2 ^ (i + 1) ≤ 16 := Nat.pow_le_pow_right (n := 2) (by decide) (show i + 1 ≤ 4 by omega)
        refine (Ev.addL (keeps_heap k₂ _ _ h1) h2 (by omega)).mono fun v h' _ ⟨M, e, _, hM⟩ => ⟨M, _, 0, e, hM, ?_⟩
        exact (q1.mono fun _ _ q => q).append (q2.mono fun _ _ q => q))) fun v h₆ tk₆ k₆ hv => ?_))
    refine (F₅.kept k₆).store (.inr ⟨rfl, _, rfl, c2⟩) fun h₇ tk₇ F₇ kf₇ => wpAny_execs_nil ?_
    have sq₇ := (F₅.kept k₆).sq kf₇
    have kwF : ∀ {h h' : Heap}, KpF (envAt 121 n) (fcAt 121 n) h h' → KpW [n, n + 1, n + 2, n + 3] h h' := fun kf => kf.kw (by exact List.mem_cons_self ..) (by intro c hc; rw [fc121] at hc; simp only [List.mem_cons, List.not_mem_nil, or_false] at hc ⊢; rcases hc with q | q | q <;> simp [q])
    refine ⟨h₇, tk₇, rfl, ⟨_, .ref D, v, F₇, (ag₄.upd (by simp)).upd (by simp), (upd_ne (by decide)).trans r1₅, stq_LT _ _ _ (k₆.sq.trans sq₇) hD', by simp [upd], stq_LT _ _ _ sq₇ hv⟩, (kwF kf₄).trans ((kwF kf₅).trans (k₆.kw.trans (kwF kf₇)))⟩
  · rintro h tk ⟨ρ, rv, ev, F', ag, r1, L1, r2, L2⟩
    rw [List.length_range] at L1 L2
    have el := everyAt_len (δ := δ) (glad := glad) 4
    have el : (everyAt δ glad 4).length = 31 := by omega
    obtain ⟨every, hev⟩ : ∃ every, every = everyAt δ glad 4 := ⟨_, rfl⟩
    rw [← hev] at L2 el
    have cE : h.IsCell (n + 2) (some ev) := rd_cell (F'.rd r2) (by intro q; cases q) rfl
    have vlen : ∀ c, (view every c).length = 31 := fun c => by unfold view; rw [List.length_map, el]
    -- views = {...}
    refine wpAny_execs_cons (wpAny_Assign_Name (Ev.use (Ev.dictComp (xs := L6) (P := IsC) (kf := fun c => tx [c]) (G := fun c v => ∃ t, v = .str (tx (view every c)) t) (cl := [("every", n + 2)]) (fun a ρ h => ∃ v, ρ "state" = some v ∧ IsC a v h) rfl (List.pairwise_singleton _ _) (fun q hq => by rw [List.mem_singleton.mp hq]; exact ⟨_, cE⟩) (fun _ _ _ _ x _ => x) (by decide) nodup_L6
      (Src.str hh Ev.cstr' lt128) (fun a C _ => Assigns.name (.inr ⟨rfl, C + 1, rfl, ?_⟩) stq_S) (fun a C ρ' h' tk' ha ⟨v, ev', va⟩ kk F'' => ?_) (fun a C ρ' h' tk' ha ⟨v, ev', va⟩ kk F'' => ?_)) fun v h₂ tk₂ k₂ ⟨Vd, eV, nV, oV, hV, dV⟩ => ?_))
    · exact List.mem_cons_self ..
    · exact (Ev.name rfl (F''.rd ev')).mono fun _ _ _ e => by have e' : _ = v := e; rw [e']; exact va
    · obtain ⟨ta, eta⟩ := va
      subst eta
      have cA : h'.IsCell (C + 1) (some (.str (tx [a]) ta)) := rd_cell (F''.rd ev') (by intro q; cases q) rfl
      have cE' : h'.IsCell (n + 2) (some ev) := cE.keeps kk
      have L2' : IsL IsTx every ev h' := stb_L (fun _ => stb_S) _ _ _ kk L2
      refine Ev.join (P := IsL IsC (view every a)) (fun s₁ k₁ => Ev.mono (Ev.listComp (tk := false) (xs := every) (P := IsTx) (G := fun row => IsC (if a ∈ row then 49 else 48)) (cl := [("state", C + 1)]) (fun _ => true) (fun row ρ h => ∃ v, ρ "row" = some v ∧ IsTx row v h) rfl (List.pairwise_singleton _ _) (fun q hq => by rw [List.mem_singleton.mp hq]; exact ⟨_, cA.keeps (keeps_heap k₁)⟩) (fun _ _ _ _ x _ => x) (fun _ _ _ _ _ x => x) (by omega)
        (Src.list hh ((Ev.name rfl (.inr ⟨.inl rfl, _, rfl, cE'.keeps (keeps_heap k₁)⟩)).mono fun v h' k' e => by have e : v = ev := e; rw [e]; exact stb_L (fun _ => stb_S) _ _ _ (fun b o q => k' _ _ (keeps_heap k₁ _ _ q)) L2') (fun _ _ _ _ q => q)) (fun row C' _ => Assigns.name (.inl rfl) stq_S) (fun row C' ρ'' h'' tk'' hr _ k2 F3 => Ev.tests0) (fun row C' ρ'' h'' tk'' hr _ ⟨v, ev'', va⟩ k2 F3 => ?_)) fun u h' _ x => ?_) fun v t s₁ k₁ ⟨M, ws, m, e1, ho, L⟩ => ?_
      · have kA : Kp h' h'' := fun b o q => k2 _ _ (keeps_heap k₁ _ _ q)
        refine Ev.ifexp (b := decide (a ∈ row)) (Ev.cmpT (P1 := IsC a) (P2 := IsTx row) ((Ev.name rfl (.inr ⟨.inl rfl, _, rfl, cA.keeps kA⟩)).mono fun _ _ _ e => ⟨ta, e⟩)
          (fun o s₂ k₂ _ => (Ev.name rfl ((F3.rd ev'').keeps (keeps_heap k₂))).mono fun _ _ _ e => by have e : _ = v := e; rw [e]; exact va) (fun o j s₂ s₃ _ ⟨t3, e3⟩ _ ⟨t4, e4⟩ => by subst e3 e4; exact Ev.inStr))
          (fun s₂ k₂ hb => ?_) (fun s₂ k₂ hb => ?_)
        · rw [if_pos (of_decide_eq_true hb)]; exact Ev.cstr
        · rw [if_neg (of_decide_eq_false hb)]; exact Ev.cstr
      · obtain ⟨⟨M, ws, m, e, ho, r⟩, _⟩ := x
        refine ⟨M, ws, m, e, ho, ?_⟩
        have e3 : every.filter (fun _ => true) = every := List.filter_eq_self.mpr fun _ _ => rfl
        rw [e3] at r
        exact All2.map_left (f := fun row : List Nat => if a ∈ row then 49 else 48) (F := fun c v => IsC c v h') r
      · subst e1
        refine Ev.mono (Ev.joinL ho (all2_single L) ?_) fun _ _ _ q => ?_
        · rw [sum_singles, vlen]; decide
        · rw [flatten_singles] at q; exact q
    subst eV
    have F₂ := F'.kept k₂
    obtain ⟨fV, mV, rV⟩ := dV.map hV nodup_L6
    refine F₂.store (.inr ⟨rfl, _, rfl, c3⟩) fun h₃ tk₃ F₃ kf₃ => ?_
    have VL : Vd ≠ n := fun q => F'.loc_ne (by show h.get? n = none; rw [← q]; exact nV)
    have VC : Vd ∉ fcAt 121 n := fun hc => by
      obtain ⟨v, o, e, _⟩ := F'.cells Vd hc
      rw [nV] at e; cases e
    have mV₃ : h₃.MapOf (strKind PG w) Vd fV := by
      obtain ⟨o, es, ep, ho, r⟩ := mV
      exact ⟨o, es, ep, kf₃ _ _ VL VC ho, r⟩
    have cV : h₃.IsCell (n + 3) (some (.ref Vd)) := rd_cell (F₃.rd (x := "views") (by simp [upd])) (by intro q; cases q) rfl
    -- alike = [...]
    refine wpAny_execs_cons (exec_list_used (s := { s with heap := h₃, toks := tk₃ }) (tk := false) (xs := L6) (P := IsC) (G := fun c => IsTx (alike every c)) (cl := [("views", n + 3)]) (fun _ => true) (fun a ρ h => ∃ v, ρ "state" = some v ∧ IsC a v h) F₃ (.inl rfl) (fun x c ec => ?_) rfl (List.pairwise_singleton _ _) (fun q hq => by rw [List.mem_singleton.mp hq]; exact ⟨_, cV⟩) (fun _ _ _ _ x _ => x) (fun _ _ _ _ _ x => x) (by decide)
      (Src.str hh Ev.cstr' lt128) (fun a C _ => Assigns.name (.inr ⟨rfl, C + 1, rfl, ?_⟩) stq_S) (fun a C ρ' h' tk' ha _ kk F'' => Ev.tests0) (fun a C ρ' h' tk' ha _ ⟨v, ev', va⟩ kk F'' => ?_) fun D h₄ tk₄ F₄ kf₄ nD hD => ?_)
    · obtain ⟨v, o, e, _⟩ := F₃.cells c (hcl121 x c ec)
      exact ⟨o, e⟩
    · exact List.mem_cons_self ..
    · obtain ⟨ta, eta⟩ := va
      subst eta
      have cA : h'.IsCell (C + 1) (some (.str (tx [a]) ta)) := rd_cell (F''.rd ev') (by intro q; cases q) rfl
      have cV' : h'.IsCell (n + 3) (some (.ref Vd)) := cV.keeps kk
      have mV' : h'.MapOf (strKind PG w) Vd fV := mapOf_keeps mV₃ kk
      have CV : (C + 1 : Nat) ≠ n + 3 := fun q => by
        have z := F''.freshC (C + 1) (List.mem_cons_self ..)
        have z : h₃.get? (C + 1) = none := z
        obtain ⟨o, e, _⟩ := cV
        rw [show (C + 1 : Addr) = n + 3 from q, e] at z; cases z
      refine Ev.join (P := IsL IsC (alike every a)) (fun s₁ k₁ => Ev.mono (Ev.listComp (tk := false) (xs := L6) (P := IsC) (G := IsC) (cl := [("views", n + 3), ("state", C + 1)]) (fun o => decide (view every o = view every a)) (fun o ρ h => ∃ v, ρ "other" = some v ∧ IsC o v h) rfl ?_ (fun q hq => ?_) (fun _ _ _ _ x _ => x) (fun _ _ _ _ _ x => x) (by decide)
        (Src.str hh Ev.cstr' lt128) (fun o C' _ => Assigns.name (.inl rfl) stq_S) (fun o C' ρ'' h'' tk'' ho ⟨v, ev'', va⟩ k2 F3 => ?_) (fun o C' ρ'' h'' tk'' ho _ ⟨v, ev'', va⟩ k2 F3 => ?_)) fun u h' _ x => x.1) fun v t s₁ k₁ ⟨M, ws, m, e1, ho, L⟩ => ?_
      · refine List.pairwise_cons.mpr ⟨fun q hq => ?_, List.pairwise_singleton _ _⟩
        rw [List.mem_singleton.mp hq]; exact Ne.symm CV
      · simp only [List.mem_cons, List.not_mem_nil, or_false] at hq
        rcases hq with rfl | rfl
        · exact ⟨_, cV'.keeps (keeps_heap k₁)⟩
        · exact ⟨_, cA.keeps (keeps_heap k₁)⟩
      · have kA : Kp h' h'' := fun b o q => k2 _ _ (keeps_heap k₁ _ _ q)
        have at_ : ∀ {s₂ : Shared} {x : Nat} {t : Tok} {value slice : Expr} (hs : subscripted slice false (.ref Vd) (.str (tx [x]) t) = operate [.ref Vd, .str (tx [x]) t] (getItem (.ref Vd) (.str (tx [x]) t))), x ∈ L6 → Kp h'' s₂.heap → Ev (model PG w) (A.deeper (envAt 121 n)) (subscriptTail value slice (.ref Vd) (.str (tx [x]) t)) (IsTx (view every x)) s₂ := fun {s₂ x t value slice} hs hx k => by
          obtain ⟨u, eu, t5, et5⟩ := rV x hx
          exact (Ev.subDict (mapOf_keeps mV' fun b o q => k _ _ (kA _ _ q)) eu hs).mono fun v _ _ q => ⟨t5, (show v = u from q).trans et5⟩
        exact Ev.tests1 (Ev.cmpT (P1 := IsTx (view every o)) (P2 := IsTx (view every a))
            (Ev.sub (P1 := IsV (.ref Vd)) (P2 := IsC o) (Ev.name rfl (.inr ⟨.inl rfl, _, rfl, cV'.keeps kA⟩)) (fun _ s₂ k₂ _ => (Ev.name rfl ((F3.rd ev'').keeps (keeps_heap k₂))).mono fun _ _ _ e => by have e : _ = v := e; rw [e]; exact va)
              fun p j s₂ s₃ k₂ e3 k₃ ⟨t4, e4⟩ => by
                have e3 : p = .ref Vd := e3
                subst e3 e4
                exact at_ (by with_unfolding_all rfl) ho (keeps_heap (keeps_trans k₂ k₃)))
            (fun _ s₂ k₂ _ => Ev.sub (P1 := IsV (.ref Vd)) (P2 := IsC a) (Ev.name rfl ((Rd.keeps (.inr ⟨.inl rfl, _, rfl, cV'.keeps kA⟩) (keeps_heap k₂)))) (fun _ s₃ k₃ _ => (Ev.name rfl ((Rd.keeps (.inr ⟨.inl rfl, _, rfl, cA.keeps kA⟩) (keeps_heap (keeps_trans k₂ k₃))))).mono fun _ _ _ e => ⟨ta, e⟩)
              fun p j s₃ s₄ k₃ e3 k₄ ⟨t4, e4⟩ => by
                have e3 : p = .ref Vd := e3
                subst e3 e4
                exact at_ (by with_unfolding_all rfl) ha (keeps_heap (keeps_trans (keeps_trans k₂ k₃) k₄)))
            (fun _ j s₂ s₃ _ ⟨t3, e3⟩ _ ⟨t4, e4⟩ => by subst e3 e4; exact Ev.eqStr))
      · exact (Ev.name rfl (F3.rd ev'')).mono fun _ _ _ e => by have e : _ = v := e; rw [e]; exact va
      · subst e1
        refine Ev.mono (Ev.joinL ho (all2_single L) ?_) fun _ _ _ q => ?_
        · rw [sum_singles]
          have := List.length_filter_le (fun o => decide (view every o = view every a)) L6
          unfold alike
          have l6 : L6.length = 6 := rfl
          omega
        · rw [flatten_singles] at q; exact q
    have hA : IsL IsTx (L6.map (alike every)) (.ref D) h₄ := by
      obtain ⟨b, vs, m, e, ho, r⟩ := hD
      refine ⟨b, vs, m, e, ho, ?_⟩
      have e3 : L6.filter (fun _ => true) = L6 := rfl
      rw [e3] at r
      exact All2.map_left (f := alike every) (F := fun x v => IsTx x v h₄) r
    have rA : ∀ {ρ : Str → Option Value}, upd ρ "alike" (.ref D) "alike" = some (.ref D) := by simp [upd]
    -- return [...]
    refine wpAny_execs_cons (wpAny_Return_some (Ev.use (P := fun v h => IsL IsTx (classes every) v h) (Ev.mono (Ev.listComp (tk := false) (xs := (L6.map (alike every)).zip L6) (P := fun q v h => ∃ a vs n u1 u2, v = .ref a ∧ h.get? a = some (tobj vs n) ∧ vs = [u1, u2] ∧ (∃ t, u1 = .str (tx q.1) t) ∧ ∃ t, u2 = .str (tx [q.2]) t) (G := fun q => IsTx q.1) (cl := []) (fun q => decide ([q.1.headD 0] = [q.2]))
      (fun q ρ _ => ∃ u1 u2, ρ "part" = some u1 ∧ ρ "state" = some u2 ∧ (∃ t, u1 = .str (tx q.1) t) ∧ ∃ t, u2 = .str (tx [q.2]) t) rfl List.Pairwise.nil (fun q hq => by cases hq) (fun _ _ _ _ x _ => x) (fun _ _ _ _ _ x => x) (by rw [List.length_zip]; have : L6.length = 6 := rfl; omega)
      ?_ (fun q C _ => Assigns.pair hh (.inl rfl) (.inl rfl) (by decide)) (fun q C ρ' h' tk' hq ⟨u1, u2, e1, e2, ⟨t1, et1⟩, ⟨t2, et2⟩⟩ kk F'' => ?_) (fun q C ρ' h' tk' hq _ ⟨u1, u2, e1, e2, ⟨t1, et1⟩, ⟨t2, et2⟩⟩ kk F'' => ?_)) fun v h' _ ⟨⟨M, ws, m, e, ho, r⟩, _⟩ => ⟨M, ws, m, e, ho, All2.map_left (f := fun q : List Nat × Nat => q.1) (F := fun x v => IsTx x v h') r⟩) fun v h₅ tk₅ k₅ hv => ?_))
    · refine Src.zip (s := { s with heap := h₄, toks := tk₄ }) (P1 := fun part u => ∃ t, u = .str (tx part) t) (P2 := fun c u => ∃ t, u = .str (tx [c]) t) (n2 := L6.length) hh ?_ (fun s₁ k₁ => ?_) (fun s₁ k₁ => ?_) ?_
      · exact bname (G.kp F₄.keep) rfl rfl (by decide +kernel) (by decide) rfl rfl rfl
      · refine Ev.mono (Ev.name rfl ((F₄.rd rA).keeps (keeps_heap k₁))) fun v h' k' e => ?_
        have e : v = .ref D := e
        subst e
        obtain ⟨b, vs, m, eb, ho, r⟩ := hA
        cases eb
        have z := Zs.list (w := w) (k' _ _ (keeps_heap k₁ _ _ ho))
        have el : vs.length = ((L6.map (alike every)).zip L6).length := by rw [← r.length, List.length_zip, List.length_map, Nat.min_self]
        rw [el] at z
        refine z.mono fun i v hi ev => ?_
        obtain ⟨q, hq⟩ : ∃ q, ((L6.map (alike every)).zip L6)[i]? = some q := ⟨_, List.getElem?_eq_getElem hi⟩
        refine ⟨q, hq, ?_⟩
        obtain ⟨x, hx, px⟩ := r.get' ev
        rw [List.getElem?_zip_eq_some] at hq
        rw [hq.1] at hx; cases hx
        exact px
      · refine Ev.mono (Ev.cstr' (l := L6)) fun v h' _ ⟨t, e⟩ => ?_
        subst e
        refine (Zs.str (w := w) (h := h') (l := L6) (t := t) (by decide)).mono fun i v hi ⟨c, ec, ev⟩ q hq => ?_
        rw [List.getElem?_zip_eq_some] at hq
        rw [hq.2] at ec; cases ec
        exact ev
      · rw [List.length_zip]; exact Nat.min_le_right _ _
    · subst et1 et2
      have hne : q.1[0]? = some (q.1.headD 0) := by
        obtain ⟨c, hc, hq1⟩ := List.mem_map.mp (List.of_mem_zip hq).1
        have hm : c ∈ q.1 := by
          rw [← hq1]; unfold alike
          exact List.mem_filter.mpr ⟨hc, by simp⟩
        cases hq2 : q.1 with
        | nil => rw [hq2] at hm; cases hm
        | cons a r => rfl
      have hlen : q.1.length ≤ 1000 := by
        obtain ⟨c, hc, hq1⟩ := List.mem_map.mp (List.of_mem_zip hq).1
        rw [← hq1]
        have := List.length_filter_le (fun o => decide (view every o = view every c)) L6
        unfold alike
        have l6 : L6.length = 6 := rfl
        omega
      exact Ev.tests1 (Ev.cmpT (P1 := IsC (q.1.headD 0)) (P2 := IsC q.2) (Ev.sub (P1 := IsTx q.1) (P2 := IsI 0) ((Ev.name rfl (F''.rd e1)).mono fun _ _ _ e => ⟨t1, e⟩) (fun _ s₂ k₂ _ => Ev.cint)
          fun p j s₂ s₃ _ ⟨t3, e3⟩ _ ⟨t4, e4⟩ => by subst e3 e4; exact Ev.subStr (i := 0) hlen hne)
        (fun _ s₂ k₂ _ => (Ev.name rfl ((F''.rd e2).keeps (keeps_heap k₂))).mono fun _ _ _ e => ⟨t2, e⟩) (fun _ j s₂ s₃ _ ⟨t3, e3⟩ _ ⟨t4, e4⟩ => by subst e3 e4; exact Ev.eqStr))
    · exact (Ev.name rfl (F''.rd e1)).mono fun _ _ _ e => ⟨t1, (show _ = u1 from e).trans et1⟩
    · refine hQ v h₅ tk₅ (by rw [← hev]; exact hv) fun b o q => k₅ _ _ (F₄.keep _ _ q)
end
end Mine

end

-- ======== Law1 ========
section
open PySem PySem.W PyProof.Rows
set_option maxRecDepth 100000
set_option maxHeartbeats 1000000
namespace Mine

section
variable {w : World} {A : Around} {E : Value → Shared → Prop} {s : Shared} {env : Env} {k : Nat}

theorem Ev.subInt {a b : Int} {t u : Tok} : Ev (model PG w) A (binaryOp .Sub (.int a t) (.int b u)) (IsI (a - b)) s := fun _ => PySem.P.sub_int ⟨keeps_tok, _, rfl⟩
theorem Ev.maxInt {a b : Int} {t u : Tok} (hh : A.handled = none) : Ev (model PG w) A (call (.builtin "max") [.int a t, .int b u]) (IsI (max a b)) s := fun _ => by
  refine max_two_ints hh fun h' tk hk => ⟨keeps_mk hk, ?_⟩
  by_cases hc : b > a
  · rw [if_pos hc]; exact ⟨u, by rw [Int.max_eq_right (by omega)]⟩
  · rw [if_neg hc]; exact ⟨t, by rw [Int.max_eq_left (by omega)]⟩

/-- f(e1, e2), a def that leaves all -/
theorem Ev.fcall2 {f e1 e2 : Expr} {pos : Pos} {a : Addr} {o : Obj} {fd : FuncData} {P1 P2 R : VP} (h0 : Ev (model PG w) A (eval f env) (IsV (.ref a)) s) (ha : s.heap.get? a = some o) (hd : o.data = .func fd)
    (h1 : ∀ s₁, Keeps s s₁ → Ev (model PG w) A (eval e1 env) P1 s₁) (h2 : ∀ s₁, Keeps s s₁ → Ev (model PG w) A (eval e2 env) P2 s₁) (hP1 : Stb P1)
    (h3 : ∀ v1 v2 s₁, Keeps s s₁ → P1 v1 s₁.heap → P2 v2 s₁.heap → Ev (model PG w) A (call (.ref a) [v1, v2]) R s₁)
    (hs : starEach [e1, e2] env = [(false, eval e1 env), (false, eval e2 env)] := by rfl)
    (he : eval (.Call f [e1, e2] [] pos) env = (do callWith pos (← eval f env) [] (backTo pos (starEach [e1, e2] env)) (backToKw pos (keywordEach [] env))) := by rfl) : Ev (model PG w) A (eval (.Call f [e1, e2] [] pos) env) R s := fun E => by
  refine Call_ (h0.use' fun v s₁ k₁ e1' => ?_) he
  have e1' : v = .ref a := e1'
  subst e1'
  rw [hs]
  refine Calls.callWith_function (o := o) (fd := fd) (Calls.evalArgs_plain (Calls.spliced_cons ?_))
  show wpAny _ A (eval e1 env) _ E s₁
  refine (h1 s₁ k₁).use' fun v1 s₂ k₂ p₁ => Calls.spliced_cons ?_
  show wpAny _ A (eval e2 env) _ E s₂
  refine (h2 s₂ (keeps_trans k₁ k₂)).use' fun v2 s₃ k₃ p₂ => Calls.spliced_nil ?_
  have kk := keeps_trans (keeps_trans k₁ k₂) k₃
  refine ⟨⟨keeps_heap kk _ _ ha, hd⟩, ?_⟩
  exact (h3 v1 v2 s₃ kk (hP1 _ _ _ (keeps_heap k₃) p₁) p₂).use' fun _ _ k₄ r => ⟨keeps_trans kk k₄, r⟩

/-- f(e1, e2), f a built-in function -/
theorem Ev.bcall2 {f e1 e2 : Expr} {pos : Pos} {id : String} {P1 P2 R : VP} (h0 : Ev (model PG w) A (eval f env) (IsV (.builtin id)) s)
    (h1 : ∀ s₁, Keeps s s₁ → Ev (model PG w) A (eval e1 env) P1 s₁) (h2 : ∀ s₁, Keeps s s₁ → Ev (model PG w) A (eval e2 env) P2 s₁) (hP1 : Stb P1)
    (h3 : ∀ v1 v2 s₁, Keeps s s₁ → P1 v1 s₁.heap → P2 v2 s₁.heap → Ev (model PG w) A (call (.builtin id) [v1, v2]) R s₁)
    (hs : starEach [e1, e2] env = [(false, eval e1 env), (false, eval e2 env)] := by rfl)
    (he : eval (.Call f [e1, e2] [] pos) env = (do callWith pos (← eval f env) [] (backTo pos (starEach [e1, e2] env)) (backToKw pos (keywordEach [] env))) := by rfl) : Ev (model PG w) A (eval (.Call f [e1, e2] [] pos) env) R s := fun E => by
  refine Call_ (h0.use' fun v s₁ k₁ e1' => ?_) he
  have e1' : v = .builtin id := e1'
  subst e1'
  rw [hs]
  refine Calls.callWith_builtin rfl (Calls.evalArgs_plain (Calls.spliced_cons ?_))
  show wpAny _ A (eval e1 env) _ E s₁
  refine (h1 s₁ k₁).use' fun v1 s₂ k₂ p₁ => Calls.spliced_cons ?_
  show wpAny _ A (eval e2 env) _ E s₂
  refine (h2 s₂ (keeps_trans k₁ k₂)).use' fun v2 s₃ k₃ p₂ => Calls.spliced_nil ?_
  have kk := keeps_trans (keeps_trans k₁ k₂) k₃
  exact (h3 v1 v2 s₃ kk (hP1 _ _ _ (keeps_heap k₃) p₁) p₂).use' fun _ _ k₄ r => ⟨keeps_trans kk k₄, r⟩

/-- a and b, in a test -/
theorem Ev.andT {x y : Expr} {pos : Pos} {whole : Sem Value} {b c : Bool} (h1 : Ev (model PG w) A (isTrue x env (eval x env)) (fun d _ => d = b) s) (h2 : ∀ s₁, Keeps s s₁ → b = true → Ev (model PG w) A (isTrue y env (eval y env)) (fun d _ => d = c) s₁) :
    Ev (model PG w) A (isTrue (.BoolOp .And [x, y] pos) env whole) (fun d _ => d = (b && c)) s := fun E => by
  refine isTrue_and (h1.use' fun d s₁ k₁ e => ?_)
  subst e
  cases d with
  | false => exact ⟨k₁, rfl⟩
  | true => exact isTrue_and ((h2 s₁ k₁ rfl).use' fun d s₂ k₂ e => by
      subst e
      cases d with
      | false => exact ⟨keeps_trans k₁ k₂, rfl⟩
      | true => exact isTrue_and_nil ⟨keeps_trans k₁ k₂, rfl⟩)

/-- x and y, the first true -/
theorem Ev.andV {x y : Expr} {pos : Pos} {P : VP} (h1 : Ev (model PG w) A (eval x env) (IsB true) s) (h2 : ∀ s₁, Keeps s s₁ → Ev (model PG w) A (eval y env) P s₁) :
    Ev (model PG w) A (eval (.BoolOp .And [x, y] pos) env) P s := fun E => by
  refine BoolOp_and (h1.use' fun v s₁ k₁ e => ?_)
  have e : v = .bool true := e
  subst e
  refine wpAny_truthy_bool ?_
  simp only [if_true]
  exact BoolOp_one ((h2 s₁ k₁).use' fun _ _ k₂ q => ⟨keeps_trans k₁ k₂, q⟩)

/-- a list of texts beside another -/
theorem Ev.eqTexts {a b : Addr} {vs us : List Value} {n m : Nat} {xs : List (List Nat)} (R : Rm A k) (e1 : s.heap.get? a = some (lobj vs n)) (e2 : s.heap.get? b = some (lobj us m)) (r1 : All2 (fun x v => IsTx x v s.heap) xs vs) (r2 : All2 (fun x v => IsTx x v s.heap) xs us)
    (hx : ∀ x ∈ xs, ∀ c ∈ x, c < 128) : Ev (model PG w) A (compareOp .Eq (.ref a) (.ref b)) (IsB true) s := fun _ => by
  have cl : PyData.canLay0 (.list (xs.map fun x => .str (tx x))) = true := canLayAll_tx hx
  refine PySem.SeqAt.compareEq_reads (.list e1 rfl rfl (reads_strs r1)) (.list e2 rfl rfl (reads_strs r2)) cl cl ?_ ⟨keeps_refl, ?_⟩
  · have e : PyData.depth (.list (xs.map fun x => PyData.str (tx x))) ≤ 64 := by
      show PyData.depthAll _ + 1 ≤ 64
      rw [depthAll_strs]; decide
    have := R.un
    omega
  · show Value.bool _ = _
    rw [PySem.SeqAt.eqv_refl _ cl]

theorem goal_objs {h : Heap} : ∀ {gs : List (Nat × List Nat)} {vs : List Value}, All2 (fun g v => IsG g v h) gs vs → ∃ objs : List (Addr × Obj), (∀ q ∈ objs, h.get? q.1 = some q.2) ∧ ∀ h' : Heap, (∀ q ∈ objs, h'.get? q.1 = some q.2) → All2 (fun g v => IsG g v h') gs vs
  | _, _, .nil => ⟨[], (fun _ q => by cases q), fun _ _ => .nil⟩
  | _, _, .cons ⟨a, n, u1, u2, e, ho, r⟩ rest => by
    obtain ⟨objs, h1, h2⟩ := goal_objs rest
    refine ⟨(a, tobj [u1, u2] n) :: objs, fun q hq => ?_, fun h' hh => .cons ⟨a, n, u1, u2, e, hh (a, tobj [u1, u2] n) (by simp), r⟩ (h2 h' fun q hq => hh q (by simp [hq]))⟩
    rcases List.mem_cons.mp hq with rfl | hq
    · exact ho
    · exact h1 q hq

/-- the goals of a list, one after the other -/
theorem Src.goals {target : Expr} {t : Sem Value} {gs : List (Nat × List Nat)} (hh : A.handled = none) (ht : Ev (model PG w) A t (fun v h => ∃ a vs n, v = .ref a ∧ h.get? a = some (lobj vs n) ∧ All2 (fun g v => IsG g v h) gs vs) s) :
    Src PG w A target false t gs (fun g v h => ∃ a vs n u1 u2, v = .ref a ∧ h.get? a = some (tobj vs n) ∧ vs = [u1, u2] ∧ (∃ t, u1 = .str (tx [g.1]) t) ∧ ∃ t, u2 = .str (tx g.2) t) s := by
  intro Q E hQ
  refine ht.use' fun v s₁ k₁ ⟨a, vs, n, e, ho, r⟩ => ?_
  subst e
  obtain ⟨objs, h1, h2⟩ := goal_objs r
  have hl : s₁.heap.IsList a vs.toArray := ⟨_, ho, rfl, n, rfl⟩
  have hlt : a < s₁.heap.objs.size := Heap.lt_size ho
  refine wpAny_pyIter_list hl ?_
  have W := Walks.list (prog := PG) (w := w) (A := A) hh s₁.heap.objs.size a (Nat.ne_of_lt hlt) vs.toArray
  have hsz : vs.toArray.size = gs.length := by rw [List.size_toArray, r.length]
  rw [hsz] at W
  have olt : ∀ q ∈ objs, q.1 < s₁.heap.objs.size := fun q hq => Heap.lt_size (h1 q hq)
  refine hQ _ _ _ _ _ (keeps_trans k₁ keeps_push) (It.withObjs W objs (fun q hq => ?_) (fun i v s' Q' E' st q => letGo_listiter st.1 q) (fun i v h hi p ob => ?_) nt_list) ⟨⟨⟨_, Heap.get?_push_size _ rfl, rfl, rfl⟩, hl.push _⟩, fun q hq => kp_push _ _ (h1 q hq)⟩ (fun b hb => ?_) (fun b hb => ?_)
  · simpa using Nat.ne_of_lt (olt q hq)
  · have p' : vs.toArray[i]? = some v := p
    obtain ⟨g, eg, a', n', u1, u2, e1, e2, e3⟩ := (h2 h ob).get' (by simpa using p')
    exact ⟨g, eg, a', _, n', u1, u2, e1, e2, rfl, e3⟩
  · show b < (s₁.heap.push _).objs.size
    rw [Heap.size_push]
    rcases List.mem_append.mp hb with hb | hb
    · rcases List.mem_cons.mp hb with q | hb
      · rw [q]; exact Nat.lt_succ_self _
      · rw [List.mem_singleton.mp hb]; exact Nat.lt_succ_of_lt hlt
    · obtain ⟨q, hq, rfl⟩ := List.mem_map.mp hb
      exact Nat.lt_succ_of_lt (olt q hq)
  · rw [List.mem_singleton.mp hb]
    exact none_of (keeps_heap k₁) (Heap.get?_none_of_le (Nat.le_refl _))
end
end Mine

end

-- ======== Plain1 ========
section
namespace Mine

-- ===== lists =====
theorem nodup6 : L6.Nodup := by decide
theorem sublist_filter : ∀ {l p : List Nat}, p.Sublist l → l.Nodup → p = l.filter fun x => decide (x ∈ p) := by
  intro l p h
  induction h with
  | slnil => intro _; rfl
  | @cons l₁ l₂ a h ih =>
    intro hn
    have hn := List.nodup_cons.mp hn
    have ha : a ∉ l₁ := fun q => hn.1 (h.subset q)
    rw [List.filter_cons, decide_eq_false ha]
    simp only [Bool.false_eq_true, if_false]
    exact ih hn.2
  | @cons_cons l₁ l₂ a h ih =>
    intro hn
    have hn := List.nodup_cons.mp hn
    rw [List.filter_cons, decide_eq_true (List.mem_cons_self ..)]
    simp only [if_true]
    have e : l₂.filter (fun x => decide (x ∈ a :: l₁)) = l₂.filter fun x => decide (x ∈ l₁) := by
      apply List.filter_congr
      intro x hx
      have : x ≠ a := fun q => hn.1 (q ▸ hx)
      simp [this]
    rw [e, ← ih hn.2]

-- ===== halves, turns =====
theorem mem_halves {f : Nat → Nat} {p g h : List Nat} : h ∈ halves f p g ↔ h ≠ [] ∧ (h = p.filter (pin f g) ∨ h = p.filter fun c => !pin f g c) := by
  unfold halves
  rw [List.mem_filter]
  simp only [List.mem_cons, List.not_mem_nil, or_false, Bool.not_eq_true', List.isEmpty_eq_false_iff]
  constructor
  · rintro ⟨a, b⟩; exact ⟨b, a⟩
  · rintro ⟨a, b⟩; exact ⟨b, a⟩
theorem halves_flat {f : Nat → Nat} {p g : List Nat} : (halves f p g).flatten.Perm p := by
  have e : (halves f p g).flatten = p.filter (pin f g) ++ p.filter fun c => !pin f g c := by
    unfold halves
    rw [List.filter_cons, List.filter_cons, List.filter_nil]
    cases h1 : p.filter (pin f g) <;> cases h2 : p.filter (fun c => !pin f g c) <;> simp
  rw [e]
  exact List.filter_append_perm ..
def pushes (f : Nat → Nat) (g p : List Nat) : List (Nat × List Nat) := if (halves f p g).length = 2 then both (lesser (halves f p g)) else []
theorem fold_turn (f : Nat → Nat) (g : List Nat) : ∀ (ps : List (List Nat)) (acc : List (List Nat) × List (Nat × List Nat)),
    ps.foldl (turn f g) acc = (acc.1 ++ ps.flatMap fun p => halves f p g, acc.2 ++ ps.flatMap (pushes f g))
  | [], acc => by simp
  | p :: r, acc => by
    rw [List.foldl_cons, fold_turn f g r]
    unfold turn pushes
    by_cases h : (halves f p g).length = 2
    · simp [h, pushes]
    · simp [h, pushes]
theorem halves_two {f : Nat → Nat} {p g : List Nat} (h : (halves f p g).length = 2) : halves f p g = [p.filter (pin f g), p.filter fun c => !pin f g c] ∧ p.filter (pin f g) ≠ [] ∧ (p.filter fun c => !pin f g c) ≠ [] := by
  unfold halves at h ⊢
  rw [List.filter_cons, List.filter_cons, List.filter_nil] at h ⊢
  cases h1 : p.filter (pin f g) <;> cases h2 : p.filter (fun c => !pin f g c) <;> simp [h1, h2] at h ⊢
theorem halves_not_two {f : Nat → Nat} {p g : List Nat} (hp : p ≠ []) (h : (halves f p g).length ≠ 2) : halves f p g = [p] := by
  have hall : ∀ q : Nat → Bool, p.filter (fun c => !q c) = [] → p.filter q = p := fun q hq => by
    rw [List.filter_eq_self]
    rw [List.filter_eq_nil_iff] at hq
    intro c hc
    simpa using hq c hc
  have hall' : ∀ q : Nat → Bool, p.filter q = [] → p.filter (fun c => !q c) = p := fun q hq => by
    rw [List.filter_eq_self]
    rw [List.filter_eq_nil_iff] at hq
    intro c hc
    simpa using hq c hc
  unfold halves at h ⊢
  rw [List.filter_cons, List.filter_cons, List.filter_nil] at h ⊢
  cases h1 : p.filter (pin f g) with
  | nil =>
    have h2 := hall' _ h1
    cases h3 : p with
    | nil => exact absurd h3 hp
    | cons a r => rw [h3] at h1 h2 h; simp [h1, h2]
  | cons a r =>
    cases h2 : p.filter (fun c => !pin f g c) with
    | nil =>
      have h3 := hall _ h2
      rw [h1] at h3
      simp only [List.isEmpty_cons, List.isEmpty_nil, Bool.not_false, Bool.not_true, if_true, Bool.false_eq_true, if_false]
      rw [h3]
    | cons b t => simp [h1, h2] at h
theorem lesser_two {a b : List Nat} : (lesser [a, b] = a ∧ a.length ≤ b.length) ∨ (lesser [a, b] = b ∧ b.length ≤ a.length) := by
  unfold lesser
  simp only [List.headD_cons, List.getLastD_cons, List.getLastD_nil]
  by_cases h : a.length ≤ b.length
  · exact .inl ⟨by simp [h], h⟩
  · exact .inr ⟨by simp [h], by omega⟩
end Mine

end

-- ======== Plain2 ========
section
namespace Mine

-- ===== the rows =====
section
variable {δ : Nat → Nat → Nat} {glad : List Nat}

theorem mem_pre {f : Nat → Nat} {row : List Nat} {c : Nat} (hc : c ∈ L6) : c ∈ pre f row ↔ f c ∈ row := by
  unfold pre
  rw [List.mem_filter]
  simp [hc]
theorem mem_rowsN {rows : List (List Nat)} {r : List Nat} : r ∈ rowsN δ rows ↔ ∃ q ∈ rows, ∃ sg ∈ S2, r = pre (δ sg) q := by
  unfold rowsN
  rw [List.mem_flatMap]
  constructor
  · rintro ⟨q, hq, h⟩
    obtain ⟨sg, hs, e⟩ := List.mem_map.mp h
    exact ⟨q, hq, sg, hs, e.symm⟩
  · rintro ⟨q, hq, sg, hs, e⟩
    exact ⟨q, hq, List.mem_map.mpr ⟨sg, hs, e.symm⟩⟩
theorem mem_every : ∀ (k : Nat) (r : List Nat), r ∈ everyAt δ glad (k + 1) ↔ r = glad ∨ ∃ q ∈ everyAt δ glad k, ∃ sg ∈ S2, r = pre (δ sg) q
  | 0, r => by
    show r ∈ [glad] ++ rowsN δ [glad] ↔ _
    rw [List.mem_append, mem_rowsN]
    simp [everyAt]
  | k + 1, r => by
    show r ∈ everyAt δ glad (k + 1) ++ rowsN δ (rowsAt δ glad (k + 1)) ↔ _
    rw [List.mem_append, mem_rowsN, mem_every k r]
    constructor
    · rintro ((h | ⟨q, hq, h⟩) | ⟨q, hq, h⟩)
      · exact .inl h
      · exact .inr ⟨q, List.mem_append_left _ hq, h⟩
      · exact .inr ⟨q, List.mem_append_right _ hq, h⟩
    · rintro (h | ⟨q, hq, h⟩)
      · exact .inl (.inl h)
      · rcases List.mem_append.mp hq with hq | hq
        · exact .inl (.inr ⟨q, hq, h⟩)
        · exact .inr ⟨q, hq, h⟩

/-- alike by words of at most k signs -/
def Rk (δ : Nat → Nat → Nat) (glad : List Nat) (k c d : Nat) : Prop := ∀ r ∈ everyAt δ glad k, (c ∈ r ↔ d ∈ r)
theorem Rk.refl {k c : Nat} : Rk δ glad k c c := fun _ _ => Iff.rfl
theorem Rk.symm {k c d : Nat} (h : Rk δ glad k c d) : Rk δ glad k d c := fun r hr => (h r hr).symm
theorem Rk.trans {k c d e : Nat} (h : Rk δ glad k c d) (h' : Rk δ glad k d e) : Rk δ glad k c e := fun r hr => (h r hr).trans (h' r hr)
theorem Rk_zero {c d : Nat} : Rk δ glad 0 c d ↔ (c ∈ glad ↔ d ∈ glad) := by
  constructor
  · intro h; exact h glad (List.mem_singleton.mpr rfl)
  · intro h r hr; rw [List.mem_singleton.mp hr]; exact h
theorem Rk_succ {k c d : Nat} (hc : c ∈ L6) (hd : d ∈ L6) : Rk δ glad (k + 1) c d ↔ (c ∈ glad ↔ d ∈ glad) ∧ ∀ sg ∈ S2, Rk δ glad k (δ sg c) (δ sg d) := by
  constructor
  · intro h
    refine ⟨h glad ((mem_every k glad).mpr (.inl rfl)), fun sg hs q hq => ?_⟩
    have := h (pre (δ sg) q) ((mem_every k _).mpr (.inr ⟨q, hq, sg, hs, rfl⟩))
    rwa [mem_pre hc, mem_pre hd] at this
  · rintro ⟨h1, h2⟩ r hr
    rcases (mem_every k r).mp hr with e | ⟨q, hq, sg, hs, e⟩
    · rw [e]; exact h1
    · rw [e, mem_pre hc, mem_pre hd]; exact h2 sg hs q hq
theorem Rk_down {k c d : Nat} (h : Rk δ glad (k + 1) c d) : Rk δ glad k c d := fun r hr => h r (List.mem_append_left _ hr)
theorem view_eq {every : List (List Nat)} {c d : Nat} : view every c = view every d ↔ ∀ r ∈ every, (c ∈ r ↔ d ∈ r) := by
  unfold view
  induction every with
  | nil => simp
  | cons a r ih =>
    rw [List.map_cons, List.map_cons, List.cons.injEq, ih]
    constructor
    · rintro ⟨h1, h2⟩ x hx
      rcases List.mem_cons.mp hx with e | hx
      · rw [e]
        by_cases hc : c ∈ a <;> by_cases hd : d ∈ a <;> simp [hc, hd] at h1 ⊢
      · exact h2 x hx
    · intro h
      refine ⟨?_, fun x hx => h x (List.mem_cons_of_mem _ hx)⟩
      have := h a (List.mem_cons_self ..)
      by_cases hc : c ∈ a
      · rw [if_pos hc, if_pos (this.mp hc)]
      · rw [if_neg hc, if_neg fun q => hc (this.mpr q)]
theorem view_Rk {k c d : Nat} : view (everyAt δ glad k) c = view (everyAt δ glad k) d ↔ Rk δ glad k c d := view_eq

/-- the first of a state's class -/
def rep (δ : Nat → Nat → Nat) (glad : List Nat) (k c : Nat) : Nat := (alike (everyAt δ glad k) c).headD 0
def reps (δ : Nat → Nat → Nat) (glad : List Nat) (k : Nat) : List Nat := L6.filter fun c => decide (rep δ glad k c = c)
theorem mem_alike {k c d : Nat} : d ∈ alike (everyAt δ glad k) c ↔ d ∈ L6 ∧ Rk δ glad k d c := by
  unfold alike
  rw [List.mem_filter, decide_eq_true_iff, view_Rk]
theorem alike_congr {k c d : Nat} (h : Rk δ glad k c d) : alike (everyAt δ glad k) c = alike (everyAt δ glad k) d := by
  unfold alike
  rw [view_Rk.mpr h]
theorem rep_mem {k c : Nat} (hc : c ∈ L6) : rep δ glad k c ∈ alike (everyAt δ glad k) c := by
  have hm : c ∈ alike (everyAt δ glad k) c := mem_alike.mpr ⟨hc, .refl⟩
  unfold rep
  cases h : alike (everyAt δ glad k) c with
  | nil => rw [h] at hm; cases hm
  | cons a r => exact List.mem_cons_self ..
theorem rep_L6 {k c : Nat} (hc : c ∈ L6) : rep δ glad k c ∈ L6 := (mem_alike.mp (rep_mem hc)).1
theorem rep_R {k c : Nat} (hc : c ∈ L6) : Rk δ glad k (rep δ glad k c) c := (mem_alike.mp (rep_mem hc)).2
theorem rep_congr {k c d : Nat} (h : Rk δ glad k c d) : rep δ glad k c = rep δ glad k d := by
  unfold rep; rw [alike_congr h]
theorem rep_rep {k c : Nat} (hc : c ∈ L6) : rep δ glad k (rep δ glad k c) = rep δ glad k c := rep_congr (rep_R hc)
theorem rep_in {k c : Nat} (hc : c ∈ L6) : rep δ glad k c ∈ reps δ glad k := List.mem_filter.mpr ⟨rep_L6 hc, decide_eq_true (rep_rep hc)⟩

theorem filter_lt {p q : Nat → Bool} : ∀ {l : List Nat}, (∀ x ∈ l, p x = true → q x = true) → ∀ x ∈ l, q x = true → p x = false → (l.filter p).length < (l.filter q).length
  | a :: r, h, x, hx, hq, hp => by
    have hle : ∀ {l : List Nat}, (∀ x ∈ l, p x = true → q x = true) → (l.filter p).length ≤ (l.filter q).length := by
      intro l
      induction l with
      | nil => intro _; exact Nat.le_refl _
      | cons b t ih =>
        intro h
        have h2 := ih fun x hx => h x (List.mem_cons_of_mem _ hx)
        rw [List.filter_cons, List.filter_cons]
        cases hb : p b with
        | true => rw [h b (List.mem_cons_self ..) hb]; simp only [if_true, List.length_cons]; omega
        | false =>
          simp only [Bool.false_eq_true, if_false]
          split
          · rw [List.length_cons]; omega
          · exact h2
    rw [List.filter_cons, List.filter_cons]
    rcases List.mem_cons.mp hx with e | hx
    · subst e
      rw [hq, hp]
      simp only [Bool.false_eq_true, if_false, if_true, List.length_cons]
      have := hle fun x hx => h x (List.mem_cons_of_mem _ hx)
      omega
    · have ih := filter_lt (fun x hx => h x (List.mem_cons_of_mem _ hx)) x hx hq hp
      cases ha : p a with
      | true => rw [h a (List.mem_cons_self ..) ha]; simp only [if_true, List.length_cons]; omega
      | false =>
        simp only [Bool.false_eq_true, if_false]
        split
        · rw [List.length_cons]; omega
        · exact ih

theorem head_filter {p q : Nat → Bool} {l : List Nat} {c : Nat} (h : ∀ x ∈ l, p x = true → q x = true) (hq : (l.filter q).headD 0 = c) (hm : c ∈ l.filter q) (hp : p c = true) : (l.filter p).headD 0 = c := by
  have e : l.filter p = (l.filter q).filter p := by
    rw [List.filter_filter]
    apply List.filter_congr
    intro x hx
    cases hx2 : p x with
    | true => rw [h x hx hx2]; rfl
    | false => rfl
  rw [e]
  cases hf : l.filter q with
  | nil => rw [hf] at hm; cases hm
  | cons a r =>
    rw [hf] at hq
    have hq : a = c := hq
    rw [hq, List.filter_cons, hp]; rfl

theorem rep_up {k c : Nat} (hc : c ∈ L6) (h : rep δ glad k c = c) : rep δ glad (k + 1) c = c := by
  unfold rep alike at h ⊢
  refine head_filter (q := fun o => decide (view (everyAt δ glad k) o = view (everyAt δ glad k) c)) (fun x _ hx => ?_) h ?_ (by simp)
  · rw [decide_eq_true_iff] at hx ⊢
    exact view_Rk.mpr (Rk_down (view_Rk.mp hx))
  · exact List.mem_filter.mpr ⟨hc, by simp⟩

theorem reps_lt {k c d : Nat} (hc : c ∈ L6) (hd : d ∈ L6) (h : Rk δ glad k c d) (hn : ¬ Rk δ glad (k + 1) c d) : (reps δ glad k).length < (reps δ glad (k + 1)).length := by
  have sub : ∀ x ∈ L6, decide (rep δ glad k x = x) = true → decide (rep δ glad (k + 1) x = x) = true := fun x hx hp => decide_eq_true (rep_up hx (of_decide_eq_true hp))
  have r1 := rep_R (δ := δ) (glad := glad) (k := k + 1) hc
  have r2 := rep_R (δ := δ) (glad := glad) (k := k + 1) hd
  have m1 := rep_L6 (δ := δ) (glad := glad) (k := k + 1) hc
  have m2 := rep_L6 (δ := δ) (glad := glad) (k := k + 1) hd
  have ne : rep δ glad (k + 1) c ≠ rep δ glad (k + 1) d := fun q => hn (r1.symm.trans (q ▸ r2))
  have hk : Rk δ glad k (rep δ glad (k + 1) c) (rep δ glad (k + 1) d) := (Rk_down r1).trans (h.trans (Rk_down r2).symm)
  by_cases h1 : rep δ glad k (rep δ glad (k + 1) c) = rep δ glad (k + 1) c
  · by_cases h2 : rep δ glad k (rep δ glad (k + 1) d) = rep δ glad (k + 1) d
    · exact absurd (h1.symm.trans ((rep_congr hk).trans h2)) ne
    · exact filter_lt sub _ m2 (decide_eq_true (rep_rep hd)) (decide_eq_false h2)
  · exact filter_lt sub _ m1 (decide_eq_true (rep_rep hc)) (decide_eq_false h1)

/-- nothing more is told at k + 1 -/
def Still (δ : Nat → Nat → Nat) (glad : List Nat) (k : Nat) : Prop := ∀ c ∈ L6, ∀ d ∈ L6, Rk δ glad k c d → Rk δ glad (k + 1) c d
theorem Still.up (hδ : ∀ sg c, δ sg c ∈ L6) {k : Nat} (h : Still δ glad k) : Still δ glad (k + 1) := fun c hc d hd r => by
  rw [Rk_succ hc hd] at r ⊢
  exact ⟨r.1, fun sg hs => h _ (hδ sg c) _ (hδ sg d) (r.2 sg hs)⟩
theorem not_still {k : Nat} (h : ¬ Still δ glad k) : ∃ c ∈ L6, ∃ d ∈ L6, Rk δ glad k c d ∧ ¬ Rk δ glad (k + 1) c d := by
  unfold Still at h
  have h := Classical.not_forall.mp h
  obtain ⟨c, h⟩ := h
  have h := Classical.not_imp.mp h
  obtain ⟨hc, h⟩ := h
  obtain ⟨d, h⟩ := Classical.not_forall.mp h
  obtain ⟨hd, h⟩ := Classical.not_imp.mp h
  obtain ⟨h1, h2⟩ := Classical.not_imp.mp h
  exact ⟨c, hc, d, hd, h1, h2⟩
theorem still4 (hδ : ∀ sg c, δ sg c ∈ L6) : Still δ glad 4 := by
  refine Classical.byContradiction fun h4 => ?_
  have h3 : ¬ Still δ glad 3 := fun h => h4 (h.up hδ)
  have h2 : ¬ Still δ glad 2 := fun h => h3 (h.up hδ)
  have h1 : ¬ Still δ glad 1 := fun h => h2 (h.up hδ)
  have h0 : ¬ Still δ glad 0 := fun h => h1 (h.up hδ)
  have lt : ∀ {k}, ¬ Still δ glad k → (reps δ glad k).length < (reps δ glad (k + 1)).length := fun h => by
    obtain ⟨c, hc, d, hd, a, b⟩ := not_still h
    exact reps_lt hc hd a b
  have l0 : (reps δ glad 0).length < (reps δ glad 1).length := lt h0
  have l1 : (reps δ glad 1).length < (reps δ glad 2).length := lt h1
  have l2 : (reps δ glad 2).length < (reps δ glad 3).length := lt h2
  have l3 : (reps δ glad 3).length < (reps δ glad 4).length := lt h3
  have l4 : (reps δ glad 4).length < (reps δ glad 5).length := lt h4
  have l5 : (reps δ glad 5).length ≤ 6 := List.length_filter_le _ _
  -- at least two at the start
  have two : 2 ≤ (reps δ glad 0).length := by
    obtain ⟨c, hc, d, hd, a, b⟩ := not_still h0
    refine Classical.byContradiction fun hlt => b ?_
    have tot : ∀ x ∈ L6, ∀ y ∈ L6, Rk δ glad 0 x y := fun x hx y hy => by
      have i1 := rep_in (δ := δ) (glad := glad) (k := 0) hx
      have i2 := rep_in (δ := δ) (glad := glad) (k := 0) hy
      have e : rep δ glad 0 x = rep δ glad 0 y := by
        cases hr : reps δ glad 0 with
        | nil => rw [hr] at i1; cases i1
        | cons a r =>
          cases r with
          | nil => rw [hr] at i1 i2; rw [List.mem_singleton.mp i1, List.mem_singleton.mp i2]
          | cons b t => rw [hr] at hlt; simp at hlt
      exact (rep_R hx).symm.trans (e ▸ rep_R hy)
    rw [Rk_succ hc hd]
    exact ⟨Rk_zero.mp a, fun sg hs => tot _ (hδ sg c) _ (hδ sg d)⟩
  omega
/-- alike for ever -/
theorem R4_all (hδ : ∀ sg c, δ sg c ∈ L6) {c d : Nat} (hc : c ∈ L6) (hd : d ∈ L6) (h : Rk δ glad 4 c d) : ∀ k, Rk δ glad k c d := by
  have st : ∀ k, Still δ glad (4 + k) := fun k => by
    induction k with
    | zero => exact still4 hδ
    | succ k ih => exact ih.up hδ
  have up : ∀ k, Rk δ glad (4 + k) c d := fun k => by
    induction k with
    | zero => exact h
    | succ k ih => exact st k c hc d hd ih
  have down : ∀ m k, Rk δ glad (k + m) c d → Rk δ glad k c d := fun m => by
    induction m with
    | zero => intro k h; exact h
    | succ m ih => intro k h; exact ih k (Rk_down h)
  intro k
  refine down 4 k ?_
  rw [Nat.add_comm]; exact up k
end
end Mine

end

-- ======== Plain3 ========
section
namespace Mine

section
variable {δ : Nat → Nat → Nat} {glad : List Nat}

def Rw (δ : Nat → Nat → Nat) (glad : List Nat) (c d : Nat) : Prop := ∀ k, Rk δ glad k c d
theorem Rw.step {c d s : Nat} (hc : c ∈ L6) (hd : d ∈ L6) (h : Rw δ glad c d) (hs : s ∈ S2) : Rw δ glad (δ s c) (δ s d) := fun k => ((Rk_succ hc hd).mp (h (k + 1))).2 s hs
def Sat (δ : Nat → Nat → Nat) (glad S : List Nat) : Prop := ∀ c ∈ L6, ∀ d ∈ L6, Rw δ glad c d → (c ∈ S ↔ d ∈ S)
def num (s c : Nat) (gs : List (Nat × List Nat)) : Nat := (gs.filter fun g => g.1 == s && decide (c ∈ g.2)).length
theorem num_append {s c : Nat} {a b : List (Nat × List Nat)} : num s c (a ++ b) = num s c a + num s c b := by unfold num; rw [List.filter_append, List.length_append]
theorem num_perm {s c : Nat} {a b : List (Nat × List Nat)} (h : a.Perm b) : num s c a = num s c b := (h.filter _).length_eq
def Bnd (n m : Nat) : Prop := n ≤ 2 ∧ (1 ≤ n → m ≤ 3) ∧ (2 ≤ n → m ≤ 1)

structure Inv (δ : Nat → Nat → Nat) (glad : List Nat) (st : St) : Prop where
  flat : st.parts.flatten.Perm L6
  pt : ∀ p ∈ st.parts, p ≠ [] ∧ p.Sublist L6
  sp : ∀ p ∈ st.parts, Sat δ glad p
  sg : ∀ g ∈ st.laid, Sat δ glad g.2
  gl : ∀ g ∈ st.laid, g.1 ∈ S2 ∧ g.2.Sublist L6
  fi : ∀ p ∈ st.parts, ∀ c ∈ p, ∀ d ∈ p, (c ∈ glad ↔ d ∈ glad)
  sep : ∀ p ∈ st.parts, ∀ c ∈ p, ∀ d ∈ p, ∀ s ∈ S2, (∃ q ∈ st.parts, δ s c ∈ q ∧ δ s d ∈ q) ∨ ∃ g ∈ st.laid, g.1 = s ∧ ¬ (δ s c ∈ g.2 ↔ δ s d ∈ g.2)
  cnt : st.gone.length + st.laid.length = 2 * max 1 (st.parts.length - 1)
  few : (st.parts.length = 1 ∧ (∀ g ∈ st.laid, ∀ c ∈ L6, c ∈ g.2) ∧ ∀ s ∈ S2, ∀ c ∈ L6, num s c (st.gone ++ st.laid) ≤ 1) ∨
    (2 ≤ st.parts.length ∧ ∀ s ∈ S2, ∀ c ∈ L6, ∀ p ∈ st.parts, c ∈ p → Bnd (num s c (st.gone ++ st.laid)) p.length)

theorem parts_len {ps : List (List Nat)} (h : ∀ p ∈ ps, p ≠ []) : ps.length ≤ ps.flatten.length := by
  induction ps with
  | nil => exact Nat.le_refl _
  | cons a r ih =>
    rw [List.flatten_cons, List.length_append, List.length_cons]
    have h1 := ih fun p hp => h p (List.mem_cons_of_mem _ hp)
    have h2 := List.length_pos_iff.mpr (h a (List.mem_cons_self ..))
    omega
theorem Inv.np {st : St} (I : Inv δ glad st) : st.parts.length ≤ 6 := by
  have h := parts_len fun p hp => (I.pt p hp).1
  rw [I.flat.length_eq] at h
  exact h
theorem Inv.ok {st : St} (I : Inv δ glad st) : Ok st := by
  have hn := I.np
  have hc := I.cnt
  have l6 : L6.length = 6 := rfl
  refine ⟨hn, fun p hp => ⟨(I.pt p hp).1, ?_, fun c hc => (I.pt p hp).2.subset hc⟩, by omega, fun g hg => ⟨(I.gl g hg).1, ?_, fun c hc => (I.gl g hg).2.subset hc⟩, by omega⟩
  · have := (I.pt p hp).2.length_le; omega
  · have := (I.gl g hg).2.length_le; omega

theorem flat_halves {f : Nat → Nat} {G : List Nat} : ∀ {ps : List (List Nat)}, (ps.flatMap fun p => halves f p G).flatten.Perm ps.flatten
  | [] => .refl _
  | p :: r => by
    rw [List.flatMap_cons, List.flatten_append, List.flatten_cons]
    exact halves_flat.append flat_halves
theorem half_of {f : Nat → Nat} {G p h : List Nat} (hh : h ∈ halves f p G) : ∃ b : Bool, h = p.filter (fun c => pin f G c == b) := by
  rcases (mem_halves.mp hh).2 with e | e
  · refine ⟨true, e.trans ?_⟩
    apply List.filter_congr; intro x _; cases pin f G x <;> rfl
  · refine ⟨false, e.trans ?_⟩
    apply List.filter_congr; intro x _; cases pin f G x <;> rfl
theorem in_half {f : Nat → Nat} {G p : List Nat} {c : Nat} (hc : c ∈ p) : p.filter (fun x => pin f G x == pin f G c) ∈ halves f p G := by
  have hm : c ∈ p.filter (fun x => pin f G x == pin f G c) := List.mem_filter.mpr ⟨hc, by simp⟩
  refine mem_halves.mpr ⟨(fun q => by rw [q] at hm; cases hm), ?_⟩
  cases h : pin f G c with
  | true => left; apply List.filter_congr; intro x _; cases pin f G x <;> rfl
  | false => right; apply List.filter_congr; intro x _; cases pin f G x <;> rfl
theorem pin_eq {f : Nat → Nat} {G : List Nat} {c d : Nat} : pin f G c = pin f G d ↔ (f c ∈ G ↔ f d ∈ G) := by
  unfold pin
  by_cases h1 : f c ∈ G <;> by_cases h2 : f d ∈ G <;> simp [h1, h2]
theorem split_of {f : Nat → Nat} {G q : List Nat} {c d : Nat} (hc : c ∈ q) (hd : d ∈ q) (h : pin f G c ≠ pin f G d) : (halves f q G).length = 2 := by
  refine Classical.byContradiction fun hn => ?_
  have e := halves_not_two (fun z => by rw [z] at hc; cases hc) hn
  have m := in_half (f := f) (G := G) hc
  rw [e] at m
  have m := List.mem_singleton.mp m
  rw [← m] at hd
  have := (List.mem_filter.mp hd).2
  exact h (by simpa using Eq.symm (eq_of_beq this))
theorem lesser_mem {f : Nat → Nat} {G q : List Nat} (h : (halves f q G).length = 2) : lesser (halves f q G) ∈ halves f q G := by
  rw [(halves_two h).1]
  rcases lesser_two (a := q.filter (pin f G)) (b := q.filter fun c => !pin f G c) with e | e <;> rw [e.1] <;> simp
theorem lesser_sep {f : Nat → Nat} {G q : List Nat} {c d : Nat} (hc : c ∈ q) (hd : d ∈ q) (h : pin f G c ≠ pin f G d) : ¬ (c ∈ lesser (halves f q G) ↔ d ∈ lesser (halves f q G)) := by
  obtain ⟨b, e⟩ := half_of (lesser_mem (split_of hc hd h))
  rw [e]
  intro z
  simp only [List.mem_filter, hc, hd, true_and, beq_iff_eq] at z
  cases h1 : pin f G c <;> cases h2 : pin f G d <;> cases b <;> simp [h1, h2] at z h
theorem lesser_half {f : Nat → Nat} {G q : List Nat} (h : (halves f q G).length = 2) : 2 * (lesser (halves f q G)).length ≤ q.length := by
  have hl : (q.filter (pin f G)).length + (q.filter fun c => !pin f G c).length = q.length := by
    have := (List.filter_append_perm (pin f G) q).length_eq
    rwa [List.length_append] at this
  rw [(halves_two h).1]
  rcases lesser_two (a := q.filter (pin f G)) (b := q.filter fun c => !pin f G c) with e | e <;> rw [e.1] <;> omega

theorem halves_count {f : Nat → Nat} {G : List Nat} : ∀ {ps : List (List Nat)}, (∀ p ∈ ps, p ≠ []) → 2 * (ps.flatMap fun p => halves f p G).length = 2 * ps.length + (ps.flatMap (pushes f G)).length
  | [], _ => rfl
  | p :: r, h => by
    have ih := halves_count (f := f) (G := G) fun q hq => h q (List.mem_cons_of_mem _ hq)
    rw [List.flatMap_cons, List.flatMap_cons, List.length_append, List.length_append, List.length_cons]
    have hp : 2 * (halves f p G).length = 2 + (pushes f G p).length := by
      unfold pushes
      by_cases h2 : (halves f p G).length = 2
      · rw [if_pos h2, h2]; rfl
      · rw [if_neg h2, halves_not_two (h p (List.mem_cons_self ..)) h2]; rfl
    omega
theorem push_of {f : Nat → Nat} {G p : List Nat} {g : Nat × List Nat} (h : g ∈ pushes f G p) : (halves f p G).length = 2 ∧ g.1 ∈ S2 ∧ g.2 = lesser (halves f p G) := by
  unfold pushes at h
  split at h
  · rename_i h2
    refine ⟨h2, ?_⟩
    simp only [both, List.mem_cons, List.not_mem_nil, or_false] at h
    rcases h with rfl | rfl
    · exact ⟨List.mem_cons_self .., rfl⟩
    · exact ⟨List.mem_cons_of_mem _ (List.mem_cons_self ..), rfl⟩
  · cases h
theorem pushed {f : Nat → Nat} {G p : List Nat} {s : Nat} (h : (halves f p G).length = 2) (hs : s ∈ S2) : (s, lesser (halves f p G)) ∈ pushes f G p := by
  unfold pushes
  rw [if_pos h]
  simp only [S2, List.mem_cons, List.not_mem_nil, or_false] at hs
  rcases hs with rfl | rfl <;> simp [both]
theorem num_both {s c : Nat} {x : List Nat} (hs : s ∈ S2) : num s c (both x) = if c ∈ x then 1 else 0 := by
  simp only [S2, List.mem_cons, List.not_mem_nil, or_false] at hs
  unfold num both
  rcases hs with rfl | rfl <;> by_cases h : c ∈ x <;> simp [h]
theorem num_none {s c : Nat} : ∀ {gs : List (Nat × List Nat)}, (∀ g ∈ gs, c ∉ g.2) → num s c gs = 0 := fun {gs} h => by
  unfold num
  rw [List.length_eq_zero_iff, List.filter_eq_nil_iff]
  intro g hg
  simp [h g hg]
theorem lesser_sub {f : Nat → Nat} {G q : List Nat} (h : (halves f q G).length = 2) : (lesser (halves f q G)).Sublist q := by
  obtain ⟨b, e⟩ := half_of (lesser_mem h)
  rw [e]; exact List.filter_sublist
theorem num_pushes {f : Nat → Nat} {G : List Nat} {s c : Nat} : ∀ {ps : List (List Nat)}, ps.flatten.Nodup → ∀ p ∈ ps, c ∈ p → num s c (ps.flatMap (pushes f G)) = num s c (pushes f G p)
  | a :: r, hn, p, hp, hc => by
    rw [List.flatten_cons, List.nodup_append] at hn
    rw [List.flatMap_cons, num_append]
    rcases List.mem_cons.mp hp with e | hp
    · subst e
      have : num s c (r.flatMap (pushes f G)) = 0 := num_none fun g hg hcg => by
        obtain ⟨q, hq, hgq⟩ := List.mem_flatMap.mp hg
        have := push_of hgq
        rw [this.2.2] at hcg
        exact hn.2.2 c hc c (List.mem_flatten.mpr ⟨q, hq, (lesser_sub this.1).subset hcg⟩) rfl
      omega
    · have h1 : num s c (pushes f G a) = 0 := num_none fun g hg hcg => by
        have := push_of hg
        rw [this.2.2] at hcg
        exact hn.2.2 c ((lesser_sub this.1).subset hcg) c (List.mem_flatten.mpr ⟨p, hp, hc⟩) rfl
      rw [num_pushes hn.2.1 p hp hc]; omega
end
end Mine

end

-- ======== Plain4 ========
section
namespace Mine

section
variable {δ : Nat → Nat → Nat} {glad : List Nat}

theorem next_eq {st : St} {i : Nat} {g : Nat × List Nat} (h : st.laid[i]? = some g) : next δ st i = ⟨st.parts.flatMap (fun p => halves (δ g.1) p g.2), st.laid.take i ++ st.laid.drop (i + 1) ++ st.parts.flatMap (pushes (δ g.1) g.2), st.gone ++ [g]⟩ := by
  unfold next
  rw [h]
  simp only [fold_turn, List.nil_append]
theorem laid_split {l : List (Nat × List Nat)} {i : Nat} {g : Nat × List Nat} (h : l[i]? = some g) : l.Perm (g :: (l.take i ++ l.drop (i + 1))) := by
  have e : l = l.take i ++ g :: l.drop (i + 1) := by
    conv => lhs; rw [← List.take_append_drop i l]
    congr 1
    obtain ⟨hi, e⟩ := List.getElem?_eq_some_iff.mp h
    rw [List.drop_eq_getElem_cons hi, e]
  conv => lhs; rw [e]
  exact List.perm_middle
theorem Bnd.mono {n m m' : Nat} (h : Bnd n m) (hm : m' ≤ m) : Bnd n m' := ⟨h.1, fun q => by have := h.2.1 q; omega, fun q => by have := h.2.2 q; omega⟩
theorem Bnd.up {n m m' : Nat} (h : Bnd n m) (h6 : m ≤ 6) (h0 : 1 ≤ m') (hm : 2 * m' ≤ m) : Bnd (n + 1) m' := by
  obtain ⟨a, b, c⟩ := h
  refine ⟨?_, fun _ => by omega, fun q => ?_⟩
  · refine Classical.byContradiction fun hn => ?_
    have := c (by omega); omega
  · have := b (by omega); omega

theorem Inv.step (hδ : ∀ s c, δ s c ∈ L6) {st : St} (I : Inv δ glad st) {i : Nat} (hi : i < st.laid.length) : Inv δ glad (next δ st i) ∧ (2 * (6 - (next δ st i).parts.length) + (next δ st i).laid.length < 2 * (6 - st.parts.length) + st.laid.length) := by
  obtain ⟨g, eg⟩ : ∃ g, st.laid[i]? = some g := ⟨_, List.getElem?_eq_getElem hi⟩
  have hg : g ∈ st.laid := List.mem_of_getElem? eg
  have hgS := (I.gl g hg).1
  have lp := laid_split eg
  have memL : ∀ x, x ∈ st.laid ↔ x = g ∨ x ∈ st.laid.take i ++ st.laid.drop (i + 1) := fun x => by rw [lp.mem_iff, List.mem_cons]
  have hnd : st.parts.flatten.Nodup := (I.flat.nodup_iff).mpr nodup6
  have cnt := halves_count (f := δ g.1) (G := g.2) fun p hp => (I.pt p hp).1
  have lenL := lp.length_eq
  rw [List.length_cons] at lenL
  have sub : ∀ p' ∈ st.parts.flatMap (fun p => halves (δ g.1) p g.2), ∃ p ∈ st.parts, p' ∈ halves (δ g.1) p g.2 := fun p' h => List.mem_flatMap.mp h
  have hsub : ∀ p p', p' ∈ halves (δ g.1) p g.2 → p'.Sublist p := fun p p' h => by obtain ⟨b, e⟩ := half_of h; rw [e]; exact List.filter_sublist
  have hsat : ∀ p' ∈ st.parts.flatMap (fun p => halves (δ g.1) p g.2), Sat δ glad p' := fun p' h => by
    obtain ⟨p, hp, hh⟩ := sub p' h
    obtain ⟨b, e⟩ := half_of hh
    intro c hc d hd r
    have h1 := I.sp p hp c hc d hd r
    have h2 : pin (δ g.1) g.2 c = pin (δ g.1) g.2 d := pin_eq.mpr (I.sg g hg _ (hδ g.1 c) _ (hδ g.1 d) (r.step hc hd hgS))
    rw [e, List.mem_filter, List.mem_filter, h1, h2]
  have flat' : (st.parts.flatMap fun p => halves (δ g.1) p g.2).flatten.Perm L6 := flat_halves.trans I.flat
  have pt' : ∀ p' ∈ st.parts.flatMap (fun p => halves (δ g.1) p g.2), p' ≠ [] ∧ p'.Sublist L6 := fun p' h => by
    obtain ⟨p, hp, hh⟩ := sub p' h
    exact ⟨(mem_halves.mp hh).1, (hsub p p' hh).trans (I.pt p hp).2⟩
  have numP : ∀ s c, num s c (st.gone ++ [g] ++ (st.laid.take i ++ st.laid.drop (i + 1) ++ st.parts.flatMap (pushes (δ g.1) g.2))) = num s c (st.gone ++ st.laid) + num s c (st.parts.flatMap (pushes (δ g.1) g.2)) := fun s c => by
    have e := num_perm (s := s) (c := c) lp
    have e2 : num s c (g :: (st.laid.take i ++ st.laid.drop (i + 1))) = num s c [g] + num s c (st.laid.take i ++ st.laid.drop (i + 1)) := num_append (a := [g])
    rw [num_append, num_append (a := st.gone), num_append (b := st.parts.flatMap _), num_append (a := st.gone) (b := st.laid)]
    omega
  have hbig : st.parts.length ≤ (st.parts.flatMap fun p => halves (δ g.1) p g.2).length := by omega
  rw [next_eq eg]
  have I' : Inv δ glad ⟨st.parts.flatMap (fun p => halves (δ g.1) p g.2), st.laid.take i ++ st.laid.drop (i + 1) ++ st.parts.flatMap (pushes (δ g.1) g.2), st.gone ++ [g]⟩ := by
    refine ⟨flat', pt', hsat, fun x hx => ?_, fun x hx => ?_, fun p' h c hc d hd => ?_, fun p' h c hc d hd s hs => ?_, ?_, ?_⟩
    · rcases List.mem_append.mp hx with hx | hx
      · exact I.sg x ((memL x).mpr (.inr hx))
      · obtain ⟨p, hp, hh⟩ := List.mem_flatMap.mp hx
        have := push_of hh
        rw [this.2.2]
        exact hsat _ (List.mem_flatMap.mpr ⟨p, hp, lesser_mem this.1⟩)
    · rcases List.mem_append.mp hx with hx | hx
      · exact I.gl x ((memL x).mpr (.inr hx))
      · obtain ⟨p, hp, hh⟩ := List.mem_flatMap.mp hx
        have := push_of hh
        refine ⟨this.2.1, ?_⟩
        rw [this.2.2]
        exact (lesser_sub this.1).trans (I.pt p hp).2
    · obtain ⟨p, hp, hh⟩ := sub p' h
      exact I.fi p hp c ((hsub p p' hh).subset hc) d ((hsub p p' hh).subset hd)
    · obtain ⟨p, hp, hh⟩ := sub p' h
      have hcp := (hsub p p' hh).subset hc
      have hdp := (hsub p p' hh).subset hd
      have hpin : pin (δ g.1) g.2 c = pin (δ g.1) g.2 d := by
        obtain ⟨b, e⟩ := half_of hh
        rw [e] at hc hd
        have h1 := eq_of_beq (List.mem_filter.mp hc).2
        have h2 := eq_of_beq (List.mem_filter.mp hd).2
        rw [h1, h2]
      rcases I.sep p hp c hcp d hdp s hs with ⟨q, hq, h1, h2⟩ | ⟨x, hx, e, h1⟩
      · by_cases hpp : pin (δ g.1) g.2 (δ s c) = pin (δ g.1) g.2 (δ s d)
        · left
          refine ⟨_, List.mem_flatMap.mpr ⟨q, hq, in_half h1⟩, List.mem_filter.mpr ⟨h1, by simp⟩, List.mem_filter.mpr ⟨h2, by simp [hpp]⟩⟩
        · right
          exact ⟨_, List.mem_append_right _ (List.mem_flatMap.mpr ⟨q, hq, pushed (split_of h1 h2 hpp) hs⟩), rfl, lesser_sep h1 h2 hpp⟩
      · rcases (memL x).mp hx with hx | hx
        · exfalso
          subst hx
          subst e
          exact h1 (pin_eq.mp hpin)
        · right
          exact ⟨x, List.mem_append_left _ hx, e, h1⟩
    · have h0 := I.cnt
      dsimp only
      rw [List.length_append, List.length_append, List.length_singleton]
      rcases I.few with ⟨one, all, _⟩ | ⟨two, _⟩
      · have k0 : (st.parts.flatMap (pushes (δ g.1) g.2)).length = 0 := by
          rw [List.length_eq_zero_iff, List.flatMap_eq_nil_iff]
          intro p hp
          unfold pushes
          refine if_neg fun h2 => ?_
          obtain ⟨_, _, hne⟩ := halves_two h2
          obtain ⟨x, r, hx⟩ := List.exists_cons_of_ne_nil hne
          have hm : x ∈ p.filter fun c => !pin (δ g.1) g.2 c := by rw [hx]; exact List.mem_cons_self ..
          have := (List.mem_filter.mp hm).2
          have z : δ g.1 x ∈ g.2 := all g hg _ (hδ _ _)
          simp [pin, z] at this
        omega
      · omega
    · dsimp only
      rcases I.few with ⟨one, all, few⟩ | ⟨two, few⟩
      · left
        have noSplit : ∀ p ∈ st.parts, ¬ (halves (δ g.1) p g.2).length = 2 := fun p hp h2 => by
          obtain ⟨_, _, hne⟩ := halves_two h2
          obtain ⟨x, r, hx⟩ := List.exists_cons_of_ne_nil hne
          have hm : x ∈ p.filter fun c => !pin (δ g.1) g.2 c := by rw [hx]; exact List.mem_cons_self ..
          have := (List.mem_filter.mp hm).2
          have z : δ g.1 x ∈ g.2 := all g hg _ (hδ _ _)
          simp [pin, z] at this
        have k0 : st.parts.flatMap (pushes (δ g.1) g.2) = [] := by
          rw [List.flatMap_eq_nil_iff]
          intro p hp
          unfold pushes
          exact if_neg (noSplit p hp)
        refine ⟨?_, fun x hx => ?_, fun s hs c hc => ?_⟩
        · rw [k0] at cnt; simp only [List.length_nil] at cnt; omega
        · rw [k0, List.append_nil] at hx
          exact all x ((memL x).mpr (.inr hx))
        · rw [numP, k0]
          exact few s hs c hc
      · right
        refine ⟨by omega, fun s hs c hc p' h hcp' => ?_⟩
        obtain ⟨p, hp, hh⟩ := sub p' h
        have hcp := (hsub p p' hh).subset hcp'
        have b0 := few s hs c hc p hp hcp
        have p6 : p.length ≤ 6 := by have := (I.pt p hp).2.length_le; exact this
        have p'1 : 1 ≤ p'.length := List.length_pos_iff.mpr (List.ne_nil_of_mem hcp')
        rw [numP, num_pushes hnd p hp hcp]
        by_cases h2 : (halves (δ g.1) p g.2).length = 2
        · have e : num s c (pushes (δ g.1) g.2 p) = if c ∈ lesser (halves (δ g.1) p g.2) then 1 else 0 := by
            unfold pushes; rw [if_pos h2]; exact num_both hs
          rw [e]
          by_cases hcl : c ∈ lesser (halves (δ g.1) p g.2)
          · rw [if_pos hcl]
            have hp' : p' = lesser (halves (δ g.1) p g.2) := by
              obtain ⟨b1, e1⟩ := half_of hh
              obtain ⟨b2, e2⟩ := half_of (lesser_mem h2)
              rw [e1] at hcp'
              have z := hcl
              rw [e2] at z
              have h1 := eq_of_beq (List.mem_filter.mp hcp').2
              have h3 := eq_of_beq (List.mem_filter.mp z).2
              rw [e1, e2, ← h1, ← h3]
            have := lesser_half h2
            rw [← hp'] at this
            exact b0.up p6 p'1 this
          · rw [if_neg hcl]
            exact b0.mono (hsub p p' hh).length_le
        · have e : num s c (pushes (δ g.1) g.2 p) = 0 := by
            unfold pushes; rw [if_neg h2]; rfl
          rw [e]
          exact b0.mono (hsub p p' hh).length_le
  refine ⟨I', ?_⟩
  have h6 := I'.np
  dsimp only at h6 ⊢
  rw [List.length_append]
  omega

theorem Inv.init (hδ : ∀ s c, δ s c ∈ L6) (hgl : ∀ c ∈ glad, c ∈ L6) : Inv δ glad ⟨halves id L6 glad, both (lesser (halves id L6 glad)), []⟩ := by
  have hpin : ∀ c d, pin id glad c = pin id glad d ↔ (c ∈ glad ↔ d ∈ glad) := fun c d => pin_eq
  have hsub : ∀ p', p' ∈ halves id L6 glad → p'.Sublist L6 := fun p' h => by obtain ⟨b, e⟩ := half_of h; rw [e]; exact List.filter_sublist
  have hsat : ∀ p' ∈ halves id L6 glad, Sat δ glad p' := fun p' h => by
    obtain ⟨b, e⟩ := half_of h
    intro c hc d hd r
    have h2 : pin id glad c = pin id glad d := (hpin c d).mpr (Rk_zero.mp (r 0))
    rw [e, List.mem_filter, List.mem_filter, h2]
    simp [hc, hd]
  have l2 : (halves id L6 glad).length ≤ 2 := halves_len
  have l1 : 1 ≤ (halves id L6 glad).length := List.length_pos_iff.mpr (halves_ne (by decide))
  have lm : lesser (halves id L6 glad) ∈ halves id L6 glad := by
    by_cases h2 : (halves id L6 glad).length = 2
    · exact lesser_mem h2
    · rw [halves_not_two (by decide) h2]
      simp [lesser]
  have bm : ∀ g ∈ both (lesser (halves id L6 glad)), g.1 ∈ S2 ∧ g.2 = lesser (halves id L6 glad) := fun g hg => by
    simp only [both, List.mem_cons, List.not_mem_nil, or_false] at hg
    rcases hg with rfl | rfl
    · exact ⟨List.mem_cons_self .., rfl⟩
    · exact ⟨List.mem_cons_of_mem _ (List.mem_cons_self ..), rfl⟩
  have hfi : ∀ p ∈ halves id L6 glad, ∀ c ∈ p, ∀ d ∈ p, pin id glad c = pin id glad d := fun p hp c hc d hd => by
    obtain ⟨b, e⟩ := half_of hp
    rw [e] at hc hd
    rw [eq_of_beq (List.mem_filter.mp hc).2, eq_of_beq (List.mem_filter.mp hd).2]
  refine ⟨halves_flat, fun p hp => ⟨(mem_halves.mp hp).1, hsub p hp⟩, hsat, fun g hg => ?_, fun g hg => ?_, fun p hp c hc d hd => (hpin c d).mp (hfi p hp c hc d hd), fun p hp c hc d hd s hs => ?_, ?_, ?_⟩
  · rw [(bm g hg).2]; exact hsat _ lm
  · rw [(bm g hg).2]; exact ⟨(bm g hg).1, hsub _ lm⟩
  · by_cases hpp : pin id glad (δ s c) = pin id glad (δ s d)
    · left
      exact ⟨_, in_half (hδ s c), List.mem_filter.mpr ⟨hδ s c, by simp⟩, List.mem_filter.mpr ⟨hδ s d, by simp [hpp]⟩⟩
    · right
      refine ⟨(s, lesser (halves id L6 glad)), ?_, rfl, lesser_sep (hδ s c) (hδ s d) hpp⟩
      simp only [S2, List.mem_cons, List.not_mem_nil, or_false] at hs
      rcases hs with rfl | rfl <;> simp [both]
  · show 0 + 2 = 2 * max 1 ((halves id L6 glad).length - 1)
    omega
  · by_cases h2 : (halves id L6 glad).length = 2
    · right
      refine ⟨by dsimp only; omega, fun s hs c hc p hp hcp => ?_⟩
      dsimp only
      rw [List.nil_append, num_both hs]
      have p6 : p.length ≤ 6 := (hsub p hp).length_le
      by_cases hcl : c ∈ lesser (halves id L6 glad)
      · rw [if_pos hcl]
        have hp' : p = lesser (halves id L6 glad) := by
          obtain ⟨b1, e1⟩ := half_of hp
          obtain ⟨b2, e2⟩ := half_of (lesser_mem h2)
          rw [e1] at hcp
          have z := hcl
          rw [e2] at z
          have h1 := eq_of_beq (List.mem_filter.mp hcp).2
          have h3 := eq_of_beq (List.mem_filter.mp z).2
          rw [e1, e2, ← h1, ← h3]
        have := lesser_half h2
        rw [← hp'] at this
        have l6 : L6.length = 6 := rfl
        exact ⟨by omega, fun _ => by omega, fun q => by omega⟩
      · rw [if_neg hcl]
        exact ⟨by omega, fun q => by omega, fun q => by omega⟩
    · left
      have e := halves_not_two (f := id) (p := L6) (g := glad) (by decide) h2
      have el : lesser (halves id L6 glad) = L6 := by rw [e]; rfl
      refine ⟨by dsimp only; omega, fun g hg c hc => ?_, fun s hs c hc => ?_⟩
      · rw [(bm g hg).2, el]; exact hc
      · dsimp only
        rw [List.nil_append, num_both hs]
        split <;> omega
end
end Mine

end

-- ======== Plain5 ========
section
namespace Mine

section
variable {δ : Nat → Nat → Nat} {glad : List Nat}

theorem same_R {st : St} (hδ : ∀ s c, δ s c ∈ L6) (I : Inv δ glad st) (h0 : st.laid = []) : ∀ k, ∀ p ∈ st.parts, ∀ c ∈ p, ∀ d ∈ p, Rk δ glad k c d
  | 0, p, hp, c, hc, d, hd => Rk_zero.mpr (I.fi p hp c hc d hd)
  | k + 1, p, hp, c, hc, d, hd => by
    rw [Rk_succ ((I.pt p hp).2.subset hc) ((I.pt p hp).2.subset hd)]
    refine ⟨I.fi p hp c hc d hd, fun s hs => ?_⟩
    rcases I.sep p hp c hc d hd s hs with ⟨q, hq, h1, h2⟩ | ⟨g, hg, _⟩
    · exact same_R hδ I h0 k q hq _ h1 _ h2
    · rw [h0] at hg; cases hg
theorem part_alike {st : St} (hδ : ∀ s c, δ s c ∈ L6) (I : Inv δ glad st) (h0 : st.laid = []) {p : List Nat} (hp : p ∈ st.parts) {c : Nat} (hc : c ∈ p) : p = alike (everyAt δ glad 4) c := by
  have hs := (I.pt p hp).2
  have hc6 := hs.subset hc
  rw [sublist_filter hs nodup6]
  unfold alike
  apply List.filter_congr
  intro d hd
  have : d ∈ p ↔ view (everyAt δ glad 4) d = view (everyAt δ glad 4) c := by
    rw [view_Rk]
    exact ⟨fun h => same_R hδ I h0 4 p hp d h c hc, fun h => (I.sp p hp d hd c hc6 (R4_all hδ hd hc6 h)).mpr hc⟩
  by_cases h : d ∈ p
  · rw [decide_eq_true h, decide_eq_true (this.mp h)]
  · rw [decide_eq_false h, decide_eq_false fun q => h (this.mpr q)]

theorem mem_classes {p : List Nat} : p ∈ classes (everyAt δ glad 4) ↔ ∃ c ∈ L6, p = alike (everyAt δ glad 4) c ∧ rep δ glad 4 c = c := by
  unfold classes
  rw [List.mem_map]
  constructor
  · rintro ⟨⟨p', c⟩, hq, rfl⟩
    obtain ⟨hz, hd⟩ := List.mem_filter.mp hq
    obtain ⟨i, hi⟩ := List.getElem?_of_mem hz
    rw [List.getElem?_zip_eq_some, List.getElem?_map] at hi
    have hi2 : L6[i]? = some c := hi.2
    have hi1 := hi.1
    rw [hi2] at hi1
    have e : alike (everyAt δ glad 4) c = p' := by simpa using hi1
    refine ⟨c, List.mem_of_getElem? hi2, e.symm, ?_⟩
    have := of_decide_eq_true hd
    simp only [List.cons.injEq, and_true] at this
    unfold rep
    rw [e]; exact this
  · rintro ⟨c, hc, rfl, hr⟩
    obtain ⟨i, hi⟩ := List.getElem?_of_mem hc
    refine ⟨(alike (everyAt δ glad 4) c, c), List.mem_filter.mpr ⟨List.mem_of_getElem? (i := i) ?_, decide_eq_true ?_⟩, rfl⟩
    · rw [List.getElem?_zip_eq_some, List.getElem?_map]
      dsimp only
      rw [hi]; exact ⟨rfl, rfl⟩
    · show [rep δ glad 4 c] = [c]
      rw [hr]
/-- the classes stand in their first states' order -/
theorem classes_sorted : (classes (everyAt δ glad 4)).Pairwise fun a b => a.headD 0 < b.headD 0 := by
  have key : ∀ (l : List Nat), l.Pairwise (· < ·) → ((((l.map (alike (everyAt δ glad 4))).zip l).filter fun q => decide ([q.1.headD 0] = [q.2])).map fun q => q.1).Pairwise fun a b => a.headD 0 < b.headD 0 := by
    intro l
    induction l with
    | nil => intro _; exact .nil
    | cons a r ih =>
      intro h
      have h := List.pairwise_cons.mp h
      rw [List.map_cons, List.zip_cons_cons, List.filter_cons]
      split
      · rename_i hd
        have hd := of_decide_eq_true hd
        simp only [List.cons.injEq, and_true] at hd
        rw [List.map_cons]
        refine List.pairwise_cons.mpr ⟨fun b hb => ?_, ih h.2⟩
        obtain ⟨q, hq, rfl⟩ := List.mem_map.mp hb
        obtain ⟨hz, hd2⟩ := List.mem_filter.mp hq
        have hd2 := of_decide_eq_true hd2
        simp only [List.cons.injEq, and_true] at hd2
        rw [hd, hd2]
        exact h.1 _ (List.of_mem_zip hz).2
      · exact ih h.2
  exact key L6 (by decide)
theorem classes_nodup : (classes (everyAt δ glad 4)).Nodup := by
  rw [List.nodup_iff_pairwise_ne]
  exact classes_sorted.imp fun h e => by rw [e] at h; exact Nat.lt_irrefl _ h
theorem parts_nodup {ps : List (List Nat)} (h : ∀ p ∈ ps, p ≠ []) (hn : ps.flatten.Nodup) : ps.Nodup := by
  induction ps with
  | nil => exact .nil
  | cons a r ih =>
    rw [List.flatten_cons, List.nodup_append] at hn
    refine List.nodup_cons.mpr ⟨fun ha => ?_, ih (fun p hp => h p (List.mem_cons_of_mem _ hp)) hn.2.1⟩
    obtain ⟨x, t, hx⟩ := List.exists_cons_of_ne_nil (h a (List.mem_cons_self ..))
    have hm : x ∈ a := by rw [hx]; exact List.mem_cons_self ..
    exact hn.2.2 x hm x (List.mem_flatten.mpr ⟨a, ha, hm⟩) rfl

theorem parts_perm {st : St} (hδ : ∀ s c, δ s c ∈ L6) (I : Inv δ glad st) (h0 : st.laid = []) : st.parts.Perm (classes (everyAt δ glad 4)) := by
  have hnd : st.parts.flatten.Nodup := (I.flat.nodup_iff).mpr nodup6
  rw [List.perm_ext_iff_of_nodup (parts_nodup (fun p hp => (I.pt p hp).1) hnd) classes_nodup]
  intro p
  rw [mem_classes]
  constructor
  · intro hp
    obtain ⟨x, t, hx⟩ := List.exists_cons_of_ne_nil (I.pt p hp).1
    have hm : x ∈ p := by rw [hx]; exact List.mem_cons_self ..
    have e := part_alike hδ I h0 hp hm
    refine ⟨x, (I.pt p hp).2.subset hm, e, ?_⟩
    unfold rep
    rw [← e, hx]; rfl
  · rintro ⟨c, hc, e, _⟩
    have : c ∈ st.parts.flatten := I.flat.mem_iff.mpr hc
    obtain ⟨q, hq, hcq⟩ := List.mem_flatten.mp this
    rw [e, ← part_alike hδ I h0 hq hcq]; exact hq

theorem final_count {st : St} (hδ : ∀ s c, δ s c ∈ L6) (I : Inv δ glad st) (h0 : st.laid = []) : st.gone.length = 2 * max 1 ((classes (everyAt δ glad 4)).length - 1) := by
  have := I.cnt
  rw [h0, (parts_perm hδ I h0).length_eq] at this
  simpa using this
theorem final_few {st : St} (I : Inv δ glad st) (h0 : st.laid = []) {s c : Nat} (hs : s ∈ S2) (hc : c ∈ L6) : num s c st.gone ≤ 2 := by
  rcases I.few with ⟨_, _, h⟩ | ⟨_, h⟩
  · have := h s hs c hc
    rw [h0, List.append_nil] at this
    omega
  · have hm : c ∈ st.parts.flatten := I.flat.mem_iff.mpr hc
    obtain ⟨q, hq, hcq⟩ := List.mem_flatten.mp hm
    have := (h s hs c hc q hq hcq).1
    rwa [h0, List.append_nil] at this
end

-- ===== sorted =====
open PySem.Spec in
theorem ltCps_head {a b : List Nat} (h : a.headD 0 < b.headD 0) (ha : a ≠ []) : ltCps a b = true := by
  cases a with
  | nil => exact absurd rfl ha
  | cons x r =>
    cases b with
    | nil => simp at h
    | cons y t =>
      have h : x < y := h
      unfold ltCps
      simp [h]

open PySem PyProof.Rows in
/-- what is sorted and holds the classes is the classes -/
theorem sorted_eq {D : List (List Nat)} (hD : D.Pairwise fun a b => a.headD 0 < b.headD 0) (hne : ∀ d ∈ D, d ≠ []) {ss : List Str} (hp : ss.Perm (D.map tx)) (hs : sortedS ss = true) : ss = D.map tx := by
  have hmem : ∀ x ∈ ss, ∃ d ∈ D, x = tx d := fun x hx => by
    obtain ⟨d, hd, e⟩ := List.mem_map.mp (hp.mem_iff.mp hx)
    exact ⟨d, hd, e.symm⟩
  -- heads
  have hd : ∀ d : List Nat, (tx d).cps.toList = d := fun d => by rw [tx_cps]
  have inj : ∀ a ∈ D, ∀ b ∈ D, a.headD 0 = b.headD 0 → a = b := by
    intro a ha b hb e
    obtain ⟨i, hi, ei⟩ := List.getElem_of_mem ha
    obtain ⟨j, hj, ej⟩ := List.getElem_of_mem hb
    rw [List.pairwise_iff_getElem] at hD
    rcases Nat.lt_trichotomy i j with h | h | h
    · have := hD i j hi hj h
      rw [ei, ej] at this; omega
    · subst h; rw [← ei, ← ej]
    · have := hD j i hj hi h
      rw [ei, ej] at this; omega
  let le : Str → Str → Prop := fun a b => a.cps.toList.headD 0 ≤ b.cps.toList.headD 0
  have pw : ∀ (l : List Str), (∀ x ∈ l, ∃ d ∈ D, x = tx d) → sortedS l = true → l.Pairwise le := by
    have step : ∀ (p x : Str), (∃ d ∈ D, p = tx d) → (∃ d ∈ D, x = tx d) → Spec.ltCps x.cps.toList p.cps.toList = false → le p x := by
      rintro p x ⟨d, hd1, rfl⟩ ⟨e, he1, rfl⟩ hlt
      show (tx d).cps.toList.headD 0 ≤ (tx e).cps.toList.headD 0
      rw [hd, hd] at hlt ⊢
      refine Classical.byContradiction fun hn => ?_
      rw [ltCps_head (by omega) (hne e he1)] at hlt
      cases hlt
    have ris : ∀ (l : List Str) (p : Str), (∃ d ∈ D, p = tx d) → (∀ x ∈ l, ∃ d ∈ D, x = tx d) → risingS p l = true → (p :: l).Pairwise le := by
      intro l
      induction l with
      | nil => intro p _ _ _; exact List.pairwise_singleton _ _
      | cons x r ih =>
        intro p hp hl hr
        have hr : (!Spec.ltCps x.cps.toList p.cps.toList && risingS x r) = true := hr
        rw [Bool.and_eq_true] at hr
        have hx := hl x (List.mem_cons_self ..)
        have h1 := step p x hp hx (by simpa using hr.1)
        have h2 := ih x hx (fun y hy => hl y (List.mem_cons_of_mem _ hy)) hr.2
        refine List.pairwise_cons.mpr ⟨fun y hy => ?_, h2⟩
        rcases List.mem_cons.mp hy with e | hy
        · rw [e]; exact h1
        · exact Nat.le_trans h1 ((List.pairwise_cons.mp h2).1 y hy)
    intro l hl hs
    cases l with
    | nil => exact .nil
    | cons p r => exact ris r p (hl p (List.mem_cons_self ..)) (fun x hx => hl x (List.mem_cons_of_mem _ hx)) hs
  refine List.Perm.eq_of_pairwise (le := le) (fun a b ha hb h1 h2 => ?_) (pw ss hmem hs) ?_ hp
  · obtain ⟨d, hd1, rfl⟩ := hmem a ha
    obtain ⟨e, he1, e2⟩ := List.mem_map.mp hb
    subst e2
    have h1 : (tx d).cps.toList.headD 0 ≤ (tx e).cps.toList.headD 0 := h1
    have h2 : (tx e).cps.toList.headD 0 ≤ (tx d).cps.toList.headD 0 := h2
    rw [hd, hd] at h1 h2
    rw [inj d hd1 e he1 (by omega)]
  · rw [List.pairwise_map]
    refine hD.imp fun {a b} h => ?_
    show (tx a).cps.toList.headD 0 ≤ (tx b).cps.toList.headD 0
    rw [hd, hd]; omega
end Mine

end

-- ======== Law2 ========
section
open PySem PySem.W PyProof.Rows
set_option maxRecDepth 100000
set_option maxHeartbeats 1000000
namespace Mine

noncomputable abbrev envL (n f : Addr) (qual : Str) (cd : Value) : Env := nenv (fnAt 143).scope n mainGlobals [] qual (some f) cd none builtinsNs
noncomputable abbrev fcL (n : Addr) : List Addr := ncells (fnAt 143).scope n
theorem fcL_eq {n : Addr} : fcL n = [n + 2, n + 1] := rfl
abbrev FL (hb0 : Heap) (n f : Addr) (qual : Str) (cd : Value) (ρ : Str → Option Value) (h : Heap) : Prop := Fm (hideAll hb0 [123]) (envL n f qual cd) (fcL n) ρ h

section
variable {w : World} {A : Around} {E : Value → Shared → Prop} {s : Shared} {env : Env} {k : Nat}
theorem Ev.mulInt {a b : Int} {t u : Tok} (ha : Builtin.Int.intBits a ≤ 64) : Ev (model PG w) A (binaryOp .Mult (.int a t) (.int b u)) (IsI (a * b)) s := fun _ => PySem.P.mul_int ⟨keeps_tok, _, rfl⟩ (IntMulOk.of_left ha)
theorem strs_all : ∀ {ss : List Str} {vs : List Value} {D : List (List Nat)} {h : Heap}, StrsAre vs ss → ss = D.map tx → All2 (fun x v => IsTx x v h) D vs
  | _, _, [], _, .nil, _ => .nil
  | _, _, _ :: _, _, .nil, e => by cases e
  | _, _, [], _, .cons _ _ _, e => by cases e
  | _, _, _ :: _, _, .cons x t r, e => by
    rw [List.map_cons, List.cons.injEq] at e
    exact .cons ⟨t, by rw [e.1]⟩ (strs_all r e.2)
theorem Ev.sortedT {a : Addr} {vs : List Value} {n : Nat} {xs D : List (List Nat)} (e : s.heap.get? a = some (lobj vs n)) (r : All2 (fun x v => IsTx x v s.heap) xs vs) (hl : xs.length ≤ 60) (hp : xs.Perm D) (hD : D.Pairwise fun a b => a.headD 0 < b.headD 0) (hne : ∀ d ∈ D, d ≠ []) :
    Ev (model PG w) A (call (.builtin "sorted") [.ref a]) (fun v h => ∃ b us m, v = .ref b ∧ h.get? b = some (lobj us m) ∧ All2 (fun x v => IsTx x v h) D us) s := fun _ => by
  have hlen := r.length
  refine sorted_strs (ss := xs.map tx) ⟨_, e, rfl, n, rfl⟩ (strsAre_of r) (by omega) fun out ss' h1 h2 h3 => ?_
  obtain ⟨c, he⟩ := sortedAll_at s.heap vs out
  refine ⟨keeps_mk fun _ _ q => sortedAll_old q, _, out.toList, c, rfl, ?_, strs_all h1 (sorted_eq hD hne (h2.trans (hp.map tx)) h3)⟩
  rw [he]
end

section
variable {w : World} {A : Around} {E : Value → Shared → Prop} {s : Shared} {mg mb : Str → Option Value} {k : Nat} {hb0 : Heap} {n f : Addr} {qual : Str} {cd : Value} {ρ : Str → Option Value}

theorem fl_kt {h : Heap} (F : FL hb0 n f qual cd ρ h) : Kt hb0 h := fun b o hb e => F.keep b o (hideAll_get _ e (by simpa using hb))
theorem hclL : ∀ y c, (envL n f qual cd).cells.lookup y = some c → c ∈ fcL n := fun _ _ ec => ncells_mem ec
theorem fl_kt123 {h h' : Heap} (F : FL hb0 n f qual cd ρ h) (T : ∃ ps, h.get? 123 = some (tabObj ps)) (kt : Kt h h') : FL hb0 n f qual cd ρ h' := by
  obtain ⟨ps, hT⟩ := T
  refine F.frameW (W := [123]) (fun b o hb e => kt b o (by simpa using hb) e) (fun q => ?_) (fun y c ec => ?_) (fun c hc => ?_) (by simpa using hideAll_none [123] (by simp))
  · obtain ⟨m, o, es, ep, e, dd, _⟩ := F.ns
    rw [List.mem_singleton.mp q, hT] at e; cases e; cases dd
  · intro q
    obtain ⟨v, o, e, dd⟩ := F.cells c (hclL y c ec)
    rw [List.mem_singleton.mp q, hT] at e; cases e; cases dd
  · intro q
    obtain ⟨v, o, e, dd⟩ := F.cells c hc
    rw [List.mem_singleton.mp q, hT] at e; cases e; cases dd
theorem fd116 : ∃ o, (KK w).lookup 116 = some o ∧ o.data = .func (fnAt 116) := ⟨_, rfl, rfl⟩
theorem fd121 : ∃ o, (KK w).lookup 121 = some o ∧ o.data = .func (fnAt 121) := ⟨_, rfl, rfl⟩
theorem fd138 : ∃ o, (KK w).lookup 138 = some o ∧ o.data = .func (fnAt 138) := ⟨_, rfl, rfl⟩

theorem isStr_eq : Value.isStrOf = fun n v => v.isStr n := by
  funext n v
  cases v <;> simp [Value.isStrOf, Value.isStr]
/-- the locals know no such names -/
def NoKeys (n : Addr) (h : Heap) : Prop := ∃ m, h.Ns n m ∧ m (tx [48]) = none ∧ m (tx [97]) = none
theorem NoKeys.kp {n : Addr} {h h' : Heap} (x : NoKeys n h) (k : Kp h h') : NoKeys n h' := let ⟨m, e, r⟩ := x; ⟨m, e.keeps k, r⟩
theorem NoKeys.map {n a : Addr} {w : World} {h : Heap} {f : Str → Option Value} (x : NoKeys n h) (m : h.MapOf (strKind PG w) a f) (hf : f (tx [48]) ≠ none ∨ f (tx [97]) ≠ none) : a ≠ n := fun q => by
  obtain ⟨m', ⟨o, es, ep, ho, hd, _, hfind⟩, z1, z2⟩ := x
  obtain ⟨o', es', ep', ho', _, hd', _, r⟩ := m
  rw [q, ho] at ho'; cases ho'
  rw [hd] at hd'; cases hd'
  have e : ∀ y, f y = m' y := fun y => (r y).symm.trans ((congrArg (fun z => findBy z es y) isStr_eq).trans (hfind y))
  rcases hf with hf | hf
  · exact hf ((e _).trans z1)
  · exact hf ((e _).trans z2)
/-- the steps, none of them in the frame -/
def StepsApart (w : World) (env : Env) (fc : List Addr) (δ : Nat → Nat → Nat) (v : Value) (h : Heap) : Prop :=
  ∃ a f, v = .ref a ∧ a ≠ env.locals ∧ a ∉ fc ∧ h.MapOf (strKind PG w) a f ∧ ∀ sg ∈ S2, ∃ a' f', f (tx [sg]) = some (.ref a') ∧ a' ≠ env.locals ∧ a' ∉ fc ∧ h.MapOf (strKind PG w) a' f' ∧ ∀ c ∈ L6, ∃ t, f' (tx [c]) = some (.str (tx [δ sg c]) t)
theorem mapOf_kf {w : World} {env : Env} {fc : List Addr} {h h' : Heap} {a : Addr} {f : Str → Option Value} (k : KpF env fc h h') (h1 : a ≠ env.locals) (h2 : a ∉ fc) (m : h.MapOf (strKind PG w) a f) : h'.MapOf (strKind PG w) a f := let ⟨o, es, ep, ho, r⟩ := m; ⟨o, es, ep, k _ _ h1 h2 ho, r⟩
theorem StepsApart.kp {w : World} {env : Env} {fc : List Addr} {δ : Nat → Nat → Nat} {v : Value} {h h' : Heap} (x : StepsApart w env fc δ v h) (k : Kp h h') : StepsApart w env fc δ v h' :=
  let ⟨a, f, e, n1, n2, m, r⟩ := x
  ⟨a, f, e, n1, n2, mapOf_keeps m k, fun sg hs => let ⟨a', f', e', n1', n2', m', r'⟩ := r sg hs; ⟨a', f', e', n1', n2', mapOf_keeps m' k, r'⟩⟩
theorem StepsApart.kf {w : World} {env : Env} {fc : List Addr} {δ : Nat → Nat → Nat} {v : Value} {h h' : Heap} (x : StepsApart w env fc δ v h) (k : KpF env fc h h') : StepsApart w env fc δ v h' :=
  let ⟨a, f, e, n1, n2, m, r⟩ := x
  ⟨a, f, e, n1, n2, mapOf_kf k n1 n2 m, fun sg hs => let ⟨a', f', e', n1', n2', m', r'⟩ := r sg hs; ⟨a', f', e', n1', n2', mapOf_kf k n1' n2' m', r'⟩⟩
theorem StepsApart.steps {w : World} {env : Env} {fc : List Addr} {δ : Nat → Nat → Nat} {v : Value} {h : Heap} (x : StepsApart w env fc δ v h) : IsSteps w δ v h :=
  let ⟨a, f, e, _, _, m, r⟩ := x
  ⟨a, f, e, m, fun sg hs => let ⟨a', f', e', _, _, m', r'⟩ := r sg hs; ⟨_, e', a', f', rfl, m', r'⟩⟩
theorem StepsApart.of {w : World} {hb : Heap} {env : Env} {fc : List Addr} {ρ : Str → Option Value} {h : Heap} {δ : Nat → Nat → Nat} {v : Value} (F : Fm hb env fc ρ h) (x : NoKeys env.locals h) (hs : IsSteps w δ v h) : StepsApart w env fc δ v h := by
  have nc : ∀ {a f}, h.MapOf (strKind PG w) a f → a ∉ fc := fun {a f} m hc => by
    obtain ⟨o', es', ep', ho', _, hd', _, r⟩ := m
    obtain ⟨v, o, e, d⟩ := F.cells a hc
    rw [e] at ho'; cases ho'
    rw [d] at hd'; cases hd'
  obtain ⟨a, f, e, m, r⟩ := hs
  obtain ⟨u, eu, _⟩ := r 48 (by decide)
  refine ⟨a, f, e, x.map m (.inl (by rw [eu]; simp)), nc m, m, fun sg hs => ?_⟩
  obtain ⟨u, eu, a', f', e', m', r'⟩ := r sg hs
  obtain ⟨t, et⟩ := r' 97 (by decide)
  exact ⟨a', f', by rw [eu, e'], x.map m' (.inr (by rw [et]; simp)), nc m', m', r'⟩

/-- _law_parted(e1, e2, e3) -/
theorem eval_parted {env : Env} {f e1 e2 e3 : Expr} {pos : Pos} {δ : Nat → Nat → Nat} {glad : List Nat} {sv : Value} {picks : List Int} {Q : Value → Shared → Prop} (hδ : ∀ sg c, δ sg c ∈ L6)
    (G : Gd w mg mb s.heap) (R : Rm A (k + 6)) (T : Tab lamQual lamPos s.heap) (hst : IsSteps w δ sv s.heap) (hgl : ∀ c ∈ glad, c ∈ L6) (hgn : glad.length ≤ 6) (hkn : picks ≠ []) (hkl : picks.length ≤ 100)
    (h0 : Ev (model PG w) A (eval f env) (IsV (.ref 138)) s)
    (h1 : ∀ s₁, Keeps s s₁ → Ev (model PG w) A (eval e1 env) (IsV sv) s₁) (h2 : ∀ s₁, Keeps s s₁ → Ev (model PG w) A (eval e2 env) (IsTx glad) s₁)
    (h3 : ∀ s₁, Keeps s s₁ → Ev (model PG w) A (eval e3 env) (fun v h => ∃ pk kvs km, v = .ref pk ∧ h.get? pk = some (lobj kvs km) ∧ All2 (fun i v => ∃ t, v = .int i t) picks kvs) s₁)
    (hQ : ∀ st v h' tk, Inv δ glad st → st.laid = [] → IsParted st v h' → Kt s.heap h' → Tab lamQual lamPos h' → Q v { s with heap := h', toks := tk })
    (hs : starEach [e1, e2, e3] env = [(false, eval e1 env), (false, eval e2 env), (false, eval e3 env)] := by rfl)
    (he : eval (.Call f [e1, e2, e3] [] pos) env = (do callWith pos (← eval f env) [] (backTo pos (starEach [e1, e2, e3] env)) (backToKw pos (keywordEach [] env))) := by rfl) :
    wpAny (model PG w) A (eval (.Call f [e1, e2, e3] [] pos) env) Q E s := by
  obtain ⟨o138, ho, hd⟩ := fd138 (w := w)
  refine Call_ (h0.use' fun v s₁ k₁ e1' => ?_) he
  have e1' : v = .ref 138 := e1'
  subst e1'
  rw [hs]
  refine Calls.callWith_function (o := o138) (fd := fnAt 138) (Calls.evalArgs_plain (Calls.spliced_cons ?_))
  show wpAny _ A (eval e1 env) _ E s₁
  refine (h1 s₁ k₁).use' fun v1 s₂ k₂ p1 => Calls.spliced_cons ?_
  have p1 : v1 = sv := p1
  show wpAny _ A (eval e2 env) _ E s₂
  refine (h2 s₂ (keeps_trans k₁ k₂)).use' fun v2 s₃ k₃ ⟨t2, p2⟩ => Calls.spliced_cons ?_
  show wpAny _ A (eval e3 env) _ E s₃
  refine (h3 s₃ (keeps_trans (keeps_trans k₁ k₂) k₃)).use' fun v3 s₄ k₄ ⟨pk, kvs, km, p3, hpk, Lk⟩ => Calls.spliced_nil ?_
  subst p1 p2 p3
  have kk := keeps_trans (keeps_trans (keeps_trans k₁ k₂) k₃) k₄
  have G₄ := G.kp (keeps_heap kk)
  refine ⟨⟨G₄.X _ _ ho, hd⟩, ?_⟩
  have T₄ := T.kp (keeps_heap kk)
  have hst₄ := stb_steps _ _ _ (keeps_heap kk) hst
  obtain ⟨h₄, tk₄, rfl, kk⟩ := kk
  refine parted_spec (I := Inv δ glad) (μ := fun st => 2 * (6 - st.parts.length) + st.laid.length) G₄ R T₄ hst₄ hgl hgn hpk (Lk.mono fun _ _ q => q) hkn hkl (Inv.init hδ hgl) (fun st i I hi => Inv.step hδ I hi) (fun st I => I.ok) fun st v h' tk I h0 hp kt T' => ?_
  exact hQ st v h' tk I h0 hp (fun b o hb e => kt b o hb (kk b o e)) T'

theorem law_body {l : Addr} {svs : List Value} {sm : Nat} {script : List Int} {Q : Flow → Shared → Prop} (G0 : Gd w mg mb hb0) (R : Rm A (k + 8)) (T0 : Tab lamQual lamPos hb0) (T : Tab lamQual lamPos s.heap)
    (F : FL hb0 n f qual cd ρ s.heap) (hnk : NoKeys n s.heap) (rS : ρ "script" = some (.ref l)) (hl : hb0.get? l = some (lobj svs sm)) (Ls : All2 (fun i v => IsI i v hb0) script svs) (hlen : script.length ≤ 63)
    (hQ : ∀ h' tk, Kt hb0 h' → Tab lamQual lamPos h' → Q (.ret (.bool true)) { s with heap := h', toks := tk }) :
    wpAny (model PG w) A (execs (bodyAt 143) (envL n f qual cd)) Q E s := by
  have hh := R.hh
  have l123 : l ≠ 123 := ne123 T0 hl (by simp)
  have lS : ∀ {h : Heap} {ρ}, FL hb0 n f qual cd ρ h → h.get? l = some (lobj svs sm) := fun F' => fl_kt F' _ _ l123 hl
  have gS : ∀ {h : Heap} {ρ}, FL hb0 n f qual cd ρ h → Gd w mg mb h := fun F' => G0.kt (fl_kt F')
  have lenS := Ls.length
  have lt128 : ∀ c ∈ L6, c < 128 := by decide
  have c1 : (n : Nat) + 1 ∈ fcL n := by rw [fcL_eq]; simp
  have c2 : (n : Nat) + 2 ∈ fcL n := by rw [fcL_eq]; simp
  obtain ⟨o116, h116, d116⟩ := fd116 (w := w)
  obtain ⟨o121, h121, d121⟩ := fd121 (w := w)
  -- steps, glad = _law_machine(script)
  refine wpAny_execs_cons (Assign_Tuple (Ev.use (P := fun v h => ∃ δ glad, (∀ sg c, δ sg c ∈ L6) ∧ (∀ c ∈ glad, c ∈ L6) ∧ glad.length ≤ 6 ∧ IsMach w δ glad v h) (Ev.fcall1 (a := 116) (P := IsV (.ref l)) (gname (gS F) rfl rfl rfl rfl) ((gS F).X _ _ h116) d116 (fun s₁ k₁ => Ev.name rfl ((F.rd rS).keeps (keeps_heap k₁)))
    (fun v s₁ k₁ e E => by
      have e : v = .ref l := e
      subst e
      refine machine_spec (k := k + 7) ((gS F).kp (keeps_heap k₁)) R (keeps_heap k₁ _ _ (lS F)) (Ls.mono fun _ _ q => q) hlen fun δ glad v h' tk h1 h2 h3 h4 kp => ⟨keeps_mk kp, δ, glad, h1, h2, h3, h4⟩)) fun v h₁ tk₁ k₁ hx₁ => ?_))
  obtain ⟨δ, glad, hδ, hgl, hgn, t, sv, gv, tn, e, ho, hst, tg, eg⟩ := hx₁
  subst e eg
  have F₁ := F.kept k₁
  refine Fm.pair (x := "steps") (y := "glad") (s := { s with heap := h₁, toks := tk₁ }) F₁ hh (.inl rfl) (.inl rfl) ho fun h₂ tk₂ F₂ kf₂ => ?_
  have hsa₂ := (StepsApart.of F₁ (hnk.kp k₁) hst).kf kf₂
  have hst₂ := hsa₂.steps
  have T₂ : Tab lamQual lamPos h₂ := by
    rcases T.kp k₁ with T₁ | ⟨c', T₁⟩
    · exact .inl (F₁.other kf₂ T₁ (by intro _ _ q; cases q) (by intro _ q; cases q))
    · exact .inr ⟨c', F₁.full kf₂ T₁⟩
  obtain ⟨ρ₂, eρ₂⟩ : ∃ ρ₂, ρ₂ = upd (upd ρ "steps" sv) "glad" (.str (tx glad) tg) := ⟨_, rfl⟩
  have rSt : ρ₂ "steps" = some sv := by rw [eρ₂]; exact (upd_ne (by decide)).trans (by simp [upd])
  have rGl : ρ₂ "glad" = some (.str (tx glad) tg) := by rw [eρ₂]; simp [upd]
  have rSc : ρ₂ "script" = some (.ref l) := by rw [eρ₂]; exact (upd_ne (by decide)).trans ((upd_ne (by decide)).trans rS)
  rw [← eρ₂] at F₂
  have D0 := Inv.init hδ hgl
  -- due = _law_classes(steps, glad)
  refine wpAny_execs_cons (wpAny_Assign_Name (Ev.use (P := IsL IsTx (classes (everyAt δ glad 4))) (Ev.fcall2 (a := 121) (P1 := IsV sv) (P2 := IsTx glad) (gname (gS F₂) rfl rfl rfl rfl) ((gS F₂).X _ _ h121) d121 (fun s₁ k₁ => Ev.name rfl ((F₂.rd rSt).keeps (keeps_heap k₁)))
    (fun s₁ k₁ => (Ev.name rfl ((F₂.rd rGl).keeps (keeps_heap k₁))).mono fun _ _ _ e => ⟨tg, e⟩) (fun _ _ _ _ q => q) (fun v1 v2 s₁ k₁ e1 ⟨t2, e2⟩ E => by
      have e1 : v1 = sv := e1
      subst e1 e2
      exact classes_spec (k := k + 7) ((gS F₂).kp (keeps_heap k₁)) R (stb_steps _ _ _ (keeps_heap k₁) hst₂) hgl fun v h' tk hv kp => ⟨keeps_mk kp, hv⟩)) fun dv h₃ tk₃ k₃ hdv => ?_))
  have F₃ := F₂.kept k₃
  refine F₃.store (x := "due") (.inl rfl) fun h₄ tk₄ F₄ kf₄ => ?_
  have sq₄ := F₃.sq kf₄
  have T₄ : Tab lamQual lamPos h₄ := by
    rcases T₂.kp k₃ with T₃ | ⟨c', T₃⟩
    · exact .inl (F₃.other kf₄ T₃ (by intro _ _ q; cases q) (by intro _ q; cases q))
    · exact .inr ⟨c', F₃.full kf₄ T₃⟩
  have hst₄ := ((hsa₂.kp k₃).kf kf₄).steps
  have hdv₄ := stq_LT _ _ _ sq₄ hdv
  obtain ⟨ρ₄, eρ₄⟩ : ∃ ρ₄, ρ₄ = upd ρ₂ "due" dv := ⟨_, rfl⟩
  have rSt₄ : ρ₄ "steps" = some sv := by rw [eρ₄]; exact (upd_ne (by decide)).trans rSt
  have rGl₄ : ρ₄ "glad" = some (.str (tx glad) tg) := by rw [eρ₄]; exact (upd_ne (by decide)).trans rGl
  have rSc₄ : ρ₄ "script" = some (.ref l) := by rw [eρ₄]; exact (upd_ne (by decide)).trans rSc
  have rDu₄ : ρ₄ "due" = some dv := by rw [eρ₄]; simp [upd]
  rw [← eρ₄] at F₄
  -- parts, gone = _law_parted(steps, glad, list(script[6:12]) + [2, 5, 3])
  have lpk : ((script.take 12).drop 6).length ≤ 6 := by rw [List.length_drop, List.length_take]; omega
  have lpv : ((svs.take 12).drop 6).length ≤ 6 := by rw [List.length_drop, List.length_take]; omega
  refine wpAny_execs_cons (Assign_Tuple (eval_parted (k := k + 2) (glad := glad) (picks := (script.take 12).drop 6 ++ [2, 5, 3]) hδ (gS F₄) R T₄ hst₄ hgl hgn (by simp) (by simp; omega) (gname (gS F₄) rfl rfl rfl rfl)
    (fun s₁ k₁ => Ev.name rfl ((F₄.rd rSt₄).keeps (keeps_heap k₁))) (fun s₁ k₁ => (Ev.name rfl ((F₄.rd rGl₄).keeps (keeps_heap k₁))).mono fun _ _ _ e => ⟨tg, e⟩) (fun s₁ k₁ => ?_) fun st pv h₅ tk₅ I h0 hp kt T₅ => ?_))
  · have Ls₁ : All2 (fun i v => ∃ t, v = .int i t) ((script.take 12).drop 6) ((svs.take 12).drop 6) := (((Ls.mono fun _ _ q => q).take 12).drop 6)
    refine Ev.binop (P1 := fun v h => ∃ D c, v = .ref D ∧ h.get? D = some (lobj ((svs.take 12).drop 6) c)) (P2 := fun v h => ∃ D vs, v = .ref D ∧ h.get? D = some (lobj vs 0) ∧ All2 (fun n v => ∃ t, v = .int n t) [2, 5, 3] vs)
      (Ev.tcall1 (T := "list") (P := fun v h => ∃ D, v = .ref D ∧ h.get? D = some (lobj ((svs.take 12).drop 6) 0)) ?_
        (fun s₂ k₂ => (Ev.sliceG (lo := some 6) (hi := some 12) (us := (svs.take 12).drop 6) (Ev.name rfl ((F₄.rd rSc₄).keeps (keeps_heap (keeps_trans k₁ k₂)))) (fun s₃ k₃ => Ev.partInt Ev.cint) (fun s₃ k₃ => Ev.partInt Ev.cint) (keeps_heap (keeps_trans k₁ k₂) _ _ (lS F₄)) (by omega) (pick_both svs 6 12)).mono fun _ _ _ ⟨D, e, _, hD⟩ => ⟨D, e, hD⟩)
        (fun v s₂ k₂ ⟨D, e, hD⟩ => by subst e; exact Ev.listOf hD (by omega)))
      (fun o s₂ k₂ _ => (Ev.listD (isInts [2, 5, 3]) (.cons (fun _ _ => Ev.cint) (.cons (fun _ _ => Ev.cint) (.cons (fun _ _ => Ev.cint) .nil))) (by decide)).mono fun v h' _ ⟨D, vs, e, _, hD, r⟩ => ⟨D, vs, e, hD, isInts_all r⟩)
      (fun o i s₂ s₃ k₂ ⟨D, c, e, hD⟩ k₃ ⟨D', vs', e', hD', r'⟩ => ?_)
    · exact bname ((gS F₄).kp (keeps_heap k₁)) rfl rfl (by decide +kernel) (by decide) rfl rfl rfl
    · subst e e'
      have lr := r'.length
      have l3 : ([2, 5, 3] : List Int).length = 3 := rfl
      exact (Ev.addL (keeps_heap k₃ _ _ hD) hD' (by omega)).mono fun v h' _ ⟨M, e, _, hM⟩ => ⟨M, _, 0, e, hM, Ls₁.append r'⟩
  obtain ⟨ta, p, g, pvs, gvs, pm, gm, e, hta, hpp, hgg, Lp, Lg⟩ := hp
  subst e
  have F₅ := fl_kt123 F₄ T₄.at_ kt
  have hdv₅ : IsL IsTx (classes (everyAt δ glad 4)) dv h₅ := by
    obtain ⟨b, vs, m, e, ho, r⟩ := hdv₄
    subst e
    have nb : b ≠ 123 := fun q => by
      obtain ⟨ps, hT⟩ := T₄.at_
      rw [q, hT] at ho; cases ho
    exact ⟨b, vs, m, rfl, kt _ _ nb ho, r⟩
  refine Fm.pair (x := "parts") (y := "gone") (s := { s with heap := h₅, toks := tk₅ }) F₅ hh (.inl rfl) (.inl rfl) hta fun h₆ tk₆ F₆ kf₆ => ?_
  have sq₆ := F₅.sq kf₆
  have T₆ : Tab lamQual lamPos h₆ := by
    rcases T₅ with T₅ | ⟨c', T₅⟩
    · exact .inl (F₅.other kf₆ T₅ (by intro _ _ q; cases q) (by intro _ q; cases q))
    · exact .inr ⟨c', F₅.full kf₆ T₅⟩
  obtain ⟨ρ₆, eρ₆⟩ : ∃ ρ₆, ρ₆ = upd (upd ρ₄ "parts" (.ref p)) "gone" (.ref g) := ⟨_, rfl⟩
  have rPa₆ : ρ₆ "parts" = some (.ref p) := by rw [eρ₆]; exact (upd_ne (by decide)).trans (by simp [upd])
  have rGo₆ : ρ₆ "gone" = some (.ref g) := by rw [eρ₆]; simp [upd]
  have rDu₆ : ρ₆ "due" = some dv := by rw [eρ₆]; exact (upd_ne (by decide)).trans ((upd_ne (by decide)).trans rDu₄)
  rw [← eρ₆] at F₆
  have hdv₆ := stq_LT _ _ _ sq₆ hdv₅
  have hp₆ := sq₆ _ _ _ _ rfl hpp
  have hg₆ := sq₆ _ _ _ _ rfl hgg
  have Lg₆ := allG_tk sq₆.tk Lg
  have hO := I.ok
  have lenG := Lg.length
  have lenP := Lp.length
  have nG := hO.ng
  have nP := hO.np
  have cc : ∀ c ∈ fcL n, h₆.get? c ≠ none := fun c hc => by
    obtain ⟨v, o, e, _⟩ := F₆.cells c hc
    rw [e]; simp
  have hW : ∀ b ∈ [n, n + 1, n + 2], h₆.get? b ≠ none := fun b hb => by
    simp only [List.mem_cons, List.not_mem_nil, or_false] at hb
    rcases hb with q | q | q
    · rw [q]; exact F₆.loc_ne
    · rw [q]; exact cc _ c1
    · rw [q]; exact cc _ c2
  have kwF : ∀ {h h' : Heap}, KpF (envL n f qual cd) (fcL n) h h' → KpW [n, n + 1, n + 2] h h' := fun kf => kf.kw (by exact List.mem_cons_self ..) (by intro c hc; rw [fcL_eq] at hc; simp only [List.mem_cons, List.not_mem_nil, or_false] at hc ⊢; rcases hc with q | q <;> simp [q])
  have kfT : ∀ {h h' h'' : Heap}, KpF (envL n f qual cd) (fcL n) h h' → KpF (envL n f qual cd) (fcL n) h' h'' → KpF (envL n f qual cd) (fcL n) h h'' := fun k1 k2 b o h1 h2 e => k2 b o h1 h2 (k1 b o h1 h2 e)
  -- for sign in "01"
  refine wpAny_execs_cons (For_it (s := { s with heap := h₆, toks := tk₆ }) (W := [n, n + 1, n + 2]) (xs := S2) (P := IsC) (so := [])
    (J := fun _ h => ∃ ρ, FL hb0 n f qual cd ρ h ∧ Agr ["sign", "state"] ρ₆ ρ ∧ KpF (envL n f qual cd) (fcL n) h₆ h) (SrcF.str hh Ev.cstr' (by decide)) (fun b _ q => by cases q) hW ?_ ⟨ρ₆, F₆, Agr.refl, fun _ _ _ _ e => e⟩ ?_ ?_)
  · rintro i h h' ⟨ρ', F', ag, K⟩ sq kk
    exact ⟨ρ', F'.stay F₆ kk (fun y c ec => cc _ (hclL y c ec)), ag, fun b o h1 h2 e => kk b o (by rw [e]; simp) (K b o h1 h2 e)⟩
  · rintro i sg u h tk esg ⟨tu, eu⟩ ⟨ρ', F', ag, K⟩
    subst eu
    have hsg : sg ∈ S2 := List.mem_of_getElem? esg
    refine wpAny_assign_Name (F'.store (x := "sign") (.inr ⟨rfl, _, rfl, c1⟩) fun h₇ tk₇ F₇ kf₇ => ?_)
    have K₇ := kfT K kf₇
    have cc₇ : ∀ c ∈ fcL n, h₇.get? c ≠ none := fun c hc => by
      obtain ⟨v, o, e, _⟩ := F₇.cells c hc
      rw [e]; simp
    have hW₇ : ∀ b ∈ [n, n + 1, n + 2], h₇.get? b ≠ none := fun b hb => by
      simp only [List.mem_cons, List.not_mem_nil, or_false] at hb
      rcases hb with q | q | q
      · rw [q]; exact F₇.loc_ne
      · rw [q]; exact cc₇ _ c1
      · rw [q]; exact cc₇ _ c2
    -- for state in "abcdef"
    refine wpAny_execs_cons (For_it (s := { s with heap := h₇, toks := tk₇ }) (W := [n, n + 1, n + 2]) (xs := L6) (P := IsC) (so := [])
      (J := fun _ h => ∃ ρ, FL hb0 n f qual cd ρ h ∧ Agr ["sign", "state"] ρ₆ ρ ∧ ρ "sign" = some (.str (tx [sg]) tu) ∧ KpF (envL n f qual cd) (fcL n) h₇ h) (SrcF.str hh Ev.cstr' (by decide)) (fun b _ q => by cases q) hW₇ ?_ ⟨_, F₇, ag.upd (by simp), by simp [upd], fun _ _ _ _ e => e⟩ ?_ ?_)
    · rintro i h h' ⟨ρ', F', ag, e1, K⟩ sq kk
      exact ⟨ρ', F'.stay F₇ kk (fun y c ec => cc₇ _ (hclL y c ec)), ag, e1, fun b o h1 h2 e => kk b o (by rw [e]; simp) (K b o h1 h2 e)⟩
    · rintro j c u h tk ec ⟨tc, eu⟩ ⟨ρ', F', ag, e1, K'⟩
      subst eu
      have hc : c ∈ L6 := List.mem_of_getElem? ec
      refine wpAny_assign_Name (F'.store (x := "state") (.inr ⟨rfl, _, rfl, c2⟩) fun h₈ tk₈ F₈ kf₈ => ?_)
      have K₈ := kfT K' kf₈
      have K₆₈ := kfT K₇ K₈
      have ag₈ := ag.upd (x := "state") (v := .str (tx [c]) tc) (by simp)
      have e1₈ := (upd_ne (ρ := ρ') (x := "state") (y := "sign") (v := .str (tx [c]) tc) (by decide)).trans e1
      have hg₈ := F₆.sq K₆₈ _ _ _ _ rfl hg₆
      have Lg₈ := allG_tk (F₆.sq K₆₈).tk Lg₆
      have rGo₈ := (ag₈ "gone" (by decide)).trans rGo₆
      have cS : h₈.IsCell (n + 1) (some (.str (tx [sg]) tu)) := rd_cell (F₈.rd e1₈) (by intro q; cases q) rfl
      have cT : h₈.IsCell (n + 2) (some (.str (tx [c]) tc)) := rd_cell (F₈.rd (x := "state") (by simp [upd])) (by intro q; cases q) rfl
      -- if len([..]) > 2
      refine wpAny_execs_cons (wpAny_If (Ev.use (P := fun b _ => b = false) (Ev.mono (Ev.cmpT (b := decide ((2 : Int) < (num sg c st.gone : Int))) (P1 := IsI (num sg c st.gone)) (P2 := IsI 2) (Ev.bcall1 (id := "len") (P := IsL (fun _ _ _ => True) (st.gone.filter fun q => decide ([q.1] = [sg]) && decide (c ∈ q.2)))
          ?_ (fun s₁ k₁ => Ev.mono (Ev.listComp (tk := false) (xs := st.gone) (P := fun q v h => ∃ a vs n u1 u2, v = .ref a ∧ h.get? a = some (tobj vs n) ∧ vs = [u1, u2] ∧ (∃ t, u1 = .str (tx [q.1]) t) ∧ ∃ t, u2 = .str (tx q.2) t) (G := fun _ _ _ => True) (cl := [("state", n + 2), ("sign", n + 1)]) (fun q => decide ([q.1] = [sg]) && decide (c ∈ q.2))
            (fun q ρ _ => ∃ u1 u2, ρ "other" = some u1 ∧ ρ "goal" = some u2 ∧ (∃ t, u1 = .str (tx [q.1]) t) ∧ ∃ t, u2 = .str (tx q.2) t) rfl (List.pairwise_cons.mpr ⟨fun q hq => ?_, List.pairwise_singleton _ _⟩) (fun q hq => ?_) (fun _ _ _ _ x _ => x) (fun _ _ _ _ _ x => x) (by omega)
            (Src.goals hh ((Ev.name rfl ((F₈.rd rGo₈).keeps (keeps_heap k₁))).mono fun v h' k' e => ⟨g, gvs, gm, e, k' _ _ (keeps_heap k₁ _ _ hg₈), allG_tk (Kp.sq fun b o q => k' _ _ (keeps_heap k₁ _ _ q)).tk Lg₈⟩)) (fun q C _ => Assigns.pair hh (.inl rfl) (.inl rfl) (by decide))
            (fun q C ρ'' h'' tk'' hq ⟨u1, u2, x1, x2, ⟨t1, y1⟩, ⟨t2, y2⟩⟩ kk F'' => ?_) (fun q C ρ'' h'' tk'' hq _ ⟨u1, u2, x1, x2, _⟩ kk F'' => (Ev.name rfl (F''.rd x2)).mono fun _ _ _ _ => trivial)) fun _ _ _ x => x.1)
          (fun v s₁ k₁ ⟨a, vs, m, e, ho, r⟩ => ?_)) (fun o s₁ k₁ _ => Ev.cint) (fun o i s₁ s₂ _ ⟨t1, y1⟩ _ ⟨t2, y2⟩ => by subst y1 y2; exact Ev.gtInt)) fun b _ _ e => ?_) fun b h₉ tk₉ k₉ eb => ?_))
      · exact bname (gS F₈) rfl rfl (by decide +kernel) (by decide) rfl rfl rfl
      · rw [List.mem_singleton.mp hq]; exact Nat.ne_of_gt (Nat.lt_succ_self _)
      · simp only [List.mem_cons, List.not_mem_nil, or_false] at hq
        rcases hq with rfl | rfl
        · exact ⟨_, cT.keeps (keeps_heap k₁)⟩
        · exact ⟨_, cS.keeps (keeps_heap k₁)⟩
      · subst y1 y2
        have kA : Kp h₈ h'' := fun b o q => kk _ _ (keeps_heap k₁ _ _ q)
        exact Ev.tests1 (Ev.andT (Ev.cmpT (P1 := IsC q.1) (P2 := IsC sg) ((Ev.name rfl (F''.rd x1)).mono fun _ _ _ e => ⟨t1, e⟩) (fun o s₂ k₂ _ => (Ev.name rfl (.inr ⟨.inl rfl, _, rfl, (cS.keeps kA).keeps (keeps_heap k₂)⟩)).mono fun _ _ _ e => ⟨tu, e⟩)
            (fun o j s₂ s₃ _ ⟨t3, e3⟩ _ ⟨t4, e4⟩ => by subst e3 e4; exact Ev.eqStr))
          (fun s₂ k₂ _ => Ev.cmpT (P1 := IsC c) (P2 := IsTx q.2) ((Ev.name rfl (.inr ⟨.inl rfl, _, rfl, (cT.keeps kA).keeps (keeps_heap k₂)⟩)).mono fun _ _ _ e => ⟨tc, e⟩) (fun o s₃ k₃ _ => (Ev.name rfl ((F''.rd x2).keeps (keeps_heap (keeps_trans k₂ k₃)))).mono fun _ _ _ e => ⟨t2, e⟩)
            (fun o j s₂ s₃ _ ⟨t3, e3⟩ _ ⟨t4, e4⟩ => by subst e3 e4; exact Ev.inStr)))
      · subst e
        have lr := r.length
        have lf := List.length_filter_le (fun q : Nat × List Nat => decide ([q.1] = [sg]) && decide (c ∈ q.2)) st.gone
        refine (Ev.lenL ho (by omega)).mono fun v h' _ ⟨t, e⟩ => ⟨t, ?_⟩
        rw [e, ← lr]
        have en : (st.gone.filter fun q : Nat × List Nat => decide ([q.1] = [sg]) && decide (c ∈ q.2)).length = num sg c st.gone := by
          unfold num
          congr 1
          apply List.filter_congr
          intro q _
          congr 1
          by_cases hq : q.1 = sg
          · simp [hq]
          · simp [hq]
        rw [en]
      · rw [e]
        have := final_few I h0 hsg hc
        exact decide_eq_false (by omega)
      · subst eb
        simp only [Bool.false_eq_true, if_false]
        refine wpAny_execs_nil (wpAny_execs_nil ?_)
        refine ⟨h₉, tk₉, rfl, ⟨_, F₈.kept k₉, ag₈, e1₈, fun b o h1 h2 q => k₉ _ _ (K₈ b o h1 h2 q)⟩, (kwF kf₈).trans k₉.kw⟩
    · rintro h' tk' ⟨ρ', F', ag', e1, K'⟩
      refine wpAny_execs_nil ⟨h', tk', rfl, ⟨ρ', F', ag', kfT K₇ K'⟩, (kwF kf₇).trans (kwF K')⟩
  · rintro h tk ⟨ρ', F', ag, K⟩
    have sq := F₆.sq K
    have hdv' := stq_LT _ _ _ sq hdv₆
    have hp' := sq _ _ _ _ rfl hp₆
    have hg' := sq _ _ _ _ rfl hg₆
    have T' : Tab lamQual lamPos h := by
      rcases T₆ with T₆ | ⟨c', T₆⟩
      · exact .inl (F₆.other K T₆ (by intro _ _ q; cases q) (by intro _ q; cases q))
      · exact .inr ⟨c', F₆.full K T₆⟩
    have rPa := (ag "parts" (by decide)).trans rPa₆
    have rDu := (ag "due" (by decide)).trans rDu₆
    have rGo := (ag "gone" (by decide)).trans rGo₆
    have hperm := parts_perm hδ I h0
    have hcount := final_count hδ I h0
    have hcl : (classes (everyAt δ glad 4)).length ≤ 6 := by rw [← hperm.length_eq]; exact nP
    have hcne : ∀ d ∈ classes (everyAt δ glad 4), d ≠ [] := fun d hd => (hO.pt d (hperm.mem_iff.mpr hd)).1
    have hc128 : ∀ x ∈ classes (everyAt δ glad 4), ∀ c ∈ x, c < 128 := fun x hx c hc => lt128 c ((hO.pt x (hperm.mem_iff.mpr hx)).2.2 c hc)
    have Lp' : All2 (fun y v => IsTx y v h) st.parts pvs := Lp.mono fun _ _ q => q
    -- return ..
    refine wpAny_execs_cons (wpAny_Return_some (Ev.use (P := IsB true) (Ev.andV
      (Ev.cmp (b := true) (P1 := fun v h => ∃ b us m, v = .ref b ∧ h.get? b = some (lobj us m) ∧ All2 (fun x v => IsTx x v h) (classes (everyAt δ glad 4)) us) (P2 := IsL IsTx (classes (everyAt δ glad 4)))
        (Ev.bcall1 (id := "sorted") (P := IsV (.ref p)) ?_ (fun s₁ k₁ => Ev.name rfl ((F'.rd rPa).keeps (keeps_heap k₁))) (fun v s₁ k₁ e => by
          have e : v = .ref p := e
          subst e
          exact Ev.sortedT (keeps_heap k₁ _ _ hp') (Lp'.mono fun _ _ q => q) (by omega) hperm classes_sorted hcne))
        (fun o s₁ k₁ _ => (Ev.name rfl ((F'.rd rDu).keeps (keeps_heap k₁))).mono fun v h' k' e => by have e : v = dv := e; rw [e]; exact stb_L (fun _ => stb_S) _ _ _ (fun b o q => k' _ _ (keeps_heap k₁ _ _ q)) hdv')
        (fun o i s₁ s₂ k₁ ⟨b, us, m, e1, hb, r1⟩ k₂ ⟨a, vs, m', e2, ha, r2⟩ => by
          subst e1 e2
          exact Ev.eqTexts R (keeps_heap k₂ _ _ hb) ha (r1.mono fun _ _ q => q) r2 hc128))
      (fun s₁ k₁ => Ev.cmp (b := true) (P1 := IsI st.gone.length) (P2 := IsI (2 * max 1 (((classes (everyAt δ glad 4)).length : Int) - 1)))
        (Ev.bcall1 (id := "len") (P := IsV (.ref g)) ?_ (fun s₂ k₂ => Ev.name rfl ((F'.rd rGo).keeps (keeps_heap (keeps_trans k₁ k₂)))) (fun v s₂ k₂ e => by
          have e : v = .ref g := e
          subst e
          rw [lenG]
          exact Ev.lenL (keeps_heap (keeps_trans k₁ k₂) _ _ hg') (by omega)))
        (fun o s₂ k₂ _ => Ev.binop (P1 := IsI 2) (P2 := IsI (max 1 (((classes (everyAt δ glad 4)).length : Int) - 1))) Ev.cint (fun o s₃ k₃ _ => Ev.bcall2 (id := "max") (P1 := IsI 1) (P2 := IsI (((classes (everyAt δ glad 4)).length : Int) - 1)) ?_ (fun s₄ k₄ => Ev.cint)
            (fun s₄ k₄ => Ev.binop (P1 := IsI (classes (everyAt δ glad 4)).length) (P2 := IsI 1) (Ev.bcall1 (id := "len") (P := IsL IsTx (classes (everyAt δ glad 4))) ?_
                (fun s₅ k₅ => (Ev.name rfl ((F'.rd rDu).keeps (keeps_heap (keeps_trans k₁ (keeps_trans k₂ (keeps_trans k₃ (keeps_trans k₄ k₅))))))).mono fun v h' k' e => by have e : v = dv := e; rw [e]; exact stb_L (fun _ => stb_S) _ _ _ (fun b o q => k' _ _ (keeps_heap (keeps_trans k₁ (keeps_trans k₂ (keeps_trans k₃ (keeps_trans k₄ k₅)))) _ _ q)) hdv')
                (fun v s₅ k₅ ⟨a, vs, m, e, ha, r⟩ => by
                  subst e
                  have lr := r.length
                  rw [lr]
                  exact Ev.lenL ha (by omega)))
              (fun o s₅ k₅ _ => Ev.cint) (fun o i s₅ s₆ _ ⟨t1, y1⟩ _ ⟨t2, y2⟩ => by subst y1 y2; exact Ev.subInt))
            stb_I (fun v1 v2 s₄ k₄ ⟨t1, y1⟩ ⟨t2, y2⟩ => by subst y1 y2; exact Ev.maxInt hh))
          (fun o i s₃ s₄ _ ⟨t1, y1⟩ _ ⟨t2, y2⟩ => by subst y1 y2; exact Ev.mulInt (a := 2) (by decide)))
        (fun o i s₂ s₃ _ ⟨t1, y1⟩ _ ⟨t2, y2⟩ => by
          subst y1 y2
          have e : ((st.gone.length : Int) = 2 * max 1 (((classes (everyAt δ glad 4)).length : Int) - 1)) := by
            have h1 : 1 ≤ (classes (everyAt δ glad 4)).length := by
              refine List.length_pos_iff.mpr fun q => ?_
              have := hperm.length_eq
              rw [q] at this
              have e0 : st.parts = [] := List.length_eq_zero_iff.mp this
              have := I.flat.length_eq
              rw [e0] at this
              cases this
            rw [hcount]
            omega
          have := Ev.eqInt (w := w) (A := A) (prog := PG) (s := s₃) (a := (st.gone.length : Int)) (b := 2 * max 1 (((classes (everyAt δ glad 4)).length : Int) - 1)) (t := t1) (u := t2)
          rw [decide_eq_true e] at this
          exact this))) fun v h₉ tk₉ k₉ e => ?_))
    · exact bname (gS F') rfl rfl (by decide +kernel) (by decide) rfl rfl rfl
    · exact bname ((gS F').kp (keeps_heap k₁)) rfl rfl (by decide +kernel) (by decide) rfl rfl rfl
    · exact bname ((gS F').kp (keeps_heap (keeps_trans k₁ (keeps_trans k₂ k₃)))) rfl rfl (by decide +kernel) (by decide) rfl rfl rfl
    · exact bname ((gS F').kp (keeps_heap (keeps_trans k₁ (keeps_trans k₂ (keeps_trans k₃ k₄))))) rfl rfl (by decide +kernel) (by decide) rfl rfl rfl
    · have e : v = .bool true := e
      subst e
      exact hQ h₉ tk₉ (fl_kt (F'.kept k₉)) (T'.kp k₉)
end
end Mine

end

-- ======== Join1 ========
section
open PySem PySem.W PyProof.Rows
set_option maxRecDepth 100000
set_option maxHeartbeats 1000000
namespace Mine
theorem rm_caller {env : Env} : Rm (callerA.deeper env) (0 + 8) := ⟨rfl, by show callerA.depth + 1 + 8 < recursionLimit; decide, by show callerA.units + 3 + 64 + 8 * 8 < cLine; decide, ⟨_, rfl⟩⟩

theorem law_frame {g0 h₁ : Heap} {n f : Addr} {qual : Str} {cd : Value} {m : Str → Option Value} {c1 c2 : Obj} {v1 v2 : Option Value} {l : Addr}
    (F : Fr (hideAll g0 [123]) n h₁ m) (N : News (hideAll g0 [123]) n h₁ [(n + 1 + 1, c2), (n + 1, c1), (123, tabObj #[])]) (d2 : c2.data = .cell v2) (d1 : c1.data = .cell v1) (hm : m "script" = some (.ref l)) :
    FL g0 n f qual cd (fun y => if y = "script" then some (.ref l) else none) h₁ := by
  refine ⟨rfl, ?_, ⟨m, F.ns⟩, F.keep, fun x v e => ?_, fun c hc => ?_, Heap.get?_none_of_le F.above, fun c hc => ?_⟩
  · show List.Pairwise _ [(_, n + 2), (_, n + 1)]
    refine List.pairwise_cons.mpr ⟨fun q hq => ?_, List.pairwise_singleton _ _⟩
    rw [List.mem_singleton.mp hq]; exact Nat.ne_of_gt (Nat.lt_succ_self _)
  · split at e
    · rename_i q
      cases e
      rw [q]
      exact .inl ⟨rfl, m, F.ns, hm⟩
    · cases e
  · rw [fcL_eq] at hc
    simp only [List.mem_cons, List.not_mem_nil, or_false] at hc
    rcases hc with q | q
    · exact ⟨v2, c2, by rw [q]; exact (N (n + 1 + 1, c2) (by simp)).1, d2⟩
    · exact ⟨v1, c1, by rw [q]; exact (N (n + 1, c1) (by simp)).1, d1⟩
  · rw [fcL_eq] at hc
    simp only [List.mem_cons, List.not_mem_nil, or_false] at hc
    rcases hc with q | q
    · rw [q]; exact (N (n + 1 + 1, c2) (by simp)).2.2
    · rw [q]; exact (N (n + 1, c1) (by simp)).2.2

theorem gd_top {w : World} {g0 : Heap} {mg mb : Str → Option Value} {p : Program} {loose : List Str} {mean : ExcName → Option Value} (X : (KK w).In (hideAll g0 [123])) (T : Top p loose mean mg mb (hideAll g0 [123])) (C : CodeHd (hideAll g0 [123]) 125 123) : Gd w mg mb g0 := by
  have kp : Kp (hideAll g0 [123]) g0 := fun b o e => of_hideAll _ e
  refine Gd.kp (h := hideAll g0 [123]) ⟨X, T.g, T.b, T.builtins, T.nolimit, ?_, C⟩ kp
  obtain ⟨bm, ob, a1, a2, a4, a5⟩ := T.bmain
  refine ⟨bm, ob, a1, a2, fun q => ?_, a4, a5⟩
  rw [q, hideAll_none [123] (by simp)] at a4
  cases a4

theorem ints_all2 : ∀ {vs : List Value} {ns : List Int} {h : Heap}, IntsAre vs ns → All2 (fun i v => IsI i v h) ns vs
  | _, _, _, .nil => .nil
  | _, _, _, .cons x t r => .cons ⟨t, rfl⟩ (ints_all2 r)

theorem well_list {P : Params} {h : Heap} {a : Addr} {d : WData} {xs : List WData} (x : Well P h (.ref a) d) (e : d = .list xs) : ∃ vs, h.get? a = some (lobj vs 0) := by
  subst e
  cases x with
  | list h _ => exact ⟨_, h⟩
theorem list_obj {h : Heap} {a : Addr} {P : Params} {vs : List Value} {xs : List PyData} (x : Well P h (.ref a) (ofPy (.list xs))) (l : h.IsList a vs.toArray) : h.get? a = some (lobj vs 0) := by
  obtain ⟨us, e⟩ := well_list x rfl
  obtain ⟨o, ho, _, k, hk⟩ := l
  rw [e] at ho; cases ho
  injection hk with h1 h2
  have h1 : us = vs := by simpa using h1
  rw [e, h1]

theorem law_walk {w : World} {E : Value → Shared → Prop} {s : Shared} {env : Env} {g0 : Heap} {n f : Addr} {qual : Str} {cd : Value} {mg mb : Str → Option Value} {p : Program} {loose : List Str} {mean : ExcName → Option Value} {m : Str → Option Value} {c1 c2 : Obj} {v1 v2 : Option Value} {l : Addr}
    {vs : List Value} {ns : List Int} {P : Params} {Q : Flow → Shared → Prop} (X : (KK w).In (hideAll g0 [123])) (T : Top p loose mean mg mb (hideAll g0 [123])) (C : CodeHd (hideAll g0 [123]) 125 123) (hT : g0.get? 123 = some (tabObj #[]))
    (F : Fr (hideAll g0 [123]) n s.heap m) (N : News (hideAll g0 [123]) n s.heap [(n + 1 + 1, c2), (n + 1, c1), (123, tabObj #[])]) (d2 : c2.data = .cell v2) (d1 : c1.data = .cell v1)
    (hm : m "script" = some (.ref l)) (hm1 : m (tx [48]) = none) (hm2 : m (tx [97]) = none) (x : Well P g0 (.ref l) (ofPy (.list (ns.map PyData.int)))) (hl : g0.IsList l vs.toArray) (hI : IntsAre vs ns) (hlen : ns.length ≤ 63)
    (hQ : ∀ h' tk, Kp (hideAll g0 [123]) h' → (∃ ps, h'.get? 123 = some (tabObj ps)) → Q (.ret (.bool true)) { s with heap := h', toks := tk }) :
    wpAny (model PG w) (callerA.deeper env) (execs (bodyAt 143) (envL n f qual cd)) Q E s := by
  have G0 := gd_top X T C
  refine law_body (k := 0) (hb0 := g0) G0 rm_caller (.inl hT) (.inl (N (123, tabObj #[]) (by simp)).1) (law_frame F N d2 d1 hm) ⟨m, F.ns, hm1, hm2⟩ (by simp) (list_obj x hl) (ints_all2 hI) hlen fun h' tk kt T' => ?_
  refine hQ h' tk (fun b o e => kt b o (fun q => ?_) (of_hideAll _ e)) T'.at_
  rw [q, hideAll_none [123] (by simp)] at e
  cases e
end Mine

end

-- ======== Join2 ========
section
open PySem PySem.W PyProof.Rows
set_option maxRecDepth 100000
set_option maxHeartbeats 8000000 in
theorem PySem.Challenge.cw_ph0028_01_holds : PySem.Challenge.rw_ph0028_01.Holds := by
  refine Mine.hd ?_
  k_go0
  rename_i w s₀ s₁ mg mb G Y fa o pm cd doc ho hcd hg X V T B TE TW ns hs hlay0 hL hr hl2 w6 w5 l vs w2 hLl ra w1 r0 hI hr' hcond hcond2 hD h₁ tk₁ c2 c1 left right X0 X' T' K' F' N' l0
  refine Mine.law_walk (s := { heap := h₁, gens := s₁.gens, drawn := s₁.drawn, toks := tk₁, os := s₁.os }) X' T' codeHd (hT8 123 (by simp)) F' N' left right (by rfl) (by rfl) (by rfl) w1 hLl hI (by omega) fun h' tk kp gr => ?_
  refine ⟨⟨.inl ⟨_, .bool true, [], rfl, raisesW_false ?_, .bool true, ?_, unshared_nil⟩, kp, rfl, hg⟩, gr, True.intro⟩
  · wrow_none_raised
  · kc_post

end
