import PyProof.Rows.All
import Wide.All
import OpenK.AllK
import Wide.FinOn
import PySem.Challenge.RW_md0022_01
/-! Ev1 -/
section
open PySem PySem.W PyProof.Rows
set_option Elab.async false
set_option maxRecDepth 100000
namespace Mine

/-- how a call is taken: stepped into, or by one of five known built-ins -/
inductive Op where
  | into
  | truth (b : Bool)
  | shl
  | setb
  | getb
  | next

/-- what a known built-in's answer leans on -/
inductive Ob where
  | truth (id : String) (v : Int) (b : Bool)
  | shl (id : String) (x y : Int)
  | setb (id : String) (sz : Nat) (i v : Int)
  | getb (id : String) (sz : Nat) (i : Int)
  | next (id : String) (left : Int)

def Ob.Holds : Ob → Prop
  | .truth id v b => id = "int.__bool__" ∧ (v != 0) = b
  | .shl id x y => id = "int.__lshift__" ∧ 0 < x ∧ x < 65536 ∧ y = 1
  | .setb id sz i v => id = "bytearray.__setitem__" ∧ 0 ≤ i ∧ i < sz ∧ sz ≤ 65536 ∧ 0 ≤ v ∧ v < 256
  | .getb id sz i => id = "bytearray.__getitem__" ∧ 0 ≤ i ∧ i < sz ∧ sz ≤ 65536
  | .next id left => id = "range_iterator.__next__" ∧ 0 < left

structure USt where
  lo : List (Nat × Obj)
  fr : Option Obj
  n : Nat
  toks : Nat
  gens : Array GenState
  drawn : Drawn
  os : OsState

def lookL : List (Nat × Obj) → Nat → Option Obj
  | [], _ => none
  | p :: r, a => match Nat.beq p.1 a with
    | true => some p.2
    | false => lookL r a
def putL : List (Nat × Obj) → Nat → Obj → List (Nat × Obj)
  | [], a, o => [(a, o)]
  | p :: r, a, o => match Nat.beq p.1 a with
    | true => (a, o) :: r
    | false => p :: putL r a o
def nthO : List Obj → Nat → Option Obj
  | [], _ => none
  | o :: _, 0 => some o
  | _ :: r, n + 1 => nthO r n
def look (fx : List Obj) (m : List (Nat × Obj)) (a : Nat) : Option Obj := match lookL m a with
  | some o => some o
  | none => match nthO fx a with
    | some o => match o.isFreed with
      | false => some o
      | true => none
    | none => none

def lookB (fx : List Obj) (B : Nat) (m : List (Nat × Obj)) (a : Nat) : Option Obj := match Nat.ble B a, Nat.ble 11 a with
  | false, true => look fx m a
  | _, _ => none
def doOp (fx : List Obj) (B : Nat) (op : Op) (c : Code) (U : USt) : Option (Value × USt × Ob) := match op, c with
  | .truth b, .call (.builtin id) ⟨[.int v _], []⟩ => some (.bool b, U, .truth id v b)
  | .shl, .call (.builtin id) ⟨[.int x _, .int y _], []⟩ => some (.int (x * 2 ^ y.toNat) U.toks, { U with toks := U.toks + 1 }, .shl id x y)
  | .setb, .call (.builtin id) ⟨[.ref a, .int i _, .int v _], []⟩ => match lookB fx B U.lo a with
    | some ⟨.type t, none, .bytearray b m, sl⟩ => match decide (t = "bytearray") with
      | true => some (.none, { U with lo := putL U.lo a ⟨.type t, none, .bytearray (b.setIfInBounds i.toNat v.toNat.toUInt8) m, sl⟩ }, .setb id b.size i v)
      | false => none
    | _ => none
  | .getb, .call (.builtin id) ⟨[.ref a, .int i _], []⟩ => match lookB fx B U.lo a with
    | some ⟨.type t, none, .bytearray b _, _⟩ => match decide (t = "bytearray") with
      | true => some (.int (b.getD i.toNat 0).toNat U.toks, { U with toks := U.toks + 1 }, .getb id b.size i)
      | false => none
    | _ => none
  | .next, .call (.builtin id) ⟨[.ref a], []⟩ => match lookB fx B U.lo a with
    | some ⟨.type t, none, .fields vs, sl⟩ => match decide (t = "range_iterator"), vs.toList with
      | true, [.int v _, .int l _, .int s x] => some (.int v U.toks, { U with lo := putL U.lo a ⟨.type t, none, .fields #[.int (v + s) 0, .int (l - 1) 0, .int s x], sl⟩, toks := U.toks + 1 }, .next id l)
      | _, _ => none
    | _ => none
  | _, _ => none

structure Got where
  U : USt
  t : Thread
  ops : List Op
  as : List (Nat × Nat)
  obs : List Ob

def ev (stp : Shared → Thread → Step) (ok : Thread → Bool) (fx : List Obj) (B : Nat) : Nat → List Op → List (Nat × Nat) → List Ob → USt → Thread → Option Got
  | 0, ops, as, obs, U, t => some ⟨U, t, ops, as, obs⟩
  | k + 1, ops, as, obs, U, t => match through t with
    | true => none
    | false => match ok t with
      | false => none
      | true => match t.cur with
        | .load a _ kk => match Nat.ble B a with
          | false => match look fx U.lo a with
            | some o => ev stp ok fx B k ops as obs U ⟨kk o, t.code, t.pos, t.stack⟩
            | none => none
          | true => match U.fr with
            | some o => ev stp ok fx B k ops ((a, U.n) :: as) obs U ⟨kk o, t.code, t.pos, t.stack⟩
            | none => none
        | .loadIfAlive a kk => match Nat.ble B a with
          | false => match look fx U.lo a with
            | some o => ev stp ok fx B k ops as obs U ⟨kk (some o), t.code, t.pos, t.stack⟩
            | none => none
          | true => match U.fr with
            | some o => ev stp ok fx B k ops ((a, U.n) :: as) obs U ⟨kk (some o), t.code, t.pos, t.stack⟩
            | none => none
        | .update a _ f kk => match Nat.ble B a with
          | false => match look fx U.lo a with
            | some o => match (f o).isFreed with
              | false => ev stp ok fx B k ops as obs { U with lo := putL U.lo a (f o) } ⟨kk (), t.code, t.pos, t.stack⟩
              | true => none
            | none => none
          | true => match U.fr with
            | some o => match (f o).isFreed with
              | false => ev stp ok fx B k ops ((a, U.n) :: as) obs { U with fr := some (f o) } ⟨kk (), t.code, t.pos, t.stack⟩
              | true => none
            | none => none
        | .alloc o kk => match o.isFreed with
          | true => none
          | false => match Nat.ble B U.n with
            | false => ev stp ok fx B k ops as obs { U with lo := putL U.lo U.n o, n := U.n + 1 } ⟨kk U.n, t.code, t.pos, t.stack⟩
            | true => match U.fr with
              | none => ev stp ok fx B k ops as obs { U with fr := some o } ⟨kk U.n, t.code, t.pos, t.stack⟩
              | some _ => none
        | .call c hd gd lv kk => match ops with
          | [] => none
          | op :: ops => match op with
            | .into => match stp ⟨{}, U.gens, U.drawn, U.toks, U.os⟩ ⟨.call c hd gd lv kk, t.code, t.pos, t.stack⟩ with
              | .go s' t' => ev stp ok fx B k ops as obs { U with toks := s'.toks, gens := s'.gens, drawn := s'.drawn, os := s'.os } t'
              | .halt _ _ => none
            | op => match doOp fx B op c U with
              | some (r, U', ob) => ev stp ok fx B k ops as (ob :: obs) U' ⟨kk (.ok (.ret r)), t.code, t.pos, t.stack⟩
              | none => none
        | cur => match stp ⟨{}, U.gens, U.drawn, U.toks, U.os⟩ ⟨cur, t.code, t.pos, t.stack⟩ with
          | .go s' t' => ev stp ok fx B k ops as obs { U with toks := s'.toks, gens := s'.gens, drawn := s'.drawn, os := s'.os } t'
          | .halt _ _ => none

structure Rep (fx : List Obj) (B : Nat) (h : Heap) (U : USt) : Prop where
  size : h.objs.size = U.n + (if U.fr.isSome then 1 else 0)
  low : ∀ a o, a < B → look fx U.lo a = some o → h.get? a = some o
  hi : U.fr.isSome = true → B ≤ U.n
  fr : ∀ o, U.fr = some o → h.get? U.n = some o

theorem beqN (a b : Nat) : Nat.beq a b = decide (a = b) := BT.beq_eq a b

theorem lookL_putL (m : List (Nat × Obj)) (a : Nat) (o : Obj) (b : Nat) : lookL (putL m a o) b = if a = b then some o else lookL m b := by
  induction m with
  | nil =>
    show (match Nat.beq a b with | true => some o | false => none) = _
    rw [beqN]
    by_cases h : a = b <;> simp [h, lookL]
  | cons p r ih =>
    unfold putL
    rw [beqN]
    by_cases h : p.1 = a
    · rw [decide_eq_true h]
      show (match Nat.beq a b with | true => some o | false => lookL r b) = _
      have e : lookL (p :: r) b = match Nat.beq p.1 b with | true => some p.2 | false => lookL r b := rfl
      rw [e, beqN, beqN]
      by_cases q : a = b
      · simp [q]
      · have : p.1 ≠ b := h ▸ q
        simp [q, this]
    · rw [decide_eq_false h]
      show (match Nat.beq p.1 b with | true => some p.2 | false => lookL (putL r a o) b) = _
      have e : lookL (p :: r) b = match Nat.beq p.1 b with | true => some p.2 | false => lookL r b := rfl
      rw [ih, e, beqN]
      by_cases q : p.1 = b
      · have : a ≠ b := fun z => h (q.trans z.symm)
        simp [q, this]
      · simp [q]
theorem look_put (fx : List Obj) (m : List (Nat × Obj)) (a : Nat) (o : Obj) (b : Nat) : look fx (putL m a o) b = if a = b then some o else look fx m b := by
  unfold look
  rw [lookL_putL]
  by_cases h : a = b <;> simp [h]

theorem bleF {a b : Nat} (h : Nat.ble a b = false) : b < a := by
  apply Nat.lt_of_not_le
  intro q
  rw [Nat.ble_eq_true_of_le q] at h
  cases h

section
variable {fx : List Obj} {B : Nat} {h : Heap} {U : USt}
theorem Rep.upd (D : Rep fx B h U) {a : Nat} {o o' : Obj} {f : Obj → Obj} (ha : a < B) (e : look fx U.lo a = some o) (ef : f o = o') (hf : o'.isFreed = false) : Rep fx B (h.update a f) { U with lo := putL U.lo a o' } := by
  have z := D.low a o ha e
  have hs : Heap.SameBut a h (h.update a f) := Heap.SameBut.update ..
  refine ⟨by rw [hs.1]; exact D.size, fun b p hb e' => ?_, D.hi, fun p e' => ?_⟩
  · rw [look_put] at e'
    by_cases q : a = b
    · subst q
      rw [if_pos rfl] at e'
      cases e'
      have := Heap.get?_update_self f z (by rw [ef]; exact hf)
      rw [ef] at this
      exact this
    · rw [if_neg q] at e'
      exact (hs.2 b (Ne.symm q)).trans (D.low b p hb e')
  · have : a ≠ U.n := fun q => by
      have := D.hi (by rw [e']; rfl)
      omega
    exact (hs.2 _ (Ne.symm this)).trans (D.fr p e')
theorem Rep.updF (D : Rep fx B h U) {o o' : Obj} {f : Obj → Obj} (e : U.fr = some o) (ef : f o = o') (hf : o'.isFreed = false) : Rep fx B (h.update U.n f) { U with fr := some o' } := by
  have z := D.fr o e
  have hs : Heap.SameBut U.n h (h.update U.n f) := Heap.SameBut.update ..
  have hn := D.hi (by rw [e]; rfl)
  refine ⟨by rw [hs.1]; have := D.size; rw [e] at this; exact this, fun b p hb e' => ?_, fun _ => hn, fun p e' => ?_⟩
  · have : b ≠ U.n := by omega
    exact (hs.2 b this).trans (D.low b p hb e')
  · cases e'
    have := Heap.get?_update_self f z (by rw [ef]; exact hf)
    rw [ef] at this
    exact this
theorem Rep.alloc (D : Rep fx B h U) {o : Obj} (hn : U.n < B) (hf : o.isFreed = false) : h.objs.size = U.n ∧ Rep fx B (h.push o) { U with lo := putL U.lo U.n o, n := U.n + 1 } := by
  have hfr : U.fr = none := by
    cases q : U.fr with
    | none => rfl
    | some x => have := D.hi (by rw [q]; rfl); omega
  have hz : h.objs.size = U.n := by have := D.size; rw [hfr] at this; exact this
  refine ⟨hz, ⟨by rw [Heap.size_push, hz]; show _ = (U.n + 1) + (if U.fr.isSome then 1 else 0); rw [hfr]; rfl, fun b p hb e' => ?_, fun q => ?_, fun p e' => ?_⟩⟩
  · rw [look_put] at e'
    by_cases q : U.n = b
    · subst q
      rw [if_pos rfl] at e'
      cases e'
      have := Heap.get?_push_size h hf
      rw [hz] at this
      exact this
    · rw [if_neg q] at e'
      exact Heap.get?_push_of_some _ (D.low b p hb e')
  · have q' : U.fr.isSome = true := q
    rw [hfr] at q'; cases q'
  · have e'' : U.fr = some p := e'
    rw [hfr] at e''; cases e''
theorem Rep.allocF (D : Rep fx B h U) {o : Obj} (hn : B ≤ U.n) (e : U.fr = none) (hf : o.isFreed = false) : h.objs.size = U.n ∧ Rep fx B (h.push o) { U with fr := some o } := by
  have hz : h.objs.size = U.n := by have := D.size; rw [e] at this; exact this
  refine ⟨hz, ⟨by rw [Heap.size_push, hz]; rfl, fun b p hb e' => Heap.get?_push_of_some _ (D.low b p hb e'), fun _ => hn, fun p e' => ?_⟩⟩
  cases e'
  have := Heap.get?_push_size h hf
  rw [hz] at this
  exact this
theorem Rep.same {U' : USt} (D : Rep fx B h U) (e1 : U'.lo = U.lo) (e2 : U'.fr = U.fr) (e3 : U'.n = U.n) : Rep fx B h U' := by
  obtain ⟨a, b, c, d⟩ := D
  exact ⟨by rw [e2, e3]; exact a, by rw [e1]; exact b, by rw [e2, e3]; exact c, by rw [e2, e3]; exact d⟩
theorem Rep.drop (D : Rep fx B h U) {o : Obj} (e : U.fr = some o) : Rep fx B h { U with fr := none, n := U.n + 1 } := by
  refine ⟨by have := D.size; rw [e] at this; exact this, D.low, fun q => (nomatch q), fun p q => (nomatch q)⟩
end
def USt.sh (U : USt) (h : Heap) : Shared := ⟨h, U.gens, U.drawn, U.toks, U.os⟩

/-- the top's run comes from one state to another -/
def Go (p : Program) (w : World) (n₀ : Nat) (ann : Option Value) (b : Nat) (s : Shared) (t : Thread) (s' : Shared) (t' : Thread) : Prop :=
  ∃ k, k ≤ b ∧ topGo treeTable p w n₀ ann k s t = some (s', t')
theorem topGo_add {tb : String → Option Builtin} {p : Program} {w : World} {n₀ : Nat} {ann : Option Value} : ∀ {n m : Nat} {s s' s'' : Shared} {t t' t'' : Thread},
    topGo tb p w n₀ ann n s t = some (s', t') → topGo tb p w n₀ ann m s' t' = some (s'', t'') → topGo tb p w n₀ ann (n + m) s t = some (s'', t'')
  | 0, m, s, s', s'', t, t', t'', h, k => by
    obtain ⟨rfl, rfl⟩ : s = s' ∧ t = t' := by simpa [topGo] using h
    rw [Nat.zero_add]; exact k
  | n + 1, m, s, s', s'', t, t', t'', h, k => by
    rw [show n + 1 + m = n + m + 1 by omega]
    unfold topGo at h ⊢
    cases ht : through t with
    | true => rw [ht] at h; cases h
    | false =>
      rw [ht] at h
      cases hk : stepOk n₀ ann t with
      | false => rw [hk] at h; cases h
      | true =>
        rw [hk] at h
        cases hs : step (denote tb) p w s t with
        | halt o s₂ => rw [hs] at h; cases h
        | go s₂ t₂ => rw [hs] at h; exact topGo_add h k
section
variable {p : Program} {w : World} {n₀ : Nat} {ann : Option Value} {b c : Nat} {s s' s'' : Shared} {t t' t'' : Thread}
theorem Go.refl : Go p w n₀ ann 0 s t s t := ⟨0, Nat.le_refl _, rfl⟩
theorem Go.trans (h : Go p w n₀ ann b s t s' t') (k : Go p w n₀ ann c s' t' s'' t'') : Go p w n₀ ann (b + c) s t s'' t'' :=
  let ⟨i, hi, x⟩ := h; let ⟨j, hj, y⟩ := k; ⟨i + j, by omega, topGo_add x y⟩
theorem Go.le (h : Go p w n₀ ann b s t s' t') (hb : b ≤ c) : Go p w n₀ ann c s t s' t' := let ⟨i, hi, x⟩ := h; ⟨i, by omega, x⟩
theorem Go.one (h1 : through t = false) (h2 : stepOk n₀ ann t = true) (h3 : step (denote treeTable) p w s t = .go s' t') : Go p w n₀ ann 1 s t s' t' :=
  ⟨1, Nat.le_refl _, by unfold topGo; rw [h1, h2, h3]; rfl⟩
theorem Go.run {N : Nat} {r : Shared} (h : Go p w n₀ ann b s t s' t') (k : topRun treeTable p w n₀ ann N s' t' = some r) : topRun treeTable p w n₀ ann (b + N) s t = some r := by
  obtain ⟨i, hi, x⟩ := h
  have := topRun_mono (b - i) _ _ _ _ (go_top x k)
  rw [show i + N + (b - i) = b + N by omega] at this
  exact this
end
end Mine
end
/-! Ev2 -/
section
open PySem PySem.W PyProof.Rows
set_option Elab.async false
set_option maxRecDepth 100000
namespace Mine

/-- the known built-ins do as doOp says -/
def OpsOk (p : Program) (w : World) (n₀ : Nat) (ann : Option Value) (fx : List Obj) (B : Nat) : Prop :=
  ∀ op c U r U' ob h hd gd lv kk code pos stack, doOp fx B op c U = some (r, U', ob) → ob.Holds → Rep fx B h U →
    stepOk n₀ ann ⟨.call c hd gd lv kk, code, pos, stack⟩ = true →
    ∃ h', Rep fx B h' U' ∧ Go p w n₀ ann 30 (U.sh h) ⟨.call c hd gd lv kk, code, pos, stack⟩ (U'.sh h') ⟨kk (.ok (.ret r)), code, pos, stack⟩

theorem ev_mono {stp : Shared → Thread → Step} {ok : Thread → Bool} {fx : List Obj} {B : Nat} : ∀ (k : Nat) (ops : List Op) (as : List (Nat × Nat)) (obs : List Ob) (U : USt) (t : Thread) (r : Got),
    ev stp ok fx B k ops as obs U t = some r → (∀ x ∈ as, x ∈ r.as) ∧ (∀ x ∈ obs, x ∈ r.obs)
  | 0, ops, as, obs, U, t, r, h => by cases h; exact ⟨fun _ h => h, fun _ h => h⟩
  | k + 1, ops, as, obs, U, t, r, h => by
    unfold ev at h
    have out1 : ∀ {ops' U' t'}, ev stp ok fx B k ops' as obs U' t' = some r → (∀ x ∈ as, x ∈ r.as) ∧ (∀ x ∈ obs, x ∈ r.obs) := fun h => ev_mono k _ _ _ _ _ _ h
    have out2 : ∀ {ops' a U' t'}, ev stp ok fx B k ops' (a :: as) obs U' t' = some r → (∀ x ∈ as, x ∈ r.as) ∧ (∀ x ∈ obs, x ∈ r.obs) := fun h => let z := ev_mono k _ _ _ _ _ _ h; ⟨fun x hx => z.1 x (.tail _ hx), z.2⟩
    have out3 : ∀ {ops' a U' t'}, ev stp ok fx B k ops' as (a :: obs) U' t' = some r → (∀ x ∈ as, x ∈ r.as) ∧ (∀ x ∈ obs, x ∈ r.obs) := fun h => let z := ev_mono k _ _ _ _ _ _ h; ⟨z.1, fun x hx => z.2 x (.tail _ hx)⟩
    split at h
    · cases h
    split at h
    · cases h
    split at h
    all_goals (repeat' split at h)
    all_goals first | (cases h; done) | exact out1 h | exact out2 h | exact out3 h

theorem go_other {p : Program} {w : World} {n₀ : Nat} {ann : Option Value} {U : USt} {h : Heap} {cur : Sem Fin} {code : Code} {pos : Pos} {stack : List Frame} {s' : Shared} {t' : Thread}
    (h1 : ∀ a q k, cur ≠ .load a q k) (h2 : ∀ a q f k, cur ≠ .update a q f k) (h3 : ∀ o k, cur ≠ .alloc o k) (h4 : ∀ a k, cur ≠ .loadIfAlive a k)
    (ht : through ⟨cur, code, pos, stack⟩ = false) (hk : stepOk n₀ ann ⟨cur, code, pos, stack⟩ = true)
    (hs : step (denote treeTable) p w ⟨{}, U.gens, U.drawn, U.toks, U.os⟩ ⟨cur, code, pos, stack⟩ = .go s' t') :
    Go p w n₀ ann 1 (U.sh h) ⟨cur, code, pos, stack⟩ (USt.sh { U with toks := s'.toks, gens := s'.gens, drawn := s'.drawn, os := s'.os } h) t' :=
  Go.one ht hk (step_heap h1 h2 h3 h4 hs)

theorem ev_sound {p : Program} {w : World} {n₀ : Nat} {ann : Option Value} {fx : List Obj} {B : Nat} (hops : OpsOk p w n₀ ann fx B) :
    ∀ (k : Nat) (ops : List Op) (as : List (Nat × Nat)) (obs : List Ob) (U : USt) (t : Thread) (r : Got) (h : Heap),
    ev (step (denote treeTable) p w) (stepOk n₀ ann) fx B k ops as obs U t = some r → (∀ x ∈ r.as, x.1 = x.2) → (∀ x ∈ r.obs, x.Holds) → Rep fx B h U →
      ∃ h', Rep fx B h' r.U ∧ Go p w n₀ ann (30 * k) (U.sh h) t (r.U.sh h') r.t := by
  intro k
  induction k with
  | zero =>
    intro ops as obs U t r h hev ha ho D
    cases hev
    exact ⟨h, D, Go.refl⟩
  | succ k ih =>
    intro ops as obs U t r h hev ha ho D
    unfold ev at hev
    cases ht : through t with
    | true => rw [ht] at hev; cases hev
    | false =>
    rw [ht] at hev
    cases hk : stepOk n₀ ann t with
    | false => rw [hk] at hev; cases hev
    | true =>
    rw [hk] at hev
    dsimp only at hev
    obtain ⟨cur, code, pos, stack⟩ := t
    have fin : ∀ {U' : USt} {t' : Thread} {h' : Heap} {ops' as' obs'}, Go p w n₀ ann 30 (U.sh h) ⟨cur, code, pos, stack⟩ (U'.sh h') t' → Rep fx B h' U' →
        ev (step (denote treeTable) p w) (stepOk n₀ ann) fx B k ops' as' obs' U' t' = some r →
        ∃ h', Rep fx B h' r.U ∧ Go p w n₀ ann (30 * (k + 1)) (U.sh h) ⟨cur, code, pos, stack⟩ (r.U.sh h') r.t := fun g D' e =>
      let ⟨h'', D'', g'⟩ := ih _ _ _ _ _ _ _ e ha ho D'
      ⟨h'', D'', (g.trans g').le (by omega)⟩
    have gen : ∀ {s' : Shared} {t' : Thread} {ops' as' obs'}, (∀ a q k, cur ≠ .load a q k) → (∀ a q f k, cur ≠ .update a q f k) → (∀ o k, cur ≠ .alloc o k) → (∀ a k, cur ≠ .loadIfAlive a k) →
        step (denote treeTable) p w ⟨{}, U.gens, U.drawn, U.toks, U.os⟩ ⟨cur, code, pos, stack⟩ = .go s' t' →
        ev (step (denote treeTable) p w) (stepOk n₀ ann) fx B k ops' as' obs' { U with toks := s'.toks, gens := s'.gens, drawn := s'.drawn, os := s'.os } t' = some r →
        ∃ h', Rep fx B h' r.U ∧ Go p w n₀ ann (30 * (k + 1)) (U.sh h) ⟨cur, code, pos, stack⟩ (r.U.sh h') r.t := fun a b c d e f =>
      fin ((go_other a b c d ht hk e).le (by omega)) (D.same rfl rfl rfl) f
    cases cur with
    | load a pt kk =>
      dsimp only at hev
      cases hb : Nat.ble B a with
      | false =>
        rw [hb] at hev
        dsimp only at hev
        cases hl : look fx U.lo a with
        | none => rw [hl] at hev; cases hev
        | some o =>
          rw [hl] at hev
          exact fin ((Go.one ht hk (by simp only [step, USt.sh, D.low a o (bleF hb) hl])).le (by omega)) D hev
      | true =>
        rw [hb] at hev
        dsimp only at hev
        cases hl : U.fr with
        | none => rw [hl] at hev; cases hev
        | some o =>
          rw [hl] at hev
          have e : a = U.n := ha _ ((ev_mono _ _ _ _ _ _ _ hev).1 _ (.head _))
          subst e
          exact fin ((Go.one ht hk (by simp only [step, USt.sh, D.fr o hl])).le (by omega)) D hev
    | loadIfAlive a kk =>
      dsimp only at hev
      cases hb : Nat.ble B a with
      | false =>
        rw [hb] at hev
        dsimp only at hev
        cases hl : look fx U.lo a with
        | none => rw [hl] at hev; cases hev
        | some o =>
          rw [hl] at hev
          exact fin ((Go.one ht hk (by simp only [step, USt.sh, D.low a o (bleF hb) hl])).le (by omega)) D hev
      | true =>
        rw [hb] at hev
        dsimp only at hev
        cases hl : U.fr with
        | none => rw [hl] at hev; cases hev
        | some o =>
          rw [hl] at hev
          have e : a = U.n := ha _ ((ev_mono _ _ _ _ _ _ _ hev).1 _ (.head _))
          subst e
          exact fin ((Go.one ht hk (by simp only [step, USt.sh, D.fr o hl])).le (by omega)) D hev
    | update a pt f kk =>
      dsimp only at hev
      cases hb : Nat.ble B a with
      | false =>
        rw [hb] at hev
        dsimp only at hev
        cases hl : look fx U.lo a with
        | none => rw [hl] at hev; cases hev
        | some o =>
          rw [hl] at hev
          dsimp only at hev
          cases hf : (f o).isFreed with
          | true => rw [hf] at hev; cases hev
          | false =>
            rw [hf] at hev
            exact fin ((Go.one ht hk (by simp only [step, USt.sh, D.low a o (bleF hb) hl, Option.isSome_some, if_true])).le (by omega)) (D.upd (bleF hb) hl rfl hf) hev
      | true =>
        rw [hb] at hev
        dsimp only at hev
        cases hl : U.fr with
        | none => rw [hl] at hev; cases hev
        | some o =>
          rw [hl] at hev
          dsimp only at hev
          cases hf : (f o).isFreed with
          | true => rw [hf] at hev; cases hev
          | false =>
            rw [hf] at hev
            have e : a = U.n := ha _ ((ev_mono _ _ _ _ _ _ _ hev).1 _ (.head _))
            subst e
            exact fin ((Go.one ht hk (by simp only [step, USt.sh, D.fr o hl, Option.isSome_some, if_true])).le (by omega)) (D.updF hl rfl hf) hev
    | alloc o kk =>
      dsimp only at hev
      cases hf : o.isFreed with
      | true => rw [hf] at hev; cases hev
      | false =>
        rw [hf] at hev
        dsimp only at hev
        cases hb : Nat.ble B U.n with
        | false =>
          rw [hb] at hev
          obtain ⟨hz, D'⟩ := D.alloc (bleF hb) hf
          exact fin ((Go.one ht hk (by simp only [step, USt.sh, hz])).le (by omega)) D' hev
        | true =>
          rw [hb] at hev
          dsimp only at hev
          cases hl : U.fr with
          | some o => rw [hl] at hev; cases hev
          | none =>
            rw [hl] at hev
            obtain ⟨hz, D'⟩ := D.allocF (Nat.le_of_ble_eq_true hb) hl hf
            exact fin ((Go.one ht hk (by simp only [step, USt.sh, hz])).le (by omega)) D' hev
    | call c hd gd lv kk =>
      cases ops with
      | nil => cases hev
      | cons op ops =>
        have known : ∀ {r' U' ob}, doOp fx B op c U = some (r', U', ob) → ev (step (denote treeTable) p w) (stepOk n₀ ann) fx B k ops as (ob :: obs) U' ⟨kk (.ok (.ret r')), code, pos, stack⟩ = some r →
            ∃ h', Rep fx B h' r.U ∧ Go p w n₀ ann (30 * (k + 1)) (U.sh h) ⟨.call c hd gd lv kk, code, pos, stack⟩ (r.U.sh h') r.t := fun e f => by
          obtain ⟨h', D', g⟩ := hops _ _ _ _ _ _ h hd gd lv kk code pos stack e (ho _ ((ev_mono _ _ _ _ _ _ _ f).2 _ (.head _))) D hk
          exact fin g D' f
        cases op with
        | into =>
          dsimp only at hev
          cases hs : step (denote treeTable) p w ⟨{}, U.gens, U.drawn, U.toks, U.os⟩ ⟨.call c hd gd lv kk, code, pos, stack⟩ with
          | halt o s' => rw [hs] at hev; cases hev
          | go s' t' =>
            rw [hs] at hev
            exact gen (by intros; intro e; cases e) (by intros; intro e; cases e) (by intros; intro e; cases e) (by intros; intro e; cases e) hs hev
        | _ =>
          dsimp only at hev
          split at hev
          · rename_i e
            exact known e hev
          · cases hev
    | _ =>
      dsimp only at hev
      split at hev
      · rename_i hs
        exact gen (by intros; intro e; cases e) (by intros; intro e; cases e) (by intros; intro e; cases e) (by intros; intro e; cases e) hs hev
      · cases hev
end Mine
end
/-! Ev3 -/
section
open PySem PySem.W PyProof.Rows
set_option Elab.async false
set_option maxRecDepth 100000
namespace Mine
abbrev P : Program := PySem.Challenge.pw_md0022_01
abbrev ann : Option Value := some (.ref 6)
abbrev row : String := "special-get-raises"

noncomputable def s0 (w : World) (os : OsState) : Shared := ⟨boot_heap w.params, #[], boot_drawn, boot_toks, os⟩
noncomputable def preQ (k : Nat) (w : World) (os : OsState) : Option (Shared × Thread) :=
  Fast.tw15667345088766844465 Fast.tw14364793385576792824 P w 11 ann k (s0 w os) (topStub P)
def noT : Thread := ⟨.unsupported "", .builtin "" {}, default, []⟩
def thrOf (o : Option (Shared × Thread)) : Thread := match o with
  | some p => p.2
  | none => noT
def shOf (o : Option (Shared × Thread)) : Shared := match o with
  | some p => p.1
  | none => {}
noncomputable def tL (w : World) (os : OsState) : Thread := thrOf (preQ 744 w os)
noncomputable def h0 (w : World) (os : OsState) : Heap := (shOf (preQ 744 w os)).heap
noncomputable def fxL (w : World) (os : OsState) : List Obj := (h0 w os).objs.toList

def ent (w : World) (x : String) (tok : Nat) (v : Value) : DictEntry := ⟨PyData.keyHash w.params (Str.ofString x), .str (Str.ofString x) tok, v⟩
def frObj (w : World) (x : Int) (tx : Nat) (i : Int) (ti : Nat) : Obj :=
  ⟨.type "frame", none, .dict #[ent w "prim" 253 (.int 285 191), ent w "generator" 254 (.int 2 192), ent w "c_exp" 255 (.int 8 193), ent w "field_charac" 260 (.int 255 259), ent w "gf_exp" 263 (.ref 60), ent w "gf_log" 266 (.ref 61), ent w "x" 268 (.int x tx), ent w "i" 272 (.int i ti)] 8, #[]⟩
def baObj (b : Array UInt8) : Obj := ⟨.type "bytearray", none, .bytearray b 0, #[]⟩
def itObj (v left : Int) : Obj := ⟨.type "range_iterator", none, .fields #[.int v 0, .int left 0, .int 1 0], #[]⟩
noncomputable def UL (w : World) (os : OsState) (x : Int) (tx : Nat) (i i' : Int) (ti : Nat) (left : Int) (E L : Array UInt8) (fr : Option Obj) (n tk : Nat) : USt :=
  ⟨[(59, frObj w x tx i ti), (60, baObj E), (61, baObj L), (63, itObj i' left)], fr, n, tk, #[], boot_drawn, os⟩

def opsT (b1 b2 : Bool) : List Op :=
  [.next, .setb, .setb, .into, .into, .into, .truth true, .into, .truth false, .into, .shl, .into, .into, .truth b1] ++ (if b1 then [.into] else []) ++
  [.truth true, .into, .truth true, .into, .into, .shl, .into, .into, .truth b2] ++ (if b2 then [.into] else []) ++ [.truth false]
end Mine
end
/-! OpA -/
section
open PySem PySem.W PyProof.Rows
set_option Elab.async false
set_option maxRecDepth 1000000
set_option maxHeartbeats 0
namespace Mine

theorem den_q : denote treeTable = Fast.tw11892475500146522536 Fast.tw14364793385576792824 := by
  rw [Fast.te11892475500146522536, Fast.te14364793385576792824]

def ldA : Sem Fin → Option Nat
  | .load a _ _ => some a
  | _ => none
def ldK (o : Obj) : Sem Fin → Sem Fin
  | .load _ _ k => k o
  | t => t
section
variable {w : World} {b : Nat} {s s' : Shared} {t' : Thread} {c : Code} {p : Pos} {st : List Frame} {cur : Sem Fin}
theorem through_off (h : ∀ f, cur ≠ .pure (.done f)) : through ⟨cur, c, p, st⟩ = false := by
  unfold through
  cases cur with
  | pure f => cases f with
    | done f => exact absurd rfl (h f)
    | again _ => exact Bool.and_false _
  | _ => exact Bool.and_false _
theorem Go.load {a : Nat} {part : Option Value} {k : Obj → Sem Fin} {o : Obj} (hg : s.heap.get? a = some o) (rest : Go P w 11 ann b s ⟨k o, c, p, st⟩ s' t') : Go P w 11 ann (1 + b) s ⟨.load a part k, c, p, st⟩ s' t' :=
  (Go.one (through_off (by intro f e; cases e)) rfl (by simp only [step, hg])).trans rest
theorem Go.loadQ {a : Nat} {o : Obj} (h : ldA cur = some a) (hg : s.heap.get? a = some o) (rest : Go P w 11 ann b s ⟨ldK o cur, c, p, st⟩ s' t') : Go P w 11 ann (1 + b) s ⟨cur, c, p, st⟩ s' t' := by
  cases cur with
  | load a' part k =>
    obtain rfl : a' = a := Option.some.inj h
    exact Go.load hg rest
  | _ => cases h
theorem Go.upd {a : Nat} {part : Option Value} {f : Obj → Obj} {k : Unit → Sem Fin} {o : Obj} (ha : Nat.ble 11 a = true) (hg : s.heap.get? a = some o)
    (rest : Go P w 11 ann b { s with heap := s.heap.update a f } ⟨k (), c, p, st⟩ s' t') : Go P w 11 ann (1 + b) s ⟨.update a part f k, c, p, st⟩ s' t' :=
  (Go.one (through_off (by intro f e; cases e)) (by show (_ && (Nat.ble 11 a || _ || _ || _)) = true; rw [ha]; rfl) (by simp only [step, hg, Option.isSome_some, if_true])).trans rest
theorem Go.fresh {k : Tok → Sem Fin} (rest : Go P w 11 ann b { s with toks := s.toks + 1 } ⟨k s.toks, c, p, st⟩ s' t') : Go P w 11 ann (1 + b) s ⟨.fresh k, c, p, st⟩ s' t' :=
  (Go.one (through_off (by intro f e; cases e)) rfl rfl).trans rest
theorem Go.done {f : Flow} {k : Result → Sem Fin} {h : Option Value} {g : Bool} {l : List Value} {c' : Code} {p' : Pos} {kp : List Value} : Go P w 11 ann 1 s ⟨.pure (.done f), c, p, .ret k h g l c' p' kp :: st⟩ s ⟨k (.ok f), c', p', st⟩ :=
  Go.one rfl rfl rfl
theorem Go.call {c' : Code} {hd : Option Value} {gd : Bool} {lv : List Value} {kk : Result → Sem Fin}
    (rest : ∀ kp, Go P w 11 ann b s ⟨denote treeTable c', c', p, .ret kk hd gd lv c p kp :: st⟩ s' t') : Go P w 11 ann (1 + b) s ⟨.call c' hd gd lv kk, c, p, st⟩ s' t' :=
  (Go.one (through_off (by intro f e; cases e)) rfl rfl).trans (rest _)
theorem Go.again {id : String} {args : Args} {k : Result → Sem Fin} {h : Option Value} {g : Bool} {l : List Value} {c' : Code} {p' : Pos} {kp : List Value} (hid : id.startsWith "lifetime." = false)
    (rest : ∀ kp, Go P w 11 ann b s ⟨denote treeTable (.builtin id args), .builtin id args, p, .ret k h g l c' p' kp :: st⟩ s' t') :
    Go P w 11 ann (1 + b) s ⟨.pure (.again (.builtin id args)), c, p, .ret k h g l c' p' kp :: st⟩ s' t' :=
  (Go.one rfl (by
    show ((!(id.startsWith "lifetime.") || _) && _ && _ && _) = true
    rw [hid]; rfl) step_again).trans (rest _)
end
theorem t_truth1 (v : Int) (t : Nat) : Fast.tw11892475500146522536 Fast.tw14364793385576792824 (.call (.builtin "int.__bool__") ⟨[.int v t], []⟩) = .pure (.again (.builtin "int.__bool__" ⟨[.int v t], []⟩)) := by kernel_rfl
theorem t_truth2 (v : Int) (t : Nat) : Fast.tw11892475500146522536 Fast.tw14364793385576792824 (.builtin "int.__bool__" ⟨[.int v t], []⟩) = .pure (.done (.ret (.bool (v != 0)))) := by kernel_rfl
theorem op_truth {w : World} {s : Shared} {c : Code} {p : Pos} {st : List Frame} {hd : Option Value} {gd : Bool} {lv : List Value} {kk : Result → Sem Fin} (v : Int) (t : Nat) :
    Go P w 11 ann 3 s ⟨.call (.call (.builtin "int.__bool__") ⟨[.int v t], []⟩) hd gd lv kk, c, p, st⟩ s ⟨kk (.ok (.ret (.bool (v != 0)))), c, p, st⟩ := by
  refine Go.call (b := 2) fun kp => ?_
  rw [den_q, t_truth1]
  refine Go.again (b := 1) (by decide +kernel) fun kp => ?_
  rw [den_q, t_truth2]
  exact Go.done
end Mine
end
/-! OpB -/
section
open PySem PySem.W PyProof.Rows
set_option Elab.async false
set_option maxRecDepth 1000000
set_option maxHeartbeats 0
namespace Mine
noncomputable abbrev dq : Code → Sem Fin := Fast.tw11892475500146522536 Fast.tw14364793385576792824

theorem ent_shl : entryFor treeTable "int.__lshift__" = some Builtin.«int.__lshift__» := by kernel_rfl
theorem ent_set : entryFor treeTable "bytearray.__setitem__" = some Builtin.«bytearray.__setitem__» := by kernel_rfl
theorem ent_get : entryFor treeTable "bytearray.__getitem__" = some Builtin.«bytearray.__getitem__» := by kernel_rfl
theorem ent_next : entryFor treeTable "range_iterator.__next__" = some Builtin.«range_iterator.__next__» := by kernel_rfl
theorem den_of {id : String} {b : Builtin} {args : Args} (e : entryFor treeTable id = some b) : denote treeTable (.builtin id args) = b args := by
  show (match entryFor treeTable id with | some b => b args | none => _) = _
  rw [e]

theorem t_shl1 (x y : Int) (t u : Nat) : Fast.tw11892475500146522536 Fast.tw14364793385576792824 (.call (.builtin "int.__lshift__") ⟨[.int x t, .int y u], []⟩) = .pure (.again (.builtin "int.__lshift__" ⟨[.int x t, .int y u], []⟩)) := by kernel_rfl
theorem intBits_le {x : Int} (h : 0 < x) (h2 : x < 65536) : PySem.Builtin.Int.intBits x ≤ 16 := by
  unfold PySem.Builtin.Int.intBits
  split
  · omega
  · have : x.natAbs.log2 < 16 := (Nat.log2_lt (by omega)).mpr (by omega)
    omega
theorem shl_tree (x : Int) (t u : Nat) (h : 0 < x) (h2 : x < 65536) : Builtin.«int.__lshift__» ⟨[.int x t, .int 1 u], []⟩ = retInt (x * 2 ^ (1 : Int).toNat) := by
  have hb := intBits_le h h2
  have key : ∃ A2 A3 A4 : Sem Fin, Builtin.«int.__lshift__» ⟨[.int x t, .int 1 u], []⟩ = if (x == 0) = true then A2 else
      if ((PySem.Builtin.Int.intBits x : Int) + 29) / 30 + 1 / 30 + (if ((1 : Int) % 30 == 0) = true then 0 else 1) > PySem.Builtin.maxDigits then A3 else
      if PySem.Builtin.Int.intTooBig (PySem.Builtin.Int.intBits x + 1) = true then A4 else retInt (x * 2 ^ (1 : Int).toNat) := ⟨_, _, _, rfl⟩
  obtain ⟨A2, A3, A4, e⟩ := key
  rw [e, if_neg (by simp; omega), if_neg (by unfold PySem.Builtin.maxDigits; simp; omega), if_neg (by unfold PySem.Builtin.Int.intTooBig bitsLine; simp; omega)]
theorem op_shl {w : World} {s : Shared} {c : Code} {p : Pos} {st : List Frame} {hd : Option Value} {gd : Bool} {lv : List Value} {kk : Result → Sem Fin} (x : Int) (t u : Nat) (h : 0 < x) (h2 : x < 65536) :
    Go P w 11 ann 4 s ⟨.call (.call (.builtin "int.__lshift__") ⟨[.int x t, .int 1 u], []⟩) hd gd lv kk, c, p, st⟩ { s with toks := s.toks + 1 } ⟨kk (.ok (.ret (.int (x * 2 ^ (1 : Int).toNat) s.toks))), c, p, st⟩ := by
  refine Go.call (b := 3) fun kp => ?_
  rw [den_q, t_shl1]
  refine Go.again (b := 2) (by decide +kernel) fun kp => ?_
  rw [den_of ent_shl, shl_tree x t u h h2]
  refine Go.fresh (b := 1) ?_
  exact Go.done

open PySem.Builtin.SmallTypes in
theorem fits_of {i : Int} (h : 0 ≤ i) (h2 : i < 65536) : fitsIndex i = true := by
  unfold fitsIndex; simp; omega
open PySem.Builtin.SmallTypes in
theorem sub_tree (i : Int) (t : Nat) (h : fitsIndex i = true) : PySem.Builtin.Bytes.subscript? (.int i t) = pure (some i) := by
  have key : ∃ A : Sem (Option Int), PySem.Builtin.Bytes.subscript? (.int i t) = if (!fitsIndex i) = true then A else pure (some i) := ⟨_, rfl⟩
  obtain ⟨A, e⟩ := key
  rw [e, h]; rfl
theorem byte_tree (i : Int) (t : Nat) (h : 0 ≤ i) (h2 : i < 256) : PySem.Builtin.Bytes.byteValue (.int i t) = pure i.toNat.toUInt8 := by
  have key : ∃ A : Sem UInt8, PySem.Builtin.Bytes.byteValue (.int i t) = if (decide (i < 0) || decide (i ≥ 256)) = true then A else pure i.toNat.toUInt8 := ⟨_, rfl⟩
  obtain ⟨A, e⟩ := key
  rw [e, if_neg (by simp; omega)]
theorem seq_of {i : Int} {n : Nat} (h : 0 ≤ i) (h2 : i < n) : seqIndex? i n = some i.toNat := by
  have hn : ¬ i < 0 := by omega
  unfold seqIndex?
  simp only [if_neg hn]
  rw [if_pos (by simp; omega)]
theorem set_tree (a : Nat) (i v : Int) (t u : Nat) (h : 0 ≤ i) (h2 : i < 65536) (h3 : 0 ≤ v) (h4 : v < 256) : ∃ R : Sem Fin,
    Builtin.«bytearray.__setitem__» ⟨[.ref a, .int i t, .int v u], []⟩ = (do
      let b ← PySem.Builtin.Bytes.payload (.ref a)
      match seqIndex? i b.size with
      | some k => do
        PySem.Builtin.Bytes.write (.ref a) fun x => x.setIfInBounds k v.toNat.toUInt8
        ret .none
      | none => R) := by
  unfold Builtin.«bytearray.__setitem__»
  simp only [List.isEmpty_nil, Bool.not_true, if_false, Bool.false_eq_true]
  rw [sub_tree i t (fits_of h h2), byte_tree v u h3 h4]
  exact ⟨_, rfl⟩
theorem get_tree (a : Nat) (i : Int) (t : Nat) (h : 0 ≤ i) (h2 : i < 65536) : ∃ R : Sem Fin,
    Builtin.«bytearray.__getitem__» ⟨[.ref a, .int i t], []⟩ = (do
      let b ← PySem.Builtin.Bytes.payload (.ref a)
      match (seqIndex? i b.size).bind (b[·]?) with
      | some x => retInt x.toNat
      | none => R) := by
  unfold Builtin.«bytearray.__getitem__»
  have e : slotArgs "__getitem__" 1 ⟨[.ref a, .int i t], []⟩ = pure (.ref a, [.int i t]) := rfl
  rw [e]
  simp only [pure_bind]
  show ∃ R : Sem Fin, (PySem.Builtin.Bytes.subscript? (.int i t)).bind _ = _
  rw [sub_tree i t (fits_of h h2)]
  exact ⟨_, rfl⟩
theorem next_tree (a : Nat) : ∃ (R1 : Int → Int → Int → Sem Fin) (R : Sem Fin),
    Builtin.«range_iterator.__next__» ⟨[.ref a], []⟩ = (do
      match ← field (.ref a) 0 with
      | .int v _ => match ← field (.ref a) 1 with
        | .int left _ => match ← field (.ref a) 2 with
          | .int step _ => if left ≤ 0 then R1 v left step else do
            setField (.ref a) 0 (rawInt (v + step))
            setField (.ref a) 1 (rawInt (left - 1))
            retInt v
          | _ => R
        | _ => R
      | _ => R) := by
  unfold Builtin.«range_iterator.__next__»
  have e : slotArgs "__next__" 0 ⟨[.ref a], []⟩ = pure (.ref a, []) := rfl
  rw [e]
  exact ⟨_, _, rfl⟩

def bo (b : Array UInt8) (m : Nat) (sl : Array (Option Value)) : Obj := ⟨.type "bytearray", none, .bytearray b m, sl⟩
def io (v l s : Int) (t0 t1 t2 : Nat) (sl : Array (Option Value)) : Obj := ⟨.type "range_iterator", none, .fields #[.int v t0, .int l t1, .int s t2], sl⟩
theorem c_set1 (a : Nat) (i v : Int) (t u : Nat) : ldA (Fast.tw11892475500146522536 Fast.tw14364793385576792824 (.call (.builtin "bytearray.__setitem__") ⟨[.ref a, .int i t, .int v u], []⟩)) = some a := by kernel_rfl
theorem c_set2 (a : Nat) (i v : Int) (t u : Nat) (b : Array UInt8) (m : Nat) (sl : Array (Option Value)) : ldK (bo b m sl) (Fast.tw11892475500146522536 Fast.tw14364793385576792824 (.call (.builtin "bytearray.__setitem__") ⟨[.ref a, .int i t, .int v u], []⟩)) =
    .pure (.again (.builtin "bytearray.__setitem__" ⟨[.ref a, .int i t, .int v u], []⟩)) := by kernel_rfl
theorem c_get1 (a : Nat) (i : Int) (t : Nat) : ldA (Fast.tw11892475500146522536 Fast.tw14364793385576792824 (.call (.builtin "bytearray.__getitem__") ⟨[.ref a, .int i t], []⟩)) = some a := by kernel_rfl
theorem c_get2 (a : Nat) (i : Int) (t : Nat) (b : Array UInt8) (m : Nat) (sl : Array (Option Value)) : ldK (bo b m sl) (Fast.tw11892475500146522536 Fast.tw14364793385576792824 (.call (.builtin "bytearray.__getitem__") ⟨[.ref a, .int i t], []⟩)) =
    .pure (.again (.builtin "bytearray.__getitem__" ⟨[.ref a, .int i t], []⟩)) := by kernel_rfl
theorem c_next1 (a : Nat) : ldA (Fast.tw11892475500146522536 Fast.tw14364793385576792824 (.call (.builtin "range_iterator.__next__") ⟨[.ref a], []⟩)) = some a := by kernel_rfl
theorem c_next2 (a : Nat) (o : Obj) (ho : ∃ d sl, o = ⟨.type "range_iterator", none, d, sl⟩) : ldK o (Fast.tw11892475500146522536 Fast.tw14364793385576792824 (.call (.builtin "range_iterator.__next__") ⟨[.ref a], []⟩)) =
    .pure (.again (.builtin "range_iterator.__next__" ⟨[.ref a], []⟩)) := by
  obtain ⟨d, sl, rfl⟩ := ho
  kernel_rfl

theorem past_ba (b : Array UInt8) (m : Nat) (h : b.size ≤ 65536) : (Data.bytearray b m).pastItsLine = none := by
  show (if b.size > sizeLine then _ else _) = _
  rw [if_neg (by unfold sizeLine; omega)]
theorem op_set {w : World} {s : Shared} {c : Code} {p : Pos} {st : List Frame} {hd : Option Value} {gd : Bool} {lv : List Value} {kk : Result → Sem Fin} (a : Nat) (i v : Int) (t u : Nat) (b : Array UInt8) (m : Nat) (sl : Array (Option Value))
    (ha : Nat.ble 11 a = true) (hg : s.heap.get? a = some (bo b m sl)) (h : 0 ≤ i) (h2 : i < b.size) (h3 : b.size ≤ 65536) (h4 : 0 ≤ v) (h5 : v < 256) :
    Go P w 11 ann 30 s ⟨.call (.call (.builtin "bytearray.__setitem__") ⟨[.ref a, .int i t, .int v u], []⟩) hd gd lv kk, c, p, st⟩
      { s with heap := s.heap.update a (Obj.mapBytearray fun x => x.setIfInBounds i.toNat v.toNat.toUInt8) } ⟨kk (.ok (.ret .none)), c, p, st⟩ := by
  obtain ⟨R, e⟩ := set_tree a i v t u h (by omega) h4 h5
  have hu := Heap.get?_update_self (Obj.mapBytearray fun x => x.setIfInBounds i.toNat v.toNat.toUInt8) hg rfl
  refine Go.le (b := 8) (Go.call (b := 7) fun kp => ?_) (by omega)
  rw [den_q]
  refine Go.loadQ (b := 6) (c_set1 ..) hg ?_
  rw [c_set2]
  refine Go.again (b := 5) (by decide +kernel) fun kp => ?_
  rw [den_of ent_set, e]
  refine Go.load (b := 4) hg ?_
  show Go P w 11 ann 4 s ⟨(match seqIndex? i b.size with | some k => _ | none => R), _, _, _⟩ _ _
  rw [seq_of h h2]
  refine Go.load (b := 3) hg ?_
  refine Go.upd (b := 2) ha hg ?_
  refine Go.load (b := 1) hu ?_
  have eo : (Obj.mapBytearray (fun x => x.setIfInBounds i.toNat v.toNat.toUInt8) (bo b m sl)).data.pastItsLine = none := past_ba _ _ (by simpa using h3)
  simp only [Sem.bind, eo]
  exact Go.done
theorem op_get {w : World} {s : Shared} {c : Code} {p : Pos} {st : List Frame} {hd : Option Value} {gd : Bool} {lv : List Value} {kk : Result → Sem Fin} (a : Nat) (i : Int) (t : Nat) (b : Array UInt8) (m : Nat) (sl : Array (Option Value))
    (hg : s.heap.get? a = some (bo b m sl)) (h : 0 ≤ i) (h2 : i < b.size) (h3 : b.size ≤ 65536) :
    Go P w 11 ann 30 s ⟨.call (.call (.builtin "bytearray.__getitem__") ⟨[.ref a, .int i t], []⟩) hd gd lv kk, c, p, st⟩
      { s with toks := s.toks + 1 } ⟨kk (.ok (.ret (.int (b.getD i.toNat 0).toNat s.toks))), c, p, st⟩ := by
  obtain ⟨R, e⟩ := get_tree a i t h (by omega)
  have hb : b[i.toNat]? = some (b.getD i.toNat 0) := by
    have : i.toNat < b.size := by omega
    simp [Array.getD, this]
  refine Go.le (b := 6) (Go.call (b := 5) fun kp => ?_) (by omega)
  rw [den_q]
  refine Go.loadQ (b := 4) (c_get1 ..) hg ?_
  rw [c_get2]
  refine Go.again (b := 3) (by decide +kernel) fun kp => ?_
  rw [den_of ent_get, e]
  refine Go.load (b := 2) hg ?_
  show Go P w 11 ann 2 s ⟨(match (seqIndex? i b.size).bind (b[·]?) with | some x => _ | none => R), _, _, _⟩ _ _
  rw [seq_of h h2, Option.bind_some, hb]
  refine Go.fresh (b := 1) ?_
  exact Go.done
theorem op_next {w : World} {s : Shared} {c : Code} {p : Pos} {st : List Frame} {hd : Option Value} {gd : Bool} {lv : List Value} {kk : Result → Sem Fin} (a : Nat) (v l st0 : Int) (t0 t1 t2 : Nat) (sl : Array (Option Value))
    (ha : Nat.ble 11 a = true) (hg : s.heap.get? a = some (io v l st0 t0 t1 t2 sl)) (h : 0 < l) :
    ∃ h', (∀ b, b ≠ a → h'.get? b = s.heap.get? b) ∧ h'.objs.size = s.heap.objs.size ∧ h'.get? a = some (io (v + st0) (l - 1) st0 0 0 t2 sl) ∧
    Go P w 11 ann 30 s ⟨.call (.call (.builtin "range_iterator.__next__") ⟨[.ref a], []⟩) hd gd lv kk, c, p, st⟩
      { s with heap := h', toks := s.toks + 1 } ⟨kk (.ok (.ret (.int v s.toks))), c, p, st⟩ := by
  obtain ⟨R1, R, e⟩ := next_tree a
  have s1 : Heap.SameBut a s.heap (s.heap.update a (Obj.mapFields (·.setIfInBounds 0 (rawInt (v + st0))))) := Heap.SameBut.update ..
  have hu := Heap.get?_update_self (Obj.mapFields (·.setIfInBounds 0 (rawInt (v + st0)))) hg rfl
  have s2 : Heap.SameBut a (s.heap.update a (Obj.mapFields (·.setIfInBounds 0 (rawInt (v + st0))))) ((s.heap.update a (Obj.mapFields (·.setIfInBounds 0 (rawInt (v + st0))))).update a (Obj.mapFields (·.setIfInBounds 1 (rawInt (l - 1))))) := Heap.SameBut.update ..
  have hu2 := Heap.get?_update_self (Obj.mapFields (·.setIfInBounds 1 (rawInt (l - 1)))) hu rfl
  refine ⟨_, fun b hb => (s2.2 b hb).trans (s1.2 b hb), s2.1.trans s1.1, hu2, ?_⟩
  refine Go.le (b := 13) (Go.call (b := 12) fun kp => ?_) (by omega)
  rw [den_q]
  refine Go.loadQ (b := 11) (c_next1 ..) hg ?_
  rw [c_next2 a (io v l st0 t0 t1 t2 sl) ⟨_, _, rfl⟩]
  refine Go.again (b := 10) (by decide +kernel) fun kp => ?_
  rw [den_of ent_next, e]
  refine Go.load (b := 9) hg ?_
  refine Go.load (b := 8) hg ?_
  refine Go.load (b := 7) hg ?_
  show Go P w 11 ann 7 s ⟨(if l ≤ 0 then R1 v l st0 else _), _, _, _⟩ _ _
  rw [if_neg (by omega)]
  refine Go.load (b := 6) hg ?_
  refine Go.upd (b := 5) ha hg ?_
  refine Go.load (b := 4) hu ?_
  refine Go.upd (b := 3) ha hu ?_
  refine Go.le (b := 2) (Go.fresh (b := 1) ?_) (by omega)
  exact Go.done

theorem lookB_some {fx : List Obj} {B : Nat} {m : List (Nat × Obj)} {a : Nat} {o : Obj} (h : lookB fx B m a = some o) : a < B ∧ Nat.ble 11 a = true ∧ look fx m a = some o := by
  unfold lookB at h
  cases h1 : Nat.ble B a <;> cases h2 : Nat.ble 11 a <;> rw [h1, h2] at h <;> first | (cases h; done) | exact ⟨bleF h1, rfl, h⟩

theorem Rep.put {fx : List Obj} {B : Nat} {h h' : Heap} {U : USt} (D : Rep fx B h U) {a : Nat} {o : Obj} (ha : a < B) (hs : ∀ b, b ≠ a → h'.get? b = h.get? b) (hz : h'.objs.size = h.objs.size) (hg : h'.get? a = some o) {tk : Nat} :
    Rep fx B h' { U with lo := putL U.lo a o, toks := tk } := by
  refine ⟨by rw [hz]; exact D.size, fun b p hb e' => ?_, D.hi, fun p e' => ?_⟩
  · rw [look_put] at e'
    by_cases q : a = b
    · subst q
      rw [if_pos rfl] at e'
      cases e'
      exact hg
    · rw [if_neg q] at e'
      exact (hs b (Ne.symm q)).trans (D.low b p hb e')
  · have : U.n ≠ a := fun q => by
      have := D.hi (by rw [show U.fr = some p from e']; rfl)
      omega
    exact (hs _ this).trans (D.fr p e')

theorem opsOk (w : World) (fx : List Obj) (B : Nat) : OpsOk P w 11 ann fx B := by
  intro op c U r U' ob h hd gd lv kk code pos stack hop hob D hk0
  unfold doOp at hop
  split at hop
  · cases hop
    obtain ⟨rfl, rfl⟩ := hob
    exact ⟨h, D, (op_truth ..).le (by omega)⟩
  · cases hop
    obtain ⟨rfl, h1, h2, rfl⟩ := hob
    exact ⟨h, D.same rfl rfl rfl, (op_shl _ _ _ h1 h2).le (by omega)⟩
  · rename_i id a i t v u
    split at hop
    · rename_i ty b m sl hl
      split at hop
      · rename_i ht
        have ht := of_decide_eq_true ht
        subst ht
        cases hop
        obtain ⟨rfl, h1, h2, h3, h4, h5⟩ := hob
        obtain ⟨l1, l2, l3⟩ := lookB_some hl
        have hg : h.get? a = some (bo b m sl) := D.low a _ l1 l3
        exact ⟨_, D.upd l1 l3 rfl rfl, op_set a i v t u b m sl l2 hg h1 h2 h3 h4 h5⟩
      · cases hop
    · cases hop
  · rename_i id a i t
    split at hop
    · rename_i ty b m sl hl
      split at hop
      · rename_i ht
        have ht := of_decide_eq_true ht
        subst ht
        cases hop
        obtain ⟨rfl, h1, h2, h3⟩ := hob
        obtain ⟨l1, l2, l3⟩ := lookB_some hl
        have hg : h.get? a = some (bo b m sl) := D.low a _ l1 l3
        exact ⟨h, D.same rfl rfl rfl, op_get a i t b m sl hg h1 h2 h3⟩
      · cases hop
    · cases hop
  · rename_i id a
    split at hop
    · rename_i ty vs sl hl
      split at hop
      · rename_i v t0 l t1 s t2 ht hv
        have ht := of_decide_eq_true ht
        subst ht
        cases hop
        obtain ⟨rfl, h1⟩ := hob
        obtain ⟨l1, l2, l3⟩ := lookB_some hl
        have hv' : vs = #[.int v t0, .int l t1, .int s t2] := Array.ext' hv
        subst hv'
        have hg : h.get? a = some (io v l s t0 t1 t2 sl) := D.low a _ l1 l3
        obtain ⟨h', q1, q2, q3, q4⟩ := op_next (w := w) (s := U.sh h) (c := code) (p := pos) (st := stack) (hd := hd) (gd := gd) (lv := lv) (kk := kk) a v l s t0 t1 t2 sl l2 hg h1
        exact ⟨h', D.put l1 q1 q2 q3, q4⟩
      · cases hop
    · cases hop
  · cases hop
end Mine
end
/-! Turn -/
section
open PySem PySem.W PyProof.Rows
set_option Elab.async false
set_option maxRecDepth 1000000
set_option maxHeartbeats 0
namespace Mine
def Got.view (r : Got) := (r.U.lo, r.U.n, r.U.toks, r.U.gens, r.U.drawn, r.U.os, r.t, r.as, r.obs, r.U.fr.isSome)
noncomputable def evQ (w : World) (fx : List Obj) (B k : Nat) (ops : List Op) (U : USt) (t : Thread) : Option Got :=
  ev (Fast.tw8437177126325714943 (Fast.tw11892475500146522536 Fast.tw14364793385576792824) P w) (Fast.tw6613529449190102663 11 ann) fx B k ops [] [] U t
theorem evQ_eq (w : World) (fx : List Obj) (B k : Nat) (ops : List Op) (U : USt) (t : Thread) :
    evQ w fx B k ops U t = ev (step (denote treeTable) P w) (stepOk 11 ann) fx B k ops [] [] U t := by
  unfold evQ
  rw [← Fast.te8437177126325714943, ← den_q, ← Fast.te6613529449190102663]
def x1 (x : Int) : Int := x * 2 ^ (1 : Int).toNat
def xr (x : Int) : Int := PySem.Builtin.bitXor x 285
def x2 (b : Bool) (x : Int) : Int := if b then xr (x1 x) else x1 x
def nx (b : Bool) (x : Int) : Int := PySem.Builtin.bitXor 0 (x2 b x)
def n2 (b : Bool) : Nat := if b then 2 else 0
def kT (b1 b2 : Bool) : Nat := if b1 then (if b2 then 294 else 277) else (if b2 then 277 else 260)
def aT (b1 b2 : Bool) : Nat := if b1 then (if b2 then 49 else 45) else (if b2 then 45 else 41)
def obsT (b1 b2 : Bool) (x i' left : Int) (E L : Array UInt8) : List Ob :=
  [.truth "int.__bool__" 0 false, .truth "int.__bool__" (PySem.Builtin.bitAnd (x1 (x2 b1 x)) 256) b2, .shl "int.__lshift__" (x2 b1 x) 1, .truth "int.__bool__" 1 true, .truth "int.__bool__" 1 true,
   .truth "int.__bool__" (PySem.Builtin.bitAnd (x1 x) 256) b1, .shl "int.__lshift__" x 1, .truth "int.__bool__" 0 false, .truth "int.__bool__" 2 true,
   .setb "bytearray.__setitem__" L.size x i', .setb "bytearray.__setitem__" E.size i' x, .next "range_iterator.__next__" left]
theorem turn (b b1 b2 : Bool) (w : World) (os : OsState) (x : Int) (tx : Nat) (i i' : Int) (ti : Nat) (left : Int) (E L : Array UInt8) (j tk : Nat) :
    (evQ (w.withFollow row b) (fxL (w.withFollow row b) os) 64 (kT b1 b2) (opsT b1 b2) (UL (w.withFollow row b) os x tx i i' ti left E L none (j + 64) tk) (tL (w.withFollow row b) os)).map Got.view =
      some ((UL (w.withFollow row b) os (nx b1 x) (tk + 23 + n2 b1) i' (i' + 1) tk (left - 1) (E.setIfInBounds i'.toNat x.toNat.toUInt8) (L.setIfInBounds x.toNat i'.toNat.toUInt8) none (j + 64) tk).lo, j + 64, tk + 34 + n2 b1 + n2 b2, #[], boot_drawn, os,
        tL (w.withFollow row b) os, List.replicate (aT b1 b2) (j + 64, j + 64), obsT b1 b2 x i' left E L, true) := by
  cases b <;> cases b1 <;> cases b2 <;> kernel_rfl
end Mine
end
/-! Loop1 -/
section
open PySem PySem.W PyProof.Rows
set_option Elab.async false
set_option maxRecDepth 1000000
set_option maxHeartbeats 0
namespace Mine
abbrev Wb (w : World) (b : Bool) : World := w.withFollow row b

theorem nthO_eq : ∀ (l : List Obj) (a : Nat), nthO l a = l[a]?
  | [], _ => rfl
  | _ :: _, 0 => rfl
  | _ :: r, n + 1 => by rw [List.getElem?_cons_succ]; exact nthO_eq r n
theorem get_of_nth {h : Heap} {a : Nat} {o : Obj} (e : nthO h.objs.toList a = some o) (hf : o.isFreed = false) : h.get? a = some o := by
  rw [nthO_eq, Array.getElem?_toList] at e
  unfold Heap.get?
  rw [e]
  obtain ⟨c, d, dt, sl⟩ := o
  cases dt <;> first | rfl | cases hf
theorem look_fx {h : Heap} {m : List (Nat × Obj)} (hm : ∀ a o, lookL m a = some o → h.get? a = some o) : ∀ a o, look h.objs.toList m a = some o → h.get? a = some o := by
  intro a o e
  unfold look at e
  cases q : lookL m a with
  | some p => rw [q] at e; cases e; exact hm a o q
  | none =>
    rw [q] at e
    dsimp only at e
    cases q2 : nthO h.objs.toList a with
    | none => rw [q2] at e; cases e
    | some p =>
      rw [q2] at e
      dsimp only at e
      cases q3 : p.isFreed with
      | true => rw [q3] at e; cases e
      | false => rw [q3] at e; cases e; exact get_of_nth q2 q3
theorem lookL_cons {m : List (Nat × Obj)} {a : Nat} {o : Obj} {h : Heap} (h1 : h.get? a = some o) (h2 : ∀ b p, lookL m b = some p → h.get? b = some p) : ∀ b p, lookL ((a, o) :: m) b = some p → h.get? b = some p := by
  intro b p e
  unfold lookL at e
  rw [beqN] at e
  by_cases q : a = b
  · subst q
    rw [decide_eq_true rfl] at e
    cases e
    exact h1
  · rw [decide_eq_false q] at e
    exact h2 b p e
theorem lookL_nil {h : Heap} : ∀ b p, lookL [] b = some p → h.get? b = some p := fun _ _ e => (nomatch e)

def E0 : Array UInt8 := (Array.replicate 510 0).setIfInBounds (0 : Int).toNat (1 : Int).toNat.toUInt8
def L0 : Array UInt8 := (Array.replicate 256 0).setIfInBounds (1 : Int).toNat (0 : Int).toNat.toUInt8
structure LS where
  x : Int
  tx : Nat
  ti : Nat
  tk : Nat
  E : Array UInt8
  L : Array UInt8
def bA (x : Int) : Bool := PySem.Builtin.bitAnd (x1 x) 256 != 0
def bB (x : Int) : Bool := PySem.Builtin.bitAnd (x1 (x2 (bA x) x)) 256 != 0
def lsNext (m : Nat) (S : LS) : LS :=
  ⟨nx (bA S.x) S.x, S.tk + 23 + n2 (bA S.x), S.tk, S.tk + 34 + n2 (bA S.x) + n2 (bB S.x), S.E.setIfInBounds (m + 1) S.x.toNat.toUInt8, S.L.setIfInBounds S.x.toNat (m + 1).toUInt8⟩
def lsAt : Nat → LS
  | 0 => ⟨2, 294, 271, 305, E0, L0⟩
  | m + 1 => lsNext m (lsAt m)
noncomputable def ULs (w : World) (os : OsState) (m : Nat) (S : LS) : USt := UL w os S.x S.tx m (m + 1) S.ti (254 - m) S.E S.L none (m + 1 + 64) S.tk

theorem pre_some (b : Bool) (w : World) (os : OsState) : ((preQ 744 (Wb w b) os).isSome, (shOf (preQ 744 (Wb w b) os)).gens, (shOf (preQ 744 (Wb w b) os)).drawn, (shOf (preQ 744 (Wb w b) os)).toks, (shOf (preQ 744 (Wb w b) os)).os, (h0 (Wb w b) os).objs.size) = (true, #[], boot_drawn, 305, os, 65) := by
  cases b <;> kernel_rfl
theorem pre_objs (b : Bool) (w : World) (os : OsState) : ((h0 (Wb w b) os).get? 59, (h0 (Wb w b) os).get? 60, (h0 (Wb w b) os).get? 61, (h0 (Wb w b) os).get? 63) = (some (frObj (Wb w b) 2 294 0 271), some (baObj E0), some (baObj L0), some (itObj 1 254)) := by
  cases b <;> kernel_rfl
theorem preQ_eq (k : Nat) (w : World) (os : OsState) : preQ k w os = topGo treeTable P w 11 ann k (s0 w os) (topStub P) := by
  unfold preQ
  rw [← Fast.te15667345088766844465, ← Fast.te14364793385576792824]
theorem sh_eta {s : Shared} {g : Array GenState} {d : Drawn} {t : Nat} {os : OsState} (e2 : s.gens = g) (e3 : s.drawn = d) (e4 : s.toks = t) (e5 : s.os = os) : s = ⟨s.heap, g, d, t, os⟩ := by
  obtain ⟨a, b, c, d, e⟩ := s
  subst e2 e3 e4 e5
  rfl
theorem some_eta {o : Option (Shared × Thread)} (h : o.isSome = true) : o = some (shOf o, thrOf o) := by
  cases o with
  | none => cases h
  | some p => rfl
theorem rep_start {h : Heap} {U : USt} {fx : List Obj} (e : fx = h.objs.toList) (hz : h.objs.size = U.n) (hf : U.fr = none) (hl : ∀ b p, lookL U.lo b = some p → h.get? b = some p) (B : Nat) : Rep fx B h U := by
  subst e
  refine ⟨by rw [hf]; exact hz, fun a o _ e => look_fx hl a o e, fun q => ?_, fun o q => ?_⟩
  · rw [hf] at q; cases q
  · rw [hf] at q; cases q
theorem start_rep (b : Bool) (w : World) (os : OsState) : Rep (fxL (Wb w b) os) 64 (h0 (Wb w b) os) (ULs (Wb w b) os 0 (lsAt 0)) := by
  have q := pre_objs b w os
  have e := pre_some b w os
  generalize hh : h0 (Wb w b) os = h at q e ⊢
  have q1 : h.get? 59 = some (frObj (Wb w b) 2 294 0 271) := congrArg (fun z => z.1) q
  have q2 : h.get? 60 = some (baObj E0) := congrArg (fun z => z.2.1) q
  have q3 : h.get? 61 = some (baObj L0) := congrArg (fun z => z.2.2.1) q
  have q4 : h.get? 63 = some (itObj 1 254) := congrArg (fun z => z.2.2.2) q
  have e6 : h.objs.size = 65 := congrArg (fun z => z.2.2.2.2.2) e
  refine rep_start (by rw [← hh]; rfl) e6 rfl ?_ 64
  exact lookL_cons q1 (lookL_cons q2 (lookL_cons q3 (lookL_cons q4 lookL_nil)))
theorem go_start {w : World} {s : Shared} {t : Thread} {o : Option (Shared × Thread)} {k : Nat} {U : USt} (ho : o = topGo treeTable P w 11 ann k s t) (e1 : o.isSome = true) (e2 : (shOf o).gens = U.gens) (e3 : (shOf o).drawn = U.drawn) (e4 : (shOf o).toks = U.toks) (e5 : (shOf o).os = U.os) :
    Go P w 11 ann k s t (U.sh (shOf o).heap) (thrOf o) := by
  have z := some_eta e1
  rw [sh_eta e2 e3 e4 e5] at z
  exact ⟨k, Nat.le_refl _, ho.symm.trans z⟩
theorem start_go (b : Bool) (w : World) (os : OsState) : Go P (Wb w b) 11 ann 744 (s0 (Wb w b) os) (topStub P) ((ULs (Wb w b) os 0 (lsAt 0)).sh (h0 (Wb w b) os)) (tL (Wb w b) os) := by
  have e := pre_some b w os
  have ho := preQ_eq 744 (Wb w b) os
  unfold h0 at e ⊢
  unfold tL
  generalize preQ 744 (Wb w b) os = o at e ho ⊢
  simp only [Prod.mk.injEq] at e
  obtain ⟨e1, e2, e3, e4, e5, e6⟩ := e
  exact go_start ho e1 e2 e3 e4 e5
end Mine
end
/-! Loop2 -/
section
open PySem PySem.W PyProof.Rows
set_option Elab.async false
set_option maxRecDepth 1000000
set_option maxHeartbeats 0
namespace Mine
theorem xGood : ∀ n : Nat, n < 256 → 0 < n → (0 < x2 (bA n) n ∧ x2 (bA n) n < 65536 ∧ 0 < nx (bA n) n ∧ nx (bA n) n < 256) := by
  decide +kernel

/-- what ev gives, as a run of the top -/
theorem ev_go {w : World} {fx : List Obj} {B k : Nat} {ops : List Op} {U : USt} {t t' : Thread} {lo : List (Nat × Obj)} {n tk : Nat} {as : List (Nat × Nat)} {obs : List Ob} {fr : Bool} {g : Array GenState} {d : Drawn} {os : OsState} {h : Heap}
    (e : (evQ w fx B k ops U t).map Got.view = some (lo, n, tk, g, d, os, t', as, obs, fr)) (ha : ∀ x ∈ as, x.1 = x.2) (ho : ∀ x ∈ obs, x.Holds) (D : Rep fx B h U) :
    ∃ h' f, Rep fx B h' ⟨lo, f, n, tk, g, d, os⟩ ∧ f.isSome = fr ∧ Go P w 11 ann (30 * k) (U.sh h) t ⟨h', g, d, tk, os⟩ t' := by
  rw [evQ_eq] at e
  obtain ⟨r, hr, hv⟩ := Option.map_eq_some_iff.mp e
  obtain ⟨⟨rlo, rfr, rn, rtk, rg, rd, ros⟩, rt, rops, ras, robs⟩ := r
  unfold Got.view at hv
  simp only [Prod.mk.injEq] at hv
  obtain ⟨e1, e2, e3, e4, e5, e6, e7, e8, e9, e10⟩ := hv
  subst e1 e2 e3 e4 e5 e6 e7 e8 e9
  obtain ⟨h', D', g'⟩ := ev_sound (opsOk w fx B) k ops [] [] U t _ h hr ha ho D
  exact ⟨h', rfr, D', e10, g'⟩

theorem repl_eq {a : Nat} {k : Nat} : ∀ x ∈ List.replicate k (a, a), x.1 = x.2 := by
  intro x hx
  rw [List.mem_replicate] at hx
  rw [hx.2]

theorem obs_good {b1 b2 : Bool} {x i' left : Int} {E L : Array UInt8} (h1 : b1 = bA x) (h2 : b2 = bB x) (hx : 0 < x) (hx2 : x < 256) (hy : 0 < x2 b1 x) (hy2 : x2 b1 x < 65536) (hi : 0 ≤ i') (hi2 : i' < 256) (hE : E.size = 510) (hL : L.size = 256) (hl : 0 < left) :
    ∀ o ∈ obsT b1 b2 x i' left E L, o.Holds := by
  unfold obsT
  simp only [List.forall_mem_cons]
  refine ⟨⟨rfl, rfl⟩, ⟨rfl, ?_⟩, ⟨rfl, hy, hy2, rfl⟩, ⟨rfl, rfl⟩, ⟨rfl, rfl⟩, ⟨rfl, ?_⟩, ⟨rfl, hx, by omega, rfl⟩, ⟨rfl, rfl⟩, ⟨rfl, rfl⟩, ⟨rfl, by omega, by omega, by omega, hi, hi2⟩, ⟨rfl, hi, by omega, by omega, by omega, hx2⟩, ⟨rfl, hl⟩, by simp⟩
  · rw [h2, h1]; rfl
  · rw [h1]; rfl

structure LS.Ok (S : LS) : Prop where
  x0 : 0 < S.x
  x1 : S.x < 256
  E : S.E.size = 510
  L : S.L.size = 256
theorem lsNext_ok {m : Nat} {S : LS} (h : S.Ok) : (lsNext m S).Ok := by
  obtain ⟨a, b, c, d⟩ := h
  have q := xGood S.x.toNat (by omega) (by omega)
  rw [Int.toNat_of_nonneg (by omega)] at q
  exact ⟨q.2.2.1, q.2.2.2, by unfold lsNext; simp [c], by unfold lsNext; simp [d]⟩
theorem lsAt_ok : ∀ m, (lsAt m).Ok
  | 0 => ⟨by decide, by decide, by unfold lsAt E0; simp, by unfold lsAt L0; simp⟩
  | m + 1 => lsNext_ok (lsAt_ok m)

theorem turn_go (b : Bool) (w : World) (os : OsState) (m : Nat) (hm : m < 254) (S : LS) (ok : S.Ok) {h : Heap} (D : Rep (fxL (Wb w b) os) 64 h (ULs (Wb w b) os m S)) :
    ∃ h', Rep (fxL (Wb w b) os) 64 h' (ULs (Wb w b) os (m + 1) (lsNext m S)) ∧ Go P (Wb w b) 11 ann 9000 ((ULs (Wb w b) os m S).sh h) (tL (Wb w b) os) ((ULs (Wb w b) os (m + 1) (lsNext m S)).sh h') (tL (Wb w b) os) := by
  obtain ⟨a0, a1, a2, a3⟩ := ok
  have q := xGood S.x.toNat (by omega) (by omega)
  rw [Int.toNat_of_nonneg (by omega)] at q
  have e := turn b (bA S.x) (bB S.x) w os S.x S.tx m (m + 1) S.ti (254 - m) S.E S.L (m + 1) S.tk
  obtain ⟨h', f, D', hf, g⟩ := ev_go e repl_eq (obs_good rfl rfl a0 a1 q.1 q.2.1 (by omega) (by omega) a2 a3 (by omega)) D
  obtain ⟨o, rfl⟩ := Option.isSome_iff_exists.mp hf
  have D2 := D'.drop rfl
  have ei : ((m : Int) + 1) = ((m + 1 : Nat) : Int) := by omega
  have ex : ((m : Int) + 1).toNat = m + 1 := by omega
  have el : (254 - (m : Int) - 1) = 254 - ((m + 1 : Nat) : Int) := by omega
  have elo : (UL (Wb w b) os (nx (bA S.x) S.x) (S.tk + 23 + n2 (bA S.x)) (m + 1) (m + 1 + 1) S.tk (254 - m - 1) (S.E.setIfInBounds ((m : Int) + 1).toNat S.x.toNat.toUInt8) (S.L.setIfInBounds S.x.toNat ((m : Int) + 1).toNat.toUInt8) none (m + 1 + 64) S.tk).lo = (ULs (Wb w b) os (m + 1) (lsNext m S)).lo := by
    rw [ex, el, ei]
    rfl
  refine ⟨h', D2.same elo.symm rfl (by show m + 1 + 1 + 64 = m + 1 + 64 + 1; omega), ?_⟩
  refine g.le ?_
  unfold kT
  cases bA S.x <;> cases bB S.x <;> decide
theorem loop1 (b : Bool) (w : World) (os : OsState) : ∀ m, m ≤ 254 → ∃ h, Rep (fxL (Wb w b) os) 64 h (ULs (Wb w b) os m (lsAt m)) ∧
    Go P (Wb w b) 11 ann (744 + 9000 * m) (s0 (Wb w b) os) (topStub P) ((ULs (Wb w b) os m (lsAt m)).sh h) (tL (Wb w b) os)
  | 0, _ => ⟨_, start_rep b w os, start_go b w os⟩
  | m + 1, hm => by
    obtain ⟨h, D, g⟩ := loop1 b w os m (by omega)
    obtain ⟨h', D', g'⟩ := turn_go b w os m (by omega) (lsAt m) (lsAt_ok m) D
    exact ⟨h', D', (g.trans g').le (by omega)⟩
end Mine
end
/-! Ph2 -/
section
open PySem PySem.W PyProof.Rows
set_option Elab.async false
set_option maxRecDepth 1000000
set_option maxHeartbeats 0
namespace Mine
noncomputable def fxM (w : World) (os : OsState) : List Obj := (fxL w os).take 64
def tupO : Obj := ⟨.type "tuple", none, .seq #[] 0, #[]⟩
def stopO (a : Nat) : Obj := ⟨.type "StopIteration", none, .fields #[.ref a, .none, .none, .none, .bool false, .none], #[]⟩
def rngO : Obj := ⟨.type "range", none, .fields #[.int 255 259, .int 510 9454, .int 1 9455], #[]⟩
noncomputable def UM (w : World) (os : OsState) (i i' : Int) (ti : Nat) (left : Int) (E L : Array UInt8) (tk : Nat) : USt :=
  ⟨[(59, frObj w 1 9442 i ti), (60, baObj E), (61, baObj L), (63, itObj 255 0), (319, tupO), (320, stopO 319), (321, rngO), (322, itObj i' left)], none, 323, tk, #[], boot_drawn, os⟩
def opsP : List Op := [.into, .into, .into, .into, .into, .into, .into, .next, .into, .getb, .setb]
noncomputable def tM (w : World) (os : OsState) : Thread := match evQ w (fxM w os) 100000 96 opsP (UL w os 1 9442 254 255 9417 0 #[] #[] none 319 9453) (tL w os) with
  | some r => r.t
  | none => noT
def eOf (E : Array UInt8) (i : Int) : Array UInt8 := E.setIfInBounds i.toNat ((E.getD (i - 255).toNat 0).toNat : Int).toNat.toUInt8
theorem phase2 (b : Bool) (w : World) (os : OsState) (E L : Array UInt8) :
    (evQ (Wb w b) (fxM (Wb w b) os) 100000 96 opsP (UL (Wb w b) os 1 9442 254 255 9417 0 E L none 319 9453) (tL (Wb w b) os)).map Got.view =
      some ((UM (Wb w b) os 255 256 9456 254 (eOf E 255) L 0).lo, 323, 9460, #[], boot_drawn, os, tM (Wb w b) os, [],
        [.setb "bytearray.__setitem__" E.size 255 ((E.getD (255 - 255 : Int).toNat 0).toNat : Int), .getb "bytearray.__getitem__" E.size (255 - 255), .next "range_iterator.__next__" 255], false) := by
  cases b <;> kernel_rfl
theorem turn2 (b : Bool) (w : World) (os : OsState) (i i' : Int) (ti : Nat) (left : Int) (E L : Array UInt8) (tk : Nat) :
    (evQ (Wb w b) (fxM (Wb w b) os) 100000 36 [.next, .into, .getb, .setb] (UM (Wb w b) os i i' ti left E L tk) (tM (Wb w b) os)).map Got.view =
      some ((UM (Wb w b) os i' (i' + 1) tk (left - 1) (eOf E i') L 0).lo, 323, tk + 4, #[], boot_drawn, os, tM (Wb w b) os, [],
        [.setb "bytearray.__setitem__" E.size i' ((E.getD (i' - 255 : Int).toNat 0).toNat : Int), .getb "bytearray.__getitem__" E.size (i' - 255), .next "range_iterator.__next__" left], false) := by
  cases b <;> kernel_rfl
end Mine
end
/-! Ph3 -/
section
open PySem PySem.W PyProof.Rows
set_option Elab.async false
set_option maxRecDepth 1000000
set_option maxHeartbeats 0
namespace Mine
def e2At : Nat → Array UInt8
  | 0 => eOf (lsAt 254).E 255
  | m + 1 => eOf (e2At m) ((256 + m : Nat) : Int)
noncomputable def UMs (w : World) (os : OsState) (m : Nat) (E L : Array UInt8) : USt := UM w os ((255 + m : Nat) : Int) ((256 + m : Nat) : Int) (9456 + 4 * m) (254 - (m : Int)) E L (9460 + 4 * m)
theorem ls254 : ((lsAt 254).x, (lsAt 254).tx, (lsAt 254).ti, (lsAt 254).tk) = (1, 9442, 9417, 9453) := by kernel_rfl
theorem nthO_take : ∀ (l : List Obj) (n a : Nat) (o : Obj), nthO (l.take n) a = some o → a < n ∧ nthO l a = some o
  | [], n, a, o, h => by rw [List.take_nil] at h; cases h
  | x :: r, 0, a, o, h => by rw [List.take_zero] at h; cases h
  | x :: r, n + 1, 0, o, h => ⟨Nat.succ_pos _, h⟩
  | x :: r, n + 1, a + 1, o, h => by
    obtain ⟨p, q⟩ := nthO_take r n a o h
    exact ⟨by omega, q⟩
theorem Rep.widen {fx : List Obj} {n B : Nat} {h : Heap} {U : USt} (D : Rep fx n h U) (hf : U.fr = none) (hl : ∀ a o, lookL U.lo a = some o → a < n) : Rep (fx.take n) B h U := by
  refine ⟨D.size, fun a o _ e => ?_, fun q => ?_, D.fr⟩
  · unfold look at e
    cases q : lookL U.lo a with
    | some p =>
      rw [q] at e
      cases e
      exact D.low a o (hl a o q) (by unfold look; rw [q])
    | none =>
      rw [q] at e
      dsimp only at e
      cases q2 : nthO (fx.take n) a with
      | none => rw [q2] at e; cases e
      | some p =>
        rw [q2] at e
        obtain ⟨r1, r2⟩ := nthO_take fx n a p q2
        exact D.low a o r1 (by unfold look; rw [q, r2]; exact e)
  · rw [hf] at q; cases q
theorem lookL_lt {n : Nat} {a : Nat} {o : Obj} : ∀ {m : List (Nat × Obj)}, (∀ x ∈ m, x.1 < n) → lookL m a = some o → a < n
  | [], _, e => (nomatch e)
  | p :: r, h, e => by
    unfold lookL at e
    rw [beqN] at e
    by_cases q : p.1 = a
    · rw [← q]; exact h p (.head _)
    · rw [decide_eq_false q] at e
      exact lookL_lt (fun x hx => h x (.tail _ hx)) e
theorem eOf_size (E : Array UInt8) (i : Int) : (eOf E i).size = E.size := by unfold eOf; simp
theorem u8_lt (u : UInt8) : (u.toNat : Int) < 256 := by have := u.toNat_lt; omega
theorem obs2_good {E : Array UInt8} {i left : Int} (hE : E.size = 510) (h1 : 255 ≤ i) (h2 : i < 510) (hl : 0 < left) :
    ∀ o ∈ [Ob.setb "bytearray.__setitem__" E.size i ((E.getD (i - 255 : Int).toNat 0).toNat : Int), .getb "bytearray.__getitem__" E.size (i - 255), .next "range_iterator.__next__" left], o.Holds := by
  simp only [List.forall_mem_cons]
  exact ⟨⟨rfl, by omega, by omega, by omega, by omega, u8_lt _⟩, ⟨rfl, by omega, by omega, by omega⟩, ⟨rfl, hl⟩, by simp⟩
theorem nil_eq : ∀ x ∈ ([] : List (Nat × Nat)), x.1 = x.2 := by simp
theorem e2_size : ∀ m, (e2At m).size = 510
  | 0 => by unfold e2At; rw [eOf_size]; exact (lsAt_ok 254).E
  | m + 1 => by unfold e2At; rw [eOf_size]; exact e2_size m
theorem begin2 (b : Bool) (w : World) (os : OsState) : ∃ h, Rep (fxM (Wb w b) os) 100000 h (UMs (Wb w b) os 0 (e2At 0) (lsAt 254).L) ∧
    Go P (Wb w b) 11 ann (744 + 9000 * 254 + 30 * 96) (s0 (Wb w b) os) (topStub P) ((UMs (Wb w b) os 0 (e2At 0) (lsAt 254).L).sh h) (tM (Wb w b) os) := by
  obtain ⟨h, D, g⟩ := loop1 b w os 254 (Nat.le_refl _)
  have e : ULs (Wb w b) os 254 (lsAt 254) = UL (Wb w b) os 1 9442 254 255 9417 0 (lsAt 254).E (lsAt 254).L none 319 9453 := by
    have q := ls254
    simp only [Prod.mk.injEq] at q
    unfold ULs
    rw [q.1, q.2.1, q.2.2.1, q.2.2.2]
    rfl
  rw [e] at D g
  have D2 := D.widen (B := 100000) rfl (fun a o q => lookL_lt (m := (UL (Wb w b) os 1 9442 254 255 9417 0 (lsAt 254).E (lsAt 254).L none 319 9453).lo) (by unfold UL; simp) q)
  have hE := (lsAt_ok 254).E
  obtain ⟨h', f, D', hf, g'⟩ := ev_go (phase2 b w os (lsAt 254).E (lsAt 254).L) nil_eq (obs2_good hE (by omega) (by omega) (by omega)) D2
  have hf' : f = none := by cases f with | none => rfl | some _ => cases hf
  subst hf'
  exact ⟨h', D'.same rfl rfl rfl, (g.trans g').le (by omega)⟩
theorem turn2_go (b : Bool) (w : World) (os : OsState) (m : Nat) (hm : m < 254) (E L : Array UInt8) (hE : E.size = 510) {h : Heap} (D : Rep (fxM (Wb w b) os) 100000 h (UMs (Wb w b) os m E L)) :
    ∃ h', Rep (fxM (Wb w b) os) 100000 h' (UMs (Wb w b) os (m + 1) (eOf E ((256 + m : Nat) : Int)) L) ∧ Go P (Wb w b) 11 ann 1080 ((UMs (Wb w b) os m E L).sh h) (tM (Wb w b) os) ((UMs (Wb w b) os (m + 1) (eOf E ((256 + m : Nat) : Int)) L).sh h') (tM (Wb w b) os) := by
  obtain ⟨h', f, D', hf, g⟩ := ev_go (turn2 b w os ((255 + m : Nat) : Int) ((256 + m : Nat) : Int) (9456 + 4 * m) (254 - (m : Int)) E L (9460 + 4 * m)) nil_eq (obs2_good hE (by omega) (by omega) (by omega)) D
  have hf' : f = none := by cases f with | none => rfl | some _ => cases hf
  subst hf'
  have elo : (UM (Wb w b) os ((256 + m : Nat) : Int) (((256 + m : Nat) : Int) + 1) (9460 + 4 * m) (254 - (m : Int) - 1) (eOf E ((256 + m : Nat) : Int)) L 0).lo = (UMs (Wb w b) os (m + 1) (eOf E ((256 + m : Nat) : Int)) L).lo := by
    unfold UMs
    rw [show ((255 + (m + 1) : Nat) : Int) = ((256 + m : Nat) : Int) by omega, show ((256 + (m + 1) : Nat) : Int) = ((256 + m : Nat) : Int) + 1 by omega, show 9456 + 4 * (m + 1) = 9460 + 4 * m by omega, show (254 - ((m + 1 : Nat) : Int)) = 254 - (m : Int) - 1 by omega]
    rfl
  refine ⟨h', D'.same elo.symm rfl rfl, ?_⟩
  have ets : USt.sh (UMs (Wb w b) os (m + 1) (eOf E ((256 + m : Nat) : Int)) L) h' = ⟨h', #[], boot_drawn, 9460 + 4 * m + 4, os⟩ := by
    show Shared.mk h' #[] boot_drawn (9460 + 4 * (m + 1)) os = _
    rw [show 9460 + 4 * (m + 1) = 9460 + 4 * m + 4 by omega]
  rw [ets]
  exact g
theorem loop2 (b : Bool) (w : World) (os : OsState) : ∀ m, m ≤ 254 → ∃ h, Rep (fxM (Wb w b) os) 100000 h (UMs (Wb w b) os m (e2At m) (lsAt 254).L) ∧
    Go P (Wb w b) 11 ann (744 + 9000 * 254 + 30 * 96 + 1080 * m) (s0 (Wb w b) os) (topStub P) ((UMs (Wb w b) os m (e2At m) (lsAt 254).L).sh h) (tM (Wb w b) os)
  | 0, _ => begin2 b w os
  | m + 1, hm => by
    obtain ⟨h, D, g⟩ := loop2 b w os m (by omega)
    obtain ⟨h', D', g'⟩ := turn2_go b w os m (by omega) (e2At m) (lsAt 254).L (e2_size m) D
    exact ⟨h', D', (g.trans g').le (by omega)⟩
noncomputable def finQ (w : World) (os : OsState) (E L : Array UInt8) : Option Got := evQ w (fxM w os) 100000 184 (List.replicate 6 .into) (UMs w os 254 E L) (tM w os)
noncomputable def UF (w : World) (os : OsState) (E L : Array UInt8) : USt := match finQ w os E L with
  | some r => r.U
  | none => UMs w os 254 E L
theorem phase3 (b : Bool) (w : World) (os : OsState) (E L : Array UInt8) :
    (finQ (Wb w b) os E L).map (fun r => (r.as, r.obs, through r.t, r.U.gens, r.U.drawn, r.U.os, r.U.n, r.U.toks, r.U.fr)) = some ([], [], true, #[], boot_drawn, os, 343, 10507, none) := by
  cases b <;> kernel_rfl
abbrev EF : Array UInt8 := e2At 254
abbrev LF : Array UInt8 := (lsAt 254).L
theorem run_last {w : World} {s : Shared} {t : Thread} (h : through t = true) : topRun treeTable P w 11 ann 1 s t = some s := by
  unfold topRun
  rw [h]
theorem go_end {w : World} {b N : Nat} {s s' : Shared} {t t' : Thread} (g : Go P w 11 ann b s t s' t') (h : through t' = true) (hN : b + 1 ≤ N) : topRun treeTable P w 11 ann N s t = some s' := by
  have z := topRun_mono (N - (b + 1)) _ _ _ _ (g.run (run_last (s := s') h))
  rw [show b + 1 + (N - (b + 1)) = N by omega] at z
  exact z
theorem got_end {w : World} {os : OsState} {q : Option Got} (p3 : q.map (fun r => (r.as, r.obs, through r.t, r.U.gens, r.U.drawn, r.U.os, r.U.n, r.U.toks, r.U.fr)) = some ([], [], true, #[], boot_drawn, os, 343, 10507, none)) :
    ∃ r, q = some r ∧ r.as = [] ∧ r.obs = [] ∧ through r.t = true ∧ ∀ h, r.U.sh h = ⟨h, #[], boot_drawn, 10507, os⟩ := by
  obtain ⟨r, hr, hv⟩ := Option.map_eq_some_iff.mp p3
  simp only [Prod.mk.injEq] at hv
  obtain ⟨e1, e2, e3, e4, e5, e6, e7, e8, e9⟩ := hv
  exact ⟨r, hr, e1, e2, e3, fun h => by unfold USt.sh; rw [e4, e5, e6, e8]⟩
theorem UF_eq {w : World} {os : OsState} {E L : Array UInt8} {r : Got} (h : finQ w os E L = some r) : UF w os E L = r.U := by
  unfold UF
  rw [h]
theorem top_runs (b : Bool) (w : World) (os : OsState) : ∃ h, Rep (fxM (Wb w b) os) 100000 h (UF (Wb w b) os EF LF) ∧
    topRun treeTable P (Wb w b) 11 ann 3000000 (s0 (Wb w b) os) (topStub P) = some ⟨h, #[], boot_drawn, 10507, os⟩ := by
  obtain ⟨h, D, g⟩ := loop2 b w os 254 (Nat.le_refl _)
  obtain ⟨r, hr, e1, e2, e3, e4⟩ := got_end (w := w) (phase3 b w os EF LF)
  have hU := UF_eq hr
  have hr' : ev (step (denote treeTable) P (Wb w b)) (stepOk 11 ann) (fxM (Wb w b) os) 100000 184 (List.replicate 6 .into) [] [] (UMs (Wb w b) os 254 EF LF) (tM (Wb w b) os) = some r := (evQ_eq ..).symm.trans hr
  obtain ⟨h', D', g'⟩ := ev_sound (opsOk (Wb w b) (fxM (Wb w b) os) 100000) 184 _ [] [] _ _ _ h hr' (by rw [e1]; simp) (by rw [e2]; simp) D
  refine ⟨h', hU ▸ D', ?_⟩
  rw [← e4 h']
  exact go_end (g.trans g') e3 (by omega)
end Mine
end
/-! KF -/
section
open PySem PySem.W PyProof.Rows
set_option Elab.async false
set_option maxRecDepth 1000000
set_option maxHeartbeats 0
set_option linter.unusedVariables false
namespace Mine
abbrev st1 : Stmt := (⟨.Assign _ _ _, rfl⟩ : { s : Stmt // P.main.body[1]? = some s }).val
abbrev st2 : Stmt := (⟨.Assign _ _ _, rfl⟩ : { s : Stmt // P.main.body[2]? = some s }).val
abbrev st9 : Stmt := (⟨.Assign _ _ _, rfl⟩ : { s : Stmt // P.main.body[9]? = some s }).val
abbrev st4 : Stmt := (⟨.FunctionDef _ _ _ _ _ _ _ _ _ _, rfl⟩ : { s : Stmt // P.main.body[4]? = some s }).val
abbrev st5 : Stmt := (⟨.FunctionDef _ _ _ _ _ _ _ _ _ _, rfl⟩ : { s : Stmt // P.main.body[5]? = some s }).val
abbrev st6 : Stmt := (⟨.FunctionDef _ _ _ _ _ _ _ _ _ _, rfl⟩ : { s : Stmt // P.main.body[6]? = some s }).val
abbrev st7 : Stmt := (⟨.FunctionDef _ _ _ _ _ _ _ _ _ _, rfl⟩ : { s : Stmt // P.main.body[7]? = some s }).val
abbrev st11 : Stmt := (⟨.FunctionDef _ _ _ _ _ _ _ _ _ _, rfl⟩ : { s : Stmt // P.main.body[11]? = some s }).val
abbrev st12 : Stmt := (⟨.FunctionDef _ _ _ _ _ _ _ _ _ _, rfl⟩ : { s : Stmt // P.main.body[12]? = some s }).val
abbrev qv : Program := { P with main := { P.main with body := [st1, st2, st4, st5, st6, st7, st9, st11, st12] } }
def prOf : Stmt → Arguments
  | .FunctionDef _ a _ _ _ _ _ _ _ _ => a
  | _ => ⟨[], [], none, [], [], none, []⟩
def bdOf : Stmt → List Stmt
  | .FunctionDef _ _ b _ _ _ _ _ _ _ => b
  | _ => []
def scOf : Stmt → Scope
  | .FunctionDef _ _ _ _ _ _ s _ _ _ => s
  | _ => P.main.scope
abbrev pr4 : Arguments := (⟨⟨_, _, _, _, _, _, _⟩, rfl⟩ : { s : Arguments // prOf st4 = s }).val
abbrev bd4 : List Stmt := (⟨_ :: _, rfl⟩ : { s : List Stmt // bdOf st4 = s }).val
abbrev sc4 : Scope := (⟨⟨_, _, _, _, _⟩, rfl⟩ : { s : Scope // scOf st4 = s }).val
abbrev pr5 : Arguments := (⟨⟨_, _, _, _, _, _, _⟩, rfl⟩ : { s : Arguments // prOf st5 = s }).val
abbrev bd5 : List Stmt := (⟨_ :: _, rfl⟩ : { s : List Stmt // bdOf st5 = s }).val
abbrev sc5 : Scope := (⟨⟨_, _, _, _, _⟩, rfl⟩ : { s : Scope // scOf st5 = s }).val
abbrev pr6 : Arguments := (⟨⟨_, _, _, _, _, _, _⟩, rfl⟩ : { s : Arguments // prOf st6 = s }).val
abbrev bd6 : List Stmt := (⟨_ :: _, rfl⟩ : { s : List Stmt // bdOf st6 = s }).val
abbrev sc6 : Scope := (⟨⟨_, _, _, _, _⟩, rfl⟩ : { s : Scope // scOf st6 = s }).val
abbrev pr7 : Arguments := (⟨⟨_, _, _, _, _, _, _⟩, rfl⟩ : { s : Arguments // prOf st7 = s }).val
abbrev bd7 : List Stmt := (⟨_ :: _, rfl⟩ : { s : List Stmt // bdOf st7 = s }).val
abbrev sc7 : Scope := (⟨⟨_, _, _, _, _⟩, rfl⟩ : { s : Scope // scOf st7 = s }).val
abbrev pr11 : Arguments := (⟨⟨_, _, _, _, _, _, _⟩, rfl⟩ : { s : Arguments // prOf st11 = s }).val
abbrev bd11 : List Stmt := (⟨_ :: _, rfl⟩ : { s : List Stmt // bdOf st11 = s }).val
abbrev sc11 : Scope := (⟨⟨_, _, _, _, _⟩, rfl⟩ : { s : Scope // scOf st11 = s }).val
abbrev pr12 : Arguments := (⟨⟨_, _, _, _, _, _, _⟩, rfl⟩ : { s : Arguments // prOf st12 = s }).val
abbrev bd12 : List Stmt := (⟨_ :: _, rfl⟩ : { s : List Stmt // bdOf st12 = s }).val
abbrev sc12 : Scope := (⟨⟨_, _, _, _, _⟩, rfl⟩ : { s : Scope // scOf st12 = s }).val
def looseL : List Str := [Str.ofString "_bytearray", Str.ofString "xrange", Str.ofString "init_tables", Str.ofString "gf_mult_noLUT", Str.ofString "gf_log", Str.ofString "gf_exp", Str.ofString "field_charac"]
def lvL : List (Str × WData) := [(Str.ofString "field_charac", WData.int 255)]
abbrev ko2 (w : Params) : Obj :=
{ cls := Value.none, data := Data.dict #[] }
abbrev ko3 (w : Params) : Obj :=
{ cls := Value.type "dict",
  data :=
    Data.dict
      #[{ hash := PyData.keyHash w (Str.ofString "__name__"),
          key := Value.str (Str.ofString "__name__") 165,
          val := Value.str (Str.ofString "law_md0022_01") 10479 },
        { hash := PyData.keyHash w (Str.ofString "__doc__"),
          key := Value.str (Str.ofString "__doc__") 166, val := Value.none },
        { hash := PyData.keyHash w (Str.ofString "__package__"),
          key := Value.str (Str.ofString "__package__") 167, val := Value.none },
        { hash := PyData.keyHash w (Str.ofString "__loader__"),
          key := Value.str (Str.ofString "__loader__") 168,
          val := Value.builtin "__main__.__loader__#opaque" },
        { hash := PyData.keyHash w (Str.ofString "__spec__"),
          key := Value.str (Str.ofString "__spec__") 169, val := Value.none },
        { hash := PyData.keyHash w (Str.ofString "__annotations__"),
          key := Value.str (Str.ofString "__annotations__") 170, val := Value.ref 6 },
        { hash := PyData.keyHash w (Str.ofString "__builtins__"),
          key := Value.str (Str.ofString "__builtins__") 171, val := Value.ref 4 },
        { hash := PyData.keyHash w (Str.ofString "__file__"),
          key := Value.str (Str.ofString "__file__") 173,
          val := Value.str (Str.ofString "/claim/cut.py") 172 },
        { hash := PyData.keyHash w (Str.ofString "__cached__"),
          key := Value.str (Str.ofString "__cached__") 174, val := Value.none },
        { hash := PyData.keyHash w (Str.ofString "_bytearray"),
          key := Value.str (Str.ofString "_bytearray") 189, val := Value.type "bytearray" },
        { hash := PyData.keyHash w (Str.ofString "xrange"),
          key := Value.str (Str.ofString "xrange") 190, val := Value.type "range" },
        { hash := PyData.keyHash w (Str.ofString "init_tables"),
          key := Value.str (Str.ofString "init_tables") 207, val := Value.ref 22 },
        { hash := PyData.keyHash w (Str.ofString "gf_inverse"),
          key := Value.str (Str.ofString "gf_inverse") 214, val := Value.ref 29 },
        { hash := PyData.keyHash w (Str.ofString "gf_mul"),
          key := Value.str (Str.ofString "gf_mul") 222, val := Value.ref 36 },
        { hash := PyData.keyHash w (Str.ofString "gf_div"),
          key := Value.str (Str.ofString "gf_div") 230, val := Value.ref 43 },
        { hash := PyData.keyHash w (Str.ofString "gf_pow"),
          key := Value.str (Str.ofString "gf_pow") 238, val := Value.ref 50 },
        { hash := PyData.keyHash w (Str.ofString "gf_mult_noLUT"),
          key := Value.str (Str.ofString "gf_mult_noLUT") 252, val := Value.ref 58 },
        { hash := PyData.keyHash w (Str.ofString "gf_log"),
          key := Value.str (Str.ofString "gf_log") 10476, val := Value.ref 61 },
        { hash := PyData.keyHash w (Str.ofString "gf_exp"),
          key := Value.str (Str.ofString "gf_exp") 10477, val := Value.ref 60 },
        { hash := PyData.keyHash w (Str.ofString "field_charac"),
          key := Value.str (Str.ofString "field_charac") 10478, val := Value.int 255 259 },
        { hash := PyData.keyHash w (Str.ofString "_law_product"),
          key := Value.str (Str.ofString "_law_product") 10490, val := Value.ref 335 },
        { hash := PyData.keyHash w (Str.ofString "law"),
          key := Value.str (Str.ofString "law") 10506, val := Value.ref 342 }]
      22 }
abbrev ko28 (w : Params) : Obj :=
{ cls := Value.type "code",
  data :=
    Data.fields
      #[Value.str (Str.ofString "gf_inverse") 208, Value.str (Str.ofString "gf_inverse") 209,
        Value.str (Str.ofString "/claim/cut.py") 210, Value.int 16 0, Value.int 1 0,
        Value.int 0 0, Value.int 0 0, Value.int 3 0, Value.ref 23, Value.bool true,
        Value.int 181 0, Value.ref 24, Value.none, Value.ref 25, Value.ref 26,
        Value.ref 27, Value.int 212 0, Value.int 16 0,
        Value.str (Str.ofString "/claim/cut.py") 213] }
abbrev ko29 (w : Params) : Obj :=
{ cls := Value.type "function",
  data :=
    Data.func
      { name := Str.ofString "gf_inverse", qualname := Str.ofString "gf_inverse",
        params := pr4, body := FuncBody.stmts bd4, scope := sc4,
        globals := 3, closure := [], defaults := Value.none, kwdefaults := Value.none,
        pyModule := Value.str (Str.ofString "reedsolo") 187, code := Value.ref 28 } }
abbrev ko35 (w : Params) : Obj :=
{ cls := Value.type "code",
  data :=
    Data.fields
      #[Value.str (Str.ofString "gf_mul") 215, Value.str (Str.ofString "gf_mul") 216,
        Value.str (Str.ofString "/claim/cut.py") 217, Value.int 18 0, Value.int 2 0,
        Value.int 0 0, Value.int 0 0, Value.int 3 0, Value.ref 30, Value.bool true,
        Value.int 181 0, Value.ref 31, Value.none, Value.ref 32, Value.ref 33,
        Value.ref 34, Value.int 220 0, Value.int 18 0,
        Value.str (Str.ofString "/claim/cut.py") 221] }
abbrev ko36 (w : Params) : Obj :=
{ cls := Value.type "function",
  data :=
    Data.func
      { name := Str.ofString "gf_mul", qualname := Str.ofString "gf_mul",
        params := pr5, body := FuncBody.stmts bd5, scope := sc5,
        globals := 3, closure := [], defaults := Value.none, kwdefaults := Value.none,
        pyModule := Value.str (Str.ofString "reedsolo") 187, code := Value.ref 35 } }
abbrev ko42 (w : Params) : Obj :=
{ cls := Value.type "code",
  data :=
    Data.fields
      #[Value.str (Str.ofString "gf_div") 223, Value.str (Str.ofString "gf_div") 224,
        Value.str (Str.ofString "/claim/cut.py") 225, Value.int 22 0, Value.int 2 0,
        Value.int 0 0, Value.int 0 0, Value.int 3 0, Value.ref 37, Value.bool true,
        Value.int 181 0, Value.ref 38, Value.none, Value.ref 39, Value.ref 40,
        Value.ref 41, Value.int 228 0, Value.int 22 0,
        Value.str (Str.ofString "/claim/cut.py") 229] }
abbrev ko43 (w : Params) : Obj :=
{ cls := Value.type "function",
  data :=
    Data.func
      { name := Str.ofString "gf_div", qualname := Str.ofString "gf_div",
        params := pr6, body := FuncBody.stmts bd6, scope := sc6,
        globals := 3, closure := [], defaults := Value.none, kwdefaults := Value.none,
        pyModule := Value.str (Str.ofString "reedsolo") 187, code := Value.ref 42 } }
abbrev ko49 (w : Params) : Obj :=
{ cls := Value.type "code",
  data :=
    Data.fields
      #[Value.str (Str.ofString "gf_pow") 231, Value.str (Str.ofString "gf_pow") 232,
        Value.str (Str.ofString "/claim/cut.py") 233, Value.int 28 0, Value.int 2 0,
        Value.int 0 0, Value.int 0 0, Value.int 3 0, Value.ref 44, Value.bool true,
        Value.int 181 0, Value.ref 45, Value.none, Value.ref 46, Value.ref 47,
        Value.ref 48, Value.int 236 0, Value.int 28 0,
        Value.str (Str.ofString "/claim/cut.py") 237] }
abbrev ko50 (w : Params) : Obj :=
{ cls := Value.type "function",
  data :=
    Data.func
      { name := Str.ofString "gf_pow", qualname := Str.ofString "gf_pow",
        params := pr7, body := FuncBody.stmts bd7, scope := sc7,
        globals := 3, closure := [], defaults := Value.none, kwdefaults := Value.none,
        pyModule := Value.str (Str.ofString "reedsolo") 187, code := Value.ref 49 } }
abbrev ko334 (w : Params) : Obj :=
{ cls := Value.type "code",
  data :=
    Data.fields
      #[Value.str (Str.ofString "_law_product") 10481,
        Value.str (Str.ofString "_law_product") 10482,
        Value.str (Str.ofString "/claim/cut.py") 10483, Value.int 42 0, Value.int 2 0,
        Value.int 0 0, Value.int 0 0, Value.int 3 0, Value.ref 329, Value.bool true,
        Value.int 181 0, Value.ref 330, Value.none, Value.ref 331, Value.ref 332,
        Value.ref 333, Value.int 10488 0, Value.int 42 0,
        Value.str (Str.ofString "/claim/cut.py") 10489] }
abbrev ko335 (w : Params) : Obj :=
{ cls := Value.type "function",
  data :=
    Data.func
      { name := Str.ofString "_law_product", qualname := Str.ofString "_law_product",
        params := pr11, body := FuncBody.stmts bd11, scope := sc11,
        globals := 3, closure := [], defaults := Value.none, kwdefaults := Value.none,
        pyModule := Value.str (Str.ofString "law_md0022_01") 10479, code := Value.ref 334 } }
abbrev ko341 (w : Params) : Obj :=
{ cls := Value.type "code",
  data :=
    Data.fields
      #[Value.str (Str.ofString "law") 10491, Value.str (Str.ofString "law") 10492,
        Value.str (Str.ofString "/claim/cut.py") 10493, Value.int 51 0, Value.int 1 0,
        Value.int 0 0, Value.int 0 0, Value.int 3 0, Value.ref 336, Value.bool true,
        Value.int 181 0, Value.ref 337, Value.none, Value.ref 338, Value.ref 339,
        Value.ref 340, Value.int 10504 0, Value.int 51 0,
        Value.str (Str.ofString "/claim/cut.py") 10505] }
abbrev ko342 (w : Params) : Obj :=
{ cls := Value.type "function",
  data :=
    Data.func
      { name := Str.ofString "law", qualname := Str.ofString "law",
        params := pr12, body := FuncBody.stmts bd12, scope := sc12,
        globals := 3, closure := [], defaults := Value.none, kwdefaults := Value.none,
        pyModule := Value.str (Str.ofString "law_md0022_01") 10479, code := Value.ref 341 } }
def expN : List Nat := [1, 2, 4, 8, 16, 32, 64, 128, 29, 58, 116, 232, 205, 135, 19, 38, 76, 152, 45, 90, 180, 117, 234, 201, 143, 3, 6, 12, 24, 48, 96, 192, 157, 39, 78, 156, 37, 74, 148, 53, 106, 212, 181, 119, 238, 193, 159, 35, 70, 140, 5, 10, 20, 40, 80, 160, 93, 186, 105, 210, 185, 111, 222, 161, 95, 190, 97, 194, 153, 47, 94, 188, 101, 202, 137, 15, 30, 60, 120, 240, 253, 231, 211, 187, 107, 214, 177, 127, 254, 225, 223, 163, 91, 182, 113, 226, 217, 175, 67, 134, 17, 34, 68, 136, 13, 26, 52, 104, 208, 189, 103, 206, 129, 31, 62, 124, 248, 237, 199, 147, 59, 118, 236, 197, 151, 51, 102, 204, 133, 23, 46, 92, 184, 109, 218, 169, 79, 158, 33, 66, 132, 21, 42, 84, 168, 77, 154, 41, 82, 164, 85, 170, 73, 146, 57, 114, 228, 213, 183, 115, 230, 209, 191, 99, 198, 145, 63, 126, 252, 229, 215, 179, 123, 246, 241, 255, 227, 219, 171, 75, 150, 49, 98, 196, 149, 55, 110, 220, 165, 87, 174, 65, 130, 25, 50, 100, 200, 141, 7, 14, 28, 56, 112, 224, 221, 167, 83, 166, 81, 162, 89, 178, 121, 242, 249, 239, 195, 155, 43, 86, 172, 69, 138, 9, 18, 36, 72, 144, 61, 122, 244, 245, 247, 243, 251, 235, 203, 139, 11, 22, 44, 88, 176, 125, 250, 233, 207, 131, 27, 54, 108, 216, 173, 71, 142, 1, 2, 4, 8, 16, 32, 64, 128, 29, 58, 116, 232, 205, 135, 19, 38, 76, 152, 45, 90, 180, 117, 234, 201, 143, 3, 6, 12, 24, 48, 96, 192, 157, 39, 78, 156, 37, 74, 148, 53, 106, 212, 181, 119, 238, 193, 159, 35, 70, 140, 5, 10, 20, 40, 80, 160, 93, 186, 105, 210, 185, 111, 222, 161, 95, 190, 97, 194, 153, 47, 94, 188, 101, 202, 137, 15, 30, 60, 120, 240, 253, 231, 211, 187, 107, 214, 177, 127, 254, 225, 223, 163, 91, 182, 113, 226, 217, 175, 67, 134, 17, 34, 68, 136, 13, 26, 52, 104, 208, 189, 103, 206, 129, 31, 62, 124, 248, 237, 199, 147, 59, 118, 236, 197, 151, 51, 102, 204, 133, 23, 46, 92, 184, 109, 218, 169, 79, 158, 33, 66, 132, 21, 42, 84, 168, 77, 154, 41, 82, 164, 85, 170, 73, 146, 57, 114, 228, 213, 183, 115, 230, 209, 191, 99, 198, 145, 63, 126, 252, 229, 215, 179, 123, 246, 241, 255, 227, 219, 171, 75, 150, 49, 98, 196, 149, 55, 110, 220, 165, 87, 174, 65, 130, 25, 50, 100, 200, 141, 7, 14, 28, 56, 112, 224, 221, 167, 83, 166, 81, 162, 89, 178, 121, 242, 249, 239, 195, 155, 43, 86, 172, 69, 138, 9, 18, 36, 72, 144, 61, 122, 244, 245, 247, 243, 251, 235, 203, 139, 11, 22, 44, 88, 176, 125, 250, 233, 207, 131, 27, 54, 108, 216, 173, 71, 142]
def logN : List Nat := [0, 0, 1, 25, 2, 50, 26, 198, 3, 223, 51, 238, 27, 104, 199, 75, 4, 100, 224, 14, 52, 141, 239, 129, 28, 193, 105, 248, 200, 8, 76, 113, 5, 138, 101, 47, 225, 36, 15, 33, 53, 147, 142, 218, 240, 18, 130, 69, 29, 181, 194, 125, 106, 39, 249, 185, 201, 154, 9, 120, 77, 228, 114, 166, 6, 191, 139, 98, 102, 221, 48, 253, 226, 152, 37, 179, 16, 145, 34, 136, 54, 208, 148, 206, 143, 150, 219, 189, 241, 210, 19, 92, 131, 56, 70, 64, 30, 66, 182, 163, 195, 72, 126, 110, 107, 58, 40, 84, 250, 133, 186, 61, 202, 94, 155, 159, 10, 21, 121, 43, 78, 212, 229, 172, 115, 243, 167, 87, 7, 112, 192, 247, 140, 128, 99, 13, 103, 74, 222, 237, 49, 197, 254, 24, 227, 165, 153, 119, 38, 184, 180, 124, 17, 68, 146, 217, 35, 32, 137, 46, 55, 63, 209, 91, 149, 188, 207, 205, 144, 135, 151, 178, 220, 252, 190, 97, 242, 86, 211, 171, 20, 42, 93, 158, 132, 60, 57, 83, 71, 109, 65, 162, 31, 45, 67, 216, 183, 123, 164, 118, 196, 23, 73, 236, 127, 12, 111, 246, 108, 161, 59, 82, 41, 157, 85, 170, 251, 96, 134, 177, 187, 204, 62, 90, 203, 89, 95, 176, 156, 169, 160, 81, 11, 245, 22, 235, 122, 117, 44, 215, 79, 174, 213, 233, 230, 231, 173, 232, 116, 214, 244, 234, 168, 80, 88, 175]
def expA : Array UInt8 := (expN.map Nat.toUInt8).toArray
def logA : Array UInt8 := (logN.map Nat.toUInt8).toArray
def ko60 (w : Params) : Obj := baObj expA
def ko61 (w : Params) : Obj := baObj logA
def Kf (w : Params) : Frag := [(nat_lit 2, ko2 w), (nat_lit 3, ko3 w), (nat_lit 28, ko28 w), (nat_lit 29, ko29 w), (nat_lit 35, ko35 w), (nat_lit 36, ko36 w), (nat_lit 42, ko42 w), (nat_lit 43, ko43 w), (nat_lit 49, ko49 w), (nat_lit 50, ko50 w), (nat_lit 60, ko60 w), (nat_lit 61, ko61 w), (nat_lit 334, ko334 w), (nat_lit 335, ko335 w), (nat_lit 341, ko341 w), (nat_lit 342, ko342 w)]
def asK : List Nat := [nat_lit 2, nat_lit 3, nat_lit 28, nat_lit 29, nat_lit 35, nat_lit 36, nat_lit 42, nat_lit 43, nat_lit 49, nat_lit 50, nat_lit 60, nat_lit 61, nat_lit 334, nat_lit 335, nat_lit 341, nat_lit 342]
theorem asK_eq : ∀ w : Params, asK = (Kf w).map (·.1) := fun _ => rfl
end Mine
end
/-! Plain -/
section
open PySem PySem.W PyProof.Rows
set_option Elab.async false
set_option maxRecDepth 1000000
namespace Mine
/-- a turn of either loop of _law_product -/
def stepU (a b : Int) (acc k : Int) : Int :=
  if k < 8 then (if (b.fdiv (2 ^ k.toNat)).fmod 2 = 1 then PySem.Builtin.bitXor acc (a * 2 ^ k.toNat) else acc)
  else (if (acc.fdiv (2 ^ k.toNat)).fmod 2 = 1 then PySem.Builtin.bitXor acc (285 * 2 ^ (k - 8).toNat) else acc)
def prodI (a b : Int) : Int := (downKs 14 7).foldl (stepU a b) ((rangeKs 0 8).foldl (stepU a b) 0)

def term (a b k : Nat) : Nat := if b.testBit k then a * 2 ^ k else 0
def red (p c : Nat) : Nat := if c.testBit p then c ^^^ (285 * 2 ^ (p - 8)) else c
def clm (a b : Nat) : Nat := ((((((((0 ^^^ term a b 0) ^^^ term a b 1) ^^^ term a b 2) ^^^ term a b 3) ^^^ term a b 4) ^^^ term a b 5) ^^^ term a b 6) ^^^ term a b 7)
def redAll (c : Nat) : Nat := red 8 (red 9 (red 10 (red 11 (red 12 (red 13 (red 14 c))))))
def prodN (a b : Nat) : Nat := redAll (clm a b)
def xt (b : Nat) : Nat := if b.testBit 7 then (2 * b) ^^^ 285 else 2 * b

theorem term_xor (a b c k : Nat) : term a (b ^^^ c) k = term a b k ^^^ term a c k := by
  unfold term
  rw [Nat.testBit_xor]
  cases b.testBit k <;> cases c.testBit k <;> simp
theorem xac (a b c d : Nat) : (a ^^^ b) ^^^ (c ^^^ d) = (a ^^^ c) ^^^ (b ^^^ d) := by
  rw [Nat.xor_assoc, Nat.xor_assoc, ← Nat.xor_assoc b, Nat.xor_comm b c, Nat.xor_assoc c]
theorem clm_xor (a b c : Nat) : clm a (b ^^^ c) = clm a b ^^^ clm a c := by
  unfold clm
  simp only [term_xor]
  conv => lhs; rw [show (0 : Nat) = 0 ^^^ 0 from rfl]
  simp only [xac, Nat.xor_self]
theorem red_xor (p b c : Nat) : red p (b ^^^ c) = red p b ^^^ red p c := by
  unfold red
  rw [Nat.testBit_xor]
  cases b.testBit p <;> cases c.testBit p <;> simp
  · rw [Nat.xor_assoc]
  · rw [Nat.xor_assoc, Nat.xor_comm c, Nat.xor_assoc]
  · rw [xac]; simp
theorem prodN_xor (a b c : Nat) : prodN a (b ^^^ c) = prodN a b ^^^ prodN a c := by
  unfold prodN redAll
  simp only [clm_xor, red_xor]
theorem two_xor (b c : Nat) : 2 * (b ^^^ c) = (2 * b) ^^^ (2 * c) := by
  have h : ∀ x : Nat, 2 * x = x <<< 1 := fun x => by rw [Nat.shiftLeft_eq]; omega
  rw [h, h, h, Nat.shiftLeft_xor_distrib]
theorem xt_xor (b c : Nat) : xt (b ^^^ c) = xt b ^^^ xt c := by
  unfold xt
  rw [Nat.testBit_xor]
  cases b.testBit 7 <;> cases c.testBit 7 <;> simp [two_xor]
  · rw [Nat.xor_assoc]
  · rw [Nat.xor_assoc, Nat.xor_comm (2 * c), Nat.xor_assoc]
  · rw [xac]; simp
def bitsOf (b : Nat) : Nat := ((((((((0 ^^^ term 1 b 0) ^^^ term 1 b 1) ^^^ term 1 b 2) ^^^ term 1 b 3) ^^^ term 1 b 4) ^^^ term 1 b 5) ^^^ term 1 b 6) ^^^ term 1 b 7)
theorem bits_eq : ∀ b, b < 256 → bitsOf b = b := by decide +kernel
theorem basis {P : Nat → Prop} (h0 : P 0) (hx : ∀ b c, P b → P c → P (b ^^^ c)) (hb : ∀ k, k < 8 → P (2 ^ k)) (b : Nat) (h : b < 256) : P b := by
  have ht : ∀ k, k < 8 → P (term 1 b k) := fun k hk => by
    unfold term
    split
    · rw [Nat.one_mul]; exact hb k hk
    · exact h0
  rw [← bits_eq b h]
  unfold bitsOf
  exact hx _ _ (hx _ _ (hx _ _ (hx _ _ (hx _ _ (hx _ _ (hx _ _ (hx _ _ h0 (ht 0 (by omega))) (ht 1 (by omega))) (ht 2 (by omega))) (ht 3 (by omega))) (ht 4 (by omega))) (ht 5 (by omega))) (ht 6 (by omega))) (ht 7 (by omega))
theorem term_xorl (a a' b k : Nat) : term (a ^^^ a') b k = term a b k ^^^ term a' b k := by
  unfold term
  split
  · rw [← Nat.shiftLeft_eq, ← Nat.shiftLeft_eq, ← Nat.shiftLeft_eq, Nat.shiftLeft_xor_distrib]
  · rfl
theorem clm_xorl (a a' b : Nat) : clm (a ^^^ a') b = clm a b ^^^ clm a' b := by
  unfold clm
  simp only [term_xorl]
  conv => lhs; rw [show (0 : Nat) = 0 ^^^ 0 from rfl]
  simp only [xac, Nat.xor_self]
theorem prodN_xorl (a a' b : Nat) : prodN (a ^^^ a') b = prodN a b ^^^ prodN a' b := by
  unfold prodN redAll
  simp only [clm_xorl, red_xor]
theorem prod_zl (b : Nat) : prodN 0 b = 0 := by
  have h := prodN_xorl 0 0 b
  rwa [Nat.xor_self, Nat.xor_self] at h
theorem prod_zero (a : Nat) : prodN a 0 = 0 := by
  have h := prodN_xor a 0 0
  rwa [Nat.xor_self, Nat.xor_self] at h
theorem prod_xt0 : ∀ j, j < 8 → ∀ k, k < 8 → prodN (2 ^ j) (xt (2 ^ k)) = xt (prodN (2 ^ j) (2 ^ k)) := by decide +kernel
theorem prod_one0 : ∀ j, j < 8 → prodN (2 ^ j) 1 = 2 ^ j := by decide +kernel
theorem xt_zero : xt 0 = 0 := rfl
theorem prod_xt1 (k : Nat) (hk : k < 8) (a : Nat) (ha : a < 256) : prodN a (xt (2 ^ k)) = xt (prodN a (2 ^ k)) := by
  refine basis (P := fun a => prodN a (xt (2 ^ k)) = xt (prodN a (2 ^ k))) ?_ ?_ (fun j hj => prod_xt0 j hj k hk) a ha
  · show prodN 0 _ = xt (prodN 0 _)
    rw [prod_zl, prod_zl, xt_zero]
  · intro b c h1 h2
    show prodN (b ^^^ c) (xt (2 ^ k)) = xt (prodN (b ^^^ c) (2 ^ k))
    rw [prodN_xorl, h1, h2, prodN_xorl, xt_xor]
theorem prod_xt (a : Nat) (ha : a < 256) (b : Nat) (hb : b < 256) : prodN a (xt b) = xt (prodN a b) := by
  refine basis (P := fun b => prodN a (xt b) = xt (prodN a b)) ?_ ?_ (fun k hk => prod_xt1 k hk a ha) b hb
  · show prodN a (xt 0) = xt (prodN a 0)
    rw [xt_zero, prod_zero, xt_zero]
  · intro b c h1 h2
    show prodN a (xt (b ^^^ c)) = xt (prodN a (b ^^^ c))
    rw [xt_xor, prodN_xor, h1, h2, prodN_xor, xt_xor]
theorem prod_one (a : Nat) (ha : a < 256) : prodN a 1 = a := by
  refine basis (P := fun a => prodN a 1 = a) (prod_zl 1) ?_ prod_one0 a ha
  intro b c h1 h2
  show prodN (b ^^^ c) 1 = b ^^^ c
  rw [prodN_xorl, h1, h2]
def eT (i : Nat) : Nat := expN.getD i 0
def lT (i : Nat) : Nat := logN.getD i 0
theorem getD_at {l : List Nat} {i : Nat} (h : i < l.length) : l[i]? = some (l.getD i 0) := by
  simp [List.getD, h]
theorem all_at {l : List Nat} {p : Nat → Bool} (h : l.all p = true) {i : Nat} (hi : i < l.length) : p (l.getD i 0) = true :=
  List.all_eq_true.mp h _ (List.mem_of_getElem? (getD_at hi))
theorem map_at {l m : List Nat} {f : Nat → Nat} (h : l.map f = m) {i : Nat} (hi : i < l.length) : m.getD i 0 = f (l.getD i 0) := by
  subst h
  simp [List.getD, hi]
theorem exp_len : expN.length = 510 := rfl
theorem log_len : logN.length = 256 := rfl
theorem E_lt (i : Nat) (h : i < 510) : eT i < 256 := of_decide_eq_true (all_at (p := fun x => decide (x < 256)) (by decide +kernel) (by rw [exp_len]; exact h))
theorem E_pos (i : Nat) (h : i < 510) : eT i ≠ 0 := of_decide_eq_true (all_at (p := fun x => decide (x ≠ 0)) (by decide +kernel) (by rw [exp_len]; exact h))
theorem L_lt (x : Nat) (h : x < 256) : lT x < 255 := of_decide_eq_true (all_at (p := fun x => decide (x < 255)) (by decide +kernel) (by rw [log_len]; exact h))
theorem exp_half : expN = expN.take 255 ++ expN.take 255 := by decide +kernel
theorem exp_chain : (expN.take 255).map xt = (expN.drop 1).take 255 := by decide +kernel
theorem E_back (i : Nat) (h : 255 ≤ i) (h' : i < 510) : eT i = eT (i - 255) := by
  have hl : (expN.take 255).length = 255 := by rw [List.length_take, exp_len]; rfl
  have e : expN[i]? = expN[i - 255]? := by
    conv => lhs; rw [exp_half]
    rw [List.getElem?_append_right (by omega), hl, List.getElem?_take_of_lt (by omega)]
  show expN[i]?.getD 0 = expN[i - 255]?.getD 0
  rw [e]
theorem E_mod (i : Nat) (h : i < 510) : eT i = eT (i % 255) := by
  by_cases hi : i < 255
  · rw [Nat.mod_eq_of_lt hi]
  · rw [E_back i (by omega) h]
    congr 1
    omega
theorem E_next1 (i : Nat) (h : i < 255) : eT (i + 1) = xt (eT i) := by
  have hl : (expN.take 255).length = 255 := by rw [List.length_take, exp_len]; rfl
  have e := map_at exp_chain (i := i) (by omega)
  have e1 : ((expN.drop 1).take 255).getD i 0 = eT (i + 1) := by
    show ((expN.drop 1).take 255)[i]?.getD 0 = expN[i + 1]?.getD 0
    rw [List.getElem?_take_of_lt h, List.getElem?_drop, Nat.add_comm]
  have e2 : (expN.take 255).getD i 0 = eT i := by
    show (expN.take 255)[i]?.getD 0 = expN[i]?.getD 0
    rw [List.getElem?_take_of_lt h]
  rw [← e1, e, e2]
theorem E_next (i : Nat) (h : i < 255) : eT ((i + 1) % 255) = xt (eT i) := by
  rw [← E_next1 i h, E_mod (i + 1) (by omega)]
theorem log_exp : logN.map eT = 1 :: (List.range 256).drop 1 := by decide +kernel
theorem exp_log : (expN.take 255).map lT = List.range 255 := by decide +kernel
theorem E_L (x : Nat) (h : x < 256) (h0 : x ≠ 0) : eT (lT x) = x := by
  have e := map_at log_exp (i := x) (by rw [log_len]; exact h)
  rw [show eT (lT x) = eT (logN.getD x 0) from rfl, ← e]
  obtain ⟨y, rfl⟩ : ∃ y, x = y + 1 := ⟨x - 1, by omega⟩
  show ((List.range 256).drop 1)[y]?.getD 0 = y + 1
  rw [List.getElem?_drop, List.getElem?_range (by omega), Nat.add_comm]
  rfl
theorem L_E (i : Nat) (h : i < 255) : lT (eT i) = i := by
  have hl : (expN.take 255).length = 255 := by rw [List.length_take, exp_len]; rfl
  have e := map_at exp_log (i := i) (by omega)
  have e2 : (expN.take 255).getD i 0 = eT i := by
    show (expN.take 255)[i]?.getD 0 = expN[i]?.getD 0
    rw [List.getElem?_take_of_lt h]
  rw [e2] at e
  rw [← e]
  show (List.range 255)[i]?.getD 0 = i
  rw [List.getElem?_range h]
  rfl
theorem prod_EE (i : Nat) (hi : i < 255) (j : Nat) (hj : j < 255) : prodN (eT i) (eT j) = eT ((i + j) % 255) := by
  induction j with
  | zero =>
    rw [show eT 0 = 1 from rfl, prod_one _ (E_lt i (by omega)), Nat.add_zero, Nat.mod_eq_of_lt hi]
  | succ j ih =>
    have h1 := E_next j (by omega)
    rw [Nat.mod_eq_of_lt hj] at h1
    rw [h1, prod_xt _ (E_lt i (by omega)) _ (E_lt j (by omega)), ih (by omega)]
    have h2 := E_next ((i + j) % 255) (Nat.mod_lt _ (by omega))
    rw [← h2]
    congr 1
    omega
/-- the product by the tables -/
theorem prodN_tab (a b : Nat) (ha : a < 256) (hb : b < 256) : prodN a b = if a = 0 ∨ b = 0 then 0 else eT ((lT a + lT b) % 255) := by
  split
  · next h =>
    rcases h with h | h
    · subst h; exact prod_zl b
    · subst h; exact prod_zero a
  · next h =>
    have ha0 : a ≠ 0 := fun e => h (.inl e)
    have hb0 : b ≠ 0 := fun e => h (.inr e)
    have := prod_EE (lT a) (L_lt a ha) (lT b) (L_lt b hb)
    rwa [E_L a ha ha0, E_L b hb hb0] at this
theorem prodN_lt (a b : Nat) (ha : a < 256) (hb : b < 256) : prodN a b < 256 := by
  rw [prodN_tab a b ha hb]
  split
  · omega
  · exact E_lt _ (by have := Nat.mod_lt (lT a + lT b) (show 0 < 255 by omega); omega)

/-! ints -/
theorem xor_add (x : Nat) : ∀ y : Nat, (x ^^^ y) + 2 * (x &&& y) = x + y := by
  induction x using Nat.strongRecOn with
  | _ x ih =>
    intro y
    by_cases hx : x = 0
    · subst hx; simp
    · have h := ih (x / 2) (by omega) (y / 2)
      have e1 := Nat.xor_div_two (a := x) (b := y)
      have e2 := Nat.and_div_two (a := x) (b := y)
      have e3 := Nat.xor_mod_two_eq_one (a := x) (b := y)
      have e4 := Nat.and_mod_two_eq_one (a := x) (b := y)
      rw [← e1, ← e2] at h
      generalize x ^^^ y = X at *
      generalize x &&& y = Y at *
      omega
theorem bx (x y : Nat) : PySem.Builtin.bitXor (x : Int) (y : Int) = ((x ^^^ y : Nat) : Int) := by
  have h := xor_add x y
  rw [bitXor_and, bitAnd_pp (by omega) (by omega)]
  simp only [Int.toNat_natCast]
  omega
theorem bitI (b i : Nat) : ((b : Int).fdiv (2 ^ i)).fmod 2 = 1 ↔ b.testBit i = true := by
  rw [Nat.testBit_eq_decide_div_mod_eq, decide_eq_true_eq]
  have e : ((2 : Int) ^ i) = ((2 ^ i : Nat) : Int) := by simp
  rw [e]
  generalize 2 ^ i = z
  rw [Int.fdiv_eq_ediv_of_nonneg _ (by omega), Int.fmod_eq_emod_of_nonneg _ (by omega), ← Int.natCast_ediv]
  omega
theorem stepU_lo (a b c i : Nat) (hi : i < 8) : stepU a b c i = ((c ^^^ term a b i : Nat) : Int) := by
  unfold stepU term
  rw [if_pos (by omega), Int.toNat_natCast]
  by_cases h : b.testBit i = true
  · rw [if_pos ((bitI b i).mpr h), if_pos h, show (a : Int) * 2 ^ i = ((a * 2 ^ i : Nat) : Int) by simp, bx]
  · rw [if_neg (fun q => h ((bitI b i).mp q)), if_neg h, Nat.xor_zero]
theorem stepU_hi (a b c i : Nat) (hi : 8 ≤ i) : stepU a b c i = (red i c : Nat) := by
  unfold stepU red
  rw [if_neg (by omega), Int.toNat_natCast, show ((i : Int) - 8).toNat = i - 8 by omega]
  by_cases h : c.testBit i = true
  · rw [if_pos ((bitI c i).mpr h), if_pos h, show (285 : Int) * 2 ^ (i - 8) = ((285 * 2 ^ (i - 8) : Nat) : Int) by simp, bx]
  · rw [if_neg (fun q => h ((bitI c i).mp q)), if_neg h]
theorem prodI_nat (a b : Nat) : prodI a b = (prodN a b : Nat) := by
  show stepU a b (stepU a b (stepU a b (stepU a b (stepU a b (stepU a b (stepU a b (stepU a b (stepU a b (stepU a b (stepU a b (stepU a b (stepU a b (stepU a b (stepU a b ((0 : Nat) : Int) ((0 : Nat) : Int)) ((1 : Nat) : Int)) ((2 : Nat) : Int)) ((3 : Nat) : Int)) ((4 : Nat) : Int)) ((5 : Nat) : Int)) ((6 : Nat) : Int)) ((7 : Nat) : Int)) ((14 : Nat) : Int)) ((13 : Nat) : Int)) ((12 : Nat) : Int)) ((11 : Nat) : Int)) ((10 : Nat) : Int)) ((9 : Nat) : Int)) ((8 : Nat) : Int) = _
  rw [stepU_lo _ _ _ 0 (by omega), stepU_lo _ _ _ 1 (by omega), stepU_lo _ _ _ 2 (by omega), stepU_lo _ _ _ 3 (by omega), stepU_lo _ _ _ 4 (by omega), stepU_lo _ _ _ 5 (by omega), stepU_lo _ _ _ 6 (by omega), stepU_lo _ _ _ 7 (by omega),
    stepU_hi _ _ _ 14 (by omega), stepU_hi _ _ _ 13 (by omega), stepU_hi _ _ _ 12 (by omega), stepU_hi _ _ _ 11 (by omega), stepU_hi _ _ _ 10 (by omega), stepU_hi _ _ _ 9 (by omega), stepU_hi _ _ _ 8 (by omega)]
  rfl
/-- items of the tables, as the walk tells them -/
theorem arr_at (l : List Nat) (h : ∀ i, i < l.length → l.getD i 0 < 256) (i : Nat) (hi : i < l.length) : ((((l.map Nat.toUInt8).toArray).getD i 0).toNat : Nat) = l.getD i 0 := by
  have e : ((l.map Nat.toUInt8).toArray).getD i 0 = Nat.toUInt8 (l.getD i 0) := by
    simp [Array.getD, List.getD, hi]
  rw [e]
  show (UInt8.ofNat _).toNat = _
  rw [UInt8.toNat_ofNat']
  exact Nat.mod_eq_of_lt (h i hi)
theorem expA_at (i : Nat) (h : i < 510) : ((expA.getD i 0).toNat : Nat) = eT i :=
  arr_at expN (fun j hj => E_lt j (by rw [exp_len] at hj; exact hj)) i (by rw [exp_len]; exact h)
theorem logA_at (i : Nat) (h : i < 256) : ((logA.getD i 0).toNat : Nat) = lT i :=
  arr_at logN (fun j hj => by have := L_lt j (by rw [log_len] at hj; exact hj); show lT j < 256; omega) i (by rw [log_len]; exact h)
end Mine
end
/-! Tabs -/
section
open PySem PySem.W PyProof.Rows
set_option Elab.async false
set_option maxRecDepth 1000000
set_option maxHeartbeats 0
namespace Mine
theorem nx_xt : ∀ x : Nat, x < 256 → nx (bA (x : Int)) (x : Int) = ((xt x : Nat) : Int) := by decide +kernel
theorem x_at : ∀ m, m ≤ 254 → (lsAt m).x = ((eT (m + 1) : Nat) : Int)
  | 0, _ => rfl
  | m + 1, h => by
    have ih := x_at m (by omega)
    show nx (bA (lsAt m).x) (lsAt m).x = _
    rw [ih, nx_xt _ (E_lt (m + 1) (by omega)), E_next1 (m + 1) (by omega)]
theorem E_at : ∀ m, m ≤ 254 → ∀ j, j < 510 → (lsAt m).E[j]? = some (if j ≤ m then (eT j).toUInt8 else 0)
  | 0, _, j, hj => by
    show E0[j]? = _
    unfold E0
    rw [Array.getElem?_setIfInBounds]
    by_cases h : j = 0
    · subst h; rfl
    · rw [if_neg (show ¬ (0 : Int).toNat = j from fun e => h e.symm), if_neg (by omega), Array.getElem?_replicate, if_pos hj]
  | m + 1, h, j, hj => by
    have ih := E_at m (by omega) j hj
    have hx := x_at m (by omega)
    have hs : (lsAt m).E.size = 510 := (lsAt_ok m).E
    show ((lsAt m).E.setIfInBounds (m + 1) (lsAt m).x.toNat.toUInt8)[j]? = _
    rw [Array.getElem?_setIfInBounds]
    by_cases e : m + 1 = j
    · rw [if_pos e, if_pos (by omega), if_pos (by omega), hx, Int.toNat_natCast, e]
    · rw [if_neg e, ih]
      by_cases q : j ≤ m
      · rw [if_pos q, if_pos (by omega)]
      · rw [if_neg q, if_neg (by omega)]
theorem L_at : ∀ m, m ≤ 254 → ∀ j, j < 256 → (lsAt m).L[j]? = some (if j ≠ 0 ∧ lT j ≤ m then (lT j).toUInt8 else 0)
  | 0, _, j, hj => by
    have z : (lsAt 0).L[j]? = some 0 := by
      show L0[j]? = _
      unfold L0
      rw [Array.getElem?_setIfInBounds]
      by_cases h : j = 1
      · subst h; rfl
      · rw [if_neg (show ¬ (1 : Int).toNat = j from fun e => h e.symm), Array.getElem?_replicate, if_pos hj]
    rw [z]
    by_cases q : j ≠ 0 ∧ lT j ≤ 0
    · rw [if_pos q, show lT j = 0 by omega]; rfl
    · rw [if_neg q]
  | m + 1, h, j, hj => by
    have ih := L_at m (by omega) j hj
    have hx := x_at m (by omega)
    have hs : (lsAt m).L.size = 256 := (lsAt_ok m).L
    show ((lsAt m).L.setIfInBounds (lsAt m).x.toNat (m + 1).toUInt8)[j]? = _
    rw [Array.getElem?_setIfInBounds, hx, Int.toNat_natCast]
    by_cases hm : m = 254
    · omega
    have hl : lT (eT (m + 1)) = m + 1 := L_E (m + 1) (by omega)
    have hp := E_pos (m + 1) (by omega)
    by_cases e : eT (m + 1) = j
    · rw [if_pos e, if_pos (by omega), ← e, hl, if_pos ⟨hp, Nat.le_refl _⟩]
    · rw [if_neg e, ih]
      by_cases q : j ≠ 0 ∧ lT j ≤ m
      · rw [if_pos q, if_pos ⟨q.1, by omega⟩]
      · rw [if_neg q, if_neg]
        intro q'
        have h1 : lT j = m + 1 := by
          have : ¬ lT j ≤ m := fun r => q ⟨q'.1, r⟩
          omega
        exact e (by rw [← h1, E_L j hj q'.1])
theorem u8_back (n : Nat) : (((Nat.toUInt8 n).toNat : Int)).toNat.toUInt8 = n.toUInt8 := by
  rw [Int.toNat_natCast]
  exact UInt8.ofNat_toNat
theorem eOf_at {E : Array UInt8} {c i : Nat} (hs : E.size = 510) (h1 : 255 ≤ i) (h2 : i < 510) (hc : c = i) (h : ∀ j, j < 510 → E[j]? = some (if j < c then (eT j).toUInt8 else 0)) :
    ∀ j, j < 510 → (eOf E (i : Int))[j]? = some (if j < c + 1 then (eT j).toUInt8 else 0) := by
  intro j hj
  subst hc
  unfold eOf
  have hg : E.getD ((c : Int) - 255).toNat 0 = (eT (c - 255)).toUInt8 := by
    have := h (c - 255) (by omega)
    rw [if_pos (by omega)] at this
    rw [show ((c : Int) - 255).toNat = c - 255 by omega]
    simp [Array.getD_eq_getD_getElem?, this]
  rw [Int.toNat_natCast, hg, u8_back, ← E_back c h1 h2, Array.getElem?_setIfInBounds]
  by_cases e : c = j
  · rw [if_pos e, if_pos (by omega), if_pos (by omega), e]
  · rw [if_neg e, h j hj]
    by_cases q : j < c
    · rw [if_pos q, if_pos (by omega)]
    · rw [if_neg q, if_neg (by omega)]
theorem e2_at : ∀ m, m ≤ 254 → ∀ j, j < 510 → (e2At m)[j]? = some (if j < 256 + m then (eT j).toUInt8 else 0)
  | 0, _ => by
    refine eOf_at (c := 255) (i := 255) (lsAt_ok 254).E (by omega) (by omega) rfl fun j hj => ?_
    rw [E_at 254 (by omega) j hj]
    by_cases q : j ≤ 254
    · rw [if_pos q, if_pos (by omega)]
    · rw [if_neg q, if_neg (by omega)]
  | m + 1, h => eOf_at (c := 256 + m) (i := 256 + m) (e2_size m) (by omega) (by omega) rfl (e2_at m (by omega))
theorem arr_get (l : List Nat) (j : Nat) (h : j < l.length) : ((l.map Nat.toUInt8).toArray)[j]? = some (l.getD j 0).toUInt8 := by
  rw [List.getElem?_toArray, List.getElem?_map, getD_at h]
  rfl
theorem EF_eq : EF = expA := by
  apply Array.ext_getElem?
  intro j
  by_cases hj : j < 510
  · rw [e2_at 254 (by omega) j hj, if_pos (by omega)]
    exact (arr_get expN j (by rw [exp_len]; exact hj)).symm
  · rw [Array.getElem?_eq_none (by rw [e2_size 254]; omega), Array.getElem?_eq_none]
    show (expN.map Nat.toUInt8).toArray.size ≤ j
    rw [List.size_toArray, List.length_map, exp_len]
    omega
theorem LF_eq : LF = logA := by
  apply Array.ext_getElem?
  intro j
  by_cases hj : j < 256
  · rw [L_at 254 (by omega) j hj]
    have e := arr_get logN j (by rw [log_len]; exact hj)
    have hl := L_lt j hj
    show _ = ((logN.map Nat.toUInt8).toArray)[j]?
    rw [e]
    by_cases q : j = 0
    · subst q; rfl
    · rw [if_pos ⟨q, by omega⟩]; rfl
  · rw [Array.getElem?_eq_none (by rw [(lsAt_ok 254).L]; omega), Array.getElem?_eq_none]
    show (logN.map Nat.toUInt8).toArray.size ≤ j
    rw [List.size_toArray, List.length_map, log_len]
    omega
end Mine
end
/-! Looks -/
section
open PySem PySem.W PyProof.Rows
set_option Elab.async false
set_option maxRecDepth 1000000
set_option maxHeartbeats 0
namespace Mine
def mkH (F : Nat → Obj) (n : Nat) (life : Life) : Heap := ⟨((List.range n).map F).toArray, life⟩
def FU (fx : List Obj) (lo : List (Nat × Obj)) (J : Nat → Obj) (a : Nat) : Obj := match look fx lo a with
  | some o => o
  | none => J a
theorem objs_of_get {h : Heap} {a : Nat} {o : Obj} (e : h.get? a = some o) : h.objs[a]? = some o := by
  unfold Heap.get? at e
  split at e
  · cases e
  · exact e
theorem heap_eq {fx : List Obj} {B : Nat} {h : Heap} {U : USt} (D : Rep fx B h U) (hf : U.fr = none) (hB : U.n ≤ B) : h = mkH (FU fx U.lo (fun a => h.objs.getD a default)) U.n h.life := by
  have hz : h.objs.size = U.n := by have := D.size; rw [hf] at this; exact this
  have : h.objs = ((List.range U.n).map (FU fx U.lo (fun a => h.objs.getD a default))).toArray := by
    apply Array.ext_getElem?
    intro i
    rw [List.getElem?_toArray (xs := (List.range U.n).map (FU fx U.lo (fun a => h.objs.getD a default))), List.getElem?_map]
    by_cases hi : i < U.n
    · rw [List.getElem?_range hi]
      have hb : i < h.objs.size := by omega
      show _ = some (FU fx U.lo _ i)
      unfold FU
      cases q : look fx U.lo i with
      | some o => exact objs_of_get (D.low i o (by omega) q)
      | none => simp [Array.getD, hb]
    · rw [List.getElem?_eq_none (by rw [List.length_range]; omega), Array.getElem?_eq_none (by omega)]
      rfl
  obtain ⟨os, life⟩ := h
  show Heap.mk _ _ = Heap.mk _ _
  exact congrArg (Heap.mk · life) this
noncomputable def hF (w : World) (os : OsState) (E L : Array UInt8) (J : Nat → Obj) : Heap := mkH (FU (fxM w os) (UF w os E L).lo J) 343 (boot_heap w.params).life
noncomputable def sF (w : World) (os : OsState) (E L : Array UInt8) (J : Nat → Obj) : Shared := ⟨hF w os E L J, #[], boot_drawn, 10507, os⟩
theorem look1 (b : Bool) (w : World) (os : OsState) (E L : Array UInt8) (J : Nat → Obj) :
    (staticsOk (importedModules P.main.body) (boot_heap (Wb w b).params) (hF (Wb w b) os E L J) && namesBound P (hF (Wb w b) os E L J) && gensDone (sF (Wb w b) os E L J) && laidKept (boot_heap (Wb w b).params) (hF (Wb w b) os E L J)) = true := by
  cases b <;> kernel_rfl
theorem look2 (b : Bool) (w : World) (os : OsState) (J : Nat → Obj) :
    asK.map (hF (Wb w b) os expA logA J).get? = (Kf (Wb w b).params).map fun p => some p.2 := by
  cases b <;> kernel_rfl
abbrev Xt0 : Shared → Bool := fun s => xlAt qv lvL s && recOk [] s
theorem look3 (b : Bool) (w : World) (os : OsState) (E L : Array UInt8) (J : Nat → Obj) :
    openSeen qv looseL (importedModules P.main.body) Xt0 true (sF (Wb w b) os E L J) = openGood qv looseL := by
  rw [Fast.te4187177175401517315]
  cases b <;> kernel_rfl
end Mine
end
/-! Left -/
section
open PySem PySem.W PyProof.Rows
set_option Elab.async false
set_option maxRecDepth 1000000
set_option maxHeartbeats 0
namespace Mine
theorem fence_ok : ∀ s, fenceModules? P s = some s := fun s => by
  unfold fenceModules?
  rfl
theorem opening_ok : opening P = plainProg P.main.scope.names := by kernel_rfl
theorem sizes (w : World) : ((boot_heap w.params).isNs mainGlobals, (boot_heap w.params).objs.size, (boot_heap w.params).nsMap mainGlobals "__annotations__") = (true, 11, ann) := by kernel_rfl
noncomputable abbrev HK : Hook := kHook Kf asK asK_eq
theorem UF_facts (b : Bool) (w : World) (os : OsState) (E L : Array UInt8) : (UF (Wb w b) os E L).fr = none ∧ (UF (Wb w b) os E L).n = 343 := by
  obtain ⟨r, hr, hv⟩ := Option.map_eq_some_iff.mp (phase3 b w os E L)
  rw [UF_eq hr]
  simp only [Prod.mk.injEq] at hv
  exact ⟨hv.2.2.2.2.2.2.2.2, hv.2.2.2.2.2.2.1⟩
theorem asleep0 (w : World) (os : OsState) : (s0 w os).asleep := ⟨rfl, rfl⟩
theorem life_run {w : World} {os : OsState} {s : Shared} (r : topRun treeTable P w 11 ann 3000000 (s0 w os) (topStub P) = some s) : s.heap.life = (boot_heap w.params).life := by
  rw [← table_eq_tree] at r
  exact (topRun_spec _ _ _ _ (asleep0 w os) r).2.1
theorem heap_last {h : Heap} {U : USt} {fx : List Obj} {life : Life} (D : Rep fx 100000 h U) (hf : U.fr = none) (hn : U.n = 343) (hl : h.life = life) : h = mkH (FU fx U.lo (fun a => h.objs.getD a default)) 343 life := by
  have := heap_eq D hf (by omega)
  rw [hn, hl] at this
  exact this
theorem top_last (b : Bool) (w : World) (os : OsState) : ∃ J, topRun treeTable P (Wb w b) 11 ann 3000000 (s0 (Wb w b) os) (topStub P) = some (sF (Wb w b) os expA logA J) := by
  obtain ⟨h, D, r⟩ := top_runs b w os
  have hl := life_run r
  obtain ⟨hf, hn⟩ := UF_facts b w os EF LF
  have e := heap_last D hf hn hl
  rw [EF_eq, LF_eq] at e
  refine ⟨fun a => h.objs.getD a default, r.trans ?_⟩
  show some (Shared.mk h #[] boot_drawn 10507 os) = some (Shared.mk (hF (Wb w b) os expA logA fun a => h.objs.getD a default) #[] boot_drawn 10507 os)
  exact congrArg (fun x => some (Shared.mk x #[] boot_drawn 10507 os)) e
theorem left_gen {w : World} {os : OsState} {s : Shared} {α β : Type} {f : Shared → α} {g : Shared → β} {x : α} {y : β} (r : topRun treeTable P w 11 ann 3000000 (s0 w os) (topStub P) = some s)
    (l1 : (staticsOk (importedModules P.main.body) (boot_heap w.params) s.heap && namesBound P s.heap && gensDone s && laidKept (boot_heap w.params) s.heap) = true) (l2 : f s = x) (l3 : g s = y) :
    (topFrom treeTable P w 3000000 (s0 w os)).map (fun s => (f s, g s)) = some (x, y) := by
  have z := sizes w
  have z1 : (boot_heap w.params).isNs mainGlobals = true := congrArg (fun q => q.1) z
  have z2 : (boot_heap w.params).objs.size = 11 := congrArg (fun q => q.2.1) z
  have z3 : (boot_heap w.params).nsMap mainGlobals "__annotations__" = ann := congrArg (fun q => q.2.2) z
  have t : topFrom treeTable P w 3000000 (s0 w os) = some s := by
    show (match (boot_heap w.params).isNs mainGlobals && (0 == 0) with
      | true => (topRun treeTable P w (boot_heap w.params).objs.size ((boot_heap w.params).nsMap mainGlobals "__annotations__") 3000000 (s0 w os) (topStub P)).bind fun s₁ => match staticsOk (importedModules P.main.body) (boot_heap w.params) s₁.heap && namesBound P s₁.heap && gensDone s₁ && laidKept (boot_heap w.params) s₁.heap with
          | true => some s₁
          | false => none
      | false => none) = some s
    rw [z1, z2, z3, r]
    show (match staticsOk (importedModules P.main.body) (boot_heap w.params) s.heap && namesBound P s.heap && gensDone s && laidKept (boot_heap w.params) s.heap with | true => some s | false => none) = some s
    rw [l1]
  rw [t]
  show some (f s, g s) = some (x, y)
  rw [l2, l3]
theorem left_b (b : Bool) (w : World) : (openEnds treeTable P (Wb w b) 3000000).map (fun s => (openSeen qv looseL (importedModules P.main.body) Xt0 true s, HK.obs s)) = some (openGood qv looseL, HK.val (Wb w b)) := by
  obtain ⟨⟨h, gs, d, k, os⟩, e, e'⟩ := Option.map_eq_some_iff.mp (boot_open (p := P) (N := 3000000) opening_ok (by decide) fence_ok (Wb w b))
  obtain ⟨rfl, rfl, rfl, rfl⟩ : h = boot_heap (Wb w b).params ∧ gs = #[] ∧ d = boot_drawn ∧ k = boot_toks := by simpa using e'
  obtain ⟨J, r⟩ := top_last b w os
  unfold openEnds
  rw [e]
  exact left_gen r (look1 b w os expA logA J) (look3 b w os expA logA J) (look2 b w os J)
theorem left : LeftO P qv looseL Xt0 HK.obs HK.val 3000000 := fun w => by
  have e := World.withFollow_self w row
  have h := left_b (w.params.followText row) w
  unfold Wb at h
  rw [e] at h
  exact h
end Mine
end
/-! Hd -/
section
open PySem PySem.W PyProof.Rows
set_option Elab.async false
set_option maxRecDepth 1000000
set_option maxHeartbeats 0
namespace Mine
abbrev dLaw : DefRec := { name := Str.ofString "law", params := pr12, body := bd12, scope := sc12, pos := ⟨51, 0, 69, 36⟩ }
theorem hd (walk : WalkO qv looseL (XL qv lvL) (kHook Kf asK asK_eq).says PySem.Challenge.rw_md0022_01.row.toRowW dLaw [] fun f vs => PySem.call f vs) : PySem.Challenge.rw_md0022_01.Holds := by
  w_on
  o_law
  refine holds_open (q := qv) (loose := looseL) (Xt := Xt0) (XP := XL qv lvL) (Yf := Hook.obs (kHook Kf asK asK_eq)) (Ya := Hook.val (kHook Kf asK asK_eq)) (YP := Hook.says (kHook Kf asK asK_eq)) (N := 3000000) left (Hook.of (kHook Kf asK asK_eq)) (Hook.keeps (kHook Kf asK asK_eq)) (fun s e => xl_of s (Bool.and_eq_true_iff.mp e).1) XL.keeps (by rfl) (by rfl) (by rfl) (fun s e => recFacts_of (Bool.and_eq_true_iff.mp e).2) (by rfl) (by first | assumption | decide +kernel) (by decide +kernel) ⟨rfl, rfl, rfl, rfl, rfl, by decide +kernel⟩ ?hw walk
  w_witness2
end Mine
end
/-! BaRule -/
section
open PySem PySem.W PyProof.Rows
set_option Elab.async false
set_option maxRecDepth 1000000
namespace Mine
theorem slot_ba_getitem : Slot "bytearray" "__getitem__" "bytearray.__getitem__" :=
  .of (owner := "bytearray") (n := "__getitem__") (by rw [typeLookup_type, builtinLookup_eq_fast]; kernel_rfl) (by decide +kernel) (by decide +kernel) (by decide +kernel)
    (by first | exact .inl (by decide +kernel) | exact .inr (by decide +kernel)) (by rw [isSubtype_type]; kernel_rfl)
theorem entry_ba_getitem : entryFor table "bytearray.__getitem__" = some Builtin.«bytearray.__getitem__» := by rw [table_eq_tree]; exact ent_get
theorem args_ba_getitem (a b : Value) : argsOk "bytearray.__getitem__" ⟨[a, b], []⟩ := by unfold argsOk; kernel_rfl
section
variable {prog : Program} {w : World} {A : Around} {E : Value → Shared → Prop} {s : Shared} {a : Addr} {b : Array UInt8} {m : Nat} {sl : Array (Option Value)}
theorem ba_type (hg : s.heap.get? a = some ⟨.type "bytearray", none, .bytearray b m, sl⟩) : s.TypeIs (.ref a) "bytearray" := ⟨_, hg, rfl⟩
theorem ba_getItem {k : Int} {t : Tok} {Q : Value → Shared → Prop} (hg : s.heap.get? a = some ⟨.type "bytearray", none, .bytearray b m, sl⟩) (h0 : 0 ≤ k) (h1 : k < b.size) (h2 : b.size ≤ 65536)
    (h : Q (.int (b.getD k.toNat 0).toNat s.toks) { s with toks := s.toks + 1 }) : wpAny (model prog w) A (getItem (.ref a) (.int k t)) Q E s := by
  have hT := ba_type hg
  unfold getItem
  try with_reducible refine wpAny_holding ?_
  first | refine wpAny_bind (wpAny_pure ?_) | skip
  refine wpAny_bind (wpAny_sequenceKey hT (by decide) ?_)
  refine wpAny_bind (wpAny_callSpecial?_slot (name := Str.ofString "__getitem__") hT slot_ba_getitem
    (wpAny_call_entry slot_ba_getitem hT entry_ba_getitem ?_ (args_ba_getitem _ _)))
  obtain ⟨R, e⟩ := get_tree a k t h0 (by omega)
  rw [e]
  have hb : b[k.toNat]? = some (b.getD k.toNat 0) := by
    have : k.toNat < b.size := by omega
    simp [Array.getD, this]
  refine wpAny_bind ?_
  show wpAny _ _ (PySem.Builtin.Bytes.payload (.ref a)) _ _ s
  unfold PySem.Builtin.Bytes.payload PySem.Builtin.Bytes.payload?
  refine wpAny_bind (wpAny_bind (wpAny_load hg ?_))
  refine wpAny_pure ?_
  refine wpAny_pure ?_
  rw [seq_of h0 h1, Option.bind_some, hb]
  refine wpAny_bind (wpAny_mkInt ?_)
  exact wpAny_pure ⟨_, rfl, wpAny_pure h⟩
theorem ba_tail {K : Frag} {h₀ : Heap} {L : Addr} {ml : Str → Option Value} {value slice : Expr} {k : Int} {u : Tok} {Q : Value → Shared → Prop} (F : Fr h₀ L s.heap ml) (X₀ : K.In h₀) (hl : K.lookup a = some ⟨.type "bytearray", none, .bytearray b m, sl⟩)
    (h0 : 0 ≤ k) (h1 : k < b.size) (h2 : b.size ≤ 65536) (h : Q (.int (b.getD k.toNat 0).toNat s.toks) { s with toks := s.toks + 1 })
    (hs : subscripted slice false (.ref a) (.int k u) = operate [.ref a, .int k u] (getItem (.ref a) (.int k u)) := by with_unfolding_all rfl) :
    wpAny (model prog w) A (subscriptTail value slice (.ref a) (.int k u)) Q E s :=
  have hg := X₀.keeps F.keep _ _ hl
  tail_any (ba_type hg) slot_ba_getitem.lookup (ba_getItem hg h0 h1 h2 h) hs
end
end Mine
end
/-! Plain2 -/
section
open PySem PySem.W PyProof.Rows
set_option Elab.async false
set_option maxRecDepth 1000000
namespace Mine
/-- the product, of octets alone -/
def pC (x y : Int) : Int := if 0 ≤ x ∧ x < 256 ∧ 0 ≤ y ∧ y < 256 then prodI x y else 0
/-- the inverse by the tables -/
def iC (x : Int) : Int := if 0 ≤ x ∧ x < 256 then (eT (255 - (lT x.toNat : Int)).toNat : Nat) else 0
/-- the power by the tables -/
def wC (x p : Int) : Int := if 0 ≤ x ∧ x < 256 then (eT (((lT x.toNat : Int) * p).fmod 255).toNat : Nat) else 0
/-- the power by products -/
def pw (f : Int) : Nat → Int
  | 0 => 1
  | n + 1 => pC (pw f n) f
theorem nat_of {x : Int} (h : 0 ≤ x ∧ x < 256) : ∃ n : Nat, x = n ∧ n < 256 := ⟨x.toNat, by omega, by omega⟩
theorem pC_nat (a b : Nat) (ha : a < 256) (hb : b < 256) : pC a b = (prodN a b : Nat) := by
  unfold pC
  rw [if_pos ⟨by omega, by omega, by omega, by omega⟩, prodI_nat]
theorem pC_of {x y : Int} (h : 0 ≤ x ∧ x < 256 ∧ 0 ≤ y ∧ y < 256) : pC x y = prodI x y := if_pos h
theorem pC_tab {x y : Int} (h : 0 ≤ x ∧ x < 256 ∧ 0 ≤ y ∧ y < 256) : pC x y = if x = 0 ∨ y = 0 then 0 else ((eT ((lT x.toNat + lT y.toNat) % 255) : Nat) : Int) := by
  obtain ⟨a, rfl, ha⟩ := nat_of ⟨h.1, h.2.1⟩
  obtain ⟨b, rfl, hb⟩ := nat_of ⟨h.2.2.1, h.2.2.2⟩
  rw [pC_nat a b ha hb, prodN_tab a b ha hb, Int.toNat_natCast, Int.toNat_natCast]
  by_cases hz : a = 0 ∨ b = 0
  · rw [if_pos hz, if_pos (by omega)]; rfl
  · rw [if_neg hz, if_neg (by omega)]
theorem pC_fact (x y : Int) : 0 ≤ pC x y ∧ pC x y < 256 ∧ pC x y = pC y x := by
  by_cases h : 0 ≤ x ∧ x < 256 ∧ 0 ≤ y ∧ y < 256
  · rw [pC_tab h, pC_tab (x := y) (y := x) ⟨h.2.2.1, h.2.2.2, h.1, h.2.1⟩]
    by_cases hz : x = 0 ∨ y = 0
    · rw [if_pos hz, if_pos (by omega)]; omega
    · rw [if_neg hz, if_neg (by omega), Nat.add_comm (lT y.toNat)]
      have := E_lt ((lT x.toNat + lT y.toNat) % 255) (by omega)
      omega
  · unfold pC
    rw [if_neg h, if_neg (by omega)]
    omega
theorem fmodN (a : Nat) : (((a : Nat) : Int).fmod 255).toNat = a % 255 := by
  rw [Int.fmod_eq_emod_of_nonneg _ (by omega)]
  omega
/-! the ways of gf_mul -/
theorem mul_z1 {x y : Int} (h : x = 0) : 0 = pC x y := by
  by_cases q : 0 ≤ x ∧ x < 256 ∧ 0 ≤ y ∧ y < 256
  · rw [pC_tab q, if_pos (.inl h)]
  · unfold pC; rw [if_neg q]
theorem mul_z2 {x y : Int} (h : y = 0) : 0 = pC x y := by
  by_cases q : 0 ≤ x ∧ x < 256 ∧ 0 ≤ y ∧ y < 256
  · rw [pC_tab q, if_pos (.inr h)]
  · unfold pC; rw [if_neg q]
theorem mul_nz {x y v a b : Int} (q : 0 ≤ x ∧ x < 256 ∧ 0 ≤ y ∧ y < 256) (hx : x ≠ 0) (hy : y ≠ 0) (hv : v = (eT ((a + b).fmod 255).toNat : Nat)) (ha : a = (lT x.toNat : Nat)) (hb : b = (lT y.toNat : Nat)) : v = pC x y := by
  rw [pC_tab q, if_neg (by omega), hv, ha, hb, ← Int.natCast_add, fmodN]
/-! the inverse -/
theorem iC_of {x v a : Int} (q : 0 ≤ x ∧ x < 256) (hv : v = (eT (255 - a).toNat : Nat)) (ha : a = (lT x.toNat : Nat)) : v = iC x := by
  unfold iC
  rw [if_pos q, hv, ha]
theorem iC_tab {x : Int} (q : 0 ≤ x ∧ x < 256) : ∃ i : Nat, i = (255 - lT x.toNat) % 255 ∧ i < 255 ∧ iC x = (eT i : Nat) := by
  have hl := L_lt x.toNat (by omega)
  refine ⟨(255 - lT x.toNat) % 255, rfl, by omega, ?_⟩
  unfold iC
  rw [if_pos q, show (255 - (lT x.toNat : Int)).toNat = 255 - lT x.toNat by omega, E_mod _ (by omega)]
theorem iC_fact (x : Int) : 0 ≤ iC x ∧ iC x < 256 ∧ (0 < x ∧ x < 256 → 0 < iC x ∧ pC x (iC x) = 1) := by
  by_cases q : 0 ≤ x ∧ x < 256
  · obtain ⟨i, hi, hi', e⟩ := iC_tab q
    have h1 := E_lt i (by omega)
    have h2 := E_pos i (by omega)
    refine ⟨by omega, by omega, fun hx => ⟨by omega, ?_⟩⟩
    have hl := L_lt x.toNat (by omega)
    rw [pC_tab ⟨by omega, by omega, by omega, by omega⟩, if_neg (by omega), e, Int.toNat_natCast, L_E i hi', show (lT x.toNat + i) % 255 = 0 by omega]
    rfl
  · unfold iC
    rw [if_neg q]
    refine ⟨by omega, by omega, fun hx => by omega⟩
/-! the power -/
theorem wC_of {x p v a : Int} (q : 0 ≤ x ∧ x < 256) (hv : v = (eT ((a * p).fmod 255).toNat : Nat)) (ha : a = (lT x.toNat : Nat)) : v = wC x p := by
  unfold wC
  rw [if_pos q, hv, ha]
theorem pw_tab {f : Int} (q : 0 < f ∧ f < 256) (n : Nat) : pw f n = ((eT ((lT f.toNat * n) % 255) : Nat) : Int) := by
  induction n with
  | zero => rfl
  | succ n ih =>
    have h1 := E_lt ((lT f.toNat * n) % 255) (by omega)
    have h2 := E_pos ((lT f.toNat * n) % 255) (by omega)
    show pC (pw f n) f = _
    rw [ih, pC_tab ⟨by omega, by omega, by omega, by omega⟩, if_neg (by omega), Int.toNat_natCast, L_E _ (by omega), Nat.mul_succ]
    congr 2
    omega
theorem pw_fact {f : Int} (q : 0 ≤ f ∧ f < 256) (n : Nat) : 0 ≤ pw f n ∧ pw f n < 256 := by
  cases n with
  | zero => exact (show (0 : Int) ≤ 1 ∧ (1 : Int) < 256 by decide)
  | succ n => exact ⟨(pC_fact _ _).1, (pC_fact _ _).2.1⟩
theorem wC_pos {b p : Int} (q : 0 < b ∧ b < 256) (hp : 0 ≤ p) : wC b p = pw b p.toNat := by
  unfold wC
  rw [if_pos ⟨by omega, by omega⟩, pw_tab q, show (lT b.toNat : Int) * p = ((lT b.toNat * p.toNat : Nat) : Int) by rw [Int.natCast_mul, Int.toNat_of_nonneg hp], fmodN]
theorem wC_neg {b p : Int} (q : 0 < b ∧ b < 256) (hp : p < 0) : wC b p = pw (iC b) (-p).toNat := by
  obtain ⟨i, hi, hi', e⟩ := iC_tab (x := b) ⟨by omega, by omega⟩
  have hf := iC_fact b
  have hl := L_lt b.toNat (by omega)
  unfold wC
  rw [if_pos ⟨by omega, by omega⟩, pw_tab ⟨(hf.2.2 q).1, hf.2.1⟩]
  have e2 : lT (iC b).toNat = i := by rw [e, Int.toNat_natCast, L_E i hi']
  rw [e2]
  obtain ⟨n, hn⟩ : ∃ n : Nat, p = -(n : Int) := ⟨(-p).toNat, by omega⟩
  subst hn
  rw [show (-(-(n : Int))).toNat = n by omega, Int.fmod_eq_emod_of_nonneg _ (by omega)]
  congr 2
  by_cases h0 : lT b.toNat = 0
  · rw [h0] at hi ⊢
    have : i = 0 := by omega
    subst this
    simp
  · have hi2 : i = 255 - lT b.toNat := by omega
    have h3 : i * n + lT b.toNat * n = 255 * n := by
      rw [← Nat.add_mul]
      congr 1
      omega
    rw [Int.mul_neg, show (lT b.toNat : Int) * (n : Int) = ((lT b.toNat * n : Nat) : Int) by simp]
    generalize lT b.toNat * n = X at *
    generalize i * n = Y at *
    omega
/-! the quotient -/
theorem div_zero {a b : Int} (q : 0 ≤ a ∧ a < 256 ∧ 0 ≤ b ∧ b < 256) (hb : b ≠ 0) (h : pC a b = 0) : a = 0 := by
  rw [pC_tab q] at h
  by_cases hz : a = 0
  · exact hz
  · rw [if_neg (by omega)] at h
    have := E_pos ((lT a.toNat + lT b.toNat) % 255) (by omega)
    omega
theorem div_nz {a b v x y : Int} (q : 0 ≤ a ∧ a < 256 ∧ 0 ≤ b ∧ b < 256) (_hb : b ≠ 0) (h : pC a b ≠ 0) (hv : v = (eT ((x + 255 - y).fmod 255).toNat : Nat)) (hx : x = (lT (pC a b).toNat : Nat)) (hy : y = (lT b.toNat : Nat)) : v = a := by
  have ha : a ≠ 0 := fun e => h (mul_z1 e).symm
  have e := pC_tab q
  rw [if_neg (by omega)] at e
  have e2 : lT (pC a b).toNat = (lT a.toNat + lT b.toNat) % 255 := by rw [e, Int.toNat_natCast, L_E _ (by omega)]
  have l1 := L_lt a.toNat (by omega)
  have l2 := L_lt b.toNat (by omega)
  have e3 : ((x + 255 - y).fmod 255).toNat = lT a.toNat := by
    rw [hx, hy, e2, Int.fmod_eq_emod_of_nonneg _ (by omega)]
    omega
  rw [hv, e3, E_L a.toNat (by omega) (by omega)]
  omega
/-- the quotient by the tables -/
def dC (x y : Int) : Int := if x = 0 then 0 else (eT (((lT x.toNat : Int) + 255 - (lT y.toNat : Int)).fmod 255).toNat : Nat)
theorem dC_z {x y : Int} (h : x = 0) : 0 = dC x y := by
  unfold dC
  rw [if_pos h]
theorem dC_nz {x y v a b : Int} (hx : x ≠ 0) (hv : v = (eT ((a + 255 - b).fmod 255).toNat : Nat)) (ha : a = (lT x.toNat : Nat)) (hb : b = (lT y.toNat : Nat)) : v = dC x y := by
  unfold dC
  rw [if_neg hx, hv, ha, hb]
theorem dC_undo {a b : Int} (q : 0 ≤ a ∧ a < 256 ∧ 0 ≤ b ∧ b < 256) (hb : b ≠ 0) : dC (pC a b) b = a := by
  by_cases h : pC a b = 0
  · rw [← dC_z h, div_zero q hb h]
  · exact div_nz q hb h (by unfold dC; rw [if_neg h]) rfl rfl
/-! the ends of the law -/
section
variable {P : Prop} {a b v v1 v2 i f p : Int}
theorem end_mul1 (h : v2 ≠ v1) (e1 : v1 = pC a b) (e2 : v2 = pC a b) : P := absurd (e2.trans e1.symm) h
theorem end_mul2 (h : v2 ≠ v1) (e1 : v1 = pC a b) (e2 : v2 = pC b a) : P := absurd (e2.trans ((pC_fact b a).2.2.trans e1.symm)) h
theorem end_b0 (h : b = 0) : ((b == 0) == true) = true := by subst h; rfl
theorem end_div (h : v ≠ a) (e : v = dC v1 b) (e1 : v1 = pC a b) (hb : b ≠ 0) (a0 : 0 ≤ a) (a1 : a < 256) (b0 : 0 ≤ b) (b1 : b < 256) : P := by
  rw [e, e1, dC_undo ⟨a0, a1, b0, b1⟩ hb] at h
  exact absurd rfl h
theorem end_inv (h : v ≠ 1) (e : v = pC b i) (e1 : i = iC b) (hb : b ≠ 0) (b0 : 0 ≤ b) (b1 : b < 256) : P := by
  rw [e, e1, ((iC_fact b).2.2 ⟨by omega, b1⟩).2] at h
  exact absurd rfl h
theorem end_no (h : b ≠ 0) (h' : b = 0) : P := absurd h' h
theorem range_len (n : Nat) : (rangeKs 0 n).length = n := by
  unfold rangeKs
  rw [List.length_map, List.length_range]
theorem end_powP {q : Int} (e : v = wC b p) (j : f = pw q (rangeKs 0 ((if p < 0 then -p else p) - 0).toNat).length) (hq : q = b) (hp : 0 ≤ p) (hb : b ≠ 0) (b0 : 0 ≤ b) (b1 : b < 256) : ((v == f) == true) = true := by
  rw [range_len, if_neg (by omega), Int.sub_zero, hq] at j
  rw [e, j, wC_pos ⟨by omega, b1⟩ hp]
  simp
theorem end_powN {q g : Int} (e : v = wC b p) (j : f = pw q (rangeKs 0 ((if p < 0 then -p else p) - 0).toNat).length) (hq : q = g) (hg : g = iC b) (hp : ¬ 0 ≤ p) (hb : b ≠ 0) (b0 : 0 ≤ b) (b1 : b < 256) : ((v == f) == true) = true := by
  rw [range_len, if_pos (by omega), Int.sub_zero, hq, hg] at j
  rw [e, j, wC_neg ⟨by omega, b1⟩ (by omega)]
  simp
end
end Mine
end
/-! Con1 -/
section
open PySem PySem.W PyProof.Rows
set_option Elab.async false
set_option maxRecDepth 1000000
namespace Mine
theorem exName {h : Heap} {L : Addr} {hp : Heap} {m : Str → Option Value} {v : Int} {t : Tok} (x : Str) (_ : Fr h L hp m) (_ : m x = some (.int v t)) : ∃ y : Int, y = v := ⟨v, rfl⟩
theorem st_start {f : Int → Int → Int} {w v : Int} (h : w = v) : v = List.foldl f w [] := h.symm
theorem st_step {f : Int → Int → Int} {w c k v : Int} {pre : List Int} (h : c = pre.foldl f w) (e : v = f c k) : v = (pre ++ [k]).foldl f w := by
  rw [List.foldl_append, ← h]
  exact e
section
variable {a b qa qb qw c k : Int} {pre : List Int}
theorem s_lo1 (h1 : qa = a) (h2 : qb = b) (i : c = pre.foldl (stepU qa qb) qw) (e : k = 0 + (pre.length : Int)) (l : pre.length < (8 - 0 : Int).toNat) (t : (b.fdiv (2 ^ k.toNat)).fmod 2 = 1) : Builtin.bitXor c (a * 2 ^ k.toNat) = (pre ++ [k]).foldl (stepU qa qb) qw := by
  refine st_step i ?_
  unfold stepU
  have hk : k < 8 := by omega
  rw [h1, h2, if_pos hk, if_pos t]
theorem s_lo0 (h2 : qb = b) (i : c = pre.foldl (stepU qa qb) qw) (e : k = 0 + (pre.length : Int)) (l : pre.length < (8 - 0 : Int).toNat) (t : (b.fdiv (2 ^ k.toNat)).fmod 2 ≠ 1) : c = (pre ++ [k]).foldl (stepU qa qb) qw := by
  refine st_step i ?_
  unfold stepU
  have hk : k < 8 := by omega
  rw [h2, if_pos hk, if_neg t]
theorem s_hi1 (i : c = pre.foldl (stepU qa qb) qw) (e : k = 14 - (pre.length : Int)) (l : pre.length < (14 - 7 : Int).toNat) (t : (c.fdiv (2 ^ k.toNat)).fmod 2 = 1) : Builtin.bitXor c (285 * 2 ^ (k - 8).toNat) = (pre ++ [k]).foldl (stepU qa qb) qw := by
  refine st_step i ?_
  unfold stepU
  have hk : ¬ k < 8 := by omega
  rw [if_neg hk, if_pos t]
theorem s_hi0 (i : c = pre.foldl (stepU qa qb) qw) (e : k = 14 - (pre.length : Int)) (l : pre.length < (14 - 7 : Int).toNat) (t : (c.fdiv (2 ^ k.toNat)).fmod 2 ≠ 1) : c = (pre ++ [k]).foldl (stepU qa qb) qw := by
  refine st_step i ?_
  unfold stepU
  have hk : ¬ k < 8 := by omega
  rw [if_neg hk, if_neg t]
end
theorem p_end {a b f g qa qb qw qa' qb' qw' : Int} (i : f = (downKs 14 (14 - 7 : Int).toNat).foldl (stepU qa qb) qw) (h1 : qa = a) (h2 : qb = b) (h3 : qw = g) (i' : g = (rangeKs 0 (8 - 0 : Int).toNat).foldl (stepU qa' qb') qw') (h1' : qa' = a) (h2' : qb' = b) (h3' : qw' = 0) (q : 0 ≤ a ∧ a < 256 ∧ 0 ≤ b ∧ b < 256) : f = pC a b := by
  subst h1 h2 h3 h1' h2' h3'
  rw [i, i', pC_of q]
  rfl
set_option maxHeartbeats 2000000 in
theorem con_prod (w : World) (s₀ : Shared) (mg mb : Str → Option Value) : CbC 335 0 (∀ (cbNews : CbLed) (x : Int) (t : CbTok) (y : Int) (u : CbTok), CbClaim Challenge.rw_md0022_01.row.prog w (Kf w.params) qv (looseW qv looseL) (ExcName.means s₀.heap) mg mb 335 cbNews [] (0 ≤ x ∧ x < 256 ∧ 0 ≤ y ∧ y < 256) [Value.int x t, Value.int y u] (fun t => Value.int (pC x y) t)) := by
  (k_with "exec For Name Call cons nil" => kpr_for)
  (k_with "pyIter ref" => (((rename Fr _ _ _ _ => lF9); (obtain ⟨qa, hqa⟩ := exName (Str.ofString "a") lF9 (by with_unfolding_all rfl)); (obtain ⟨qb, hqb⟩ := exName (Str.ofString "b") lF9 (by with_unfolding_all rfl)); (obtain ⟨qw, hqw⟩ := exName (Str.ofString "whole") lF9 (by with_unfolding_all rfl)); first | k_state_short (fun pre whole => whole = pre.foldl (stepU qa qb) qw) "whole" | k_state (fun pre whole => whole = pre.foldl (stepU qa qb) qw) "whole")))
  (k_with "state" => (with_reducible first | exact st_start (by assumption) | exact s_lo1 (by assumption) (by assumption) (by assumption) (by assumption) (by assumption) (by assumption) | exact s_lo0 (by assumption) (by assumption) (by assumption) (by assumption) (by assumption) | exact s_hi1 (by assumption) (by assumption) (by assumption) (by assumption) | exact s_hi0 (by assumption) (by assumption) (by assumption) (by assumption)))
  (k_with "tree" => (with_reducible first | exact p_end (by assumption) (by assumption) (by assumption) (by assumption) (by assumption) (by assumption) (by assumption) (by assumption) (by assumption)))
  k_fill
  unfold CbC
  dsimp only [CbClaim, CbLists, CbRet]
  intros
  rename_i hret
  have cbI : CbIn 335 := CbIn.mk
  refine wpAny_call ?_
  w_strict (k_dflt cell_enter)
  w_strict k_steps
  all_goals cb_end hret
end Mine
end
/-! Con2 -/
section
open PySem PySem.W PyProof.Rows
set_option Elab.async false
set_option maxRecDepth 1000000
namespace Mine
theorem expA_size : expA.size = 510 := by kernel_rfl
theorem logA_size : logA.size = 256 := by kernel_rfl
section
variable {prog : Program} {w : World} {A : Around} {E : Value → Shared → Prop} {s : Shared} {h₀ : Heap} {L : Addr} {ml : Str → Option Value} {value slice : Expr} {k : Int} {u : Tok} {Q : Value → Shared → Prop}
theorem exp_tail (F : Fr h₀ L s.heap ml) (X₀ : (Kf w.params).In h₀) (h0 : 0 ≤ k) (h1 : k < 510)
    (h : ∀ v : Int, v = (eT k.toNat : Nat) → 0 ≤ v → v < 256 → Q (.int v s.toks) { s with toks := s.toks + 1 })
    (hs : subscripted slice false (.ref 60) (.int k u) = operate [.ref 60, .int k u] (getItem (.ref 60) (.int k u)) := by with_unfolding_all rfl) :
    wpAny (model prog w) A (subscriptTail value slice (.ref 60) (.int k u)) Q E s :=
  have hk : k.toNat < 510 := by omega
  ba_tail (a := 60) (b := expA) F X₀ rfl h0 (by rw [expA_size]; omega) (by rw [expA_size]; omega) (h _ (by rw [expA_at _ hk]) (by omega) (u8_lt _)) hs
theorem log_tail (F : Fr h₀ L s.heap ml) (X₀ : (Kf w.params).In h₀) (h0 : 0 ≤ k) (h1 : k < 256)
    (h : ∀ v : Int, v = (lT k.toNat : Nat) → 0 ≤ v → v < 255 → Q (.int v s.toks) { s with toks := s.toks + 1 })
    (hs : subscripted slice false (.ref 61) (.int k u) = operate [.ref 61, .int k u] (getItem (.ref 61) (.int k u)) := by with_unfolding_all rfl) :
    wpAny (model prog w) A (subscriptTail value slice (.ref 61) (.int k u)) Q E s :=
  have hk : k.toNat < 256 := by omega
  ba_tail (a := 61) (b := logA) F X₀ rfl h0 (by rw [logA_size]; omega) (by rw [logA_size]; omega) (h _ (by rw [logA_at _ hk]) (by omega) (by have := L_lt _ hk; rw [logA_at _ hk]; omega)) hs
end
local macro_rules | `(tactic| walk_at "subscriptTail") => `(tactic| (k_here; (with_reducible show wpAny _ _ (subscriptTail _ _ (Value.ref 60) (Value.int _ _)) _ _ _); k_dflt (refine' exp_tail ?F ?X ?a ?b ?_; (case F => k_asm); (case X => k_asm); (case a => first | omega | l_fact); (case b => first | omega | l_fact)); intro v hv hv0 hv1))
local macro_rules | `(tactic| walk_at "subscriptTail") => `(tactic| (k_here; (with_reducible show wpAny _ _ (subscriptTail _ _ (Value.ref 61) (Value.int _ _)) _ _ _); k_dflt (refine' log_tail ?F ?X ?a ?b ?_; (case F => k_asm); (case X => k_asm); (case a => first | omega | l_fact); (case b => first | omega | l_fact)); intro v hv hv0 hv1))
set_option maxHeartbeats 1000000 in
theorem con_mul (w : World) (s₀ : Shared) (mg mb : Str → Option Value) : CbC 36 0 (∀ (cbNews : CbLed) (x : Int) (tx : CbTok) (y : Int) (ty : CbTok), CbClaim Challenge.rw_md0022_01.row.prog w (Kf w.params) qv (looseW qv looseL) (ExcName.means s₀.heap) mg mb 36 cbNews [] (0 ≤ x ∧ x < 256 ∧ 0 ≤ y ∧ y < 256) [Value.int x tx, Value.int y ty] (fun t => Value.int (pC x y) t)) := by
  k_with_none
  (k_with "tree" => (with_reducible first | exact mul_z1 (by assumption) | exact mul_z2 (by assumption) | exact mul_nz (by assumption) (by assumption) (by assumption) (by assumption) (by assumption) (by assumption)))
  k_fill
  unfold CbC
  dsimp only [CbClaim, CbLists, CbRet]
  intros
  rename_i hret
  have cbI : CbIn 36 := CbIn.mk
  refine wpAny_call ?_
  w_strict (k_dflt cell_enter)
  w_strict k_steps
  all_goals cb_end hret
set_option maxHeartbeats 1000000 in
theorem con_inv (w : World) (s₀ : Shared) (mg mb : Str → Option Value) : CbC 29 0 (∀ (cbNews : CbLed) (x : Int) (tx : CbTok), CbClaim Challenge.rw_md0022_01.row.prog w (Kf w.params) qv (looseW qv looseL) (ExcName.means s₀.heap) mg mb 29 cbNews [] (0 ≤ x ∧ x < 256) [Value.int x tx] (fun t => Value.int (iC x) t)) := by
  k_with_none
  (k_with "tree" => (with_reducible exact iC_of (by assumption) (by assumption) (by assumption)))
  k_fill
  unfold CbC
  dsimp only [CbClaim, CbLists, CbRet]
  intros
  rename_i hret
  have cbI : CbIn 29 := CbIn.mk
  refine wpAny_call ?_
  w_strict (k_dflt cell_enter)
  w_strict k_steps
  all_goals cb_end hret
set_option maxHeartbeats 1000000 in
theorem con_pow (w : World) (s₀ : Shared) (mg mb : Str → Option Value) : CbC 50 0 (∀ (cbNews : CbLed) (x : Int) (tx : CbTok) (p : Int) (tp : CbTok), CbClaim Challenge.rw_md0022_01.row.prog w (Kf w.params) qv (looseW qv looseL) (ExcName.means s₀.heap) mg mb 50 cbNews [] (0 ≤ x ∧ x < 256 ∧ -20 ≤ p ∧ p ≤ 300) [Value.int x tx, Value.int p tp] (fun t => Value.int (wC x p) t)) := by
  k_with_none
  (k_with "tree" => (with_reducible exact wC_of ⟨by omega, by omega⟩ (by assumption) (by assumption)))
  k_fill
  unfold CbC
  dsimp only [CbClaim, CbLists, CbRet]
  intros
  rename_i hret
  have cbI : CbIn 50 := CbIn.mk
  refine wpAny_call ?_
  w_strict (k_dflt cell_enter)
  w_strict k_steps
  all_goals cb_end hret
set_option maxHeartbeats 1000000 in
theorem con_div (w : World) (s₀ : Shared) (mg mb : Str → Option Value) : CbC 43 0 (∀ (cbNews : CbLed) (x : Int) (tx : CbTok) (y : Int) (ty : CbTok), CbClaim Challenge.rw_md0022_01.row.prog w (Kf w.params) qv (looseW qv looseL) (ExcName.means s₀.heap) mg mb 43 cbNews [] (0 ≤ x ∧ x < 256 ∧ 0 ≤ y ∧ y < 256 ∧ y ≠ 0) [Value.int x tx, Value.int y ty] (fun t => Value.int (dC x y) t)) := by
  k_with_none
  (k_with "tree" => (with_reducible first | exact dC_z (by assumption) | exact dC_nz (by assumption) (by assumption) (by assumption) (by assumption)))
  k_fill
  unfold CbC
  dsimp only [CbClaim, CbLists, CbRet]
  intros
  rename_i hret
  have cbI : CbIn 43 := CbIn.mk
  refine wpAny_call ?_
  w_strict (k_dflt cell_enter)
  w_strict k_steps
  all_goals first | cb_end hret | (exfalso; omega)
end Mine
end
/-! Walk9 -/
section
open PySem PySem.W PyProof.Rows
set_option Elab.async false
set_option maxRecDepth 1000000
namespace Mine
section
variable {w : World} {s₀ : Shared} {mg mb : Str → Option Value} {news : List (Addr × Obj)} {x y : Int} {t u : Tok} {dp un : Nat} {gd : Option (List Code)} {cn : Str} {cs : Scope} {a : Addr} {ccd : Value} {cl : List (Str × Addr)} {outer : List Env} {A₀ : Around} {base h₀ : Heap} {L : Addr} {m : Str → Option Value} {s : Shared} {Q E : Value → Shared → Prop}
theorem use_prod (k1 : Below A₀ base outer h₀) (k2 : Fr h₀ L s.heap m) (k3 : (Kf w.params).In h₀) (k4 : News h₀ L s.heap news) (k5 : Top qv (looseW qv looseL) (ExcName.means s₀.heap) mg mb h₀) (kK : cs.kind = .function)
    (kp : 0 ≤ x ∧ x < 256 ∧ 0 ≤ y ∧ y < 256) (kd : dp + 1 < recursionLimit) (ku : un + 8 < cLine)
    (kR : ∀ (v : Int) (t : Tok) (h' : Heap) (tk' : Nat), Fr h₀ L h' m → News h₀ L h' news → v = pC x y → pC x y = pC y x → 0 ≤ v → v < 256 → Q (.int v t) { s with heap := h', toks := tk' }) :
    wpAny (model Challenge.rw_md0022_01.row.prog w) (ktrTop dp un gd cn cs L a ccd cl outer) (call (.ref 335) [.int x t, .int y u]) Q E s :=
  CbC.out (con_prod w s₀ mg mb) news x t y u dp un gd cn cs a ccd cl outer A₀ base h₀ L m s Q E k1 k2 k3 k4 k5 kK kp kd ku
    fun t h' tk' F N => kR _ t h' tk' F N rfl (pC_fact x y).2.2 (pC_fact x y).1 (pC_fact x y).2.1
theorem use_mul (k1 : Below A₀ base outer h₀) (k2 : Fr h₀ L s.heap m) (k3 : (Kf w.params).In h₀) (k4 : News h₀ L s.heap news) (k5 : Top qv (looseW qv looseL) (ExcName.means s₀.heap) mg mb h₀) (kK : cs.kind = .function)
    (kp : 0 ≤ x ∧ x < 256 ∧ 0 ≤ y ∧ y < 256) (kd : dp + 1 < recursionLimit) (ku : un + 8 < cLine)
    (kR : ∀ (v : Int) (t : Tok) (h' : Heap) (tk' : Nat), Fr h₀ L h' m → News h₀ L h' news → v = pC x y → pC x y = pC y x → 0 ≤ v → v < 256 → Q (.int v t) { s with heap := h', toks := tk' }) :
    wpAny (model Challenge.rw_md0022_01.row.prog w) (ktrTop dp un gd cn cs L a ccd cl outer) (call (.ref 36) [.int x t, .int y u]) Q E s :=
  CbC.out (con_mul w s₀ mg mb) news x t y u dp un gd cn cs a ccd cl outer A₀ base h₀ L m s Q E k1 k2 k3 k4 k5 kK kp kd ku
    fun t h' tk' F N => kR _ t h' tk' F N rfl (pC_fact x y).2.2 (pC_fact x y).1 (pC_fact x y).2.1
theorem use_inv (k1 : Below A₀ base outer h₀) (k2 : Fr h₀ L s.heap m) (k3 : (Kf w.params).In h₀) (k4 : News h₀ L s.heap news) (k5 : Top qv (looseW qv looseL) (ExcName.means s₀.heap) mg mb h₀) (kK : cs.kind = .function)
    (kp : 0 ≤ x ∧ x < 256) (kd : dp + 1 < recursionLimit) (ku : un + 8 < cLine)
    (kR : ∀ (v : Int) (t : Tok) (h' : Heap) (tk' : Nat), Fr h₀ L h' m → News h₀ L h' news → v = iC x → 0 ≤ v → v < 256 → (0 < x ∧ x < 256 → 0 < v ∧ pC x v = 1) → Q (.int v t) { s with heap := h', toks := tk' }) :
    wpAny (model Challenge.rw_md0022_01.row.prog w) (ktrTop dp un gd cn cs L a ccd cl outer) (call (.ref 29) [.int x t]) Q E s :=
  CbC.out (con_inv w s₀ mg mb) news x t dp un gd cn cs a ccd cl outer A₀ base h₀ L m s Q E k1 k2 k3 k4 k5 kK kp kd ku
    fun t h' tk' F N => kR _ t h' tk' F N rfl (iC_fact x).1 (iC_fact x).2.1 (iC_fact x).2.2
theorem use_pow (k1 : Below A₀ base outer h₀) (k2 : Fr h₀ L s.heap m) (k3 : (Kf w.params).In h₀) (k4 : News h₀ L s.heap news) (k5 : Top qv (looseW qv looseL) (ExcName.means s₀.heap) mg mb h₀) (kK : cs.kind = .function)
    (kp : 0 ≤ x ∧ x < 256 ∧ -20 ≤ y ∧ y ≤ 300) (kd : dp + 1 < recursionLimit) (ku : un + 8 < cLine)
    (kR : ∀ (v : Int) (t : Tok) (h' : Heap) (tk' : Nat), Fr h₀ L h' m → News h₀ L h' news → v = wC x y → Q (.int v t) { s with heap := h', toks := tk' }) :
    wpAny (model Challenge.rw_md0022_01.row.prog w) (ktrTop dp un gd cn cs L a ccd cl outer) (call (.ref 50) [.int x t, .int y u]) Q E s :=
  CbC.out (con_pow w s₀ mg mb) news x t y u dp un gd cn cs a ccd cl outer A₀ base h₀ L m s Q E k1 k2 k3 k4 k5 kK kp kd ku
    fun t h' tk' F N => kR _ t h' tk' F N rfl
theorem use_div (k1 : Below A₀ base outer h₀) (k2 : Fr h₀ L s.heap m) (k3 : (Kf w.params).In h₀) (k4 : News h₀ L s.heap news) (k5 : Top qv (looseW qv looseL) (ExcName.means s₀.heap) mg mb h₀) (kK : cs.kind = .function)
    (kp : 0 ≤ x ∧ x < 256 ∧ 0 ≤ y ∧ y < 256) (kd : dp + 1 < recursionLimit) (ku : un + 8 < cLine)
    (kR : y ≠ 0 → ∀ (v : Int) (t : Tok) (h' : Heap) (tk' : Nat), Fr h₀ L h' m → News h₀ L h' news → v = dC x y → Q (.int v t) { s with heap := h', toks := tk' })
    (kZ : y = 0 → wpAny (model Challenge.rw_md0022_01.row.prog w) (ktrTop dp un gd cn cs L a ccd cl outer) (call (.ref 43) [.int x t, .int y u]) Q E s) :
    wpAny (model Challenge.rw_md0022_01.row.prog w) (ktrTop dp un gd cn cs L a ccd cl outer) (call (.ref 43) [.int x t, .int y u]) Q E s := by
  by_cases h : y = 0
  · exact kZ h
  · exact CbC.out (con_div w s₀ mg mb) news x t y u dp un gd cn cs a ccd cl outer A₀ base h₀ L m s Q E k1 k2 k3 k4 k5 kK ⟨kp.1, kp.2.1, kp.2.2.1, kp.2.2.2, h⟩ kd ku
      fun t h' tk' F N => kR h _ t h' tk' F N rfl
theorem known0 {M : Model} {A : Around} (_ : y = 0) (h : wpAny M A (call (.ref 43) [.int x t, .int y u]) Q E s) : wpAny M A (call (.ref 43) [.int x t, .int y u]) Q E s := h
theorem mod_v {prog : Program} {A : Around} (hy : 0 < y) (h : ∀ v : Int, 0 ≤ v → v < y → Q (.int v s.toks) { s with toks := s.toks + 1 }) : wpAny (model prog w) A (binaryOp .Mod (.int x t) (.int y u)) Q E s :=
  mod_int' (by omega) (h _ (by rw [Int.fmod_eq_emod_of_nonneg _ (by omega)]; exact Int.emod_nonneg _ (by omega)) (by rw [Int.fmod_eq_emod_of_nonneg _ (by omega)]; exact Int.emod_lt_of_pos _ hy))
end
theorem st_one (f : Int) : (1 : Int) = pw f ([] : List Int).length ∧ (0 : Int) ≤ 1 ∧ (1 : Int) < 256 := ⟨rfl, by decide, by decide⟩
theorem st_more {f q v c k : Int} {pre : List Int} (i : c = pw q pre.length) (hq : q = f) (e : v = pC c f) (h0 : 0 ≤ v) (h1 : v < 256) : v = pw q (pre ++ [k]).length ∧ 0 ≤ v ∧ v < 256 := by
  refine ⟨?_, h0, h1⟩
  rw [List.length_append, e, i, ← hq]
  rfl
local macro_rules | `(tactic| walk_at "subscriptTail") => `(tactic| (k_here; (with_reducible show wpAny _ _ (subscriptTail _ _ (Value.ref 60) (Value.int _ _)) _ _ _); k_dflt (refine' exp_tail ?F ?X ?a ?b ?_; (case F => k_asm); (case X => k_asm); (case a => first | omega | l_fact); (case b => first | omega | l_fact)); intro v hv hv0 hv1))
local macro_rules | `(tactic| walk_at "subscriptTail") => `(tactic| (k_here; (with_reducible show wpAny _ _ (subscriptTail _ _ (Value.ref 61) (Value.int _ _)) _ _ _); k_dflt (refine' log_tail ?F ?X ?a ?b ?_; (case F => k_asm); (case X => k_asm); (case a => first | omega | l_fact); (case b => first | omega | l_fact)); intro v hv hv0 hv1))
local macro_rules | `(tactic| walk_at "binaryOp Mod int int") => `(tactic| (k_here; (with_reducible show wpAny _ _ (binaryOp _ (Value.int _ _) (Value.int 256 _)) _ _ _); (with_reducible refine mod_v (by decide) ?_); intro vm vm0 vm1))
local macro_rules | `(tactic| walk_at "binaryOp Mod int int") => `(tactic| (k_here; (with_reducible show wpAny _ _ (binaryOp _ (Value.int _ _) (Value.int 321 _)) _ _ _); (with_reducible refine mod_v (by decide) ?_); intro vm vm0 vm1))
local macro_rules | `(tactic| walk_at "subscriptTail Name Slice ref ref") => `(tactic| (k_here; (with_reducible show wpAny _ _ (subscriptTail _ (PySem.Expr.Slice _ none none _) (Value.ref _) (Value.ref _)) _ _ _); k_dflt (refine' kmk_slice_ints ?F ?N ?l ?p ?q ?i ?m ?c ?_ ?s ?t ?z; (case F => k_asm); (case N => k_asm); (case l => kmk_list); (case p => kmk_part); (case q => kmk_part); (case i => l_ints); (case m => exact kmk_from (by l_ints) (by kmk_sign)); (case c => kmk_len); (case s => with_unfolding_all rfl); (case t => kmk_pure); (case z => kmk_size)); intro D' ws' h' F' N' l1 hI' hC' hL'; (try simp only [Int.reduceNeg, Int.neg_neg, Int.reduceToNat] at hI' hC' hL'); (try k_lt l1); (try k_sweep)))
set_option maxHeartbeats 8000000 in
theorem lawHolds : PySem.Challenge.rw_md0022_01.Holds := by
  k_with_none
  (k_with "call ref" => ((with_reducible show wpAny _ _ (PySem.call (Value.ref 335) _ _) _ _ _); (k_dflt (refine' use_prod ?k1 ?k2 ?k3 ?k4 ?k5 ?kK ?kp ?kd ?ku ?_; (case k1 => k_asm); (case k2 => k_asm); (case k3 => k_asm); (case k4 => k_asm); (case k5 => k_asm); (case kK => first | exact rfl | assumption); (case kp => first | assumption | omega | l_fact); (case kd => ktr_room); (case ku => ktr_units))); intro v9 t9 h9 tk9 F9 N9 e9 c9 l9 u9; (try dsimp only); (try k_fold)))
  (k_with "call ref" => ((with_reducible show wpAny _ _ (PySem.call (Value.ref 36) _ _) _ _ _); (k_dflt (refine' use_mul ?k1 ?k2 ?k3 ?k4 ?k5 ?kK ?kp ?kd ?ku ?_; (case k1 => k_asm); (case k2 => k_asm); (case k3 => k_asm); (case k4 => k_asm); (case k5 => k_asm); (case kK => first | exact rfl | assumption); (case kp => first | assumption | omega | l_fact); (case kd => ktr_room); (case ku => ktr_units))); intro v9 t9 h9 tk9 F9 N9 e9 c9 l9 u9; (try dsimp only); (try k_fold)))
  (k_with "call ref" => ((with_reducible show wpAny _ _ (PySem.call (Value.ref 29) _ _) _ _ _); (k_dflt (refine' use_inv ?k1 ?k2 ?k3 ?k4 ?k5 ?kK ?kp ?kd ?ku ?_; (case k1 => k_asm); (case k2 => k_asm); (case k3 => k_asm); (case k4 => k_asm); (case k5 => k_asm); (case kK => first | exact rfl | assumption); (case kp => first | assumption | omega | l_fact); (case kd => ktr_room); (case ku => ktr_units))); intro v9 t9 h9 tk9 F9 N9 e9 l9 u9 c9; (try dsimp only); (try k_fold)))
  (k_with "call ref" => ((with_reducible show wpAny _ _ (PySem.call (Value.ref 50) _ _) _ _ _); (k_dflt (refine' use_pow ?k1 ?k2 ?k3 ?k4 ?k5 ?kK ?kp ?kd ?ku ?_; (case k1 => k_asm); (case k2 => k_asm); (case k3 => k_asm); (case k4 => k_asm); (case k5 => k_asm); (case kK => first | exact rfl | assumption); (case kp => first | assumption | omega | l_fact); (case kd => ktr_room); (case ku => ktr_units))); intro v9 t9 h9 tk9 F9 N9 e9; (try dsimp only); (try k_fold)))
  (k_with "call ref" => ((with_reducible show wpAny _ _ (PySem.call (Value.ref 43) _ _) _ _ _); (fail_if_success (with_reducible refine known0 (by assumption) ?_)); (k_dflt (refine' use_div ?k1 ?k2 ?k3 ?k4 ?k5 ?kK ?kp ?kd ?ku ?_ ?_; (case k1 => k_asm); (case k2 => k_asm); (case k3 => k_asm); (case k4 => k_asm); (case k5 => k_asm); (case kK => first | exact rfl | assumption); (case kp => first | assumption | omega | l_fact); (case kd => ktr_room); (case ku => ktr_units))); first | (intro y9 v9 t9 h9 tk9 F9 N9 e9; (try dsimp only); (try k_fold)) | intro y9))
  (k_with "pyIter ref" => (k_of "step" => ((rename Fr _ _ _ _ => lF9); (obtain ⟨qf, hqf⟩ := exName (Str.ofString "factor") lF9 (by with_unfolding_all rfl)); k_state (fun pre whole => whole = pw qf pre.length ∧ 0 ≤ whole ∧ whole < 256) "whole")))
  (k_with "state" => (with_reducible first | exact st_one _ | exact st_more (by assumption) (by assumption) (by assumption) (by assumption) (by assumption)))
  (k_with "end" => (with_reducible first | exact end_mul1 (by assumption) (by assumption) (by assumption) | exact end_mul2 (by assumption) (by assumption) (by assumption) | exact end_b0 (by assumption) | exact end_div (by assumption) (by assumption) (by assumption) (by assumption) (by assumption) (by assumption) (by assumption) (by assumption) | exact end_inv (by assumption) (by assumption) (by assumption) (by assumption) (by assumption) (by assumption) | exact end_no (by assumption) (by assumption) | exact end_powP (by assumption) (by assumption) (by assumption) (by assumption) (by assumption) (by assumption) (by assumption) | exact end_powN (by assumption) (by assumption) (by assumption) (by assumption) (by assumption) (by assumption) (by assumption) (by assumption)))
  refine hd ?_
  w_strict k_go
end Mine
end
theorem PySem.Challenge.cw_md0022_01_holds : PySem.Challenge.rw_md0022_01.Holds :=
  Mine.lawHolds
