import PyProof.Rows.All
import Wide.All
import OpenK.AllK
import Wide.FinOn
import PySem.Challenge.RW_il0176_01
set_option Elab.async false
set_option linter.all false
set_option compiler.extract_closed false
namespace Mine
local macro_rules | `(tactic| omega) => `(tactic| (first | with_reducible assumption | lia))
section
open PySem PySem.W PySem.Calls PyProof.Rows
set_option maxRecDepth 100000

section leads
variable {p : Program} {w : World} {n₀ : Nat} {ann : Option Value}

/-- the machine comes from one place to another -/
noncomputable def Leads (p : Program) (w : World) (n₀ : Nat) (ann : Option Value) (S : Shared) (t : Thread) (S' : Shared) (t' : Thread) : Prop :=
  ∃ k, topGo treeTable p w n₀ ann k S t = some (S', t')

theorem topGo_add {tb : String → Option Builtin} : ∀ {a b : Nat} {S S1 S2 : Shared} {t t1 t2 : Thread}, topGo tb p w n₀ ann a S t = some (S1, t1) → topGo tb p w n₀ ann b S1 t1 = some (S2, t2) →
    topGo tb p w n₀ ann (a + b) S t = some (S2, t2)
  | 0, b, S, S1, S2, t, t1, t2, h, k => by
    obtain ⟨rfl, rfl⟩ : S = S1 ∧ t = t1 := by simpa [topGo] using h
    rw [Nat.zero_add]; exact k
  | a + 1, b, S, S1, S2, t, t1, t2, h, k => by
    rw [show a + 1 + b = a + b + 1 by omega]
    unfold topGo at h ⊢
    cases ht : through t with
    | true => rw [ht] at h; cases h
    | false =>
      rw [ht] at h
      cases hk : stepOk n₀ ann t with
      | false => rw [hk] at h; cases h
      | true =>
        rw [hk] at h
        cases hs : step (denote tb) p w S t with
        | halt o s₂ => rw [hs] at h; cases h
        | go s₂ t₂ => rw [hs] at h; exact topGo_add h k

theorem Leads.refl (S : Shared) (t : Thread) : Leads p w n₀ ann S t S t := ⟨0, rfl⟩
theorem Leads.trans {S S1 S2 : Shared} {t t1 t2 : Thread} (a : Leads p w n₀ ann S t S1 t1) (b : Leads p w n₀ ann S1 t1 S2 t2) : Leads p w n₀ ann S t S2 t2 :=
  let ⟨k, hk⟩ := a; let ⟨l, hl⟩ := b; ⟨k + l, topGo_add hk hl⟩
theorem Leads.one {S S1 : Shared} {t t1 : Thread} (h1 : through t = false) (h2 : stepOk n₀ ann t = true) (h3 : step (denote treeTable) p w S t = .go S1 t1) : Leads p w n₀ ann S t S1 t1 :=
  ⟨1, by unfold topGo; rw [h1, h2, h3]; rfl⟩
theorem Leads.step {S S1 S2 : Shared} {t t1 t2 : Thread} (h3 : PySem.step (denote treeTable) p w S t = .go S1 t1) (b : Leads p w n₀ ann S1 t1 S2 t2) (h1 : through t = false := by rfl) (h2 : stepOk n₀ ann t = true := by rfl) : Leads p w n₀ ann S t S2 t2 :=
  (Leads.one h1 h2 h3).trans b

noncomputable def quietC (c : Code) : Bool := match c with
  | .builtin id _ => !id.startsWith "lifetime."
  | _ => true

/-- a call of this code ends in r -/
noncomputable def CallsTo (p : Program) (w : World) (n₀ : Nat) (ann : Option Value) (c : Code) (S : Shared) (r : Result) (S' : Shared) : Prop :=
  ∀ (h : Option Value) (g : Bool) (l : List Value) (k : Result → Sem Fin) (c0 : Code) (p0 pos : Pos) (kept : List Value) (F : Frame) (B : List Frame),
    Leads p w n₀ ann S ⟨denote treeTable c, c, pos, .ret k h g l c0 p0 kept :: F :: B⟩ S' ⟨k r, c0, p0, F :: B⟩

noncomputable def st (p : Program) (w : World) (n₀ : Nat) (ann : Option Value) {α : Type} : Sem α → (α → Shared → Prop) → Shared → Prop
  | .pure a, Q, S => Q a S
  | .rule _ k, Q, S => st p w n₀ ann (k ()) Q S
  | .at _ k, Q, S => st p w n₀ ann (k ()) Q S
  | .point _ k, Q, S => st p w n₀ ann (k ()) Q S
  | .ask k, Q, S => st p w n₀ ann (k ⟨p, w.params⟩) Q S
  | .load a _ k, Q, S => ∃ o, S.heap.get? a = some o ∧ st p w n₀ ann (k o) Q S
  | .update a _ f k, Q, S => Nat.ble n₀ a = true ∧ (S.heap.get? a).isSome = true ∧ st p w n₀ ann (k ()) Q { S with heap := S.heap.update a f }
  | .alloc o k, Q, S => st p w n₀ ann (k S.heap.objs.size) Q { S with heap := S.heap.push o }
  | .fresh k, Q, S => st p w n₀ ann (k S.toks) Q { S with toks := S.toks + 1 }
  | .call c _ _ _ k, Q, S => ∃ r S', CallsTo p w n₀ ann c S r S' ∧ st p w n₀ ann (k r) Q S'
  | _, _, _ => False

variable {α β : Type}
theorem st_mono {m : Sem α} {Q Q' : α → Shared → Prop} (hQ : ∀ a S, Q a S → Q' a S) : ∀ {S : Shared}, st p w n₀ ann m Q S → st p w n₀ ann m Q' S := by
  induction m with
  | pure a => intro S h; exact hQ _ _ h
  | rule t k ih | «at» t k ih | point t k ih => intro S h; exact ih () h
  | ask k ih => intro S h; exact ih _ h
  | load a q k ih => rintro S ⟨o, h1, h2⟩; exact ⟨o, h1, ih _ h2⟩
  | update a q f k ih => rintro S ⟨h0, h1, h2⟩; exact ⟨h0, h1, ih _ h2⟩
  | alloc o k ih => intro S h; exact ih _ h
  | fresh k ih => intro S h; exact ih _ h
  | call c h g l k ih => rintro S ⟨r, S', h1, h2⟩; exact ⟨r, S', h1, ih _ h2⟩
  | _ => intro S h; exact h.elim

theorem st_bind {m : Sem α} {f : α → Sem β} {Q : β → Shared → Prop} : ∀ {S : Shared}, st p w n₀ ann m (fun a S' => st p w n₀ ann (f a) Q S') S → st p w n₀ ann (m >>= f) Q S := by
  induction m with
  | pure a => intro S h; exact h
  | rule t k ih | «at» t k ih | point t k ih => intro S h; exact ih () h
  | ask k ih => intro S h; exact ih _ h
  | load a q k ih => rintro S ⟨o, h1, h2⟩; exact ⟨o, h1, ih _ h2⟩
  | update a q g k ih => rintro S ⟨h0, h1, h2⟩; exact ⟨h0, h1, ih _ h2⟩
  | alloc o k ih => intro S h; exact ih _ h
  | fresh k ih => intro S h; exact ih _ h
  | call c h g l k ih => rintro S ⟨r, S', h1, h2⟩; exact ⟨r, S', h1, ih _ h2⟩
  | _ => intro S h; exact h.elim

theorem st_keep {m : Sem α} {vs : List Value} {Q : α → Shared → Prop} : ∀ {S : Shared}, st p w n₀ ann m Q S → st p w n₀ ann (m.keep vs) Q S := by
  induction m with
  | pure a => intro S h; exact h
  | rule t k ih | «at» t k ih | point t k ih => intro S h; exact ih () h
  | ask k ih => intro S h; exact ih _ h
  | load a q k ih => rintro S ⟨o, h1, h2⟩; exact ⟨o, h1, ih _ h2⟩
  | update a q g k ih => rintro S ⟨h0, h1, h2⟩; exact ⟨h0, h1, ih _ h2⟩
  | alloc o k ih => intro S h; exact ih _ h
  | fresh k ih => intro S h; exact ih _ h
  | call c h g l k ih => rintro S ⟨r, S', h1, h2⟩; exact ⟨r, S', h1, ih _ h2⟩
  | _ => intro S h; exact h.elim
theorem st_holding {m : Sem α} {vs : List Value} {Q : α → Shared → Prop} {S : Shared} (h : st p w n₀ ann m Q S) : st p w n₀ ann (holding vs m) Q S := by
  unfold holding
  split
  · exact h
  · exact st_keep h
theorem st_tryCatch {m : Sem α} {g : Value → Sem α} {Q : α → Shared → Prop} : ∀ {S : Shared}, st p w n₀ ann m Q S → st p w n₀ ann (m.tryCatch g) Q S := by
  induction m with
  | pure a => intro S h; exact h
  | rule t k ih | «at» t k ih | point t k ih => intro S h; exact ih () h
  | ask k ih => intro S h; exact ih _ h
  | load a q k ih => rintro S ⟨o, h1, h2⟩; exact ⟨o, h1, ih _ h2⟩
  | update a q g k ih => rintro S ⟨h0, h1, h2⟩; exact ⟨h0, h1, ih _ h2⟩
  | alloc o k ih => intro S h; exact ih _ h
  | fresh k ih => intro S h; exact ih _ h
  | call c h g l k ih => rintro S ⟨r, S', h1, h2⟩; exact ⟨r, S', h1, ih _ h2⟩
  | _ => intro S h; exact h.elim

/-- what st says, the machine does -/
theorem st_leads {m : Sem α} {Q : α → Shared → Prop} (K : α → Sem Fin) (c : Code) (F : Frame) (B : List Frame) : ∀ {S : Shared} (pos : Pos), st p w n₀ ann m Q S →
    ∃ a S' pos', Q a S' ∧ Leads p w n₀ ann S ⟨m.bind K, c, pos, F :: B⟩ S' ⟨K a, c, pos', F :: B⟩ := by
  induction m with
  | pure a => intro S pos h; exact ⟨a, S, pos, h, .refl _ _⟩
  | rule t k ih => intro S pos h; obtain ⟨a, S', q, h1, h2⟩ := ih () pos h; exact ⟨a, S', q, h1, .step rfl h2⟩
  | «at» t k ih => intro S pos h; obtain ⟨a, S', q, h1, h2⟩ := ih () t h; exact ⟨a, S', q, h1, .step rfl h2⟩
  | point t k ih => intro S pos h; obtain ⟨a, S', q, h1, h2⟩ := ih () pos h; exact ⟨a, S', q, h1, .step rfl h2⟩
  | ask k ih => intro S pos h; obtain ⟨a, S', q, h1, h2⟩ := ih _ pos h; exact ⟨a, S', q, h1, .step rfl h2⟩
  | load b q k ih =>
    rintro S pos ⟨o, ho, h⟩
    obtain ⟨a, S', q', h1, h2⟩ := ih _ pos h
    refine ⟨a, S', q', h1, .step (S1 := S) (t1 := ⟨(k o).bind K, c, pos, F :: B⟩) ?_ h2⟩
    obtain ⟨heap, gens, drawn, toks, os⟩ := S
    simp only [Sem.bind, step]
    rw [show heap.get? b = some o from ho]
  | update b q f k ih =>
    rintro S pos ⟨h0, hs, h⟩
    obtain ⟨a, S', q', h1, h2⟩ := ih _ pos h
    refine ⟨a, S', q', h1, .step (S1 := { S with heap := S.heap.update b f }) (t1 := ⟨(k ()).bind K, c, pos, F :: B⟩) ?_ h2 rfl ?_⟩
    · obtain ⟨heap, gens, drawn, toks, os⟩ := S
      simp only [Sem.bind, step]
      rw [if_pos (show (heap.get? b).isSome = true from hs)]
    · show (true && (Nat.ble n₀ b || b == mainNs || b == cStatics || ann == some (.ref b))) = true
      rw [h0]; rfl
  | alloc o k ih => intro S pos h; obtain ⟨a, S', q, h1, h2⟩ := ih _ pos h; exact ⟨a, S', q, h1, .step rfl h2⟩
  | fresh k ih => intro S pos h; obtain ⟨a, S', q, h1, h2⟩ := ih _ pos h; exact ⟨a, S', q, h1, .step rfl h2⟩
  | call c' h g l k ih =>
    rintro S pos ⟨r, S1, hc, h2⟩
    obtain ⟨a, S', q, h3, h4⟩ := ih r pos h2
    refine ⟨a, S', q, h3, ?_⟩
    obtain ⟨heap, gens, drawn, toks, os⟩ := S
    refine Leads.step (h3 := rfl) ?_
    exact (hc h g l _ c pos pos _ F B).trans h4
  | _ => intro S pos h; exact h.elim

theorem bind_pure_fin (m : Sem Fin) : m.bind Sem.pure = m := by
  induction m with
  | pure | raise | unsupported | finish => rfl
  | _ => rename_i ih; simp only [Sem.bind]; congr 1; funext x; exact ih x

/-- a code that ends, or hands on to another -/
theorem callsTo_of {c : Code} {S S' : Shared} {r : Result}
    (h : st p w n₀ ann (denote treeTable c) (fun fin S1 => match fin with | .done f => r = .ok f ∧ S1 = S' | .again c2 => quietC c2 = true ∧ CallsTo p w n₀ ann c2 S1 r S') S) : CallsTo p w n₀ ann c S r S' := by
  intro hd g l k c0 p0 pos kept F B
  obtain ⟨fin, S1, q, h1, h2⟩ := st_leads Sem.pure c (.ret k hd g l c0 p0 kept) (F :: B) pos h
  rw [bind_pure_fin] at h2
  cases fin with
  | done f =>
    obtain ⟨rfl, rfl⟩ := h1
    exact h2.trans (.one rfl rfl (by obtain ⟨heap, gens, drawn, toks, os⟩ := S1; rfl))
  | again c2 =>
    obtain ⟨hq, h1⟩ := h1
    refine h2.trans (.step (step_again (heap := S1.heap) (gens := S1.gens) (drawn := S1.drawn) (toks := S1.toks) (os := S1.os)) (h1 hd g l k c0 p0 _ _ F B) rfl ?_)
    cases c2 with
    | builtin id args =>
      simp only [quietC, Bool.not_eq_true'] at hq
      show ((!(id.startsWith "lifetime.") || _) && !false && true && true) = true
      rw [hq]; rfl
    | _ => rfl

/-- read alone: by the part that is written out -/
theorem st_peek {K : Frag} {m : Sem α} {a : α} {Q : α → Shared → Prop} {S : Shared} (x : K.In S.heap) (q : Q a S) : peek K ⟨p, w.params⟩ m = some a → st p w n₀ ann m Q S := by
  induction m with
  | pure b => intro e; cases e; exact q
  | rule _ k ih => intro e; exact ih () e
  | point _ k ih => intro e; exact ih () e
  | ask k ih => intro e; exact ih _ e
  | load b _ k ih =>
    intro e
    simp only [peek] at e
    split at e
    · rename_i o ho; exact ⟨o, x _ _ ho, ih o e⟩
    · cases e
  | _ => intro e; cases e
end leads
end
section
open PySem PySem.W PySem.Calls PyProof.Rows
set_option maxRecDepth 100000

theorem upd_const {h : Heap} {a : Addr} {o : Obj} (ho : h.get? a = some o) (f : Obj → Obj) : h.update a f = h.update a fun _ => f o := by
  obtain ⟨objs, l⟩ := h
  show Heap.mk _ _ = Heap.mk _ _
  congr 1
  apply Array.ext_getElem?
  intro i
  rw [Array.getElem?_modify, Array.getElem?_modify]
  by_cases e : a = i
  · subst e
    have : objs[a]? = some o := by
      unfold Heap.get? at ho
      dsimp only at ho
      split at ho
      · cases ho
      · exact ho
    simp [this]
  · simp [e]
theorem upd_upd (h : Heap) (a : Addr) (x y : Obj) : (h.update a fun _ => x).update a (fun _ => y) = h.update a fun _ => y := by
  obtain ⟨objs, l⟩ := h
  show Heap.mk _ _ = Heap.mk _ _
  congr 1
  apply Array.ext_getElem?
  intro i
  rw [Array.getElem?_modify, Array.getElem?_modify, Array.getElem?_modify]
  by_cases e : a = i
  · subst e; cases objs[a]? <;> simp
  · simp [e]
theorem upd_comm (h : Heap) {a b : Addr} (n : a ≠ b) (x y : Obj) : (h.update a fun _ => x).update b (fun _ => y) = (h.update b fun _ => y).update a fun _ => x := by
  obtain ⟨objs, l⟩ := h
  show Heap.mk _ _ = Heap.mk _ _
  congr 1
  apply Array.ext_getElem?
  intro i
  rw [Array.getElem?_modify, Array.getElem?_modify, Array.getElem?_modify, Array.getElem?_modify]
  by_cases e : a = i
  · subst e
    have : b ≠ a := Ne.symm n
    simp [this]
  · by_cases e' : b = i
    · subst e'; simp [e]
    · simp [e, e']
theorem get_upd {h : Heap} {a : Addr} {o x : Obj} (ho : h.get? a = some o) (hx : x.isFreed = false) : (h.update a fun _ => x).get? a = some x := Heap.get?_update_self (fun _ => x) ho hx
theorem get_upd_ne {h : Heap} {a b : Addr} {x : Obj} (n : b ≠ a) : (h.update a fun _ => x).get? b = h.get? b := Heap.get?_update_ne _ _ _ _ n

noncomputable def keyOf : Value → Option Str
  | .str x _ => some x
  | _ => none

/-- a frozenset that holds just these texts, in whatever order -/
noncomputable def setObj (es : Array (Int × Value)) (ep : Nat) (t : SetTable) : Obj := ⟨.type "frozenset", none, .set es ep t, #[]⟩
noncomputable def Holds (L : List Str) (es : Array (Int × Value)) (t : SetTable) : Prop :=
  (es.toList.map fun e => keyOf e.2).Perm (L.map some) ∧ t.fits es.size = true
theorem Holds.size {L : List Str} {es : Array (Int × Value)} {t : SetTable} (h : Holds L es t) : es.size = L.length := by
  have := h.1.length_eq
  simpa using this
theorem key_str {v : Value} {x : Str} (h : keyOf v = some x) : ∃ tk, v = .str x tk := by
  cases v <;> simp [keyOf] at h
  subst h; exact ⟨_, rfl⟩
theorem Holds.strs {L : List Str} {es : Array (Int × Value)} {t : SetTable} (h : Holds L es t) : ∀ e ∈ es.toList, ∃ x tk, e.2 = .str x tk ∧ x ∈ L := by
  intro e he
  have : keyOf e.2 ∈ L.map some := h.1.mem_iff.mp (List.mem_map_of_mem he)
  obtain ⟨x, hx, e1⟩ := List.mem_map.mp this
  obtain ⟨tk, e2⟩ := key_str e1.symm
  exact ⟨x, tk, e2, hx⟩
theorem Holds.exact {L : List Str} {es : Array (Int × Value)} {t : SetTable} (h : Holds L es t) : es.all (fun e => isExactStrKey e.2) = true := by
  rw [← Array.all_toList, List.all_eq_true]
  intro e he
  obtain ⟨x, tk, e1, _⟩ := h.strs e he
  rw [e1]; rfl
theorem Holds.scannable {L : List Str} {es : Array (Int × Value)} {t : SetTable} (h : Holds L es t) : es.all (fun e => e.2.scannable) = true := by
  rw [← Array.all_toList, List.all_eq_true]
  intro e he
  obtain ⟨x, tk, e1, _⟩ := h.strs e he
  rw [e1]; rfl
theorem Holds.byScan {L : List Str} {es : Array (Int × Value)} {t : SetTable} (h : Holds L es t) {x : Value} (hx : x.scannable = true) (hl : L.length < 4096) : byScan x es = true := by
  simp only [PySem.byScan, hx, Bool.true_and, Bool.and_eq_true, decide_eq_true_eq]
  exact ⟨by rw [h.size]; exact hl, h.scannable⟩
theorem isStr_str (x y : Str) (tk : Tok) : (Value.str y tk).isStr x = decide (y = x) := by
  show (y == x) = _
  by_cases e : y = x
  · subst e; simp
  · rw [decide_eq_false e]; exact beq_eq_false_iff_ne.mpr e
theorem Holds.find {L : List Str} {es : Array (Int × Value)} {t : SetTable} (h : Holds L es t) (x : Str) : (es.findIdx? (·.2.isStr x)).isSome = decide (x ∈ L) := by
  rw [Array.findIdx?_isSome, ← Array.any_toList]
  by_cases hx : x ∈ L
  · rw [decide_eq_true hx, List.any_eq_true]
    have : some x ∈ es.toList.map fun e => keyOf e.2 := h.1.mem_iff.mpr (List.mem_map_of_mem hx)
    obtain ⟨e, he, e1⟩ := List.mem_map.mp this
    obtain ⟨tk, e2⟩ := key_str e1
    exact ⟨e, he, by rw [e2, isStr_str]; simp⟩
  · rw [decide_eq_false hx, List.any_eq_false]
    intro e he
    obtain ⟨y, tk, e1, hy⟩ := h.strs e he
    rw [e1, isStr_str]
    simp only [decide_eq_true_eq]
    rintro rfl
    exact hx hy

section
variable {p : Program} {w : World} {n₀ : Nat} {ann : Option Value} {S : Shared}

theorem st_load {a : Addr} {o : Obj} {Q : Obj → Shared → Prop} (ho : S.heap.get? a = some o) (q : Q o S) : st p w n₀ ann (load a) Q S := ⟨o, ho, q⟩
theorem st_pure {α : Type} {a : α} {Q : α → Shared → Prop} (q : Q a S) : st p w n₀ ann (pure a) Q S := q
theorem st_rule {t : String} {Q : Unit → Shared → Prop} (q : Q () S) : st p w n₀ ann (rule t) Q S := q
theorem st_point {Q : Unit → Shared → Prop} (q : Q () S) : st p w n₀ ann point Q S := q
theorem st_ask {Q : Setting → Shared → Prop} (q : Q ⟨p, w.params⟩ S) : st p w n₀ ann ask Q S := q
theorem st_update {a : Addr} {f : Obj → Obj} {Q : Unit → Shared → Prop} {o : Obj} (hn : Nat.ble n₀ a = true) (ho : S.heap.get? a = some o) (q : Q () { S with heap := S.heap.update a fun _ => f o }) : st p w n₀ ann (update a f) Q S :=
  ⟨hn, by rw [ho]; rfl, by rw [upd_const ho]; exact q⟩

theorem st_setState {L : List Str} {a : Addr} {es : Array (Int × Value)} {ep : Nat} {t : SetTable} {Q : Array (Int × Value) × Nat × SetTable → Shared → Prop}
    (ho : S.heap.get? a = some (setObj es ep t)) (h : Holds L es t) (q : Q (es, ep, t) S) : st p w n₀ ann (setState a) Q S := by
  unfold setState
  refine st_bind (st_load ho ?_)
  dsimp only [setObj]
  have hc : (t.place.size != es.size || decide (t.fill > t.mask)) = false := by
    have hf := h.2
    simp only [SetTable.fits, Bool.and_eq_true, beq_iff_eq, decide_eq_true_eq] at hf
    simp [hf.1, Nat.not_lt.mpr hf.2]
  rw [hc]
  exact st_pure q

theorem st_storeSet {a : Addr} {es : Array (Int × Value)} {ep : Nat} {t : SetTable} {es' : Array (Int × Value)} {t' : SetTable} {Q : Unit → Shared → Prop} (hn : Nat.ble n₀ a = true)
    (ho : S.heap.get? a = some (setObj es ep t)) (hz : es'.size < 4096) (q : Q () { S with heap := S.heap.update a fun _ => setObj es' (ep + 1) t' }) : st p w n₀ ann (storeSet a es' t') Q S := by
  unfold storeSet
  refine st_bind (st_load ho ?_)
  dsimp only [setObj]
  rw [if_neg (by rw [sizeLine_eq]; omega)]
  exact st_update hn ho q
end
end
section
open PySem PySem.W PySem.Calls PyProof.Rows
set_option maxRecDepth 100000
section
variable {p : Program} {w : World} {n₀ : Nat} {ann : Option Value} {S : Shared}

theorem st_call {f : Value} {pos : List Value} {kw : List (Str × Value)} {v : Value} {S' : Shared} {Q : Value → Shared → Prop} (hc : CallsTo p w n₀ ann (.call f ⟨pos, kw⟩) S (.ok (.ret v)) S') (q : Q v S') : st p w n₀ ann (call f pos kw) Q S :=
  ⟨_, S', hc, q⟩
theorem st_runValue {c : Code} {v : Value} {S' : Shared} {Q : Value → Shared → Prop} (hc : CallsTo p w n₀ ann c S (.ok (.ret v)) S') (q : Q v S') : st p w n₀ ann (runValue c) Q S :=
  ⟨_, S', hc, q⟩

theorem call_strHash (x : Str) (tk : Tok) : CallsTo p w n₀ ann (.call (.builtin "str.__hash__") ⟨[.str x tk], []⟩) S (.ok (.ret (.int (if x.cps.isEmpty then 0 else reduceHash (w.params.strHash x.cps)) S.toks))) { S with toks := S.toks + 1 } := by
  refine callsTo_of ?_
  have e : denote treeTable (.call (.builtin "str.__hash__") ⟨[.str x tk], []⟩) = .pure (.again (.builtin "str.__hash__" ⟨[.str x tk], []⟩)) := by kernel_rfl
  rw [e]
  refine ⟨by show (!("str.__hash__".startsWith "lifetime.")) = true; decide +kernel, callsTo_of ?_⟩
  have e2 : denote treeTable (.builtin "str.__hash__" ⟨[.str x tk], []⟩) = .ask fun s => .fresh fun t => .pure (.done (.ret (.int (if x.cps.isEmpty then 0 else reduceHash (s.params.strHash x.cps)) t))) := by kernel_rfl
  rw [e2]
  exact ⟨rfl, rfl⟩

theorem st_bindHash (x : Str) (tk : Tok) {Q : Option (Value × List Value) → Shared → Prop} (q : Q (some (.builtin "str.__hash__", [.str x tk])) S) : st p w n₀ ann (bindSpecialIfBound? (.str x tk) "__hash__") Q S := by
  unfold bindSpecialIfBound?
  have e1 : specialOf (.str x tk) "__hash__" = pure (some (.builtin "str.__hash__")) := by kernel_rfl
  have e2 : bindSpecial (.builtin "str.__hash__") (.str x tk) = pure (.builtin "str.__hash__", [.str x tk]) := by kernel_rfl
  rw [e1]
  refine st_bind (st_pure ?_)
  dsimp only
  rw [e2]
  refine st_bind (st_ask ?_)
  dsimp only
  split
  · exact st_bind (st_pure (st_pure q))
  · exact st_tryCatch (st_bind (st_pure (st_pure q)))

theorem st_pyHash (x : Str) (tk : Tok) {Q : Int → Shared → Prop} (q : ∀ h, Q h { S with toks := S.toks + 1 }) : st p w n₀ ann (pyHash (.str x tk)) Q S := by
  unfold pyHash callSpecialIfBound?
  refine st_bind (st_holding (st_bind (st_bindHash x tk ?_)))
  dsimp only
  refine st_bind (st_call (call_strHash x tk) (st_pure ?_))
  unfold strHash
  exact st_bind (st_ask (st_pure (q _)))

theorem hashByValue_str (n : Nat) (x : Str) (tk : Tok) : hashByValue n (.str x tk) = pure false := by cases n <;> rfl

theorem key_append (es : Array (Int × Value)) (h : Int) (x : Str) (tk : Tok) (L : List Str) (p : (es.toList.map fun e => keyOf e.2).Perm (L.map some)) :
    ((es.push (h, .str x tk)).toList.map fun e => keyOf e.2).Perm ((L ++ [x]).map some) := by
  simp only [Array.toList_push, List.map_append, List.map_cons, List.map_nil]
  exact p.append_right _

theorem st_addTail {a : Addr} {ep : Nat} {es0 : Array (Int × Value)} {t0 : SetTable} (hn : Nat.ble n₀ a = true) (ho : S.heap.get? a = some (setObj es0 ep t0)) {L : List Str} {es1 : Array (Int × Value)} {t2 : SetTable} (hh : Holds L es1 t2) (hl : L.length < 4096)
    {wasDummy : Bool} {R : Option Bool → Shared → Prop} {g : Bool → Sem Unit} (hg : ∀ b S' (Q' : Unit → Shared → Prop), Q' () S' → st p w n₀ ann (g b) Q' S')
    (q : ∀ es' ep' t', Holds L es' t' → R (some true) { S with heap := S.heap.update a fun _ => setObj es' ep' t' }) :
    st p w n₀ ann (do
        storeSet a es1 t2
        if (!wasDummy && t2.tooFull) = true then do
            g (relayAll t2 es1 (SetTable.grown es1.size)).2.2
            storeSet a (relayAll t2 es1 (SetTable.grown es1.size)).1 (relayAll t2 es1 (SetTable.grown es1.size)).2.1
            pure (some true)
          else pure (some true)) R S := by
  refine st_bind (st_storeSet hn ho (by rw [hh.size]; exact hl) ?_)
  split
  · have hp := relayAll_perm t2 es1 (SetTable.grown es1.size)
    have hfr := relayAll_fits t2 es1 (SetTable.grown es1.size)
    generalize relayAll t2 es1 (SetTable.grown es1.size) = Rl at hp hfr ⊢
    obtain ⟨es2, t3, gave2⟩ := Rl
    dsimp only at hp hfr ⊢
    have hh2 : Holds L es2 t3 := ⟨(hp.map _).trans hh.1, hfr⟩
    refine st_bind (hg _ _ _ ?_)
    refine st_bind (st_storeSet (es := es1) (ep := ep + 1) (t := t2) hn (get_upd ho rfl) (by rw [hh2.size]; exact hl) (st_pure ?_))
    rw [upd_upd]
    exact q _ _ _ hh2
  · exact st_pure (q _ _ _ hh)

theorem st_addHashed {a : Addr} {es : Array (Int × Value)} {ep : Nat} {t : SetTable} {L : List Str} {x : Str} {tk : Tok} {h : Int} {Q : Bool → Shared → Prop} (hn : Nat.ble n₀ a = true) (ho : S.heap.get? a = some (setObj es ep t)) (hh : Holds L es t)
    (hx : x ∉ L) (hl : L.length + 1 < 4096) (q : ∀ es' ep' t', Holds (L ++ [x]) es' t' → Q true { S with heap := S.heap.update a fun _ => setObj es' ep' t' }) : st p w n₀ ann (setAddHashed a (.str x tk) h) Q S := by
  unfold setAddHashed setAddHashedIn
  refine st_holding (st_bind (st_setState ho hh ?_))
  dsimp only
  rw [hh.byScan (x := .str x tk) rfl (by omega)]
  simp only [↓reduceIte]
  unfold setAddByScan
  refine st_bind (st_bind (st_rule ?_))
  have hs : setScan a (.str x tk) h true es = pure .absent := by
    unfold setScan
    dsimp only
    rw [if_pos hh.exact]
    unfold setScanStrs
    have := hh.find x
    rw [decide_eq_false hx] at this
    rw [Option.isSome_eq_false_iff.mp this |> Option.isNone_iff_eq_none.mp]
  rw [hs]
  refine st_bind (st_pure ?_)
  dsimp only
  have hperm := layNew_perm t es h (.str x tk)
  have hfits := layNew_fits t es h (.str x tk)
  generalize layNew t es h (.str x tk) = Ln at hperm hfits ⊢
  obtain ⟨es1, t1, wasDummy, gave⟩ := Ln
  dsimp only at hperm hfits ⊢
  have hg : ∀ (b : Bool) (S' : Shared) (Q' : Unit → Shared → Prop), Q' () S' → st p w n₀ ann (match b with | true => rule "set.scan.the-table-gave-way" | false => pure ()) Q' S' := fun b S' Q' hq => by
    cases b
    · exact st_pure hq
    · exact st_rule hq
  refine st_bind (hg _ _ _ ?_)
  have hh1 : Holds (L ++ [x]) es1 t1 := ⟨(hperm.map _).trans (key_append es h x tk L hh.1), hfits⟩
  have hl1 : (L ++ [x]).length < 4096 := by simpa using hl
  have fin : ∀ es' ep' t', Holds (L ++ [x]) es' t' → st p w n₀ ann (match some true with | some added => (pure added : Sem Bool) | none => setAddHashedIn a (.str x tk) h 99999) Q { S with heap := S.heap.update a fun _ => setObj es' ep' t' } := fun es' ep' t' hz => st_pure (q es' ep' t' hz)
  have hgw : ∀ {f : Bool → Sem Unit}, f true = rule "set.scan.the-table-gave-way" → f false = pure () → ∀ b S' (Q' : Unit → Shared → Prop), Q' () S' → st p w n₀ ann (f b) Q' S' := fun h1 h2 b S' Q' hq => by
    cases b
    · rw [h2]; exact st_pure hq
    · rw [h1]; exact st_rule hq
  have hh2 : Holds (L ++ [x]) es1 { t1 with plain := false } := ⟨hh1.1, by have := hh1.2; cases t1; exact this⟩
  split
  · rw [hashByValue_str]
    refine st_bind (st_pure ?_)
    exact st_addTail hn ho hh2 hl1 (hgw rfl rfl) fin
  · refine st_bind (st_pure ?_)
    exact st_addTail hn ho hh1 hl1 (hgw rfl rfl) fin

theorem st_setAdd {a : Addr} {es : Array (Int × Value)} {ep : Nat} {t : SetTable} {L : List Str} {x : Str} {tk : Tok} {Q : Bool → Shared → Prop} (hn : Nat.ble n₀ a = true) (ho : S.heap.get? a = some (setObj es ep t)) (hh : Holds L es t)
    (hx : x ∉ L) (hl : L.length + 1 < 4096) (q : ∀ es' ep' t', Holds (L ++ [x]) es' t' → Q true { S with heap := S.heap.update a fun _ => setObj es' ep' t', toks := S.toks + 1 }) : st p w n₀ ann (setAdd a (.str x tk)) Q S := by
  unfold setAdd
  exact st_holding (st_bind (st_pyHash x tk fun h => st_addHashed (S := { S with toks := S.toks + 1 }) hn ho hh hx hl q))
end
end
section
open PySem PySem.W PySem.Calls PyProof.Rows
set_option maxRecDepth 100000
noncomputable def iterObj (x : Str) (tk : Tok) (i : Nat) : Obj := ⟨.type "str_ascii_iterator", none, .fields #[.str x tk, .int i 0], #[]⟩

/-- every load is answered by the same object; the places that were read -/
noncomputable def feed {α : Type} (g : Setting) : Sem α → Obj → Option (α × List Addr)
  | .pure a, _ => some (a, [])
  | .rule _ k, o => feed g (k ()) o
  | .at _ k, o => feed g (k ()) o
  | .point _ k, o => feed g (k ()) o
  | .ask k, o => feed g (k g) o
  | .load a _ k, o => (feed g (k o) o).map fun r => (r.1, a :: r.2)
  | _, _ => none
theorem den_builtin {id : String} {b : Builtin} {args : Args} (h : entryFor treeTable id = some b) : denote treeTable (.builtin id args) = b args := by
  unfold denote
  dsimp only
  rw [h]
section
variable {p : Program} {w : World} {n₀ : Nat} {ann : Option Value} {S : Shared}
theorem feed_st {α : Type} {m : Sem α} {o : Obj} {r : α} {Q : α → Shared → Prop} : ∀ {as : List Addr}, feed ⟨p, w.params⟩ m o = some (r, as) → (∀ b ∈ as, S.heap.get? b = some o) → Q r S → st p w n₀ ann m Q S := by
  induction m with
  | pure a => intro as e _ q; cases e; exact q
  | rule t k ih | «at» t k ih | point t k ih => intro as e h q; exact ih () e h q
  | ask k ih => intro as e h q; exact ih _ e h q
  | load a t k ih =>
    intro as e h q
    obtain ⟨r', e1, e2⟩ := Option.map_eq_some_iff.mp (show (feed ⟨p, w.params⟩ (k o) o).map (fun r => (r.1, a :: r.2)) = _ from e)
    cases e2
    exact ⟨o, h a (.head _), ih _ e1 (fun b hb => h b (.tail _ hb)) q⟩
  | _ => intro as e; cases e

theorem st_field {a : Addr} {i : Nat} {c : Value} {d : Option Addr} {vs : Array Value} {sl : Array (Option Value)} {x : Value} {Q : Value → Shared → Prop} (ho : S.heap.get? a = some ⟨c, d, .fields vs, sl⟩) (hx : vs[i]? = some x) (q : Q x S) : st p w n₀ ann (field (.ref a) i) Q S := by
  unfold field fieldsOf
  refine st_bind (st_bind (st_load ho (st_pure ?_)))
  rw [hx]
  exact st_pure q

theorem st_next {it : Addr} {x : Str} {tk : Tok} {i c : Nat} {Q : PySem.Fin → Shared → Prop} (hn : Nat.ble n₀ it = true) (ho : S.heap.get? it = some (iterObj x tk i)) (hc : x.cps[i]? = some c)
    (q : Q (.done (.ret (.str ⟨#[c]⟩ S.toks))) { S with heap := S.heap.update it fun _ => iterObj x tk (i + 1), toks := S.toks + 1 }) : st p w n₀ ann (Builtin.«str_ascii_iterator.__next__» ⟨[.ref it], []⟩) Q S := by
  show st p w n₀ ann (do
    let (it, _) ← slotArgs "__next__" 0 ⟨[.ref it], []⟩
    let stop : Sem PySem.Fin := do raiseNew (← newExc (.type "StopIteration") [])
    let seq ← field it 0
    if seq == .none then rule s!"{"str_ascii_iterator"}.__next__.exhausted"; return ← stop
    match ← asStr? seq, ← field it 1 with
    | some s, .int i _ =>
      match s.cps[i.toNat]? with
      | some c => setField it 1 (rawInt (i + 1)); retStr ⟨#[c]⟩
      | none =>
        rule s!"{"str_ascii_iterator"}.__next__.end"
        setField it 0 .none
        letGo [seq]
        stop
    | _, _ => unsupported s!"internal:{"str_ascii_iterator"}.__next__") Q S
  have e : slotArgs "__next__" 0 ⟨[.ref it], []⟩ = pure (.ref it, []) := rfl
  rw [e]
  refine st_bind (st_pure ?_)
  dsimp only
  refine st_bind (st_field ho (show #[Value.str x tk, Value.int i 0][0]? = some (Value.str x tk) from rfl) ?_)
  have e1 : (Value.str x tk == Value.none) = false := rfl
  simp only [e1, Bool.false_eq_true, if_false]
  refine st_bind (st_pure ?_)
  refine st_bind (st_field ho (show #[Value.str x tk, Value.int i 0][1]? = some (Value.int i 0) from rfl) ?_)
  dsimp only [Int.toNat_natCast]
  rw [hc]
  dsimp only
  refine st_bind ?_
  unfold setField
  dsimp only
  unfold updateField
  refine st_bind (st_load ho ?_)
  dsimp only [iterObj]
  rw [if_pos (show 1 < #[Value.str x tk, Value.int (↑i) 0].size from Nat.lt_succ_self 1)]
  refine st_update hn ho ?_
  exact q

theorem call_next {it : Addr} {x : Str} {tk : Tok} {i c : Nat} (hn : Nat.ble n₀ it = true) (ho : S.heap.get? it = some (iterObj x tk i)) (hc : x.cps[i]? = some c) :
    CallsTo p w n₀ ann (.call (.builtin "str_ascii_iterator.__next__") ⟨[.ref it], []⟩) S (.ok (.ret (.str ⟨#[c]⟩ S.toks))) { S with heap := S.heap.update it fun _ => iterObj x tk (i + 1), toks := S.toks + 1 } := by
  refine callsTo_of ?_
  refine feed_st (as := [it]) (o := iterObj x tk i) (r := .again (.builtin "str_ascii_iterator.__next__" ⟨[.ref it], []⟩)) (by kernel_rfl) (fun b hb => by simp at hb; rw [hb]; exact ho) ?_
  refine ⟨by show (!("str_ascii_iterator.__next__".startsWith "lifetime.")) = true; decide +kernel, callsTo_of ?_⟩
  rw [den_builtin (b := Builtin.«str_ascii_iterator.__next__») (by kernel_rfl)]
  exact st_next hn ho hc ⟨rfl, rfl⟩

theorem st_pyNext {it : Addr} {x : Str} {tk : Tok} {i c : Nat} {Q : Option Value → Shared → Prop} (hn : Nat.ble n₀ it = true) (ho : S.heap.get? it = some (iterObj x tk i)) (hc : x.cps[i]? = some c)
    (q : Q (some (.str ⟨#[c]⟩ S.toks)) { S with heap := S.heap.update it fun _ => iterObj x tk (i + 1), toks := S.toks + 1 }) : st p w n₀ ann (pyNext (.ref it)) Q S := by
  unfold pyNext callSpecial? Sem.attempt
  refine st_bind (st_tryCatch (st_bind (st_bind ?_)))
  refine feed_st (as := [it]) (o := iterObj x tk i) (r := some (.builtin "str_ascii_iterator.__next__")) (by kernel_rfl) (fun b hb => by simp at hb; rw [hb]; exact ho) ?_
  dsimp only
  refine st_holding (st_bind ?_)
  have e2 : bindSpecial (.builtin "str_ascii_iterator.__next__") (.ref it) = pure (.builtin "str_ascii_iterator.__next__", [.ref it]) := by kernel_rfl
  rw [e2]
  refine st_pure ?_
  refine st_bind (st_call (call_next hn ho hc) ?_)
  exact q
end
end
section
open PySem PySem.W PySem.Calls PyProof.Rows
set_option maxRecDepth 100000
theorem upd_self {h : Heap} {a : Addr} {o : Obj} (ho : h.get? a = some o) : (h.update a fun _ => o) = h := by
  obtain ⟨objs, l⟩ := h
  show Heap.mk _ _ = Heap.mk _ _
  congr 1
  apply Array.ext_getElem?
  intro i
  rw [Array.getElem?_modify]
  by_cases e : a = i
  · subst e
    have : objs[a]? = some o := by
      unfold Heap.get? at ho
      dsimp only at ho
      split at ho
      · cases ho
      · exact ho
    simp [this]
  · simp [e]
noncomputable def ch (c : Nat) : Str := ⟨#[c]⟩
theorem ch_inj {c d : Nat} (h : ch c = ch d) : c = d := by
  unfold ch at h
  simpa using h
section
variable {p : Program} {w : World} {n₀ : Nat} {ann : Option Value}
noncomputable def loopC (s it : Addr) : Code := .builtin "set.update.loop" ⟨[.ref s, .ref it], []⟩
theorem den_loop (s it : Addr) : denote treeTable (loopC s it) = Builtin.«set.update.loop» ⟨[.ref s, .ref it], []⟩ := den_builtin (by kernel_rfl)

theorem loop_turn {S : Shared} {s it : Addr} {x : Value} {R : Shared → Prop} (h : st p w n₀ ann (pyNext (.ref it)) (fun r S1 => r = some x ∧ st p w n₀ ann (setAdd s x) (fun _ S2 => R S2) S1) S) :
    st p w n₀ ann (denote treeTable (loopC s it)) (fun fin S2 => fin = .again (loopC s it) ∧ R S2) S := by
  rw [den_loop]
  unfold Builtin.«set.update.loop»
  dsimp only
  refine st_bind (st_mono ?_ h)
  rintro _ S1 ⟨rfl, h1⟩
  dsimp only
  exact st_bind (st_holding (st_mono (fun _ S2 h2 => ⟨rfl, h2⟩) h1))

theorem again_base {S : Shared} {s it : Addr} {pos : Pos} {F : Frame} {B : List Frame} : Leads p w n₀ ann S ⟨.pure (.again (loopC s it)), loopC s it, pos, F :: B⟩ S ⟨denote treeTable (loopC s it), loopC s it, pos, F :: B⟩ := by
  obtain ⟨heap, gens, drawn, toks, os⟩ := S
  refine .one rfl ?_ ?_
  · show ((!("set.update.loop".startsWith "lifetime.") || _) && !false && true && true) = true
    rw [show "set.update.loop".startsWith "lifetime." = false from by decide +kernel]; rfl
  · cases F <;> rfl

theorem loop_str {s it : Addr} {x : Str} {tk : Tok} (hs : Nat.ble n₀ s = true) (hi : Nat.ble n₀ it = true) (hne : s ≠ it) (F : Frame) (B : List Frame) : ∀ (k i : Nat) (L : List Str) (es : Array (Int × Value)) (ep : Nat) (t : SetTable) (S : Shared) (pos : Pos),
    i + k = x.cps.size → S.heap.get? it = some (iterObj x tk i) → S.heap.get? s = some (setObj es ep t) → Holds L es t → (∀ c ∈ x.cps.toList.drop i, ch c ∉ L) → (x.cps.toList.drop i).Nodup → L.length + k < 4096 →
    ∃ es' ep' t' pos', Holds (L ++ (x.cps.toList.drop i).map ch) es' t' ∧ Leads p w n₀ ann S ⟨denote treeTable (loopC s it), loopC s it, pos, F :: B⟩
      { S with heap := (S.heap.update it fun _ => iterObj x tk x.cps.size).update s fun _ => setObj es' ep' t', toks := S.toks + 2 * k } ⟨denote treeTable (loopC s it), loopC s it, pos', F :: B⟩ := by
  intro k
  induction k with
  | zero =>
    intro i L es ep t S pos hk h1 h2 hh _ _ _
    have e : i = x.cps.size := hk
    subst e
    refine ⟨es, ep, t, pos, ?_, ?_⟩
    · rw [show x.cps.toList.drop x.cps.size = [] from by simp]; simpa using hh
    · rw [upd_self h1, upd_self h2]; exact .refl _ _
  | succ k ih =>
    intro i L es ep t S pos hk h1 h2 hh hL hN hl
    have hlt : i < x.cps.size := by omega
    have hc : x.cps[i]? = some x.cps[i] := Array.getElem?_eq_getElem hlt
    have hd : x.cps.toList.drop i = x.cps[i] :: x.cps.toList.drop (i + 1) := by
      rw [List.drop_eq_getElem_cons (by simpa using hlt)]
      simp
    rw [hd] at hL hN
    have h2' : (S.heap.update it fun _ => iterObj x tk (i + 1)).get? s = some (setObj es ep t) := by rw [get_upd_ne hne]; exact h2
    have turn := loop_turn (p := p) (w := w) (n₀ := n₀) (ann := ann) (S := S) (s := s) (it := it) (x := .str (ch x.cps[i]) S.toks)
      (R := fun S2 => ∃ es' ep' t', Holds (L ++ [ch x.cps[i]]) es' t' ∧ S2 = { S with heap := (S.heap.update it fun _ => iterObj x tk (i + 1)).update s fun _ => setObj es' ep' t', toks := S.toks + 2 })
      (st_pyNext hi h1 hc ⟨rfl, st_setAdd (S := { S with heap := S.heap.update it fun _ => iterObj x tk (i + 1), toks := S.toks + 1 }) hs h2' hh (hL _ (.head _)) (by omega) fun es' ep' t' h' => ⟨es', ep', t', h', rfl⟩⟩)
    obtain ⟨fin, S2, pos2, ⟨rfl, es', ep', t', h', rfl⟩, lead⟩ := st_leads Sem.pure (loopC s it) F B pos turn
    rw [bind_pure_fin] at lead
    obtain ⟨es2, ep2, t2, pos3, hh2, lead2⟩ := ih (i + 1) (L ++ [ch x.cps[i]]) es' ep' t' { S with heap := (S.heap.update it fun _ => iterObj x tk (i + 1)).update s fun _ => setObj es' ep' t', toks := S.toks + 2 } pos2 (by omega)
      (by show ((S.heap.update it fun _ => iterObj x tk (i + 1)).update s fun _ => setObj es' ep' t').get? it = _
          rw [get_upd_ne (Ne.symm hne)]; exact get_upd h1 rfl)
      (get_upd h2' rfl) h' (fun c hc' hm => by
        rcases List.mem_append.mp hm with q | q
        · exact hL c (.tail _ hc') q
        · have := ch_inj (List.mem_singleton.mp q)
          subst this
          exact (List.nodup_cons.mp hN).1 hc') (List.nodup_cons.mp hN).2 (by simp only [List.length_append, List.length_cons, List.length_nil]; omega)
    refine ⟨es2, ep2, t2, pos3, ?_, lead.trans (again_base.trans ?_)⟩
    · rw [hd, List.map_cons]; simpa using hh2
    · have e : (({ S with heap := (S.heap.update it fun _ => iterObj x tk (i + 1)).update s fun _ => setObj es' ep' t', toks := S.toks + 2 } : Shared).heap.update it fun _ => iterObj x tk x.cps.size).update s (fun _ => setObj es2 ep2 t2) =
          (S.heap.update it fun _ => iterObj x tk x.cps.size).update s fun _ => setObj es2 ep2 t2 := by
        show (((S.heap.update it fun _ => iterObj x tk (i + 1)).update s fun _ => setObj es' ep' t').update it fun _ => iterObj x tk x.cps.size).update s (fun _ => setObj es2 ep2 t2) = _
        rw [upd_comm _ hne, upd_upd, upd_upd]
      rw [e] at lead2
      have e2 : S.toks + 2 + 2 * k = S.toks + 2 * (k + 1) := by omega
      rw [← e2]
      exact lead2
end
end
section
open PySem PySem.W PySem.Calls PyProof.Rows
set_option maxRecDepth 100000
open SetTable in
section
/-- the road of a clean table: it always finds room -/
noncomputable def hop (m i : Nat) : Nat := (i * 5 + 1) % (m + 1)
noncomputable def hops (m : Nat) : Nat → Nat → Nat
  | 0, i => i
  | n + 1, i => hops m n (hop m i)
theorem hops_add (m : Nat) : ∀ (a b i : Nat), hops m (a + b) i = hops m b (hops m a i)
  | 0, b, i => by rw [Nat.zero_add]; rfl
  | a + 1, b, i => by rw [show a + 1 + b = (a + b) + 1 by omega]; exact hops_add m a b _

noncomputable def reachOk (m : Nat) : Bool := (List.range (m + 1)).all fun j => (List.range (m + 1)).any fun n => hops m n 0 == j
theorem reach_all {m : Nat} (ok : reachOk m = true) (back : hops m (m + 1) 0 = 0) {i j : Nat} (hi : i ≤ m) (hj : j ≤ m) : ∃ n, n ≤ m ∧ hops m n i = j := by
  have at0 : ∀ x, x ≤ m → ∃ n, n ≤ m ∧ hops m n 0 = x := fun x hx => by
    have := List.all_eq_true.mp ok x (List.mem_range.mpr (by omega))
    obtain ⟨n, hn, e⟩ := List.any_eq_true.mp this
    exact ⟨n, by have := List.mem_range.mp hn; omega, beq_iff_eq.mp e⟩
  obtain ⟨a, ha, ea⟩ := at0 i hi
  obtain ⟨b, hb, eb⟩ := at0 j hj
  by_cases h : a ≤ b
  · exact ⟨b - a, by omega, by rw [← ea, ← hops_add, show a + (b - a) = b by omega, eb]⟩
  · refine ⟨b + (m + 1) - a, by omega, ?_⟩
    rw [← ea, ← hops_add, show a + (b + (m + 1) - a) = (m + 1) + b by omega, hops_add, back, eb]

noncomputable def isFree (owner : Array (Option Nat)) (j : Nat) : Prop := owner[j]? = some none
theorem getD_free {owner : Array (Option Nat)} {j : Nat} : (owner.getD j (some 0)).isNone = true ↔ isFree owner j := by
  unfold isFree
  rw [Array.getD_eq_getD_getElem?]
  cases h : owner[j]? with
  | none => simp
  | some o => cases o <;> simp

theorem free_spec {m : Nat} {owner : Array (Option Nat)} : ∀ (fuel i p : Nat) {j : Nat}, layClean.free m owner fuel i p = some j → isFree owner j
  | 0, i, p, j, h => by simp [layClean.free] at h
  | fuel + 1, i, p, j, h => by
    unfold layClean.free at h
    split at h
    · rename_i k hk
      cases h
      exact getD_free.mp (List.find?_some (p := fun k => (owner.getD (i + k) (some 0)).isNone) hk)
    · exact free_spec fuel _ _ h
theorem free_one {m : Nat} {owner : Array (Option Nat)} {fuel i p : Nat} (h : isFree owner i) : (layClean.free m owner (fuel + 1) i p).isSome = true := by
  unfold layClean.free
  split
  · rfl
  · rename_i hn
    have := List.find?_eq_none.mp hn 0 (List.mem_range.mpr (by unfold runEnd; split <;> omega))
    exact absurd (getD_free.mpr h) this
theorem free_zero {m : Nat} {owner : Array (Option Nat)} : ∀ (n fuel i : Nat), n < fuel → isFree owner (hops m n i) → (layClean.free m owner fuel i 0).isSome = true
  | 0, fuel + 1, i, _, h => free_one h
  | n + 1, fuel + 1, i, hlt, h => by
    unfold layClean.free
    split
    · rfl
    · exact free_zero n fuel (hop m i) (by omega) h
theorem free_any {m : Nat} {owner : Array (Option Nat)} {fuel : Nat} (hz : ∀ i, i ≤ m → (layClean.free m owner fuel i 0).isSome = true) : ∀ (n i p : Nat), i ≤ m → p < 32 ^ n → (layClean.free m owner (n + fuel) i p).isSome = true
  | 0, i, p, hi, hp => by
    have : p = 0 := by simpa using hp
    subst this
    rw [Nat.zero_add]; exact hz i hi
  | n + 1, i, p, hi, hp => by
    rw [show n + 1 + fuel = (n + fuel) + 1 by omega]
    unfold layClean.free
    split
    · rfl
    · refine free_any hz n _ _ ?_ ?_
      · exact Nat.le_of_lt_succ (Nat.mod_lt _ (Nat.succ_pos m))
      · exact Nat.div_lt_of_lt_mul (by rw [Nat.pow_succ, Nat.mul_comm] at hp; exact hp)
theorem bits_lt (h : Int) : bits h < 32 ^ 13 := by
  unfold bits
  have h1 := Int.emod_nonneg h (show (2 ^ 64 : Int) ≠ 0 by decide)
  have h2 := Int.emod_lt_of_pos h (show (0 : Int) < 2 ^ 64 by decide)
  have h3 : (32 : Nat) ^ 13 = 36893488147419103232 := by decide
  rw [h3]
  omega
theorem free_finds {m : Nat} (ok : reachOk m = true) (back : hops m (m + 1) 0 = 0) {owner : Array (Option Nat)} {j : Nat} (hj : j ≤ m) (hf : isFree owner j) (h : Int) : ∃ j', layClean.free m owner (turns m) (bits h % (m + 1)) (bits h) = some j' ∧ isFree owner j' := by
  have : (layClean.free m owner (turns m) (bits h % (m + 1)) (bits h)).isSome = true := by
    rw [show turns m = 13 + (m + 2) by unfold turns; omega]
    refine free_any (fun i hi => ?_) 13 _ _ (Nat.le_of_lt_succ (Nat.mod_lt _ (Nat.succ_pos m))) (bits_lt h)
    obtain ⟨n, hn, e⟩ := reach_all ok back hi hj
    exact free_zero n _ i (by omega) (by rw [e]; exact hf)
  obtain ⟨j', e⟩ := Option.isSome_iff_exists.mp this
  exact ⟨j', e, free_spec _ _ _ e⟩

theorem filterMap_set : ∀ {l : List (Option Nat)} {j k : Nat}, l[j]? = some none → ((l.set j (some k)).filterMap id).Perm (l.filterMap id ++ [k])
  | [], _, _, h => by simp at h
  | a :: l, 0, k, h => by
    simp only [List.getElem?_cons_zero, Option.some.injEq] at h
    subst h
    simp only [List.set_cons_zero, List.filterMap_cons, id_eq]
    exact (List.perm_append_singleton k _).symm
  | a :: l, j + 1, k, h => by
    simp only [List.getElem?_cons_succ] at h
    have ih := filterMap_set (k := k) h
    simp only [List.set_cons_succ, List.filterMap_cons, id_eq]
    cases a with
    | none => exact ih
    | some b => exact ih.cons b
theorem some_free : ∀ {l : List (Option Nat)}, (l.filterMap id).length < l.length → ∃ j, j < l.length ∧ l[j]? = some none
  | [], h => by simp at h
  | none :: l, _ => ⟨0, by simp, rfl⟩
  | some a :: l, h => by
    simp only [List.filterMap_cons, id_eq, List.length_cons] at h
    obtain ⟨j, h1, h2⟩ := some_free (l := l) (by omega)
    exact ⟨j + 1, by simp; omega, by simpa using h2⟩

theorem fold_lays {m : Nat} (ok : reachOk m = true) (back : hops m (m + 1) 0 = 0) : ∀ (hs : List Int) (owner : Array (Option Nat)) (k : Nat), owner.size = m + 1 → (owner.toList.filterMap id).Perm (List.range k) → k + hs.length ≤ m →
    ∃ owner', hs.foldl (fun acc h => do
        let (owner, k) ← acc
        let j ← layClean.free m owner (turns m) (bits h % (m + 1)) (bits h)
        pure (owner.setIfInBounds j (some k), k + 1)) (some (owner, k)) = some (owner', k + hs.length) ∧ owner'.size = m + 1 ∧ (owner'.toList.filterMap id).Perm (List.range (k + hs.length))
  | [], owner, k, h1, h2, _ => ⟨owner, rfl, h1, h2⟩
  | h :: hs, owner, k, h1, h2, h3 => by
    simp only [List.length_cons] at h3 ⊢
    have hl : (owner.toList.filterMap id).length < owner.toList.length := by
      rw [h2.length_eq, List.length_range, Array.length_toList, h1]; omega
    obtain ⟨j, hj, ej⟩ := some_free hl
    rw [Array.length_toList, h1] at hj
    obtain ⟨j', e1, e2⟩ := free_finds ok back (j := j) (by omega) (show isFree owner j by unfold isFree; rw [← Array.getElem?_toList]; exact ej) h
    have e2' : owner.toList[j']? = some none := by rw [Array.getElem?_toList]; exact e2
    obtain ⟨owner', r1, r2, r3⟩ := fold_lays ok back hs (owner.setIfInBounds j' (some k)) (k + 1) (by simpa using h1) (by
      rw [Array.toList_setIfInBounds, List.range_succ]
      exact (filterMap_set e2').trans (h2.append_right _)) (by omega)
    refine ⟨owner', ?_, r2, ?_⟩
    · rw [List.foldl_cons]
      have : (do
        let (owner, k) ← (some (owner, k) : Option (Array (Option Nat) × Nat))
        let j ← layClean.free m owner (turns m) (bits h % (m + 1)) (bits h)
        pure (owner.setIfInBounds j (some k), k + 1)) = some (owner.setIfInBounds j' (some k), k + 1) := by
        show (layClean.free m owner (turns m) (bits h % (m + 1)) (bits h)).bind _ = _
        rw [e1]; rfl
      rw [this, r1]
      congr 2; omega
    · rw [show k + (hs.length + 1) = k + 1 + hs.length by omega]; exact r3

theorem laid_ok {m : Nat} (ok : reachOk m = true) (back : hops m (m + 1) 0 = 0) (f mv : Nat) (led plain : Bool) (hs : Array Int) (hn : hs.size ≤ m) :
    ∃ t order, laid m f mv led plain hs = some (t, order) ∧ order.toList.Perm (List.range hs.size) ∧ t.fits hs.size = true ∧ t.dummies = #[] ∧ t.mask = m := by
  obtain ⟨owner, h1, h2, h3⟩ := fold_lays ok back hs.toList (Array.replicate (m + 1) none) 0 (by simp) (by
    simp) (by simpa using hn)
  rw [Nat.zero_add, Array.length_toList] at h1 h3
  have hc : layClean m hs = some owner := by
    unfold layClean
    rw [← Array.foldl_toList]
    exact congrArg (Option.map (·.1)) h1
  unfold laid
  rw [hc]
  have key : (((List.range (m + 1)).filterMap fun j => (owner.getD j none).map fun y => (j, y)).map (·.2)).Perm (List.range hs.size) := by
    rw [List.map_filterMap]
    have e : (fun j => Option.map (fun x : Nat × Nat => x.2) ((owner.getD j none).map fun y => (j, y))) = fun j => owner.getD j none := by
      funext j; cases owner.getD j none <;> rfl
    rw [e]
    have e2 : (List.range (m + 1)).filterMap (fun j => owner.getD j none) = owner.toList.filterMap id := by
      have : owner.toList = (List.range (m + 1)).map fun j => owner.getD j none := by
        apply List.ext_getElem?
        intro i
        rw [List.getElem?_map, Array.getElem?_toList]
        by_cases hi : i < m + 1
        · rw [List.getElem?_range hi]
          have : i < owner.size := by omega
          simp [Array.getD_eq_getD_getElem?, this]
        · rw [List.getElem?_eq_none (by simp; omega)]
          simp; omega
      rw [this, List.filterMap_map]
      rfl
    rw [e2]
    exact h3
  refine ⟨_, _, rfl, key, ?_, rfl, rfl⟩
  have hl := key.length_eq
  rw [List.length_map, List.length_range] at hl
  simp only [SetTable.fits, SetTable.fill, List.size_toArray, List.length_map, hl, Bool.and_eq_true, beq_iff_eq, decide_eq_true_eq, true_and]
  exact hn
theorem reach7 : reachOk 7 = true ∧ hops 7 8 0 = 0 := by decide +kernel
theorem reach127 : reachOk 127 = true ∧ hops 127 128 0 = 0 := by decide +kernel
end

section
variable {p : Program} {w : World} {n₀ : Nat} {ann : Option Value} {S : Shared}
theorem st_reordered {m f mv : Nat} {led plain : Bool} {L : List Str} {eo : Array (Int × Value)} {to : SetTable} {Q : Array (Int × Value) × SetTable → Shared → Prop} (ok : reachOk m = true) (back : hops m (m + 1) 0 = 0) (hh : Holds L eo to) (hn : eo.size ≤ m)
    (q : ∀ es t, Holds L es t → t.dummies = #[] → t.mask = m → Q (es, t) S) : st p w n₀ ann (do
      let some (t, order) := SetTable.laid m f mv led plain (eo.map (·.1)) | unsupported "internal:set-table-without-room"
      let es' := order.filterMap (eo[·]?)
      if es'.size != eo.size then unsupported "internal:set-table-lost-an-element"
      pure (es', t)) Q S := by
  obtain ⟨t, order, e, hp, hf, hd, hk⟩ := laid_ok ok back f mv led plain (eo.map (·.1)) (by simpa using hn)
  rw [e]
  dsimp only
  have hp' : (order.filterMap (eo[·]?)).toList.Perm eo.toList := by
    rw [Array.toList_filterMap]
    rw [Array.size_map] at hp
    exact (hp.filterMap _).trans (by rw [filterMap_getElem?_range])
  have hs : (order.filterMap (eo[·]?)).size = eo.size := by rw [← Array.length_toList, hp'.length_eq, Array.length_toList]
  rw [hs]
  simp only [bne_self_eq_false, Bool.false_eq_true, if_false]
  exact st_pure (q _ _ ⟨(hp'.map _).trans hh.1, by rw [hs]; rw [Array.size_map] at hf; exact hf⟩ hd hk)
end
end
section
open PySem PySem.W PySem.Calls PyProof.Rows
set_option maxRecDepth 100000
section
variable {p : Program} {w : World} {n₀ : Nat} {ann : Option Value} {S : Shared}
noncomputable def emptyT (m mv : Nat) (led : Bool) : SetTable := { mask := m, place := #[], dummies := #[], finger := 0, led, moves := mv, plain := true }
theorem holds_nil (m mv : Nat) (led : Bool) : Holds [] #[] (emptyT m mv led) := ⟨.refl _, rfl⟩

/-- the last step of a merge into an empty set -/
theorem st_mergeIn {s o : Addr} {m mv : Nat} {led : Bool} {ep0 : Nat} {L : List Str} {eo : Array (Int × Value)} {to : SetTable} {Q : Unit → Shared → Prop} {each : Sem Unit} (ok : reachOk m = true) (back : hops m (m + 1) 0 = 0)
    (hn : Nat.ble n₀ s = true) (hs : S.heap.get? s = some (setObj #[] ep0 (emptyT m mv led))) (hh : Holds L eo to) (hm : L.length ≤ m) (hl : L.length < 4096) (epoch : Nat)
    (q : ∀ es ep' t, Holds L es t → t.dummies = #[] → t.mask = m → Q () { S with heap := S.heap.update s fun _ => setObj es ep' t }) :
    st p w n₀ ann (do
      let (_, _, ts) ← setState s
      match ts.road to with
      | .slotForSlot => storeSet s eo { to with finger := ts.finger, led := ts.led && to.led, moves := ts.moves, plain := ts.plain && to.plain }
      | .clean =>
        let (es, t) ← (do
          let some (t, order) := SetTable.laid ts.mask ts.finger ts.moves (ts.led && to.led) (ts.plain && to.plain) (eo.map (·.1)) | unsupported "internal:set-table-without-room"
          let es' := order.filterMap (eo[·]?)
          if es'.size != eo.size then unsupported "internal:set-table-lost-an-element"
          pure (es', t) : Sem (Array (Int × Value) × SetTable))
        storeSet s es t
      | .oneByOne =>
        for (h, x) in ← setWalkUnseen o [s] (some s) do
          let _ ← holding [x] (setAddHashed s x h)
          each
          if (← setState o).2.1 != epoch then unsupported "set.changed-during-merge") Q S := by
  refine st_bind (st_setState hs (holds_nil m mv led) ?_)
  dsimp only
  have hr : ((emptyT m mv led).road to = .slotForSlot ∧ to.dummies = #[] ∧ to.mask = m) ∨ (emptyT m mv led).road to = .clean := by
    unfold SetTable.road
    rw [if_neg (by simp [emptyT, SetTable.fill])]
    split
    · rename_i h
      simp only [emptyT, Bool.and_eq_true, beq_iff_eq, Array.isEmpty_iff] at h
      exact .inl ⟨rfl, h.2, h.1.symm⟩
    · exact .inr rfl
  rcases hr with ⟨e, hd, hk⟩ | e
  · rw [e]
    dsimp only
    exact st_storeSet hn hs (by rw [hh.size]; exact hl) (q _ _ _ ⟨hh.1, hh.2⟩ hd hk)
  · rw [e]
    dsimp only
    refine st_bind (st_reordered ok back hh (by rw [hh.size]; exact hm) fun es t h hd hk => ?_)
    exact st_storeSet hn hs (by rw [h.size]; exact hl) (q _ _ _ h hd hk)

theorem st_mergeFresh {s o : Addr} (hne : (s == o) = false) {led : Bool} {L : List Str} {eo : Array (Int × Value)} {ep : Nat} {to : SetTable} {Q : Unit → Shared → Prop} (hn : Nat.ble n₀ s = true)
    (hs : S.heap.get? s = some (setObj #[] 0 (emptyT 7 0 led))) (ho : S.heap.get? o = some (setObj eo ep to)) (hh : Holds L eo to) (hl : (1 ≤ L.length ∧ L.length ≤ 4) ∨ L.length = 32 ∨ L.length = 33)
    (q : ∀ es ep' t, Holds L es t → t.dummies = #[] → (L.length ≤ 4 ∨ t.mask = 127) → Q () { S with heap := S.heap.update s fun _ => setObj es ep' t }) : st p w n₀ ann (setMerge s o) Q S := by
  unfold setMerge
  rw [hne]
  simp only [Bool.false_eq_true, if_false]
  refine st_bind (st_setState ho hh ?_)
  dsimp only
  have he : eo.isEmpty = false := by
    have := hh.size
    simp only [Array.isEmpty_eq_false_iff, ne_eq]
    intro e
    rw [e] at this
    simp at this
    omega
  rw [he]
  simp only [Bool.false_eq_true, if_false]
  unfold setRoomFor
  rcases hl with hl | hl
  · refine st_bind (st_bind (st_setState hs (holds_nil 7 0 led) ?_))
    dsimp only
    have hr : (emptyT 7 0 led).roomFor eo.size = none := by
      unfold SetTable.roomFor
      rw [if_neg]
      have := hh.size
      simp [emptyT, SetTable.fill]; omega
    rw [hr]
    refine st_pure ?_
    exact st_mergeIn (m := 7) (o := o) reach7.1 reach7.2 hn hs hh (by omega) (by omega) ep fun es ep' t h hd hk => q es ep' t h hd (.inl hl.2)
  · refine st_bind (st_bind (st_setState hs (holds_nil 7 0 led) ?_))
    dsimp only
    have hr : (emptyT 7 0 led).roomFor eo.size = some (L.length * 2) := by
      unfold SetTable.roomFor
      rw [if_pos]
      · rw [hh.size]; simp [emptyT]
      · have := hh.size
        simp [emptyT, SetTable.fill]; omega
    rw [hr]
    dsimp only
    unfold setRelay
    refine st_bind (st_setState hs (holds_nil 7 0 led) ?_)
    dsimp only
    have h128 : SetTable.sizeAbove (L.length * 2) = 128 := by rcases hl with e | e <;> rw [e] <;> decide +kernel
    rw [h128, if_neg (by rw [sizeLine_eq]; omega)]
    have hrl : (emptyT 7 0 led).relaid (Array.map (fun x => x.fst) (#[] : Array (Int × Value))) (L.length * 2) = some (emptyT 127 1 led, #[]) := by
      unfold SetTable.relaid
      rw [h128]
      kernel_rfl
    rw [hrl]
    refine st_bind (st_pure ?_)
    dsimp only
    refine st_storeSet hn hs (by decide) ?_
    refine st_mergeIn (m := 127) (o := o) (mv := 1) (led := led) (ep0 := 0 + 1) reach127.1 reach127.2 hn (get_upd hs rfl) hh (by omega) (by omega) ep fun es ep' t h hd hk => ?_
    have := q es ep' t h hd (.inr hk)
    dsimp only
    rw [upd_upd]
    exact this
end
end
section
open PySem PySem.W PySem.Calls PyProof.Rows
set_option maxRecDepth 100000
section
variable {p : Program} {w : World} {n₀ : Nat} {ann : Option Value} {S : Shared}

theorem st_isAnySet {a : Addr} {es : Array (Int × Value)} {ep : Nat} {t : SetTable} {Q : Bool → Shared → Prop} (ho : S.heap.get? a = some (setObj es ep t)) (q : Q true S) : st p w n₀ ann (Builtin.Frozenset.isAnySet (.ref a)) Q S :=
  feed_st (as := [a, a]) (o := setObj es ep t) (by kernel_rfl) (fun b hb => by simp at hb; rw [hb]; exact ho) q
theorem st_baseOf {a : Addr} {es : Array (Int × Value)} {ep : Nat} {t : SetTable} {Q : Value → Shared → Prop} (ho : S.heap.get? a = some (setObj es ep t)) (q : Q (.type "frozenset") S) : st p w n₀ ann (Builtin.Frozenset.baseOf a) Q S :=
  feed_st (as := [a]) (o := setObj es ep t) (by kernel_rfl) (fun b hb => by simp at hb; rw [hb]; exact ho) q

theorem get_push {h : Heap} {o : Obj} (hf : o.isFreed = false) : (h.push o).get? h.objs.size = some o := Heap.get?_push_size _ hf
theorem upd_push (h : Heap) (x y : Obj) : ((h.push x).update h.objs.size fun _ => y) = h.push y := by
  obtain ⟨objs, l⟩ := h
  show Heap.mk _ _ = Heap.mk _ _
  congr 1
  apply Array.ext_getElem?
  intro i
  rw [Array.getElem?_modify, Array.getElem?_push, Array.getElem?_push]
  by_cases e : objs.size = i
  · subst e; simp
  · have : ¬ i = objs.size := fun z => e z.symm
    simp [e, this]

theorem st_newSet {Q : Value → Shared → Prop} (q : ∀ led, Q (.ref S.heap.objs.size) { S with heap := S.heap.push (setObj #[] 0 (emptyT 7 0 led)) }) : st p w n₀ ann (newSet (.type "frozenset")) Q S := by
  unfold newSet setsByText
  refine st_bind (st_bind (st_ask (st_pure ?_)))
  dsimp only
  generalize (!w.params.followText "set-order") = led
  have e : newObj (.type "frozenset") (.set #[] 0 (.fresh (finger := 0) (moves := 0) (led := led))) = .alloc (setObj #[] 0 (emptyT 7 0 led)) fun a => .pure (.ref a) := by kernel_rfl
  rw [e]
  exact q led

/-- a copy of a set of one to four texts, or of 32, or of 33 -/
theorem st_copyOf {a : Addr} {es : Array (Int × Value)} {ep : Nat} {t : SetTable} {L : List Str} {Q : Value → Shared → Prop} (hn : Nat.ble n₀ S.heap.objs.size = true) (ho : S.heap.get? a = some (setObj es ep t)) (hh : Holds L es t)
    (hl : (1 ≤ L.length ∧ L.length ≤ 4) ∨ L.length = 32 ∨ L.length = 33)
    (q : ∀ es' ep' t', Holds L es' t' → t'.dummies = #[] → (L.length ≤ 4 ∨ t'.mask = 127) → Q (.ref S.heap.objs.size) { S with heap := S.heap.push (setObj es' ep' t') }) : st p w n₀ ann (Builtin.Frozenset.copyOf a) Q S := by
  unfold Builtin.Frozenset.copyOf
  refine st_bind (st_baseOf ho (st_bind (st_newSet fun led => ?_)))
  have hlt : a < S.heap.objs.size := Heap.lt_size ho
  refine st_bind (st_pure ?_)
  refine st_bind (st_mergeFresh (led := led) (L := L) (eo := es) (ep := ep) (to := t) (beq_eq_false_iff_ne.mpr (Nat.ne_of_gt hlt)) hn (get_push rfl) (Heap.get?_push_of_some _ ho) hh hl fun es' ep' t' h hd hk => st_pure ?_)
  dsimp only
  rw [upd_push]
  exact q _ _ _ h hd hk
end
end
section
open PySem PySem.W PySem.Calls PyProof.Rows
set_option maxRecDepth 100000
section
variable {p : Program} {w : World} {n₀ : Nat} {ann : Option Value} {S : Shared}

theorem holds_one {x : Str} {es : Array (Int × Value)} {t : SetTable} (h : Holds [x] es t) : ∃ h0 tk, es = #[(h0, .str x tk)] := by
  have hs := h.size
  obtain ⟨l⟩ := es
  match l, hs with
  | [(h0, v)], _ =>
    have h1 := h.1
    simp only [List.map_cons, List.map_nil] at h1
    have := h1.eq_singleton
    simp only [List.cons.injEq, and_true] at this
    obtain ⟨tk, e⟩ := key_str this
    subst e
    exact ⟨h0, tk, rfl⟩

theorem st_setRelay {a : Addr} {es : Array (Int × Value)} {ep : Nat} {t : SetTable} {L : List Str} {m wanted : Nat} {Q : Unit → Shared → Prop} (ok : reachOk m = true) (back : hops m (m + 1) 0 = 0) (hn : Nat.ble n₀ a = true)
    (ho : S.heap.get? a = some (setObj es ep t)) (hh : Holds L es t) (hw : SetTable.sizeAbove wanted = m + 1) (hm : L.length ≤ m) (hm2 : m < 4096)
    (q : ∀ es' ep' t', Holds L es' t' → Q () { S with heap := S.heap.update a fun _ => setObj es' ep' t' }) : st p w n₀ ann (setRelay a wanted) Q S := by
  unfold setRelay
  refine st_bind (st_setState ho hh ?_)
  dsimp only
  rw [hw, if_neg (by rw [sizeLine_eq]; omega)]
  unfold SetTable.relaid
  rw [hw, show m + 1 - 1 = m from rfl]
  refine st_bind (st_reordered ok back hh (by rw [hh.size]; exact hm) fun es' t' h _ _ => ?_)
  exact st_storeSet hn ho (by rw [h.size]; omega) (q _ _ _ h)

theorem st_walkOne {a : Addr} {others : List Addr} {f : Option Addr} {x : Str} {h0 : Int} {tk : Tok} {ep : Nat} {t : SetTable} {Q : Array (Int × Value) → Shared → Prop} (ho : S.heap.get? a = some (setObj #[(h0, .str x tk)] ep t)) (hh : Holds [x] #[(h0, .str x tk)] t)
    (q : Q #[(h0, .str x tk)] S) : st p w n₀ ann (setWalkUnseen a others f) Q S := by
  unfold setWalkUnseen setsByText
  refine st_bind (st_setState ho hh (st_bind (st_bind (st_ask (st_pure ?_)))))
  dsimp only
  have hc : (w.params.followText "set-order" || (t.led && t.plain) || decide ((#[(h0, Value.str x tk)] : Array (Int × Value)).size ≤ 1)) = true := by simp
  rw [if_pos hc]
  refine st_bind ?_
  refine st_setState ho hh ?_
  dsimp only
  unfold setsByText
  refine st_bind (st_bind (st_ask (st_pure ?_)))
  dsimp only
  split
  · refine st_bind (st_ask (st_pure ?_))
    have e : pickOrder (w.params.setOrder a ep) #[(h0, Value.str x tk)] = #[(h0, Value.str x tk)] := by
      unfold pickOrder
      show pickOrder.go _ 1 0 [(h0, Value.str x tk)] #[] = _
      unfold pickOrder.go
      have : w.params.setOrder a ep 0 % [(h0, Value.str x tk)].length = 0 := Nat.mod_one _
      rw [this]
      rfl
    dsimp only
    rw [e]
    exact q
  · show st p w n₀ ann (if (!t.plain && decide ((#[(h0, Value.str x tk)] : Array (Int × Value)).size > 1)) = true then _ else (do
      (if (!t.led && decide ((#[(h0, Value.str x tk)] : Array (Int × Value)).size > 1)) = true then unsupported "set:maker-not-led" else pure ())
      pure #[(h0, Value.str x tk)])) Q S
    have e1 : decide ((#[(h0, Value.str x tk)] : Array (Int × Value)).size > 1) = false := by simp
    rw [e1, Bool.and_false, Bool.and_false]
    simp only [Bool.false_eq_true, if_false]
    exact st_bind (st_pure (st_pure q))

theorem st_mergeOne {s o : Addr} (hne : (s == o) = false) {L : List Str} {x : Str} {es eo : Array (Int × Value)} {ep eps : Nat} {t to : SetTable} {Q : Unit → Shared → Prop} {each : Sem Unit} (hn : Nat.ble n₀ s = true)
    (hs : S.heap.get? s = some (setObj es eps t)) (ho : S.heap.get? o = some (setObj eo ep to)) (hh : Holds L es t) (hx : Holds [x] eo to) (hxL : x ∉ L) (hl : L.length = 2 ∨ L.length = 32)
    (heach : ∀ (S' : Shared) (Q' : Unit → Shared → Prop), S'.heap.get? o = some (setObj eo ep to) → Q' () S' → st p w n₀ ann each Q' S')
    (q : ∀ es' ep' t', Holds (L ++ [x]) es' t' → Q () { S with heap := S.heap.update s fun _ => setObj es' ep' t' }) : st p w n₀ ann (setMerge s o each) Q S := by
  have hne' : o ≠ s := fun e => by rw [e] at hne; simp at hne
  obtain ⟨h0, tk, rfl⟩ := holds_one hx
  unfold setMerge
  rw [hne]
  simp only [Bool.false_eq_true, if_false]
  refine st_bind (st_setState ho hx ?_)
  dsimp only
  rw [show (#[(h0, Value.str x tk)] : Array (Int × Value)).isEmpty = false from rfl]
  simp only [Bool.false_eq_true, if_false]
  -- behind the room
  have rest : ∀ es1 ep1 t1, Holds L es1 t1 → st p w n₀ ann (do
      let (_, _, ts) ← setState s
      match ts.road to with
      | .slotForSlot => storeSet s #[(h0, Value.str x tk)] { to with finger := ts.finger, led := ts.led && to.led, moves := ts.moves, plain := ts.plain && to.plain }
      | .clean =>
        let (es, t) ← (do
          let some (t, order) := SetTable.laid ts.mask ts.finger ts.moves (ts.led && to.led) (ts.plain && to.plain) ((#[(h0, Value.str x tk)] : Array (Int × Value)).map (·.1)) | unsupported "internal:set-table-without-room"
          let es' := order.filterMap ((#[(h0, Value.str x tk)] : Array (Int × Value))[·]?)
          if es'.size != (#[(h0, Value.str x tk)] : Array (Int × Value)).size then unsupported "internal:set-table-lost-an-element"
          pure (es', t) : Sem (Array (Int × Value) × SetTable))
        storeSet s es t
      | .oneByOne =>
        for (h, x) in ← setWalkUnseen o [s] (some s) do
          let _ ← holding [x] (setAddHashed s x h)
          each
          if (← setState o).2.1 != ep then unsupported "set.changed-during-merge") Q { S with heap := S.heap.update s fun _ => setObj es1 ep1 t1 } := fun es1 ep1 t1 h1 => by
    have g1 : (S.heap.update s fun _ => setObj es1 ep1 t1).get? s = some (setObj es1 ep1 t1) := get_upd hs rfl
    have g2 : (S.heap.update s fun _ => setObj es1 ep1 t1).get? o = some (setObj #[(h0, Value.str x tk)] ep to) := by rw [get_upd_ne hne']; exact ho
    refine st_bind (st_setState g1 h1 ?_)
    dsimp only
    have hr : t1.road to = .oneByOne := by
      unfold SetTable.road
      rw [if_pos]
      have hf := h1.2
      simp only [SetTable.fits, Bool.and_eq_true, beq_iff_eq] at hf
      have := h1.size
      simp only [SetTable.fill, bne_iff_ne, ne_eq]
      omega
    rw [hr]
    dsimp only
    refine st_bind (st_walkOne g2 hx ?_)
    rw [← Array.forIn_toList]
    simp only [List.forIn_cons, List.forIn_nil]
    refine st_bind (st_bind ?_)
    refine st_bind (st_holding (st_addHashed hn g1 h1 hxL (by omega) fun es2 ep2 t2 h2 => ?_))
    have g3 : ((S.heap.update s fun _ => setObj es1 ep1 t1).update s fun _ => setObj es2 ep2 t2).get? o = some (setObj #[(h0, Value.str x tk)] ep to) := by rw [get_upd_ne hne']; exact g2
    refine st_bind (heach _ _ g3 (st_bind (st_setState g3 hx ?_)))
    dsimp only
    rw [bne_self_eq_false]
    simp only [Bool.false_eq_true, if_false]
    refine st_pure ?_
    dsimp only
    refine st_pure (st_pure ?_)
    rw [upd_upd]
    exact q _ _ _ h2
  unfold setRoomFor
  refine st_bind (st_bind (st_setState hs hh ?_))
  dsimp only
  cases hw : t.roomFor (#[(h0, Value.str x tk)] : Array (Int × Value)).size with
  | none =>
    dsimp only
    refine st_pure ?_
    have := rest es eps t hh
    rw [upd_self hs] at this
    exact this
  | some wanted =>
    dsimp only
    have e : wanted = (L.length + 1) * 2 := by
      unfold SetTable.roomFor at hw
      split at hw
      · cases hw
        have hf := hh.2
        simp only [SetTable.fits, Bool.and_eq_true, beq_iff_eq] at hf
        rw [hf.1, hh.size]; rfl
      · cases hw
    subst e
    rcases hl with e | e
    · exact st_setRelay (m := 7) reach7.1 reach7.2 hn hs hh (by rw [e]; decide +kernel) (by omega) (by omega) rest
    · exact st_setRelay (m := 127) reach127.1 reach127.2 hn hs hh (by rw [e]; decide +kernel) (by omega) (by omega) rest
end
end
section
open PySem PySem.W PySem.Calls PyProof.Rows
set_option maxRecDepth 100000
section
variable {p : Program} {w : World} {n₀ : Nat} {ann : Option Value} {S : Shared}

theorem st_or {l r : Addr} {L : List Str} {x : Str} {es eo : Array (Int × Value)} {ep eps : Nat} {t to : SetTable} {Q : PySem.Fin → Shared → Prop} (hn : Nat.ble n₀ S.heap.objs.size = true) (hne : l ≠ r)
    (hs : S.heap.get? l = some (setObj es eps t)) (ho : S.heap.get? r = some (setObj eo ep to)) (hh : Holds L es t) (hx : Holds [x] eo to) (hxL : x ∉ L) (hl : L.length = 2 ∨ L.length = 32)
    (q : ∀ es' ep' t', Holds (L ++ [x]) es' t' → Q (.done (.ret (.ref S.heap.objs.size))) { S with heap := S.heap.push (setObj es' ep' t') }) : st p w n₀ ann (Builtin.«frozenset.__or__» ⟨[.ref l, .ref r], []⟩) Q S := by
  have hlt : l < S.heap.objs.size := Heap.lt_size hs
  have hrt : r < S.heap.objs.size := Heap.lt_size ho
  show st p w n₀ ann (do
    let c ← (Builtin.Frozenset.isAnySet (.ref l) <&&> Builtin.Frozenset.isAnySet (.ref r))
    if !c then do
      rule s!"frozenset.{"__or__"}.declined"
      let y ← ret .notImplemented
      pure y
    else do
      let a ← Builtin.Frozenset.addrOf (.ref l)
      let v ← (do
        let result ← Builtin.Frozenset.copyOf a
        if (Value.ref r != .ref a) then do
          let b ← Builtin.Frozenset.addrOf result
          holding [result] (Builtin.Frozenset.updateFrom s!"frozenset.{"__or__"}" b (.ref r))
          pure result
        else pure result : Sem Value)
      ret v) Q S
  refine st_bind (st_bind (st_isAnySet hs ?_))
  refine st_isAnySet ho ?_
  simp only [Bool.not_true, Bool.false_eq_true, if_false]
  refine st_bind (st_pure ?_)
  refine st_bind (st_bind (st_copyOf (L := L) hn hs hh (by omega) fun es1 ep1 t1 h1 _ _ => ?_))
  have hv : (Value.ref r != Value.ref l) = true := by
    rw [bne_iff_ne]; intro e; exact hne (Value.ref.inj e).symm
  rw [if_pos hv]
  refine st_bind (st_pure ?_)
  refine st_bind (st_holding ?_)
  have g1 : (S.heap.push (setObj es1 ep1 t1)).get? r = some (setObj eo ep to) := Heap.get?_push_of_some _ ho
  unfold Builtin.Frozenset.updateFrom
  refine st_bind (st_isAnySet g1 ?_)
  simp only [if_true]
  refine st_bind ?_
  refine st_pure ?_
  unfold Builtin.Frozenset.merge setEpoch
  refine st_bind (st_bind (st_setState g1 hx (st_pure ?_)))
  refine st_mergeOne (L := L) (x := x) (beq_eq_false_iff_ne.mpr (Nat.ne_of_gt hrt)) hn (get_push rfl) g1 h1 hx hxL hl ?_ fun es' ep' t' h' => ?_
  · intro S' Q' hS' hq
    unfold Builtin.Frozenset.unchanged setEpoch
    refine st_bind (st_bind (st_setState hS' hx (st_pure ?_)))
    rw [bne_self_eq_false]
    simp only [Bool.false_eq_true, if_false]
    exact st_pure hq
  · refine st_pure (st_pure ?_)
    dsimp only
    rw [upd_push]
    exact q _ _ _ h'

theorem calls_or {l r : Addr} {L : List Str} {x : Str} {es eo : Array (Int × Value)} {ep eps : Nat} {t to : SetTable} (hn : Nat.ble n₀ S.heap.objs.size = true) (hne : l ≠ r)
    (hs : S.heap.get? l = some (setObj es eps t)) (ho : S.heap.get? r = some (setObj eo ep to)) (hh : Holds L es t) (hx : Holds [x] eo to) (hxL : x ∉ L) (hl : L.length = 2 ∨ L.length = 32) (F : Frame) (B : List Frame) (pos : Pos) :
    ∃ es' ep' t' pos', Holds (L ++ [x]) es' t' ∧ Leads p w n₀ ann S ⟨denote treeTable (.builtin "frozenset.__or__" ⟨[.ref l, .ref r], []⟩), .builtin "frozenset.__or__" ⟨[.ref l, .ref r], []⟩, pos, F :: B⟩
      { S with heap := S.heap.push (setObj es' ep' t') } ⟨.pure (.done (.ret (.ref S.heap.objs.size))), .builtin "frozenset.__or__" ⟨[.ref l, .ref r], []⟩, pos', F :: B⟩ := by
  have h := st_or (p := p) (w := w) (ann := ann) (Q := fun fin S' => ∃ es' ep' t', Holds (L ++ [x]) es' t' ∧ fin = .done (.ret (.ref S.heap.objs.size)) ∧ S' = { S with heap := S.heap.push (setObj es' ep' t') }) hn hne hs ho hh hx hxL hl
    fun es' ep' t' h => ⟨es', ep', t', h, rfl, rfl⟩
  rw [← den_builtin (b := Builtin.«frozenset.__or__») (by kernel_rfl)] at h
  obtain ⟨fin, S', pos', ⟨es', ep', t', hh', rfl, rfl⟩, lead⟩ := st_leads Sem.pure (.builtin "frozenset.__or__" ⟨[.ref l, .ref r], []⟩) F B pos h
  rw [bind_pure_fin] at lead
  exact ⟨es', ep', t', pos', hh', lead⟩
end
end
section
open PySem PySem.W PySem.Calls PyProof.Rows
set_option maxRecDepth 100000
section
variable {p : Program} {w : World} {n₀ : Nat} {ann : Option Value} {S : Shared}

theorem call_strEq (x : Str) (t1 t2 : Tok) : CallsTo p w n₀ ann (.call (.builtin "str.__eq__") ⟨[.str x t1, .str x t2], []⟩) S (.ok (.ret (.bool true))) S := by
  refine callsTo_of ?_
  have e : denote treeTable (.call (.builtin "str.__eq__") ⟨[.str x t1, .str x t2], []⟩) = .pure (.again (.builtin "str.__eq__" ⟨[.str x t1, .str x t2], []⟩)) := by kernel_rfl
  rw [e]
  refine ⟨by show (!("str.__eq__".startsWith "lifetime.")) = true; decide +kernel, callsTo_of ?_⟩
  have e2 : denote treeTable (.builtin "str.__eq__" ⟨[.str x t1, .str x t2], []⟩) = .pure (.done (.ret (.bool (x.cps.toList == x.cps.toList)))) := by kernel_rfl
  rw [e2, beq_self_eq_true]
  exact ⟨rfl, rfl⟩

theorem st_bindEq (x : Str) (tk : Tok) {Q : Option (Value × List Value) → Shared → Prop} (q : Q (some (.builtin "str.__eq__", [.str x tk])) S) : st p w n₀ ann (bindSpecialIfBound? (.str x tk) "__eq__") Q S := by
  unfold bindSpecialIfBound?
  have e1 : specialOf (.str x tk) "__eq__" = pure (some (.builtin "str.__eq__")) := by kernel_rfl
  have e2 : bindSpecial (.builtin "str.__eq__") (.str x tk) = pure (.builtin "str.__eq__", [.str x tk]) := by kernel_rfl
  rw [e1]
  refine st_bind (st_pure ?_)
  dsimp only
  rw [e2]
  refine st_bind (st_ask ?_)
  dsimp only
  split
  · exact st_bind (st_pure (st_pure q))
  · exact st_tryCatch (st_bind (st_pure (st_pure q)))

theorem st_eqStr (x : Str) (t1 t2 : Tok) {Q : Bool → Shared → Prop} (q : Q true S) : st p w n₀ ann (eqBool (.str x t1) (.str x t2)) Q S := by
  unfold eqBool
  refine st_holding ?_
  split
  · exact st_bind (st_rule (st_pure q))
  · dsimp only
    refine st_bind ?_
    unfold richCompare
    refine st_holding ?_
    have e1 : cRoomFor "comparison" [.str x t1, .str x t2] = pure () := rfl
    have e2 : oneThing? .Eq (.str x t1) (.str x t2) = none := rfl
    rw [e1, e2]
    refine st_bind (st_pure ?_)
    dsimp only [cmpInfo]
    refine st_bind (st_pure (st_bind (st_pure ?_)))
    rw [bne_self_eq_false]
    simp only [Bool.false_eq_true, if_false]
    refine st_bind (st_pure ?_)
    simp only [Bool.false_eq_true, if_false]
    refine st_bind ?_
    unfold tryCompare callSpecialIfBound?
    refine st_bind (st_holding (st_bind (st_bindEq x t1 ?_)))
    dsimp only
    refine st_bind (st_call (call_strEq x t1 t2) (st_pure ?_))
    dsimp only
    refine st_pure (st_pure ?_)
    exact q

theorem st_find {a : Addr} {es : Array (Int × Value)} {ep : Nat} {t : SetTable} {L : List Str} {x : Str} {tk : Tok} {h : Int} {Q : Option Nat → Shared → Prop} (ho : S.heap.get? a = some (setObj es ep t)) (hh : Holds L es t)
    (hx : x ∈ L) (hl : L.length < 4096) (q : ∀ i (hi : i < es.size), keyOf es[i].2 = some x → Q (some i) S) : st p w n₀ ann (setFind a (.str x tk) h) Q S := by
  unfold setFind setFindIn
  refine st_bind (st_setState ho hh ?_)
  dsimp only
  rw [hh.byScan (x := .str x tk) rfl hl]
  simp only [↓reduceIte]
  refine st_bind (st_rule ?_)
  have hf := hh.find x
  rw [decide_eq_true hx] at hf
  obtain ⟨i, hi⟩ := Option.isSome_iff_exists.mp hf
  obtain ⟨hlt, hp, _⟩ := Array.findIdx?_eq_some_iff_getElem.mp hi
  have hk : ∃ t1, es[i].2 = .str x t1 := by
    obtain ⟨y, t1, e1, _⟩ := hh.strs es[i] (by simp)
    rw [e1, isStr_str] at hp
    have := of_decide_eq_true hp
    subst this
    exact ⟨t1, e1⟩
  obtain ⟨t1, hk⟩ := hk
  have hs : ∀ {Q' : ScanMet → Shared → Prop}, Q' (.found i) S → st p w n₀ ann (setScan a (.str x tk) h false es) Q' S := by
    intro Q' hq
    unfold setScan
    dsimp only
    rw [if_pos hh.exact]
    unfold setScanStrs
    rw [hi]
    dsimp only
    have : es[i]? = some (es[i].1, es[i].2) := Array.getElem?_eq_getElem hlt
    rw [this]
    dsimp only
    unfold setEpoch
    refine st_bind (st_bind (st_setState ho hh (st_pure ?_)))
    rw [hk]
    refine st_bind (st_eqStr x t1 tk ?_)
    simp only [Bool.false_and, Bool.false_eq_true, if_false]
    refine st_bind (st_bind (st_setState ho hh (st_pure ?_)))
    rw [bne_self_eq_false]
    simp only [Bool.false_eq_true, if_false, if_true]
    exact st_pure hq
  refine st_bind (hs ?_)
  dsimp only
  exact st_pure (q i hlt (by rw [hk]; rfl))

theorem perm_eraseIdx {α : Type} : ∀ {l : List α} {i : Nat} (h : i < l.length), l.Perm (l[i] :: l.eraseIdx i)
  | a :: l, 0, _ => .refl _
  | a :: l, i + 1, h => by
    have := perm_eraseIdx (l := l) (i := i) (by simpa using h)
    simp only [List.eraseIdx_cons_succ, List.getElem_cons_succ]
    exact (this.cons a).trans (.swap _ _ _)
theorem eraseAt_toList {α : Type} (xs : Array α) (i : Nat) : (SetTable.eraseAt xs i).toList = xs.toList.eraseIdx i := by
  unfold SetTable.eraseAt
  rw [Array.toList_append, Array.toList_extract, Array.toList_extract, List.eraseIdx_eq_take_drop_succ]
  simp [List.extract_eq_take_drop, List.take_of_length_le]

theorem st_discard {a : Addr} {es : Array (Int × Value)} {ep : Nat} {t : SetTable} {L : List Str} {x : Str} {tk : Tok} {h : Int} {Q : Bool → Shared → Prop} (hn : Nat.ble n₀ a = true) (ho : S.heap.get? a = some (setObj es ep t)) (hh : Holds L es t)
    (hx : x ∈ L) (hl : L.length < 4096) (hN : L.Nodup)
    (q : ∀ es' ep' t', Holds (L.erase x) es' t' → t'.mask = t.mask → t'.dummies.size ≤ t.dummies.size + 1 → Q true { S with heap := S.heap.update a fun _ => setObj es' ep' t' }) : st p w n₀ ann (setDiscardHashed a (.str x tk) h) Q S := by
  unfold setDiscardHashed
  refine st_bind (st_find ho hh hx hl fun i hi hk => ?_)
  dsimp only
  refine st_bind (st_setState ho hh ?_)
  dsimp only
  have hsz : (SetTable.eraseAt es i).size = L.length - 1 := by
    rw [← Array.length_toList, eraseAt_toList, List.length_eraseIdx, Array.length_toList, hh.size, if_pos (by rw [← hh.size]; exact hi)]
  have hf := hh.2
  simp only [SetTable.fits, Bool.and_eq_true, beq_iff_eq, decide_eq_true_eq] at hf
  have hj : t.place[i]? = some (t.place[i]'(by rw [hf.1]; exact hi)) := Array.getElem?_eq_getElem _
  have hd : t.drop i = { t with place := SetTable.eraseAt t.place i, dummies := SetTable.insertAt t.dummies (SetTable.below t.dummies (t.place[i]'(by rw [hf.1]; exact hi))) (t.place[i]'(by rw [hf.1]; exact hi)) } := by
    unfold SetTable.drop
    rw [hj]
  generalize (t.place[i]'(by rw [hf.1]; exact hi)) = j at hd
  have hps : (SetTable.eraseAt t.place i).size = L.length - 1 := by
    rw [← Array.length_toList, eraseAt_toList, List.length_eraseIdx, Array.length_toList, hf.1, hh.size, if_pos (by rw [← hh.size]; exact hi)]
  have hds : (SetTable.insertAt t.dummies (SetTable.below t.dummies j) j).size = t.dummies.size + 1 := by
    rw [← Array.length_toList, (SetTable.insertAt_perm _ _ _).length_eq]; simp
  have hLpos : 0 < L.length := List.length_pos_of_mem hx
  have hnew : Holds (L.erase x) (SetTable.eraseAt es i) (t.drop i) := by
    refine ⟨?_, ?_⟩
    · rw [eraseAt_toList]
      have hi' : i < es.toList.length := by simpa using hi
      have e1 : (es.toList.map fun e => keyOf e.2).Perm (some x :: (es.toList.eraseIdx i).map fun e => keyOf e.2) := by
        have : es.toList.Perm (es.toList[i] :: es.toList.eraseIdx i) := perm_eraseIdx hi'
        have h2 := this.map fun e => keyOf e.2
        rw [List.map_cons] at h2
        have h3 : keyOf es.toList[i].2 = some x := by simpa using hk
        rw [h3] at h2
        exact h2
      have e2 : (L.map some).Perm (some x :: (L.erase x).map some) := by
        have := (List.perm_cons_erase hx).map some
        simpa using this
      have := (e1.symm.trans hh.1).trans e2
      exact this.cons_inv
    · rw [hd]
      simp only [SetTable.fits, SetTable.fill, hps, hds, hsz, Bool.and_eq_true, beq_iff_eq, decide_eq_true_eq, true_and]
      have h2 := hf.2
      unfold SetTable.fill at h2
      rw [hf.1, hh.size] at h2
      omega
  refine st_bind (st_storeSet hn ho (by rw [hsz]; omega) (st_bind (st_point (st_pure ?_))))
  refine q _ _ _ hnew ?_ ?_
  · rw [hd]
  · rw [hd]; dsimp only; omega
end
end
section
open PySem PySem.W PySem.Calls PyProof.Rows
set_option maxRecDepth 100000
theorem pickOrder_go {α : Type} (next : Nat → Nat) : ∀ (n k : Nat) (left : List α) (out : Array α), left.length = n → (pickOrder.go next n k left out).toList.Perm (out.toList ++ left)
  | 0, k, left, out, h => by
    have : left = [] := List.length_eq_zero_iff.mp h
    subst this
    unfold pickOrder.go
    simp
  | n + 1, k, left, out, h => by
    have hlt : next k % left.length < left.length := Nat.mod_lt _ (by omega)
    unfold pickOrder.go
    rw [List.getElem?_eq_getElem hlt]
    dsimp only
    refine (pickOrder_go next n (k + 1) _ _ (by rw [List.length_eraseIdx, if_pos hlt]; omega)).trans ?_
    rw [Array.toList_push, List.append_assoc]
    exact (perm_eraseIdx hlt).symm.append_left _
theorem pickOrder_perm {α : Type} (next : Nat → Nat) (xs : Array α) : (pickOrder next xs).toList.Perm xs.toList := by
  have := pickOrder_go next xs.size 0 xs.toList #[] (by simp)
  simpa [pickOrder] using this
section
variable {p : Program} {w : World} {n₀ : Nat} {ann : Option Value} {S : Shared}
theorem st_idle {β σ : Type} {es : Array β} {s0 : σ} {f : β → σ → Sem (ForInStep σ)} {Q : σ → Shared → Prop} (h : ∀ e ∈ es.toList, f e s0 = pure (.yield s0)) (q : Q s0 S) : st p w n₀ ann (forIn es s0 f) Q S := by
  rw [← Array.forIn_toList]
  generalize es.toList = l at h
  induction l with
  | nil => exact q
  | cons e l ih =>
    rw [List.forIn_cons, h e (.head _)]
    exact st_bind (st_pure (ih fun x hx => h x (.tail _ hx)))
theorem st_quiet {a b : Addr} {L M : List Str} {es eo : Array (Int × Value)} {ep eps : Nat} {t to : SetTable} {Q : Bool → Shared → Prop} 
    (hs : S.heap.get? a = some (setObj es eps t)) (ho : S.heap.get? b = some (setObj eo ep to)) (hh : Holds L es t) (hx : Holds M eo to) (q : Q true S) : st p w n₀ ann (setsQuiet [a, b]) Q S := by
  unfold setsQuiet
  simp only [List.forIn_cons, List.forIn_nil]
  unfold setEntries
  refine st_bind (st_bind ?_)
  refine st_bind (st_bind (st_setState hs hh (st_pure ?_)))
  refine st_bind (st_idle (fun e he => ?_) ?_)
  · obtain ⟨x, tk, e1, _⟩ := hh.strs e he
    rw [e1]
  refine st_pure ?_
  dsimp only
  refine st_bind (st_bind (st_bind (st_setState ho hx (st_pure ?_))))
  refine st_bind (st_idle (fun e he => ?_) ?_)
  · obtain ⟨x, tk, e1, _⟩ := hx.strs e he
    rw [e1]
  exact st_pure (st_pure (st_pure q))

theorem st_setWalk {a : Addr} {L : List Str} {es : Array (Int × Value)} {ep : Nat} {t : SetTable} {Q : Array (Int × Value) → Shared → Prop} (ho : S.heap.get? a = some (setObj es ep t)) (hh : Holds L es t)
    (hc : (w.params.followText "set-order" || (t.led && t.plain) || decide (es.size ≤ 1)) = true) (q : ∀ es' : Array (Int × Value), es'.toList.Perm es.toList → Q es' S) : st p w n₀ ann (setWalk a) Q S := by
  unfold setWalk setsByText
  refine st_bind (st_setState ho hh (st_bind (st_bind (st_ask (st_pure ?_)))))
  dsimp only
  split
  · refine st_bind (st_ask (st_pure ?_))
    exact q _ (pickOrder_perm _ _)
  · rename_i hb
    rw [Bool.not_eq_true] at hb
    rw [hb, Bool.false_or, Bool.or_eq_true, Bool.and_eq_true, decide_eq_true_eq] at hc
    show st p w n₀ ann (if (!t.plain && decide (es.size > 1)) = true then _ else (do
      (if (!t.led && decide (es.size > 1)) = true then unsupported "set:maker-not-led" else pure ())
      pure es)) Q S
    have e1 : (!t.plain && decide (es.size > 1)) = false := by
      rcases hc with hc | hc
      · rw [hc.2]; rfl
      · rw [decide_eq_false (by omega), Bool.and_false]
    have e2 : (!t.led && decide (es.size > 1)) = false := by
      rcases hc with hc | hc
      · rw [hc.1]; rfl
      · rw [decide_eq_false (by omega), Bool.and_false]
    rw [e1, e2]
    simp only [Bool.false_eq_true, if_false]
    exact st_bind (st_pure (st_pure (q es (.refl _))))

theorem st_walkAny {a b : Addr} {L M : List Str} {es eo : Array (Int × Value)} {ep eps : Nat} {t to : SetTable} {Q : Array (Int × Value) → Shared → Prop}
    (ho : S.heap.get? a = some (setObj eo ep to)) (hs : S.heap.get? b = some (setObj es eps t)) (hx : Holds M eo to) (hh : Holds L es t) (q : ∀ es' : Array (Int × Value), es'.toList.Perm eo.toList → Q es' S) : st p w n₀ ann (setWalkUnseen a [b] none) Q S := by
  unfold setWalkUnseen setsByText
  refine st_bind (st_setState ho hx (st_bind (st_bind (st_ask (st_pure ?_)))))
  dsimp only
  split
  · rename_i hc
    exact st_setWalk ho hx hc q
  · refine st_bind (st_quiet ho hs hx hh ?_)
    simp only [Bool.not_true, Bool.false_eq_true, if_false]
    exact st_bind (st_rule (st_pure (q _ (.refl _))))

/-- the discards of a difference -/
theorem st_discards {a o : Addr} {M : List Str} {eo : Array (Int × Value)} {ep : Nat} {to : SetTable} {id : String} (hne : o ≠ a) (hn : Nat.ble n₀ a = true) (hx : Holds M eo to) : ∀ {l : List (Int × Value)} {R : List Str} {L : List Str} {es : Array (Int × Value)} {eps : Nat} {t : SetTable} {S : Shared} {Q : PUnit → Shared → Prop},
    l.map (fun e => keyOf e.2) = R.map some → S.heap.get? a = some (setObj es eps t) → S.heap.get? o = some (setObj eo ep to) → Holds L es t → R.Nodup → (∀ x ∈ R, x ∈ L) → L.Nodup → L.length < 4096 →
    (∀ es' ep' t', Holds (R.foldl List.erase L) es' t' → t'.mask = t.mask → t'.dummies.size ≤ t.dummies.size + R.length → Q PUnit.unit { S with heap := S.heap.update a fun _ => setObj es' ep' t' }) →
    st p w n₀ ann (forIn l PUnit.unit fun x (_ : PUnit) => do
      let _ ← holding [x.2] (setDiscardHashed a x.2 x.1)
      Builtin.Frozenset.unchanged id o ep
      pure (ForInStep.yield PUnit.unit)) Q S := by
  intro l
  induction l with
  | nil =>
    intro R L es eps t S Q hR hs ho hh _ _ _ _ q
    have : R = [] := by simpa using hR.symm
    subst this
    have := q es eps t hh rfl (Nat.le_refl _)
    rw [upd_self hs] at this
    exact this
  | cons e l ih =>
    intro R L es eps t S Q hR hs ho hh hRN hRL hLN hl q
    obtain ⟨x, R, rfl⟩ : ∃ x R', R = x :: R' := by cases R with | nil => simp at hR | cons x R => exact ⟨_, _, rfl⟩
    rw [List.map_cons, List.map_cons, List.cons.injEq] at hR
    obtain ⟨hk, hR⟩ := hR
    obtain ⟨h0, v⟩ := e
    obtain ⟨tk, rfl⟩ := key_str hk
    rw [List.forIn_cons]
    refine st_bind (st_bind (st_holding (st_discard hn hs hh (hRL x (.head _)) hl hLN fun es1 ep1 t1 h1 hm1 hd1 => ?_)))
    have g1 : (S.heap.update a fun _ => setObj es1 ep1 t1).get? o = some (setObj eo ep to) := by rw [get_upd_ne hne]; exact ho
    unfold Builtin.Frozenset.unchanged setEpoch
    refine st_bind (st_bind (st_bind (st_setState g1 hx (st_pure ?_))))
    rw [bne_self_eq_false]
    simp only [Bool.false_eq_true, if_false]
    refine st_pure (st_pure ?_)
    refine ih hR (get_upd hs rfl) g1 h1 (List.nodup_cons.mp hRN).2 (fun y hy => ?_) (hLN.erase x) (Nat.lt_of_le_of_lt (List.length_erase_le ..) hl) fun es' ep' t' h' hm hd => ?_
    · refine (List.mem_erase_of_ne ?_).mpr (hRL y (.tail _ hy))
      rintro rfl
      exact (List.nodup_cons.mp hRN).1 hy
    · have := q es' ep' t' h' (hm.trans hm1) (by simp only [List.length_cons]; omega)
      dsimp only
      rw [upd_upd]
      exact this
end
end
section
open PySem PySem.W PySem.Calls PyProof.Rows
set_option maxRecDepth 100000
section
variable {p : Program} {w : World} {n₀ : Nat} {ann : Option Value} {S : Shared}
theorem st_sizeOf {a : Addr} {L : List Str} {es : Array (Int × Value)} {ep : Nat} {t : SetTable} {Q : Nat → Shared → Prop} (ho : S.heap.get? a = some (setObj es ep t)) (hh : Holds L es t) (q : Q L.length S) : st p w n₀ ann (Builtin.Frozenset.sizeOf a) Q S := by
  unfold Builtin.Frozenset.sizeOf setEntries
  refine st_bind (st_bind (st_setState ho hh (st_pure (st_pure ?_))))
  dsimp only
  rw [hh.size]
  exact q
theorem perm_keys {M : List Str} {l : List (Int × Value)} (h : (l.map fun e => keyOf e.2).Perm (M.map some)) : ∃ R : List Str, l.map (fun e => keyOf e.2) = R.map some ∧ R.Perm M := by
  have hs : ∀ e ∈ l, ∃ x, keyOf e.2 = some x := fun e he => by
    have : keyOf e.2 ∈ M.map some := h.mem_iff.mp (List.mem_map_of_mem he)
    obtain ⟨x, _, e1⟩ := List.mem_map.mp this
    exact ⟨x, e1.symm⟩
  have : ∃ R : List Str, l.map (fun e => keyOf e.2) = R.map some := by
    clear h
    induction l with
    | nil => exact ⟨[], rfl⟩
    | cons e l ih =>
      obtain ⟨R, hR⟩ := ih fun x hx => hs x (.tail _ hx)
      obtain ⟨x, hx⟩ := hs e (.head _)
      exact ⟨x :: R, by rw [List.map_cons, List.map_cons, hR, hx]⟩
  obtain ⟨R, hR⟩ := this
  refine ⟨R, hR, ?_⟩
  rw [hR] at h
  have := h.filterMap id
  simpa [List.filterMap_map] using this

theorem st_sub {l r : Addr} {L M : List Str} {es eo : Array (Int × Value)} {ep eps : Nat} {t to : SetTable} {Q : PySem.Fin → Shared → Prop} (hn : Nat.ble n₀ S.heap.objs.size = true) (hne : l ≠ r)
    (hs : S.heap.get? l = some (setObj es eps t)) (ho : S.heap.get? r = some (setObj eo ep to)) (hh : Holds L es t) (hx : Holds M eo to) (hl : L.length = 33) (hm : M.length = 1 ∨ M.length = 2) (hLN : L.Nodup) (hMN : M.Nodup) (hML : ∀ x ∈ M, x ∈ L)
    (q : ∀ (R : List Str) es' ep' t', R.Perm M → Holds (R.foldl List.erase L) es' t' → Q (.done (.ret (.ref S.heap.objs.size))) { S with heap := S.heap.push (setObj es' ep' t') }) : st p w n₀ ann (Builtin.«frozenset.__sub__» ⟨[.ref l, .ref r], []⟩) Q S := by
  have hlt : l < S.heap.objs.size := Heap.lt_size hs
  have hrt : r < S.heap.objs.size := Heap.lt_size ho
  show st p w n₀ ann (do
    let c ← (Builtin.Frozenset.isAnySet (.ref l) <&&> Builtin.Frozenset.isAnySet (.ref r))
    if !c then do
      rule s!"frozenset.{"__sub__"}.declined"
      let y ← ret .notImplemented
      pure y
    else do
      let a ← Builtin.Frozenset.addrOf (.ref l)
      let v ← Builtin.Frozenset.difference s!"frozenset.{"__sub__"}" a (.ref r)
      ret v) Q S
  refine st_bind (st_bind (st_isAnySet hs ?_))
  refine st_isAnySet ho ?_
  simp only [Bool.not_true, Bool.false_eq_true, if_false]
  refine st_bind (st_pure ?_)
  refine st_bind ?_
  unfold Builtin.Frozenset.difference
  dsimp only
  refine st_bind (st_isAnySet ho ?_)
  simp only [Bool.not_true, Bool.false_eq_true, if_false, if_true, Bool.false_and]
  refine st_bind (st_pure ?_)
  refine st_bind (st_sizeOf ho hx ?_)
  refine st_bind (st_sizeOf hs hh ?_)
  rw [if_pos (show L.length / 4 > M.length by omega)]
  refine st_bind (st_rule ?_)
  refine st_bind (st_copyOf (L := L) hn hs hh (by omega) fun es1 ep1 t1 h1 hd1 hk1 => ?_)
  have g0 : (S.heap.push (setObj es1 ep1 t1)).get? S.heap.objs.size = some (setObj es1 ep1 t1) := get_push rfl
  have g1 : (S.heap.push (setObj es1 ep1 t1)).get? r = some (setObj eo ep to) := Heap.get?_push_of_some _ ho
  refine st_bind (st_pure ?_)
  refine st_bind (st_holding ?_)
  unfold Builtin.Frozenset.differenceUpdate
  have hv : (Value.ref r == Value.ref S.heap.objs.size) = false := by
    rw [beq_eq_false_iff_ne]; intro e; exact Nat.ne_of_lt hrt (Value.ref.inj e)
  rw [hv]
  simp only [Bool.false_eq_true, if_false]
  refine st_bind (st_isAnySet g1 ?_)
  simp only [if_true]
  refine st_bind (st_pure ?_)
  refine st_bind (st_sizeOf g1 hx ?_)
  refine st_bind (st_sizeOf g0 h1 ?_)
  rw [if_neg (show ¬ M.length / 8 > L.length by omega)]
  refine st_bind ?_
  unfold setEpoch
  refine st_bind (st_setState g1 hx (st_pure ?_))
  dsimp only
  refine st_bind (st_holding (st_bind (st_walkAny g1 g0 hx h1 fun es' hp => ?_)))
  obtain ⟨R, hR, hRM⟩ := perm_keys ((hp.map fun e => keyOf e.2).trans hx.1)
  rw [← Array.forIn_toList]
  refine st_bind (st_discards (a := S.heap.objs.size) (o := r) (Nat.ne_of_lt hrt) hn hx hR g0 g1 h1 (hRM.nodup_iff.mpr hMN) (fun x hxR => hML x (hRM.mem_iff.mp hxR)) hLN (by omega) fun es2 ep2 t2 h2 hm2 hd2 => ?_)
  refine st_pure ?_
  dsimp only
  unfold setTidy
  refine st_bind (st_setState (get_upd g0 rfl) h2 ?_)
  have htm : t2.tooManyDummies = false := by
    unfold SetTable.tooManyDummies
    have hk : t1.mask = 127 := by omega
    have : R.length ≤ 2 := by rw [hRM.length_eq]; omega
    rw [hd1] at hd2
    simp only [List.size_toArray, List.length_nil] at hd2
    rw [hm2, hk]
    exact decide_eq_false (by omega)
  dsimp only
  rw [htm]
  simp only [Bool.false_eq_true, if_false]
  refine st_pure (st_pure ?_)
  rw [upd_push]
  exact q R _ _ _ hRM h2

theorem calls_sub {l r : Addr} {L M : List Str} {es eo : Array (Int × Value)} {ep eps : Nat} {t to : SetTable} (hn : Nat.ble n₀ S.heap.objs.size = true) (hne : l ≠ r)
    (hs : S.heap.get? l = some (setObj es eps t)) (ho : S.heap.get? r = some (setObj eo ep to)) (hh : Holds L es t) (hx : Holds M eo to) (hl : L.length = 33) (hm : M.length = 1 ∨ M.length = 2) (hLN : L.Nodup) (hMN : M.Nodup) (hML : ∀ x ∈ M, x ∈ L) (F : Frame) (B : List Frame) (pos : Pos) :
    ∃ (R : List Str) (es' : Array (Int × Value)) (ep' : Nat) (t' : SetTable) (pos' : Pos), R.Perm M ∧ Holds (R.foldl List.erase L) es' t' ∧ Leads p w n₀ ann S ⟨denote treeTable (.builtin "frozenset.__sub__" ⟨[.ref l, .ref r], []⟩), .builtin "frozenset.__sub__" ⟨[.ref l, .ref r], []⟩, pos, F :: B⟩
      { S with heap := S.heap.push (setObj es' ep' t') } ⟨.pure (.done (.ret (.ref S.heap.objs.size))), .builtin "frozenset.__sub__" ⟨[.ref l, .ref r], []⟩, pos', F :: B⟩ := by
  have h := st_sub (p := p) (w := w) (ann := ann) (Q := fun fin S' => ∃ (R : List Str) (es' : Array (Int × Value)) (ep' : Nat) (t' : SetTable), R.Perm M ∧ Holds (R.foldl List.erase L) es' t' ∧ fin = .done (.ret (.ref S.heap.objs.size)) ∧ S' = { S with heap := S.heap.push (setObj es' ep' t') }) hn hne hs ho hh hx hl hm hLN hMN hML
    fun R es' ep' t' hR h => ⟨R, es', ep', t', hR, h, rfl, rfl⟩
  rw [← den_builtin (b := Builtin.«frozenset.__sub__») (by kernel_rfl)] at h
  obtain ⟨fin, S', pos', ⟨R, es', ep', t', hR, hh', rfl, rfl⟩, lead⟩ := st_leads Sem.pure (.builtin "frozenset.__sub__" ⟨[.ref l, .ref r], []⟩) F B pos h
  rw [bind_pure_fin] at lead
  exact ⟨R, es', ep', t', pos', hR, hh', lead⟩
end
end
section
open PySem PySem.W PySem.Spec PySem.Calls PyProof.Rows
set_option maxRecDepth 100000

abbrev so (x : String) : Str := Str.ofString x
/-- an entry of a dict under a text -/
abbrev ke (P : Params) (x : String) (n : Nat) (v : Value) : DictEntry := { hash := PyData.keyHash P (Str.ofString x), key := Value.str (Str.ofString x) n, val := v }
/-- the n-th row of the program's text, a function: its parameters, body, names -/
noncomputable def nth : List Stmt → Nat → Stmt
  | [], _ => default
  | s :: _, 0 => s
  | _ :: l, n + 1 => nth l n
noncomputable def fdOf : Stmt → Arguments × List Stmt × Scope
  | .FunctionDef _ a b _ _ _ s _ _ _ => (a, b, s)
  | _ => default
noncomputable def fd (i : Nat) : Arguments × List Stmt × Scope := fdOf (nth PySem.Challenge.pw_il0176_01.main.body i)
noncomputable def fdIn (i j : Nat) : Arguments × List Stmt × Scope := match nth PySem.Challenge.pw_il0176_01.main.body i with
  | .ClassDef _ _ _ b _ _ _ _ _ _ _ => fdOf (nth b j)
  | _ => default
noncomputable def Kf (P : Params) : Frag :=
  (nat_lit 2, { cls := .none, data := .dict #[ke P "\x69mport.loaded._sre" 183 (.bool true), ke P "class._frozen_importlib.BuiltinImporter" 185 (.ref 14), ke P "watched.\x69mport" 206 (.ref 18), ke P "class._frozen_importlib.ModuleSpec" 216 (.ref 22), ke P "sys.modules.booked-epoch" 245 (.int 3 0), ke P "\x69mport.later-laid._sre" 270 (.bool true), ke P "watched.library" 272 (.ref 27), ke P "watched.library-objects" 0 (.str (so "\x0c") 0), ke P "watched.library-deep._sre" 273 (.str (so "\x04\x00\x00\x0b\x04\x00\x00\x0b\x04\x00\x00\x03\x04\x00\x00\x0b\x08\x04dict\x02") 0)] 9 }) ::
  (nat_lit 3, { cls := .type "dict", data := .dict #[ke P "__name__" 165 (.str (so "law_il0176_01") 1183), ke P "__doc__" 166 .none, ke P "__package__" 167 .none, ke P "__loader__" 168 (.builtin "__main__.__loader__#opaque"), ke P "__spec__" 169 .none, ke P "__annotations__" 170 (.ref 6), ke P "__builtins__" 171 (.ref 4), ke P "__file__" 173 (.str (so "/claim/cut.py") 172), ke P "__cached__" 174 .none, ke P "_sre" 275 (.ref 12), ke P "_wall" 288 (.ref 38), ke P "_WallAttr" 328 (.ref 63), ke P "MAX_KEY_PARTS" 332 (.int 1000 331), ke P "ASCII_CTRL" 476 (.ref 84), ke P "ILLEGAL_BASIC_STR_CHARS" 480 (.ref 89), ke P "ILLEGAL_MULTILINE_BASIC_STR_CHARS" 486 (.ref 94), ke P "ILLEGAL_LITERAL_STR_CHARS" 487 (.ref 89), ke P "TOML_WS" 493 (.ref 95), ke P "TOML_WS_AND_NEWLINE" 497 (.ref 103), ke P "ascii_lowercase" 499 (.str (so "abcdefghijklmnopqrstuvwxyz") 498), ke P "ascii_uppercase" 501 (.str (so "ABCDEFGHIJKLMNOPQRSTUVWXYZ") 500), ke P "ascii_letters" 503 (.str (so "abcdefghijklmnopqrstuvwxyzABCDEFGHIJKLMNOPQRSTUVWXYZ") 502), ke P "digits" 505 (.str (so "0123456789") 504), ke P "hexdigits" 510 (.str (so "0123456789abcdefABCDEF") 509), ke P "BARE_KEY_CHARS" 642 (.ref 104), ke P "HEXDIGIT_CHARS" 687 (.ref 108), ke P "MappingProxyType" 691 (.type "mappingproxy"), ke P "BASIC_STR_ESCAPE_REPLACEMENTS" 715 (.ref 114), ke P "TOMLDecodeError" 733 (.ref 124), ke P "skip_chars" 742 (.ref 134), ke P "skip_until" 754 (.ref 141), ke P "parse_key" 765 (.ref 148), ke P "parse_key_part" 775 (.ref 155), ke P "parse_one_line_basic_str" 783 (.ref 162), ke P "parse_basic_str_escape" 795 (.ref 170), ke P "parse_basic_str_escape_multiline" 803 (.ref 177), ke P "parse_hex_char" 814 (.ref 184), ke P "parse_literal_str" 823 (.ref 191), ke P "parse_basic_str" 838 (.ref 198), ke P "suffixed_err" 848 (.ref 205), ke P "is_unicode_scalar_value" 855 (.ref 212), ke P "bytes_types" 858 (.ref 213), ke P "_bytes_from_decode_data" 865 (.ref 220), ke P "Error" 885 (.ref 230), ke P "_ascii_buffer" 893 (.ref 240), ke P "_buffer" 901 (.ref 247), ke P "_truth" 909 (.ref 254), ke P "_B64" 911 (.bytes #[65, 66, 67, 68, 69, 70, 71, 72, 73, 74, 75, 76, 77, 78, 79, 80, 81, 82, 83, 84, 85, 86, 87, 88, 89, 90, 97, 98, 99, 100, 101, 102, 103, 104, 105, 106, 107, 108, 109, 110, 111, 112, 113, 114, 115, 116, 117, 118, 119, 120, 121, 122, 48, 49, 50, 51, 52, 53, 54, 55, 56, 57, 43, 47] 910), ke P "_b64_value" 918 (.ref 261), ke P "a2b_base64" 934 (.ref 269), ke P "b2a_base64" 948 (.ref 277), ke P "b64encode" 959 (.ref 285), ke P "b64decode" 968 (.ref 293), ke P "_twin_re_1" 1006 (.ref 298), ke P "_special_chars_map" 1154 (.ref 300), ke P "escape" 1161 (.ref 310), ke P "_translate" 1182 (.ref 317), ke P "_law_octets" 1195 (.ref 324), ke P "_law_found" 1203 (.ref 331), ke P "_law_parts" 1213 (.ref 338), ke P "_law_told" 1225 (.ref 345), ke P "law" 1231 (.ref 350)] 62 }) ::
  (nat_lit 32, { cls := .type "tuple", data := .seq #[] }) ::
  (nat_lit 34, { cls := .type "tuple", data := .seq #[.str (so "k") 285] }) ::
  (nat_lit 35, { cls := .type "tuple", data := .seq #[] }) ::
  (nat_lit 37, { cls := .type "code", data := .fields #[.str (so "_wall") 282, .str (so "_wall") 283, .str (so "/claim/cut.py") 284, .int 2 0, .int 1 0, .int 0 0, .int 0 0, .int 3 0, .ref 32, .bool true, .int 276 0, .ref 33, .none, .ref 34, .ref 35, .ref 36, .int 286 0, .int 2 0, .str (so "/claim/cut.py") 287] }) ::
  (nat_lit 113, { cls := .type "dict", data := .dict #[ke P "\\b" 694 (.str (so "\x08") 695), ke P "\\t" 696 (.str (so "\t") 697), ke P "\\n" 698 (.str (so "\n") 699), ke P "\\f" 700 (.str (so "\x0c") 701), ke P "\\r" 702 (.str (so "\x0d") 703), { hash := PyData.keyHash P (so "\\\""), key := .str (so "\\\"") 704, val := .str (so "\"") 705 }, ke P "\\\\" 706 (.str (so "\\") 707)] 7 }) ::
  (nat_lit 114, { cls := .type "mappingproxy", data := .fields #[.ref 113] }) ::
  (nat_lit 115, { cls := .type "tuple", data := .seq #[.type "ValueError"] }) ::
  (nat_lit 122, { cls := .type "tuple", data := .seq #[] }) ::
  (nat_lit 123, { cls := .type "dict", data := .dict #[ke P "__module__" 723 (.str (so "cpy313.tomllib._parser") 692), ke P "__firstlineno__" 727 (.int 30 726), ke P "__static_attributes__" 728 (.ref 122), ke P "__weakref__" 730 (.ref 125), ke P "__doc__" 731 .none] 3 }) ::
  (nat_lit 124, { cls := .type "type", data := .cls { name := Str.ofString "TOMLDecodeError", bases := [.type "ValueError"], mro := [.ref 124, .type "ValueError", .type "Exception", .type "BaseException", .type "object"], ns := 123, qualname := Str.ofString "TOMLDecodeError" }, slots := #[some (.ref 115), none, some (.str (so "TOMLDecodeError") 716), some (.str (so "TOMLDecodeError") 724), some (.builtin "ValueError.__new__"), some (.bool true)] }) ::
  (nat_lit 125, { cls := .type "getset_descriptor", data := .fields #[.str (so "__weakref__") 729, .ref 124, .builtin "ExceptionGroup.__weakref__", .none] }) ::
  (nat_lit 128, { cls := .type "tuple", data := .seq #[] }) ::
  (nat_lit 130, { cls := .type "tuple", data := .seq #[.str (so "src") 737, .str (so "pos") 738, .str (so "chars") 739] }) ::
  (nat_lit 131, { cls := .type "tuple", data := .seq #[] }) ::
  (nat_lit 133, { cls := .type "code", data := .fields #[.str (so "skip_chars") 734, .str (so "skip_chars") 735, .str (so "/claim/cut.py") 736, .int 32 0, .int 3 0, .int 0 0, .int 0 0, .int 3 0, .ref 128, .bool true, .int 276 0, .ref 129, .none, .ref 130, .ref 131, .ref 132, .int 740 0, .int 32 0, .str (so "/claim/cut.py") 741] }) ::
  (nat_lit 134, { cls := .type "function", data := .func { name := Str.ofString "skip_chars", qualname := Str.ofString "skip_chars", params := (fd 23).1, body := .stmts (fd 23).2.1, scope := (fd 23).2.2, globals := 3, closure := [], defaults := .none, kwdefaults := .none, pyModule := .str (so "cpy313.tomllib._parser") 692, code := .ref 133 } }) ::
  (nat_lit 135, { cls := .type "tuple", data := .seq #[] }) ::
  (nat_lit 137, { cls := .type "tuple", data := .seq #[.str (so "src") 746, .str (so "pos") 747, .str (so "expect") 748, .str (so "error_on") 749, .str (so "error_on_eof") 750, .str (so "new_pos") 751] }) ::
  (nat_lit 138, { cls := .type "tuple", data := .seq #[] }) ::
  (nat_lit 140, { cls := .type "code", data := .fields #[.str (so "skip_until") 743, .str (so "skip_until") 744, .str (so "/claim/cut.py") 745, .int 39 0, .int 3 0, .int 0 0, .int 2 0, .int 3 0, .ref 135, .bool true, .int 276 0, .ref 136, .none, .ref 137, .ref 138, .ref 139, .int 752 0, .int 39 0, .str (so "/claim/cut.py") 753] }) ::
  (nat_lit 141, { cls := .type "function", data := .func { name := Str.ofString "skip_until", qualname := Str.ofString "skip_until", params := (fd 24).1, body := .stmts (fd 24).2.1, scope := (fd 24).2.2, globals := 3, closure := [], defaults := .none, kwdefaults := .none, pyModule := .str (so "cpy313.tomllib._parser") 692, code := .ref 140 } }) ::
  (nat_lit 142, { cls := .type "tuple", data := .seq #[] }) ::
  (nat_lit 144, { cls := .type "tuple", data := .seq #[.str (so "src") 758, .str (so "pos") 759, .str (so "key_part") 760, .str (so "key") 761, .str (so "char") 762] }) ::
  (nat_lit 145, { cls := .type "tuple", data := .seq #[] }) ::
  (nat_lit 147, { cls := .type "code", data := .fields #[.str (so "parse_key") 755, .str (so "parse_key") 756, .str (so "/claim/cut.py") 757, .int 51 0, .int 2 0, .int 0 0, .int 0 0, .int 3 0, .ref 142, .bool true, .int 276 0, .ref 143, .none, .ref 144, .ref 145, .ref 146, .int 763 0, .int 51 0, .str (so "/claim/cut.py") 764] }) ::
  (nat_lit 148, { cls := .type "function", data := .func { name := Str.ofString "parse_key", qualname := Str.ofString "parse_key", params := (fd 25).1, body := .stmts (fd 25).2.1, scope := (fd 25).2.2, globals := 3, closure := [], defaults := .none, kwdefaults := .none, pyModule := .str (so "cpy313.tomllib._parser") 692, code := .ref 147 } }) ::
  (nat_lit 149, { cls := .type "tuple", data := .seq #[] }) ::
  (nat_lit 151, { cls := .type "tuple", data := .seq #[.str (so "src") 769, .str (so "pos") 770, .str (so "char") 771, .str (so "start_pos") 772] }) ::
  (nat_lit 152, { cls := .type "tuple", data := .seq #[] }) ::
  (nat_lit 154, { cls := .type "code", data := .fields #[.str (so "parse_key_part") 766, .str (so "parse_key_part") 767, .str (so "/claim/cut.py") 768, .int 69 0, .int 2 0, .int 0 0, .int 0 0, .int 3 0, .ref 149, .bool true, .int 276 0, .ref 150, .none, .ref 151, .ref 152, .ref 153, .int 773 0, .int 69 0, .str (so "/claim/cut.py") 774] }) ::
  (nat_lit 155, { cls := .type "function", data := .func { name := Str.ofString "parse_key_part", qualname := Str.ofString "parse_key_part", params := (fd 26).1, body := .stmts (fd 26).2.1, scope := (fd 26).2.2, globals := 3, closure := [], defaults := .none, kwdefaults := .none, pyModule := .str (so "cpy313.tomllib._parser") 692, code := .ref 154 } }) ::
  (nat_lit 156, { cls := .type "tuple", data := .seq #[] }) ::
  (nat_lit 158, { cls := .type "tuple", data := .seq #[.str (so "src") 779, .str (so "pos") 780] }) ::
  (nat_lit 159, { cls := .type "tuple", data := .seq #[] }) ::
  (nat_lit 161, { cls := .type "code", data := .fields #[.str (so "parse_one_line_basic_str") 776, .str (so "parse_one_line_basic_str") 777, .str (so "/claim/cut.py") 778, .int 83 0, .int 2 0, .int 0 0, .int 0 0, .int 3 0, .ref 156, .bool true, .int 276 0, .ref 157, .none, .ref 158, .ref 159, .ref 160, .int 781 0, .int 83 0, .str (so "/claim/cut.py") 782] }) ::
  (nat_lit 163, { cls := .type "dict", data := .dict #[ke P "multiline" 784 (.bool false)] 1 }) ::
  (nat_lit 164, { cls := .type "tuple", data := .seq #[] }) ::
  (nat_lit 166, { cls := .type "tuple", data := .seq #[.str (so "src") 788, .str (so "pos") 789, .str (so "multiline") 790, .str (so "escape_id") 791, .str (so "char") 792] }) ::
  (nat_lit 167, { cls := .type "tuple", data := .seq #[] }) ::
  (nat_lit 169, { cls := .type "code", data := .fields #[.str (so "parse_basic_str_escape") 785, .str (so "parse_basic_str_escape") 786, .str (so "/claim/cut.py") 787, .int 86 0, .int 2 0, .int 0 0, .int 1 0, .int 3 0, .ref 164, .bool true, .int 276 0, .ref 165, .none, .ref 166, .ref 167, .ref 168, .int 793 0, .int 86 0, .str (so "/claim/cut.py") 794] }) ::
  (nat_lit 171, { cls := .type "tuple", data := .seq #[] }) ::
  (nat_lit 173, { cls := .type "tuple", data := .seq #[.str (so "src") 799, .str (so "pos") 800] }) ::
  (nat_lit 174, { cls := .type "tuple", data := .seq #[] }) ::
  (nat_lit 176, { cls := .type "code", data := .fields #[.str (so "parse_basic_str_escape_multiline") 796, .str (so "parse_basic_str_escape_multiline") 797, .str (so "/claim/cut.py") 798, .int 109 0, .int 2 0, .int 0 0, .int 0 0, .int 3 0, .ref 171, .bool true, .int 276 0, .ref 172, .none, .ref 173, .ref 174, .ref 175, .int 801 0, .int 109 0, .str (so "/claim/cut.py") 802] }) ::
  (nat_lit 178, { cls := .type "tuple", data := .seq #[] }) ::
  (nat_lit 180, { cls := .type "tuple", data := .seq #[.str (so "src") 807, .str (so "pos") 808, .str (so "hex_len") 809, .str (so "hex_str") 810, .str (so "hex_int") 811] }) ::
  (nat_lit 181, { cls := .type "tuple", data := .seq #[] }) ::
  (nat_lit 183, { cls := .type "code", data := .fields #[.str (so "parse_hex_char") 804, .str (so "parse_hex_char") 805, .str (so "/claim/cut.py") 806, .int 111 0, .int 3 0, .int 0 0, .int 0 0, .int 3 0, .ref 178, .bool true, .int 276 0, .ref 179, .none, .ref 180, .ref 181, .ref 182, .int 812 0, .int 111 0, .str (so "/claim/cut.py") 813] }) ::
  (nat_lit 185, { cls := .type "tuple", data := .seq #[] }) ::
  (nat_lit 187, { cls := .type "tuple", data := .seq #[.str (so "src") 818, .str (so "pos") 819, .str (so "start_pos") 820] }) ::
  (nat_lit 188, { cls := .type "tuple", data := .seq #[] }) ::
  (nat_lit 190, { cls := .type "code", data := .fields #[.str (so "parse_literal_str") 815, .str (so "parse_literal_str") 816, .str (so "/claim/cut.py") 817, .int 120 0, .int 2 0, .int 0 0, .int 0 0, .int 3 0, .ref 185, .bool true, .int 276 0, .ref 186, .none, .ref 187, .ref 188, .ref 189, .int 821 0, .int 120 0, .str (so "/claim/cut.py") 822] }) ::
  (nat_lit 191, { cls := .type "function", data := .func { name := Str.ofString "parse_literal_str", qualname := Str.ofString "parse_literal_str", params := (fd 31).1, body := .stmts (fd 31).2.1, scope := (fd 31).2.2, globals := 3, closure := [], defaults := .none, kwdefaults := .none, pyModule := .str (so "cpy313.tomllib._parser") 692, code := .ref 190 } }) ::
  (nat_lit 192, { cls := .type "tuple", data := .seq #[] }) ::
  (nat_lit 194, { cls := .type "tuple", data := .seq #[.str (so "src") 827, .str (so "pos") 828, .str (so "multiline") 829, .str (so "error_on") 830, .str (so "parse_escapes") 831, .str (so "result") 832, .str (so "start_pos") 833, .str (so "char") 834, .str (so "parsed_escape") 835] }) ::
  (nat_lit 195, { cls := .type "tuple", data := .seq #[] }) ::
  (nat_lit 197, { cls := .type "code", data := .fields #[.str (so "parse_basic_str") 824, .str (so "parse_basic_str") 825, .str (so "/claim/cut.py") 826, .int 125 0, .int 2 0, .int 0 0, .int 1 0, .int 3 0, .ref 192, .bool true, .int 276 0, .ref 193, .none, .ref 194, .ref 195, .ref 196, .int 836 0, .int 125 0, .str (so "/claim/cut.py") 837] }) ::
  (nat_lit 199, { cls := .type "tuple", data := .seq #[] }) ::
  (nat_lit 201, { cls := .type "tuple", data := .seq #[.str (so "src") 842, .str (so "pos") 843, .str (so "msg") 844, .str (so "coord_repr") 845] }) ::
  (nat_lit 202, { cls := .type "tuple", data := .seq #[] }) ::
  (nat_lit 204, { cls := .type "code", data := .fields #[.str (so "suffixed_err") 839, .str (so "suffixed_err") 840, .str (so "/claim/cut.py") 841, .int 155 0, .int 3 0, .int 0 0, .int 0 0, .int 3 0, .ref 199, .bool true, .int 276 0, .ref 200, .none, .ref 201, .ref 202, .ref 203, .int 846 0, .int 155 0, .str (so "/claim/cut.py") 847] }) ::
  (nat_lit 205, { cls := .type "function", data := .func { name := Str.ofString "suffixed_err", qualname := Str.ofString "suffixed_err", params := (fd 33).1, body := .stmts (fd 33).2.1, scope := (fd 33).2.2, globals := 3, closure := [], defaults := .none, kwdefaults := .none, pyModule := .str (so "cpy313.tomllib._parser") 692, code := .ref 204 } }) ::
  (nat_lit 206, { cls := .type "tuple", data := .seq #[] }) ::
  (nat_lit 208, { cls := .type "tuple", data := .seq #[.str (so "codepoint") 852] }) ::
  (nat_lit 209, { cls := .type "tuple", data := .seq #[] }) ::
  (nat_lit 211, { cls := .type "code", data := .fields #[.str (so "is_unicode_scalar_value") 849, .str (so "is_unicode_scalar_value") 850, .str (so "/claim/cut.py") 851, .int 167 0, .int 1 0, .int 0 0, .int 0 0, .int 3 0, .ref 206, .bool true, .int 276 0, .ref 207, .none, .ref 208, .ref 209, .ref 210, .int 853 0, .int 167 0, .str (so "/claim/cut.py") 854] }) ::
  (nat_lit 213, { cls := .type "tuple", data := .seq #[.type "bytes", .type "bytearray"] }) ::
  (nat_lit 214, { cls := .type "tuple", data := .seq #[] }) ::
  (nat_lit 216, { cls := .type "tuple", data := .seq #[.str (so "s") 862] }) ::
  (nat_lit 217, { cls := .type "tuple", data := .seq #[] }) ::
  (nat_lit 219, { cls := .type "code", data := .fields #[.str (so "_bytes_from_decode_data") 859, .str (so "_bytes_from_decode_data") 860, .str (so "/claim/cut.py") 861, .int 171 0, .int 1 0, .int 0 0, .int 0 0, .int 3 0, .ref 214, .bool true, .int 276 0, .ref 215, .none, .ref 216, .ref 217, .ref 218, .int 863 0, .int 171 0, .str (so "/claim/cut.py") 864] }) ::
  (nat_lit 220, { cls := .type "function", data := .func { name := Str.ofString "_bytes_from_decode_data", qualname := Str.ofString "_bytes_from_decode_data", params := (fd 37).1, body := .stmts (fd 37).2.1, scope := (fd 37).2.2, globals := 3, closure := [], defaults := .none, kwdefaults := .none, pyModule := .str (so "cpy313.base64") 856, code := .ref 219 } }) ::
  (nat_lit 221, { cls := .type "tuple", data := .seq #[.type "ValueError"] }) ::
  (nat_lit 228, { cls := .type "tuple", data := .seq #[] }) ::
  (nat_lit 229, { cls := .type "dict", data := .dict #[ke P "__module__" 875 (.str (so "binascii") 866), ke P "__firstlineno__" 879 (.int 184 878), ke P "__static_attributes__" 880 (.ref 228), ke P "__weakref__" 882 (.ref 231), ke P "__doc__" 883 .none] 3 }) ::
  (nat_lit 230, { cls := .type "type", data := .cls { name := Str.ofString "Error", bases := [.type "ValueError"], mro := [.ref 230, .type "ValueError", .type "Exception", .type "BaseException", .type "object"], ns := 229, qualname := Str.ofString "Error" }, slots := #[some (.ref 221), none, some (.str (so "Error") 868), some (.str (so "Error") 876), some (.builtin "ValueError.__new__"), some (.bool true)] }) ::
  (nat_lit 231, { cls := .type "getset_descriptor", data := .fields #[.str (so "__weakref__") 881, .ref 230, .builtin "ExceptionGroup.__weakref__", .none] }) ::
  (nat_lit 234, { cls := .type "tuple", data := .seq #[] }) ::
  (nat_lit 236, { cls := .type "tuple", data := .seq #[.str (so "data") 889, .str (so "t") 890] }) ::
  (nat_lit 237, { cls := .type "tuple", data := .seq #[] }) ::
  (nat_lit 239, { cls := .type "code", data := .fields #[.str (so "_ascii_buffer") 886, .str (so "_ascii_buffer") 887, .str (so "/claim/cut.py") 888, .int 186 0, .int 1 0, .int 0 0, .int 0 0, .int 3 0, .ref 234, .bool true, .int 276 0, .ref 235, .none, .ref 236, .ref 237, .ref 238, .int 891 0, .int 186 0, .str (so "/claim/cut.py") 892] }) ::
  (nat_lit 240, { cls := .type "function", data := .func { name := Str.ofString "_ascii_buffer", qualname := Str.ofString "_ascii_buffer", params := (fd 40).1, body := .stmts (fd 40).2.1, scope := (fd 40).2.2, globals := 3, closure := [], defaults := .none, kwdefaults := .none, pyModule := .str (so "binascii") 866, code := .ref 239 } }) ::
  (nat_lit 241, { cls := .type "tuple", data := .seq #[] }) ::
  (nat_lit 243, { cls := .type "tuple", data := .seq #[.str (so "data") 897, .str (so "t") 898] }) ::
  (nat_lit 244, { cls := .type "tuple", data := .seq #[] }) ::
  (nat_lit 246, { cls := .type "code", data := .fields #[.str (so "_buffer") 894, .str (so "_buffer") 895, .str (so "/claim/cut.py") 896, .int 197 0, .int 1 0, .int 0 0, .int 0 0, .int 3 0, .ref 241, .bool true, .int 276 0, .ref 242, .none, .ref 243, .ref 244, .ref 245, .int 899 0, .int 197 0, .str (so "/claim/cut.py") 900] }) ::
  (nat_lit 247, { cls := .type "function", data := .func { name := Str.ofString "_buffer", qualname := Str.ofString "_buffer", params := (fd 41).1, body := .stmts (fd 41).2.1, scope := (fd 41).2.2, globals := 3, closure := [], defaults := .none, kwdefaults := .none, pyModule := .str (so "binascii") 866, code := .ref 246 } }) ::
  (nat_lit 248, { cls := .type "tuple", data := .seq #[] }) ::
  (nat_lit 250, { cls := .type "tuple", data := .seq #[.str (so "x") 905, .str (so "t") 906] }) ::
  (nat_lit 251, { cls := .type "tuple", data := .seq #[] }) ::
  (nat_lit 253, { cls := .type "code", data := .fields #[.str (so "_truth") 902, .str (so "_truth") 903, .str (so "/claim/cut.py") 904, .int 204 0, .int 1 0, .int 0 0, .int 0 0, .int 3 0, .ref 248, .bool true, .int 276 0, .ref 249, .none, .ref 250, .ref 251, .ref 252, .int 907 0, .int 204 0, .str (so "/claim/cut.py") 908] }) ::
  (nat_lit 254, { cls := .type "function", data := .func { name := Str.ofString "_truth", qualname := Str.ofString "_truth", params := (fd 42).1, body := .stmts (fd 42).2.1, scope := (fd 42).2.2, globals := 3, closure := [], defaults := .none, kwdefaults := .none, pyModule := .str (so "binascii") 866, code := .ref 253 } }) ::
  (nat_lit 255, { cls := .type "tuple", data := .seq #[] }) ::
  (nat_lit 257, { cls := .type "tuple", data := .seq #[.str (so "c") 915] }) ::
  (nat_lit 258, { cls := .type "tuple", data := .seq #[] }) ::
  (nat_lit 260, { cls := .type "code", data := .fields #[.str (so "_b64_value") 912, .str (so "_b64_value") 913, .str (so "/claim/cut.py") 914, .int 210 0, .int 1 0, .int 0 0, .int 0 0, .int 3 0, .ref 255, .bool true, .int 276 0, .ref 256, .none, .ref 257, .ref 258, .ref 259, .int 916 0, .int 210 0, .str (so "/claim/cut.py") 917] }) ::
  (nat_lit 261, { cls := .type "function", data := .func { name := Str.ofString "_b64_value", qualname := Str.ofString "_b64_value", params := (fd 44).1, body := .stmts (fd 44).2.1, scope := (fd 44).2.2, globals := 3, closure := [], defaults := .none, kwdefaults := .none, pyModule := .str (so "binascii") 866, code := .ref 260 } }) ::
  (nat_lit 262, { cls := .type "dict", data := .dict #[ke P "strict_mode" 919 (.bool false)] 1 }) ::
  (nat_lit 263, { cls := .type "tuple", data := .seq #[] }) ::
  (nat_lit 265, { cls := .type "tuple", data := .seq #[.str (so "data") 923, .str (so "strict_mode") 924, .str (so "ascii_data") 925, .str (so "out") 926, .str (so "quad_pos") 927, .str (so "leftchar") 928, .str (so "pads") 929, .str (so "i") 930, .str (so "this_ch") 931] }) ::
  (nat_lit 266, { cls := .type "tuple", data := .seq #[] }) ::
  (nat_lit 268, { cls := .type "code", data := .fields #[.str (so "a2b_base64") 920, .str (so "a2b_base64") 921, .str (so "/claim/cut.py") 922, .int 222 0, .int 1 0, .int 1 0, .int 1 0, .int 3 0, .ref 263, .bool true, .int 276 0, .ref 264, .none, .ref 265, .ref 266, .ref 267, .int 932 0, .int 222 0, .str (so "/claim/cut.py") 933] }) ::
  (nat_lit 269, { cls := .type "function", data := .func { name := Str.ofString "a2b_base64", qualname := Str.ofString "a2b_base64", params := (fd 45).1, body := .stmts (fd 45).2.1, scope := (fd 45).2.2, globals := 3, closure := [], defaults := .none, kwdefaults := .ref 262, pyModule := .str (so "binascii") 866, code := .ref 268 } }) ::
  (nat_lit 270, { cls := .type "dict", data := .dict #[ke P "newline" 935 (.bool true)] 1 }) ::
  (nat_lit 271, { cls := .type "tuple", data := .seq #[] }) ::
  (nat_lit 273, { cls := .type "tuple", data := .seq #[.str (so "data") 939, .str (so "newline") 940, .str (so "bin_data") 941, .str (so "out") 942, .str (so "leftbits") 943, .str (so "leftchar") 944, .str (so "b") 945] }) ::
  (nat_lit 274, { cls := .type "tuple", data := .seq #[] }) ::
  (nat_lit 276, { cls := .type "code", data := .fields #[.str (so "b2a_base64") 936, .str (so "b2a_base64") 937, .str (so "/claim/cut.py") 938, .int 276 0, .int 1 0, .int 1 0, .int 1 0, .int 3 0, .ref 271, .bool true, .int 276 0, .ref 272, .none, .ref 273, .ref 274, .ref 275, .int 946 0, .int 276 0, .str (so "/claim/cut.py") 947] }) ::
  (nat_lit 277, { cls := .type "function", data := .func { name := Str.ofString "b2a_base64", qualname := Str.ofString "b2a_base64", params := (fd 46).1, body := .stmts (fd 46).2.1, scope := (fd 46).2.2, globals := 3, closure := [], defaults := .none, kwdefaults := .ref 270, pyModule := .str (so "binascii") 866, code := .ref 276 } }) ::
  (nat_lit 278, { cls := .type "tuple", data := .seq #[.none] }) ::
  (nat_lit 279, { cls := .type "tuple", data := .seq #[] }) ::
  (nat_lit 281, { cls := .type "tuple", data := .seq #[.str (so "s") 954, .str (so "altchars") 955, .str (so "encoded") 956] }) ::
  (nat_lit 282, { cls := .type "tuple", data := .seq #[] }) ::
  (nat_lit 284, { cls := .type "code", data := .fields #[.str (so "b64encode") 951, .str (so "b64encode") 952, .str (so "/claim/cut.py") 953, .int 299 0, .int 2 0, .int 0 0, .int 0 0, .int 3 0, .ref 279, .bool true, .int 276 0, .ref 280, .none, .ref 281, .ref 282, .ref 283, .int 957 0, .int 299 0, .str (so "/claim/cut.py") 958] }) ::
  (nat_lit 285, { cls := .type "function", data := .func { name := Str.ofString "b64encode", qualname := Str.ofString "b64encode", params := (fd 48).1, body := .stmts (fd 48).2.1, scope := (fd 48).2.2, globals := 3, closure := [], defaults := .ref 278, kwdefaults := .none, pyModule := .str (so "cpy313.base64") 949, code := .ref 284 } }) ::
  (nat_lit 286, { cls := .type "tuple", data := .seq #[.none, .bool false] }) ::
  (nat_lit 287, { cls := .type "tuple", data := .seq #[] }) ::
  (nat_lit 289, { cls := .type "tuple", data := .seq #[.str (so "s") 963, .str (so "altchars") 964, .str (so "validate") 965] }) ::
  (nat_lit 290, { cls := .type "tuple", data := .seq #[] }) ::
  (nat_lit 292, { cls := .type "code", data := .fields #[.str (so "b64decode") 960, .str (so "b64decode") 961, .str (so "/claim/cut.py") 962, .int 305 0, .int 3 0, .int 0 0, .int 0 0, .int 3 0, .ref 287, .bool true, .int 276 0, .ref 288, .none, .ref 289, .ref 290, .ref 291, .int 966 0, .int 305 0, .str (so "/claim/cut.py") 967] }) ::
  (nat_lit 293, { cls := .type "function", data := .func { name := Str.ofString "b64decode", qualname := Str.ofString "b64decode", params := (fd 49).1, body := .stmts (fd 49).2.1, scope := (fd 49).2.2, globals := 3, closure := [], defaults := .ref 286, kwdefaults := .none, pyModule := .str (so "cpy313.base64") 949, code := .ref 292 } }) ::
  (nat_lit 297, { cls := .type "tuple", data := .seq #[.int 14 0, .int 14 0, .int 4 0, .int 1 0, .int 1 0, .int 9 0, .int 0 0, .int 64 0, .int 0 0, .int 1342177280 0, .int 0 0, .int 0 0, .int 0 0, .int 0 0, .int 0 0, .int 17 0, .int 0 0, .int 13 0, .int 11 0, .int 9 0, .int 0 0, .int 64 0, .int 0 0, .int 1342177280 0, .int 0 0, .int 0 0, .int 0 0, .int 0 0, .int 0 0, .int 17 0, .int 1 0, .int 1 0] }) ::
  (nat_lit 298, { cls := .type "re.Pattern", data := .fields #[.str (so "([&~|])") 970, .int 32 1005, .int 1 0, .none, .none, .ref 297, .int 0 0] }) ::
  (nat_lit 300, { cls := .type "dict", data := .dict #[{ hash := 40, key := .int 40 1010, val := .str (so "\\(") 1014 }, { hash := 41, key := .int 41 1016, val := .str (so "\\)") 1020 }, { hash := 91, key := .int 91 1022, val := .str (so "\\[") 1026 }, { hash := 93, key := .int 93 1028, val := .str (so "\\]") 1032 }, { hash := 123, key := .int 123 1034, val := .str (so "\\{") 1038 }, { hash := 125, key := .int 125 1040, val := .str (so "\\}") 1044 }, { hash := 63, key := .int 63 1046, val := .str (so "\\?") 1050 }, { hash := 42, key := .int 42 1052, val := .str (so "\\*") 1056 }, { hash := 43, key := .int 43 1058, val := .str (so "\\+") 1062 }, { hash := 45, key := .int 45 1064, val := .str (so "\\-") 1068 }, { hash := 124, key := .int 124 1070, val := .str (so "\\|") 1074 }, { hash := 94, key := .int 94 1076, val := .str (so "\\^") 1080 }, { hash := 36, key := .int 36 1082, val := .str (so "\\$") 1086 }, { hash := 92, key := .int 92 1088, val := .str (so "\\\\") 1092 }, { hash := 46, key := .int 46 1094, val := .str (so "\\.") 1098 }, { hash := 38, key := .int 38 1100, val := .str (so "\\&") 1104 }, { hash := 126, key := .int 126 1106, val := .str (so "\\~") 1110 }, { hash := 35, key := .int 35 1112, val := .str (so "\\#") 1116 }, { hash := 32, key := .int 32 1118, val := .str (so "\\ ") 1122 }, { hash := 9, key := .int 9 1124, val := .str (so "\\\t") 1128 }, { hash := 10, key := .int 10 1130, val := .str (so "\\\n") 1134 }, { hash := 13, key := .int 13 1136, val := .str (so "\\\x0d") 1140 }, { hash := 11, key := .int 11 1142, val := .str (so "\\\x0b") 1146 }, { hash := 12, key := .int 12 1148, val := .str (so "\\\x0c") 1152 }] 24 }) ::
  (nat_lit 304, { cls := .type "tuple", data := .seq #[] }) ::
  (nat_lit 306, { cls := .type "tuple", data := .seq #[.str (so "pattern") 1158] }) ::
  (nat_lit 307, { cls := .type "tuple", data := .seq #[] }) ::
  (nat_lit 309, { cls := .type "code", data := .fields #[.str (so "escape") 1155, .str (so "escape") 1156, .str (so "/claim/cut.py") 1157, .int 315 0, .int 1 0, .int 0 0, .int 0 0, .int 3 0, .ref 304, .bool true, .int 276 0, .ref 305, .none, .ref 306, .ref 307, .ref 308, .int 1159 0, .int 315 0, .str (so "/claim/cut.py") 1160] }) ::
  (nat_lit 310, { cls := .type "function", data := .func { name := Str.ofString "escape", qualname := Str.ofString "escape", params := (fd 53).1, body := .stmts (fd 53).2.1, scope := (fd 53).2.2, globals := 3, closure := [], defaults := .none, kwdefaults := .none, pyModule := .str (so "re") 1007, code := .ref 309 } }) ::
  (nat_lit 311, { cls := .type "tuple", data := .seq #[] }) ::
  (nat_lit 313, { cls := .type "tuple", data := .seq #[.str (so "pat") 1167, .str (so "STAR") 1168, .str (so "QUESTION_MARK") 1169, .str (so "res") 1170, .str (so "add") 1171, .str (so "i") 1172, .str (so "n") 1173, .str (so "c") 1174, .str (so "j") 1175, .str (so "stuff") 1176, .str (so "chunks") 1177, .str (so "k") 1178, .str (so "chunk") 1179] }) ::
  (nat_lit 314, { cls := .type "tuple", data := .seq #[] }) ::
  (nat_lit 316, { cls := .type "code", data := .fields #[.str (so "_translate") 1164, .str (so "_translate") 1165, .str (so "/claim/cut.py") 1166, .int 322 0, .int 3 0, .int 0 0, .int 0 0, .int 3 0, .ref 311, .bool true, .int 276 0, .ref 312, .none, .ref 313, .ref 314, .ref 315, .int 1180 0, .int 322 0, .str (so "/claim/cut.py") 1181] }) ::
  (nat_lit 317, { cls := .type "function", data := .func { name := Str.ofString "_translate", qualname := Str.ofString "_translate", params := (fd 55).1, body := .stmts (fd 55).2.1, scope := (fd 55).2.2, globals := 3, closure := [], defaults := .none, kwdefaults := .none, pyModule := .str (so "cpy313.fnmatch") 1162, code := .ref 316 } }) ::
  (nat_lit 318, { cls := .type "tuple", data := .seq #[] }) ::
  (nat_lit 320, { cls := .type "tuple", data := .seq #[.str (so "values") 1188, .str (so "row") 1189, .str (so "k") 1190, .str (so "number") 1191, .str (so "v") 1192] }) ::
  (nat_lit 321, { cls := .type "tuple", data := .seq #[] }) ::
  (nat_lit 323, { cls := .type "code", data := .fields #[.str (so "_law_octets") 1185, .str (so "_law_octets") 1186, .str (so "/claim/cut.py") 1187, .int 385 0, .int 1 0, .int 0 0, .int 0 0, .int 3 0, .ref 318, .bool true, .int 276 0, .ref 319, .none, .ref 320, .ref 321, .ref 322, .int 1193 0, .int 385 0, .str (so "/claim/cut.py") 1194] }) ::
  (nat_lit 324, { cls := .type "function", data := .func { name := Str.ofString "_law_octets", qualname := Str.ofString "_law_octets", params := (fd 57).1, body := .stmts (fd 57).2.1, scope := (fd 57).2.2, globals := 3, closure := [], defaults := .none, kwdefaults := .none, pyModule := .str (so "law_il0176_01") 1183, code := .ref 323 } }) ::
  (nat_lit 325, { cls := .type "tuple", data := .seq #[] }) ::
  (nat_lit 327, { cls := .type "tuple", data := .seq #[.str (so "text") 1199, .str (so "place") 1200] }) ::
  (nat_lit 328, { cls := .type "tuple", data := .seq #[] }) ::
  (nat_lit 330, { cls := .type "code", data := .fields #[.str (so "_law_found") 1196, .str (so "_law_found") 1197, .str (so "/claim/cut.py") 1198, .int 393 0, .int 2 0, .int 0 0, .int 0 0, .int 3 0, .ref 325, .bool true, .int 276 0, .ref 326, .none, .ref 327, .ref 328, .ref 329, .int 1201 0, .int 393 0, .str (so "/claim/cut.py") 1202] }) ::
  (nat_lit 331, { cls := .type "function", data := .func { name := Str.ofString "_law_found", qualname := Str.ofString "_law_found", params := (fd 58).1, body := .stmts (fd 58).2.1, scope := (fd 58).2.2, globals := 3, closure := [], defaults := .none, kwdefaults := .none, pyModule := .str (so "law_il0176_01") 1183, code := .ref 330 } }) ::
  (nat_lit 332, { cls := .type "tuple", data := .seq #[] }) ::
  (nat_lit 334, { cls := .type "tuple", data := .seq #[.str (so "rest") 1207, .str (so "pattern") 1208, .str (so "shut") 1209, .str (so "sign") 1210] }) ::
  (nat_lit 335, { cls := .type "tuple", data := .seq #[] }) ::
  (nat_lit 337, { cls := .type "code", data := .fields #[.str (so "_law_parts") 1204, .str (so "_law_parts") 1205, .str (so "/claim/cut.py") 1206, .int 398 0, .int 1 0, .int 0 0, .int 0 0, .int 3 0, .ref 332, .bool true, .int 276 0, .ref 333, .none, .ref 334, .ref 335, .ref 336, .int 1211 0, .int 398 0, .str (so "/claim/cut.py") 1212] }) ::
  (nat_lit 338, { cls := .type "function", data := .func { name := Str.ofString "_law_parts", qualname := Str.ofString "_law_parts", params := (fd 59).1, body := .stmts (fd 59).2.1, scope := (fd 59).2.2, globals := 3, closure := [], defaults := .none, kwdefaults := .none, pyModule := .str (so "law_il0176_01") 1183, code := .ref 337 } }) ::
  (nat_lit 339, { cls := .type "tuple", data := .seq #[] }) ::
  (nat_lit 341, { cls := .type "tuple", data := .seq #[.str (so "text") 1217, .str (so "place") 1218, .str (so "parts") 1219, .str (so "key") 1220, .str (so "k") 1221, .str (so "name") 1222] }) ::
  (nat_lit 342, { cls := .type "tuple", data := .seq #[] }) ::
  (nat_lit 344, { cls := .type "code", data := .fields #[.str (so "_law_told") 1214, .str (so "_law_told") 1215, .str (so "/claim/cut.py") 1216, .int 407 0, .int 2 0, .int 0 0, .int 0 0, .int 3 0, .ref 339, .bool true, .int 276 0, .ref 340, .none, .ref 341, .ref 342, .ref 343, .int 1223 0, .int 407 0, .str (so "/claim/cut.py") 1224] }) ::
  (nat_lit 345, { cls := .type "function", data := .func { name := Str.ofString "_law_told", qualname := Str.ofString "_law_told", params := (fd 60).1, body := .stmts (fd 60).2.1, scope := (fd 60).2.2, globals := 3, closure := [], defaults := .none, kwdefaults := .none, pyModule := .str (so "law_il0176_01") 1183, code := .ref 344 } }) ::
  (nat_lit 346, { cls := .type "tuple", data := .seq #[] }) ::
  (nat_lit 349, { cls := .type "code", data := .fields #[.str (so "law") 1226, .str (so "law") 1227, .str (so "/claim/cut.py") 1228, .int 429 0, .int 1 0, .int 0 0, .int 0 0, .int 3 0, .ref 346, .bool true, .int 276 0, .ref 347, .none, .none, .none, .ref 348, .int 1229 0, .int 429 0, .str (so "/claim/cut.py") 1230] }) ::
  (nat_lit 350, { cls := .type "function", data := .func { name := Str.ofString "law", qualname := Str.ofString "law", params := (fd 61).1, body := .stmts (fd 61).2.1, scope := (fd 61).2.2, globals := 3, closure := [], defaults := .none, kwdefaults := .none, pyModule := .str (so "law_il0176_01") 1183, code := .ref 349 } }) :: []
end
section
open PySem PySem.W PySem.Calls PyProof.Rows
set_option maxRecDepth 100000
/-- what a set of texts holds -/
structure SD where
  es : Array (Int × Value)
  ep : Nat
  t : SetTable
noncomputable def kob (a : Nat) (P : Params) : Obj := ((Kf P).lookup a).getD default
noncomputable def tmpl (o : Obj) : Obj := match o with
  | ⟨_, _, .func fd, _⟩ => ⟨.none, none, .func { name := fd.name, qualname := fd.qualname, params := fd.params, body := fd.body, scope := fd.scope, globals := 0, closure := [], defaults := .none, kwdefaults := .none }, #[]⟩
  | o => o
noncomputable def SD.obj (d : SD) : Obj := ⟨.type "frozenset", none, .set d.es d.ep d.t, #[]⟩
noncomputable def o0v0 (P : Params) : Obj := { cls := .type "dict", data := .dict #[ke P "__name__" 1 (.str (so "builtins") 160), ke P "__doc__" 2 (.builtin "builtins.__doc__:str#opaque"), ke P "__package__" 3 (.builtin "builtins.__package__:str#opaque"), ke P "__loader__" 4 (.builtin "builtins.__loader__:shared#opaque"), ke P "__spec__" 5 (.builtin "builtins.__spec__#opaque"), ke P "__build_class__" 6 (.builtin "__build_class__"), ke P "__import__" 7 (.builtin "__import__"), ke P "abs" 8 (.builtin "abs"), ke P "all" 9 (.builtin "all"), ke P "any" 10 (.builtin "any"), ke P "ascii" 11 (.builtin "ascii"), ke P "bin" 12 (.builtin "bin"), ke P "breakpoint" 13 (.builtin "breakpoint"), ke P "callable" 14 (.builtin "callable"), ke P "chr" 15 (.builtin "chr"), ke P "compile" 16 (.builtin "compile"), ke P "delattr" 17 (.builtin "delattr"), ke P "dir" 18 (.builtin "dir"), ke P "divmod" 19 (.builtin "divmod"), ke P "eval" 20 (.builtin "eval"), ke P "exec" 21 (.builtin "exec"), ke P "format" 22 (.builtin "format"), ke P "getattr" 23 (.builtin "getattr"), ke P "globals" 24 (.builtin "globals"), ke P "hasattr" 25 (.builtin "hasattr"), ke P "hash" 26 (.builtin "hash"), ke P "hex" 27 (.builtin "hex"), ke P "id" 28 (.builtin "id"), ke P "input" 29 (.builtin "input"), ke P "isinstance" 30 (.builtin "isinstance"), ke P "issubclass" 31 (.builtin "issubclass"), ke P "iter" 32 (.builtin "iter"), ke P "aiter" 33 (.builtin "aiter"), ke P "len" 34 (.builtin "len"), ke P "locals" 35 (.builtin "locals"), ke P "max" 36 (.builtin "max"), ke P "min" 37 (.builtin "min"), ke P "next" 38 (.builtin "next"), ke P "anext" 39 (.builtin "anext"), ke P "oct" 40 (.builtin "oct"), ke P "ord" 41 (.builtin "ord"), ke P "pow" 42 (.builtin "pow"), ke P "print" 43 (.builtin "print"), ke P "repr" 44 (.builtin "repr"), ke P "round" 45 (.builtin "round"), ke P "setattr" 46 (.builtin "setattr"), ke P "sorted" 47 (.builtin "sorted"), ke P "sum" 48 (.builtin "sum"), ke P "vars" 49 (.builtin "vars"), ke P "None" 50 .none, ke P "Ellipsis" 51 (Value.ellipsis), ke P "NotImplemented" 52 .notImplemented, ke P "False" 53 (.bool false), ke P "True" 54 (.bool true), ke P "bool" 55 (.type "bool"), ke P "memoryview" 56 (.type "memoryview"), ke P "bytearray" 57 (.type "bytearray"), ke P "bytes" 58 (.type "bytes"), ke P "classmethod" 59 (.type "classmethod"), ke P "complex" 60 (.type "complex"), ke P "dict" 61 (.type "dict"), ke P "enumerate" 62 (.type "enumerate"), ke P "filter" 63 (.type "filter"), ke P "float" 64 (.type "float"), ke P "frozenset" 65 (.type "frozenset"), ke P "property" 66 (.type "property"), ke P "int" 67 (.type "int"), ke P "list" 68 (.type "list"), ke P "map" 69 (.type "map"), ke P "object" 70 (.type "object"), ke P "range" 71 (.type "range"), ke P "reversed" 72 (.type "reversed"), ke P "set" 73 (.type "set"), ke P "slice" 74 (.type "slice"), ke P "staticmethod" 75 (.type "staticmethod"), ke P "str" 76 (.type "str"), ke P "super" 77 (.type "super"), ke P "tuple" 78 (.type "tuple"), ke P "type" 79 (.type "type"), ke P "zip" 80 (.type "zip"), ke P "__debug__" 81 (.bool true), ke P "BaseException" 82 (.type "BaseException"), ke P "BaseExceptionGroup" 83 (.type "BaseExceptionGroup"), ke P "Exception" 84 (.type "Exception"), ke P "GeneratorExit" 85 (.type "GeneratorExit"), ke P "KeyboardInterrupt" 86 (.type "KeyboardInterrupt"), ke P "SystemExit" 87 (.type "SystemExit"), ke P "ArithmeticError" 88 (.type "ArithmeticError"), ke P "AssertionError" 89 (.type "AssertionError"), ke P "AttributeError" 90 (.type "AttributeError"), ke P "BufferError" 91 (.type "BufferError"), ke P "EOFError" 92 (.type "EOFError"), ke P "ImportError" 93 (.type "ImportError"), ke P "LookupError" 94 (.type "LookupError"), ke P "MemoryError" 95 (.type "MemoryError"), ke P "NameError" 96 (.type "NameError"), ke P "OSError" 97 (.type "OSError"), ke P "ReferenceError" 98 (.type "ReferenceError"), ke P "RuntimeError" 99 (.type "RuntimeError"), ke P "StopAsyncIteration" 100 (.type "StopAsyncIteration"), ke P "StopIteration" 101 (.type "StopIteration"), ke P "SyntaxError" 102 (.type "SyntaxError"), ke P "SystemError" 103 (.type "SystemError"), ke P "TypeError" 104 (.type "TypeError"), ke P "ValueError" 105 (.type "ValueError"), ke P "Warning" 106 (.type "Warning"), ke P "FloatingPointError" 107 (.type "FloatingPointError"), ke P "OverflowError" 108 (.type "OverflowError"), ke P "ZeroDivisionError" 109 (.type "ZeroDivisionError"), ke P "BytesWarning" 110 (.type "BytesWarning"), ke P "DeprecationWarning" 111 (.type "DeprecationWarning"), ke P "EncodingWarning" 112 (.type "EncodingWarning"), ke P "FutureWarning" 113 (.type "FutureWarning"), ke P "ImportWarning" 114 (.type "ImportWarning"), ke P "PendingDeprecationWarning" 115 (.type "PendingDeprecationWarning"), ke P "ResourceWarning" 116 (.type "ResourceWarning"), ke P "RuntimeWarning" 117 (.type "RuntimeWarning"), ke P "SyntaxWarning" 118 (.type "SyntaxWarning"), ke P "UnicodeWarning" 119 (.type "UnicodeWarning"), ke P "UserWarning" 120 (.type "UserWarning"), ke P "BlockingIOError" 121 (.type "BlockingIOError"), ke P "ChildProcessError" 122 (.type "ChildProcessError"), ke P "ConnectionError" 123 (.type "ConnectionError"), ke P "FileExistsError" 124 (.type "FileExistsError"), ke P "FileNotFoundError" 125 (.type "FileNotFoundError"), ke P "InterruptedError" 126 (.type "InterruptedError"), ke P "IsADirectoryError" 127 (.type "IsADirectoryError"), ke P "NotADirectoryError" 128 (.type "NotADirectoryError"), ke P "PermissionError" 129 (.type "PermissionError"), ke P "ProcessLookupError" 130 (.type "ProcessLookupError"), ke P "TimeoutError" 131 (.type "TimeoutError"), ke P "IndentationError" 132 (.type "IndentationError"), ke P "_IncompleteInputError" 133 (.type "_IncompleteInputError"), ke P "IndexError" 134 (.type "IndexError"), ke P "KeyError" 135 (.type "KeyError"), ke P "ModuleNotFoundError" 136 (.type "ModuleNotFoundError"), ke P "NotImplementedError" 137 (.type "NotImplementedError"), ke P "PythonFinalizationError" 138 (.type "PythonFinalizationError"), ke P "RecursionError" 139 (.type "RecursionError"), ke P "UnboundLocalError" 140 (.type "UnboundLocalError"), ke P "UnicodeError" 141 (.type "UnicodeError"), ke P "BrokenPipeError" 142 (.type "BrokenPipeError"), ke P "ConnectionAbortedError" 143 (.type "ConnectionAbortedError"), ke P "ConnectionRefusedError" 144 (.type "ConnectionRefusedError"), ke P "ConnectionResetError" 145 (.type "ConnectionResetError"), ke P "TabError" 146 (.type "TabError"), ke P "UnicodeDecodeError" 147 (.type "UnicodeDecodeError"), ke P "UnicodeEncodeError" 148 (.type "UnicodeEncodeError"), ke P "UnicodeTranslateError" 149 (.type "UnicodeTranslateError"), ke P "ExceptionGroup" 150 (.type "ExceptionGroup"), ke P "EnvironmentError" 151 (.type "OSError"), ke P "IOError" 152 (.type "OSError"), ke P "open" 153 (.builtin "open"), ke P "quit" 154 (.builtin "builtins.quit#opaque"), ke P "exit" 155 (.builtin "builtins.exit#opaque"), ke P "copyright" 156 (.builtin "builtins.copyright#opaque"), ke P "credits" 157 (.builtin "builtins.credits#opaque"), ke P "license" 158 (.builtin "builtins.license#opaque"), ke P "help" 159 (.builtin "builtins.help#opaque")] 159 }
noncomputable def o1v1 (P : Params) : Obj := { cls := .type "dict", data := .dict #[ke P "builtins" 162 (.ref 4), ke P "__main__" 163 (.ref 5), ke P "_sre" 244 (.ref 12)] 3 }
noncomputable def o2v2 (P : Params) : Obj := { cls := .none, data := .dict #[ke P "\x69mport.loaded._sre" 183 (.bool true), ke P "class._frozen_importlib.BuiltinImporter" 185 (.ref 14), ke P "watched.\x69mport" 206 (.ref 18), ke P "class._frozen_importlib.ModuleSpec" 216 (.ref 22), ke P "sys.modules.booked-epoch" 245 (.int 3 0), ke P "\x69mport.later-laid._sre" 270 (.bool true), ke P "watched.library" 272 (.ref 27), ke P "watched.library-objects" 0 (.str (so "\x0c") 0), ke P "watched.library-deep._sre" 273 (.str (so "\x04\x00\x00\x0b\x04\x00\x00\x0b\x04\x00\x00\x03\x04\x00\x00\x0b\x08\x04dict\x02") 0)] 9 }
noncomputable def o3v3 (P : Params) : Obj := { cls := .type "dict", data := .dict #[ke P "__name__" 165 (.str (so "__main__") 164), ke P "__doc__" 166 .none, ke P "__package__" 167 .none, ke P "__loader__" 168 (.builtin "__main__.__loader__#opaque"), ke P "__spec__" 169 .none, ke P "__annotations__" 170 (.ref 6), ke P "__builtins__" 171 (.ref 4), ke P "__file__" 173 (.str (so "/claim/cut.py") 172), ke P "__cached__" 174 .none, ke P "_sre" 275 (.ref 12)] 10 }
noncomputable def o4v4 (P : Params) : Obj := { cls := .type "module", dict := some 0 }
noncomputable def o5v5 (P : Params) : Obj := { cls := .type "module", dict := some 3 }
noncomputable def o6v6 (P : Params) : Obj := { cls := .type "dict", data := .dict #[] }
noncomputable def o7v7 (P : Params) : Obj := { cls := .type "tuple", data := .seq #[] }
noncomputable def o8v8 (P : Params) : Obj := { cls := .none, data := .fields #[] }
noncomputable def o9v9 (P : Params) : Obj := { cls := .type "code", data := .fields #[.str (so "<module>") 176, .str (so "<module>") 177, .str (so "/claim/cut.py") 178, .int 1 0, .int 0 0, .int 0 0, .int 0 0, .int 0 0, .ref 7, .bool false, .int 175 0, .ref 8, .none, .none, .none, .none, .int 179 0, .int 1 0, .str (so "/claim/cut.py") 180] }
noncomputable def o10v10 (P : Params) : Obj := { cls := .type "frame", slots := #[some (.ref 9), some (.ref 3), some (.ref 3), none, some (.str (so "__main__") 164), none, some (.ref 0)] }
noncomputable def o11v11 (P : Params) : Obj := { cls := .type "dict", data := .dict #[ke P "__name__" 247 (.str (so "_sre") 246), ke P "__doc__" 248 .none, ke P "__package__" 250 (.str (so "") 249), ke P "__loader__" 251 (.ref 14), ke P "__spec__" 252 (.ref 26), ke P "compile" 253 (.builtin "_sre.compile"), ke P "template" 254 (.builtin "_sre.template"), ke P "getcodesize" 255 (.builtin "_sre.getcodesize"), ke P "ascii_iscased" 256 (.builtin "_sre.ascii_iscased"), ke P "unicode_iscased" 257 (.builtin "_sre.unicode_iscased"), ke P "ascii_tolower" 258 (.builtin "_sre.ascii_tolower"), ke P "unicode_tolower" 259 (.builtin "_sre.unicode_tolower"), ke P "MAGIC" 261 (.int 20230612 260), ke P "CODESIZE" 263 (.int 4 262), ke P "MAXREPEAT" 265 (.int 4294967295 264), ke P "MAXGROUPS" 267 (.int 1073741823 266), ke P "copyright" 269 (.str (so " SRE 2.2.2 Copyright (c) 1997-2002 by Secret Labs AB ") 268)] 17 }
noncomputable def o12v12 (P : Params) : Obj := { cls := .type "module", dict := some 11 }
noncomputable def o13v13 (P : Params) : Obj := { cls := .type "dict", data := .dict #[ke P "__module__" 189 (.str (so "_frozen_importlib") 186), ke P "__firstlineno__" 190 (.int 971 187), ke P "__doc__" 191 (.builtin "_frozen_importlib.BuiltinImporter.__doc__:str#opaque"), ke P "_ORIGIN" 192 (.str (so "built-in") 188), ke P "find_spec" 193 (.builtin "_frozen_importlib.BuiltinImporter.find_spec#opaque"), ke P "create_module" 194 (.builtin "_frozen_importlib.BuiltinImporter.create_module#opaque"), ke P "exec_module" 195 (.builtin "_frozen_importlib.BuiltinImporter.exec_module#opaque"), ke P "get_code" 196 (.builtin "_frozen_importlib.BuiltinImporter.get_code#opaque"), ke P "get_source" 197 (.builtin "_frozen_importlib.BuiltinImporter.get_source#opaque"), ke P "is_package" 198 (.builtin "_frozen_importlib.BuiltinImporter.is_package#opaque"), ke P "load_module" 199 (.builtin "_frozen_importlib.BuiltinImporter.load_module#opaque"), ke P "__static_attributes__" 200 (.ref 15), ke P "__dict__" 202 (.ref 16), ke P "__weakref__" 204 (.ref 17)] 14 }
noncomputable def o14v14 (P : Params) : Obj := { cls := .type "type", data := .cls { name := Str.ofString "BuiltinImporter", bases := [.type "object"], mro := [.ref 14, .type "object"], ns := 13, qualname := Str.ofString "BuiltinImporter" } }
noncomputable def o16v15 (P : Params) : Obj := { cls := .type "getset_descriptor", data := .fields #[.str (so "__dict__") 201, .ref 14, .builtin "function.__dict__", .builtin "function.__dict__#set"] }
noncomputable def o17v16 (P : Params) : Obj := { cls := .type "getset_descriptor", data := .fields #[.str (so "__weakref__") 203, .ref 14, .builtin "ExceptionGroup.__weakref__", .none] }
noncomputable def o18v17 (P : Params) : Obj := { cls := .none, data := .seq #[.int 13 0, .str (so "\x06½\n__module__\x06º\x11_frozen_importlib\x06¾\x0f__firstlineno__\x04»\x00ϋ\x06¿\x07__doc__\t4_frozen_importlib.BuiltinImporter.__doc__:str#opaque\x06À\x07_ORIGIN\x06¼\x08built-in\x06Á\tfind_spec\t2_frozen_importlib.BuiltinImporter.find_spec#opaque\x06Â\x0dcreate_module\t6_frozen_importlib.BuiltinImporter.create_module#opaque\x06Ã\x0bexec_module\t4_frozen_importlib.BuiltinImporter.exec_module#opaque\x06Ä\x08get_code\t1_frozen_importlib.BuiltinImporter.get_code#opaque\x06Å\nget_source\t3_frozen_importlib.BuiltinImporter.get_source#opaque\x06Æ\nis_package\t3_frozen_importlib.BuiltinImporter.is_package#opaque\x06Ç\x0bload_module\t4_frozen_importlib.BuiltinImporter.load_module#opaque\x06È\x15__static_attributes__\x04\x00\x00\x0f\x06Ê\x08__dict__\x04\x00\x00\x10\x06Ì\x0b__weakref__\x04\x00\x00\x11") 0, .bool true, .bool true, .str (so "") 205, .int 21 0, .str (so "\x06ã\n__module__\x06Ù\x11_frozen_importlib\x06ä\x0f__firstlineno__\x04Ú\x00Ȳ\x06å\x07__doc__\t/_frozen_importlib.ModuleSpec.__doc__:str#opaque\x06æ\x08__init__\t,_frozen_importlib.ModuleSpec.__init__#opaque\x06ç\x08__repr__\t,_frozen_importlib.ModuleSpec.__repr__#opaque\x06è\x06__eq__\t*_frozen_importlib.ModuleSpec.__eq__#opaque\x06é\x06cached\t*_frozen_importlib.ModuleSpec.cached#opaque\x06ê\x06parent\t*_frozen_importlib.ModuleSpec.parent#opaque\x06ë\x0chas_location\t0_frozen_importlib.ModuleSpec.has_location#opaque\x06ì\x15__static_attributes__\x04\x00\x00\x17\x06î\x08__dict__\x04\x00\x00\x18\x06ð\x0b__weakref__\x04\x00\x00\x19\x06ñ\x08__hash__\x00") 0, .bool true, .bool true, .str (so "") 242] 1 }
noncomputable def o19v18 (P : Params) : Obj := { cls := .type "list", data := .seq #[] }
noncomputable def o20v19 (P : Params) : Obj := { cls := .type "dict", data := .dict #[ke P "name" 208 (.str (so "_sre") 207), ke P "loader" 209 (.ref 14), ke P "origin" 210 (.str (so "built-in") 184), ke P "loader_state" 211 .none, ke P "submodule_search_locations" 212 .none, ke P "_uninitialized_submodules" 213 (.ref 19), ke P "_set_fileattr" 214 (.bool false), ke P "_cached" 215 .none, ke P "_initializing" 243 (.bool false)] 9 }
noncomputable def o21v20 (P : Params) : Obj := { cls := .type "dict", data := .dict #[ke P "__module__" 227 (.str (so "_frozen_importlib") 217), ke P "__firstlineno__" 228 (.int 562 218), ke P "__doc__" 229 (.builtin "_frozen_importlib.ModuleSpec.__doc__:str#opaque"), ke P "__init__" 230 (.builtin "_frozen_importlib.ModuleSpec.__init__#opaque"), ke P "__repr__" 231 (.builtin "_frozen_importlib.ModuleSpec.__repr__#opaque"), ke P "__eq__" 232 (.builtin "_frozen_importlib.ModuleSpec.__eq__#opaque"), ke P "cached" 233 (.builtin "_frozen_importlib.ModuleSpec.cached#opaque"), ke P "parent" 234 (.builtin "_frozen_importlib.ModuleSpec.parent#opaque"), ke P "has_location" 235 (.builtin "_frozen_importlib.ModuleSpec.has_location#opaque"), ke P "__static_attributes__" 236 (.ref 23), ke P "__dict__" 238 (.ref 24), ke P "__weakref__" 240 (.ref 25), ke P "__hash__" 241 .none] 13 }
noncomputable def o22v21 (P : Params) : Obj := { cls := .type "type", data := .cls { name := Str.ofString "ModuleSpec", bases := [.type "object"], mro := [.ref 22, .type "object"], ns := 21, qualname := Str.ofString "ModuleSpec" } }
noncomputable def o23v22 (P : Params) : Obj := { cls := .type "tuple", data := .seq #[.str (so "_cached") 219, .str (so "_set_fileattr") 220, .str (so "_uninitialized_submodules") 221, .str (so "loader") 222, .str (so "loader_state") 223, .str (so "name") 224, .str (so "origin") 225, .str (so "submodule_search_locations") 226] }
noncomputable def o24v23 (P : Params) : Obj := { cls := .type "getset_descriptor", data := .fields #[.str (so "__dict__") 237, .ref 22, .builtin "function.__dict__", .builtin "function.__dict__#set"] }
noncomputable def o25v24 (P : Params) : Obj := { cls := .type "getset_descriptor", data := .fields #[.str (so "__weakref__") 239, .ref 22, .builtin "ExceptionGroup.__weakref__", .none] }
noncomputable def o26v25 (P : Params) : Obj := { cls := .ref 22, dict := some 20 }
noncomputable def o27v26 (P : Params) : Obj := { cls := .none, data := .seq #[.int 11 0, .str { cps := #[6, 247, 8, 95, 95, 110, 97, 109, 101, 95, 95, 6, 246, 4, 95, 115, 114, 101, 6, 248, 7, 95, 95, 100, 111, 99, 95, 95, 0, 6, 250, 11, 95, 95, 112, 97, 99, 107, 97, 103, 101, 95, 95, 6, 249, 0, 6, 251, 10, 95, 95, 108, 111, 97, 100, 101, 114, 95, 95, 4, 0, 0, 14, 6, 252, 8, 95, 95, 115, 112, 101, 99, 95, 95, 4, 0, 0, 26, 6, 253, 7, 99, 111, 109, 112, 105, 108, 101, 9, 12, 95, 115, 114, 101, 46, 99, 111, 109, 112, 105, 108, 101, 6, 254, 8, 116, 101, 109, 112, 108, 97, 116, 101, 9, 13, 95, 115, 114, 101, 46, 116, 101, 109, 112, 108, 97, 116, 101, 6, 255, 11, 103, 101, 116, 99, 111, 100, 101, 115, 105, 122, 101, 9, 16, 95, 115, 114, 101, 46, 103, 101, 116, 99, 111, 100, 101, 115, 105, 122, 101, 6, 256, 13, 97, 115, 99, 105, 105, 95, 105, 115, 99, 97, 115, 101, 100, 9, 18, 95, 115, 114, 101, 46, 97, 115, 99, 105, 105, 95, 105, 115, 99, 97, 115, 101, 100, 6, 257, 15, 117, 110, 105, 99, 111, 100, 101, 95, 105, 115, 99, 97, 115, 101, 100, 9, 20, 95, 115, 114, 101, 46, 117, 110, 105, 99, 111, 100, 101, 95, 105, 115, 99, 97, 115, 101, 100, 6, 258, 13, 97, 115, 99, 105, 105, 95, 116, 111, 108, 111, 119, 101, 114, 9, 18, 95, 115, 114, 101, 46, 97, 115, 99, 105, 105, 95, 116, 111, 108, 111, 119, 101, 114, 6, 259, 15, 117, 110, 105, 99, 111, 100, 101, 95, 116, 111, 108, 111, 119, 101, 114, 9, 20, 95, 115, 114, 101, 46, 117, 110, 105, 99, 111, 100, 101, 95, 116, 111, 108, 111, 119, 101, 114, 6, 261, 5, 77, 65, 71, 73, 67, 4, 260, 0, 20230612, 6, 263, 8, 67, 79, 68, 69, 83, 73, 90, 69, 4, 262, 0, 4, 6, 265, 9, 77, 65, 88, 82, 69, 80, 69, 65, 84, 4, 264, 0, 4294967295, 6, 267, 9, 77, 65, 88, 71, 82, 79, 85, 80, 83, 4, 266, 0, 1073741823, 6, 269, 9, 99, 111, 112, 121, 114, 105, 103, 104, 116, 6, 268, 53, 32, 83, 82, 69, 32, 50, 46, 50, 46, 50, 32, 67, 111, 112, 121, 114, 105, 103, 104, 116, 32, 40, 99, 41, 32, 49, 57, 57, 55, 45, 50, 48, 48, 50, 32, 98, 121, 32, 83, 101, 99, 114, 101, 116, 32, 76, 97, 98, 115, 32, 65, 66, 32] } 0, .bool true, .bool false, .str (so "_sre") 271] }
noncomputable def treeSE (P : Params) : BT := (.node (o0v0 P) (.node (o1v1 P) (.node (o3v3 P) (.node (o7v7 P) (.node (o7v7 P) .nil .nil) (.node (o23v22 P) .nil .nil)) (.node (o11v11 P) (.node (o19v18 P) .nil .nil) (.node (o27v26 P) .nil .nil))) (.node (o5v5 P) (.node (o9v9 P) (.node (o17v16 P) .nil .nil) (.node (o25v24 P) .nil .nil)) (.node (o13v13 P) (.node (o21v20 P) .nil .nil) .nil))) (.node (o2v2 P) (.node (o4v4 P) (.node (o8v8 P) (.node (o16v15 P) .nil .nil) (.node (o24v23 P) .nil .nil)) (.node (o12v12 P) (.node (o20v19 P) .nil .nil) .nil)) (.node (o6v6 P) (.node (o10v10 P) (.node (o18v17 P) .nil .nil) (.node (o26v25 P) .nil .nil)) (.node (o14v14 P) (.node (o22v21 P) .nil .nil) .nil))))
-- SE n 28 toks 276 pos { line := 0, col := 0, endLine := 0, endCol := 0 }
noncomputable def o11v27 (P : Params) : Obj := { cls := .type "dict", data := .dict #[ke P "__name__" 247 (.str (so "_sre") 246), ke P "__doc__" 248 .none, ke P "__package__" 250 (.str (so "") 249), ke P "__loader__" 251 (.builtin "off-the-table:_sre.__loader__:shared#opaque"), ke P "__spec__" 252 (.builtin "off-the-table:_sre.__spec__:shared#opaque"), ke P "compile" 253 (.builtin "_sre.compile"), ke P "template" 254 (.builtin "off-the-table:_sre.template:shared#opaque"), ke P "getcodesize" 255 (.builtin "off-the-table:_sre.getcodesize:shared#opaque"), ke P "ascii_iscased" 256 (.builtin "off-the-table:_sre.ascii_iscased:shared#opaque"), ke P "unicode_iscased" 257 (.builtin "off-the-table:_sre.unicode_iscased:shared#opaque"), ke P "ascii_tolower" 258 (.builtin "off-the-table:_sre.ascii_tolower:shared#opaque"), ke P "unicode_tolower" 259 (.builtin "off-the-table:_sre.unicode_tolower:shared#opaque"), ke P "MAGIC" 261 (.int 20230612 260), ke P "CODESIZE" 263 (.int 4 262), ke P "MAXREPEAT" 265 (.int 4294967295 264), ke P "MAXGROUPS" 267 (.int 1073741823 266), ke P "copyright" 269 (.str (so " SRE 2.2.2 Copyright (c) 1997-2002 by Secret Labs AB ") 268)] 17 }
noncomputable def treeS0 (P : Params) : BT := (.node (o0v0 P) (.node (o1v1 P) (.node (o3v3 P) (.node (o7v7 P) (.node (o7v7 P) .nil .nil) (.node (o23v22 P) .nil .nil)) (.node (o11v27 P) (.node (o19v18 P) .nil .nil) (.node (o27v26 P) .nil .nil))) (.node (o5v5 P) (.node (o9v9 P) (.node (o17v16 P) .nil .nil) (.node (o25v24 P) .nil .nil)) (.node (o13v13 P) (.node (o21v20 P) .nil .nil) .nil))) (.node (o2v2 P) (.node (o4v4 P) (.node (o8v8 P) (.node (o16v15 P) .nil .nil) (.node (o24v23 P) .nil .nil)) (.node (o12v12 P) (.node (o20v19 P) .nil .nil) .nil)) (.node (o6v6 P) (.node (o10v10 P) (.node (o18v17 P) .nil .nil) (.node (o26v25 P) .nil .nil)) (.node (o14v14 P) (.node (o22v21 P) .nil .nil) .nil))))
-- S0 n 28 toks 276 pos { line := 0, col := 0, endLine := 0, endCol := 0 }
noncomputable def o30v28 (P : Params) : Obj := { cls := .type "code", data := .fields #[.str (so "<module>") 277, .str (so "<module>") 278, .str (so "/claim/cut.py") 279, .int 1 0, .int 0 0, .int 0 0, .int 0 0, .int 0 0, .ref 28, .bool false, .int 276 0, .ref 29, .none, .none, .none, .none, .int 280 0, .int 1 0, .str (so "/claim/cut.py") 281] }
noncomputable def o31v29 (P : Params) : Obj := { cls := .type "frame", slots := #[some (.ref 30), some (.ref 3), some (.ref 3), none, some (.str (so "__main__") 164), none, some (.ref 0)] }
noncomputable def treeSb (P : Params) : BT := (.node (o0v0 P) (.node (o1v1 P) (.node (o3v3 P) (.node (o7v7 P) (.node (o7v7 P) (.node (o31v29 P) .nil .nil) .nil) (.node (o23v22 P) .nil .nil)) (.node (o11v27 P) (.node (o19v18 P) .nil .nil) (.node (o27v26 P) .nil .nil))) (.node (o5v5 P) (.node (o9v9 P) (.node (o17v16 P) .nil .nil) (.node (o25v24 P) .nil .nil)) (.node (o13v13 P) (.node (o21v20 P) .nil .nil) (.node (o8v8 P) .nil .nil)))) (.node (o2v2 P) (.node (o4v4 P) (.node (o8v8 P) (.node (o16v15 P) .nil .nil) (.node (o24v23 P) .nil .nil)) (.node (o12v12 P) (.node (o20v19 P) .nil .nil) (.node (o7v7 P) .nil .nil))) (.node (o6v6 P) (.node (o10v10 P) (.node (o18v17 P) .nil .nil) (.node (o26v25 P) .nil .nil)) (.node (o14v14 P) (.node (o22v21 P) .nil .nil) (.node (o30v28 P) .nil .nil)))))
-- Sb n 32 toks 282 pos { line := 0, col := 0, endLine := 0, endCol := 0 }
noncomputable def o3v30 (P : Params) : Obj := { cls := .type "dict", data := .dict #[ke P "__name__" 165 (.str (so "cpy313.tomllib._parser") 329), ke P "__doc__" 166 .none, ke P "__package__" 167 .none, ke P "__loader__" 168 (.builtin "__main__.__loader__#opaque"), ke P "__spec__" 169 .none, ke P "__annotations__" 170 (.ref 6), ke P "__builtins__" 171 (.ref 4), ke P "__file__" 173 (.str (so "/claim/cut.py") 172), ke P "__cached__" 174 .none, ke P "_sre" 275 (.ref 12), ke P "_wall" 288 (.ref 38), ke P "_WallAttr" 328 (.ref 63), ke P "MAX_KEY_PARTS" 332 (.int 1000 331)] 13 }
noncomputable def o29v31 (P : Params) : Obj := { cls := .none, data := .fields #[.int 2 0, .int 0 0, .ref 37, .int 5 0, .int 0 0, .ref 44] }
noncomputable def o34v32 (P : Params) : Obj := { cls := .type "tuple", data := .seq #[.str (so "k") 285] }
noncomputable def o36v33 (P : Params) : Obj := { cls := .none, data := .func { name := Str.ofString "_wall", qualname := Str.ofString "_wall", params := (fd 1).1, body := .stmts (fd 1).2.1, scope := (fd 1).2.2, globals := 0, closure := [], defaults := .none, kwdefaults := .none } }
noncomputable def o37v34 (P : Params) : Obj := { cls := .type "code", data := .fields #[.str (so "_wall") 282, .str (so "_wall") 283, .str (so "/claim/cut.py") 284, .int 2 0, .int 1 0, .int 0 0, .int 0 0, .int 3 0, .ref 32, .bool true, .int 276 0, .ref 33, .none, .ref 34, .ref 35, .ref 36, .int 286 0, .int 2 0, .str (so "/claim/cut.py") 287] }
noncomputable def o38v35 (P : Params) : Obj := { cls := .type "function", data := .func { name := Str.ofString "_wall", qualname := Str.ofString "_wall", params := (fd 1).1, body := .stmts (fd 1).2.1, scope := (fd 1).2.2, globals := 3, closure := [], defaults := .none, kwdefaults := .none, pyModule := .str (so "__main__") 164, code := .ref 37 } }
noncomputable def o40v36 (P : Params) : Obj := { cls := .type "builtin_function_or_method", data := .fields #[.builtin "type.__prepare__", .type "type"] }
noncomputable def o41v37 (P : Params) : Obj := { cls := .type "dict", data := .dict #[ke P "__module__" 296 (.str (so "__main__") 164), ke P "__qualname__" 298 (.str (so "_WallAttr") 297), ke P "__firstlineno__" 300 (.int 5 299), ke P "__init__" 308 (.ref 52), ke P "__get__" 317 (.ref 60), ke P "__set__" 318 (.ref 60), ke P "__delete__" 319 (.ref 60), ke P "__static_attributes__" 321 (.ref 61)] 8 }
noncomputable def o43v38 (P : Params) : Obj := { cls := .none, data := .fields #[.int 6 0, .int 4 0, .ref 51, .int 8 0, .int 4 0, .ref 59] }
noncomputable def o44v39 (P : Params) : Obj := { cls := .type "code", data := .fields #[.str (so "_WallAttr") 291, .str (so "_WallAttr") 292, .str (so "/claim/cut.py") 293, .int 5 0, .int 0 0, .int 0 0, .int 0 0, .int 0 0, .ref 42, .bool false, .int 276 0, .ref 43, .none, .none, .none, .none, .int 294 0, .int 5 0, .str (so "/claim/cut.py") 295] }
noncomputable def o45v40 (P : Params) : Obj := { cls := .type "frame", slots := #[some (.ref 44), some (.ref 3), some (.ref 41), none, some (.str (so "__main__") 164), none, some (.ref 0)] }
noncomputable def o48v41 (P : Params) : Obj := { cls := .type "tuple", data := .seq #[.str (so "self") 304, .str (so "k") 305] }
noncomputable def o50v42 (P : Params) : Obj := { cls := .none, data := .func { name := Str.ofString "__init__", qualname := Str.ofString "_WallAttr.__init__", params := (fdIn 2 0).1, body := .stmts (fdIn 2 0).2.1, scope := (fdIn 2 0).2.2, globals := 0, closure := [], defaults := .none, kwdefaults := .none } }
noncomputable def o51v43 (P : Params) : Obj := { cls := .type "code", data := .fields #[.str (so "__init__") 301, .str (so "_WallAttr.__init__") 302, .str (so "/claim/cut.py") 303, .int 6 0, .int 2 0, .int 0 0, .int 0 0, .int 3 0, .ref 46, .bool true, .int 276 0, .ref 47, .none, .ref 48, .ref 49, .ref 50, .int 306 0, .int 6 0, .str (so "/claim/cut.py") 307] }
noncomputable def o52v44 (P : Params) : Obj := { cls := .type "function", data := .func { name := Str.ofString "__init__", qualname := Str.ofString "_WallAttr.__init__", params := (fdIn 2 0).1, body := .stmts (fdIn 2 0).2.1, scope := (fdIn 2 0).2.2, globals := 3, closure := [], defaults := .none, kwdefaults := .none, pyModule := .str (so "__main__") 164, code := .ref 51 } }
noncomputable def o53v45 (P : Params) : Obj := { cls := .type "tuple", data := .seq #[.none] }
noncomputable def o56v46 (P : Params) : Obj := { cls := .type "tuple", data := .seq #[.str (so "self") 312, .str (so "o") 313, .str (so "t") 314] }
noncomputable def o58v47 (P : Params) : Obj := { cls := .none, data := .func { name := Str.ofString "__get__", qualname := Str.ofString "_WallAttr.__get__", params := (fdIn 2 1).1, body := .stmts (fdIn 2 1).2.1, scope := (fdIn 2 1).2.2, globals := 0, closure := [], defaults := .none, kwdefaults := .none } }
noncomputable def o59v48 (P : Params) : Obj := { cls := .type "code", data := .fields #[.str (so "__get__") 309, .str (so "_WallAttr.__get__") 310, .str (so "/claim/cut.py") 311, .int 8 0, .int 3 0, .int 0 0, .int 0 0, .int 3 0, .ref 54, .bool true, .int 276 0, .ref 55, .none, .ref 56, .ref 57, .ref 58, .int 315 0, .int 8 0, .str (so "/claim/cut.py") 316] }
noncomputable def o60v49 (P : Params) : Obj := { cls := .type "function", data := .func { name := Str.ofString "__get__", qualname := Str.ofString "_WallAttr.__get__", params := (fdIn 2 1).1, body := .stmts (fdIn 2 1).2.1, scope := (fdIn 2 1).2.2, globals := 3, closure := [], defaults := .ref 53, kwdefaults := .none, pyModule := .str (so "__main__") 164, code := .ref 59 } }
noncomputable def o61v50 (P : Params) : Obj := { cls := .type "tuple", data := .seq #[.str (so "k") 320] }
noncomputable def o62v51 (P : Params) : Obj := { cls := .type "dict", data := .dict #[ke P "__module__" 296 (.str (so "__main__") 164), ke P "__firstlineno__" 300 (.int 5 299), ke P "__init__" 308 (.ref 52), ke P "__get__" 317 (.ref 60), ke P "__set__" 318 (.ref 60), ke P "__delete__" 319 (.ref 60), ke P "__static_attributes__" 321 (.ref 61), ke P "__dict__" 323 (.ref 64), ke P "__weakref__" 325 (.ref 65), ke P "__doc__" 326 .none] 4 }
noncomputable def o63v52 (P : Params) : Obj := { cls := .type "type", data := .cls { name := Str.ofString "_WallAttr", bases := [.type "object"], mro := [.ref 63, .type "object"], ns := 62, qualname := Str.ofString "_WallAttr" }, slots := #[none, none, some (.str (so "_WallAttr") 289), some (.str (so "_WallAttr") 297), some (.builtin "object.__new__"), some (.bool true)] }
noncomputable def o64v53 (P : Params) : Obj := { cls := .type "getset_descriptor", data := .fields #[.str (so "__dict__") 322, .ref 63, .builtin "function.__dict__", .builtin "function.__dict__#set"] }
noncomputable def o65v54 (P : Params) : Obj := { cls := .type "getset_descriptor", data := .fields #[.str (so "__weakref__") 324, .ref 63, .builtin "ExceptionGroup.__weakref__", .none] }
noncomputable def o66v55 (P : Params) : Obj := { cls := .type "super", data := .fields #[.ref 63, .ref 63, .ref 63] }
noncomputable def o67v56 (P : Params) : Obj := { cls := .type "builtin_function_or_method", data := .fields #[.builtin "object.__init_subclass__", .ref 63] }
noncomputable def treeS4 (P : Params) : BT := (.node (o0v0 P) (.node (o1v1 P) (.node (o3v30 P) (.node (o7v7 P) (.node (o7v7 P) (.node (o31v29 P) (.node (o63v52 P) .nil .nil) .nil) (.node (o8v8 P) .nil .nil)) (.node (o23v22 P) (.node (o7v7 P) .nil .nil) (.node (o8v8 P) .nil .nil))) (.node (o11v27 P) (.node (o19v18 P) (.node (o7v7 P) (.node (o67v56 P) .nil .nil) .nil) (.node (o51v43 P) .nil .nil)) (.node (o27v26 P) (.node (o43v38 P) .nil .nil) (.node (o59v48 P) .nil .nil)))) (.node (o5v5 P) (.node (o9v9 P) (.node (o17v16 P) (.node (o8v8 P) (.node (o65v54 P) .nil .nil) .nil) (.node (o7v7 P) .nil .nil)) (.node (o25v24 P) (.node (o41v37 P) .nil .nil) (.node (o7v7 P) .nil .nil))) (.node (o13v13 P) (.node (o21v20 P) (.node (o37v34 P) .nil .nil) (.node (o53v45 P) .nil .nil)) (.node (o29v31 P) (.node (o45v40 P) .nil .nil) (.node (o61v50 P) .nil .nil))))) (.node (o2v2 P) (.node (o4v4 P) (.node (o8v8 P) (.node (o16v15 P) (.node (o7v7 P) (.node (o64v53 P) .nil .nil) .nil) (.node (o48v41 P) .nil .nil)) (.node (o24v23 P) (.node (o40v36 P) .nil .nil) (.node (o56v46 P) .nil .nil))) (.node (o12v12 P) (.node (o20v19 P) (.node (o36v33 P) .nil .nil) (.node (o52v44 P) .nil .nil)) (.node (o7v7 P) (.node (o44v39 P) .nil .nil) (.node (o60v49 P) .nil .nil)))) (.node (o6v6 P) (.node (o10v10 P) (.node (o18v17 P) (.node (o34v32 P) (.node (o66v55 P) .nil .nil) .nil) (.node (o50v42 P) .nil .nil)) (.node (o26v25 P) (.node (o7v7 P) .nil .nil) (.node (o58v47 P) .nil .nil))) (.node (o14v14 P) (.node (o22v21 P) (.node (o38v35 P) .nil .nil) (.node (o7v7 P) .nil .nil)) (.node (o30v28 P) (.node (o7v7 P) .nil .nil) (.node (o62v51 P) .nil .nil))))))
-- S4 n 68 toks 333 pos { line := 12, col := 0, endLine := 12, endCol := 13 }
noncomputable def o3v57 (P : Params) : Obj := { cls := .type "dict", data := .dict #[ke P "__name__" 165 (.str (so "cpy313.tomllib._parser") 329), ke P "__doc__" 166 .none, ke P "__package__" 167 .none, ke P "__loader__" 168 (.builtin "__main__.__loader__#opaque"), ke P "__spec__" 169 .none, ke P "__annotations__" 170 (.ref 6), ke P "__builtins__" 171 (.ref 4), ke P "__file__" 173 (.str (so "/claim/cut.py") 172), ke P "__cached__" 174 .none, ke P "_sre" 275 (.ref 12), ke P "_wall" 288 (.ref 38), ke P "_WallAttr" 328 (.ref 63), ke P "MAX_KEY_PARTS" 332 (.int 1000 331), ke P "ASCII_CTRL" 476 (.ref 84)] 14 }
noncomputable def o29v58 (P : Params) : Obj := { cls := .none, data := .fields #[.int 2 0, .int 0 0, .ref 37, .int 5 0, .int 0 0, .ref 44, .int 13 0, .int 23 0, .ref 72] }
noncomputable def o68v59 (P : Params) : Obj := { cls := .type "range", data := .fields #[.int 0 334, .int 32 333, .int 1 335] }
noncomputable def o69v60 (P : Params) : Obj := { cls := .type "range_iterator", data := .fields #[.int 32 0, .int 0 0, .int 1 0] }
noncomputable def o72v61 (P : Params) : Obj := { cls := .type "code", data := .fields #[.str (so "<genexpr>") 336, .str (so "<genexpr>") 337, .str (so "/claim/cut.py") 338, .int 13 0, .int 1 0, .int 0 0, .int 0 0, .int 35 0, .ref 70, .bool true, .int 276 0, .ref 71, .none, .none, .none, .none, .int 339 0, .int 13 0, .str (so "/claim/cut.py") 340] }
noncomputable def o73v62 (P : Params) : Obj := { cls := .type "frame", data := .dict #[ke P ".0" 341 (.ref 69), ke P "i" 345 (.int 31 468)] 2 }
noncomputable def o74v63 (P : Params) : Obj := { cls := .type "generator", data := .fields #[.int 0 0, .str (so "<genexpr>") 342, .str (so "<genexpr>") 343] }
noncomputable def o77v64 (P : Params) : Obj := { cls := .type "StopIteration", data := .fields #[.ref 76, .none, .none, .none, .bool false, .none] }
noncomputable def o79v65 (P : Params) : Obj := { cls := .type "StopIteration", data := .fields #[.ref 78, .none, .none, .none, .bool false, .none] }
noncomputable def o81v66 (P : Params) : Obj := { cls := .type "str_ascii_iterator", data := .fields #[.none, .int 1 0] }
noncomputable def o83v67 (P : Params) : Obj := { cls := .type "StopIteration", data := .fields #[.ref 82, .none, .none, .none, .bool false, .none] }
noncomputable def treeS5 (P : Params) (d75 : SD) (d80 : SD) (d84 : SD) : BT := (.node (o0v0 P) (.node (o1v1 P) (.node (o3v57 P) (.node (o7v7 P) (.node (o7v7 P) (.node (o31v29 P) (.node (o63v52 P) .nil .nil) .nil) (.node (o8v8 P) (.node (o79v65 P) .nil .nil) .nil)) (.node (o23v22 P) (.node (o7v7 P) (.node (o8v8 P) .nil .nil) .nil) (.node (o8v8 P) .nil .nil))) (.node (o11v27 P) (.node (o19v18 P) (.node (o7v7 P) (.node (o67v56 P) .nil .nil) .nil) (.node (o51v43 P) (.node (o83v67 P) .nil .nil) .nil)) (.node (o27v26 P) (.node (o43v38 P) (.node d75.obj .nil .nil) .nil) (.node (o59v48 P) .nil .nil)))) (.node (o5v5 P) (.node (o9v9 P) (.node (o17v16 P) (.node (o8v8 P) (.node (o65v54 P) .nil .nil) .nil) (.node (o7v7 P) (.node (o81v66 P) .nil .nil) .nil)) (.node (o25v24 P) (.node (o41v37 P) (.node (o73v62 P) .nil .nil) .nil) (.node (o7v7 P) .nil .nil))) (.node (o13v13 P) (.node (o21v20 P) (.node (o37v34 P) (.node (o69v60 P) .nil .nil) .nil) (.node (o53v45 P) .nil .nil)) (.node (o29v58 P) (.node (o45v40 P) (.node (o77v64 P) .nil .nil) .nil) (.node (o61v50 P) .nil .nil))))) (.node (o2v2 P) (.node (o4v4 P) (.node (o8v8 P) (.node (o16v15 P) (.node (o7v7 P) (.node (o64v53 P) .nil .nil) .nil) (.node (o48v41 P) (.node d80.obj .nil .nil) .nil)) (.node (o24v23 P) (.node (o40v36 P) (.node (o72v61 P) .nil .nil) .nil) (.node (o56v46 P) .nil .nil))) (.node (o12v12 P) (.node (o20v19 P) (.node (o36v33 P) (.node (o68v59 P) .nil .nil) .nil) (.node (o52v44 P) (.node d84.obj .nil .nil) .nil)) (.node (o7v7 P) (.node (o44v39 P) (.node (o7v7 P) .nil .nil) .nil) (.node (o60v49 P) .nil .nil)))) (.node (o6v6 P) (.node (o10v10 P) (.node (o18v17 P) (.node (o34v32 P) (.node (o66v55 P) .nil .nil) .nil) (.node (o50v42 P) (.node (o7v7 P) .nil .nil) .nil)) (.node (o26v25 P) (.node (o7v7 P) (.node (o74v63 P) .nil .nil) .nil) (.node (o58v47 P) .nil .nil))) (.node (o14v14 P) (.node (o22v21 P) (.node (o38v35 P) (.node (o7v7 P) .nil .nil) .nil) (.node (o7v7 P) .nil .nil)) (.node (o30v28 P) (.node (o7v7 P) (.node (o7v7 P) .nil .nil) .nil) (.node (o62v51 P) .nil .nil))))))
-- S5 n 85 toks 477 pos { line := 13, col := 0, endLine := 13, endCol := 10 }
noncomputable def o3v68 (P : Params) : Obj := { cls := .type "dict", data := .dict #[ke P "__name__" 165 (.str (so "cpy313.tomllib._parser") 329), ke P "__doc__" 166 .none, ke P "__package__" 167 .none, ke P "__loader__" 168 (.builtin "__main__.__loader__#opaque"), ke P "__spec__" 169 .none, ke P "__annotations__" 170 (.ref 6), ke P "__builtins__" 171 (.ref 4), ke P "__file__" 173 (.str (so "/claim/cut.py") 172), ke P "__cached__" 174 .none, ke P "_sre" 275 (.ref 12), ke P "_wall" 288 (.ref 38), ke P "_WallAttr" 328 (.ref 63), ke P "MAX_KEY_PARTS" 332 (.int 1000 331), ke P "ASCII_CTRL" 476 (.ref 84), ke P "ILLEGAL_BASIC_STR_CHARS" 480 (.ref 89)] 15 }
noncomputable def o88v69 (P : Params) : Obj := { cls := .type "StopIteration", data := .fields #[.ref 87, .none, .none, .none, .bool false, .none] }
noncomputable def treeS6 (P : Params) (d75 : SD) (d80 : SD) (d84 : SD) (d85 : SD) (d89 : SD) : BT := (.node (o0v0 P) (.node (o1v1 P) (.node (o3v68 P) (.node (o7v7 P) (.node (o7v7 P) (.node (o31v29 P) (.node (o63v52 P) .nil .nil) .nil) (.node (o8v8 P) (.node (o79v65 P) .nil .nil) .nil)) (.node (o23v22 P) (.node (o7v7 P) (.node (o8v8 P) .nil .nil) .nil) (.node (o8v8 P) (.node (o7v7 P) .nil .nil) .nil))) (.node (o11v27 P) (.node (o19v18 P) (.node (o7v7 P) (.node (o67v56 P) .nil .nil) .nil) (.node (o51v43 P) (.node (o83v67 P) .nil .nil) .nil)) (.node (o27v26 P) (.node (o43v38 P) (.node d75.obj .nil .nil) .nil) (.node (o59v48 P) .nil .nil)))) (.node (o5v5 P) (.node (o9v9 P) (.node (o17v16 P) (.node (o8v8 P) (.node (o65v54 P) .nil .nil) .nil) (.node (o7v7 P) (.node (o81v66 P) .nil .nil) .nil)) (.node (o25v24 P) (.node (o41v37 P) (.node (o73v62 P) .nil .nil) .nil) (.node (o7v7 P) (.node d89.obj .nil .nil) .nil))) (.node (o13v13 P) (.node (o21v20 P) (.node (o37v34 P) (.node (o69v60 P) .nil .nil) .nil) (.node (o53v45 P) (.node d85.obj .nil .nil) .nil)) (.node (o29v58 P) (.node (o45v40 P) (.node (o77v64 P) .nil .nil) .nil) (.node (o61v50 P) .nil .nil))))) (.node (o2v2 P) (.node (o4v4 P) (.node (o8v8 P) (.node (o16v15 P) (.node (o7v7 P) (.node (o64v53 P) .nil .nil) .nil) (.node (o48v41 P) (.node d80.obj .nil .nil) .nil)) (.node (o24v23 P) (.node (o40v36 P) (.node (o72v61 P) .nil .nil) .nil) (.node (o56v46 P) (.node (o88v69 P) .nil .nil) .nil))) (.node (o12v12 P) (.node (o20v19 P) (.node (o36v33 P) (.node (o68v59 P) .nil .nil) .nil) (.node (o52v44 P) (.node d84.obj .nil .nil) .nil)) (.node (o7v7 P) (.node (o44v39 P) (.node (o7v7 P) .nil .nil) .nil) (.node (o60v49 P) .nil .nil)))) (.node (o6v6 P) (.node (o10v10 P) (.node (o18v17 P) (.node (o34v32 P) (.node (o66v55 P) .nil .nil) .nil) (.node (o50v42 P) (.node (o7v7 P) .nil .nil) .nil)) (.node (o26v25 P) (.node (o7v7 P) (.node (o74v63 P) .nil .nil) .nil) (.node (o58v47 P) .nil .nil))) (.node (o14v14 P) (.node (o22v21 P) (.node (o38v35 P) (.node (o7v7 P) .nil .nil) .nil) (.node (o7v7 P) (.node (o81v66 P) .nil .nil) .nil)) (.node (o30v28 P) (.node (o7v7 P) (.node (o7v7 P) .nil .nil) .nil) (.node (o62v51 P) .nil .nil))))))
-- S6 n 90 toks 481 pos { line := 14, col := 0, endLine := 14, endCol := 23 }
noncomputable def o3v70 (P : Params) : Obj := { cls := .type "dict", data := .dict #[ke P "__name__" 165 (.str (so "cpy313.tomllib._parser") 329), ke P "__doc__" 166 .none, ke P "__package__" 167 .none, ke P "__loader__" 168 (.builtin "__main__.__loader__#opaque"), ke P "__spec__" 169 .none, ke P "__annotations__" 170 (.ref 6), ke P "__builtins__" 171 (.ref 4), ke P "__file__" 173 (.str (so "/claim/cut.py") 172), ke P "__cached__" 174 .none, ke P "_sre" 275 (.ref 12), ke P "_wall" 288 (.ref 38), ke P "_WallAttr" 328 (.ref 63), ke P "MAX_KEY_PARTS" 332 (.int 1000 331), ke P "ASCII_CTRL" 476 (.ref 84), ke P "ILLEGAL_BASIC_STR_CHARS" 480 (.ref 89), ke P "ILLEGAL_MULTILINE_BASIC_STR_CHARS" 486 (.ref 94)] 16 }
noncomputable def o91v71 (P : Params) : Obj := { cls := .type "str_ascii_iterator", data := .fields #[.none, .int 2 0] }
noncomputable def o93v72 (P : Params) : Obj := { cls := .type "StopIteration", data := .fields #[.ref 92, .none, .none, .none, .bool false, .none] }
noncomputable def treeS7 (P : Params) (d75 : SD) (d80 : SD) (d84 : SD) (d85 : SD) (d89 : SD) (d90 : SD) (d94 : SD) : BT := (.node (o0v0 P) (.node (o1v1 P) (.node (o3v70 P) (.node (o7v7 P) (.node (o7v7 P) (.node (o31v29 P) (.node (o63v52 P) .nil .nil) .nil) (.node (o8v8 P) (.node (o79v65 P) .nil .nil) .nil)) (.node (o23v22 P) (.node (o7v7 P) (.node (o8v8 P) .nil .nil) .nil) (.node (o8v8 P) (.node (o7v7 P) .nil .nil) .nil))) (.node (o11v27 P) (.node (o19v18 P) (.node (o7v7 P) (.node (o67v56 P) .nil .nil) .nil) (.node (o51v43 P) (.node (o83v67 P) .nil .nil) .nil)) (.node (o27v26 P) (.node (o43v38 P) (.node d75.obj .nil .nil) .nil) (.node (o59v48 P) (.node (o91v71 P) .nil .nil) .nil)))) (.node (o5v5 P) (.node (o9v9 P) (.node (o17v16 P) (.node (o8v8 P) (.node (o65v54 P) .nil .nil) .nil) (.node (o7v7 P) (.node (o81v66 P) .nil .nil) .nil)) (.node (o25v24 P) (.node (o41v37 P) (.node (o73v62 P) .nil .nil) .nil) (.node (o7v7 P) (.node d89.obj .nil .nil) .nil))) (.node (o13v13 P) (.node (o21v20 P) (.node (o37v34 P) (.node (o69v60 P) .nil .nil) .nil) (.node (o53v45 P) (.node d85.obj .nil .nil) .nil)) (.node (o29v58 P) (.node (o45v40 P) (.node (o77v64 P) .nil .nil) .nil) (.node (o61v50 P) (.node (o93v72 P) .nil .nil) .nil))))) (.node (o2v2 P) (.node (o4v4 P) (.node (o8v8 P) (.node (o16v15 P) (.node (o7v7 P) (.node (o64v53 P) .nil .nil) .nil) (.node (o48v41 P) (.node d80.obj .nil .nil) .nil)) (.node (o24v23 P) (.node (o40v36 P) (.node (o72v61 P) .nil .nil) .nil) (.node (o56v46 P) (.node (o88v69 P) .nil .nil) .nil))) (.node (o12v12 P) (.node (o20v19 P) (.node (o36v33 P) (.node (o68v59 P) .nil .nil) .nil) (.node (o52v44 P) (.node d84.obj .nil .nil) .nil)) (.node (o7v7 P) (.node (o44v39 P) (.node (o7v7 P) .nil .nil) .nil) (.node (o60v49 P) (.node (o7v7 P) .nil .nil) .nil)))) (.node (o6v6 P) (.node (o10v10 P) (.node (o18v17 P) (.node (o34v32 P) (.node (o66v55 P) .nil .nil) .nil) (.node (o50v42 P) (.node (o7v7 P) .nil .nil) .nil)) (.node (o26v25 P) (.node (o7v7 P) (.node (o74v63 P) .nil .nil) .nil) (.node (o58v47 P) (.node d90.obj .nil .nil) .nil))) (.node (o14v14 P) (.node (o22v21 P) (.node (o38v35 P) (.node (o7v7 P) .nil .nil) .nil) (.node (o7v7 P) (.node (o81v66 P) .nil .nil) .nil)) (.node (o30v28 P) (.node (o7v7 P) (.node (o7v7 P) .nil .nil) .nil) (.node (o62v51 P) (.node d94.obj .nil .nil) .nil))))))
-- S7 n 95 toks 487 pos { line := 15, col := 0, endLine := 15, endCol := 33 }
noncomputable def o3v73 (P : Params) : Obj := { cls := .type "dict", data := .dict #[ke P "__name__" 165 (.str (so "cpy313.tomllib._parser") 329), ke P "__doc__" 166 .none, ke P "__package__" 167 .none, ke P "__loader__" 168 (.builtin "__main__.__loader__#opaque"), ke P "__spec__" 169 .none, ke P "__annotations__" 170 (.ref 6), ke P "__builtins__" 171 (.ref 4), ke P "__file__" 173 (.str (so "/claim/cut.py") 172), ke P "__cached__" 174 .none, ke P "_sre" 275 (.ref 12), ke P "_wall" 288 (.ref 38), ke P "_WallAttr" 328 (.ref 63), ke P "MAX_KEY_PARTS" 332 (.int 1000 331), ke P "ASCII_CTRL" 476 (.ref 84), ke P "ILLEGAL_BASIC_STR_CHARS" 480 (.ref 89), ke P "ILLEGAL_MULTILINE_BASIC_STR_CHARS" 486 (.ref 94), ke P "ILLEGAL_LITERAL_STR_CHARS" 487 (.ref 89)] 17 }
noncomputable def treeS8 (P : Params) (d75 : SD) (d80 : SD) (d84 : SD) (d85 : SD) (d89 : SD) (d90 : SD) (d94 : SD) : BT := (.node (o0v0 P) (.node (o1v1 P) (.node (o3v73 P) (.node (o7v7 P) (.node (o7v7 P) (.node (o31v29 P) (.node (o63v52 P) .nil .nil) .nil) (.node (o8v8 P) (.node (o79v65 P) .nil .nil) .nil)) (.node (o23v22 P) (.node (o7v7 P) (.node (o8v8 P) .nil .nil) .nil) (.node (o8v8 P) (.node (o7v7 P) .nil .nil) .nil))) (.node (o11v27 P) (.node (o19v18 P) (.node (o7v7 P) (.node (o67v56 P) .nil .nil) .nil) (.node (o51v43 P) (.node (o83v67 P) .nil .nil) .nil)) (.node (o27v26 P) (.node (o43v38 P) (.node d75.obj .nil .nil) .nil) (.node (o59v48 P) (.node (o91v71 P) .nil .nil) .nil)))) (.node (o5v5 P) (.node (o9v9 P) (.node (o17v16 P) (.node (o8v8 P) (.node (o65v54 P) .nil .nil) .nil) (.node (o7v7 P) (.node (o81v66 P) .nil .nil) .nil)) (.node (o25v24 P) (.node (o41v37 P) (.node (o73v62 P) .nil .nil) .nil) (.node (o7v7 P) (.node d89.obj .nil .nil) .nil))) (.node (o13v13 P) (.node (o21v20 P) (.node (o37v34 P) (.node (o69v60 P) .nil .nil) .nil) (.node (o53v45 P) (.node d85.obj .nil .nil) .nil)) (.node (o29v58 P) (.node (o45v40 P) (.node (o77v64 P) .nil .nil) .nil) (.node (o61v50 P) (.node (o93v72 P) .nil .nil) .nil))))) (.node (o2v2 P) (.node (o4v4 P) (.node (o8v8 P) (.node (o16v15 P) (.node (o7v7 P) (.node (o64v53 P) .nil .nil) .nil) (.node (o48v41 P) (.node d80.obj .nil .nil) .nil)) (.node (o24v23 P) (.node (o40v36 P) (.node (o72v61 P) .nil .nil) .nil) (.node (o56v46 P) (.node (o88v69 P) .nil .nil) .nil))) (.node (o12v12 P) (.node (o20v19 P) (.node (o36v33 P) (.node (o68v59 P) .nil .nil) .nil) (.node (o52v44 P) (.node d84.obj .nil .nil) .nil)) (.node (o7v7 P) (.node (o44v39 P) (.node (o7v7 P) .nil .nil) .nil) (.node (o60v49 P) (.node (o7v7 P) .nil .nil) .nil)))) (.node (o6v6 P) (.node (o10v10 P) (.node (o18v17 P) (.node (o34v32 P) (.node (o66v55 P) .nil .nil) .nil) (.node (o50v42 P) (.node (o7v7 P) .nil .nil) .nil)) (.node (o26v25 P) (.node (o7v7 P) (.node (o74v63 P) .nil .nil) .nil) (.node (o58v47 P) (.node d90.obj .nil .nil) .nil))) (.node (o14v14 P) (.node (o22v21 P) (.node (o38v35 P) (.node (o7v7 P) .nil .nil) .nil) (.node (o7v7 P) (.node (o81v66 P) .nil .nil) .nil)) (.node (o30v28 P) (.node (o7v7 P) (.node (o7v7 P) .nil .nil) .nil) (.node (o62v51 P) (.node d94.obj .nil .nil) .nil))))))
-- S8 n 95 toks 488 pos { line := 16, col := 0, endLine := 16, endCol := 25 }
noncomputable def o3v74 (P : Params) : Obj := { cls := .type "dict", data := .dict #[ke P "__name__" 165 (.str (so "cpy313.tomllib._parser") 329), ke P "__doc__" 166 .none, ke P "__package__" 167 .none, ke P "__loader__" 168 (.builtin "__main__.__loader__#opaque"), ke P "__spec__" 169 .none, ke P "__annotations__" 170 (.ref 6), ke P "__builtins__" 171 (.ref 4), ke P "__file__" 173 (.str (so "/claim/cut.py") 172), ke P "__cached__" 174 .none, ke P "_sre" 275 (.ref 12), ke P "_wall" 288 (.ref 38), ke P "_WallAttr" 328 (.ref 63), ke P "MAX_KEY_PARTS" 332 (.int 1000 331), ke P "ASCII_CTRL" 476 (.ref 84), ke P "ILLEGAL_BASIC_STR_CHARS" 480 (.ref 89), ke P "ILLEGAL_MULTILINE_BASIC_STR_CHARS" 486 (.ref 94), ke P "ILLEGAL_LITERAL_STR_CHARS" 487 (.ref 89), ke P "TOML_WS" 493 (.ref 95)] 18 }
noncomputable def o98v75 (P : Params) : Obj := { cls := .type "StopIteration", data := .fields #[.ref 97, .none, .none, .none, .bool false, .none] }
noncomputable def treeS9 (P : Params) (d75 : SD) (d80 : SD) (d84 : SD) (d85 : SD) (d89 : SD) (d90 : SD) (d94 : SD) (d95 : SD) : BT := (.node (o0v0 P) (.node (o1v1 P) (.node (o3v74 P) (.node (o7v7 P) (.node (o7v7 P) (.node (o31v29 P) (.node (o63v52 P) .nil .nil) (.node d95.obj .nil .nil)) (.node (o8v8 P) (.node (o79v65 P) .nil .nil) .nil)) (.node (o23v22 P) (.node (o7v7 P) (.node (o8v8 P) .nil .nil) .nil) (.node (o8v8 P) (.node (o7v7 P) .nil .nil) .nil))) (.node (o11v27 P) (.node (o19v18 P) (.node (o7v7 P) (.node (o67v56 P) .nil .nil) .nil) (.node (o51v43 P) (.node (o83v67 P) .nil .nil) .nil)) (.node (o27v26 P) (.node (o43v38 P) (.node d75.obj .nil .nil) .nil) (.node (o59v48 P) (.node (o91v71 P) .nil .nil) .nil)))) (.node (o5v5 P) (.node (o9v9 P) (.node (o17v16 P) (.node (o8v8 P) (.node (o65v54 P) .nil .nil) (.node (o7v7 P) .nil .nil)) (.node (o7v7 P) (.node (o81v66 P) .nil .nil) .nil)) (.node (o25v24 P) (.node (o41v37 P) (.node (o73v62 P) .nil .nil) .nil) (.node (o7v7 P) (.node d89.obj .nil .nil) .nil))) (.node (o13v13 P) (.node (o21v20 P) (.node (o37v34 P) (.node (o69v60 P) .nil .nil) .nil) (.node (o53v45 P) (.node d85.obj .nil .nil) .nil)) (.node (o29v58 P) (.node (o45v40 P) (.node (o77v64 P) .nil .nil) .nil) (.node (o61v50 P) (.node (o93v72 P) .nil .nil) .nil))))) (.node (o2v2 P) (.node (o4v4 P) (.node (o8v8 P) (.node (o16v15 P) (.node (o7v7 P) (.node (o64v53 P) .nil .nil) (.node (o91v71 P) .nil .nil)) (.node (o48v41 P) (.node d80.obj .nil .nil) .nil)) (.node (o24v23 P) (.node (o40v36 P) (.node (o72v61 P) .nil .nil) .nil) (.node (o56v46 P) (.node (o88v69 P) .nil .nil) .nil))) (.node (o12v12 P) (.node (o20v19 P) (.node (o36v33 P) (.node (o68v59 P) .nil .nil) .nil) (.node (o52v44 P) (.node d84.obj .nil .nil) .nil)) (.node (o7v7 P) (.node (o44v39 P) (.node (o7v7 P) .nil .nil) .nil) (.node (o60v49 P) (.node (o7v7 P) .nil .nil) .nil)))) (.node (o6v6 P) (.node (o10v10 P) (.node (o18v17 P) (.node (o34v32 P) (.node (o66v55 P) .nil .nil) (.node (o98v75 P) .nil .nil)) (.node (o50v42 P) (.node (o7v7 P) .nil .nil) .nil)) (.node (o26v25 P) (.node (o7v7 P) (.node (o74v63 P) .nil .nil) .nil) (.node (o58v47 P) (.node d90.obj .nil .nil) .nil))) (.node (o14v14 P) (.node (o22v21 P) (.node (o38v35 P) (.node (o7v7 P) .nil .nil) .nil) (.node (o7v7 P) (.node (o81v66 P) .nil .nil) .nil)) (.node (o30v28 P) (.node (o7v7 P) (.node (o7v7 P) .nil .nil) .nil) (.node (o62v51 P) (.node d94.obj .nil .nil) .nil))))))
-- S9 n 99 toks 494 pos { line := 17, col := 0, endLine := 17, endCol := 7 }
noncomputable def o3v76 (P : Params) : Obj := { cls := .type "dict", data := .dict #[ke P "__name__" 165 (.str (so "cpy313.tomllib._parser") 329), ke P "__doc__" 166 .none, ke P "__package__" 167 .none, ke P "__loader__" 168 (.builtin "__main__.__loader__#opaque"), ke P "__spec__" 169 .none, ke P "__annotations__" 170 (.ref 6), ke P "__builtins__" 171 (.ref 4), ke P "__file__" 173 (.str (so "/claim/cut.py") 172), ke P "__cached__" 174 .none, ke P "_sre" 275 (.ref 12), ke P "_wall" 288 (.ref 38), ke P "_WallAttr" 328 (.ref 63), ke P "MAX_KEY_PARTS" 332 (.int 1000 331), ke P "ASCII_CTRL" 476 (.ref 84), ke P "ILLEGAL_BASIC_STR_CHARS" 480 (.ref 89), ke P "ILLEGAL_MULTILINE_BASIC_STR_CHARS" 486 (.ref 94), ke P "ILLEGAL_LITERAL_STR_CHARS" 487 (.ref 89), ke P "TOML_WS" 493 (.ref 95), ke P "TOML_WS_AND_NEWLINE" 497 (.ref 103)] 19 }
noncomputable def o102v77 (P : Params) : Obj := { cls := .type "StopIteration", data := .fields #[.ref 101, .none, .none, .none, .bool false, .none] }
noncomputable def treeS10 (P : Params) (d75 : SD) (d80 : SD) (d84 : SD) (d85 : SD) (d89 : SD) (d90 : SD) (d94 : SD) (d95 : SD) (d99 : SD) (d103 : SD) : BT := (.node (o0v0 P) (.node (o1v1 P) (.node (o3v76 P) (.node (o7v7 P) (.node (o7v7 P) (.node (o31v29 P) (.node (o63v52 P) .nil .nil) (.node d95.obj .nil .nil)) (.node (o8v8 P) (.node (o79v65 P) .nil .nil) .nil)) (.node (o23v22 P) (.node (o7v7 P) (.node (o8v8 P) .nil .nil) (.node d103.obj .nil .nil)) (.node (o8v8 P) (.node (o7v7 P) .nil .nil) .nil))) (.node (o11v27 P) (.node (o19v18 P) (.node (o7v7 P) (.node (o67v56 P) .nil .nil) (.node d99.obj .nil .nil)) (.node (o51v43 P) (.node (o83v67 P) .nil .nil) .nil)) (.node (o27v26 P) (.node (o43v38 P) (.node d75.obj .nil .nil) .nil) (.node (o59v48 P) (.node (o91v71 P) .nil .nil) .nil)))) (.node (o5v5 P) (.node (o9v9 P) (.node (o17v16 P) (.node (o8v8 P) (.node (o65v54 P) .nil .nil) (.node (o7v7 P) .nil .nil)) (.node (o7v7 P) (.node (o81v66 P) .nil .nil) .nil)) (.node (o25v24 P) (.node (o41v37 P) (.node (o73v62 P) .nil .nil) .nil) (.node (o7v7 P) (.node d89.obj .nil .nil) .nil))) (.node (o13v13 P) (.node (o21v20 P) (.node (o37v34 P) (.node (o69v60 P) .nil .nil) (.node (o7v7 P) .nil .nil)) (.node (o53v45 P) (.node d85.obj .nil .nil) .nil)) (.node (o29v58 P) (.node (o45v40 P) (.node (o77v64 P) .nil .nil) .nil) (.node (o61v50 P) (.node (o93v72 P) .nil .nil) .nil))))) (.node (o2v2 P) (.node (o4v4 P) (.node (o8v8 P) (.node (o16v15 P) (.node (o7v7 P) (.node (o64v53 P) .nil .nil) (.node (o91v71 P) .nil .nil)) (.node (o48v41 P) (.node d80.obj .nil .nil) .nil)) (.node (o24v23 P) (.node (o40v36 P) (.node (o72v61 P) .nil .nil) .nil) (.node (o56v46 P) (.node (o88v69 P) .nil .nil) .nil))) (.node (o12v12 P) (.node (o20v19 P) (.node (o36v33 P) (.node (o68v59 P) .nil .nil) (.node (o81v66 P) .nil .nil)) (.node (o52v44 P) (.node d84.obj .nil .nil) .nil)) (.node (o7v7 P) (.node (o44v39 P) (.node (o7v7 P) .nil .nil) .nil) (.node (o60v49 P) (.node (o7v7 P) .nil .nil) .nil)))) (.node (o6v6 P) (.node (o10v10 P) (.node (o18v17 P) (.node (o34v32 P) (.node (o66v55 P) .nil .nil) (.node (o98v75 P) .nil .nil)) (.node (o50v42 P) (.node (o7v7 P) .nil .nil) .nil)) (.node (o26v25 P) (.node (o7v7 P) (.node (o74v63 P) .nil .nil) .nil) (.node (o58v47 P) (.node d90.obj .nil .nil) .nil))) (.node (o14v14 P) (.node (o22v21 P) (.node (o38v35 P) (.node (o7v7 P) .nil .nil) (.node (o102v77 P) .nil .nil)) (.node (o7v7 P) (.node (o81v66 P) .nil .nil) .nil)) (.node (o30v28 P) (.node (o7v7 P) (.node (o7v7 P) .nil .nil) .nil) (.node (o62v51 P) (.node d94.obj .nil .nil) .nil))))))
-- S10 n 104 toks 498 pos { line := 18, col := 0, endLine := 18, endCol := 19 }
noncomputable def o3v78 (P : Params) : Obj := { cls := .type "dict", data := .dict #[ke P "__name__" 165 (.str (so "cpy313.tomllib._parser") 329), ke P "__doc__" 166 .none, ke P "__package__" 167 .none, ke P "__loader__" 168 (.builtin "__main__.__loader__#opaque"), ke P "__spec__" 169 .none, ke P "__annotations__" 170 (.ref 6), ke P "__builtins__" 171 (.ref 4), ke P "__file__" 173 (.str (so "/claim/cut.py") 172), ke P "__cached__" 174 .none, ke P "_sre" 275 (.ref 12), ke P "_wall" 288 (.ref 38), ke P "_WallAttr" 328 (.ref 63), ke P "MAX_KEY_PARTS" 332 (.int 1000 331), ke P "ASCII_CTRL" 476 (.ref 84), ke P "ILLEGAL_BASIC_STR_CHARS" 480 (.ref 89), ke P "ILLEGAL_MULTILINE_BASIC_STR_CHARS" 486 (.ref 94), ke P "ILLEGAL_LITERAL_STR_CHARS" 487 (.ref 89), ke P "TOML_WS" 493 (.ref 95), ke P "TOML_WS_AND_NEWLINE" 497 (.ref 103), ke P "ascii_lowercase" 499 (.str (so "abcdefghijklmnopqrstuvwxyz") 498), ke P "ascii_uppercase" 501 (.str (so "ABCDEFGHIJKLMNOPQRSTUVWXYZ") 500), ke P "ascii_letters" 503 (.str (so "abcdefghijklmnopqrstuvwxyzABCDEFGHIJKLMNOPQRSTUVWXYZ") 502), ke P "digits" 505 (.str (so "0123456789") 504), ke P "hexdigits" 510 (.str (so "0123456789abcdefABCDEF") 509)] 24 }
noncomputable def treeS15 (P : Params) (d75 : SD) (d80 : SD) (d84 : SD) (d85 : SD) (d89 : SD) (d90 : SD) (d94 : SD) (d95 : SD) (d99 : SD) (d103 : SD) : BT := (.node (o0v0 P) (.node (o1v1 P) (.node (o3v78 P) (.node (o7v7 P) (.node (o7v7 P) (.node (o31v29 P) (.node (o63v52 P) .nil .nil) (.node d95.obj .nil .nil)) (.node (o8v8 P) (.node (o79v65 P) .nil .nil) .nil)) (.node (o23v22 P) (.node (o7v7 P) (.node (o8v8 P) .nil .nil) (.node d103.obj .nil .nil)) (.node (o8v8 P) (.node (o7v7 P) .nil .nil) .nil))) (.node (o11v27 P) (.node (o19v18 P) (.node (o7v7 P) (.node (o67v56 P) .nil .nil) (.node d99.obj .nil .nil)) (.node (o51v43 P) (.node (o83v67 P) .nil .nil) .nil)) (.node (o27v26 P) (.node (o43v38 P) (.node d75.obj .nil .nil) .nil) (.node (o59v48 P) (.node (o91v71 P) .nil .nil) .nil)))) (.node (o5v5 P) (.node (o9v9 P) (.node (o17v16 P) (.node (o8v8 P) (.node (o65v54 P) .nil .nil) (.node (o7v7 P) .nil .nil)) (.node (o7v7 P) (.node (o81v66 P) .nil .nil) .nil)) (.node (o25v24 P) (.node (o41v37 P) (.node (o73v62 P) .nil .nil) .nil) (.node (o7v7 P) (.node d89.obj .nil .nil) .nil))) (.node (o13v13 P) (.node (o21v20 P) (.node (o37v34 P) (.node (o69v60 P) .nil .nil) (.node (o7v7 P) .nil .nil)) (.node (o53v45 P) (.node d85.obj .nil .nil) .nil)) (.node (o29v58 P) (.node (o45v40 P) (.node (o77v64 P) .nil .nil) .nil) (.node (o61v50 P) (.node (o93v72 P) .nil .nil) .nil))))) (.node (o2v2 P) (.node (o4v4 P) (.node (o8v8 P) (.node (o16v15 P) (.node (o7v7 P) (.node (o64v53 P) .nil .nil) (.node (o91v71 P) .nil .nil)) (.node (o48v41 P) (.node d80.obj .nil .nil) .nil)) (.node (o24v23 P) (.node (o40v36 P) (.node (o72v61 P) .nil .nil) .nil) (.node (o56v46 P) (.node (o88v69 P) .nil .nil) .nil))) (.node (o12v12 P) (.node (o20v19 P) (.node (o36v33 P) (.node (o68v59 P) .nil .nil) (.node (o81v66 P) .nil .nil)) (.node (o52v44 P) (.node d84.obj .nil .nil) .nil)) (.node (o7v7 P) (.node (o44v39 P) (.node (o7v7 P) .nil .nil) .nil) (.node (o60v49 P) (.node (o7v7 P) .nil .nil) .nil)))) (.node (o6v6 P) (.node (o10v10 P) (.node (o18v17 P) (.node (o34v32 P) (.node (o66v55 P) .nil .nil) (.node (o98v75 P) .nil .nil)) (.node (o50v42 P) (.node (o7v7 P) .nil .nil) .nil)) (.node (o26v25 P) (.node (o7v7 P) (.node (o74v63 P) .nil .nil) .nil) (.node (o58v47 P) (.node d90.obj .nil .nil) .nil))) (.node (o14v14 P) (.node (o22v21 P) (.node (o38v35 P) (.node (o7v7 P) .nil .nil) (.node (o102v77 P) .nil .nil)) (.node (o7v7 P) (.node (o81v66 P) .nil .nil) .nil)) (.node (o30v28 P) (.node (o7v7 P) (.node (o7v7 P) .nil .nil) .nil) (.node (o62v51 P) (.node d94.obj .nil .nil) .nil))))))
-- S15 n 104 toks 511 pos { line := 23, col := 0, endLine := 23, endCol := 9 }
noncomputable def o3v79 (P : Params) : Obj := { cls := .type "dict", data := .dict #[ke P "__name__" 165 (.str (so "cpy313.tomllib._parser") 329), ke P "__doc__" 166 .none, ke P "__package__" 167 .none, ke P "__loader__" 168 (.builtin "__main__.__loader__#opaque"), ke P "__spec__" 169 .none, ke P "__annotations__" 170 (.ref 6), ke P "__builtins__" 171 (.ref 4), ke P "__file__" 173 (.str (so "/claim/cut.py") 172), ke P "__cached__" 174 .none, ke P "_sre" 275 (.ref 12), ke P "_wall" 288 (.ref 38), ke P "_WallAttr" 328 (.ref 63), ke P "MAX_KEY_PARTS" 332 (.int 1000 331), ke P "ASCII_CTRL" 476 (.ref 84), ke P "ILLEGAL_BASIC_STR_CHARS" 480 (.ref 89), ke P "ILLEGAL_MULTILINE_BASIC_STR_CHARS" 486 (.ref 94), ke P "ILLEGAL_LITERAL_STR_CHARS" 487 (.ref 89), ke P "TOML_WS" 493 (.ref 95), ke P "TOML_WS_AND_NEWLINE" 497 (.ref 103), ke P "ascii_lowercase" 499 (.str (so "abcdefghijklmnopqrstuvwxyz") 498), ke P "ascii_uppercase" 501 (.str (so "ABCDEFGHIJKLMNOPQRSTUVWXYZ") 500), ke P "ascii_letters" 503 (.str (so "abcdefghijklmnopqrstuvwxyzABCDEFGHIJKLMNOPQRSTUVWXYZ") 502), ke P "digits" 505 (.str (so "0123456789") 504), ke P "hexdigits" 510 (.str (so "0123456789abcdefABCDEF") 509), ke P "BARE_KEY_CHARS" 642 (.ref 104)] 25 }
noncomputable def o105v80 (P : Params) : Obj := { cls := .type "str_ascii_iterator", data := .fields #[.none, .int 64 0] }
noncomputable def o107v81 (P : Params) : Obj := { cls := .type "StopIteration", data := .fields #[.ref 106, .none, .none, .none, .bool false, .none] }
noncomputable def treeS16 (P : Params) (d75 : SD) (d80 : SD) (d84 : SD) (d85 : SD) (d89 : SD) (d90 : SD) (d94 : SD) (d95 : SD) (d99 : SD) (d103 : SD) (d104 : SD) : BT := (.node (o0v0 P) (.node (o1v1 P) (.node (o3v79 P) (.node (o7v7 P) (.node (o7v7 P) (.node (o31v29 P) (.node (o63v52 P) .nil .nil) (.node d95.obj .nil .nil)) (.node (o8v8 P) (.node (o79v65 P) .nil .nil) .nil)) (.node (o23v22 P) (.node (o7v7 P) (.node (o8v8 P) .nil .nil) (.node d103.obj .nil .nil)) (.node (o8v8 P) (.node (o7v7 P) .nil .nil) .nil))) (.node (o11v27 P) (.node (o19v18 P) (.node (o7v7 P) (.node (o67v56 P) .nil .nil) (.node d99.obj .nil .nil)) (.node (o51v43 P) (.node (o83v67 P) .nil .nil) .nil)) (.node (o27v26 P) (.node (o43v38 P) (.node d75.obj .nil .nil) (.node (o107v81 P) .nil .nil)) (.node (o59v48 P) (.node (o91v71 P) .nil .nil) .nil)))) (.node (o5v5 P) (.node (o9v9 P) (.node (o17v16 P) (.node (o8v8 P) (.node (o65v54 P) .nil .nil) (.node (o7v7 P) .nil .nil)) (.node (o7v7 P) (.node (o81v66 P) .nil .nil) .nil)) (.node (o25v24 P) (.node (o41v37 P) (.node (o73v62 P) .nil .nil) (.node (o105v80 P) .nil .nil)) (.node (o7v7 P) (.node d89.obj .nil .nil) .nil))) (.node (o13v13 P) (.node (o21v20 P) (.node (o37v34 P) (.node (o69v60 P) .nil .nil) (.node (o7v7 P) .nil .nil)) (.node (o53v45 P) (.node d85.obj .nil .nil) .nil)) (.node (o29v58 P) (.node (o45v40 P) (.node (o77v64 P) .nil .nil) .nil) (.node (o61v50 P) (.node (o93v72 P) .nil .nil) .nil))))) (.node (o2v2 P) (.node (o4v4 P) (.node (o8v8 P) (.node (o16v15 P) (.node (o7v7 P) (.node (o64v53 P) .nil .nil) (.node (o91v71 P) .nil .nil)) (.node (o48v41 P) (.node d80.obj .nil .nil) .nil)) (.node (o24v23 P) (.node (o40v36 P) (.node (o72v61 P) .nil .nil) (.node d104.obj .nil .nil)) (.node (o56v46 P) (.node (o88v69 P) .nil .nil) .nil))) (.node (o12v12 P) (.node (o20v19 P) (.node (o36v33 P) (.node (o68v59 P) .nil .nil) (.node (o81v66 P) .nil .nil)) (.node (o52v44 P) (.node d84.obj .nil .nil) .nil)) (.node (o7v7 P) (.node (o44v39 P) (.node (o7v7 P) .nil .nil) .nil) (.node (o60v49 P) (.node (o7v7 P) .nil .nil) .nil)))) (.node (o6v6 P) (.node (o10v10 P) (.node (o18v17 P) (.node (o34v32 P) (.node (o66v55 P) .nil .nil) (.node (o98v75 P) .nil .nil)) (.node (o50v42 P) (.node (o7v7 P) .nil .nil) .nil)) (.node (o26v25 P) (.node (o7v7 P) (.node (o74v63 P) .nil .nil) (.node (o7v7 P) .nil .nil)) (.node (o58v47 P) (.node d90.obj .nil .nil) .nil))) (.node (o14v14 P) (.node (o22v21 P) (.node (o38v35 P) (.node (o7v7 P) .nil .nil) (.node (o102v77 P) .nil .nil)) (.node (o7v7 P) (.node (o81v66 P) .nil .nil) .nil)) (.node (o30v28 P) (.node (o7v7 P) (.node (o7v7 P) .nil .nil) .nil) (.node (o62v51 P) (.node d94.obj .nil .nil) .nil))))))
-- S16 n 108 toks 643 pos { line := 24, col := 0, endLine := 24, endCol := 14 }
noncomputable def o3v82 (P : Params) : Obj := { cls := .type "dict", data := .dict #[ke P "__name__" 165 (.str (so "cpy313.tomllib._parser") 329), ke P "__doc__" 166 .none, ke P "__package__" 167 .none, ke P "__loader__" 168 (.builtin "__main__.__loader__#opaque"), ke P "__spec__" 169 .none, ke P "__annotations__" 170 (.ref 6), ke P "__builtins__" 171 (.ref 4), ke P "__file__" 173 (.str (so "/claim/cut.py") 172), ke P "__cached__" 174 .none, ke P "_sre" 275 (.ref 12), ke P "_wall" 288 (.ref 38), ke P "_WallAttr" 328 (.ref 63), ke P "MAX_KEY_PARTS" 332 (.int 1000 331), ke P "ASCII_CTRL" 476 (.ref 84), ke P "ILLEGAL_BASIC_STR_CHARS" 480 (.ref 89), ke P "ILLEGAL_MULTILINE_BASIC_STR_CHARS" 486 (.ref 94), ke P "ILLEGAL_LITERAL_STR_CHARS" 487 (.ref 89), ke P "TOML_WS" 493 (.ref 95), ke P "TOML_WS_AND_NEWLINE" 497 (.ref 103), ke P "ascii_lowercase" 499 (.str (so "abcdefghijklmnopqrstuvwxyz") 498), ke P "ascii_uppercase" 501 (.str (so "ABCDEFGHIJKLMNOPQRSTUVWXYZ") 500), ke P "ascii_letters" 503 (.str (so "abcdefghijklmnopqrstuvwxyzABCDEFGHIJKLMNOPQRSTUVWXYZ") 502), ke P "digits" 505 (.str (so "0123456789") 504), ke P "hexdigits" 510 (.str (so "0123456789abcdefABCDEF") 509), ke P "BARE_KEY_CHARS" 642 (.ref 104), ke P "HEXDIGIT_CHARS" 687 (.ref 108)] 26 }
noncomputable def o109v83 (P : Params) : Obj := { cls := .type "str_ascii_iterator", data := .fields #[.none, .int 22 0] }
noncomputable def o111v84 (P : Params) : Obj := { cls := .type "StopIteration", data := .fields #[.ref 110, .none, .none, .none, .bool false, .none] }
noncomputable def treeS17 (P : Params) (d75 : SD) (d80 : SD) (d84 : SD) (d85 : SD) (d89 : SD) (d90 : SD) (d94 : SD) (d95 : SD) (d99 : SD) (d103 : SD) (d104 : SD) (d108 : SD) : BT := (.node (o0v0 P) (.node (o1v1 P) (.node (o3v82 P) (.node (o7v7 P) (.node (o7v7 P) (.node (o31v29 P) (.node (o63v52 P) .nil .nil) (.node d95.obj .nil .nil)) (.node (o8v8 P) (.node (o79v65 P) .nil .nil) (.node (o111v84 P) .nil .nil))) (.node (o23v22 P) (.node (o7v7 P) (.node (o8v8 P) .nil .nil) (.node d103.obj .nil .nil)) (.node (o8v8 P) (.node (o7v7 P) .nil .nil) .nil))) (.node (o11v27 P) (.node (o19v18 P) (.node (o7v7 P) (.node (o67v56 P) .nil .nil) (.node d99.obj .nil .nil)) (.node (o51v43 P) (.node (o83v67 P) .nil .nil) .nil)) (.node (o27v26 P) (.node (o43v38 P) (.node d75.obj .nil .nil) (.node (o107v81 P) .nil .nil)) (.node (o59v48 P) (.node (o91v71 P) .nil .nil) .nil)))) (.node (o5v5 P) (.node (o9v9 P) (.node (o17v16 P) (.node (o8v8 P) (.node (o65v54 P) .nil .nil) (.node (o7v7 P) .nil .nil)) (.node (o7v7 P) (.node (o81v66 P) .nil .nil) .nil)) (.node (o25v24 P) (.node (o41v37 P) (.node (o73v62 P) .nil .nil) (.node (o105v80 P) .nil .nil)) (.node (o7v7 P) (.node d89.obj .nil .nil) .nil))) (.node (o13v13 P) (.node (o21v20 P) (.node (o37v34 P) (.node (o69v60 P) .nil .nil) (.node (o7v7 P) .nil .nil)) (.node (o53v45 P) (.node d85.obj .nil .nil) .nil)) (.node (o29v58 P) (.node (o45v40 P) (.node (o77v64 P) .nil .nil) (.node (o109v83 P) .nil .nil)) (.node (o61v50 P) (.node (o93v72 P) .nil .nil) .nil))))) (.node (o2v2 P) (.node (o4v4 P) (.node (o8v8 P) (.node (o16v15 P) (.node (o7v7 P) (.node (o64v53 P) .nil .nil) (.node (o91v71 P) .nil .nil)) (.node (o48v41 P) (.node d80.obj .nil .nil) .nil)) (.node (o24v23 P) (.node (o40v36 P) (.node (o72v61 P) .nil .nil) (.node d104.obj .nil .nil)) (.node (o56v46 P) (.node (o88v69 P) .nil .nil) .nil))) (.node (o12v12 P) (.node (o20v19 P) (.node (o36v33 P) (.node (o68v59 P) .nil .nil) (.node (o81v66 P) .nil .nil)) (.node (o52v44 P) (.node d84.obj .nil .nil) .nil)) (.node (o7v7 P) (.node (o44v39 P) (.node (o7v7 P) .nil .nil) (.node d108.obj .nil .nil)) (.node (o60v49 P) (.node (o7v7 P) .nil .nil) .nil)))) (.node (o6v6 P) (.node (o10v10 P) (.node (o18v17 P) (.node (o34v32 P) (.node (o66v55 P) .nil .nil) (.node (o98v75 P) .nil .nil)) (.node (o50v42 P) (.node (o7v7 P) .nil .nil) .nil)) (.node (o26v25 P) (.node (o7v7 P) (.node (o74v63 P) .nil .nil) (.node (o7v7 P) .nil .nil)) (.node (o58v47 P) (.node d90.obj .nil .nil) .nil))) (.node (o14v14 P) (.node (o22v21 P) (.node (o38v35 P) (.node (o7v7 P) .nil .nil) (.node (o102v77 P) .nil .nil)) (.node (o7v7 P) (.node (o81v66 P) .nil .nil) .nil)) (.node (o30v28 P) (.node (o7v7 P) (.node (o7v7 P) .nil .nil) (.node (o7v7 P) .nil .nil)) (.node (o62v51 P) (.node d94.obj .nil .nil) .nil))))))
-- S17 n 112 toks 688 pos { line := 25, col := 0, endLine := 25, endCol := 14 }
noncomputable def o3v85 (P : Params) : Obj := { cls := .type "dict", data := .dict #[ke P "__name__" 165 (.str (so "cpy313.tomllib._parser") 692), ke P "__doc__" 166 .none, ke P "__package__" 167 .none, ke P "__loader__" 168 (.builtin "__main__.__loader__#opaque"), ke P "__spec__" 169 .none, ke P "__annotations__" 170 (.ref 6), ke P "__builtins__" 171 (.ref 4), ke P "__file__" 173 (.str (so "/claim/cut.py") 172), ke P "__cached__" 174 .none, ke P "_sre" 275 (.ref 12), ke P "_wall" 288 (.ref 38), ke P "_WallAttr" 328 (.ref 63), ke P "MAX_KEY_PARTS" 332 (.int 1000 331), ke P "ASCII_CTRL" 476 (.ref 84), ke P "ILLEGAL_BASIC_STR_CHARS" 480 (.ref 89), ke P "ILLEGAL_MULTILINE_BASIC_STR_CHARS" 486 (.ref 94), ke P "ILLEGAL_LITERAL_STR_CHARS" 487 (.ref 89), ke P "TOML_WS" 493 (.ref 95), ke P "TOML_WS_AND_NEWLINE" 497 (.ref 103), ke P "ascii_lowercase" 499 (.str (so "abcdefghijklmnopqrstuvwxyz") 498), ke P "ascii_uppercase" 501 (.str (so "ABCDEFGHIJKLMNOPQRSTUVWXYZ") 500), ke P "ascii_letters" 503 (.str (so "abcdefghijklmnopqrstuvwxyzABCDEFGHIJKLMNOPQRSTUVWXYZ") 502), ke P "digits" 505 (.str (so "0123456789") 504), ke P "hexdigits" 510 (.str (so "0123456789abcdefABCDEF") 509), ke P "BARE_KEY_CHARS" 642 (.ref 104), ke P "HEXDIGIT_CHARS" 687 (.ref 108), ke P "MappingProxyType" 691 (.type "mappingproxy")] 27 }
noncomputable def o112v86 (P : Params) : Obj := { cls := .type "mappingproxy", data := .fields #[.ref 62] }
noncomputable def treeS20 (P : Params) (d75 : SD) (d80 : SD) (d84 : SD) (d85 : SD) (d89 : SD) (d90 : SD) (d94 : SD) (d95 : SD) (d99 : SD) (d103 : SD) (d104 : SD) (d108 : SD) : BT := (.node (o0v0 P) (.node (o1v1 P) (.node (o3v85 P) (.node (o7v7 P) (.node (o7v7 P) (.node (o31v29 P) (.node (o63v52 P) .nil .nil) (.node d95.obj .nil .nil)) (.node (o8v8 P) (.node (o79v65 P) .nil .nil) (.node (o111v84 P) .nil .nil))) (.node (o23v22 P) (.node (o7v7 P) (.node (o8v8 P) .nil .nil) (.node d103.obj .nil .nil)) (.node (o8v8 P) (.node (o7v7 P) .nil .nil) .nil))) (.node (o11v27 P) (.node (o19v18 P) (.node (o7v7 P) (.node (o67v56 P) .nil .nil) (.node d99.obj .nil .nil)) (.node (o51v43 P) (.node (o83v67 P) .nil .nil) .nil)) (.node (o27v26 P) (.node (o43v38 P) (.node d75.obj .nil .nil) (.node (o107v81 P) .nil .nil)) (.node (o59v48 P) (.node (o91v71 P) .nil .nil) .nil)))) (.node (o5v5 P) (.node (o9v9 P) (.node (o17v16 P) (.node (o8v8 P) (.node (o65v54 P) .nil .nil) (.node (o7v7 P) .nil .nil)) (.node (o7v7 P) (.node (o81v66 P) .nil .nil) .nil)) (.node (o25v24 P) (.node (o41v37 P) (.node (o73v62 P) .nil .nil) (.node (o105v80 P) .nil .nil)) (.node (o7v7 P) (.node d89.obj .nil .nil) .nil))) (.node (o13v13 P) (.node (o21v20 P) (.node (o37v34 P) (.node (o69v60 P) .nil .nil) (.node (o7v7 P) .nil .nil)) (.node (o53v45 P) (.node d85.obj .nil .nil) .nil)) (.node (o29v58 P) (.node (o45v40 P) (.node (o77v64 P) .nil .nil) (.node (o109v83 P) .nil .nil)) (.node (o61v50 P) (.node (o93v72 P) .nil .nil) .nil))))) (.node (o2v2 P) (.node (o4v4 P) (.node (o8v8 P) (.node (o16v15 P) (.node (o7v7 P) (.node (o64v53 P) .nil .nil) (.node (o91v71 P) .nil .nil)) (.node (o48v41 P) (.node d80.obj .nil .nil) (.node (o112v86 P) .nil .nil))) (.node (o24v23 P) (.node (o40v36 P) (.node (o72v61 P) .nil .nil) (.node d104.obj .nil .nil)) (.node (o56v46 P) (.node (o88v69 P) .nil .nil) .nil))) (.node (o12v12 P) (.node (o20v19 P) (.node (o36v33 P) (.node (o68v59 P) .nil .nil) (.node (o81v66 P) .nil .nil)) (.node (o52v44 P) (.node d84.obj .nil .nil) .nil)) (.node (o7v7 P) (.node (o44v39 P) (.node (o7v7 P) .nil .nil) (.node d108.obj .nil .nil)) (.node (o60v49 P) (.node (o7v7 P) .nil .nil) .nil)))) (.node (o6v6 P) (.node (o10v10 P) (.node (o18v17 P) (.node (o34v32 P) (.node (o66v55 P) .nil .nil) (.node (o98v75 P) .nil .nil)) (.node (o50v42 P) (.node (o7v7 P) .nil .nil) .nil)) (.node (o26v25 P) (.node (o7v7 P) (.node (o74v63 P) .nil .nil) (.node (o7v7 P) .nil .nil)) (.node (o58v47 P) (.node d90.obj .nil .nil) .nil))) (.node (o14v14 P) (.node (o22v21 P) (.node (o38v35 P) (.node (o7v7 P) .nil .nil) (.node (o102v77 P) .nil .nil)) (.node (o7v7 P) (.node (o81v66 P) .nil .nil) .nil)) (.node (o30v28 P) (.node (o7v7 P) (.node (o7v7 P) .nil .nil) (.node (o7v7 P) .nil .nil)) (.node (o62v51 P) (.node d94.obj .nil .nil) .nil))))))
-- S20 n 113 toks 694 pos { line := 28, col := 0, endLine := 28, endCol := 8 }
noncomputable def o3v87 (P : Params) : Obj := { cls := .type "dict", data := .dict #[ke P "__name__" 165 (.str (so "cpy313.tomllib._parser") 692), ke P "__doc__" 166 .none, ke P "__package__" 167 .none, ke P "__loader__" 168 (.builtin "__main__.__loader__#opaque"), ke P "__spec__" 169 .none, ke P "__annotations__" 170 (.ref 6), ke P "__builtins__" 171 (.ref 4), ke P "__file__" 173 (.str (so "/claim/cut.py") 172), ke P "__cached__" 174 .none, ke P "_sre" 275 (.ref 12), ke P "_wall" 288 (.ref 38), ke P "_WallAttr" 328 (.ref 63), ke P "MAX_KEY_PARTS" 332 (.int 1000 331), ke P "ASCII_CTRL" 476 (.ref 84), ke P "ILLEGAL_BASIC_STR_CHARS" 480 (.ref 89), ke P "ILLEGAL_MULTILINE_BASIC_STR_CHARS" 486 (.ref 94), ke P "ILLEGAL_LITERAL_STR_CHARS" 487 (.ref 89), ke P "TOML_WS" 493 (.ref 95), ke P "TOML_WS_AND_NEWLINE" 497 (.ref 103), ke P "ascii_lowercase" 499 (.str (so "abcdefghijklmnopqrstuvwxyz") 498), ke P "ascii_uppercase" 501 (.str (so "ABCDEFGHIJKLMNOPQRSTUVWXYZ") 500), ke P "ascii_letters" 503 (.str (so "abcdefghijklmnopqrstuvwxyzABCDEFGHIJKLMNOPQRSTUVWXYZ") 502), ke P "digits" 505 (.str (so "0123456789") 504), ke P "hexdigits" 510 (.str (so "0123456789abcdefABCDEF") 509), ke P "BARE_KEY_CHARS" 642 (.ref 104), ke P "HEXDIGIT_CHARS" 687 (.ref 108), ke P "MappingProxyType" 691 (.type "mappingproxy"), ke P "BASIC_STR_ESCAPE_REPLACEMENTS" 715 (.ref 114)] 28 }
noncomputable def o113v88 (P : Params) : Obj := { cls := .type "dict", data := .dict #[ke P "\\b" 694 (.str (so "\x08") 695), ke P "\\t" 696 (.str (so "\t") 697), ke P "\\n" 698 (.str (so "\n") 699), ke P "\\f" 700 (.str (so "\x0c") 701), ke P "\\r" 702 (.str (so "\x0d") 703), { hash := PyData.keyHash P (so "\\\""), key := .str (so "\\\"") 704, val := .str (so "\"") 705 }, ke P "\\\\" 706 (.str (so "\\") 707)] 7 }
noncomputable def o114v89 (P : Params) : Obj := { cls := .type "mappingproxy", data := .fields #[.ref 113] }
noncomputable def treeS21 (P : Params) (d75 : SD) (d80 : SD) (d84 : SD) (d85 : SD) (d89 : SD) (d90 : SD) (d94 : SD) (d95 : SD) (d99 : SD) (d103 : SD) (d104 : SD) (d108 : SD) : BT := (.node (o0v0 P) (.node (o1v1 P) (.node (o3v87 P) (.node (o7v7 P) (.node (o7v7 P) (.node (o31v29 P) (.node (o63v52 P) .nil .nil) (.node d95.obj .nil .nil)) (.node (o8v8 P) (.node (o79v65 P) .nil .nil) (.node (o111v84 P) .nil .nil))) (.node (o23v22 P) (.node (o7v7 P) (.node (o8v8 P) .nil .nil) (.node d103.obj .nil .nil)) (.node (o8v8 P) (.node (o7v7 P) .nil .nil) .nil))) (.node (o11v27 P) (.node (o19v18 P) (.node (o7v7 P) (.node (o67v56 P) .nil .nil) (.node d99.obj .nil .nil)) (.node (o51v43 P) (.node (o83v67 P) .nil .nil) .nil)) (.node (o27v26 P) (.node (o43v38 P) (.node d75.obj .nil .nil) (.node (o107v81 P) .nil .nil)) (.node (o59v48 P) (.node (o91v71 P) .nil .nil) .nil)))) (.node (o5v5 P) (.node (o9v9 P) (.node (o17v16 P) (.node (o8v8 P) (.node (o65v54 P) .nil .nil) (.node (o7v7 P) .nil .nil)) (.node (o7v7 P) (.node (o81v66 P) .nil .nil) (.node (o113v88 P) .nil .nil))) (.node (o25v24 P) (.node (o41v37 P) (.node (o73v62 P) .nil .nil) (.node (o105v80 P) .nil .nil)) (.node (o7v7 P) (.node d89.obj .nil .nil) .nil))) (.node (o13v13 P) (.node (o21v20 P) (.node (o37v34 P) (.node (o69v60 P) .nil .nil) (.node (o7v7 P) .nil .nil)) (.node (o53v45 P) (.node d85.obj .nil .nil) .nil)) (.node (o29v58 P) (.node (o45v40 P) (.node (o77v64 P) .nil .nil) (.node (o109v83 P) .nil .nil)) (.node (o61v50 P) (.node (o93v72 P) .nil .nil) .nil))))) (.node (o2v2 P) (.node (o4v4 P) (.node (o8v8 P) (.node (o16v15 P) (.node (o7v7 P) (.node (o64v53 P) .nil .nil) (.node (o91v71 P) .nil .nil)) (.node (o48v41 P) (.node d80.obj .nil .nil) (.node (o112v86 P) .nil .nil))) (.node (o24v23 P) (.node (o40v36 P) (.node (o72v61 P) .nil .nil) (.node d104.obj .nil .nil)) (.node (o56v46 P) (.node (o88v69 P) .nil .nil) .nil))) (.node (o12v12 P) (.node (o20v19 P) (.node (o36v33 P) (.node (o68v59 P) .nil .nil) (.node (o81v66 P) .nil .nil)) (.node (o52v44 P) (.node d84.obj .nil .nil) .nil)) (.node (o7v7 P) (.node (o44v39 P) (.node (o7v7 P) .nil .nil) (.node d108.obj .nil .nil)) (.node (o60v49 P) (.node (o7v7 P) .nil .nil) .nil)))) (.node (o6v6 P) (.node (o10v10 P) (.node (o18v17 P) (.node (o34v32 P) (.node (o66v55 P) .nil .nil) (.node (o98v75 P) .nil .nil)) (.node (o50v42 P) (.node (o7v7 P) .nil .nil) (.node (o114v89 P) .nil .nil))) (.node (o26v25 P) (.node (o7v7 P) (.node (o74v63 P) .nil .nil) (.node (o7v7 P) .nil .nil)) (.node (o58v47 P) (.node d90.obj .nil .nil) .nil))) (.node (o14v14 P) (.node (o22v21 P) (.node (o38v35 P) (.node (o7v7 P) .nil .nil) (.node (o102v77 P) .nil .nil)) (.node (o7v7 P) (.node (o81v66 P) .nil .nil) .nil)) (.node (o30v28 P) (.node (o7v7 P) (.node (o7v7 P) .nil .nil) (.node (o7v7 P) .nil .nil)) (.node (o62v51 P) (.node d94.obj .nil .nil) .nil))))))
-- S21 n 115 toks 716 pos { line := 29, col := 0, endLine := 29, endCol := 29 }
noncomputable def o3v90 (P : Params) : Obj := { cls := .type "dict", data := .dict #[ke P "__name__" 165 (.str (so "re") 1007), ke P "__doc__" 166 .none, ke P "__package__" 167 .none, ke P "__loader__" 168 (.builtin "__main__.__loader__#opaque"), ke P "__spec__" 169 .none, ke P "__annotations__" 170 (.ref 6), ke P "__builtins__" 171 (.ref 4), ke P "__file__" 173 (.str (so "/claim/cut.py") 172), ke P "__cached__" 174 .none, ke P "_sre" 275 (.ref 12), ke P "_wall" 288 (.ref 38), ke P "_WallAttr" 328 (.ref 63), ke P "MAX_KEY_PARTS" 332 (.int 1000 331), ke P "ASCII_CTRL" 476 (.ref 84), ke P "ILLEGAL_BASIC_STR_CHARS" 480 (.ref 89), ke P "ILLEGAL_MULTILINE_BASIC_STR_CHARS" 486 (.ref 94), ke P "ILLEGAL_LITERAL_STR_CHARS" 487 (.ref 89), ke P "TOML_WS" 493 (.ref 95), ke P "TOML_WS_AND_NEWLINE" 497 (.ref 103), ke P "ascii_lowercase" 499 (.str (so "abcdefghijklmnopqrstuvwxyz") 498), ke P "ascii_uppercase" 501 (.str (so "ABCDEFGHIJKLMNOPQRSTUVWXYZ") 500), ke P "ascii_letters" 503 (.str (so "abcdefghijklmnopqrstuvwxyzABCDEFGHIJKLMNOPQRSTUVWXYZ") 502), ke P "digits" 505 (.str (so "0123456789") 504), ke P "hexdigits" 510 (.str (so "0123456789abcdefABCDEF") 509), ke P "BARE_KEY_CHARS" 642 (.ref 104), ke P "HEXDIGIT_CHARS" 687 (.ref 108), ke P "MappingProxyType" 691 (.type "mappingproxy"), ke P "BASIC_STR_ESCAPE_REPLACEMENTS" 715 (.ref 114), ke P "TOMLDecodeError" 733 (.ref 124), ke P "skip_chars" 742 (.ref 134), ke P "skip_until" 754 (.ref 141), ke P "parse_key" 765 (.ref 148), ke P "parse_key_part" 775 (.ref 155), ke P "parse_one_line_basic_str" 783 (.ref 162), ke P "parse_basic_str_escape" 795 (.ref 170), ke P "parse_basic_str_escape_multiline" 803 (.ref 177), ke P "parse_hex_char" 814 (.ref 184), ke P "parse_literal_str" 823 (.ref 191), ke P "parse_basic_str" 838 (.ref 198), ke P "suffixed_err" 848 (.ref 205), ke P "is_unicode_scalar_value" 855 (.ref 212), ke P "bytes_types" 858 (.ref 213), ke P "_bytes_from_decode_data" 865 (.ref 220), ke P "Error" 885 (.ref 230), ke P "_ascii_buffer" 893 (.ref 240), ke P "_buffer" 901 (.ref 247), ke P "_truth" 909 (.ref 254), ke P "_B64" 911 (.bytes #[65, 66, 67, 68, 69, 70, 71, 72, 73, 74, 75, 76, 77, 78, 79, 80, 81, 82, 83, 84, 85, 86, 87, 88, 89, 90, 97, 98, 99, 100, 101, 102, 103, 104, 105, 106, 107, 108, 109, 110, 111, 112, 113, 114, 115, 116, 117, 118, 119, 120, 121, 122, 48, 49, 50, 51, 52, 53, 54, 55, 56, 57, 43, 47] 910), ke P "_b64_value" 918 (.ref 261), ke P "a2b_base64" 934 (.ref 269), ke P "b2a_base64" 948 (.ref 277), ke P "b64encode" 959 (.ref 285), ke P "b64decode" 968 (.ref 293), ke P "_twin_re_1" 1006 (.ref 298)] 54 }
noncomputable def o29v91 (P : Params) : Obj := { cls := .none, data := .fields #[.int 2 0, .int 0 0, .ref 37, .int 5 0, .int 0 0, .ref 44, .int 13 0, .int 23 0, .ref 72, .int 30 0, .int 0 0, .ref 120, .int 32 0, .int 0 0, .ref 133, .int 39 0, .int 0 0, .ref 140, .int 51 0, .int 0 0, .ref 147, .int 69 0, .int 0 0, .ref 154, .int 83 0, .int 0 0, .ref 161, .int 86 0, .int 0 0, .ref 169, .int 109 0, .int 0 0, .ref 176, .int 111 0, .int 0 0, .ref 183, .int 120 0, .int 0 0, .ref 190, .int 125 0, .int 0 0, .ref 197, .int 155 0, .int 0 0, .ref 204, .int 167 0, .int 0 0, .ref 211, .int 171 0, .int 0 0, .ref 219, .int 184 0, .int 0 0, .ref 226, .int 186 0, .int 0 0, .ref 239, .int 197 0, .int 0 0, .ref 246, .int 204 0, .int 0 0, .ref 253, .int 210 0, .int 0 0, .ref 260, .int 222 0, .int 0 0, .ref 268, .int 276 0, .int 0 0, .ref 276, .int 299 0, .int 0 0, .ref 284, .int 305 0, .int 0 0, .ref 292] }
noncomputable def o117v92 (P : Params) : Obj := { cls := .type "dict", data := .dict #[ke P "__module__" 723 (.str (so "cpy313.tomllib._parser") 692), ke P "__qualname__" 725 (.str (so "TOMLDecodeError") 724), ke P "__firstlineno__" 727 (.int 30 726), ke P "__static_attributes__" 728 (.ref 122)] 4 }
noncomputable def o120v93 (P : Params) : Obj := { cls := .type "code", data := .fields #[.str (so "TOMLDecodeError") 718, .str (so "TOMLDecodeError") 719, .str (so "/claim/cut.py") 720, .int 30 0, .int 0 0, .int 0 0, .int 0 0, .int 0 0, .ref 118, .bool false, .int 276 0, .ref 119, .none, .none, .none, .none, .int 721 0, .int 30 0, .str (so "/claim/cut.py") 722] }
noncomputable def o121v94 (P : Params) : Obj := { cls := .type "frame", slots := #[some (.ref 120), some (.ref 3), some (.ref 117), none, some (.str (so "cpy313.tomllib._parser") 692), none, some (.ref 0)] }
noncomputable def o126v95 (P : Params) : Obj := { cls := .type "super", data := .fields #[.ref 124, .ref 124, .ref 124] }
noncomputable def o127v96 (P : Params) : Obj := { cls := .type "builtin_function_or_method", data := .fields #[.builtin "object.__init_subclass__", .ref 124] }
noncomputable def o160v97 (P : Params) : Obj := { cls := .none, data := .func { name := Str.ofString "parse_one_line_basic_str", qualname := Str.ofString "parse_one_line_basic_str", params := (fd 27).1, body := .stmts (fd 27).2.1, scope := (fd 27).2.2, globals := 0, closure := [], defaults := .none, kwdefaults := .none } }
noncomputable def o162v98 (P : Params) : Obj := { cls := .type "function", data := .func { name := Str.ofString "parse_one_line_basic_str", qualname := Str.ofString "parse_one_line_basic_str", params := (fd 27).1, body := .stmts (fd 27).2.1, scope := (fd 27).2.2, globals := 3, closure := [], defaults := .none, kwdefaults := .none, pyModule := .str (so "cpy313.tomllib._parser") 692, code := .ref 161 } }
noncomputable def o168v99 (P : Params) : Obj := { cls := .none, data := .func { name := Str.ofString "parse_basic_str_escape", qualname := Str.ofString "parse_basic_str_escape", params := (fd 28).1, body := .stmts (fd 28).2.1, scope := (fd 28).2.2, globals := 0, closure := [], defaults := .none, kwdefaults := .none } }
noncomputable def o170v100 (P : Params) : Obj := { cls := .type "function", data := .func { name := Str.ofString "parse_basic_str_escape", qualname := Str.ofString "parse_basic_str_escape", params := (fd 28).1, body := .stmts (fd 28).2.1, scope := (fd 28).2.2, globals := 3, closure := [], defaults := .none, kwdefaults := .ref 163, pyModule := .str (so "cpy313.tomllib._parser") 692, code := .ref 169 } }
noncomputable def o175v101 (P : Params) : Obj := { cls := .none, data := .func { name := Str.ofString "parse_basic_str_escape_multiline", qualname := Str.ofString "parse_basic_str_escape_multiline", params := (fd 29).1, body := .stmts (fd 29).2.1, scope := (fd 29).2.2, globals := 0, closure := [], defaults := .none, kwdefaults := .none } }
noncomputable def o177v102 (P : Params) : Obj := { cls := .type "function", data := .func { name := Str.ofString "parse_basic_str_escape_multiline", qualname := Str.ofString "parse_basic_str_escape_multiline", params := (fd 29).1, body := .stmts (fd 29).2.1, scope := (fd 29).2.2, globals := 3, closure := [], defaults := .none, kwdefaults := .none, pyModule := .str (so "cpy313.tomllib._parser") 692, code := .ref 176 } }
noncomputable def o182v103 (P : Params) : Obj := { cls := .none, data := .func { name := Str.ofString "parse_hex_char", qualname := Str.ofString "parse_hex_char", params := (fd 30).1, body := .stmts (fd 30).2.1, scope := (fd 30).2.2, globals := 0, closure := [], defaults := .none, kwdefaults := .none } }
noncomputable def o184v104 (P : Params) : Obj := { cls := .type "function", data := .func { name := Str.ofString "parse_hex_char", qualname := Str.ofString "parse_hex_char", params := (fd 30).1, body := .stmts (fd 30).2.1, scope := (fd 30).2.2, globals := 3, closure := [], defaults := .none, kwdefaults := .none, pyModule := .str (so "cpy313.tomllib._parser") 692, code := .ref 183 } }
noncomputable def o196v105 (P : Params) : Obj := { cls := .none, data := .func { name := Str.ofString "parse_basic_str", qualname := Str.ofString "parse_basic_str", params := (fd 32).1, body := .stmts (fd 32).2.1, scope := (fd 32).2.2, globals := 0, closure := [], defaults := .none, kwdefaults := .none } }
noncomputable def o198v106 (P : Params) : Obj := { cls := .type "function", data := .func { name := Str.ofString "parse_basic_str", qualname := Str.ofString "parse_basic_str", params := (fd 32).1, body := .stmts (fd 32).2.1, scope := (fd 32).2.2, globals := 3, closure := [], defaults := .none, kwdefaults := .none, pyModule := .str (so "cpy313.tomllib._parser") 692, code := .ref 197 } }
noncomputable def o210v107 (P : Params) : Obj := { cls := .none, data := .func { name := Str.ofString "is_unicode_scalar_value", qualname := Str.ofString "is_unicode_scalar_value", params := (fd 34).1, body := .stmts (fd 34).2.1, scope := (fd 34).2.2, globals := 0, closure := [], defaults := .none, kwdefaults := .none } }
noncomputable def o212v108 (P : Params) : Obj := { cls := .type "function", data := .func { name := Str.ofString "is_unicode_scalar_value", qualname := Str.ofString "is_unicode_scalar_value", params := (fd 34).1, body := .stmts (fd 34).2.1, scope := (fd 34).2.2, globals := 3, closure := [], defaults := .none, kwdefaults := .none, pyModule := .str (so "cpy313.tomllib._parser") 692, code := .ref 211 } }
noncomputable def o223v109 (P : Params) : Obj := { cls := .type "dict", data := .dict #[ke P "__module__" 875 (.str (so "binascii") 866), ke P "__qualname__" 877 (.str (so "Error") 876), ke P "__firstlineno__" 879 (.int 184 878), ke P "__static_attributes__" 880 (.ref 228)] 4 }
noncomputable def o226v110 (P : Params) : Obj := { cls := .type "code", data := .fields #[.str (so "Error") 870, .str (so "Error") 871, .str (so "/claim/cut.py") 872, .int 184 0, .int 0 0, .int 0 0, .int 0 0, .int 0 0, .ref 224, .bool false, .int 276 0, .ref 225, .none, .none, .none, .none, .int 873 0, .int 184 0, .str (so "/claim/cut.py") 874] }
noncomputable def o227v111 (P : Params) : Obj := { cls := .type "frame", slots := #[some (.ref 226), some (.ref 3), some (.ref 223), none, some (.str (so "binascii") 866), none, some (.ref 0)] }
noncomputable def o232v112 (P : Params) : Obj := { cls := .type "super", data := .fields #[.ref 230, .ref 230, .ref 230] }
noncomputable def o233v113 (P : Params) : Obj := { cls := .type "builtin_function_or_method", data := .fields #[.builtin "object.__init_subclass__", .ref 230] }
noncomputable def o294v114 (P : Params) : Obj := { cls := .type "list", data := .seq #[.int 14 972, .int 14 973, .int 4 974, .int 1 975, .int 1 976, .int 9 977, .int 0 978, .int 64 979, .int 0 980, .int 1342177280 981, .int 0 982, .int 0 983, .int 0 984, .int 0 985, .int 0 986, .int 17 987, .int 0 988, .int 13 989, .int 11 990, .int 9 991, .int 0 992, .int 64 993, .int 0 994, .int 1342177280 995, .int 0 996, .int 0 997, .int 0 998, .int 0 999, .int 0 1000, .int 17 1001, .int 1 1002, .int 1 1003] }
noncomputable def o296v115 (P : Params) : Obj := { cls := .type "tuple", data := .seq #[.none, .none] }
noncomputable def treeS51 (P : Params) (d75 : SD) (d80 : SD) (d84 : SD) (d85 : SD) (d89 : SD) (d90 : SD) (d94 : SD) (d95 : SD) (d99 : SD) (d103 : SD) (d104 : SD) (d108 : SD) : BT := (.node (o0v0 P) (.node (o1v1 P) (.node (o3v90 P) (.node (o7v7 P) (.node (o7v7 P) (.node (o31v29 P) (.node (o63v52 P) (.node (o127v96 P) (.node (kob 255 P) .nil .nil) .nil) (.node (kob 191 P) .nil .nil)) (.node d95.obj (.node (kob 159 P) (.node (kob 287 P) .nil .nil) .nil) (.node (o223v109 P) .nil .nil))) (.node (o8v8 P) (.node (o79v65 P) (.node (o8v8 P) (.node (kob 271 P) .nil .nil) .nil) (.node (o8v8 P) .nil .nil)) (.node (o111v84 P) (.node (o175v101 P) .nil .nil) (.node (kob 239 P) .nil .nil)))) (.node (o23v22 P) (.node (o7v7 P) (.node (o8v8 P) (.node (kob 135 P) (.node (kob 263 P) .nil .nil) .nil) (.node (kob 199 P) .nil .nil)) (.node d103.obj (.node (kob 167 P) (.node (o6v6 P) .nil .nil) .nil) (.node (kob 231 P) .nil .nil))) (.node (o8v8 P) (.node (o7v7 P) (.node (kob 151 P) (.node (kob 279 P) .nil .nil) .nil) (.node (o8v8 P) .nil .nil)) (.node (o8v8 P) (.node (kob 183 P) .nil .nil) (.node (kob 247 P) .nil .nil))))) (.node (o11v27 P) (.node (o19v18 P) (.node (kob 35 P) (.node (o67v56 P) (.node (kob 131 P) (.node (tmpl (kob 261 P)) .nil .nil) .nil) (.node (kob 195 P) .nil .nil)) (.node d99.obj (.node (kob 163 P) (.node (tmpl (kob 293 P)) .nil .nil) .nil) (.node (o227v111 P) .nil .nil))) (.node (o51v43 P) (.node (o83v67 P) (.node (kob 147 P) (.node (tmpl (kob 277 P)) .nil .nil) .nil) (.node (kob 211 P) .nil .nil)) (.node (kob 115 P) (.node (o8v8 P) .nil .nil) (.node (kob 243 P) .nil .nil)))) (.node (o27v26 P) (.node (o43v38 P) (.node d75.obj (.node (tmpl (kob 141 P)) (.node (tmpl (kob 269 P)) .nil .nil) .nil) (.node (tmpl (kob 205 P)) .nil .nil)) (.node (o107v81 P) (.node (kob 171 P) .nil .nil) (.node (o8v8 P) .nil .nil))) (.node (o59v48 P) (.node (o91v71 P) (.node (kob 155 P) (.node (tmpl (kob 285 P)) .nil .nil) .nil) (.node (kob 219 P) .nil .nil)) (.node (kob 123 P) (.node (kob 187 P) .nil .nil) (.node (kob 251 P) .nil .nil)))))) (.node (o5v5 P) (.node (o9v9 P) (.node (o17v16 P) (.node (o8v8 P) (.node (o65v54 P) (.node (o8v8 P) (.node (kob 257 P) .nil .nil) .nil) (.node (o8v8 P) .nil .nil)) (.node (o7v7 P) (.node (kob 161 P) (.node (kob 289 P) .nil .nil) .nil) (.node (o8v8 P) .nil .nil))) (.node (o7v7 P) (.node (o81v66 P) (.node (kob 145 P) (.node (kob 273 P) .nil .nil) .nil) (.node (kob 209 P) .nil .nil)) (.node (kob 113 P) (.node (o177v102 P) .nil .nil) (.node (kob 241 P) .nil .nil)))) (.node (o25v24 P) (.node (o41v37 P) (.node (o73v62 P) (.node (kob 137 P) (.node (kob 265 P) .nil .nil) .nil) (.node (kob 201 P) .nil .nil)) (.node (o105v80 P) (.node (kob 169 P) (.node (kob 297 P) .nil .nil) .nil) (.node (o233v113 P) .nil .nil))) (.node (o7v7 P) (.node d89.obj (.node (tmpl (kob 155 P)) (.node (kob 281 P) .nil .nil) .nil) (.node (kob 217 P) .nil .nil)) (.node (o121v94 P) (.node (kob 185 P) .nil .nil) (.node (o8v8 P) .nil .nil))))) (.node (o13v13 P) (.node (o21v20 P) (.node (kob 37 P) (.node (o69v60 P) (.node (kob 133 P) (.node (kob 261 P) .nil .nil) .nil) (.node (kob 197 P) .nil .nil)) (.node (o7v7 P) (.node (o8v8 P) (.node (kob 293 P) .nil .nil) .nil) (.node (kob 229 P) .nil .nil))) (.node (o53v45 P) (.node d85.obj (.node (kob 149 P) (.node (kob 277 P) .nil .nil) .nil) (.node (kob 213 P) .nil .nil)) (.node (o117v92 P) (.node (kob 181 P) .nil .nil) (.node (tmpl (kob 247 P)) .nil .nil)))) (.node (o29v91 P) (.node (o45v40 P) (.node (o77v64 P) (.node (kob 141 P) (.node (kob 269 P) .nil .nil) .nil) (.node (kob 205 P) .nil .nil)) (.node (o109v83 P) (.node (kob 173 P) .nil .nil) (.node (kob 237 P) .nil .nil))) (.node (o61v50 P) (.node (o93v72 P) (.node (o8v8 P) (.node (kob 285 P) .nil .nil) .nil) (.node (kob 221 P) .nil .nil)) (.node (kob 125 P) (.node (tmpl (kob 191 P)) .nil .nil) (.node (kob 253 P) .nil .nil))))))) (.node (kob 2 P) (.node (o4v4 P) (.node (o8v8 P) (.node (o16v15 P) (.node (kob 32 P) (.node (o64v53 P) (.node (kob 128 P) (.node (o8v8 P) .nil .nil) .nil) (.node (kob 192 P) .nil .nil)) (.node (o91v71 P) (.node (o160v97 P) (.node (o8v8 P) .nil .nil) .nil) (.node (o7v7 P) .nil .nil))) (.node (o48v41 P) (.node d80.obj (.node (kob 144 P) (.node (o8v8 P) .nil .nil) .nil) (.node (kob 208 P) .nil .nil)) (.node (o112v86 P) (.node (kob 176 P) .nil .nil) (.node (kob 240 P) .nil .nil)))) (.node (o24v23 P) (.node (o40v36 P) (.node (o72v61 P) (.node (o8v8 P) (.node (o8v8 P) .nil .nil) .nil) (.node (o8v8 P) .nil .nil)) (.node d104.obj (.node (o168v99 P) (.node (o296v115 P) .nil .nil) .nil) (.node (o232v112 P) .nil .nil))) (.node (o56v46 P) (.node (o88v69 P) (.node (kob 152 P) (.node (o8v8 P) .nil .nil) .nil) (.node (kob 216 P) .nil .nil)) (.node (o120v93 P) (.node (o184v104 P) .nil .nil) (.node (kob 248 P) .nil .nil))))) (.node (o12v12 P) (.node (o20v19 P) (.node (o36v33 P) (.node (o68v59 P) (.node (tmpl (kob 134 P)) (.node (kob 260 P) .nil .nil) .nil) (.node (o196v105 P) .nil .nil)) (.node (o81v66 P) (.node (kob 164 P) (.node (kob 292 P) .nil .nil) .nil) (.node (kob 228 P) .nil .nil))) (.node (o52v44 P) (.node d84.obj (.node (kob 148 P) (.node (kob 276 P) .nil .nil) .nil) (.node (o212v108 P) .nil .nil)) (.node (o40v36 P) (.node (kob 180 P) .nil .nil) (.node (kob 244 P) .nil .nil)))) (.node (o7v7 P) (.node (o44v39 P) (.node (o7v7 P) (.node (kob 140 P) (.node (kob 268 P) .nil .nil) .nil) (.node (kob 204 P) .nil .nil)) (.node d108.obj (.node (o8v8 P) .nil .nil) (.node (kob 236 P) .nil .nil))) (.node (o60v49 P) (.node (o7v7 P) (.node (kob 156 P) (.node (kob 284 P) .nil .nil) .nil) (.node (kob 220 P) .nil .nil)) (.node (kob 124 P) (.node (kob 188 P) .nil .nil) (.node (tmpl (kob 254 P)) .nil .nil)))))) (.node (o6v6 P) (.node (o10v10 P) (.node (o18v17 P) (.node (kob 34 P) (.node (o66v55 P) (.node (kob 130 P) (.node (kob 258 P) .nil .nil) .nil) (.node (kob 194 P) .nil .nil)) (.node (o98v75 P) (.node (o162v98 P) (.node (kob 290 P) .nil .nil) .nil) (.node (o226v110 P) .nil .nil))) (.node (o50v42 P) (.node (o7v7 P) (.node (tmpl (kob 148 P)) (.node (kob 274 P) .nil .nil) .nil) (.node (o210v107 P) .nil .nil)) (.node (kob 114 P) (.node (kob 178 P) .nil .nil) (.node (o8v8 P) .nil .nil)))) (.node (o26v25 P) (.node (o7v7 P) (.node (o74v63 P) (.node (kob 138 P) (.node (kob 266 P) .nil .nil) .nil) (.node (kob 202 P) .nil .nil)) (.node (o7v7 P) (.node (o170v100 P) (.node (kob 298 P) .nil .nil) .nil) (.node (kob 234 P) .nil .nil))) (.node (o58v47 P) (.node d90.obj (.node (kob 154 P) (.node (kob 282 P) .nil .nil) .nil) (.node (tmpl (kob 220 P)) .nil .nil)) (.node (kob 122 P) (.node (o8v8 P) .nil .nil) (.node (kob 250 P) .nil .nil))))) (.node (o14v14 P) (.node (o22v21 P) (.node (o38v35 P) (.node (o7v7 P) (.node (kob 134 P) (.node (kob 262 P) .nil .nil) .nil) (.node (o198v106 P) .nil .nil)) (.node (o102v77 P) (.node (kob 166 P) (.node (o294v114 P) .nil .nil) .nil) (.node (kob 230 P) .nil .nil))) (.node (o7v7 P) (.node (o81v66 P) (.node (o8v8 P) (.node (kob 278 P) .nil .nil) .nil) (.node (kob 214 P) .nil .nil)) (.node (o7v7 P) (.node (o182v103 P) .nil .nil) (.node (kob 246 P) .nil .nil)))) (.node (o30v28 P) (.node (o7v7 P) (.node (o7v7 P) (.node (kob 142 P) (.node (kob 270 P) .nil .nil) .nil) (.node (kob 206 P) .nil .nil)) (.node (o7v7 P) (.node (kob 174 P) .nil .nil) (.node (tmpl (kob 240 P)) .nil .nil))) (.node (o62v51 P) (.node d94.obj (.node (kob 158 P) (.node (kob 286 P) .nil .nil) .nil) (.node (o40v36 P) .nil .nil)) (.node (o126v95 P) (.node (kob 190 P) .nil .nil) (.node (kob 254 P) .nil .nil))))))))
-- S51 n 299 toks 1009 pos { line := 313, col := 0, endLine := 313, endCol := 8 }
noncomputable def o3v116 (P : Params) : Obj := { cls := .type "dict", data := .dict #[ke P "__name__" 165 (.str (so "re") 1007), ke P "__doc__" 166 .none, ke P "__package__" 167 .none, ke P "__loader__" 168 (.builtin "__main__.__loader__#opaque"), ke P "__spec__" 169 .none, ke P "__annotations__" 170 (.ref 6), ke P "__builtins__" 171 (.ref 4), ke P "__file__" 173 (.str (so "/claim/cut.py") 172), ke P "__cached__" 174 .none, ke P "_sre" 275 (.ref 12), ke P "_wall" 288 (.ref 38), ke P "_WallAttr" 328 (.ref 63), ke P "MAX_KEY_PARTS" 332 (.int 1000 331), ke P "ASCII_CTRL" 476 (.ref 84), ke P "ILLEGAL_BASIC_STR_CHARS" 480 (.ref 89), ke P "ILLEGAL_MULTILINE_BASIC_STR_CHARS" 486 (.ref 94), ke P "ILLEGAL_LITERAL_STR_CHARS" 487 (.ref 89), ke P "TOML_WS" 493 (.ref 95), ke P "TOML_WS_AND_NEWLINE" 497 (.ref 103), ke P "ascii_lowercase" 499 (.str (so "abcdefghijklmnopqrstuvwxyz") 498), ke P "ascii_uppercase" 501 (.str (so "ABCDEFGHIJKLMNOPQRSTUVWXYZ") 500), ke P "ascii_letters" 503 (.str (so "abcdefghijklmnopqrstuvwxyzABCDEFGHIJKLMNOPQRSTUVWXYZ") 502), ke P "digits" 505 (.str (so "0123456789") 504), ke P "hexdigits" 510 (.str (so "0123456789abcdefABCDEF") 509), ke P "BARE_KEY_CHARS" 642 (.ref 104), ke P "HEXDIGIT_CHARS" 687 (.ref 108), ke P "MappingProxyType" 691 (.type "mappingproxy"), ke P "BASIC_STR_ESCAPE_REPLACEMENTS" 715 (.ref 114), ke P "TOMLDecodeError" 733 (.ref 124), ke P "skip_chars" 742 (.ref 134), ke P "skip_until" 754 (.ref 141), ke P "parse_key" 765 (.ref 148), ke P "parse_key_part" 775 (.ref 155), ke P "parse_one_line_basic_str" 783 (.ref 162), ke P "parse_basic_str_escape" 795 (.ref 170), ke P "parse_basic_str_escape_multiline" 803 (.ref 177), ke P "parse_hex_char" 814 (.ref 184), ke P "parse_literal_str" 823 (.ref 191), ke P "parse_basic_str" 838 (.ref 198), ke P "suffixed_err" 848 (.ref 205), ke P "is_unicode_scalar_value" 855 (.ref 212), ke P "bytes_types" 858 (.ref 213), ke P "_bytes_from_decode_data" 865 (.ref 220), ke P "Error" 885 (.ref 230), ke P "_ascii_buffer" 893 (.ref 240), ke P "_buffer" 901 (.ref 247), ke P "_truth" 909 (.ref 254), ke P "_B64" 911 (.bytes #[65, 66, 67, 68, 69, 70, 71, 72, 73, 74, 75, 76, 77, 78, 79, 80, 81, 82, 83, 84, 85, 86, 87, 88, 89, 90, 97, 98, 99, 100, 101, 102, 103, 104, 105, 106, 107, 108, 109, 110, 111, 112, 113, 114, 115, 116, 117, 118, 119, 120, 121, 122, 48, 49, 50, 51, 52, 53, 54, 55, 56, 57, 43, 47] 910), ke P "_b64_value" 918 (.ref 261), ke P "a2b_base64" 934 (.ref 269), ke P "b2a_base64" 948 (.ref 277), ke P "b64encode" 959 (.ref 285), ke P "b64decode" 968 (.ref 293), ke P "_twin_re_1" 1006 (.ref 298), ke P "_special_chars_map" 1154 (.ref 300)] 55 }
noncomputable def o299v117 (P : Params) : Obj := { cls := .type "bytes_iterator", data := .fields #[.none, .int 24 0] }
noncomputable def o301v118 (P : Params) : Obj := { cls := .type "dict", data := .dict #[] 2 }
noncomputable def o303v119 (P : Params) : Obj := { cls := .type "StopIteration", data := .fields #[.ref 302, .none, .none, .none, .bool false, .none] }
noncomputable def treeS52 (P : Params) (d75 : SD) (d80 : SD) (d84 : SD) (d85 : SD) (d89 : SD) (d90 : SD) (d94 : SD) (d95 : SD) (d99 : SD) (d103 : SD) (d104 : SD) (d108 : SD) : BT := (.node (o0v0 P) (.node (o1v1 P) (.node (o3v116 P) (.node (o7v7 P) (.node (o7v7 P) (.node (o31v29 P) (.node (o63v52 P) (.node (o127v96 P) (.node (kob 255 P) .nil .nil) .nil) (.node (kob 191 P) .nil .nil)) (.node d95.obj (.node (kob 159 P) (.node (kob 287 P) .nil .nil) .nil) (.node (o223v109 P) .nil .nil))) (.node (o8v8 P) (.node (o79v65 P) (.node (o8v8 P) (.node (kob 271 P) .nil .nil) .nil) (.node (o8v8 P) .nil .nil)) (.node (o111v84 P) (.node (o175v101 P) (.node (o303v119 P) .nil .nil) .nil) (.node (kob 239 P) .nil .nil)))) (.node (o23v22 P) (.node (o7v7 P) (.node (o8v8 P) (.node (kob 135 P) (.node (kob 263 P) .nil .nil) .nil) (.node (kob 199 P) .nil .nil)) (.node d103.obj (.node (kob 167 P) (.node (o6v6 P) .nil .nil) .nil) (.node (kob 231 P) .nil .nil))) (.node (o8v8 P) (.node (o7v7 P) (.node (kob 151 P) (.node (kob 279 P) .nil .nil) .nil) (.node (o8v8 P) .nil .nil)) (.node (o8v8 P) (.node (kob 183 P) .nil .nil) (.node (kob 247 P) .nil .nil))))) (.node (o11v27 P) (.node (o19v18 P) (.node (kob 35 P) (.node (o67v56 P) (.node (kob 131 P) (.node (tmpl (kob 261 P)) .nil .nil) .nil) (.node (kob 195 P) .nil .nil)) (.node d99.obj (.node (kob 163 P) (.node (tmpl (kob 293 P)) .nil .nil) .nil) (.node (o227v111 P) .nil .nil))) (.node (o51v43 P) (.node (o83v67 P) (.node (kob 147 P) (.node (tmpl (kob 277 P)) .nil .nil) .nil) (.node (kob 211 P) .nil .nil)) (.node (kob 115 P) (.node (o8v8 P) .nil .nil) (.node (kob 243 P) .nil .nil)))) (.node (o27v26 P) (.node (o43v38 P) (.node d75.obj (.node (tmpl (kob 141 P)) (.node (tmpl (kob 269 P)) .nil .nil) .nil) (.node (tmpl (kob 205 P)) .nil .nil)) (.node (o107v81 P) (.node (kob 171 P) (.node (o299v117 P) .nil .nil) .nil) (.node (o8v8 P) .nil .nil))) (.node (o59v48 P) (.node (o91v71 P) (.node (kob 155 P) (.node (tmpl (kob 285 P)) .nil .nil) .nil) (.node (kob 219 P) .nil .nil)) (.node (kob 123 P) (.node (kob 187 P) .nil .nil) (.node (kob 251 P) .nil .nil)))))) (.node (o5v5 P) (.node (o9v9 P) (.node (o17v16 P) (.node (o8v8 P) (.node (o65v54 P) (.node (o8v8 P) (.node (kob 257 P) .nil .nil) .nil) (.node (o8v8 P) .nil .nil)) (.node (o7v7 P) (.node (kob 161 P) (.node (kob 289 P) .nil .nil) .nil) (.node (o8v8 P) .nil .nil))) (.node (o7v7 P) (.node (o81v66 P) (.node (kob 145 P) (.node (kob 273 P) .nil .nil) .nil) (.node (kob 209 P) .nil .nil)) (.node (kob 113 P) (.node (o177v102 P) .nil .nil) (.node (kob 241 P) .nil .nil)))) (.node (o25v24 P) (.node (o41v37 P) (.node (o73v62 P) (.node (kob 137 P) (.node (kob 265 P) .nil .nil) .nil) (.node (kob 201 P) .nil .nil)) (.node (o105v80 P) (.node (kob 169 P) (.node (kob 297 P) .nil .nil) .nil) (.node (o233v113 P) .nil .nil))) (.node (o7v7 P) (.node d89.obj (.node (tmpl (kob 155 P)) (.node (kob 281 P) .nil .nil) .nil) (.node (kob 217 P) .nil .nil)) (.node (o121v94 P) (.node (kob 185 P) .nil .nil) (.node (o8v8 P) .nil .nil))))) (.node (o13v13 P) (.node (o21v20 P) (.node (kob 37 P) (.node (o69v60 P) (.node (kob 133 P) (.node (kob 261 P) .nil .nil) .nil) (.node (kob 197 P) .nil .nil)) (.node (o7v7 P) (.node (o8v8 P) (.node (kob 293 P) .nil .nil) .nil) (.node (kob 229 P) .nil .nil))) (.node (o53v45 P) (.node d85.obj (.node (kob 149 P) (.node (kob 277 P) .nil .nil) .nil) (.node (kob 213 P) .nil .nil)) (.node (o117v92 P) (.node (kob 181 P) .nil .nil) (.node (tmpl (kob 247 P)) .nil .nil)))) (.node (o29v91 P) (.node (o45v40 P) (.node (o77v64 P) (.node (kob 141 P) (.node (kob 269 P) .nil .nil) .nil) (.node (kob 205 P) .nil .nil)) (.node (o109v83 P) (.node (kob 173 P) (.node (o301v118 P) .nil .nil) .nil) (.node (kob 237 P) .nil .nil))) (.node (o61v50 P) (.node (o93v72 P) (.node (o8v8 P) (.node (kob 285 P) .nil .nil) .nil) (.node (kob 221 P) .nil .nil)) (.node (kob 125 P) (.node (tmpl (kob 191 P)) .nil .nil) (.node (kob 253 P) .nil .nil))))))) (.node (kob 2 P) (.node (o4v4 P) (.node (o8v8 P) (.node (o16v15 P) (.node (kob 32 P) (.node (o64v53 P) (.node (kob 128 P) (.node (o8v8 P) .nil .nil) .nil) (.node (kob 192 P) .nil .nil)) (.node (o91v71 P) (.node (o160v97 P) (.node (o8v8 P) .nil .nil) .nil) (.node (o7v7 P) .nil .nil))) (.node (o48v41 P) (.node d80.obj (.node (kob 144 P) (.node (o8v8 P) .nil .nil) .nil) (.node (kob 208 P) .nil .nil)) (.node (o112v86 P) (.node (kob 176 P) .nil .nil) (.node (kob 240 P) .nil .nil)))) (.node (o24v23 P) (.node (o40v36 P) (.node (o72v61 P) (.node (o8v8 P) (.node (o8v8 P) .nil .nil) .nil) (.node (o8v8 P) .nil .nil)) (.node d104.obj (.node (o168v99 P) (.node (o296v115 P) .nil .nil) .nil) (.node (o232v112 P) .nil .nil))) (.node (o56v46 P) (.node (o88v69 P) (.node (kob 152 P) (.node (o8v8 P) .nil .nil) .nil) (.node (kob 216 P) .nil .nil)) (.node (o120v93 P) (.node (o184v104 P) .nil .nil) (.node (kob 248 P) .nil .nil))))) (.node (o12v12 P) (.node (o20v19 P) (.node (o36v33 P) (.node (o68v59 P) (.node (tmpl (kob 134 P)) (.node (kob 260 P) .nil .nil) .nil) (.node (o196v105 P) .nil .nil)) (.node (o81v66 P) (.node (kob 164 P) (.node (kob 292 P) .nil .nil) .nil) (.node (kob 228 P) .nil .nil))) (.node (o52v44 P) (.node d84.obj (.node (kob 148 P) (.node (kob 276 P) .nil .nil) .nil) (.node (o212v108 P) .nil .nil)) (.node (o40v36 P) (.node (kob 180 P) .nil .nil) (.node (kob 244 P) .nil .nil)))) (.node (o7v7 P) (.node (o44v39 P) (.node (o7v7 P) (.node (kob 140 P) (.node (kob 268 P) .nil .nil) .nil) (.node (kob 204 P) .nil .nil)) (.node d108.obj (.node (o8v8 P) (.node (kob 300 P) .nil .nil) .nil) (.node (kob 236 P) .nil .nil))) (.node (o60v49 P) (.node (o7v7 P) (.node (kob 156 P) (.node (kob 284 P) .nil .nil) .nil) (.node (kob 220 P) .nil .nil)) (.node (kob 124 P) (.node (kob 188 P) .nil .nil) (.node (tmpl (kob 254 P)) .nil .nil)))))) (.node (o6v6 P) (.node (o10v10 P) (.node (o18v17 P) (.node (kob 34 P) (.node (o66v55 P) (.node (kob 130 P) (.node (kob 258 P) .nil .nil) .nil) (.node (kob 194 P) .nil .nil)) (.node (o98v75 P) (.node (o162v98 P) (.node (kob 290 P) .nil .nil) .nil) (.node (o226v110 P) .nil .nil))) (.node (o50v42 P) (.node (o7v7 P) (.node (tmpl (kob 148 P)) (.node (kob 274 P) .nil .nil) .nil) (.node (o210v107 P) .nil .nil)) (.node (kob 114 P) (.node (kob 178 P) .nil .nil) (.node (o8v8 P) .nil .nil)))) (.node (o26v25 P) (.node (o7v7 P) (.node (o74v63 P) (.node (kob 138 P) (.node (kob 266 P) .nil .nil) .nil) (.node (kob 202 P) .nil .nil)) (.node (o7v7 P) (.node (o170v100 P) (.node (kob 298 P) .nil .nil) .nil) (.node (kob 234 P) .nil .nil))) (.node (o58v47 P) (.node d90.obj (.node (kob 154 P) (.node (kob 282 P) .nil .nil) .nil) (.node (tmpl (kob 220 P)) .nil .nil)) (.node (kob 122 P) (.node (o8v8 P) .nil .nil) (.node (kob 250 P) .nil .nil))))) (.node (o14v14 P) (.node (o22v21 P) (.node (o38v35 P) (.node (o7v7 P) (.node (kob 134 P) (.node (kob 262 P) .nil .nil) .nil) (.node (o198v106 P) .nil .nil)) (.node (o102v77 P) (.node (kob 166 P) (.node (o294v114 P) .nil .nil) .nil) (.node (kob 230 P) .nil .nil))) (.node (o7v7 P) (.node (o81v66 P) (.node (o8v8 P) (.node (kob 278 P) .nil .nil) .nil) (.node (kob 214 P) .nil .nil)) (.node (o7v7 P) (.node (o182v103 P) .nil .nil) (.node (kob 246 P) .nil .nil)))) (.node (o30v28 P) (.node (o7v7 P) (.node (o7v7 P) (.node (kob 142 P) (.node (kob 270 P) .nil .nil) .nil) (.node (kob 206 P) .nil .nil)) (.node (o7v7 P) (.node (kob 174 P) (.node (tmpl (kob 304 P)) .nil .nil) .nil) (.node (tmpl (kob 240 P)) .nil .nil))) (.node (o62v51 P) (.node d94.obj (.node (kob 158 P) (.node (kob 286 P) .nil .nil) .nil) (.node (o40v36 P) .nil .nil)) (.node (o126v95 P) (.node (kob 190 P) .nil .nil) (.node (kob 254 P) .nil .nil))))))))
-- S52 n 304 toks 1155 pos { line := 314, col := 0, endLine := 314, endCol := 18 }
noncomputable def o69v120 (P : Params) : Obj := { cls := .type "range_iterator", data := .fields #[.int 0 0, .int 32 0, .int 1 0] }
noncomputable def o73v121 (P : Params) : Obj := { cls := .type "frame", data := .dict #[ke P ".0" 341 (.ref 69)] 1 }
noncomputable def treeA4 (P : Params) (d75 : SD) : BT := (.node (o0v0 P) (.node (o1v1 P) (.node (o3v30 P) (.node (o7v7 P) (.node (o7v7 P) (.node (o31v29 P) (.node (o63v52 P) .nil .nil) .nil) (.node (o8v8 P) .nil .nil)) (.node (o23v22 P) (.node (o7v7 P) (.node (o8v8 P) .nil .nil) .nil) (.node (o8v8 P) .nil .nil))) (.node (o11v27 P) (.node (o19v18 P) (.node (o7v7 P) (.node (o67v56 P) .nil .nil) .nil) (.node (o51v43 P) .nil .nil)) (.node (o27v26 P) (.node (o43v38 P) (.node d75.obj .nil .nil) .nil) (.node (o59v48 P) .nil .nil)))) (.node (o5v5 P) (.node (o9v9 P) (.node (o17v16 P) (.node (o8v8 P) (.node (o65v54 P) .nil .nil) .nil) (.node (o7v7 P) .nil .nil)) (.node (o25v24 P) (.node (o41v37 P) (.node (o73v121 P) .nil .nil) .nil) (.node (o7v7 P) .nil .nil))) (.node (o13v13 P) (.node (o21v20 P) (.node (o37v34 P) (.node (o69v120 P) .nil .nil) .nil) (.node (o53v45 P) .nil .nil)) (.node (o29v58 P) (.node (o45v40 P) .nil .nil) (.node (o61v50 P) .nil .nil))))) (.node (o2v2 P) (.node (o4v4 P) (.node (o8v8 P) (.node (o16v15 P) (.node (o7v7 P) (.node (o64v53 P) .nil .nil) .nil) (.node (o48v41 P) .nil .nil)) (.node (o24v23 P) (.node (o40v36 P) (.node (o72v61 P) .nil .nil) .nil) (.node (o56v46 P) .nil .nil))) (.node (o12v12 P) (.node (o20v19 P) (.node (o36v33 P) (.node (o68v59 P) .nil .nil) .nil) (.node (o52v44 P) .nil .nil)) (.node (o7v7 P) (.node (o44v39 P) .nil .nil) (.node (o60v49 P) .nil .nil)))) (.node (o6v6 P) (.node (o10v10 P) (.node (o18v17 P) (.node (o34v32 P) (.node (o66v55 P) .nil .nil) .nil) (.node (o50v42 P) .nil .nil)) (.node (o26v25 P) (.node (o7v7 P) (.node (o74v63 P) .nil .nil) .nil) (.node (o58v47 P) .nil .nil))) (.node (o14v14 P) (.node (o22v21 P) (.node (o38v35 P) (.node (o7v7 P) .nil .nil) .nil) (.node (o7v7 P) .nil .nil)) (.node (o30v28 P) (.node (o7v7 P) .nil .nil) (.node (o62v51 P) .nil .nil))))))
-- A4 n 76 toks 344 pos { line := 13, col := 13, endLine := 13, endCol := 51 }
noncomputable def o86v122 (P : Params) : Obj := { cls := .type "str_ascii_iterator", data := .fields #[.str (so "\t") 477, .int 0 0] }
noncomputable def treeA5 (P : Params) (d75 : SD) (d80 : SD) (d84 : SD) (d85 : SD) : BT := (.node (o0v0 P) (.node (o1v1 P) (.node (o3v57 P) (.node (o7v7 P) (.node (o7v7 P) (.node (o31v29 P) (.node (o63v52 P) .nil .nil) .nil) (.node (o8v8 P) (.node (o79v65 P) .nil .nil) .nil)) (.node (o23v22 P) (.node (o7v7 P) (.node (o8v8 P) .nil .nil) .nil) (.node (o8v8 P) .nil .nil))) (.node (o11v27 P) (.node (o19v18 P) (.node (o7v7 P) (.node (o67v56 P) .nil .nil) .nil) (.node (o51v43 P) (.node (o83v67 P) .nil .nil) .nil)) (.node (o27v26 P) (.node (o43v38 P) (.node d75.obj .nil .nil) .nil) (.node (o59v48 P) .nil .nil)))) (.node (o5v5 P) (.node (o9v9 P) (.node (o17v16 P) (.node (o8v8 P) (.node (o65v54 P) .nil .nil) .nil) (.node (o7v7 P) (.node (o81v66 P) .nil .nil) .nil)) (.node (o25v24 P) (.node (o41v37 P) (.node (o73v62 P) .nil .nil) .nil) (.node (o7v7 P) .nil .nil))) (.node (o13v13 P) (.node (o21v20 P) (.node (o37v34 P) (.node (o69v60 P) .nil .nil) .nil) (.node (o53v45 P) (.node d85.obj .nil .nil) .nil)) (.node (o29v58 P) (.node (o45v40 P) (.node (o77v64 P) .nil .nil) .nil) (.node (o61v50 P) .nil .nil))))) (.node (o2v2 P) (.node (o4v4 P) (.node (o8v8 P) (.node (o16v15 P) (.node (o7v7 P) (.node (o64v53 P) .nil .nil) .nil) (.node (o48v41 P) (.node d80.obj .nil .nil) .nil)) (.node (o24v23 P) (.node (o40v36 P) (.node (o72v61 P) .nil .nil) .nil) (.node (o56v46 P) .nil .nil))) (.node (o12v12 P) (.node (o20v19 P) (.node (o36v33 P) (.node (o68v59 P) .nil .nil) .nil) (.node (o52v44 P) (.node d84.obj .nil .nil) .nil)) (.node (o7v7 P) (.node (o44v39 P) (.node (o7v7 P) .nil .nil) .nil) (.node (o60v49 P) .nil .nil)))) (.node (o6v6 P) (.node (o10v10 P) (.node (o18v17 P) (.node (o34v32 P) (.node (o66v55 P) .nil .nil) .nil) (.node (o50v42 P) (.node (o7v7 P) .nil .nil) .nil)) (.node (o26v25 P) (.node (o7v7 P) (.node (o74v63 P) .nil .nil) .nil) (.node (o58v47 P) .nil .nil))) (.node (o14v14 P) (.node (o22v21 P) (.node (o38v35 P) (.node (o7v7 P) .nil .nil) .nil) (.node (o7v7 P) (.node (o86v122 P) .nil .nil) .nil)) (.node (o30v28 P) (.node (o7v7 P) (.node (o7v7 P) .nil .nil) .nil) (.node (o62v51 P) .nil .nil))))))
-- A5 n 87 toks 478 pos { line := 14, col := 39, endLine := 14, endCol := 54 }
noncomputable def o91v123 (P : Params) : Obj := { cls := .type "str_ascii_iterator", data := .fields #[.str (so "\t\n") 481, .int 0 0] }
noncomputable def treeA6 (P : Params) (d75 : SD) (d80 : SD) (d84 : SD) (d85 : SD) (d89 : SD) (d90 : SD) : BT := (.node (o0v0 P) (.node (o1v1 P) (.node (o3v68 P) (.node (o7v7 P) (.node (o7v7 P) (.node (o31v29 P) (.node (o63v52 P) .nil .nil) .nil) (.node (o8v8 P) (.node (o79v65 P) .nil .nil) .nil)) (.node (o23v22 P) (.node (o7v7 P) (.node (o8v8 P) .nil .nil) .nil) (.node (o8v8 P) (.node (o7v7 P) .nil .nil) .nil))) (.node (o11v27 P) (.node (o19v18 P) (.node (o7v7 P) (.node (o67v56 P) .nil .nil) .nil) (.node (o51v43 P) (.node (o83v67 P) .nil .nil) .nil)) (.node (o27v26 P) (.node (o43v38 P) (.node d75.obj .nil .nil) .nil) (.node (o59v48 P) (.node (o91v123 P) .nil .nil) .nil)))) (.node (o5v5 P) (.node (o9v9 P) (.node (o17v16 P) (.node (o8v8 P) (.node (o65v54 P) .nil .nil) .nil) (.node (o7v7 P) (.node (o81v66 P) .nil .nil) .nil)) (.node (o25v24 P) (.node (o41v37 P) (.node (o73v62 P) .nil .nil) .nil) (.node (o7v7 P) (.node d89.obj .nil .nil) .nil))) (.node (o13v13 P) (.node (o21v20 P) (.node (o37v34 P) (.node (o69v60 P) .nil .nil) .nil) (.node (o53v45 P) (.node d85.obj .nil .nil) .nil)) (.node (o29v58 P) (.node (o45v40 P) (.node (o77v64 P) .nil .nil) .nil) (.node (o61v50 P) .nil .nil))))) (.node (o2v2 P) (.node (o4v4 P) (.node (o8v8 P) (.node (o16v15 P) (.node (o7v7 P) (.node (o64v53 P) .nil .nil) .nil) (.node (o48v41 P) (.node d80.obj .nil .nil) .nil)) (.node (o24v23 P) (.node (o40v36 P) (.node (o72v61 P) .nil .nil) .nil) (.node (o56v46 P) (.node (o88v69 P) .nil .nil) .nil))) (.node (o12v12 P) (.node (o20v19 P) (.node (o36v33 P) (.node (o68v59 P) .nil .nil) .nil) (.node (o52v44 P) (.node d84.obj .nil .nil) .nil)) (.node (o7v7 P) (.node (o44v39 P) (.node (o7v7 P) .nil .nil) .nil) (.node (o60v49 P) .nil .nil)))) (.node (o6v6 P) (.node (o10v10 P) (.node (o18v17 P) (.node (o34v32 P) (.node (o66v55 P) .nil .nil) .nil) (.node (o50v42 P) (.node (o7v7 P) .nil .nil) .nil)) (.node (o26v25 P) (.node (o7v7 P) (.node (o74v63 P) .nil .nil) .nil) (.node (o58v47 P) (.node d90.obj .nil .nil) .nil))) (.node (o14v14 P) (.node (o22v21 P) (.node (o38v35 P) (.node (o7v7 P) .nil .nil) .nil) (.node (o7v7 P) (.node (o81v66 P) .nil .nil) .nil)) (.node (o30v28 P) (.node (o7v7 P) (.node (o7v7 P) .nil .nil) .nil) (.node (o62v51 P) .nil .nil))))))
-- A6 n 92 toks 482 pos { line := 15, col := 49, endLine := 15, endCol := 66 }
noncomputable def o96v124 (P : Params) : Obj := { cls := .type "str_ascii_iterator", data := .fields #[.str (so " \t") 488, .int 0 0] }
noncomputable def treeA8 (P : Params) (d75 : SD) (d80 : SD) (d84 : SD) (d85 : SD) (d89 : SD) (d90 : SD) (d94 : SD) (d95 : SD) : BT := (.node (o0v0 P) (.node (o1v1 P) (.node (o3v73 P) (.node (o7v7 P) (.node (o7v7 P) (.node (o31v29 P) (.node (o63v52 P) .nil .nil) (.node d95.obj .nil .nil)) (.node (o8v8 P) (.node (o79v65 P) .nil .nil) .nil)) (.node (o23v22 P) (.node (o7v7 P) (.node (o8v8 P) .nil .nil) .nil) (.node (o8v8 P) (.node (o7v7 P) .nil .nil) .nil))) (.node (o11v27 P) (.node (o19v18 P) (.node (o7v7 P) (.node (o67v56 P) .nil .nil) .nil) (.node (o51v43 P) (.node (o83v67 P) .nil .nil) .nil)) (.node (o27v26 P) (.node (o43v38 P) (.node d75.obj .nil .nil) .nil) (.node (o59v48 P) (.node (o91v71 P) .nil .nil) .nil)))) (.node (o5v5 P) (.node (o9v9 P) (.node (o17v16 P) (.node (o8v8 P) (.node (o65v54 P) .nil .nil) .nil) (.node (o7v7 P) (.node (o81v66 P) .nil .nil) .nil)) (.node (o25v24 P) (.node (o41v37 P) (.node (o73v62 P) .nil .nil) .nil) (.node (o7v7 P) (.node d89.obj .nil .nil) .nil))) (.node (o13v13 P) (.node (o21v20 P) (.node (o37v34 P) (.node (o69v60 P) .nil .nil) .nil) (.node (o53v45 P) (.node d85.obj .nil .nil) .nil)) (.node (o29v58 P) (.node (o45v40 P) (.node (o77v64 P) .nil .nil) .nil) (.node (o61v50 P) (.node (o93v72 P) .nil .nil) .nil))))) (.node (o2v2 P) (.node (o4v4 P) (.node (o8v8 P) (.node (o16v15 P) (.node (o7v7 P) (.node (o64v53 P) .nil .nil) (.node (o96v124 P) .nil .nil)) (.node (o48v41 P) (.node d80.obj .nil .nil) .nil)) (.node (o24v23 P) (.node (o40v36 P) (.node (o72v61 P) .nil .nil) .nil) (.node (o56v46 P) (.node (o88v69 P) .nil .nil) .nil))) (.node (o12v12 P) (.node (o20v19 P) (.node (o36v33 P) (.node (o68v59 P) .nil .nil) .nil) (.node (o52v44 P) (.node d84.obj .nil .nil) .nil)) (.node (o7v7 P) (.node (o44v39 P) (.node (o7v7 P) .nil .nil) .nil) (.node (o60v49 P) (.node (o7v7 P) .nil .nil) .nil)))) (.node (o6v6 P) (.node (o10v10 P) (.node (o18v17 P) (.node (o34v32 P) (.node (o66v55 P) .nil .nil) .nil) (.node (o50v42 P) (.node (o7v7 P) .nil .nil) .nil)) (.node (o26v25 P) (.node (o7v7 P) (.node (o74v63 P) .nil .nil) .nil) (.node (o58v47 P) (.node d90.obj .nil .nil) .nil))) (.node (o14v14 P) (.node (o22v21 P) (.node (o38v35 P) (.node (o7v7 P) .nil .nil) .nil) (.node (o7v7 P) (.node (o81v66 P) .nil .nil) .nil)) (.node (o30v28 P) (.node (o7v7 P) (.node (o7v7 P) .nil .nil) .nil) (.node (o62v51 P) (.node d94.obj .nil .nil) .nil))))))
-- A8 n 97 toks 489 pos { line := 17, col := 10, endLine := 17, endCol := 26 }
noncomputable def o100v125 (P : Params) : Obj := { cls := .type "str_ascii_iterator", data := .fields #[.str (so "\n") 494, .int 0 0] }
noncomputable def treeA9 (P : Params) (d75 : SD) (d80 : SD) (d84 : SD) (d85 : SD) (d89 : SD) (d90 : SD) (d94 : SD) (d95 : SD) (d99 : SD) : BT := (.node (o0v0 P) (.node (o1v1 P) (.node (o3v74 P) (.node (o7v7 P) (.node (o7v7 P) (.node (o31v29 P) (.node (o63v52 P) .nil .nil) (.node d95.obj .nil .nil)) (.node (o8v8 P) (.node (o79v65 P) .nil .nil) .nil)) (.node (o23v22 P) (.node (o7v7 P) (.node (o8v8 P) .nil .nil) .nil) (.node (o8v8 P) (.node (o7v7 P) .nil .nil) .nil))) (.node (o11v27 P) (.node (o19v18 P) (.node (o7v7 P) (.node (o67v56 P) .nil .nil) (.node d99.obj .nil .nil)) (.node (o51v43 P) (.node (o83v67 P) .nil .nil) .nil)) (.node (o27v26 P) (.node (o43v38 P) (.node d75.obj .nil .nil) .nil) (.node (o59v48 P) (.node (o91v71 P) .nil .nil) .nil)))) (.node (o5v5 P) (.node (o9v9 P) (.node (o17v16 P) (.node (o8v8 P) (.node (o65v54 P) .nil .nil) (.node (o7v7 P) .nil .nil)) (.node (o7v7 P) (.node (o81v66 P) .nil .nil) .nil)) (.node (o25v24 P) (.node (o41v37 P) (.node (o73v62 P) .nil .nil) .nil) (.node (o7v7 P) (.node d89.obj .nil .nil) .nil))) (.node (o13v13 P) (.node (o21v20 P) (.node (o37v34 P) (.node (o69v60 P) .nil .nil) .nil) (.node (o53v45 P) (.node d85.obj .nil .nil) .nil)) (.node (o29v58 P) (.node (o45v40 P) (.node (o77v64 P) .nil .nil) .nil) (.node (o61v50 P) (.node (o93v72 P) .nil .nil) .nil))))) (.node (o2v2 P) (.node (o4v4 P) (.node (o8v8 P) (.node (o16v15 P) (.node (o7v7 P) (.node (o64v53 P) .nil .nil) (.node (o91v71 P) .nil .nil)) (.node (o48v41 P) (.node d80.obj .nil .nil) .nil)) (.node (o24v23 P) (.node (o40v36 P) (.node (o72v61 P) .nil .nil) .nil) (.node (o56v46 P) (.node (o88v69 P) .nil .nil) .nil))) (.node (o12v12 P) (.node (o20v19 P) (.node (o36v33 P) (.node (o68v59 P) .nil .nil) (.node (o100v125 P) .nil .nil)) (.node (o52v44 P) (.node d84.obj .nil .nil) .nil)) (.node (o7v7 P) (.node (o44v39 P) (.node (o7v7 P) .nil .nil) .nil) (.node (o60v49 P) (.node (o7v7 P) .nil .nil) .nil)))) (.node (o6v6 P) (.node (o10v10 P) (.node (o18v17 P) (.node (o34v32 P) (.node (o66v55 P) .nil .nil) (.node (o98v75 P) .nil .nil)) (.node (o50v42 P) (.node (o7v7 P) .nil .nil) .nil)) (.node (o26v25 P) (.node (o7v7 P) (.node (o74v63 P) .nil .nil) .nil) (.node (o58v47 P) (.node d90.obj .nil .nil) .nil))) (.node (o14v14 P) (.node (o22v21 P) (.node (o38v35 P) (.node (o7v7 P) .nil .nil) .nil) (.node (o7v7 P) (.node (o81v66 P) .nil .nil) .nil)) (.node (o30v28 P) (.node (o7v7 P) (.node (o7v7 P) .nil .nil) .nil) (.node (o62v51 P) (.node d94.obj .nil .nil) .nil))))))
-- A9 n 101 toks 495 pos { line := 18, col := 32, endLine := 18, endCol := 47 }
noncomputable def o105v126 (P : Params) : Obj := { cls := .type "str_ascii_iterator", data := .fields #[.str (so "abcdefghijklmnopqrstuvwxyzABCDEFGHIJKLMNOPQRSTUVWXYZ0123456789-_") 513, .int 0 0] }
noncomputable def treeA15 (P : Params) (d75 : SD) (d80 : SD) (d84 : SD) (d85 : SD) (d89 : SD) (d90 : SD) (d94 : SD) (d95 : SD) (d99 : SD) (d103 : SD) (d104 : SD) : BT := (.node (o0v0 P) (.node (o1v1 P) (.node (o3v78 P) (.node (o7v7 P) (.node (o7v7 P) (.node (o31v29 P) (.node (o63v52 P) .nil .nil) (.node d95.obj .nil .nil)) (.node (o8v8 P) (.node (o79v65 P) .nil .nil) .nil)) (.node (o23v22 P) (.node (o7v7 P) (.node (o8v8 P) .nil .nil) (.node d103.obj .nil .nil)) (.node (o8v8 P) (.node (o7v7 P) .nil .nil) .nil))) (.node (o11v27 P) (.node (o19v18 P) (.node (o7v7 P) (.node (o67v56 P) .nil .nil) (.node d99.obj .nil .nil)) (.node (o51v43 P) (.node (o83v67 P) .nil .nil) .nil)) (.node (o27v26 P) (.node (o43v38 P) (.node d75.obj .nil .nil) .nil) (.node (o59v48 P) (.node (o91v71 P) .nil .nil) .nil)))) (.node (o5v5 P) (.node (o9v9 P) (.node (o17v16 P) (.node (o8v8 P) (.node (o65v54 P) .nil .nil) (.node (o7v7 P) .nil .nil)) (.node (o7v7 P) (.node (o81v66 P) .nil .nil) .nil)) (.node (o25v24 P) (.node (o41v37 P) (.node (o73v62 P) .nil .nil) (.node (o105v126 P) .nil .nil)) (.node (o7v7 P) (.node d89.obj .nil .nil) .nil))) (.node (o13v13 P) (.node (o21v20 P) (.node (o37v34 P) (.node (o69v60 P) .nil .nil) (.node (o7v7 P) .nil .nil)) (.node (o53v45 P) (.node d85.obj .nil .nil) .nil)) (.node (o29v58 P) (.node (o45v40 P) (.node (o77v64 P) .nil .nil) .nil) (.node (o61v50 P) (.node (o93v72 P) .nil .nil) .nil))))) (.node (o2v2 P) (.node (o4v4 P) (.node (o8v8 P) (.node (o16v15 P) (.node (o7v7 P) (.node (o64v53 P) .nil .nil) (.node (o91v71 P) .nil .nil)) (.node (o48v41 P) (.node d80.obj .nil .nil) .nil)) (.node (o24v23 P) (.node (o40v36 P) (.node (o72v61 P) .nil .nil) (.node d104.obj .nil .nil)) (.node (o56v46 P) (.node (o88v69 P) .nil .nil) .nil))) (.node (o12v12 P) (.node (o20v19 P) (.node (o36v33 P) (.node (o68v59 P) .nil .nil) (.node (o81v66 P) .nil .nil)) (.node (o52v44 P) (.node d84.obj .nil .nil) .nil)) (.node (o7v7 P) (.node (o44v39 P) (.node (o7v7 P) .nil .nil) .nil) (.node (o60v49 P) (.node (o7v7 P) .nil .nil) .nil)))) (.node (o6v6 P) (.node (o10v10 P) (.node (o18v17 P) (.node (o34v32 P) (.node (o66v55 P) .nil .nil) (.node (o98v75 P) .nil .nil)) (.node (o50v42 P) (.node (o7v7 P) .nil .nil) .nil)) (.node (o26v25 P) (.node (o7v7 P) (.node (o74v63 P) .nil .nil) .nil) (.node (o58v47 P) (.node d90.obj .nil .nil) .nil))) (.node (o14v14 P) (.node (o22v21 P) (.node (o38v35 P) (.node (o7v7 P) .nil .nil) (.node (o102v77 P) .nil .nil)) (.node (o7v7 P) (.node (o81v66 P) .nil .nil) .nil)) (.node (o30v28 P) (.node (o7v7 P) (.node (o7v7 P) .nil .nil) .nil) (.node (o62v51 P) (.node d94.obj .nil .nil) .nil))))))
-- A15 n 106 toks 514 pos { line := 24, col := 17, endLine := 24, endCol := 57 }
noncomputable def o109v127 (P : Params) : Obj := { cls := .type "str_ascii_iterator", data := .fields #[.str (so "0123456789abcdefABCDEF") 509, .int 0 0] }
noncomputable def treeA16 (P : Params) (d75 : SD) (d80 : SD) (d84 : SD) (d85 : SD) (d89 : SD) (d90 : SD) (d94 : SD) (d95 : SD) (d99 : SD) (d103 : SD) (d104 : SD) (d108 : SD) : BT := (.node (o0v0 P) (.node (o1v1 P) (.node (o3v79 P) (.node (o7v7 P) (.node (o7v7 P) (.node (o31v29 P) (.node (o63v52 P) .nil .nil) (.node d95.obj .nil .nil)) (.node (o8v8 P) (.node (o79v65 P) .nil .nil) .nil)) (.node (o23v22 P) (.node (o7v7 P) (.node (o8v8 P) .nil .nil) (.node d103.obj .nil .nil)) (.node (o8v8 P) (.node (o7v7 P) .nil .nil) .nil))) (.node (o11v27 P) (.node (o19v18 P) (.node (o7v7 P) (.node (o67v56 P) .nil .nil) (.node d99.obj .nil .nil)) (.node (o51v43 P) (.node (o83v67 P) .nil .nil) .nil)) (.node (o27v26 P) (.node (o43v38 P) (.node d75.obj .nil .nil) (.node (o107v81 P) .nil .nil)) (.node (o59v48 P) (.node (o91v71 P) .nil .nil) .nil)))) (.node (o5v5 P) (.node (o9v9 P) (.node (o17v16 P) (.node (o8v8 P) (.node (o65v54 P) .nil .nil) (.node (o7v7 P) .nil .nil)) (.node (o7v7 P) (.node (o81v66 P) .nil .nil) .nil)) (.node (o25v24 P) (.node (o41v37 P) (.node (o73v62 P) .nil .nil) (.node (o105v80 P) .nil .nil)) (.node (o7v7 P) (.node d89.obj .nil .nil) .nil))) (.node (o13v13 P) (.node (o21v20 P) (.node (o37v34 P) (.node (o69v60 P) .nil .nil) (.node (o7v7 P) .nil .nil)) (.node (o53v45 P) (.node d85.obj .nil .nil) .nil)) (.node (o29v58 P) (.node (o45v40 P) (.node (o77v64 P) .nil .nil) (.node (o109v127 P) .nil .nil)) (.node (o61v50 P) (.node (o93v72 P) .nil .nil) .nil))))) (.node (o2v2 P) (.node (o4v4 P) (.node (o8v8 P) (.node (o16v15 P) (.node (o7v7 P) (.node (o64v53 P) .nil .nil) (.node (o91v71 P) .nil .nil)) (.node (o48v41 P) (.node d80.obj .nil .nil) .nil)) (.node (o24v23 P) (.node (o40v36 P) (.node (o72v61 P) .nil .nil) (.node d104.obj .nil .nil)) (.node (o56v46 P) (.node (o88v69 P) .nil .nil) .nil))) (.node (o12v12 P) (.node (o20v19 P) (.node (o36v33 P) (.node (o68v59 P) .nil .nil) (.node (o81v66 P) .nil .nil)) (.node (o52v44 P) (.node d84.obj .nil .nil) .nil)) (.node (o7v7 P) (.node (o44v39 P) (.node (o7v7 P) .nil .nil) (.node d108.obj .nil .nil)) (.node (o60v49 P) (.node (o7v7 P) .nil .nil) .nil)))) (.node (o6v6 P) (.node (o10v10 P) (.node (o18v17 P) (.node (o34v32 P) (.node (o66v55 P) .nil .nil) (.node (o98v75 P) .nil .nil)) (.node (o50v42 P) (.node (o7v7 P) .nil .nil) .nil)) (.node (o26v25 P) (.node (o7v7 P) (.node (o74v63 P) .nil .nil) (.node (o7v7 P) .nil .nil)) (.node (o58v47 P) (.node d90.obj .nil .nil) .nil))) (.node (o14v14 P) (.node (o22v21 P) (.node (o38v35 P) (.node (o7v7 P) .nil .nil) (.node (o102v77 P) .nil .nil)) (.node (o7v7 P) (.node (o81v66 P) .nil .nil) .nil)) (.node (o30v28 P) (.node (o7v7 P) (.node (o7v7 P) .nil .nil) .nil) (.node (o62v51 P) (.node d94.obj .nil .nil) .nil))))))
-- A16 n 110 toks 643 pos { line := 25, col := 17, endLine := 25, endCol := 37 }
noncomputable def treeB5 (P : Params) (d75 : SD) (d80 : SD) (d84 : SD) (d85 : SD) : BT := (.node (o0v0 P) (.node (o1v1 P) (.node (o3v57 P) (.node (o7v7 P) (.node (o7v7 P) (.node (o31v29 P) (.node (o63v52 P) .nil .nil) .nil) (.node (o8v8 P) (.node (o79v65 P) .nil .nil) .nil)) (.node (o23v22 P) (.node (o7v7 P) (.node (o8v8 P) .nil .nil) .nil) (.node (o8v8 P) (.node (o7v7 P) .nil .nil) .nil))) (.node (o11v27 P) (.node (o19v18 P) (.node (o7v7 P) (.node (o67v56 P) .nil .nil) .nil) (.node (o51v43 P) (.node (o83v67 P) .nil .nil) .nil)) (.node (o27v26 P) (.node (o43v38 P) (.node d75.obj .nil .nil) .nil) (.node (o59v48 P) .nil .nil)))) (.node (o5v5 P) (.node (o9v9 P) (.node (o17v16 P) (.node (o8v8 P) (.node (o65v54 P) .nil .nil) .nil) (.node (o7v7 P) (.node (o81v66 P) .nil .nil) .nil)) (.node (o25v24 P) (.node (o41v37 P) (.node (o73v62 P) .nil .nil) .nil) (.node (o7v7 P) .nil .nil))) (.node (o13v13 P) (.node (o21v20 P) (.node (o37v34 P) (.node (o69v60 P) .nil .nil) .nil) (.node (o53v45 P) (.node d85.obj .nil .nil) .nil)) (.node (o29v58 P) (.node (o45v40 P) (.node (o77v64 P) .nil .nil) .nil) (.node (o61v50 P) .nil .nil))))) (.node (o2v2 P) (.node (o4v4 P) (.node (o8v8 P) (.node (o16v15 P) (.node (o7v7 P) (.node (o64v53 P) .nil .nil) .nil) (.node (o48v41 P) (.node d80.obj .nil .nil) .nil)) (.node (o24v23 P) (.node (o40v36 P) (.node (o72v61 P) .nil .nil) .nil) (.node (o56v46 P) (.node (o88v69 P) .nil .nil) .nil))) (.node (o12v12 P) (.node (o20v19 P) (.node (o36v33 P) (.node (o68v59 P) .nil .nil) .nil) (.node (o52v44 P) (.node d84.obj .nil .nil) .nil)) (.node (o7v7 P) (.node (o44v39 P) (.node (o7v7 P) .nil .nil) .nil) (.node (o60v49 P) .nil .nil)))) (.node (o6v6 P) (.node (o10v10 P) (.node (o18v17 P) (.node (o34v32 P) (.node (o66v55 P) .nil .nil) .nil) (.node (o50v42 P) (.node (o7v7 P) .nil .nil) .nil)) (.node (o26v25 P) (.node (o7v7 P) (.node (o74v63 P) .nil .nil) .nil) (.node (o58v47 P) .nil .nil))) (.node (o14v14 P) (.node (o22v21 P) (.node (o38v35 P) (.node (o7v7 P) .nil .nil) .nil) (.node (o7v7 P) (.node (o81v66 P) .nil .nil) .nil)) (.node (o30v28 P) (.node (o7v7 P) (.node (o7v7 P) .nil .nil) .nil) (.node (o62v51 P) .nil .nil))))))
-- B5 n 89 toks 480 pos { line := 14, col := 26, endLine := 14, endCol := 54 }
noncomputable def treeB6 (P : Params) (d75 : SD) (d80 : SD) (d84 : SD) (d85 : SD) (d89 : SD) (d90 : SD) : BT := (.node (o0v0 P) (.node (o1v1 P) (.node (o3v68 P) (.node (o7v7 P) (.node (o7v7 P) (.node (o31v29 P) (.node (o63v52 P) .nil .nil) .nil) (.node (o8v8 P) (.node (o79v65 P) .nil .nil) .nil)) (.node (o23v22 P) (.node (o7v7 P) (.node (o8v8 P) .nil .nil) .nil) (.node (o8v8 P) (.node (o7v7 P) .nil .nil) .nil))) (.node (o11v27 P) (.node (o19v18 P) (.node (o7v7 P) (.node (o67v56 P) .nil .nil) .nil) (.node (o51v43 P) (.node (o83v67 P) .nil .nil) .nil)) (.node (o27v26 P) (.node (o43v38 P) (.node d75.obj .nil .nil) .nil) (.node (o59v48 P) (.node (o91v71 P) .nil .nil) .nil)))) (.node (o5v5 P) (.node (o9v9 P) (.node (o17v16 P) (.node (o8v8 P) (.node (o65v54 P) .nil .nil) .nil) (.node (o7v7 P) (.node (o81v66 P) .nil .nil) .nil)) (.node (o25v24 P) (.node (o41v37 P) (.node (o73v62 P) .nil .nil) .nil) (.node (o7v7 P) (.node d89.obj .nil .nil) .nil))) (.node (o13v13 P) (.node (o21v20 P) (.node (o37v34 P) (.node (o69v60 P) .nil .nil) .nil) (.node (o53v45 P) (.node d85.obj .nil .nil) .nil)) (.node (o29v58 P) (.node (o45v40 P) (.node (o77v64 P) .nil .nil) .nil) (.node (o61v50 P) (.node (o93v72 P) .nil .nil) .nil))))) (.node (o2v2 P) (.node (o4v4 P) (.node (o8v8 P) (.node (o16v15 P) (.node (o7v7 P) (.node (o64v53 P) .nil .nil) .nil) (.node (o48v41 P) (.node d80.obj .nil .nil) .nil)) (.node (o24v23 P) (.node (o40v36 P) (.node (o72v61 P) .nil .nil) .nil) (.node (o56v46 P) (.node (o88v69 P) .nil .nil) .nil))) (.node (o12v12 P) (.node (o20v19 P) (.node (o36v33 P) (.node (o68v59 P) .nil .nil) .nil) (.node (o52v44 P) (.node d84.obj .nil .nil) .nil)) (.node (o7v7 P) (.node (o44v39 P) (.node (o7v7 P) .nil .nil) .nil) (.node (o60v49 P) (.node (o7v7 P) .nil .nil) .nil)))) (.node (o6v6 P) (.node (o10v10 P) (.node (o18v17 P) (.node (o34v32 P) (.node (o66v55 P) .nil .nil) .nil) (.node (o50v42 P) (.node (o7v7 P) .nil .nil) .nil)) (.node (o26v25 P) (.node (o7v7 P) (.node (o74v63 P) .nil .nil) .nil) (.node (o58v47 P) (.node d90.obj .nil .nil) .nil))) (.node (o14v14 P) (.node (o22v21 P) (.node (o38v35 P) (.node (o7v7 P) .nil .nil) .nil) (.node (o7v7 P) (.node (o81v66 P) .nil .nil) .nil)) (.node (o30v28 P) (.node (o7v7 P) (.node (o7v7 P) .nil .nil) .nil) (.node (o62v51 P) .nil .nil))))))
-- B6 n 94 toks 486 pos { line := 15, col := 36, endLine := 15, endCol := 66 }
noncomputable def treeB9 (P : Params) (d75 : SD) (d80 : SD) (d84 : SD) (d85 : SD) (d89 : SD) (d90 : SD) (d94 : SD) (d95 : SD) (d99 : SD) : BT := (.node (o0v0 P) (.node (o1v1 P) (.node (o3v74 P) (.node (o7v7 P) (.node (o7v7 P) (.node (o31v29 P) (.node (o63v52 P) .nil .nil) (.node d95.obj .nil .nil)) (.node (o8v8 P) (.node (o79v65 P) .nil .nil) .nil)) (.node (o23v22 P) (.node (o7v7 P) (.node (o8v8 P) .nil .nil) .nil) (.node (o8v8 P) (.node (o7v7 P) .nil .nil) .nil))) (.node (o11v27 P) (.node (o19v18 P) (.node (o7v7 P) (.node (o67v56 P) .nil .nil) (.node d99.obj .nil .nil)) (.node (o51v43 P) (.node (o83v67 P) .nil .nil) .nil)) (.node (o27v26 P) (.node (o43v38 P) (.node d75.obj .nil .nil) .nil) (.node (o59v48 P) (.node (o91v71 P) .nil .nil) .nil)))) (.node (o5v5 P) (.node (o9v9 P) (.node (o17v16 P) (.node (o8v8 P) (.node (o65v54 P) .nil .nil) (.node (o7v7 P) .nil .nil)) (.node (o7v7 P) (.node (o81v66 P) .nil .nil) .nil)) (.node (o25v24 P) (.node (o41v37 P) (.node (o73v62 P) .nil .nil) .nil) (.node (o7v7 P) (.node d89.obj .nil .nil) .nil))) (.node (o13v13 P) (.node (o21v20 P) (.node (o37v34 P) (.node (o69v60 P) .nil .nil) (.node (o7v7 P) .nil .nil)) (.node (o53v45 P) (.node d85.obj .nil .nil) .nil)) (.node (o29v58 P) (.node (o45v40 P) (.node (o77v64 P) .nil .nil) .nil) (.node (o61v50 P) (.node (o93v72 P) .nil .nil) .nil))))) (.node (o2v2 P) (.node (o4v4 P) (.node (o8v8 P) (.node (o16v15 P) (.node (o7v7 P) (.node (o64v53 P) .nil .nil) (.node (o91v71 P) .nil .nil)) (.node (o48v41 P) (.node d80.obj .nil .nil) .nil)) (.node (o24v23 P) (.node (o40v36 P) (.node (o72v61 P) .nil .nil) .nil) (.node (o56v46 P) (.node (o88v69 P) .nil .nil) .nil))) (.node (o12v12 P) (.node (o20v19 P) (.node (o36v33 P) (.node (o68v59 P) .nil .nil) (.node (o81v66 P) .nil .nil)) (.node (o52v44 P) (.node d84.obj .nil .nil) .nil)) (.node (o7v7 P) (.node (o44v39 P) (.node (o7v7 P) .nil .nil) .nil) (.node (o60v49 P) (.node (o7v7 P) .nil .nil) .nil)))) (.node (o6v6 P) (.node (o10v10 P) (.node (o18v17 P) (.node (o34v32 P) (.node (o66v55 P) .nil .nil) (.node (o98v75 P) .nil .nil)) (.node (o50v42 P) (.node (o7v7 P) .nil .nil) .nil)) (.node (o26v25 P) (.node (o7v7 P) (.node (o74v63 P) .nil .nil) .nil) (.node (o58v47 P) (.node d90.obj .nil .nil) .nil))) (.node (o14v14 P) (.node (o22v21 P) (.node (o38v35 P) (.node (o7v7 P) .nil .nil) (.node (o102v77 P) .nil .nil)) (.node (o7v7 P) (.node (o81v66 P) .nil .nil) .nil)) (.node (o30v28 P) (.node (o7v7 P) (.node (o7v7 P) .nil .nil) .nil) (.node (o62v51 P) (.node d94.obj .nil .nil) .nil))))))
-- B9 n 103 toks 497 pos { line := 18, col := 22, endLine := 18, endCol := 47 }
noncomputable def treeC4 (P : Params) (d75 : SD) (d80 : SD) : BT := (.node (o0v0 P) (.node (o1v1 P) (.node (o3v30 P) (.node (o7v7 P) (.node (o7v7 P) (.node (o31v29 P) (.node (o63v52 P) .nil .nil) .nil) (.node (o8v8 P) (.node (o79v65 P) .nil .nil) .nil)) (.node (o23v22 P) (.node (o7v7 P) (.node (o8v8 P) .nil .nil) .nil) (.node (o8v8 P) .nil .nil))) (.node (o11v27 P) (.node (o19v18 P) (.node (o7v7 P) (.node (o67v56 P) .nil .nil) .nil) (.node (o51v43 P) (.node (o83v67 P) .nil .nil) .nil)) (.node (o27v26 P) (.node (o43v38 P) (.node d75.obj .nil .nil) .nil) (.node (o59v48 P) .nil .nil)))) (.node (o5v5 P) (.node (o9v9 P) (.node (o17v16 P) (.node (o8v8 P) (.node (o65v54 P) .nil .nil) .nil) (.node (o7v7 P) (.node (o81v66 P) .nil .nil) .nil)) (.node (o25v24 P) (.node (o41v37 P) (.node (o73v62 P) .nil .nil) .nil) (.node (o7v7 P) .nil .nil))) (.node (o13v13 P) (.node (o21v20 P) (.node (o37v34 P) (.node (o69v60 P) .nil .nil) .nil) (.node (o53v45 P) .nil .nil)) (.node (o29v58 P) (.node (o45v40 P) (.node (o77v64 P) .nil .nil) .nil) (.node (o61v50 P) .nil .nil))))) (.node (o2v2 P) (.node (o4v4 P) (.node (o8v8 P) (.node (o16v15 P) (.node (o7v7 P) (.node (o64v53 P) .nil .nil) .nil) (.node (o48v41 P) (.node d80.obj .nil .nil) .nil)) (.node (o24v23 P) (.node (o40v36 P) (.node (o72v61 P) .nil .nil) .nil) (.node (o56v46 P) .nil .nil))) (.node (o12v12 P) (.node (o20v19 P) (.node (o36v33 P) (.node (o68v59 P) .nil .nil) .nil) (.node (o52v44 P) .nil .nil)) (.node (o7v7 P) (.node (o44v39 P) (.node (o7v7 P) .nil .nil) .nil) (.node (o60v49 P) .nil .nil)))) (.node (o6v6 P) (.node (o10v10 P) (.node (o18v17 P) (.node (o34v32 P) (.node (o66v55 P) .nil .nil) .nil) (.node (o50v42 P) (.node (o7v7 P) .nil .nil) .nil)) (.node (o26v25 P) (.node (o7v7 P) (.node (o74v63 P) .nil .nil) .nil) (.node (o58v47 P) .nil .nil))) (.node (o14v14 P) (.node (o22v21 P) (.node (o38v35 P) (.node (o7v7 P) .nil .nil) .nil) (.node (o7v7 P) .nil .nil)) (.node (o30v28 P) (.node (o7v7 P) (.node (o7v7 P) .nil .nil) .nil) (.node (o62v51 P) .nil .nil))))))
-- C4 n 84 toks 476 pos { line := 13, col := 13, endLine := 13, endCol := 73 }
noncomputable def o81v128 (P : Params) : Obj := { cls := .type "str_ascii_iterator", data := .fields #[.str (so "\x7f") 473, .int 0 0] }
noncomputable def treeB4 (P : Params) (d75 : SD) (d80 : SD) : BT := (.node (o0v0 P) (.node (o1v1 P) (.node (o3v30 P) (.node (o7v7 P) (.node (o7v7 P) (.node (o31v29 P) (.node (o63v52 P) .nil .nil) .nil) (.node (o8v8 P) (.node (o79v65 P) .nil .nil) .nil)) (.node (o23v22 P) (.node (o7v7 P) (.node (o8v8 P) .nil .nil) .nil) (.node (o8v8 P) .nil .nil))) (.node (o11v27 P) (.node (o19v18 P) (.node (o7v7 P) (.node (o67v56 P) .nil .nil) .nil) (.node (o51v43 P) .nil .nil)) (.node (o27v26 P) (.node (o43v38 P) (.node d75.obj .nil .nil) .nil) (.node (o59v48 P) .nil .nil)))) (.node (o5v5 P) (.node (o9v9 P) (.node (o17v16 P) (.node (o8v8 P) (.node (o65v54 P) .nil .nil) .nil) (.node (o7v7 P) (.node (o81v128 P) .nil .nil) .nil)) (.node (o25v24 P) (.node (o41v37 P) (.node (o73v62 P) .nil .nil) .nil) (.node (o7v7 P) .nil .nil))) (.node (o13v13 P) (.node (o21v20 P) (.node (o37v34 P) (.node (o69v60 P) .nil .nil) .nil) (.node (o53v45 P) .nil .nil)) (.node (o29v58 P) (.node (o45v40 P) (.node (o77v64 P) .nil .nil) .nil) (.node (o61v50 P) .nil .nil))))) (.node (o2v2 P) (.node (o4v4 P) (.node (o8v8 P) (.node (o16v15 P) (.node (o7v7 P) (.node (o64v53 P) .nil .nil) .nil) (.node (o48v41 P) (.node d80.obj .nil .nil) .nil)) (.node (o24v23 P) (.node (o40v36 P) (.node (o72v61 P) .nil .nil) .nil) (.node (o56v46 P) .nil .nil))) (.node (o12v12 P) (.node (o20v19 P) (.node (o36v33 P) (.node (o68v59 P) .nil .nil) .nil) (.node (o52v44 P) .nil .nil)) (.node (o7v7 P) (.node (o44v39 P) (.node (o7v7 P) .nil .nil) .nil) (.node (o60v49 P) .nil .nil)))) (.node (o6v6 P) (.node (o10v10 P) (.node (o18v17 P) (.node (o34v32 P) (.node (o66v55 P) .nil .nil) .nil) (.node (o50v42 P) .nil .nil)) (.node (o26v25 P) (.node (o7v7 P) (.node (o74v63 P) .nil .nil) .nil) (.node (o58v47 P) .nil .nil))) (.node (o14v14 P) (.node (o22v21 P) (.node (o38v35 P) (.node (o7v7 P) .nil .nil) .nil) (.node (o7v7 P) .nil .nil)) (.node (o30v28 P) (.node (o7v7 P) (.node (o7v7 P) .nil .nil) .nil) (.node (o62v51 P) .nil .nil))))))
-- B4 n 82 toks 474 pos { line := 13, col := 54, endLine := 13, endCol := 73 }
end
section
open PySem PySem.W PySem.Calls PyProof.Rows
set_option maxRecDepth 100000
abbrev pw : Program := PySem.Challenge.pw_il0176_01
noncomputable def twDen : Code → Sem PySem.Fin := PySem.W.Fast.tw11892475500146522536 PySem.W.Fast.tw14364793385576792824
theorem twDen_eq : denote treeTable = twDen := by
  unfold twDen
  rw [← PySem.W.Fast.te11892475500146522536, ← PySem.W.Fast.te14364793385576792824]
noncomputable def goT (p : Program) (w : World) (n₀ : Nat) (ann : Option Value) : Nat → SharedT → Thread → Option (SharedT × Thread)
  | 0, s, t => some (s, t)
  | n + 1, s, t => match through t with
    | true => none
    | false => match PySem.W.Fast.tw6613529449190102663 n₀ ann t with
      | false => none
      | true => match PySem.W.Fast.tw10156331382660048174 twDen p w s t with
        | some (s', t') => goT p w n₀ ann n s' t'
        | none => none
theorem goT_sound {p : Program} {w : World} {n₀ : Nat} {ann : Option Value} : ∀ {n : Nat} {s s' : SharedT} {t t' : Thread}, goT p w n₀ ann n s t = some (s', t') → topGo treeTable p w n₀ ann n s.abs t = some (s'.abs, t')
  | 0, s, s', t, t', h => by cases h; rfl
  | n + 1, s, s', t, t', h => by
    unfold goT at h
    unfold topGo
    cases ht : through t with
    | true => rw [ht] at h; cases h
    | false =>
      rw [ht] at h
      rw [← PySem.W.Fast.te6613529449190102663] at h
      cases hk : stepOk n₀ ann t with
      | false => rw [hk] at h; cases h
      | true =>
        rw [hk] at h
        rw [← PySem.W.Fast.te10156331382660048174, ← twDen_eq] at h
        cases hs : stepT (denote treeTable) p w s t with
        | none => rw [hs] at h; cases h
        | some r =>
          obtain ⟨s2, t2⟩ := r
          rw [hs] at h
          rw [stepT_spec hs]
          exact goT_sound h
theorem leadsT {p : Program} {w : World} {n₀ : Nat} {ann : Option Value} {n : Nat} {s s' : SharedT} {t t' : Thread} (h : goT p w n₀ ann n s t = some (s', t')) : Leads p w n₀ ann s.abs t s'.abs t' := ⟨n, goT_sound h⟩

noncomputable def mk (T : BT) (n : Nat) (g : Array GenState) (k : Nat) (os : OsState) : SharedT := ⟨T, n, {}, g, {}, k, os⟩
noncomputable def env0 : Env := { scope := pw.main.scope, locals := mainNs, globals := mainNs, cells := [], code := .ref 30, frame := some 31 }
noncomputable def codeB : Code := .body (behindTheImports pw) env0
noncomputable def blk (i n : Nat) : List Stmt := ((behindTheImports pw).drop i).take n
noncomputable def q0 : Pos := ⟨0, 0, 0, 0⟩
noncomputable def th (i n : Nat) (K : Flow → Sem PySem.Fin) (H : Value → Sem PySem.Fin) (pos : Pos) : Thread := ⟨(execs (blk i n) env0).wrap K H id id, codeB, pos, [topFrame q0]⟩
abbrev annV : Option Value := some (.ref 6)
abbrev Ld (w : World) := Leads pw w 28 annV

theorem ran0_4 (w : World) (os : OsState) (K : Flow → Sem PySem.Fin) (H : Value → Sem PySem.Fin) :
    goT pw w 28 annV 325 (mk (treeSb w.params) 32 #[] 282 os) (th 0 4 K H q0) = some (mk (treeS4 w.params) 68 #[] 333 os, ⟨K .next, codeB, ⟨12, 0, 12, 13⟩, [topFrame q0]⟩) := by kernel_rfl
end
section
open PySem PySem.W PySem.Calls PyProof.Rows
set_option maxRecDepth 100000
noncomputable def impR (w : World) (os : OsState) (k : Nat) : Option (SharedT × Thread) :=
  PySem.W.Fast.tw14789777615569096658 PySem.W.Fast.tw14364793385576792824 (opening pw) w k (mk .nil 0 #[] 1 os) (start (opening pw)).2
noncomputable def impT (r : Option (SharedT × Thread)) : Thread := match r with | some (_, t) => t | none => (start (opening pw)).2
theorem imp1 (w : World) (os : OsState) : impR w os 798 = some (mk (treeSE w.params) 28 #[] 276 os, impT (impR w os 798)) := by kernel_rfl
theorem imp2 (w : World) (os : OsState) : (impT (impR w os 798)).atExitBegin = some [] := by kernel_rfl
theorem imp3 (w : World) (os : OsState) : (fenceModules? pw (mk (treeSE w.params) 28 #[] 276 os).abs).map (fun s => (s.heap, s.gens, s.drawn, s.toks, s.os)) = some (absHeap (treeS0 w.params) 28 {}, #[], {}, 276, os) := by
  rw [PySem.W.Fast.te14289696077712309145]
  kernel_rfl
theorem start_eq : (start (opening pw)).1 = (mk .nil 0 #[] 1 (start (opening pw)).1.os).abs := by kernel_rfl
theorem open0 (w : World) (N : Nat) (hN : 799 ≤ N) : fencedOpening treeTable pw w N = some (mk (treeS0 w.params) 28 #[] 276 (start (opening pw)).1.os).abs := by
  have e1 := imp1 w (start (opening pw)).1.os
  have e2 := imp2 w (start (opening pw)).1.os
  generalize impT (impR w (start (opening pw)).1.os 798) = tE at e1 e2
  unfold impR at e1
  rw [← PySem.W.Fast.te14789777615569096658, ← PySem.W.Fast.te14364793385576792824] at e1
  have e3 := impGo_of e1
  rw [← start_eq] at e3
  have hs1 : importEnds treeTable (opening pw) w 1 (mk (treeSE w.params) 28 #[] 276 (start (opening pw)).1.os).abs tE = some (mk (treeSE w.params) 28 #[] 276 (start (opening pw)).1.os).abs := by
    unfold importEnds; rw [e2]
  have e5 := imp_go e3 hs1
  have e6 := importEnds_mono (N - 799) _ _ _ _ e5
  unfold fencedOpening
  rw [show 798 + 1 + (N - 799) = N by omega] at e6
  rw [e6, Option.bind_some]
  obtain ⟨s, hs, e4⟩ := Option.map_eq_some_iff.mp (imp3 w (start (opening pw)).1.os)
  rw [hs]
  obtain ⟨h, g, d, k, o⟩ := s
  simp only [Prod.mk.injEq] at e4
  obtain ⟨rfl, rfl, rfl, rfl, rfl⟩ := e4
  rfl
theorem pre0 (w : World) (os : OsState) : topGo treeTable pw w 28 annV 12 (mk (treeS0 w.params) 28 #[] 276 os).abs (topStub pw) = some ((mk (treeSb w.params) 32 #[] 282 os).abs, ⟨denote treeTable codeB, codeB, q0, [topFrame q0]⟩) := by kernel_rfl
end
section
open PySem PySem.W PySem.Calls PyProof.Rows
set_option maxRecDepth 100000
theorem mk_get {T : BT} {n : Nat} {g : Array GenState} {k : Nat} {os : OsState} {a : Nat} {o : Obj} (h1 : Nat.blt a n = true) (h2 : T.get a = some o) (h3 : alive o = some o) : (mk T n g k os).abs.heap.get? a = some o :=
  (abs_get (Nat.le_of_ble_eq_true h1) h2).trans h3
theorem mk_upd2 {T : BT} {n : Nat} {g : Array GenState} {k k' : Nat} {os : OsState} {a b : Nat} {o o' x y : Obj} (hne : b ≠ a) (h1 : T.get a = some o) (h2 : T.get b = some o') :
    ({ (mk T n g k os).abs with heap := ((mk T n g k os).abs.heap.update a fun _ => x).update b fun _ => y, toks := k' } : Shared) = (mk ((T.set a fun _ => x).set b fun _ => y) n g k' os).abs := by
  show (⟨((absHeap T n {}).update a fun _ => x).update b fun _ => y, g, {}, k', os⟩ : Shared) = ⟨absHeap ((T.set a fun _ => x).set b fun _ => y) n {}, g, {}, k', os⟩
  rw [absHeap_set (o := o') (by rw [BT.get_set, if_neg hne]; exact h2), absHeap_set h1]
theorem mk_push {T : BT} {n : Nat} {g : Array GenState} {k : Nat} {os : OsState} {x : Obj} (h : ((T.ins n x).get n).isSome = true) :
    ({ (mk T n g k os).abs with heap := (mk T n g k os).abs.heap.push x } : Shared) = (mk (T.ins n x) (n + 1) g k os).abs := by
  show (⟨(absHeap T n {}).push x, g, {}, k, os⟩ : Shared) = ⟨absHeap (T.ins n x) (n + 1) {}, g, {}, k, os⟩
  rw [absHeap_ins h]
theorem mk_size {T : BT} {n : Nat} {g : Array GenState} {k : Nat} {os : OsState} : (mk T n g k os).abs.heap.objs.size = n := absHeap_size _ _ _

noncomputable def stk (r : Option (SharedT × Thread)) : List Frame := match r with | some (_, t) => t.stack | none => []
noncomputable def fr1 (r : Option (SharedT × Thread)) : Frame := match stk r with | f :: _ => f | [] => topFrame q0
noncomputable def fr2 (r : Option (SharedT × Thread)) : List Frame := match stk r with | _ :: l => l | [] => []

theorem loop_T {w : World} {T : BT} {n : Nat} {g : Array GenState} {k : Nat} {os : OsState} {s it : Addr} {x : Str} {tk : Tok} {led : Bool} {cs : List Nat} {m : Nat} (hx : x.cps.toList = cs) (hN : cs.Nodup) (hl : cs.length = m) (hm : m < 4096) (hs : Nat.ble 28 s = true) (hi : Nat.ble 28 it = true) (hne : s ≠ it)
    (b1 : Nat.blt it n = true) (b2 : Nat.blt s n = true) (g1 : T.get it = some (iterObj x tk 0)) (g2 : T.get s = some (SD.obj ⟨#[], 0, emptyT 7 0 led⟩)) (F : Frame) (B : List Frame) (pos : Pos) :
    ∃ (d : SD) (pos' : Pos), Holds (cs.map ch) d.es d.t ∧ Ld w (mk T n g k os).abs ⟨twDen (loopC s it), loopC s it, pos, F :: B⟩ (mk ((T.set it fun _ => iterObj x tk m).set s fun _ => d.obj) n g (k + 2 * m) os).abs ⟨twDen (loopC s it), loopC s it, pos', F :: B⟩ := by
  have hsz : x.cps.size = m := by rw [← Array.length_toList, hx, hl]
  obtain ⟨es', ep', t', pos', hh, lead⟩ := loop_str (p := pw) (w := w) (n₀ := 28) (ann := annV) (s := s) (it := it) (x := x) (tk := tk) hs hi hne F B m 0 [] #[] 0 (emptyT 7 0 led) (mk T n g k os).abs pos (by omega)
    (mk_get b1 g1 rfl) (mk_get b2 g2 rfl) (holds_nil 7 0 led) (fun _ _ h => by cases h) (by rw [List.drop_zero, hx]; exact hN) (by simpa using hm)
  refine ⟨⟨es', ep', t'⟩, pos', by rw [List.drop_zero, hx, List.nil_append] at hh; exact hh, ?_⟩
  rw [hsz] at lead
  rw [← twDen_eq]
  have e := mk_upd2 (T := T) (n := n) (g := g) (k := k) (k' := k + 2 * m) (os := os) (a := it) (b := s) (x := iterObj x tk m) (y := SD.obj ⟨es', ep', t'⟩) hne g1 g2
  rw [← e]
  exact lead
end
section
open PySem PySem.W PySem.Calls PyProof.Rows
set_option maxRecDepth 100000
noncomputable def ra8 (w : World) (os : OsState) (K : Flow → Sem PySem.Fin) (H : Value → Sem PySem.Fin) (d75 d80 d84 d85 d89 d90 d94 : SD) := goT pw w 28 annV 19 (mk (treeS8 w.params d75 d80 d84 d85 d89 d90 d94) 95 #[.finished] 488 os) (th 8 1 K H ⟨16, 0, 16, 25⟩)
theorem a8 (w : World) : ∀ (os : OsState) (K : Flow → Sem PySem.Fin) (H : Value → Sem PySem.Fin) (d75 d80 d84 d85 d89 d90 d94 : SD), ra8 w os K H d75 d80 d84 d85 d89 d90 d94 = some (mk (treeA8 w.params d75 d80 d84 d85 d89 d90 d94 (⟨#[], 0, emptyT 7 0 (!w.params.followText "set-order")⟩ : SD)) 97 #[.finished] 489 os, ⟨twDen (loopC 95 96), loopC 95 96, ⟨17, 10, 17, 26⟩, fr1 (ra8 w os K H d75 d80 d84 d85 d89 d90 d94) :: fr2 (ra8 w os K H d75 d80 d84 d85 d89 d90 d94)⟩) :=
  byRow2 "special-get-raises" (P := fun w => ∀ (os : OsState) (K : Flow → Sem PySem.Fin) (H : Value → Sem PySem.Fin) (d75 d80 d84 d85 d89 d90 d94 : SD), ra8 w os K H d75 d80 d84 d85 d89 d90 d94 = some (mk (treeA8 w.params d75 d80 d84 d85 d89 d90 d94 (⟨#[], 0, emptyT 7 0 (!w.params.followText "set-order")⟩ : SD)) 97 #[.finished] 489 os, ⟨twDen (loopC 95 96), loopC 95 96, ⟨17, 10, 17, 26⟩, fr1 (ra8 w os K H d75 d80 d84 d85 d89 d90 d94) :: fr2 (ra8 w os K H d75 d80 d84 d85 d89 d90 d94)⟩)) (fun w => by intros; kernel_rfl) (fun w => by intros; kernel_rfl) w

theorem b8 (w : World) : ∀ (os : OsState) (K : Flow → Sem PySem.Fin) (H : Value → Sem PySem.Fin) (d75 d80 d84 d85 d89 d90 d94 : SD) (d95 : SD) (pos : Pos), goT pw w 28 annV 33 (mk (((treeA8 w.params d75 d80 d84 d85 d89 d90 d94 (⟨#[], 0, emptyT 7 0 (!w.params.followText "set-order")⟩ : SD)).set 96 fun _ => iterObj (Str.ofString " \t") 488 2).set 95 fun _ => d95.obj) 97 #[.finished] 493 os) ⟨twDen (loopC 95 96), loopC 95 96, pos, fr1 (ra8 w os K H d75 d80 d84 d85 d89 d90 d94) :: fr2 (ra8 w os K H d75 d80 d84 d85 d89 d90 d94)⟩ =
      some (mk (treeS9 w.params d75 d80 d84 d85 d89 d90 d94 d95) 99 #[.finished] 494 os, ⟨K .next, codeB, ⟨17, 0, 17, 7⟩, [topFrame q0]⟩) :=
  byRow2 "special-get-raises" (P := fun w => ∀ (os : OsState) (K : Flow → Sem PySem.Fin) (H : Value → Sem PySem.Fin) (d75 d80 d84 d85 d89 d90 d94 : SD) (d95 : SD) (pos : Pos), goT pw w 28 annV 33 (mk (((treeA8 w.params d75 d80 d84 d85 d89 d90 d94 (⟨#[], 0, emptyT 7 0 (!w.params.followText "set-order")⟩ : SD)).set 96 fun _ => iterObj (Str.ofString " \t") 488 2).set 95 fun _ => d95.obj) 97 #[.finished] 493 os) ⟨twDen (loopC 95 96), loopC 95 96, pos, fr1 (ra8 w os K H d75 d80 d84 d85 d89 d90 d94) :: fr2 (ra8 w os K H d75 d80 d84 d85 d89 d90 d94)⟩ =
      some (mk (treeS9 w.params d75 d80 d84 d85 d89 d90 d94 d95) 99 #[.finished] 494 os, ⟨K .next, codeB, ⟨17, 0, 17, 7⟩, [topFrame q0]⟩)) (fun w => by intros; kernel_rfl) (fun w => by intros; kernel_rfl) w
theorem s8 (w : World) (os : OsState) (K : Flow → Sem PySem.Fin) (H : Value → Sem PySem.Fin) (d75 d80 d84 d85 d89 d90 d94 : SD) :
    ∃ d95 : SD, Holds ([32, 9].map ch) d95.es d95.t ∧ Ld w (mk (treeS8 w.params d75 d80 d84 d85 d89 d90 d94) 95 #[.finished] 488 os).abs (th 8 1 K H ⟨16, 0, 16, 25⟩) (mk (treeS9 w.params d75 d80 d84 d85 d89 d90 d94 d95) 99 #[.finished] 494 os).abs ⟨K .next, codeB, ⟨17, 0, 17, 7⟩, [topFrame q0]⟩ := by
  obtain ⟨d, pos', hh, l2⟩ := loop_T (w := w) (T := treeA8 w.params d75 d80 d84 d85 d89 d90 d94 (⟨#[], 0, emptyT 7 0 (!w.params.followText "set-order")⟩ : SD)) (n := 97) (g := #[.finished]) (k := 489) (os := os) (s := 95) (it := 96) (x := (Str.ofString " \t")) (tk := 488) (led := !w.params.followText "set-order") (cs := [32, 9]) (m := 2)
    (by decide +kernel) (by decide +kernel) rfl (by decide) rfl rfl (by decide) rfl rfl (by kernel_rfl) (by kernel_rfl) (fr1 (ra8 w os K H d75 d80 d84 d85 d89 d90 d94)) (fr2 (ra8 w os K H d75 d80 d84 d85 d89 d90 d94)) ⟨17, 10, 17, 26⟩
  exact ⟨d, hh, (leadsT (a8 w os K H d75 d80 d84 d85 d89 d90 d94)).trans (l2.trans (leadsT (b8 w os K H d75 d80 d84 d85 d89 d90 d94 d pos')))⟩

noncomputable def ra15 (w : World) (os : OsState) (K : Flow → Sem PySem.Fin) (H : Value → Sem PySem.Fin) (d75 d80 d84 d85 d89 d90 d94 d95 d99 d103 : SD) := goT pw w 28 annV 35 (mk (treeS15 w.params d75 d80 d84 d85 d89 d90 d94 d95 d99 d103) 104 #[.finished] 511 os) (th 15 1 K H ⟨23, 0, 23, 9⟩)
theorem a15 (w : World) : ∀ (os : OsState) (K : Flow → Sem PySem.Fin) (H : Value → Sem PySem.Fin) (d75 d80 d84 d85 d89 d90 d94 d95 d99 d103 : SD), ra15 w os K H d75 d80 d84 d85 d89 d90 d94 d95 d99 d103 = some (mk (treeA15 w.params d75 d80 d84 d85 d89 d90 d94 d95 d99 d103 (⟨#[], 0, emptyT 7 0 (!w.params.followText "set-order")⟩ : SD)) 106 #[.finished] 514 os, ⟨twDen (loopC 104 105), loopC 104 105, ⟨24, 17, 24, 57⟩, fr1 (ra15 w os K H d75 d80 d84 d85 d89 d90 d94 d95 d99 d103) :: fr2 (ra15 w os K H d75 d80 d84 d85 d89 d90 d94 d95 d99 d103)⟩) :=
  byRow2 "special-get-raises" (P := fun w => ∀ (os : OsState) (K : Flow → Sem PySem.Fin) (H : Value → Sem PySem.Fin) (d75 d80 d84 d85 d89 d90 d94 d95 d99 d103 : SD), ra15 w os K H d75 d80 d84 d85 d89 d90 d94 d95 d99 d103 = some (mk (treeA15 w.params d75 d80 d84 d85 d89 d90 d94 d95 d99 d103 (⟨#[], 0, emptyT 7 0 (!w.params.followText "set-order")⟩ : SD)) 106 #[.finished] 514 os, ⟨twDen (loopC 104 105), loopC 104 105, ⟨24, 17, 24, 57⟩, fr1 (ra15 w os K H d75 d80 d84 d85 d89 d90 d94 d95 d99 d103) :: fr2 (ra15 w os K H d75 d80 d84 d85 d89 d90 d94 d95 d99 d103)⟩)) (fun w => by intros; kernel_rfl) (fun w => by intros; kernel_rfl) w

theorem b15 (w : World) : ∀ (os : OsState) (K : Flow → Sem PySem.Fin) (H : Value → Sem PySem.Fin) (d75 d80 d84 d85 d89 d90 d94 d95 d99 d103 : SD) (d104 : SD) (pos : Pos), goT pw w 28 annV 33 (mk (((treeA15 w.params d75 d80 d84 d85 d89 d90 d94 d95 d99 d103 (⟨#[], 0, emptyT 7 0 (!w.params.followText "set-order")⟩ : SD)).set 105 fun _ => iterObj (Str.ofString "abcdefghijklmnopqrstuvwxyzABCDEFGHIJKLMNOPQRSTUVWXYZ0123456789-_") 513 64).set 104 fun _ => d104.obj) 106 #[.finished] 642 os) ⟨twDen (loopC 104 105), loopC 104 105, pos, fr1 (ra15 w os K H d75 d80 d84 d85 d89 d90 d94 d95 d99 d103) :: fr2 (ra15 w os K H d75 d80 d84 d85 d89 d90 d94 d95 d99 d103)⟩ =
      some (mk (treeS16 w.params d75 d80 d84 d85 d89 d90 d94 d95 d99 d103 d104) 108 #[.finished] 643 os, ⟨K .next, codeB, ⟨24, 0, 24, 14⟩, [topFrame q0]⟩) :=
  byRow2 "special-get-raises" (P := fun w => ∀ (os : OsState) (K : Flow → Sem PySem.Fin) (H : Value → Sem PySem.Fin) (d75 d80 d84 d85 d89 d90 d94 d95 d99 d103 : SD) (d104 : SD) (pos : Pos), goT pw w 28 annV 33 (mk (((treeA15 w.params d75 d80 d84 d85 d89 d90 d94 d95 d99 d103 (⟨#[], 0, emptyT 7 0 (!w.params.followText "set-order")⟩ : SD)).set 105 fun _ => iterObj (Str.ofString "abcdefghijklmnopqrstuvwxyzABCDEFGHIJKLMNOPQRSTUVWXYZ0123456789-_") 513 64).set 104 fun _ => d104.obj) 106 #[.finished] 642 os) ⟨twDen (loopC 104 105), loopC 104 105, pos, fr1 (ra15 w os K H d75 d80 d84 d85 d89 d90 d94 d95 d99 d103) :: fr2 (ra15 w os K H d75 d80 d84 d85 d89 d90 d94 d95 d99 d103)⟩ =
      some (mk (treeS16 w.params d75 d80 d84 d85 d89 d90 d94 d95 d99 d103 d104) 108 #[.finished] 643 os, ⟨K .next, codeB, ⟨24, 0, 24, 14⟩, [topFrame q0]⟩)) (fun w => by intros; kernel_rfl) (fun w => by intros; kernel_rfl) w
theorem s15 (w : World) (os : OsState) (K : Flow → Sem PySem.Fin) (H : Value → Sem PySem.Fin) (d75 d80 d84 d85 d89 d90 d94 d95 d99 d103 : SD) :
    ∃ d104 : SD, Holds ([97, 98, 99, 100, 101, 102, 103, 104, 105, 106, 107, 108, 109, 110, 111, 112, 113, 114, 115, 116, 117, 118, 119, 120, 121, 122, 65, 66, 67, 68, 69, 70, 71, 72, 73, 74, 75, 76, 77, 78, 79, 80, 81, 82, 83, 84, 85, 86, 87, 88, 89, 90, 48, 49, 50, 51, 52, 53, 54, 55, 56, 57, 45, 95].map ch) d104.es d104.t ∧ Ld w (mk (treeS15 w.params d75 d80 d84 d85 d89 d90 d94 d95 d99 d103) 104 #[.finished] 511 os).abs (th 15 1 K H ⟨23, 0, 23, 9⟩) (mk (treeS16 w.params d75 d80 d84 d85 d89 d90 d94 d95 d99 d103 d104) 108 #[.finished] 643 os).abs ⟨K .next, codeB, ⟨24, 0, 24, 14⟩, [topFrame q0]⟩ := by
  obtain ⟨d, pos', hh, l2⟩ := loop_T (w := w) (T := treeA15 w.params d75 d80 d84 d85 d89 d90 d94 d95 d99 d103 (⟨#[], 0, emptyT 7 0 (!w.params.followText "set-order")⟩ : SD)) (n := 106) (g := #[.finished]) (k := 514) (os := os) (s := 104) (it := 105) (x := (Str.ofString "abcdefghijklmnopqrstuvwxyzABCDEFGHIJKLMNOPQRSTUVWXYZ0123456789-_")) (tk := 513) (led := !w.params.followText "set-order") (cs := [97, 98, 99, 100, 101, 102, 103, 104, 105, 106, 107, 108, 109, 110, 111, 112, 113, 114, 115, 116, 117, 118, 119, 120, 121, 122, 65, 66, 67, 68, 69, 70, 71, 72, 73, 74, 75, 76, 77, 78, 79, 80, 81, 82, 83, 84, 85, 86, 87, 88, 89, 90, 48, 49, 50, 51, 52, 53, 54, 55, 56, 57, 45, 95]) (m := 64)
    (by decide +kernel) (by decide +kernel) rfl (by decide) rfl rfl (by decide) rfl rfl (by kernel_rfl) (by kernel_rfl) (fr1 (ra15 w os K H d75 d80 d84 d85 d89 d90 d94 d95 d99 d103)) (fr2 (ra15 w os K H d75 d80 d84 d85 d89 d90 d94 d95 d99 d103)) ⟨24, 17, 24, 57⟩
  exact ⟨d, hh, (leadsT (a15 w os K H d75 d80 d84 d85 d89 d90 d94 d95 d99 d103)).trans (l2.trans (leadsT (b15 w os K H d75 d80 d84 d85 d89 d90 d94 d95 d99 d103 d pos')))⟩

noncomputable def ra16 (w : World) (os : OsState) (K : Flow → Sem PySem.Fin) (H : Value → Sem PySem.Fin) (d75 d80 d84 d85 d89 d90 d94 d95 d99 d103 d104 : SD) := goT pw w 28 annV 20 (mk (treeS16 w.params d75 d80 d84 d85 d89 d90 d94 d95 d99 d103 d104) 108 #[.finished] 643 os) (th 16 1 K H ⟨24, 0, 24, 14⟩)
theorem a16 (w : World) : ∀ (os : OsState) (K : Flow → Sem PySem.Fin) (H : Value → Sem PySem.Fin) (d75 d80 d84 d85 d89 d90 d94 d95 d99 d103 d104 : SD), ra16 w os K H d75 d80 d84 d85 d89 d90 d94 d95 d99 d103 d104 = some (mk (treeA16 w.params d75 d80 d84 d85 d89 d90 d94 d95 d99 d103 d104 (⟨#[], 0, emptyT 7 0 (!w.params.followText "set-order")⟩ : SD)) 110 #[.finished] 643 os, ⟨twDen (loopC 108 109), loopC 108 109, ⟨25, 17, 25, 37⟩, fr1 (ra16 w os K H d75 d80 d84 d85 d89 d90 d94 d95 d99 d103 d104) :: fr2 (ra16 w os K H d75 d80 d84 d85 d89 d90 d94 d95 d99 d103 d104)⟩) :=
  byRow2 "special-get-raises" (P := fun w => ∀ (os : OsState) (K : Flow → Sem PySem.Fin) (H : Value → Sem PySem.Fin) (d75 d80 d84 d85 d89 d90 d94 d95 d99 d103 d104 : SD), ra16 w os K H d75 d80 d84 d85 d89 d90 d94 d95 d99 d103 d104 = some (mk (treeA16 w.params d75 d80 d84 d85 d89 d90 d94 d95 d99 d103 d104 (⟨#[], 0, emptyT 7 0 (!w.params.followText "set-order")⟩ : SD)) 110 #[.finished] 643 os, ⟨twDen (loopC 108 109), loopC 108 109, ⟨25, 17, 25, 37⟩, fr1 (ra16 w os K H d75 d80 d84 d85 d89 d90 d94 d95 d99 d103 d104) :: fr2 (ra16 w os K H d75 d80 d84 d85 d89 d90 d94 d95 d99 d103 d104)⟩)) (fun w => by intros; kernel_rfl) (fun w => by intros; kernel_rfl) w

theorem b16 (w : World) : ∀ (os : OsState) (K : Flow → Sem PySem.Fin) (H : Value → Sem PySem.Fin) (d75 d80 d84 d85 d89 d90 d94 d95 d99 d103 d104 : SD) (d108 : SD) (pos : Pos), goT pw w 28 annV 33 (mk (((treeA16 w.params d75 d80 d84 d85 d89 d90 d94 d95 d99 d103 d104 (⟨#[], 0, emptyT 7 0 (!w.params.followText "set-order")⟩ : SD)).set 109 fun _ => iterObj (Str.ofString "0123456789abcdefABCDEF") 509 22).set 108 fun _ => d108.obj) 110 #[.finished] 687 os) ⟨twDen (loopC 108 109), loopC 108 109, pos, fr1 (ra16 w os K H d75 d80 d84 d85 d89 d90 d94 d95 d99 d103 d104) :: fr2 (ra16 w os K H d75 d80 d84 d85 d89 d90 d94 d95 d99 d103 d104)⟩ =
      some (mk (treeS17 w.params d75 d80 d84 d85 d89 d90 d94 d95 d99 d103 d104 d108) 112 #[.finished] 688 os, ⟨K .next, codeB, ⟨25, 0, 25, 14⟩, [topFrame q0]⟩) :=
  byRow2 "special-get-raises" (P := fun w => ∀ (os : OsState) (K : Flow → Sem PySem.Fin) (H : Value → Sem PySem.Fin) (d75 d80 d84 d85 d89 d90 d94 d95 d99 d103 d104 : SD) (d108 : SD) (pos : Pos), goT pw w 28 annV 33 (mk (((treeA16 w.params d75 d80 d84 d85 d89 d90 d94 d95 d99 d103 d104 (⟨#[], 0, emptyT 7 0 (!w.params.followText "set-order")⟩ : SD)).set 109 fun _ => iterObj (Str.ofString "0123456789abcdefABCDEF") 509 22).set 108 fun _ => d108.obj) 110 #[.finished] 687 os) ⟨twDen (loopC 108 109), loopC 108 109, pos, fr1 (ra16 w os K H d75 d80 d84 d85 d89 d90 d94 d95 d99 d103 d104) :: fr2 (ra16 w os K H d75 d80 d84 d85 d89 d90 d94 d95 d99 d103 d104)⟩ =
      some (mk (treeS17 w.params d75 d80 d84 d85 d89 d90 d94 d95 d99 d103 d104 d108) 112 #[.finished] 688 os, ⟨K .next, codeB, ⟨25, 0, 25, 14⟩, [topFrame q0]⟩)) (fun w => by intros; kernel_rfl) (fun w => by intros; kernel_rfl) w
theorem s16 (w : World) (os : OsState) (K : Flow → Sem PySem.Fin) (H : Value → Sem PySem.Fin) (d75 d80 d84 d85 d89 d90 d94 d95 d99 d103 d104 : SD) :
    ∃ d108 : SD, Holds ([48, 49, 50, 51, 52, 53, 54, 55, 56, 57, 97, 98, 99, 100, 101, 102, 65, 66, 67, 68, 69, 70].map ch) d108.es d108.t ∧ Ld w (mk (treeS16 w.params d75 d80 d84 d85 d89 d90 d94 d95 d99 d103 d104) 108 #[.finished] 643 os).abs (th 16 1 K H ⟨24, 0, 24, 14⟩) (mk (treeS17 w.params d75 d80 d84 d85 d89 d90 d94 d95 d99 d103 d104 d108) 112 #[.finished] 688 os).abs ⟨K .next, codeB, ⟨25, 0, 25, 14⟩, [topFrame q0]⟩ := by
  obtain ⟨d, pos', hh, l2⟩ := loop_T (w := w) (T := treeA16 w.params d75 d80 d84 d85 d89 d90 d94 d95 d99 d103 d104 (⟨#[], 0, emptyT 7 0 (!w.params.followText "set-order")⟩ : SD)) (n := 110) (g := #[.finished]) (k := 643) (os := os) (s := 108) (it := 109) (x := (Str.ofString "0123456789abcdefABCDEF")) (tk := 509) (led := !w.params.followText "set-order") (cs := [48, 49, 50, 51, 52, 53, 54, 55, 56, 57, 97, 98, 99, 100, 101, 102, 65, 66, 67, 68, 69, 70]) (m := 22)
    (by decide +kernel) (by decide +kernel) rfl (by decide) rfl rfl (by decide) rfl rfl (by kernel_rfl) (by kernel_rfl) (fr1 (ra16 w os K H d75 d80 d84 d85 d89 d90 d94 d95 d99 d103 d104)) (fr2 (ra16 w os K H d75 d80 d84 d85 d89 d90 d94 d95 d99 d103 d104)) ⟨25, 17, 25, 37⟩
  exact ⟨d, hh, (leadsT (a16 w os K H d75 d80 d84 d85 d89 d90 d94 d95 d99 d103 d104)).trans (l2.trans (leadsT (b16 w os K H d75 d80 d84 d85 d89 d90 d94 d95 d99 d103 d104 d pos')))⟩
end
section
open PySem PySem.W PySem.Calls PyProof.Rows
set_option maxRecDepth 100000
noncomputable def orC (l r : Addr) : Code := .builtin "frozenset.__or__" ⟨[.ref l, .ref r], []⟩
noncomputable def subC (l r : Addr) : Code := .builtin "frozenset.__sub__" ⟨[.ref l, .ref r], []⟩
theorem or_T {w : World} {T : BT} {n : Nat} {g : Array GenState} {k : Nat} {os : OsState} {l r : Addr} {L : List Str} {x : Str} {dl dr : SD} (hn : Nat.ble 28 n = true) (hne : l ≠ r) (b1 : Nat.blt l n = true) (b2 : Nat.blt r n = true) (g1 : T.get l = some dl.obj) (g2 : T.get r = some dr.obj)
    (hi : ∀ d : SD, ((T.ins n d.obj).get n).isSome = true) (hh : Holds L dl.es dl.t) (hx : Holds [x] dr.es dr.t) (hxL : x ∉ L) (hl : L.length = 2 ∨ L.length = 32) (F : Frame) (B : List Frame) (pos : Pos) :
    ∃ (d : SD) (pos' : Pos), Holds (L ++ [x]) d.es d.t ∧ Ld w (mk T n g k os).abs ⟨twDen (orC l r), orC l r, pos, F :: B⟩ (mk (T.ins n d.obj) (n + 1) g k os).abs ⟨.pure (.done (.ret (.ref n))), orC l r, pos', F :: B⟩ := by
  obtain ⟨es', ep', t', pos', h, lead⟩ := calls_or (p := pw) (w := w) (n₀ := 28) (ann := annV) (S := (mk T n g k os).abs) (l := l) (r := r) (L := L) (x := x) (es := dl.es) (eo := dr.es) (ep := dr.ep) (eps := dl.ep) (t := dl.t) (to := dr.t)
    (by rw [mk_size]; exact hn) hne (mk_get b1 g1 rfl) (mk_get b2 g2 rfl) hh hx hxL hl F B pos
  rw [mk_size] at lead
  refine ⟨⟨es', ep', t'⟩, pos', h, ?_⟩
  rw [← twDen_eq, ← mk_push (hi ⟨es', ep', t'⟩)]
  exact lead
theorem sub_T {w : World} {T : BT} {n : Nat} {g : Array GenState} {k : Nat} {os : OsState} {l r : Addr} {L M : List Str} {dl dr : SD} (hn : Nat.ble 28 n = true) (hne : l ≠ r) (b1 : Nat.blt l n = true) (b2 : Nat.blt r n = true) (g1 : T.get l = some dl.obj) (g2 : T.get r = some dr.obj)
    (hi : ∀ d : SD, ((T.ins n d.obj).get n).isSome = true) (hh : Holds L dl.es dl.t) (hx : Holds M dr.es dr.t) (hl : L.length = 33) (hm : M.length = 1 ∨ M.length = 2) (hLN : L.Nodup) (hMN : M.Nodup) (hML : ∀ x ∈ M, x ∈ L) (F : Frame) (B : List Frame) (pos : Pos) :
    ∃ (R : List Str) (d : SD) (pos' : Pos), R.Perm M ∧ Holds (R.foldl List.erase L) d.es d.t ∧ Ld w (mk T n g k os).abs ⟨twDen (subC l r), subC l r, pos, F :: B⟩ (mk (T.ins n d.obj) (n + 1) g k os).abs ⟨.pure (.done (.ret (.ref n))), subC l r, pos', F :: B⟩ := by
  obtain ⟨R, es', ep', t', pos', hR, h, lead⟩ := calls_sub (p := pw) (w := w) (n₀ := 28) (ann := annV) (S := (mk T n g k os).abs) (l := l) (r := r) (L := L) (M := M) (es := dl.es) (eo := dr.es) (ep := dr.ep) (eps := dl.ep) (t := dl.t) (to := dr.t)
    (by rw [mk_size]; exact hn) hne (mk_get b1 g1 rfl) (mk_get b2 g2 rfl) hh hx hl hm hLN hMN hML F B pos
  rw [mk_size] at lead
  refine ⟨R, ⟨es', ep', t'⟩, pos', hR, h, ?_⟩
  rw [← twDen_eq, ← mk_push (hi ⟨es', ep', t'⟩)]
  exact lead
end
section
open PySem PySem.W PySem.Calls PyProof.Rows
set_option maxRecDepth 100000
noncomputable def ctl0 : List Nat := List.range 32
noncomputable def ctlL : List Str := ctl0.map ch ++ [127].map ch

noncomputable def ra5 (w : World) (os : OsState) (K : Flow → Sem PySem.Fin) (H : Value → Sem PySem.Fin) (d75 d80 d84 : SD) := goT pw w 28 annV 21 (mk (treeS5 w.params d75 d80 d84) 85 #[.finished] 477 os) (th 5 1 K H ⟨13, 0, 13, 10⟩)
theorem a5 (w : World) : ∀ (os : OsState) (K : Flow → Sem PySem.Fin) (H : Value → Sem PySem.Fin) (d75 d80 d84 : SD), ra5 w os K H d75 d80 d84 = some (mk (treeA5 w.params d75 d80 d84 (⟨#[], 0, emptyT 7 0 (!w.params.followText "set-order")⟩ : SD)) 87 #[.finished] 478 os, ⟨twDen (loopC 85 86), loopC 85 86, ⟨14, 39, 14, 54⟩, fr1 (ra5 w os K H d75 d80 d84) :: fr2 (ra5 w os K H d75 d80 d84)⟩) :=
  byRow2 "special-get-raises" (P := fun w => ∀ (os : OsState) (K : Flow → Sem PySem.Fin) (H : Value → Sem PySem.Fin) (d75 d80 d84 : SD), ra5 w os K H d75 d80 d84 = some (mk (treeA5 w.params d75 d80 d84 (⟨#[], 0, emptyT 7 0 (!w.params.followText "set-order")⟩ : SD)) 87 #[.finished] 478 os, ⟨twDen (loopC 85 86), loopC 85 86, ⟨14, 39, 14, 54⟩, fr1 (ra5 w os K H d75 d80 d84) :: fr2 (ra5 w os K H d75 d80 d84)⟩)) (fun w => by intros; kernel_rfl) (fun w => by intros; kernel_rfl) w

noncomputable def rb5 (w : World) (os : OsState) (K : Flow → Sem PySem.Fin) (H : Value → Sem PySem.Fin) (d75 d80 d84 : SD) (d85 : SD) : Option (SharedT × Thread) := goT pw w 28 annV 33 (mk (((treeA5 w.params d75 d80 d84 (⟨#[], 0, emptyT 7 0 (!w.params.followText "set-order")⟩ : SD)).set 86 fun _ => iterObj (Str.ofString "\t") 477 1).set 85 fun _ => d85.obj) 87 #[.finished] 480 os) ⟨twDen (loopC 85 86), loopC 85 86, ⟨14, 39, 14, 54⟩, fr1 (ra5 w os K H d75 d80 d84) :: fr2 (ra5 w os K H d75 d80 d84)⟩

theorem b5 (w : World) : ∀ (os : OsState) (K : Flow → Sem PySem.Fin) (H : Value → Sem PySem.Fin) (d75 d80 d84 : SD) (d85 : SD) (pos : Pos), goT pw w 28 annV 33 (mk (((treeA5 w.params d75 d80 d84 (⟨#[], 0, emptyT 7 0 (!w.params.followText "set-order")⟩ : SD)).set 86 fun _ => iterObj (Str.ofString "\t") 477 1).set 85 fun _ => d85.obj) 87 #[.finished] 480 os) ⟨twDen (loopC 85 86), loopC 85 86, pos, fr1 (ra5 w os K H d75 d80 d84) :: fr2 (ra5 w os K H d75 d80 d84)⟩ = some (mk (treeB5 w.params d75 d80 d84 d85) 89 #[.finished] 480 os, ⟨twDen (subC 84 85), subC 84 85, ⟨14, 26, 14, 54⟩, fr1 (rb5 w os K H d75 d80 d84 d85) :: fr2 (rb5 w os K H d75 d80 d84 d85)⟩) :=
  byRow2 "special-get-raises" (P := fun w => ∀ (os : OsState) (K : Flow → Sem PySem.Fin) (H : Value → Sem PySem.Fin) (d75 d80 d84 : SD) (d85 : SD) (pos : Pos), goT pw w 28 annV 33 (mk (((treeA5 w.params d75 d80 d84 (⟨#[], 0, emptyT 7 0 (!w.params.followText "set-order")⟩ : SD)).set 86 fun _ => iterObj (Str.ofString "\t") 477 1).set 85 fun _ => d85.obj) 87 #[.finished] 480 os) ⟨twDen (loopC 85 86), loopC 85 86, pos, fr1 (ra5 w os K H d75 d80 d84) :: fr2 (ra5 w os K H d75 d80 d84)⟩ = some (mk (treeB5 w.params d75 d80 d84 d85) 89 #[.finished] 480 os, ⟨twDen (subC 84 85), subC 84 85, ⟨14, 26, 14, 54⟩, fr1 (rb5 w os K H d75 d80 d84 d85) :: fr2 (rb5 w os K H d75 d80 d84 d85)⟩)) (fun w => by intros; kernel_rfl) (fun w => by intros; kernel_rfl) w

theorem c5 (w : World) : ∀ (os : OsState) (K : Flow → Sem PySem.Fin) (H : Value → Sem PySem.Fin) (d75 d80 d84 : SD) (d85 : SD) (d89 : SD) (pos : Pos), goT pw w 28 annV 9 (mk ((treeB5 w.params d75 d80 d84 d85).ins 89 d89.obj) 90 #[.finished] 480 os) ⟨.pure (.done (.ret (.ref 89))), subC 84 85, pos, fr1 (rb5 w os K H d75 d80 d84 d85) :: fr2 (rb5 w os K H d75 d80 d84 d85)⟩ = some (mk (treeS6 w.params d75 d80 d84 d85 d89) 90 #[.finished] 481 os, ⟨K .next, codeB, ⟨14, 0, 14, 23⟩, [topFrame q0]⟩) :=
  byRow2 "special-get-raises" (P := fun w => ∀ (os : OsState) (K : Flow → Sem PySem.Fin) (H : Value → Sem PySem.Fin) (d75 d80 d84 : SD) (d85 : SD) (d89 : SD) (pos : Pos), goT pw w 28 annV 9 (mk ((treeB5 w.params d75 d80 d84 d85).ins 89 d89.obj) 90 #[.finished] 480 os) ⟨.pure (.done (.ret (.ref 89))), subC 84 85, pos, fr1 (rb5 w os K H d75 d80 d84 d85) :: fr2 (rb5 w os K H d75 d80 d84 d85)⟩ = some (mk (treeS6 w.params d75 d80 d84 d85 d89) 90 #[.finished] 481 os, ⟨K .next, codeB, ⟨14, 0, 14, 23⟩, [topFrame q0]⟩)) (fun w => by intros; kernel_rfl) (fun w => by intros; kernel_rfl) w

theorem s5 (w : World) (os : OsState) (K : Flow → Sem PySem.Fin) (H : Value → Sem PySem.Fin) (d75 d80 d84 : SD) (h84 : Holds ctlL d84.es d84.t) :
    ∃ d85 d89 : SD, Holds (ctlL.erase (ch 9)) d89.es d89.t ∧ Ld w (mk (treeS5 w.params d75 d80 d84) 85 #[.finished] 477 os).abs (th 5 1 K H ⟨13, 0, 13, 10⟩) (mk (treeS6 w.params d75 d80 d84 d85 d89) 90 #[.finished] 481 os).abs ⟨K .next, codeB, ⟨14, 0, 14, 23⟩, [topFrame q0]⟩ := by
  obtain ⟨ds, pos1, hh, l2⟩ := loop_T (w := w) (T := treeA5 w.params d75 d80 d84 (⟨#[], 0, emptyT 7 0 (!w.params.followText "set-order")⟩ : SD)) (n := 87) (g := #[.finished]) (k := 478) (os := os) (s := 85) (it := 86) (x := (Str.ofString "\t")) (tk := 477) (led := !w.params.followText "set-order") (cs := [9]) (m := 1)
    (by decide +kernel) (by decide +kernel) rfl (by decide) rfl rfl (by decide) rfl rfl (by kernel_rfl) (by kernel_rfl) (fr1 (ra5 w os K H d75 d80 d84)) (fr2 (ra5 w os K H d75 d80 d84)) ⟨14, 39, 14, 54⟩
  have hi : ∀ d : SD, (((treeB5 w.params d75 d80 d84 ds).ins 89 d.obj).get 89).isSome = true := fun d => by kernel_rfl
  obtain ⟨R, dn, pos2, hR, hd, l3⟩ := sub_T (w := w) (T := treeB5 w.params d75 d80 d84 ds) (n := 89) (g := #[.finished]) (k := 480) (os := os) (l := 84) (r := 85) (L := ctlL) (M := [9].map ch) (dl := d84) (dr := ds) rfl (by decide) rfl rfl (by kernel_rfl) (by kernel_rfl) hi h84 hh (by decide +kernel) (.inl rfl) (by decide +kernel) (by decide +kernel) (by decide +kernel) (fr1 (rb5 w os K H d75 d80 d84 ds)) (fr2 (rb5 w os K H d75 d80 d84 ds)) ⟨14, 26, 14, 54⟩
  rw [show R = [ch 9] from hR.eq_singleton] at hd
  exact ⟨ds, dn, hd, (leadsT (a5 w os K H d75 d80 d84)).trans (l2.trans ((leadsT (b5 w os K H d75 d80 d84 ds pos1)).trans (l3.trans (leadsT (c5 w os K H d75 d80 d84 ds dn pos2)))))⟩

noncomputable def ra6 (w : World) (os : OsState) (K : Flow → Sem PySem.Fin) (H : Value → Sem PySem.Fin) (d75 d80 d84 d85 d89 : SD) := goT pw w 28 annV 21 (mk (treeS6 w.params d75 d80 d84 d85 d89) 90 #[.finished] 481 os) (th 6 1 K H ⟨14, 0, 14, 23⟩)
theorem a6 (w : World) : ∀ (os : OsState) (K : Flow → Sem PySem.Fin) (H : Value → Sem PySem.Fin) (d75 d80 d84 d85 d89 : SD), ra6 w os K H d75 d80 d84 d85 d89 = some (mk (treeA6 w.params d75 d80 d84 d85 d89 (⟨#[], 0, emptyT 7 0 (!w.params.followText "set-order")⟩ : SD)) 92 #[.finished] 482 os, ⟨twDen (loopC 90 91), loopC 90 91, ⟨15, 49, 15, 66⟩, fr1 (ra6 w os K H d75 d80 d84 d85 d89) :: fr2 (ra6 w os K H d75 d80 d84 d85 d89)⟩) :=
  byRow2 "special-get-raises" (P := fun w => ∀ (os : OsState) (K : Flow → Sem PySem.Fin) (H : Value → Sem PySem.Fin) (d75 d80 d84 d85 d89 : SD), ra6 w os K H d75 d80 d84 d85 d89 = some (mk (treeA6 w.params d75 d80 d84 d85 d89 (⟨#[], 0, emptyT 7 0 (!w.params.followText "set-order")⟩ : SD)) 92 #[.finished] 482 os, ⟨twDen (loopC 90 91), loopC 90 91, ⟨15, 49, 15, 66⟩, fr1 (ra6 w os K H d75 d80 d84 d85 d89) :: fr2 (ra6 w os K H d75 d80 d84 d85 d89)⟩)) (fun w => by intros; kernel_rfl) (fun w => by intros; kernel_rfl) w

noncomputable def rb6 (w : World) (os : OsState) (K : Flow → Sem PySem.Fin) (H : Value → Sem PySem.Fin) (d75 d80 d84 d85 d89 : SD) (d90 : SD) : Option (SharedT × Thread) := goT pw w 28 annV 33 (mk (((treeA6 w.params d75 d80 d84 d85 d89 (⟨#[], 0, emptyT 7 0 (!w.params.followText "set-order")⟩ : SD)).set 91 fun _ => iterObj (Str.ofString "\t\n") 481 2).set 90 fun _ => d90.obj) 92 #[.finished] 486 os) ⟨twDen (loopC 90 91), loopC 90 91, ⟨15, 49, 15, 66⟩, fr1 (ra6 w os K H d75 d80 d84 d85 d89) :: fr2 (ra6 w os K H d75 d80 d84 d85 d89)⟩

theorem b6 (w : World) : ∀ (os : OsState) (K : Flow → Sem PySem.Fin) (H : Value → Sem PySem.Fin) (d75 d80 d84 d85 d89 : SD) (d90 : SD) (pos : Pos), goT pw w 28 annV 33 (mk (((treeA6 w.params d75 d80 d84 d85 d89 (⟨#[], 0, emptyT 7 0 (!w.params.followText "set-order")⟩ : SD)).set 91 fun _ => iterObj (Str.ofString "\t\n") 481 2).set 90 fun _ => d90.obj) 92 #[.finished] 486 os) ⟨twDen (loopC 90 91), loopC 90 91, pos, fr1 (ra6 w os K H d75 d80 d84 d85 d89) :: fr2 (ra6 w os K H d75 d80 d84 d85 d89)⟩ = some (mk (treeB6 w.params d75 d80 d84 d85 d89 d90) 94 #[.finished] 486 os, ⟨twDen (subC 84 90), subC 84 90, ⟨15, 36, 15, 66⟩, fr1 (rb6 w os K H d75 d80 d84 d85 d89 d90) :: fr2 (rb6 w os K H d75 d80 d84 d85 d89 d90)⟩) :=
  byRow2 "special-get-raises" (P := fun w => ∀ (os : OsState) (K : Flow → Sem PySem.Fin) (H : Value → Sem PySem.Fin) (d75 d80 d84 d85 d89 : SD) (d90 : SD) (pos : Pos), goT pw w 28 annV 33 (mk (((treeA6 w.params d75 d80 d84 d85 d89 (⟨#[], 0, emptyT 7 0 (!w.params.followText "set-order")⟩ : SD)).set 91 fun _ => iterObj (Str.ofString "\t\n") 481 2).set 90 fun _ => d90.obj) 92 #[.finished] 486 os) ⟨twDen (loopC 90 91), loopC 90 91, pos, fr1 (ra6 w os K H d75 d80 d84 d85 d89) :: fr2 (ra6 w os K H d75 d80 d84 d85 d89)⟩ = some (mk (treeB6 w.params d75 d80 d84 d85 d89 d90) 94 #[.finished] 486 os, ⟨twDen (subC 84 90), subC 84 90, ⟨15, 36, 15, 66⟩, fr1 (rb6 w os K H d75 d80 d84 d85 d89 d90) :: fr2 (rb6 w os K H d75 d80 d84 d85 d89 d90)⟩)) (fun w => by intros; kernel_rfl) (fun w => by intros; kernel_rfl) w

theorem c6 (w : World) : ∀ (os : OsState) (K : Flow → Sem PySem.Fin) (H : Value → Sem PySem.Fin) (d75 d80 d84 d85 d89 : SD) (d90 : SD) (d94 : SD) (pos : Pos), goT pw w 28 annV 9 (mk ((treeB6 w.params d75 d80 d84 d85 d89 d90).ins 94 d94.obj) 95 #[.finished] 486 os) ⟨.pure (.done (.ret (.ref 94))), subC 84 90, pos, fr1 (rb6 w os K H d75 d80 d84 d85 d89 d90) :: fr2 (rb6 w os K H d75 d80 d84 d85 d89 d90)⟩ = some (mk (treeS7 w.params d75 d80 d84 d85 d89 d90 d94) 95 #[.finished] 487 os, ⟨K .next, codeB, ⟨15, 0, 15, 33⟩, [topFrame q0]⟩) :=
  byRow2 "special-get-raises" (P := fun w => ∀ (os : OsState) (K : Flow → Sem PySem.Fin) (H : Value → Sem PySem.Fin) (d75 d80 d84 d85 d89 : SD) (d90 : SD) (d94 : SD) (pos : Pos), goT pw w 28 annV 9 (mk ((treeB6 w.params d75 d80 d84 d85 d89 d90).ins 94 d94.obj) 95 #[.finished] 486 os) ⟨.pure (.done (.ret (.ref 94))), subC 84 90, pos, fr1 (rb6 w os K H d75 d80 d84 d85 d89 d90) :: fr2 (rb6 w os K H d75 d80 d84 d85 d89 d90)⟩ = some (mk (treeS7 w.params d75 d80 d84 d85 d89 d90 d94) 95 #[.finished] 487 os, ⟨K .next, codeB, ⟨15, 0, 15, 33⟩, [topFrame q0]⟩)) (fun w => by intros; kernel_rfl) (fun w => by intros; kernel_rfl) w

theorem s6 (w : World) (os : OsState) (K : Flow → Sem PySem.Fin) (H : Value → Sem PySem.Fin) (d75 d80 d84 d85 d89 : SD) (h84 : Holds ctlL d84.es d84.t) :
    ∃ d90 d94 : SD, True ∧ Ld w (mk (treeS6 w.params d75 d80 d84 d85 d89) 90 #[.finished] 481 os).abs (th 6 1 K H ⟨14, 0, 14, 23⟩) (mk (treeS7 w.params d75 d80 d84 d85 d89 d90 d94) 95 #[.finished] 487 os).abs ⟨K .next, codeB, ⟨15, 0, 15, 33⟩, [topFrame q0]⟩ := by
  obtain ⟨ds, pos1, hh, l2⟩ := loop_T (w := w) (T := treeA6 w.params d75 d80 d84 d85 d89 (⟨#[], 0, emptyT 7 0 (!w.params.followText "set-order")⟩ : SD)) (n := 92) (g := #[.finished]) (k := 482) (os := os) (s := 90) (it := 91) (x := (Str.ofString "\t\n")) (tk := 481) (led := !w.params.followText "set-order") (cs := [9, 10]) (m := 2)
    (by decide +kernel) (by decide +kernel) rfl (by decide) rfl rfl (by decide) rfl rfl (by kernel_rfl) (by kernel_rfl) (fr1 (ra6 w os K H d75 d80 d84 d85 d89)) (fr2 (ra6 w os K H d75 d80 d84 d85 d89)) ⟨15, 49, 15, 66⟩
  have hi : ∀ d : SD, (((treeB6 w.params d75 d80 d84 d85 d89 ds).ins 94 d.obj).get 94).isSome = true := fun d => by kernel_rfl
  obtain ⟨R, dn, pos2, hR, hd, l3⟩ := sub_T (w := w) (T := treeB6 w.params d75 d80 d84 d85 d89 ds) (n := 94) (g := #[.finished]) (k := 486) (os := os) (l := 84) (r := 90) (L := ctlL) (M := [9, 10].map ch) (dl := d84) (dr := ds) rfl (by decide) rfl rfl (by kernel_rfl) (by kernel_rfl) hi h84 hh (by decide +kernel) (.inr rfl) (by decide +kernel) (by decide +kernel) (by decide +kernel) (fr1 (rb6 w os K H d75 d80 d84 d85 d89 ds)) (fr2 (rb6 w os K H d75 d80 d84 d85 d89 ds)) ⟨15, 36, 15, 66⟩
  exact ⟨ds, dn, trivial, (leadsT (a6 w os K H d75 d80 d84 d85 d89)).trans (l2.trans ((leadsT (b6 w os K H d75 d80 d84 d85 d89 ds pos1)).trans (l3.trans (leadsT (c6 w os K H d75 d80 d84 d85 d89 ds dn pos2)))))⟩

noncomputable def ra9 (w : World) (os : OsState) (K : Flow → Sem PySem.Fin) (H : Value → Sem PySem.Fin) (d75 d80 d84 d85 d89 d90 d94 d95 : SD) := goT pw w 28 annV 21 (mk (treeS9 w.params d75 d80 d84 d85 d89 d90 d94 d95) 99 #[.finished] 494 os) (th 9 1 K H ⟨17, 0, 17, 7⟩)
theorem a9 (w : World) : ∀ (os : OsState) (K : Flow → Sem PySem.Fin) (H : Value → Sem PySem.Fin) (d75 d80 d84 d85 d89 d90 d94 d95 : SD), ra9 w os K H d75 d80 d84 d85 d89 d90 d94 d95 = some (mk (treeA9 w.params d75 d80 d84 d85 d89 d90 d94 d95 (⟨#[], 0, emptyT 7 0 (!w.params.followText "set-order")⟩ : SD)) 101 #[.finished] 495 os, ⟨twDen (loopC 99 100), loopC 99 100, ⟨18, 32, 18, 47⟩, fr1 (ra9 w os K H d75 d80 d84 d85 d89 d90 d94 d95) :: fr2 (ra9 w os K H d75 d80 d84 d85 d89 d90 d94 d95)⟩) :=
  byRow2 "special-get-raises" (P := fun w => ∀ (os : OsState) (K : Flow → Sem PySem.Fin) (H : Value → Sem PySem.Fin) (d75 d80 d84 d85 d89 d90 d94 d95 : SD), ra9 w os K H d75 d80 d84 d85 d89 d90 d94 d95 = some (mk (treeA9 w.params d75 d80 d84 d85 d89 d90 d94 d95 (⟨#[], 0, emptyT 7 0 (!w.params.followText "set-order")⟩ : SD)) 101 #[.finished] 495 os, ⟨twDen (loopC 99 100), loopC 99 100, ⟨18, 32, 18, 47⟩, fr1 (ra9 w os K H d75 d80 d84 d85 d89 d90 d94 d95) :: fr2 (ra9 w os K H d75 d80 d84 d85 d89 d90 d94 d95)⟩)) (fun w => by intros; kernel_rfl) (fun w => by intros; kernel_rfl) w

noncomputable def rb9 (w : World) (os : OsState) (K : Flow → Sem PySem.Fin) (H : Value → Sem PySem.Fin) (d75 d80 d84 d85 d89 d90 d94 d95 : SD) (d99 : SD) : Option (SharedT × Thread) := goT pw w 28 annV 33 (mk (((treeA9 w.params d75 d80 d84 d85 d89 d90 d94 d95 (⟨#[], 0, emptyT 7 0 (!w.params.followText "set-order")⟩ : SD)).set 100 fun _ => iterObj (Str.ofString "\n") 494 1).set 99 fun _ => d99.obj) 101 #[.finished] 497 os) ⟨twDen (loopC 99 100), loopC 99 100, ⟨18, 32, 18, 47⟩, fr1 (ra9 w os K H d75 d80 d84 d85 d89 d90 d94 d95) :: fr2 (ra9 w os K H d75 d80 d84 d85 d89 d90 d94 d95)⟩

theorem b9 (w : World) : ∀ (os : OsState) (K : Flow → Sem PySem.Fin) (H : Value → Sem PySem.Fin) (d75 d80 d84 d85 d89 d90 d94 d95 : SD) (d99 : SD) (pos : Pos), goT pw w 28 annV 33 (mk (((treeA9 w.params d75 d80 d84 d85 d89 d90 d94 d95 (⟨#[], 0, emptyT 7 0 (!w.params.followText "set-order")⟩ : SD)).set 100 fun _ => iterObj (Str.ofString "\n") 494 1).set 99 fun _ => d99.obj) 101 #[.finished] 497 os) ⟨twDen (loopC 99 100), loopC 99 100, pos, fr1 (ra9 w os K H d75 d80 d84 d85 d89 d90 d94 d95) :: fr2 (ra9 w os K H d75 d80 d84 d85 d89 d90 d94 d95)⟩ = some (mk (treeB9 w.params d75 d80 d84 d85 d89 d90 d94 d95 d99) 103 #[.finished] 497 os, ⟨twDen (orC 95 99), orC 95 99, ⟨18, 22, 18, 47⟩, fr1 (rb9 w os K H d75 d80 d84 d85 d89 d90 d94 d95 d99) :: fr2 (rb9 w os K H d75 d80 d84 d85 d89 d90 d94 d95 d99)⟩) :=
  byRow2 "special-get-raises" (P := fun w => ∀ (os : OsState) (K : Flow → Sem PySem.Fin) (H : Value → Sem PySem.Fin) (d75 d80 d84 d85 d89 d90 d94 d95 : SD) (d99 : SD) (pos : Pos), goT pw w 28 annV 33 (mk (((treeA9 w.params d75 d80 d84 d85 d89 d90 d94 d95 (⟨#[], 0, emptyT 7 0 (!w.params.followText "set-order")⟩ : SD)).set 100 fun _ => iterObj (Str.ofString "\n") 494 1).set 99 fun _ => d99.obj) 101 #[.finished] 497 os) ⟨twDen (loopC 99 100), loopC 99 100, pos, fr1 (ra9 w os K H d75 d80 d84 d85 d89 d90 d94 d95) :: fr2 (ra9 w os K H d75 d80 d84 d85 d89 d90 d94 d95)⟩ = some (mk (treeB9 w.params d75 d80 d84 d85 d89 d90 d94 d95 d99) 103 #[.finished] 497 os, ⟨twDen (orC 95 99), orC 95 99, ⟨18, 22, 18, 47⟩, fr1 (rb9 w os K H d75 d80 d84 d85 d89 d90 d94 d95 d99) :: fr2 (rb9 w os K H d75 d80 d84 d85 d89 d90 d94 d95 d99)⟩)) (fun w => by intros; kernel_rfl) (fun w => by intros; kernel_rfl) w

theorem c9 (w : World) : ∀ (os : OsState) (K : Flow → Sem PySem.Fin) (H : Value → Sem PySem.Fin) (d75 d80 d84 d85 d89 d90 d94 d95 : SD) (d99 : SD) (d103 : SD) (pos : Pos), goT pw w 28 annV 9 (mk ((treeB9 w.params d75 d80 d84 d85 d89 d90 d94 d95 d99).ins 103 d103.obj) 104 #[.finished] 497 os) ⟨.pure (.done (.ret (.ref 103))), orC 95 99, pos, fr1 (rb9 w os K H d75 d80 d84 d85 d89 d90 d94 d95 d99) :: fr2 (rb9 w os K H d75 d80 d84 d85 d89 d90 d94 d95 d99)⟩ = some (mk (treeS10 w.params d75 d80 d84 d85 d89 d90 d94 d95 d99 d103) 104 #[.finished] 498 os, ⟨K .next, codeB, ⟨18, 0, 18, 19⟩, [topFrame q0]⟩) :=
  byRow2 "special-get-raises" (P := fun w => ∀ (os : OsState) (K : Flow → Sem PySem.Fin) (H : Value → Sem PySem.Fin) (d75 d80 d84 d85 d89 d90 d94 d95 : SD) (d99 : SD) (d103 : SD) (pos : Pos), goT pw w 28 annV 9 (mk ((treeB9 w.params d75 d80 d84 d85 d89 d90 d94 d95 d99).ins 103 d103.obj) 104 #[.finished] 497 os) ⟨.pure (.done (.ret (.ref 103))), orC 95 99, pos, fr1 (rb9 w os K H d75 d80 d84 d85 d89 d90 d94 d95 d99) :: fr2 (rb9 w os K H d75 d80 d84 d85 d89 d90 d94 d95 d99)⟩ = some (mk (treeS10 w.params d75 d80 d84 d85 d89 d90 d94 d95 d99 d103) 104 #[.finished] 498 os, ⟨K .next, codeB, ⟨18, 0, 18, 19⟩, [topFrame q0]⟩)) (fun w => by intros; kernel_rfl) (fun w => by intros; kernel_rfl) w

theorem s9 (w : World) (os : OsState) (K : Flow → Sem PySem.Fin) (H : Value → Sem PySem.Fin) (d75 d80 d84 d85 d89 d90 d94 d95 : SD) (h95 : Holds ([32, 9].map ch) d95.es d95.t) :
    ∃ d99 d103 : SD, True ∧ Ld w (mk (treeS9 w.params d75 d80 d84 d85 d89 d90 d94 d95) 99 #[.finished] 494 os).abs (th 9 1 K H ⟨17, 0, 17, 7⟩) (mk (treeS10 w.params d75 d80 d84 d85 d89 d90 d94 d95 d99 d103) 104 #[.finished] 498 os).abs ⟨K .next, codeB, ⟨18, 0, 18, 19⟩, [topFrame q0]⟩ := by
  obtain ⟨ds, pos1, hh, l2⟩ := loop_T (w := w) (T := treeA9 w.params d75 d80 d84 d85 d89 d90 d94 d95 (⟨#[], 0, emptyT 7 0 (!w.params.followText "set-order")⟩ : SD)) (n := 101) (g := #[.finished]) (k := 495) (os := os) (s := 99) (it := 100) (x := (Str.ofString "\n")) (tk := 494) (led := !w.params.followText "set-order") (cs := [10]) (m := 1)
    (by decide +kernel) (by decide +kernel) rfl (by decide) rfl rfl (by decide) rfl rfl (by kernel_rfl) (by kernel_rfl) (fr1 (ra9 w os K H d75 d80 d84 d85 d89 d90 d94 d95)) (fr2 (ra9 w os K H d75 d80 d84 d85 d89 d90 d94 d95)) ⟨18, 32, 18, 47⟩
  have hi : ∀ d : SD, (((treeB9 w.params d75 d80 d84 d85 d89 d90 d94 d95 ds).ins 103 d.obj).get 103).isSome = true := fun d => by kernel_rfl
  obtain ⟨dn, pos2, hd, l3⟩ := or_T (w := w) (T := treeB9 w.params d75 d80 d84 d85 d89 d90 d94 d95 ds) (n := 103) (g := #[.finished]) (k := 497) (os := os) (l := 95) (r := 99) (L := [32, 9].map ch) (x := ch 10) (dl := d95) (dr := ds) rfl (by decide) rfl rfl (by kernel_rfl) (by kernel_rfl) hi h95 hh (by decide +kernel) (.inl rfl) (fr1 (rb9 w os K H d75 d80 d84 d85 d89 d90 d94 d95 ds)) (fr2 (rb9 w os K H d75 d80 d84 d85 d89 d90 d94 d95 ds)) ⟨18, 22, 18, 47⟩
  exact ⟨ds, dn, trivial, (leadsT (a9 w os K H d75 d80 d84 d85 d89 d90 d94 d95)).trans (l2.trans ((leadsT (b9 w os K H d75 d80 d84 d85 d89 d90 d94 d95 ds pos1)).trans (l3.trans (leadsT (c9 w os K H d75 d80 d84 d85 d89 d90 d94 d95 ds dn pos2)))))⟩
end
section
open PySem PySem.W PySem.Calls PyProof.Rows
set_option maxRecDepth 100000
noncomputable def gns (r : Option (SharedT × Thread)) : Array GenState := match r with | some (s, _) => s.gens | none => #[]
noncomputable def rangeIt (j : Nat) : Obj := ⟨.type "range_iterator", none, .fields #[.int (j : Int) 0, .int (32 - (j : Int)) 0, .int 1 0], #[]⟩
noncomputable def frameI (P : Params) (i tk : Nat) : Obj := ⟨.type "frame", none, .dict #[⟨PyData.keyHash P (Str.ofString ".0"), .str (Str.ofString ".0") 341, .ref 69⟩, ⟨PyData.keyHash P (Str.ofString "i"), .str (Str.ofString "i") 345, .int (i : Int) tk⟩] 2, #[]⟩
/-- behind j turns of the generator -/
noncomputable def turnT (P : Params) (j : Nat) (d : SD) : BT := ((treeA4 P d).set 69 fun _ => rangeIt j).set 73 fun _ => frameI P (j - 1) (340 + 4 * j)
noncomputable def ra4 (w : World) (os : OsState) (K : Flow → Sem PySem.Fin) (H : Value → Sem PySem.Fin) := goT pw w 28 annV 86 (mk (treeS4 w.params) 68 #[] 333 os) (th 4 1 K H ⟨12, 0, 12, 13⟩)
theorem a4 (w : World) : ∀ (os : OsState) (K : Flow → Sem PySem.Fin) (H : Value → Sem PySem.Fin), ra4 w os K H = some (mk (treeA4 w.params (⟨#[], 0, emptyT 7 0 (!w.params.followText "set-order")⟩ : SD)) 76 (gns (ra4 w os K H)) 344 os, ⟨twDen (loopC 75 74), loopC 75 74, ⟨13, 13, 13, 51⟩, fr1 (ra4 w os K H) :: fr2 (ra4 w os K H)⟩) :=
  byRow2 "special-get-raises" (P := fun w => ∀ (os : OsState) (K : Flow → Sem PySem.Fin) (H : Value → Sem PySem.Fin), ra4 w os K H = some (mk (treeA4 w.params (⟨#[], 0, emptyT 7 0 (!w.params.followText "set-order")⟩ : SD)) 76 (gns (ra4 w os K H)) 344 os, ⟨twDen (loopC 75 74), loopC 75 74, ⟨13, 13, 13, 51⟩, fr1 (ra4 w os K H) :: fr2 (ra4 w os K H)⟩)) (fun w => by intros; kernel_rfl) (fun w => by intros; kernel_rfl) w
noncomputable def turn0 (w : World) (os : OsState) (K : Flow → Sem PySem.Fin) (H : Value → Sem PySem.Fin) (K' : Option Value → Sem PySem.Fin) (d : SD) (k : Nat) : Option (SharedT × Thread) :=
  goT pw w 28 annV k (mk (treeA4 w.params d) 76 (gns (ra4 w os K H)) 344 os) ⟨(pyNext (.ref 74)).bind K', loopC 75 74, ⟨13, 13, 13, 51⟩, fr1 (ra4 w os K H) :: fr2 (ra4 w os K H)⟩
noncomputable def gen1 (w : World) (os : OsState) (K : Flow → Sem PySem.Fin) (H : Value → Sem PySem.Fin) : Array GenState := gns (turn0 (w.withFollow "comprehension-iter-twice" true) os K H (fun _ => .pure (.done .next)) (⟨#[], 0, emptyT 7 0 (!w.params.followText "set-order")⟩ : SD) 46)
theorem t0 (w : World) : ∀ (os : OsState) (K : Flow → Sem PySem.Fin) (H : Value → Sem PySem.Fin) (K' : Option Value → Sem PySem.Fin) (d : SD), ∃ k, turn0 w os K H K' d k = some (mk (turnT w.params 1 d) 76 (gen1 w os K H) 347 os, ⟨K' (some (.str (ch 0) 346)), loopC 75 74, ⟨13, 13, 13, 51⟩, fr1 (ra4 w os K H) :: fr2 (ra4 w os K H)⟩) :=
  byRow2 "comprehension-iter-twice" (P := fun w => ∀ (os : OsState) (K : Flow → Sem PySem.Fin) (H : Value → Sem PySem.Fin) (K' : Option Value → Sem PySem.Fin) (d : SD), ∃ k, turn0 w os K H K' d k = some (mk (turnT w.params 1 d) 76 (gen1 w os K H) 347 os, ⟨K' (some (.str (ch 0) 346)), loopC 75 74, ⟨13, 13, 13, 51⟩, fr1 (ra4 w os K H) :: fr2 (ra4 w os K H)⟩))
    (byRow2 "special-get-raises" (P := fun w => (fun w => ∀ (os : OsState) (K : Flow → Sem PySem.Fin) (H : Value → Sem PySem.Fin) (K' : Option Value → Sem PySem.Fin) (d : SD), ∃ k, turn0 w os K H K' d k = some (mk (turnT w.params 1 d) 76 (gen1 w os K H) 347 os, ⟨K' (some (.str (ch 0) 346)), loopC 75 74, ⟨13, 13, 13, 51⟩, fr1 (ra4 w os K H) :: fr2 (ra4 w os K H)⟩)) (w.withFollow "comprehension-iter-twice" false)) (fun w => by intro os K H K' d; exact ⟨56, by kernel_rfl⟩) (fun w => by intro os K H K' d; exact ⟨56, by kernel_rfl⟩))
    (byRow2 "special-get-raises" (P := fun w => (fun w => ∀ (os : OsState) (K : Flow → Sem PySem.Fin) (H : Value → Sem PySem.Fin) (K' : Option Value → Sem PySem.Fin) (d : SD), ∃ k, turn0 w os K H K' d k = some (mk (turnT w.params 1 d) 76 (gen1 w os K H) 347 os, ⟨K' (some (.str (ch 0) 346)), loopC 75 74, ⟨13, 13, 13, 51⟩, fr1 (ra4 w os K H) :: fr2 (ra4 w os K H)⟩)) (w.withFollow "comprehension-iter-twice" true)) (fun w => by intro os K H K' d; exact ⟨46, by kernel_rfl⟩) (fun w => by intro os K H K' d; exact ⟨46, by kernel_rfl⟩)) w
end
section
open PySem PySem.W PySem.Calls PyProof.Rows
set_option maxRecDepth 100000
abbrev turnEq (w : World) (os : OsState) (K : Flow → Sem PySem.Fin) (H : Value → Sem PySem.Fin) (K' : Option Value → Sem PySem.Fin) (d : SD) (pos : Pos) (j : Nat) : Prop :=
  goT pw w 28 annV 45 (mk (turnT w.params j d) 76 (gen1 w os K H) (344 + 4 * j) os) ⟨(pyNext (.ref 74)).bind K', loopC 75 74, pos, fr1 (ra4 w os K H) :: fr2 (ra4 w os K H)⟩ =
    some (mk (turnT w.params (j + 1) d) 76 (gen1 w os K H) (347 + 4 * j) os, ⟨K' (some (.str (ch j) (346 + 4 * j))), loopC 75 74, pos, fr1 (ra4 w os K H) :: fr2 (ra4 w os K H)⟩)
theorem turns (w : World) : ∀ (os : OsState) (K : Flow → Sem PySem.Fin) (H : Value → Sem PySem.Fin) (K' : Option Value → Sem PySem.Fin) (d : SD) (pos : Pos), turnEq w os K H K' d pos 1 ∧ turnEq w os K H K' d pos 2 ∧ turnEq w os K H K' d pos 3 ∧ turnEq w os K H K' d pos 4 ∧ turnEq w os K H K' d pos 5 ∧ turnEq w os K H K' d pos 6 ∧ turnEq w os K H K' d pos 7 ∧ turnEq w os K H K' d pos 8 ∧ turnEq w os K H K' d pos 9 ∧ turnEq w os K H K' d pos 10 ∧ turnEq w os K H K' d pos 11 ∧ turnEq w os K H K' d pos 12 ∧ turnEq w os K H K' d pos 13 ∧ turnEq w os K H K' d pos 14 ∧ turnEq w os K H K' d pos 15 ∧ turnEq w os K H K' d pos 16 ∧ turnEq w os K H K' d pos 17 ∧ turnEq w os K H K' d pos 18 ∧ turnEq w os K H K' d pos 19 ∧ turnEq w os K H K' d pos 20 ∧ turnEq w os K H K' d pos 21 ∧ turnEq w os K H K' d pos 22 ∧ turnEq w os K H K' d pos 23 ∧ turnEq w os K H K' d pos 24 ∧ turnEq w os K H K' d pos 25 ∧ turnEq w os K H K' d pos 26 ∧ turnEq w os K H K' d pos 27 ∧ turnEq w os K H K' d pos 28 ∧ turnEq w os K H K' d pos 29 ∧ turnEq w os K H K' d pos 30 ∧ turnEq w os K H K' d pos 31 :=
  byRow2 "special-get-raises" (P := fun w => ∀ (os : OsState) (K : Flow → Sem PySem.Fin) (H : Value → Sem PySem.Fin) (K' : Option Value → Sem PySem.Fin) (d : SD) (pos : Pos), turnEq w os K H K' d pos 1 ∧ turnEq w os K H K' d pos 2 ∧ turnEq w os K H K' d pos 3 ∧ turnEq w os K H K' d pos 4 ∧ turnEq w os K H K' d pos 5 ∧ turnEq w os K H K' d pos 6 ∧ turnEq w os K H K' d pos 7 ∧ turnEq w os K H K' d pos 8 ∧ turnEq w os K H K' d pos 9 ∧ turnEq w os K H K' d pos 10 ∧ turnEq w os K H K' d pos 11 ∧ turnEq w os K H K' d pos 12 ∧ turnEq w os K H K' d pos 13 ∧ turnEq w os K H K' d pos 14 ∧ turnEq w os K H K' d pos 15 ∧ turnEq w os K H K' d pos 16 ∧ turnEq w os K H K' d pos 17 ∧ turnEq w os K H K' d pos 18 ∧ turnEq w os K H K' d pos 19 ∧ turnEq w os K H K' d pos 20 ∧ turnEq w os K H K' d pos 21 ∧ turnEq w os K H K' d pos 22 ∧ turnEq w os K H K' d pos 23 ∧ turnEq w os K H K' d pos 24 ∧ turnEq w os K H K' d pos 25 ∧ turnEq w os K H K' d pos 26 ∧ turnEq w os K H K' d pos 27 ∧ turnEq w os K H K' d pos 28 ∧ turnEq w os K H K' d pos 29 ∧ turnEq w os K H K' d pos 30 ∧ turnEq w os K H K' d pos 31) (fun w => by intro os K H K' d pos; exact ⟨by kernel_rfl, by kernel_rfl, by kernel_rfl, by kernel_rfl, by kernel_rfl, by kernel_rfl, by kernel_rfl, by kernel_rfl, by kernel_rfl, by kernel_rfl, by kernel_rfl, by kernel_rfl, by kernel_rfl, by kernel_rfl, by kernel_rfl, by kernel_rfl, by kernel_rfl, by kernel_rfl, by kernel_rfl, by kernel_rfl, by kernel_rfl, by kernel_rfl, by kernel_rfl, by kernel_rfl, by kernel_rfl, by kernel_rfl, by kernel_rfl, by kernel_rfl, by kernel_rfl, by kernel_rfl, by kernel_rfl⟩) (fun w => by intro os K H K' d pos; exact ⟨by kernel_rfl, by kernel_rfl, by kernel_rfl, by kernel_rfl, by kernel_rfl, by kernel_rfl, by kernel_rfl, by kernel_rfl, by kernel_rfl, by kernel_rfl, by kernel_rfl, by kernel_rfl, by kernel_rfl, by kernel_rfl, by kernel_rfl, by kernel_rfl, by kernel_rfl, by kernel_rfl, by kernel_rfl, by kernel_rfl, by kernel_rfl, by kernel_rfl, by kernel_rfl, by kernel_rfl, by kernel_rfl, by kernel_rfl, by kernel_rfl, by kernel_rfl, by kernel_rfl, by kernel_rfl, by kernel_rfl⟩) w
end
section
open PySem PySem.W PySem.Calls PyProof.Rows
set_option maxRecDepth 100000
noncomputable def rb4 (w : World) (os : OsState) (K : Flow → Sem PySem.Fin) (H : Value → Sem PySem.Fin) (d75 : SD) := goT pw w 28 annV 68 (mk (turnT w.params 32 d75) 76 (gen1 w os K H) 472 os) ⟨twDen (loopC 75 74), loopC 75 74, ⟨13, 13, 13, 51⟩, fr1 (ra4 w os K H) :: fr2 (ra4 w os K H)⟩
theorem b4 (w : World) : ∀ (os : OsState) (K : Flow → Sem PySem.Fin) (H : Value → Sem PySem.Fin) (d75 : SD) (pos : Pos), goT pw w 28 annV 68 (mk (turnT w.params 32 d75) 76 (gen1 w os K H) 472 os) ⟨twDen (loopC 75 74), loopC 75 74, pos, fr1 (ra4 w os K H) :: fr2 (ra4 w os K H)⟩ = some (mk (treeB4 w.params d75 (⟨#[], 0, emptyT 7 0 (!w.params.followText "set-order")⟩ : SD)) 82 #[.finished] 474 os, ⟨twDen (loopC 80 81), loopC 80 81, ⟨13, 54, 13, 73⟩, fr1 (rb4 w os K H d75) :: fr2 (rb4 w os K H d75)⟩) :=
  byRow2 "special-get-raises" (P := fun w => ∀ (os : OsState) (K : Flow → Sem PySem.Fin) (H : Value → Sem PySem.Fin) (d75 : SD) (pos : Pos), goT pw w 28 annV 68 (mk (turnT w.params 32 d75) 76 (gen1 w os K H) 472 os) ⟨twDen (loopC 75 74), loopC 75 74, pos, fr1 (ra4 w os K H) :: fr2 (ra4 w os K H)⟩ = some (mk (treeB4 w.params d75 (⟨#[], 0, emptyT 7 0 (!w.params.followText "set-order")⟩ : SD)) 82 #[.finished] 474 os, ⟨twDen (loopC 80 81), loopC 80 81, ⟨13, 54, 13, 73⟩, fr1 (rb4 w os K H d75) :: fr2 (rb4 w os K H d75)⟩)) (fun w => by intros; kernel_rfl) (fun w => by intros; kernel_rfl) w

noncomputable def rc4 (w : World) (os : OsState) (K : Flow → Sem PySem.Fin) (H : Value → Sem PySem.Fin) (d75 d80 : SD) := goT pw w 28 annV 33 (mk (((treeB4 w.params d75 (⟨#[], 0, emptyT 7 0 (!w.params.followText "set-order")⟩ : SD)).set 81 fun _ => iterObj (Str.ofString "\x7f") 473 1).set 80 fun _ => d80.obj) 82 #[.finished] 476 os) ⟨twDen (loopC 80 81), loopC 80 81, ⟨13, 54, 13, 73⟩, fr1 (rb4 w os K H d75) :: fr2 (rb4 w os K H d75)⟩
theorem c4 (w : World) : ∀ (os : OsState) (K : Flow → Sem PySem.Fin) (H : Value → Sem PySem.Fin) (d75 d80 : SD) (pos : Pos), goT pw w 28 annV 33 (mk (((treeB4 w.params d75 (⟨#[], 0, emptyT 7 0 (!w.params.followText "set-order")⟩ : SD)).set 81 fun _ => iterObj (Str.ofString "\x7f") 473 1).set 80 fun _ => d80.obj) 82 #[.finished] 476 os) ⟨twDen (loopC 80 81), loopC 80 81, pos, fr1 (rb4 w os K H d75) :: fr2 (rb4 w os K H d75)⟩ = some (mk (treeC4 w.params d75 d80) 84 #[.finished] 476 os, ⟨twDen (orC 75 80), orC 75 80, ⟨13, 13, 13, 73⟩, fr1 (rc4 w os K H d75 d80) :: fr2 (rc4 w os K H d75 d80)⟩) :=
  byRow2 "special-get-raises" (P := fun w => ∀ (os : OsState) (K : Flow → Sem PySem.Fin) (H : Value → Sem PySem.Fin) (d75 d80 : SD) (pos : Pos), goT pw w 28 annV 33 (mk (((treeB4 w.params d75 (⟨#[], 0, emptyT 7 0 (!w.params.followText "set-order")⟩ : SD)).set 81 fun _ => iterObj (Str.ofString "\x7f") 473 1).set 80 fun _ => d80.obj) 82 #[.finished] 476 os) ⟨twDen (loopC 80 81), loopC 80 81, pos, fr1 (rb4 w os K H d75) :: fr2 (rb4 w os K H d75)⟩ = some (mk (treeC4 w.params d75 d80) 84 #[.finished] 476 os, ⟨twDen (orC 75 80), orC 75 80, ⟨13, 13, 13, 73⟩, fr1 (rc4 w os K H d75 d80) :: fr2 (rc4 w os K H d75 d80)⟩)) (fun w => by intros; kernel_rfl) (fun w => by intros; kernel_rfl) w

theorem e4 (w : World) : ∀ (os : OsState) (K : Flow → Sem PySem.Fin) (H : Value → Sem PySem.Fin) (d75 d80 d84 : SD) (pos : Pos), goT pw w 28 annV 9 (mk ((treeC4 w.params d75 d80).ins 84 d84.obj) 85 #[.finished] 476 os) ⟨.pure (.done (.ret (.ref 84))), orC 75 80, pos, fr1 (rc4 w os K H d75 d80) :: fr2 (rc4 w os K H d75 d80)⟩ = some (mk (treeS5 w.params d75 d80 d84) 85 #[.finished] 477 os, ⟨K .next, codeB, ⟨13, 0, 13, 10⟩, [topFrame q0]⟩) :=
  byRow2 "special-get-raises" (P := fun w => ∀ (os : OsState) (K : Flow → Sem PySem.Fin) (H : Value → Sem PySem.Fin) (d75 d80 d84 : SD) (pos : Pos), goT pw w 28 annV 9 (mk ((treeC4 w.params d75 d80).ins 84 d84.obj) 85 #[.finished] 476 os) ⟨.pure (.done (.ret (.ref 84))), orC 75 80, pos, fr1 (rc4 w os K H d75 d80) :: fr2 (rc4 w os K H d75 d80)⟩ = some (mk (treeS5 w.params d75 d80 d84) 85 #[.finished] 477 os, ⟨K .next, codeB, ⟨13, 0, 13, 10⟩, [topFrame q0]⟩)) (fun w => by intros; kernel_rfl) (fun w => by intros; kernel_rfl) w

noncomputable def K1 (s : Addr) (c : Code) : Option Value → Sem PySem.Fin := fun r => match r with
  | none => ret .none
  | some x => (holding [x] (setAdd s x)).bind fun _ => again c
theorem den_K1 (s it : Addr) : twDen (loopC s it) = (pyNext (.ref it)).bind (K1 s (loopC s it)) := by
  rw [← twDen_eq, den_loop]
  unfold Builtin.«set.update.loop» K1
  dsimp only
  show Sem.bind _ _ = Sem.bind _ _
  congr 1
  funext r
  cases r <;> rfl
theorem turn_set (P : Params) (j : Nat) (d d' : SD) : (turnT P j d).set 75 (fun _ => d'.obj) = turnT P j d' := by kernel_rfl
theorem turn_get (P : Params) (j : Nat) (d : SD) : (turnT P j d).get 75 = some d.obj := by kernel_rfl
/-- the add of a turn -/
theorem turn_add (w : World) (os : OsState) (g : Array GenState) (j k tk : Nat) (d : SD) (L : List Str) (x : Str) (F : Frame) (B : List Frame) (pos : Pos) (hh : Holds L d.es d.t) (hx : x ∉ L) (hl : L.length + 1 < 4096) :
    ∃ (d' : SD) (pos' : Pos), Holds (L ++ [x]) d'.es d'.t ∧ Ld w (mk (turnT w.params j d) 76 g k os).abs ⟨K1 75 (loopC 75 74) (some (.str x tk)), loopC 75 74, pos, F :: B⟩ (mk (turnT w.params j d') 76 g (k + 1) os).abs ⟨twDen (loopC 75 74), loopC 75 74, pos', F :: B⟩ := by
  have h := st_holding (vs := [.str x tk]) (st_setAdd (p := pw) (w := w) (n₀ := 28) (ann := annV) (S := (mk (turnT w.params j d) 76 g k os).abs) (a := 75) (tk := tk) (es := d.es) (ep := d.ep) (t := d.t) (Q := fun _ S' => ∃ d' : SD, Holds (L ++ [x]) d'.es d'.t ∧ S' = (mk (turnT w.params j d') 76 g (k + 1) os).abs) rfl (mk_get (by rfl) (turn_get _ j d) rfl) hh hx hl
    fun es' ep' t' h' => ⟨⟨es', ep', t'⟩, h', by
      show (⟨((absHeap (turnT w.params j d) 76 {}).update 75 fun _ => setObj es' ep' t'), g, {}, k + 1, os⟩ : Shared) = ⟨absHeap (turnT w.params j ⟨es', ep', t'⟩) 76 {}, g, {}, k + 1, os⟩
      rw [← turn_set w.params j d ⟨es', ep', t'⟩, absHeap_set (turn_get _ j d)]
      rfl⟩)
  obtain ⟨_, S', pos', ⟨d', h', rfl⟩, lead⟩ := st_leads (fun _ => again (loopC 75 74)) (loopC 75 74) F B pos h
  refine ⟨d', pos', h', lead.trans ?_⟩
  rw [← twDen_eq]
  exact again_base
theorem ch_new {j : Nat} : ch j ∉ (List.range j).map ch := by
  intro h
  obtain ⟨i, hi, e⟩ := List.mem_map.mp h
  have := ch_inj e
  have := List.mem_range.mp hi
  omega
theorem turn_one (w : World) (os : OsState) (K : Flow → Sem PySem.Fin) (H : Value → Sem PySem.Fin) (j : Nat) (hj : j < 32) (d : SD) (pos : Pos) (hh : Holds ((List.range j).map ch) d.es d.t) (te : ∀ K', turnEq w os K H K' d pos j) :
    ∃ (d' : SD) (pos' : Pos), Holds ((List.range (j + 1)).map ch) d'.es d'.t ∧ Ld w (mk (turnT w.params j d) 76 (gen1 w os K H) (344 + 4 * j) os).abs ⟨twDen (loopC 75 74), loopC 75 74, pos, fr1 (ra4 w os K H) :: fr2 (ra4 w os K H)⟩
      (mk (turnT w.params (j + 1) d') 76 (gen1 w os K H) (344 + 4 * (j + 1)) os).abs ⟨twDen (loopC 75 74), loopC 75 74, pos', fr1 (ra4 w os K H) :: fr2 (ra4 w os K H)⟩ := by
  obtain ⟨d', pos', h', lead⟩ := turn_add w os (gen1 w os K H) (j + 1) (347 + 4 * j) (346 + 4 * j) d _ (ch j) (fr1 (ra4 w os K H)) (fr2 (ra4 w os K H)) pos hh ch_new (by simp; omega)
  refine ⟨d', pos', by rw [List.range_succ, List.map_append]; exact h', ?_⟩
  have e : 347 + 4 * j + 1 = 344 + 4 * (j + 1) := by omega
  rw [e] at lead
  have := (leadsT (te (K1 75 (loopC 75 74)))).trans lead
  rw [← den_K1] at this
  exact this
noncomputable def AllUp (P : Nat → Prop) : Nat → Nat → Prop
  | i, 0 => P i
  | i, n + 1 => P i ∧ AllUp P (i + 1) n
theorem allUp_get {P : Nat → Prop} : ∀ (n : Nat) {i j : Nat}, AllUp P i n → i ≤ j → j ≤ i + n → P j
  | 0, i, j, h, h1, h2 => by have e : i = j := Nat.le_antisymm h1 h2; subst e; exact h
  | n + 1, i, j, h, h1, h2 => by
    by_cases e : i = j
    · subst e; exact h.1
    · exact allUp_get n h.2 (Nat.lt_of_le_of_ne h1 e) (by omega)
theorem turnsAll (w : World) (os : OsState) (K : Flow → Sem PySem.Fin) (H : Value → Sem PySem.Fin) (K' : Option Value → Sem PySem.Fin) (d : SD) (pos : Pos) (j : Nat) (h1 : 1 ≤ j) (h2 : j ≤ 31) : turnEq w os K H K' d pos j :=
  allUp_get (P := fun j => turnEq w os K H K' d pos j) 30 (turns w os K H K' d pos) h1 h2
theorem all_turns (w : World) (os : OsState) (K : Flow → Sem PySem.Fin) (H : Value → Sem PySem.Fin) (d : SD) (pos : Pos) (hh : Holds ([0].map ch) d.es d.t) : ∀ n, n ≤ 31 → ∃ (d' : SD) (pos' : Pos), Holds ((List.range (n + 1)).map ch) d'.es d'.t ∧ Ld w (mk (turnT w.params 1 d) 76 (gen1 w os K H) 348 os).abs ⟨twDen (loopC 75 74), loopC 75 74, pos, fr1 (ra4 w os K H) :: fr2 (ra4 w os K H)⟩
      (mk (turnT w.params (n + 1) d') 76 (gen1 w os K H) (344 + 4 * (n + 1)) os).abs ⟨twDen (loopC 75 74), loopC 75 74, pos', fr1 (ra4 w os K H) :: fr2 (ra4 w os K H)⟩
  | 0, _ => ⟨d, pos, hh, .refl _ _⟩
  | n + 1, hn => by
    obtain ⟨d1, pos1, h1, l1⟩ := all_turns w os K H d pos hh n (by omega)
    have te : ∀ K', turnEq w os K H K' d1 pos1 (n + 1) := fun K' => turnsAll w os K H K' d1 pos1 (n + 1) (by omega) (by omega)
    obtain ⟨d2, pos2, h2, l2⟩ := turn_one w os K H (n + 1) (by omega) d1 pos1 h1 te
    exact ⟨d2, pos2, h2, l1.trans l2⟩
theorem s4 (w : World) (os : OsState) (K : Flow → Sem PySem.Fin) (H : Value → Sem PySem.Fin) :
    ∃ d75 d80 d84 : SD, Holds ctlL d84.es d84.t ∧ Ld w (mk (treeS4 w.params) 68 #[] 333 os).abs (th 4 1 K H ⟨12, 0, 12, 13⟩) (mk (treeS5 w.params d75 d80 d84) 85 #[.finished] 477 os).abs ⟨K .next, codeB, ⟨13, 0, 13, 10⟩, [topFrame q0]⟩ := by
  obtain ⟨k0, e0⟩ := t0 w os K H (K1 75 (loopC 75 74)) (⟨#[], 0, emptyT 7 0 (!w.params.followText "set-order")⟩ : SD)
  obtain ⟨d1, pos1, h1, l1⟩ := turn_add w os (gen1 w os K H) 1 347 346 (⟨#[], 0, emptyT 7 0 (!w.params.followText "set-order")⟩ : SD) [] (ch 0) (fr1 (ra4 w os K H)) (fr2 (ra4 w os K H)) ⟨13, 13, 13, 51⟩ (holds_nil 7 0 _) (by simp) (by simp)
  have l01 := (leadsT e0).trans l1
  rw [← den_K1] at l01
  obtain ⟨d75, pos2, h2, l2⟩ := all_turns w os K H d1 pos1 h1 31 (Nat.le_refl _)
  obtain ⟨d80, pos3, h3, l3⟩ := loop_T (w := w) (T := treeB4 w.params d75 (⟨#[], 0, emptyT 7 0 (!w.params.followText "set-order")⟩ : SD)) (n := 82) (g := #[.finished]) (k := 474) (os := os) (s := 80) (it := 81) (x := Str.ofString "\x7f") (tk := 473) (led := !w.params.followText "set-order") (cs := [127]) (m := 1)
    (by decide +kernel) (by decide +kernel) rfl (by decide) rfl rfl (by decide) rfl rfl (by kernel_rfl) (by kernel_rfl) (fr1 (rb4 w os K H d75)) (fr2 (rb4 w os K H d75)) ⟨13, 54, 13, 73⟩
  have hi : ∀ d : SD, (((treeC4 w.params d75 d80).ins 84 d.obj).get 84).isSome = true := fun d => by kernel_rfl
  obtain ⟨d84, pos4, h4, l4⟩ := or_T (w := w) (T := treeC4 w.params d75 d80) (n := 84) (g := #[.finished]) (k := 476) (os := os) (l := 75) (r := 80) (L := ctl0.map ch) (x := ch 127) (dl := d75) (dr := d80) rfl (by decide) rfl rfl (by kernel_rfl) (by kernel_rfl) hi h2 h3 (by decide +kernel) (.inr rfl) (fr1 (rc4 w os K H d75 d80)) (fr2 (rc4 w os K H d75 d80)) ⟨13, 13, 13, 73⟩
  exact ⟨d75, d80, d84, h4, (leadsT (a4 w os K H)).trans (l01.trans (l2.trans ((leadsT (b4 w os K H d75 pos2)).trans (l3.trans ((leadsT (c4 w os K H d75 d80 pos3)).trans (l4.trans (leadsT (e4 w os K H d75 d80 d84 pos4))))))))⟩
end
section
open PySem PySem.W PySem.Calls PyProof.Rows
set_option maxRecDepth 100000
theorem p7 (w : World) (os : OsState) (K : Flow → Sem PySem.Fin) (H : Value → Sem PySem.Fin) (d75 d80 d84 d85 d89 d90 d94 : SD) : goT pw w 28 annV 10 (mk (treeS7 w.params d75 d80 d84 d85 d89 d90 d94) 95 #[.finished] 487 os) (th 7 1 K H ⟨15, 0, 15, 33⟩) = some ((mk (treeS8 w.params d75 d80 d84 d85 d89 d90 d94) 95 #[.finished] 488 os), ⟨K .next, codeB, ⟨16, 0, 16, 25⟩, [topFrame q0]⟩) := by kernel_rfl
theorem p10 (w : World) (os : OsState) (K : Flow → Sem PySem.Fin) (H : Value → Sem PySem.Fin) (d75 d80 d84 d85 d89 d90 d94 d95 d99 d103 : SD) : goT pw w 28 annV 69 (mk (treeS10 w.params d75 d80 d84 d85 d89 d90 d94 d95 d99 d103) 104 #[.finished] 498 os) (th 10 5 K H ⟨18, 0, 18, 19⟩) = some ((mk (treeS15 w.params d75 d80 d84 d85 d89 d90 d94 d95 d99 d103) 104 #[.finished] 511 os), ⟨K .next, codeB, ⟨23, 0, 23, 9⟩, [topFrame q0]⟩) := by kernel_rfl
theorem p17 (w : World) (os : OsState) (K : Flow → Sem PySem.Fin) (H : Value → Sem PySem.Fin) (d75 d80 d84 d85 d89 d90 d94 d95 d99 d103 d104 d108 : SD) : goT pw w 28 annV 54 (mk (treeS17 w.params d75 d80 d84 d85 d89 d90 d94 d95 d99 d103 d104 d108) 112 #[.finished] 688 os) (th 17 3 K H ⟨25, 0, 25, 14⟩) = some ((mk (treeS20 w.params d75 d80 d84 d85 d89 d90 d94 d95 d99 d103 d104 d108) 113 #[.finished] 694 os), ⟨K .next, codeB, ⟨28, 0, 28, 8⟩, [topFrame q0]⟩) := by kernel_rfl
theorem p21 (w : World) (os : OsState) (K : Flow → Sem PySem.Fin) (H : Value → Sem PySem.Fin) (d75 d80 d84 d85 d89 d90 d94 d95 d99 d103 d104 d108 : SD) : goT pw w 28 annV 1198 (mk (treeS21 w.params d75 d80 d84 d85 d89 d90 d94 d95 d99 d103 d104 d108) 115 #[.finished] 716 os) (th 21 30 K H ⟨29, 0, 29, 29⟩) = some ((mk (treeS51 w.params d75 d80 d84 d85 d89 d90 d94 d95 d99 d103 d104 d108) 299 #[.finished] 1009 os), ⟨K .next, codeB, ⟨313, 0, 313, 8⟩, [topFrame q0]⟩) := by kernel_rfl
theorem p20 (w : World) : ∀ (os : OsState) (K : Flow → Sem PySem.Fin) (H : Value → Sem PySem.Fin) (d75 d80 d84 d85 d89 d90 d94 d95 d99 d103 d104 d108 : SD), goT pw w 28 annV 136 (mk (treeS20 w.params d75 d80 d84 d85 d89 d90 d94 d95 d99 d103 d104 d108) 113 #[.finished] 694 os) (th 20 1 K H ⟨28, 0, 28, 8⟩) = some ((mk (treeS21 w.params d75 d80 d84 d85 d89 d90 d94 d95 d99 d103 d104 d108) 115 #[.finished] 716 os), ⟨K .next, codeB, ⟨29, 0, 29, 29⟩, [topFrame q0]⟩) :=
  byRow2 "special-get-raises" (P := fun w => ∀ (os : OsState) (K : Flow → Sem PySem.Fin) (H : Value → Sem PySem.Fin) (d75 d80 d84 d85 d89 d90 d94 d95 d99 d103 d104 d108 : SD), goT pw w 28 annV 136 (mk (treeS20 w.params d75 d80 d84 d85 d89 d90 d94 d95 d99 d103 d104 d108) 113 #[.finished] 694 os) (th 20 1 K H ⟨28, 0, 28, 8⟩) = some ((mk (treeS21 w.params d75 d80 d84 d85 d89 d90 d94 d95 d99 d103 d104 d108) 115 #[.finished] 716 os), ⟨K .next, codeB, ⟨29, 0, 29, 29⟩, [topFrame q0]⟩)) (fun w => by intros; kernel_rfl) (fun w => by intros; kernel_rfl) w
theorem p51 (w : World) : ∀ (os : OsState) (K : Flow → Sem PySem.Fin) (H : Value → Sem PySem.Fin) (d75 d80 d84 d85 d89 d90 d94 d95 d99 d103 d104 d108 : SD), ∃ k, goT pw w 28 annV k (mk (treeS51 w.params d75 d80 d84 d85 d89 d90 d94 d95 d99 d103 d104 d108) 299 #[.finished] 1009 os) (th 51 1 K H ⟨313, 0, 313, 8⟩) = some ((mk (treeS52 w.params d75 d80 d84 d85 d89 d90 d94 d95 d99 d103 d104 d108) 304 #[.finished] 1155 os), ⟨K .next, codeB, ⟨314, 0, 314, 18⟩, [topFrame q0]⟩) :=
  byRow2 "comprehension-iter-twice" (P := fun w => ∀ (os : OsState) (K : Flow → Sem PySem.Fin) (H : Value → Sem PySem.Fin) (d75 d80 d84 d85 d89 d90 d94 d95 d99 d103 d104 d108 : SD), ∃ k, goT pw w 28 annV k (mk (treeS51 w.params d75 d80 d84 d85 d89 d90 d94 d95 d99 d103 d104 d108) 299 #[.finished] 1009 os) (th 51 1 K H ⟨313, 0, 313, 8⟩) = some ((mk (treeS52 w.params d75 d80 d84 d85 d89 d90 d94 d95 d99 d103 d104 d108) 304 #[.finished] 1155 os), ⟨K .next, codeB, ⟨314, 0, 314, 18⟩, [topFrame q0]⟩))
    (byRow2 "special-get-raises" (P := fun w => (fun w => ∀ (os : OsState) (K : Flow → Sem PySem.Fin) (H : Value → Sem PySem.Fin) (d75 d80 d84 d85 d89 d90 d94 d95 d99 d103 d104 d108 : SD), ∃ k, goT pw w 28 annV k (mk (treeS51 w.params d75 d80 d84 d85 d89 d90 d94 d95 d99 d103 d104 d108) 299 #[.finished] 1009 os) (th 51 1 K H ⟨313, 0, 313, 8⟩) = some ((mk (treeS52 w.params d75 d80 d84 d85 d89 d90 d94 d95 d99 d103 d104 d108) 304 #[.finished] 1155 os), ⟨K .next, codeB, ⟨314, 0, 314, 18⟩, [topFrame q0]⟩)) (w.withFollow "comprehension-iter-twice" false)) (fun w => by intro os K H d75 d80 d84 d85 d89 d90 d94 d95 d99 d103 d104 d108; exact ⟨1252, by kernel_rfl⟩) (fun w => by intro os K H d75 d80 d84 d85 d89 d90 d94 d95 d99 d103 d104 d108; exact ⟨1252, by kernel_rfl⟩))
    (byRow2 "special-get-raises" (P := fun w => (fun w => ∀ (os : OsState) (K : Flow → Sem PySem.Fin) (H : Value → Sem PySem.Fin) (d75 d80 d84 d85 d89 d90 d94 d95 d99 d103 d104 d108 : SD), ∃ k, goT pw w 28 annV k (mk (treeS51 w.params d75 d80 d84 d85 d89 d90 d94 d95 d99 d103 d104 d108) 299 #[.finished] 1009 os) (th 51 1 K H ⟨313, 0, 313, 8⟩) = some ((mk (treeS52 w.params d75 d80 d84 d85 d89 d90 d94 d95 d99 d103 d104 d108) 304 #[.finished] 1155 os), ⟨K .next, codeB, ⟨314, 0, 314, 18⟩, [topFrame q0]⟩)) (w.withFollow "comprehension-iter-twice" true)) (fun w => by intro os K H d75 d80 d84 d85 d89 d90 d94 d95 d99 d103 d104 d108; exact ⟨1242, by kernel_rfl⟩) (fun w => by intro os K H d75 d80 d84 d85 d89 d90 d94 d95 d99 d103 d104 d108; exact ⟨1242, by kernel_rfl⟩)) w
end
section
open PySem PySem.W PySem.Calls PyProof.Rows
set_option maxRecDepth 100000
noncomputable def restAt (i : Nat) : List Stmt := (behindTheImports pw).drop i
noncomputable def thr (i : Nat) (pos : Pos) : Thread := ⟨(execs (restAt i) env0).wrap doneF (leaveH env0) id id, codeB, pos, [topFrame q0]⟩
noncomputable def runT (p : Program) (w : World) (n₀ : Nat) (ann : Option Value) : Nat → SharedT → Thread → Option SharedT
  | 0, _, _ => none
  | n + 1, s, t => match through t with
    | true => some s
    | false => match PySem.W.Fast.tw6613529449190102663 n₀ ann t with
      | false => none
      | true => match PySem.W.Fast.tw10156331382660048174 twDen p w s t with
        | some (s', t') => runT p w n₀ ann n s' t'
        | none => none
theorem runT_sound {p : Program} {w : World} {n₀ : Nat} {ann : Option Value} : ∀ {n : Nat} {s s' : SharedT} {t : Thread}, runT p w n₀ ann n s t = some s' → topRun treeTable p w n₀ ann n s.abs t = some s'.abs
  | 0, s, s', t, h => by cases h
  | n + 1, s, s', t, h => by
    unfold runT at h
    unfold topRun
    cases ht : through t with
    | true => rw [ht] at h; cases h; rfl
    | false =>
      rw [ht] at h
      rw [← PySem.W.Fast.te6613529449190102663] at h
      cases hk : stepOk n₀ ann t with
      | false => rw [hk] at h; cases h
      | true =>
        rw [hk] at h
        rw [← PySem.W.Fast.te10156331382660048174, ← twDen_eq] at h
        cases hs : stepT (denote treeTable) p w s t with
        | none => rw [hs] at h; cases h
        | some r =>
          obtain ⟨s2, t2⟩ := r
          rw [hs] at h
          rw [stepT_spec hs]
          exact runT_sound h
/-- the view: the law alone -/
noncomputable def qv : Program := view pw [61]
noncomputable def looseV : List Str := [Str.ofString "_sre", Str.ofString "_wall", Str.ofString "_WallAttr", Str.ofString "MAX_KEY_PARTS", Str.ofString "ASCII_CTRL", Str.ofString "ILLEGAL_BASIC_STR_CHARS", Str.ofString "ILLEGAL_MULTILINE_BASIC_STR_CHARS", Str.ofString "ILLEGAL_LITERAL_STR_CHARS", Str.ofString "TOML_WS", Str.ofString "TOML_WS_AND_NEWLINE", Str.ofString "ascii_lowercase", Str.ofString "ascii_uppercase", Str.ofString "ascii_letters", Str.ofString "digits", Str.ofString "hexdigits", Str.ofString "BARE_KEY_CHARS", Str.ofString "HEXDIGIT_CHARS", Str.ofString "MappingProxyType", Str.ofString "BASIC_STR_ESCAPE_REPLACEMENTS", Str.ofString "TOMLDecodeError", Str.ofString "skip_chars", Str.ofString "skip_until", Str.ofString "parse_key", Str.ofString "parse_key_part", Str.ofString "parse_one_line_basic_str", Str.ofString "parse_basic_str_escape", Str.ofString "parse_basic_str_escape_multiline", Str.ofString "parse_hex_char", Str.ofString "parse_literal_str", Str.ofString "parse_basic_str", Str.ofString "suffixed_err", Str.ofString "is_unicode_scalar_value", Str.ofString "bytes_types", Str.ofString "_bytes_from_decode_data", Str.ofString "Error", Str.ofString "_ascii_buffer", Str.ofString "_buffer", Str.ofString "_truth", Str.ofString "_B64", Str.ofString "_b64_value", Str.ofString "a2b_base64", Str.ofString "b2a_base64", Str.ofString "b64encode", Str.ofString "b64decode", Str.ofString "_twin_re_1", Str.ofString "_special_chars_map", Str.ofString "escape", Str.ofString "_translate", Str.ofString "_law_octets", Str.ofString "_law_found", Str.ofString "_law_parts", Str.ofString "_law_told"]
noncomputable def modsV : List Str := importedModules pw.main.body
noncomputable def xtV : Shared → Bool := fun s => xlAt qv [] s && recOk [] s
noncomputable def asK : List Addr := [2, 3, 32, 34, 35, 37, 113, 114, 115, 122, 123, 124, 125, 128, 130, 131, 133, 134, 135, 137, 138, 140, 141, 142, 144, 145, 147, 148, 149, 151, 152, 154, 155, 156, 158, 159, 161, 163, 164, 166, 167, 169, 171, 173, 174, 176, 178, 180, 181, 183, 185, 187, 188, 190, 191, 192, 194, 195, 197, 199, 201, 202, 204, 205, 206, 208, 209, 211, 213, 214, 216, 217, 219, 220, 221, 228, 229, 230, 231, 234, 236, 237, 239, 240, 241, 243, 244, 246, 247, 248, 250, 251, 253, 254, 255, 257, 258, 260, 261, 262, 263, 265, 266, 268, 269, 270, 271, 273, 274, 276, 277, 278, 279, 281, 282, 284, 285, 286, 287, 289, 290, 292, 293, 297, 298, 300, 304, 306, 307, 309, 310, 311, 313, 314, 316, 317, 318, 320, 321, 323, 324, 325, 327, 328, 330, 331, 332, 334, 335, 337, 338, 339, 341, 342, 344, 345, 346, 349, 350]
noncomputable def looks1 (P : Params) (s : Shared) : Bool := staticsOk modsV (absHeap (treeS0 P) 28 {}) s.heap && namesBound pw s.heap && gensDone s && laidKept (absHeap (treeS0 P) 28 {}) s.heap
/-- a code table as it stands ahead of its first growth -/
noncomputable def emptyTab : Obj := { cls := .none, data := .fields #[] }
theorem lastRun (w : World) (os : OsState) (d75 d80 d84 d85 d89 d90 d94 d95 d99 d103 d104 d108 : SD) :
  (runT pw w 28 annV 1000 (mk (treeS52 w.params d75 d80 d84 d85 d89 d90 d94 d95 d99 d103 d104 d108) 304 #[.finished] 1155 os) (thr 52 ⟨314, 0, 314, 18⟩)).map (fun s => (looks1 w.params s.abs, openSeen qv looseV modsV xtV false s.abs, asK.map s.abs.heap.get?, [89, 95, 104, 200, 312].map s.abs.heap.get?, s.os)) = some (true, openGood qv looseV, (Kf w.params).map (fun p => some p.2), [some d89.obj, some d95.obj, some d104.obj, some emptyTab, some emptyTab], os) := by kernel_rfl
end
section
open PySem PySem.W PySem.Calls PyProof.Rows
set_option maxRecDepth 100000
noncomputable def Kn (j : Nat) : Flow → Sem PySem.Fin := fun f => match f with
  | .next => (execs (restAt j) env0).wrap doneF (leaveH env0) id id
  | f => doneF f
theorem thr_eq (i n : Nat) (pos : Pos) : thr i pos = th i n (Kn (i + n)) (leaveH env0) pos := by
  unfold thr th
  have e : restAt i = blk i n ++ restAt (i + n) := by
    unfold restAt blk
    rw [← List.drop_drop, List.take_append_drop]
  rw [e, execs_app_wrap]
  rfl
/-- one block on -/
theorem on {w : World} {S S' : Shared} {i n : Nat} {pos pos' : Pos} (h : Ld w S (th i n (Kn (i + n)) (leaveH env0) pos) S' ⟨Kn (i + n) .next, codeB, pos', [topFrame q0]⟩) : Ld w S (thr i pos) S' (thr (i + n) pos') := by
  rw [thr_eq i n]
  exact h
noncomputable def bareL : List Nat := [97, 98, 99, 100, 101, 102, 103, 104, 105, 106, 107, 108, 109, 110, 111, 112, 113, 114, 115, 116, 117, 118, 119, 120, 121, 122, 65, 66, 67, 68, 69, 70, 71, 72, 73, 74, 75, 76, 77, 78, 79, 80, 81, 82, 83, 84, 85, 86, 87, 88, 89, 90, 48, 49, 50, 51, 52, 53, 54, 55, 56, 57, 45, 95]
theorem chain (w : World) (os : OsState) : ∃ d75 d80 d84 d85 d89 d90 d94 d95 d99 d103 d104 d108 : SD, Holds (ctlL.erase (ch 9)) d89.es d89.t ∧ Holds ([32, 9].map ch) d95.es d95.t ∧ Holds (bareL.map ch) d104.es d104.t ∧
    Ld w (mk (treeSb w.params) 32 #[] 282 os).abs (thr 0 q0) (mk (treeS52 w.params d75 d80 d84 d85 d89 d90 d94 d95 d99 d103 d104 d108) 304 #[.finished] 1155 os).abs (thr 52 ⟨314, 0, 314, 18⟩) := by
  have l0 := on (i := 0) (n := 4) (leadsT (ran0_4 w os (Kn 4) (leaveH env0)))
  obtain ⟨d75, d80, d84, h84, l4⟩ := s4 w os (Kn 5) (leaveH env0)
  obtain ⟨d85, d89, h89, l5⟩ := s5 w os (Kn 6) (leaveH env0) d75 d80 d84 h84
  obtain ⟨d90, d94, _, l6⟩ := s6 w os (Kn 7) (leaveH env0) d75 d80 d84 d85 d89 h84
  have l7 := leadsT (p7 w os (Kn 8) (leaveH env0) d75 d80 d84 d85 d89 d90 d94)
  obtain ⟨d95, h95, l8⟩ := s8 w os (Kn 9) (leaveH env0) d75 d80 d84 d85 d89 d90 d94
  obtain ⟨d99, d103, _, l9⟩ := s9 w os (Kn 10) (leaveH env0) d75 d80 d84 d85 d89 d90 d94 d95 h95
  have l10 := leadsT (p10 w os (Kn 15) (leaveH env0) d75 d80 d84 d85 d89 d90 d94 d95 d99 d103)
  obtain ⟨d104, h104, l15⟩ := s15 w os (Kn 16) (leaveH env0) d75 d80 d84 d85 d89 d90 d94 d95 d99 d103
  obtain ⟨d108, _, l16⟩ := s16 w os (Kn 17) (leaveH env0) d75 d80 d84 d85 d89 d90 d94 d95 d99 d103 d104
  have l17 := leadsT (p17 w os (Kn 20) (leaveH env0) d75 d80 d84 d85 d89 d90 d94 d95 d99 d103 d104 d108)
  have l20 := leadsT (p20 w os (Kn 21) (leaveH env0) d75 d80 d84 d85 d89 d90 d94 d95 d99 d103 d104 d108)
  have l21 := leadsT (p21 w os (Kn 51) (leaveH env0) d75 d80 d84 d85 d89 d90 d94 d95 d99 d103 d104 d108)
  obtain ⟨k51, e51⟩ := p51 w os (Kn 52) (leaveH env0) d75 d80 d84 d85 d89 d90 d94 d95 d99 d103 d104 d108
  refine ⟨d75, d80, d84, d85, d89, d90, d94, d95, d99, d103, d104, d108, h89, h95, h104, ?_⟩
  exact l0.trans ((on (i := 4) (n := 1) l4).trans ((on (i := 5) (n := 1) l5).trans ((on (i := 6) (n := 1) l6).trans ((on (i := 7) (n := 1) l7).trans ((on (i := 8) (n := 1) l8).trans ((on (i := 9) (n := 1) l9).trans ((on (i := 10) (n := 5) l10).trans
    ((on (i := 15) (n := 1) l15).trans ((on (i := 16) (n := 1) l16).trans ((on (i := 17) (n := 3) l17).trans ((on (i := 20) (n := 1) l20).trans ((on (i := 21) (n := 30) l21).trans (on (i := 51) (n := 1) (leadsT e51))))))))))))))
/-- the whole top -/
theorem top_all (w : World) (os : OsState) : ∃ (N : Nat) (s₁ : Shared) (d89 d95 d104 : SD), topRun treeTable pw w 28 annV N (mk (treeS0 w.params) 28 #[] 276 os).abs (topStub pw) = some s₁ ∧ looks1 w.params s₁ = true ∧ openSeen qv looseV modsV xtV false s₁ = openGood qv looseV ∧
    asK.map s₁.heap.get? = (Kf w.params).map (fun p => some p.2) ∧ s₁.heap.get? 89 = some d89.obj ∧ s₁.heap.get? 95 = some d95.obj ∧ s₁.heap.get? 104 = some d104.obj ∧ s₁.heap.get? 200 = some emptyTab ∧ s₁.heap.get? 312 = some emptyTab ∧ s₁.os = os ∧
    Holds (ctlL.erase (ch 9)) d89.es d89.t ∧ Holds ([32, 9].map ch) d95.es d95.t ∧ Holds (bareL.map ch) d104.es d104.t := by
  obtain ⟨d75, d80, d84, d85, d89, d90, d94, d95, d99, d103, d104, d108, h89, h95, h104, k, hk⟩ := chain w os
  obtain ⟨sT, hr, e⟩ := Option.map_eq_some_iff.mp (lastRun w os d75 d80 d84 d85 d89 d90 d94 d95 d99 d103 d104 d108)
  simp only [Prod.mk.injEq, List.map_cons, List.map_nil, List.cons.injEq, and_true] at e
  obtain ⟨e1, e2, e3, ⟨e4, e5, e6, e8, e9⟩, e7⟩ := e
  have r1 := runT_sound hr
  have r2 := go_top hk r1
  have r3 : topRun treeTable pw w 28 annV (0 + 1 + (k + 1000)) (mk (treeSb w.params) 32 #[] 282 os).abs ⟨denote treeTable codeB, codeB, q0, [topFrame q0]⟩ = some sT.abs := by
    refine piece_block (n := 0 + 1) (N := k + 1000) (b := behindTheImports pw) (env := env0) (s' := (mk (treeSb w.params) 32 #[] 282 os).abs) (p' := q0) ?_ r2
    kernel_rfl
  exact ⟨_, sT.abs, d89, d95, d104, go_top (pre0 w os) r3, e1, e2, e3, e4, e5, e6, e8, e9, e7, h89, h95, h104⟩
end
section
open PySem PySem.W PySem.Calls PyProof.Rows
set_option maxRecDepth 100000
noncomputable def L89 : List Str := ctlL.erase (ch 9)
noncomputable def L95 : List Str := [32, 9].map ch
noncomputable def L104 : List Str := bareL.map ch
noncomputable def SetAt (h : Heap) (a : Addr) (L : List Str) : Prop := ∃ d : SD, h.get? a = some d.obj ∧ Holds L d.es d.t
/-- what the top leaves: the written part and three sets -/
structure Says (w : World) (h : Heap) : Prop where
  k : (Kf w.params).In h
  ctl : SetAt h 89 L89
  ws : SetAt h 95 L95
  bare : SetAt h 104 L104
  t200 : h.get? 200 = some emptyTab
  t312 : h.get? 312 = some emptyTab
theorem SetAt.keeps {h h' : Heap} {a : Addr} {L : List Str} (x : SetAt h a L) (k : ∀ b o, h.get? b = some o → h'.get? b = some o) : SetAt h' a L := let ⟨d, e, hd⟩ := x; ⟨d, k _ _ e, hd⟩
theorem Says.keeps {w : World} {h h' : Heap} (x : Says w h) (k : ∀ b o, h.get? b = some o → h'.get? b = some o) : Says w h' := ⟨x.k.keeps k, x.ctl.keeps k, x.ws.keeps k, x.bare.keeps k, k _ _ x.t200, k _ _ x.t312⟩
theorem asK_eq (P : Params) : asK = (Kf P).map (·.1) := by kernel_rfl
theorem chainsV : chainsOk qv = true := by kernel_rfl

theorem behind (w : World) : (∃ s, AfterRun (opening pw) w s) ∧ ∀ s, AfterRun (opening pw) w s → ∃ s₀, fenceModules? pw s = some s₀ ∧ s₀.gens = #[] ∧ ∃ s₁, TopRan pw w s₀ s₁ ∧ s₁.asleep ∧ leftWithCleanup s₁.gens = false ∧ s₁.heap.isNs mainGlobals = true ∧
    Ground qv looseV [] (XL qv []) w s₁ (s₁.heap.nsMap mainGlobals) (s₁.heap.nsMap builtinsNs) s₁.heap ∧ Says w s₁.heap := by
  have h2 := open0 w 1000 (by decide)
  rw [← table_eq_tree] at h2
  obtain ⟨s, h4, h5⟩ := Option.bind_eq_some_iff.mp h2
  have A := AfterImport.of_importEnds h4
  refine ⟨⟨s, A⟩, fun s' hs' => ?_⟩
  obtain rfl : s' = s := AfterImport.unique hs' A
  generalize ho : (start (opening pw)).1.os = os at h5
  have z : (mk (treeS0 w.params) 28 #[] 276 os).abs.asleep := Shared.asleep_of_life (fence_lifeW h5) A.life
  obtain ⟨N, s₁, d89, d95, d104, hr, hl, hsn, hK, g1, g2, g3, g4, g5, hos, q1, q2, q3⟩ := top_all w os
  rw [← table_eq_tree] at hr
  obtain ⟨hs, hlk⟩ := Bool.and_eq_true_iff.mp hl
  obtain ⟨hs, hgd⟩ := Bool.and_eq_true_iff.mp hs
  obtain ⟨hs, hnb⟩ := Bool.and_eq_true_iff.mp hs
  obtain ⟨a, l, hos1, fr⟩ := topRun_spec _ _ _ _ z hr
  obtain ⟨G, k0, k1, k2, k3, k4, k5⟩ := ground_of_open (XP := XL qv []) (w := w) (fun s e => xl_of s (Bool.and_eq_true_iff.mp e).1) chainsV hsn
  have hg : (mk (treeS0 w.params) 28 #[] 276 os).abs.heap.isNs mainGlobals = true := by kernel_rfl
  have hann : (mk (treeS0 w.params) 28 #[] 276 os).abs.heap.nsMap mainGlobals "__annotations__" = annV := by kernel_rfl
  refine ⟨_, h5, rfl, s₁, ⟨a, l, Shared.rest_eq hos1, fun b o hb hn => fr b o (by have := Heap.lt_size hb; rw [mk_size] at this; exact this) (fun q => hn (.inl q)) (fun q => hn (.inr (.inl q))) (fun q => hn (.inr (.inr ((Pin.globalOf_eq hg _).trans (hann.trans q))))) hb,
    k2, statics_of_ok hs, k3, k4, k5, gens_of_done hgd, names_of_bound hnb, laid_of_kept hlk⟩, Shared.asleep_of_life l z, by simpa using k0, k1, G, ?_⟩
  exact ⟨Frag.in_of (asK_eq w.params) hK, ⟨d89, g1, q1⟩, ⟨d95, g2, q2⟩, ⟨d104, g3, q3⟩, g4, g5⟩
end
section
open PySem PySem.W PySem.Spec PySem.Calls PyProof.Rows
set_option maxRecDepth 100000
set_option maxHeartbeats 8000000
section
variable {prog : Program} {w : World} {A A₀ : Around} {E : Value → Shared → Prop} {s : Shared} {K : Frag} {C L : Addr} {h₀ base : Heap} {m mg mb : Str → Option Value} {news : List (Addr × Obj)} {p : Program} {loose : List Str} {mean : ExcName → Option Value} {Q : Value → Shared → Prop}
/-- a call of a function whose text is named, not written -/
theorem code_fd {i : Nat} {params : Arguments} {body : List Stmt} {scope : Scope} (e : fd i = (params, body, scope)) {env : Env} {outer : List Env} {R : Result → Shared → Prop} {name qual : Str} {dV kV doc pm cdv ct oc : Value} {an od : Option Addr} {osl : Array (Option Value)} {f : Addr} {args : Args} {binds : List (Str × Value)}
    (B : Below A₀ base outer h₀) (F : Fr h₀ L s.heap m) (X₀ : K.In h₀) (N : News h₀ L s.heap news) (T : Top p loose mean mg mb h₀) (hA : A.frames = some (env :: outer)) (hf : env.frame = some L) (hke : env.scope.kind = .function)
    (ho : K.lookup f = some ⟨oc, od, .func (fnOf name qual (fd i).1 (fd i).2.1 (fd i).2.2 dV kV doc pm an cdv ct), osl⟩) (hcd : codeIn K cdv qual = true) (hroom : A.depth < recursionLimit)
    (hbind : BindsTo s (fnOf name qual params body scope dV kV doc pm an cdv ct) args binds) (hloc : ∀ y ∈ binds, scope.names.lookup y.1 = some .local)
    (h : ∀ g L' h₁, Fr h₀ L g m → Fr g L' h₁ (fun y => binds.reverse.lookup y) → News g L' h₁ news → Below A base (env :: outer) g → K.In g → Top p loose mean mg mb g →
      wpAny (model prog w) (A.deeper (envOf qual scope L' f cdv)) (execs body (envOf qual scope L' f cdv))
        (fun fl s' => LeaveK h₀ L m g R (match fl with | .ret v => v | _ => .none) s')
        (fun e s' => wpAny (model prog w) (A.deeper (envOf qual scope L' f cdv)) (leaving (envOf qual scope L' f cdv) e) (fun _ s'' => R (.error e) s'') (fun e' s'' => R (.error e') s'') s')
        { s with heap := h₁, toks := s.toks + binds.length })
    (hco : scope.isCoroutine = false) (hgen : scope.isGenerator = false) (hk : scope.kind = .function)
    (hcell : ∀ x ∈ scope.names, x.2 ≠ .cell) : codeAny (model prog w) A (.call (.ref f) args) R s :=
  code_def B F X₀ N T hA hf hke (by rw [e] at ho; exact ho) hcd hroom hbind hloc h hco hgen hk hcell
end
section
variable {M : PySem.Model} {A : Around} {E : Value → Shared → Prop} {s : Shared} {env : Env} {st : Stmt} {rest : List Stmt} {Q q : Flow → Shared → Prop}
/-- a post that is named: what stands behind a statement is said once -/
noncomputable def PostV (q : Flow → Shared → Prop) (f : Flow) (s : Shared) : Prop := q f s
noncomputable def SeqV (M : PySem.Model) (A : Around) (env : Env) (rest : List Stmt) (Q : Flow → Shared → Prop) (E : Value → Shared → Prop) (q : Flow → Shared → Prop) : Prop :=
  ∀ f s, (match f with | .next => wpAny M A (execs rest env) Q E s | f => Q f s) → q f s
theorem exec_var {hp : Heap} {g : Array GenState} {d : Drawn} {X : Nat} {o : OsState} (h : ∀ q tk, SeqV M A env rest Q E q → wpAny M A (exec st env) (PostV q) E ⟨hp, g, d, tk, o⟩) :
    wpAny M A (execs (st :: rest) env) Q E ⟨hp, g, d, X, o⟩ := wpAny_execs_cons (h (fun f s' => match f with | .next => wpAny M A (execs rest env) Q E s' | f => Q f s') X fun _ _ g => g)
theorem exec_one {hp : Heap} {g : Array GenState} {d : Drawn} {X : Nat} {o : OsState} (h : ∀ tk, wpAny M A (exec st env) Q E ⟨hp, g, d, tk, o⟩) : wpAny M A (execs [st] env) Q E ⟨hp, g, d, X, o⟩ :=
  wpAny_execs_cons (wpAny_mono (h X) (fun f s' g => by cases f <;> first | exact wpAny_execs_nil g | exact g) fun _ _ g => g)
theorem seq_next (h : SeqV M A env rest Q E q) (g : wpAny M A (execs rest env) Q E s) : PostV q .next s := h .next s g
theorem seq_brk (h : SeqV M A env rest Q E q) (g : Q .brk s) : PostV q .brk s := h .brk s g
theorem seq_cont (h : SeqV M A env rest Q E q) (g : Q .cont s) : PostV q .cont s := h .cont s g
theorem seq_ret {v : Value} (h : SeqV M A env rest Q E q) (g : Q (.ret v) s) : PostV q (.ret v) s := h (.ret v) s g
end
theorem kc {m : Str → Option Value} {x : Str} {v : Value} {l : List (Str × Value)} (h : m x = some v) (t : ∀ p ∈ l, m p.1 = some p.2) : ∀ p ∈ (x, v) :: l, m p.1 = some p.2 := List.forall_mem_cons.mpr ⟨h, t⟩
theorem kn {m : Str → Option Value} : ∀ p ∈ ([] : List (Str × Value)), m p.1 = some p.2 := List.forall_mem_nil _
section
variable {M : PySem.Model} {A : Around} {E : Value → Shared → Prop} {s : Shared} {h₀ : Heap} {L a : Addr} {m : Str → Option Value} {cn : Str} {cs : Scope} {ccd : Value} {cl : List (Str × Addr)} {x : Str} {v : Value} {Q : Unit → Shared → Prop} {news : List (Addr × Obj)}
theorem storeL (F : Fr h₀ L s.heap m) (N : News h₀ L s.heap news)
    (h : let m' := fun y => if y = x then some v else m y; ∀ h', Fr h₀ L h' m' → News h₀ L h' news → Q () { s with heap := h', toks := s.toks + 1 })
    (hk : cs.kind = .function := by rfl) (hx : (envX cn cs L a ccd cl).kindOf x = some .local := by rfl) : wpAny M A (storeName (envX cn cs L a ccd cl) x v) Q E s := storeX_L F N h hk hx
theorem name_A {α : Type} {t : Sem α} {Q : α → Shared → Prop} (h : let A' := A; wpAny M A' t Q E s) : wpAny M A t Q E s := h
end
theorem roomk {dp n R : Nat} (k : Nat) (h : dp + n < R) (hk : Nat.ble k n = true) : dp + k < R := Nat.lt_of_le_of_lt (Nat.add_le_add_left (Nat.le_of_ble_eq_true hk) dp) h
section
variable {prog : Program} {w : World} {A₀ A : Around} {s : Shared} {base h₀ g₀ : Heap} {outer : List Env} {L a : Addr} {m : Str → Option Value} {cn : Str} {cs : Scope} {ccd : Value} {news : List (Addr × Obj)} {K : Frag} {p : Program} {loose : List Str} {mean : ExcName → Option Value} {mg mb : Str → Option Value}
    {R : Result → Shared → Prop} {name qual : Str} {params : Arguments} {body : List Stmt} {scope : Scope} {dV kV doc pm cdv ct oc : Value} {an od : Option Addr} {osl : Array (Option Value)} {f : Addr} {args : Args} {binds : List (Str × Value)}
theorem code_fdS {i : Nat} (e : fd i = (params, body, scope)) (B : Below A₀ base outer h₀) (F : Fr h₀ L s.heap m) (X₀ : K.In h₀) (N : News h₀ L s.heap news) (T : Top p loose mean mg mb h₀) (XB : K.In base) (TB : Top p loose mean mg mb base) (D : KtsDicts (outer.filterMap (·.frame)) h₀)
    (T0 : KtsTurn (outer.filterMap (·.frame)) g₀ h₀) (hA : A.frames = some (envOf cn cs L a ccd :: outer))
    (ho : K.lookup f = some ⟨oc, od, .func (fnOf name qual (fd i).1 (fd i).2.1 (fd i).2.2 dV kV doc pm an cdv ct), osl⟩) (hcd : codeIn K cdv qual = true) (hroom : A.depth < recursionLimit)
    (hbind : BindsTo s (fnOf name qual params body scope dV kV doc pm an cdv ct) args binds) (hloc : ∀ y ∈ binds, scope.names.lookup y.1 = some .local)
    (h : ∀ g L' h₁, Fr h₀ L g m → Fr g L' h₁ (fun y => binds.reverse.lookup y) → News g L' h₁ news → Below A base (envOf cn cs L a ccd :: outer) g → K.In g → Top p loose mean mg mb g → KtsDicts ((envOf cn cs L a ccd :: outer).filterMap (·.frame)) g →
      wpAny (model prog w) (A.deeper (envOf qual scope L' f cdv)) (execs body (envOf qual scope L' f cdv))
        (fun fl s' => LeaveS ((envOf cn cs L a ccd :: outer).filterMap (·.frame)) A₀ base outer K p loose mean mg mb g₀ h₀ L m g R (match fl with | .ret v => v | _ => .none) s')
        (fun e s' => wpAny (model prog w) (A.deeper (envOf qual scope L' f cdv)) (leaving (envOf qual scope L' f cdv) e) (fun _ s'' => R (.error e) s'') (fun e' s'' => R (.error e') s'') s')
        { s with heap := h₁, toks := s.toks + binds.length })
    (hck : cs.kind = .function) (hco : scope.isCoroutine = false) (hgen : scope.isGenerator = false) (hk : scope.kind = .function)
    (hcell : ∀ x ∈ scope.names, x.2 ≠ .cell) : codeAny (model prog w) A (.call (.ref f) args) R s :=
  code_defS B F X₀ N T XB TB D T0 hA (by rw [e] at ho; exact ho) hcd hroom hbind hloc h hck hco hgen hk hcell
end
/-- what stands behind a test is said once -/
noncomputable def PostB (k : Bool → Shared → Prop) (b : Bool) (s : Shared) : Prop := k b s
section
variable {M : PySem.Model} {A : Around} {E : Value → Shared → Prop} {s : Shared} {env : Env} {test : PySem.Expr} {body orelse : List Stmt} {pos : Pos} {Q : Flow → Shared → Prop} {k : Bool → Shared → Prop} {b : Bool}
noncomputable def IfV (M : PySem.Model) (A : Around) (env : Env) (body orelse : List Stmt) (Q : Flow → Shared → Prop) (E : Value → Shared → Prop) (k : Bool → Shared → Prop) : Prop :=
  ∀ b s, (if b = true then wpAny M A (execs body env) Q E s else wpAny M A (execs orelse env) Q E s) → k b s
theorem if_var (h : ∀ k, IfV M A env body orelse Q E k → wpAny M A (isTrue test env (eval test env)) (PostB k) E s) : wpAny M A (exec (.If test body orelse pos) env) Q E s := wpAny_If (h _ fun _ _ g => g)
theorem if_g (h : IfV M A env body orelse Q E k) (g : if b = true then wpAny M A (execs body env) Q E s else wpAny M A (execs orelse env) Q E s) : PostB k b s := h b s g
theorem if_t (h : IfV M A env body orelse Q E k) (g : wpAny M A (execs body env) Q E s) : PostB k true s := if_g h (by rw [if_pos rfl]; exact g)
theorem if_f (h : IfV M A env body orelse Q E k) (g : wpAny M A (execs orelse env) Q E s) : PostB k false s := if_g h (by rw [if_neg Bool.false_ne_true]; exact g)
end
noncomputable def e58 := show fd 58 = _ from by (conv => lhs; whnf)
end
open PySem PySem.W PySem.Spec PySem.Calls PyProof.Rows
local macro_rules | `(tactic| walk_at "ENTER") => `(tactic| (refine' code_fd ?zke ?zk1 ?zk2 ?zk3 ?zk4 ?zk5 ?zkA ?zkF ?zkK ?zk6 ?zk7 ?zk8 ?zk9 ?zkB ?_ ?zc2 ?zc3 ?zc4 ?zc5; (case zke => assumption); (case zkA => exact rfl); (case zkF => exact rfl); (case zkK => assumption); (case zk1 => k_asm); (case zk2 => k_asm); (case zk3 => k_asm); (case zk4 => k_asm); (case zk5 => k_asm); (case zk6 => k_is); (case zk7 => k_is); (case zk8 => ktr_room); (case zk9 => exact BindsTo.of_eq rfl); (case zc5 => decide); (case zkB => exact locs rfl); (case zc2 => exact rfl); (case zc3 => exact rfl); (case zc4 => exact rfl); k_whole; intro g' L' h' FG' F' N' B' X' T'; (try dsimp only); (try k_lift B'); (try k_fold); (try (with_reducible refine name_A ?_; intro A9))))
local macro_rules | `(tactic| walk_at "ENTERS") => `(tactic| (refine' code_fdS ?zke ?zk1 ?zk2 ?zk3 ?zk4 ?zk5 ?zXB ?zTB ?zD KtsTurn.refl ?zkA ?zk6 ?zk7 ?zk8 ?zk9 ?zkB ?_ ?zcK ?zc2 ?zc3 ?zc4 ?zc5; (case zke => assumption); (case zkA => exact rfl); (case zk2 => k_asm); (case zk1 => k_asm); (case zXB => assumption); (case zTB => assumption); (case zD => assumption); (case zk3 => k_asm); (case zk4 => k_asm); (case zk5 => k_asm); (case zk6 => k_is); (case zk7 => k_is); (case zk8 => ktr_room); (case zk9 => exact BindsTo.of_eq rfl); (case zkB => exact locs rfl); (case zcK => assumption); (case zc2 => exact rfl); (case zc3 => exact rfl); (case zc4 => exact rfl); (case zc5 => decide); k_whole; intro g' L' h' FG' F' N' B' X' T' D'; (try dsimp only); (try k_lift B'); (try k_fold); (try (with_reducible refine name_A ?_; intro A9))))
local macro_rules | `(tactic| walk_at "execs cons") => `(tactic| (k_here; with_reducible refine exec_var ?_; intro q9 tk9 hS9; (try dsimp only)))
local macro_rules | `(tactic| walk_at "execs cons") => `(tactic| (k_here; with_reducible refine exec_one ?_; intro tk9; (try dsimp only)))
local macro_rules | `(tactic| walk_at "PostV") => `(tactic| (first | with_reducible refine seq_next (by assumption) ?_ | with_reducible refine seq_ret (by assumption) ?_ | with_reducible refine seq_cont (by assumption) ?_ | with_reducible refine seq_brk (by assumption) ?_))
local macro_rules | `(tactic| walk_at "exec If") => `(tactic| (k_here; with_reducible refine if_var ?_; intro k9 hK9))
local macro_rules | `(tactic| walk_at "PostB") => `(tactic| (first | with_reducible refine if_t (by assumption) ?_ | with_reducible refine if_f (by assumption) ?_ | with_reducible refine if_g (by assumption) ?_ | fail "PostB"))
local macro_rules | `(tactic| walk_at "storeName") => `(tactic| (k_here; k_dflt (refine' storeL ?zF ?zN ?_ ?za ?zb; (case zF => k_asm); (case zN => k_asm); (case za => rfl); (case zb => rfl); k_whole); intro m9 h9 F9s N9s; (try k_sweep)))
local macro_rules | `(tactic| lcg_off) => `(tactic| with_reducible assumption)
local macro_rules | `(tactic| k_ne) => `(tactic| (first | with_reducible assumption | exact Ne.symm (by with_reducible assumption) | exact Nat.ne_of_lt (by with_reducible assumption) | exact Nat.ne_of_gt (by with_reducible assumption) | fail "k_ne"))
local macro_rules | `(tactic| ktr_room) => `(tactic| (k_dflt (first | exact roomk 1 (by with_reducible assumption) rfl | exact roomk 2 (by with_reducible assumption) rfl | exact roomk 3 (by with_reducible assumption) rfl | exact roomk 4 (by with_reducible assumption) rfl | exact roomk 8 (by with_reducible assumption) rfl | exact roomk 11 (by with_reducible assumption) rfl | exact roomk 14 (by with_reducible assumption) rfl | exact roomk 16 (by with_reducible assumption) rfl | exact roomk 17 (by with_reducible assumption) rfl | exact roomk 19 (by with_reducible assumption) rfl | exact roomk 20 (by with_reducible assumption) rfl | exact roomk 24 (by with_reducible assumption) rfl | exact roomk 28 (by with_reducible assumption) rfl | fail "room")))
local macro_rules | `(tactic| ktr_units) => `(tactic| ktr_room)
local macro_rules | `(tactic| walk_at $s:str) => `(tactic| k_extra $s)
section
open PySem PySem.W PySem.Spec PySem.Calls PyProof.Rows
set_option maxRecDepth 100000
set_option maxHeartbeats 8000000
theorem lines_W2_0 : True := by
  k_with_none
  k_with "call type:type" => (k_here; (with_reducible show wpAny _ _ (call _ [Value.bytes _ _]) _ _ _); refine call_type_of (Tx := "bytes") rfl (by decide +kernel) ?_)
  trivial

noncomputable def b64v (c : Int) : Int := if 65 ≤ c ∧ c ≤ 90 then c - 65 else if 97 ≤ c ∧ c ≤ 122 then c - 71 else if 48 ≤ c ∧ c ≤ 57 then c + 4 else if c = 43 then 62 else if c = 47 then 63 else 64
section
variable {w : World} {pv : Program} {loose : List Str} {mean : ExcName → Option Value} {mg mb : Str → Option Value}
    {dp un : Nat} {gd : Option (List Code)} {cn : Str} {cs : Scope} {a : Addr} {ccd : Value} {cl : List (Str × Addr)} {outer : List Env} {A₀ : Around} {base h₀ : Heap} {L : Addr} {m : Str → Option Value} {news : List (Addr × Obj)} {s : Shared}
    {Q E : Value → Shared → Prop}
theorem bytes_from_ok {b : Array UInt8} {tb : Tok} (B : Below A₀ base outer h₀) (F : Fr h₀ L s.heap m) (X : (Kf w.params).In h₀) (N : News h₀ L s.heap news) (T : Top pv loose mean mg mb h₀) (hk : cs.kind = .function)
    (hd : dp + 1 < recursionLimit) (hu : un + 8 < cLine) (ret : ∀ h' tk', Fr h₀ L h' m → News h₀ L h' news → Q (.bytes b tb) { s with heap := h', toks := tk' }) :
    wpAny (model PySem.Challenge.rw_il0176_01.prog w) (ktrTop dp un gd cn cs L a ccd cl outer) (call (.ref 220) [.bytes b tb]) Q E s := by
  revert X; k_fill; intro X
  have hfd := show fd 37 = _ from by (conv => lhs; whnf)
  refine wpAny_call ?_
  k_dflt (walk_at "ENTER")
  clear hfd
  k_steps
  all_goals exact ret _ _ (by k_asm) (by k_asm)
theorem ascii_buffer_ok {b : Array UInt8} {tb : Tok} (B : Below A₀ base outer h₀) (F : Fr h₀ L s.heap m) (X : (Kf w.params).In h₀) (N : News h₀ L s.heap news) (T : Top pv loose mean mg mb h₀) (hk : cs.kind = .function)
    (hd : dp + 1 < recursionLimit) (hu : un + 8 < cLine) (ret : ∀ h' tk', Fr h₀ L h' m → News h₀ L h' news → Q (.bytes b tb) { s with heap := h', toks := tk' }) :
    wpAny (model PySem.Challenge.rw_il0176_01.prog w) (ktrTop dp un gd cn cs L a ccd cl outer) (call (.ref 240) [.bytes b tb]) Q E s := by
  revert X; k_fill; intro X
  have hfd := show fd 40 = _ from by (conv => lhs; whnf)
  refine wpAny_call ?_
  k_dflt (walk_at "ENTER")
  clear hfd
  k_steps
  all_goals exact ret _ _ (by k_asm) (by k_asm)
theorem buffer_ok {b : Array UInt8} {tb : Tok} (B : Below A₀ base outer h₀) (F : Fr h₀ L s.heap m) (X : (Kf w.params).In h₀) (N : News h₀ L s.heap news) (T : Top pv loose mean mg mb h₀) (hk : cs.kind = .function)
    (hd : dp + 1 < recursionLimit) (hu : un + 8 < cLine) (ret : ∀ h' tk', Fr h₀ L h' m → News h₀ L h' news → Q (.bytes b tb) { s with heap := h', toks := tk' }) :
    wpAny (model PySem.Challenge.rw_il0176_01.prog w) (ktrTop dp un gd cn cs L a ccd cl outer) (call (.ref 247) [.bytes b tb]) Q E s := by
  revert X; k_fill; intro X
  have hfd := show fd 41 = _ from by (conv => lhs; whnf)
  refine wpAny_call ?_
  k_dflt (walk_at "ENTER")
  clear hfd
  k_steps
  all_goals exact ret _ _ (by k_asm) (by k_asm)
theorem truth_ok (B : Below A₀ base outer h₀) (F : Fr h₀ L s.heap m) (X : (Kf w.params).In h₀) (N : News h₀ L s.heap news) (T : Top pv loose mean mg mb h₀) (hk : cs.kind = .function)
    (hd : dp + 1 < recursionLimit) (hu : un + 8 < cLine) (ret : ∀ h' tk', Fr h₀ L h' m → News h₀ L h' news → Q (.bool false) { s with heap := h', toks := tk' }) :
    wpAny (model PySem.Challenge.rw_il0176_01.prog w) (ktrTop dp un gd cn cs L a ccd cl outer) (call (.ref 254) [.bool false]) Q E s := by
  revert X; k_fill; intro X
  have hfd := show fd 42 = _ from by (conv => lhs; whnf)
  refine wpAny_call ?_
  k_dflt (walk_at "ENTER")
  clear hfd
  k_steps
  all_goals exact ret _ _ (by k_asm) (by k_asm)
theorem b64_value_ok {c : Int} {tc : Tok} (B : Below A₀ base outer h₀) (F : Fr h₀ L s.heap m) (X : (Kf w.params).In h₀) (N : News h₀ L s.heap news) (T : Top pv loose mean mg mb h₀) (hk : cs.kind = .function)
    (hd : dp + 1 < recursionLimit) (hu : un + 8 < cLine) (ret : ∀ t h' tk', Fr h₀ L h' m → News h₀ L h' news → Q (.int (b64v c) t) { s with heap := h', toks := tk' }) :
    wpAny (model PySem.Challenge.rw_il0176_01.prog w) (ktrTop dp un gd cn cs L a ccd cl outer) (call (.ref 261) [.int c tc]) Q E s := by
  revert X; k_fill; intro X
  have hfd := show fd 44 = _ from by (conv => lhs; whnf)
  refine wpAny_call ?_
  k_dflt (walk_at "ENTER")
  clear hfd
  k_steps
  all_goals (refine cb_retI ret ?_ (by k_asm) (by k_asm); unfold b64v; (repeat' split) <;> omega)
end
end
section
open PySem PySem.W PySem.Spec PySem.Calls PyProof.Rows
set_option maxRecDepth 100000
set_option maxHeartbeats 8000000
section
variable {prog : Program} {w : World} {A : Around} {E : Value → Shared → Prop} {s : Shared} {a Lf : Addr} {h₀ : Heap} {m : Str → Option Value} {S : List Str}
theorem find_str {es : Array (Int × Value)} {ep : Nat} {t : SetTable} {x : Str} {tk : Tok} {hx : Int} {Q : Option Nat → Shared → Prop} (ho : s.heap.get? a = some (setObj es ep t)) (hh : Holds S es t) (hl : S.length < 4096)
    (q : ∀ r : Option Nat, r.isSome = decide (x ∈ S) → Q r s) : wpAny (model prog w) A (setFind a (.str x tk) hx) Q E s := by
  unfold setFind setFindIn
  refine wpAny_bind (wpAny_setState_of ho rfl hh.2 ?_)
  dsimp only
  rw [hh.byScan (x := .str x tk) rfl hl]
  simp only [↓reduceIte]
  refine wpAny_bind (wpAny_rule ?_)
  have hf := hh.find x
  have scan : wpAny (model prog w) A (setScan a (.str x tk) hx false es) (fun r s' => s' = s ∧ (match r with | .found i => decide (x ∈ S) = true | .absent => decide (x ∈ S) = false | .anew => False)) E s := by
    unfold setScan
    dsimp only
    rw [if_pos hh.exact]
    unfold setScanStrs
    cases hi : es.findIdx? (·.2.isStr x) with
    | none => rw [hi] at hf; exact wpAny_pure ⟨rfl, hf.symm⟩
    | some i =>
      rw [hi] at hf
      obtain ⟨hlt, hp, _⟩ := Array.findIdx?_eq_some_iff_getElem.mp hi
      obtain ⟨y, t1, e1, _⟩ := hh.strs es[i] (by simp)
      rw [e1, isStr_str] at hp
      have hyx := of_decide_eq_true hp
      subst hyx
      dsimp only
      have : es[i]? = some (es[i].1, es[i].2) := Array.getElem?_eq_getElem hlt
      rw [this]
      dsimp only
      refine wpAny_bind (wpAny_setEpoch_of ho rfl hh.2 ?_)
      rw [e1]
      refine wpAny_bind (wpAny_eqBool_str ?_)
      simp only [Bool.false_and, Bool.false_eq_true, if_false, decide_true]
      refine wpAny_bind (wpAny_setEpoch_of ho rfl hh.2 ?_)
      rw [bne_self_eq_false]
      simp only [Bool.false_eq_true, if_false, if_true]
      exact wpAny_pure ⟨rfl, hf.symm⟩
  refine wpAny_bind (wpAny_mono scan (fun r s' hr => ?_) fun _ _ x => x)
  obtain ⟨rfl, hr⟩ := hr
  cases r with
  | found i => exact wpAny_pure (q _ (by rw [hr]; rfl))
  | absent => exact wpAny_pure (q _ (by rw [hr]; rfl))
  | anew => exact hr.elim
theorem find_none {es : Array (Int × Value)} {ep : Nat} {t : SetTable} {hx : Int} {Q : Option Nat → Shared → Prop} (ho : s.heap.get? a = some (setObj es ep t)) (hh : Holds S es t) (hl : S.length < 4096)
    (q : Q none s) : wpAny (model prog w) A (setFind a .none hx) Q E s := by
  unfold setFind setFindIn
  refine wpAny_bind (wpAny_setState_of ho rfl hh.2 ?_)
  dsimp only
  rw [hh.byScan (x := .none) rfl hl]
  simp only [↓reduceIte]
  refine wpAny_bind (wpAny_rule ?_)
  have scan : ∀ (l : List (Int × Value)) (i : Nat), (∀ e ∈ l, ∃ x tk, e.2 = Value.str x tk) → wpAny (model prog w) A (setScanFrom a .none hx false l i) (fun r s' => s' = s ∧ r = .absent) E s := by
    intro l
    induction l with
    | nil => intro i _; exact wpAny_pure ⟨rfl, rfl⟩
    | cons e r ih =>
      intro i he
      obtain ⟨h', y⟩ := e
      obtain ⟨x, tk, e1⟩ := he _ (.head _)
      dsimp only at e1
      subst e1
      have go := ih (i + 1) fun e hm => he e (.tail _ hm)
      unfold setScanFrom
      by_cases hq : (h' == hx) = true
      · rw [if_pos hq]
        refine wpAny_bind (wpAny_setEpoch_of ho rfl hh.2 ?_)
        refine wpAny_bind ?_
        unfold eqBool
        try with_reducible refine wpAny_holding ?_
        show wpAny _ _ (richCompare .Eq (.str x tk) .none >>= fun v => truthOfDropped v) _ E s
        refine wpAny_bind ?_
        refine EqNone.eq_str_none ?_
        refine wpAny_truthy_bool ?_
        simp only [Bool.false_and, Bool.false_eq_true, if_false]
        refine wpAny_bind (wpAny_setEpoch_of ho rfl hh.2 ?_)
        rw [bne_self_eq_false]
        simp only [Bool.false_eq_true, if_false]
        exact go
      · rw [if_neg hq]
        exact wpAny_bind (wpAny_pure go)
  refine wpAny_bind (wpAny_mono (scan es.toList 0 fun e he => let ⟨x, tk, e1, _⟩ := hh.strs e he; ⟨x, tk, e1⟩) (fun r s' hr => ?_) fun _ _ x => x)
  obtain ⟨rfl, rfl⟩ := hr
  exact wpAny_pure q
theorem hash_none {Q : Int → Shared → Prop} (h : ∀ n, Q n { s with toks := s.toks + 1 }) : wpAny (model prog w) A (pyHash .none) Q E s :=
  pyHash_slot (T := "NoneType") rfl F.slot_NoneType_hash F.entry_NoneType_hash (F.args_NoneType_hash_1 _) (beq_builtin_none _) (.inl rfl) (wpAny_bind (wpAny_pure (wpAny_bind (wpAny_mkInt (wpAny_pure ⟨_, _, rfl, h _⟩)))))
theorem in_set_any {key : Value} {b : Bool} {Q : Value → Shared → Prop} (F : Fr h₀ Lf s.heap m) (hS : SetAt h₀ a S)
    (hash : ∀ {A : Around} {E : Value → Shared → Prop} {Q : Int → Shared → Prop}, (∀ n, Q n { s with toks := s.toks + 1 }) → wpAny (model prog w) A (pyHash key) Q E s)
    (find : ∀ {A : Around} {E : Value → Shared → Prop} {hx : Int} {Q : Option Nat → Shared → Prop}, (∀ r : Option Nat, r.isSome = b → Q r { s with toks := s.toks + 1 }) → wpAny (model prog w) A (setFind a key hx) Q E { s with toks := s.toks + 1 })
    (h : Q (.bool b) { s with toks := s.toks + 1 }) : wpAny (model prog w) A (compareOp .In key (.ref a)) Q E s := by
  obtain ⟨d, ho, hd⟩ := hS
  have ho := F.keep _ _ ho
  have hT : s.TypeIs (.ref a) "frozenset" := ⟨_, ho, rfl⟩
  show wpAny _ _ (do return .bool (← contains (.ref a) key)) Q E s
  refine wpAny_bind ?_
  unfold contains
  try with_reducible refine wpAny_holding ?_
  refine wpAny_bind (wpAny_specialOf hT FB.slot_frozenset_contains.lookup ?_)
  show wpAny _ _ (if (some (Value.builtin "frozenset.__contains__") == some Value.none) = true then _ else _) _ E s
  rw [if_neg (by rw [beq_builtin_none]; exact Bool.false_ne_true)]
  refine wpAny_bind (wpAny_callSpecialUnlessNone?_slot (name := Str.ofString "__contains__") hT FB.slot_frozenset_contains
    (wpAny_call_entry FB.slot_frozenset_contains hT FB.entry_frozenset_contains ?_ (FB.args_frozenset_contains_2 _ _)))
  unfold Builtin.«frozenset.__contains__» Builtin.Frozenset.oneOther
  simp only [List.isEmpty_nil, bind_assoc]
  unfold Builtin.Frozenset.addrOf Builtin.Frozenset.withSetAsKey setContains
  refine wpAny_bind (wpAny_pure ?_)
  try dsimp only
  refine wpAny_bind (wpAny_pure ?_)
  try dsimp only
  refine wpAny_bind (wpAny_tryCatch ?_)
  refine wpAny_holding ?_
  refine wpAny_bind (hash fun n => ?_)
  refine wpAny_bind (find fun r hr => ?_)
  refine wpAny_pure ?_
  show wpAny _ _ (ret (Value.bool r.isSome)) _ _ _
  rw [hr]
  exact wpAny_pure ⟨_, rfl, wpAny_truthy_bool (wpAny_pure h)⟩
theorem in_set {x : Str} {tk : Tok} {Q : Value → Shared → Prop} (F : Fr h₀ Lf s.heap m) (hS : SetAt h₀ a S) (hl : S.length < 4096)
    (h : Q (.bool (decide (x ∈ S))) { s with toks := s.toks + 1 }) : wpAny (model prog w) A (compareOp .In (.str x tk) (.ref a)) Q E s := by
  have hS' := hS
  obtain ⟨d, ho, hd⟩ := hS'
  have ho := F.keep _ _ ho
  exact in_set_any F hS (fun h => wpAny_pyHash_str (h _)) (fun q => find_str (s := { s with toks := s.toks + 1 }) ho hd hl q) h
theorem none_in_set {Q : Value → Shared → Prop} (F : Fr h₀ Lf s.heap m) (hS : SetAt h₀ a S) (hl : S.length < 4096)
    (h : Q (.bool false) { s with toks := s.toks + 1 }) : wpAny (model prog w) A (compareOp .In .none (.ref a)) Q E s := by
  have hS' := hS
  obtain ⟨d, ho, hd⟩ := hS'
  have ho := F.keep _ _ ho
  exact in_set_any F hS (fun h => hash_none h) (fun q => find_none (s := { s with toks := s.toks + 1 }) ho hd hl (q none rfl)) h
end
end
section
open PySem PySem.W PySem.Spec PySem.Calls PyProof.Rows
set_option maxRecDepth 100000
set_option maxHeartbeats 8000000
section
variable {M : Model} {A : Around} {E : Value → Shared → Prop} {s : Shared}
theorem notes_first {base : Heap} {env : Env} {outer : List Env} {L e : Addr} {oe : Obj} {vs : Array Value} {a0 : Value} {Q : Unit → Shared → Prop}
    (hfr : A.frames = some (env :: outer)) (hl : s.heap.FunFrames base (env :: outer)) (hf : env.frame = some L)
    (he : s.heap.get? e = some oe) (hkb : base.StaysIn s.heap) (hen : base.get? e = none) (hd : oe.data = .fields vs) (h1 : vs[1]? = some .none) (h0 : vs[0]? = some a0)
    (hQ : ∀ h', Heap.HeldW base (env :: outer) e oe.cls a0 L h' → s.heap.UpToSlots h' → Q () { s with heap := h' }) : wpAny M A (noteFrame (.ref e) env) Q E s := by
  unfold noteFrame
  simp only [hf]
  refine wpAny_bind (wpAny_field he hd h1 ?_)
  rw [if_neg (by decide)]
  exact wpAny_entryW hfr hl hf he hkb hen hd (Array.getElem?_eq_some_iff.mp h1).1 h0 fun h' ⟨k1, k2, k3, k4⟩ => hQ h' ⟨k1, hen, k2, k3⟩ k4
end
section
variable {prog : Program} {w : World} {A₀ : Around} {E : Value → Shared → Prop} {s' : Shared} {base g g₀ h : Heap} {outer : List Env} {L a e : Addr} {m : Str → Option Value} {name : Str} {scope : Scope} {cd : Value}
  {b₀ : Stmt} {suite : List Stmt} {pos np : Pos} {rest : List ExceptHandler} {Q : Flow → Shared → Prop} {news : List (Addr × Obj)} {KF : Frag}
  {p : Program} {loose : List Str} {mean : ExcName → Option Value} {mg mb : Str → Option Value} {x : Str} {X T' : String}
/-- an exception that an operation of this very frame raised, caught by this frame's own clause -/
theorem caught_here (K : Below A₀ base outer g) (F : Fr g L h m) (N : News g L h news) (hn9 : Heap.NewExc h s'.heap e X) (XB : KF.In base) (TB : Top p loose mean mg mb base)
    (D : KtsDicts (outer.filterMap (·.frame)) g) (T0 : KtsTurn (outer.filterMap (·.frame)) g₀ g)
    (ex : nsIn KF mainGlobals x = some none) (hv : bootBuiltins x = some (.type T')) (hn' : x ≠ "__name__")
    (hexc : isSubtype (.type T') (.type "BaseException") = pure true) (hnt : isSubtype (.type ((Manifest.find? T').elim "type" fun y => y.metatype)) (.type "tuple") = pure false) (hsub : isSubtype (.type X) (.type T') = pure true)
    (k : ∀ h' g', KtsTurn (outer.filterMap (·.frame)) g₀ g' → Fr g' L h' m → News g' L h' news → Below A₀ base outer g' → KF.In g' → Top p loose mean mg mb g' → KtsDicts (outer.filterMap (·.frame)) g' →
      wpAny (model prog w) ((A₀.deeper (envOf name scope L a cd)).mark (some (.ref e))) (execs (b₀ :: suite) (envOf name scope L a cd)) Q E { s' with heap := h' })
    (hk : scope.kind = .function) (hx : (envOf name scope L a cd).kindOf x = some .globalImplicit) (hd : (x == ("__debug__" : Str)) = false)
    (hE : PassesOwnAt (model prog w) ((A₀.deeper (envOf name scope L a cd)).mark (some (.ref e))) (A₀.deeper (envOf name scope L a cd)) (envOf name scope L a cd) E) :
    wpAny (model prog w) (A₀.deeper (envOf name scope L a cd)) (noteFrame (.ref e) (envOf name scope L a cd))
      (fun _ s₂ => wpAny (model prog w) (A₀.deeper (envOf name scope L a cd)) (setFlight (.ref e) none) (fun _ s₃ =>
        wpAny (model prog w) (A₀.deeper (envOf name scope L a cd)) (handleBy (.ref e) (envOf name scope L a cd) (.ExceptHandler (some (.Name x np)) none (b₀ :: suite) pos :: rest)) Q E s₃) E s₂) E s' := by
  have K' := K.push (name := name) (a := a) (cd := cd) F hk
  have hin : ∀ env ∈ (envOf name scope L a cd :: outer), ∀ b, env.frame = some b → b ∈ (envOf name scope L a cd :: outer).filterMap (·.frame) := fun env he b hb => List.mem_filterMap.mpr ⟨env, he, hb⟩
  generalize hB : hideAll h ((envOf name scope L a cd :: outer).filterMap (·.frame)) = B
  have hBG : ∀ b o, h.get? b = some o → b ∉ (envOf name scope L a cd :: outer).filterMap (·.frame) → B.get? b = some o := fun b o q nm => hB ▸ hideAll_get _ q nm
  have hBh : ∀ b o, B.get? b = some o → h.get? b = some o := fun b o q => of_hideAll _ (hB ▸ q)
  have hBnone : ∀ b, b ∈ (envOf name scope L a cd :: outer).filterMap (·.frame) → B.get? b = none := fun b hm => hB ▸ hideAll_none _ hm
  have hL : B.get? L = none := hBnone L (List.mem_filterMap.mpr ⟨_, .head _, rfl⟩)
  have hl : ∀ q ∈ news, B.get? q.1 = some q.2 := fun q hq => hBG _ _ (N q hq).1 fun hm => by
    obtain ⟨env, he, hf⟩ := List.mem_filterMap.mp hm
    rcases List.mem_cons.mp he with rfl | he
    · exact (N q hq).2.1 (Option.some.inj hf).symm
    · obtain ⟨o, ho, _⟩ := (K.frames.mem (List.mem_filterMap.mpr ⟨env, he, hf⟩)).2
      rw [(N q hq).2.2] at ho; cases ho
  obtain ⟨ob, tp, he, hcls, hdt⟩ := hn9.there
  have hen : B.get? e = none := by
    cases q : B.get? e with
    | none => rfl
    | some o => have := hBh _ _ q; rw [hn9.new] at this; cases this
  have up0 : h.UpToSlots s'.heap := Heap.UpToSlots.of_keeps hn9.keeps
  refine notes_first (base := B) (a0 := tp) K'.stack (hB ▸ (funFrames_hide K'.frames hin).of_keeps fun b o hb _ => ⟨o, hn9.keeps b o hb, rfl⟩) rfl he (fun b o hb => hn9.keeps b o (hBh b o hb)) hen hdt rfl rfl fun h₄ hheld₄ hsm₄ => ?_
  rw [hcls] at hheld₄
  refine wpAny_landsW hheld₄ fun h₅ hheld hsm₅' => ?_
  have hsm₅ := (up0.trans hsm₄).trans hsm₅'
  obtain ⟨g₅, T₅, F₅, K₅⟩ := kts_ground K F hBG hheld.1 hsm₅
  have X₅ : KF.In g₅ := XB.keeps K₅.stays
  have P₅ : TopRead p loose mg mb g₅ := topRead_of (TB.keeps K₅.stays)
  obtain ⟨ob, hob, hobc⟩ := hheld.there
  refine wpAny_handleBy_builtin (X := X) (T := T') (b := true) hexc hnt hsub (name_B F₅ X₅ P₅ ex hv hn' ⟨rfl, ⟨ob, hob, hobc⟩, ?_⟩ hk hx hd)
  refine lands_againW hheld fun h₆ hfl₆ hsm₆ => ?_
  obtain ⟨g₆, T₆, F₆, K₆⟩ := kts_ground K F hBG hfl₆.1 (hsm₅.trans hsm₆)
  have Nl : News g₆ L h₆ news := fun q hq => ⟨hfl₆.1 _ _ (hl q hq), (fun z => by have := hl q hq; rw [z, hL] at this; cases this), T₆.none_ _ (N q hq).2.2⟩
  exact wpAny_passesOwnAt hE (k h₆ g₆ (T0.trans T₆) F₆ Nl K₆ (XB.keeps K₆.stays) (TB.keeps K₆.stays) (D.turn T₆))
end
end
section
open PySem PySem.W PySem.Spec PySem.Calls PyProof.Rows
set_option maxRecDepth 100000
set_option maxHeartbeats 8000000

section
variable {prog : Program} {w : World} {A : Around} {E : Value → Shared → Prop} {s : Shared}
theorem sub_str_or {value slice : PySem.Expr} {x : Str} {t : Tok} {i : Int} {u : Tok} {Q : Value → Shared → Prop} (hA : A.handled = none) (h0 : 0 ≤ i) (hi : i < 2 ^ 62)
    (h1 : i < (x.length : Int) → Q (.str (Txt.item x i) s.toks) { s with toks := s.toks + 1 })
    (h2 : (x.length : Int) ≤ i → ∀ h' tk e, Heap.NewExc s.heap h' e "IndexError" → E (.ref e) { s with heap := h', toks := tk })
    (hs : subscripted slice false (.str x t) (.int i u) = operate [.str x t, .int i u] (getItem (.str x t) (.int i u)))
    (ht : ∀ r, letTemporaryGo value (.str x t) r = pure ()) : wpAny (model prog w) A (subscriptTail value slice (.str x t) (.int i u)) Q E s := by
  by_cases hlt : i < (x.length : Int)
  · exact item_str (fitsSsize_of (N := 9223372036854775808) (by omega) (by omega) (Int.le_refl _)) (by omega) hlt (fun _ => h1 hlt) hs ht
  · have hge : (x.length : Int) ≤ i := Int.not_lt.mp hlt
    refine tail_of_ItemOn ⟨"str", _, F.slot_str_getitem.lookup, typeIs_str _ _ _, ?_⟩ hs ht
    refine getItem_meets (typeIs_str s x t) (by decide) F.slot_str_getitem F.entry_str_getitem (F.args_str_getitem_2 _ _) (raises_str_getitem x i t u ?_ ?_) ⟨hA, h2 hge⟩
    · rw [decide_eq_false (by omega), decide_eq_false (by omega)]; rfl
    · have : seqIndex? i x.length = none := by
        unfold seqIndex?
        simp only [show ¬ i < 0 from by omega, if_false]
        rw [if_neg]
        simp only [Bool.and_eq_true, decide_eq_true_eq]
        omega
      rw [this]; rfl
end
/-- how far the signs from p on lie in S -/
noncomputable def skipTo (S : List Str) (x : Str) (p : Int) : Int := p + (((x.cps.toList.drop p.toNat).takeWhile fun c => decide (ch c ∈ S)).length : Int)
theorem item_ch {x : Str} {i : Int} (h0 : 0 ≤ i) (h1 : i < (x.length : Int)) : ∃ (h : i.toNat < x.cps.toList.length), Txt.item x i = ch x.cps.toList[i.toNat] := by
  have hl : i.toNat < x.cps.size := by have : x.length = x.cps.size := rfl; omega
  refine ⟨by simpa using hl, ?_⟩
  unfold Txt.item Txt.charAt
  have : seqIndex? i x.length = some i.toNat := by
    unfold seqIndex?
    simp only [show ¬ i < 0 from by omega, if_false]
    rw [if_pos]
    simp only [Bool.and_eq_true, decide_eq_true_eq]
    omega
  rw [this]
  simp only [Option.bind_some, Array.getElem?_eq_getElem hl]
  simp [ch]
theorem skip_on {S : List Str} {x : Str} {p : Int} (h0 : 0 ≤ p) (h1 : p < (x.length : Int)) (hS : Txt.item x p ∈ S) : skipTo S x (p + 1) = skipTo S x p := by
  obtain ⟨h, e⟩ := item_ch h0 h1
  rw [e] at hS
  unfold skipTo
  have e1 : (p + 1).toNat = p.toNat + 1 := by omega
  rw [e1, List.drop_eq_getElem_cons h, List.takeWhile_cons, if_pos (by simpa using hS), List.length_cons]
  omega
theorem skip_off {S : List Str} {x : Str} {p : Int} (h0 : 0 ≤ p) (h1 : p < (x.length : Int)) (hS : Txt.item x p ∉ S) : skipTo S x p = p := by
  obtain ⟨h, e⟩ := item_ch h0 h1
  rw [e] at hS
  unfold skipTo
  rw [List.drop_eq_getElem_cons h, List.takeWhile_cons, if_neg (by simpa using hS)]
  simp
theorem skip_end {S : List Str} {x : Str} {p : Int} (h1 : (x.length : Int) ≤ p) : skipTo S x p = p := by
  unfold skipTo
  have : x.cps.toList.drop p.toNat = [] := List.drop_eq_nil_of_le (by have : x.length = x.cps.size := rfl; simp; omega)
  rw [this]; simp
theorem skip_turn {S : List Str} {x : Str} {p q : Int} (h : 0 ≤ q ∧ q ≤ (x.length : Int) ∧ skipTo S x q = skipTo S x p) (h1 : q < (x.length : Int)) (hS : Txt.item x q ∈ S) : 0 ≤ q + 1 ∧ q + 1 ≤ (x.length : Int) ∧ skipTo S x (q + 1) = skipTo S x p :=
  ⟨by omega, by omega, (skip_on h.1 h1 hS).trans h.2.2⟩
theorem skip_out {S : List Str} {x : Str} {p q : Int} (h : 0 ≤ q ∧ q ≤ (x.length : Int) ∧ skipTo S x q = skipTo S x p) (h1 : q < (x.length : Int)) (hS : ¬ Txt.item x q ∈ S) : q = skipTo S x p := (skip_off h.1 h1 hS).symm.trans h.2.2
theorem skip_past {S : List Str} {x : Str} {p q : Int} (h : 0 ≤ q ∧ q ≤ (x.length : Int) ∧ skipTo S x q = skipTo S x p) (h1 : (x.length : Int) ≤ q) : q = skipTo S x p := (skip_end h1).symm.trans h.2.2

theorem lines_W4_0 : True := by
  k_with_none
  k_with "call type:type" => (k_here; (with_reducible show wpAny _ _ (call _ [Value.bytes _ _]) _ _ _); refine call_type_of (Tx := "bytes") rfl (by decide +kernel) ?_)
  k_with "subscriptTail Name Name str int" => (k_here; refine' sub_str_or ?zk0 ?zk1 ?zk2 ?_ ?_ ?zk3 ?zk4; (case zk0 => rfl); (case zk1 => l_fact); (case zk2 => l_fact); (case zk3 => with_unfolding_all rfl); (case zk4 => intro _; with_unfolding_all rfl); (all_goals intros))
  k_with "compareOp In" => (k_here; (with_reducible show wpAny _ _ (compareOp CmpOp.In (Value.str _ _) (Value.ref _)) _ _ _); refine' in_set ?zk1 ?zk2 ?zk3 ?_; (case zk1 => k_asm); (case zk2 => exact SetAt.keeps (by assumption) (Below.stays (by assumption))); (case zk3 => assumption))
  k_with "noteFrame ref" => (k_here; (rename Heap.NewExc _ _ _ _ => nx9); (with_reducible show wpAny _ _ (noteFrame _ _) (fun _ s₂ => wpAny _ _ (setFlight _ none) (fun _ s₃ => wpAny _ _ (handleBy _ _ (ExceptHandler.ExceptHandler (some (Expr.Name ("IndexError" : Str) _)) none _ _ :: _)) _ _ s₃) _ s₂) _ _); k_dflt (refine' caught_here (X := "IndexError") (T' := "IndexError") ?zK ?zF ?zN nx9 ?zXB ?zTB ?zD ?zT0 ?zex PyProof.Rows.Boot.«IndexError» ?zhn PySem.F.isExc_IndexError PySem.F.notTuple_IndexError ?zhs ?_ ?zhk ?zhx ?zhd ?zhE; (case zF => assumption); (case zN => assumption); (case zK => assumption); (case zXB => assumption); (case zTB => assumption); (case zD => assumption); (case zT0 => first | assumption | exact KtsTurn.refl); (case zhs => rw [isSubtype_type]; kernel_rfl); (case zex => k_is); (case zhn => decide); (case zhk => exact rfl); (case zhx => exact rfl); (case zhd => decide); (case zhE => passes_own); k_whole); clear nx9; intro h' g' T' F' N' K' X' P' D'; (try k_lift K'); (try k_sweep))
  k_with "noteFrame ref" => (k_here; (rename Heap.NewExc _ _ _ _ => nx9); (with_reducible show wpAny _ _ (noteFrame _ _) (fun _ s₂ => wpAny _ _ (setFlight _ none) (fun _ s₃ => wpAny _ _ (handleBy _ _ (ExceptHandler.ExceptHandler (some (Expr.Name ("ValueError" : Str) _)) none _ _ :: _)) _ _ s₃) _ s₂) _ _); k_dflt (refine' caught_here (X := "ValueError") (T' := "ValueError") ?zK ?zF ?zN nx9 ?zXB ?zTB ?zD ?zT0 ?zex PyProof.Rows.Boot.«ValueError» ?zhn PySem.F.isExc_ValueError PySem.F.notTuple_ValueError ?zhs ?_ ?zhk ?zhx ?zhd ?zhE; (case zF => assumption); (case zN => assumption); (case zK => assumption); (case zXB => assumption); (case zTB => assumption); (case zD => assumption); (case zT0 => first | assumption | exact KtsTurn.refl); (case zhs => rw [isSubtype_type]; kernel_rfl); (case zex => k_is); (case zhn => decide); (case zhk => exact rfl); (case zhx => exact rfl); (case zhd => decide); (case zhE => passes_own); k_whole); clear nx9; intro h' g' T' F' N' K' X' P' D'; (try k_lift K'); (try k_sweep))
  k_with "storeName" => (k_here; k_dflt (refine' storeX_L ?zF ?zN ?_ ?za ?zb; (case zF => k_asm); (case zN => k_asm); (case za => rfl); (case zb => rfl); k_whole); intro h9 F9s N9s; (try k_sweep))
  trivial
section
variable {w : World} {pv : Program} {loose : List Str} {mean : ExcName → Option Value} {mg mb : Str → Option Value}
    {dp un : Nat} {gd : Option (List Code)} {cn : Str} {cs : Scope} {a : Addr} {ccd : Value} {cl : List (Str × Addr)} {outer : List Env} {A₀ : Around} {base h₀ : Heap} {L : Addr} {m : Str → Option Value} {news : List (Addr × Obj)} {s : Shared}
    {Q E : Value → Shared → Prop}

theorem back_int {x y : Int} {t : Tok} {h₀' h' : Heap} {tk' : Nat} (ret : ∀ t h₀' h' tk', KtsTurn (outer.filterMap (·.frame)) h₀ h₀' → Fr h₀' L h' m → News h₀' L h' news → Below A₀ base outer h₀' → (Kf w.params).In h₀' → Top pv loose mean mg mb h₀' → KtsDicts (outer.filterMap (·.frame)) h₀' → Q (.int x t) { s with heap := h', toks := tk' }) (e : y = x) (KT : KtsTurn (outer.filterMap (·.frame)) h₀ h₀') (F : Fr h₀' L h' m) (N : News h₀' L h' news) (B : Below A₀ base outer h₀') (X : (Kf w.params).In h₀') (T : Top pv loose mean mg mb h₀') (D : KtsDicts (outer.filterMap (·.frame)) h₀') : Q (.int y t) { s with heap := h', toks := tk' } := by
  subst e
  exact ret _ _ _ _ KT F N B X T D
theorem skip_chars_ok {src : Str} {ts tp : Tok} {p : Int} {sa : Addr} {S : List Str} (B : Below A₀ base outer h₀) (F : Fr h₀ L s.heap m) (X : (Kf w.params).In h₀) (N : News h₀ L s.heap news) (T : Top pv loose mean mg mb h₀) (XB : (Kf w.params).In base) (TB : Top pv loose mean mg mb base) (D : KtsDicts (outer.filterMap (·.frame)) h₀) (hk : cs.kind = .function)
    (hd : dp + 1 < recursionLimit) (hu : un + 8 < cLine) (hS : SetAt base sa S) (hS9 : S.length < 4096) (h0 : 0 ≤ p) (h1 : p ≤ (src.length : Int)) (hsz : src.length ≤ 1000)
    (ret : ∀ t h₀' h' tk', KtsTurn (outer.filterMap (·.frame)) h₀ h₀' → Fr h₀' L h' m → News h₀' L h' news → Below A₀ base outer h₀' → (Kf w.params).In h₀' → Top pv loose mean mg mb h₀' → KtsDicts (outer.filterMap (·.frame)) h₀' → Q (.int (skipTo S src p) t) { s with heap := h', toks := tk' }) :
    wpAny (model PySem.Challenge.rw_il0176_01.prog w) (ktrTop dp un gd cn cs L a ccd [] outer) (call (.ref 134) [.str src ts, .int p tp, .ref sa]) Q E s := by
  revert X; k_fill; intro X
  have hfd := show fd 23 = _ from by (conv => lhs; whnf)
  refine wpAny_call ?_
  k_dflt (walk_at "ENTERS")
  clear hfd
  k_with "exec While Compare cons nil" => k_while (fun _ q => 0 ≤ q ∧ q ≤ (src.length : Int) ∧ skipTo S src q = skipTo S src p) (fun _ q => src.length - q.toNat) "pos"
  k_with "state" => first | exact ⟨h0, h1, rfl⟩ | exact skip_turn (by assumption) (by assumption) (by assumption) | exact skip_turn ⟨by assumption, by assumption, by assumption⟩ (by assumption) (by assumption)
  k_steps
  all_goals (first | refine back_int ret ?_ KtsTurn.refl (by k_asm) (by k_asm) (by k_asm) (by k_asm) (by k_asm) (by k_asm) | refine back_int ret ?_ (by assumption) (by k_asm) (by k_asm) (by k_asm) (by k_asm) (by k_asm) (by k_asm))
  all_goals first | exact skip_out (by assumption) (by assumption) (by assumption) | exact skip_past (by assumption) (by assumption) | exact skip_out ⟨by assumption, by assumption, by assumption⟩ (by assumption) (by assumption) | exact skip_past ⟨by assumption, by assumption, by assumption⟩ (by assumption)
end
end
section
open PySem PySem.W PySem.Spec PySem.Calls PyProof.Rows
set_option maxRecDepth 100000
set_option maxHeartbeats 8000000
open PySem.StrLaws Builtin Builtin.Str
theorem occ_idle (s sub : Str) (hi limit : Nat) : ∀ (l : List Nat) (st : Array Nat × Nat), (∀ i ∈ l, ¬ (i + sub.length ≤ hi ∧ subAt s sub i = true)) → (forIn l st (occBody s sub hi limit)).run = st
  | [], st, _ => rfl
  | a :: l, st, h => by
    rw [List.forIn_cons]
    unfold occBody
    rw [if_neg (fun q => h a (.head _) ⟨q.1.2, q.2⟩)]
    exact occ_idle s sub hi limit l st fun i hm => h i (.tail _ hm)
theorem occ_full (s sub : Str) (hi : Nat) : ∀ (l : List Nat) (st : Array Nat × Nat), 1 ≤ st.1.size → (forIn l st (occBody s sub hi 1)).run.1 = st.1
  | [], st, _ => rfl
  | a :: l, st, h => by
    rw [List.forIn_cons]
    unfold occBody
    rw [if_neg (fun q => absurd q.1.1.1 (by omega))]
    exact occ_full s sub hi l _ h
theorem occ_first (s sub : Str) (hi : Nat) : ∀ (n lo : Nat), (forIn (List.range' lo n) ((#[] : Array Nat), lo) (occBody s sub hi 1)).run.1.toList = ((List.range' lo n).find? fun i => decide (i + sub.length ≤ hi) && subAt s sub i).toList
  | 0, lo => rfl
  | n + 1, lo => by
    have gen : ∀ (n lo free : Nat), free ≤ lo → (forIn (List.range' lo n) ((#[] : Array Nat), free) (occBody s sub hi 1)).run.1.toList = ((List.range' lo n).find? fun i => decide (i + sub.length ≤ hi) && subAt s sub i).toList := by
      intro n
      induction n with
      | zero => intro lo free _; rfl
      | succ n ih =>
        intro lo free hf
        rw [List.range'_succ, List.forIn_cons, List.find?_cons]
        unfold occBody
        by_cases hc : lo + sub.length ≤ hi ∧ subAt s sub lo = true
        · have e : (decide (lo + sub.length ≤ hi) && subAt s sub lo) = true := by rw [decide_eq_true hc.1, hc.2]; rfl
          rw [if_pos ⟨⟨⟨by simp, hf⟩, hc.1⟩, hc.2⟩, e]
          have := occ_full s sub hi (List.range' (lo + 1) n) ((#[] : Array Nat).push lo, lo + sub.length) (by simp)
          exact (congrArg Array.toList this).trans rfl
        · have e : (decide (lo + sub.length ≤ hi) && subAt s sub lo) = false := by
            rw [Bool.and_eq_false_iff]
            by_cases h1 : lo + sub.length ≤ hi
            · exact .inr (by cases h : subAt s sub lo with | false => rfl | true => exact absurd ⟨h1, h⟩ hc)
            · exact .inl (decide_eq_false h1)
          rw [if_neg (fun q => hc ⟨q.1.2, q.2⟩), e]
          exact ih (lo + 1) free (by omega)
    exact gen (n + 1) lo lo (Nat.le_refl _)
theorem occ_one_find (s sub : Str) (lo hi : Nat) : occurrences s sub lo hi 1 = ((List.range' lo (hi + 1 - lo)).find? fun i => decide (i + sub.length ≤ hi) && subAt s sub i).toList := by
  rw [occ_eq]; exact occ_first s sub hi _ lo
theorem occ_nil {s sub : Str} {lo hi limit : Nat} (h : ∀ i, lo ≤ i → i + sub.length ≤ hi → subAt s sub i = false) : occurrences s sub lo hi limit = [] := by
  have h' : ∀ i ∈ List.range' lo (hi + 1 - lo), ¬ (i + sub.length ≤ hi ∧ subAt s sub i = true) := by
    intro i hm q
    rw [List.mem_range'_1] at hm
    rw [h i hm.1 q.1] at q
    exact absurd q.2 (by decide)
  rw [occ_eq, occ_idle s sub hi limit _ _ h']
theorem subAt_ch {s : Str} {c i : Nat} (hi : i < s.length) : subAt s ⟨#[c]⟩ i = decide (s.cps[i]'hi = c) := by
  unfold subAt
  have h1 : (⟨#[c]⟩ : Str).length = 1 := rfl
  rw [h1]
  have e : s.cps.extract i (i + 1) = #[s.cps[i]'hi] := by
    apply Array.ext
    · simp; have : s.length = s.cps.size := rfl; omega
    · intro j h2 h3
      simp at h3
      subst h3
      simp
      rfl
  rw [e]
  by_cases h : s.cps[i]'hi = c
  · simp [h]
  · simp [h]
section
variable {prog : Program} {w : World} {A : Around} {E : Value → Shared → Prop} {s : Shared} {x : Str} {t u v v2 : Tok} {Q : Value → Shared → Prop}
theorem gives_count4 (x y : Str) (i j : Int) (t u v v2 : Tok) : Gives («str.count» ⟨[.str x t, .str y u, .int i v, .int j v2], []⟩) (.int (occurrences x y (fromIndex x.length i) (min (fromIndex x.length j) x.length) (x.length + 1)).length) := by
  show Gives (retInt (occurrences x y (fromIndex x.length i) (min (fromIndex x.length j) x.length) (x.length + 1)).length) _
  exact .of_eq rfl
theorem count_nl {p : Int} (hx : ∀ (i : Nat) (h : i < x.length), x.cps[i]'h ≠ 10) (hq : Q (.int 0 s.toks) { s with toks := s.toks + 1 }) :
    wpAny (model prog w) A (call (.builtin "str.count") [.str x t, .str (Str.ofString "\n") u, .int 0 v, .int p v2]) Q E s := by
  refine call_gives F.slot_str_count (typeIs_str _ _ _) F.entry_str_count (F.args_str_count_4 _ _ _ _) (gives_count4 x (Str.ofString "\n") 0 p t u v v2) ?_
  have : occurrences x (Str.ofString "\n") (fromIndex x.length 0) (min (fromIndex x.length p) x.length) (x.length + 1) = [] := occ_nil fun i _ h2 => by
    have hl : i < x.length := by
      have h1 : (Str.ofString "\n").length = 1 := by decide +kernel
      rw [h1] at h2; omega
    have e : Str.ofString "\n" = ⟨#[10]⟩ := by decide +kernel
    rw [e, subAt_ch hl]
    exact decide_eq_false (hx i hl)
  rw [this]
  exact hq
end
end
section
open PySem PySem.W PySem.Spec PySem.Calls PyProof.Rows
set_option maxRecDepth 100000
set_option maxHeartbeats 2000000

theorem cat_le {a b : Str} {n : Nat} (h1 : a.length ≤ n) (h2 : b.length ≤ 4000) : (a ++ b).length ≤ n + 4000 := by rw [strLen_append]; omega
theorem empty_le : Str.empty.length ≤ 4000 := by decide

section
variable {prog : Program} {w : World} {A : Around} {E : Value → Shared → Prop} {s : Shared} {K : Frag} {C L : Addr} {h₀ : Heap} {m mg mb : Str → Option Value} {news : List (Addr × Obj)} {p : Program} {loose : List Str} {mean : ExcName → Option Value} {Q : Value → Shared → Prop} {x : Str} {bmB : List Value} {B newId initId : String} {vs : List Value}
abbrev excObj (C t : Addr) : Obj := { cls := .ref C, data := .fields #[.ref t, .none, .none, .none, .bool false, .none] }
abbrev tupObj (vs : List Value) : Obj := { cls := .type "tuple", data := .seq vs.toArray }
theorem call_exc (F : Fr h₀ L s.heap m) (X : K.In h₀) (N : News h₀ L s.heap news) (T : TopRead p loose mg mb h₀) (hx : nsIn K mainGlobals x = some (some (.ref C))) (q : excIn K C bmB newId = true) (FB : ExcBaseFacts B newId initId bmB) (hsz : vs.length ≤ sizeLine)
    (h : ∀ e t h', (∀ q ∈ news, q.1 ≠ e) → Fr h₀ L h' m → News h₀ L h' ((e, excObj C t) :: (t, tupObj vs) :: news) → Q (.ref e) { s with heap := h' }) : wpAny (model prog w) A (call (.ref C) vs) Q E s := by
  have O := own_of_in X T hx q
  obtain ⟨tl, N9, nm, q, bs, hdct, sn, sub, ab, col, dd, k0, k1, k2, k3, k5, mN, hC, hN, hni, T9⟩ := O.obj
  obtain ⟨hp, g, d, tk, os⟩ := s
  refine wpAny_call_exc_subT FB (T9.keeps F.keep) (F.keep _ _ hC) (hN.keeps F.keep) hni (fun h' e hm => ?_) hsz
  obtain ⟨t, he, ht, hte⟩ := hm.there
  have old : ∀ b, hp.get? b = none → h₀.get? b = none := fun b hb => by
    cases q : h₀.get? b with
    | none => rfl
    | some o => rw [F.keep b o q] at hb; cases hb
  obtain ⟨oL, _, _, hL, _⟩ := id F.ns
  have neL : ∀ b, hp.get? b = none → b ≠ L := fun b hb q => by rw [q, hL] at hb; cases hb
  refine h e t h' (fun q hq z => by have := (N q hq).1; rw [z, hm.new] at this; cases this) ⟨F.ns.keeps hm.keeps, fun b o e => hm.keeps b o (F.keep b o e), F.above⟩ fun q hq => ?_
  rcases List.mem_cons.mp hq with rfl | hq
  · exact ⟨he, neL _ hm.new, old _ hm.new⟩
  · rcases List.mem_cons.mp hq with rfl | hq
    · exact ⟨hte, neL _ ht, old _ ht⟩
    · exact ⟨hm.keeps _ _ (N q hq).1, (N q hq).2⟩
end

/-- the table of suffixed_err's code: empty, or with the inner def's code -/
inductive TabS : List (Addr × Obj) → Prop where
  | empty : TabS [(200, tabObj #[])]
  | full {c' : Addr} {oc : Obj} {vs : Array Value} {t : Tok} : oc.data = .fields vs → vs[1]? = some (.str (Str.ofString "suffixed_err.<locals>.coord_repr") t) → TabS [(c', oc), (200, tabObj #[rawInt 157, rawInt 4, .ref c'])]
theorem qn_coord {sc : Scope} {L a : Addr} {cd : Value} {cl : List (Str × Addr)} (hk : (envX (Str.ofString "suffixed_err") sc L a cd cl).kindOf (Str.ofString "coord_repr") = some .local) : qualnameIn (envX (Str.ofString "suffixed_err") sc L a cd cl) (Str.ofString "coord_repr") (Str.ofString "coord_repr") = Str.ofString "suffixed_err.<locals>.coord_repr" := by
  unfold qualnameIn
  rw [hk]
  kernel_rfl
theorem tab_full {sc : Scope} {L a c' : Addr} {cd : Value} {cl : List (Str × Addr)} {oc : Obj} {vs : Array Value} {t : Tok} (h1 : oc.data = .fields vs) (h2 : vs[1]? = some (.str (qualnameIn (envX (Str.ofString "suffixed_err") sc L a cd cl) (Str.ofString "coord_repr") (Str.ofString "coord_repr")) t))
    (hk : (envX (Str.ofString "suffixed_err") sc L a cd cl).kindOf (Str.ofString "coord_repr") = some .local) : TabS [(c', oc), (200, tabObj (#[] ++ #[rawInt ((157 : Nat) : Int), rawInt ((4 : Nat) : Int), .ref c']))] := by
  rw [qn_coord hk] at h2
  exact TabS.full h1 h2
theorem mem_full {f c d p : Addr × Obj} {news : List (Addr × Obj)} (h : p ∈ news ++ [c, d]) : p ∈ f :: c :: (news ++ [d]) := by
  simp only [List.mem_cons, List.mem_append, List.not_mem_nil, or_false] at h ⊢
  rcases h with h | h | h <;> simp [h]
theorem led_full {h₀ h : Heap} {L : Addr} {a b f c d : Addr × Obj} {news : List (Addr × Obj)} (N : News h₀ L h (a :: b :: f :: c :: (news ++ [d]))) : News h₀ L h (a :: b :: (news ++ [c, d])) := fun p hp => N p (by
  rcases List.mem_cons.mp hp with h | h
  · exact h ▸ .head _
  · rcases List.mem_cons.mp h with h | h
    · exact h ▸ .tail _ (.head _)
    · exact .tail _ (.tail _ (mem_full h)))
theorem fresh_full {f c d : Addr × Obj} {e : Addr} {news : List (Addr × Obj)} (h : ∀ q ∈ f :: c :: (news ++ [d]), q.1 ≠ e) : ∀ q ∈ news ++ [c, d], q.1 ≠ e := fun q hq => h q (mem_full hq)
theorem fresh_hit {f : Addr × Obj} {e : Addr} {l : List (Addr × Obj)} (h : ∀ q ∈ f :: l, q.1 ≠ e) : ∀ q ∈ l, q.1 ≠ e := fun q hq => h q (.tail _ hq)
theorem led_hit {h₀ h : Heap} {L : Addr} {a b f : Addr × Obj} {l : List (Addr × Obj)} (N : News h₀ L h (a :: b :: f :: l)) : News h₀ L h (a :: b :: l) := fun p hp => N p (by
  simp only [List.mem_cons] at hp ⊢
  rcases hp with h | h | h <;> simp [h])
theorem updF_last {P : Addr} {x : Obj} {own : List (Addr × Obj)} (h : ∀ q ∈ own, q.1 ≠ P) : UpdF P x (own ++ [(P, x)]) (fun y => own ++ [(P, y)]) := by
  induction own with
  | nil => exact .head fun _ h => nomatch h
  | cons q r ih => exact .tail (h q (.head _)) (ih fun q hq => h q (.tail _ hq))
theorem lines_W6_0 : True := by
  k_with_none
  k_with "call type:type" => (k_here; (with_reducible show wpAny _ _ (call _ [Value.bytes _ _]) _ _ _); refine call_type_of (Tx := "bytes") rfl (by decide +kernel) ?_)
  k_with "subscriptTail Name Name str int" => (k_here; refine' sub_str_or ?zk0 ?zk1 ?zk2 ?_ ?_ ?zk3 ?zk4; (case zk0 => rfl); (case zk1 => l_fact); (case zk2 => l_fact); (case zk3 => with_unfolding_all rfl); (case zk4 => intro _; with_unfolding_all rfl); (all_goals intros))
  k_with "compareOp In" => (k_here; (with_reducible show wpAny _ _ (compareOp CmpOp.In (Value.str _ _) (Value.ref _)) _ _ _); refine' in_set ?zk1 ?zk2 ?zk3 ?_; (case zk1 => k_asm); (case zk2 => exact SetAt.keeps (by assumption) (Below.stays (by assumption))); (case zk3 => assumption))
  k_with "noteFrame ref" => (k_here; (rename Heap.NewExc _ _ _ _ => nx9); (with_reducible show wpAny _ _ (noteFrame _ _) (fun _ s₂ => wpAny _ _ (setFlight _ none) (fun _ s₃ => wpAny _ _ (handleBy _ _ (ExceptHandler.ExceptHandler (some (Expr.Name ("IndexError" : Str) _)) none _ _ :: _)) _ _ s₃) _ s₂) _ _); k_dflt (refine' caught_here (X := "IndexError") (T' := "IndexError") ?zK ?zF ?zN nx9 ?zXB ?zTB ?zD ?zT0 ?zex PyProof.Rows.Boot.«IndexError» ?zhn PySem.F.isExc_IndexError PySem.F.notTuple_IndexError ?zhs ?_ ?zhk ?zhx ?zhd ?zhE; (case zF => assumption); (case zN => assumption); (case zK => assumption); (case zXB => assumption); (case zTB => assumption); (case zD => assumption); (case zT0 => first | assumption | exact KtsTurn.refl); (case zhs => rw [isSubtype_type]; kernel_rfl); (case zex => k_is); (case zhn => decide); (case zhk => exact rfl); (case zhx => exact rfl); (case zhd => decide); (case zhE => passes_own); k_whole); clear nx9; intro h' g' T' F' N' K' X' P' D'; (try k_lift K'); (try k_sweep))
  k_with "noteFrame ref" => (k_here; (rename Heap.NewExc _ _ _ _ => nx9); (with_reducible show wpAny _ _ (noteFrame _ _) (fun _ s₂ => wpAny _ _ (setFlight _ none) (fun _ s₃ => wpAny _ _ (handleBy _ _ (ExceptHandler.ExceptHandler (some (Expr.Name ("ValueError" : Str) _)) none _ _ :: _)) _ _ s₃) _ s₂) _ _); k_dflt (refine' caught_here (X := "ValueError") (T' := "ValueError") ?zK ?zF ?zN nx9 ?zXB ?zTB ?zD ?zT0 ?zex PyProof.Rows.Boot.«ValueError» ?zhn PySem.F.isExc_ValueError PySem.F.notTuple_ValueError ?zhs ?_ ?zhk ?zhx ?zhd ?zhE; (case zF => assumption); (case zN => assumption); (case zK => assumption); (case zXB => assumption); (case zTB => assumption); (case zD => assumption); (case zT0 => first | assumption | exact KtsTurn.refl); (case zhs => rw [isSubtype_type]; kernel_rfl); (case zex => k_is); (case zhn => decide); (case zhk => exact rfl); (case zhx => exact rfl); (case zhd => decide); (case zhE => passes_own); k_whole); clear nx9; intro h' g' T' F' N' K' X' P' D'; (try k_lift K'); (try k_sweep))
  k_with "call ref" => (k_here; kn_here; k_dflt (refine wpAny_call ?_; (refine' code_nest ?zk1 ?zk2 ?zk3 ?zk4 ?zk5 ?zkA ?zkF ?zkK ?zk6 ?zk7 ?zk8 ?zk9 ?zkB ?_ ?zc2 ?zc3 ?zc4 ?zc5; (case zkA => exact rfl); (case zkF => exact rfl); (case zkK => exact rfl); (case zk1 => k_asm); (case zk2 => k_asm); (case zk3 => k_asm); (case zk4 => k_asm); (case zk5 => k_asm); (case zk6 => exact List.Mem.head _); (case zk7 => exact codeRec_news (by k_asm) (by first | exact List.Mem.tail _ (List.Mem.head _) | exact List.Mem.tail _ (List.mem_append_right _ (List.Mem.head _))) (by assumption) (by first | assumption | (rw [qn_coord rfl]; assumption))); (case zk8 => ktr_room); (case zk9 => exact BindsTo.of_eq rfl); (case zc5 => decide); (case zkB => exact locs rfl); (case zc2 => exact rfl); (case zc3 => exact rfl); (case zc4 => exact rfl); k_whole; intro g' L' h' FG' F' N' B' X' T'; (try dsimp only); (try k_lift B'); (try k_fold); (try (with_reducible refine name_A ?_; intro A9)))))
  k_with "MY LE" => (refine' Nat.le_trans ?zlea ?zleb; (case zlea => repeat' (first | (with_reducible refine' cat_le ?_ ?_) | with_reducible exact empty_le | decide +kernel | exact Nat.le_trans (by with_reducible assumption) (Nat.le_of_ble_eq_true rfl : (1000 : Nat) ≤ 4000))); (case zleb => exact Nat.le_of_ble_eq_true rfl))
  k_with "joinParts" => (k_here; (first | (with_reducible show wpAny _ _ (joinParts _ []) _ _ _) | (with_reducible show wpAny _ _ (joinParts _ (evalEach [] _)) _ _ _)); k_dflt (refine' joinParts_nil ?_ ?zleq; (case zleq => walk_at "MY LE")))
  k_with "call ref" => (k_here; (with_reducible show wpAny _ _ (call (Value.ref 124) _) _ _ _); k_dflt (refine' call_exc (x := Str.ofString "TOMLDecodeError") (B := "ValueError") ?zF ?zX ?zN ?zT ?zhx ?zq PySem.F.excBase_ValueError ?zz ?_; (case zF => k_asm); (case zX => k_asm); (case zN => k_asm); (case zT => k_asm); (case zhx => k_is); (case zq => k_exc); (case zz => exact Nat.le_of_ble_eq_true rfl); k_whole); intro e' t' h' fr' F' N')
  k_with "call builtin:str.count" => (k_here; (with_reducible show wpAny _ _ (call (Value.builtin "str.count") [Value.str _ _, _, Value.int _ _, Value.int _ _]) _ _ _); refine count_nl (by assumption) ?_)
  k_with "exec FunctionDef" => (k_here; kn_here; k_dflt (refine' nestDef_K ?zd0 ?zk0 ?za0 ?_; (case zd0 => exact rfl); (case zk0 => exact rfl); (case za0 => exact rfl)); (first
    | (k_dflt (refine' nest_K ?zF ?zN ?zT ?zC ?zcd ?zU ?zt ?zn ?zcl ?_; (case zF => k_asm); (case zN => k_asm); (case zT => k_asm); (case zcd => exact rfl); (case zC => kn_code); (case zU => exact updF_last (by assumption)); (case zt => kn_triples); (case zn => kn_among); (case zcl => exact rfl); k_whole); intro f' c' oc' vs' t' ct' dc' h' tk' F' N' d1' d2' l1 l2; (try dsimp only at N'))
    | (k_dflt (refine' nestHit_K ?zF ?zN ?zT ?zC ?zcd ?zmem ?zt ?zn ?zcl ?_; (case zF => k_asm); (case zN => k_asm); (case zT => k_asm); (case zcd => exact rfl); (case zC => kn_code); (case zmem => exact List.mem_append_right _ (by k_mem)); (case zt => kn_triples); (case zn => kn_hit); (case zcl => exact rfl); k_whole); intro f' ct' dc' h' tk' F' N' l1; (try dsimp only at N'))))
  trivial
section
variable {w : World} {pv : Program} {loose : List Str} {mean : ExcName → Option Value} {mg mb : Str → Option Value}
    {dp un : Nat} {gd : Option (List Code)} {cn : Str} {cs : Scope} {a : Addr} {ccd : Value} {cl : List (Str × Addr)} {outer : List Env} {A₀ : Around} {base h₀ : Heap} {L : Addr} {m : Str → Option Value} {news : List (Addr × Obj)} {s : Shared}
    {Q E : Value → Shared → Prop}

theorem suffixed_err_ok {hh : Option Value} {src msg : Str} {ts tp tm : Tok} {p : Int} {T0 : List (Addr × Obj)} (B : Below A₀ base outer h₀) (F : Fr h₀ L s.heap m) (X : (Kf w.params).In h₀) (N : News h₀ L s.heap (news ++ T0)) (T : Top pv loose mean mg mb h₀) (hk : cs.kind = .function)
    (hd : dp + 3 < recursionLimit) (hu : un + 48 < cLine) (hC : CodeHd base 204 200) (hT : TabS T0) (hnP : ∀ q ∈ news, q.1 ≠ 200) (h0 : 0 ≤ p) (h1 : p ≤ (src.length : Int)) (hsz : src.length ≤ 1000) (hm : msg.length ≤ 1000) (hnl : ∀ (i : Nat) (h : i < src.length), src.cps[i]'h ≠ 10)
    (ret : ∀ e t vs T' h' tk', TabS T' → (∀ q ∈ news ++ T', q.1 ≠ e) → Fr h₀ L h' m → News h₀ L h' ((e, excObj 124 t) :: (t, tupObj vs) :: (news ++ T')) → Q (.ref e) { s with heap := h', toks := tk' }) :
    wpAny (model PySem.Challenge.rw_il0176_01.prog w) ({ handled := hh, depth := dp, frames := some (envX cn cs L a ccd cl :: outer), guards := gd, units := un } : Around) (call (.ref 205) [.str src ts, .int p tp, .str msg tm]) Q E s := by
  revert X; k_fill; intro X
  have hfd := show fd 33 = _ from by (conv => lhs; whnf)
  refine wpAny_call ?_
  cases hT
  all_goals (
    k_dflt (walk_at "ENTER")
    k_steps)
  all_goals first
    | exact ret _ _ _ _ _ _ (TabS.full (by assumption) (by assumption)) (fresh_hit (by assumption)) (by k_asm) (led_hit (by k_asm))
    | exact ret _ _ _ _ _ _ (tab_full (by assumption) (by assumption) rfl) (fresh_full (by assumption)) (by k_asm) (led_full (by k_asm))
end
end
section
open PySem PySem.W PySem.Spec PySem.Calls PyProof.Rows
set_option maxRecDepth 100000
set_option maxHeartbeats 8000000
/-- an exception that is noted, with no context of its own -/
noncomputable def Marked (h base : Heap) (e : Addr) (cls fl : Value) : Prop :=
  ∃ oe vs T oT ts, h.get? e = some oe ∧ oe.cls = cls ∧ oe.data = .fields vs ∧ vs[1]? = some (.ref T) ∧ vs[2]? = some .none ∧ base.get? T = none ∧ T ≠ e ∧ h.get? T = some oT ∧ oT.data = .fields ts ∧ ts[3]? = some fl
section
variable {M : Model} {A : Around} {E : Value → Shared → Prop} {s : Shared}
theorem mark_first {base : Heap} {env : Env} {outer : List Env} {L e : Addr} {oe : Obj} {vs : Array Value} {Q : Unit → Shared → Prop}
    (hfr : A.frames = some (env :: outer)) (hl : s.heap.FunFrames base (env :: outer)) (hf : env.frame = some L)
    (he : s.heap.get? e = some oe) (hkb : base.StaysIn s.heap) (hen : base.get? e = none) (hd : oe.data = .fields vs) (h1 : vs[1]? = some .none) (h2 : vs[2]? = some .none)
    (hQ : ∀ h', base.StaysIn h' → h'.FunFrames base (env :: outer) → Marked h' base e oe.cls (rawInt L) → s.heap.UpToSlots h' → Q () { s with heap := h' }) : wpAny M A (noteFrame (.ref e) env) Q E s := by
  have hsz : 1 < vs.size := (Array.getElem?_eq_some_iff.mp h1).1
  unfold noteFrame
  simp only [hf]
  refine wpAny_bind (wpAny_field he hd h1 ?_)
  rw [if_neg (by decide)]
  have hene : e ∉ (env :: outer).filterMap (·.frame) := fun hm => by
    obtain ⟨_, o, ho, hnf⟩ := hl.mem hm
    rw [he] at ho; cases ho; exact hnf vs hd
  refine wpAny_bind (wpAny_frameOf_fun hfr hl hf fun h₁ hs₁ => ?_)
  refine wpAny_bind (wpAny_entryPlaceOf fun pl hpl => ?_)
  unfold EntryCells.newEntry newFields
  refine wpAny_bind (wpAny_newObj_type ?_ (hpl.sizeOk5 _ _ _ _ _))
  have he₁ : h₁.get? e = some oe := (hs₁.2.1 e hene).trans he
  have kb₁ : base.StaysIn h₁ := fun b o hbo => (hs₁.2.1 b fun hm => by rw [(hl.mem hm).1] at hbo; cases hbo).trans (hkb b o hbo)
  generalize hdat : Data.fields ([Value.none, Value.ref L, Value.none, rawInt L, Value.none] ++ (if pl.isEmpty then List.replicate 6 Value.none else pl)).toArray = dat
  have he₂ := Heap.get?_push_of_some (h := h₁) { cls := .type "traceback", dict := none, data := dat } he₁
  refine wpAny_setField he₂ hd hsz (hQ _ ?_ ?_ ?_ ?_)
  all_goals (
    have hTe : h₁.objs.size ≠ e := Nat.ne_of_gt (Heap.lt_size he₁)
    have hd₃ := Obj.data_mapFields hd (·.setIfInBounds 1 (Value.ref h₁.objs.size))
    have he₃ := Heap.get?_update_self (Obj.mapFields (·.setIfInBounds 1 (Value.ref h₁.objs.size))) he₂ (Obj.isFreed_of_fields hd₃)
    have hT₃ := (Heap.get?_update_other (h₁.push { cls := .type "traceback", dict := none, data := dat }) (Obj.mapFields (·.setIfInBounds 1 (Value.ref h₁.objs.size))) (Ne.symm hTe)).trans (Heap.get?_push_size h₁ (by rw [← hdat]; rfl))
    have keep : ∀ b o, b ≠ e → h₁.get? b = some o → ((h₁.push { cls := .type "traceback", dict := none, data := dat }).update e (Obj.mapFields (·.setIfInBounds 1 (Value.ref h₁.objs.size)))).get? b = some o := fun b o hbe hb => by
      rw [Heap.get?_update_other _ _ (Ne.symm hbe)]
      exact Heap.get?_push_of_some _ hb
    have noRecord : ∀ b o, s.heap.get? b = some o → (∀ vs, o.data ≠ .fields vs) → b ≠ e := fun b o hb hnf q => by
      rw [q, he] at hb; cases hb; exact hnf vs hd)
  · exact fun b o hbo => keep b o (fun q => by rw [q, hen] at hbo; cases hbo) (kb₁ b o hbo)
  · exact hl.of_keeps fun b o hb hnf => by
      obtain ⟨sl, hs⟩ := hs₁.2.2 b o hb
      exact ⟨_, keep b _ (noRecord b o hb hnf) hs, rfl⟩
  · exact ⟨_, _, h₁.objs.size, _, _, he₃, Obj.cls_mapFields _ _, hd₃, by simp [hsz], by rw [Array.getElem?_setIfInBounds_ne (by decide)]; exact h2, kb₁.fresh, hTe, hT₃, hdat.symm, by rcases hpl with rfl | ⟨_, _, _, _, _, _, _, rfl⟩ <;> simp⟩
  · intro b o hb hnf
    obtain ⟨sl, hs⟩ := hs₁.2.2 b o hb
    exact ⟨sl, keep b _ (noRecord b o hb hnf) hs⟩
theorem mark_land {base : Heap} {l : List Env} {e : Addr} {cls fl : Value} {Q : Unit → Shared → Prop} (hkb : base.StaysIn s.heap) (hl : s.heap.FunFrames base l) (ht : Marked s.heap base e cls fl)
    (hQ : ∀ h', base.StaysIn h' → h'.FunFrames base l → Marked h' base e cls .none → s.heap.UpToSlots h' → Q () { s with heap := h' }) : wpAny M A (setFlight (.ref e) none) Q E s := by
  obtain ⟨oe, vs, T, oT, ts, he, hcls, hd, h1, h2, hnT, hTe, hT, hdT, h3⟩ := ht
  have hsz3 : 3 < ts.size := (Array.getElem?_eq_some_iff.mp h3).1
  have other : ∀ b, b ≠ T → (s.heap.update T (Obj.mapFields (·.setIfInBounds 3 ((none : Option Addr).elim Value.none fun f => rawInt f)))).get? b = s.heap.get? b := fun b hb => Heap.get?_update_other _ _ (Ne.symm hb)
  have noRecord : ∀ b o, s.heap.get? b = some o → (∀ vs, o.data ≠ .fields vs) → b ≠ T := fun b o hb hnf q => by
    rw [q, hT] at hb; cases hb; exact hnf ts hdT
  unfold setFlight
  refine wpAny_bind (wpAny_field he hd h1 ?_)
  rw [if_pos (show (Value.ref T != Value.none) = true from by simp)]
  refine wpAny_setField hT hdT hsz3 (hQ _ (fun b o hbo => (other b fun q => by rw [q, hnT] at hbo; cases hbo).trans (hkb b o hbo))
    (hl.of_keeps fun b o hb hnf => ⟨o, (other b (noRecord b o hb hnf)).trans hb, rfl⟩) ?_ fun b o hb hnf => ⟨o.slots, (other b (noRecord b o hb hnf)).trans hb⟩)
  exact ⟨oe, vs, T, _, _, (other e (Ne.symm hTe)).trans he, hcls, hd, h1, h2, hnT, hTe, Heap.get?_update_self _ hT (Obj.isFreed_of_fields (Obj.data_mapFields hdT _)), Obj.data_mapFields hdT _, by simp [hsz3]⟩
end
end
section
open PySem PySem.W PySem.Spec PySem.Calls PyProof.Rows
set_option maxRecDepth 100000
set_option maxHeartbeats 8000000
section
variable {prog : Program} {w : World} {A₀ : Around} {E : Value → Shared → Prop} {s' : Shared} {base g g₀ h : Heap} {outer : List Env} {L a e : Addr} {m : Str → Option Value} {name : Str} {scope : Scope} {cd : Value}
  {b₀ : Stmt} {suite : List Stmt} {pos np : Pos} {rest : List ExceptHandler} {Q : Flow → Shared → Prop} {news : List (Addr × Obj)} {KF : Frag}
  {p : Program} {loose : List Str} {mean : ExcName → Option Value} {mg mb : Str → Option Value} {x : Str} {X T' : String}
/-- as caught_here; the exception itself stands in the ledger, with no context -/
theorem caught_ctx (K : Below A₀ base outer g) (F : Fr g L h m) (N : News g L h news) (hn9 : Heap.NewExc h s'.heap e X) (XB : KF.In base) (TB : Top p loose mean mg mb base)
    (D : KtsDicts (outer.filterMap (·.frame)) g) (T0 : KtsTurn (outer.filterMap (·.frame)) g₀ g)
    (ex : nsIn KF mainGlobals x = some none) (hv : bootBuiltins x = some (.type T')) (hn' : x ≠ "__name__")
    (hexc : isSubtype (.type T') (.type "BaseException") = pure true) (hnt : isSubtype (.type ((Manifest.find? T').elim "type" fun y => y.metatype)) (.type "tuple") = pure false) (hsub : isSubtype (.type X) (.type T') = pure true)
    (k : ∀ h' g' oe vs, oe.data = .fields vs → vs[2]? = some .none → (∀ q ∈ news, q.1 ≠ e) → KtsTurn (outer.filterMap (·.frame)) g₀ g' → Fr g' L h' m → News g' L h' ((e, oe) :: news) → Below A₀ base outer g' → KF.In g' → Top p loose mean mg mb g' → KtsDicts (outer.filterMap (·.frame)) g' →
      wpAny (model prog w) ((A₀.deeper (envOf name scope L a cd)).mark (some (.ref e))) (execs (b₀ :: suite) (envOf name scope L a cd)) Q E { s' with heap := h' })
    (hk : scope.kind = .function) (hx : (envOf name scope L a cd).kindOf x = some .globalImplicit) (hd : (x == ("__debug__" : Str)) = false)
    (hE : PassesOwnAt (model prog w) ((A₀.deeper (envOf name scope L a cd)).mark (some (.ref e))) (A₀.deeper (envOf name scope L a cd)) (envOf name scope L a cd) E) :
    wpAny (model prog w) (A₀.deeper (envOf name scope L a cd)) (noteFrame (.ref e) (envOf name scope L a cd))
      (fun _ s₂ => wpAny (model prog w) (A₀.deeper (envOf name scope L a cd)) (setFlight (.ref e) none) (fun _ s₃ =>
        wpAny (model prog w) (A₀.deeper (envOf name scope L a cd)) (handleBy (.ref e) (envOf name scope L a cd) (.ExceptHandler (some (.Name x np)) none (b₀ :: suite) pos :: rest)) Q E s₃) E s₂) E s' := by
  have K' := K.push (name := name) (a := a) (cd := cd) F hk
  have hin : ∀ env ∈ (envOf name scope L a cd :: outer), ∀ b, env.frame = some b → b ∈ (envOf name scope L a cd :: outer).filterMap (·.frame) := fun env he b hb => List.mem_filterMap.mpr ⟨env, he, hb⟩
  generalize hB : hideAll h ((envOf name scope L a cd :: outer).filterMap (·.frame)) = B
  have hBG : ∀ b o, h.get? b = some o → b ∉ (envOf name scope L a cd :: outer).filterMap (·.frame) → B.get? b = some o := fun b o q nm => hB ▸ hideAll_get _ q nm
  have hBh : ∀ b o, B.get? b = some o → h.get? b = some o := fun b o q => of_hideAll _ (hB ▸ q)
  have hBnone : ∀ b, b ∈ (envOf name scope L a cd :: outer).filterMap (·.frame) → B.get? b = none := fun b hm => hB ▸ hideAll_none _ hm
  have hL : B.get? L = none := hBnone L (List.mem_filterMap.mpr ⟨_, .head _, rfl⟩)
  have hl : ∀ q ∈ news, B.get? q.1 = some q.2 := fun q hq => hBG _ _ (N q hq).1 fun hm => by
    obtain ⟨env, he, hf⟩ := List.mem_filterMap.mp hm
    rcases List.mem_cons.mp he with rfl | he
    · exact (N q hq).2.1 (Option.some.inj hf).symm
    · obtain ⟨o, ho, _⟩ := (K.frames.mem (List.mem_filterMap.mpr ⟨env, he, hf⟩)).2
      rw [(N q hq).2.2] at ho; cases ho
  obtain ⟨ob, tp, he, hcls, hdt⟩ := hn9.there
  have hen : B.get? e = none := by
    cases q : B.get? e with
    | none => rfl
    | some o => have := hBh _ _ q; rw [hn9.new] at this; cases this
  have up0 : h.UpToSlots s'.heap := Heap.UpToSlots.of_keeps hn9.keeps
  refine mark_first (base := B) K'.stack (hB ▸ (funFrames_hide K'.frames hin).of_keeps fun b o hb _ => ⟨o, hn9.keeps b o hb, rfl⟩) rfl he (fun b o hb => hn9.keeps b o (hBh b o hb)) hen hdt rfl rfl fun h₄ st₄ ff₄ mk₄ hsm₄ => ?_
  rw [hcls] at mk₄
  refine mark_land st₄ ff₄ mk₄ fun h₅ st₅ ff₅ mk₅ hsm₅' => ?_
  have hsm₅ := (up0.trans hsm₄).trans hsm₅'
  obtain ⟨g₅, T₅, F₅, K₅⟩ := kts_ground K F hBG st₅ hsm₅
  have X₅ : KF.In g₅ := XB.keeps K₅.stays
  have P₅ : TopRead p loose mg mb g₅ := topRead_of (TB.keeps K₅.stays)
  have hth : ∃ ob, h₅.get? e = some ob ∧ ob.cls = .type X := by
    obtain ⟨oe, _, _, _, _, q1, q2, _⟩ := mk₅
    exact ⟨oe, q1, q2⟩
  obtain ⟨ob, hob, hobc⟩ := hth
  refine wpAny_handleBy_builtin (X := X) (T := T') (b := true) hexc hnt hsub (name_B F₅ X₅ P₅ ex hv hn' ⟨rfl, ⟨ob, hob, hobc⟩, ?_⟩ hk hx hd)
  refine mark_land st₅ ff₅ mk₅ fun h₆ st₆ ff₆ mk₆ hsm₆ => ?_
  obtain ⟨g₆, T₆, F₆, K₆⟩ := kts_ground K F hBG st₆ (hsm₅.trans hsm₆)
  obtain ⟨oe, vs, _, _, _, e1, e2, e3, e4, e5, _⟩ := mk₆
  have old : ∀ b, h.get? b = none → g.get? b = none := fun b hb => by
    cases q : g.get? b with
    | none => rfl
    | some o => rw [F.keep b o q] at hb; cases hb
  have Nl : News g₆ L h₆ ((e, oe) :: news) := fun q hq => by
    rcases List.mem_cons.mp hq with rfl | hq
    · refine ⟨e1, fun z => ?_, T₆.none_ _ (old _ hn9.new)⟩
      obtain ⟨oL, _, _, hL', _⟩ := id F.ns
      have := hn9.new
      rw [show e = L from z, hL'] at this; cases this
    · exact ⟨st₆ _ _ (hl q hq), (fun z => by have := hl q hq; rw [z, hL] at this; cases this), T₆.none_ _ (N q hq).2.2⟩
  exact wpAny_passesOwnAt hE (k h₆ g₆ oe vs e3 e5 (fun q hq z => by have := (N q hq).1; rw [z, hn9.new] at this; cases this) (T0.trans T₆) F₆ Nl K₆ (XB.keeps K₆.stays) (TB.keeps K₆.stays) (D.turn T₆))
end
end
section
open PySem PySem.W PySem.Spec PySem.Calls PyProof.Rows
set_option maxRecDepth 100000
set_option maxHeartbeats 4000000
theorem entry_unchain : entryFor table "proto.unchain" = some Builtin.«proto.unchain» := entryFor_of_tree (by kernel_rfl)
section
variable {prog : Program} {w : World} {A : Around} {E : Value → Shared → Prop} {s : Shared}
theorem field_upd {h : Heap} {a : Addr} {o : Obj} {vs : Array Value} (i : Nat) (x : Value) (ho : h.get? a = some o) (hd : o.data = .fields vs) :
    ∃ o', (h.update a (Obj.mapFields (·.setIfInBounds i x))).get? a = some o' ∧ o'.cls = o.cls ∧ o'.data = .fields (vs.setIfInBounds i x) :=
  have hd₃ := Obj.data_mapFields hd (·.setIfInBounds i x)
  ⟨_, Heap.get?_update_self _ ho (Obj.isFreed_of_fields hd₃), Obj.cls_mapFields _ _, hd₃⟩
theorem unchained {e : Value} {eV : Addr} {oe : Obj} {vs : Array Value} {Q : Value → Shared → Prop} (he : s.heap.get? eV = some oe) (hd : oe.data = .fields vs) (h2 : vs[2]? = some .none) (hQ : Q .none s) :
    wpAny (model prog w) A (runValue (.builtin "proto.unchain" ⟨[e, .ref eV, .ref eV, .bool false], []⟩)) Q E s := by
  refine wpAny_runValue (codeAny_builtin entry_unchain ?_)
  unfold Builtin.«proto.unchain»
  dsimp only
  refine wpAny_bind (wpAny_field he hd h2 ?_)
  rw [if_pos (by rfl)]
  first
    | exact wpAny_pure hQ
    | exact wpAny_bind (wpAny_pure hQ)
    | exact wpAny_bind (wpAny_pure (wpAny_pure hQ))
end
section
variable {prog : Program} {w : World} {A : Around} {E : Value → Shared → Prop} {env : Env}
variable {nm q : Str} {C N : Addr} {bs bm : List Value} {hdct : Bool} {sn : List Str} {sub : List Value} {ab : Bool} {col : Option Bool} {dd : Option Addr} {k0 k1 k2 k3 k5 : Option Value} {newId : String}
theorem raise_from {s : Shared} {x c : Sem Value} {Q : Flow → Shared → Prop} {eV : Addr} (hbase : bm.contains (.type "BaseException") = true) (hh : A.handled = some (.ref eV))
    (h : wpAny (model prog w) A x (fun v s₁ => ∃ e t oV vV, v = .ref e ∧ e ≠ eV ∧ s₁.heap.get? C = some (excClassObj nm q C N bs bm hdct sn sub ab col dd k0 k1 k2 k3 k5 newId) ∧
      s₁.heap.get? e = some { cls := .ref C, data := .fields #[.ref t, .none, .none, .none, .bool false, .none] } ∧ s₁.heap.get? eV = some oV ∧ oV.data = .fields vV ∧ vV[2]? = some .none ∧
      wpAny (model prog w) A c (fun cv s₂ => cv = .none ∧ s₂ = s₁ ∧ ∀ h', (∀ b o, b ≠ e → s₁.heap.get? b = some o → h'.get? b = some o) → (∃ oe vs, h'.get? e = some oe ∧ oe.cls = .ref C ∧ oe.data = .fields vs ∧ vs[0]? = some (.ref t) ∧ vs[1]? = some .none) → E (.ref e) { s₁ with heap := h' }) E s₁) E s) :
    wpAny (model prog w) A (raiseStmt env (some x) (some c)) Q E s := by
  have hcB : (Value.ref C :: bm).contains (.type "BaseException") = true := by rw [List.contains_cons, hbase, Bool.or_true]
  unfold raiseStmt
  refine wpAny_bind (wpAny_mono h (fun v s₁ h₁ => ?_) fun _ _ x => x)
  obtain ⟨e, t, oV, vV, rfl, hne, hC, he, hV, hVd, hV2, hc⟩ := h₁
  refine wpAny_bind (wpAny_holding (wpAny_mono hc (fun cv s₂ h₂ => ?_) fun _ _ x => x))
  obtain ⟨rfl, rfl, hE⟩ := h₂
  refine wpAny_bind (wpAny_pure ?_)
  obtain ⟨hp, g, d, tk, os⟩ := s₂
  have exc : ∀ {Q : Value → Shared → Prop}, Q (.ref e) ⟨hp, g, d, tk, os⟩ → wpAny (model prog w) A (excFromValue (.ref e) "exceptions must derive from BaseException") Q E ⟨hp, g, d, tk, os⟩ := by
    intro Q hq
    unfold excFromValue
    repeat (first | with_reducible refine wpAny_loadPart_at he ?_ | with_reducible refine wpAny_loadPart_at hC ?_ | (with_reducible refine wpAny_isSubtype_exc hC ?_; rw [hcB]) | wp_step)
    exact hq
  refine wpAny_bind (wpAny_holding (exc ?_))
  dsimp only
  rw [if_pos (by rfl)]
  refine wpAny_bind (wpAny_pure ?_)
  have he1 : (hp.update e (Obj.mapFields (·.setIfInBounds 3 Value.none))).get? e = some { cls := .ref C, data := .fields #[.ref t, .none, .none, .none, .bool false, .none] } := Heap.get?_update_self (Obj.mapFields (·.setIfInBounds 3 Value.none)) he rfl
  refine wpAny_bind (wpAny_setField he rfl (by simp) ?_)
  have he2 : ((hp.update e (Obj.mapFields (·.setIfInBounds 3 Value.none))).update e (Obj.mapFields (·.setIfInBounds 4 (Value.bool true)))).get? e = some { cls := .ref C, data := .fields #[.ref t, .none, .none, .none, .bool true, .none] } := Heap.get?_update_self (Obj.mapFields (·.setIfInBounds 4 (Value.bool true))) he1 rfl
  refine wpAny_bind (wpAny_setField he1 rfl (by simp) ?_)
  have hCe : C ≠ e := fun q => by rw [q, he] at hC; cases hC
  generalize hh2 : (hp.update e (Obj.mapFields (·.setIfInBounds 3 Value.none))).update e (Obj.mapFields (·.setIfInBounds 4 (Value.bool true))) = h2 at he2 ⊢
  have other : ∀ b, b ≠ e → h2.get? b = hp.get? b := fun b hb => by rw [← hh2, Heap.get?_update_other _ _ (Ne.symm hb), Heap.get?_update_other _ _ (Ne.symm hb)]
  have hC2 := (other C hCe).trans hC
  have hV' := (other eV (Ne.symm hne)).trans hV
  repeat (first | with_reducible refine wpAny_loadPart_at he2 ?_ | with_reducible refine wpAny_loadPart_at hC2 ?_ | (with_reducible refine wpAny_isSubtype_exc hC2 ?_; rw [hcB]) | wp_step)
  unfold raiseNew
  refine wpAny_bind (wpAny_handled ?_)
  rw [hh]
  dsimp only
  rw [if_pos (show (Value.ref eV != Value.ref e) = true from by simp [Ne.symm hne])]
  refine wpAny_bind (wpAny_holding (unchained hV' hVd hV2 ?_))
  have he3 : (h2.update e (Obj.mapFields (·.setIfInBounds 2 (Value.ref eV)))).get? e = some { cls := .ref C, data := .fields #[.ref t, .none, .ref eV, .none, .bool true, .none] } := Heap.get?_update_self (Obj.mapFields (·.setIfInBounds 2 (Value.ref eV))) he2 rfl
  refine wpAny_bind (show wpAny (model prog w) A (setField (.ref e) 2 (.ref eV)) _ _ _ from wpAny_setField he2 rfl (by simp) ?_)
  refine wpAny_throw (hE _ (fun b o hb hbo => ?_) ⟨_, _, he3, rfl, rfl, rfl, rfl⟩)
  exact (Heap.get?_update_other _ _ (Ne.symm hb)).trans ((other b hb).trans hbo)
end
end
section
open PySem PySem.W PySem.Spec PySem.Calls PyProof.Rows
set_option maxRecDepth 100000
set_option maxHeartbeats 4000000
section
variable {M : Model} {A : Around} {E : Value → Shared → Prop} {s' : Shared} {base g h : Heap} {outer : List Env} {L a e : Addr} {m : Str → Option Value} {name : Str} {scope : Scope} {cd : Value} {Q : Unit → Shared → Prop} {news : List (Addr × Obj)}
/-- an exception object of the ledger, thrown: nothing else has changed -/
structure Thrown (h h' : Heap) (e : Addr) (cls : Value) : Prop where
  keeps : ∀ b o, b ≠ e → h.get? b = some o → h'.get? b = some o
  was : ∃ o vs, h.get? e = some o ∧ o.data = .fields vs
  there : ∃ oe vs a0, h'.get? e = some oe ∧ oe.cls = cls ∧ oe.data = .fields vs ∧ vs[0]? = some a0 ∧ vs[1]? = some .none
theorem leave_thrown {cls : Value} (K : Below A base outer g) (hx : Thrown h s'.heap e cls) (F : Fr g L h m) (hg : g.get? e = none) (hL : e ≠ L) (N : News g L h news) (hfr : ∀ q ∈ news, q.1 ≠ e)
    (hQ : ∀ h', RaisedSN base g outer e cls news h' → g.UpToSlots h' → Q () { s' with heap := h' }) (hk : scope.kind = .function := by rfl) :
    wpAny M (A.deeper (envOf name scope L a cd)) (leaving (envOf name scope L a cd) (.ref e)) Q E s' := by
  have K' := K.push (name := name) (a := a) (cd := cd) F hk
  generalize hfs : (envOf name scope L a cd :: outer).filterMap (·.frame) = fs
  have hin : ∀ env ∈ (envOf name scope L a cd :: outer), ∀ b, env.frame = some b → b ∈ e :: fs := fun env he b hb => .tail _ (hfs ▸ List.mem_filterMap.mpr ⟨env, he, hb⟩)
  have hfs' : ∀ b, b ∈ fs → b = L ∨ b ∈ outer.filterMap (·.frame) := fun b hb => kts_mem (hfs ▸ hb)
  have neF : ∀ b ∈ fs, b ≠ e := fun b hb q => by
    rcases hfs' b hb with z | z
    · exact hL (q ▸ z)
    · obtain ⟨o, ho, _⟩ := (K.frames.mem z).2
      rw [q, hg] at ho; cases ho
  have st : base.StaysIn (hideAll h (e :: fs)) := fun b o q => hideAll_get _ (K'.stays b o q) fun hm => by
    rcases List.mem_cons.mp hm with z | hm
    · rw [z, fresh_of_stays K.stays hg] at q; cases q
    · rw [(K'.frames.mem (hfs ▸ hm)).1] at q; cases q
  have sg : ∀ b o, g.get? b = some o → b ∉ outer.filterMap (·.frame) → (hideAll h (e :: fs)).get? b = some o := fun b o q nm => hideAll_get _ (F.keep b o q) fun hm => by
    rcases List.mem_cons.mp hm with z | hm
    · rw [z, hg] at q; cases q
    · rcases hfs' b hm with z | z
      · rw [z, kts_self F] at q; cases q
      · exact nm z
  have hl : ∀ q ∈ news, (hideAll h (e :: fs)).get? q.1 = some q.2 ∧ g.get? q.1 = none ∧ base.get? q.1 = none := fun q hq => by
    refine ⟨hideAll_get _ (N q hq).1 fun hm => ?_, (N q hq).2.2, fresh_of_stays K.stays (N q hq).2.2⟩
    rcases List.mem_cons.mp hm with z | hm
    · exact hfr q hq z
    · rcases hfs' _ hm with z | z
      · exact (N q hq).2.1 z
      · obtain ⟨o, ho, _⟩ := (K.frames.mem z).2
        rw [(N q hq).2.2] at ho; cases ho
  obtain ⟨ob, vs, a0, he, hcls, hd, h0, h1⟩ := hx.there
  have hen : (hideAll h (e :: fs)).get? e = none := hideAll_none _ (.head _)
  have kb : ∀ b o, (hideAll h (e :: fs)).get? b = some o → s'.heap.get? b = some o := fun b o hb => hx.keeps b o (fun q => by rw [q, hen] at hb; cases hb) (of_hideAll _ hb)
  have ff : s'.heap.FunFrames (hideAll h (e :: fs)) (envOf name scope L a cd :: outer) := (funFrames_hide K'.frames hin).of_keeps fun b o hb hnf => ⟨o, hx.keeps b o (fun q => ?_) hb, rfl⟩
  · refine wpAny_leaving_firstW (a0 := a0) K'.stack ff rfl he kb hen hd h1 h0 fun h' hLf => ?_
    obtain ⟨k1, ⟨_, _, k2⟩, k3, k4⟩ := hLf
    have up : g.UpToSlots s'.heap := fun b o hb _ => ⟨o.slots, hx.keeps b o (fun q => by rw [q, hg] at hb; cases hb) (F.keep b o hb)⟩
    exact hQ h' ⟨_, a0, st, sg, hl, k1, hen, k2, by rw [← hcls]; exact k3⟩ (up.trans k4)
  · obtain ⟨o1, vs1, q1, q2⟩ := hx.was
    rw [q, q1] at hb; cases hb; exact hnf _ q2
end
end
section
open PySem PySem.W PySem.Spec PySem.Calls PyProof.Rows
set_option maxRecDepth 100000
set_option maxHeartbeats 4000000
open Builtin Builtin.Str
/-- the first place from p on where c stands -/
noncomputable def nextAt (x : Str) (c p : Nat) : Option Nat := (List.range' p (x.length + 1 - p)).find? fun i => decide (i + 1 ≤ x.length) && subAt x ⟨#[c]⟩ i
section
variable {prog : Program} {w : World} {A : Around} {E : Value → Shared → Prop} {s : Shared} {x : Str} {t u v : Tok} {Q : Value → Shared → Prop}
theorem gives_index3 (x y : Str) (i : Int) (t u v : Tok) (k : Nat) (rest : List Nat) (h : occurrences x y (fromIndex x.length i) x.length 1 = k :: rest) : Gives («str.index» ⟨[.str x t, .str y u, .int i v], []⟩) (.int k) := by
  show Gives (match occurrences x y (fromIndex x.length i) (min x.length x.length) 1 with | i :: _ => retInt i | [] => _) _
  rw [Nat.min_self, h]
  exact .of_eq rfl
theorem raises_index3 (x y : Str) (i : Int) (t u v : Tok) (h : occurrences x y (fromIndex x.length i) x.length 1 = []) : Meets («str.index» ⟨[.str x t, .str y u, .int i v], []⟩) (raisesNew "ValueError") := by
  intro prog w A R s hS
  show wpAny _ _ (match occurrences x y (fromIndex x.length i) (min x.length x.length) 1 with | i :: _ => retInt i | [] => _) _ _ s
  rw [Nat.min_self, h]
  first
    | exact wpAny_bind (wpAny_rule (by exact_raiseError plainExc_ValueError hS.1 hS.2))
    | exact wpAny_bind (wpAny_rule (wpAny_bind (by exact_raiseError plainExc_ValueError hS.1 hS.2)))
theorem quote_eq : Str.ofString "'" = ⟨#[39]⟩ := by decide +kernel
theorem index_from {p : Int} (hA : A.handled = none) (h0 : 0 ≤ p)
    (h1 : ∀ k, nextAt x 39 p.toNat = some k → Q (.int (k : Int) s.toks) { s with toks := s.toks + 1 })
    (h2 : nextAt x 39 p.toNat = none → ∀ h' tk e, Heap.NewExc s.heap h' e "ValueError" → E (.ref e) { s with heap := h', toks := tk }) :
    wpAny (model prog w) A (call (.builtin "str.index") [.str x t, .str (Str.ofString "'") u, .int p v]) Q E s := by
  rw [quote_eq]
  have hf : fromIndex x.length p = p.toNat := by unfold fromIndex; rw [if_neg (by omega)]; congr 1; omega
  have ho : occurrences x ⟨#[39]⟩ (fromIndex x.length p) x.length 1 = (nextAt x 39 p.toNat).toList := by rw [hf, occ_one_find]; rfl
  cases hn : nextAt x 39 p.toNat with
  | none =>
    rw [hn] at ho
    exact call_meets F.slot_str_index (typeIs_str _ _ _) F.entry_str_index (F.args_str_index_3 _ _ _) (raises_index3 x _ p t u v ho) ⟨hA, h2 hn⟩
  | some k =>
    rw [hn] at ho
    exact call_gives F.slot_str_index (typeIs_str _ _ _) F.entry_str_index (F.args_str_index_3 _ _ _) (gives_index3 x _ p t u v k [] ho) (h1 k hn)
end
end
section
open PySem PySem.W PySem.Spec PySem.Calls PyProof.Rows
set_option maxRecDepth 100000
set_option maxHeartbeats 4000000
theorem plain_froz : PlainAttrs "frozenset" :=
  ⟨⟨"object.__getattribute__", by rw [typeLookup_type, builtinLookup_eq_fast]; kernel_rfl, by decide +kernel⟩, by rw [typeLookup_type, builtinLookup_eq_fast]; kernel_rfl⟩
theorem slot_isdisjoint : Slot "frozenset" "isdisjoint" "frozenset.isdisjoint" :=
  .of (owner := "frozenset") (n := "isdisjoint") (by rw [typeLookup_type, builtinLookup_eq_fast]; kernel_rfl) (by decide +kernel) (by decide +kernel) (by decide +kernel)
    (by first | exact .inl (by decide +kernel) | exact .inr (by decide +kernel)) (by rw [isSubtype_type]; kernel_rfl)
theorem entry_isdisjoint : entryFor table "frozenset.isdisjoint" = some Builtin.«frozenset.isdisjoint» := entryFor_of_tree (by kernel_rfl)
theorem entry_isdisjoint_loop : entryFor table "frozenset.isdisjoint.loop" = some Builtin.«frozenset.isdisjoint.loop» := entryFor_of_tree (by kernel_rfl)
theorem args_isdisjoint (a b : Value) : argsOk "frozenset.isdisjoint" ⟨[a, b], []⟩ := by
  unfold argsOk; rw [signature?_of (id := "frozenset.isdisjoint") (n := ['t', 'n', 'i', 'o', 'j', 's', 'i', 'd', 's', 'i']) (o := ['t', 'e', 's', 'n', 'e', 'z', 'o', 'r', 'f']) (by kernel_rfl) FB.owner_frozenset]; kernel_rfl
theorem type_isdisjoint : typeOf (.builtin "frozenset.isdisjoint") = pure (.type "method_descriptor") := by show builtinType _ = _; rw [builtinType_eq_fast]; kernel_rfl
section
variable {prog : Program} {w : World} {A : Around} {E : Value → Shared → Prop} {s : Shared} {a Lf : Addr} {h₀ : Heap} {m : Str → Option Value} {S : List Str} {news : List (Addr × Obj)}
theorem method_isdisjoint {pl : Sem Bool} {Q : Value × List Value → Shared → Prop} (F : Fr h₀ Lf s.heap m) (hS : SetAt h₀ a S) (h : Q (.builtin "frozenset.isdisjoint", [.ref a]) s) :
    wpAny (model prog w) A (getMethod (.ref a) "isdisjoint" pl) Q E s := by
  obtain ⟨d, ho, hd⟩ := hS
  have ho := F.keep _ _ ho
  exact getMethod_builtin (T := "frozenset") ⟨_, ho, rfl⟩ plain_froz slot_isdisjoint type_isdisjoint (fun b e => by injection e with e; subst e; exact ⟨_, ho, rfl⟩) h
theorem disj_loop (hh : A.handled = none) {it : Addr} {x : Str} {t : Tok} {d : SD} {R : Result → Shared → Prop} (hne : a ≠ it) (hd : Holds S d.es d.t) (hl : S.length < 4096) (hx : ∀ c ∈ x.cps.toList, ch c ∉ S) : ∀ (n i : Nat) (s : Shared), n + i = x.cps.size → s.heap.get? a = some d.obj →
    s.heap.IsStrIter it "str_ascii_iterator" x t i → (∀ h' tk, Heap.ExtBut it s.heap h' → R (.ok (.ret (.bool true))) { s with heap := h', toks := tk }) →
    codeAny (model prog w) A (.builtin "frozenset.isdisjoint.loop" ⟨[.ref a, .ref it], []⟩) R s := by
  intro n
  induction n with
  | zero =>
    intro i s hn ho hit hR
    refine codeAny_builtin entry_isdisjoint_loop ?_
    unfold Builtin.«frozenset.isdisjoint.loop»
    dsimp only
    refine wpAny_bind (wpAny_pyNext_ascii_end (by first | exact hh | simpa using hh) hit (by simp; omega) fun h' e => ?_)
    exact wpAny_pure (hR h' _ e)
  | succ n ih =>
    intro i s hn ho hit hR
    refine codeAny_builtin entry_isdisjoint_loop ?_
    unfold Builtin.«frozenset.isdisjoint.loop»
    dsimp only
    have hi : i < x.cps.size := by omega
    refine wpAny_bind (wpAny_pyNext_ascii_item hit (c := x.cps[i]) (by simp [hi]) fun h' hit' hs => ?_)
    dsimp only
    have ho' : h'.get? a = some d.obj := (hs.2 a hne).trans ho
    refine wpAny_bind (wpAny_holding ?_)
    unfold setContains
    refine wpAny_holding ?_
    refine wpAny_bind (wpAny_pyHash_str ?_)
    refine wpAny_bind (find_str (es := d.es) (ep := d.ep) (t := d.t) ho' hd hl fun r hr => ?_)
    have hno : ¬ ch x.cps[i] ∈ S := hx _ (by simp)
    have hr' : r.isSome = false := by rw [hr]; exact decide_eq_false hno
    refine wpAny_pure ?_
    rw [hr']
    simp only [Bool.false_eq_true, if_false]
    refine wpAny_pure ⟨Code.quiet_builtin _ (by decide +kernel), ?_⟩
    refine ih (i + 1) _ (by omega) ho' hit' fun h'' tk ex => hR h'' tk fun b o hb hbo => ex b o hb (by rw [hs.2 b hb]; exact hbo)
theorem isdisjoint_ok (hh : A.handled = none) {x : Str} {t : Tok} {Q : Value → Shared → Prop} (F : Fr h₀ Lf s.heap m) (N : News h₀ Lf s.heap news) (hS : SetAt h₀ a S) (hl : S.length < 4096) (hx : ∀ c ∈ x.cps.toList, ch c ∉ S) (hasc : x.cps.all (· < 128) = true)
    (hQ : ∀ h' tk, Fr h₀ Lf h' m → News h₀ Lf h' news → Q (.bool true) { s with heap := h', toks := tk }) : wpAny (model prog w) A (call (.builtin "frozenset.isdisjoint") [.ref a, .str x t]) Q E s := by
  obtain ⟨d, ho0, hd⟩ := hS
  have ho := F.keep _ _ ho0
  have hT : s.TypeIs (.ref a) "frozenset" := ⟨_, ho, rfl⟩
  refine wpAny_call (codeAny_call_builtin slot_isdisjoint.plain entry_isdisjoint (slot_isdisjoint.check _ _ _ _ _ _ _ _ hT (args_isdisjoint _ _) ?_))
  unfold Builtin.«frozenset.isdisjoint» Builtin.Frozenset.oneOther Builtin.Frozenset.addrOf
  simp only [List.isEmpty_nil, bind_assoc]
  refine wpAny_bind (wpAny_pure ?_)
  try dsimp only
  refine wpAny_bind (wpAny_pure ?_)
  try dsimp only
  rw [if_neg (by rw [show (Value.str x t == Value.ref a) = false from rfl]; exact Bool.false_ne_true)]
  refine wpAny_bind (wpAny_of_eq (a := Value.type "str") rfl ?_)
  rw [if_neg (by decide)]
  refine wpAny_bind (wpAny_pyIter_ascii hasc ?_)
  refine wpAny_pure ⟨Code.quiet_builtin _ (by decide +kernel), ?_⟩
  have hne : a ≠ s.heap.objs.size := Nat.ne_of_lt (Heap.lt_size ho)
  refine disj_loop hh hne hd hl hx x.cps.size 0 _ (by simp) (Heap.get?_push_of_some _ ho) ⟨_, Heap.get?_push_size _ rfl, rfl, rfl⟩ fun h' tk ex => ?_
  have keep : ∀ b o, s.heap.get? b = some o → h'.get? b = some o := fun b o hb => ex b o (Nat.ne_of_lt (Heap.lt_size hb)) (Heap.get?_push_of_some _ hb)
  exact hQ h' tk ⟨F.ns.keeps keep, fun b o e => keep b o (F.keep b o e), F.above⟩ fun p hp => ⟨keep _ _ (N p hp).1, (N p hp).2⟩
end
end
section
open PySem PySem.W PySem.Spec PySem.Calls PyProof.Rows
set_option maxRecDepth 100000
set_option maxHeartbeats 4000000
abbrev excObj' (C t : Addr) : Obj := { cls := .ref C, data := .fields #[.ref t, .none, .none, .none, .bool false, .none] }
section
variable {prog : Program} {w : World} {A : Around} {E : Value → Shared → Prop} {s : Shared} {env : Env} {h₀ : Heap} {L C eV : Addr} {m mg mb : Str → Option Value} {K : Frag} {p : Program} {loose : List Str} {mean : ExcName → Option Value} {x : Str} {bmB : List Value} {B newId initId : String}
/-- raise f(..) from None, within an except clause -/
theorem Raise_from {exc : Expr} {pos zp : Pos} {k : Nat} {Q : Flow → Shared → Prop} (F0 : Fr h₀ L s.heap m) (X : K.In h₀) (T : TopRead p loose mg mb h₀) (hx : nsIn K mainGlobals x = some (some (.ref C))) (q : excIn K C bmB newId = true) (FB : ExcBaseFacts B newId initId bmB) (hh : A.handled = some (.ref eV))
    (h : wpAny (model prog w) A (eval exc env) (fun v s₁ => ∃ e t led, v = .ref e ∧ Fr h₀ L s₁.heap m ∧ News h₀ L s₁.heap ((e, excObj' C t) :: led) ∧ (∀ q ∈ led, q.1 ≠ e) ∧
      (∃ oV vV, (eV, oV) ∈ led ∧ oV.data = .fields vV ∧ vV[2]? = some .none) ∧ (∀ h', Thrown s₁.heap h' e (.ref C) → E (.ref e) { s₁ with heap := h' })) E s) :
    wpAny (model prog w) A (exec (.Raise (some exc) (some (.Constant .none k zp)) pos) env) Q E s := by
  have O := own_of_in X T hx q
  obtain ⟨tl, N9, nm, q, bs, hdct, sn, sub, ab, col, dd, k0, k1, k2, k3, k5, mN, hC, hN, hni, T9⟩ := O.obj
  rw [arm_exec_Raise]
  refine wpAny_bind (wpAny_standAt ?_)
  simp only [evalOpt, Option.map]
  refine raise_from (C := C) (nm := nm) (q := q) (N := N9) (bs := bs) (bm := tl) (hdct := hdct) (sn := sn) (sub := sub) (ab := ab) (col := col) (dd := dd) (k0 := k0) (k1 := k1) (k2 := k2) (k3 := k3) (k5 := k5) (newId := newId) (T9.hasType FB.hasBase) hh
    (wpAny_bind (wpAny_mono h (fun v s₁ h₁ => wpAny_bind (wpAny_standAt (wpAny_pure ?_))) fun _ _ x => x))
  obtain ⟨e, t, led, rfl, F, N, hfr, ⟨oV, vV, hV, hVd, hV2⟩, hE⟩ := h₁
  have he := (N _ (.head _)).1
  have hVn := (N _ (.tail _ hV)).1
  refine ⟨e, t, oV, vV, rfl, fun z => hfr _ hV z.symm, F.keep _ _ hC, he, hVn, hVd, hV2, ?_⟩
  refine wpAny_bind ?_
  have hz : wpAny (model prog w) A (eval (.Constant .none k zp) env) (fun v s₂ => v = .none ∧ s₂ = s₁) E s₁ := by
    first
      | exact wpAny_pure ⟨rfl, rfl⟩
      | exact wpAny_bind (wpAny_pure ⟨rfl, rfl⟩)
  refine wpAny_mono hz (fun v s₂ h₂ => ?_) fun _ _ x => x
  obtain ⟨rfl, rfl⟩ := h₂
  refine wpAny_bind (wpAny_standAt (wpAny_pure ⟨rfl, rfl, fun h' hk ht => ?_⟩))
  obtain ⟨oe, vs, q1, q2, q3, q4, q5⟩ := ht
  exact hE h' ⟨hk, ⟨_, _, he, rfl⟩, oe, vs, _, q1, q2, q3, q4, q5⟩
end
end
section
open PySem PySem.W PySem.Spec PySem.Calls PyProof.Rows
set_option maxRecDepth 100000
set_option maxHeartbeats 4000000
section
variable {A₀ : Around} {base h₀ g g' : Heap} {outer : List Env} {L a : Addr} {m : Str → Option Value} {cn : Str} {cs : Scope} {ccd : Value} {K : Frag} {p : Program} {loose : List Str} {mean : ExcName → Option Value} {mg mb : Str → Option Value}
/-- a callee's heap that has turned turns the caller's base -/
theorem turn_back (B : Below A₀ base outer h₀) (F : Fr h₀ L g m) (T : KtsTurn ((envOf cn cs L a ccd :: outer).filterMap (·.frame)) g g') (XB : K.In base) (TB : Top p loose mean mg mb base) (D : KtsDicts (outer.filterMap (·.frame)) h₀) :
    ∃ h₀', KtsTurn (outer.filterMap (·.frame)) h₀ h₀' ∧ Fr h₀' L g' m ∧ Below A₀ base outer h₀' ∧ K.In h₀' ∧ Top p loose mean mg mb h₀' ∧ KtsDicts (outer.filterMap (·.frame)) h₀' := by
  obtain ⟨T₁, S₁⟩ := kts_turn_at (h := g') (fs := outer.filterMap (·.frame)) (g := h₀)
    (fun b hb => by
      obtain ⟨_, o, ho, _⟩ := B.frames.mem hb
      exact ⟨o, ho⟩)
    (fun b o e nmem => T.other b o (F.keep b o e) (fun q => by
      rcases kts_mem q with z | z
      · rw [z, kts_self F] at e; cases e
      · exact nmem z))
    (fun b o e hm => T.up (F.keep b o e))
  have B₁ : Below A₀ base outer (ktsHeap g' (outer.filterMap (·.frame)) h₀) := ⟨B.stack, fun b o e => T₁.other b o (B.stays b o e) (fun hm => by
    rw [(B.frames.mem hm).1] at e; cases e), B.frames.of_keeps fun b o e _ => by
    obtain ⟨sl, hs⟩ := T₁.up e
    exact ⟨_, hs, rfl⟩⟩
  obtain ⟨oL, es, ep, hL, hLd, hr⟩ := F.ns
  obtain ⟨sl, hs⟩ := T.up hL
  exact ⟨_, T₁, ⟨⟨_, es, ep, hs, hLd, hr⟩, S₁, by rw [T₁.size]; exact F.above⟩, B₁, XB.keeps B₁.stays, TB.keeps B₁.stays, D.turn T₁⟩
end
end
section
open PySem PySem.W PySem.Spec PySem.Calls PyProof.Rows
set_option maxRecDepth 100000
set_option maxHeartbeats 8000000

theorem repr_quote {prog : Program} {w : World} {A : Around} {E : Value → Shared → Prop} {s : Shared} {t : Tok} {Q : Value → Shared → Prop} (h : Q (.str (Str.ofString "\"'\"") s.toks) { s with toks := s.toks + 1 }) : wpAny (model prog w) A (pyReprObj (.str (Str.ofString "'") t)) Q E s := by
  have e : reprText (Str.ofString "'") = Str.ofString "\"'\"" := by decide +kernel
  exact wpAny_pyReprObj_str (by rw [e]; exact h) (by rw [e]; decide +kernel)

theorem cons_app {h₀ h : Heap} {L : Addr} {x : Addr × Obj} {l T : List (Addr × Obj)} (N : News h₀ L h (x :: (l ++ T))) : News h₀ L h ((x :: l) ++ T) := N
theorem tabS_mem {T : List (Addr × Obj)} (h : TabS T) : ∃ o, (200, o) ∈ T := by
  cases h with
  | empty => exact ⟨_, .head _⟩
  | full => exact ⟨_, .tail _ (.head _)⟩
theorem ne_tab {e : Addr} {oe : Obj} {l T : List (Addr × Obj)} (hl : ∀ q ∈ l, q.1 ≠ 200) (hT : TabS T) (hf : ∀ q ∈ l ++ T, q.1 ≠ e) : ∀ q ∈ (e, oe) :: l, q.1 ≠ 200 := by
  obtain ⟨o, ho⟩ := tabS_mem hT
  intro q hq
  rcases List.mem_cons.mp hq with rfl | hq
  · exact fun z => hf _ (List.mem_append_right _ ho) z.symm
  · exact hl q hq

theorem ex_ready {h₀ : Heap} {L eV C e t : Addr} {m : Str → Option Value} {s₁ : Shared} {vs : List Value} {led : List (Addr × Obj)} {oV : Obj} {vV : Array Value} {E : Value → Shared → Prop} (F : Fr h₀ L s₁.heap m) (N : News h₀ L s₁.heap ((e, excObj C t) :: (t, tupObj vs) :: led)) (hfr : ∀ q ∈ led, q.1 ≠ e) (hm : (eV, oV) ∈ led) (h1 : oV.data = .fields vV) (h2 : vV[2]? = some .none)
    (hE : ∀ h', Thrown s₁.heap h' e (.ref C) → E (.ref e) { s₁ with heap := h' }) : ∃ e' t' led', Value.ref e = .ref e' ∧ Fr h₀ L s₁.heap m ∧ News h₀ L s₁.heap ((e', excObj' C t') :: led') ∧ (∀ q ∈ led', q.1 ≠ e') ∧ (∃ oV vV, (eV, oV) ∈ led' ∧ oV.data = .fields vV ∧ vV[2]? = some .none) ∧ (∀ h', Thrown s₁.heap h' e' (.ref C) → E (.ref e') { s₁ with heap := h' }) :=
  ⟨e, t, led, rfl, F, fun p hp => N p (by rcases List.mem_cons.mp hp with h | h; exact h ▸ .head _; exact .tail _ (.tail _ h)), hfr, ⟨oV, vV, hm, h1, h2⟩, hE⟩

theorem leave_ready {M : Model} {A : Around} {E : Value → Shared → Prop} {s' : Shared} {base g h : Heap} {outer : List Env} {L a e : Addr} {m : Str → Option Value} {name : Str} {scope : Scope} {cd : Value} {Q : Unit → Shared → Prop} {news : List (Addr × Obj)} {oE : Obj} {x y : Addr × Obj} {cls : Value}
    (K : Below A base outer g) (hx : Thrown h s'.heap e cls) (F : Fr g L h m) (N : News g L h ((e, oE) :: x :: y :: news)) (hfr : ∀ q ∈ y :: news, q.1 ≠ e)
    (hQ : ∀ h', RaisedSN base g outer e cls news h' → g.UpToSlots h' → Q () { s' with heap := h' }) (hk : scope.kind = .function := by rfl) :
    wpAny M (A.deeper (envOf name scope L a cd)) (leaving (envOf name scope L a cd) (.ref e)) Q E s' :=
  leave_thrown K hx F (N _ (.head _)).2.2 (N _ (.head _)).2.1 (fun p hp => N p (.tail _ (.tail _ (.tail _ hp)))) (fun q hq => hfr q (.tail _ hq)) hQ hk

theorem slice_mem {x : Str} {a b : Option Int} : ∀ c ∈ (Txt.slice x a b).cps.toList, c ∈ x.cps.toList := by
  intro c hc
  unfold Txt.slice at hc
  split at hc
  · exact hc
  · simp only [List.mem_filterMap] at hc
    obtain ⟨i, _, hi⟩ := hc
    obtain ⟨h, rfl⟩ := Array.getElem?_eq_some_iff.mp hi
    simp
theorem slice_clean {x : Str} {S : List Str} {a b : Option Int} (h : ∀ c ∈ x.cps.toList, ch c ∉ S ∧ c < 128) : ∀ c ∈ (Txt.slice x a b).cps.toList, ch c ∉ S := fun c hc => (h c (slice_mem c hc)).1
theorem slice_ascii {x : Str} {S : List Str} {a b : Option Int} (h : ∀ c ∈ x.cps.toList, ch c ∉ S ∧ c < 128) : (Txt.slice x a b).cps.all (· < 128) = true := by
  rw [Array.all_eq_true]
  intro i hi
  exact decide_eq_true (h _ (slice_mem (a := a) (b := b) _ (by simp only [Array.getElem_mem, Array.mem_toList_iff]))).2
end
section
open PySem PySem.W PySem.Spec PySem.Calls PyProof.Rows
set_option maxRecDepth 100000
set_option maxHeartbeats 1000000
section
variable {w : World} {pv : Program} {loose : List Str} {mean : ExcName → Option Value} {mg mb : Str → Option Value}
    {dp un : Nat} {gd : Option (List Code)} {cn : Str} {cs : Scope} {a : Addr} {ccd : Value} {cl : List (Str × Addr)} {outer : List Env} {A₀ : Around} {base h₀ : Heap} {L : Addr} {m : Str → Option Value} {news : List (Addr × Obj)} {s : Shared}
    {Q E : Value → Shared → Prop}

theorem err_back {e : Addr} {T' : List (Addr × Obj)} {g g₂ h' : Heap} {tk' : Nat} (err : ∀ e T' h₀' G h' tk', TabS T' → KtsTurn (outer.filterMap (·.frame)) h₀ h₀' → Fr h₀' L G m → Below A₀ base outer h₀' → (Kf w.params).In h₀' → Top pv loose mean mg mb h₀' → KtsDicts (outer.filterMap (·.frame)) h₀' → RaisedSN base G (envOf cn cs L a ccd :: outer) e (.ref 124) (news ++ T') h' → G.UpToSlots h' → E (.ref e) { s with heap := h', toks := tk' }) (KT : KtsTurn ((envOf cn cs L a ccd :: outer).filterMap (·.frame)) g g₂) (FG : Fr h₀ L g m) (B : Below A₀ base outer h₀) (XB : (Kf w.params).In base) (TB : Top pv loose mean mg mb base) (D : KtsDicts (outer.filterMap (·.frame)) h₀)
    (hT : TabS T') (R : RaisedSN base g₂ (envOf cn cs L a ccd :: outer) e (.ref 124) (news ++ T') h') (U : g₂.UpToSlots h') : E (.ref e) { s with heap := h', toks := tk' } := by
  obtain ⟨h₀', k1, k2, k3, k4, k5, k6⟩ := turn_back B FG KT XB TB D
  exact err e T' h₀' g₂ h' tk' hT k1 k2 k3 k4 k5 k6 R U
end
theorem lines_W13_0 : True := by
  k_with_none
  k_with "call type:type" => (k_here; (with_reducible show wpAny _ _ (call _ [Value.bytes _ _]) _ _ _); refine call_type_of (Tx := "bytes") rfl (by decide +kernel) ?_)
  k_with "subscriptTail Name Name str int" => (k_here; refine' sub_str_or ?zk0 ?zk1 ?zk2 ?_ ?_ ?zk3 ?zk4; (case zk0 => rfl); (case zk1 => l_fact); (case zk2 => l_fact); (case zk3 => with_unfolding_all rfl); (case zk4 => intro _; with_unfolding_all rfl); (all_goals intros))
  k_with "compareOp In" => (k_here; (with_reducible show wpAny _ _ (compareOp CmpOp.In (Value.str _ _) (Value.ref _)) _ _ _); refine' in_set ?zk1 ?zk2 ?zk3 ?_; (case zk1 => k_asm); (case zk2 => exact SetAt.keeps (by assumption) (Below.stays (by assumption))); (case zk3 => assumption))
  k_with "noteFrame ref" => (k_here; (rename Heap.NewExc _ _ _ _ => nx9); (with_reducible show wpAny _ _ (noteFrame _ _) (fun _ s₂ => wpAny _ _ (setFlight _ none) (fun _ s₃ => wpAny _ _ (handleBy _ _ (ExceptHandler.ExceptHandler (some (Expr.Name ("ValueError" : Str) _)) none _ _ :: _)) _ _ s₃) _ s₂) _ _); k_dflt (refine' caught_ctx (X := "ValueError") (T' := "ValueError") ?zK ?zF ?zN nx9 ?zXB ?zTB ?zD ?zT0 ?zex PyProof.Rows.Boot.«ValueError» ?zhn PySem.F.isExc_ValueError PySem.F.notTuple_ValueError ?zhs ?_ ?zhk ?zhx ?zhd ?zhE; (case zF => assumption); (case zN => assumption); (case zK => assumption); (case zXB => assumption); (case zTB => assumption); (case zD => assumption); (case zT0 => first | assumption | exact KtsTurn.refl); (case zhs => rw [isSubtype_type]; kernel_rfl); (case zex => k_is); (case zhn => decide); (case zhk => exact rfl); (case zhx => exact rfl); (case zhd => decide); (case zhE => passes_own); k_whole); clear nx9; intro h' g' oe' vs' od' v2' fr' T' F' N' K' X' P' D'; (try k_lift K'); (try k_sweep))
  k_with "MY LE" => (refine' Nat.le_trans ?zlea ?zleb; (case zlea => repeat' (first | (with_reducible refine' cat_le ?_ ?_) | with_reducible exact empty_le | decide +kernel | exact Nat.le_trans (by with_reducible assumption) (Nat.le_of_ble_eq_true rfl : (1000 : Nat) ≤ 4000))); (case zleb => exact Nat.le_of_ble_eq_true rfl))
  k_with "joinParts" => (k_here; (first | (with_reducible show wpAny _ _ (joinParts _ []) _ _ _) | (with_reducible show wpAny _ _ (joinParts _ (evalEach [] _)) _ _ _)); k_dflt (refine' joinParts_nil ?_ ?zleq; (case zleq => walk_at "MY LE")))
  k_with "pyReprObj str" => (k_here; refine' repr_quote ?_)
  k_with "getMethod ref" => (k_here; (with_reducible show wpAny _ _ (getMethod (Value.ref _) "isdisjoint" _) _ _ _); refine' method_isdisjoint ?zF ?zS ?_; (case zF => k_asm); (case zS => exact SetAt.keeps (by assumption) (Below.stays (by assumption))))
  k_with "call builtin:frozenset.isdisjoint" => (k_here; k_dflt (refine' isdisjoint_ok ?zhh ?zF ?zN ?zS ?zl ?zx ?za ?_; (case zhh => rfl); (case zF => k_asm); (case zN => k_asm); (case zS => exact SetAt.keeps (by assumption) (Below.stays (by assumption))); (case zl => assumption); (case zx => exact slice_clean (by assumption)); (case za => exact slice_ascii (by assumption)); k_whole); intro h' tk' F' N')
  k_with "call builtin:str.index" => (k_here; refine' index_from ?zhh ?zh0 ?_ ?_; (case zhh => rfl); (case zh0 => l_fact); (all_goals intros))
  k_with "exec Raise some some" => (k_here; k_dflt (refine' Raise_from (x := Str.ofString "TOMLDecodeError") (C := 124) (B := "ValueError") ?zF0 ?zX ?zT ?zhx ?zq PySem.F.excBase_ValueError ?zhh ?_; (case zF0 => k_asm); (case zX => k_asm); (case zT => k_asm); (case zhx => k_is); (case zq => k_exc); (case zhh => rfl); k_whole))
  k_with "Exists" => (k_here; k_dflt (refine' ex_ready ?zF ?zN ?zfr ?zmem ?zh1 ?zh2 ?_; (case zF => k_asm); (case zN => k_asm); (case zfr => k_asm); (case zmem => exact List.mem_append_left _ (List.Mem.head _)); (case zh1 => assumption); (case zh2 => assumption); k_whole); intro h' th')
  k_with "leaving ref" => (k_here; (rename Thrown _ _ _ _ => th9); k_dflt (refine' leave_ready ?zK th9 ?zF ?zN ?zfr ?_; (case zK => k_asm); (case zF => k_asm); (case zN => k_asm); (case zfr => k_asm); k_whole); clear th9; intro h' R' U')
  k_with "call ref" => (k_here; (with_reducible show wpAny _ _ (call (Value.ref 205) _) _ _ _); k_dflt (first
    | (refine' suffixed_err_ok ?zB ?zF ?zX ?zN ?zT ?zhk ?zhd ?zhu ?zhC ?zhT ?zhnP ?zh0 ?zh1 ?zhsz ?zhm ?zhnl ?_; (case zN => first | k_asm | exact cons_app (by k_asm)); (case zB => k_asm); (case zF => k_asm); (case zX => k_asm); (case zT => k_asm); (case zhk => first | exact rfl | assumption); (case zhd => ktr_room); (case zhu => ktr_units); (case zhC => k_asm); (case zhT => k_asm); (case zhnP => first | k_asm | exact ne_tab (by assumption) (by assumption) (by assumption)); (case zh0 => l_fact); (case zh1 => l_fact); (case zhsz => k_asm); (case zhm => decide +kernel); (case zhnl => k_asm); k_whole)); intro e' t' vs' T' h' tk' hT' hfr' F' N')
  trivial
section
variable {w : World} {pv : Program} {loose : List Str} {mean : ExcName → Option Value} {mg mb : Str → Option Value}
    {dp un : Nat} {gd : Option (List Code)} {cn : Str} {cs : Scope} {a : Addr} {ccd : Value} {cl : List (Str × Addr)} {outer : List Env} {A₀ : Around} {base h₀ : Heap} {L : Addr} {m : Str → Option Value} {news : List (Addr × Obj)} {s : Shared}
    {Q E : Value → Shared → Prop}

theorem skip_until_ok {src : Str} {ts tp tm : Tok} {p : Int} {T0 : List (Addr × Obj)} (B : Below A₀ base outer h₀) (F : Fr h₀ L s.heap m) (X : (Kf w.params).In h₀) (N : News h₀ L s.heap (news ++ T0)) (T : Top pv loose mean mg mb h₀) (XB : (Kf w.params).In base) (TB : Top pv loose mean mg mb base) (D : KtsDicts (outer.filterMap (·.frame)) h₀) (hk : cs.kind = .function)
    (hd : dp + 6 < recursionLimit) (hu : un + 80 < cLine) (hC : CodeHd base 204 200) (hT : TabS T0) (hnP : ∀ q ∈ news, q.1 ≠ 200) (h0 : 0 ≤ p) (h1 : p ≤ (src.length : Int)) (hsz : src.length ≤ 1000) (hnl : ∀ (i : Nat) (h : i < src.length), src.cps[i]'h ≠ 10)
    {S : List Str} (hS : SetAt base 89 S) (hS9 : S.length < 4096) (hall : ∀ c ∈ src.cps.toList, ch c ∉ S ∧ c < 128)
    (ret : ∀ k t h₀' h' tk', nextAt src 39 p.toNat = some k → KtsTurn (outer.filterMap (·.frame)) h₀ h₀' → Fr h₀' L h' m → News h₀' L h' (news ++ T0) → Below A₀ base outer h₀' → (Kf w.params).In h₀' → Top pv loose mean mg mb h₀' → KtsDicts (outer.filterMap (·.frame)) h₀' → Q (.int (k : Nat) t) { s with heap := h', toks := tk' }) (err : nextAt src 39 p.toNat = none → ∀ e T' h₀' G h' tk', TabS T' → KtsTurn (outer.filterMap (·.frame)) h₀ h₀' → Fr h₀' L G m → Below A₀ base outer h₀' → (Kf w.params).In h₀' → Top pv loose mean mg mb h₀' → KtsDicts (outer.filterMap (·.frame)) h₀' → RaisedSN base G (envOf cn cs L a ccd :: outer) e (.ref 124) (news ++ T') h' → G.UpToSlots h' → E (.ref e) { s with heap := h', toks := tk' }) :
    wpAny (model PySem.Challenge.rw_il0176_01.prog w) (ktrTop dp un gd cn cs L a ccd [] outer) (call (.ref 141) [.str src ts, .int p tp, .str (Str.ofString "'") tm] [(Str.ofString "error_on", .ref 89), (Str.ofString "error_on_eof", .bool true)]) Q E s := by
  revert X; k_fill; intro X
  have hfd := show fd 24 = _ from by (conv => lhs; whnf)
  refine wpAny_call ?_
  k_dflt (walk_at "ENTERS")
  clear hfd

  k_steps
  · exact ret _ _ _ _ _ (by assumption) KtsTurn.refl (by k_asm) (by k_asm) (by k_asm) (by k_asm) (by k_asm) (by k_asm)
  · exact err_back (err (by assumption)) (by assumption) (by assumption) B XB TB D (by assumption) (by assumption) (by assumption)
end
end
section
open PySem PySem.W PySem.Spec PySem.Calls PyProof.Rows
set_option maxRecDepth 100000
set_option maxHeartbeats 1000000

abbrev tup2 (a b : Value) : Obj := { cls := .type "tuple", data := .seq #[a, b] }
theorem cons_app2 {h₀ h : Heap} {L : Addr} {x y : Addr × Obj} {l T : List (Addr × Obj)} (N : News h₀ L h (x :: y :: (l ++ T))) : News h₀ L h ((x :: y :: l) ++ T) := N
theorem cons_app3 {h₀ h : Heap} {L : Addr} {x y z : Addr × Obj} {l T : List (Addr × Obj)} (N : News h₀ L h (x :: y :: z :: (l ++ T))) : News h₀ L h ((x :: y :: z :: l) ++ T) := N
theorem lines_W14_0 : True := by
  k_with_none
  k_with "call type:type" => (k_here; (with_reducible show wpAny _ _ (call _ [Value.bytes _ _]) _ _ _); refine call_type_of (Tx := "bytes") rfl (by decide +kernel) ?_)
  k_with "subscriptTail Name Name str int" => (k_here; refine' sub_str_or ?zk0 ?zk1 ?zk2 ?_ ?_ ?zk3 ?zk4; (case zk0 => rfl); (case zk1 => l_fact); (case zk2 => l_fact); (case zk3 => with_unfolding_all rfl); (case zk4 => intro _; with_unfolding_all rfl); (all_goals intros))
  k_with "compareOp In" => (k_here; (with_reducible show wpAny _ _ (compareOp CmpOp.In (Value.str _ _) (Value.ref _)) _ _ _); refine' in_set ?zk1 ?zk2 ?zk3 ?_; (case zk1 => k_asm); (case zk2 => exact SetAt.keeps (by assumption) (Below.stays (by assumption))); (case zk3 => assumption))
  k_with "call ref" => (k_here; (with_reducible show wpAny _ _ (call (Value.ref 141) _ _) _ _ _); k_dflt (refine' skip_until_ok ?zB ?zF ?zX ?zN ?zT ?zXB ?zTB ?zD ?zhk ?zhd ?zhu ?zhC ?zhT ?zhnP ?zh0 ?zh1 ?zhsz ?zhnl ?zhS ?zhS9 ?zhall ?_ ?_; (case zN => first | k_asm | exact cons_app (by k_asm) | exact cons_app2 (by k_asm) | exact cons_app3 (by k_asm)); (case zB => k_asm); (case zF => k_asm); (case zX => k_asm); (case zT => k_asm); (case zXB => assumption); (case zTB => assumption); (case zD => assumption); (case zhk => first | exact rfl | assumption); (case zhd => ktr_room); (case zhu => ktr_units); (case zhC => k_asm); (case zhT => k_asm); (case zhnP => k_asm); (case zh0 => l_fact); (case zh1 => l_fact); (case zhsz => k_asm); (case zhnl => k_asm); (case zhS => assumption); (case zhS9 => assumption); (case zhall => assumption); k_whole); (intro k t g' h' tk' hq' T' F' N' K' X' P' D'; (replace T' := KtsTurn.trans (by first | with_reducible assumption | exact KtsTurn.refl) T'); (try k_lift K'); (try k_sweep)); rotate_left; (intro hq' e' t9' g' G' h' tk' hT9' T' F' K' X' P' D' R' U'; (replace T' := KtsTurn.trans (by first | with_reducible assumption | exact KtsTurn.refl) T'); (try k_lift K')); rotate_right)
  k_with "leaving ref" => (k_here; (with_reducible rename RaisedSN _ _ _ _ _ _ _ => r9); k_dflt (refine' leave_onSN ?zK ?zF r9 ?zU ?_; (case zF => assumption); (case zK => assumption); (case zU => assumption); k_whole); clear r9; intro h' R' _ U')
  trivial
section
variable {w : World} {pv : Program} {loose : List Str} {mean : ExcName → Option Value} {mg mb : Str → Option Value}
    {dp un : Nat} {gd : Option (List Code)} {cn : Str} {cs : Scope} {a : Addr} {ccd : Value} {cl : List (Str × Addr)} {outer : List Env} {A₀ : Around} {base h₀ : Heap} {L : Addr} {m : Str → Option Value} {news : List (Addr × Obj)} {s : Shared}
    {Q E : Value → Shared → Prop}

theorem parse_literal_ok {src : Str} {ts tp : Tok} {p : Int} {T0 : List (Addr × Obj)} (B : Below A₀ base outer h₀) (F : Fr h₀ L s.heap m) (X : (Kf w.params).In h₀) (N : News h₀ L s.heap (news ++ T0)) (T : Top pv loose mean mg mb h₀) (XB : (Kf w.params).In base) (TB : Top pv loose mean mg mb base) (D : KtsDicts (outer.filterMap (·.frame)) h₀) (hk : cs.kind = .function)
    (hd : dp + 7 < recursionLimit) (hu : un + 88 < cLine) (hC : CodeHd base 204 200) (hT : TabS T0) (hnP : ∀ q ∈ news, q.1 ≠ 200) (h0 : 0 ≤ p) (h1 : p < (src.length : Int)) (hsz : src.length ≤ 1000) (hnl : ∀ (i : Nat) (h : i < src.length), src.cps[i]'h ≠ 10) {S : List Str} (hS : SetAt base 89 S) (hS9 : S.length < 4096) (hall : ∀ c ∈ src.cps.toList, ch c ∉ S ∧ c < 128)
    (ret : ∀ k t u x h₀' h' tk', nextAt src 39 (p + 1).toNat = some k → (∀ q ∈ news ++ T0, q.1 < x) → KtsTurn (outer.filterMap (·.frame)) h₀ h₀' → Fr h₀' L h' m → News h₀' L h' ((x, tup2 (.int ((k : Nat) + 1) t) (.str (Txt.slice src (some (p + 1)) (some (k : Nat))) u)) :: (news ++ T0)) → Below A₀ base outer h₀' → (Kf w.params).In h₀' → Top pv loose mean mg mb h₀' → KtsDicts (outer.filterMap (·.frame)) h₀' → Q (.ref x) { s with heap := h', toks := tk' }) (err : nextAt src 39 (p + 1).toNat = none → ∀ e T' h₀' G h' tk', TabS T' → KtsTurn (outer.filterMap (·.frame)) h₀ h₀' → Fr h₀' L G m → Below A₀ base outer h₀' → (Kf w.params).In h₀' → Top pv loose mean mg mb h₀' → KtsDicts (outer.filterMap (·.frame)) h₀' → RaisedSN base G (envOf cn cs L a ccd :: outer) e (.ref 124) (news ++ T') h' → G.UpToSlots h' → E (.ref e) { s with heap := h', toks := tk' }) :
    wpAny (model PySem.Challenge.rw_il0176_01.prog w) (ktrTop dp un gd cn cs L a ccd [] outer) (call (.ref 191) [.str src ts, .int p tp]) Q E s := by
  revert X; k_fill; intro X
  have hfd := show fd 31 = _ from by (conv => lhs; whnf)
  refine wpAny_call ?_
  k_dflt (walk_at "ENTERS")
  clear hfd

  k_steps
  · exact ret _ _ _ _ _ _ _ (by assumption) (by assumption) (by assumption) (by k_asm) (by k_asm) (by k_asm) (by k_asm) (by k_asm) (by k_asm)
  · exact err_back (err (by assumption)) (by assumption) (by assumption) B XB TB D (by assumption) (by assumption) (by assumption)
end
end
section
open PySem PySem.W PySem.Spec PySem.Calls PyProof.Rows
set_option maxRecDepth 100000
set_option maxHeartbeats 4000000
section
variable {prog : Program} {w : World} {A : Around} {E : Value → Shared → Prop} {s : Shared} {env : Env} {h₀ : Heap} {L C eV : Addr} {m mg mb : Str → Option Value} {K : Frag} {p : Program} {loose : List Str} {mean : ExcName → Option Value} {x : Str} {bmB : List Value} {B newId initId : String}
/-- raise f(..), nothing handled -/
theorem Raise_made {exc : Expr} {pos : Pos} {Q : Flow → Shared → Prop} (F0 : Fr h₀ L s.heap m) (X : K.In h₀) (T : TopRead p loose mg mb h₀) (hx : nsIn K mainGlobals x = some (some (.ref C))) (q : excIn K C bmB newId = true) (FB : ExcBaseFacts B newId initId bmB) (hh : A.handled = none)
    (h : wpAny (model prog w) A (eval exc env) (fun v s₁ => ∃ e t led, v = .ref e ∧ Fr h₀ L s₁.heap m ∧ News h₀ L s₁.heap ((e, excObj' C t) :: led) ∧ (Thrown s₁.heap s₁.heap e (.ref C) → E (.ref e) s₁)) E s) :
    wpAny (model prog w) A (exec (.Raise (some exc) none pos) env) Q E s := by
  have O := own_of_in X T hx q
  obtain ⟨tl, N9, nm, q, bs, hdct, sn, sub, ab, col, dd, k0, k1, k2, k3, k5, mN, hC, hN, hni, T9⟩ := O.obj
  rw [arm_exec_Raise]
  refine wpAny_bind (wpAny_standAt ?_)
  simp only [evalOpt, Option.map]
  refine wpAny_raiseStmt_made_sub (C := C) (nm := nm) (q := q) (N := N9) (bs := bs) (bm := tl) (hdct := hdct) (sn := sn) (sub := sub) (ab := ab) (col := col) (dd := dd) (k0 := k0) (k1 := k1) (k2 := k2) (k3 := k3) (k5 := k5) (newId := newId) (T9.hasType FB.hasBase) hh
    (wpAny_bind (wpAny_mono h (fun v s₁ h₁ => wpAny_bind (wpAny_standAt (wpAny_pure ?_))) fun _ _ x => x))
  obtain ⟨e, t, led, rfl, F, N, hE⟩ := h₁
  have he := (N _ (.head _)).1
  exact ⟨e, t, rfl, F.keep _ _ hC, he, hE ⟨fun _ _ _ z => z, ⟨_, _, he, rfl⟩, _, _, _, he, rfl, rfl, rfl, rfl⟩⟩
end
theorem ex_made {h₀ : Heap} {L C e t : Addr} {m : Str → Option Value} {s₁ : Shared} {vs : List Value} {led : List (Addr × Obj)} {E : Value → Shared → Prop} (F : Fr h₀ L s₁.heap m) (N : News h₀ L s₁.heap ((e, excObj C t) :: (t, tupObj vs) :: led))
    (hE : Thrown s₁.heap s₁.heap e (.ref C) → E (.ref e) s₁) : ∃ e' t' led', Value.ref e = .ref e' ∧ Fr h₀ L s₁.heap m ∧ News h₀ L s₁.heap ((e', excObj' C t') :: led') ∧ (Thrown s₁.heap s₁.heap e' (.ref C) → E (.ref e') s₁) :=
  ⟨e, t, (t, tupObj vs) :: led, rfl, F, N, hE⟩
theorem leave_made {M : Model} {A : Around} {E : Value → Shared → Prop} {s' : Shared} {base g h : Heap} {outer : List Env} {L a e : Addr} {m : Str → Option Value} {name : Str} {scope : Scope} {cd : Value} {Q : Unit → Shared → Prop} {news : List (Addr × Obj)} {oE : Obj} {x : Addr × Obj} {cls : Value}
    (K : Below A base outer g) (hx : Thrown h s'.heap e cls) (F : Fr g L h m) (N : News g L h ((e, oE) :: x :: news)) (hfr : ∀ q ∈ news, q.1 ≠ e)
    (hQ : ∀ h', RaisedSN base g outer e cls news h' → g.UpToSlots h' → Q () { s' with heap := h' }) (hk : scope.kind = .function := by rfl) :
    wpAny M (A.deeper (envOf name scope L a cd)) (leaving (envOf name scope L a cd) (.ref e)) Q E s' :=
  leave_thrown K hx F (N _ (.head _)).2.2 (N _ (.head _)).2.1 (fun p hp => N p (.tail _ (.tail _ hp))) hfr hQ hk
/-- one part of a key -/
noncomputable def partAt (S : List Str) (x : Str) (p : Int) : Option (Int × Str) :=
  if p < (x.length : Int) then
    if Txt.item x p ∈ S then some (skipTo S x p, Txt.slice x (some p) (some (skipTo S x p)))
    else if Txt.item x p = Str.ofString "'" then (nextAt x 39 (p + 1).toNat).map fun k => ((k : Nat) + 1, Txt.slice x (some (p + 1)) (some (k : Nat)))
    else none
  else none
end
section
open PySem PySem.W PySem.Spec PySem.Calls PyProof.Rows
set_option maxRecDepth 100000
set_option maxHeartbeats 8000000

theorem part_bare {S : List Str} {x : Str} {p : Int} (h : p < (x.length : Int)) (hS : Txt.item x p ∈ S) : partAt S x p = some (skipTo S x p, Txt.slice x (some p) (some (skipTo S x p))) := by unfold partAt; rw [if_pos h, if_pos hS]
theorem part_lit {S : List Str} {x : Str} {p : Int} {k : Nat} (h : p < (x.length : Int)) (hS : ¬ Txt.item x p ∈ S) (hq : (Txt.item x p == Str.ofString "'") = true) (hk : nextAt x 39 (p + 1).toNat = some k) : partAt S x p = some ((k : Int) + 1, Txt.slice x (some (p + 1)) (some (k : Int))) := by
  unfold partAt; rw [if_pos h, if_neg hS, if_pos (eq_of_beq hq), hk]; rfl
theorem part_lit_none {S : List Str} {x : Str} {p : Int} (h : p < (x.length : Int)) (hS : ¬ Txt.item x p ∈ S) (hq : (Txt.item x p == Str.ofString "'") = true) (hk : nextAt x 39 (p + 1).toNat = none) : partAt S x p = none := by
  unfold partAt; rw [if_pos h, if_neg hS, if_pos (eq_of_beq hq), hk]; rfl
theorem part_other {S : List Str} {x : Str} {p : Int} (h : p < (x.length : Int)) (hS : ¬ Txt.item x p ∈ S) (hq : (Txt.item x p == Str.ofString "'") = false) : partAt S x p = none := by
  unfold partAt; rw [if_pos h, if_neg hS, if_neg (fun e => by rw [e] at hq; simp at hq)]
theorem part_end {S : List Str} {x : Str} {p : Int} (h : (x.length : Int) ≤ p) : partAt S x p = none := by
  unfold partAt; rw [if_neg (by omega)]
theorem no_dquote {x : Str} {p : Int} (h : p < (x.length : Int)) (h0 : 0 ≤ p) (h34 : ∀ c ∈ x.cps.toList, c ≠ 34) : ¬ (Txt.item x p == Str.ofString "\"") = true := by
  obtain ⟨hl, e⟩ := item_ch h0 h
  intro q
  have q := eq_of_beq q
  rw [e] at q
  have hc : (34 : Nat) = x.cps.toList[p.toNat] := by
    have h1 : (Str.ofString "\"") = ch 34 := by decide +kernel
    rw [h1] at q
    unfold ch at q
    injection q with q
    have := congrArg Array.toList q
    simp at this
    rw [Array.getElem_toList]; exact this.symm
  exact h34 _ (List.getElem_mem hl) hc.symm
theorem lines_W15_0 : True := by
  k_with_none
  k_with "call type:type" => (k_here; (with_reducible show wpAny _ _ (call _ [Value.bytes _ _]) _ _ _); refine call_type_of (Tx := "bytes") rfl (by decide +kernel) ?_)
  k_with "subscriptTail Name Name str int" => (k_here; refine' sub_str_or ?zk0 ?zk1 ?zk2 ?_ ?_ ?zk3 ?zk4; (case zk0 => rfl); (case zk1 => l_fact); (case zk2 => l_fact); (case zk3 => with_unfolding_all rfl); (case zk4 => intro _; with_unfolding_all rfl); (all_goals intros))
  k_with "compareOp In" => (k_here; (with_reducible show wpAny _ _ (compareOp CmpOp.In (Value.str _ _) (Value.ref _)) _ _ _); refine' in_set ?zk1 ?zk2 ?zk3 ?_; (case zk1 => k_asm); (case zk2 => exact SetAt.keeps (by assumption) (Below.stays (by assumption))); (case zk3 => assumption))
  k_with "compareOp In" => (k_here; (with_reducible show wpAny _ _ (compareOp CmpOp.In Value.none (Value.ref _)) _ _ _); refine' none_in_set ?zk1 ?zk2 ?zk3 ?_; (case zk1 => k_asm); (case zk2 => exact SetAt.keeps (by assumption) (Below.stays (by assumption))); (case zk3 => assumption))
  k_with "noteFrame ref" => (k_here; (rename Heap.NewExc _ _ _ _ => nx9); (with_reducible show wpAny _ _ (noteFrame _ _) (fun _ s₂ => wpAny _ _ (setFlight _ none) (fun _ s₃ => wpAny _ _ (handleBy _ _ (ExceptHandler.ExceptHandler (some (Expr.Name ("IndexError" : Str) _)) none _ _ :: _)) _ _ s₃) _ s₂) _ _); k_dflt (refine' caught_here (X := "IndexError") (T' := "IndexError") ?zK ?zF ?zN nx9 ?zXB ?zTB ?zD ?zT0 ?zex PyProof.Rows.Boot.«IndexError» ?zhn PySem.F.isExc_IndexError PySem.F.notTuple_IndexError ?zhs ?_ ?zhk ?zhx ?zhd ?zhE; (case zF => assumption); (case zN => assumption); (case zK => assumption); (case zXB => assumption); (case zTB => assumption); (case zD => assumption); (case zT0 => first | assumption | exact KtsTurn.refl); (case zhs => rw [isSubtype_type]; kernel_rfl); (case zex => k_is); (case zhn => decide); (case zhk => exact rfl); (case zhx => exact rfl); (case zhd => decide); (case zhE => passes_own); k_whole); clear nx9; intro h' g' T' F' N' K' X' P' D'; (try k_lift K'); (try k_sweep))
  k_with "call ref" => (k_here; (with_reducible show wpAny _ _ (call (Value.ref 134) _ _) _ _ _); k_dflt (refine' skip_chars_ok ?zB ?zF ?zX ?zN ?zT ?zXB ?zTB ?zD ?zhk ?zhd ?zhu ?zhS ?zhS9 ?zh0 ?zh1 ?zhsz ?_; (case zN => k_asm); (case zB => k_asm); (case zF => k_asm); (case zX => k_asm); (case zT => k_asm); (case zXB => assumption); (case zTB => assumption); (case zD => assumption); (case zhk => first | exact rfl | assumption); (case zhd => ktr_room); (case zhu => ktr_units); (case zhS => assumption); (case zhS9 => assumption); (case zh0 => l_fact); (case zh1 => l_fact); (case zhsz => k_asm); k_whole); (intro t g' h' tk' T' F' N' K' X' P' D'; (replace T' := KtsTurn.trans (by first | with_reducible assumption | exact KtsTurn.refl) T'); (try k_lift K'); (try k_sweep)))
  k_with "call ref" => (k_here; (with_reducible show wpAny _ _ (call (Value.ref 191) _ _) _ _ _); k_dflt (refine' parse_literal_ok ?zB ?zF ?zX ?zN ?zT ?zXB ?zTB ?zD ?zhk ?zhd ?zhu ?zhC ?zhT ?zhnP ?zh0 ?zh1 ?zhsz ?zhnl ?zhS ?zhS9 ?zhall ?_ ?_; (case zN => first | k_asm | exact cons_app (by k_asm) | exact cons_app2 (by k_asm) | exact cons_app3 (by k_asm)); (case zB => k_asm); (case zF => k_asm); (case zX => k_asm); (case zT => k_asm); (case zXB => assumption); (case zTB => assumption); (case zD => assumption); (case zhk => first | exact rfl | assumption); (case zhd => ktr_room); (case zhu => ktr_units); (case zhC => k_asm); (case zhT => k_asm); (case zhnP => k_asm); (case zh0 => l_fact); (case zh1 => l_fact); (case zhsz => k_asm); (case zhnl => k_asm); (case zhS => assumption); (case zhS9 => assumption); (case zhall => assumption); k_whole); (intro k t u x g' h' tk' hq' hfr' T' F' N' K' X' P' D'; (replace T' := KtsTurn.trans (by first | with_reducible assumption | exact KtsTurn.refl) T'); (try k_lift K'); (try k_sweep)); rotate_left; (intro hq' e' t9' g' G' h' tk' hT9' T' F' K' X' P' D' R' U'; (replace T' := KtsTurn.trans (by first | with_reducible assumption | exact KtsTurn.refl) T'); (try k_lift K')); rotate_right)
  k_with "call ref" => (k_here; (with_reducible show wpAny _ _ (call (Value.ref 205) _) _ _ _); k_dflt (first
    | (refine' suffixed_err_ok ?zB ?zF ?zX ?zN ?zT ?zhk ?zhd ?zhu ?zhC ?zhT ?zhnP ?zh0 ?zh1 ?zhsz ?zhm ?zhnl ?_; (case zN => first | k_asm | exact cons_app (by k_asm)); (case zB => k_asm); (case zF => k_asm); (case zX => k_asm); (case zT => k_asm); (case zhk => first | exact rfl | assumption); (case zhd => ktr_room); (case zhu => ktr_units); (case zhC => k_asm); (case zhT => k_asm); (case zhnP => first | k_asm | exact ne_tab (by assumption) (by assumption) (by assumption)); (case zh0 => l_fact); (case zh1 => l_fact); (case zhsz => k_asm); (case zhm => decide +kernel); (case zhnl => k_asm); k_whole)); intro e' t' vs' T' h' tk' hT' hfr' F' N')
  k_with "exec Raise some none" => (k_here; k_dflt (refine' Raise_made (x := Str.ofString "TOMLDecodeError") (C := 124) (B := "ValueError") ?zF0 ?zX ?zT ?zhx ?zq PySem.F.excBase_ValueError ?zhh ?_; (case zF0 => k_asm); (case zX => k_asm); (case zT => k_asm); (case zhx => k_is); (case zq => k_exc); (case zhh => rfl); k_whole))
  k_with "leaving ref" => (k_here; (with_reducible rename RaisedSN _ _ _ _ _ _ _ => r9); k_dflt (refine' leave_onSN ?zK ?zF r9 ?zU ?_; (case zF => assumption); (case zK => assumption); (case zU => assumption); k_whole); clear r9; intro h' R' _ U')
  k_with "Exists" => (k_here; k_dflt (refine' ex_made ?zF ?zN ?_; (case zF => k_asm); (case zN => k_asm); k_whole); intro th')
  k_with "leaving ref" => (k_here; (rename Thrown _ _ _ _ => th9); k_dflt (refine' leave_made ?zK th9 ?zF ?zN ?zfr ?_; (case zK => k_asm); (case zF => k_asm); (case zN => k_asm); (case zfr => k_asm); k_whole); clear th9; intro h' R' U')
  trivial
section
variable {w : World} {pv : Program} {loose : List Str} {mean : ExcName → Option Value} {mg mb : Str → Option Value}
    {dp un : Nat} {gd : Option (List Code)} {cn : Str} {cs : Scope} {a : Addr} {ccd : Value} {cl : List (Str × Addr)} {outer : List Env} {A₀ : Around} {base h₀ : Heap} {L : Addr} {m : Str → Option Value} {news : List (Addr × Obj)} {s : Shared}
    {Q E : Value → Shared → Prop}

theorem parse_part_ok {src : Str} {ts tp : Tok} {p : Int} {T0 : List (Addr × Obj)} (B : Below A₀ base outer h₀) (F : Fr h₀ L s.heap m) (X : (Kf w.params).In h₀) (N : News h₀ L s.heap (news ++ T0)) (T : Top pv loose mean mg mb h₀) (XB : (Kf w.params).In base) (TB : Top pv loose mean mg mb base) (D : KtsDicts (outer.filterMap (·.frame)) h₀) (hk : cs.kind = .function)
    (hd : dp + 8 < recursionLimit) (hu : un + 96 < cLine) (hC : CodeHd base 204 200) (hT : TabS T0) (hnP : ∀ q ∈ news, q.1 ≠ 200) (h0 : 0 ≤ p) (h1 : p ≤ (src.length : Int)) (hsz : src.length ≤ 1000) (hnl : ∀ (i : Nat) (h : i < src.length), src.cps[i]'h ≠ 10) {S : List Str} (hS : SetAt base 89 S) (hS9 : S.length < 4096) (hall : ∀ c ∈ src.cps.toList, ch c ∉ S ∧ c < 128) {S2 : List Str} (hS2 : SetAt base 104 S2) (hS29 : S2.length < 4096) (h34 : ∀ c ∈ src.cps.toList, c ≠ 34)
    (ret : ∀ q nm t u x h₀' h' tk', partAt S2 src p = some (q, nm) → (∀ q ∈ news ++ T0, q.1 < x) → KtsTurn (outer.filterMap (·.frame)) h₀ h₀' → Fr h₀' L h' m → News h₀' L h' ((x, tup2 (.int q t) (.str nm u)) :: (news ++ T0)) → Below A₀ base outer h₀' → (Kf w.params).In h₀' → Top pv loose mean mg mb h₀' → KtsDicts (outer.filterMap (·.frame)) h₀' → Q (.ref x) { s with heap := h', toks := tk' }) (err : partAt S2 src p = none → ∀ e T' h₀' G h' tk', TabS T' → KtsTurn (outer.filterMap (·.frame)) h₀ h₀' → Fr h₀' L G m → Below A₀ base outer h₀' → (Kf w.params).In h₀' → Top pv loose mean mg mb h₀' → KtsDicts (outer.filterMap (·.frame)) h₀' → RaisedSN base G (envOf cn cs L a ccd :: outer) e (.ref 124) (news ++ T') h' → G.UpToSlots h' → E (.ref e) { s with heap := h', toks := tk' }) :
    wpAny (model PySem.Challenge.rw_il0176_01.prog w) (ktrTop dp un gd cn cs L a ccd [] outer) (call (.ref 155) [.str src ts, .int p tp]) Q E s := by
  revert X; k_fill; intro X
  have hfd := show fd 26 = _ from by (conv => lhs; whnf)
  refine wpAny_call ?_
  k_dflt (walk_at "ENTERS")
  clear hfd

  k_steps
  · exact ret _ _ _ _ _ _ _ _ (part_bare (by assumption) (by assumption)) (by assumption) (by assumption) (by k_asm) (by k_asm) (by k_asm) (by k_asm) (by k_asm) (by k_asm)
  · exact ret _ _ _ _ _ _ _ _ (part_lit (by assumption) (by assumption) (by assumption) (by assumption)) (by assumption) (by assumption) (by k_asm) (by k_asm) (by k_asm) (by k_asm) (by k_asm) (by k_asm)
  · exact err_back (err (part_lit_none (by assumption) (by assumption) (by assumption) (by assumption))) (by assumption) (by assumption) B XB TB D (by assumption) (by assumption) (by assumption)
  · exact absurd (by assumption) (no_dquote (by assumption) h0 h34)
  · exact err_back (err (part_other (by assumption) (by assumption) (by assumption))) KtsTurn.refl (by assumption) B XB TB D (by assumption) (by assumption) (by assumption)
  · exact err_back (err (part_end (by assumption))) (by assumption) (by assumption) B XB TB D (by assumption) (by assumption) (by assumption)
end
end
section
open PySem PySem.W PySem.Spec PySem.Calls PyProof.Rows
set_option maxRecDepth 100000
set_option maxHeartbeats 4000000
section
variable {prog : Program} {w : World} {A : Around} {E : Value → Shared → Prop} {Q : Flow → Shared → Prop} {s : Shared} {env : Env}
/-- what a turn of a while must show -/
noncomputable def TurnEnd (J : Nat → Shared → Prop) (Q : Flow → Shared → Prop) (n : Nat) (f : Flow) (s₃ : Shared) : Prop :=
  match f with
  | .next | .cont => ∃ n', n' < n ∧ J n' s₃
  | .brk => Q .next s₃
  | .ret v => Q (.ret v) s₃
theorem While_any {test : Expr} {body : List Stmt} {pos : Pos} (J : Nat → Shared → Prop) (n₀ : Nat) (hJ : J n₀ s)
    (turn : ∀ n s', J n s' → wpAny (model prog w) A (isTrue test env (eval test env)) (fun b s₂ => if b = true then wpAny (model prog w) A (execs body env) (TurnEnd J Q n) E s₂ else Q .next s₂) E s')
    (hE : PassesOwn (model prog w) A env E := by passes_own) :
    wpAny (model prog w) A (exec (.While test body [] pos) env) Q E s := by
  refine wpAny_While (codeAny_whileLoop J ?_ n₀ hJ)
  intro n s' hs
  refine wpAny_mono (turn n s' hs) (fun b s₂ h₂ => ?_) hE
  cases b with
  | false =>
    simp only [Bool.false_eq_true, if_false] at h₂ ⊢
    exact wpAny_execs_nil h₂
  | true =>
    simp only [if_true] at h₂ ⊢
    refine wpAny_mono h₂ (fun f s₃ h₃ => ?_) hE
    cases f with
    | next => exact h₃
    | cont => exact h₃
    | brk => exact h₃
    | ret v => exact h₃
noncomputable def PostT (q : Flow → Shared → Prop) (f : Flow) (s : Shared) : Prop := q f s
theorem While_anyV {test : Expr} {body : List Stmt} {pos : Pos} (J : Nat → Shared → Prop) (n₀ : Nat) (hJ : J n₀ s)
    (turn : ∀ n s' q, (∀ f s, TurnEnd J Q n f s → q f s) → J n s' → wpAny (model prog w) A (isTrue test env (eval test env)) (fun b s₂ => if b = true then wpAny (model prog w) A (execs body env) (PostT q) E s₂ else Q .next s₂) E s')
    (hE : PassesOwn (model prog w) A env E := by passes_own) : wpAny (model prog w) A (exec (.While test body [] pos) env) Q E s :=
  While_any J n₀ hJ (fun n s' hj => turn n s' (TurnEnd J Q n) (fun _ _ g => g) hj) hE
theorem post_t {R q : Flow → Shared → Prop} {f : Flow} {s : Shared} (h : ∀ f s, R f s → q f s) (g : R f s) : PostT q f s := h f s g
end
theorem kst_self {m : Str → Option Value} {ps : List (Str × Value)} (h : ∀ p ∈ ps, m p.1 = some p.2) : kstB m ps = m := funext fun _ => kstB_eq h fun _ => rfl
theorem fr_kst {h₀ h : Heap} {L : Addr} {m : Str → Option Value} {ps : List (Str × Value)} (F : Fr h₀ L h m) (hp : ∀ p ∈ ps, m p.1 = some p.2) : Fr h₀ L h (kstB m ps) := by rw [kst_self hp]; exact F
/-- the further parts of a key -/
noncomputable def keyGo (S : List Str) (x : Str) : Nat → Int → List Str → Option (Int × List Str)
  | 0, p, ks => some (p, ks)
  | n + 1, p, ks =>
    if p < (x.length : Int) ∧ Txt.item x p = Str.ofString "." then
      match partAt S x (p + 1) with
      | none => none
      | some (q, nm) => keyGo S x n q (ks ++ [nm])
    else some (p, ks)
/-- a key from place p on -/
noncomputable def keyAt (S : List Str) (x : Str) (p : Int) : Option (Int × List Str) :=
  match partAt S x p with
  | none => none
  | some (q, nm) => keyGo S x (x.length + 1) q [nm]
theorem skipTo_le {S : List Str} {x : Str} {p : Int} (h0 : 0 ≤ p) (h1 : p ≤ (x.length : Int)) : p ≤ skipTo S x p ∧ skipTo S x p ≤ (x.length : Int) := by
  unfold skipTo
  have h2 := (List.takeWhile_prefix (fun c => decide (ch c ∈ S)) (l := x.cps.toList.drop p.toNat)).length_le
  have hl : x.length = x.cps.toList.length := by simp; rfl
  rw [List.length_drop] at h2
  omega
theorem nextAt_lt {x : Str} {c p k : Nat} (h : nextAt x c p = some k) : p ≤ k ∧ k < x.length := by
  unfold nextAt at h
  have h1 := List.mem_of_find?_eq_some h
  have h2 := List.find?_some h
  rw [List.mem_range'_1] at h1
  simp only [Bool.and_eq_true, decide_eq_true_eq] at h2
  omega
theorem part_le {S : List Str} {x : Str} {p q : Int} {nm : Str} (h0 : 0 ≤ p) (h : partAt S x p = some (q, nm)) : p ≤ q ∧ q ≤ (x.length : Int) := by
  unfold partAt at h
  split at h
  · rename_i hlt
    split at h
    · injection h with h; injection h with h1 h2
      have := skipTo_le (S := S) h0 (Int.le_of_lt hlt)
      omega
    · split at h
      · cases hk : nextAt x 39 (p + 1).toNat with
        | none => rw [hk] at h; cases h
        | some k =>
          rw [hk] at h
          injection h with h; injection h with h1 h2
          have := nextAt_lt hk
          omega
      · cases h
  · cases h
theorem skip_none {S : List Str} {x : Str} {p : Int} (h : ∀ c ∈ x.cps.toList, ch c ∉ S) : skipTo S x p = p := by
  unfold skipTo
  have : (x.cps.toList.drop p.toNat).takeWhile (fun c => decide (ch c ∈ S)) = [] := by
    cases hd : x.cps.toList.drop p.toNat with
    | nil => rfl
    | cons c r =>
      rw [List.takeWhile_cons, if_neg]
      have hm : c ∈ x.cps.toList := List.mem_of_mem_drop (hd ▸ List.Mem.head _)
      simpa using h c hm
  rw [this]; simp
end
section
open PySem PySem.W PySem.Spec PySem.Calls PyProof.Rows
set_option maxRecDepth 100000
set_option maxHeartbeats 4000000
theorem part_lt {S : List Str} {x : Str} {p q : Int} {nm : Str} (h0 : 0 ≤ p) (h : partAt S x p = some (q, nm)) : p < q ∧ q ≤ (x.length : Int) := by
  refine ⟨?_, (part_le h0 h).2⟩
  unfold partAt at h
  split at h
  · rename_i hlt
    split at h
    · rename_i hm
      injection h with h; injection h with h1 h2
      have e := skip_on h0 hlt hm
      have := skipTo_le (S := S) (x := x) (p := p + 1) (by omega) (by omega)
      omega
    · split at h
      · cases hk : nextAt x 39 (p + 1).toNat with
        | none => rw [hk] at h; cases h
        | some k =>
          rw [hk] at h
          injection h with h; injection h with h1 h2
          have := nextAt_lt hk
          omega
      · cases h
  · cases h
theorem of_bne_false {x y : Str} (h : (x != y) = false) : x = y := by simpa using h
theorem keyGo_step {S : List Str} {x : Str} {n : Nat} {p q : Int} {ks : List Str} {nm : Str} (h : p < (x.length : Int)) (hd : (Txt.item x p != Str.ofString ".") = false) (hq : partAt S x (p + 1) = some (q, nm)) : keyGo S x (n + 1) p ks = keyGo S x n q (ks ++ [nm]) := by
  rw [keyGo, if_pos ⟨h, of_bne_false hd⟩, hq]
theorem keyGo_none {S : List Str} {x : Str} {n : Nat} {p : Int} {ks : List Str} (h : p < (x.length : Int)) (hd : (Txt.item x p != Str.ofString ".") = false) (hq : partAt S x (p + 1) = none) : keyGo S x (n + 1) p ks = none := by
  rw [keyGo, if_pos ⟨h, of_bne_false hd⟩, hq]
theorem keyGo_stop {S : List Str} {x : Str} {n : Nat} {p : Int} {ks : List Str} (hd : (Txt.item x p != Str.ofString ".") = true) : keyGo S x (n + 1) p ks = some (p, ks) := by
  rw [keyGo, if_neg (fun e => by rw [e.2] at hd; simp at hd)]
theorem keyGo_end {S : List Str} {x : Str} {n : Nat} {p : Int} {ks : List Str} (h : (x.length : Int) ≤ p) : keyGo S x (n + 1) p ks = some (p, ks) := by
  rw [keyGo, if_neg (fun e => by omega)]
section
variable {w : World} {pv : Program} {loose : List Str} {mean : ExcName → Option Value} {mg mb : Str → Option Value}
inductive KeyJ (w : World) (pv : Program) (loose : List Str) (mean : ExcName → Option Value) (mg mb : Str → Option Value) (A₀ : Around) (base : Heap) (outer : List Env) (g₀ : Heap) (L : Addr) (s : Shared) (src : Str) (ts : Tok) (S2 : List Str) (led : List (Addr × Obj)) (res : Option (Int × List Str)) (n : Nat) : Shared → Prop
  | mk (g h tk u p t ka vs ks) (h0 : KtsTurn (outer.filterMap (·.frame)) g₀ g) (h1 : Fr g L h (kstB u [(Str.ofString "src", .str src ts), (Str.ofString "pos", .int p t), (Str.ofString "key", .ref ka)])) (h2 : News g L h ((ka, tupObj vs) :: led)) (h3 : (∀ q ∈ led, q.1 < ka)) (h4 : Below A₀ base outer g) (h5 : (Kf w.params).In g) (h6 : Top pv loose mean mg mb g) (h7 : KtsDicts (outer.filterMap (·.frame)) g) (h8 : StrsAre vs ks) (h9 : 0 ≤ p) (h10 : p ≤ (src.length : Int)) (h11 : (ks.length : Int) ≤ p) (h12 : (src.length : Int) - p < n) (h13 : keyGo S2 src n p ks = res) : KeyJ w pv loose mean mg mb A₀ base outer g₀ L s src ts S2 led res n ({ s with heap := h, toks := tk })
theorem KeyJ.of {w : World} {pv : Program} {loose : List Str} {mean : ExcName → Option Value} {mg mb : Str → Option Value} {A₀ : Around} {base : Heap} {outer : List Env} {g₀ : Heap} {L : Addr} {s : Shared} {src : Str} {ts : Tok} {S2 : List Str} {led : List (Addr × Obj)} {res : Option (Int × List Str)} {n : Nat} {s' : Shared} (g h tk u p t ka vs ks) (es : s' = { s with heap := h, toks := tk }) (h0 : KtsTurn (outer.filterMap (·.frame)) g₀ g) (h1 : Fr g L h (kstB u [(Str.ofString "src", .str src ts), (Str.ofString "pos", .int p t), (Str.ofString "key", .ref ka)])) (h2 : News g L h ((ka, tupObj vs) :: led)) (h3 : (∀ q ∈ led, q.1 < ka)) (h4 : Below A₀ base outer g) (h5 : (Kf w.params).In g) (h6 : Top pv loose mean mg mb g) (h7 : KtsDicts (outer.filterMap (·.frame)) g) (h8 : StrsAre vs ks) (h9 : 0 ≤ p) (h10 : p ≤ (src.length : Int)) (h11 : (ks.length : Int) ≤ p) (h12 : (src.length : Int) - p < n) (h13 : keyGo S2 src n p ks = res) : KeyJ w pv loose mean mg mb A₀ base outer g₀ L s src ts S2 led res n s' := by subst es; exact .mk g h tk u p t ka vs ks h0 h1 h2 h3 h4 h5 h6 h7 h8 h9 h10 h11 h12 h13
end
theorem turn_ret {J : Nat → Shared → Prop} {Q : Flow → Shared → Prop} {n : Nat} {v : Value} {s : Shared} (h : Q (.ret v) s) : TurnEnd J Q n (.ret v) s := h
end
section
open PySem PySem.W PySem.Spec PySem.Calls PyProof.Rows
set_option maxRecDepth 100000
set_option maxHeartbeats 4000000
theorem noI_tuple_add : typeLookup (.type "tuple") (dunderI "add") = pure none := by rw [typeLookup_type, builtinLookup_eq_fast]; kernel_rfl
section
variable {prog : Program} {w : World} {A : Around} {E : Value → Shared → Prop} {s : Shared} {h₀ : Heap} {L : Addr} {m : Str → Option Value} {news led : List (Addr × Obj)}
theorem iadd_tup {a b : Addr} {vs ws : List Value} {Q : Value → Shared → Prop} (F : Fr h₀ L s.heap m) (N : News h₀ L s.heap news) (ha : (a, tupObj vs) ∈ news) (hb : (b, tupObj ws) ∈ news) (hw : ws ≠ []) (hfb : ∀ q ∈ led, q.1 < b) (hled : ∀ q ∈ led, q ∈ news)
    (hsz : vs.length + ws.length ≤ sizeLine)
    (h : ∀ D h', Fr h₀ L h' m → News h₀ L h' ((D, tupObj (vs ++ ws)) :: news) → (∀ q ∈ led, q.1 < D) → Q (.ref D) { s with heap := h' }) :
    wpAny (model prog w) A (inplaceOp .Add (.ref a) (.ref b)) Q E s := by
  have ho := (N _ ha).1
  have ho2 := (N _ hb).1
  have e : vs.toArray ++ ws.toArray = (vs ++ ws).toArray := by simp
  by_cases hv : vs = []
  · refine inplaceOp_concat ⟨_, ho, rfl⟩ ⟨_, ho2, rfl⟩ noI_tuple_add noFill_tuple_add seq_tuple_add
      (call_meets PySem.F.slot_tuple_add ⟨_, ho, rfl⟩ PySem.F.entry_tuple_add (PySem.F.args_tuple_add_2 _ _) (tuple_addW0 a b vs.toArray ws.toArray 0 0 none none _ _ (by simp [hv])) ⟨ho, ho2, ?_⟩)
    exact h b s.heap F (fun p hp => by
      rcases List.mem_cons.mp hp with rfl | hp
      · rw [hv]; exact N _ hb
      · exact N _ hp) hfb
  · refine inplaceOp_concat ⟨_, ho, rfl⟩ ⟨_, ho2, rfl⟩ noI_tuple_add noFill_tuple_add seq_tuple_add
      (call_meets PySem.F.slot_tuple_add ⟨_, ho, rfl⟩ PySem.F.entry_tuple_add (PySem.F.args_tuple_add_2 _ _) (tuple_addW2 a b vs.toArray ws.toArray 0 0 none none _ _ (by simpa using hv) (by simpa using hw) (by rw [List.size_toArray, List.size_toArray]; exact hsz)) ⟨ho, ho2, ?_⟩)
    rw [e]
    exact h _ _ (F.push _) (News.push F N _) fun p hp => Heap.lt_size (N p (hled p hp)).1
end
theorem strs_len {vs : List Value} {ks : List Str} (h : StrsAre vs ks) : vs.length = ks.length := by
  induction h with
  | nil => rfl
  | cons y t _ ih => simp [ih]
theorem len_tupK {prog : Program} {w : World} {A : Around} {E : Value → Shared → Prop} {s : Shared} {h₀ : Heap} {L a : Addr} {news : List (Addr × Obj)} {vs : List Value} {ks : List Str} {Q : Value → Shared → Prop} (N : News h₀ L s.heap news) (hm : (a, tupObj vs) ∈ news) (hs : StrsAre vs ks) (hz : ks.length ≤ 4000)
    (h : Q (.int ks.length (s.toks + 1)) { s with toks := s.toks + 1 + 1 }) : wpAny (model prog w) A (call (.builtin "len") [.ref a]) Q E s := by
  have e := strs_len hs
  refine len_tuple (items := vs.toArray) ⟨_, (N _ hm).1, rfl, _, rfl⟩ ?_ ?_
  · rw [List.size_toArray, e]; omega
  · rw [List.size_toArray, e]; exact h
theorem gt_not {prog : Program} {w : World} {A : Around} {E : Value → Shared → Prop} {s : Shared} {a b : Int} {t u : Tok} {Q : Value → Shared → Prop} (hle : a ≤ b) (h : Q (.bool false) s) : wpAny (model prog w) A (compareOp .Gt (.int a t) (.int b u)) Q E s :=
  gt_int (by rw [decide_eq_false (by omega)]; exact h)
theorem news_drop5 {h₀ h : Heap} {L : Addr} {x y z u : Addr × Obj} {l : List (Addr × Obj)} (N : News h₀ L h (x :: y :: z :: u :: l)) : News h₀ L h (x :: l) := fun p hp => N p (by
  rcases List.mem_cons.mp hp with h | h
  · exact h ▸ .head _
  · exact .tail _ (.tail _ (.tail _ (.tail _ h))))
theorem raised_drop {base G : Heap} {l : List Env} {e : Addr} {cls : Value} {x : Addr × Obj} {news T : List (Addr × Obj)} {h : Heap} (R : RaisedSN base G l e cls ((x :: news) ++ T) h) : RaisedSN base G l e cls (news ++ T) h := by
  obtain ⟨B, a0, k1, k2, k3, k4⟩ := R
  exact ⟨B, a0, k1, k2, fun q hq => k3 q (.tail _ hq), k4⟩
theorem strs_snoc {vs : List Value} {ks : List Str} {y : Str} {t : Tok} (h : StrsAre vs ks) : StrsAre (vs ++ [.str y t]) (ks ++ [y]) := by
  induction h with
  | nil => exact .cons _ _ .nil
  | cons y' t' _ ih => exact .cons _ _ ih
end
section
open PySem PySem.W PySem.Spec PySem.Calls PyProof.Rows
set_option maxRecDepth 100000
set_option maxHeartbeats 8000000

noncomputable def Stop (P : Prop) : Prop := P
theorem stop_here {P : Prop} (h : Stop P) : P := h
theorem news_drop2 {h₀ h : Heap} {L : Addr} {x y : Addr × Obj} {l : List (Addr × Obj)} (N : News h₀ L h (x :: y :: l)) : News h₀ L h (x :: l) := fun p hp => N p (by
  rcases List.mem_cons.mp hp with h | h
  · exact h ▸ .head _
  · exact .tail _ (.tail _ h))
theorem allLt_all {d : Nat} : ∀ {l : List (Addr × Obj)}, AllLt d l → ∀ q ∈ l, q.1 < d
  | [], _, _, hq => nomatch hq
  | p :: l, h, q, hq => by
    rcases List.mem_cons.mp hq with rfl | hq
    · exact h.1
    · exact allLt_all h.2 q hq
theorem allLt_all2 {d : Nat} {a : Prop} {l : List (Addr × Obj)} (h : a ∧ AllLt d l) : ∀ q ∈ l, q.1 < d := allLt_all h.2
theorem allLt_all3 {d : Nat} {a b : Prop} {l : List (Addr × Obj)} (h : a ∧ b ∧ AllLt d l) : ∀ q ∈ l, q.1 < d := allLt_all h.2.2
theorem hnp_cons {ka : Addr} {o : Obj} {news T0 : List (Addr × Obj)} (h : ∀ q ∈ news ++ T0, q.1 < ka) (hT : TabS T0) (hn : ∀ q ∈ news, q.1 ≠ 200) : ∀ q ∈ (ka, o) :: news, q.1 ≠ 200 := by
  obtain ⟨ot, ht⟩ := tabS_mem hT
  intro q hq
  rcases List.mem_cons.mp hq with rfl | hq
  · exact Nat.ne_of_gt (h _ (List.mem_append_right _ ht))
  · exact hn q hq
theorem key_of {S : List Str} {x : Str} {p q : Int} {nm : Str} (h : partAt S x p = some (q, nm)) : keyAt S x p = keyGo S x (x.length + 1) q [nm] := by unfold keyAt; rw [h]
theorem key_none {S : List Str} {x : Str} {p : Int} (h : partAt S x p = none) : keyAt S x p = none := by unfold keyAt; rw [h]
theorem fresh_drop {x : Addr × Obj} {e : Addr} {l : List (Addr × Obj)} (h : ∀ q ∈ x :: l, q.1 < e) : ∀ q ∈ l, q.1 < e := fun q hq => h q (.tail _ hq)
theorem lines_W16_0 : True := by
  k_with_none
  k_with "call type:type" => (k_here; (with_reducible show wpAny _ _ (call _ [Value.bytes _ _]) _ _ _); refine call_type_of (Tx := "bytes") rfl (by decide +kernel) ?_)
  k_with "subscriptTail Name Name str int" => (k_here; refine' sub_str_or ?zk0 ?zk1 ?zk2 ?_ ?_ ?zk3 ?zk4; (case zk0 => rfl); (case zk1 => l_fact); (case zk2 => l_fact); (case zk3 => with_unfolding_all rfl); (case zk4 => intro _; with_unfolding_all rfl); (all_goals intros))
  k_with "compareOp In" => (k_here; (with_reducible show wpAny _ _ (compareOp CmpOp.In (Value.str _ _) (Value.ref _)) _ _ _); refine' in_set ?zk1 ?zk2 ?zk3 ?_; (case zk1 => k_asm); (case zk2 => exact SetAt.keeps (by assumption) (Below.stays (by assumption))); (case zk3 => assumption))
  k_with "noteFrame ref" => (k_here; (rename Heap.NewExc _ _ _ _ => nx9); (with_reducible show wpAny _ _ (noteFrame _ _) (fun _ s₂ => wpAny _ _ (setFlight _ none) (fun _ s₃ => wpAny _ _ (handleBy _ _ (ExceptHandler.ExceptHandler (some (Expr.Name ("IndexError" : Str) _)) none _ _ :: _)) _ _ s₃) _ s₂) _ _); k_dflt (refine' caught_here (X := "IndexError") (T' := "IndexError") ?zK ?zF ?zN nx9 ?zXB ?zTB ?zD ?zT0 ?zex PyProof.Rows.Boot.«IndexError» ?zhn PySem.F.isExc_IndexError PySem.F.notTuple_IndexError ?zhs ?_ ?zhk ?zhx ?zhd ?zhE; (case zF => assumption); (case zN => assumption); (case zK => assumption); (case zXB => assumption); (case zTB => assumption); (case zD => assumption); (case zT0 => first | assumption | exact KtsTurn.refl); (case zhs => rw [isSubtype_type]; kernel_rfl); (case zex => k_is); (case zhn => decide); (case zhk => exact rfl); (case zhx => exact rfl); (case zhd => decide); (case zhE => passes_own); k_whole); clear nx9; intro h' g' T' F' N' K' X' P' D'; (try k_lift K'); (try k_sweep))
  k_with "PostT" => (refine post_t (by with_reducible assumption) ?_)
  trivial
section
variable {w : World} {pv : Program} {loose : List Str} {mean : ExcName → Option Value} {mg mb : Str → Option Value}
    {dp un : Nat} {gd : Option (List Code)} {cn : Str} {cs : Scope} {a : Addr} {ccd : Value} {cl : List (Str × Addr)} {outer : List Env} {A₀ : Around} {base h₀ : Heap} {L : Addr} {m : Str → Option Value} {news : List (Addr × Obj)} {s : Shared}
    {Q E : Value → Shared → Prop}

theorem skip_ws_ok {src : Str} {ts tp : Tok} {p : Int} {sa : Addr} {S : List Str} (B : Below A₀ base outer h₀) (F : Fr h₀ L s.heap m) (X : (Kf w.params).In h₀) (N : News h₀ L s.heap news) (T : Top pv loose mean mg mb h₀) (XB : (Kf w.params).In base) (TB : Top pv loose mean mg mb base) (D : KtsDicts (outer.filterMap (·.frame)) h₀) (hk : cs.kind = .function)
    (hd : dp + 1 < recursionLimit) (hu : un + 8 < cLine) (hS : SetAt base sa S) (hS9 : S.length < 4096) (hws : ∀ c ∈ src.cps.toList, ch c ∉ S) (h0 : 0 ≤ p) (h1 : p ≤ (src.length : Int)) (hsz : src.length ≤ 1000)
    (ret : ∀ t h₀' h' tk', KtsTurn (outer.filterMap (·.frame)) h₀ h₀' → Fr h₀' L h' m → News h₀' L h' news → Below A₀ base outer h₀' → (Kf w.params).In h₀' → Top pv loose mean mg mb h₀' → KtsDicts (outer.filterMap (·.frame)) h₀' → Q (.int p t) { s with heap := h', toks := tk' }) :
    wpAny (model PySem.Challenge.rw_il0176_01.prog w) (ktrTop dp un gd cn cs L a ccd [] outer) (call (.ref 134) [.str src ts, .int p tp, .ref sa]) Q E s :=
  skip_chars_ok B F X N T XB TB D hk hd hu hS hS9 h0 h1 hsz (by rw [skip_none hws]; exact ret)
end
theorem lines_W16_1 : True := by
  k_with "call ref" => (k_here; (with_reducible show wpAny _ _ (call (Value.ref 134) _ _) _ _ _); k_dflt (refine' skip_ws_ok ?zB ?zF ?zX ?zN ?zT ?zXB ?zTB ?zD ?zhk ?zhd ?zhu ?zhS ?zhS9 ?zhws ?zh0 ?zh1 ?zhsz ?_; (case zN => k_asm); (case zB => k_asm); (case zF => k_asm); (case zX => k_asm); (case zT => k_asm); (case zXB => assumption); (case zTB => assumption); (case zD => assumption); (case zhk => first | exact rfl | assumption); (case zhd => ktr_room); (case zhu => ktr_units); (case zhS => assumption); (case zhws => assumption); (case zhS9 => assumption); (case zh0 => l_fact); (case zh1 => l_fact); (case zhsz => k_asm); k_whole); (intro t g' h' tk' T' F' N' K' X' P' D'; (replace T' := KtsTurn.trans (by first | with_reducible assumption | exact KtsTurn.refl) T'); (try k_lift K'); (try k_sweep)))
  k_with "call ref" => (k_here; (with_reducible show wpAny _ _ (call (Value.ref 155) _ _) _ _ _); k_dflt (refine' parse_part_ok ?zB ?zF ?zX ?zN ?zT ?zXB ?zTB ?zD ?zhk ?zhd ?zhu ?zhC ?zhT ?zhnP ?zh0 ?zh1 ?zhsz ?zhnl ?zhS ?zhS9 ?zhall ?zhS2 ?zhS29 ?zh34 ?_ ?_; (case zN => first | k_asm | exact cons_app (by k_asm) | exact cons_app2 (by k_asm) | exact cons_app3 (by k_asm)); (case zB => k_asm); (case zF => k_asm); (case zX => k_asm); (case zT => k_asm); (case zXB => assumption); (case zTB => assumption); (case zD => assumption); (case zhk => first | exact rfl | assumption); (case zhd => ktr_room); (case zhu => ktr_units); (case zhC => k_asm); (case zhT => k_asm); (case zhnP => first | k_asm | exact hnp_cons (by assumption) (by assumption) (by assumption)); (case zh0 => l_fact); (case zh1 => l_fact); (case zhsz => k_asm); (case zhnl => k_asm); (case zhS => assumption); (case zhS9 => assumption); (case zhall => assumption); (case zhS2 => assumption); (case zhS29 => assumption); (case zh34 => assumption); k_whole); (intro q nm t u x g' h' tk' hq' hfr' T' F' N' K' X' P' D'; (replace T' := KtsTurn.trans (by first | with_reducible assumption | exact KtsTurn.refl) T'); (try k_lift K'); (try k_sweep); (have le9 := part_lt (by l_fact) hq'); (obtain ⟨le1, le2⟩ := le9)); rotate_left; (intro hq' e' t9' g' G' h' tk' hT9' T' F' K' X' P' D' R' U'; (replace T' := KtsTurn.trans (by first | with_reducible assumption | exact KtsTurn.refl) T'); (try k_lift K')); rotate_right)
  k_with "leaving ref" => (k_here; (with_reducible rename RaisedSN _ _ _ _ _ _ _ => r9); k_dflt (refine' leave_onSN ?zK ?zF r9 ?zU ?_; (case zF => assumption); (case zK => assumption); (case zU => assumption); k_whole); clear r9; intro h' R' _ U')
  k_with "exec While Constant cons nil" => (k_here; (with_reducible refine stop_here ?_))
  k_with "TurnEnd" => (k_here; (with_reducible show TurnEnd _ _ _ (Flow.ret _) _); refine turn_ret ?_)
  k_with "compareOp Gt int int" => (k_here; k_dflt (refine' gt_not ?zle ?_; (case zle => (simp only [List.length_append, List.length_cons, List.length_nil]; omega)); k_whole))
  k_with "call builtin:len" => (k_here; (with_reducible show wpAny _ _ (call (Value.builtin "len") [Value.ref _]) _ _ _); k_dflt (refine' len_tupK ?zN ?zm ?zs ?zz ?_; (case zN => k_asm); (case zm => k_mem); (case zs => first | exact strs_snoc (by assumption) | assumption); (case zz => (simp only [List.length_append, List.length_cons, List.length_nil]; omega)); k_whole))
  k_with "inplaceOp Add ref ref" => (k_here; k_dflt (refine' iadd_tup ?zF ?zN ?za ?zb ?zw ?zfb ?zled ?zsz ?_; (case zF => k_asm); (case zN => k_asm); (case za => k_mem); (case zb => k_mem); (case zw => exact List.cons_ne_nil _ _); (case zfb => first | exact allLt_all3 (by assumption) | exact allLt_all2 (by assumption)); (case zled => exact fun q hq => List.Mem.tail _ (List.Mem.tail _ (List.Mem.tail _ hq))); (case zsz => (rw [sizeLine_eq]; have hle9 := strs_len (by assumption); simp only [List.length_cons, List.length_nil]; omega)); k_whole); intro D' h' F' N' l1; (try k_sweep))
  trivial
section
variable {w : World} {pv : Program} {loose : List Str} {mean : ExcName → Option Value} {mg mb : Str → Option Value}
    {dp un : Nat} {gd : Option (List Code)} {cn : Str} {cs : Scope} {a : Addr} {ccd : Value} {cl : List (Str × Addr)} {outer : List Env} {A₀ : Around} {base h₀ : Heap} {L : Addr} {m : Str → Option Value} {news : List (Addr × Obj)} {s : Shared}
    {Q E : Value → Shared → Prop}

theorem parse_key_ok {src : Str} {ts tp : Tok} {p : Int} {T0 : List (Addr × Obj)} (B : Below A₀ base outer h₀) (F : Fr h₀ L s.heap m) (X : (Kf w.params).In h₀) (N : News h₀ L s.heap (news ++ T0)) (T : Top pv loose mean mg mb h₀) (XB : (Kf w.params).In base) (TB : Top pv loose mean mg mb base) (D : KtsDicts (outer.filterMap (·.frame)) h₀) (hk : cs.kind = .function)
    (hd : dp + 9 < recursionLimit) (hu : un + 104 < cLine) (hC : CodeHd base 204 200) (hT : TabS T0) (hnP : ∀ q ∈ news, q.1 ≠ 200) (h0 : 0 ≤ p) (h1 : p ≤ (src.length : Int)) (hsz : src.length ≤ 1000) (hnl : ∀ (i : Nat) (h : i < src.length), src.cps[i]'h ≠ 10) {S : List Str} (hS : SetAt base 89 S) (hS9 : S.length < 4096) (hall : ∀ c ∈ src.cps.toList, ch c ∉ S ∧ c < 128) {S2 : List Str} (hS2 : SetAt base 104 S2) (hS29 : S2.length < 4096) (h34 : ∀ c ∈ src.cps.toList, c ≠ 34) {S3 : List Str} (hS3 : SetAt base 95 S3) (hS39 : S3.length < 4096) (hws : ∀ c ∈ src.cps.toList, ch c ∉ S3)
    (ret : ∀ q ks t ka vs x h₀' h' tk', keyAt S2 src p = some (q, ks) → StrsAre vs ks → (∀ r ∈ news ++ T0, r.1 < ka) → ka < x → KtsTurn (outer.filterMap (·.frame)) h₀ h₀' → Fr h₀' L h' m → News h₀' L h' ((x, tup2 (.int q t) (.ref ka)) :: (ka, tupObj vs) :: (news ++ T0)) → Below A₀ base outer h₀' → (Kf w.params).In h₀' → Top pv loose mean mg mb h₀' → KtsDicts (outer.filterMap (·.frame)) h₀' → Q (.ref x) { s with heap := h', toks := tk' }) (err : keyAt S2 src p = none → ∀ e T' h₀' G h' tk', TabS T' → KtsTurn (outer.filterMap (·.frame)) h₀ h₀' → Fr h₀' L G m → Below A₀ base outer h₀' → (Kf w.params).In h₀' → Top pv loose mean mg mb h₀' → KtsDicts (outer.filterMap (·.frame)) h₀' → RaisedSN base G (envOf cn cs L a ccd :: outer) e (.ref 124) (news ++ T') h' → G.UpToSlots h' → E (.ref e) { s with heap := h', toks := tk' }) :
    wpAny (model PySem.Challenge.rw_il0176_01.prog w) (ktrTop dp un gd cn cs L a ccd [] outer) (call (.ref 148) [.str src ts, .int p tp]) Q E s := by
  revert X; k_fill; intro X
  have hfd := show fd 25 = _ from by (conv => lhs; whnf)
  refine wpAny_call ?_
  k_dflt (walk_at "ENTERS")
  clear hfd

  k_steps
  · refine While_anyV (KeyJ w pv loose mean mg mb _ base _ _ _ _ src ts S2 (news ++ T0) _) (src.length + 1) (KeyJ.of _ _ _ _ _ _ _ _ [_] rfl (by assumption) (fr_kst (by k_asm) (kc rfl (kc rfl (kc rfl kn)))) (news_drop2 (by k_asm)) (allLt_all2 (by assumption)) (by k_asm) (by k_asm) (by k_asm) (by k_asm) (.cons _ _ .nil) (by omega) (by omega) (by simp only [List.length_cons, List.length_nil]; omega) (by omega) rfl) ?_
    rintro n s' q9 hq9 ⟨g9, h9, tk9, u9, p9, t9, ka9, vs9, ks9, KT9, F9, N9, fr9, B9, X9, T9, D9, hs9, h09, h19, hl9, hn9, hres9⟩
    rcases n with _ | n
    · omega
    k_steps
    · exact ret _ _ _ _ _ _ _ _ _ ((key_of (by assumption)).trans (hres9.symm.trans (keyGo_stop (by assumption)))) hs9 fr9 (And.left (b := AllLt _ _) (by assumption)) (by assumption) (by k_asm) (by k_asm) (by k_asm) (by k_asm) (by k_asm) (by k_asm)
    · exact ⟨n, Nat.lt_succ_self n, KeyJ.of _ _ _ _ _ _ _ _ _ rfl (by assumption) (fr_kst (by k_asm) (kc rfl (kc rfl (kc rfl kn)))) (news_drop5 (by k_asm)) (by assumption) (by k_asm) (by k_asm) (by k_asm) (by k_asm) (strs_snoc (by assumption)) (by omega) (by omega) (by simp only [List.length_append, List.length_cons, List.length_nil]; omega) (by omega) ((keyGo_step (by assumption) (by assumption) (by assumption)).symm.trans hres9)⟩
    · exact err_back (err ((key_of (by assumption)).trans (hres9.symm.trans (keyGo_none (by assumption) (by assumption) (by assumption))))) (by assumption) (by assumption) B XB TB D (by assumption) (raised_drop (by assumption)) (by assumption)
    · exact ret _ _ _ _ _ _ _ _ _ ((key_of (by assumption)).trans (hres9.symm.trans (keyGo_end (by assumption)))) hs9 fr9 (And.left (b := AllLt _ _) (by assumption)) (by assumption) (by k_asm) (by k_asm) (by k_asm) (by k_asm) (by k_asm) (by k_asm)
  · exact err_back (err (key_none (by assumption))) (by assumption) (by assumption) B XB TB D (by assumption) (by assumption) (by assumption)
end
end
section
open PySem PySem.W PySem.Spec PySem.Calls PyProof.Rows
set_option maxRecDepth 100000
set_option maxHeartbeats 8000000
theorem lines_W17_0 : True := by
  k_with_none
  k_with "call ref" => (k_here; (with_reducible show wpAny _ _ (call (Value.ref 148) _ _) _ _ _); k_dflt (refine' parse_key_ok ?zB ?zF ?zX ?zN ?zT ?zXB ?zTB ?zD ?zhk ?zhd ?zhu ?zhC ?zhT ?zhnP ?zh0 ?zh1 ?zhsz ?zhnl ?zhS ?zhS9 ?zhall ?zhS2 ?zhS29 ?zh34 ?zhS3 ?zhS39 ?zhws ?_ ?_; (case zN => first | k_asm | exact cons_app (by k_asm) | exact cons_app2 (by k_asm) | exact cons_app3 (by k_asm)); (case zB => k_asm); (case zF => k_asm); (case zX => k_asm); (case zT => k_asm); (case zXB => assumption); (case zTB => assumption); (case zD => assumption); (case zhk => first | exact rfl | assumption); (case zhd => ktr_room); (case zhu => ktr_units); (case zhC => k_asm); (case zhT => k_asm); (case zhnP => k_asm); (case zh0 => l_fact); (case zh1 => l_fact); (case zhsz => k_asm); (case zhnl => k_asm); (case zhS => assumption); (case zhS9 => assumption); (case zhall => assumption); (case zhS2 => assumption); (case zhS29 => assumption); (case zh34 => assumption); (case zhS3 => assumption); (case zhS39 => assumption); (case zhws => assumption); k_whole); (intro q ks t ka vs x g' h' tk' hq' hs' hfr' hlt' T' F' N' K' X' P' D'; (replace T' := KtsTurn.trans (by first | with_reducible assumption | exact KtsTurn.refl) T'); (try k_lift K'); (try k_sweep)); rotate_left; (intro hq' e' t9' g' G' h' tk' hT9' T' F' K' X' P' D' R' U'; (replace T' := KtsTurn.trans (by first | with_reducible assumption | exact KtsTurn.refl) T'); (try k_lift K')); rotate_right)
  trivial
section
variable {w : World} {pv : Program} {loose : List Str} {mean : ExcName → Option Value} {mg mb : Str → Option Value}
    {dp un : Nat} {gd : Option (List Code)} {cn : Str} {cs : Scope} {a : Addr} {ccd : Value} {cl : List (Str × Addr)} {outer : List Env} {A₀ : Around} {base h₀ : Heap} {L : Addr} {m : Str → Option Value} {news : List (Addr × Obj)} {s : Shared}
    {Q E : Value → Shared → Prop}

theorem law_found_ok {src : Str} {ts tp : Tok} {p : Int} {T0 : List (Addr × Obj)} (B : Below A₀ base outer h₀) (F : Fr h₀ L s.heap m) (X : (Kf w.params).In h₀) (N : News h₀ L s.heap (news ++ T0)) (T : Top pv loose mean mg mb h₀) (XB : (Kf w.params).In base) (TB : Top pv loose mean mg mb base) (D : KtsDicts (outer.filterMap (·.frame)) h₀) (hk : cs.kind = .function)
    (hd : dp + 10 < recursionLimit) (hu : un + 112 < cLine) (hC : CodeHd base 204 200) (hT : TabS T0) (hnP : ∀ q ∈ news, q.1 ≠ 200) (h0 : 0 ≤ p) (h1 : p ≤ (src.length : Int)) (hsz : src.length ≤ 1000) (hnl : ∀ (i : Nat) (h : i < src.length), src.cps[i]'h ≠ 10) {S : List Str} (hS : SetAt base 89 S) (hS9 : S.length < 4096) (hall : ∀ c ∈ src.cps.toList, ch c ∉ S ∧ c < 128) {S2 : List Str} (hS2 : SetAt base 104 S2) (hS29 : S2.length < 4096) (h34 : ∀ c ∈ src.cps.toList, c ≠ 34) {S3 : List Str} (hS3 : SetAt base 95 S3) (hS39 : S3.length < 4096) (hws : ∀ c ∈ src.cps.toList, ch c ∉ S3)
    (ret : ∀ q ks t ka vs x h₀' h' tk', keyAt S2 src p = some (q, ks) → StrsAre vs ks → (∀ r ∈ news ++ T0, r.1 < ka) → ka < x → KtsTurn (outer.filterMap (·.frame)) h₀ h₀' → Fr h₀' L h' m → News h₀' L h' ((x, tup2 (.int q t) (.ref ka)) :: (ka, tupObj vs) :: (news ++ T0)) → Below A₀ base outer h₀' → (Kf w.params).In h₀' → Top pv loose mean mg mb h₀' → KtsDicts (outer.filterMap (·.frame)) h₀' → Q (.ref x) { s with heap := h', toks := tk' }) (none : ∀ T' h₀' h' tk', keyAt S2 src p = none → TabS T' → KtsTurn (outer.filterMap (·.frame)) h₀ h₀' → Fr h₀' L h' m → News h₀' L h' (news ++ T') → Below A₀ base outer h₀' → (Kf w.params).In h₀' → Top pv loose mean mg mb h₀' → KtsDicts (outer.filterMap (·.frame)) h₀' → Q (.none) { s with heap := h', toks := tk' }) :
    wpAny (model PySem.Challenge.rw_il0176_01.prog w) (ktrTop dp un gd cn cs L a ccd [] outer) (call (.ref 331) [.str src ts, .int p tp]) Q E s := by
  revert X; k_fill; intro X
  have hfd := e58
  refine wpAny_call ?_
  k_dflt (walk_at "ENTERS")
  clear hfd

  k_steps
  · exact ret _ _ _ _ _ _ _ _ _ (by assumption) (by assumption) (by assumption) (by assumption) (by assumption) (by k_asm) (by k_asm) (by k_asm) (by k_asm) (by k_asm) (by k_asm)
  · exact none _ _ _ _ (by assumption) (by assumption) (by assumption) (by k_asm) (by k_asm) (by k_asm) (by k_asm) (by k_asm) (by k_asm)
end
end
section
open PySem PySem.W PySem.Spec PySem.Calls PyProof.Rows
set_option maxRecDepth 100000
set_option maxHeartbeats 4000000
/-- the sign of a six-bit value in the standard alphabet -/
noncomputable def b64c (v : Int) : Int := if v < 26 then 65 + v else if v < 52 then 71 + v else if v < 62 then v - 4 else if v = 62 then 43 else 47
structure Enc where
  out : List Int
  lb : Int
  lc : Int
noncomputable def encStep (st : Enc) (b : Int) : Enc :=
  let lc := (st.lc * 256 + b) % 65536
  if st.lb = 0 then ⟨st.out ++ [b64c (lc / 4 % 64)], 2, lc⟩
  else if st.lb = 2 then ⟨st.out ++ [b64c (lc / 16 % 64)], 4, lc⟩
  else ⟨st.out ++ [b64c (lc / 64 % 64), b64c (lc % 64)], 0, lc⟩
noncomputable def encOk (st : Enc) : Prop := (st.lb = 0 ∨ st.lb = 2 ∨ st.lb = 4) ∧ 0 ≤ st.lc ∧ st.lc < 65536
inductive EncJ (L : Addr) (o : Addr) (led : List (Addr × Obj)) (ks : List Int) (i : Nat) : (Str → Option Value) → List (Addr × Obj) → Prop
  | mk (st u t1 t2 vs n) (h0 : st = (ks.take i).foldl encStep ⟨[], 0, 0⟩) (h1 : encOk st) (h2 : st.out.length ≤ 2 * i) (h3 : i ≤ ks.length) (h4 : IntsAre vs st.out) : EncJ L o led ks i (kstB u [(Str.ofString "out", .ref o), (Str.ofString "leftbits", .int st.lb t1), (Str.ofString "leftchar", .int st.lc t2), (Str.ofString "newline", .bool false)]) ((o, W.listOf (List.toArray vs) n) :: led)
theorem EncJ.of {L : Addr} {o : Addr} {led : List (Addr × Obj)} {ks : List Int} {i : Nat} {m : Str → Option Value} {nx : List (Addr × Obj)} (st u t1 t2 vs n) (h0 : st = (ks.take i).foldl encStep ⟨[], 0, 0⟩) (h1 : encOk st) (h2 : st.out.length ≤ 2 * i) (h3 : i ≤ ks.length) (em : m = kstB u [(Str.ofString "out", .ref o), (Str.ofString "leftbits", .int st.lb t1), (Str.ofString "leftchar", .int st.lc t2), (Str.ofString "newline", .bool false)]) (enx : nx = (o, W.listOf (List.toArray vs) n) :: led) (h4 : IntsAre vs st.out) : EncJ L o led ks i m nx := by subst em enx; exact .mk st u t1 t2 vs n h0 h1 h2 h3 h4
end
section
open PySem PySem.W PySem.Spec PySem.Calls PyProof.Rows
set_option maxRecDepth 100000
set_option maxHeartbeats 4000000
theorem bitOr_nat {x y : Int} (hx : 0 ≤ x) (hy : 0 ≤ y) : Builtin.bitOr x y = ((x.toNat ||| y.toNat : Nat) : Int) := by
  unfold Builtin.bitOr Builtin.bitAnd Builtin.bitNot
  rw [decide_eq_false (show ¬ (0 ≤ -x - 1) by omega), decide_eq_false (show ¬ (0 ≤ -y - 1) by omega)]
  simp only
  rw [show -(-x - 1) - 1 = x by omega, show -(-y - 1) - 1 = y by omega]
  omega
theorem or_low {a b : Int} (k : Nat) (ha : 0 ≤ a) (hb : 0 ≤ b) (hlt : b < ((2 ^ k : Nat) : Int)) : Builtin.bitOr (a * ((2 ^ k : Nat) : Int)) b = a * ((2 ^ k : Nat) : Int) + b := by
  have h0 : 0 ≤ a * ((2 ^ k : Nat) : Int) := Int.mul_nonneg ha (by omega)
  rw [bitOr_nat h0 hb]
  have e : (a * ((2 ^ k : Nat) : Int)).toNat = 2 ^ k * a.toNat := by
    have : a = (a.toNat : Int) := by omega
    rw [this, ← Int.natCast_mul, Int.toNat_natCast, Int.toNat_natCast, Nat.mul_comm]
  rw [e, ← Nat.two_pow_add_eq_or_of_lt (show b.toNat < 2 ^ k by omega)]
  have h1 : ((a.toNat : Nat) : Int) = a := by omega
  have h2 : ((b.toNat : Nat) : Int) = b := by omega
  rw [Int.natCast_add, Int.natCast_mul, h1, h2, Int.mul_comm]
section
variable {prog : Program} {w : World} {A : Around} {E : Value → Shared → Prop} {s : Shared} {a b c n : Int} {t u : Tok} {Q : Value → Shared → Prop}
theorem and_eq (e : Builtin.bitAnd a b = c) (h : Q (.int c s.toks) { s with toks := s.toks + 1 }) : wpAny (model prog w) A (binaryOp .BitAnd (.int a t) (.int b u)) Q E s := and_int (by rw [e]; exact h)
theorem lsh_eq (k : Nat) (d : Int) (hn : n = (k : Int)) (hk : k ≤ 1000) (hd : (2 : Int) ^ k = d) (ha : a.natAbs < 2 ^ 64) (h : Q (.int (a * d) s.toks) { s with toks := s.toks + 1 }) : wpAny (model prog w) A (binaryOp .LShift (.int a t) (.int n u)) Q E s := by
  subst hn
  refine lshift_int_small (by omega) (by omega) ha ?_
  rw [Int.toNat_natCast, hd]; exact h
theorem rsh_eq (k : Nat) (d : Int) (hn : n = (k : Int)) (hd : (2 : Int) ^ k = d) (hd0 : 0 ≤ d) (h : Q (.int (a / d) s.toks) { s with toks := s.toks + 1 }) : wpAny (model prog w) A (binaryOp .RShift (.int a t) (.int n u)) Q E s := by
  subst hn
  refine rshift_int (by omega) ?_
  rw [Int.toNat_natCast, hd, Int.fdiv_eq_ediv_of_nonneg _ hd0]; exact h
theorem or_eq (k : Nat) (d : Int) (hd : ((2 ^ k : Nat) : Int) = d) (ha : 0 ≤ a) (hb : 0 ≤ b) (hlt : b < d) (h : Q (.int (a * d + b) s.toks) { s with toks := s.toks + 1 }) : wpAny (model prog w) A (binaryOp .BitOr (.int (a * d) t) (.int b u)) Q E s := by
  subst hd
  exact or_int (by rw [or_low k ha hb hlt]; exact h)
theorem append_hd {h₀ : Heap} {L o : Addr} {m : Str → Option Value} {l : List (Addr × Obj)} {vs : List Value} {n : Nat} {x : Value} (F : Fr h₀ L s.heap m) (N : News h₀ L s.heap ((o, W.listOf (List.toArray vs) n) :: l)) (hne : ∀ p ∈ l, p.1 ≠ o) (hsz : vs.length ≤ 1000)
    (h : ∀ h', Fr h₀ L h' m → News h₀ L h' ((o, W.listOf (List.toArray (vs ++ [x])) (n + 1)) :: l) → Q .none { s with heap := h' }) : wpAny (model prog w) A (call (.builtin "list.append") [.ref o, x]) Q E s := by
  have e : (List.toArray vs).push x = List.toArray (vs ++ [x]) := by simp
  refine append_K F N (.head hne) ?_ (by rw [List.size_toArray, sizeLine_eq]; omega)
  rw [e]; exact h
theorem cons_app' {h₀ h : Heap} {L : Addr} {x : Addr × Obj} {l T : List (Addr × Obj)} (N : News h₀ L h ((x :: l) ++ T)) : News h₀ L h (x :: (l ++ T)) := N
theorem inv_end {h₀ h' : Heap} {L o : Addr} {m' : Str → Option Value} {led own : List (Addr × Obj)} {ob ob0 : Obj} {J : (Str → Option Value) → List (Addr × Obj) → Prop} {s₁ : Shared} {tk : Nat} {Q : Flow → Shared → Prop} (F : Fr h₀ L h' m') (N : News h₀ L h' ((o, ob) :: (led ++ own))) (hj : J m' ((o, ob) :: led)) :
    InvPostN h₀ L J own (((o, ob0) :: led).map (·.1)) s₁ Q .next { s₁ with heap := h', toks := tk } :=
  ⟨h', tk, m', _, (o, ob) :: led, rfl, F, N, fun p hp => by
    rcases List.mem_cons.mp hp with h | h
    · exact h ▸ .head _
    · exact .tail _ (List.mem_append_left _ h), fun p hp => .tail _ (List.mem_append_right _ hp), rfl, hj⟩
theorem fold_next {α β : Type} {f : α → β → α} {a : α} {ks : List β} {i : Nat} {k : β} (h : ks[i]? = some k) : (ks.take (i + 1)).foldl f a = f ((ks.take i).foldl f a) k := by
  rw [List.take_add_one, h]; simp
theorem enc_0 {st : Enc} {k : Int} (h : st.lb = 0) : encStep st k = ⟨st.out ++ [b64c ((st.lc * 256 + k) % 65536 / 4 % 64)], 0 + 8 - 6, (st.lc * 256 + k) % 65536⟩ := by unfold encStep; rw [if_pos h]; rfl
theorem enc_2 {st : Enc} {k : Int} (h : st.lb = 2) : encStep st k = ⟨st.out ++ [b64c ((st.lc * 256 + k) % 65536 / 16 % 64)], 2 + 8 - 6, (st.lc * 256 + k) % 65536⟩ := by unfold encStep; rw [if_neg (by omega), if_pos h]; rfl
theorem enc_4 {st : Enc} {k : Int} (h : st.lb = 4) : encStep st k = ⟨st.out ++ [b64c ((st.lc * 256 + k) % 65536 / 64 % 64)] ++ [b64c ((st.lc * 256 + k) % 65536 / 1 % 64)], 4 + 8 - 6 - 6, (st.lc * 256 + k) % 65536⟩ := by
  unfold encStep; rw [if_neg (by omega), if_neg (by omega), List.append_assoc, Int.ediv_one]; rfl
theorem off_head {own news : List (Addr × Obj)} {o : Addr} {ob : Obj} (hf : ∀ p ∈ news, p.1 < o) (h : OwnOff own (((o, ob) :: news).map (·.1))) : ∀ p ∈ news ++ own, p.1 ≠ o := fun p hp => by
  rcases List.mem_append.mp hp with hp | hp
  · exact Nat.ne_of_lt (hf p hp)
  · exact h p hp o (List.Mem.head _)
theorem ints_snoc {vs : List Value} {ns : List Int} {k : Int} {t : Tok} (h : IntsAre vs ns) : IntsAre (vs ++ [.int k t]) (ns ++ [k]) := by
  induction h with
  | nil => exact .cons _ _ .nil
  | cons y' t' _ ih => exact .cons _ _ ih
theorem b64_get {i : Int} (h0 : 0 ≤ i) (h1 : i < 64) : (([65, 66, 67, 68, 69, 70, 71, 72, 73, 74, 75, 76, 77, 78, 79, 80, 81, 82, 83, 84, 85, 86, 87, 88, 89, 90, 97, 98, 99, 100, 101, 102, 103, 104, 105, 106, 107, 108, 109, 110, 111, 112, 113, 114, 115, 116, 117, 118, 119, 120, 121, 122, 48, 49, 50, 51, 52, 53, 54, 55, 56, 57, 43, 47] : List UInt8).getD i.toNat 0).toNat = b64c i := by
  have key : ∀ j : Fin 64, ((([65, 66, 67, 68, 69, 70, 71, 72, 73, 74, 75, 76, 77, 78, 79, 80, 81, 82, 83, 84, 85, 86, 87, 88, 89, 90, 97, 98, 99, 100, 101, 102, 103, 104, 105, 106, 107, 108, 109, 110, 111, 112, 113, 114, 115, 116, 117, 118, 119, 120, 121, 122, 48, 49, 50, 51, 52, 53, 54, 55, 56, 57, 43, 47] : List UInt8).getD j.val 0).toNat : Int) = b64c j.val := by decide +kernel
  have := key ⟨i.toNat, by omega⟩
  simp only at this
  rw [this]
  congr 1
  omega
theorem sub_b64 {value slice : PySem.Expr} {i : Int} (h0 : 0 ≤ i) (h1 : i < 64) (h : Q (.int (b64c i) s.toks) { s with toks := s.toks + 1 })
    (hs : subscripted slice false (.bytes (List.toArray [65, 66, 67, 68, 69, 70, 71, 72, 73, 74, 75, 76, 77, 78, 79, 80, 81, 82, 83, 84, 85, 86, 87, 88, 89, 90, 97, 98, 99, 100, 101, 102, 103, 104, 105, 106, 107, 108, 109, 110, 111, 112, 113, 114, 115, 116, 117, 118, 119, 120, 121, 122, 48, 49, 50, 51, 52, 53, 54, 55, 56, 57, 43, 47]) t) (.int i u) = operate [.bytes (List.toArray [65, 66, 67, 68, 69, 70, 71, 72, 73, 74, 75, 76, 77, 78, 79, 80, 81, 82, 83, 84, 85, 86, 87, 88, 89, 90, 97, 98, 99, 100, 101, 102, 103, 104, 105, 106, 107, 108, 109, 110, 111, 112, 113, 114, 115, 116, 117, 118, 119, 120, 121, 122, 48, 49, 50, 51, 52, 53, 54, 55, 56, 57, 43, 47]) t, .int i u] (getItem (.bytes (List.toArray [65, 66, 67, 68, 69, 70, 71, 72, 73, 74, 75, 76, 77, 78, 79, 80, 81, 82, 83, 84, 85, 86, 87, 88, 89, 90, 97, 98, 99, 100, 101, 102, 103, 104, 105, 106, 107, 108, 109, 110, 111, 112, 113, 114, 115, 116, 117, 118, 119, 120, 121, 122, 48, 49, 50, 51, 52, 53, 54, 55, 56, 57, 43, 47]) t) (.int i u)))
    (ht : ∀ r, letTemporaryGo value (.bytes (List.toArray [65, 66, 67, 68, 69, 70, 71, 72, 73, 74, 75, 76, 77, 78, 79, 80, 81, 82, 83, 84, 85, 86, 87, 88, 89, 90, 97, 98, 99, 100, 101, 102, 103, 104, 105, 106, 107, 108, 109, 110, 111, 112, 113, 114, 115, 116, 117, 118, 119, 120, 121, 122, 48, 49, 50, 51, 52, 53, 54, 55, 56, 57, 43, 47]) t) r = pure ()) :
    wpAny (model prog w) A (subscriptTail value slice (.bytes (List.toArray [65, 66, 67, 68, 69, 70, 71, 72, 73, 74, 75, 76, 77, 78, 79, 80, 81, 82, 83, 84, 85, 86, 87, 88, 89, 90, 97, 98, 99, 100, 101, 102, 103, 104, 105, 106, 107, 108, 109, 110, 111, 112, 113, 114, 115, 116, 117, 118, 119, 120, 121, 122, 48, 49, 50, 51, 52, 53, 54, 55, 56, 57, 43, 47]) t) (.int i u)) Q E s := by
  refine tail_of_ItemOn ⟨"bytes", _, FB.slot_bytes_getitem.lookup, typeIs_bytes _ _ _, ?_⟩ hs ht
  refine getItem_bytes (by decide) h0 (by simpa using h1) ?_
  rw [b64_get h0 h1]; exact h
end
end
section
open PySem PySem.W PySem.Spec PySem.Calls PyProof.Rows
set_option maxRecDepth 100000
set_option maxHeartbeats 4000000
theorem news_tail {h₀ h : Heap} {L : Addr} {x : Addr × Obj} {l : List (Addr × Obj)} (N : News h₀ L h (x :: l)) : News h₀ L h l := fun p hp => N p (.tail _ hp)
theorem encStep_lb {st : Enc} {k : Int} {j : Nat} (h : st.lb = 2 * ((j % 3 : Nat) : Int)) : (encStep st k).lb = 2 * (((j + 1) % 3 : Nat) : Int) := by
  unfold encStep
  have hj : j % 3 = 0 ∨ j % 3 = 1 ∨ j % 3 = 2 := by omega
  rcases hj with hj | hj | hj
  · rw [hj] at h
    rw [if_pos (by rw [h]; rfl)]
    dsimp only; omega
  · rw [hj] at h
    rw [if_neg (by rw [h]; decide), if_pos (by rw [h]; rfl)]
    dsimp only; omega
  · rw [hj] at h
    rw [if_neg (by rw [h]; decide), if_neg (by rw [h]; decide)]
    dsimp only; omega
theorem enc_lb : ∀ (ks : List Int) (j : Nat) (st : Enc), st.lb = 2 * ((j % 3 : Nat) : Int) → (ks.foldl encStep st).lb = 2 * (((j + ks.length) % 3 : Nat) : Int)
  | [], j, st, h => by simpa using h
  | k :: ks, j, st, h => by
    rw [List.foldl_cons, enc_lb ks (j + 1) _ (encStep_lb h), List.length_cons, show j + 1 + ks.length = j + (ks.length + 1) by omega]
theorem b64c_range {v : Int} (h0 : 0 ≤ v) (h1 : v < 64) : 0 ≤ b64c v ∧ b64c v < 128 := by
  unfold b64c
  split
  · omega
  · split
    · omega
    · split
      · omega
      · split <;> omega
theorem b64c_mod (x : Int) : 0 ≤ b64c (x % 64) ∧ b64c (x % 64) < 128 := b64c_range (Int.emod_nonneg _ (by decide)) (Int.emod_lt_of_pos _ (by decide))
theorem encStep_in {st : Enc} {k : Int} (h : ∀ c ∈ st.out, 0 ≤ c ∧ c < 128) : ∀ c ∈ (encStep st k).out, 0 ≤ c ∧ c < 128 := by
  unfold encStep
  intro c hc
  split at hc
  · rcases List.mem_append.mp hc with hc | hc
    · exact h c hc
    · rw [List.mem_singleton.mp hc]; exact b64c_mod _
  · split at hc
    · rcases List.mem_append.mp hc with hc | hc
      · exact h c hc
      · rw [List.mem_singleton.mp hc]; exact b64c_mod _
    · rcases List.mem_append.mp hc with hc | hc
      · exact h c hc
      · rcases List.mem_cons.mp hc with hc | hc
        · rw [hc]; exact b64c_mod _
        · rw [List.mem_singleton.mp hc]; exact b64c_mod _
theorem enc_in : ∀ (ks : List Int) (st : Enc), (∀ c ∈ st.out, 0 ≤ c ∧ c < 128) → ∀ c ∈ (ks.foldl encStep st).out, 0 ≤ c ∧ c < 128
  | [], _, h => h
  | k :: ks, st, h => enc_in ks _ (encStep_in h)
/-- the signs' codes of a row of octets -/
noncomputable def encOut (ks : List Int) : List Int := (ks.foldl encStep ⟨[], 0, 0⟩).out
theorem encOut_in (ks : List Int) : ∀ c ∈ encOut ks, 0 ≤ c ∧ c < 128 := enc_in ks _ (fun _ h => nomatch h)
theorem enc_done {ks : List Int} (h : ks.length % 3 = 0) : (ks.foldl encStep ⟨[], 0, 0⟩).lb = 0 := by
  rw [enc_lb ks 0 _ rfl, Nat.zero_add, h]; rfl
end
section
open PySem PySem.W PySem.Spec PySem.Calls PyProof.Rows
set_option maxRecDepth 100000
set_option maxHeartbeats 8000000
theorem lines_B2_0 : True := by
  k_with_none
  k_with "call ref" => (k_here; (with_reducible show wpAny _ _ (call (Value.ref 247) _ _) _ _ _); k_dflt (refine' buffer_ok ?zB ?zF ?zX ?zN ?zT ?zhk ?zhd ?zhu ?_; (case zN => k_asm); (case zB => k_asm); (case zF => k_asm); (case zX => k_asm); (case zT => k_asm); (case zhk => first | exact rfl | assumption); (case zhd => ktr_room); (case zhu => ktr_units); k_whole); intro h' tk' F' N'; (try k_sweep))
  k_with "call ref" => (k_here; (with_reducible show wpAny _ _ (call (Value.ref 254) _ _) _ _ _); k_dflt (refine' truth_ok ?zB ?zF ?zX ?zN ?zT ?zhk ?zhd ?zhu ?_; (case zN => k_asm); (case zB => k_asm); (case zF => k_asm); (case zX => k_asm); (case zT => k_asm); (case zhk => first | exact rfl | assumption); (case zhd => ktr_room); (case zhu => ktr_units); k_whole); intro h' tk' F' N'; (try k_sweep))
  k_with "call ref" => (k_here; (with_reducible show wpAny _ _ (call (Value.ref 240) _ _) _ _ _); k_dflt (refine' ascii_buffer_ok ?zB ?zF ?zX ?zN ?zT ?zhk ?zhd ?zhu ?_; (case zN => k_asm); (case zB => k_asm); (case zF => k_asm); (case zX => k_asm); (case zT => k_asm); (case zhk => first | exact rfl | assumption); (case zhd => ktr_room); (case zhu => ktr_units); k_whole); intro h' tk' F' N'; (try k_sweep))
  k_with "call ref" => (k_here; (with_reducible show wpAny _ _ (call (Value.ref 220) _ _) _ _ _); k_dflt (refine' bytes_from_ok ?zB ?zF ?zX ?zN ?zT ?zhk ?zhd ?zhu ?_; (case zN => k_asm); (case zB => k_asm); (case zF => k_asm); (case zX => k_asm); (case zT => k_asm); (case zhk => first | exact rfl | assumption); (case zhd => ktr_room); (case zhu => ktr_units); k_whole); intro h' tk' F' N'; (try k_sweep))
  k_with "call ref" => (k_here; (with_reducible show wpAny _ _ (call (Value.ref 261) _ _) _ _ _); k_dflt (refine' b64_value_ok ?zB ?zF ?zX ?zN ?zT ?zhk ?zhd ?zhu ?_; (case zN => k_asm); (case zB => k_asm); (case zF => k_asm); (case zX => k_asm); (case zT => k_asm); (case zhk => first | exact rfl | assumption); (case zhd => ktr_room); (case zhu => ktr_units); k_whole); intro t h' tk' F' N'; (try k_sweep))
  k_with "pyIter bytes" => (k_here; (with_reducible refine stop_here ?_))
  k_with "InvPostN" => (k_here; (with_reducible refine stop_here ?_))
  k_with "binaryOp BitAnd int int" => (k_here; first | (refine and_eq (bitAnd_m16 _) ?_) | (refine and_eq (bitAnd_m6 _) ?_) | (refine and_eq (bitAnd_m4 _) ?_) | (refine and_eq (bitAnd_m2 _) ?_))
  k_with "binaryOp LShift int int" => (k_here; k_dflt (first | (refine' lsh_eq 8 256 ?zn ?zk ?zd ?za ?_; (case zn => omega)) | (refine' lsh_eq 2 4 ?zn ?zk ?zd ?za ?_; (case zn => omega)) | (refine' lsh_eq 4 16 ?zn ?zk ?zd ?za ?_; (case zn => omega)) | (refine' lsh_eq 6 64 ?zn ?zk ?zd ?za ?_; (case zn => omega))); (case zk => decide); (case zd => decide); (case za => omega))
  k_with "binaryOp RShift int int" => (k_here; k_dflt (first | (refine' rsh_eq 2 4 ?zn ?zd ?zz ?_; (case zn => omega)) | (refine' rsh_eq 4 16 ?zn ?zd ?zz ?_; (case zn => omega)) | (refine' rsh_eq 6 64 ?zn ?zd ?zz ?_; (case zn => omega)) | (refine' rsh_eq 0 1 ?zn ?zd ?zz ?_; (case zn => omega))); (case zd => decide); (case zz => decide))
  k_with "binaryOp BitOr int int" => (k_here; (first | (with_reducible refine' or_eq 8 256 ?zd ?za ?zb ?zl ?_) | (with_reducible refine' or_eq 2 4 ?zd ?za ?zb ?zl ?_) | (with_reducible refine' or_eq 4 16 ?zd ?za ?zb ?zl ?_) | (with_reducible refine' or_eq 6 64 ?zd ?za ?zb ?zl ?_)); k_dflt ((case zd => decide); (case za => omega); (case zb => omega); (case zl => omega)))
  k_with "call builtin:list.append" => (k_here; (with_reducible show wpAny _ _ (call (Value.builtin "list.append") [Value.ref _, _]) _ _ _); k_dflt (refine' append_hd ?zF ?zN ?zne ?zsz ?_; (case zF => k_asm); (case zN => k_asm); (case zne => assumption); (case zsz => ((try simp only [List.length_append, List.length_cons, List.length_nil]); omega)); k_whole); intro h' F' N'; (try k_sweep))
  k_with "subscriptTail Name BinOp bytes int" => (k_here; k_dflt (refine' sub_b64 ?zh0 ?zh1 ?_ ?zhs ?zht; (case zh0 => omega); (case zh1 => omega); (case zhs => with_unfolding_all rfl); (case zht => intro _; with_unfolding_all rfl); k_whole))
  k_with "call type:bytes" => (k_here; (with_reducible show wpAny _ _ (call (Value.type "bytes") [Value.ref _]) _ _ _); k_dflt (refine' KBa.make_K ?zF ?zN ?zh ?zl ?zi ?zr ?zn ?_; (case zF => k_asm); (case zN => k_asm); (case zh => rfl); (case zl => exact News.isList (by k_asm) (by k_mem)); (case zi => assumption); (case zr => assumption); (case zn => omega); k_whole); intro h' t' k' F' N' _; (try k_sweep))
  trivial
section
variable {w : World} {pv : Program} {loose : List Str} {mean : ExcName → Option Value} {mg mb : Str → Option Value}
    {dp un : Nat} {gd : Option (List Code)} {cn : Str} {cs : Scope} {a : Addr} {ccd : Value} {cl : List (Str × Addr)} {outer : List Env} {A₀ : Around} {base h₀ : Heap} {L : Addr} {m : Str → Option Value} {news : List (Addr × Obj)} {s : Shared}
    {Q E : Value → Shared → Prop}

theorem b2a_ok {b : Array UInt8} {tb : Tok} (B : Below A₀ base outer h₀) (F : Fr h₀ L s.heap m) (X : (Kf w.params).In h₀) (N : News h₀ L s.heap news) (T : Top pv loose mean mg mb h₀) (hk : cs.kind = .function)
    (hd : dp + 2 < recursionLimit) (hu : un + 16 < cLine) (hsz : b.size ≤ 100) (hsz3 : b.size % 3 = 0)
    (ret : ∀ t h' tk', Fr h₀ L h' m → News h₀ L h' news → Q (.bytes (byteArr (encOut (KBw.bInts b))) t) { s with heap := h', toks := tk' }) :
    wpAny (model PySem.Challenge.rw_il0176_01.prog w) (ktrTop dp un gd cn cs L a ccd cl outer) (call (.ref 277) [.bytes b tb] [(Str.ofString "newline", .bool false)]) Q E s := by
  revert X; k_fill; intro X
  have hfd := show fd 46 = _ from by (conv => lhs; whnf)
  refine wpAny_call ?_
  k_dflt (walk_at "ENTER")
  clear hfd
  k_steps
  refine KBmo.iter_bytesN (EncJ L _ news (KBw.bInts b)) rfl rfl (by k_asm) (by k_asm) (EncJ.of ⟨[], 0, 0⟩ _ _ _ [] 0 rfl ⟨.inl rfl, by decide, by decide⟩ (Nat.le_refl _) (Nat.zero_le _) ((kst_self (kc rfl (kc rfl (kc rfl (kc rfl kn))))).symm) rfl .nil) ?_ ?_
  · rintro i k t m₁ news₁ h tk own hi hk0 hk1 hoff ⟨st, u, t1, t2, vs, n, hst, hok9, hlen, him, hio⟩ F9 N9
    have hlb := hok9.1
    have hlc0 := hok9.2.1
    have hlc1 := hok9.2.2
    have hne9 := off_head (by assumption) hoff
    replace N9 := cons_app' N9
    have hvs9 : vs.length ≤ 200 := by have h1 := hio.length; rw [KBw.ints_length] at him; omega
    rcases hlb with hlb | hlb | hlb
    all_goals rw [hlb] at F9
    · k_steps
      refine inv_end (by k_asm) (by k_asm) (EncJ.of ⟨st.out ++ [_], _, _⟩ _ _ _ _ _ ?_ ⟨?_, ?_, ?_⟩ ?_ ?_ ((kst_self (kc rfl (kc rfl (kc rfl (kc rfl kn))))).symm) rfl (ints_snoc hio))
      · exact ((fold_next hi).trans (by rw [← hst]; exact enc_0 hlb)).symm
      · exact .inr (.inl rfl)
      · dsimp only; omega
      · dsimp only; omega
      · simp only [List.length_append, List.length_cons, List.length_nil]; omega
      · exact (List.getElem?_eq_some_iff.mp hi).1
    · k_steps
      refine inv_end (by k_asm) (by k_asm) (EncJ.of ⟨st.out ++ [_], _, _⟩ _ _ _ _ _ ?_ ⟨?_, ?_, ?_⟩ ?_ ?_ ((kst_self (kc rfl (kc rfl (kc rfl (kc rfl kn))))).symm) rfl (ints_snoc hio))
      · exact ((fold_next hi).trans (by rw [← hst]; exact enc_2 hlb)).symm
      · exact .inr (.inr rfl)
      · dsimp only; omega
      · dsimp only; omega
      · simp only [List.length_append, List.length_cons, List.length_nil]; omega
      · exact (List.getElem?_eq_some_iff.mp hi).1
    · k_steps
      refine inv_end (by k_asm) (by k_asm) (EncJ.of ⟨st.out ++ [_] ++ [_], _, _⟩ _ _ _ _ _ ?_ ⟨?_, ?_, ?_⟩ ?_ ?_ ((kst_self (kc rfl (kc rfl (kc rfl (kc rfl kn))))).symm) rfl (ints_snoc (ints_snoc hio)))
      · exact ((fold_next hi).trans (by rw [← hst]; exact enc_4 hlb)).symm
      · exact .inl rfl
      · dsimp only; omega
      · dsimp only; omega
      · simp only [List.length_append, List.length_cons, List.length_nil]; omega
      · exact (List.getElem?_eq_some_iff.mp hi).1
  · rintro m₁ news₁ h tk ⟨st, u, t1, t2, vs, n, hst, hok9, hlen, him, hio⟩ F9 N9
    have hlb := hok9.1
    have hlc0 := hok9.2.1
    have hlc1 := hok9.2.2
    rw [List.take_length] at hst
    have hb0 : st.lb = 0 := by rw [hst]; exact enc_done (by rw [KBw.ints_length]; exact hsz3)
    rw [hb0] at F9
    have hin : KBa.In st.out := fun c hc => by rw [hst] at hc; have := encOut_in _ c hc; omega
    have hol : st.out.length ≤ 300 := by rw [KBw.ints_length] at hlen; omega
    k_steps
    subst hst
    exact ret _ _ _ (by k_asm) (news_tail (by k_asm))
end
end
section
open PySem PySem.W PySem.Spec PySem.Calls PyProof.Rows
set_option maxRecDepth 100000
set_option maxHeartbeats 4000000
section
variable {prog : Program} {w : World} {A : Around} {E : Value → Shared → Prop} {s : Shared} {a b : Int} {t u : Tok} {Q : Value → Shared → Prop}
theorem eq_not (hne : a ≠ b) (h : Q (.bool false) s) : wpAny (model prog w) A (compareOp .Eq (.int a t) (.int b u)) Q E s := eq_int (by rw [show (a == b) = false from by simpa using hne]; exact h)
theorem ge_not (hlt : a < b) (h : Q (.bool false) s) : wpAny (model prog w) A (compareOp .GtE (.int a t) (.int b u)) Q E s := PyProof.Rows.ge_int (by rw [decide_eq_false (by omega)]; exact h)
end
structure Dec where
  out : List Int
  qp : Int
  lc : Int
noncomputable def decStep (st : Dec) (c : Int) : Dec :=
  let v := b64v c
  if st.qp = 0 then ⟨st.out, 1, v⟩
  else if st.qp = 1 then ⟨st.out ++ [st.lc * 4 + v / 16], 2, v % 16⟩
  else if st.qp = 2 then ⟨st.out ++ [st.lc * 16 + v / 4], 3, v % 4⟩
  else ⟨st.out ++ [st.lc * 64 + v], 0, 0⟩
noncomputable def decOk (st : Dec) : Prop := (st.qp = 0 ∨ st.qp = 1 ∧ st.lc < 64 ∨ st.qp = 2 ∧ st.lc < 16 ∨ st.qp = 3 ∧ st.lc < 4) ∧ 0 ≤ st.lc ∧ ∀ c ∈ st.out, 0 ≤ c ∧ c < 256
inductive DecJ (o : Addr) (led : List (Addr × Obj)) (ks : List Int) (i : Nat) : (Str → Option Value) → List (Addr × Obj) → Prop
  | mk (st u t1 t2 t3 t4 vs n) (h0 : st = (ks.take i).foldl decStep ⟨[], 0, 0⟩) (h1 : decOk st) (h2 : st.out.length ≤ i) (h3 : i ≤ ks.length) (h4 : IntsAre vs st.out) : DecJ o led ks i (kstB u [(Str.ofString "out", .ref o), (Str.ofString "quad_pos", .int st.qp t1), (Str.ofString "leftchar", .int st.lc t2), (Str.ofString "strict_mode", .bool false), (Str.ofString "pads", .int 0 t3), (Str.ofString "i", .int (i : Int) t4)]) ((o, W.listOf (List.toArray vs) n) :: led)
theorem DecJ.of {o : Addr} {led : List (Addr × Obj)} {ks : List Int} {i : Nat} {m : Str → Option Value} {nx : List (Addr × Obj)} (st u t1 t2 t3 t4 vs n) (h0 : st = (ks.take i).foldl decStep ⟨[], 0, 0⟩) (h1 : decOk st) (h2 : st.out.length ≤ i) (h3 : i ≤ ks.length) (em : m = kstB u [(Str.ofString "out", .ref o), (Str.ofString "quad_pos", .int st.qp t1), (Str.ofString "leftchar", .int st.lc t2), (Str.ofString "strict_mode", .bool false), (Str.ofString "pads", .int 0 t3), (Str.ofString "i", .int (i : Int) t4)]) (enx : nx = (o, W.listOf (List.toArray vs) n) :: led) (h4 : IntsAre vs st.out) : DecJ o led ks i m nx := by subst em enx; exact .mk st u t1 t2 t3 t4 vs n h0 h1 h2 h3 h4
theorem dec_0 {st : Dec} {k : Int} (h : st.qp = 0) : decStep st k = ⟨st.out, 1, b64v k⟩ := by unfold decStep; rw [if_pos h]
theorem dec_1 {st : Dec} {k : Int} (h : st.qp = 1) : decStep st k = ⟨st.out ++ [st.lc * 4 + b64v k / 16], 2, b64v k % 16⟩ := by unfold decStep; rw [if_neg (by omega), if_pos h]
theorem dec_2 {st : Dec} {k : Int} (h : st.qp = 2) : decStep st k = ⟨st.out ++ [st.lc * 16 + b64v k / 4], 3, b64v k % 4⟩ := by unfold decStep; rw [if_neg (by omega), if_neg (by omega), if_pos h]
theorem dec_3 {st : Dec} {k : Int} (h : st.qp = 3) : decStep st k = ⟨st.out ++ [st.lc * 64 + b64v k], 0, 0⟩ := by unfold decStep; rw [if_neg (by omega), if_neg (by omega), if_neg (by omega)]
theorem decStep_qp {st : Dec} {k : Int} {j : Nat} (h : st.qp = ((j % 4 : Nat) : Int)) : (decStep st k).qp = (((j + 1) % 4 : Nat) : Int) := by
  have hj : j % 4 = 0 ∨ j % 4 = 1 ∨ j % 4 = 2 ∨ j % 4 = 3 := by omega
  rcases hj with hj | hj | hj | hj
  · rw [dec_0 (by rw [h, hj]; rfl)]; dsimp only; omega
  · rw [dec_1 (by rw [h, hj]; rfl)]; dsimp only; omega
  · rw [dec_2 (by rw [h, hj]; rfl)]; dsimp only; omega
  · rw [dec_3 (by rw [h, hj]; rfl)]; dsimp only; omega
theorem dec_qp : ∀ (ks : List Int) (j : Nat) (st : Dec), st.qp = ((j % 4 : Nat) : Int) → (ks.foldl decStep st).qp = (((j + ks.length) % 4 : Nat) : Int)
  | [], j, st, h => by simpa using h
  | k :: ks, j, st, h => by
    rw [List.foldl_cons, dec_qp ks (j + 1) _ (decStep_qp h), List.length_cons, show j + 1 + ks.length = j + (ks.length + 1) by omega]
theorem dec_done {ks : List Int} (h : ks.length % 4 = 0) : (ks.foldl decStep ⟨[], 0, 0⟩).qp = 0 := by
  rw [dec_qp ks 0 _ rfl, Nat.zero_add, h]; rfl
theorem in_snoc {l : List Int} {x : Int} (h : ∀ c ∈ l, 0 ≤ c ∧ c < 256) (h0 : 0 ≤ x) (h1 : x < 256) : ∀ c ∈ l ++ [x], 0 ≤ c ∧ c < 256 := fun c hc => by
  rcases List.mem_append.mp hc with hc | hc
  · exact h c hc
  · rw [List.mem_singleton.mp hc]; exact ⟨h0, h1⟩
theorem b64v_nn (c : Int) : 0 ≤ b64v c := by
  unfold b64v
  (repeat' split) <;> omega
/-- the octets of a row of signs -/
noncomputable def decOut (ks : List Int) : List Int := (ks.foldl decStep ⟨[], 0, 0⟩).out
end
section
open PySem PySem.W PySem.Spec PySem.Calls PyProof.Rows
set_option maxRecDepth 100000
set_option maxHeartbeats 2000000
theorem lines_B3_0 : True := by
  k_with_none
  k_with "call ref" => (k_here; (with_reducible show wpAny _ _ (call (Value.ref 247) _ _) _ _ _); k_dflt (refine' buffer_ok ?zB ?zF ?zX ?zN ?zT ?zhk ?zhd ?zhu ?_; (case zN => k_asm); (case zB => k_asm); (case zF => k_asm); (case zX => k_asm); (case zT => k_asm); (case zhk => first | exact rfl | assumption); (case zhd => ktr_room); (case zhu => ktr_units); k_whole); intro h' tk' F' N'; (try k_sweep))
  k_with "call ref" => (k_here; (with_reducible show wpAny _ _ (call (Value.ref 254) _ _) _ _ _); k_dflt (refine' truth_ok ?zB ?zF ?zX ?zN ?zT ?zhk ?zhd ?zhu ?_; (case zN => k_asm); (case zB => k_asm); (case zF => k_asm); (case zX => k_asm); (case zT => k_asm); (case zhk => first | exact rfl | assumption); (case zhd => ktr_room); (case zhu => ktr_units); k_whole); intro h' tk' F' N'; (try k_sweep))
  k_with "call ref" => (k_here; (with_reducible show wpAny _ _ (call (Value.ref 240) _ _) _ _ _); k_dflt (refine' ascii_buffer_ok ?zB ?zF ?zX ?zN ?zT ?zhk ?zhd ?zhu ?_; (case zN => k_asm); (case zB => k_asm); (case zF => k_asm); (case zX => k_asm); (case zT => k_asm); (case zhk => first | exact rfl | assumption); (case zhd => ktr_room); (case zhu => ktr_units); k_whole); intro h' tk' F' N'; (try k_sweep))
  k_with "call ref" => (k_here; (with_reducible show wpAny _ _ (call (Value.ref 220) _ _) _ _ _); k_dflt (refine' bytes_from_ok ?zB ?zF ?zX ?zN ?zT ?zhk ?zhd ?zhu ?_; (case zN => k_asm); (case zB => k_asm); (case zF => k_asm); (case zX => k_asm); (case zT => k_asm); (case zhk => first | exact rfl | assumption); (case zhd => ktr_room); (case zhu => ktr_units); k_whole); intro h' tk' F' N'; (try k_sweep))
  k_with "call ref" => (k_here; (with_reducible show wpAny _ _ (call (Value.ref 261) _ _) _ _ _); k_dflt (refine' b64_value_ok ?zB ?zF ?zX ?zN ?zT ?zhk ?zhd ?zhu ?_; (case zN => k_asm); (case zB => k_asm); (case zF => k_asm); (case zX => k_asm); (case zT => k_asm); (case zhk => first | exact rfl | assumption); (case zhd => ktr_room); (case zhu => ktr_units); k_whole); intro t h' tk' F' N'; (try k_sweep))
  k_with "pyIter bytes" => (k_here; (with_reducible refine stop_here ?_))
  k_with "InvPostN" => (k_here; (with_reducible refine stop_here ?_))
  k_with "binaryOp BitAnd int int" => (k_here; first | (refine and_eq (bitAnd_m16 _) ?_) | (refine and_eq (bitAnd_m6 _) ?_) | (refine and_eq (bitAnd_m4 _) ?_) | (refine and_eq (bitAnd_m2 _) ?_))
  k_with "binaryOp LShift int int" => (k_here; k_dflt (first | (refine' lsh_eq 8 256 ?zn ?zk ?zd ?za ?_; (case zn => omega)) | (refine' lsh_eq 2 4 ?zn ?zk ?zd ?za ?_; (case zn => omega)) | (refine' lsh_eq 4 16 ?zn ?zk ?zd ?za ?_; (case zn => omega)) | (refine' lsh_eq 6 64 ?zn ?zk ?zd ?za ?_; (case zn => omega))); (case zk => decide); (case zd => decide); (case za => omega))
  k_with "binaryOp RShift int int" => (k_here; k_dflt (first | (refine' rsh_eq 2 4 ?zn ?zd ?zz ?_; (case zn => omega)) | (refine' rsh_eq 4 16 ?zn ?zd ?zz ?_; (case zn => omega)) | (refine' rsh_eq 6 64 ?zn ?zd ?zz ?_; (case zn => omega)) | (refine' rsh_eq 0 1 ?zn ?zd ?zz ?_; (case zn => omega))); (case zd => decide); (case zz => decide))
  k_with "binaryOp BitOr int int" => (k_here; (first | (with_reducible refine' or_eq 8 256 ?zd ?za ?zb ?zl ?_) | (with_reducible refine' or_eq 2 4 ?zd ?za ?zb ?zl ?_) | (with_reducible refine' or_eq 4 16 ?zd ?za ?zb ?zl ?_) | (with_reducible refine' or_eq 6 64 ?zd ?za ?zb ?zl ?_)); k_dflt ((case zd => decide); (case za => omega); (case zb => omega); (case zl => omega)))
  k_with "call builtin:list.append" => (k_here; (with_reducible show wpAny _ _ (call (Value.builtin "list.append") [Value.ref _, _]) _ _ _); k_dflt (refine' append_hd ?zF ?zN ?zne ?zsz ?_; (case zF => k_asm); (case zN => k_asm); (case zne => assumption); (case zsz => ((try simp only [List.length_append, List.length_cons, List.length_nil]); omega)); k_whole); intro h' F' N'; (try k_sweep))
  k_with "call type:bytes" => (k_here; (with_reducible show wpAny _ _ (call (Value.type "bytes") [Value.ref _]) _ _ _); k_dflt (refine' KBa.make_K ?zF ?zN ?zh ?zl ?zi ?zr ?zn ?_; (case zF => k_asm); (case zN => k_asm); (case zh => rfl); (case zl => exact News.isList (by k_asm) (by k_mem)); (case zi => assumption); (case zr => assumption); (case zn => omega); k_whole); intro h' t' k' F' N' _; (try k_sweep))
  k_with "compareOp Eq int int" => (k_here; k_dflt (refine' eq_not ?zne ?_; (case zne => with_reducible assumption)))
  k_with "compareOp GtE int int" => (k_here; k_dflt (refine' ge_not ?zlt ?_; (case zlt => with_reducible assumption)))
  k_with "exec If" => (k_here; (with_reducible show wpAny _ _ (exec (PySem.Stmt.If (PySem.Expr.Compare (PySem.Expr.Name (PySem.Str.ofString "quad_pos") _) _ _ _) _ _ _) _) _ _ _); (rename (Mine.Dec.qp _ = 0 ∨ _) => hqp); (with_reducible refine stop_here ?_))
  k_with "compareOp Eq int int" => (k_here; k_dflt (first | (refine' eq_not ?zne ?_; (case zne => with_reducible assumption)) | (refine' eqi_yes0 ?ze ?_; (case ze => omega)) | (refine' eq_not ?ze ?_; (case ze => omega))))
  trivial
theorem eqi_yes0 {prog : Program} {w : World} {A : Around} {E : Value → Shared → Prop} {s : Shared} {a b : Int} {t u : Tok} {Q : Value → Shared → Prop} (he : a = b) (h : Q (.bool true) s) : wpAny (model prog w) A (compareOp .Eq (.int a t) (.int b u)) Q E s := eq_int (by rw [show (a == b) = true from by simpa using he]; exact h)
section
variable {w : World} {pv : Program} {loose : List Str} {mean : ExcName → Option Value} {mg mb : Str → Option Value}
    {dp un : Nat} {gd : Option (List Code)} {cn : Str} {cs : Scope} {a : Addr} {ccd : Value} {cl : List (Str × Addr)} {outer : List Env} {A₀ : Around} {base h₀ : Heap} {L : Addr} {m : Str → Option Value} {news : List (Addr × Obj)} {s : Shared}
    {Q E : Value → Shared → Prop}

theorem a2b_ok {b : Array UInt8} {tb : Tok} (B : Below A₀ base outer h₀) (F : Fr h₀ L s.heap m) (X : (Kf w.params).In h₀) (N : News h₀ L s.heap news) (T : Top pv loose mean mg mb h₀) (hk : cs.kind = .function)
    (hd : dp + 2 < recursionLimit) (hu : un + 16 < cLine) (hsz : b.size ≤ 100) (hsz4 : b.size % 4 = 0) (hall : ∀ c ∈ KBw.bInts b, c ≠ 61 ∧ b64v c < 64)
    (ret : ∀ t h' tk', Fr h₀ L h' m → News h₀ L h' news → Q (.bytes (byteArr (decOut (KBw.bInts b))) t) { s with heap := h', toks := tk' }) :
    wpAny (model PySem.Challenge.rw_il0176_01.prog w) (ktrTop dp un gd cn cs L a ccd cl outer) (call (.ref 269) [.bytes b tb] [(Str.ofString "strict_mode", .bool false)]) Q E s := by
  revert X; k_fill; intro X
  have hfd := show fd 45 = _ from by (conv => lhs; whnf)
  refine wpAny_call ?_
  k_dflt (walk_at "ENTER")
  clear hfd
  k_steps
  refine KBmo.iter_bytesN (DecJ _ news (KBw.bInts b)) rfl rfl (by k_asm) (by k_asm) (DecJ.of ⟨[], 0, 0⟩ _ _ _ _ _ [] 0 rfl ⟨.inl rfl, by decide, fun _ h => nomatch h⟩ (Nat.le_refl _) (Nat.zero_le _) ((kst_self (kc rfl (kc rfl (kc rfl (kc rfl (kc rfl (kc rfl kn))))))).symm) rfl .nil) ?_ ?_
  · rintro i k t m₁ news₁ h tk own hi hk0 hk1 hoff ⟨st, u, t1, t2, t3, t4, vs, n, hst, hok9, hlen, him, hio⟩ F9 N9
    have hqp := hok9.1
    have hlc0 := hok9.2.1
    have hino := hok9.2.2
    have hne9 := off_head (by assumption) hoff
    have hvs9 : vs.length ≤ 200 := by have h1 := hio.length; rw [KBw.ints_length] at him; omega
    obtain ⟨hk61, hk64⟩ := hall k (List.mem_of_getElem? hi)
    have hknn := b64v_nn k
    replace N9 := cons_app' N9
    k_steps
    refine if_var ?_
    intro k9 hK9
    rcases hqp with hqp | ⟨hqp, hlt⟩ | ⟨hqp, hlt⟩ | ⟨hqp, hlt⟩
    · k_steps
      refine inv_end (by k_asm) (by k_asm) (DecJ.of ⟨st.out, 1, b64v k⟩ _ _ _ _ _ _ _ ?_ ⟨?_, ?_, ?_⟩ ?_ ?_ ((kst_self (kc rfl (kc rfl (kc rfl (kc rfl (kc rfl (kc rfl kn))))))).symm) rfl hio)
      · exact ((fold_next hi).trans (by rw [← hst]; exact dec_0 hqp)).symm
      · exact .inr (.inl ⟨rfl, by dsimp only; omega⟩)
      · dsimp only; omega
      · first | exact hino | exact in_snoc hino (by omega) (by omega)
      · (try simp only [List.length_append, List.length_cons, List.length_nil]); omega
      · exact (List.getElem?_eq_some_iff.mp hi).1
    · k_steps
      refine inv_end (by k_asm) (by k_asm) (DecJ.of ⟨st.out ++ [st.lc * 4 + b64v k / 16], 2, b64v k % 16⟩ _ _ _ _ _ _ _ ?_ ⟨?_, ?_, ?_⟩ ?_ ?_ ((kst_self (kc rfl (kc rfl (kc rfl (kc rfl (kc rfl (kc rfl kn))))))).symm) rfl (ints_snoc hio))
      · exact ((fold_next hi).trans (by rw [← hst]; exact dec_1 hqp)).symm
      · exact .inr (.inr (.inl ⟨rfl, by dsimp only; omega⟩))
      · dsimp only; omega
      · first | exact hino | exact in_snoc hino (by omega) (by omega)
      · (try simp only [List.length_append, List.length_cons, List.length_nil]); omega
      · exact (List.getElem?_eq_some_iff.mp hi).1
    · k_steps
      refine inv_end (by k_asm) (by k_asm) (DecJ.of ⟨st.out ++ [st.lc * 16 + b64v k / 4], 3, b64v k % 4⟩ _ _ _ _ _ _ _ ?_ ⟨?_, ?_, ?_⟩ ?_ ?_ ((kst_self (kc rfl (kc rfl (kc rfl (kc rfl (kc rfl (kc rfl kn))))))).symm) rfl (ints_snoc hio))
      · exact ((fold_next hi).trans (by rw [← hst]; exact dec_2 hqp)).symm
      · exact .inr (.inr (.inr ⟨rfl, by dsimp only; omega⟩))
      · dsimp only; omega
      · first | exact hino | exact in_snoc hino (by omega) (by omega)
      · (try simp only [List.length_append, List.length_cons, List.length_nil]); omega
      · exact (List.getElem?_eq_some_iff.mp hi).1
    · k_steps
      refine inv_end (by k_asm) (by k_asm) (DecJ.of ⟨st.out ++ [st.lc * 64 + b64v k], 0, 0⟩ _ _ _ _ _ _ _ ?_ ⟨?_, ?_, ?_⟩ ?_ ?_ ((kst_self (kc rfl (kc rfl (kc rfl (kc rfl (kc rfl (kc rfl kn))))))).symm) rfl (ints_snoc hio))
      · exact ((fold_next hi).trans (by rw [← hst]; exact dec_3 hqp)).symm
      · exact .inl rfl
      · dsimp only; omega
      · first | exact hino | exact in_snoc hino (by omega) (by omega)
      · (try simp only [List.length_append, List.length_cons, List.length_nil]); omega
      · exact (List.getElem?_eq_some_iff.mp hi).1
  · rintro m₁ news₁ h tk ⟨st, u, t1, t2, t3, t4, vs, n, hst, hok9, hlen, him, hio⟩ F9 N9
    have hqp := hok9.1
    have hlc0 := hok9.2.1
    have hino := hok9.2.2
    rw [List.take_length] at hst
    have hb0 : st.qp = 0 := by rw [hst]; exact dec_done (by rw [KBw.ints_length]; exact hsz4)
    rw [hb0] at F9
    have hin : KBa.In st.out := hino
    have hol : st.out.length ≤ 300 := by rw [KBw.ints_length] at hlen; omega
    clear hqp hok9
    k_steps
    subst hst
    exact ret _ _ _ (by k_asm) (news_tail (by k_asm))
end
end
section
open PySem PySem.W PySem.Spec PySem.Calls PyProof.Rows
set_option maxRecDepth 100000
set_option maxHeartbeats 4000000
open Builtin
theorem slot_btrans : Slot "bytes" "translate" "bytes.translate" :=
  .of (owner := "bytes") (n := "translate") (by rw [typeLookup_type, builtinLookup_eq_fast]; kernel_rfl) (by decide +kernel) (by decide +kernel) (by decide +kernel)
    (by first | exact .inl (by decide +kernel) | exact .inr (by decide +kernel)) (by rw [isSubtype_type]; kernel_rfl)
theorem entry_btrans : entryFor table "bytes.translate" = some Builtin.«bytes.translate» := entryFor_of_tree (by kernel_rfl)
theorem args_btrans (a b : Value) : argsOk "bytes.translate" ⟨[a, b], []⟩ := by
  unfold argsOk; rw [signature?_of (id := "bytes.translate") (n := ['e', 't', 'a', 'l', 's', 'n', 'a', 'r', 't']) (o := ['s', 'e', 't', 'y', 'b']) (by kernel_rfl) FB.owner_bytes]; kernel_rfl
theorem type_btrans : typeOf (.builtin "bytes.translate") = pure (.type "method_descriptor") := by show builtinType _ = _; rw [builtinType_eq_fast]; kernel_rfl
section
variable {prog : Program} {w : World} {A : Around} {E : Value → Shared → Prop} {s : Shared}
theorem method_btrans {M : Model} {b : Array UInt8} {t : Tok} {pl : Sem Bool} {Q : Value × List Value → Shared → Prop} (h : Q (.builtin "bytes.translate", [.bytes b t]) s) : wpAny M A (getMethod (.bytes b t) "translate" pl) Q E s := by
  with_reducible exact KBd.method_of (.bytes b t) (typeIs_bytes _ _ _) slot_btrans type_btrans KBd.noRef h
theorem meets_btrans {b tab : Array UInt8} {t u : Tok} (ht : tab.size = 256) (hb : b.size ≤ 1000) : Meets («bytes.translate» ⟨[.bytes b t, .bytes tab u], []⟩) (fun _ R s => ∀ t' k, R (.ok (.ret (.bytes (b.map fun c => tab.getD c.toNat c) t'))) { s with toks := k }) := by
  refine .of_wp fun prog w A R s hS => ?_
  unfold Builtin.«bytes.translate» Bytes.translateM
  dsimp only
  simp only [List.length_cons, List.length_nil, List.any_nil, Bool.false_eq_true, if_false]
  rw [if_neg (by decide)]
  rw [if_neg (by rw [show (Value.bytes tab u == Value.none) = false from rfl]; exact Bool.false_ne_true)]
  refine wpAny_bind (wpAny_of_eq KBd.like_eq ?_)
  rw [if_neg (by rw [ht]; decide)]
  refine wpAny_bind (wpAny_pure ?_)
  dsimp only
  refine wpAny_bind (wpAny_pure ?_)
  refine wpAny_bind (wpAny_of_eq (a := b) rfl ?_)
  have hf : Array.filter (fun x => !(#[] : Array UInt8).contains x) b = b := by simp
  rw [hf]
  split
  · rename_i he
    have he := eq_of_beq he
    refine wpAny_bind (wpAny_rule ?_)
    refine wpAny_bind (wpAny_of_eq (a := Value.bytes b t) ?_ ?_)
    · kernel_rfl
    · refine wpAny_pure ⟨_, rfl, ?_⟩
      have := hS t s.toks
      rw [he] at this
      exact this
  · refine wpAny_bind (wpAny_mkBytes (hb := by rw [Array.size_map, sizeLine_eq]; omega) ?_)
    exact wpAny_pure ⟨_, rfl, hS _ _⟩
theorem call_btrans {b tab : Array UInt8} {t u : Tok} {Q : Value → Shared → Prop} (ht : tab.size = 256) (hb : b.size ≤ 1000) (h : ∀ t' k, Q (.bytes (b.map fun c => tab.getD c.toNat c) t') { s with toks := k }) :
    wpAny (model prog w) A (call (.builtin "bytes.translate") [.bytes b t, .bytes tab u]) Q E s :=
  call_meets slot_btrans (typeIs_bytes _ _ _) entry_btrans (args_btrans _ _) (meets_btrans ht hb) h
end
theorem entry_mk : entryFor table "bytes.maketrans" = some Builtin.«bytes.maketrans» := entryFor_of_tree (by kernel_rfl)
theorem plain_mk : plainId "bytes.maketrans" = true := by decide +kernel
theorem check_mk {a b : Array UInt8} {t u : Tok} : checkBuiltinCall "bytes.maketrans" ⟨[.bytes a t, .bytes b u], []⟩ = pure () := by kernel_rfl
theorem enc_len : ∀ (ks : List Int) (st : Enc), (ks.foldl encStep st).out.length ≤ st.out.length + 2 * ks.length
  | [], st => by simp
  | k :: ks, st => by
    have h1 := enc_len ks (encStep st k)
    have h2 : (encStep st k).out.length ≤ st.out.length + 2 := by
      unfold encStep
      (repeat' split) <;> simp
    rw [List.foldl_cons, List.length_cons]
    omega
theorem encOut_size {b : Array UInt8} (h : b.size ≤ 100) : (byteArr (encOut (KBw.bInts b))).size ≤ 1000 := by
  rw [byteArr_size]
  have := enc_len (KBw.bInts b) ⟨[], 0, 0⟩
  rw [KBw.ints_length] at this
  unfold encOut
  simp only [List.length_nil] at this
  omega
/-- the table that maketrans makes of two pairs -/
noncomputable def trTab (f x g y : UInt8) : Array UInt8 := (((Array.range 256).map (·.toUInt8)).setIfInBounds f.toNat x).setIfInBounds g.toNat y
theorem trTab_size (f x g y : UInt8) : (trTab f x g y).size = 256 := by simp [trTab]
section
variable {prog : Program} {w : World} {A : Around} {E : Value → Shared → Prop} {s : Shared} {K : Frag} {h₀ : Heap} {L : Addr} {m : PySem.Str → Option Value}
theorem ty_bytes : typeOf (.type "bytes") = pure (.type "type") := by kernel_rfl
theorem st_bytes : Manifest.isStub "bytes" = false := by decide +kernel
theorem hd_mk : handedIn (Value.builtin "bytes.maketrans") = true := by decide +kernel
theorem find_mk (P : Params) : findCls (Kf P) (.type "bytes") (.type "type") (PySem.Str.ofString "maketrans") = some (.val (.builtin "bytes.maketrans")) := by kernel_rfl
theorem getm_mk {pl : Sem Bool} {Q : Value × List Value → Shared → Prop} (F : Fr h₀ L s.heap m) (X₀ : (Kf w.params).In h₀) (h : Q (.builtin "bytes.maketrans", []) { s with toks := s.toks + 1 }) :
    wpAny (model prog w) A (getMethod (.type "bytes") (PySem.Str.ofString "maketrans") pl) Q E s := by
  with_reducible exact method_type (T := "bytes") (name := PySem.Str.ofString "maketrans") (K := Kf w.params) (v := Value.builtin "bytes.maketrans") F X₀ ty_bytes st_bytes (find_mk w.params) hd_mk h
theorem call_mk {f x g y : UInt8} {t u : Tok} {Q : Value → Shared → Prop} (h : ∀ t' k, Q (.bytes (trTab f x g y) t') { s with toks := k }) :
    wpAny (model prog w) A (call (.builtin "bytes.maketrans") [.bytes #[f, g] t, .bytes #[x, y] u]) Q E s := by
  refine wpAny_call (codeAny_call_builtin plain_mk entry_mk ?_)
  rw [check_mk]
  refine wpAny_pure ?_
  unfold Builtin.«bytes.maketrans» Bytes.maketransM
  dsimp only
  refine wpAny_bind (wpAny_of_eq (a := ()) (by kernel_rfl) ?_)
  refine wpAny_bind (wpAny_of_eq (a := ()) (by kernel_rfl) ?_)
  refine wpAny_bind (wpAny_of_eq (a := #[f, g]) KBd.like_eq ?_)
  refine wpAny_bind (wpAny_of_eq (a := #[x, y]) KBd.like_eq ?_)
  rw [if_neg (by simp)]
  refine wpAny_bind (wpAny_mkBytes (hb := by rw [show (List.foldl (fun (t : Array UInt8) (x : UInt8 × UInt8) => t.setIfInBounds x.fst.toNat x.snd) (Array.map (fun x => x.toUInt8) (Array.range 256)) (#[f, g].toList.zip #[x, y].toList)).size = 256 from by simp, sizeLine_eq]; decide) ?_)
  exact wpAny_pure (h _ _)
end
/-- the standard sign's code, and the law's own -/
noncomputable def toU (c : Int) : Int := if c = 43 then 46 else if c = 47 then 39 else c
noncomputable def fromU (c : Int) : Int := if c = 46 then 43 else if c = 39 then 47 else c
theorem trTab_get (f x g y c : UInt8) : (trTab f x g y).getD c.toNat c = if c = g then y else if c = f then x else c := by
  unfold trTab
  have hc : c.toNat < 256 := c.toNat_lt
  have hf : f.toNat < 256 := f.toNat_lt
  have hg : g.toNat < 256 := g.toNat_lt
  rw [Array.getD_eq_getD_getElem?, Array.getElem?_setIfInBounds]
  by_cases h1 : c = g
  · subst h1
    simp [hc]
  · rw [if_neg (fun e => h1 (UInt8.toNat_inj.mp e.symm)), if_neg h1, Array.getElem?_setIfInBounds]
    by_cases h2 : c = f
    · subst h2; simp [hc]
    · rw [if_neg (fun e => h2 (UInt8.toNat_inj.mp e.symm)), if_neg h2]
      have e : (Array.range 256)[c.toNat]? = some c.toNat := by rw [Array.getElem?_eq_getElem (by simpa using hc)]; simp
      rw [Array.getElem?_map, e]
      simp
theorem u8_eq {c : UInt8} {n : Nat} (hn : n < 256) : c = UInt8.ofNat n ↔ (c.toNat : Int) = (n : Int) := by
  constructor
  · rintro rfl
    rw [UInt8.toNat_ofNat']; omega
  · intro h
    apply UInt8.toNat_inj.mp
    rw [UInt8.toNat_ofNat']; omega
theorem tab_toU (c : UInt8) : (((trTab 43 46 47 39).getD c.toNat c).toNat : Int) = toU c.toNat := by
  rw [trTab_get]
  unfold toU
  by_cases h1 : c = 47
  · subst h1; rfl
  · have h1' : (c.toNat : Int) ≠ 47 := fun e => h1 ((u8_eq (n := 47) (by decide)).mpr e)
    rw [if_neg h1]
    by_cases h2 : c = 43
    · subst h2; rfl
    · have h2' : (c.toNat : Int) ≠ 43 := fun e => h2 ((u8_eq (n := 43) (by decide)).mpr e)
      rw [if_neg h2, if_neg h2', if_neg h1']
theorem tab_fromU (c : UInt8) : (((trTab 46 43 39 47).getD c.toNat c).toNat : Int) = fromU c.toNat := by
  rw [trTab_get]
  unfold fromU
  by_cases h1 : c = 39
  · subst h1; rfl
  · have h1' : (c.toNat : Int) ≠ 39 := fun e => h1 ((u8_eq (n := 39) (by decide)).mpr e)
    rw [if_neg h1]
    by_cases h2 : c = 46
    · subst h2; rfl
    · have h2' : (c.toNat : Int) ≠ 46 := fun e => h2 ((u8_eq (n := 46) (by decide)).mpr e)
      rw [if_neg h2, if_neg h2', if_neg h1']
theorem ints_toU (b : Array UInt8) : KBw.bInts (b.map fun c => (trTab 43 46 47 39).getD c.toNat c) = (KBw.bInts b).map toU := by
  unfold KBw.bInts
  simp only [Array.toList_map, List.map_map]
  exact List.map_congr_left fun c _ => tab_toU c
theorem ints_fromU (b : Array UInt8) : KBw.bInts (b.map fun c => (trTab 46 43 39 47).getD c.toNat c) = (KBw.bInts b).map fromU := by
  unfold KBw.bInts
  simp only [Array.toList_map, List.map_map]
  exact List.map_congr_left fun c _ => tab_fromU c
theorem ints_byteArr {l : List Int} (h : ∀ c ∈ l, 0 ≤ c ∧ c < 256) : KBw.bInts (byteArr l) = l := by
  unfold KBw.bInts byteArr
  simp only [List.map_map]
  conv => rhs; rw [← List.map_id l]
  refine List.map_congr_left fun c hc => ?_
  have := h c hc
  simp only [Function.comp, _root_.id]
  have e : (c.toNat.toUInt8).toNat = c.toNat := by
    rw [Nat.toUInt8, UInt8.toNat_ofNat']; omega
  rw [e]; omega
theorem bInts_inj {b c : Array UInt8} (h : KBw.bInts b = KBw.bInts c) : b = c := by
  unfold KBw.bInts at h
  apply Array.ext'
  have key : ∀ (l l' : List UInt8), l.map (fun c => ((c.toNat : Nat) : Int)) = l'.map (fun c => ((c.toNat : Nat) : Int)) → l = l' := by
    intro l
    induction l with
    | nil => intro l' h; cases l' with
      | nil => rfl
      | cons _ _ => cases h
    | cons x l ih => intro l' h; cases l' with
      | nil => cases h
      | cons y l' =>
        rw [List.map_cons, List.map_cons] at h
        injection h with h1 h2
        rw [ih l' h2, UInt8.toNat_inj.mp (Int.ofNat.inj h1)]
  exact key _ _ h
theorem toU_in {l : List Int} (h : ∀ c ∈ l, 0 ≤ c ∧ c < 256) : ∀ c ∈ l.map toU, 0 ≤ c ∧ c < 256 := fun c hc => by
  obtain ⟨d, hd, rfl⟩ := List.mem_map.mp hc
  have := h d hd
  unfold toU
  (repeat' split) <;> omega
theorem tr_enc (l : List Int) (h : ∀ c ∈ l, 0 ≤ c ∧ c < 128) : ((byteArr l).map fun c => (trTab 43 46 47 39).getD c.toNat c) = byteArr (l.map toU) := by
  have h' : ∀ c ∈ l, 0 ≤ c ∧ c < 256 := fun c hc => by have := h c hc; omega
  apply bInts_inj
  rw [ints_toU, ints_byteArr h', ints_byteArr (toU_in h')]
end
section
open PySem PySem.W PySem.Spec PySem.Calls PyProof.Rows
set_option maxRecDepth 100000
set_option maxHeartbeats 1000000
theorem lines_B4_0 : True := by
  k_with_none
  k_with "ENTER" => (refine' code_fd ?zke ?zk1 ?zk2 ?zk3 ?zk4 ?zk5 ?zkA ?zkF ?zkK ?zk6 ?zk7 ?zk8 ?zk9 ?zkB ?_ ?zc2 ?zc3 ?zc4 ?zc5; (case zke => assumption); (case zkA => exact rfl); (case zkF => exact rfl); (case zkK => assumption); (case zk1 => k_asm); (case zk2 => k_asm); (case zk3 => k_asm); (case zk4 => k_asm); (case zk5 => k_asm); (case zk6 => k_is); (case zk7 => k_is); (case zk8 => ktr_room); (case zk9 => exact binds_K (by k_in) rfl (by k_is) rfl rfl rfl); (case zc5 => decide); (case zkB => exact locs rfl); (case zc2 => exact rfl); (case zc3 => exact rfl); (case zc4 => exact rfl); k_whole; intro g' L' h' FG' F' N' B' X' T'; (try dsimp only); (try k_lift B'); (try k_fold); (try (with_reducible refine name_A ?_; intro A9)))
  k_with "call ref" => (k_here; (with_reducible show wpAny _ _ (call (Value.ref 247) _ _) _ _ _); k_dflt (refine' buffer_ok ?zB ?zF ?zX ?zN ?zT ?zhk ?zhd ?zhu ?_; (case zN => k_asm); (case zB => k_asm); (case zF => k_asm); (case zX => k_asm); (case zT => k_asm); (case zhk => first | exact rfl | assumption); (case zhd => ktr_room); (case zhu => ktr_units); k_whole); intro h' tk' F' N'; (try k_sweep))
  k_with "call ref" => (k_here; (with_reducible show wpAny _ _ (call (Value.ref 254) _ _) _ _ _); k_dflt (refine' truth_ok ?zB ?zF ?zX ?zN ?zT ?zhk ?zhd ?zhu ?_; (case zN => k_asm); (case zB => k_asm); (case zF => k_asm); (case zX => k_asm); (case zT => k_asm); (case zhk => first | exact rfl | assumption); (case zhd => ktr_room); (case zhu => ktr_units); k_whole); intro h' tk' F' N'; (try k_sweep))
  k_with "call ref" => (k_here; (with_reducible show wpAny _ _ (call (Value.ref 240) _ _) _ _ _); k_dflt (refine' ascii_buffer_ok ?zB ?zF ?zX ?zN ?zT ?zhk ?zhd ?zhu ?_; (case zN => k_asm); (case zB => k_asm); (case zF => k_asm); (case zX => k_asm); (case zT => k_asm); (case zhk => first | exact rfl | assumption); (case zhd => ktr_room); (case zhu => ktr_units); k_whole); intro h' tk' F' N'; (try k_sweep))
  k_with "call ref" => (k_here; (with_reducible show wpAny _ _ (call (Value.ref 220) _ _) _ _ _); k_dflt (refine' bytes_from_ok ?zB ?zF ?zX ?zN ?zT ?zhk ?zhd ?zhu ?_; (case zN => k_asm); (case zB => k_asm); (case zF => k_asm); (case zX => k_asm); (case zT => k_asm); (case zhk => first | exact rfl | assumption); (case zhd => ktr_room); (case zhu => ktr_units); k_whole); intro h' tk' F' N'; (try k_sweep))
  k_with "call ref" => (k_here; (with_reducible show wpAny _ _ (call (Value.ref 261) _ _) _ _ _); k_dflt (refine' b64_value_ok ?zB ?zF ?zX ?zN ?zT ?zhk ?zhd ?zhu ?_; (case zN => k_asm); (case zB => k_asm); (case zF => k_asm); (case zX => k_asm); (case zT => k_asm); (case zhk => first | exact rfl | assumption); (case zhd => ktr_room); (case zhu => ktr_units); k_whole); intro t h' tk' F' N'; (try k_sweep))
  k_with "call ref" => (k_here; (with_reducible show wpAny _ _ (call (Value.ref 277) _ _) _ _ _); k_dflt (refine' b2a_ok ?zB ?zF ?zX ?zN ?zT ?zhk ?zhd ?zhu ?zh1 ?zh2 ?_; (case zN => k_asm); (case zB => k_asm); (case zF => k_asm); (case zX => k_asm); (case zT => k_asm); (case zhk => first | exact rfl | assumption); (case zhd => ktr_room); (case zhu => ktr_units); (case zh1 => assumption); (case zh2 => assumption); k_whole); intro t h' tk' F' N'; (try k_sweep))
  k_with "call ref" => (k_here; (with_reducible show wpAny _ _ (call (Value.ref 269) _ _) _ _ _); k_dflt (refine' a2b_ok ?zB ?zF ?zX ?zN ?zT ?zhk ?zhd ?zhu ?zh1 ?zh2 ?zh3 ?_; (case zN => k_asm); (case zB => k_asm); (case zF => k_asm); (case zX => k_asm); (case zT => k_asm); (case zhk => first | exact rfl | assumption); (case zhd => ktr_room); (case zhu => ktr_units); (case zh1 => assumption); (case zh2 => assumption); (case zh3 => assumption); k_whole); intro t h' tk' F' N'; (try k_sweep))
  k_with "getMethod bytes" => (k_here; (with_reducible show wpAny _ _ (getMethod (Value.bytes _ _) (PySem.Str.ofString "translate") _) _ _ _); refine method_btrans ?_)
  k_with "getMethod type:bytes" => (k_here; (with_reducible show wpAny _ _ (getMethod (Value.type "bytes") (PySem.Str.ofString "maketrans") _) _ _ _); (refine' getm_mk ?zF ?zX ?_; (case zF => k_asm); (case zX => k_asm); k_whole))
  k_with "call builtin:bytes.maketrans" => (k_here; k_dflt (refine call_mk ?_); intro t' k')
  k_with "call builtin:bytes.translate" => (k_here; k_dflt (refine' call_btrans (trTab_size _ _ _ _) ?zz ?_; (case zz => first | assumption | (rw [byteArr_size]; assumption))); intro t' k')
  trivial
section
variable {w : World} {pv : Program} {loose : List Str} {mean : ExcName → Option Value} {mg mb : Str → Option Value}
    {dp un : Nat} {gd : Option (List Code)} {cn : Str} {cs : Scope} {a : Addr} {ccd : Value} {cl : List (Str × Addr)} {outer : List Env} {A₀ : Around} {base h₀ : Heap} {L : Addr} {m : Str → Option Value} {news : List (Addr × Obj)} {s : Shared}
    {Q E : Value → Shared → Prop}

theorem b64encode_ok {b : Array UInt8} {tb ta : Tok} (B : Below A₀ base outer h₀) (F : Fr h₀ L s.heap m) (X : (Kf w.params).In h₀) (N : News h₀ L s.heap news) (T : Top pv loose mean mg mb h₀) (hk : cs.kind = .function)
    (hd : dp + 4 < recursionLimit) (hu : un + 32 < cLine) (hsz : b.size ≤ 100) (hsz3 : b.size % 3 = 0)
    (ret : ∀ t h' tk', Fr h₀ L h' m → News h₀ L h' news → Q (.bytes (byteArr ((encOut (KBw.bInts b)).map toU)) t) { s with heap := h', toks := tk' }) :
    wpAny (model PySem.Challenge.rw_il0176_01.prog w) (ktrTop dp un gd cn cs L a ccd cl outer) (call (.ref 285) [.bytes b tb, .bytes #[46, 39] ta]) Q E s := by
  revert X; k_fill; intro X
  have hfd := show fd 48 = _ from by (conv => lhs; whnf)
  refine wpAny_call ?_
  k_dflt (walk_at "ENTER")
  clear hfd
  have henc := encOut_size hsz
  k_steps
  rw [tr_enc _ (encOut_in _)]
  exact ret _ _ _ (by k_asm) (by k_asm)
theorem b64decode_ok {b : Array UInt8} {tb ta : Tok} (B : Below A₀ base outer h₀) (F : Fr h₀ L s.heap m) (X : (Kf w.params).In h₀) (N : News h₀ L s.heap news) (T : Top pv loose mean mg mb h₀) (hk : cs.kind = .function)
    (hd : dp + 4 < recursionLimit) (hu : un + 32 < cLine) (hsz : b.size ≤ 100) (hsz4 : b.size % 4 = 0) (hall : ∀ c ∈ (KBw.bInts b).map fromU, c ≠ 61 ∧ b64v c < 64)
    (ret : ∀ t h' tk', Fr h₀ L h' m → News h₀ L h' news → Q (.bytes (byteArr (decOut ((KBw.bInts b).map fromU))) t) { s with heap := h', toks := tk' }) :
    wpAny (model PySem.Challenge.rw_il0176_01.prog w) (ktrTop dp un gd cn cs L a ccd cl outer) (call (.ref 293) [.bytes b tb, .bytes #[46, 39] ta]) Q E s := by
  revert X; k_fill; intro X
  have hfd := show fd 49 = _ from by (conv => lhs; whnf)
  refine wpAny_call ?_
  k_dflt (walk_at "ENTER")
  clear hfd
  have hbz : b.size ≤ 1000 := by omega
  have hz1 : (b.map fun c => (trTab 46 43 39 47).getD c.toNat c).size ≤ 100 := by rw [Array.size_map]; exact hsz
  have hz4 : (b.map fun c => (trTab 46 43 39 47).getD c.toNat c).size % 4 = 0 := by rw [Array.size_map]; exact hsz4
  have hal : ∀ c ∈ KBw.bInts (b.map fun c => (trTab 46 43 39 47).getD c.toNat c), c ≠ 61 ∧ b64v c < 64 := by rw [ints_fromU]; exact hall
  k_steps
  rw [ints_fromU]
  exact ret _ _ _ (by k_asm) (by k_asm)
end
end
section
open PySem PySem.W PySem.Spec PySem.Calls PyProof.Rows
set_option maxRecDepth 100000
set_option maxHeartbeats 4000000
section
variable {prog : Program} {w : World} {A : Around} {E : Value → Shared → Prop} {s : Shared} {env : Env} {h₀ : Heap} {x : Str} {body : List Stmt} {Q : Flow → Shared → Prop}
theorem iter_rangeJ {r : Addr} {a₀ b₀ c : Int} {t₀ u₀ v₀ : Tok} {n : Nat} {m₀ : Str → Option Value} {news : List (Addr × Obj)} (J : Nat → (Str → Option Value) → List (Addr × Obj) → Prop)
    (hh : A.handled = none) (hr : IsRange s.heap r a₀ b₀ c t₀ u₀ v₀) (hsmall : Builtin.Range.small a₀ b₀ c = true) (hn : Builtin.Range.rangeSize a₀ b₀ c = (n : Int)) (F : Fr h₀ env.locals s.heap m₀) (N : News h₀ env.locals s.heap news) (hj : J 0 m₀ news)
    (turn : ∀ i t m₁ nx h tk own, i < n → OwnOff own (news.map (·.1)) → J i m₁ nx → Fr h₀ env.locals h (fun y => if y = x then some (.int (a₀ + i * c) t) else m₁ y) → News h₀ env.locals h (nx ++ own) →
      wpAny (model prog w) A (execs body env) (InvPostN h₀ env.locals (J (i + 1)) own (news.map (·.1)) { s with heap := h, toks := tk } Q) E { s with heap := h, toks := tk })
    (done : ∀ m₁ nx h tk, J n m₁ nx → Fr h₀ env.locals h m₁ → News h₀ env.locals h nx → Q .next { s with heap := h, toks := tk }) :
    wpAny (model prog w) A (pyIter (.ref r)) (fun it s₂ => LoopAtV prog w A h₀ env x body Q E it s₂) E s := by
  refine wpAny_pyIter_range hr hsmall ?_
  have W : Walks prog w A s.heap.objs.size [s.heap.objs.size] [s.heap.objs.size] n (fun i v => i < n ∧ ∃ t, v = .int (a₀ + i * c) t)
      (fun i h => IsRangeIter h s.heap.objs.size (a₀ + (i : Nat) * c) ((n : Int) - (i : Nat)) c) := (Walks.range hh _ a₀ c n).bound
  refine loop_invN J W ?_ ?_ ?_ ?_ (by show IsRangeIter _ _ _ _ _; rw [hn]; simpa using Heap.get?_push_size _ rfl) (F.push _) (fun p hp => ⟨Heap.get?_push_of_some _ (N p hp).1, (N p hp).2⟩) hj ?_ ?_
  · exact fun hm => absurd F.ns.lt ((List.mem_singleton.mp hm) ▸ Nat.lt_irrefl _)
  · intro b hb
    rw [List.mem_singleton.mp hb]
    exact next_is_new F
  · exact fun p hp hI => absurd (Heap.lt_size (N p hp).1) ((List.mem_singleton.mp hI) ▸ Nat.lt_irrefl _)
  · exact fun p hp hI => absurd (Heap.lt_size (N p hp).1) ((List.mem_singleton.mp hI) ▸ Nat.lt_irrefl _)
  · rintro i v m₁ nx h tk own hi ⟨_, t, rfl⟩ _ ho hJ F' N'
    exact turn i t m₁ nx h tk own hi ho hJ F' N'
  · exact fun m₁ nx h tk hJ F₁ N₁ => done m₁ nx h tk hJ F₁ N₁
theorem iter_listJ {l : Addr} {vs : List Value} {n : Nat} {m₀ : Str → Option Value} {news : List (Addr × Obj)} (J : Nat → (Str → Option Value) → List (Addr × Obj) → Prop)
    (hh : A.handled = none) (hm : (l, W.listOf (List.toArray vs) n) ∈ news) (F : Fr h₀ env.locals s.heap m₀) (N : News h₀ env.locals s.heap news) (hj : J 0 m₀ news)
    (turn : ∀ I i v m₁ nx h tk own, vs[i]? = some v → (∀ q ∈ news, q.1 < I) → (∀ p ∈ own, p.1 = I ∨ p.1 = l) → nx.map (·.1) = news.map (·.1) → J i m₁ nx → Fr h₀ env.locals h (fun y => if y = x then some v else m₁ y) → News h₀ env.locals h (nx ++ own) →
      wpAny (model prog w) A (execs body env) (InvPostN h₀ env.locals (J (i + 1)) own (news.map (·.1)) { s with heap := h, toks := tk } Q) E { s with heap := h, toks := tk })
    (done : ∀ m₁ nx h tk, nx.map (·.1) = news.map (·.1) → J vs.length m₁ nx → Fr h₀ env.locals h m₁ → News h₀ env.locals h nx → Q .next { s with heap := h, toks := tk }) :
    wpAny (model prog w) A (pyIter (.ref l)) (fun it s₂ => LoopAtV prog w A h₀ env x body Q E it s₂) E s := by
  have hls : s.heap.IsList l vs.toArray := News.isList N hm
  have hlt : l < s.heap.objs.size := Heap.lt_size (N _ hm).1
  have hne : l ≠ s.heap.objs.size := Nat.ne_of_lt hlt
  refine wpAny_pyIter_list hls ?_
  have W := Walks.list (prog := prog) (w := w) hh s.heap.objs.size l hne vs.toArray
  rw [List.size_toArray] at W
  have below : ∀ q ∈ news, q.1 < s.heap.objs.size := fun q hq => Heap.lt_size (N q hq).1
  have off : ∀ nx : List (Addr × Obj), nx.map (·.1) = news.map (·.1) → ∀ p ∈ nx, p.1 ∉ [s.heap.objs.size] := fun nx ha p hp hq => by
    have h1 : p.1 ∈ nx.map (·.1) := List.mem_map.mpr ⟨p, hp, rfl⟩
    rw [ha] at h1
    obtain ⟨q, hq1, hq2⟩ := List.mem_map.mp h1
    have h3 := below q hq1
    rw [hq2, List.mem_singleton.mp hq] at h3
    exact Nat.lt_irrefl _ h3
  refine ⟨_, _, _, vs.length, _, _, m₀, news, fun i m nx => nx.map (·.1) = news.map (·.1) ∧ J i m nx, rfl, W, ?_, ?_, off news rfl, ⟨⟨_, Heap.get?_push_size _ rfl, rfl, rfl⟩, hls.at fun o e => Heap.get?_push_of_some _ e⟩, F.push _, (fun p hp => ⟨Heap.get?_push_of_some _ (N p hp).1, (N p hp).2⟩), ⟨rfl, hj⟩, ?_, ?_⟩
  · intro hm'
    rcases List.mem_cons.mp hm' with e | hm'
    · exact absurd F.ns.lt (e ▸ Nat.lt_irrefl _)
    · exact (N _ hm).2.1 (List.mem_singleton.mp hm').symm
  · intro b hb
    rw [List.mem_singleton.mp hb]
    exact next_is_new F
  · rintro i v m₁ nx s₁ own ⟨hh', tk', rfl⟩ hin hP ⟨hadr, hJ⟩ hoff hown _ _ _ F₁ N₁
    have N₂ : News h₀ env.locals hh' (nx ++ own) := fun p hp => N₁ p ((List.mem_append.mp hp).elim (fun h => List.mem_append.mpr (.inr h)) fun h => List.mem_append.mpr (.inl h))
    have hP' : vs[i]? = some v := by simpa using hP
    refine wpAny_mono (turn s.heap.objs.size i v m₁ nx hh' tk' own hP' below (fun p hp => by simpa using hown p hp) hadr hJ F₁ N₂) (fun f s₂ p => ?_) fun _ _ e => e
    have fin : InvEndN h₀ env.locals (J (i + 1)) own (news.map (·.1)) { s with heap := hh', toks := tk' } s₂ → LoopStepU h₀ env.locals [s.heap.objs.size] own (fun m nx => nx.map (·.1) = news.map (·.1) ∧ J (i + 1) m nx) { s with heap := hh', toks := tk' } .next s₂ := by
      rintro ⟨h', tk, m', news', nx', e, F', N', hn, ho, ha, hm⟩
      exact ⟨rfl, h', tk, m', nx', e, F', fun p hp => N' p ((List.mem_append.mp hp).elim (ho p) (hn p)), off nx' ha, ha, hm⟩
    cases f with
    | ret v => exact .ret p
    | brk => exact .brk p
    | next => exact .next (fin p)
    | cont => exact .cont (fin p)
  · rintro h' tk m' nx F' N' _ ⟨ha, hJ⟩
    exact done m' nx h' tk ha hJ F' N'
end
noncomputable def oct4 (a b c d : Int) : List Int :=
  let x := (((0 * 64 + a) * 64 + b) * 64 + c) * 64 + d
  [x / 65536, x / 256 % 256, x % 256]
/-- the octets of a row of six-bit values -/
noncomputable def octets : List Int → List Int
  | a :: b :: c :: d :: r => oct4 a b c d ++ octets r
  | _ => []
theorem octets_snoc : ∀ (i : Nat) (ns : List Int) {a b c d : Int} {r : List Int}, ns.drop (4 * i) = a :: b :: c :: d :: r → octets (ns.take (4 * (i + 1))) = octets (ns.take (4 * i)) ++ oct4 a b c d
  | 0, ns, a, b, c, d, r, h => by
    simp only [Nat.mul_zero, List.drop_zero] at h
    subst h
    simp [octets]
  | i + 1, ns, a, b, c, d, r, h => by
    match ns, h with
    | x :: y :: z :: u :: ns, h =>
      rw [show 4 * (i + 1) = 4 * i + 1 + 1 + 1 + 1 by omega] at h
      simp only [List.drop_succ_cons] at h
      have := octets_snoc i ns h
      rw [show 4 * (i + 1 + 1) = 4 * (i + 1) + 1 + 1 + 1 + 1 by omega, show 4 * (i + 1) = 4 * i + 1 + 1 + 1 + 1 by omega]
      simp only [List.take_succ_cons, octets, List.append_assoc]
      rw [show 4 * i + 1 + 1 + 1 + 1 = 4 * (i + 1) by omega, this]
    | [], h => simp at h
    | [x], h => simp [show 4 * (i + 1) = (4 * i + 3) + 1 by omega] at h
    | [x, y], h => simp [show 4 * (i + 1) = (4 * i + 2) + 1 + 1 by omega] at h
    | [x, y, z], h => simp [show 4 * (i + 1) = (4 * i + 1) + 1 + 1 + 1 by omega] at h
inductive OctJ (o D : Addr) (led : List (Addr × Obj)) (ns : List Int) (i : Nat) : (Str → Option Value) → List (Addr × Obj) → Prop
  | mk (u vs n) (h0 : 4 * i ≤ ns.length) (h1 : IntsAre vs (octets (ns.take (4 * i)))) (h2 : vs.length = 3 * i) : OctJ o D led ns i (kstB u [(Str.ofString "row", .ref o), (Str.ofString "values", .ref D)]) ((o, W.listOf (List.toArray vs) n) :: led)
theorem OctJ.of {o D : Addr} {led : List (Addr × Obj)} {ns : List Int} {i : Nat} {m : Str → Option Value} {nx : List (Addr × Obj)} (u vs n) (h0 : 4 * i ≤ ns.length) (em : m = kstB u [(Str.ofString "row", .ref o), (Str.ofString "values", .ref D)]) (enx : nx = (o, W.listOf (List.toArray vs) n) :: led) (h1 : IntsAre vs (octets (ns.take (4 * i)))) (h2 : vs.length = 3 * i) : OctJ o D led ns i m nx := by subst em enx; exact .mk u vs n h0 h1 h2
theorem range4 {n : Nat} (h : n % 4 = 0) : Builtin.Range.rangeSize 0 (n : Int) 4 = ((n / 4 : Nat) : Int) := by
  unfold Builtin.Range.rangeSize
  rw [if_pos (by decide)]
  split <;> omega
theorem fitsL {i : Int} (h0 : -1000000 ≤ i) (h1 : i ≤ 1000000) : Builtin.Range.rangeFitsLong i = true := by
  unfold Builtin.Range.rangeFitsLong
  rw [Bool.and_eq_true, decide_eq_true_eq, decide_eq_true_eq]; omega
theorem small_of {n : Nat} {c : Int} (hc0 : 0 < c) (hc : c ≤ 1000) (h : n ≤ 1000) : Builtin.Range.small 0 (n : Int) c = true := by
  have hs : 0 ≤ Builtin.Range.rangeSize 0 (n : Int) c ∧ Builtin.Range.rangeSize 0 (n : Int) c ≤ n := by
    unfold Builtin.Range.rangeSize
    rw [if_pos hc0]
    split
    · have h1 : 0 ≤ ((n : Int) - 0 - 1) / c := Int.ediv_nonneg (by omega) (by omega)
      have h2 : ((n : Int) - 0 - 1) / c ≤ (n : Int) - 0 - 1 := Int.ediv_le_self _ (by omega)
      omega
    · omega
  unfold Builtin.Range.small
  rw [fitsL (by decide) (by decide), fitsL (by omega) (by omega), fitsL (by omega) (by omega), fitsL (by omega) (by omega), if_pos hc0, fitsL (by omega) (by omega)]
  simp
theorem ints_un {x : List Value} {y : List Int} {n : Nat} (h : IntsAre x y) (hl : n + 1 ≤ y.length) : ∃ a t r r', x = .int a t :: r ∧ y = a :: r' ∧ IntsAre r r' ∧ n ≤ r'.length := by
  cases h with
  | nil => exact absurd hl (Nat.not_succ_le_zero n)
  | cons k t h => exact ⟨_, _, _, _, rfl, rfl, h, Nat.le_of_succ_le_succ hl⟩
theorem four_at {x : List Value} {y : List Int} (h : IntsAre x y) (hl : 4 ≤ y.length) : ∃ a b c d ta tb tc td r r', x = .int a ta :: .int b tb :: .int c tc :: .int d td :: r ∧ y = a :: b :: c :: d :: r' := by
  obtain ⟨a, ta, r, s, e1, f1, h, hl⟩ := ints_un h hl
  obtain ⟨b, tb, r, s, e2, f2, h, hl⟩ := ints_un h hl
  obtain ⟨c, tc, r, s, e3, f3, h, hl⟩ := ints_un h hl
  obtain ⟨d, td, r, s, e4, f4, h, hl⟩ := ints_un h hl
  exact ⟨a, b, c, d, ta, tb, tc, td, r, s, by rw [e1, e2, e3, e4], by rw [f1, f2, f3, f4]⟩
theorem four_of {vs : List Value} {ns : List Int} {j : Nat} (h : IntsAre vs ns) (hl : j + 4 ≤ ns.length) : ∃ a b c d ta tb tc td r r', vs.drop j = .int a ta :: .int b tb :: .int c tc :: .int d td :: r ∧ ns.drop j = a :: b :: c :: d :: r' :=
  four_at (h.drop j) (by rw [List.length_drop]; omega)
theorem pick4 {vs : List Value} {i : Nat} {x y : Int} {a b c d : Value} {r : List Value} (hx : x = (4 * i : Nat)) (hy : y = (4 * i : Nat) + 4) (h : vs.drop (4 * i) = a :: b :: c :: d :: r) : kms_pick (List.toArray vs).toList (some x) (some y) = [a, b, c, d] := by
  have hl : 4 * i + 4 ≤ vs.length := by
    have := congrArg List.length h
    rw [List.length_drop] at this
    simp only [List.length_cons] at this
    omega
  subst hx hy
  unfold kms_pick kms_lo kms_hi
  have e1 : (List.toArray vs).toList = vs := rfl
  rw [e1]
  dsimp only
  rw [if_neg (by omega), if_neg (by omega)]
  rw [show min ((4 * i : Nat) : Int).toNat vs.length = 4 * i by omega, show min (((4 * i : Nat) : Int) + 4).toNat vs.length - 4 * i = 4 by omega, h]
  rfl
theorem allLt_cons {a d : Nat} {o : Obj} {l : List (Addr × Obj)} (h : a < d ∧ AllLt d l) : ∀ q ∈ ((a, o) : Addr × Obj) :: l, q.1 < d := allLt_all (l := (a, o) :: l) h
theorem inv_same {h₀ h' : Heap} {L : Addr} {m' : Str → Option Value} {nx own : List (Addr × Obj)} {adr : List Addr} {J : (Str → Option Value) → List (Addr × Obj) → Prop} {s₁ : Shared} {tk : Nat} {Q : Flow → Shared → Prop} (F : Fr h₀ L h' m') (N : News h₀ L h' (nx ++ own)) (ha : nx.map (·.1) = adr) (hj : J m' nx) :
    InvPostN h₀ L J own adr s₁ Q .next { s₁ with heap := h', toks := tk } :=
  ⟨h', tk, m', _, nx, rfl, F, N, fun p hp => List.mem_append_left _ hp, fun p hp => List.mem_append_right _ hp, ha, hj⟩
theorem ints_at {vs : List Value} {ns : List Int} (h : IntsAre vs ns) : ∀ {i : Nat} {v : Value}, vs[i]? = some v → ∃ x t, ns[i]? = some x ∧ v = .int x t := by
  induction h with
  | nil => intro i v hv; simp at hv
  | cons k t h ih =>
    intro i v hv
    cases i with
    | zero => exact ⟨k, t, rfl, by simpa using hv.symm⟩
    | succ i => exact ih (i := i) (by simpa using hv)
noncomputable def numAt (a b c d : Int) : Nat → Int
  | 0 => 0
  | 1 => 0 * 64 + a
  | 2 => (0 * 64 + a) * 64 + b
  | 3 => ((0 * 64 + a) * 64 + b) * 64 + c
  | _ => (((0 * 64 + a) * 64 + b) * 64 + c) * 64 + d
inductive NumJ (o D : Addr) (a b c d : Int) (nx₀ : List (Addr × Obj)) (i : Nat) : (Str → Option Value) → List (Addr × Obj) → Prop
  | mk (u t)  : NumJ o D a b c d nx₀ i (kstB u [(Str.ofString "row", .ref o), (Str.ofString "values", .ref D), (Str.ofString "number", .int (numAt a b c d i) t)]) (nx₀)
theorem NumJ.of {o D : Addr} {a b c d : Int} {nx₀ : List (Addr × Obj)} {i : Nat} {m : Str → Option Value} {nx : List (Addr × Obj)} (u t) (em : m = kstB u [(Str.ofString "row", .ref o), (Str.ofString "values", .ref D), (Str.ofString "number", .int (numAt a b c d i) t)]) (enx : nx = nx₀) : NumJ o D a b c d nx₀ i m nx := by subst em enx; exact .mk u t 
theorem extend_K2 {prog : Program} {w : World} {A : Around} {E : Value → Shared → Prop} {s : Shared} {h₀ : Heap} {L : Addr} {m : Str → Option Value} {o b : Addr} {y : Addr × Obj} {l : List (Addr × Obj)} {ys zs : List Value} {n k : Nat} {Q : Value → Shared → Prop} (F : Fr h₀ L s.heap m) (N : News h₀ L s.heap ((b, W.listOf (List.toArray zs) k) :: y :: (o, W.listOf (List.toArray ys) n) :: l)) (hx : b ≠ o) (hy : y.1 ≠ o) (hl : ∀ p ∈ l, p.1 ≠ o)
    (hsz : ys.length + zs.length ≤ 1000) (h : ∀ h' n', Fr h₀ L h' m → News h₀ L h' ((o, W.listOf (List.toArray (ys ++ zs)) n') :: l) → Q .none { s with heap := h' }) : wpAny (model prog w) A (call (.builtin "list.extend") [.ref o, .ref b]) Q E s := by
  refine extend_in (own := [(b, W.listOf (List.toArray zs) k), y]) (hsz := by rw [List.size_toArray, sizeLine_eq]; omega) F N (fun p hp => ?_) hl (N _ (.head _)).1 fun h' n' F' N' => h h' n' F' fun p hp => N' p (.tail _ (.tail _ hp))
  rcases List.mem_cons.mp hp with rfl | hp
  · exact hx
  · rw [List.mem_singleton.mp hp]; exact hy
theorem octets_in : ∀ (ns : List Int), (∀ c ∈ ns, 0 ≤ c ∧ c < 64) → ∀ c ∈ octets ns, 0 ≤ c ∧ c < 256
  | a :: b :: c :: d :: r, h => by
    intro x hx
    have ha := h a (by simp)
    have hb := h b (by simp)
    have hc := h c (by simp)
    have hd := h d (by simp)
    unfold octets at hx
    rcases List.mem_append.mp hx with hx | hx
    · unfold oct4 at hx
      simp only [List.mem_cons, List.not_mem_nil, or_false] at hx
      rcases hx with rfl | rfl | rfl <;> omega
    · exact octets_in r (fun y hy => h y (by simp [hy])) x hx
  | [], _ => fun _ h => nomatch h
  | [_], _ => fun _ h => nomatch h
  | [_, _], _ => fun _ h => nomatch h
  | [_, _, _], _ => fun _ h => nomatch h
theorem octets_len : ∀ (ns : List Int), ns.length % 4 = 0 → (octets ns).length = 3 * (ns.length / 4)
  | a :: b :: c :: d :: r, h => by
    simp only [List.length_cons] at h
    have := octets_len r (by omega)
    unfold octets
    rw [List.length_append, this]
    simp only [oct4, List.length_cons, List.length_nil]
    omega
  | [], _ => rfl
  | [_], h => by simp at h
  | [_, _], h => by simp at h
  | [_, _, _], h => by simp at h
theorem oct4_f (a b c d : Int) : oct4 a b c d = [((((0 * 64 + a) * 64 + b) * 64 + c) * 64 + d).fdiv 65536, (((((0 * 64 + a) * 64 + b) * 64 + c) * 64 + d).fdiv 256).fmod 256, ((((0 * 64 + a) * 64 + b) * 64 + c) * 64 + d).fmod 256] := by
  rw [Int.fdiv_eq_ediv_of_nonneg _ (by decide), Int.fdiv_eq_ediv_of_nonneg _ (by decide), Int.fmod_eq_emod_of_nonneg _ (by decide), Int.fmod_eq_emod_of_nonneg _ (by decide)]
  rfl
end
section
open PySem PySem.W PySem.Spec PySem.Calls PyProof.Rows
set_option maxRecDepth 100000
set_option maxHeartbeats 1000000
theorem lines_B5_0 : True := by
  k_with_none
  k_with "pyIter bytes" => (k_here; (with_reducible refine stop_here ?_))
  k_with "InvPostN" => (k_here; (with_reducible refine stop_here ?_))
  k_with "subscriptTail Name Slice ref ref" => (k_here; (with_reducible show wpAny _ _ (subscriptTail _ (PySem.Expr.Slice _ _ none _) (Value.ref _) (Value.ref _)) _ _ _); k_dflt (refine' kms_slice_lit ?zF ?zN ?zl ?zp ?zq ?ze ?_ ?zs ?zt ?zz; (case zF => k_asm); (case zN => k_asm); (case zl => exact News.isList (by k_asm) (by k_mem)); (case zp => kmk_part); (case zq => kmk_part); (case ze => with_reducible assumption); (case zs => with_unfolding_all rfl); (case zt => kmk_pure); (case zz => (rw [List.size_toArray, sizeLine_eq]; omega))); intro D' h' F' N' l1; (try k_lt l1); (try k_sweep))
  k_with "call builtin:list.extend" => (k_here; (with_reducible show wpAny _ _ (call (Value.builtin "list.extend") [Value.ref _, Value.ref _]) _ _ _); k_dflt (refine' extend_K2 ?zF ?zN ?zx ?zy ?zl ?zz ?_; (case zF => k_asm); (case zN => k_asm); (case zx => k_ne); (case zy => k_ne); (case zl => assumption); (case zz => (simp only [List.length_cons, List.length_nil]; omega)); k_whole); intro h' n' F' N'; (try k_sweep))
  k_with "call type:bytes" => (k_here; (with_reducible show wpAny _ _ (call (Value.type "bytes") [Value.ref _]) _ _ _); k_dflt (refine' KBa.make_K ?zF ?zN ?zh ?zl ?zi ?zr ?zn ?_; (case zF => k_asm); (case zN => k_asm); (case zh => rfl); (case zl => exact News.isList (by k_asm) (by k_mem)); (case zi => assumption); (case zr => assumption); (case zn => omega); k_whole); intro h' t' k' F' N' _; (try k_sweep))
  trivial
section
variable {w : World} {pv : Program} {loose : List Str} {mean : ExcName → Option Value} {mg mb : Str → Option Value}
    {dp un : Nat} {gd : Option (List Code)} {cn : Str} {cs : Scope} {a : Addr} {ccd : Value} {cl : List (Str × Addr)} {outer : List Env} {A₀ : Around} {base h₀ : Heap} {L : Addr} {m : Str → Option Value} {news : List (Addr × Obj)} {s : Shared}
    {Q E : Value → Shared → Prop}

theorem octets_ok {D : Addr} {vs : List Value} {n : Nat} {ns : List Int} (B : Below A₀ base outer h₀) (F : Fr h₀ L s.heap m) (X : (Kf w.params).In h₀) (N : News h₀ L s.heap ((D, W.listOf (List.toArray vs) n) :: news)) (T : Top pv loose mean mg mb h₀) (hk : cs.kind = .function)
    (hd : dp + 4 < recursionLimit) (hu : un + 32 < cLine) (hi : IntsAre vs ns) (hsz : ns.length ≤ 100) (hsz4 : ns.length % 4 = 0) (hall : ∀ c ∈ ns, 0 ≤ c ∧ c < 64)
    (ret : ∀ t h' tk', Fr h₀ L h' m → News h₀ L h' news → Q (.bytes (byteArr (octets ns)) t) { s with heap := h', toks := tk' }) :
    wpAny (model PySem.Challenge.rw_il0176_01.prog w) (ktrTop dp un gd cn cs L a ccd cl outer) (call (.ref 324) [.ref D]) Q E s := by
  revert X; k_fill; intro X
  have hfd := show fd 57 = _ from by (conv => lhs; whnf)
  refine wpAny_call ?_
  k_dflt (walk_at "ENTER")
  clear hfd
  k_with "pyIter ref" => (with_reducible refine stop_here ?_)
  k_steps
  have hvl := hi.length
  refine iter_rangeJ (OctJ _ D ((D, W.listOf (List.toArray vs) n) :: news) ns) (n := ns.length / 4) rfl (by assumption) (small_of (by decide) (by decide) (by omega)) (range4 hsz4) (by k_asm) (by k_asm) (OctJ.of _ [] 0 (by omega) ((kst_self (kc rfl (kc rfl kn))).symm) rfl .nil rfl) ?_ ?_
  · rintro i t m₁ nx h tk own hlt hoff ⟨u, vr, nr, h4, hio, hvr⟩ F9 N9
    have hne9 := off_head (allLt_cons (by assumption)) hoff
    replace N9 := cons_app' N9
    obtain ⟨a1, a2, a3, a4, t1, t2, t3, t4, r1, r2, e1, e2⟩ := four_of (j := 4 * i) hi (by omega)
    have hm9 : ∀ x ∈ [a1, a2, a3, a4], 0 ≤ x ∧ x < 64 := fun x hx => hall x (List.mem_of_mem_drop (i := 4 * i) (by rw [e2]; simp only [List.mem_cons, List.not_mem_nil, or_false] at hx ⊢; rcases hx with h | h | h | h <;> simp [h]))
    simp only [List.mem_cons, List.not_mem_nil, or_false, forall_eq_or_imp, forall_eq] at hm9
    obtain ⟨hm1, hm2, hm3, hm4⟩ := hm9
    have hp9 : kms_pick (List.toArray vs).toList (some (0 + (i : Int) * 4)) (some (0 + (i : Int) * 4 + 4)) = _ := pick4 (by omega) (by omega) e1
    k_steps
    refine iter_listJ (NumJ _ D a1 a2 a3 a4 _) rfl (List.Mem.head _) (by k_asm) (by k_asm) (NumJ.of _ _ ((kst_self (kc rfl (kc rfl (kc rfl kn)))).symm) rfl) ?_ ?_
    · rintro I j v m₁ nx h tk own2 hv hb hown hadr ⟨u2, tn⟩ F8 N8
      rcases j with _ | _ | _ | _ | j
      · cases hv
        simp only [numAt, Nat.zero_add, Nat.reduceAdd] at F8
        k_steps
        exact inv_same (by k_asm) (by k_asm) hadr (NumJ.of _ _ ((kst_self (kc rfl (kc rfl (kc rfl kn)))).symm) rfl)
      · cases hv
        simp only [numAt, Nat.zero_add, Nat.reduceAdd] at F8
        k_steps
        exact inv_same (by k_asm) (by k_asm) hadr (NumJ.of _ _ ((kst_self (kc rfl (kc rfl (kc rfl kn)))).symm) rfl)
      · cases hv
        simp only [numAt, Nat.zero_add, Nat.reduceAdd] at F8
        k_steps
        exact inv_same (by k_asm) (by k_asm) hadr (NumJ.of _ _ ((kst_self (kc rfl (kc rfl (kc rfl kn)))).symm) rfl)
      · cases hv
        simp only [numAt, Nat.zero_add, Nat.reduceAdd] at F8
        k_steps
        exact inv_same (by k_asm) (by k_asm) hadr (NumJ.of _ _ ((kst_self (kc rfl (kc rfl (kc rfl kn)))).symm) rfl)
      · cases hv
    · rintro m₁ nx h tk hadr ⟨u2, tn⟩ F8 N8
      simp only [numAt, List.length_cons, List.length_nil, Nat.zero_add, Nat.reduceAdd] at F8
      have hvr9 : vr.length ≤ 100 := by omega
      k_steps
      refine inv_end (by k_asm) (by k_asm) (OctJ.of _ (vr ++ [_, _, _]) _ (by omega) ((kst_self (kc rfl (kc rfl kn))).symm) rfl ?_ (by simp only [List.length_append, List.length_cons, List.length_nil]; omega))
      rw [octets_snoc i ns e2, oct4_f]
      exact hio.append (.cons _ _ (.cons _ _ (.cons _ _ .nil)))
  · rintro m₁ nx h tk ⟨u, vr, nr, h4, hio, hvr⟩ F9 N9
    rw [show 4 * (ns.length / 4) = ns.length by omega, List.take_length] at hio
    have hin : KBa.In (octets ns) := octets_in ns hall
    have hol := octets_len ns hsz4
    k_steps
    exact ret _ _ _ (by k_asm) (news_tail (news_tail (by k_asm)))
end
end
section
open PySem PySem.W PySem.Spec PySem.Calls PyProof.Rows
set_option maxRecDepth 100000
set_option maxHeartbeats 4000000
noncomputable def kvsOf : List DictEntry → Option (List (Int × Value))
  | [] => some []
  | e :: r => match e.key with
    | .int k _ => if e.hash = hashInt k then (kvsOf r).map ((k, e.val) :: ·) else none
    | _ => none
theorem pairs_of {prog : Program} {w : World} : ∀ {es : List DictEntry} {kvs : List (Int × Value)}, kvsOf es = some kvs → Pairs (intKind prog w) es kvs ∧ ∀ e ∈ es, ∃ k, (intKind prog w).is k e.key = true ∧ e.hash = (intKind prog w).hash k
  | [], kvs, h => by cases h; exact ⟨.nil, fun _ h => nomatch h⟩
  | e :: r, kvs, h => by
    unfold kvsOf at h
    split at h
    · rename_i k t hk
      split at h
      · rename_i hh
        obtain ⟨kvs', h1, h2⟩ := Option.map_eq_some_iff.mp h
        subst h2
        obtain ⟨p, q⟩ := pairs_of (prog := prog) (w := w) h1
        have hi : (intKind prog w).is k e.key = true := by rw [hk]; show Value.isInt k (.int k t) = true; simp [Value.isInt]
        refine ⟨.cons hi rfl p, fun e' he' => ?_⟩
        rcases List.mem_cons.mp he' with rfl | he'
        · exact ⟨k, hi, hh⟩
        · exact q e' he'
      · cases h
    · cases h
noncomputable def obj300 (P : Params) : Obj := ((Kf P).lookup 300).getD default
noncomputable def es300 (P : Params) : Array DictEntry := match (obj300 P).data with | .dict es _ => es | _ => #[]
noncomputable def kvs300 (P : Params) : List (Int × Value) := (kvsOf (es300 P).toList).getD []
noncomputable def spcL : List Int := [40, 41, 91, 93, 123, 125, 63, 42, 43, 45, 124, 94, 36, 92, 46, 38, 126, 35, 32, 9, 10, 13, 11, 12]
theorem look300 (P : Params) : (Kf P).lookup 300 = some (obj300 P) := by kernel_rfl
noncomputable def n300 (P : Params) : Nat := match (obj300 P).data with | .dict _ n => n | _ => 0
theorem dat300 (P : Params) : (obj300 P).data = .dict (es300 P) (n300 P) := by kernel_rfl
theorem some300 (P : Params) : kvsOf (es300 P).toList = some (kvs300 P) := by kernel_rfl
theorem keys300 (P : Params) : (kvs300 P).map (·.1) = spcL := by kernel_rfl
theorem dot300 (P : Params) : valueAt (kvs300 P) 46 = some (.str (Str.ofString "\\.") 1098) := by kernel_rfl
theorem exact300 (P : Params) : (obj300 P).ExactDict := by
  exact ⟨by kernel_rfl, by kernel_rfl, by kernel_rfl⟩
theorem map300 {prog : Program} {w : World} {P : Params} {h : Heap} (X : (Kf P).In h) : h.MapOf (intKind prog w) 300 (valueAt (kvs300 P)) := by
  obtain ⟨p, q⟩ := pairs_of (prog := prog) (w := w) (some300 P)
  exact Heap.DictOf.mapOf ⟨_, _, _, X _ _ (look300 P), exact300 P, dat300 P, fun e he => q e (by simpa using he), p, by rw [keys300]; decide⟩
theorem miss300 {P : Params} {c : Int} (h : c ∉ spcL) : valueAt (kvs300 P) c = none := valueAt_none_of_not_mem (by rw [keys300]; exact h)
theorem is_int {prog : Program} {w : World} {k : Int} {t : Tok} : (intKind prog w).is k (.int k t) = true := by show Value.isInt k (.int k t) = true; simp [Value.isInt]
theorem sub_lookup : isSubtype (.type "KeyError") (.type "LookupError") = pure true := by rw [isSubtype_type]; kernel_rfl
end
section
open PySem PySem.W PySem.Spec PySem.Calls PyProof.Rows
set_option maxRecDepth 100000
set_option maxHeartbeats 4000000
open Builtin Builtin.Str
section
variable {prog : Program} {w : World} {A : Around} {E : Value → Shared → Prop} {s : Shared} {h₀ : Heap} {L : Addr} {m : PySem.Str → Option Value} {news : List (Addr × Obj)}
theorem table_miss {c : Nat} {Q : Mapped → Shared → Prop} (hh : A.handled = none) (X : (Kf w.params).In s.heap) (hc : (c : Int) ∉ spcL)
    (h : ∀ h' tk, (∀ b o, s.heap.get? b = some o → h'.get? b = some o) → Q .keep { s with heap := h', toks := tk }) : wpAny (model prog w) A (tableLookup (.ref 300) c) Q E s := by
  unfold tableLookup
  refine wpAny_bind (wpAny_attempt ?_)
  refine wpAny_bind (wpAny_mkInt ?_)
  refine wpAny_getItem_missing_of (knd := intKind prog w) (k := (c : Int)) is_int (by decide) hh (map300 X) (miss300 hc) fun h' e hx => ?_
  obtain ⟨ob, tp, he, hcls, hd⟩ := hx.there
  refine wpAny_bind (wpAny_isInstance (T := "KeyError") ⟨ob, he, hcls⟩ sub_lookup ?_)
  rw [if_pos rfl]
  refine wpAny_bind (wpAny_rule ?_)
  exact wpAny_pure (h _ _ hx.keeps)
theorem table_dot {Q : Mapped → Shared → Prop} (X : (Kf w.params).In s.heap)
    (h : ∀ tk, Q (.text (PySem.Str.ofString "\\.")) { s with toks := tk }) : wpAny (model prog w) A (tableLookup (.ref 300) 46) Q E s := by
  unfold tableLookup
  refine wpAny_bind (wpAny_attempt ?_)
  refine wpAny_bind (wpAny_mkInt ?_)
  refine wpAny_getItem_of (knd := intKind prog w) (k := ((46 : Nat) : Int)) is_int (map300 X) (dot300 _) ?_
  dsimp only
  refine wpAny_bind (wpAny_of_eq (a := none) rfl ?_)
  refine wpAny_bind (wpAny_of_eq (a := some (PySem.Str.ofString "\\.")) rfl ?_)
  exact wpAny_pure (h _)
theorem body_keep {c : Nat} {t : Tok} {Q : PySem.Fin → Shared → Prop} (hh : A.handled = none) (X : (Kf w.params).In s.heap) (hc : (c : Int) ∉ spcL) (h128 : c < 128)
    (h : ∀ h' tk t', (∀ b o, s.heap.get? b = some o → h'.get? b = some o) → Q (.done (.ret (.str ⟨#[c]⟩ t'))) { s with heap := h', toks := tk }) :
    wpAny (model prog w) A (Builtin.«str.translate» ⟨[.str ⟨#[c]⟩ t, .ref 300], []⟩) Q E s := by
  unfold Builtin.«str.translate»
  refine wpAny_bind (wpAny_of_eq (a := (Value.str ⟨#[c]⟩ t, (⟨#[c]⟩ : PySem.Str), Value.ref 300)) (by kernel_rfl) ?_)
  dsimp only
  rw [if_neg (by simp [PySem.Str.length])]
  simp only [List.forIn_toArray]
  have hf : (#[c].all fun x => decide (x < 128)) = true := by simp [h128]
  have ht0 : tooLong 0 = false := by unfold tooLong; rw [sizeLine_eq]; rfl
  have ht1 : tooLong 1 = false := by unfold tooLong; rw [sizeLine_eq]; rfl
  rw [List.forIn_cons, hf]
  refine wpAny_bind (wpAny_bind ?_)
  simp only [ht0, Bool.false_eq_true, if_false, if_true, List.lookup_nil]
  refine wpAny_bind (table_miss hh X hc fun h' tk kp => ?_)
  simp only [bind_assoc, pure_bind]
  refine wpAny_pure ?_
  dsimp only
  rw [List.forIn_nil]
  refine wpAny_pure ?_
  dsimp only
  simp only [Nat.zero_add, ht1, Bool.false_eq_true, if_false, List.reverse_cons, List.reverse_nil, List.nil_append, List.foldl_cons, List.foldl_nil]
  have e1 : (#[] ++ #[c] : Array Nat) = #[c] := by simp
  rw [e1]
  exact wpAny_bind (wpAny_mkStr (wpAny_pure (h _ _ _ kp)) (by rw [sizeLine_eq]; show 1 ≤ 16777216; decide))
theorem body_dot {t : Tok} {Q : PySem.Fin → Shared → Prop} (X : (Kf w.params).In s.heap)
    (h : ∀ tk t', Q (.done (.ret (.str (PySem.Str.ofString "\\.") t'))) { s with toks := tk }) :
    wpAny (model prog w) A (Builtin.«str.translate» ⟨[.str ⟨#[46]⟩ t, .ref 300], []⟩) Q E s := by
  unfold Builtin.«str.translate»
  refine wpAny_bind (wpAny_of_eq (a := (Value.str ⟨#[46]⟩ t, (⟨#[46]⟩ : PySem.Str), Value.ref 300)) (by kernel_rfl) ?_)
  dsimp only
  rw [if_neg (by simp [PySem.Str.length])]
  simp only [List.forIn_toArray]
  have hf : (#[46].all fun x => decide (x < 128)) = true := by simp
  have ht0 : tooLong 0 = false := by unfold tooLong; rw [sizeLine_eq]; rfl
  have ht2 : tooLong (PySem.Str.ofString "\\.").length = false := by unfold tooLong; rw [sizeLine_eq]; rfl
  have hl : ((PySem.Str.ofString "\\.").length == 1 && (PySem.Str.ofString "\\.").cps.all fun x => decide (x < 128)) = false := by decide +kernel
  rw [List.forIn_cons, hf]
  refine wpAny_bind (wpAny_bind ?_)
  simp only [ht0, Bool.false_eq_true, if_false, if_true, List.lookup_nil]
  refine wpAny_bind (table_dot X fun tk => ?_)
  simp only [hl, Bool.false_eq_true, if_false, bind_assoc, pure_bind]
  refine wpAny_bind (wpAny_rule ?_)
  refine wpAny_bind (table_dot X fun tk => ?_)
  dsimp only
  refine wpAny_pure ?_
  dsimp only
  rw [List.forIn_nil]
  refine wpAny_pure ?_
  dsimp only
  simp only [Nat.zero_add, ht2, Bool.false_eq_true, if_false, List.reverse_cons, List.reverse_nil, List.nil_append, List.foldl_cons, List.foldl_nil]
  have e1 : (#[] ++ (PySem.Str.ofString "\\.").cps : Array Nat) = (PySem.Str.ofString "\\.").cps := by simp
  rw [e1]
  exact wpAny_bind (wpAny_mkStr (wpAny_pure (h _ _)) (by rw [sizeLine_eq]; decide +kernel))
end
end
section
open PySem PySem.W PySem.Spec PySem.Calls PyProof.Rows
set_option maxRecDepth 100000
set_option maxHeartbeats 4000000
noncomputable def escS (c : Nat) : Str := if c = 46 then Str.ofString "\\." else ⟨#[c]⟩
section
variable {prog : Program} {w : World} {A : Around} {E : Value → Shared → Prop} {s : Shared} {h₀ : Heap} {L : Addr} {m : PySem.Str → Option Value} {news : List (Addr × Obj)}
theorem call_strtr {x : Str} {c : Nat} {t : Tok} {Q : Value → Shared → Prop} (hx : x = ch c) (hh : A.handled = none) (F : Fr h₀ L s.heap m) (N : News h₀ L s.heap news) (X : (Kf w.params).In h₀) (hc : c = 46 ∨ (c : Int) ∉ spcL ∧ c < 128)
    (h : ∀ h' tk t', Fr h₀ L h' m → News h₀ L h' news → Q (.str (escS c) t') { s with heap := h', toks := tk }) :
    wpAny (model prog w) A (call (.builtin "str.translate") [.str x t, .ref 300]) Q E s := by
  subst hx
  have X' := X.keeps F.keep
  refine wpAny_call (codeAny_call_builtin PySem.F.slot_str_translate.plain PySem.F.entry_str_translate (PySem.F.slot_str_translate.check _ _ _ _ _ _ _ _ (typeIs_str _ _ _) (PySem.F.args_str_translate_2 _ _) ?_))
  rcases hc with rfl | ⟨hc, h1⟩
  · exact body_dot X' fun tk t' => h _ _ _ F N
  · refine body_keep (by first | exact hh | simpa using hh) X' hc h1 fun h' tk t' kp => ?_
    have := h h' tk t' ⟨F.ns.keeps kp, fun b o e => kp b o (F.keep b o e), F.above⟩ fun p hp => ⟨kp _ _ (N p hp).1, (N p hp).2⟩
    rw [escS, if_neg (fun e => hc (by subst e; decide))] at this
    exact this
theorem method_strtr {M : Model} {x : PySem.Str} {t : Tok} {pl : Sem Bool} {Q : Value × List Value → Shared → Prop} (h : Q (.builtin "str.translate", [.str x t]) s) : wpAny M A (getMethod (.str x t) "translate" pl) Q E s := by
  with_reducible exact getMethod_builtin (T := "str") (typeIs_str _ _ _) PySem.F.plainAttrs_str PySem.F.slot_str_translate PySem.F.type_str_translate (fun _ e => nomatch e) h
end
end
section
open PySem PySem.W PySem.Spec PySem.Calls PyProof.Rows
set_option maxRecDepth 100000
set_option maxHeartbeats 1000000
theorem lines_E2_0 : True := by
  k_with_none
  k_with "getMethod str" => (k_here; (with_reducible show wpAny _ _ (getMethod (Value.str _ _) (PySem.Str.ofString "translate") _) _ _ _); refine method_strtr ?_)
  k_with "call builtin:str.translate" => (k_here; k_dflt (refine' call_strtr ?zx ?zh ?zF ?zN ?zX ?zc ?_; (case zx => with_reducible assumption); (case zh => rfl); (case zF => k_asm); (case zN => k_asm); (case zX => k_asm); (case zc => assumption); k_whole); intro h' tk' t' F' N'; (try k_sweep))
  trivial
section
variable {w : World} {pv : Program} {loose : List Str} {mean : ExcName → Option Value} {mg mb : Str → Option Value}
    {dp un : Nat} {gd : Option (List Code)} {cn : Str} {cs : Scope} {a : Addr} {ccd : Value} {cl : List (Str × Addr)} {outer : List Env} {A₀ : Around} {base h₀ : Heap} {L : Addr} {m : Str → Option Value} {news : List (Addr × Obj)} {s : Shared}
    {Q E : Value → Shared → Prop}

theorem escape_ok {x : Str} {c : Nat} {tx : Tok} (B : Below A₀ base outer h₀) (F : Fr h₀ L s.heap m) (X : (Kf w.params).In h₀) (N : News h₀ L s.heap news) (T : Top pv loose mean mg mb h₀) (hk : cs.kind = .function)
    (hd : dp + 1 < recursionLimit) (hu : un + 8 < cLine) (hx : x = ch c) (hc : c = 46 ∨ (c : Int) ∉ spcL ∧ c < 128)
    (ret : ∀ t h' tk', Fr h₀ L h' m → News h₀ L h' news → Q (.str (escS c) t) { s with heap := h', toks := tk' }) :
    wpAny (model PySem.Challenge.rw_il0176_01.prog w) (ktrTop dp un gd cn cs L a ccd cl outer) (call (.ref 310) [.str x tx]) Q E s := by
  revert X; k_fill; intro X
  have hfd := show fd 53 = _ from by (conv => lhs; whnf)
  refine wpAny_call ?_
  k_dflt (walk_at "ENTER")
  clear hfd
  k_steps
  exact ret _ _ _ (by k_asm) (by k_asm)
end
end
section
open PySem PySem.W PySem.Spec PySem.Calls PyProof.Rows
set_option maxRecDepth 100000
set_option maxHeartbeats 4000000
open PySem.Sre Builtin.Re
noncomputable def rxCode : Array Nat := #[14, 14, 4, 1, 1, 9, 0, 64, 0, 1342177280, 0, 0, 0, 0, 0, 17, 0, 13, 11, 9, 0, 64, 0, 1342177280, 0, 0, 0, 0, 0, 17, 1, 1]
noncomputable def rxOk (c : Nat) : Prop := c < 128 ∧ c ≠ 38 ∧ c ≠ 124 ∧ c ≠ 126
theorem bits_no : ∀ c : Fin 128, c.val ≠ 38 → c.val ≠ 124 → c.val ≠ 126 → (rxCode.getD (5 + (1 + c.val / 32)) 0).testBit (c.val % 32) = false := by decide +kernel
theorem inset_no {c : Nat} (h : rxOk c) (seen : Sre.Seen) : inSet rxCode c rxCode.size 5 true seen = .ok (false, (seen.add 9).add 0) := by
  have hb := bits_no ⟨c, h.1⟩ h.2.1 h.2.2.1 h.2.2.2
  show inSet rxCode c (30 + 1 + 1) 5 true seen = _
  rw [inSet]
  have e5 : rxCode.getD (5 + 0) 0 = 9 := rfl
  simp only [e5, show ops[9]? = some .CHARSET from rfl, hb, Bool.and_false, Bool.false_eq_true, if_false]
  rw [inSet]
  have e14 : rxCode.getD (5 + 9 + 0) 0 = 0 := rfl
  simp only [e14, show ops[0]? = some .FAILURE from rfl, Bool.not_true]
theorem admitted_no {m : M} (hc : m.code = rxCode) (ht : ∀ c ∈ m.text.toList, rxOk c) (hl : m.lim = m.text.size) : ∀ (fuel s : Nat) (seen : Sre.Seen), ∃ seen', M.admitted m fuel s seen = .ok (none, seen')
  | 0, s, seen => ⟨seen, rfl⟩
  | fuel + 1, s, seen => by
    unfold M.admitted
    by_cases hs : s ≥ m.lim
    · exact ⟨seen, by rw [if_pos hs]⟩
    · rw [if_neg hs]
      have hlt : s < m.text.size := by omega
      have hm : rxOk (m.text.getD s 0) := by
        rw [Array.getD_eq_getD_getElem?, Array.getElem?_eq_getElem hlt]
        exact ht _ (by simp)
      rw [hc, inset_no hm]
      exact admitted_no hc ht hl fuel (s + 1) _
noncomputable def rxM (text : Array Nat) : M := { code := rxCode, text, lim := text.size, start := 0, lastStart := text.size, pc := 15, pos := 0, handed := 0, marks := Array.replicate 2 none, mustAdvance := false, seen := ({} : Sre.Seen).add 14 }
theorem search_start (text : Array Nat) : forSearch rxCode text 1 0 text.size false = if (decide (0 > text.size) || decide (text.size - 0 < 1)) = true then ({ rxM text with lastStart := 0 } : M).say false else (rxM text).attemptFrom 0 true := by rfl
/-- the machine at its start: no sign is admitted -/
theorem search_no {text : Array Nat} (ht : ∀ c ∈ text.toList, rxOk c) (h0 : 1 ≤ text.size) : ∃ m : M, forSearch rxCode text 1 0 text.size false = m.say false ∧ m.outcome = none ∧ m.frames = [] := by
  obtain ⟨seen', hs⟩ := admitted_no (m := rxM text) rfl ht rfl (text.size + 1 - 0) 0 (rxM text).seen
  refine ⟨{ rxM text with seen := seen' }, ?_, rfl, rfl⟩
  rw [search_start, if_neg (by rw [Bool.or_eq_true, decide_eq_true_eq, decide_eq_true_eq]; omega)]
  unfold M.attemptFrom
  rw [if_neg (by rw [show (rxM text).hasFirstSet = true from rfl]; decide)]
  rw [show (rxM text).lim + 1 - 0 = text.size + 1 - 0 from rfl, hs]
theorem run_no {m : M} (ho : m.outcome = none) (hf : m.frames = []) : ∃ m', (m.say false).runFor 4 = m' ∧ m'.outcome = some .failed := by
  cases m
  simp only at ho hf
  subst ho hf
  exact ⟨_, rfl, rfl⟩
section
variable {M' : Model} {A : Around} {E : Value → Shared → Prop} {s : Shared}
theorem rules_loop {b : Nat → Bool} {f : Nat → String} {Q : PUnit → Shared → Prop} (h : Q ⟨⟩ s) : ∀ l : List Nat, wpAny M' A (forIn l PUnit.unit fun i r => if b i = true then (rule (f i) >>= fun _ => pure (ForInStep.yield PUnit.unit)) else pure (ForInStep.yield PUnit.unit)) Q E s
  | [] => wpAny_pure h
  | i :: l => by
    rw [List.forIn_cons]
    refine wpAny_bind ?_
    split
    · exact wpAny_bind (wpAny_rule (wpAny_pure (rules_loop h l)))
    · exact wpAny_pure (rules_loop h l)
theorem toEnd_no {m : M} {Q : Option M → Shared → Prop} (ho : m.outcome = none) (hf : m.frames = []) (h : Q none s) : wpAny M' A (reRunToEnd (m.say false)) Q E s := by
  obtain ⟨m', h1, h2⟩ := run_no ho hf
  unfold reRunToEnd
  have hd : reDrive (2 ^ 64) (m.say false) = pure m' := by
    show reDrive (18446744073709551615 + 1) (m.say false) = pure m'
    rw [reDrive, show reTurnSteps = 4 from rfl, h1]
    rw [if_pos (by rw [h2]; rfl)]
  rw [hd]
  refine wpAny_bind (wpAny_pure ?_)
  refine wpAny_bind (rules_loop ?_ _)
  rw [h2]
  exact wpAny_pure h
end
noncomputable def obj298 (P : Params) : Obj := ((Kf P).lookup 298).getD default
noncomputable def obj297 (P : Params) : Obj := ((Kf P).lookup 297).getD default
noncomputable def fs298 (P : Params) : Array Value := match (obj298 P).data with | .fields vs => vs | _ => #[]
noncomputable def its297 (P : Params) : Array Value := match (obj297 P).data with | .seq vs _ => vs | _ => #[]
theorem look298 (P : Params) : (Kf P).lookup 298 = some (obj298 P) := by kernel_rfl
theorem look297 (P : Params) : (Kf P).lookup 297 = some (obj297 P) := by kernel_rfl
theorem dat298 (P : Params) : (obj298 P).data = .fields (fs298 P) := by kernel_rfl
theorem cls298 (P : Params) : (obj298 P).cls = .type "re.Pattern" := by kernel_rfl
theorem f5 (P : Params) : (fs298 P).getD 5 .none = .ref 297 := by kernel_rfl
theorem f6 (P : Params) : reRawNat ((fs298 P).getD 6 .none) = 0 := by kernel_rfl
theorem f2 (P : Params) : reRawNat ((fs298 P).getD 2 .none) = 1 := by kernel_rfl
theorem code297 (P : Params) : (its297 P).map (fun v => (reRawOf v).toNat) = rxCode := by kernel_rfl
theorem dat297 (P : Params) : ∃ n, (obj297 P).data = .seq (its297 P) n := by
  refine ⟨(match (obj297 P).data with | .seq _ n => n | _ => 0), ?_⟩
  kernel_rfl
theorem cls297 (P : Params) : (obj297 P).cls = .type "tuple" := by kernel_rfl
section
variable {M' : Model} {A : Around} {E : Value → Shared → Prop} {s : Shared} {w : World}
theorem whole_ok {x : PySem.Str} {t : Tok} {Q : ReTarget → Shared → Prop} (X : (Kf w.params).In s.heap)
    (h : Q { pattern := .ref 298, string := .str x t, code := rxCode, text := x.cps, kind := 0, groups := 1, pos := 0, lim := x.cps.size } s) : wpAny M' A (reWholeTarget (.ref 298) (.str x t)) Q E s := by
  unfold reWholeTarget
  refine wpAny_bind (wpAny_fieldsOf (X _ _ (look298 w.params)) (dat298 w.params) ?_)
  refine wpAny_bind (wpAny_of_eq (a := (x.cps, 0)) rfl ?_)
  dsimp only
  rw [f6, f5, f2]
  rw [if_neg (by decide), if_neg (by decide)]
  refine wpAny_bind (wpAny_of_eq (a := ()) rfl ?_)
  obtain ⟨n, hn⟩ := dat297 w.params
  unfold reRawItems
  refine wpAny_bind (wpAny_bind (wpAny_seqItems (X _ _ (look297 w.params)) hn (wpAny_pure ?_)))
  refine wpAny_pure ?_
  simp only [Option.getD_some, Array.map_map]
  have e := code297 w.params
  rw [show ((fun x : Int => x.toNat) ∘ reRawOf) = fun v => (reRawOf v).toNat from rfl, e]
  exact h
theorem next_no {t : ReTarget} {Q : Option M → Shared → Prop} (hc : t.code = rxCode) (hg : t.groups = 1) (hl : t.lim = t.text.size) (ht : ∀ c ∈ t.text.toList, rxOk c) (h0 : 1 ≤ t.text.size) (h : Q none s) : wpAny M' A (reNextFound t 0 false) Q E s := by
  unfold reNextFound
  rw [hc, hg, hl]
  obtain ⟨m, e, ho, hf⟩ := search_no ht h0
  rw [e]
  exact toEnd_no ho hf h
end
end
section
open PySem PySem.W PySem.Spec PySem.Calls PyProof.Rows
set_option maxRecDepth 100000
set_option maxHeartbeats 4000000
open PySem.Sre Builtin.Re
theorem entry_subloop : entryFor table "re.Pattern.sub.loop" = some Builtin.«re.Pattern.sub.loop» := entryFor_of_tree (by kernel_rfl)
theorem entry_sub : entryFor table "re.Pattern.sub" = some Builtin.«re.Pattern.sub» := entryFor_of_tree (by kernel_rfl)
section
variable {prog : Program} {w : World} {A : Around} {E : Value → Shared → Prop} {s : Shared}
theorem loop_no {x : PySem.Str} {t : Tok} {repl : Value} {pc : Addr} {R : Result → Shared → Prop} (X : (Kf w.params).In s.heap) (hx : ∀ c ∈ x.cps.toList, rxOk c) (h0 : 1 ≤ x.cps.size) (hsz : x.cps.size ≤ 1000)
    (hp : s.heap.get? pc = some { cls := .type "list", data := .seq #[] 0 })
    (hR : ∀ h' tk t', (∀ b o, b ≠ pc → s.heap.get? b = some o → h'.get? b = some o) → R (.ok (.ret (.str x t'))) { s with heap := h', toks := tk }) :
    codeAny (model prog w) A (.builtin "re.Pattern.sub.loop" ⟨[.ref 298, .str x t, repl, rawInt 1, rawInt 0, rawInt 0, rawInt 0, rawInt 0, .bool false, .ref pc, .bool false], []⟩) R s := by
  refine codeAny_builtin entry_subloop ?_
  unfold Builtin.«re.Pattern.sub.loop» rawInt
  dsimp only
  refine wpAny_bind (whole_ok X ?_)
  rw [if_neg (by decide)]
  rw [if_neg (by decide)]
  refine wpAny_bind (next_no rfl rfl rfl hx h0 ?_)
  dsimp only
  rw [if_pos (by rw [Int.toNat_zero]; exact h0)]
  have e1 : (⟨x.cps.extract (Int.toNat 0) x.cps.size⟩ : PySem.Str) = x := by
    rw [Int.toNat_zero, Array.extract_size]
  have e2 : (⟨x.cps.extract 0 0⟩ : PySem.Str) = Str.empty := by
    rw [Array.extract_zero]; rfl
  refine wpAny_bind ?_
  unfold reSlice
  simp only [beq_self_eq_true, if_true]
  rw [e1]
  refine wpAny_mkStr ?_ (by rw [sizeLine_eq]; show x.cps.size ≤ _; omega)
  refine wpAny_bind (wpAny_updateSeq hp rfl ?_ (hz := by rw [sizeLine_eq]; decide) (_hz' := by rw [sizeLine_eq]; show (1 : Nat) ≤ _; decide))
  rw [e2]
  refine wpAny_bind (wpAny_mkStr ?_ (by rw [sizeLine_eq]; decide))
  have hp' : (s.heap.update pc (Obj.mapSeq fun a => a.push (Value.str x s.toks))).get? pc = some (Obj.mapSeq (fun a => a.push (Value.str x s.toks)) { cls := .type "list", data := .seq #[] 0 }) := Heap.get?_update_self _ hp rfl
  refine wpAny_bind (wpAny_seqItems hp' rfl ?_)
  rw [if_neg (by simp)]
  refine wpAny_bind (call_meets PySem.F.slot_str_join (typeIs_str _ _ _) PySem.F.entry_str_join (PySem.F.args_str_join_2 _ _) (meets_str_join_list Str.empty _ pc [(x, s.toks)] ?_) ⟨⟨_, hp', rfl, _, rfl⟩, ?_⟩)
  · unfold Builtin.Str.tooLong
    have : (([(x, s.toks)] : List (PySem.Str × Tok)).map (·.1)).toArray.foldl (· + ·.length + Str.empty.length) 0 = x.cps.size := by
      show 0 + x.length + Str.empty.length = x.cps.size
      rw [Nat.zero_add]; rfl
    rw [this]
    exact decide_eq_false (by rw [sizeLine_eq]; omega)
  · show wpAny _ _ (ret (Value.str x s.toks)) _ _ _
    refine wpAny_pure ?_
    exact hR _ _ _ fun b o hb hbo => (Heap.get?_update_other _ _ (Ne.symm hb)).trans hbo
theorem named_eq {f x : Value} : reNamed "re.Pattern.sub" "sub" ["repl", "string", "count"] 2 [f, x] [] = pure [some f, some x, none] := by kernel_rfl
theorem look_call : typeLookup (.type "function") "__call__" = pure (some (.builtin "function.__call__")) := by rw [typeLookup_type, builtinLookup_eq_fast]; kernel_rfl
theorem held_eq {x : PySem.Str} {t : Tok} : reNotHeld "re.Pattern.sub" (.str x t) = pure () := by kernel_rfl
theorem sub_no {A1 : Around} {x : PySem.Str} {t : Tok} {f : Addr} {o : Obj} {R : Result → Shared → Prop} (X : (Kf w.params).In s.heap) (hx : ∀ c ∈ x.cps.toList, rxOk c) (h0 : 1 ≤ x.cps.size) (hsz : x.cps.size ≤ 1000)
    (hf : s.heap.get? f = some o) (ho : o.cls = .type "function")
    (hR : ∀ h' tk t', (∀ b o, s.heap.get? b = some o → h'.get? b = some o) → R (.ok (.ret (.str x t'))) { s with heap := h', toks := tk }) :
    wpAny (model prog w) A1 (Builtin.«re.Pattern.sub» ⟨[.ref 298, .ref f, .str x t], []⟩) (fun fin s' => match fin with | .done fl => R (.ok fl) s' | .again c' => c'.quiet = true ∧ codeAny (model prog w) A c' R s') (fun e s' => R (.error e) s') s := by
  unfold Builtin.«re.Pattern.sub» reSubstitute
  dsimp only
  refine wpAny_bind (wpAny_of_eq named_eq ?_)
  dsimp only
  refine wpAny_bind (wpAny_pure ?_)
  refine wpAny_bind (wpAny_specialOf (T := "function") ⟨o, hf, ho⟩ look_call ?_)
  have hs : (some (Value.builtin "function.__call__")).isSome = true := rfl
  rw [if_pos hs]
  refine wpAny_bind (wpAny_pure ?_)
  rw [if_pos hs]
  refine wpAny_bind (wpAny_pure ?_)
  refine wpAny_bind (wpAny_holding (whole_ok X ?_))
  dsimp only
  rw [if_pos (show ((1 : Int) == 1) = true from rfl)]
  refine wpAny_bind (wpAny_of_eq (a := ()) held_eq ?_)
  refine wpAny_bind (wpAny_newList ?_ (hsz := Nat.zero_le _))
  refine wpAny_pure ⟨Code.quiet_builtin _ (by decide +kernel), ?_⟩
  have kp : ∀ b ob, s.heap.get? b = some ob → (s.heap.push { cls := .type "list", data := .seq #[] 0 }).get? b = some ob := fun b ob q => Heap.get?_push_of_some _ q
  refine loop_no (X.keeps kp) hx h0 hsz (Heap.get?_push_size _ rfl) fun h' tk t' k' => hR h' tk t' fun b ob q => k' b ob ?_ (kp b ob q)
  exact Nat.ne_of_lt (Heap.lt_size q)
end
end
section
open PySem PySem.W PySem.Spec PySem.Calls PyProof.Rows
set_option maxRecDepth 100000
set_option maxHeartbeats 4000000
theorem plain_pattern : PlainAttrs "re.Pattern" :=
  ⟨⟨"object.__getattribute__", by rw [typeLookup_type, builtinLookup_eq_fast]; kernel_rfl, by decide +kernel⟩, by rw [typeLookup_type, builtinLookup_eq_fast]; kernel_rfl⟩
theorem slot_sub : Slot "re.Pattern" "sub" "re.Pattern.sub" :=
  .of (owner := "re.Pattern") (n := "sub") (by rw [typeLookup_type, builtinLookup_eq_fast]; kernel_rfl) (by decide +kernel) (by decide +kernel) (by decide +kernel)
    (by first | exact .inl (by decide +kernel) | exact .inr (by decide +kernel)) (by rw [isSubtype_type]; kernel_rfl)
theorem type_sub : typeOf (.builtin "re.Pattern.sub") = pure (.type "method_descriptor") := by show builtinType _ = _; rw [builtinType_eq_fast]; kernel_rfl
theorem args_sub (a b c : Value) : argsOk "re.Pattern.sub" ⟨[a, b, c], []⟩ := by
  unfold argsOk; kernel_rfl
theorem dict298 (P : Params) : (obj298 P).dict = none := by kernel_rfl
section
variable {prog : Program} {w : World} {A : Around} {E : Value → Shared → Prop} {s : Shared} {h₀ : Heap} {L : Addr} {m : PySem.Str → Option Value} {news : List (Addr × Obj)}
theorem method_sub {M : Model} {pl : Sem Bool} {Q : Value × List Value → Shared → Prop} (F : Fr h₀ L s.heap m) (X : (Kf w.params).In h₀) (h : Q (.builtin "re.Pattern.sub", [.ref 298]) s) : wpAny M A (getMethod (.ref 298) "sub" pl) Q E s := by
  have ho := (X.keeps F.keep) _ _ (look298 w.params)
  exact getMethod_builtin (T := "re.Pattern") ⟨_, ho, cls298 _⟩ plain_pattern slot_sub type_sub (fun b e => by injection e with e; subst e; exact ⟨_, ho, dict298 _⟩) h
theorem call_resub {x : PySem.Str} {t : Tok} {f : Addr} {o : Obj} {Q : Value → Shared → Prop} (F : Fr h₀ L s.heap m) (N : News h₀ L s.heap news) (X : (Kf w.params).In h₀) (hm : (f, o) ∈ news) (ho : o.cls = .type "function") (hx : ∀ c ∈ x.cps.toList, rxOk c) (h0 : 1 ≤ x.cps.size) (hsz : x.cps.size ≤ 1000)
    (h : ∀ h' tk t', Fr h₀ L h' m → News h₀ L h' news → Q (.str x t') { s with heap := h', toks := tk }) : wpAny (model prog w) A (call (.builtin "re.Pattern.sub") [.ref 298, .ref f, .str x t]) Q E s := by
  have X' := X.keeps F.keep
  refine wpAny_call (codeAny_call_builtin slot_sub.plain entry_sub (slot_sub.check _ _ _ _ _ _ _ _ ⟨_, X' _ _ (look298 w.params), cls298 _⟩ (args_sub _ _ _) ?_))
  refine sub_no (A := A) (f := f) (t := t) (R := fun r s' => match r with | .ok (.ret v) => Q v s' | .ok _ => False | .error e => E e s') X' hx h0 hsz (N (f, o) hm).1 ho fun h' tk t' kp => ?_
  exact h h' tk t' ⟨F.ns.keeps kp, fun b o e => kp b o (F.keep b o e), F.above⟩ fun p hp => ⟨kp _ _ (N p hp).1, (N p hp).2⟩
end
end
section
open PySem PySem.W PySem.Spec PySem.Calls PyProof.Rows
set_option maxRecDepth 100000
set_option maxHeartbeats 1000000
theorem look_append : typeLookup (.type "list") (Str.ofString "append") = pure (some (.builtin "list.append")) := by rw [typeLookup_type, builtinLookup_eq_fast]; kernel_rfl
theorem look_mdget : typeLookup (.type "method_descriptor") (Str.ofString "__get__") = pure (some (.builtin "method_descriptor.__get__")) := by rw [typeLookup_type, builtinLookup_eq_fast]; kernel_rfl
theorem look_mdset : typeLookup (.type "method_descriptor") (Str.ofString "__set__") = pure none := by rw [typeLookup_type, builtinLookup_eq_fast]; kernel_rfl
theorem look_mddel : typeLookup (.type "method_descriptor") (Str.ofString "__delete__") = pure none := by rw [typeLookup_type, builtinLookup_eq_fast]; kernel_rfl
theorem type_append : typeOf (.builtin "list.append") = pure (.type "method_descriptor") := by show builtinType _ = _; rw [builtinType_eq_fast]; kernel_rfl
theorem slot_mdget : Slot "method_descriptor" "__get__" "method_descriptor.__get__" :=
  .of (owner := "method_descriptor") (n := "__get__") (by rw [typeLookup_type, builtinLookup_eq_fast]; kernel_rfl) (by decide +kernel) (by decide +kernel) (by decide +kernel)
    (by first | exact .inl (by decide +kernel) | exact .inr (by decide +kernel)) (by rw [isSubtype_type]; kernel_rfl)
theorem entry_mdget : entryFor table "method_descriptor.__get__" = some Builtin.«method_descriptor.__get__» := entryFor_of_tree (by kernel_rfl)
theorem args_mdget (a b c : Value) : argsOk "method_descriptor.__get__" ⟨[a, b, c], []⟩ := by unfold argsOk; kernel_rfl
abbrev bmObj (a : Addr) : Obj := { cls := .type "builtin_function_or_method", data := .fields #[.builtin "list.append", .ref a] }
section
variable {prog : Program} {w : World} {A : Around} {E : Value → Shared → Prop} {s : Shared}
theorem run_mdget {A : Around} {a : Addr} {xs : Array Value} {k : Nat} {Q : PySem.Fin → Shared → Prop} (hx : s.heap.get? a = some { cls := .type "list", data := .seq xs k })
    (h : Q (.done (.ret (.ref s.heap.objs.size))) { s with heap := s.heap.push (bmObj a) }) : wpAny (model prog w) A (Builtin.«method_descriptor.__get__» ⟨[.builtin "list.append", .ref a, .type "list"], []⟩) Q E s := by
  obtain ⟨hp, g, d, tk, os⟩ := s
  have hT : (⟨hp, g, d, tk, os⟩ : Shared).TypeIs (.ref a) "list" := ⟨_, hx, rfl⟩
  unfold Builtin.«method_descriptor.__get__»
  refine wpAny_bind (wpAny_of_eq (a := (.builtin "list.append", some (.ref a), some (.type "list"))) (by first | rfl | kernel_rfl) ?_)
  dsimp only
  rw [if_neg (by decide +kernel)]
  refine wpAny_bind ?_
  refine wpAny_bind (wpAny_of_eq (a := (Str.ofString "append", Value.type "list")) (by kernel_rfl) ?_)
  refine wpAny_bind (wpAny_isInstance hT PySem.F.sub_list_list ?_)
  refine KFB.if_not rfl ?_
  refine wpAny_pure ?_
  exact wpAny_bind (wpAny_newObj_type (wpAny_pure h))
theorem body_append {a : Addr} {xs : Array Value} {k : Nat} {u : Tok} {Q : PySem.Fin → Shared → Prop} (hx : s.heap.get? a = some { cls := .type "list", data := .seq xs k })
    (h : Q (.done (.ret (.ref s.heap.objs.size))) { s with heap := s.heap.push (bmObj a) }) : wpAny (model prog w) A (Builtin.«object.__getattribute__» ⟨[.ref a, .str (Str.ofString "append") u], []⟩) Q E s := by
  obtain ⟨hp, g, d, tk, os⟩ := s
  have hT : (⟨hp, g, d, tk, os⟩ : Shared).TypeIs (.ref a) "list" := ⟨_, hx, rfl⟩
  have f1 := look_append
  have f2 := look_mdget
  have f3 := type_append
  have f4 := look_mdset
  have f5 := look_mddel
  unfold Builtin.«object.__getattribute__»
  repeat (any_goals (first | assumption | wp_step))
  refine codeAny_call_builtin slot_mdget.plain entry_mdget (slot_mdget.check _ _ _ _ _ _ _ _ f3 (args_mdget _ _ _) ?_)
  exact run_mdget hx (wpAny_pure h)
theorem getAttr_append {a : Addr} {xs : Array Value} {k : Nat} {Q : Value → Shared → Prop} (hx : s.heap.get? a = some { cls := .type "list", data := .seq xs k })
    (h : ∀ tk, Q (.ref s.heap.objs.size) { s with heap := s.heap.push (bmObj a), toks := tk }) : wpAny (model prog w) A (getAttr (.ref a) (Str.ofString "append") true) Q E s := by
  obtain ⟨hp, g, d, tk, os⟩ := s
  have hT : ∀ tk', (⟨hp, g, d, tk', os⟩ : Shared).TypeIs (.ref a) "list" := fun _ => ⟨_, hx, rfl⟩
  have f3 := F.slot_list_getattribute.lookup
  have f4 := F.slot_list_getattribute.bind (.ref a)
  have f5 := am_list_getattr_none
  unfold getAttr getAttrBy
  repeat (any_goals (first | assumption | exact hT _ | wp_step))
  refine codeAny_call_builtin PySem.F.slot_list_getattribute.plain am_entry_list_getattribute (PySem.F.slot_list_getattribute.check _ _ _ _ _ _ _ _ (hT _) (PySem.F.args_list_getattribute_2 _ _) ?_)
  refine body_append (s := ⟨hp, g, d, tk + 1, os⟩) hx ?_
  exact wpAny_pure (h _)
end
end
section
open PySem PySem.W PySem.Spec PySem.Calls PyProof.Rows
set_option maxRecDepth 100000
set_option maxHeartbeats 1000000
theorem sub_list_module : isSubtype (.type "list") (.type "module") = pure false := by rw [isSubtype_type]; kernel_rfl
theorem sub_list_type : isSubtype (.type "list") (.type "type") = pure false := by rw [isSubtype_type]; kernel_rfl
section
variable {prog : Program} {w : World} {M : Model} {A : Around} {E : Value → Shared → Prop} {s : Shared} {h₀ : Heap} {L : Addr} {m : PySem.Str → Option Value} {news : List (Addr × Obj)}
theorem check_bm {a : Addr} {xs : Array Value} {k : Nat} {v : Value} {Q : Unit → Shared → Prop} (hx : s.heap.get? a = some { cls := .type "list", data := .seq xs k }) (h : Q () s) : wpAny M A (checkBoundCall "list.append" ⟨[.ref a, v], []⟩) Q E s := by
  obtain ⟨hp, g, d, tk, os⟩ := s
  have hT : (⟨hp, g, d, tk, os⟩ : Shared).TypeIs (.ref a) "list" := ⟨_, hx, rfl⟩
  have f1 := sub_list_module
  have f2 := sub_list_type
  unfold checkBoundCall
  repeat (any_goals (first | assumption | wp_step))
theorem quiet_append {as : Args} : (Code.builtin "list.append" as).quiet = true := Code.quiet_builtin _ (by decide +kernel)
noncomputable def StandsBm (x a : Addr) (h : Heap) : Prop := h.get? x = some (bmObj a)
theorem callWith_fields_bm {pos : Pos} {u a : Addr} {first : List Value} {args : List (Bool × Sem Value)} {Q : Value → Shared → Prop} (hplain : args.any (·.1) = false)
    (h : wpAny M A (evalArgs (.ref u) true args []) (fun x s₁ => StandsBm u a s₁.heap ∧ wpAny M A (call (.ref u) (first ++ x.pos) x.kw) Q E s₁) E s) : wpAny M A (callWith pos (.ref u) first args []) Q E s := by
  unfold callWith
  refine wpAny_bind (wpAny_holding (wpAny_mono h (fun x s₁ h₁ => wpAny_bind (wpAny_standAt ?_)) fun _ _ x => x))
  obtain ⟨ho, hcall⟩ := h₁
  simp only [hplain, List.any_nil, Bool.or_false]
  refine wpAny_bind (m := keeperOf (.ref u)) ?_
  unfold keeperOf
  refine wpAny_bind (wpAny_load ho ?_)
  simp only [show (Value.type "builtin_function_or_method" != Value.type "method") = true by decide, show (Value.type "builtin_function_or_method" == Value.type "builtin_function_or_method" || Value.type "builtin_function_or_method" == Value.type "method-wrapper") = true by decide, if_true]
  refine wpAny_pure ?_
  exact wpAny_bind (wpAny_mono hcall (fun r s₂ hr => wpAny_bind (wpAny_holding (wpAny_point (wpAny_pure hr)))) fun _ _ x => x)
theorem callWith_bm {pos : Pos} {u a : Addr} {first : List Value} {env : Env} {e : Expr} {rest : List Expr} {Q : Value → Shared → Prop} (_N : News h₀ L s.heap news) (_hm : (u, bmObj a) ∈ news)
    (h : wpAny M A (spliced (backTo pos (starEach (e :: rest) env))) (fun vs s₁ => StandsBm u a s₁.heap ∧ wpAny M A (call (.ref u) (first ++ vs)) Q E s₁) E s)
    (he : starEach (e :: rest) env = (false, eval e env) :: starEach rest env := by rfl) (hplain : (backTo pos (starEach rest env)).any (·.1) = false := by rfl) :
    wpAny M A (callWith pos (.ref u) first (backTo pos (starEach (e :: rest) env)) []) Q E s := by
  rw [he] at h ⊢
  refine callWith_fields_bm (a := a) (by show (false || (backTo pos (starEach rest env)).any (·.1)) = false; rw [hplain]; rfl) ?_
  exact evalArgs_plain h
theorem stands_bm {x a : Addr} {h : Heap} (N : News h₀ L h news) (hm : (x, bmObj a) ∈ news) : StandsBm x a h := (N _ hm).1
theorem call_bm {x o : Addr} {l : List (Addr × Obj)} {vs : List Value} {n : Nat} {v : Value} {Q : Value → Shared → Prop} (F : Fr h₀ L s.heap m) (N : News h₀ L s.heap ((o, W.listOf (List.toArray vs) n) :: l)) (hm : (x, bmObj o) ∈ l) (hne : ∀ p ∈ l, p.1 ≠ o) (hsz : vs.length ≤ 1000)
    (h : ∀ h', Fr h₀ L h' m → News h₀ L h' ((o, W.listOf (List.toArray (vs ++ [v])) (n + 1)) :: l) → Q .none { s with heap := h' }) : wpAny (model prog w) A (call (.ref x) [v]) Q E s := by
  have ho : s.heap.get? x = some (bmObj o) := (N _ (.tail _ hm)).1
  have hl : s.heap.get? o = some { cls := .type "list", data := .seq (List.toArray vs) n } := (N _ (.head _)).1
  refine wpAny_call (codeAny_of_tree ?_)
  show wpAny _ A.in1 (callAny (.ref x) ⟨[v], []⟩) _ _ s
  simp only [callAny]
  refine wpAny_bind (wpAny_load ho ?_)
  simp only [bmObj, show (Value.type "builtin_function_or_method" == Value.type "method" || Value.type "builtin_function_or_method" == Value.type "builtin_function_or_method" || Value.type "builtin_function_or_method" == Value.type "method-wrapper") = true by decide, if_true]
  refine KFB.if_so (by decide) ?_
  refine wpAny_bind (check_bm hl ?_)
  refine wpAny_bind (wpAny_pure (wpAny_pure ?_))
  refine ⟨quiet_append, codeAny_builtin entry_list_append ?_⟩
  have e : (List.toArray vs).push v = List.toArray (vs ++ [v]) := by simp
  have hz : (List.toArray vs).size ≤ sizeLine := by rw [List.size_toArray, sizeLine_eq]; omega
  show wpAny _ _ (updateSeq o (·.push v) >>= fun _ => ret .none) _ _ s
  refine wpAny_bind (wpAny_updateSeq hl rfl ?_ (hz := hz) (_hz' := by rw [Array.size_push]; omega))
  refine wpAny_pure ?_
  have ho' : (s.heap.update o (Obj.mapSeq fun y => y.push v)).get? o = some (W.listOf (List.toArray (vs ++ [v])) (n + 1)) := by
    rw [Heap.get?_update_self _ hl (by rw [mapSeq_push]; rfl), mapSeq_push, e]
  have z := N _ (.head _)
  exact h _ (F.change (Heap.SameBut.update ..) z.2.1 z.2.2) (news_set (pre := []) N (fun _ h => nomatch h) hne (Heap.SameBut.update ..) ho')
theorem getattr_K {o : Addr} {vs : Array Value} {n : Nat} {l : List (Addr × Obj)} {Q : Value → Shared → Prop} (F : Fr h₀ L s.heap m) (N : News h₀ L s.heap ((o, W.listOf vs n) :: l))
    (h : ∀ b h' tk, Fr h₀ L h' m → News h₀ L h' ((b, bmObj o) :: (o, W.listOf vs n) :: l) → (∀ p ∈ (o, W.listOf vs n) :: l, p.1 < b) → Q (.ref b) { s with heap := h', toks := tk }) :
    wpAny (model prog w) A (getAttr (.ref o) (Str.ofString "append") true) Q E s :=
  getAttr_append (N _ (.head _)).1 fun tk => h _ _ tk (F.push _) (News.push F N _) fun p hp => Heap.lt_size (N p hp).1
end
end
section
open PySem PySem.W PySem.Spec PySem.Calls PyProof.Rows
set_option maxRecDepth 100000
set_option maxHeartbeats 4000000
open Builtin Builtin.Str PySem.StrLaws
theorem no_occ {x : Str} {k lim : Nat} (h : ∀ c ∈ x.cps.toList, c ≠ k) : occurrences x ⟨#[k]⟩ 0 x.length lim = [] := occ_nil fun i _ h2 => by
  have hl : i < x.length := by
    have h1 : (⟨#[k]⟩ : Str).length = 1 := rfl
    rw [h1] at h2; omega
  rw [subAt_ch hl]
  exact decide_eq_false (h _ (Array.mem_toList_iff.mpr (Array.getElem_mem hl)))
theorem dash_eq : Str.ofString "-" = ⟨#[45]⟩ := by decide +kernel
theorem bsl_eq : Str.ofString "\\" = ⟨#[92]⟩ := by decide +kernel
section
variable {prog : Program} {w : World} {A : Around} {E : Value → Shared → Prop} {s : Shared} {x y z : Str} {t u v : Tok} {Q : Value → Shared → Prop}
theorem eqs_not (hne : x ≠ y) (h : Q (.bool false) s) : wpAny (model prog w) A (compareOp .Eq (.str x t) (.str y u)) Q E s := PyProof.Rows.eq_str (by rw [show (x == y) = false from by simpa using hne]; exact h)
theorem eqs_yes (he : x = y) (h : Q (.bool true) s) : wpAny (model prog w) A (compareOp .Eq (.str x t) (.str y u)) Q E s := PyProof.Rows.eq_str (by rw [show (x == y) = true from by simpa using he]; exact h)
theorem nes_not (he : x = y) (h : Q (.bool false) s) : wpAny (model prog w) A (compareOp .NotEq (.str x t) (.str y u)) Q E s := PyProof.Rows.ne_str (by rw [show (x != y) = false from by simpa using he]; exact h)
theorem nes_yes (hne : x ≠ y) (h : Q (.bool true) s) : wpAny (model prog w) A (compareOp .NotEq (.str x t) (.str y u)) Q E s := PyProof.Rows.ne_str (by rw [show (x != y) = true from by simpa using hne]; exact h)
theorem nodash (hx : ∀ c ∈ x.cps.toList, c ≠ 45) (h : Q (.bool true) s) : wpAny (model prog w) A (compareOp .NotIn (.str (Str.ofString "-") u) (.str x t)) Q E s :=
  PyProof.Rows.notIn_str (by rw [dash_eq, no_occ hx]; exact h)
theorem replace_none (e : x = y) (hx : ∀ c ∈ x.cps.toList, c ≠ 92) (h : Q (.str y t) s) : wpAny (model prog w) A (call (.builtin "str.replace") [.str x t, .str (Str.ofString "\\") u, .str z v]) Q E s := by
  subst e
  have ho : (occurrences x (Str.ofString "\\") 0 x.length (x.length + 1)).isEmpty = true := by rw [bsl_eq, no_occ hx]; rfl
  have hc : ((occurrences x (Str.ofString "\\") 0 x.length (x.length + 1)).isEmpty || ((Str.ofString "\\").length == 0 && z.length == 0)) = true := by rw [ho]; rfl
  refine call_gives PySem.F.slot_str_replace (typeIs_str _ _ _) PySem.F.entry_str_replace (PySem.F.args_str_replace_3 _ _ _) (gives_str_replace x (Str.ofString "\\") z t u v (fun q => by rw [hc] at q; cases q)) ?_
  rw [if_pos hc]
  exact h
end
/-- the table of _translate's code: empty, or with the lambda's code -/
inductive TabL : List (Addr × Obj) → Prop where
  | empty : TabL [(312, tabObj #[])]
  | full {c' : Addr} {oc : Obj} {vs : Array Value} {t : Tok} : oc.data = .fields vs → vs[1]? = some (.str (Str.ofString "_translate.<locals>.<lambda>") t) → TabL [(c', oc), (312, tabObj #[rawInt 368, rawInt 39, .ref c'])]
/-- what _translate makes of a pattern's rest -/
noncomputable def transF : Nat → List Nat → List Str
  | 0, _ => []
  | _ + 1, [] => []
  | n + 1, c :: r => if c = 91 then (if 93 ∈ r then ⟨(91 :: (r.takeWhile (· ≠ 93) ++ [93])).toArray⟩ :: transF n (r.dropWhile (· ≠ 93)).tail else Str.ofString "\\[" :: transF n r) else escS c :: transF n r
/-- the patterns that the law makes -/
noncomputable def okP : Nat → List Nat → Prop
  | 0, _ => True
  | _ + 1, [] => True
  | n + 1, c :: r => if c = 91 then (r.head? = some 95 ∧ (if 93 ∈ r then okP n (r.dropWhile (· ≠ 93)).tail else okP n r)) else ((c = 46 ∨ (c : Int) ∉ spcL ∧ c < 128) ∧ okP n r)
noncomputable def okc (c : Nat) : Prop := c < 128 ∧ c ≠ 33 ∧ c ≠ 42 ∧ c ≠ 63 ∧ c ≠ 45 ∧ c ≠ 92 ∧ c ≠ 38 ∧ c ≠ 124 ∧ c ≠ 126
theorem okc.rx {c : Nat} (h : okc c) : rxOk c := ⟨h.1, h.2.2.2.2.2.2.1, h.2.2.2.2.2.2.2.1, h.2.2.2.2.2.2.2.2⟩
theorem tabL_mem {T : List (Addr × Obj)} (h : TabL T) : ∃ o, (312, o) ∈ T := by
  cases h with
  | empty => exact ⟨_, .head _⟩
  | full => exact ⟨_, .tail _ (.head _)⟩
theorem news_swap {h₀ h : Heap} {L : Addr} {x y z : Addr × Obj} {l : List (Addr × Obj)} (N : News h₀ L h (x :: y :: z :: l)) : News h₀ L h (z :: y :: l) := fun p hp => N p (by
  simp only [List.mem_cons] at hp ⊢
  rcases hp with h | h | h <;> simp [h])
theorem ch_inj2 {a b : Nat} (h : ch a = ch b) : a = b := by
  unfold ch at h
  injection h with h
  have := congrArg Array.toList h
  simpa using this
theorem star_eq : Str.ofString "*" = ch 42 := by decide +kernel
theorem quest_eq : Str.ofString "?" = ch 63 := by decide +kernel
theorem open_eq : Str.ofString "[" = ch 91 := by decide +kernel
theorem shut_eq : Str.ofString "]" = ch 93 := by decide +kernel
theorem bang_eq : Str.ofString "!" = ch 33 := by decide +kernel
theorem item_at2 {x : Str} {i c : Nat} {r : List Nat} (h : x.cps.toList.drop i = c :: r) : Txt.item x (i : Int) = ch c ∧ i < x.length ∧ c ∈ x.cps.toList ∧ x.cps.toList.drop (i + 1) = r := by
  have hm : c ∈ x.cps.toList := List.mem_of_mem_drop (i := i) (by rw [h]; exact List.Mem.head _)
  have hlt : i < x.cps.toList.length := by
    have := congrArg List.length h
    rw [List.length_drop, List.length_cons] at this
    omega
  have hlt' : i < x.length := by have : x.length = x.cps.size := rfl; rw [Array.length_toList] at hlt; omega
  obtain ⟨h2, e⟩ := item_ch (x := x) (i := (i : Int)) (by omega) (by omega)
  have e2 : x.cps.toList[i] = c := by
    have := List.drop_eq_getElem_cons hlt
    rw [h] at this
    injection this with h1 _
    exact h1.symm
  refine ⟨?_, hlt', hm, ?_⟩
  · rw [e]
    simp only [Int.toNat_natCast]
    rw [e2]
  · rw [← List.drop_drop, h]; rfl
theorem at_end {x : Str} {i : Nat} (h : x.cps.toList.drop i = []) : x.length ≤ i := by
  have := List.drop_eq_nil_iff.mp h
  have e : x.length = x.cps.size := rfl
  rw [Array.length_toList] at this
  omega
inductive TrJ (w : World) (h₀ : Heap) (L : Addr) (s : Shared) (pat : Str) (tp : Tok) (o b : Addr) (led : List (Addr × Obj)) (result : List Str) (n : Nat) : Shared → Prop
  | mk (h tk u) (i : Nat) (ti tn vs k ks T') (h0 : Fr h₀ L h (kstB u [(Str.ofString "pat", .str pat tp), (Str.ofString "i", .int (i : Int) ti), (Str.ofString "n", .int (pat.length : Int) tn), (Str.ofString "res", .ref o), (Str.ofString "add", .ref b)])) (h1 : News h₀ L h ((o, W.listOf (List.toArray vs) k) :: (b, bmObj o) :: (led ++ T'))) (h2 : TabL T') (h3 : (∀ p ∈ (b, bmObj o) :: (led ++ T'), p.1 ≠ o)) (h4 : (∀ p ∈ led ++ T', p.1 ≠ b)) (h5 : (∀ p ∈ led, p.1 ≠ 312)) (h6 : i ≤ pat.length) (h7 : pat.length - i < n) (h8 : StrsAre vs ks) (h9 : ks.length ≤ i) (h10 : ks ++ transF n (pat.cps.toList.drop i) = result) (h11 : okP n (pat.cps.toList.drop i)) : TrJ w h₀ L s pat tp o b led result n ({ s with heap := h, toks := tk })
theorem TrJ.of {w : World} {h₀ : Heap} {L : Addr} {s : Shared} {pat : Str} {tp : Tok} {o b : Addr} {led : List (Addr × Obj)} {result : List Str} {n : Nat} {s' : Shared} (h tk u) (i : Nat) (ti tn vs k ks T') (es : s' = { s with heap := h, toks := tk }) (h0 : Fr h₀ L h (kstB u [(Str.ofString "pat", .str pat tp), (Str.ofString "i", .int (i : Int) ti), (Str.ofString "n", .int (pat.length : Int) tn), (Str.ofString "res", .ref o), (Str.ofString "add", .ref b)])) (h1 : News h₀ L h ((o, W.listOf (List.toArray vs) k) :: (b, bmObj o) :: (led ++ T'))) (h2 : TabL T') (h3 : (∀ p ∈ (b, bmObj o) :: (led ++ T'), p.1 ≠ o)) (h4 : (∀ p ∈ led ++ T', p.1 ≠ b)) (h5 : (∀ p ∈ led, p.1 ≠ 312)) (h6 : i ≤ pat.length) (h7 : pat.length - i < n) (h8 : StrsAre vs ks) (h9 : ks.length ≤ i) (h10 : ks ++ transF n (pat.cps.toList.drop i) = result) (h11 : okP n (pat.cps.toList.drop i)) : TrJ w h₀ L s pat tp o b led result n s' := by subst es; exact .mk h tk u i ti tn vs k ks T' h0 h1 h2 h3 h4 h5 h6 h7 h8 h9 h10 h11
section
variable {prog : Program} {w : World} {A : Around} {E : Value → Shared → Prop} {s : Shared} {a b : Int} {t u : Tok} {Q : Value → Shared → Prop}
theorem eqi_yes (he : a = b) (h : Q (.bool true) s) : wpAny (model prog w) A (compareOp .Eq (.int a t) (.int b u)) Q E s := eq_int (by rw [show (a == b) = true from by simpa using he]; exact h)
end
/-- the inner while: up to the place e -/
inductive WhJ (h₀ : Heap) (L : Addr) (s : Shared) (pat : Str) (tp : Tok) (i : Nat) (o b : Addr) (led : List (Addr × Obj)) (e : Nat) (n : Nat) : Shared → Prop
  | mk (h tk u) (j : Nat) (ti tn tj) (h0 : Fr h₀ L h (kstB u [(Str.ofString "pat", .str pat tp), (Str.ofString "i", .int ((i : Int) + 1) ti), (Str.ofString "n", .int (pat.length : Int) tn), (Str.ofString "res", .ref o), (Str.ofString "add", .ref b), (Str.ofString "j", .int (j : Int) tj)])) (h1 : News h₀ L h led) (h2 : i + 1 ≤ j) (h3 : j ≤ e) (h4 : e - j < n) : WhJ h₀ L s pat tp i o b led e n ({ s with heap := h, toks := tk })
theorem WhJ.of {h₀ : Heap} {L : Addr} {s : Shared} {pat : Str} {tp : Tok} {i : Nat} {o b : Addr} {led : List (Addr × Obj)} {e : Nat} {n : Nat} {s' : Shared} (h tk u) (j : Nat) (ti tn tj) (es : s' = { s with heap := h, toks := tk }) (h0 : Fr h₀ L h (kstB u [(Str.ofString "pat", .str pat tp), (Str.ofString "i", .int ((i : Int) + 1) ti), (Str.ofString "n", .int (pat.length : Int) tn), (Str.ofString "res", .ref o), (Str.ofString "add", .ref b), (Str.ofString "j", .int (j : Int) tj)])) (h1 : News h₀ L h led) (h2 : i + 1 ≤ j) (h3 : j ≤ e) (h4 : e - j < n) : WhJ h₀ L s pat tp i o b led e n s' := by subst es; exact .mk h tk u j ti tn tj h0 h1 h2 h3 h4
/-- the signs up to the next 93 -/
noncomputable def upto (r : List Nat) : List Nat := r.takeWhile (· ≠ 93)
theorem upto_shut {r : List Nat} (h : 93 ∈ r) : ∃ r', r.drop (upto r).length = 93 :: r' ∧ (r.dropWhile (· ≠ 93)).tail = r' := by
  induction r with
  | nil => cases h
  | cons c r ih =>
    by_cases hc : c = 93
    · subst hc; exact ⟨r, by simp [upto], by simp⟩
    · rcases List.mem_cons.mp h with h | h
      · exact absurd h.symm hc
      · obtain ⟨r', h1, h2⟩ := ih h
        refine ⟨r', ?_, ?_⟩
        · rw [show upto (c :: r) = c :: upto r from by simp [upto, hc], List.length_cons, List.drop_succ_cons]; exact h1
        · rw [List.dropWhile_cons_of_pos (by simpa using hc)]; exact h2
theorem upto_open {r : List Nat} (h : 93 ∉ r) : upto r = r := by
  induction r with
  | nil => rfl
  | cons c r ih =>
    have hc : c ≠ 93 := fun e => h (e ▸ List.Mem.head _)
    rw [show upto (c :: r) = c :: upto r from by simp [upto, hc], ih fun hm => h (.tail _ hm)]
theorem upto_ne {r : List Nat} {k c : Nat} (hk : k < (upto r).length) (hc : r[k]? = some c) : c ≠ 93 := by
  induction r generalizing k with
  | nil => simp at hc
  | cons a r ih =>
    by_cases ha : a = 93
    · subst ha; simp [upto] at hk
    · cases k with
      | zero => simp at hc; exact hc ▸ ha
      | succ k =>
        rw [show upto (a :: r) = a :: upto r from by simp [upto, ha], List.length_cons] at hk
        exact ih (k := k) (by omega) (by simpa using hc)
theorem len_cps (x : Str) : x.cps.toList.length = x.length := by rw [Array.length_toList]; rfl
theorem upto_le (r : List Nat) : (upto r).length ≤ r.length := (List.takeWhile_prefix _).length_le
theorem wh_ne {pat : Str} {i j : Nat} {r : List Nat} (h : pat.cps.toList.drop (i + 1) = r) (h1 : i + 1 ≤ j) (h2 : j < i + 1 + (upto r).length) : j < pat.length ∧ Txt.item pat (j : Int) ≠ Str.ofString "]" := by
  have hr : r.length = pat.length - (i + 1) := by rw [← h, List.length_drop, len_cps]
  have hu := upto_le r
  have hj : j < pat.length := by omega
  refine ⟨hj, ?_⟩
  have hjl : j < pat.cps.toList.length := by rw [len_cps]; exact hj
  have hd : pat.cps.toList.drop j = pat.cps.toList[j] :: pat.cps.toList.drop (j + 1) := List.drop_eq_getElem_cons hjl
  rw [(item_at2 hd).1, shut_eq]
  intro e
  have e := ch_inj2 e
  have hk : r[j - (i + 1)]? = some 93 := by
    rw [← h, List.getElem?_drop, show i + 1 + (j - (i + 1)) = j by omega, List.getElem?_eq_getElem hjl, e]
  exact upto_ne (k := j - (i + 1)) (by omega) hk rfl
theorem wh_at {pat : Str} {i : Nat} {r : List Nat} (h : pat.cps.toList.drop (i + 1) = r) (hm : 93 ∈ r) :
    Txt.item pat ((i + 1 + (upto r).length : Nat) : Int) = Str.ofString "]" ∧ i + 1 + (upto r).length < pat.length ∧ pat.cps.toList.drop (i + 1 + (upto r).length + 1) = (r.dropWhile (· ≠ 93)).tail := by
  obtain ⟨r', h1, h2⟩ := upto_shut hm
  have hd : pat.cps.toList.drop (i + 1 + (upto r).length) = 93 :: r' := by rw [← List.drop_drop, h, h1]
  obtain ⟨k1, k2, _, k4⟩ := item_at2 hd
  exact ⟨by rw [k1, shut_eq], k2, by rw [k4, h2]⟩
theorem wh_len {pat : Str} {i : Nat} {r : List Nat} (h : pat.cps.toList.drop (i + 1) = r) (hi : i + 1 ≤ pat.length) (hm : 93 ∉ r) : i + 1 + (upto r).length = pat.length := by
  rw [upto_open hm, ← h, List.length_drop, len_cps]; omega
theorem stuff_eq {pat : Str} {i : Nat} {r : List Nat} (h : pat.cps.toList.drop (i + 1) = r) (hi : i + 1 + (upto r).length ≤ pat.length) : Txt.slice pat (some ((i : Int) + 1)) (some ((i + 1 + (upto r).length : Nat) : Int)) = ⟨(upto r).toArray⟩ := by
  have hc := slice_closes (x := pat) (i := (i : Int) + 1) (j := ((i + 1 + (upto r).length : Nat) : Int)) ⟨by omega, by omega, by rw [len_cps]; omega⟩
  rw [eq_of_beq hc]
  have e1 : ((i : Int) + 1).toNat = i + 1 := by omega
  have e2 : (((i + 1 + (upto r).length : Nat) : Int) - ((i : Int) + 1)).toNat = (upto r).length := by omega
  rw [e1, e2, h]
  congr 1
  have : (r.take (upto r).length) = upto r := (List.prefix_iff_eq_take.mp (List.takeWhile_prefix _)).symm
  rw [this]
theorem upto_95 (r : List Nat) : upto (95 :: r) = 95 :: upto r := by simp [upto]
theorem stuff_facts {pat : Str} {i j : Nat} {r1 : List Nat} (h : pat.cps.toList.drop (i + 1) = 95 :: r1) (hj : j < pat.length) (hal : ∀ c ∈ pat.cps.toList, okc c) (hje : j = i + 1 + (upto (95 :: r1)).length) (hsz : pat.length ≤ 900) :
    Txt.slice pat (some ((i : Int) + 1)) (some (j : Int)) = ⟨(95 :: upto r1).toArray⟩ ∧ (∀ c ∈ (Txt.slice pat (some ((i : Int) + 1)) (some (j : Int))).cps.toList, c ≠ 45) ∧ (∀ c ∈ (Txt.slice pat (some ((i : Int) + 1)) (some (j : Int))).cps.toList, c ≠ 92) ∧
      (∀ c ∈ (⟨(95 :: upto r1).toArray⟩ : Str).cps.toList, rxOk c) ∧ 1 ≤ (⟨(95 :: upto r1).toArray⟩ : Str).cps.size ∧ (⟨(95 :: upto r1).toArray⟩ : Str).cps.size ≤ 1000 ∧ (⟨(95 :: upto r1).toArray⟩ : Str) ≠ Str.ofString "!" ∧ Txt.item ⟨(95 :: upto r1).toArray⟩ 0 ≠ Str.ofString "!" ∧ Txt.item ⟨(95 :: upto r1).toArray⟩ 0 ≠ Str.ofString "^" ∧ Txt.item ⟨(95 :: upto r1).toArray⟩ 0 ≠ Str.ofString "[" ∧ 1 ≤ (⟨(95 :: upto r1).toArray⟩ : Str).length ∧ ([Str.ofString "^", Str.ofString "["].any fun x => x == Txt.item ⟨(95 :: upto r1).toArray⟩ 0) = false ∧ (upto r1).length ≤ 900 := by
  have hS := stuff_eq h (by omega)
  rw [← hje, upto_95] at hS
  have hm : ∀ c ∈ (⟨(95 :: upto r1).toArray⟩ : Str).cps.toList, okc c := fun c hc => by
    have hc' : c ∈ upto (95 :: r1) := by rw [upto_95]; exact hc
    exact hal c (List.mem_of_mem_drop (i := i + 1) (by rw [h]; exact (List.takeWhile_prefix _).subset hc'))
  have hi0 : Txt.item ⟨(95 :: upto r1).toArray⟩ 0 = ch 95 := (item_at2 (x := ⟨(95 :: upto r1).toArray⟩) (i := 0) rfl).1
  refine ⟨hS, fun c hc => ?_, fun c hc => ?_, fun c hc => (hm c hc).rx, ?_, ?_, fun e => ?_, ?_, ?_, ?_, ?_, ?_, ?_⟩
  · rw [hS] at hc; exact (hm c hc).2.2.2.2.1
  · rw [hS] at hc; exact (hm c hc).2.2.2.2.2.1
  · simp
  · rw [upto_95] at hje
    simp only [List.length_cons, List.size_toArray] at hje ⊢
    omega
  · rw [bang_eq] at e
    injection e with e
    have := congrArg Array.toList e
    simp at this
  · rw [hi0]; decide +kernel
  · rw [hi0]; decide +kernel
  · rw [hi0]; decide +kernel
  · show 1 ≤ (95 :: upto r1).toArray.size
    simp
  · rw [hi0]; decide +kernel
  · rw [upto_95] at hje
    simp only [List.length_cons] at hje
    omega
theorem brack_eq (r1 : List Nat) : Str.empty ++ Str.ofString "[" ++ (⟨(95 :: upto r1).toArray⟩ : Str) ++ Str.ofString "]" = ⟨(91 :: (upto (95 :: r1) ++ [93])).toArray⟩ := by
  rw [open_eq, shut_eq, upto_95]
  show (⟨((#[] ++ #[91]) ++ (95 :: upto r1).toArray) ++ #[93]⟩ : Str) = _
  congr 1
  apply Array.toList_inj.mp
  simp
theorem joinlen {r1 : List Nat} (h : (upto r1).length ≤ 900) : (Str.empty ++ Str.ofString "[" ++ (⟨(95 :: upto r1).toArray⟩ : Str) ++ Str.ofString "]").length ≤ sizeLine := by
  rw [brack_eq, upto_95]
  show (91 :: (95 :: upto r1 ++ [93])).toArray.size ≤ _
  simp only [List.size_toArray, List.length_cons, List.length_append, List.length_nil]
  exact Nat.le_trans (by omega : _ ≤ 1000) (Nat.le_of_ble_eq_true rfl)
theorem news_add1 {h₀ h : Heap} {L : Addr} {d f c x y t : Addr × Obj} {led : List (Addr × Obj)} (N : News h₀ L h (d :: f :: c :: x :: y :: (led ++ [t]))) : News h₀ L h (x :: y :: (led ++ [c, t])) := fun p hp => N p (by
  simp only [List.mem_cons, List.mem_append, List.not_mem_nil, or_false] at hp ⊢
  rcases hp with h | h | h | h | h <;> simp [h])
theorem news_add2 {h₀ h : Heap} {L : Addr} {d f x y : Addr × Obj} {led : List (Addr × Obj)} (N : News h₀ L h (d :: f :: x :: y :: led)) : News h₀ L h (x :: y :: led) := fun p hp => N p (.tail _ (.tail _ hp))
theorem ne_lam {o b c P : Addr} {x y oc t t' : Obj} {led : List (Addr × Obj)} (l1 : ∀ q ∈ (o, x) :: (b, y) :: (led ++ [(P, t)]), q.1 < c) (hne : ∀ p ∈ (b, y) :: (led ++ [(P, t)]), p.1 ≠ o) : ∀ p ∈ (b, y) :: (led ++ [(c, oc), (P, t')]), p.1 ≠ o := by
  intro p hp
  simp only [List.mem_cons, List.mem_append, List.not_mem_nil, or_false] at hp hne
  rcases hp with rfl | h | rfl | rfl
  · exact hne _ (.inl rfl)
  · exact hne _ (.inr (.inl h))
  · exact Nat.ne_of_gt (l1 _ (.head _))
  · exact hne (P, t) (.inr (.inr rfl))
theorem ne_lam2 {o b c P : Addr} {x y oc t t' : Obj} {led : List (Addr × Obj)} (l1 : ∀ q ∈ (o, x) :: (b, y) :: (led ++ [(P, t)]), q.1 < c) (hne : ∀ p ∈ led ++ [(P, t)], p.1 ≠ b) : ∀ p ∈ led ++ [(c, oc), (P, t')], p.1 ≠ b := by
  intro p hp
  simp only [List.mem_cons, List.mem_append, List.not_mem_nil, or_false] at hp hne
  rcases hp with h | rfl | rfl
  · exact hne _ (.inl h)
  · exact Nat.ne_of_gt (l1 _ (.tail _ (.head _)))
  · exact hne (P, t) (.inr rfl)
theorem sub_next {a i n : Nat} (h : i < a) (h2 : a - i < n + 1) : a - (i + 1) < n := by omega
theorem news_lam {h₀ h : Heap} {L : Addr} {f c x y t : Addr × Obj} {led : List (Addr × Obj)} (N : News h₀ L h (f :: c :: x :: y :: (led ++ [t]))) : News h₀ L h (f :: x :: y :: (led ++ [c, t])) := fun p hp => N p (by
  simp only [List.mem_cons, List.mem_append, List.not_mem_nil, or_false] at hp ⊢
  rcases hp with h | h | h | h | h | h <;> simp [h])
inductive LamR (h₀ : Heap) (L : Addr) (m : Str → Option Value) (s : Shared) (o b : Addr) (x y : Obj) (led : List (Addr × Obj)) : Value → Shared → Prop
  | mk (f : Addr) (lo : Obj) (T' : List (Addr × Obj)) (h : Heap) (tk : Nat) (ho : lo.cls = .type "function") (F : Fr h₀ L h m) (N : News h₀ L h ((f, lo) :: (o, x) :: (b, y) :: (led ++ T'))) (hT : TabL T') (h1 : ∀ p ∈ (b, y) :: (led ++ T'), p.1 ≠ o) (h2 : ∀ p ∈ led ++ T', p.1 ≠ b) : LamR h₀ L m s o b x y led (.ref f) { s with heap := h, toks := tk }
theorem mid_lam {M : PySem.Model} {A : Around} {E : Value → Shared → Prop} {t : Sem Value} {s₀ : Shared} {hp : Heap} {X : Nat} {Q : Value → Shared → Prop} {h₀ : Heap} {L o b : Addr} {m : Str → Option Value} {x y : Obj} {led T' : List (Addr × Obj)} (F : Fr h₀ L hp m) (N : News h₀ L hp ((o, x) :: (b, y) :: (led ++ T'))) (hT : TabL T') (h1 : ∀ p ∈ (b, y) :: (led ++ T'), p.1 ≠ o) (h2 : ∀ p ∈ led ++ T', p.1 ≠ b)
    (k1 : ∀ K : Value → Shared → Prop, (∀ v s', LamR h₀ L m s₀ o b x y led v s' → K v s') → wpAny M A t K E { s₀ with heap := hp, toks := X }) (k2 : ∀ v s', LamR h₀ L m s₀ o b x y led v s' → Q v s') : wpAny M A t Q E { s₀ with heap := hp, toks := X } := k1 Q k2
theorem news_two {h₀ h : Heap} {L : Addr} {x y : Addr × Obj} {led : List (Addr × Obj)} (N : News h₀ L h (x :: y :: led)) : News h₀ L h (x :: led) := fun p hp => N p (by
  simp only [List.mem_cons] at hp ⊢
  rcases hp with h | h <;> simp [h])
theorem tr_in {n : Nat} {r : List Nat} (h : 93 ∈ r) : transF (n + 1) (91 :: r) = ⟨(91 :: (upto r ++ [93])).toArray⟩ :: transF n (r.dropWhile (· ≠ 93)).tail := by
  rw [transF, if_pos rfl, if_pos h]; rfl
theorem tr_out {n : Nat} {r : List Nat} (h : 93 ∉ r) : transF (n + 1) (91 :: r) = Str.ofString "\\[" :: transF n r := by
  rw [transF, if_pos rfl, if_neg h]
theorem tr_other {n c : Nat} {r : List Nat} (h : c ≠ 91) : transF (n + 1) (c :: r) = escS c :: transF n r := by
  rw [transF, if_neg h]
theorem app_cps (x y : Str) : x ++ y = ⟨x.cps ++ y.cps⟩ := rfl
theorem tr_step1 {pat : Str} {n i j : Nat} {r1 : List Nat} {ks res : List Str} (h : ks ++ transF (n + 1) (91 :: 95 :: r1) = res) (hm : 93 ∈ 95 :: r1) (w3 : pat.cps.toList.drop (j + 1) = ((95 :: r1).dropWhile (· ≠ 93)).tail) : (ks ++ [Str.empty ++ Str.ofString "[" ++ (⟨(95 :: upto r1).toArray⟩ : Str) ++ Str.ofString "]"]) ++ transF n (pat.cps.toList.drop (j + 1)) = res := by
  rw [← h, tr_in hm, brack_eq, w3, List.append_assoc]; rfl
theorem tr_step2 {pat : Str} {n i : Nat} {r : List Nat} {ks res : List Str} (h : ks ++ transF (n + 1) (91 :: r) = res) (hm : 93 ∉ r) (w3 : pat.cps.toList.drop (i + 1) = r) : (ks ++ [Str.ofString "\\["]) ++ transF n (pat.cps.toList.drop (i + 1)) = res := by
  rw [← h, tr_out hm, w3, List.append_assoc]; rfl
theorem tr_step3 {pat : Str} {n i c : Nat} {r : List Nat} {ks res : List Str} (h : ks ++ transF (n + 1) (c :: r) = res) (hm : c ≠ 91) (w3 : pat.cps.toList.drop (i + 1) = r) : (ks ++ [escS c]) ++ transF n (pat.cps.toList.drop (i + 1)) = res := by
  rw [← h, tr_other hm, w3, List.append_assoc]; rfl
theorem len_snoc {ks : List Str} {k : Str} {i j : Nat} (h : ks.length ≤ i) (hj : i ≤ j) : (ks ++ [k]).length ≤ j + 1 := by rw [List.length_append]; simp; omega
end
section
open PySem PySem.W PySem.Spec PySem.Calls PyProof.Rows
set_option maxRecDepth 100000
set_option maxHeartbeats 6000000

theorem lines_T1_0 : True := by
  k_with_none
  k_with "joinParts" => (k_here; (first | (with_reducible show wpAny _ _ (joinParts _ []) _ _ _) | (with_reducible show wpAny _ _ (joinParts _ (evalEach [] _)) _ _ _)); k_dflt (refine joinParts_nil ?_ (joinlen (by with_reducible assumption))))
  k_with "getMethod ref" => (k_here; (with_reducible show wpAny _ _ (getMethod (Value.ref 298) _ _) _ _ _); k_dflt (refine' method_sub ?zF ?zX ?_; (case zF => k_asm); (case zX => k_asm); k_whole))
  k_with "call builtin:re.Pattern.sub" => (k_here; k_dflt (refine' call_resub ?zF ?zN ?zX ?zm ?zo ?zhx ?zh0 ?zhs ?_; (case zF => k_asm); (case zN => k_asm); (case zX => k_asm); (case zm => k_mem); (case zo => first | assumption | exact rfl); (case zhx => assumption); (case zh0 => assumption); (case zhs => assumption); k_whole); intro h' tk' t' F' N'; (try k_sweep))
  k_with "eval Lambda" => (k_here; (with_reducible refine stop_here ?_))
  k_with "getAttr ref" => (k_here; (with_reducible show wpAny _ _ (getAttr (Value.ref _) (PySem.Str.ofString "append") true) _ _ _); k_dflt (refine' getattr_K ?zF ?zN ?_; (case zF => k_asm); (case zN => k_asm); k_whole); intro b' h' tk' F' N' l1; (try k_sweep))
  k_with "exec While Compare cons nil" => (k_here; (with_reducible refine stop_here ?_))
  k_with "TurnEnd" => (k_here; (with_reducible show TurnEnd _ _ _ (Flow.ret _) _); refine turn_ret ?_)
  k_with "compareOp Eq str str" => (k_here; k_dflt (first | (refine' eqs_not ?zne ?_; (case zne => with_reducible assumption)) | (refine' eqs_yes ?ze ?_; (case ze => with_reducible assumption))))
  k_with "compareOp Eq int int" => (k_here; k_dflt (refine' eqi_yes ?ze ?_; (case ze => rfl)))
  k_with "exec While BoolOp cons nil" => (k_here; (with_reducible refine stop_here ?_))
  k_with "compareOp NotIn str str" => (k_here; k_dflt (refine' nodash ?zh ?_; (case zh => assumption); k_whole))
  k_with "call builtin:str.replace" => (k_here; k_dflt (refine' replace_none ?ze ?zh ?_; (case ze => assumption); (case zh => assumption); k_whole))
  k_with "compareOp NotEq str str" => (k_here; k_dflt (first | (refine' nes_yes ?zne ?_; (case zne => with_reducible assumption)) | (refine' nes_not ?ze ?_; (case ze => with_reducible assumption))))
  k_with "callWith ref" => (k_here; (with_reducible show wpAny _ _ (callWith _ (Value.ref _) _ (backTo _ (starEach (_ :: _) _)) []) _ _ _); k_dflt (refine' callWith_bm ?zN ?zM ?_; (case zN => k_asm); (case zM => k_mem); k_whole))
  k_with "And" => ((with_reducible show StandsBm _ _ _ ∧ _); k_dflt (refine ⟨stands_bm (by k_asm) (by k_mem), ?_⟩); (try dsimp only [List.nil_append, List.cons_append]))
  k_with "call ref" => (k_here; (with_reducible show wpAny _ _ (call (Value.ref _) [_]) _ _ _); k_dflt (refine' call_bm ?zF ?zN ?zm ?zne ?zz ?_; (case zF => k_asm); (case zN => first | k_asm | exact news_add1 (by with_reducible assumption) | exact news_add2 (by with_reducible assumption)); (case zm => k_mem); (case zne => first | with_reducible assumption | exact ne_lam (by with_reducible assumption) (by with_reducible assumption)); (case zz => omega); k_whole); intro h' F' N'; (try k_sweep))
  k_with "call ref" => (k_here; (with_reducible show wpAny _ _ (call (Value.ref 310) _ _) _ _ _); k_dflt (refine' escape_ok ?zB ?zF ?zX ?zN ?zT ?zhk ?zhd ?zhu ?zhx ?zhc ?_; (case zN => k_asm); (case zB => k_asm); (case zF => k_asm); (case zX => k_asm); (case zT => k_asm); (case zhk => first | exact rfl | assumption); (case zhd => ktr_room); (case zhu => ktr_units); (case zhx => with_reducible assumption); (case zhc => with_reducible assumption); k_whole); intro t h' tk' F' N'; (try k_sweep))
  k_with "exec If" => (k_here; (with_reducible show wpAny _ _ (exec (PySem.Stmt.If (PySem.Expr.Compare (PySem.Expr.Name (PySem.Str.ofString "c") _) _ [PySem.Expr.Constant (PySem.Const.str (PySem.Str.ofString "[")) _ _] _) _ _ _) _) _ _ _); (with_reducible refine stop_here ?_))
  k_with "PostT" => (refine post_t (by with_reducible assumption) ?_)
  trivial
section
variable {w : World} {pv : Program} {loose : List Str} {mean : ExcName → Option Value} {mg mb : Str → Option Value}
    {dp un : Nat} {gd : Option (List Code)} {cn : Str} {cs : Scope} {a : Addr} {ccd : Value} {cl : List (Str × Addr)} {outer : List Env} {A₀ : Around} {base h₀ : Heap} {L : Addr} {m : Str → Option Value} {news : List (Addr × Obj)} {s : Shared}
    {Q E : Value → Shared → Prop}

theorem ne_312 {o : Addr} {x : Addr × Obj} {led T' : List (Addr × Obj)} (hT : TabL T') (h : ∀ p ∈ x :: (led ++ T'), p.1 ≠ o) : o ≠ 312 := fun e => by obtain ⟨y, hy⟩ := tabL_mem hT; exact h _ (.tail _ (List.mem_append_right _ hy)) e.symm
theorem ne_312b {o : Addr} {led T' : List (Addr × Obj)} (hT : TabL T') (h : ∀ p ∈ led ++ T', p.1 ≠ o) : o ≠ 312 := fun e => by obtain ⟨y, hy⟩ := tabL_mem hT; exact h _ (List.mem_append_right _ hy) e.symm
theorem translate_ok {pat : Str} {tp tq : Tok} {T0 : List (Addr × Obj)} (B : Below A₀ base outer h₀) (F : Fr h₀ L s.heap m) (X : (Kf w.params).In h₀) (N : News h₀ L s.heap (news ++ T0)) (T : Top pv loose mean mg mb h₀) (hk : cs.kind = .function)
    (hd : dp + 4 < recursionLimit) (hu : un + 32 < cLine) (hC : CodeHd base 316 312) (hT : TabL T0) (hnP : ∀ q ∈ news, q.1 ≠ 312) (hsz : pat.length ≤ 900) (hok : okP (pat.length + 1) pat.cps.toList) (hal : ∀ c ∈ pat.cps.toList, okc c)
    (ret : ∀ o vs k T' h' tk', Fr h₀ L h' m → News h₀ L h' ((o, W.listOf (List.toArray vs) k) :: (news ++ T')) → TabL T' → StrsAre vs (transF (pat.length + 1) pat.cps.toList) → (∀ p ∈ news ++ T', p.1 ≠ o) → Q (.ref o) { s with heap := h', toks := tk' }) :
    wpAny (model PySem.Challenge.rw_il0176_01.prog w) (ktrTop dp un gd cn cs L a ccd cl outer) (call (.ref 317) [.str pat tp, .none, .str (Str.ofString "?") tq]) Q E s := by
  revert X; k_fill; intro X
  have hfd := show fd 55 = _ from by (conv => lhs; whnf)
  refine wpAny_call ?_
  k_dflt (walk_at "ENTER")
  clear hfd
  k_steps
  have l1b := l1
  clear l1
  rename ∀ p : Addr × Obj, p ∈ news ++ T0 → p.1 < _ => l1
  refine While_anyV (TrJ w _ _ _ pat tp _ _ news (transF (pat.length + 1) pat.cps.toList)) (pat.length + 1) (TrJ.of _ _ _ 0 _ _ [] 0 [] T0 rfl (fr_kst (by k_asm) (kc rfl (kc rfl (kc rfl (kc rfl (kc rfl kn)))))) (news_swap (by k_asm)) hT ?_ ?_ hnP (Nat.zero_le _) (by omega) .nil (Nat.zero_le _) rfl hok) ?_
  · exact List.forall_mem_cons.mpr ⟨Nat.ne_of_gt (l1b _ (.head _)), fun p hp => Nat.ne_of_lt (l1 p hp)⟩
  · exact fun p hp => Nat.ne_of_lt (l1b p (.tail _ hp))
  rintro n s' q9 hq9 ⟨h9, tk9, u9, i, ti, tn, vs, k, ks, T', F9, N9, hT9, hne9, hnb9, hl9, hi9, hn9, hs9, hkl9, hres9, hok9⟩
  rcases n with _ | n
  · exact absurd hn9 (Nat.not_lt_zero _)
  have hvl9 : vs.length ≤ 900 := by rw [strs_len hs9]; omega
  cases hdr : pat.cps.toList.drop i with
  | nil =>
    have hend := at_end hdr
    rw [hdr] at hres9
    have hii : i = pat.length := by omega
    subst hii
    rw [transF, List.append_nil] at hres9
    k_steps
    exact ret _ _ _ _ _ _ (by k_asm) (news_two (by k_asm)) hT9 (by rw [← hres9]; exact hs9) (fun p hp => hne9 p (.tail _ hp))
  | cons c r =>
    obtain ⟨hit, hlt, hmem, hdr'⟩ := item_at2 hdr
    have hoc := hal c hmem
    rw [hdr] at hres9 hok9
    have hq1 : Txt.item pat (i : Int) ≠ Str.ofString "*" := by rw [hit, star_eq]; exact fun e => hoc.2.2.1 (ch_inj2 e)
    have hq2 : Txt.item pat (i : Int) ≠ Str.ofString "?" := by rw [hit, quest_eq]; exact fun e => hoc.2.2.2.1 (ch_inj2 e)
    k_steps
    refine if_var ?_
    intro k9 hK9
    by_cases h91 : c = 91
    · subst h91
      have hq3 : Txt.item pat (i : Int) = Str.ofString "[" := by rw [hit, open_eq]
      rw [okP, if_pos rfl] at hok9
      obtain ⟨hhead, hok9⟩ := hok9
      obtain ⟨r1, rfl⟩ : ∃ r1, r = 95 :: r1 := by
        cases r with
        | nil => cases hhead
        | cons x r1 => exact ⟨r1, by simp at hhead; rw [hhead]⟩
      obtain ⟨hit2, hlt2, _, _⟩ := item_at2 hdr'
      rw [show ((i + 1 : Nat) : Int) = (i : Int) + 1 from rfl] at hit2
      have hq4 : Txt.item pat ((i : Int) + 1) ≠ Str.ofString "!" := by rw [hit2, bang_eq]; exact fun e => absurd (ch_inj2 e) (by decide)
      have hq5 : Txt.item pat ((i : Int) + 1) ≠ Str.ofString "]" := by rw [hit2, shut_eq]; exact fun e => absurd (ch_inj2 e) (by decide)
      k_steps
      refine While_anyV (WhJ _ _ _ pat tp i _ _ _ (i + 1 + (upto (95 :: r1)).length)) (pat.length + 1) (WhJ.of _ _ _ (i + 1) _ _ _ rfl (fr_kst (by k_asm) (kc rfl (kc rfl (kc rfl (kc rfl (kc rfl (kc rfl kn))))))) (by k_asm) (Nat.le_refl _) (Nat.le_add_right _ _) ?_) ?_
      · have := upto_le (95 :: r1)
        have hrl : (95 :: r1).length = pat.length - (i + 1) := by rw [← hdr', List.length_drop, len_cps]
        omega
      rintro n2 s' q9 hq9 ⟨h8, tk8, u8, j, tj1, tj2, tj3, F8, N8, hj1, hj2, hn2⟩
      by_cases hje : j = i + 1 + (upto (95 :: r1)).length
      · by_cases h93 : 93 ∈ 95 :: r1
        · obtain ⟨w1, w2, w3⟩ := wh_at hdr' h93
          rw [← hje] at w1 w2 w3
          obtain ⟨hS, hs45, hs92, hsrx, hs1, hs2, hs3, hs4, hs5, hs6, hs0, hs7, hs8⟩ := stuff_facts hdr' (by omega) hal hje hsz
          rw [if_pos h93, ← w3] at hok9
          have hok93 := hok9
          have ho315 := ne_312 hT9 hne9
          have hb315 := ne_312b hT9 hnb9
          k_steps
          all_goals try (exfalso; omega)
          refine mid_lam (s₀ := s) (by k_asm) (by k_asm) hT9 hne9 hnb9 (fun K hK => ?_) (fun v s' hR => ?_)
          · k_dflt (refine' kla_eval ?zd0 ?_; (case zd0 => exact rfl))
            cases hT9 with
            | empty =>
              k_dflt (refine' kla_nest ?zF ?zN ?zT ?zC ?zcd ?zU ?zt ?zn ?zcl ?_; (case zF => k_asm); (case zN => k_asm); (case zT => k_asm); (case zcd => exact rfl); (case zC => kn_code); (case zU => exact .tail (by assumption) (.tail (by assumption) (updF_last (by assumption)))); (case zt => kn_triples); (case zn => kn_among); (case zcl => exact rfl); k_whole)
              intro f' c' oc' vs' t' ct' h' tk' F' N' d1' d2' l1 l2
              exact hK _ _ (.mk f' _ _ _ _ rfl F' (news_lam N') (.full d1' d2') (ne_lam l1 hne9) (ne_lam2 l1 hnb9))
            | full e1 e2 =>
              k_dflt (refine' kla_hit ?zF ?zN ?zT ?zC ?zcd ?zmem ?zt ?zn ?zcl ?_; (case zF => k_asm); (case zN => k_asm); (case zT => k_asm); (case zcd => exact rfl); (case zC => kn_code); (case zmem => exact .tail _ (.tail _ (List.mem_append_right _ (.tail _ (.head _))))); (case zt => kn_triples); (case zn => kn_hit); (case zcl => exact rfl); k_whole)
              intro f' ct' h' tk' F' N' l1
              exact hK _ _ (.mk f' _ _ _ _ rfl F' N' (.full e1 e2) hne9 hnb9)
          obtain ⟨f9, lo9, Tn, h9', tk9', hlo, F9', N9', hTn, hn1, hn2⟩ := hR
          k_steps
          exact ⟨n, Nat.lt_succ_self n, TrJ.of _ _ _ (j + 1) _ _ (vs ++ [_]) (k + 1) (ks ++ [Str.empty ++ Str.ofString "[" ++ (⟨(95 :: upto r1).toArray⟩ : Str) ++ Str.ofString "]"]) _ rfl (fr_kst (by k_asm) (kc rfl (kc rfl (kc rfl (kc rfl (kc rfl kn)))))) (by k_asm) hTn hn1 hn2 hl9 (by first | exact sub_next (by with_reducible assumption) (by with_reducible assumption) | omega) (by first | exact sub_next (by with_reducible assumption) (by with_reducible assumption) | omega) (strs_snoc hs9) (len_snoc hkl9 (by first | exact sub_next (by with_reducible assumption) (by with_reducible assumption) | omega)) (tr_step1 (i := i) hres9 h93 w3) hok93⟩
        · have hjl : j = pat.length := by rw [hje]; exact wh_len hdr' (by omega) h93
          rw [if_neg h93, ← hdr'] at hok9
          have hok93 := hok9
          k_steps
          exact ⟨n, Nat.lt_succ_self n, TrJ.of _ _ _ (i + 1) _ _ (vs ++ [_]) (k + 1) (ks ++ [Str.ofString "\\["]) _ rfl (fr_kst (by k_asm) (kc rfl (kc rfl (kc rfl (kc rfl (kc rfl kn)))))) (by k_asm) hT9 hne9 hnb9 hl9 (by first | exact sub_next (by with_reducible assumption) (by with_reducible assumption) | omega) (by first | exact sub_next (by with_reducible assumption) (by with_reducible assumption) | omega) (strs_snoc hs9) (len_snoc hkl9 (by first | exact sub_next (by with_reducible assumption) (by with_reducible assumption) | omega)) (tr_step2 hres9 h93 hdr') hok93⟩
      · obtain ⟨w1, w2⟩ := wh_ne hdr' hj1 (by omega)
        rcases n2 with _ | n2
        · exact absurd hn2 (Nat.not_lt_zero _)
        k_steps
        exact ⟨n2, Nat.lt_succ_self n2, WhJ.of _ _ _ (j + 1) _ _ _ rfl (fr_kst (by k_asm) (kc rfl (kc rfl (kc rfl (kc rfl (kc rfl (kc rfl kn))))))) (by k_asm) (by first | exact sub_next (by with_reducible assumption) (by with_reducible assumption) | omega) (by first | exact sub_next (by with_reducible assumption) (by with_reducible assumption) | omega) (by first | exact sub_next (by with_reducible assumption) (by with_reducible assumption) | omega)⟩
    · have hq3 : Txt.item pat (i : Int) ≠ Str.ofString "[" := by rw [hit, open_eq]; exact fun e => h91 (ch_inj2 e)
      rw [okP, if_neg h91] at hok9
      obtain ⟨hesc, hok9⟩ := hok9
      k_steps
      exact ⟨n, Nat.lt_succ_self n, TrJ.of _ _ _ (i + 1) _ _ (vs ++ [_]) (k + 1) (ks ++ [escS c]) _ rfl (fr_kst (by k_asm) (kc rfl (kc rfl (kc rfl (kc rfl (kc rfl kn)))))) (by k_asm) hT9 hne9 hnb9 hl9 (by first | exact sub_next (by with_reducible assumption) (by with_reducible assumption) | omega) (by first | exact sub_next (by with_reducible assumption) (by with_reducible assumption) | omega) (strs_snoc hs9) (len_snoc hkl9 (by first | exact sub_next (by with_reducible assumption) (by with_reducible assumption) | omega)) (tr_step3 hres9 h91 hdr') (by rw [hdr']; exact hok9)⟩
end
end
section
open PySem PySem.W PySem.Spec PySem.Calls PyProof.Rows
set_option maxRecDepth 100000
set_option maxHeartbeats 4000000
section
variable {prog : Program} {w : World} {A : Around} {E : Value → Shared → Prop} {s : Shared} {env : Env} {h₀ : Heap} {x : Str} {body : List Stmt} {Q : Flow → Shared → Prop}
theorem iter_strJ {xt : Str} {tx : Tok} {m₀ : Str → Option Value} {news : List (Addr × Obj)} (J : Nat → (Str → Option Value) → List (Addr × Obj) → Prop)
    (hh : A.handled = none) (F : Fr h₀ env.locals s.heap m₀) (N : News h₀ env.locals s.heap news) (hj : J 0 m₀ news)
    (turn : ∀ i n t m₁ nx h tk own, xt.cps[i]? = some n → nx.map (·.1) = news.map (·.1) → OwnOff own (news.map (·.1)) → J i m₁ nx → Fr h₀ env.locals h (fun y => if y = x then some (.str ⟨#[n]⟩ t) else m₁ y) → News h₀ env.locals h (nx ++ own) →
      wpAny (model prog w) A (execs body env) (InvPostN h₀ env.locals (J (i + 1)) own (news.map (·.1)) { s with heap := h, toks := tk } Q) E { s with heap := h, toks := tk })
    (done : ∀ m₁ nx h tk, J xt.cps.size m₁ nx → Fr h₀ env.locals h m₁ → News h₀ env.locals h nx → Q .next { s with heap := h, toks := tk }) :
    wpAny (model prog w) A (pyIter (.str xt tx)) (fun it s₂ => LoopAtV prog w A h₀ env x body Q E it s₂) E s := by
  refine wpAny_pyIter_str fun o St hW hst => ?_
  have W := hW A hh
  refine loop_invN J W ?_ ?_ ?_ ?_ hst (F.push _) (fun p hp => ⟨Heap.get?_push_of_some _ (N p hp).1, (N p hp).2⟩) hj ?_ ?_
  · intro hm
    exact absurd F.ns.lt ((List.mem_singleton.mp hm) ▸ Nat.lt_irrefl _)
  · intro b' hb
    rw [List.mem_singleton.mp hb]
    exact next_is_new F
  · intro p hp hI
    exact absurd (Heap.lt_size (N p hp).1) ((List.mem_singleton.mp hI) ▸ Nat.lt_irrefl _)
  · intro p hp hI
    exact absurd (Heap.lt_size (N p hp).1) ((List.mem_singleton.mp hI) ▸ Nat.lt_irrefl _)
  · rintro i v m₁ nx h tk own hi ⟨n, u, hn, rfl⟩ ha ho hJ F' N'
    exact turn i n u m₁ nx h tk own hn ha ho hJ F' N'
  · exact fun m₁ nx h tk hJ F₁ N₁ => done m₁ nx h tk hJ F₁ N₁
end
/-- the pattern of a text's rest -/
noncomputable def patF : Bool → List Nat → List Nat
  | _, [] => []
  | b, c :: r => if c = 39 then (if b then [91, 95] else [93]) ++ patF (!b) r else c :: patF b r
theorem transF_len : ∀ (n : Nat) (l : List Nat), (transF n l).length ≤ n
  | 0, _ => Nat.le_refl _
  | _ + 1, [] => Nat.zero_le _
  | n + 1, c :: r => by
    rw [transF]
    split
    · split
      · exact Nat.succ_le_succ (transF_len n _)
      · exact Nat.succ_le_succ (transF_len n _)
    · exact Nat.succ_le_succ (transF_len n _)
theorem patF_len : ∀ (b : Bool) (l : List Nat), (patF b l).length ≤ 2 * l.length
  | _, [] => Nat.zero_le _
  | b, c :: r => by
    have h1 := patF_len b r
    have h2 := patF_len (!b) r
    rw [patF]
    split
    · cases b <;> simp only [Bool.not_true, Bool.not_false] at h2 <;> simp [List.length_append] <;> omega
    · simp only [List.length_cons]; omega
inductive PatJ (rest : Str) (trest : Tok) (news : List (Addr × Obj)) (i : Nat) : (Str → Option Value) → List (Addr × Obj) → Prop
  | mk (u p tp b) (h0 : p.length ≤ 2 * i) (h1 : i ≤ rest.length) (h2 : p.cps.toList ++ patF b (rest.cps.toList.drop i) = patF true rest.cps.toList) : PatJ rest trest news i (kstB u [(Str.ofString "rest", .str rest trest), (Str.ofString "pattern", .str p tp), (Str.ofString "shut", .bool b)]) (news)
theorem PatJ.of {rest : Str} {trest : Tok} {news : List (Addr × Obj)} {i : Nat} {m : Str → Option Value} {nx : List (Addr × Obj)} (u p tp b) (em : m = kstB u [(Str.ofString "rest", .str rest trest), (Str.ofString "pattern", .str p tp), (Str.ofString "shut", .bool b)]) (enx : nx = news) (h0 : p.length ≤ 2 * i) (h1 : i ≤ rest.length) (h2 : p.cps.toList ++ patF b (rest.cps.toList.drop i) = patF true rest.cps.toList) : PatJ rest trest news i m nx := by subst em enx; exact .mk u p tp b h0 h1 h2
theorem pat_q {rest p y : Str} {i : Nat} {b : Bool} (hn : rest.cps[i]? = some 39) (h : p.cps.toList ++ patF b (rest.cps.toList.drop i) = patF true rest.cps.toList) (hy : y.cps.toList = if b then [91, 95] else [93]) :
    (p ++ y).cps.toList ++ patF (!b) (rest.cps.toList.drop (i + 1)) = patF true rest.cps.toList := by
  have hlt : i < rest.cps.toList.length := by
    have := (Array.getElem?_eq_some_iff.mp hn).1
    rwa [Array.length_toList]
  have e : rest.cps.toList.drop i = 39 :: rest.cps.toList.drop (i + 1) := by
    rw [List.drop_eq_getElem_cons hlt]
    congr 1
    have := (Array.getElem?_eq_some_iff.mp hn).2
    simpa using this
  rw [← h, e, patF, if_pos rfl, ← hy, app_cps, Array.toList_append, List.append_assoc]
theorem pat_c {rest p : Str} {i c : Nat} {b : Bool} (hn : rest.cps[i]? = some c) (hc : c ≠ 39) (h : p.cps.toList ++ patF b (rest.cps.toList.drop i) = patF true rest.cps.toList) :
    (p ++ ⟨#[c]⟩).cps.toList ++ patF b (rest.cps.toList.drop (i + 1)) = patF true rest.cps.toList := by
  have hlt : i < rest.cps.toList.length := by
    have := (Array.getElem?_eq_some_iff.mp hn).1
    rwa [Array.length_toList]
  have e : rest.cps.toList.drop i = c :: rest.cps.toList.drop (i + 1) := by
    rw [List.drop_eq_getElem_cons hlt]
    congr 1
    have := (Array.getElem?_eq_some_iff.mp hn).2
    simpa using this
  rw [← h, e, patF, if_neg hc, app_cps, Array.toList_append, List.append_assoc]
  rfl
section
variable {prog : Program} {w : World} {A : Around} {E : Value → Shared → Prop} {s : Shared} {h₀ : Heap} {L a b : Addr} {m : Str → Option Value} {news : List (Addr × Obj)} {vs ws : List Value} {Q : Value → Shared → Prop}
theorem add_two (F : Fr h₀ L s.heap m) (N : News h₀ L s.heap news) (ha : s.heap.IsList a (List.toArray vs)) (hb : s.heap.IsList b (List.toArray ws)) (hz : vs.length + ws.length ≤ 100000)
    (h : ∀ D h', Fr h₀ L h' m → News h₀ L h' ((D, W.listOf (List.toArray (vs ++ ws)) 0) :: news) → (∀ p ∈ news, p.1 < D) → Q (.ref D) { s with heap := h' }) :
    wpAny (model prog w) A (binaryOp .Add (.ref a) (.ref b)) Q E s :=
  add_lists F N ha hb (fun h' F' N' => h _ h' F' N' fun p hp => Heap.lt_size (N p hp).1) (Nat.le_trans hz (Nat.le_of_ble_eq_true rfl))
end
theorem addz {vs : List Value} {p : Str} {x : Value} (h : StrsAre vs (transF (p.length + 1) p.cps.toList)) (h9 : p.length ≤ 900) : vs.length + [x].length ≤ 100000 := by
  have h1 := strs_len h
  have h2 := transF_len (p.length + 1) p.cps.toList
  simp only [List.length_cons, List.length_nil]
  omega
theorem news_take1 {h₀ h : Heap} {L : Addr} {x y z : Addr × Obj} {led : List (Addr × Obj)} (N : News h₀ L h (x :: y :: z :: led)) : News h₀ L h (x :: led) := fun p hp => N p (by
  simp only [List.mem_cons] at hp ⊢
  rcases hp with h | h <;> simp [h])
theorem len_app2 {p y : Str} {i : Nat} (h : p.length ≤ 2 * i) (hy : y.length ≤ 2) : (p ++ y).length ≤ 2 * (i + 1) := by
  show (p.cps ++ y.cps).size ≤ _
  rw [Array.size_append]
  have h1 : p.cps.size = p.length := rfl
  have h2 : y.cps.size = y.length := rfl
  omega
end
section
open PySem PySem.W PySem.Spec PySem.Calls PyProof.Rows
set_option maxRecDepth 100000
set_option maxHeartbeats 1000000

theorem lines_L1_0 : True := by
  k_with_none
  k_with "exec For Name Name cons nil" => (k_here; (rename Fr _ _ _ _ => lF'); (with_unfolding_all refine' For_invVF lF' ?zk1 ?zk2 ?_; (case zk1 => exact rfl); (case zk2 => exact rfl); k_whole))
  k_with "pyIter str" => (k_here; (with_reducible refine stop_here ?_))
  k_with "compareOp Eq str str" => (k_here; k_dflt (first | (refine' eqs_not ?zne ?_; (case zne => with_reducible assumption)) | (refine' eqs_yes ?ze ?_; (case ze => with_reducible assumption))))
  k_with "compareOp Eq int int" => (k_here; k_dflt (refine' eqi_yes ?ze ?_; (case ze => rfl)))
  k_with "exec While BoolOp cons nil" => (k_here; (with_reducible refine stop_here ?_))
  k_with "compareOp NotIn str str" => (k_here; k_dflt (refine' nodash ?zh ?_; (case zh => assumption); k_whole))
  k_with "call builtin:str.replace" => (k_here; k_dflt (refine' replace_none ?ze ?zh ?_; (case ze => assumption); (case zh => assumption); k_whole))
  k_with "compareOp NotEq str str" => (k_here; k_dflt (first | (refine' nes_yes ?zne ?_; (case zne => with_reducible assumption)) | (refine' nes_not ?ze ?_; (case ze => with_reducible assumption))))
  k_with "call ref" => (k_here; (with_reducible show wpAny _ _ (call (Value.ref 317) _ _) _ _ _); k_dflt (refine' translate_ok ?zB ?zF ?zX ?zN ?zT ?zhk ?zhd ?zhu ?zhC ?zhT ?zhn ?zhs ?zho ?zha ?_; (case zN => k_asm); (case zB => k_asm); (case zF => k_asm); (case zX => k_asm); (case zT => k_asm); (case zhk => first | exact rfl | assumption); (case zhd => ktr_room); (case zhu => ktr_units); (case zhC => assumption); (case zhT => assumption); (case zhn => assumption); (case zhs => with_reducible assumption); (case zho => with_reducible assumption); (case zha => with_reducible assumption); k_whole); intro o' vs' k' T' h' tk' F' N' TL' SA' NE'; (try k_sweep))
  k_with "binaryOp Add ref ref" => (k_here; k_dflt (refine' add_two ?zF ?zN ?za ?zb ?zz ?_; (case zF => k_asm); (case zN => k_asm); (case za => exact News.isList (by k_asm) (by k_mem)); (case zb => exact News.isList (by k_asm) (by k_mem)); (case zz => exact addz (by assumption) (by assumption))); intro D' h' F' N' l1; (try k_sweep))
  k_with "InvPostN" => (k_here; (with_reducible refine stop_here ?_))
  trivial
section
variable {w : World} {pv : Program} {loose : List Str} {mean : ExcName → Option Value} {mg mb : Str → Option Value}
    {dp un : Nat} {gd : Option (List Code)} {cn : Str} {cs : Scope} {a : Addr} {ccd : Value} {cl : List (Str × Addr)} {outer : List Env} {A₀ : Around} {base h₀ : Heap} {L : Addr} {m : Str → Option Value} {news : List (Addr × Obj)} {s : Shared}
    {Q E : Value → Shared → Prop}

theorem parts_ok {rest : Str} {tr : Tok} {T0 : List (Addr × Obj)} (B : Below A₀ base outer h₀) (F : Fr h₀ L s.heap m) (X : (Kf w.params).In h₀) (N : News h₀ L s.heap (news ++ T0)) (T : Top pv loose mean mg mb h₀) (hk : cs.kind = .function)
    (hd : dp + 6 < recursionLimit) (hu : un + 48 < cLine) (hC : CodeHd base 316 312) (hT : TabL T0) (hnP : ∀ q ∈ news, q.1 ≠ 312) (hsz : rest.length ≤ 60) (hok : okP ((patF true rest.cps.toList).length + 1) (patF true rest.cps.toList)) (hal : ∀ c ∈ patF true rest.cps.toList, okc c)
    (ret : ∀ D us T' h' tk', Fr h₀ L h' m → News h₀ L h' ((D, W.listOf (List.toArray us) 0) :: (news ++ T')) → TabL T' → StrsAre us (transF ((patF true rest.cps.toList).length + 1) (patF true rest.cps.toList) ++ [Str.ofString ""]) → Q (.ref D) { s with heap := h', toks := tk' }) :
    wpAny (model PySem.Challenge.rw_il0176_01.prog w) (ktrTop dp un gd cn cs L a ccd cl outer) (call (.ref 338) [.str rest tr]) Q E s := by
  revert X; k_fill; intro X
  have hfd := show fd 59 = _ from by (conv => lhs; whnf)
  refine wpAny_call ?_
  k_dflt (walk_at "ENTER")
  clear hfd
  k_steps
  refine iter_strJ (PatJ rest tr (news ++ T0)) rfl (by k_asm) (by k_asm) (PatJ.of _ _ _ true ((kst_self (kc rfl (kc rfl (kc rfl kn)))).symm) rfl (Nat.zero_le _) (Nat.zero_le _) rfl) ?_ ?_
  · rintro i c t m₁ nx h tk own hc hadr hoff ⟨u, p, tp, b, hp9, hi9, hpat⟩ F9 N9
    have hlt : i < rest.length := (Array.getElem?_eq_some_iff.mp hc).1
    by_cases h39 : c = 39
    · subst h39
      have hq : (⟨#[39]⟩ : Str) = Str.ofString "'" := quote_eq.symm
      cases b
      · k_steps
        exact inv_same (by k_asm) (by k_asm) hadr (PatJ.of _ (p ++ Str.ofString "]") _ true ((kst_self (kc rfl (kc rfl (kc rfl kn)))).symm) rfl (len_app2 hp9 (by first | decide +kernel | exact Nat.le_succ 1)) hlt (pat_q (b := false) hc hpat (by decide +kernel)))
      · k_steps
        exact inv_same (by k_asm) (by k_asm) hadr (PatJ.of _ (p ++ Str.ofString "[_") _ false ((kst_self (kc rfl (kc rfl (kc rfl kn)))).symm) rfl (len_app2 hp9 (by first | decide +kernel | exact Nat.le_succ 1)) hlt (pat_q (b := true) hc hpat (by decide +kernel)))
    · have hq : (⟨#[c]⟩ : Str) ≠ Str.ofString "'" := by rw [quote_eq]; exact fun e => h39 (ch_inj2 e)
      k_steps
      exact inv_same (by k_asm) (by k_asm) hadr (PatJ.of _ (p ++ ⟨#[c]⟩) _ b ((kst_self (kc rfl (kc rfl (kc rfl kn)))).symm) rfl (len_app2 hp9 (by first | decide +kernel | exact Nat.le_succ 1)) hlt (pat_c hc h39 hpat))
  · rintro m₁ nx h tk ⟨u, p, tp, b, hp9, hi9, hpat⟩ F9 N9
    have hpe : p.cps.toList = patF true rest.cps.toList := by
      rw [List.drop_eq_nil_of_le (by rw [Array.length_toList]; exact Nat.le_refl _)] at hpat
      simpa [patF] using hpat
    have hpl : p.length = (patF true rest.cps.toList).length := by rw [← hpe, len_cps]
    have hs9 : p.length ≤ 900 := by omega
    have ho9 : okP (p.length + 1) p.cps.toList := by rw [hpl, hpe]; exact hok
    have ha9 : ∀ c ∈ p.cps.toList, okc c := by rw [hpe]; exact hal
    k_steps
    exact ret _ _ _ _ _ (by k_asm) (news_take1 (by k_asm)) (by assumption) (by rw [hpl, hpe] at *; exact strs_snoc (by assumption))
end
end
section
open PySem PySem.W PySem.Spec PySem.Calls PyProof.Rows
set_option maxRecDepth 100000
set_option maxHeartbeats 4000000
section
variable {prog : Program} {w : World} {A : Around} {E : Value → Shared → Prop} {s : Shared}
theorem item_us {value slice : Expr} {l : Addr} {us : List Value} {k : Int} {u : Tok} {x : Value} {Q : Value → Shared → Prop} (hl : s.heap.IsList l (List.toArray us))
    (hx : us[k.toNat]? = some x) (h0 : 0 ≤ k) (hfit : k < 2 ^ 63) (h : Q x s)
    (hs : subscripted slice false (.ref l) (.int k u) = operate [.ref l, .int k u] (getItem (.ref l) (.int k u)) := by with_unfolding_all rfl) (hg : ∀ r, letTemporaryGo value (.ref l) r = pure () := by intro _; with_unfolding_all rfl) :
    wpAny (model prog w) A (subscriptTail value slice (.ref l) (.int k u)) Q E s :=
  item_list hl h0 hfit (by simpa using hx) h hs hg
end
/-- the signs side by side -/
noncomputable def runOf : List Str → Str × List Str
  | [] => (Str.empty, [])
  | p :: r => if p.length = 1 ∧ p ≠ Str.ofString "=" then (p ++ (runOf r).1, (runOf r).2) else (Str.empty, p :: r)
noncomputable def brName (p : Str) : Str := Txt.slice p (some 2) (some (-1))
/-- what the parts of a pattern tell -/
noncomputable def told : Nat → List Str → Int → List Str → Option (Int × List Str)
  | 0, _, _, _ => none
  | _ + 1, [], _, _ => none
  | n + 1, p :: r, pl, key =>
    if Txt.slice p none (some 1) = Str.ofString "[" then
      match r with
      | [] => none
      | q :: r' => if q = Str.ofString "\\." then told n r' (pl + ((brName p).length + 2) + 1) (key ++ [brName p]) else some (pl + ((brName p).length + 2), key ++ [brName p])
    else if (runOf (p :: r)).1 = Str.empty then none
    else
      match (runOf (p :: r)).2 with
      | [] => none
      | q :: r' => if q = Str.ofString "\\." then told n r' (pl + (runOf (p :: r)).1.length + 1) (key ++ [(runOf (p :: r)).1]) else some (pl + (runOf (p :: r)).1.length, key ++ [(runOf (p :: r)).1])
theorem strs_drop {us : List Value} {k : Nat} {p : Str} {r : List Str} (h : StrsAre (us.drop k) (p :: r)) : ∃ t, us[k]? = some (.str p t) ∧ StrsAre (us.drop (k + 1)) r ∧ k < us.length := by
  cases e : us.drop k with
  | nil => rw [e] at h; cases h
  | cons v us' =>
    rw [e] at h
    have hlt : k < us.length := by
      have := congrArg List.length e
      rw [List.length_drop, List.length_cons] at this
      omega
    have hd := List.drop_eq_getElem_cons hlt
    rw [e] at hd
    injection hd with h1 h2
    cases h with
    | cons y t hr =>
      refine ⟨t, ?_, h2 ▸ hr, hlt⟩
      rw [List.getElem?_eq_getElem hlt, ← h1]
/-- ends with the empty text -/
noncomputable def Ends (ps : List Str) : Prop := ∃ qs, ps = qs ++ [Str.ofString ""]
theorem Ends.ne {ps : List Str} (h : Ends ps) : ps ≠ [] := by obtain ⟨qs, rfl⟩ := h; simp
theorem Ends.tail {p : Str} {r : List Str} (h : Ends (p :: r)) (hp : p ≠ Str.ofString "") : Ends r := by
  obtain ⟨qs, e⟩ := h
  cases qs with
  | nil => simp at e; exact absurd e.1 hp
  | cons q qs => simp at e; exact ⟨qs, e.2⟩
theorem empty_eq : Str.ofString "" = Str.empty := rfl
inductive ToldJ (h₀ : Heap) (L : Addr) (s : Shared) (text : Str) (tt : Tok) (D : Addr) (us : List Value) (led : List (Addr × Obj)) (res : Option (Int × List Str)) (n : Nat) : Shared → Prop
  | mk (h tk u pl t ka vs ks) (k : Nat) (tk2 ps) (h0 : Fr h₀ L h (kstB u [(Str.ofString "text", .str text tt), (Str.ofString "place", .int pl t), (Str.ofString "parts", .ref D), (Str.ofString "key", .ref ka), (Str.ofString "k", .int (k : Nat) tk2)])) (h1 : News h₀ L h ((ka, tupObj vs) :: (D, W.listOf (List.toArray us) 0) :: led)) (h2 : (∀ q ∈ (D, W.listOf (List.toArray us) 0) :: led, q.1 < ka)) (h3 : StrsAre vs ks) (h4 : ks.length ≤ k) (h5 : StrsAre (us.drop k) ps) (h6 : Ends ps) (h7 : (∀ q ∈ ps, q.length ≤ 1000)) (h8 : us.length - k < n) (h9 : told n ps pl ks = res) : ToldJ h₀ L s text tt D us led res n ({ s with heap := h, toks := tk })
theorem ToldJ.of {h₀ : Heap} {L : Addr} {s : Shared} {text : Str} {tt : Tok} {D : Addr} {us : List Value} {led : List (Addr × Obj)} {res : Option (Int × List Str)} {n : Nat} {s' : Shared} (h tk u pl t ka vs ks) (k : Nat) (tk2 ps) (es : s' = { s with heap := h, toks := tk }) (h0 : Fr h₀ L h (kstB u [(Str.ofString "text", .str text tt), (Str.ofString "place", .int pl t), (Str.ofString "parts", .ref D), (Str.ofString "key", .ref ka), (Str.ofString "k", .int (k : Nat) tk2)])) (h1 : News h₀ L h ((ka, tupObj vs) :: (D, W.listOf (List.toArray us) 0) :: led)) (h2 : (∀ q ∈ (D, W.listOf (List.toArray us) 0) :: led, q.1 < ka)) (h3 : StrsAre vs ks) (h4 : ks.length ≤ k) (h5 : StrsAre (us.drop k) ps) (h6 : Ends ps) (h7 : (∀ q ∈ ps, q.length ≤ 1000)) (h8 : us.length - k < n) (h9 : told n ps pl ks = res) : ToldJ h₀ L s text tt D us led res n s' := by subst es; exact .mk h tk u pl t ka vs ks k tk2 ps h0 h1 h2 h3 h4 h5 h6 h7 h8 h9
inductive RunJ (h₀ : Heap) (L : Addr) (s : Shared) (text : Str) (tt : Tok) (pl : Int) (t : Tok) (D : Addr) (us : List Value) (ka : Addr) (k0 : Nat) (led : List (Addr × Obj)) (tot : Str) (rest : List Str) (n : Nat) : Shared → Prop
  | mk (h tk u nm tn) (k : Nat) (tk2 ps) (h0 : Fr h₀ L h (kstB u [(Str.ofString "text", .str text tt), (Str.ofString "place", .int pl t), (Str.ofString "parts", .ref D), (Str.ofString "key", .ref ka), (Str.ofString "name", .str nm tn), (Str.ofString "k", .int (k : Nat) tk2)])) (h1 : News h₀ L h led) (h2 : StrsAre (us.drop k) ps) (h3 : Ends ps) (h4 : (∀ q ∈ ps, q.length ≤ 1000)) (h5 : k0 ≤ k) (h6 : k ≤ us.length) (h7 : us.length - k < n) (h8 : nm.length + k0 ≤ k) (h9 : nm ++ (runOf ps).1 = tot) (h10 : (runOf ps).2 = rest) : RunJ h₀ L s text tt pl t D us ka k0 led tot rest n ({ s with heap := h, toks := tk })
theorem RunJ.of {h₀ : Heap} {L : Addr} {s : Shared} {text : Str} {tt : Tok} {pl : Int} {t : Tok} {D : Addr} {us : List Value} {ka : Addr} {k0 : Nat} {led : List (Addr × Obj)} {tot : Str} {rest : List Str} {n : Nat} {s' : Shared} (h tk u nm tn) (k : Nat) (tk2 ps) (es : s' = { s with heap := h, toks := tk }) (h0 : Fr h₀ L h (kstB u [(Str.ofString "text", .str text tt), (Str.ofString "place", .int pl t), (Str.ofString "parts", .ref D), (Str.ofString "key", .ref ka), (Str.ofString "name", .str nm tn), (Str.ofString "k", .int (k : Nat) tk2)])) (h1 : News h₀ L h led) (h2 : StrsAre (us.drop k) ps) (h3 : Ends ps) (h4 : (∀ q ∈ ps, q.length ≤ 1000)) (h5 : k0 ≤ k) (h6 : k ≤ us.length) (h7 : us.length - k < n) (h8 : nm.length + k0 ≤ k) (h9 : nm ++ (runOf ps).1 = tot) (h10 : (runOf ps).2 = rest) : RunJ h₀ L s text tt pl t D us ka k0 led tot rest n s' := by subst es; exact .mk h tk u nm tn k tk2 ps h0 h1 h2 h3 h4 h5 h6 h7 h8 h9 h10
theorem run_more {p : Str} {r : List Str} (h : p.length = 1) (h2 : p ≠ Str.ofString "=") : runOf (p :: r) = (p ++ (runOf r).1, (runOf r).2) := by rw [runOf, if_pos ⟨h, h2⟩]
theorem run_stop {p : Str} {r : List Str} (h : ¬ (p.length = 1 ∧ p ≠ Str.ofString "=")) : runOf (p :: r) = (Str.empty, p :: r) := by rw [runOf, if_neg h]
theorem app_empty (x : Str) : x ++ Str.empty = x := by
  rw [app_cps]; show (⟨x.cps ++ #[]⟩ : Str) = x; simp
theorem empty_app (x : Str) : Str.empty ++ x = x := by
  rw [app_cps]; show (⟨#[] ++ x.cps⟩ : Str) = x; simp
theorem app_asc (x y z : Str) : (x ++ y) ++ z = x ++ (y ++ z) := by
  rw [app_cps, app_cps, app_cps, app_cps]; simp [Array.append_assoc]
theorem told_br1 {n : Nat} {p q : Str} {r : List Str} {pl : Int} {key : List Str} (h : Txt.slice p none (some 1) = Str.ofString "[") (hq : q = Str.ofString "\\.") : told (n + 1) (p :: q :: r) pl key = told n r (pl + ((brName p).length + 2) + 1) (key ++ [brName p]) := by
  rw [told, if_pos h, if_pos hq]
theorem told_br2 {n : Nat} {p q : Str} {r : List Str} {pl : Int} {key : List Str} (h : Txt.slice p none (some 1) = Str.ofString "[") (hq : q ≠ Str.ofString "\\.") : told (n + 1) (p :: q :: r) pl key = some (pl + ((brName p).length + 2), key ++ [brName p]) := by
  rw [told, if_pos h, if_neg hq]
theorem told_no {n : Nat} {p : Str} {r : List Str} {pl : Int} {key : List Str} (h : Txt.slice p none (some 1) ≠ Str.ofString "[") (he : (runOf (p :: r)).1 = Str.empty) : told (n + 1) (p :: r) pl key = none := by
  conv => lhs; unfold told
  rw [if_neg h, if_pos he]
theorem told_run1 {n : Nat} {p q : Str} {r r' : List Str} {pl : Int} {key : List Str} (h : Txt.slice p none (some 1) ≠ Str.ofString "[") (he : (runOf (p :: r)).1 ≠ Str.empty) (hr : (runOf (p :: r)).2 = q :: r') (hq : q = Str.ofString "\\.") : told (n + 1) (p :: r) pl key = told n r' (pl + (runOf (p :: r)).1.length + 1) (key ++ [(runOf (p :: r)).1]) := by
  conv => lhs; unfold told
  rw [if_neg h, if_neg he, hr]; show (if _ then _ else _) = _; rw [if_pos hq]
theorem told_run2 {n : Nat} {p q : Str} {r r' : List Str} {pl : Int} {key : List Str} (h : Txt.slice p none (some 1) ≠ Str.ofString "[") (he : (runOf (p :: r)).1 ≠ Str.empty) (hr : (runOf (p :: r)).2 = q :: r') (hq : q ≠ Str.ofString "\\.") : told (n + 1) (p :: r) pl key = some (pl + (runOf (p :: r)).1.length, key ++ [(runOf (p :: r)).1]) := by
  conv => lhs; unfold told
  rw [if_neg h, if_neg he, hr]; show (if _ then _ else _) = _; rw [if_neg hq]
theorem us_size {us : List Value} {rest : Str} (h : StrsAre us (transF ((patF true rest.cps.toList).length + 1) (patF true rest.cps.toList) ++ [Str.ofString ""])) (hr : rest.length ≤ 60) : us.length ≤ 200 := by
  have h1 := strs_len h
  have h2 := transF_len ((patF true rest.cps.toList).length + 1) (patF true rest.cps.toList)
  have h3 := patF_len true rest.cps.toList
  rw [len_cps] at h3
  rw [List.length_append, List.length_cons, List.length_nil] at h1
  omega
theorem br_ne {p : Str} (h : Txt.slice p none (some 1) = Str.ofString "[") : p ≠ Str.ofString "" := by
  rintro rfl
  revert h
  decide +kernel
theorem sign_ne {p : Str} (h : p.length = 1) : p ≠ Str.ofString "" := by
  rintro rfl
  revert h
  decide +kernel
theorem len_app1 {x y : Str} : (x ++ y).length = x.length + y.length := by
  show (x.cps ++ y.cps).size = _
  rw [Array.size_append]; rfl
theorem told_fuel {us : List Value} {ps : List Str} {x : Str} (h : StrsAre us (ps ++ [x])) : us.length - 0 < ps.length + 2 := by
  have h1 := strs_len h
  rw [List.length_append, List.length_cons, List.length_nil] at h1
  omega
theorem at_nat {us : List Value} {k : Nat} {v : Value} (h : us[k]? = some v) : us[((k : Nat) : Int).toNat]? = some v := by rwa [Int.toNat_natCast]
theorem at_nat1 {us : List Value} {k : Nat} {v : Value} (h : us[k + 1]? = some v) : us[((k : Int) + 1).toNat]? = some v := by
  rw [show ((k : Int) + 1).toNat = k + 1 by omega]; exact h
theorem escS_len (c : Nat) : (escS c).length ≤ 2 := by
  unfold escS
  split
  · show (Str.ofString "\\" ++ ch c).cps.size ≤ 2
    rw [bsl_eq]; exact Nat.le_refl _
  · exact Nat.le_succ 1
theorem transF_small : ∀ (n : Nat) (l : List Nat), ∀ q ∈ transF n l, q.length ≤ l.length + 2
  | 0, _, _, h => nomatch h
  | _ + 1, [], _, h => nomatch h
  | n + 1, c :: r, q, h => by
    rw [transF] at h
    split at h
    · split at h
      · rcases List.mem_cons.mp h with rfl | h
        · have := (List.takeWhile_prefix (fun x => decide (x ≠ 93)) (l := r)).length_le
          show (91 :: (r.takeWhile (fun x => decide (x ≠ 93)) ++ [93])).toArray.size ≤ _
          simp only [List.size_toArray, List.length_cons, List.length_append, List.length_nil]
          omega
        · have h1 := transF_small n _ q h
          have h2 := (List.dropWhile_suffix (fun x => decide (x ≠ 93)) (l := r)).length_le
          rw [List.length_tail] at h1
          simp only [List.length_cons]
          omega
      · rcases List.mem_cons.mp h with rfl | h
        · exact Nat.le_trans (by decide +kernel : _ ≤ 2) (Nat.le_add_left _ _)
        · have h1 := transF_small n _ q h
          simp only [List.length_cons]; omega
    · rcases List.mem_cons.mp h with rfl | h
      · have := escS_len c
        simp only [List.length_cons]; omega
      · have h1 := transF_small n _ q h
        simp only [List.length_cons]; omega
theorem parts_small {rest : Str} (hr : rest.length ≤ 60) : ∀ q ∈ transF ((patF true rest.cps.toList).length + 1) (patF true rest.cps.toList) ++ [Str.ofString ""], q.length ≤ 1000 := by
  intro q hq
  rcases List.mem_append.mp hq with h | h
  · have h1 := transF_small _ _ q h
    have h3 := patF_len true rest.cps.toList
    rw [len_cps] at h3
    omega
  · rw [List.mem_singleton.mp h]; exact Nat.le_trans (by decide +kernel : _ ≤ 0) (Nat.zero_le _)
theorem news_xk {h₀ h : Heap} {L : Addr} {x k a b c : Addr × Obj} {led : List (Addr × Obj)} (N : News h₀ L h (x :: k :: a :: b :: c :: led)) : News h₀ L h (x :: k :: led) := fun p hp => N p (by
  simp only [List.mem_cons] at hp ⊢
  rcases hp with h | h | h <;> simp [h])
theorem news_out {h₀ h : Heap} {L : Addr} {x y : Addr × Obj} {led : List (Addr × Obj)} (N : News h₀ L h (x :: y :: led)) : News h₀ L h led := fun p hp => N p (.tail _ (.tail _ hp))
theorem run_tot {nm p : Str} {r ps : List Str} (h : ¬ (p.length = 1 ∧ p ≠ Str.ofString "=")) (ht : nm ++ (runOf (p :: r)).1 = (runOf ps).1) (hr : (runOf (p :: r)).2 = (runOf ps).2) : (runOf ps).1 = nm ∧ (runOf ps).2 = p :: r := by
  rw [run_stop h] at ht hr
  exact ⟨by rw [← ht]; exact app_empty nm, hr.symm⟩
theorem told_a {n : Nat} {p q nm : Str} {r r' : List Str} {pl : Int} {key : List Str} (h : Txt.slice p none (some 1) ≠ Str.ofString "[") (e : (runOf (p :: r)).1 = nm ∧ (runOf (p :: r)).2 = q :: r') (hn : nm ≠ Str.ofString "") (hq : q = Str.ofString "\\.") : told (n + 1) (p :: r) pl key = told n r' (pl + nm.length + 1) (key ++ [nm]) := by
  obtain ⟨rfl, e2⟩ := e
  exact told_run1 h hn e2 hq
theorem told_b {n : Nat} {p q nm : Str} {r r' : List Str} {pl : Int} {key : List Str} (h : Txt.slice p none (some 1) ≠ Str.ofString "[") (e : (runOf (p :: r)).1 = nm ∧ (runOf (p :: r)).2 = q :: r') (hn : nm ≠ Str.ofString "") (hq : q ≠ Str.ofString "\\.") : told (n + 1) (p :: r) pl key = some (pl + nm.length, key ++ [nm]) := by
  obtain ⟨rfl, e2⟩ := e
  exact told_run2 h hn e2 hq
theorem told_c {n : Nat} {p q nm : Str} {r r' : List Str} {pl : Int} {key : List Str} (h : Txt.slice p none (some 1) ≠ Str.ofString "[") (e : (runOf (p :: r)).1 = nm ∧ (runOf (p :: r)).2 = q :: r') (hn : nm = Str.ofString "") : told (n + 1) (p :: r) pl key = none := by
  obtain ⟨rfl, e2⟩ := e
  exact told_no h hn
theorem bslash_ne {p : Str} (h : p = Str.ofString "\\.") : p ≠ Str.ofString "" := by rw [h]; decide +kernel
theorem run_go {nm p : Str} {r : List Str} {tot : Str} {rest : List Str} (h1 : p.length = 1) (h2 : p ≠ Str.ofString "=") (ht : nm ++ (runOf (p :: r)).1 = tot) (hr : (runOf (p :: r)).2 = rest) : (nm ++ p) ++ (runOf r).1 = tot ∧ (runOf r).2 = rest := by
  rw [run_more h1 h2] at ht hr
  exact ⟨by rw [app_asc]; exact ht, hr⟩
end
section
open PySem PySem.W PySem.Spec PySem.Calls PyProof.Rows
set_option maxRecDepth 100000
set_option maxHeartbeats 6000000

theorem lines_D1_0 : True := by
  k_with_none
  k_with "call ref" => (k_here; (with_reducible show wpAny _ _ (call (Value.ref 338) _ _) _ _ _); k_dflt (refine' parts_ok ?zB ?zF ?zX ?zN ?zT ?zhk ?zhd ?zhu ?zhC ?zhT ?zhn ?zhs ?zho ?zha ?_; (case zN => k_asm); (case zB => k_asm); (case zF => k_asm); (case zX => k_asm); (case zT => k_asm); (case zhk => first | exact rfl | assumption); (case zhd => ktr_room); (case zhu => ktr_units); (case zhC => assumption); (case zhT => assumption); (case zhn => assumption); (case zhs => with_reducible assumption); (case zho => with_reducible assumption); (case zha => with_reducible assumption); k_whole); intro D' us' T' h' tk' F' N' TL' SA'; have husz := us_size SA' (by assumption); (try k_sweep))
  k_with "compareOp Eq str str" => (k_here; k_dflt (first | (refine' eqs_not ?zne ?_; (case zne => with_reducible assumption)) | (refine' eqs_yes ?ze ?_; (case ze => with_reducible assumption))))
  k_with "compareOp Eq int int" => (k_here; k_dflt (refine' eqi_yes ?ze ?_; (case ze => rfl)))
  k_with "exec While BoolOp cons nil" => (k_here; (with_reducible refine stop_here ?_))
  k_with "compareOp NotIn str str" => (k_here; k_dflt (refine' nodash ?zh ?_; (case zh => assumption); k_whole))
  k_with "call builtin:str.replace" => (k_here; k_dflt (refine' replace_none ?ze ?zh ?_; (case ze => assumption); (case zh => assumption); k_whole))
  k_with "compareOp NotEq str str" => (k_here; k_dflt (first | (refine' nes_yes ?zne ?_; (case zne => with_reducible assumption)) | (refine' nes_not ?ze ?_; (case ze => with_reducible assumption))))
  k_with "compareOp Eq int int" => (k_here; k_dflt (first | (refine' eqi_yes ?ze ?_; (case ze => omega)) | (refine' eq_not ?ze ?_; (case ze => omega))))
  k_with "inplaceOp Add ref ref" => (k_here; k_dflt (refine' iadd_tup ?zF ?zN ?za ?zb ?zw ?zfb ?zled ?zsz ?_; (case zF => k_asm); (case zN => k_asm); (case za => k_mem); (case zb => k_mem); (case zw => exact List.cons_ne_nil _ _); (case zled => exact fun q hq => List.Mem.tail _ (List.Mem.tail _ hq)); (case zfb => exact allLt_cons (And.right (by assumption))); (case zsz => (rw [sizeLine_eq]; simp only [List.length_cons, List.length_nil]; omega)); k_whole); intro D' h' F' N' l1; (try k_sweep))
  k_with "exec While Constant cons nil" => (k_here; (with_reducible refine stop_here ?_))
  k_with "exec While BoolOp cons nil" => (k_here; (with_reducible refine stop_here ?_))
  k_with "TurnEnd" => (k_here; (with_reducible show TurnEnd _ _ _ (Flow.ret _) _); refine turn_ret ?_)
  k_with "subscriptTail Name Name ref int" => (k_here; k_dflt (refine' item_us ?zl ?zx ?zz ?zf ?_ ?zs ?zt; (case zl => exact News.isList (by k_asm) (by k_mem)); (case zx => with_reducible assumption); (case zz => omega); (case zf => omega); (case zs => with_unfolding_all rfl); (case zt => intro _; with_unfolding_all rfl)))
  k_with "exec If" => (k_here; (with_reducible show wpAny _ _ (exec (PySem.Stmt.If (PySem.Expr.Compare (PySem.Expr.Subscript (PySem.Expr.Name _ _) _ _) _ _ _) _ _ _) _) _ _ _); (with_reducible refine stop_here ?_))
  k_with "PostT" => (refine post_t (by with_reducible assumption) ?_)
  trivial
theorem mid_bool {M : PySem.Model} {A : Around} {E : Value → Shared → Prop} {t : Sem Bool} {hp : Heap} {g : Array GenState} {d : Drawn} {X : Nat} {os : OsState} {Q : Bool → Shared → Prop} (b : Bool)
    (h1 : ∀ K : Bool → Shared → Prop, (∀ tk, K b ⟨hp, g, d, tk, os⟩) → wpAny M A t K E ⟨hp, g, d, X, os⟩) (h2 : ∀ tk, Q b ⟨hp, g, d, tk, os⟩) : wpAny M A t Q E ⟨hp, g, d, X, os⟩ := h1 Q h2
section
variable {w : World} {pv : Program} {loose : List Str} {mean : ExcName → Option Value} {mg mb : Str → Option Value}
    {dp un : Nat} {gd : Option (List Code)} {cn : Str} {cs : Scope} {a : Addr} {ccd : Value} {cl : List (Str × Addr)} {outer : List Env} {A₀ : Around} {base h₀ : Heap} {L : Addr} {m : Str → Option Value} {news : List (Addr × Obj)} {s : Shared}
    {Q E : Value → Shared → Prop}

theorem told_ok {text : Str} {tt tp : Tok} {p : Int} {T0 : List (Addr × Obj)} (B : Below A₀ base outer h₀) (F : Fr h₀ L s.heap m) (X : (Kf w.params).In h₀) (N : News h₀ L s.heap (news ++ T0)) (T : Top pv loose mean mg mb h₀) (hk : cs.kind = .function)
    (hd : dp + 8 < recursionLimit) (hu : un + 60 < cLine) (hC : CodeHd base 316 312) (hT : TabL T0) (hnP : ∀ q ∈ news, q.1 ≠ 312) (h0 : 0 ≤ p) (h1 : p ≤ (text.length : Int)) (htx : text.length ≤ 1000) (hsz : (Txt.slice text (some p) none).length ≤ 60) (hok : okP ((patF true (Txt.slice text (some p) none).cps.toList).length + 1) (patF true (Txt.slice text (some p) none).cps.toList)) (hal : ∀ c ∈ patF true (Txt.slice text (some p) none).cps.toList, okc c)
    (retN : ∀ T' h' tk', told ((transF ((patF true (Txt.slice text (some p) none).cps.toList).length + 1) (patF true (Txt.slice text (some p) none).cps.toList)).length + 2) (transF ((patF true (Txt.slice text (some p) none).cps.toList).length + 1) (patF true (Txt.slice text (some p) none).cps.toList) ++ [Str.ofString ""]) p [] = none → Fr h₀ L h' m → News h₀ L h' (news ++ T') → TabL T' → Q .none { s with heap := h', toks := tk' })
    (retS : ∀ q ks t ka vs x T' h' tk', told ((transF ((patF true (Txt.slice text (some p) none).cps.toList).length + 1) (patF true (Txt.slice text (some p) none).cps.toList)).length + 2) (transF ((patF true (Txt.slice text (some p) none).cps.toList).length + 1) (patF true (Txt.slice text (some p) none).cps.toList) ++ [Str.ofString ""]) p [] = some (q, ks) → StrsAre vs ks → Fr h₀ L h' m → News h₀ L h' ((x, tup2 (.int q t) (.ref ka)) :: (ka, tupObj vs) :: (news ++ T')) → TabL T' → Q (.ref x) { s with heap := h', toks := tk' }) :
    wpAny (model PySem.Challenge.rw_il0176_01.prog w) (ktrTop dp un gd cn cs L a ccd cl outer) (call (.ref 345) [.str text tt, .int p tp]) Q E s := by
  revert X; k_fill; intro X
  have hfd := show fd 60 = _ from by (conv => lhs; whnf)
  refine wpAny_call ?_
  k_dflt (walk_at "ENTER")
  clear hfd
  k_steps
  refine While_anyV (ToldJ _ _ _ text tt _ _ (news ++ _) (told ((transF ((patF true (Txt.slice text (some p) none).cps.toList).length + 1) (patF true (Txt.slice text (some p) none).cps.toList)).length + 2) (transF ((patF true (Txt.slice text (some p) none).cps.toList).length + 1) (patF true (Txt.slice text (some p) none).cps.toList) ++ [Str.ofString ""]) p [])) ((transF ((patF true (Txt.slice text (some p) none).cps.toList).length + 1) (patF true (Txt.slice text (some p) none).cps.toList)).length + 2) (ToldJ.of _ _ _ p _ _ [] [] 0 _ _ rfl (fr_kst (by k_asm) (kc rfl (kc rfl (kc rfl (kc rfl (kc rfl kn)))))) (by k_asm) (allLt_cons (by assumption)) .nil (Nat.zero_le _) (by assumption) ⟨_, rfl⟩ (parts_small hsz) (told_fuel (by assumption)) rfl) ?_
  rintro n s' q9 hq9 ⟨h9, tk9, u9, pl, tpl, ka, vs, ks, k, tk2, ps, F9, N9, fr9, hs9, hkl9, hps9, hend9, hsm9, hn9, hres9⟩
  cases ps with
  | nil => exact absurd rfl hend9.ne
  | cons p' r =>
  obtain ⟨tp', hg, hr, hlt⟩ := strs_drop hps9
  rcases n with _ | n
  · exact absurd hn9 (Nat.not_lt_zero _)
  have hvl9 : vs.length ≤ 1000 := by have := strs_len hs9; omega
  have hg0 := at_nat hg
  have hp9 := hsm9 p' (.head _)
  by_cases hbr : Txt.slice p' none (some 1) = Str.ofString "["
  · have hend1 := hend9.tail (br_ne hbr)
    cases r with
    | nil => exact absurd rfl hend1.ne
    | cons q r' =>
    obtain ⟨tq, hgq, hrq, hltq⟩ := strs_drop hr
    have hg1 := at_nat1 hgq
    have hq9 := hsm9 q (.tail _ (.head _))
    k_steps
    refine if_var ?_
    intro k9 hK9
    by_cases hq : q = Str.ofString "\\."
    · have hend2 := hend1.tail (bslash_ne hq)
      k_steps
      exact ⟨n, Nat.lt_succ_self n, ToldJ.of _ _ _ (pl + (((brName p').length : Int) + 2) + 1) _ _ (vs ++ [_]) (ks ++ [brName p']) (k + 1 + 1) _ r' rfl (fr_kst (by k_asm) (kc rfl (kc rfl (kc rfl (kc rfl (kc rfl kn)))))) (news_take1 (by k_asm)) (by assumption) (strs_snoc hs9) (by simp only [List.length_append, List.length_cons, List.length_nil]; omega) hrq hend2 (fun x hx => hsm9 x (.tail _ (.tail _ hx))) (by first | exact sub_next (by with_reducible assumption) (by with_reducible assumption) | omega) ((told_br1 hbr hq).symm.trans hres9)⟩
    · k_steps
      exact retS _ _ _ _ _ _ _ _ _ (hres9.symm.trans (told_br2 hbr hq)) (strs_snoc hs9) (by k_asm) (news_xk (by k_asm)) (by assumption)
  · k_steps
    refine While_anyV (RunJ _ _ _ text tt pl tpl _ _ ka k _ (runOf (p' :: r)).1 (runOf (p' :: r)).2) (k + 1000) (RunJ.of _ _ _ (Str.ofString "") _ k _ (p' :: r) rfl (fr_kst (by k_asm) (kc rfl (kc rfl (kc rfl (kc rfl (kc rfl (kc rfl kn))))))) (by k_asm) hps9 hend9 hsm9 (Nat.le_refl _) (Nat.le_of_lt hlt) (by omega) (Nat.le_of_eq (Nat.zero_add k)) (empty_app _) rfl) ?_
    rintro n2 s' q9 hq9 ⟨h8, tk8, u8, nm, tnm, k2, tk3, ps2, F8, N8, hps8, hend8, hsm8, hk1, hk2, hn2, hnm, htot, hrest⟩
    cases ps2 with
    | nil => exact absurd rfl hend8.ne
    | cons p2 r2 =>
    obtain ⟨tp2, hgg, hr2, hlt2⟩ := strs_drop hps8
    have hg2 := at_nat hgg
    have hp2 := hsm8 p2 (.head _)
    by_cases hsg : p2.length = 1 ∧ p2 ≠ Str.ofString "="
    · obtain ⟨hs1, hs2⟩ := hsg
      obtain ⟨htot', hrest'⟩ := run_go hs1 hs2 htot hrest
      rcases n2 with _ | n2
      · exact absurd hn2 (Nat.not_lt_zero _)
      k_steps
      exact ⟨n2, Nat.lt_succ_self n2, RunJ.of _ _ _ (nm ++ p2) _ (k2 + 1) _ r2 rfl (fr_kst (by k_asm) (kc rfl (kc rfl (kc rfl (kc rfl (kc rfl (kc rfl kn))))))) (by k_asm) hr2 (hend8.tail (sign_ne hs1)) (fun x hx => hsm8 x (.tail _ hx)) (by first | exact sub_next (by with_reducible assumption) (by with_reducible assumption) | omega) (by first | exact sub_next (by with_reducible assumption) (by with_reducible assumption) | omega) (by first | exact sub_next (by with_reducible assumption) (by with_reducible assumption) | omega) (by rw [len_app1]; omega) htot' hrest'⟩
    · have hrt := run_tot hsg htot hrest
      refine mid_bool false (fun K hK => ?_) (fun tk9 => ?_)
      · by_cases hl1 : p2.length = 1
        · have he2 : p2 = Str.ofString "=" := Classical.byContradiction fun e => hsg ⟨hl1, e⟩
          k_steps
          exact hK _
        · k_steps
          exact hK _
      by_cases hnm0 : nm = Str.ofString ""
      · k_steps
        exact retN _ _ _ (hres9.symm.trans (told_c hbr hrt hnm0)) (by k_asm) (news_out (by k_asm)) (by assumption)
      · k_steps
        refine if_var ?_
        intro k9 hK9
        by_cases hq : p2 = Str.ofString "\\."
        · have hend2 := hend8.tail (bslash_ne hq)
          k_steps
          exact ⟨n, Nat.lt_succ_self n, ToldJ.of _ _ _ (pl + (nm.length : Int) + 1) _ _ (vs ++ [_]) (ks ++ [nm]) (k2 + 1) _ r2 rfl (fr_kst (by k_asm) (kc rfl (kc rfl (kc rfl (kc rfl (kc rfl kn)))))) (news_take1 (by k_asm)) (by assumption) (strs_snoc hs9) (by simp only [List.length_append, List.length_cons, List.length_nil]; omega) hr2 hend2 (fun x hx => hsm8 x (.tail _ hx)) (by first | exact sub_next (by with_reducible assumption) (by with_reducible assumption) | omega) ((told_a hbr hrt hnm0 hq).symm.trans hres9)⟩
        · k_steps
          exact retS _ _ _ _ _ _ _ _ _ (hres9.symm.trans (told_b hbr hrt hnm0 hq)) (strs_snoc hs9) (by k_asm) (news_xk (by k_asm)) (by assumption)
end
end
section
open PySem PySem.W PySem.Spec PySem.Calls PyProof.Rows
set_option maxRecDepth 100000
noncomputable def e61 := show fd 61 = _ from by (conv => lhs; whnf)
end
section
open PySem PySem.W PySem.Calls PyProof.Rows
set_option maxRecDepth 100000
set_option maxHeartbeats 8000000
abbrev rl : OpenRow := PySem.Challenge.rw_il0176_01.row
noncomputable def caller (vs : List Value) : Sem PySem.Fin := do match ← nsGet mainNs rl.name with
  | some f => do ret (← PySem.call f vs)
  | none => unsupported "claim.caller:no-such-global"
/-- the end of the call: what stood stands, but for code tables that grew; no generator was made -/
noncomputable def GoodT (c : ClaimW) (cl : Str → Option Addr) (mean : ExcName → Option Value) (args : List WData) (s₁ : Shared) (r : Result) (s' : Shared) : Prop := GoodWG c cl mean args s₁ r s' ∧ s'.gens = #[]
theorem GoodT.ends {c : ClaimW} {s₀ s₁ s' : Shared} {args : List WData} {vs : List Value} {as : List Addr} {r : Result} (hsame : c.same = none) (hwi : c.within = []) (hi : ∀ a b, c.ident a b = true)
    (hrd : ReadsAllW c.records (classAt s₀.heap) s₁.heap vs args as) (hold : ∀ a ∈ as, ∃ o, s₁.heap.get? a = some o) (hos₁ : s₁.os = s₀.os)
    (g : GoodT c (classAt s₀.heap) (ExcName.means s₀.heap) args { s₁ with gens := #[] } r s') : c.Ends s₀ args vs s₁ r s' ∧ s'.os = s₀.os ∧ s'.gens = #[] := by
  obtain ⟨⟨hcase, hK, hos, _⟩, hg'⟩ := g
  refine ⟨?_, hos.trans hos₁, hg'⟩
  rcases hcase with ⟨v, d, bs, rfl, hnr, hrv, hpost, hun⟩ | ⟨e, ob, cls, rfl, he, hcls, hpr, hnew⟩
  · exact .inl ⟨v, rfl, hnr, ⟨d, args, bs, as, hrv, hrd.keepsK fun b o e hc => hK.get_of_cls e hc, hpost, fun hu => ⟨(hun hu).1, (hun hu).2, fun a ha hb' => by
      obtain ⟨o, ho⟩ := hold a hb'
      have := (hun hu).2 a ha
      rw [show s₁.heap.get? a = none from this] at ho; cases ho⟩, fun _ _ => hi _ _⟩, (fun i hi' => by rw [hsame] at hi'; cases hi'), (fun b o hb' _ _ => hK.old b o hb'), fun i hi' => by rw [hwi] at hi'; cases hi'⟩
  · exact .inr ⟨e, ob, cls, rfl, he, hcls, hpr, hnew, fun b o hb' => hK.old b o hb'⟩
/-- what holds of every code's end holds of each end -/
theorem at_each_end {w : World} {f : Flow} {s' : Shared} {R R' : Result → Shared → Prop} (h : ∀ (M : Model) (A : Around) (cd : Code) (s : Shared), codeAny M A cd R s → codeAny M A cd R' s) (g : R (.ok f) s') : R' (.ok f) s' := by
  have h1 := h ⟨fun _ => pure (.done f), default, w⟩ callerA (.builtin "claim.caller" {}) s' (codeAny_of_tree (wpAny_pure g)) ⟨.builtin "claim.caller" {}, none, none, [], none⟩ default rfl
    ⟨rfl, by decide +kernel, fun l hl => by cases hl; rfl, fun g hg => by cases hg; rfl, by decide +kernel⟩
  rw [wpCode_iff_wp] at h1
  exact h1
/-- from a walk over the ghost heap -/
theorem post_T {M : Model} {A : Around} {cd : Code} {s s₁ : Shared} {cw : ClaimW} {cl : Str → Option Addr} {mean : ExcName → Option Value} {args : List WData} {tabs : List (Addr × Addr)} (hT : TabsAt tabs s₁.heap) (hr : ∀ a x, cw.raises a x = false)
    (h : codeAny M A cd (fun r s' => GoodW cw cl mean args { s₁ with heap := ghostOf s₁.heap tabs } r s' ∧ GrownAll tabs s'.heap) s) : codeAny M A cd (GoodT cw cl mean args s₁) s :=
  codeAny_mono h fun r s' g => by
    refine ⟨?_, g.1.2.2.2⟩
    rcases r with x | f
    rotate_left
    · exact at_each_end (w := M.w) (fun M A cd s => kn_post hT hr) g
    · rcases g.1.1 with ⟨_, _, _, r1, _⟩ | ⟨_, _, _, _, _, _, r4, _⟩
      · cases r1
      · rw [hr] at r4; cases r4
/-- the walk, over the heap with the code tables laid aside -/
abbrev WalkT (q : Program) (loose : List Str) (XP : (Str → Option Value) → Heap → Prop) (YP : World → Heap → Prop) (r : RowW) (d : DefRec) (kwd : List (Str × Expr)) (run : Value → List Value → Sem Value) : Prop :=
  ∀ (w : World) (s₀ s₁ : Shared) (mg mb : Str → Option Value), Ground q loose r.records XP w s₀ mg mb s₁.heap → YP w s₁.heap → ∀ (a : Addr) (o : Obj) (pm cd doc dV kV : Value), s₁.heap.get? a = some o →
    o.data = .func { docDef d.name d.params d.body d.scope pm cd doc with defaults := dV, kwdefaults := kV } → s₁.heap.CodeRec cd d.name → Dflts mg s₁.heap d.params kwd dV kV → mg d.name = some (.ref a) → s₁.gens = #[] →
    ∀ (args : List WData) (vals : List Value) (as : List Addr), r.claim.pre args = true → WData.layableAll args = true → ReadsAllW r.records (classAt s₀.heap) s₁.heap vals args as → WellAll w.params s₁.heap vals args → (∀ a ∈ as, (a == sysModules) = false) →
      wpAny (model r.prog w) callerA (run (.ref a) vals) (fun v s' => GoodT r.claim (classAt s₀.heap) (ExcName.means s₀.heap) args s₁ (.ok (.ret v)) s')
        (fun e s' => GoodT r.claim (classAt s₀.heap) (ExcName.means s₀.heap) args s₁ (.error e) s') s₁
theorem said_row (said : rl.wellSaid = true) (hw : rl.toRowW.promised) {d : DefRec} {kwd : List (Str × Expr)} (hdef : defOf qv rl.name = some (d, kwd)) (hp : rl.prog.theDef rl.name = some (d.params, d.body, d.scope)) (hk : kwWritten? d.params.kwonlyargs d.params.kw_defaults = some kwd)
    (ok : (opensWell rl.prog && (frees rl.toRowW && rl.within.isEmpty)) = true) (hb : rl.prog.bare) (hr : rl.records = []) (hn : rl.writes = false)
    (walk : WalkT qv looseV (XL qv []) Says rl.toRowW d kwd fun f vs => PySem.call f vs) : rl.Holds := by
  obtain ⟨o1, k5⟩ := Bool.and_eq_true_iff.mp ok
  obtain ⟨k5, k6⟩ := Bool.and_eq_true_iff.mp k5
  obtain ⟨f1, f2, f3, f4, f5⟩ := frees_parts k5
  have f6 : rl.toRowW.claim.within = [] := List.isEmpty_iff.mp k6
  have hi := ident_freeW f2 f3 f4
  refine ⟨said, hw, ⟨hb, o1, rfl⟩, hw.witness, fun w => ⟨(behind w).1, fun s' hs' => ?_⟩⟩
  obtain ⟨s₀, q0, q1, s, q2, q3, q4, q5, G0, Y⟩ := (behind w).2 s' hs'
  have G : Ground qv looseV rl.records (XL qv []) w s (s.heap.nsMap mainGlobals) (s.heap.nsMap builtinsNs) s.heap := by rw [hr]; exact G0
  refine ⟨s₀, q0, q1, s, q2, fun n hn => ?_, ?_, ?_, ?_⟩
  · obtain rfl : n = rl.name := by split at hn <;> simp_all
    exact pinned_of_view q5 G0 hdef hp hk
  · exact fun x hx => absurd (hr ▸ hx : x ∈ ([] : List (Str × _))) List.not_mem_nil
  · exact fun x hx => absurd (hr ▸ hx : x ∈ ([] : List (Str × _))) List.not_mem_nil
  · refine ClaimW.callFrom_of_specN (c := rl.toRowW.claim) q3 q4 fun args hpre hlay ord hord => ?_
    obtain ⟨⟨vs, s₁⟩, hlaid⟩ := Option.isSome_iff_exists.mp (layAllW_isSome (P := w.params) (ord := ord) G.has args rl.args s (pre_splitW hpre).1)
    have keeps := layAllW_keeps _ _ _ hlaid
    have hal := layAllW_rest _ _ _ hlaid
    obtain ⟨as, hrd, hin, hold⟩ := reads_layAllW hord _ _ _ hlaid hlay s₁.heap (fun _ _ e => e)
    have G₁ := G.keeps (fun mg h h' x k => XL.keeps mg h h' x k) keeps
    obtain ⟨a, o, pm, cd, doc, dV, kV, e1, e2, e3, e4, e5⟩ := G₁.fn hdef
    have h := walk w s { s₁ with gens := #[] } _ _ G₁ (Y.keeps keeps) a o pm cd doc dV kV e2 e3 e4 e5 (defOf_name hdef ▸ e1) rfl args vs as hpre hlay hrd (well_layAllW hord args s _ hlaid _ fun _ _ e => e)
      (fun a ha => beq_eq_false_iff_ne.mpr fun e => by have := (hin.2.2 a ha).1; subst e; exact absurd G.low (Nat.not_lt.mpr this))
    have hw' : ∀ {α : Prop}, rl.writes = true → α := fun {α} e => by rw [hn] at e; cases e
    refine ⟨vs, s₁, hlaid, wpAny_bind (wpAny_nsGet G₁.T.g ?_)⟩
    rw [e1]
    refine wpAny_bind (wpAny_mono h (fun v s' g => wpAny_pure ?_) fun e s' g => ?_)
    · have z := GoodT.ends (c := rl.toRowW.claim) f1 f6 hi hrd hold hal.2.2.1 g
      exact ⟨_, rfl, z.1, z.2.1, z.2.2, fun q => hw' q⟩
    · have z := GoodT.ends (c := rl.toRowW.claim) f1 f6 hi hrd hold hal.2.2.1 g
      exact ⟨z.1, z.2.1, z.2.2, fun q => hw' q⟩
end
section
open PySem PySem.W PySem.Calls PyProof.Rows
set_option maxRecDepth 100000
set_option maxHeartbeats 8000000
/-- a code object's head, seen in a written part -/
noncomputable def headOk (K : Frag) (c P : Addr) : Bool := match K.lookup c with
  | some ⟨.type t, _, .fields vs, _⟩ => t == "code" && (match (vs[11]? : Option Value) with | some (Value.ref p) => p == P | _ => false) && (match vs.getD 18 .none with | .str _ _ => true | _ => false) && (match vs.getD 7 .none with | .int _ _ => true | _ => false) &&
    (match vs.getD 9 .none with | .bool _ => true | _ => false) && (match vs.getD 10 .none with | .int _ _ => true | _ => false) && !(c == P)
  | _ => false
theorem head_of {K : Frag} {h : Heap} {c P : Addr} (X : K.In h) (e : headOk K c P = true) : CodeHd h c P := by
  unfold headOk at e
  split at e
  · rename_i t od vs sl hl
    simp only [Bool.and_eq_true] at e
    obtain ⟨⟨⟨⟨⟨⟨e1, e2⟩, e3⟩, e4⟩, e5⟩, e6⟩, e7⟩ := e
    have e1 : t = "code" := by simpa using e1
    subst e1
    have e8 : vs[11]? = some (.ref P) := by
      split at e2
      · rename_i p hp
        rw [hp, eq_of_beq e2]
      · cases e2
    have e9 : vs.getD 11 .none = .ref P := by simp [Array.getD_eq_getD_getElem?, e8]
    split at e3
    rotate_left
    · cases e3
    split at e4
    rotate_left
    · cases e4
    split at e5
    rotate_left
    · cases e5
    split at e6
    rotate_left
    · cases e6
    exact ⟨_, vs, _, _, _, _, _, _, _, X _ _ hl, rfl, rfl, e8, e9, by assumption, by assumption, by assumption, by assumption, by simpa using e7⟩
  · cases e
theorem enter_T {M : Model} {A : Around} {c : ClaimW} {cl : Str → Option Addr} {mean : ExcName → Option Value} {args : List WData} {s₁ s : Shared} {f : Value} {pos : List Value} (h : codeAny M A (.call f ⟨pos, []⟩) (GoodT c cl mean args s₁) s) :
    wpAny M A (PySem.call f pos) (fun v s' => GoodT c cl mean args s₁ (.ok (.ret v)) s') (fun e s' => GoodT c cl mean args s₁ (.error e) s') s :=
  wpAny_call (codeAny_mono h fun r s' g => by
    rcases g.1.1 with ⟨v, _, _, rfl, _⟩ | ⟨e, _, _, rfl, _⟩
    · exact g
    · exact g)
theorem Says.tabs {w : World} {h : Heap} (Y : Says w h) : TabsAt [(204, 200), (316, 312)] h :=
  List.forall_mem_cons.mpr ⟨⟨head_of Y.k (by kernel_rfl), Y.t200⟩, List.forall_mem_cons.mpr ⟨⟨head_of Y.k (by kernel_rfl), Y.t312⟩, fun _ h => nomatch h⟩⟩
theorem to_walk (said : rl.wellSaid = true) (hw : rl.toRowW.promised) (walk : ∃ d kwd, defOf qv rl.name = some (d, kwd) ∧ rl.prog.theDef rl.name = some (d.params, d.body, d.scope) ∧ kwWritten? d.params.kwonlyargs d.params.kw_defaults = some kwd ∧ WalkT qv looseV (XL qv []) Says rl.toRowW d kwd fun f vs => PySem.call f vs) : rl.Holds := by
  obtain ⟨d, kwd, a, b, c, h⟩ := walk
  exact said_row said hw a b c (by decide +kernel) ⟨rfl, rfl, rfl, rfl, rfl, by decide +kernel⟩ (by rfl) (by rfl) h
end
section
open PySem PySem.W PySem.Spec PySem.Calls PyProof.Rows
set_option maxRecDepth 100000
set_option maxHeartbeats 4000000
/-- one part of a key, on signs: its name and how many signs it takes -/
noncomputable def partL (B : Nat → Bool) : List Nat → Option (List Nat × Nat)
  | [] => none
  | c :: r =>
    if B c = true then some ((c :: r).takeWhile B, ((c :: r).takeWhile B).length)
    else if c = 39 then (if 39 ∈ r then some (r.takeWhile (· ≠ 39), (r.takeWhile (· ≠ 39)).length + 2) else none)
    else none
/-- a key, on signs -/
noncomputable def keyL (B : Nat → Bool) : Nat → List Nat → Int → List Str → Option (Int × List Str)
  | 0, _, _, _ => none
  | n + 1, ws, pl, key =>
    match partL B ws with
    | none => none
    | some (nm, k) => if (ws.drop k).head? = some 46 then keyL B n (ws.drop k).tail (pl + k + 1) (key ++ [⟨nm.toArray⟩]) else some (pl + k, key ++ [⟨nm.toArray⟩])
structure AlB (B : Nat → Bool) : Prop where
  q : B 39 = false
  d : B 46 = false
  e : B 61 = false
noncomputable def Al (B : Nat → Bool) (ws : List Nat) : Prop := ∀ c ∈ ws, c = 39 ∨ c = 46 ∨ c = 61 ∨ (B c = true ∧ c ≠ 91 ∧ c ≠ 93 ∧ c ≠ 95 ∧ c ≠ 46 ∧ c ≠ 39 ∧ c ≠ 61)
theorem Al.tail {B : Nat → Bool} {c : Nat} {ws : List Nat} (h : Al B (c :: ws)) : Al B ws := fun x hx => h x (.tail _ hx)
theorem Al.drop {B : Nat → Bool} {ws : List Nat} (h : Al B ws) (k : Nat) : Al B (ws.drop k) := fun x hx => h x (List.mem_of_mem_drop hx)
theorem patF_no (b : Bool) : ∀ {ws : List Nat}, 39 ∉ ws → patF b ws = ws
  | [], _ => rfl
  | c :: r, h => by
    have hc : c ≠ 39 := fun e => h (e ▸ .head _)
    rw [patF, if_neg hc, patF_no b fun hm => h (.tail _ hm)]
theorem patF_q : ∀ {ws : List Nat}, 39 ∈ ws → patF false ws = ws.takeWhile (· ≠ 39) ++ 93 :: patF true (ws.dropWhile (· ≠ 39)).tail
  | [], h => nomatch h
  | c :: r, h => by
    by_cases hc : c = 39
    · subst hc
      rw [patF, if_pos rfl]
      simp
    · have hm : 39 ∈ r := by
        rcases List.mem_cons.mp h with e | h
        · exact absurd e.symm hc
        · exact h
      rw [patF, if_neg hc, patF_q hm]
      simp [hc]
/-- the parts of a text's pattern -/
noncomputable def pts (n : Nat) (ws : List Nat) : List Str := transF n (patF true ws) ++ [Str.ofString ""]
theorem pts_other {n c : Nat} {r : List Nat} (hc : c ≠ 39) (h91 : c ≠ 91) : pts (n + 1) (c :: r) = escS c :: pts n r := by
  unfold pts
  rw [patF, if_neg hc, tr_other h91]; rfl
theorem no93 {B : Nat → Bool} (hB : AlB B) {ws : List Nat} (h : Al B ws) : ∀ c ∈ ws, c ≠ 93 := fun c hc e => by
  subst e
  rcases h _ hc with e | e | e | ⟨_, _, e, _⟩
  · cases e
  · cases e
  · cases e
  · exact e rfl
theorem takeWhile_app {l r : List Nat} {x : Nat} (h : ∀ c ∈ l, c ≠ x) : (l ++ x :: r).takeWhile (· ≠ x) = l ∧ (l ++ x :: r).dropWhile (· ≠ x) = x :: r := by
  induction l with
  | nil => simp
  | cons c l ih =>
    have hc := h c (.head _)
    have := ih fun y hy => h y (.tail _ hy)
    simp [hc, this.1, this.2] at *
    exact this
theorem pts_in {B : Nat → Bool} (hB : AlB B) {n : Nat} {r : List Nat} (h : Al B r) (hm : 39 ∈ r) :
    pts (n + 1) (39 :: r) = ⟨(91 :: 95 :: (r.takeWhile (· ≠ 39) ++ [93])).toArray⟩ :: pts n (r.dropWhile (· ≠ 39)).tail := by
  have hn : ∀ c ∈ 95 :: r.takeWhile (· ≠ 39), c ≠ 93 := fun c hc => by
    rcases List.mem_cons.mp hc with rfl | hc
    · decide
    · exact no93 hB h c ((List.takeWhile_prefix _).subset hc)
  obtain ⟨e1, e2⟩ := takeWhile_app (r := patF true (r.dropWhile (· ≠ 39)).tail) hn
  unfold pts
  rw [patF, if_pos rfl, if_pos rfl]
  show transF (n + 1) (91 :: 95 :: patF false r) ++ _ = _
  rw [patF_q hm]
  rw [tr_in (by simp)]
  unfold upto
  rw [show (95 :: (r.takeWhile (· ≠ 39) ++ 93 :: patF true (r.dropWhile (· ≠ 39)).tail)) = (95 :: r.takeWhile (· ≠ 39)) ++ 93 :: patF true (r.dropWhile (· ≠ 39)).tail from rfl, e1, e2]
  rfl
theorem pts_out {B : Nat → Bool} (hB : AlB B) {n : Nat} {r : List Nat} (h : Al B r) (hm : 39 ∉ r) :
    ∃ t, pts (n + 1) (39 :: r) = Str.ofString "\\[" :: t := by
  unfold pts
  rw [patF, if_pos rfl, if_pos rfl]
  show ∃ t, transF (n + 1) (91 :: 95 :: patF false r) ++ _ = _
  rw [patF_no false hm, tr_out (fun hc => by
    rcases List.mem_cons.mp hc with e | hc
    · cases e
    · exact no93 hB h _ hc rfl)]
  exact ⟨_, rfl⟩
end
section
open PySem PySem.W PySem.Spec PySem.Calls PyProof.Rows
set_option maxRecDepth 100000
set_option maxHeartbeats 4000000
theorem first_eq {c : Nat} {r : List Nat} : Txt.slice ⟨(c :: r).toArray⟩ none (some 1) = ch c := by
  have h := slice_closes_to (x := ⟨(c :: r).toArray⟩) (j := 1) ⟨by omega, by simp; omega⟩
  rw [eq_of_beq h]
  rfl
theorem escS_ch {c : Nat} (h : c ≠ 46) : escS c = ch c := by unfold escS; rw [if_neg h]; rfl
theorem escS_dot : escS 46 = Str.ofString "\\." := by unfold escS; rw [if_pos rfl]
theorem eqs_eq : Str.ofString "=" = ch 61 := by decide +kernel
theorem pts_nil {n : Nat} : pts n [] = [Str.ofString ""] := by
  unfold pts
  cases n <;> rfl
theorem run_pts {B : Nat → Bool} (hB : AlB B) : ∀ (ws : List Nat) (n : Nat), Al B ws → 2 * ws.length < n →
    (runOf (pts n ws)).1 = ⟨(ws.takeWhile B).toArray⟩ ∧ ∃ n', 2 * (ws.dropWhile B).length < n' ∧ (runOf (pts n ws)).2 = pts n' (ws.dropWhile B)
  | [], n, _, hn => by
    rw [pts_nil, run_stop (by decide +kernel)]
    exact ⟨rfl, n, hn, pts_nil.symm⟩
  | c :: r, 0, _, hn => by omega
  | c :: r, n + 1, h, hn => by
    rw [List.length_cons] at hn
    by_cases hc : B c = true
    · have h39 : c ≠ 39 := fun e => by rw [e, hB.q] at hc; cases hc
      have h46 : c ≠ 46 := fun e => by rw [e, hB.d] at hc; cases hc
      have h61 : c ≠ 61 := fun e => by rw [e, hB.e] at hc; cases hc
      have h91 : c ≠ 91 := by
        rcases h c (.head _) with e | e | e | ⟨_, e, _⟩
        · exact absurd e h39
        · exact absurd e h46
        · exact absurd e h61
        · exact e
      obtain ⟨i1, n', i2, i3⟩ := run_pts hB r n h.tail (by omega)
      rw [pts_other h39 h91, escS_ch h46, run_more rfl (by rw [eqs_eq]; exact fun e => h61 (ch_inj2 e)), List.takeWhile_cons_of_pos hc, List.dropWhile_cons_of_pos hc]
      refine ⟨?_, n', i2, i3⟩
      show ch c ++ (runOf (pts n r)).1 = _
      rw [i1, app_cps]
      show (⟨#[c] ++ (r.takeWhile B).toArray⟩ : Str) = _
      congr 1
      apply Array.toList_inj.mp
      simp
    · rw [List.takeWhile_cons_of_neg hc, List.dropWhile_cons_of_neg hc]
      have stop : ∀ p t, pts (n + 1) (c :: r) = p :: t → ¬ (p.length = 1 ∧ p ≠ Str.ofString "=") → (runOf (pts (n + 1) (c :: r))).1 = ⟨([] : List Nat).toArray⟩ ∧ ∃ n', 2 * (c :: r).length < n' ∧ (runOf (pts (n + 1) (c :: r))).2 = pts n' (c :: r) := by
        intro p t e hp
        rw [e, run_stop hp]
        exact ⟨rfl, n + 1, by rw [List.length_cons]; omega, e.symm⟩
      by_cases h39 : c = 39
      · subst h39
        by_cases hm : 39 ∈ r
        · refine stop _ _ (pts_in hB h.tail hm) fun e => ?_
          have := e.1
          simp [Str.length] at this
        · obtain ⟨t, ht⟩ := pts_out (n := n) hB h.tail hm
          exact stop _ _ ht (by decide +kernel)
      · rcases h c (.head _) with e | e | e | ⟨e, _⟩
        · exact absurd e h39
        · subst e
          refine stop _ _ (pts_other (by decide) (by decide)) ?_
          rw [escS_dot]; decide +kernel
        · subst e
          refine stop _ _ (pts_other (by decide) (by decide)) ?_
          rw [escS_ch (by decide), eqs_eq]
          exact fun e => e.2 rfl
        · exact absurd e hc
end
section
open PySem PySem.W PySem.Spec PySem.Calls PyProof.Rows
set_option maxRecDepth 100000
set_option maxHeartbeats 4000000
open PySem.Builtin PySem.Builtin.Str in
theorem slice_neg1 {x : Str} (h : 1 ≤ x.length) : Txt.slice x (some 2) (some (-1)) = Txt.slice x (some 2) (some ((x.length : Int) - 1)) := by
  have e : strSliceIndices (some 2) (some (-1)) 1 x.length = strSliceIndices (some 2) (some ((x.length : Int) - 1)) 1 x.length := by
    unfold strSliceIndices
    simp only [show ((-1 : Int) < 0) from by decide, if_true, if_neg (show ¬ ((x.length : Int) - 1 < 0) by omega)]
    rw [show (-1 : Int) + (x.length : Int) = (x.length : Int) - 1 by omega]
  unfold Txt.slice
  rw [e]
theorem br_name {u : List Nat} : brName ⟨(91 :: 95 :: (u ++ [93])).toArray⟩ = ⟨u.toArray⟩ := by
  have hl : (⟨(91 :: 95 :: (u ++ [93])).toArray⟩ : Str).length = u.length + 3 := by
    show (91 :: 95 :: (u ++ [93])).toArray.size = _
    simp
  unfold brName
  rw [slice_neg1 (by rw [hl]; omega), hl]
  have h := slice_closes (x := ⟨(91 :: 95 :: (u ++ [93])).toArray⟩) (i := 2) (j := ((u.length + 3 : Nat) : Int) - 1) ⟨by omega, by omega, by simp; omega⟩
  rw [eq_of_beq h]
  rw [show (((u.length + 3 : Nat) : Int) - 1 - 2).toNat = u.length by omega]
  show (⟨((u ++ [93]).take u.length).toArray⟩ : Str) = _
  rw [List.take_left]
theorem drop_takeWhile (B : Nat → Bool) (ws : List Nat) : ws.drop (ws.takeWhile B).length = ws.dropWhile B := by
  induction ws with
  | nil => rfl
  | cons c r ih =>
    by_cases h : B c = true
    · rw [List.takeWhile_cons_of_pos h, List.dropWhile_cons_of_pos h]; exact ih
    · rw [List.takeWhile_cons_of_neg h, List.dropWhile_cons_of_neg h]; rfl
theorem quote_drop {r : List Nat} (h : 39 ∈ r) : (39 :: r).drop ((r.takeWhile (· ≠ 39)).length + 2) = (r.dropWhile (· ≠ 39)).tail := by
  rw [show (r.takeWhile (· ≠ 39)).length + 2 = ((r.takeWhile (· ≠ 39)).length + 1) + 1 from rfl, List.drop_succ_cons, ← List.drop_drop, drop_takeWhile]
  cases r.dropWhile (· ≠ 39) <;> rfl
theorem pts_head {B : Nat → Bool} (hB : AlB B) {n : Nat} {ws : List Nat} (h : Al B ws) (hn : 2 * ws.length < n) :
    ∃ q t, pts n ws = q :: t ∧ ((ws.head? = some 46 ∧ q = Str.ofString "\\." ∧ ∃ n', 2 * ws.tail.length < n' ∧ t = pts n' ws.tail) ∨ (ws.head? ≠ some 46 ∧ q ≠ Str.ofString "\\.")) := by
  cases ws with
  | nil => exact ⟨_, _, pts_nil, .inr ⟨by simp, by decide +kernel⟩⟩
  | cons c r =>
    cases n with
    | zero => omega
    | succ n =>
    rw [List.length_cons] at hn
    by_cases h39 : c = 39
    · subst h39
      by_cases hm : 39 ∈ r
      · refine ⟨_, _, pts_in hB h.tail hm, .inr ⟨by simp, fun e => ?_⟩⟩
        have := congrArg (fun x : Str => x.cps[0]?) e
        revert this
        rw [show (Str.ofString "\\.") = ⟨#[92, 46]⟩ by decide +kernel]
        simp
      · obtain ⟨t, ht⟩ := pts_out (n := n) hB h.tail hm
        exact ⟨_, t, ht, .inr ⟨by simp, by decide +kernel⟩⟩
    · have h91 : c ≠ 91 := by
        rcases h c (.head _) with e | e | e | ⟨_, e, _⟩
        · exact absurd e h39
        · rw [e]; decide
        · rw [e]; decide
        · exact e
      by_cases h46 : c = 46
      · subst h46
        exact ⟨_, _, pts_other (by decide) (by decide), .inl ⟨rfl, escS_dot, n, by simp; omega, rfl⟩⟩
      · refine ⟨_, _, pts_other h39 h91, .inr ⟨by simpa using h46, fun e => ?_⟩⟩
        rw [escS_ch h46] at e
        have := congrArg Str.length e
        revert this
        show ¬ (1 = _)
        decide +kernel
end
section
open PySem PySem.W PySem.Spec PySem.Calls PyProof.Rows
set_option maxRecDepth 100000
set_option maxHeartbeats 4000000
theorem keyL_none {B : Nat → Bool} {N : Nat} {ws : List Nat} {pl : Int} {key : List Str} (h : partL B ws = none) : keyL B (N + 1) ws pl key = none := by rw [keyL, h]
theorem keyL_on {B : Nat → Bool} {N k : Nat} {ws nm : List Nat} {pl : Int} {key : List Str} (h : partL B ws = some (nm, k)) (hd : (ws.drop k).head? = some 46) : keyL B (N + 1) ws pl key = keyL B N (ws.drop k).tail (pl + k + 1) (key ++ [⟨nm.toArray⟩]) := by rw [keyL, h]; exact if_pos hd
theorem keyL_off {B : Nat → Bool} {N k : Nat} {ws nm : List Nat} {pl : Int} {key : List Str} (h : partL B ws = some (nm, k)) (hd : (ws.drop k).head? ≠ some 46) : keyL B (N + 1) ws pl key = some (pl + k, key ++ [⟨nm.toArray⟩]) := by rw [keyL, h]; exact if_neg hd
theorem told_stop {N : Nat} {p : Str} {t : List Str} {pl : Int} {key : List Str} (h : Txt.slice p none (some 1) ≠ Str.ofString "[") (hp : ¬ (p.length = 1 ∧ p ≠ Str.ofString "=")) : told (N + 1) (p :: t) pl key = none := told_no h (by rw [run_stop hp])
theorem dropW_len (B : Nat → Bool) (ws : List Nat) : (ws.dropWhile B).length ≤ ws.length := (List.dropWhile_suffix B).length_le
theorem told_keyL {B : Nat → Bool} (hB : AlB B) : ∀ (N : Nat) (ws : List Nat) (n : Nat) (pl : Int) (key : List Str), Al B ws → 2 * ws.length < n → told N (pts n ws) pl key = keyL B N ws pl key
  | 0, _, _, _, _, _, _ => rfl
  | N + 1, [], n, pl, key, _, _ => by
    rw [pts_nil, told_stop (by decide +kernel) (by decide +kernel)]; rfl
  | N + 1, c :: r, 0, pl, key, _, hn => by omega
  | N + 1, c :: r, n + 1, pl, key, h, hn => by
    have hn0 := hn
    rw [List.length_cons] at hn
    by_cases hc : B c = true
    · have h39 : c ≠ 39 := fun e => by rw [e, hB.q] at hc; cases hc
      have h46 : c ≠ 46 := fun e => by rw [e, hB.d] at hc; cases hc
      have h61 : c ≠ 61 := fun e => by rw [e, hB.e] at hc; cases hc
      have h91 : c ≠ 91 := by
        rcases h c (.head _) with e | e | e | ⟨_, e, _⟩
        · exact absurd e h39
        · exact absurd e h46
        · exact absurd e h61
        · exact e
      obtain ⟨i1, n', i2, i3⟩ := run_pts hB (c :: r) (n + 1) h hn0
      have hp : partL B (c :: r) = some ((c :: r).takeWhile B, ((c :: r).takeWhile B).length) := by rw [partL, if_pos hc]
      have ha : Al B ((c :: r).dropWhile B) := fun x hx => h x ((List.dropWhile_suffix B).subset hx)
      obtain ⟨q, t, e, hq⟩ := pts_head hB ha i2
      rw [e] at i3
      have e0 : pts (n + 1) (c :: r) = ch c :: pts n r := by rw [pts_other h39 h91, escS_ch h46]
      have hbr : Txt.slice (ch c) none (some 1) ≠ Str.ofString "[" := by
        rw [show ch c = ⟨[c].toArray⟩ from rfl, first_eq, open_eq]; exact fun e => h91 (ch_inj2 e)
      have hnm : (⟨((c :: r).takeWhile B).toArray⟩ : Str) ≠ Str.ofString "" := by
        rw [List.takeWhile_cons_of_pos hc]
        intro e
        have := congrArg Str.length e
        revert this
        show ¬ ((c :: r.takeWhile B).toArray.size = 0)
        simp
      have hl : (⟨((c :: r).takeWhile B).toArray⟩ : Str).length = ((c :: r).takeWhile B).length := by show ((c :: r).takeWhile B).toArray.size = _; simp
      rw [e0] at i1 i3 ⊢
      rcases hq with ⟨hh, hq, n2, hn2, ht⟩ | ⟨hh, hq⟩
      · rw [told_a hbr ⟨i1, i3⟩ hnm hq, keyL_on hp (by rw [drop_takeWhile]; exact hh), drop_takeWhile, hl, ht]
        exact told_keyL hB N _ n2 _ _ (fun x hx => ha x (List.mem_of_mem_tail hx)) hn2
      · rw [told_b hbr ⟨i1, i3⟩ hnm hq, keyL_off hp (by rw [drop_takeWhile]; exact hh), hl]
    · by_cases h39 : c = 39
      · subst h39
        by_cases hm : 39 ∈ r
        · have hp : partL B (39 :: r) = some (r.takeWhile (· ≠ 39), (r.takeWhile (· ≠ 39)).length + 2) := by rw [partL, if_neg hc, if_pos rfl, if_pos hm]
          have ha : Al B (r.dropWhile (· ≠ 39)).tail := fun x hx => h x (.tail _ ((List.dropWhile_suffix _).subset (List.mem_of_mem_tail hx)))
          have hdl : (r.dropWhile (· ≠ 39)).tail.length ≤ r.length := by
            have h2 := (List.dropWhile_suffix (fun x => decide (x ≠ 39)) (l := r)).length_le
            rw [List.length_tail]; omega
          obtain ⟨q, t, e, hq⟩ := pts_head hB (n := n) ha (by omega)
          have hl : (brName ⟨(91 :: 95 :: (r.takeWhile (· ≠ 39) ++ [93])).toArray⟩).length = (r.takeWhile (· ≠ 39)).length := by
            rw [br_name]; show (r.takeWhile (· ≠ 39)).toArray.size = _; simp
          have hbr : Txt.slice ⟨(91 :: 95 :: (r.takeWhile (· ≠ 39) ++ [93])).toArray⟩ none (some 1) = Str.ofString "[" := by rw [first_eq, open_eq]
          rw [pts_in hB h.tail hm, e]
          rcases hq with ⟨hh, hq, n2, hn2, ht⟩ | ⟨hh, hq⟩
          · rw [told_br1 hbr hq, keyL_on hp (by rw [quote_drop hm]; exact hh), quote_drop hm, hl, br_name, ht]
            exact told_keyL hB N _ n2 _ _ (fun x hx => ha x (List.mem_of_mem_tail hx)) hn2
          · rw [told_br2 hbr hq, keyL_off hp (by rw [quote_drop hm]; exact hh), hl, br_name]; rfl
        · obtain ⟨t, ht⟩ := pts_out (n := n) hB h.tail hm
          rw [ht, told_stop (by decide +kernel) (by decide +kernel), keyL_none (by rw [partL, if_neg hc, if_pos rfl, if_neg hm])]
      · have hp : partL B (c :: r) = none := by rw [partL, if_neg hc, if_neg h39]
        rw [keyL_none hp]
        rcases h c (.head _) with e | e | e | ⟨e, _⟩
        · exact absurd e h39
        · subst e
          rw [pts_other (by decide) (by decide), escS_dot]
          exact told_stop (by decide +kernel) (by decide +kernel)
        · subst e
          rw [pts_other (by decide) (by decide), escS_ch (by decide)]
          exact told_stop (by decide +kernel) (by rw [eqs_eq]; exact fun e => e.2 rfl)
        · exact absurd e hc
end
section
open PySem PySem.W PySem.Spec PySem.Calls PyProof.Rows
set_option maxRecDepth 100000
set_option maxHeartbeats 4000000
open PySem.Builtin PySem.Builtin.Str PySem.StrLaws
theorem drop_at {x : Str} {q : Nat} (h : q < x.length) : x.cps.toList.drop q = x.cps[q]'h :: x.cps.toList.drop (q + 1) := by
  have hl : q < x.cps.toList.length := by rw [len_cps]; exact h
  rw [List.drop_eq_getElem_cons hl]
  rfl
theorem next_list {x : Str} : ∀ (d q : Nat), q + d = x.length → nextAt x 39 q = if 39 ∈ x.cps.toList.drop q then some (q + ((x.cps.toList.drop q).takeWhile (· ≠ 39)).length) else none
  | 0, q, h => by
    have hd : x.cps.toList.drop q = [] := List.drop_eq_nil_of_le (by rw [len_cps]; omega)
    rw [hd, if_neg (List.not_mem_nil), nextAt, show x.length + 1 - q = 1 by omega]
    simp [List.range', show ¬ (q + 1 ≤ x.length) by omega]
  | d + 1, q, h => by
    have hq : q < x.length := by omega
    have ih := next_list (x := x) d (q + 1) (by omega)
    rw [drop_at hq]
    have e : nextAt x 39 q = if x.cps[q]'hq = 39 then some q else nextAt x 39 (q + 1) := by
      unfold nextAt
      rw [show x.length + 1 - q = (x.length + 1 - (q + 1)) + 1 from by omega, List.range'_succ, List.find?_cons]
      rw [subAt_ch (s := x) hq, decide_eq_true (show q + 1 ≤ x.length from hq)]
      by_cases hx : x.cps[q]'hq = 39
      · rw [if_pos hx, decide_eq_true hx]; rfl
      · rw [if_neg hx, decide_eq_false hx]; rfl
    rw [e]
    by_cases hx : x.cps[q]'hq = 39
    · rw [if_pos hx, if_pos (by rw [hx]; exact .head _), List.takeWhile_cons_of_neg (by simp [hx])]; rfl
    · rw [if_neg hx, ih, List.takeWhile_cons_of_pos (by simpa using hx)]
      by_cases hm : 39 ∈ x.cps.toList.drop (q + 1)
      · rw [if_pos hm, if_pos (.tail _ hm), List.length_cons]; congr 1; omega
      · rw [if_neg hm, if_neg (fun h => by rcases List.mem_cons.mp h with e | e; exact hx e.symm; exact hm e)]
noncomputable def BS (S : List Str) (c : Nat) : Bool := decide (ch c ∈ S)
theorem slice_list {x : Str} {i j : Nat} (h : i ≤ j) (hj : j ≤ x.length) : Txt.slice x (some (i : Int)) (some (j : Int)) = ⟨((x.cps.toList.drop i).take (j - i)).toArray⟩ := by
  have hc := slice_closes (x := x) (i := (i : Int)) (j := (j : Int)) ⟨by omega, by omega, by rw [len_cps]; omega⟩
  rw [eq_of_beq hc]
  rw [show ((j : Int) - (i : Int)).toNat = j - i by omega]
  rfl
theorem take_tw (p : Nat → Bool) (l : List Nat) : l.take (l.takeWhile p).length = l.takeWhile p := (List.prefix_iff_eq_take.mp (List.takeWhile_prefix _)).symm
theorem part_list {S : List Str} {x : Str} {p : Nat} (hp : p ≤ x.length) : partAt S x (p : Int) = (partL (BS S) (x.cps.toList.drop p)).map fun r => (((p + r.2 : Nat) : Int), (⟨r.1.toArray⟩ : Str)) := by
  unfold partAt
  by_cases hlt : p < x.length
  · rw [if_pos (by omega)]
    have hd := drop_at hlt
    have hit := (item_at2 hd).1
    rw [hit, hd, partL]
    have hdl : (x.cps.toList.drop p).length = x.length - p := by rw [List.length_drop, len_cps]
    by_cases hb : ch (x.cps[p]'hlt) ∈ S
    · rw [if_pos hb, if_pos (show BS S _ = true from decide_eq_true hb), ← hd]
      have hs : skipTo S x (p : Int) = ((p + ((x.cps.toList.drop p).takeWhile (BS S)).length : Nat) : Int) := by
        unfold skipTo
        rw [Int.toNat_natCast]; rfl
      have hle := (List.takeWhile_prefix (BS S) (l := x.cps.toList.drop p)).length_le
      rw [hs, slice_list (Nat.le_add_right _ _) (by omega), Nat.add_sub_cancel_left, take_tw]
      rfl
    · rw [if_neg hb, if_neg (show ¬ BS S _ = true from by unfold BS; simpa using hb)]
      by_cases hq : x.cps[p]'hlt = 39
      · rw [hq, if_pos (show ch 39 = Str.ofString "'" from quote_eq.symm), if_pos rfl]
        rw [show ((p : Int) + 1).toNat = p + 1 by omega, next_list (x.length - (p + 1)) (p + 1) (by omega)]
        by_cases hm : 39 ∈ x.cps.toList.drop (p + 1)
        · rw [if_pos hm, if_pos hm]
          have hle := (List.takeWhile_prefix (fun c => decide (c ≠ 39)) (l := x.cps.toList.drop (p + 1))).length_le
          rw [List.length_drop, len_cps] at hle
          show some (((p + 1 + _ : Nat) : Int) + 1, Txt.slice x (some ((p + 1 : Nat) : Int)) (some ((p + 1 + _ : Nat) : Int))) = _
          rw [slice_list (Nat.le_add_right _ _) (by omega), Nat.add_sub_cancel_left, take_tw]
          show some (_, _) = some (_, _)
          congr 2
          omega
        · rw [if_neg hm, if_neg hm]; rfl
      · rw [if_neg (fun e => hq (ch_inj2 (e.trans quote_eq))), if_neg hq]; rfl
  · rw [if_neg (by omega), List.drop_eq_nil_of_le (by rw [len_cps]; omega)]; rfl
end
section
open PySem PySem.W PySem.Spec PySem.Calls PyProof.Rows
set_option maxRecDepth 100000
set_option maxHeartbeats 4000000
theorem tw_lt : ∀ {r : List Nat}, 39 ∈ r → (r.takeWhile (· ≠ 39)).length < r.length
  | [], h => nomatch h
  | c :: r, h => by
    by_cases hc : c = 39
    · rw [List.takeWhile_cons_of_neg (by simp [hc])]; exact Nat.succ_pos _
    · have hm : 39 ∈ r := by
        rcases List.mem_cons.mp h with e | h
        · exact absurd e.symm hc
        · exact h
      rw [List.takeWhile_cons_of_pos (by simpa using hc)]
      exact Nat.succ_lt_succ (tw_lt hm)
theorem partL_le {B : Nat → Bool} {ws nm : List Nat} {k : Nat} (h : partL B ws = some (nm, k)) : k ≤ ws.length := by
  cases ws with
  | nil => cases h
  | cons c r =>
    rw [partL] at h
    split at h
    · injection h with h; injection h with h1 h2
      rw [← h2]
      exact (List.takeWhile_prefix _).length_le
    · split at h
      · split at h
        · rename_i hm
          injection h with h; injection h with h1 h2
          have hlt := tw_lt hm
          rw [← h2, List.length_cons]
          omega
        · cases h
      · cases h
theorem head_dot {x : Str} {p : Nat} (hp : p ≤ x.length) : (x.cps.toList.drop p).head? = some 46 ↔ ((p : Int) < (x.length : Int) ∧ Txt.item x (p : Int) = Str.ofString ".") := by
  have dot : Str.ofString "." = ch 46 := by decide +kernel
  by_cases h : p < x.length
  · have hd := drop_at h
    rw [(item_at2 hd).1, hd, dot]
    simp only [List.head?_cons, Option.some.injEq]
    exact ⟨fun e => ⟨by omega, by rw [e]⟩, fun e => ch_inj2 e.2⟩
  · rw [List.drop_eq_nil_of_le (by rw [len_cps]; omega)]
    simp only [List.head?_nil]
    exact ⟨fun e => (by cases e), fun e => absurd e.1 (by omega)⟩
theorem go_list {S : List Str} {x : Str} : ∀ (M N p : Nat) (key : List Str), p ≤ x.length → x.length - p < M → x.length - p ≤ N →
    keyGo S x M (p : Int) key = if (x.cps.toList.drop p).head? = some 46 then keyL (BS S) N (x.cps.toList.drop p).tail ((p : Int) + 1) key else some ((p : Int), key)
  | 0, _, _, _, _, h, _ => by omega
  | M + 1, N, p, key, hp, hM, hN => by
    rw [keyGo]
    by_cases hh : (x.cps.toList.drop p).head? = some 46
    · have h46 := (head_dot hp).mp hh
      have hlt : p < x.length := by omega
      rw [if_pos hh, if_pos h46]
      cases N with
      | zero => omega
      | succ N =>
      have ht : (x.cps.toList.drop p).tail = x.cps.toList.drop (p + 1) := by rw [drop_at hlt]; rfl
      rw [ht, show (p : Int) + 1 = ((p + 1 : Nat) : Int) from rfl, part_list (S := S) (x := x) (p := p + 1) hlt]
      cases e : partL (BS S) (x.cps.toList.drop (p + 1)) with
      | none => rw [keyL_none e]; rfl
      | some r =>
        obtain ⟨nm, k⟩ := r
        have hk := partL_le e
        rw [List.length_drop, len_cps] at hk
        show keyGo S x M ((p + 1 + k : Nat) : Int) (key ++ [⟨nm.toArray⟩]) = _
        rw [go_list M N (p + 1 + k) _ (by omega) (by omega) (by omega), keyL, e]
        show _ = if ((x.cps.toList.drop (p + 1)).drop k).head? = some 46 then _ else _
        rw [List.drop_drop]
        rfl
    · rw [if_neg hh, if_neg (fun h => hh ((head_dot hp).mpr h))]
theorem key_list {S : List Str} {x : Str} {p N : Nat} (hp : p ≤ x.length) (hN : x.length ≤ N) : keyAt S x (p : Int) = keyL (BS S) (N + 1) (x.cps.toList.drop p) (p : Int) [] := by
  unfold keyAt
  rw [part_list hp]
  cases e : partL (BS S) (x.cps.toList.drop p) with
  | none => rw [keyL_none e]; rfl
  | some r =>
    obtain ⟨nm, k⟩ := r
    have hk := partL_le e
    rw [List.length_drop, len_cps] at hk
    show keyGo S x (x.length + 1) ((p + k : Nat) : Int) [⟨nm.toArray⟩] = _
    rw [go_list (x.length + 1) N (p + k) _ (by omega) (by omega) (by omega), keyL, e]
    show _ = if ((x.cps.toList.drop p).drop k).head? = some 46 then _ else _
    rw [List.drop_drop]
    rfl
end
section
open PySem PySem.W PySem.Spec PySem.Calls PyProof.Rows
set_option maxRecDepth 100000
set_option maxHeartbeats 4000000
theorem transF_irr : ∀ (n m : Nat) (l : List Nat), l.length ≤ n → l.length ≤ m → transF n l = transF m l
  | 0, m, [], _, _ => by cases m <;> rfl
  | n + 1, m, [], _, _ => by cases m <;> rfl
  | 0, _, _ :: _, h, _ => by simp at h
  | _ + 1, 0, _ :: _, _, h => by simp at h
  | n + 1, m + 1, c :: r, hn, hm => by
    rw [List.length_cons] at hn hm
    rw [transF, transF]
    have hd := dropW_len (fun x => decide (x ≠ 93)) r
    have ht : (r.dropWhile (fun x => decide (x ≠ 93))).tail.length ≤ r.length := by rw [List.length_tail]; omega
    rw [transF_irr n m r (by omega) (by omega), transF_irr n m _ (Nat.le_trans ht (by omega)) (Nat.le_trans ht (by omega))]
theorem run_le : ∀ (ps : List Str), (runOf ps).2.length ≤ ps.length
  | [] => Nat.le_refl _
  | p :: r => by
    rw [runOf]
    split
    · exact Nat.le_succ_of_le (run_le r)
    · exact Nat.le_refl _
theorem told_irr : ∀ (N M : Nat) (ps : List Str) (pl : Int) (key : List Str), ps.length < N → ps.length < M → told N ps pl key = told M ps pl key
  | 0, _, _, _, _, h, _ => by omega
  | _ + 1, 0, _, _, _, _, h => by omega
  | N + 1, M + 1, [], _, _, _, _ => rfl
  | N + 1, M + 1, p :: r, pl, key, hN, hM => by
    rw [List.length_cons] at hN hM
    by_cases hb : Txt.slice p none (some 1) = Str.ofString "["
    · cases r with
      | nil => unfold told; rw [if_pos hb, if_pos hb]
      | cons q r' =>
        rw [List.length_cons] at hN hM
        by_cases hq : q = Str.ofString "\\."
        · rw [told_br1 hb hq, told_br1 hb hq, told_irr N M r' _ _ (by omega) (by omega)]
        · rw [told_br2 hb hq, told_br2 hb hq]
    · by_cases he : (runOf (p :: r)).1 = Str.empty
      · rw [told_no hb he, told_no hb he]
      · have hl := run_le (p :: r)
        rw [List.length_cons] at hl
        cases hr : (runOf (p :: r)).2 with
        | nil =>
          have e : ∀ K, told (K + 1) (p :: r) pl key = none := fun K => by
            unfold told; rw [if_neg hb, if_neg he, hr]
          rw [e, e]
        | cons q r' =>
          rw [hr, List.length_cons] at hl
          by_cases hq : q = Str.ofString "\\."
          · rw [told_run1 hb he hr hq, told_run1 hb he hr hq, told_irr N M r' _ _ (by omega) (by omega)]
          · rw [told_run2 hb he hr hq, told_run2 hb he hr hq]
theorem rest_cps {x : Str} {p : Nat} (hp : p ≤ x.length) : (Txt.slice x (some (p : Int)) none).cps.toList = x.cps.toList.drop p := by
  have h := slice_closes_fromL (x := x) (i := (p : Int)) (b := (x.length : Int)) (by omega) (by omega) rfl
  rw [eq_of_beq h]
  show ((x.cps.toList.drop ((p : Int)).toNat).take ((x.length : Int) - (p : Int)).toNat) = _
  rw [Int.toNat_natCast, show ((x.length : Int) - (p : Int)).toNat = x.length - p by omega]
  exact List.take_of_length_le (by rw [List.length_drop, len_cps]; exact Nat.le_refl _)
/-- what the parts tell is what the key is -/
theorem found_told {S : List Str} {x : Str} {p : Nat} (hB : AlB (BS S)) (hA : Al (BS S) x.cps.toList) (hp : p ≤ x.length) :
    told ((transF ((patF true (Txt.slice x (some (p : Int)) none).cps.toList).length + 1) (patF true (Txt.slice x (some (p : Int)) none).cps.toList)).length + 2) (transF ((patF true (Txt.slice x (some (p : Int)) none).cps.toList).length + 1) (patF true (Txt.slice x (some (p : Int)) none).cps.toList) ++ [Str.ofString ""]) (p : Int) [] = keyAt S x (p : Int) := by
  rw [rest_cps hp]
  have hpl := patF_len true (x.cps.toList.drop p)
  have e : transF ((patF true (x.cps.toList.drop p)).length + 1) (patF true (x.cps.toList.drop p)) ++ [Str.ofString ""] = pts (2 * (x.cps.toList.drop p).length + 1) (x.cps.toList.drop p) := by
    unfold pts
    rw [transF_irr _ (2 * (x.cps.toList.drop p).length + 1) _ (Nat.le_succ _) (by omega)]
  have hl : (pts (2 * (x.cps.toList.drop p).length + 1) (x.cps.toList.drop p)).length = (transF ((patF true (x.cps.toList.drop p)).length + 1) (patF true (x.cps.toList.drop p))).length + 1 := by
    rw [← e, List.length_append]; rfl
  rw [e, told_irr _ (x.length + (pts (2 * (x.cps.toList.drop p).length + 1) (x.cps.toList.drop p)).length + 1 + 1) _ _ _ (by omega) (by omega), told_keyL hB _ _ _ _ _ (hA.drop p) (by omega)]
  exact (key_list hp (by omega)).symm
end
section
open PySem PySem.W PySem.Spec PySem.Calls PyProof.Rows
set_option maxRecDepth 100000
set_option maxHeartbeats 4000000
noncomputable def okS (l : List Nat) : Prop := ∀ c r, (c :: r) <:+ l → (c = 91 → r.head? = some 95) ∧ (c ≠ 91 → c = 46 ∨ (c : Int) ∉ spcL ∧ c < 128)
theorem okS.suf {l l' : List Nat} (h : okS l) (hs : l' <:+ l) : okS l' := fun c r hc => h c r (hc.trans hs)
theorem okP_of : ∀ (n : Nat) (l : List Nat), okS l → okP n l
  | 0, _, _ => trivial
  | _ + 1, [], _ => trivial
  | n + 1, c :: r, h => by
    have h0 := h c r (List.suffix_refl _)
    have hr : r <:+ c :: r := List.suffix_cons _ _
    rw [okP]
    split
    · rename_i hc
      refine ⟨h0.1 hc, ?_⟩
      split
      · exact okP_of n _ (h.suf (((List.tail_suffix _).trans (List.dropWhile_suffix _)).trans hr))
      · exact okP_of n _ (h.suf hr)
    · rename_i hc
      exact ⟨h0.2 hc, okP_of n _ (h.suf hr)⟩
/-- the signs of the law's texts -/
noncomputable def signL : List Nat := (Str.ofString "ABCDEFGHIJKLMNOPQRSTUVWXYZabcdefghijklmnopqrstuvwxyz0123456789.'=").cps.toList
theorem sign_ok : ∀ c ∈ signL, c ≠ 91 ∧ (c = 46 ∨ (c : Int) ∉ spcL ∧ c < 128 ∨ c = 39) := by decide +kernel
theorem sign_okc : ∀ c ∈ signL, c = 39 ∨ okc c := by
  unfold okc
  decide +kernel
theorem sign_no : ∀ c ∈ signL, c ≠ 93 := by decide +kernel
theorem okP_pat : ∀ (n : Nat) (ws : List Nat), (∀ c ∈ ws, c ∈ signL) → okP n (patF true ws)
  | 0, _, _ => trivial
  | _ + 1, [], _ => trivial
  | n + 1, c :: r, h => by
    have hr : ∀ c ∈ r, c ∈ signL := fun x hx => h x (.tail _ hx)
    by_cases h39 : c = 39
    · subst h39
      by_cases hm : 39 ∈ r
      · have hn : ∀ c ∈ 95 :: r.takeWhile (· ≠ 39), c ≠ 93 := fun c hc => by
          rcases List.mem_cons.mp hc with rfl | hc
          · decide
          · exact sign_no c (hr c ((List.takeWhile_prefix _).subset hc))
        obtain ⟨e1, e2⟩ := takeWhile_app (r := patF true (r.dropWhile (· ≠ 39)).tail) hn
        rw [patF, if_pos rfl, if_pos rfl]
        show okP (n + 1) (91 :: 95 :: patF false r)
        rw [patF_q hm, okP, if_pos rfl]
        refine ⟨rfl, ?_⟩
        rw [if_pos (by simp)]
        rw [show (95 :: (r.takeWhile (· ≠ 39) ++ 93 :: patF true (r.dropWhile (· ≠ 39)).tail)) = (95 :: r.takeWhile (· ≠ 39)) ++ 93 :: patF true (r.dropWhile (· ≠ 39)).tail from rfl, e2]
        exact okP_pat n _ fun x hx => hr x ((List.dropWhile_suffix _).subset (List.mem_of_mem_tail hx))
      · rw [patF, if_pos rfl, if_pos rfl]
        show okP (n + 1) (91 :: 95 :: patF false r)
        rw [patF_no false hm, okP, if_pos rfl]
        refine ⟨rfl, ?_⟩
        have h93 : 93 ∉ 95 :: r := fun hc => by
          rcases List.mem_cons.mp hc with e | hc
          · cases e
          · exact sign_no _ (hr _ hc) rfl
        rw [if_neg h93]
        refine okP_of n _ fun c r' hs => ?_
        have hc := hs.subset (.head _)
        rcases List.mem_cons.mp hc with rfl | hc
        · exact ⟨fun e => (by cases e), fun _ => .inr (by decide +kernel)⟩
        · have ha := sign_ok c (hr c hc)
          refine ⟨fun e => absurd e ha.1, fun _ => ?_⟩
          rcases ha.2 with e | e | e
          · exact .inl e
          · exact .inr e
          · exact absurd (e ▸ hc) hm
    · have ha := sign_ok c (h c (.head _))
      rw [patF, if_neg h39, okP, if_neg ha.1]
      refine ⟨?_, okP_pat n r hr⟩
      rcases ha.2 with e | e | e
      · exact .inl e
      · exact .inr e
      · exact absurd e h39
theorem patF_okc : ∀ (b : Bool) (ws : List Nat), (∀ c ∈ ws, c ∈ signL) → ∀ c ∈ patF b ws, okc c
  | _, [], _, _, h => nomatch h
  | b, a :: ws, h, c, hc => by
    have ih1 := patF_okc b ws (fun c hc => h c (.tail _ hc)) c
    have ih2 := patF_okc (!b) ws (fun c hc => h c (.tail _ hc)) c
    rw [patF] at hc
    split at hc
    · rcases List.mem_append.mp hc with hc | hc
      · cases b with
        | true =>
          have hc : c ∈ [91, 95] := hc
          simp only [List.mem_cons, List.not_mem_nil, or_false] at hc
          unfold okc
          omega
        | false =>
          have hc : c ∈ [93] := hc
          simp only [List.mem_cons, List.not_mem_nil, or_false] at hc
          unfold okc
          omega
      · exact ih2 hc
    · rename_i h39
      rcases List.mem_cons.mp hc with rfl | hc
      · rcases sign_okc c (h c (.head _)) with e | e
        · exact absurd e h39
        · exact e
      · exact ih1 hc
end
section
open PySem PySem.W PySem.Spec PySem.Calls PyProof.Rows
set_option maxRecDepth 100000
set_option maxHeartbeats 4000000
theorem six_fin {P : Int → Prop} (h : ∀ i : Fin 64, P (i.val : Int)) {v : Int} (h0 : 0 ≤ v) (h1 : v < 64) : P v := by
  obtain ⟨n, rfl⟩ := Int.eq_ofNat_of_zero_le h0
  exact h ⟨n, Int.ofNat_lt.mp h1⟩
theorem b64c_v {v : Int} (h0 : 0 ≤ v) (h1 : v < 64) : b64v (b64c v) = v := six_fin (P := fun v => b64v (b64c v) = v) (by decide +kernel) h0 h1
theorem toU_from {v : Int} (h0 : 0 ≤ v) (h1 : v < 64) : fromU (toU (b64c v)) = b64c v := six_fin (P := fun v => fromU (toU (b64c v)) = b64c v) (by decide +kernel) h0 h1
theorem enc4 {out : List Int} {a b c d l : Int} (ha : 0 ≤ a ∧ a < 64) (hb : 0 ≤ b ∧ b < 64) (hc : 0 ≤ c ∧ c < 64) (hd : 0 ≤ d ∧ d < 64) :
    ∃ l', (oct4 a b c d).foldl encStep ⟨out, 0, l⟩ = ⟨out ++ [b64c a, b64c b, b64c c, b64c d], 0, l'⟩ := by
  have e : ((0 * 64 + a) * 64 + b) * 64 + c = a * 4096 + b * 64 + c := by omega (config := {})
  unfold oct4
  simp only [e, List.foldl_cons, List.foldl_nil]
  generalize hx : (a * 4096 + b * 64 + c) * 64 + d = x
  have h1 : encStep ⟨out, 0, l⟩ (x / 65536) = ⟨out ++ [b64c a], 2, (l * 256 + x / 65536) % 65536⟩ := by
    unfold encStep
    simp only [if_true]
    rw [show (l * 256 + x / 65536) % 65536 / 4 % 64 = a by omega (config := {})]
  rw [h1]
  generalize hl1 : (l * 256 + x / 65536) % 65536 = l1
  have h2 : encStep ⟨out ++ [b64c a], 2, l1⟩ (x / 256 % 256) = ⟨out ++ [b64c a] ++ [b64c b], 4, (l1 * 256 + x / 256 % 256) % 65536⟩ := by
    unfold encStep
    simp only [show ¬ ((2 : Int) = 0) by decide, if_false, if_true]
    rw [show (l1 * 256 + x / 256 % 256) % 65536 / 16 % 64 = b by omega (config := {})]
  rw [h2]
  generalize hl2 : (l1 * 256 + x / 256 % 256) % 65536 = l2
  refine ⟨(l2 * 256 + x % 256) % 65536, ?_⟩
  unfold encStep
  simp only [show ¬ ((4 : Int) = 0) by decide, show ¬ ((4 : Int) = 2) by decide, if_false]
  rw [show (l2 * 256 + x % 256) % 65536 / 64 % 64 = c by omega (config := {}), show (l2 * 256 + x % 256) % 65536 % 64 = d by omega (config := {})]
  simp
theorem dec4 {out : List Int} {a b c d : Int} (ha : 0 ≤ a ∧ a < 64) (hb : 0 ≤ b ∧ b < 64) (hc : 0 ≤ c ∧ c < 64) (hd : 0 ≤ d ∧ d < 64) :
    [b64c a, b64c b, b64c c, b64c d].foldl decStep ⟨out, 0, 0⟩ = ⟨out ++ oct4 a b c d, 0, 0⟩ := by
  simp only [List.foldl_cons, List.foldl_nil]
  have h1 : decStep ⟨out, 0, 0⟩ (b64c a) = ⟨out, 1, a⟩ := by
    unfold decStep; simp only [if_true, b64c_v ha.1 ha.2]
  have h2 : decStep ⟨out, 1, a⟩ (b64c b) = ⟨out ++ [a * 4 + b / 16], 2, b % 16⟩ := by
    unfold decStep; simp only [show ¬ ((1 : Int) = 0) by decide, if_false, if_true, b64c_v hb.1 hb.2]
  have h3 : decStep ⟨out ++ [a * 4 + b / 16], 2, b % 16⟩ (b64c c) = ⟨out ++ [a * 4 + b / 16] ++ [b % 16 * 16 + c / 4], 3, c % 4⟩ := by
    unfold decStep; simp only [show ¬ ((2 : Int) = 0) by decide, show ¬ ((2 : Int) = 1) by decide, if_false, if_true, b64c_v hc.1 hc.2]
  have h4 : decStep ⟨out ++ [a * 4 + b / 16] ++ [b % 16 * 16 + c / 4], 3, c % 4⟩ (b64c d) = ⟨out ++ [a * 4 + b / 16] ++ [b % 16 * 16 + c / 4] ++ [c % 4 * 64 + d], 0, 0⟩ := by
    unfold decStep; simp only [show ¬ ((3 : Int) = 0) by decide, show ¬ ((3 : Int) = 1) by decide, show ¬ ((3 : Int) = 2) by decide, if_false, b64c_v hd.1 hd.2]
  rw [h1, h2, h3, h4]
  unfold oct4
  simp only [List.append_assoc, List.cons_append, List.nil_append]
  rw [show a * 4 + b / 16 = ((((0 * 64 + a) * 64 + b) * 64 + c) * 64 + d) / 65536 by omega (config := {}), show b % 16 * 16 + c / 4 = ((((0 * 64 + a) * 64 + b) * 64 + c) * 64 + d) / 256 % 256 by omega (config := {}), show c % 4 * 64 + d = ((((0 * 64 + a) * 64 + b) * 64 + c) * 64 + d) % 256 by omega (config := {})]
noncomputable def Six (ns : List Int) : Prop := ∀ c ∈ ns, 0 ≤ c ∧ c < 64
theorem four_split {ns : List Int} (h4 : ns.length % 4 = 0) (h : ns ≠ []) : ∃ a b c d r, ns = a :: b :: c :: d :: r ∧ r.length % 4 = 0 := by
  rcases ns with _ | ⟨a, _ | ⟨b, _ | ⟨c, _ | ⟨d, r⟩⟩⟩⟩
  · exact absurd rfl h
  · simp at h4
  · simp at h4
  · simp at h4
  · exact ⟨a, b, c, d, r, rfl, by simp only [List.length_cons] at h4; omega⟩
theorem enc_all : ∀ (n : Nat) (ns : List Int) (out : List Int) (l : Int), ns.length ≤ n → ns.length % 4 = 0 → Six ns → ((octets ns).foldl encStep ⟨out, 0, l⟩).out = out ++ ns.map b64c
  | n, [], out, l, _, _, _ => by simp [octets]
  | 0, _ :: _, _, _, h, _, _ => by simp at h
  | n + 1, x :: xs, out, l, hn, h4, h6 => by
    obtain ⟨a, b, c, d, r, e, hr⟩ := four_split h4 (List.cons_ne_nil _ _)
    rw [e] at h6 hn ⊢
    simp only [List.length_cons] at hn
    obtain ⟨l', e2⟩ := enc4 (out := out) (l := l) (h6 a (by simp)) (h6 b (by simp)) (h6 c (by simp)) (h6 d (by simp))
    rw [octets, List.foldl_append, e2, enc_all n r _ l' (by omega) hr fun y hy => h6 y (by simp [hy])]
    simp
theorem dec_all : ∀ (n : Nat) (ns : List Int) (out : List Int), ns.length ≤ n → ns.length % 4 = 0 → Six ns → (ns.map b64c).foldl decStep ⟨out, 0, 0⟩ = ⟨out ++ octets ns, 0, 0⟩
  | n, [], out, _, _, _ => by simp [octets]
  | 0, _ :: _, _, h, _, _ => by simp at h
  | n + 1, x :: xs, out, hn, h4, h6 => by
    obtain ⟨a, b, c, d, r, e, hr⟩ := four_split h4 (List.cons_ne_nil _ _)
    rw [e] at h6 hn ⊢
    simp only [List.length_cons] at hn
    have e2 := dec4 (out := out) (h6 a (by simp)) (h6 b (by simp)) (h6 c (by simp)) (h6 d (by simp))
    rw [show (a :: b :: c :: d :: r).map b64c = [b64c a, b64c b, b64c c, b64c d] ++ r.map b64c from rfl, List.foldl_append, e2, dec_all n r _ (by omega) hr fun y hy => h6 y (by simp [hy]), octets, List.append_assoc]
theorem enc_octets {ns : List Int} (h4 : ns.length % 4 = 0) (h6 : Six ns) : (encOut (octets ns)).map toU = ns.map fun v => toU (b64c v) := by
  unfold encOut
  rw [enc_all _ ns [] 0 (Nat.le_refl _) h4 h6, List.nil_append, List.map_map]; rfl
theorem dec_octets {ns : List Int} (h4 : ns.length % 4 = 0) (h6 : Six ns) : decOut ((ns.map fun v => toU (b64c v)).map fromU) = octets ns := by
  unfold decOut
  rw [List.map_map, List.map_congr_left (f := fromU ∘ fun v => toU (b64c v)) (g := b64c) fun v hv => toU_from (h6 v hv).1 (h6 v hv).2, dec_all _ ns [] (Nat.le_refl _) h4 h6]; rfl
end
section
open PySem PySem.W PySem.Spec PySem.Calls PyProof.Rows
set_option maxRecDepth 100000
set_option maxHeartbeats 4000000
noncomputable def lettersS : Str := Str.ofString "ABCDEFGHIJKLMNOPQRSTUVWXYZabcdefghijklmnopqrstuvwxyz0123456789.'"
/-- the sign of a six-bit value -/
noncomputable def signOf (v : Int) : Nat := (toU (b64c v)).toNat
theorem letters_all : ∀ k, k < 64 → lettersS.cps.toList[k]? = some (signOf (k : Nat)) := by decide +kernel
theorem letters_at {v : Int} (h0 : 0 ≤ v) (h1 : v < 64) : Txt.item lettersS v = ch (signOf v) := by
  obtain ⟨k, rfl⟩ := Int.eq_ofNat_of_zero_le h0
  have hk : k < 64 := by omega
  have h := letters_all k hk
  obtain ⟨hl, e⟩ := List.getElem?_eq_some_iff.mp h
  have hd := List.drop_eq_getElem_cons hl
  rw [e] at hd
  exact (item_at2 hd).1
theorem sign_in : ∀ k, k < 64 → signOf (k : Nat) ∈ signL := by decide +kernel
theorem signOf_in {v : Int} (h0 : 0 ≤ v) (h1 : v < 64) : signOf v ∈ signL := by
  obtain ⟨k, rfl⟩ := Int.eq_ofNat_of_zero_le h0
  exact sign_in k (by omega)
theorem signOf_int {v : Int} (h0 : 0 ≤ v) (h1 : v < 64) : ((signOf v : Nat) : Int) = toU (b64c v) := six_fin (P := fun v => ((signOf v : Nat) : Int) = toU (b64c v)) (by decide +kernel) h0 h1
end
section
open PySem PySem.W PySem.Spec PySem.Calls PyProof.Rows
set_option maxRecDepth 100000
set_option maxHeartbeats 4000000
section
variable {prog : Program} {w : World} {A₀ A : Around} {s : Shared} {base h₀ g₀ : Heap} {env : Env} {L a : Addr} {m : Str → Option Value} {news : List (Addr × Obj)} {K : Frag} {p : Program} {loose : List Str} {mean : ExcName → Option Value} {mg mb : Str → Option Value}
    {R : Result → Shared → Prop} {name qual : Str} {params : Arguments} {body : List Stmt} {scope : Scope} {dV kV doc pm cdv ct oc : Value} {an od : Option Addr} {osl : Array (Option Value)} {f : Addr} {args : Args} {binds : List (Str × Value)}
/-- a call out of the outermost frame, which may have cells, into a def in which exceptions are caught -/
theorem code_fdX {i : Nat} (e : fd i = (params, body, scope)) (B : Below A₀ base [] h₀) (F : Fr h₀ L s.heap m) (X₀ : K.In h₀) (N : News h₀ L s.heap news) (T : Top p loose mean mg mb h₀)
    (hA : A.frames = some [env]) (hf : env.frame = some L) (hke : env.scope.kind = .function)
    (ho : K.lookup f = some ⟨oc, od, .func (fnOf name qual (fd i).1 (fd i).2.1 (fd i).2.2 dV kV doc pm an cdv ct), osl⟩) (hcd : codeIn K cdv qual = true) (hroom : A.depth < recursionLimit)
    (hbind : BindsTo s (fnOf name qual params body scope dV kV doc pm an cdv ct) args binds) (hloc : ∀ y ∈ binds, scope.names.lookup y.1 = some .local)
    (h : ∀ g L' h₁, Fr h₀ L g m → Fr g L' h₁ (fun y => binds.reverse.lookup y) → News g L' h₁ news → Below A base [env] g → K.In g → Top p loose mean mg mb g → KtsDicts ([env].filterMap (·.frame)) g →
      wpAny (model prog w) (A.deeper (envOf qual scope L' f cdv)) (execs body (envOf qual scope L' f cdv))
        (fun fl s' => LeaveS0 ([env].filterMap (·.frame)) h₀ L m g R (match fl with | .ret v => v | _ => .none) s')
        (fun e s' => wpAny (model prog w) (A.deeper (envOf qual scope L' f cdv)) (leaving (envOf qual scope L' f cdv) e) (fun _ s'' => R (.error e) s'') (fun e' s'' => R (.error e') s'') s')
        { s with heap := h₁, toks := s.toks + binds.length })
    (hco : scope.isCoroutine = false) (hgen : scope.isGenerator = false) (hk : scope.kind = .function)
    (hcell : ∀ x ∈ scope.names, x.2 ≠ .cell) : codeAny (model prog w) A (.call (.ref f) args) R s := by
  rw [e] at ho
  have X := X₀.keeps F.keep
  obtain ⟨FG, BG, st, lv⟩ := groundX (R := R) B F N hA hf hke
  have hfs : [env].filterMap (·.frame) = [L] := by simp [hf]
  refine codeAny_call_def (fd := fnOf name qual params body scope dV kV doc pm an cdv ct) (body := body) (binds := binds) hroom (X _ _ ho) rfl (T.nolimit.keeps F.keep) (codeRec_of X hcd) rfl hbind hcell hloc (fun h₁ hns hk₁ => ?_) hco hgen hk
  have ns := FG.ns
  obtain ⟨oL, es, ep, hLg, hLd, hLk, hLf⟩ := ns
  refine wpAny_mono (h _ s.heap.objs.size h₁ FG ⟨hns, fun b o e => hk₁ b o (of_hideAll _ e), Nat.le_of_eq (hideAll_size _ _)⟩
    (fun p hp => ⟨hk₁ _ _ (N p hp).1, Nat.ne_of_lt (Heap.lt_size (N p hp).1), hideAll_none _ (List.mem_map_of_mem hp)⟩) BG (X₀.keeps st) (T.keeps st) (fun b hb => by
      rw [hfs] at hb
      rw [List.mem_singleton.mp hb]
      exact ⟨oL, es, ep, hLg, hLd⟩)) (fun fl s' hl => ?_) fun _ _ y => y
  obtain ⟨g', L', m', news', T', F', N', k⟩ := hl
  have nL₀ : h₀.get? L = none := kts_self F
  obtain ⟨sl, hs⟩ := T'.up hLg
  have old : ∀ b o, h₀.get? b = some o → s'.heap.get? b = some o := fun b o e => F'.keep b o (T'.other b o (st b o e) (fun q => by
    rw [hfs] at q
    rw [List.mem_singleton.mp q, nL₀] at e
    cases e))
  refine k ⟨⟨_, es, ep, F'.keep _ _ hs, hLd, hLk, hLf⟩, old, F.above⟩ fun p hp => ⟨(N' p hp).1, fun q => ?_, ?_⟩
  · have := (N' p hp).2.2; rw [q, hs] at this; cases this
  · cases q : h₀.get? p.1 with
    | none => rfl
    | some o =>
      obtain ⟨sl', hs'⟩ := T'.up (st _ _ q)
      have := (N' p hp).2.2
      rw [hs'] at this
      cases this
end
section
variable {prog : Program} {w : World} {A : Around} {E : Value → Shared → Prop} {s : Shared} {h₀ : Heap} {L : Addr} {m : Str → Option Value} {env : Env}
/-- a list comprehension over anything that is walked -/
theorem ListComp_W {elt iter : Expr} {x : Str} {px : Pos} {scope : Scope} {cl : List (Str × Addr)} {pos : Pos} {Q : Value → Shared → Prop}
    (hclos : closureFor scope env = pure cl) (hcell : ∀ y ∈ scope.names, y.2 ≠ .cell) (hkind : scope.kind = .function)
    (hnames : ∀ y ∈ scope.names, y.2 = .local → scope.names.lookup y.1 = some .local) (hx : scope.names.lookup x = some .local)
    (h : wpAny (model prog w) A (eval iter env) (fun xv s₁ => wpAny (model prog w) A (pyIter xv) (fun it s₂ => ∃ (I : Addr) (n : Nat) (P : Nat → Value → Prop) (St : Nat → Heap → Prop) (news : List (Addr × Obj)),
      it = .ref I ∧ Walks prog w A I [I] [I] n P St ∧ n ≤ sizeLine ∧ (∀ i h, St i h → ∃ o, h.get? I = some o) ∧ St 0 s₂.heap ∧ I < s₂.heap.objs.size ∧ Fr h₀ L s₂.heap m ∧ News h₀ L s₂.heap news ∧ L ≠ I ∧ h₀.get? I = none ∧ (∀ p ∈ news, p.1 ≠ I) ∧
      LCg.CompRest prog w A h₀ L m env elt x scope cl s₂ (fun _ => True) P (LCg.FinE h₀ L m s₂ Q) n 0 [] news) E s₁) E s)
    (hs : ∀ x, foldedSetIterable iter env x = pure x := by intro _; rfl) :
    wpAny (model prog w) A (eval (.ListComp elt [⟨.Name x px, iter, [], 0⟩] scope pos) env) Q E s := by
  rw [eval_ListComp]
  refine wpAny_comprehension_free (use := none) rfl hs hclos hkind hnames (wpAny_mono h (fun xv s₁ h₁ => wpAny_mono h₁ (fun it s₂ h₂ => ?_) fun _ _ e => e) fun _ _ e => e)
  obtain ⟨I, n, P, St, news, rfl, W, hsz, hIo, hst, hlt, F, N, hIL, hI₀, off, R⟩ := h₂
  refine LCg.block_U W hsz hIo (fun i h h' o nw st e e' _ _ _ => W.frame _ _ _ st fun b hb o' ho' => ?_) hcell hkind hx hst (fun b hb => List.mem_singleton.mp hb ▸ hlt) F N hIL hI₀ off trivial R ?_
  · rw [List.mem_singleton.mp hb] at ho' ⊢
    rw [e', ← ho', e]
  · intro D C h tk m' ys news' F' N' o1 hn hC₀ hD₀ hCL hDL hCD offC fin
    refine ⟨m', hn, fun h'' hs'' => fin D h'' tk (F'.change hs'' hCL hC₀) (fun p hp => ?_) o1⟩
    refine ⟨hs''.extBut _ _ ?_ (N' p hp).1, (N' p hp).2⟩
    rcases List.mem_cons.mp hp with rfl | hp
    · exact Ne.symm hCD
    · exact offC p hp
/-- the turns of a comprehension whose element gives a value that stands in a relation to its place -/
theorem comp_rest {elt : Expr} {x : Str} {scope : Scope} {cl : List (Str × Addr)} {S : List (Addr × Obj) → Prop} {P : Nat → Value → Prop} {Fin : List Value → List (Addr × Obj) → Prop} {news : List (Addr × Obj)} {n : Nat} (Rel : Nat → Value → Prop)
    (turn : ∀ i v I oI C oC D m₂ ys h tk (E' : Value → Shared → Prop), i < n → P i v → LCg.NsObj oC m₂ → m₂ x = some v → Fr h₀ L h m → News h₀ L h ((I, oI) :: (C, oC) :: (D, LCg.lst ys) :: news) → LCg.Off3 I C D news → ((@Ne Nat I C) ∧ (@Ne Nat I D) ∧ (@Ne Nat C D)) →
      wpAny (model prog w) A (eval elt (compEnvC scope cl C env)) (LCg.CompEnd h₀ L m { s with heap := h, toks := tk } I oI C oC D (LCg.lst ys) S (fun y news' => news' = news ∧ Rel i y)) E' { s with heap := h, toks := tk })
    (fin : ∀ ys, ys.length = n → (∀ i y, ys[i]? = some y → Rel i y) → Fin ys news) : LCg.CompRest prog w A h₀ L m env elt x scope cl s S P Fin n 0 [] news := by
  have key : ∀ (j i : Nat) (ys : List Value), i + j = n → ys.length = i → (∀ k y, ys[k]? = some y → Rel k y) → LCg.CompRest prog w A h₀ L m env elt x scope cl s S P Fin j i ys news := by
    intro j
    induction j with
    | zero =>
      intro i ys hi hl hy
      exact LCg.CompRest.zero (fin ys (by omega) hy)
    | succ j ih =>
      intro i ys hi hl hy
      refine LCg.CompRest.succ ?_
      intro v I oI C oC D m₂ h tk E' hv hC hx F N off ne
      refine wpAny_mono (turn i v I oI C oC D m₂ ys h tk E' (by omega) hv hC hx F N off ne) (fun y s₂ hq => ?_) fun _ _ e => e
      obtain ⟨h', tk', nw, e, F', N', off', hS, hn, hr⟩ := hq
      rw [hn] at N' off' hS
      refine ⟨h', tk', news, e, F', N', off', hS, ih (i + 1) _ (by omega) (by simp [hl]) ?_⟩
      intro k z hk
      by_cases hk' : k < ys.length
      · rw [List.getElem?_append_left hk'] at hk
        exact hy k z hk
      · have hke : k = i := by
          have := (List.getElem?_eq_some_iff.mp hk).1
          simp at this
          omega
        subst hke
        rw [List.getElem?_append_right (by omega)] at hk
        simp [hl] at hk
        exact hk ▸ hr
  exact key n 0 [] (by omega) rfl fun k y hk => by simp at hk
end
section
variable {prog : Program} {w : World} {A : Around} {E : Value → Shared → Prop} {s : Shared} {env : Env} {h₀ : Heap} {x : Str} {body : List Stmt} {Q : Flow → Shared → Prop}
/-- the end of a turn whose ledger may grow -/
noncomputable def GrowEnd (h₀ : Heap) (L : Addr) (J : (Str → Option Value) → List (Addr × Obj) → Prop) (I : Addr) (oI : Obj) (s₁ : Shared) (Q : Flow → Shared → Prop) (f : Flow) (s₂ : Shared) : Prop :=
  match f with
  | .ret v => Q (.ret v) s₂
  | .brk => Q .next s₂
  | _ => ∃ h' tk m' nx, s₂ = { s₁ with heap := h', toks := tk } ∧ Fr h₀ L h' m' ∧ News h₀ L h' ((I, oI) :: nx) ∧ (∀ p ∈ nx, p.1 ≠ I) ∧ J m' nx
theorem iter_grow {r : Addr} {a₀ b₀ c : Int} {t₀ u₀ v₀ : Tok} {n : Nat} {m₀ : Str → Option Value} {news : List (Addr × Obj)} (J : Nat → (Str → Option Value) → List (Addr × Obj) → Prop)
    (hh : A.handled = none) (hr : IsRange s.heap r a₀ b₀ c t₀ u₀ v₀) (hsmall : Builtin.Range.small a₀ b₀ c = true) (hn : Builtin.Range.rangeSize a₀ b₀ c = (n : Int)) (F : Fr h₀ env.locals s.heap m₀) (N : News h₀ env.locals s.heap news) (hj : J 0 m₀ news)
    (turn : ∀ I v1 v2 v3 i t m₁ nx h tk, i < n → J i m₁ nx → (∀ p ∈ nx, p.1 ≠ I) → Fr h₀ env.locals h (fun y => if y = x then some (.int (a₀ + i * c) t) else m₁ y) → News h₀ env.locals h ((I, { cls := .type "range_iterator", data := .fields #[rawInt v1, rawInt v2, rawInt v3] }) :: nx) →
      wpAny (model prog w) A (execs body env) (GrowEnd h₀ env.locals (J (i + 1)) I { cls := .type "range_iterator", data := .fields #[rawInt v1, rawInt v2, rawInt v3] } { s with heap := h, toks := tk } Q) E { s with heap := h, toks := tk })
    (done : ∀ m₁ nx h tk, J n m₁ nx → Fr h₀ env.locals h m₁ → News h₀ env.locals h nx → Q .next { s with heap := h, toks := tk }) :
    wpAny (model prog w) A (pyIter (.ref r)) (fun it s₂ => LoopAtV prog w A h₀ env x body Q E it s₂) E s := by
  refine wpAny_pyIter_range hr hsmall ?_
  have W : Walks prog w A s.heap.objs.size [s.heap.objs.size] [s.heap.objs.size] n (fun i v => i < n ∧ ∃ t, v = .int (a₀ + i * c) t)
      (fun i h => IsRangeIter h s.heap.objs.size (a₀ + (i : Nat) * c) ((n : Int) - (i : Nat)) c) := (Walks.range hh _ a₀ c n).bound
  refine ⟨_, _, _, n, _, _, m₀, news, J, rfl, W, ?_, ?_, ?_, (by show IsRangeIter _ _ _ _ _; rw [hn]; simpa using Heap.get?_push_size _ rfl), F.push _, (fun p hp => ⟨Heap.get?_push_of_some _ (N p hp).1, (N p hp).2⟩), hj, ?_, ?_⟩
  · exact fun hm => absurd F.ns.lt ((List.mem_singleton.mp hm) ▸ Nat.lt_irrefl _)
  · intro b hb
    rw [List.mem_singleton.mp hb]
    exact next_is_new F
  · exact fun p hp hI => absurd (Heap.lt_size (N p hp).1) ((List.mem_singleton.mp hI) ▸ Nat.lt_irrefl _)
  · rintro i v m₁ nx s₁ own ⟨hh', tk', rfl⟩ hin ⟨_, t, rfl⟩ hJ hoff hown1 hown2 hown3 hst F₁ N₁
    have e : hh'.get? s.heap.objs.size = some { cls := .type "range_iterator", data := .fields #[rawInt (a₀ + ((i + 1 : Nat) : Int) * c), rawInt ((n : Int) - ((i + 1 : Nat) : Int)), rawInt c] } := hst
    have hI := hown3 s.heap.objs.size (List.mem_singleton.mpr rfl) (next_is_new F) _ e
    have off : ∀ p ∈ nx, p.1 ≠ s.heap.objs.size := fun p hp q => hoff p hp (List.mem_singleton.mpr q)
    refine wpAny_mono (turn s.heap.objs.size (a₀ + ((i + 1 : Nat) : Int) * c) ((n : Int) - ((i + 1 : Nat) : Int)) c i t m₁ nx hh' tk' hin hJ off F₁ (fun p hp => ?_)) (fun f s₂ g => ?_) fun _ _ e => e
    · rcases List.mem_cons.mp hp with rfl | hp
      · exact N₁ _ (List.mem_append_left _ hI)
      · exact N₁ _ (List.mem_append_right _ hp)
    have fin : (∃ h' tk m' nx', s₂ = { { s with heap := hh', toks := tk' } with heap := h', toks := tk } ∧ Fr h₀ env.locals h' m' ∧ News h₀ env.locals h' ((s.heap.objs.size, { cls := .type "range_iterator", data := .fields #[rawInt (a₀ + ((i + 1 : Nat) : Int) * c), rawInt ((n : Int) - ((i + 1 : Nat) : Int)), rawInt c] }) :: nx') ∧ (∀ p ∈ nx', p.1 ≠ s.heap.objs.size) ∧ J (i + 1) m' nx') → LoopStepU h₀ env.locals [s.heap.objs.size] own (J (i + 1)) { s with heap := hh', toks := tk' } .next s₂ := by
      rintro ⟨h', tk, m', nx', e', F', N', off', hm⟩
      refine ⟨rfl, h', tk, m', nx', e', F', fun p hp => ?_, fun p hp hq => off' p hp (List.mem_singleton.mp hq), hm⟩
      rcases List.mem_append.mp hp with hp | hp
      · have h1 := List.mem_singleton.mp (hown1 p hp)
        have h2 := hown2 p hp
        have h2' : hh'.get? p.1 = some p.2 := h2
        rw [h1, e] at h2'
        have h3 : p = (s.heap.objs.size, { cls := .type "range_iterator", data := .fields #[rawInt (a₀ + ((i + 1 : Nat) : Int) * c), rawInt ((n : Int) - ((i + 1 : Nat) : Int)), rawInt c] }) := Prod.ext h1 (Option.some.inj h2').symm
        rw [h3]
        exact N' _ (.head _)
      · exact N' p (.tail _ hp)
    cases f with
    | ret v => exact .ret g
    | brk => exact .brk g
    | next => exact .next (fin g)
    | cont => exact .cont (fin g)
  · rintro h' tk m' nx F' N' _ hJ
    exact done m' nx h' tk hJ F' N'
end
end
section
open PySem PySem.W PySem.Spec PySem.Calls PyProof.Rows
set_option maxRecDepth 100000
set_option maxHeartbeats 4000000
theorem inFill_list : fillsInplaceSlot (.type "list") "add" true = pure false := by
  unfold fillsInplaceSlot
  show (typeLookup (.type "list") (dunderI "add") >>= fun fi => pure (fi.isSome && !isSeqSlot fi)) = pure false
  rw [PySem.F.slot_list_iadd.lookup]; kernel_rfl
theorem seqI_list : seqSlot? (.type "list") (dunderI "add") = pure (some (.builtin "list.__iadd__")) := by
  unfold seqSlot?
  rw [PySem.F.slot_list_iadd.lookup]; kernel_rfl
section
variable {prog : Program} {w : World} {A : Around} {E : Value → Shared → Prop} {s : Shared} {h₀ : Heap} {L : Addr} {m : Str → Option Value} {news : List (Addr × Obj)}
theorem iadd_list {a b : Addr} {ys zs : List Value} {n k : Nat} {g : Obj → List (Addr × Obj)} {Q : Value → Shared → Prop} (F : Fr h₀ L s.heap m) (N : News h₀ L s.heap news) (U : UpdF a (W.listOf ys.toArray n) news g) (hb : (b, W.listOf zs.toArray k) ∈ news) (hz : ys.length + zs.length ≤ 1000)
    (h : ∀ h' n', Fr h₀ L h' m → News h₀ L h' (g (W.listOf (ys ++ zs).toArray n')) → Q (.ref a) { s with heap := h' }) :
    wpAny (model prog w) A (inplaceOp .Add (.ref a) (.ref b)) Q E s := by
  obtain ⟨pre, post, rfl, hg, h1, h2⟩ := U.split
  have hm := N (a, W.listOf ys.toArray n) (List.mem_append_right _ (.head _))
  have hmb := (N _ hb).1
  have hz' : ys.toArray.size + zs.toArray.size ≤ sizeLine := by rw [List.size_toArray, List.size_toArray, sizeLine_eq]; omega
  have ha : s.TypeIs (.ref a) "list" := ⟨_, hm.1, rfl⟩
  unfold inplaceOp
  refine wpAny_holding ?_
  refine wpAny_bind (wpAny_typeOf ha (wpAny_bind (wpAny_of_eq inFill_list ?_)))
  show wpAny _ A (if false = true then _ else _) Q E s
  rw [if_neg Bool.false_ne_true]
  refine wpAny_bind (binaryOp1_none (nm := "add") ha ⟨_, hmb, rfl⟩ noFill_list_add ?_)
  refine wpAny_bind (wpAny_of_eq seqI_list ?_)
  refine wpAny_bind (wpAny_rule ?_)
  refine call_meets PySem.F.slot_list_iadd ha PySem.F.entry_list_iadd (PySem.F.args_list_iadd_2 _ _) (AutoSeq1.list___iadd___list_list_0 a ys.toArray n b zs.toArray k (extend_door hz') (Nat.le_trans (Nat.le_add_right _ _) hz') (Nat.le_succ_of_le hz')) ⟨hm.1, hmb, ?_⟩
  have e : ys.toArray ++ zs.toArray = (ys ++ zs).toArray := by simp
  have ho' : (s.heap.update a (Obj.mapSeq fun x => x ++ zs.toArray)).get? a = some (W.listOf (ys ++ zs).toArray (if (ys.toArray ++ zs.toArray).size == ys.toArray.size then n else n + 1)) := by
    rw [Heap.get?_update_self _ hm.1 (by rw [mapSeq_app]; rfl), mapSeq_app, e]
  exact h _ _ (F.change (Heap.SameBut.update ..) hm.2.1 hm.2.2) (by rw [hg]; exact news_set N h1 h2 (Heap.SameBut.update ..) ho')
theorem iadd_ints {a b : Addr} {ys zs : List Value} {as bs : List Int} {n k : Nat} {g : Obj → List (Addr × Obj)} {Q : Value → Shared → Prop} (F : Fr h₀ L s.heap m) (N : News h₀ L s.heap news) (U : UpdF a (W.listOf ys.toArray n) news g) (hb : (b, W.listOf zs.toArray k) ∈ news) (hy : IntsAre ys as) (hz : IntsAre zs bs) (hl : as.length + bs.length ≤ 1000)
    (h : ∀ us h' n', IntsAre us (as ++ bs) → Fr h₀ L h' m → News h₀ L h' (g (W.listOf us.toArray n')) → Q (.ref a) { s with heap := h' }) :
    wpAny (model prog w) A (inplaceOp .Add (.ref a) (.ref b)) Q E s :=
  iadd_list F N U hb (by rw [hy.length, hz.length]; exact hl) fun h' n' F' N' => h _ h' n' (hy.append hz) F' N'
end
/-- a row of values, whatever the script -/
theorem gen_vals {us : List Value} {ns : List Int} (h : IntsAre us ([0, 27, 62, 63, 0, 62, 27, 63, 62, 63, 63, 53] ++ List.map (fun k' : Int => if k'.fmod 5 = 0 then 62 else if k'.fmod 5 = 1 then 63 else if k'.fmod 5 = 2 then (k'.fdiv 5).fmod 62 else if k'.fmod 5 = 3 then 27 else 53) (List.take 10 ns))) :
    ∃ v1 : List Int, IntsAre us v1 ∧ Six v1 ∧ 12 ≤ v1.length ∧ v1.length ≤ 22 := by
  refine ⟨_, h, ?_, ?_, ?_⟩
  · intro c hc
    rcases List.mem_append.mp hc with hc | hc
    · simp only [List.mem_cons, List.not_mem_nil, or_false] at hc
      omega
    · obtain ⟨k, _, rfl⟩ := List.mem_map.mp hc
      have h0 : k.fmod 5 = k % 5 := Int.fmod_eq_emod_of_nonneg _ (by decide)
      have h1 : (k.fdiv 5).fmod 62 = (k.fdiv 5) % 62 := Int.fmod_eq_emod_of_nonneg _ (by decide)
      rw [h0, h1]
      repeat' split
      all_goals omega
  · rw [List.length_append]; exact Nat.le_add_right 12 _
  · rw [List.length_append, List.length_map, List.length_take]
    have : min 10 ns.length ≤ 10 := Nat.min_le_left _ _
    show 12 + _ ≤ 22
    omega
theorem gen_vals2 {us : List Value} {v1 : List Int} (h : IntsAre us (v1 ++ (List.replicate ((-(v1.length : Int)).fmod 4).toNat [0]).flatten)) (h6 : Six v1) (hlo : 12 ≤ v1.length) (hhi : v1.length ≤ 22) :
    ∃ v2 : List Int, IntsAre us v2 ∧ Six v2 ∧ v2.length % 4 = 0 ∧ 12 ≤ v2.length ∧ v2.length ≤ 24 := by
  have e : (-(v1.length : Int)).fmod 4 = (-(v1.length : Int)) % 4 := Int.fmod_eq_emod_of_nonneg _ (by decide)
  have hf : ∀ n, (List.replicate n [(0 : Int)]).flatten = List.replicate n 0 := fun n => by
    induction n with
    | zero => rfl
    | succ n ih => rw [List.replicate_succ, List.flatten_cons, ih]; rfl
  rw [hf, e] at h
  refine ⟨_, h, ?_, ?_, ?_, ?_⟩
  · intro c hc
    rcases List.mem_append.mp hc with hc | hc
    · exact h6 c hc
    · rw [(List.mem_replicate.mp hc).2]; decide
  all_goals rw [List.length_append, List.length_replicate]
  all_goals omega
theorem rep_le {v1 : List Int} (hhi : v1.length ≤ 22) : v1.length + (List.replicate ((-(v1.length : Int)).fmod 4).toNat [(0 : Int)]).flatten.length ≤ 1000 := by
  have e : (-(v1.length : Int)).fmod 4 = (-(v1.length : Int)) % 4 := Int.fmod_eq_emod_of_nonneg _ (by decide)
  have hf : ∀ n, (List.replicate n [(0 : Int)]).flatten.length = n := fun n => by
    induction n with
    | zero => rfl
    | succ n ih => rw [List.replicate_succ, List.flatten_cons, List.length_append, ih]; show 1 + n = n + 1; omega
  rw [hf, e]; omega
theorem news_drop1 {h₀ h : Heap} {L : Addr} {a : Addr × Obj} {l : List (Addr × Obj)} (N : News h₀ L h (a :: l)) : News h₀ L h l := fun p hp => N p (.tail _ hp)
theorem news_drop4 {h₀ h : Heap} {L : Addr} {a b c d : Addr × Obj} {l : List (Addr × Obj)} (N : News h₀ L h (a :: b :: c :: d :: l)) : News h₀ L h l := news_drop1 (news_drop1 (news_drop1 (news_drop1 N)))
theorem Six.at {v : List Int} {k : Int} (hk : k ∈ v) (h : Six v) : 0 ≤ k ∧ k < 64 := h k hk
section
variable {prog : Program} {w : World} {A : Around} {E : Value → Shared → Prop} {s : Shared} {h₀ : Heap} {L : Addr} {m : Str → Option Value} {news : List (Addr × Obj)}
theorem letters_len : lettersS.length = 64 := by decide +kernel
theorem sub_letters {value slice : PySem.Expr} {t : Tok} {i : Int} {u : Tok} {Q : Value → Shared → Prop} (hi : 0 ≤ i ∧ i < 64)
    (h1 : Q (.str (ch (signOf i)) s.toks) { s with toks := s.toks + 1 })
    (hs : subscripted slice false (.str lettersS t) (.int i u) = operate [.str lettersS t, .int i u] (getItem (.str lettersS t) (.int i u)))
    (ht : ∀ r, letTemporaryGo value (.str lettersS t) r = pure ()) : wpAny (model prog w) A (subscriptTail value slice (.str lettersS t) (.int i u)) Q E s := by
  refine item_str (fitsSsize_of (N := 9223372036854775808) (by omega) (by omega) (Int.le_refl _)) (by omega) (by rw [letters_len]; exact hi.2) (fun _ => ?_) hs ht
  rw [letters_at hi.1 hi.2]
  exact h1
end
/-- the text of a row of signs -/
noncomputable def textOf (l : List Nat) : Str := ⟨l.toArray⟩
theorem textOf_len (l : List Nat) : (textOf l).length = l.length := by show l.toArray.size = _; simp
theorem textOf_app (a b : List Nat) : textOf a ++ textOf b = textOf (a ++ b) := by
  rw [app_cps]; unfold textOf; simp
theorem join_chs : ∀ l : List Nat, Txt.join (Str.ofString "") (l.map ch) = textOf l := by
  intro l
  show Builtin.Str.glued (Str.ofString "") (l.map ch) = _
  rw [StrLaws.glued_eq_join]
  induction l with
  | nil => rfl
  | cons a r ih =>
    cases r with
    | nil => rfl
    | cons b r =>
      show ch a ++ Str.ofString "" ++ Str.join (Str.ofString "") ((b :: r).map ch) = _
      rw [ih, empty_eq, app_empty]
      show textOf [a] ++ textOf (b :: r) = _
      rw [textOf_app]; rfl
theorem strs_of_rel {ys : List Value} : ∀ {v : List Int}, ys.length = v.length → (∀ (i : Nat) (y : Value), ys[i]? = some y → ∃ (k : Int) (t : Tok), v[i]? = some k ∧ y = Value.str (ch (signOf k)) t) → StrsAre ys ((v.map signOf).map ch) := by
  induction ys with
  | nil => intro v hl _; rw [List.length_eq_zero_iff.mp hl.symm]; exact .nil
  | cons y ys ih =>
    intro v hl h
    cases v with
    | nil => simp at hl
    | cons k v =>
      obtain ⟨k', t, hk, rfl⟩ := h 0 y (List.getElem?_cons_zero)
      simp only [List.getElem?_cons_zero, Option.some.injEq] at hk
      subst hk
      exact .cons _ _ (ih (by simpa using hl) fun i z hz => h (i + 1) z (by simpa using hz))
section
variable {prog : Program} {w : World} {A : Around} {E : Value → Shared → Prop} {s : Shared} {h₀ : Heap} {L D : Addr} {m : Str → Option Value} {news : List (Addr × Obj)}
theorem join_signs {t : Tok} {ys : List Value} {l : List Nat} {Q : Value → Shared → Prop} (hl : s.heap.IsList D ys.toArray) (hs : StrsAre ys (l.map ch)) (hn : l.length ≤ 1000)
    (h : ∀ t' k, Q (.str (textOf l) t') { s with toks := k }) : wpAny (model prog w) A (call (.builtin "str.join") [.str (Str.ofString "") t, .ref D]) Q E s := by
  have hc := hs.carried
  rw [List.map_map] at hc
  refine KT.join_1 (l := l) (g := ch) hl hc (fun _ _ => rfl) (by omega) fun t' k _ => ?_
  rw [join_chs]
  exact h t' k
end
theorem news_front {h₀ h : Heap} {L : Addr} {p : Addr × Obj} {l : List (Addr × Obj)} (N : News h₀ L h l) (hp : p ∈ l) : News h₀ L h (p :: l) := fun q hq => by
  rcases List.mem_cons.mp hq with rfl | hq
  · exact N _ hp
  · exact N q hq
theorem Six.all {v : List Int} (h : Six v) : ∀ c ∈ v, 0 ≤ c ∧ c < 64 := h
end
section
open PySem PySem.W PySem.Spec PySem.Calls PyProof.Rows
set_option maxRecDepth 100000
set_option maxHeartbeats 4000000
/-- the octets of a row of signs -/
noncomputable def bytesOf (l : List Nat) : Array UInt8 := byteArr (l.map fun n : Nat => (n : Int))
theorem sign_lt {v : Int} (h : 0 ≤ v ∧ v < 64) : signOf v < 128 := six_fin (P := fun v => signOf v < 128) (by decide +kernel) h.1 h.2
theorem signs_lt {v : List Int} (h : Six v) : ∀ c ∈ v.map signOf, c < 128 := fun c hc => by
  obtain ⟨k, hk, rfl⟩ := List.mem_map.mp hc
  exact sign_lt (h k hk)
theorem ints_bytesOf {l : List Nat} (h : ∀ c ∈ l, c < 128) : KBw.bInts (bytesOf l) = l.map fun n : Nat => (n : Int) :=
  ints_byteArr fun c hc => by
    obtain ⟨n, hn, rfl⟩ := List.mem_map.mp hc
    have := h n hn
    omega
theorem bytesOf_size (l : List Nat) : (bytesOf l).size = l.length := by unfold bytesOf; rw [byteArr_size, List.length_map]
theorem signs_toU {v : List Int} (h : Six v) : ((v.map signOf).map fun n : Nat => (n : Int)) = v.map fun v => toU (b64c v) := by
  rw [List.map_map]
  exact List.map_congr_left fun k hk => signOf_int (h k hk).1 (h k hk).2
theorem enc_law {v : List Int} (h4 : v.length % 4 = 0) (h6 : Six v) : byteArr ((encOut (KBw.bInts (byteArr (octets v)))).map toU) = bytesOf (v.map signOf) := by
  rw [ints_byteArr (octets_in v h6), enc_octets h4 h6]
  unfold bytesOf
  rw [signs_toU h6]
theorem from_law {v : List Int} (h6 : Six v) : (KBw.bInts (bytesOf (v.map signOf))).map fromU = (v.map fun v => toU (b64c v)).map fromU := by
  rw [ints_bytesOf (signs_lt h6), signs_toU h6]
theorem dec_law {v : List Int} (h4 : v.length % 4 = 0) (h6 : Six v) : byteArr (decOut ((KBw.bInts (bytesOf (v.map signOf))).map fromU)) = byteArr (octets v) := by
  rw [from_law h6, dec_octets h4 h6]
theorem dec_ok {v : List Int} (h6 : Six v) : ∀ c ∈ (KBw.bInts (bytesOf (v.map signOf))).map fromU, c ≠ 61 ∧ b64v c < 64 := by
  rw [from_law h6, List.map_map]
  intro c hc
  obtain ⟨k, hk, rfl⟩ := List.mem_map.mp hc
  have h := h6 k hk
  show fromU (toU (b64c k)) ≠ 61 ∧ b64v (fromU (toU (b64c k))) < 64
  rw [toU_from h.1 h.2, b64c_v h.1 h.2]
  refine ⟨?_, h.2⟩
  unfold b64c
  repeat' split
  all_goals omega
section
variable {w : World} {pv : Program} {loose : List Str} {mean : ExcName → Option Value} {mg mb : Str → Option Value}
    {dp un : Nat} {gd : Option (List Code)} {cn : Str} {cs : Scope} {a : Addr} {ccd : Value} {cl : List (Str × Addr)} {outer : List Env} {A₀ : Around} {base h₀ : Heap} {L : Addr} {m : Str → Option Value} {news : List (Addr × Obj)} {s : Shared}
    {Q E : Value → Shared → Prop}
theorem encode_law {v : List Int} {tb ta : Tok} (B : Below A₀ base outer h₀) (F : Fr h₀ L s.heap m) (X : (Kf w.params).In h₀) (N : News h₀ L s.heap news) (T : Top pv loose mean mg mb h₀) (hk : cs.kind = .function)
    (hd : dp + 4 < recursionLimit) (hu : un + 32 < cLine) (hsz : v.length ≤ 100) (h4 : v.length % 4 = 0) (h6 : Six v)
    (ret : ∀ t h' tk', Fr h₀ L h' m → News h₀ L h' news → Q (.bytes (bytesOf (v.map signOf)) t) { s with heap := h', toks := tk' }) :
    wpAny (model PySem.Challenge.rw_il0176_01.prog w) (ktrTop dp un gd cn cs L a ccd cl outer) (call (.ref 285) [.bytes (byteArr (octets v)) tb, .bytes #[46, 39] ta]) Q E s := by
  have ho := octets_len v h4
  refine b64encode_ok B F X N T hk hd hu (by rw [byteArr_size, ho]; omega) (by rw [byteArr_size, ho]; omega) fun t h' tk' F' N' => ?_
  rw [enc_law h4 h6]
  exact ret t h' tk' F' N'
theorem decode_law {v : List Int} {tb ta : Tok} (B : Below A₀ base outer h₀) (F : Fr h₀ L s.heap m) (X : (Kf w.params).In h₀) (N : News h₀ L s.heap news) (T : Top pv loose mean mg mb h₀) (hk : cs.kind = .function)
    (hd : dp + 4 < recursionLimit) (hu : un + 32 < cLine) (hsz : v.length ≤ 100) (h4 : v.length % 4 = 0) (h6 : Six v)
    (ret : ∀ t h' tk', Fr h₀ L h' m → News h₀ L h' news → Q (.bytes (byteArr (octets v)) t) { s with heap := h', toks := tk' }) :
    wpAny (model PySem.Challenge.rw_il0176_01.prog w) (ktrTop dp un gd cn cs L a ccd cl outer) (call (.ref 293) [.bytes (bytesOf (v.map signOf)) tb, .bytes #[46, 39] ta]) Q E s := by
  refine b64decode_ok B F X N T hk hd hu (by rw [bytesOf_size, List.length_map]; exact hsz) (by rw [bytesOf_size, List.length_map]; exact h4) (dec_ok h6) fun t h' tk' F' N' => ?_
  rw [dec_law h4 h6]
  exact ret t h' tk' F' N'
end
section
variable {prog : Program} {w : World} {A : Around} {E : Value → Shared → Prop} {s : Shared} {h₀ : Heap} {L : Addr} {m : Str → Option Value} {env : Env}
noncomputable def SrcB (prog : Program) (w : World) (A : Around) (h₀ : Heap) (L : Addr) (m : Str → Option Value) (env : Env) (elt : PySem.Expr) (x : Str) (scope : Scope) (cl : List (Str × Addr)) (Q : Value → Shared → Prop) (xv : Value) (s₁ : Shared) : Prop :=
  ∃ b tb news, xv = .bytes b tb ∧ A.handled = none ∧ Fr h₀ L s₁.heap m ∧ News h₀ L s₁.heap news ∧ b.size ≤ 1000 ∧ ∀ g, LCg.CompRest prog w A h₀ L m env elt x scope cl { s₁ with heap := g } (fun _ => True) (fun i v => ∃ c u, b[i]? = some c ∧ v = .int (c.toNat : Int) u) (LCg.FinE h₀ L m { s₁ with heap := g } Q) b.size 0 [] news
noncomputable def SrcS (prog : Program) (w : World) (A : Around) (h₀ : Heap) (L : Addr) (m : Str → Option Value) (env : Env) (elt : PySem.Expr) (x : Str) (scope : Scope) (cl : List (Str × Addr)) (Q : Value → Shared → Prop) (xv : Value) (s₁ : Shared) : Prop :=
  ∃ xt tx news, xv = .str xt tx ∧ A.handled = none ∧ Fr h₀ L s₁.heap m ∧ News h₀ L s₁.heap news ∧ xt.cps.size ≤ 1000 ∧ xt.cps.all (· < 128) = true ∧ ∀ g, LCg.CompRest prog w A h₀ L m env elt x scope cl { s₁ with heap := g } (fun _ => True) (SignAt xt) (LCg.FinE h₀ L m { s₁ with heap := g } Q) xt.cps.size 0 [] news
theorem ListComp_bytes {elt iter : PySem.Expr} {x : Str} {px : Pos} {scope : Scope} {cl : List (Str × Addr)} {pos : Pos} {Q : Value → Shared → Prop} (F₀ : Fr h₀ L s.heap m)
    (hclos : closureFor scope env = pure cl) (hcell : ∀ y ∈ scope.names, y.2 ≠ .cell) (hkind : scope.kind = .function)
    (hnames : ∀ y ∈ scope.names, y.2 = .local → scope.names.lookup y.1 = some .local) (hx : scope.names.lookup x = some .local)
    (h : wpAny (model prog w) A (eval iter env) (SrcB prog w A h₀ L m env elt x scope cl Q) E s)
    (hs : ∀ x, foldedSetIterable iter env x = pure x := by intro _; rfl) :
    wpAny (model prog w) A (eval (.ListComp elt [⟨.Name x px, iter, [], 0⟩] scope pos) env) Q E s := by
  refine ListComp_W (h₀ := h₀) (L := L) (m := m) hclos hcell hkind hnames hx (wpAny_mono h (fun xv s₁ h₁ => ?_) fun _ _ e => e) hs
  obtain ⟨b, tb, news, rfl, hh, F, N, hz, R⟩ := h₁
  refine KBw.pyIter_bytes ?_
  exact ⟨_, _, _, _, news, rfl, KBw.walks hh _ b tb, Nat.le_trans hz (Nat.le_of_ble_eq_true rfl), fun i h st => let ⟨o, e, _⟩ := st; ⟨o, e⟩, ⟨_, Heap.get?_push_size _ rfl, rfl, rfl⟩,
    by show s₁.heap.objs.size < (s₁.heap.push _).objs.size; rw [Heap.size_push]; exact Nat.lt_succ_self _, F.push _, N.grown fun _ _ e => Heap.get?_push_of_some _ e, Nat.ne_of_lt F.ns.lt, next_is_new F, fun p hp => Nat.ne_of_lt (Heap.lt_size (N p hp).1), R _⟩
theorem ListComp_str {elt iter : PySem.Expr} {x : Str} {px : Pos} {scope : Scope} {cl : List (Str × Addr)} {pos : Pos} {Q : Value → Shared → Prop} (F₀ : Fr h₀ L s.heap m)
    (hclos : closureFor scope env = pure cl) (hcell : ∀ y ∈ scope.names, y.2 ≠ .cell) (hkind : scope.kind = .function)
    (hnames : ∀ y ∈ scope.names, y.2 = .local → scope.names.lookup y.1 = some .local) (hx : scope.names.lookup x = some .local)
    (h : wpAny (model prog w) A (eval iter env) (SrcS prog w A h₀ L m env elt x scope cl Q) E s)
    (hs : ∀ x, foldedSetIterable iter env x = pure x := by intro _; rfl) :
    wpAny (model prog w) A (eval (.ListComp elt [⟨.Name x px, iter, [], 0⟩] scope pos) env) Q E s := by
  refine ListComp_W (h₀ := h₀) (L := L) (m := m) hclos hcell hkind hnames hx (wpAny_mono h (fun xv s₁ h₁ => ?_) fun _ _ e => e) hs
  obtain ⟨xt, tx, news, rfl, hh, F, N, hz, ha, R⟩ := h₁
  refine wpAny_pyIter_ascii ha ?_
  exact ⟨_, _, _, _, news, rfl, Walks.strAscii hh _ xt tx, Nat.le_trans hz (Nat.le_of_ble_eq_true rfl), fun i h st => let ⟨o, e, _⟩ := st; ⟨o, e⟩, ⟨_, Heap.get?_push_size _ rfl, rfl, rfl⟩,
    by show s₁.heap.objs.size < (s₁.heap.push _).objs.size; rw [Heap.size_push]; exact Nat.lt_succ_self _, F.push _, N.grown fun _ _ e => Heap.get?_push_of_some _ e, Nat.ne_of_lt F.ns.lt, next_is_new F, fun p hp => Nat.ne_of_lt (Heap.lt_size (N p hp).1), R _⟩
end
theorem bytes_at {v : List Int} (h6 : Six v) {i : Nat} {c : UInt8} (h : (bytesOf (v.map signOf))[i]? = some c) : ∃ k, v[i]? = some k ∧ (c.toNat : Int) = ((signOf k : Nat) : Int) := by
  have h1 := KBw.ints_get h
  rw [ints_bytesOf (signs_lt h6), List.map_map, List.getElem?_map] at h1
  obtain ⟨k, hk, e⟩ := Option.map_eq_some_iff.mp h1
  exact ⟨k, hk, e.symm⟩
section
variable {prog : Program} {w : World} {A : Around} {E : Value → Shared → Prop} {s : Shared}
theorem item_two {value slice : PySem.Expr} {l : Addr} {a b : Str} {ta tb : Tok} {k : Int} {u : Tok} {Q : Value → Shared → Prop} (hl : s.heap.IsList l (List.toArray [.str a ta, .str b tb])) (h0 : 0 ≤ k) (h1 : k < 2)
    (h : ∀ x t, x = a ∨ x = b → Q (.str x t) s)
    (hs : subscripted slice false (.ref l) (.int k u) = operate [.ref l, .int k u] (getItem (.ref l) (.int k u))) :
    wpAny (model prog w) A (subscriptTail value slice (.ref l) (.int k u)) Q E s := by
  rcases (show k = 0 ∨ k = 1 by omega) with rfl | rfl
  · exact tail_any hl.typeIs slot_list_getitem.lookup (wpAny_getItem_list hl (by decide) (by decide) rfl (h a ta (.inl rfl))) hs
  · exact tail_any hl.typeIs slot_list_getitem.lookup (wpAny_getItem_list hl (by decide) (by decide) rfl (h b tb (.inr rfl))) hs
theorem ne_same {x : Str} {t u : Tok} {Q : Value → Shared → Prop} (h : Q (.bool false) s) : wpAny (model prog w) A (compareOp .NotEq (.str x t) (.str x u)) Q E s := by
  refine ne_str ?_
  rw [show (x != x) = false by simp]
  exact h
theorem ne_sameB {x : Array UInt8} {t u : Tok} {Q : Value → Shared → Prop} (h : Q (.bool false) s) : wpAny (model prog w) A (compareOp .NotEq (.bytes x t) (.bytes x u)) Q E s := by
  refine ne_bytes ?_
  rw [show (x.toList != x.toList) = false by simp]
  exact h
end
theorem tail_two {l : List Nat} {x : Str} (h : x = Str.ofString "=" ∨ x = Str.ofString "") : ∃ tl : List Nat, (tl = [61] ∨ tl = []) ∧ textOf l ++ x = textOf (l ++ tl) := by
  rcases h with rfl | rfl
  · exact ⟨[61], .inl rfl, by rw [eqs_eq]; exact textOf_app l [61]⟩
  · exact ⟨[], .inr rfl, by rw [empty_eq, app_empty, List.append_nil]⟩
section
variable {prog : Program} {w : World} {A : Around} {E : Value → Shared → Prop} {s : Shared}
theorem cat_text {l : List Nat} {x : Str} {t u : Tok} {Q : Value → Shared → Prop} (hx : x = Str.ofString "=" ∨ x = Str.ofString "") (hz : l.length ≤ 1000)
    (h : ∀ tl t' k, (tl = [61] ∨ tl = []) → Q (.str (textOf (l ++ tl)) t') { s with toks := k }) : wpAny (model prog w) A (binaryOp .Add (.str (textOf l) t) (.str x u)) Q E s := by
  obtain ⟨tl, htl, e⟩ := tail_two (l := l) hx
  refine add_str (fun t' k => ?_) ?_
  · rw [e]; exact h tl t' k htl
  · rw [textOf_len, sizeLine_eq]
    have : x.length ≤ 1 := by rcases hx with rfl | rfl <;> decide +kernel
    omega
end
end
section
open PySem PySem.W PySem.Spec PySem.Calls PyProof.Rows
set_option maxRecDepth 100000
set_option maxHeartbeats 8000000
theorem lines_ZN_0 : True := by
  k_with_none
  k_with "ENTERX" => (refine' code_fdX ?zke ?zk1 ?zk2 ?zk3 ?zk4 ?zk5 ?zkA ?zkF ?zkK ?zk6 ?zk7 ?zk8 ?zk9 ?zkB ?_ ?zc2 ?zc3 ?zc4 ?zc5; (case zke => assumption); (case zkA => exact rfl); (case zkF => exact rfl); (case zkK => assumption); (case zk1 => k_asm); (case zk2 => k_asm); (case zk3 => k_asm); (case zk4 => k_asm); (case zk5 => k_asm); (case zk6 => k_is); (case zk7 => k_is); (case zk8 => ktr_room); (case zk9 => exact BindsTo.of_eq rfl); (case zkB => exact locs rfl); (case zc2 => exact rfl); (case zc3 => exact rfl); (case zc4 => exact rfl); (case zc5 => decide); k_whole; intro g' L' h' FG' F' N' B' X' T' D'; (try dsimp only); (try k_lift B'); (try k_fold); (try (with_reducible refine name_A ?_; intro A9)))
  k_with "call ref" => (k_here; (with_reducible show wpAny _ _ (call (Value.ref 148) _ _) _ _ _); k_dflt (refine' parse_key_ok ?zB ?zF ?zX ?zN ?zT ?zXB ?zTB ?zD ?zhk ?zhd ?zhu ?zhC ?zhT ?zhnP ?zh0 ?zh1 ?zhsz ?zhnl ?zhS ?zhS9 ?zhall ?zhS2 ?zhS29 ?zh34 ?zhS3 ?zhS39 ?zhws ?_ ?_; (case zN => first | k_asm | exact cons_app (by k_asm) | exact cons_app2 (by k_asm) | exact cons_app3 (by k_asm)); (case zB => k_asm); (case zF => k_asm); (case zX => k_asm); (case zT => k_asm); (case zXB => assumption); (case zTB => assumption); (case zD => assumption); (case zhk => first | exact rfl | assumption); (case zhd => ktr_room); (case zhu => ktr_units); (case zhC => k_asm); (case zhT => k_asm); (case zhnP => k_asm); (case zh0 => l_fact); (case zh1 => l_fact); (case zhsz => k_asm); (case zhnl => k_asm); (case zhS => assumption); (case zhS9 => assumption); (case zhall => assumption); (case zhS2 => assumption); (case zhS29 => assumption); (case zh34 => assumption); (case zhS3 => assumption); (case zhS39 => assumption); (case zhws => assumption); k_whole); (intro q ks t ka vs x g' h' tk' hq' hs' hfr' hlt' T' F' N' K' X' P' D'; (replace T' := KtsTurn.trans (by first | with_reducible assumption | exact KtsTurn.refl) T'); (try k_lift K'); (try k_sweep)); rotate_left; (intro hq' e' t9' g' G' h' tk' hT9' T' F' K' X' P' D' R' U'; (replace T' := KtsTurn.trans (by first | with_reducible assumption | exact KtsTurn.refl) T'); (try k_lift K')); rotate_right)
  trivial
section
variable {w : World} {pv : Program} {loose : List Str} {mean : ExcName → Option Value} {mg mb : Str → Option Value}
    {dp un : Nat} {gd : Option (List Code)} {cn : Str} {cs : Scope} {a : Addr} {ccd : Value} {cl : List (Str × Addr)} {outer : List Env} {A₀ : Around} {base h₀ : Heap} {L : Addr} {m : Str → Option Value} {news : List (Addr × Obj)} {s : Shared}
    {Q E : Value → Shared → Prop}

theorem law_found_top {src : Str} {ts tp : Tok} {p : Int} {T0 : List (Addr × Obj)} (B : Below A₀ base [] h₀) (F : Fr h₀ L s.heap m) (X : (Kf w.params).In h₀) (N : News h₀ L s.heap (news ++ T0)) (T : Top pv loose mean mg mb h₀) (XB : (Kf w.params).In base) (TB : Top pv loose mean mg mb base) (hk : cs.kind = .function)
    (hd : dp + 10 < recursionLimit) (hu : un + 112 < cLine) (hC : CodeHd base 204 200) (hT : TabS T0) (hnP : ∀ q ∈ news, q.1 ≠ 200) (h0 : 0 ≤ p) (h1 : p ≤ (src.length : Int)) (hsz : src.length ≤ 1000) (hnl : ∀ (i : Nat) (h : i < src.length), src.cps[i]'h ≠ 10) {S : List Str} (hS : SetAt base 89 S) (hS9 : S.length < 4096) (hall : ∀ c ∈ src.cps.toList, ch c ∉ S ∧ c < 128) {S2 : List Str} (hS2 : SetAt base 104 S2) (hS29 : S2.length < 4096) (h34 : ∀ c ∈ src.cps.toList, c ≠ 34) {S3 : List Str} (hS3 : SetAt base 95 S3) (hS39 : S3.length < 4096) (hws : ∀ c ∈ src.cps.toList, ch c ∉ S3)
    (ret : ∀ q ks t ka vs x h' tk', keyAt S2 src p = some (q, ks) → StrsAre vs ks → (∀ r ∈ news ++ T0, r.1 < ka) → ka < x → Fr h₀ L h' m → News h₀ L h' ((x, tup2 (.int q t) (.ref ka)) :: (ka, tupObj vs) :: (news ++ T0)) → Q (.ref x) { s with heap := h', toks := tk' }) (none : ∀ T' h' tk', keyAt S2 src p = none → TabS T' → Fr h₀ L h' m → News h₀ L h' (news ++ T') → Q (.none) { s with heap := h', toks := tk' }) :
    wpAny (model PySem.Challenge.rw_il0176_01.prog w) (ktrTop dp un gd cn cs L a ccd cl []) (call (.ref 331) [.str src ts, .int p tp]) Q E s := by
  revert X; k_fill; intro X
  have hfd := e58
  refine wpAny_call ?_
  k_dflt (walk_at "ENTERX")
  clear hfd
  k_steps
  · exact ret _ _ _ _ _ _ _ _ (by assumption) (by assumption) (by assumption) (by assumption) (by k_asm) (by k_asm)
  · exact none _ _ _ (by assumption) (by assumption) (by k_asm) (by k_asm)
end
end
section
open PySem PySem.W PySem.Spec PySem.Calls PyProof.Rows
set_option maxRecDepth 100000
set_option maxHeartbeats 4000000
theorem sign_facts : ∀ c ∈ signL, c ≠ 10 ∧ c ≠ 34 ∧ c < 128 ∧ ch c ∉ L89 ∧ ch c ∉ L95 ∧ (c = 39 ∨ c = 46 ∨ c = 61 ∨ (BS L104 c = true ∧ c ≠ 91 ∧ c ≠ 93 ∧ c ≠ 95 ∧ c ≠ 46 ∧ c ≠ 39 ∧ c ≠ 61)) := by decide +kernel
theorem alb : AlB (BS L104) := ⟨by decide +kernel, by decide +kernel, by decide +kernel⟩
theorem len_sets : L89.length < 4096 ∧ L95.length < 4096 ∧ L104.length < 4096 := ⟨by decide +kernel, by decide +kernel, by decide +kernel⟩
/-- a text of signs -/
structure TextOk (x : Str) : Prop where
  signs : ∀ c ∈ x.cps.toList, c ∈ signL
  short : x.length ≤ 50
theorem TextOk.al {x : Str} (h : TextOk x) : Al (BS L104) x.cps.toList := fun c hc => (sign_facts c (h.signs c hc)).2.2.2.2.2
section
variable {w : World} {pv : Program} {loose : List Str} {mean : ExcName → Option Value} {mg mb : Str → Option Value}
    {dp un : Nat} {gd : Option (List Code)} {cn : Str} {cs : Scope} {a : Addr} {ccd : Value} {cl : List (Str × Addr)} {outer : List Env} {A₀ : Around} {base h₀ : Heap} {L : Addr} {m : Str → Option Value} {news : List (Addr × Obj)} {s : Shared}
    {Q E : Value → Shared → Prop} {src : Str} {ts tp : Tok} {p : Nat} {T0 : List (Addr × Obj)}
theorem found_gen (B : Below A₀ base [] h₀) (F : Fr h₀ L s.heap m) (X : (Kf w.params).In h₀) (N : News h₀ L s.heap (news ++ T0)) (T : Top pv loose mean mg mb h₀) (XB : (Kf w.params).In base) (TB : Top pv loose mean mg mb base) (hk : cs.kind = .function)
    (hd : dp + 10 < recursionLimit) (hu : un + 112 < cLine) (hC : CodeHd base 204 200) (hT : TabS T0) (hnP : ∀ q ∈ news, q.1 ≠ 200) (h1 : p ≤ src.length) (ht : TextOk src) (hS1 : SetAt base 89 L89) (hS2 : SetAt base 104 L104) (hS3 : SetAt base 95 L95)
    (ret : ∀ q ks t ka vs x h' tk', keyAt L104 src (p : Int) = some (q, ks) → StrsAre vs ks → Fr h₀ L h' m → News h₀ L h' ((x, tup2 (.int q t) (.ref ka)) :: (ka, tupObj vs) :: (news ++ T0)) → Q (.ref x) { s with heap := h', toks := tk' })
    (none : ∀ T' h' tk', keyAt L104 src (p : Int) = none → TabS T' → Fr h₀ L h' m → News h₀ L h' (news ++ T') → Q .none { s with heap := h', toks := tk' }) :
    wpAny (model PySem.Challenge.rw_il0176_01.prog w) (ktrTop dp un gd cn cs L a ccd cl []) (call (.ref 331) [.str src ts, .int (p : Int) tp]) Q E s :=
  law_found_top B F X N T XB TB hk hd hu hC hT hnP (by omega) (by omega) (by have := ht.short; omega) (fun i hi => (sign_facts _ (ht.signs _ (by have := Array.getElem_mem hi; simpa using this))).1) hS1 len_sets.1
    (fun c hc => ⟨(sign_facts c (ht.signs c hc)).2.2.2.1, (sign_facts c (ht.signs c hc)).2.2.1⟩) hS2 len_sets.2.2 (fun c hc => (sign_facts c (ht.signs c hc)).2.1) hS3 len_sets.2.1 (fun c hc => (sign_facts c (ht.signs c hc)).2.2.2.2.1)
    (fun q ks t ka vs x h' tk' e hs _ _ F' N' => ret q ks t ka vs x h' tk' e hs F' N') none
theorem found_some {q : Int} {ks : List Str} (hkey : keyAt L104 src (p : Int) = some (q, ks)) (B : Below A₀ base [] h₀) (F : Fr h₀ L s.heap m) (X : (Kf w.params).In h₀) (N : News h₀ L s.heap (news ++ T0)) (T : Top pv loose mean mg mb h₀) (XB : (Kf w.params).In base) (TB : Top pv loose mean mg mb base) (hk : cs.kind = .function)
    (hd : dp + 10 < recursionLimit) (hu : un + 112 < cLine) (hC : CodeHd base 204 200) (hT : TabS T0) (hnP : ∀ q ∈ news, q.1 ≠ 200) (h1 : p ≤ src.length) (ht : TextOk src) (hS1 : SetAt base 89 L89) (hS2 : SetAt base 104 L104) (hS3 : SetAt base 95 L95)
    (ret : ∀ t ka vs x h' tk', StrsAre vs ks → Fr h₀ L h' m → News h₀ L h' ((x, tup2 (.int q t) (.ref ka)) :: (ka, tupObj vs) :: (news ++ T0)) → Q (.ref x) { s with heap := h', toks := tk' }) :
    wpAny (model PySem.Challenge.rw_il0176_01.prog w) (ktrTop dp un gd cn cs L a ccd cl []) (call (.ref 331) [.str src ts, .int (p : Int) tp]) Q E s :=
  found_gen B F X N T XB TB hk hd hu hC hT hnP h1 ht hS1 hS2 hS3 (fun q' ks' t ka vs x h' tk' e hs F' N' => by
    rw [hkey] at e; injection e with e; injection e with e1 e2; subst e1 e2
    exact ret t ka vs x h' tk' hs F' N') (fun _ _ _ e => by rw [hkey] at e; cases e)
theorem found_none (hkey : keyAt L104 src (p : Int) = none) (B : Below A₀ base [] h₀) (F : Fr h₀ L s.heap m) (X : (Kf w.params).In h₀) (N : News h₀ L s.heap (news ++ T0)) (T : Top pv loose mean mg mb h₀) (XB : (Kf w.params).In base) (TB : Top pv loose mean mg mb base) (hk : cs.kind = .function)
    (hd : dp + 10 < recursionLimit) (hu : un + 112 < cLine) (hC : CodeHd base 204 200) (hT : TabS T0) (hnP : ∀ q ∈ news, q.1 ≠ 200) (h1 : p ≤ src.length) (ht : TextOk src) (hS1 : SetAt base 89 L89) (hS2 : SetAt base 104 L104) (hS3 : SetAt base 95 L95)
    (ret : ∀ T' h' tk', TabS T' → Fr h₀ L h' m → News h₀ L h' (news ++ T') → Q .none { s with heap := h', toks := tk' }) :
    wpAny (model PySem.Challenge.rw_il0176_01.prog w) (ktrTop dp un gd cn cs L a ccd cl []) (call (.ref 331) [.str src ts, .int (p : Int) tp]) Q E s :=
  found_gen B F X N T XB TB hk hd hu hC hT hnP h1 ht hS1 hS2 hS3 (fun q' ks' t ka vs x h' tk' e => by rw [hkey] at e; cases e) (fun T' h' tk' _ hT' F' N' => ret T' h' tk' hT' F' N')
theorem told_some {q : Int} {ks : List Str} (hkey : keyAt L104 src (p : Int) = some (q, ks)) (B : Below A₀ base outer h₀) (F : Fr h₀ L s.heap m) (X : (Kf w.params).In h₀) (N : News h₀ L s.heap (news ++ T0)) (T : Top pv loose mean mg mb h₀) (hk : cs.kind = .function)
    (hd : dp + 8 < recursionLimit) (hu : un + 60 < cLine) (hC : CodeHd base 316 312) (hT : TabL T0) (hnP : ∀ q ∈ news, q.1 ≠ 312) (h1 : p ≤ src.length) (ht : TextOk src)
    (ret : ∀ t ka vs x T' h' tk', StrsAre vs ks → Fr h₀ L h' m → News h₀ L h' ((x, tup2 (.int q t) (.ref ka)) :: (ka, tupObj vs) :: (news ++ T')) → TabL T' → Q (.ref x) { s with heap := h', toks := tk' }) :
    wpAny (model PySem.Challenge.rw_il0176_01.prog w) (ktrTop dp un gd cn cs L a ccd cl outer) (call (.ref 345) [.str src ts, .int (p : Int) tp]) Q E s := by
  have hr := rest_cps h1
  have hsub : ∀ c ∈ src.cps.toList.drop p, c ∈ signL := fun c hc => ht.signs c (List.mem_of_mem_drop hc)
  have hft := found_told alb ht.al h1
  refine told_ok B F X N T hk hd hu hC hT hnP (by omega) (by omega) (by have := ht.short; omega) ?_ ?_ ?_ ?_ ?_
  · have hz : (Txt.slice src (some (p : Int)) none).length = (Txt.slice src (some (p : Int)) none).cps.toList.length := by simp; rfl
    rw [hz, hr, List.length_drop]
    have := ht.short
    have h2 : src.cps.toList.length = src.length := by simp; rfl
    omega
  · rw [hr]; exact okP_pat _ _ hsub
  · rw [hr]; exact patF_okc true _ hsub
  · intro T' h' tk' e; rw [hft, hkey] at e; cases e
  · intro q' ks' t ka vs x T' h' tk' e hs F' N' hT'
    rw [hft, hkey] at e; injection e with e; injection e with e1 e2; subst e1 e2
    exact ret t ka vs x T' h' tk' hs F' N' hT'
theorem told_none (hkey : keyAt L104 src (p : Int) = none) (B : Below A₀ base outer h₀) (F : Fr h₀ L s.heap m) (X : (Kf w.params).In h₀) (N : News h₀ L s.heap (news ++ T0)) (T : Top pv loose mean mg mb h₀) (hk : cs.kind = .function)
    (hd : dp + 8 < recursionLimit) (hu : un + 60 < cLine) (hC : CodeHd base 316 312) (hT : TabL T0) (hnP : ∀ q ∈ news, q.1 ≠ 312) (h1 : p ≤ src.length) (ht : TextOk src)
    (ret : ∀ T' h' tk', Fr h₀ L h' m → News h₀ L h' (news ++ T') → TabL T' → Q .none { s with heap := h', toks := tk' }) :
    wpAny (model PySem.Challenge.rw_il0176_01.prog w) (ktrTop dp un gd cn cs L a ccd cl outer) (call (.ref 345) [.str src ts, .int (p : Int) tp]) Q E s := by
  have hr := rest_cps h1
  have hsub : ∀ c ∈ src.cps.toList.drop p, c ∈ signL := fun c hc => ht.signs c (List.mem_of_mem_drop hc)
  have hft := found_told alb ht.al h1
  refine told_ok B F X N T hk hd hu hC hT hnP (by omega) (by omega) (by have := ht.short; omega) ?_ ?_ ?_ ?_ ?_
  · have hz : (Txt.slice src (some (p : Int)) none).length = (Txt.slice src (some (p : Int)) none).cps.toList.length := by simp; rfl
    rw [hz, hr, List.length_drop]
    have := ht.short
    have h2 : src.cps.toList.length = src.length := by simp; rfl
    omega
  · rw [hr]; exact okP_pat _ _ hsub
  · rw [hr]; exact patF_okc true _ hsub
  · intro T' h' tk' _ F' N' hT'; exact ret T' h' tk' F' N' hT'
  · intro q' ks' t ka vs x T' h' tk' e; rw [hft, hkey] at e; cases e
end
theorem datall_strs {news : List (Addr × Obj)} : ∀ {vs : List Value} {ks : List Str}, StrsAre vs ks → DatAll news vs (ks.map PySem.W.Dat.str)
  | _, _, .nil => .nil
  | _, _, .cons y t h => .cons (.str y t) (datall_strs h)
section
variable {prog : Program} {w : World} {A : Around} {E : Value → Shared → Prop} {s : Shared} {h₀ : Heap} {L : Addr} {news : List (Addr × Obj)}
theorem key_dat {x ka : Addr} {q : Int} {t : Tok} {vs : List Value} {ks : List Str} (hx : (x, tup2 (.int q t) (.ref ka)) ∈ news) (hka : (ka, tupObj vs) ∈ news) (hv : StrsAre vs ks) : DatIn news (.ref x) (.tuple [.int q, .tuple (ks.map PySem.W.Dat.str)]) :=
  .tuple (vs := [.int q t, .ref ka]) hx (.cons (.int q t) (.cons (.tuple hka (datall_strs hv)) .nil))
theorem ne_keys {x y ka kb : Addr} {q : Int} {t u : Tok} {vs ws : List Value} {ks : List Str} {Q : Value → Shared → Prop} (N : News h₀ L s.heap news) (hx : (x, tup2 (.int q t) (.ref ka)) ∈ news) (hka : (ka, tupObj vs) ∈ news) (hy : (y, tup2 (.int q u) (.ref kb)) ∈ news) (hkb : (kb, tupObj ws) ∈ news)
    (hv : StrsAre vs ks) (hw : StrsAre ws ks) (hok : ∀ k ∈ ks, PyData.strOk k = true) (hu : A.units + 64 < cLine) (h : Q (.bool false) s) : wpAny (model prog w) A (compareOp .NotEq (.ref x) (.ref y)) Q E s := by
  have hk : kqdOk 8 (.tuple [.int q, .tuple (ks.map PySem.W.Dat.str)]) = true := by
    simp [kqdOk]
    exact hok
  obtain ⟨as, ra⟩ := kqd_in N 8 (key_dat hx hka hv) hk
  obtain ⟨bs, rb⟩ := kqd_in N 8 (key_dat hy hkb hw) hk
  have la := kqd_lay 8 _ hk
  refine ne_dataH ra rb ?_ ?_ hu (by rw [(kqd_eqv 8 _ _ 8 hk hk).mpr rfl]; exact h)
  · unfold SeqAt.shaped; rw [la.1, Bool.true_and]; exact decide_eq_true (Nat.le_trans la.2 (by decide))
  · unfold SeqAt.shaped; rw [la.1, Bool.true_and]; exact decide_eq_true (Nat.le_trans la.2 (by decide))
end
end
section
open PySem PySem.W PySem.Spec PySem.Calls PyProof.Rows
set_option maxRecDepth 100000
set_option maxHeartbeats 4000000
theorem drop_take2 (l : List Nat) (p k : Nat) : (l.take (p + k)).drop p = (l.drop p).take k := by
  rw [List.drop_take, Nat.add_sub_cancel_left]
theorem tw_mem {B : Nat → Bool} : ∀ {l : List Nat} {x : Nat}, x ∈ l.takeWhile B → B x = true
  | [], _, h => nomatch h
  | c :: r, x, h => by
    by_cases hc : B c = true
    · rw [List.takeWhile_cons_of_pos hc] at h
      rcases List.mem_cons.mp h with rfl | h
      · exact hc
      · exact tw_mem h
    · rw [List.takeWhile_cons_of_neg hc] at h; cases h
/-- where one part of a key lies in the signs -/
theorem partL_at {B : Nat → Bool} {full nm : List Nat} {p k : Nat} (h : partL B (full.drop p) = some (nm, k)) :
    ∃ a o : Nat, a ≤ o ∧ o ≤ full.length ∧ nm = (full.take o).drop a ∧ ((p + k = o ∧ a < o ∧ ∀ c ∈ nm, B c = true) ∨ (p + k = o + 1 ∧ full[o]? = some 39)) := by
  cases hd : full.drop p with
  | nil => rw [hd] at h; cases h
  | cons c r =>
    have hpl : p < full.length := by
      have := congrArg List.length hd
      rw [List.length_drop, List.length_cons] at this
      omega
    rw [hd, partL] at h
    split at h
    · rename_i hc
      injection h with h; injection h with h1 h2
      subst h1 h2
      have hpre := List.takeWhile_prefix B (l := c :: r)
      have hl := hpre.length_le
      have hdl : (c :: r).length = full.length - p := by rw [← hd, List.length_drop]
      refine ⟨p, p + ((c :: r).takeWhile B).length, Nat.le_add_right _ _, by omega, ?_, .inl ⟨rfl, ?_, ?_⟩⟩
      · rw [drop_take2, hd]; exact List.prefix_iff_eq_take.mp hpre
      · rw [List.takeWhile_cons_of_pos hc]; simp
      · intro x hx; exact tw_mem hx
    · split at h
      · split at h
        · rename_i hm
          injection h with h; injection h with h1 h2
          subst h1 h2
          have hr : full.drop (p + 1) = r := by rw [← List.drop_drop, hd]; rfl
          have hlt := tw_lt hm
          have hrl : r.length = full.length - (p + 1) := by rw [← hr, List.length_drop]
          refine ⟨p + 1, p + 1 + (r.takeWhile (· ≠ 39)).length, Nat.le_add_right _ _, by omega, ?_, .inr ⟨by omega, ?_⟩⟩
          · rw [drop_take2, hr]; exact List.prefix_iff_eq_take.mp (List.takeWhile_prefix _)
          · have e : full[p + 1 + (r.takeWhile (· ≠ 39)).length]? = r[(r.takeWhile (· ≠ 39)).length]? := by
              rw [← hr, List.getElem?_drop]
            rw [e]
            have hdw : r.drop (r.takeWhile (· ≠ 39)).length = r.dropWhile (· ≠ 39) := drop_takeWhile _ r
            have hne : r.dropWhile (· ≠ 39) ≠ [] := fun e0 => by
              rw [e0] at hdw
              have := congrArg List.length hdw
              rw [List.length_drop, List.length_nil] at this
              omega
            have hh := List.head_dropWhile_not (fun x : Nat => decide (x ≠ 39)) hne
            cases hw : r.dropWhile (· ≠ 39) with
            | nil => exact absurd hw hne
            | cons y ys =>
              have hy : y = 39 := by
                have h9 : decide (y ≠ 39) = false := by
                  have := hh
                  simp only [hw, List.head_cons] at this
                  exact this
                simpa using h9
              rw [hw] at hdw
              rw [← List.head?_drop, hdw, hy]; rfl
        · cases h
      · cases h
theorem key_last {B : Nat → Bool} {full : List Nat} : ∀ (N p : Nat) (key : List Str) (q : Int) (ks : List Str), p ≤ full.length → keyL B N (full.drop p) (p : Int) key = some (q, ks) →
    ∃ (a o : Nat) (ks' : List Str), a ≤ o ∧ o ≤ full.length ∧ ks = ks' ++ [textOf ((full.take o).drop a)] ∧ ((q = (o : Int) ∧ a < o ∧ ∀ c ∈ (full.take o).drop a, B c = true) ∨ (q = (o : Int) + 1 ∧ full[o]? = some 39)) ∧
      ∀ x ∈ ks, x ∈ key ∨ ∀ c ∈ x.cps.toList, c ∈ full
  | 0, _, _, _, _, _, h => by cases h
  | N + 1, p, key, q, ks, hp, h => by
    rw [keyL] at h
    cases hpt : partL B (full.drop p) with
    | none => rw [hpt] at h; cases h
    | some r =>
      obtain ⟨nm, k⟩ := r
      rw [hpt] at h
      obtain ⟨a, o, hao, hol, hnm, hcase⟩ := partL_at hpt
      have hk := partL_le hpt
      rw [List.length_drop] at hk
      have hin : ∀ c ∈ (⟨nm.toArray⟩ : Str).cps.toList, c ∈ full := fun c hc => by
        have hc' : c ∈ nm := by simpa using hc
        rw [hnm] at hc'
        exact List.mem_of_mem_take (List.mem_of_mem_drop hc')
      dsimp only at h
      split at h
      · rename_i hd
        have e1 : ((full.drop p).drop k).tail = full.drop (p + k + 1) := by rw [List.drop_drop, List.tail_drop]
        have hlt : p + k + 1 ≤ full.length := by
          rw [List.drop_drop] at hd
          cases e : full.drop (p + k) with
          | nil => rw [e] at hd; cases hd
          | cons y ys =>
            have := congrArg List.length e
            rw [List.length_drop, List.length_cons] at this
            omega
        rw [e1, show ((p : Int) + (k : Int) + 1) = ((p + k + 1 : Nat) : Int) by omega] at h
        obtain ⟨a', o', ks', h1, h2, h3, h4, h5⟩ := key_last N (p + k + 1) _ q ks hlt h
        refine ⟨a', o', ks', h1, h2, h3, h4, fun x hx => ?_⟩
        rcases h5 x hx with h5 | h5
        · rcases List.mem_append.mp h5 with h6 | h6
          · exact .inl h6
          · rw [List.mem_singleton.mp h6]; exact .inr hin
        · exact .inr h5
      · injection h with h; injection h with h1 h2
        refine ⟨a, o, key, hao, hol, by rw [← h2, hnm]; rfl, ?_, fun x hx => ?_⟩
        · rcases hcase with ⟨c1, c2, c3⟩ | ⟨c1, c2⟩
          · exact .inl ⟨by omega, c2, by rw [← hnm]; exact c3⟩
          · exact .inr ⟨by omega, c2⟩
        · rw [← h2] at hx
          rcases List.mem_append.mp hx with h6 | h6
          · exact .inl h6
          · rw [List.mem_singleton.mp h6]; exact .inr hin
/-- the last name of a key, as the values that stand there -/
theorem key_sub {v : List Int} {tl : List Nat} (h6 : Six v) (htl : tl = [61] ∨ tl = []) {p : Nat} {q : Int} {ks : List Str} (hp : p ≤ (v.map signOf ++ tl).length) (h : keyAt L104 (textOf (v.map signOf ++ tl)) (p : Int) = some (q, ks)) :
    ∃ (a o : Nat) (ks' : List Str), a ≤ o ∧ o ≤ v.length ∧ ks = ks' ++ [textOf (((v.take o).drop a).map signOf)] ∧
      ((q = (o : Int) ∧ 1 ≤ o ∧ ∃ c, (v.map signOf ++ tl)[o - 1]? = some c ∧ c ≠ 39) ∨ (q = (o : Int) + 1 ∧ (v.map signOf ++ tl)[o]? = some 39)) ∧ (∀ k ∈ ks, PyData.strOk k = true) := by
  have htx : (textOf (v.map signOf ++ tl)).cps.toList = v.map signOf ++ tl := by simp [textOf]
  rw [key_list (N := (textOf (v.map signOf ++ tl)).length) (by rw [textOf_len]; exact hp) (Nat.le_refl _), htx] at h
  obtain ⟨a, o, ks', h1, h2, h3, h4, h5⟩ := key_last _ p [] q ks hp h
  have hlen : (v.map signOf ++ tl).length = v.length + tl.length := by rw [List.length_append, List.length_map]
  have hat : ∀ i, v.length ≤ i → i < v.length + tl.length → (v.map signOf ++ tl)[i]? = some 61 := fun i hi hi2 => by
    rcases htl with rfl | rfl
    · rw [List.getElem?_append_right (by rw [List.length_map]; exact hi), List.length_map]
      have : i - v.length = 0 := by simp at hi2; omega
      rw [this]; rfl
    · simp at hi2; omega
  have hov : o ≤ v.length := by
    rcases h4 with ⟨c1, c2, c3⟩ | ⟨c1, c2⟩
    · apply Classical.byContradiction
      intro hn
      have e := hat (o - 1) (by omega) (by omega)
      have hm : 61 ∈ ((v.map signOf ++ tl).take o).drop a := by
        rw [List.mem_iff_getElem?]
        refine ⟨o - 1 - a, ?_⟩
        rw [List.getElem?_drop, show a + (o - 1 - a) = o - 1 by omega, List.getElem?_take_of_lt (by omega)]
        exact e
      have := c3 61 hm
      rw [alb.e] at this
      cases this
    · apply Classical.byContradiction
      intro hn
      have hlt : o < (v.map signOf ++ tl).length := (List.getElem?_eq_some_iff.mp c2).1
      rw [hat o (by omega) (by omega)] at c2
      cases c2
  have htake : (v.map signOf ++ tl).take o = (v.take o).map signOf := by
    rw [List.take_append_of_le_length (by rw [List.length_map]; exact hov), List.map_take]
  have hsub : ((v.map signOf ++ tl).take o).drop a = ((v.take o).drop a).map signOf := by rw [htake, List.map_drop]
  refine ⟨a, o, ks', h1, hov, by rw [← hsub]; exact h3, ?_, fun k hk => ?_⟩
  · rcases h4 with ⟨c1, c2, c3⟩ | ⟨c1, c2⟩
    · left
      refine ⟨c1, by omega, ?_⟩
      have hlt : o - 1 < (v.map signOf ++ tl).length := by omega
      refine ⟨(v.map signOf ++ tl)[o - 1], List.getElem?_eq_getElem hlt, ?_⟩
      have hm : (v.map signOf ++ tl)[o - 1] ∈ ((v.map signOf ++ tl).take o).drop a := by
        rw [List.mem_iff_getElem?]
        refine ⟨o - 1 - a, ?_⟩
        rw [List.getElem?_drop, show a + (o - 1 - a) = o - 1 by omega, List.getElem?_take_of_lt (by omega)]
        exact List.getElem?_eq_getElem hlt
      have hb := c3 _ hm
      intro e
      rw [e, alb.q] at hb
      cases hb
    · exact .inr ⟨c1, c2⟩
  · rcases h5 k hk with h5 | h5
    · cases h5
    · unfold PyData.strOk
      rw [Array.all_eq_true']
      intro c hc
      have hc2 := h5 c (by simpa using hc)
      have : c < 128 := by
        rcases List.mem_append.mp hc2 with hm | hm
        · exact signs_lt h6 c hm
        · rcases htl with rfl | rfl
          · rw [List.mem_singleton.mp hm]; decide
          · cases hm
      exact decide_eq_true (by omega)
end
section
open PySem PySem.W PySem.Spec PySem.Calls PyProof.Rows
set_option maxRecDepth 100000
set_option maxHeartbeats 4000000
theorem flat_rep (n : Nat) (z : Int) : (List.replicate n [z]).flatten = List.replicate n z := by
  induction n with
  | zero => rfl
  | succ n ih => rw [List.replicate_succ, List.flatten_cons, ih]; rfl
theorem sign0 : signOf 0 = 65 := by decide +kernel
theorem A_eq : Str.ofString "A" = ⟨#[65]⟩ := by decide +kernel
theorem mul_A_text (k : Int) : Txt.mul (Str.ofString "A") k = textOf (List.map signOf (List.replicate k.toNat [(0 : Int)]).flatten) := by
  rw [flat_rep, List.map_replicate, sign0, A_eq]
  have h := mul_one_list 65 k
  have : Txt.mul ⟨#[65]⟩ k = textOf (Txt.mul ⟨#[65]⟩ k).cps.toList := by simp [textOf]
  rw [this, h]
section
variable {prog : Program} {w : World} {A : Around} {E : Value → Shared → Prop} {s : Shared} {h₀ : Heap} {L : Addr} {m : Str → Option Value} {news : List (Addr × Obj)}
theorem mul_A {t u : Tok} {k : Int} {Q : Value → Shared → Prop} (h0 : 0 ≤ k ∧ k ≤ 4)
    (h : ∀ t' j, Q (.str (textOf (List.map signOf (List.replicate k.toNat [(0 : Int)]).flatten)) t') { s with toks := j }) : wpAny (model prog w) A (binaryOp .Mult (.str (Str.ofString "A") t) (.int k u)) Q E s := by
  refine SB.mul ?_ fun t' j => ?_
  · have h1 : (Str.ofString "A").length = 1 := by decide +kernel
    refine ⟨?_, fun h2 _ => ?_, fun h2 _ => ?_⟩
    · rw [Bool.or_eq_false_iff]; exact ⟨decide_eq_false (by omega), decide_eq_false (by omega)⟩
    · rw [h1]
      have : (1 : Int) ≤ (2 ^ 63 - 1) / k := by
        rcases (show k = 1 ∨ k = 2 ∨ k = 3 ∨ k = 4 by omega) with rfl | rfl | rfl | rfl <;> decide
      exact Int.not_lt.mpr this
    · rw [h1]
      unfold Builtin.Str.tooLong
      rcases (show k = 1 ∨ k = 2 ∨ k = 3 ∨ k = 4 by omega) with rfl | rfl | rfl | rfl <;> decide +kernel
  · rw [mul_A_text]; exact h t' j
theorem cat_signs {a b : List Int} {t u : Tok} {Q : Value → Shared → Prop} (hz : (a ++ b).length ≤ 1000)
    (h : ∀ t' j, Q (.str (textOf (List.map signOf (a ++ b))) t') { s with toks := j }) : wpAny (model prog w) A (binaryOp .Add (.str (textOf (List.map signOf a)) t) (.str (textOf (List.map signOf b)) u)) Q E s := by
  rw [List.length_append] at hz
  refine add_str (fun t' j => ?_) (by rw [textOf_len, textOf_len, List.length_map, List.length_map, sizeLine_eq]; omega)
  rw [textOf_app, ← List.map_append]
  exact h t' j
theorem len_signs {a : List Int} {t : Tok} {Q : Value → Shared → Prop} (hz : a.length ≤ 1000) (h : Q (.int (a.length : Int) (s.toks + 1)) { s with toks := s.toks + 1 + 1 }) : wpAny (model prog w) A (call (.builtin "len") [.str (textOf (List.map signOf a)) t]) Q E s := by
  have e : (textOf (List.map signOf a)).length = a.length := by rw [textOf_len, List.length_map]
  refine len_str (by rw [e]; omega) ?_
  rw [e]; exact h
theorem item_last {value slice : PySem.Expr} {ka : Addr} {vs : List Value} {ks' : List Str} {nm : Str} {u : Tok} {Q : Value → Shared → Prop} (hl : IsTup s.heap ka vs.toArray) (hv : StrsAre vs (ks' ++ [nm]))
    (h : ∀ t, Q (.str nm t) s)
    (hs : subscripted slice false (.ref ka) (.int (-1) u) = operate [.ref ka, .int (-1) u] (getItem (.ref ka) (.int (-1) u))) :
    wpAny (model prog w) A (subscriptTail value slice (.ref ka) (.int (-1) u)) Q E s := by
  have hlen := strs_len hv
  rw [List.length_append, List.length_singleton] at hlen
  have hx : ∃ t, vs[ks'.length]? = some (.str nm t) := by
    have : ∀ {vs : List Value} {ks' : List Str}, StrsAre vs (ks' ++ [nm]) → ∃ t, vs[ks'.length]? = some (.str nm t) := by
      intro vs ks'
      induction ks' generalizing vs with
      | nil => intro h; cases h with | cons y t h => exact ⟨t, rfl⟩
      | cons k ks' ih => intro h; cases h with | cons y t h => obtain ⟨t', e⟩ := ih h; exact ⟨t', by simpa using e⟩
    exact this hv
  obtain ⟨t, hx⟩ := hx
  refine item_tupleT (j := ks'.length) hl (by decide) (by decide) ?_ hx (h t) hs
  unfold seqIndex?
  rw [hlen]
  simp only [show ((-1 : Int) < 0) from by decide, if_true]
  rw [if_pos]
  · congr 1; omega
  · simp only [Bool.and_eq_true, decide_eq_true_eq]; omega
theorem add_ints2 {a b : Addr} {ys zs : List Value} {as bs : List Int} {Q : Value → Shared → Prop} (F : Fr h₀ L s.heap m) (N : News h₀ L s.heap news) (ha : s.heap.IsList a (List.toArray ys)) (hb : s.heap.IsList b (List.toArray zs)) (hy : IntsAre ys as) (hz : IntsAre zs bs) (hl : (as ++ bs).length ≤ 1000)
    (h : ∀ D us h', IntsAre us (as ++ bs) → Fr h₀ L h' m → News h₀ L h' ((D, W.listOf (List.toArray us) 0) :: news) → (∀ p ∈ news, p.1 < D) → Q (.ref D) { s with heap := h' }) :
    wpAny (model prog w) A (binaryOp .Add (.ref a) (.ref b)) Q E s := by
  rw [List.length_append] at hl
  exact add_two F N ha hb (by rw [hy.length, hz.length]; omega) fun D h' F' N' l1 => h D _ h' (hy.append hz) F' N' l1
/-- the octets of signs, one by one -/
theorem bytes_signs {D : Addr} {ys : List Value} {v : List Int} {Q : Value → Shared → Prop} (F : Fr h₀ L s.heap m) (N : News h₀ L s.heap news) (hh : A.handled = none) (hl : s.heap.IsList D (List.toArray ys)) (hi : IntsAre ys ((v.map signOf).map fun n : Nat => (n : Int))) (h6 : Six v) (hz : v.length ≤ 1000)
    (h : ∀ h' t' k, Fr h₀ L h' m → News h₀ L h' news → Q (.bytes (bytesOf (v.map signOf)) t') { s with heap := h', toks := k }) : wpAny (model prog w) A (call (.type "bytes") [.ref D]) Q E s :=
  KBa.make_K F N hh hl hi (fun c hc => by
    obtain ⟨n, hn, rfl⟩ := List.mem_map.mp hc
    have := signs_lt h6 n hn
    omega) (by rw [List.length_map, List.length_map]; omega) fun h' t' k F' N' _ => h h' t' k F' N'
end
theorem pick_sub {us : List Value} {a o : Nat} (ho : o ≤ us.length) (hao : a ≤ o) : ∀ x y : Int, x = (a : Int) → y = (o : Int) → kms_pick (List.toArray us).toList (some x) (some y) = (us.take o).drop a := by
  rintro x y rfl rfl
  unfold kms_pick kms_lo kms_hi
  have e1 : (List.toArray us).toList = us := rfl
  rw [e1]
  dsimp only
  rw [if_neg (by omega), if_neg (by omega)]
  rw [show min ((a : Nat) : Int).toNat us.length = a by omega, show min ((o : Nat) : Int).toNat us.length = o by omega, List.drop_take]
theorem ints_sub {us : List Value} {v : List Int} (h : IntsAre us v) (o a : Nat) : IntsAre ((us.take o).drop a) ((v.take o).drop a) := by
  have ht : ∀ {us : List Value} {v : List Int}, IntsAre us v → ∀ o, IntsAre (us.take o) (v.take o) := by
    intro us v h
    induction h with
    | nil => intro o; simp; exact .nil
    | cons k t h ih => intro o; cases o with
      | zero => exact .nil
      | succ o => exact .cons k t (ih o)
  have hd : ∀ {us : List Value} {v : List Int}, IntsAre us v → ∀ a, IntsAre (us.drop a) (v.drop a) := by
    intro us v h
    induction h with
    | nil => intro o; simp; exact .nil
    | cons k t h ih => intro a; cases a with
      | zero => exact .cons k t h
      | succ a => exact ih a
  exact hd (ht h o) a
theorem ints_of_rel {ys : List Value} : ∀ {l : List Nat}, ys.length = l.length → (∀ (i : Nat) (y : Value), ys[i]? = some y → ∃ (k : Nat) (t : Tok), l[i]? = some k ∧ y = Value.int (k : Int) t) → IntsAre ys (l.map fun n : Nat => (n : Int)) := by
  induction ys with
  | nil => intro v hl _; rw [List.length_eq_zero_iff.mp hl.symm]; exact .nil
  | cons y ys ih =>
    intro v hl h
    cases v with
    | nil => simp at hl
    | cons k v =>
      obtain ⟨k', t, hk, rfl⟩ := h 0 y (List.getElem?_cons_zero)
      simp only [List.getElem?_cons_zero, Option.some.injEq] at hk
      subst hk
      exact .cons _ _ (ih (by simpa using hl) fun i z hz => h (i + 1) z (by simpa using hz))
/-- a row made up with noughts to whole fours -/
theorem pad_facts {sub : List Int} (h6 : Six sub) (hl : sub.length ≤ 50) : Six (sub ++ (List.replicate ((-(sub.length : Int)).fmod 4).toNat [(0 : Int)]).flatten) ∧ (sub ++ (List.replicate ((-(sub.length : Int)).fmod 4).toNat [(0 : Int)]).flatten).length % 4 = 0 ∧
    (sub ++ (List.replicate ((-(sub.length : Int)).fmod 4).toNat [(0 : Int)]).flatten).length ≤ 60 ∧ (0 ≤ (-(sub.length : Int)).fmod 4 ∧ (-(sub.length : Int)).fmod 4 ≤ 4) := by
  have e : (-(sub.length : Int)).fmod 4 = (-(sub.length : Int)) % 4 := Int.fmod_eq_emod_of_nonneg _ (by decide)
  rw [flat_rep, e, List.length_append, List.length_replicate]
  refine ⟨?_, by omega, by omega, by omega, by omega⟩
  intro c hc
  rcases List.mem_append.mp hc with hc | hc
  · exact h6 c hc
  · rw [(List.mem_replicate.mp hc).2]; decide
theorem Six.sub {v : List Int} (h : Six v) (o a : Nat) : Six ((v.take o).drop a) := fun c hc => h c (List.mem_of_mem_take (List.mem_of_mem_drop hc))
theorem signAt_text {l : List Nat} {i : Nat} {v : Value} (h : SignAt (textOf l) i v) : ∃ (c : Nat) (t : Tok), l[i]? = some c ∧ v = .str (ch c) t := by
  obtain ⟨c, t, hc, rfl⟩ := h
  exact ⟨c, t, by simpa [textOf] using hc, rfl⟩
theorem text_ascii {l : List Nat} (h : ∀ c ∈ l, c < 128) : (textOf l).cps.all (· < 128) = true := by
  rw [Array.all_eq_true']
  intro c hc
  exact decide_eq_true (h c (by simpa [textOf] using hc))
theorem item_text {l : List Nat} {i : Nat} {c : Nat} (h : l[i]? = some c) : Txt.item (textOf l) (i : Int) = ch c := by
  obtain ⟨hl, e⟩ := List.getElem?_eq_some_iff.mp h
  have hd := List.drop_eq_getElem_cons hl
  rw [e] at hd
  have : (textOf l).cps.toList = l := by simp [textOf]
  rw [← this] at hd
  exact (item_at2 hd).1
section
variable {prog : Program} {w : World} {A : Around} {E : Value → Shared → Prop} {s : Shared}
theorem sub_text {value slice : PySem.Expr} {l : List Nat} {i c : Nat} {t : Tok} {k : Int} {u : Tok} {Q : Value → Shared → Prop} (hc : l[i]? = some c) (hk : k = (i : Int)) (hl : l.length ≤ 1000)
    (h1 : Q (.str (ch c) s.toks) { s with toks := s.toks + 1 })
    (hs : subscripted slice false (.str (textOf l) t) (.int k u) = operate [.str (textOf l) t, .int k u] (getItem (.str (textOf l) t) (.int k u)))
    (ht : ∀ r, letTemporaryGo value (.str (textOf l) t) r = pure ()) : wpAny (model prog w) A (subscriptTail value slice (.str (textOf l) t) (.int k u)) Q E s := by
  subst hk
  have hlt := (List.getElem?_eq_some_iff.mp hc).1
  refine item_str (fitsSsize_of (N := 9223372036854775808) (by omega) (by omega) (Int.le_refl _)) (by omega) (by rw [textOf_len]; omega) (fun _ => ?_) hs ht
  rw [item_text hc]
  exact h1
theorem quote_ch : Str.ofString "'" = ch 39 := by decide +kernel
theorem eq_quote_no {c : Nat} {t u : Tok} {Q : Value → Shared → Prop} (hc : c ≠ 39) (h : Q (.bool false) s) : wpAny (model prog w) A (compareOp .Eq (.str (ch c) t) (.str (Str.ofString "'") u)) Q E s := by
  refine eq_str ?_
  have : (ch c == Str.ofString "'") = false := by
    rw [quote_ch, beq_eq_false_iff_ne]
    exact fun e => hc (ch_inj2 e)
  rw [this]; exact h
theorem eq_quote_yes {t u : Tok} {Q : Value → Shared → Prop} (h : Q (.bool true) s) : wpAny (model prog w) A (compareOp .Eq (.str (ch 39) t) (.str (Str.ofString "'") u)) Q E s := by
  refine eq_str ?_
  have : (ch 39 == Str.ofString "'") = true := by rw [quote_ch]; exact beq_self_eq_true _
  rw [this]; exact h
end
section
variable {prog : Program} {w : World} {A : Around} {E : Value → Shared → Prop} {s : Shared} {h₀ : Heap} {L : Addr} {m : Str → Option Value} {news : List (Addr × Obj)}
theorem mul_zero {l : Addr} {t u : Tok} {k : Int} {Q : Value → Shared → Prop} (F : Fr h₀ L s.heap m) (N : News h₀ L s.heap news) (hl : s.heap.IsList l (List.toArray [.int 0 t])) (h0 : 0 ≤ k ∧ k ≤ 4)
    (h : ∀ D zs h', IntsAre zs (List.replicate k.toNat [(0 : Int)]).flatten → Fr h₀ L h' m → News h₀ L h' ((D, W.listOf (List.toArray zs) 0) :: news) → (∀ p ∈ news, p.1 < D) → Q (.ref D) { s with heap := h' }) :
    wpAny (model prog w) A (binaryOp .Mult (.ref l) (.int k u)) Q E s :=
  KM.mul F N hl (.cons 0 t .nil) (by omega) (by omega) (by show 1 * k.toNat ≤ _; have : k.toNat ≤ 4 := by omega
                                                           have h2 : (4 : Nat) ≤ 2 ^ 24 := by decide
                                                           omega) fun D h' F' N' l1 i1 _ _ _ _ _ => h D _ h' i1 F' N' l1
end
theorem ord_ch {prog : Program} {w : World} {A : Around} {E : Value → Shared → Prop} {s : Shared} {c : Nat} {t : Tok} {Q : Value → Shared → Prop} (h : Q (.int (c : Nat) s.toks) { s with toks := s.toks + 1 }) : wpAny (model prog w) A (call (.builtin "ord") [.str (ch c) t]) Q E s :=
  ord_of_one (x := ch c) rfl h
end
section
open PySem PySem.W PySem.Spec PySem.Calls PyProof.Rows
set_option maxRecDepth 100000
set_option maxHeartbeats 4000000
/-- what cannot be the table at P -/
noncomputable def NotT (P : Addr) (q : Addr × Obj) : Prop := q.2.cls ≠ .none ∨ q.1 ≠ P ∨ ∃ vs x t, q.2.data = .fields vs ∧ vs[1]? = some (.str x t)
theorem off_of {h₀ h : Heap} {L P : Addr} {ps : Array Value} {l : List (Addr × Obj)} (N : News h₀ L h l) (hP : (P, tabObj ps) ∈ l) (hps : ∀ x t, ps[1]? ≠ some (.str x t)) {q : Addr × Obj} (hq : q ∈ l) (hn : NotT P q) : q.1 ≠ P := by
  intro e
  have h1 := (N _ hq).1
  have h2 := (N _ hP).1
  rw [e, h2] at h1
  have h3 : tabObj ps = q.2 := Option.some.inj h1
  rcases hn with hn | hn | ⟨vs, x, t, hd, hv⟩
  · exact hn (by rw [← h3])
  · exact hn e
  · rw [← h3] at hd
    injection hd with hd
    subst hd
    exact hps x t hv
theorem tabS_tab {T : List (Addr × Obj)} (h : TabS T) : ∃ ps, (200, tabObj ps) ∈ T ∧ ∀ x t, ps[1]? ≠ some (.str x t) := by
  cases h with
  | empty => exact ⟨_, .head _, fun x t e => by cases e⟩
  | full => exact ⟨_, .tail _ (.head _), fun x t e => by cases e⟩
theorem tabL_tab {T : List (Addr × Obj)} (h : TabL T) : ∃ ps, (312, tabObj ps) ∈ T ∧ ∀ x t, ps[1]? ≠ some (.str x t) := by
  cases h with
  | empty => exact ⟨_, .head _, fun x t e => by cases e⟩
  | full => exact ⟨_, .tail _ (.head _), fun x t e => by cases e⟩
theorem notT_S {T : List (Addr × Obj)} (h : TabS T) : ∀ q ∈ T, NotT 312 q := by
  cases h with
  | empty => intro q hq; rw [List.mem_singleton.mp hq]; exact .inr (.inl (show (200 : Nat) ≠ 312 by decide))
  | full h1 h2 =>
    intro q hq
    rcases List.mem_cons.mp hq with rfl | hq
    · exact .inr (.inr ⟨_, _, _, h1, h2⟩)
    · rw [List.mem_singleton.mp hq]; exact .inr (.inl (show (200 : Nat) ≠ 312 by decide))
theorem notT_L {T : List (Addr × Obj)} (h : TabL T) : ∀ q ∈ T, NotT 200 q := by
  cases h with
  | empty => intro q hq; rw [List.mem_singleton.mp hq]; exact .inr (.inl (show (312 : Nat) ≠ 200 by decide))
  | full h1 h2 =>
    intro q hq
    rcases List.mem_cons.mp hq with rfl | hq
    · exact .inr (.inr ⟨_, _, _, h1, h2⟩)
    · rw [List.mem_singleton.mp hq]; exact .inr (.inl (show (312 : Nat) ≠ 200 by decide))
/-- an iterator over a range is none of the tables' things -/
theorem off_iter {h₀ h : Heap} {L I : Addr} {a b c : Int} {l : List (Addr × Obj)} (N : News h₀ L h l) (hI : (I, ({ cls := .type "range_iterator", data := .fields #[rawInt a, rawInt b, rawInt c] } : Obj)) ∈ l) {q : Addr × Obj} (hq : q ∈ l) (hn : q.2.cls = .none ∨ ∃ vs x t, q.2.data = .fields vs ∧ vs[1]? = some (.str x t)) : q.1 ≠ I := by
  intro e
  have h1 := (N _ hq).1
  have h2 := (N _ hI).1
  rw [e, h2] at h1
  have h3 := Option.some.inj h1
  rcases hn with hn | ⟨vs, x, t, hd, hv⟩
  · rw [← h3] at hn; cases hn
  · rw [← h3] at hd
    injection hd with hd
    subst hd
    cases hv
theorem tabS_kind {T : List (Addr × Obj)} (h : TabS T) : ∀ q ∈ T, q.2.cls = .none ∨ ∃ vs x t, q.2.data = .fields vs ∧ vs[1]? = some (.str x t) := by
  cases h with
  | empty => intro q hq; rw [List.mem_singleton.mp hq]; exact .inl rfl
  | full h1 h2 =>
    intro q hq
    rcases List.mem_cons.mp hq with rfl | hq
    · exact .inr ⟨_, _, _, h1, h2⟩
    · rw [List.mem_singleton.mp hq]; exact .inl rfl
theorem tabL_kind {T : List (Addr × Obj)} (h : TabL T) : ∀ q ∈ T, q.2.cls = .none ∨ ∃ vs x t, q.2.data = .fields vs ∧ vs[1]? = some (.str x t) := by
  cases h with
  | empty => intro q hq; rw [List.mem_singleton.mp hq]; exact .inl rfl
  | full h1 h2 =>
    intro q hq
    rcases List.mem_cons.mp hq with rfl | hq
    · exact .inr ⟨_, _, _, h1, h2⟩
    · rw [List.mem_singleton.mp hq]; exact .inl rfl
theorem news_sub {h₀ h : Heap} {L : Addr} {l l' : List (Addr × Obj)} (N : News h₀ L h l) (hs : ∀ p ∈ l', p ∈ l) : News h₀ L h l' := fun p hp => N p (hs p hp)
section
variable {w : World} {pv : Program} {loose : List Str} {mean : ExcName → Option Value} {mg mb : Str → Option Value}
    {dp un : Nat} {gd : Option (List Code)} {cn : Str} {cs : Scope} {a : Addr} {ccd : Value} {cl : List (Str × Addr)} {A₀ : Around} {h₀ : Heap} {L : Addr} {m : Str → Option Value} {I D X1 X2 : Addr × Obj} {s : Shared}
    {Q E : Value → Shared → Prop} {src : Str} {ts tp : Tok} {p : Nat} {T1 T2 : List (Addr × Obj)}
theorem t_found_some {q : Int} {ks : List Str} (hkey : keyAt L104 src (p : Int) = some (q, ks)) (B : Below A₀ h₀ [] h₀) (F : Fr h₀ L s.heap m) (X : (Kf w.params).In h₀) (N : News h₀ L s.heap (I :: D :: (T2 ++ T1))) (T : Top pv loose mean mg mb h₀) (hk : cs.kind = .function)
    (hd : dp + 10 < recursionLimit) (hu : un + 112 < cLine) (hC : CodeHd h₀ 204 200) (hT1 : TabS T1) (hT2 : TabL T2) (hI : I.2.cls ≠ .none) (hD : D.2.cls ≠ .none) (h1 : p ≤ src.length) (ht : TextOk src) (hS1 : SetAt h₀ 89 L89) (hS2 : SetAt h₀ 104 L104) (hS3 : SetAt h₀ 95 L95)
    (ret : ∀ t ka vs x h' tk', StrsAre vs ks → Fr h₀ L h' m → News h₀ L h' ((x, tup2 (.int q t) (.ref ka)) :: (ka, tupObj vs) :: I :: D :: (T2 ++ T1)) → Q (.ref x) { s with heap := h', toks := tk' }) :
    wpAny (model PySem.Challenge.rw_il0176_01.prog w) (ktrTop dp un gd cn cs L a ccd cl []) (call (.ref 331) [.str src ts, .int (p : Int) tp]) Q E s := by
  have N1 : News h₀ L s.heap ((I :: D :: T2) ++ T1) := N
  obtain ⟨ps, hps, hne⟩ := tabS_tab hT1
  refine found_some hkey B F X N1 T X T hk hd hu hC hT1 (fun q hq => off_of N1 (List.mem_append_right _ hps) hne (List.mem_append_left _ hq) ?_) h1 ht hS1 hS2 hS3 (fun t ka vs x h' tk' hs F' N' => ret t ka vs x h' tk' hs F' N')
  rcases List.mem_cons.mp hq with rfl | hq
  · exact .inl hI
  · rcases List.mem_cons.mp hq with rfl | hq
    · exact .inl hD
    · exact notT_L hT2 q hq
theorem t_found_none (hkey : keyAt L104 src (p : Int) = none) (B : Below A₀ h₀ [] h₀) (F : Fr h₀ L s.heap m) (X : (Kf w.params).In h₀) (N : News h₀ L s.heap (I :: D :: (T2 ++ T1))) (T : Top pv loose mean mg mb h₀) (hk : cs.kind = .function)
    (hd : dp + 10 < recursionLimit) (hu : un + 112 < cLine) (hC : CodeHd h₀ 204 200) (hT1 : TabS T1) (hT2 : TabL T2) (hI : I.2.cls ≠ .none) (hD : D.2.cls ≠ .none) (h1 : p ≤ src.length) (ht : TextOk src) (hS1 : SetAt h₀ 89 L89) (hS2 : SetAt h₀ 104 L104) (hS3 : SetAt h₀ 95 L95)
    (ret : ∀ T' h' tk', TabS T' → Fr h₀ L h' m → News h₀ L h' (I :: D :: (T2 ++ T')) → Q .none { s with heap := h', toks := tk' }) :
    wpAny (model PySem.Challenge.rw_il0176_01.prog w) (ktrTop dp un gd cn cs L a ccd cl []) (call (.ref 331) [.str src ts, .int (p : Int) tp]) Q E s := by
  have N1 : News h₀ L s.heap ((I :: D :: T2) ++ T1) := N
  obtain ⟨ps, hps, hne⟩ := tabS_tab hT1
  refine found_none hkey B F X N1 T X T hk hd hu hC hT1 (fun q hq => off_of N1 (List.mem_append_right _ hps) hne (List.mem_append_left _ hq) ?_) h1 ht hS1 hS2 hS3 (fun T' h' tk' hT' F' N' => ret T' h' tk' hT' F' N')
  rcases List.mem_cons.mp hq with rfl | hq
  · exact .inl hI
  · rcases List.mem_cons.mp hq with rfl | hq
    · exact .inl hD
    · exact notT_L hT2 q hq
theorem swap_mem {α : Type} {T1 T2 : List α} {p : α} (h : p ∈ T1 ++ T2) : p ∈ T2 ++ T1 := List.mem_append.mpr ((List.mem_append.mp h).symm)
theorem t_told_some {q : Int} {ks : List Str} (hkey : keyAt L104 src (p : Int) = some (q, ks)) (B : Below A₀ h₀ [] h₀) (F : Fr h₀ L s.heap m) (X : (Kf w.params).In h₀) (N : News h₀ L s.heap (X1 :: X2 :: I :: D :: (T2 ++ T1))) (T : Top pv loose mean mg mb h₀) (hk : cs.kind = .function)
    (hd : dp + 8 < recursionLimit) (hu : un + 60 < cLine) (hC : CodeHd h₀ 316 312) (hT1 : TabS T1) (hT2 : TabL T2) (hX1 : X1.2.cls ≠ .none) (hX2 : X2.2.cls ≠ .none) (hI : I.2.cls ≠ .none) (hD : D.2.cls ≠ .none) (h1 : p ≤ src.length) (ht : TextOk src)
    (ret : ∀ t ka vs x T' h' tk', TabL T' → StrsAre vs ks → Fr h₀ L h' m → News h₀ L h' ((x, tup2 (.int q t) (.ref ka)) :: (ka, tupObj vs) :: X1 :: X2 :: I :: D :: (T' ++ T1)) → Q (.ref x) { s with heap := h', toks := tk' }) :
    wpAny (model PySem.Challenge.rw_il0176_01.prog w) (ktrTop dp un gd cn cs L a ccd cl []) (call (.ref 345) [.str src ts, .int (p : Int) tp]) Q E s := by
  have N1 : News h₀ L s.heap ((X1 :: X2 :: I :: D :: T1) ++ T2) := news_sub N fun p hp => by
    simp only [List.cons_append, List.mem_cons] at hp ⊢
    rcases hp with h | h | h | h | h
    · exact .inl h
    · exact .inr (.inl h)
    · exact .inr (.inr (.inl h))
    · exact .inr (.inr (.inr (.inl h)))
    · exact .inr (.inr (.inr (.inr (swap_mem h))))
  obtain ⟨ps, hps, hne⟩ := tabL_tab hT2
  refine told_some hkey B F X N1 T hk hd hu hC hT2 (fun q hq => off_of N1 (List.mem_append_right _ hps) hne (List.mem_append_left _ hq) ?_) h1 ht (fun t ka vs x T' h' tk' hs F' N' hT' => ret t ka vs x T' h' tk' hT' hs F' (news_sub N' fun p hp => ?_))
  · rcases List.mem_cons.mp hq with rfl | hq
    · exact .inl hX1
    · rcases List.mem_cons.mp hq with rfl | hq
      · exact .inl hX2
      · rcases List.mem_cons.mp hq with rfl | hq
        · exact .inl hI
        · rcases List.mem_cons.mp hq with rfl | hq
          · exact .inl hD
          · exact notT_S hT1 q hq
  · simp only [List.cons_append, List.mem_cons] at hp ⊢
    rcases hp with h | h | h | h | h | h | h
    · exact .inl h
    · exact .inr (.inl h)
    · exact .inr (.inr (.inl h))
    · exact .inr (.inr (.inr (.inl h)))
    · exact .inr (.inr (.inr (.inr (.inl h))))
    · exact .inr (.inr (.inr (.inr (.inr (.inl h)))))
    · exact .inr (.inr (.inr (.inr (.inr (.inr (swap_mem h))))))
theorem t_told_none (hkey : keyAt L104 src (p : Int) = none) (B : Below A₀ h₀ [] h₀) (F : Fr h₀ L s.heap m) (X : (Kf w.params).In h₀) (N : News h₀ L s.heap (I :: D :: (T2 ++ T1))) (T : Top pv loose mean mg mb h₀) (hk : cs.kind = .function)
    (hd : dp + 8 < recursionLimit) (hu : un + 60 < cLine) (hC : CodeHd h₀ 316 312) (hT1 : TabS T1) (hT2 : TabL T2) (hI : I.2.cls ≠ .none) (hD : D.2.cls ≠ .none) (h1 : p ≤ src.length) (ht : TextOk src)
    (ret : ∀ T' h' tk', TabL T' → Fr h₀ L h' m → News h₀ L h' (I :: D :: (T' ++ T1)) → Q .none { s with heap := h', toks := tk' }) :
    wpAny (model PySem.Challenge.rw_il0176_01.prog w) (ktrTop dp un gd cn cs L a ccd cl []) (call (.ref 345) [.str src ts, .int (p : Int) tp]) Q E s := by
  have N1 : News h₀ L s.heap ((I :: D :: T1) ++ T2) := news_sub N fun p hp => by
    simp only [List.cons_append, List.mem_cons] at hp ⊢
    rcases hp with h | h | h
    · exact .inl h
    · exact .inr (.inl h)
    · exact .inr (.inr (swap_mem h))
  obtain ⟨ps, hps, hne⟩ := tabL_tab hT2
  refine told_none hkey B F X N1 T hk hd hu hC hT2 (fun q hq => off_of N1 (List.mem_append_right _ hps) hne (List.mem_append_left _ hq) ?_) h1 ht (fun T' h' tk' F' N' hT' => ret T' h' tk' hT' F' (news_sub N' fun p hp => ?_))
  · rcases List.mem_cons.mp hq with rfl | hq
    · exact .inl hI
    · rcases List.mem_cons.mp hq with rfl | hq
      · exact .inl hD
      · exact notT_S hT1 q hq
  · simp only [List.cons_append, List.mem_cons] at hp ⊢
    rcases hp with h | h | h
    · exact .inl h
    · exact .inr (.inl h)
    · exact .inr (.inr (swap_mem h))
end
/-- the loop over the places: what stands between two turns -/
inductive LoopJ (x : Str) (tt : Tok) (D : Addr) (us : List Value) (n : Nat) (i : Nat) : (Str → Option Value) → List (Addr × Obj) → Prop
  | mk (u T1 T2) (h0 : TabS T1) (h1 : TabL T2) : LoopJ x tt D us n i (kstB u [(Str.ofString "text", .str x tt), (Str.ofString "values", .ref D)]) ((D, W.listOf (List.toArray us) n) :: (T2 ++ T1))
theorem LoopJ.of {x : Str} {tt : Tok} {D : Addr} {us : List Value} {n : Nat} {i : Nat} {m : Str → Option Value} {nx : List (Addr × Obj)} (u T1 T2) (em : m = kstB u [(Str.ofString "text", .str x tt), (Str.ofString "values", .ref D)]) (enx : nx = (D, W.listOf (List.toArray us) n) :: (T2 ++ T1)) (h0 : TabS T1) (h1 : TabL T2) : LoopJ x tt D us n i m nx := by subst em enx; exact .mk u T1 T2 h0 h1
theorem range_one {n : Nat} {b : Int} (hb : b = (n : Int) + 1) (hn : n ≤ 900) : Builtin.Range.small 0 b 1 = true ∧ Builtin.Range.rangeSize 0 b 1 = ((n + 1 : Nat) : Int) := by
  subst hb
  refine ⟨by have := small_of (n := n + 1) (c := 1) (by decide) (by decide) (by omega); simpa using this, ?_⟩
  unfold Builtin.Range.rangeSize
  rw [if_pos (by decide)]
  split <;> omega
theorem grow_end {h₀ h' : Heap} {L I D : Addr} {a b c : Int} {m' : Str → Option Value} {x : Str} {tt : Tok} {us : List Value} {n i : Nat} {T1 T2 : List (Addr × Obj)} {s₁ : Shared} {tk : Nat} {Q : Flow → Shared → Prop} (F : Fr h₀ L h' m')
    (N : News h₀ L h' ((I, { cls := .type "range_iterator", data := .fields #[rawInt a, rawInt b, rawInt c] }) :: (D, W.listOf (List.toArray us) n) :: (T2 ++ T1))) (hDI : D ≠ I) (hT1 : TabS T1) (hT2 : TabL T2) (hm : ∀ p ∈ [(Str.ofString "text", Value.str x tt), (Str.ofString "values", Value.ref D)], m' p.1 = some p.2) :
    GrowEnd h₀ L (LoopJ x tt D us n (i + 1)) I { cls := .type "range_iterator", data := .fields #[rawInt a, rawInt b, rawInt c] } s₁ Q .next { s₁ with heap := h', toks := tk } := by
  refine ⟨h', tk, m', _, rfl, F, N, fun p hp => ?_, LoopJ.of m' T1 T2 (kst_self hm).symm rfl hT1 hT2⟩
  rcases List.mem_cons.mp hp with rfl | hp
  · exact hDI
  · have hq : p ∈ (I, ({ cls := .type "range_iterator", data := .fields #[rawInt a, rawInt b, rawInt c] } : Obj)) :: (D, W.listOf (List.toArray us) n) :: (T2 ++ T1) := .tail _ (.tail _ hp)
    refine off_iter N (.head _) hq ?_
    rcases List.mem_append.mp hp with hp | hp
    · exact tabL_kind hT2 p hp
    · exact tabS_kind hT1 p hp
theorem text_ok {v : List Int} {tl : List Nat} (h6 : Six v) (hv : v.length ≤ 24) (htl : tl = [61] ∨ tl = []) : TextOk (textOf (List.map signOf v ++ tl)) where
  signs := fun c hc => by
    have hc' : c ∈ List.map signOf v ++ tl := by simpa [textOf] using hc
    rcases List.mem_append.mp hc' with hm | hm
    · obtain ⟨k, hk, rfl⟩ := List.mem_map.mp hm
      exact signOf_in (h6 k hk).1 (h6 k hk).2
    · rcases htl with rfl | rfl
      · rw [List.mem_singleton.mp hm]; decide +kernel
      · cases hm
  short := by
    rw [textOf_len, List.length_append, List.length_map]
    rcases htl with rfl | rfl
    · show v.length + 1 ≤ 50; omega
    · show v.length + 0 ≤ 50; omega
end
section
open PySem PySem.W PySem.Spec PySem.Calls PyProof.Rows
set_option maxRecDepth 100000
set_option maxHeartbeats 2000000
section
variable {M : Model} {A : Around} {E : Value → Shared → Prop} {s : Shared} {h₀ : Heap} {L a : Addr} {m : Str → Option Value} {cn : Str} {cs : Scope} {ccd : Value} {cl : List (Str × Addr)}
theorem ldX {x : Str} {v : Value} {Q : Value → Shared → Prop} (F : Fr h₀ L s.heap m) (hv : m x = some v) (h : Q v s)
    (hk : cs.kind = .function := by rfl) (hl : (envX cn cs L a ccd cl).kindOf x = some .local := by rfl) :
    wpAny M A (loadName (envX cn cs L a ccd cl) x) Q E s := wpAny_loadName_local hk hl F.ns hv h
end
theorem mid_int {M : PySem.Model} {A : Around} {E : Value → Shared → Prop} {t : Sem Value} {hp : Heap} {g : Array GenState} {d : Drawn} {X : Nat} {os : OsState} {Q : Value → Shared → Prop} (o : Int)
    (h1 : ∀ K : Value → Shared → Prop, (∀ x u tk, x = o → K (.int x u) ⟨hp, g, d, tk, os⟩) → wpAny M A t K E ⟨hp, g, d, X, os⟩) (h2 : ∀ u tk, Q (.int o u) ⟨hp, g, d, tk, os⟩) : wpAny M A t Q E ⟨hp, g, d, X, os⟩ := h1 Q fun x u tk e => e ▸ h2 u tk
section
variable {w : World} {pv : Program} {loose : List Str} {mean : ExcName → Option Value} {mg mb : Str → Option Value} {h₀ : Heap} {L fa D : Addr} {cd : Value} {u : Str → Option Value} {s : Shared} {us : List Value} {v : List Int} {tl : List Nat} {n : Nat} {tt : Tok} {R : Result → Shared → Prop} {Q : Flow → Shared → Prop}
theorem law_for {scope : Scope} {tgt iter : PySem.Expr} {body : List Stmt} {pos : Pos} (e : (fd 61).2.1[9]? = some (.For tgt iter body [] pos)) (hsc : (fd 61).2.2 = scope) (B : Below callerA h₀ [] h₀)
    (F : Fr h₀ L s.heap (kstB u [(Str.ofString "text", .str (textOf (List.map signOf v ++ tl)) tt), (Str.ofString "values", .ref D)])) (X : (Kf w.params).In h₀) (N : News h₀ L s.heap [(D, W.listOf (List.toArray us) n), (312, tabObj #[]), (200, tabObj #[])]) (T : Top pv loose mean mg mb h₀)
    (hI : IntsAre us v) (h6 : Six v) (hv : v.length ≤ 24) (htl : tl = [61] ∨ tl = []) (hC1 : CodeHd h₀ 204 200) (hC2 : CodeHd h₀ 316 312) (hS1 : SetAt h₀ 89 L89) (hS2 : SetAt h₀ 104 L104) (hS3 : SetAt h₀ 95 L95)
    (ret : ∀ h' m' T1 T2 tk', Fr h₀ L h' m' → News h₀ L h' (T2 ++ T1) → TabS T1 → TabL T2 → Q .next { s with heap := h', toks := tk' }) :
    wpAny (model PySem.Challenge.rw_il0176_01.prog w) (callerA.deeper (envX (Str.ofString "law") scope L fa cd [(Str.ofString "letters", L + 1)])) (exec (.For tgt iter body [] pos) (envX (Str.ofString "law") scope L fa cd [(Str.ofString "letters", L + 1)])) Q
      (fun e s' => wpAny (model PySem.Challenge.rw_il0176_01.prog w) (callerA.deeper (envX (Str.ofString "law") scope L fa cd [(Str.ofString "letters", L + 1)])) (leaving (envX (Str.ofString "law") scope L fa cd [(Str.ofString "letters", L + 1)]) e) (fun _ s'' => R (.error e) s'') (fun e' s'' => R (.error e') s'') s') s := by
  have e1 := e61
  rw [e1] at e hsc
  injection e with e
  injection e with e2 e3 e4 e5 e6
  subst e2 e3 e4 e6
  replace hsc : _ = scope := hsc
  subst hsc
  clear e1 e5
  revert X; k_fill; intro X
  have htext : TextOk (textOf (List.map signOf v ++ tl)) := text_ok h6 hv htl
  have hlen : (textOf (List.map signOf v ++ tl)).length ≤ 50 := htext.short
  have hll : (List.map signOf v ++ tl).length ≤ 50 := by rw [← textOf_len]; exact hlen
  k_with_none
  k_with "loadName" => (k_here; k_dflt (refine' ldX ?zF ?zv ?_ ?za ?zb; (case zF => k_asm); (case za => rfl); (case zb => rfl); (case zv => rfl); k_whole))
  k_with "pyIter ref" => (with_reducible refine stop_here ?_)
  k_steps
  k_with_none
  k_with "loadName" => (k_here; k_dflt (refine' ldX ?zF ?zv ?_ ?za ?zb; (case zF => k_asm); (case za => rfl); (case zb => rfl); (case zv => rfl); k_whole))
  k_with "call ref" => (k_here; (with_reducible show wpAny _ _ (call (Value.ref 331) _ _) _ _ _); k_dflt (first
    | (refine' t_found_some ?zhkey ?zB ?zF ?zX ?zN ?zT ?zhk ?zhd ?zhu ?zhC ?zhT1 ?zhT2 ?zhI ?zhD ?zh1 ?zht ?zhS1 ?zhS2 ?zhS3 ?_; (case zhkey => with_reducible assumption); (case zN => k_asm); (case zB => k_asm); (case zF => k_asm); (case zX => k_asm); (case zT => k_asm); (case zhk => exact rfl); (case zhd => exact Nat.le_of_ble_eq_true rfl); (case zhu => exact Nat.le_of_ble_eq_true rfl); (case zhC => k_asm); (case zhT1 => with_reducible assumption); (case zhT2 => with_reducible assumption); (case zhI => nofun); (case zhD => nofun); (case zh1 => with_reducible assumption); (case zht => with_reducible assumption); (case zhS1 => assumption); (case zhS2 => assumption); (case zhS3 => assumption); k_whole; intro t9 ka9 vs9 x9 h' tk' SA9 F' N')
    | (refine' t_found_none ?zhkey ?zB ?zF ?zX ?zN ?zT ?zhk ?zhd ?zhu ?zhC ?zhT1 ?zhT2 ?zhI ?zhD ?zh1 ?zht ?zhS1 ?zhS2 ?zhS3 ?_; (case zhkey => with_reducible assumption); (case zN => k_asm); (case zB => k_asm); (case zF => k_asm); (case zX => k_asm); (case zT => k_asm); (case zhk => exact rfl); (case zhd => exact Nat.le_of_ble_eq_true rfl); (case zhu => exact Nat.le_of_ble_eq_true rfl); (case zhC => k_asm); (case zhT1 => with_reducible assumption); (case zhT2 => with_reducible assumption); (case zhI => nofun); (case zhD => nofun); (case zh1 => with_reducible assumption); (case zht => with_reducible assumption); (case zhS1 => assumption); (case zhS2 => assumption); (case zhS3 => assumption); k_whole; intro T9 h' tk' hTS9 F' N')); (try k_sweep))
  k_with "call ref" => (k_here; (with_reducible show wpAny _ _ (call (Value.ref 345) _ _) _ _ _); k_dflt (first
    | (refine' t_told_some ?zhkey ?zB ?zF ?zX ?zN ?zT ?zhk ?zhd ?zhu ?zhC ?zhT1 ?zhT2 ?zhX1 ?zhX2 ?zhI ?zhD ?zh1 ?zht ?_; (case zhkey => with_reducible assumption); (case zN => k_asm); (case zB => k_asm); (case zF => k_asm); (case zX => k_asm); (case zT => k_asm); (case zhk => exact rfl); (case zhd => exact Nat.le_of_ble_eq_true rfl); (case zhu => exact Nat.le_of_ble_eq_true rfl); (case zhX1 => nofun); (case zhX2 => nofun); (case zhC => k_asm); (case zhT1 => with_reducible assumption); (case zhT2 => with_reducible assumption); (case zhI => nofun); (case zhD => nofun); (case zh1 => with_reducible assumption); (case zht => with_reducible assumption); k_whole; intro t8 ka8 vs8 x8 T8 h' tk' hTL8 SA8 F' N')
    | (refine' t_told_none ?zhkey ?zB ?zF ?zX ?zN ?zT ?zhk ?zhd ?zhu ?zhC ?zhT1 ?zhT2 ?zhI ?zhD ?zh1 ?zht ?_; (case zhkey => with_reducible assumption); (case zN => k_asm); (case zB => k_asm); (case zF => k_asm); (case zX => k_asm); (case zT => k_asm); (case zhk => exact rfl); (case zhd => exact Nat.le_of_ble_eq_true rfl); (case zhu => exact Nat.le_of_ble_eq_true rfl); (case zhC => k_asm); (case zhT1 => with_reducible assumption); (case zhT2 => with_reducible assumption); (case zhI => nofun); (case zhD => nofun); (case zh1 => with_reducible assumption); (case zht => with_reducible assumption); k_whole; intro T8 h' tk' hTL8 F' N')); (try k_sweep))
  k_with "compareOp NotEq ref ref" => (k_here; k_dflt (refine' ne_keys ?zN ?za ?zb ?zc ?zd ?ze ?zf ?zg ?zi ?_; (case zN => k_asm); (case za => k_mem); (case zb => k_mem); (case zc => k_mem); (case zd => k_mem); (case ze => with_reducible assumption); (case zf => with_reducible assumption); (case zg => with_reducible assumption); (case zi => exact Nat.le_of_ble_eq_true rfl)))
  k_with "subscriptTail Name BinOp str int" => (k_here; k_dflt (refine' sub_text ?zx ?ze ?zl ?_ ?zs ?zt; (case zx => with_reducible assumption); (case ze => omega); (case zl => omega); (case zs => with_unfolding_all rfl); (case zt => intro _; with_unfolding_all rfl)))
  k_with "compareOp Eq str str" => (k_here; k_dflt (first | (refine' eq_quote_no ?zh ?_; (case zh => with_reducible assumption)) | (refine eq_quote_yes ?_)))
  k_with "subscriptTail Name UnaryOp ref int" => (k_here; k_dflt (refine' item_last ?zl ?zv ?_ ?zs; (case zl => exact News.isTup (by k_asm) (by k_mem)); (case zv => with_reducible assumption); (case zs => with_unfolding_all rfl)); intro t')
  k_with "call builtin:len" => (k_here; k_dflt (refine' len_signs ?zz ?_; (case zz => omega)))
  k_with "binaryOp Mult str int" => (k_here; k_dflt (refine' mul_A ?zz ?_; (case zz => with_reducible assumption)); intro t' j')
  k_with "binaryOp Add str str" => (k_here; k_dflt (refine' cat_signs ?zz ?_; (case zz => omega)); intro t' j')
  k_with "eval ListComp" => ((with_reducible show wpAny _ _ (eval (PySem.Expr.ListComp (PySem.Expr.Call (PySem.Expr.Name _ _) _ _ _) _ _ _) _) _ _ _); (with_reducible refine stop_here ?_))
  k_with "call type:bytes" => (k_here; (with_reducible show wpAny _ _ (call (Value.type "bytes") [Value.ref _]) _ _ _); k_dflt (refine' bytes_signs ?zF ?zN ?zh ?zl ?zi ?zr ?zn ?_; (case zF => k_asm); (case zN => k_asm); (case zh => rfl); (case zl => exact News.isList (by k_asm) (by k_mem)); (case zi => with_reducible assumption); (case zr => with_reducible assumption); (case zn => omega); k_whole); intro h' t' k' F' N'; (try k_sweep))
  k_with "subscriptTail Name Slice ref ref" => (k_here; (with_reducible show wpAny _ _ (subscriptTail _ (PySem.Expr.Slice _ _ none _) (Value.ref _) (Value.ref _)) _ _ _); (rename (∀ x y : Int, _ → _ → _ = _) => hp9); k_dflt (refine' kms_slice_lit ?zF ?zN ?zl ?zp ?zq ?ze ?_ ?zs ?zt ?zz; (case zF => k_asm); (case zN => k_asm); (case zl => exact News.isList (by k_asm) (by k_mem)); (case zp => kmk_part); (case zq => kmk_part); (case ze => exact hp9 _ _ (by omega) (by omega)); (case zs => with_unfolding_all rfl); (case zt => kmk_pure); (case zz => (rw [List.size_toArray, sizeLine_eq]; omega))); intro D' h' F' N' l1; (try k_lt l1); (try k_sweep))
  k_with "binaryOp Mult ref int" => (k_here; k_dflt (refine' mul_zero ?zF ?zN ?za ?zz ?_; (case zF => k_asm); (case zN => k_asm); (case za => exact News.isList (by k_asm) (by k_mem)); (case zz => with_reducible assumption); k_whole); intro D' zs' h' IA' F' N' l1; (try k_lt l1); (try k_sweep))
  k_with "call builtin:ord" => (k_here; k_dflt (refine ord_ch ?_))
  k_with "binaryOp Add ref ref" => (k_here; k_dflt (refine' add_ints2 ?zF ?zN ?za ?zb ?zy ?zz ?zl ?_; (case zF => k_asm); (case zN => k_asm); (case za => exact News.isList (by k_asm) (by k_mem)); (case zb => exact News.isList (by k_asm) (by k_mem)); (case zy => with_reducible assumption); (case zz => with_reducible assumption); (case zl => omega); k_whole); intro D' us' h' IA' F' N' l1; (try k_lt l1); (try k_sweep))
  k_with "call ref" => (k_here; (with_reducible show wpAny _ _ (call (Value.ref 324) _ _) _ _ _); k_dflt (refine' octets_ok ?zB ?zF ?zX ?zN ?zT ?zhk ?zhd ?zhu ?zhi ?zh1 ?zh2 ?zh3 ?_; (case zN => first | k_asm | exact news_front (by k_asm) (by k_mem)); (case zB => k_asm); (case zF => k_asm); (case zX => k_asm); (case zT => k_asm); (case zhk => first | exact rfl | assumption); (case zhd => exact Nat.le_of_ble_eq_true rfl); (case zhu => exact Nat.le_of_ble_eq_true rfl); (case zhi => with_reducible assumption); (case zh1 => omega); (case zh2 => with_reducible assumption); (case zh3 => first | exact Six.all (by with_reducible assumption) | with_reducible assumption); k_whole); intro t h' tk' F' N'; (try k_sweep))
  k_with "call ref" => (k_here; (with_reducible show wpAny _ _ (call (Value.ref 293) _ _) _ _ _); k_dflt (refine' decode_law ?zB ?zF ?zX ?zN ?zT ?zhk ?zhd ?zhu ?zh1 ?zh2 ?zh3 ?_; (case zN => k_asm); (case zB => k_asm); (case zF => k_asm); (case zX => k_asm); (case zT => k_asm); (case zhk => first | exact rfl | assumption); (case zhd => exact Nat.le_of_ble_eq_true rfl); (case zhu => exact Nat.le_of_ble_eq_true rfl); (case zh1 => omega); (case zh2 => with_reducible assumption); (case zh3 => with_reducible assumption); k_whole); intro t h' tk' F' N'; (try k_sweep))
  k_with "compareOp NotEq bytes bytes" => (k_here; (with_reducible refine ne_sameB ?_))
  k_with "exec Assign" => ((with_reducible show wpAny _ _ (exec (PySem.Stmt.Assign _ (PySem.Expr.IfExp _ _ _ _) _) _) _ _ _); (with_reducible refine stop_here ?_))
  obtain ⟨hs9, hr9⟩ := range_one (n := (textOf (List.map signOf v ++ tl)).length) rfl (by omega)
  refine' iter_grow (LoopJ (textOf (List.map signOf v ++ tl)) tt D us n) (n := (textOf (List.map signOf v ++ tl)).length + 1) ?hh ?hr ?hs ?hn ?F ?N ?hj ?_ ?_
  case hh => exact rfl
  case hr => with_reducible assumption
  case hs => with_reducible exact hs9
  case hn => with_reducible exact hr9
  case F => k_asm
  case N => k_asm
  case hj => exact (LoopJ.of _ _ _ ((kst_self (kc rfl (kc rfl kn))).symm) rfl TabS.empty TabL.empty)
  rotate_left
  · rintro m₁ nx h tk ⟨u', T1, T2, hT1, hT2⟩ F9 N9
    exact ret _ _ _ _ _ F9 (news_drop1 N9) hT1 hT2
  · rintro I z1 z2 z3 i t m₁ nx h tk hlt ⟨u', T1, T2, hT1, hT2⟩ offI F9 N9
    have hDI : D ≠ I := offI _ (.head _)
    have hi9 : i ≤ (textOf (List.map signOf v ++ tl)).length := Nat.le_of_lt_succ hlt
    simp only [Int.mul_one, Int.zero_add] at F9
    rcases hkey : keyAt L104 (textOf (List.map signOf v ++ tl)) (i : Int) with _ | ⟨q, ks⟩
    · k_steps
      refine' grow_end ?F ?N hDI ?h1 ?h2 ?hm
      case h1 => with_reducible assumption
      case h2 => with_reducible assumption
      case F => k_asm
      case N => exact news_sub (by k_asm) (fun p hp => by repeat (first | (with_reducible exact hp) | refine List.mem_cons_of_mem _ ?_))
      case hm => exact kc rfl (kc rfl kn)
    · obtain ⟨a, o, ks', hao, hov, hks, hcase, hstr⟩ := key_sub h6 htl (by rw [← textOf_len]; exact hi9) hkey
      subst hks
      obtain ⟨sub, hsubd⟩ : ∃ z, z = (v.take o).drop a := ⟨_, rfl⟩
      obtain ⟨usub, husub⟩ : ∃ z, z = (us.take o).drop a := ⟨_, rfl⟩
      have hpick := pick_sub (us := us) (by rw [hI.length]; exact hov) hao
      have hIsub : IntsAre usub sub := by rw [hsubd, husub]; exact ints_sub hI o a
      have hs6 : Six sub := by rw [hsubd]; exact h6.sub o a
      have hsl : sub.length = o - a := by rw [hsubd, List.length_drop, List.length_take]; omega
      have husl : us.length = v.length := hI.length
      obtain ⟨hp6, hp4, hpl, hpk⟩ := pad_facts hs6 (by omega)
      rw [← hsubd] at hkey hstr
      rw [← husub] at hpick
      clear hsubd husub
      k_steps
      refine wpAny_Assign_Name ?_
      refine mid_int (o : Int) (fun K hK => ?_) (fun u9 tk9 => ?_)
      · rcases hcase with ⟨hq, h1o, c, hc, hc39⟩ | ⟨hq, hc⟩
        · subst hq
          k_steps
          exact hK _ _ _ rfl
        · subst hq
          k_steps
          exact hK _ _ _ (by omega)
      clear hcase
      k_steps
      refine ListComp_str (F₀ := by k_asm) (by with_unfolding_all rfl) (by decide) (by rfl) (by decide) (by rfl) ?_
      k_steps
      refine ⟨_, _, _, rfl, rfl, by k_asm, by k_asm, ?_, ?_, ?_⟩
      · exact Nat.le_trans (Nat.le_of_eq (textOf_len _)) (by rw [List.length_map]; omega)
      · exact text_ascii (signs_lt hp6)
      intro g9
      refine comp_rest (fun j y => ∃ (k : Nat) (t : Tok), (List.map signOf (sub ++ (List.replicate ((-(sub.length : Int)).fmod 4).toNat [(0 : Int)]).flatten))[j]? = some k ∧ y = Value.int (k : Int) t) ?_ ?_
      · intro j v9 I9 oI9 C9 oC9 D9 m9 ys9 h9 tk9 E9 hj9 hv9 hC9 hx9 F9 N9 off9 ne9
        obtain ⟨c9, t9, hc9, rfl⟩ := signAt_text hv9
        k_steps
        refine LCgL.ld_built (by k_asm) (by k_asm) (by k_asm) (by k_is) (by boot_by_name) (by decide) ?_
        k_steps
        exact LCg.CompEnd.intro F9 N9 _ (fun p hp => hp) off9 trivial ⟨rfl, c9, _, hc9, rfl⟩
      · intro ys9 hyl9 hrel9
        have hIy9 := ints_of_rel (by rw [hyl9]; exact textOf_len _) hrel9
        k_steps
        refine' grow_end ?F ?N hDI ?h1 ?h2 ?hm
        case h1 => with_reducible assumption
        case h2 => with_reducible assumption
        case F => k_asm
        case N => exact news_sub (by k_asm) (fun p hp => by repeat (first | (with_reducible exact hp) | refine List.mem_cons_of_mem _ ?_))
        case hm => exact kc rfl (kc rfl kn)
end
end
section
open PySem PySem.W PySem.Spec PySem.Calls PyProof.Rows
set_option maxRecDepth 100000
set_option maxHeartbeats 4000000
theorem news3 {h₀ h : Heap} {L : Addr} {a b c : Addr × Obj} {l : List (Addr × Obj)} (N : News h₀ L h l) (ha : a ∈ l) (hb : b ∈ l) (hc : c ∈ l) : News h₀ L h [a, b, c] := fun p hp => by
  rcases List.mem_cons.mp hp with rfl | hp
  · exact N _ ha
  · rcases List.mem_cons.mp hp with rfl | hp
    · exact N _ hb
    · rw [List.mem_singleton.mp hp]; exact N _ hc
end
section
open PySem PySem.W PySem.Spec PySem.Calls PyProof.Rows
set_option maxRecDepth 100000
set_option maxHeartbeats 2000000
theorem lines_Z2_0 : True := by
  k_with_none
  k_with "loadName" => (k_here; k_dflt (refine' ldX ?zF ?zv ?_ ?za ?zb; (case zF => k_asm); (case za => rfl); (case zb => rfl); (case zv => rfl); k_whole))
  k_with "inplaceOp Add ref ref" => (k_here; (with_reducible refine stop_here ?_))
  k_with "subscriptTail Name Name str int" => (k_here; k_dflt (refine' sub_letters ?zk0 ?_ ?zk3 ?zk4; (case zk0 => exact Six.at (by with_reducible assumption) (by with_reducible assumption)); (case zk3 => with_unfolding_all rfl); (case zk4 => intro _; with_unfolding_all rfl)))
  k_with "call builtin:str.join" => (k_here; k_dflt (refine' join_signs ?zl ?zs ?zn ?_; (case zl => exact News.isList (by k_asm) (by k_mem)); (case zs => with_reducible assumption); (case zn => with_reducible assumption)); intro t' k')
  k_with "subscriptTail" => (k_here; (with_reducible show wpAny _ _ (subscriptTail _ _ (Value.ref _) (Value.int _ _)) _ _ _); (rename Mine.Six _ => h69); k_dflt (refine' item_two ?zl ?za ?zb ?_ ?zs; (case zl => exact News.isList (by k_asm) (by k_mem)); (case za => l_fact); (case zb => l_fact); (case zs => with_unfolding_all rfl)); intro x' t' hx')
  k_with "exec For Name Call cons nil" => (k_here; (with_reducible refine stop_here ?_))
  k_with "binaryOp Add str str" => (k_here; k_dflt (refine' cat_text ?zx ?zz ?_; (case zx => with_reducible assumption); (case zz => with_reducible assumption)); intro tl' t' k' htl')
  k_with "compareOp NotEq str str" => (k_here; (with_reducible refine ne_same ?_))
  k_with "compareOp NotEq bytes bytes" => (k_here; (with_reducible refine ne_sameB ?_))
  k_with "call ref" => (k_here; (with_reducible show wpAny _ _ (call (Value.ref 324) _ _) _ _ _); k_dflt (refine' octets_ok ?zB ?zF ?zX ?zN ?zT ?zhk ?zhd ?zhu ?zhi ?zh1 ?zh2 ?zh3 ?_; (case zN => first | k_asm | exact news_front (by k_asm) (by k_mem)); (case zB => k_asm); (case zF => k_asm); (case zX => k_asm); (case zT => k_asm); (case zhk => first | exact rfl | assumption); (case zhd => exact Nat.le_of_ble_eq_true rfl); (case zhu => exact Nat.le_of_ble_eq_true rfl); (case zhi => with_reducible assumption); (case zh1 => omega); (case zh2 => omega); (case zh3 => first | exact Six.all (by with_reducible assumption) | with_reducible assumption); k_whole); intro t h' tk' F' N'; (try k_sweep))
  k_with "call ref" => (k_here; (with_reducible show wpAny _ _ (call (Value.ref 285) _ _) _ _ _); k_dflt (refine' encode_law ?zB ?zF ?zX ?zN ?zT ?zhk ?zhd ?zhu ?zh1 ?zh2 ?zh3 ?_; (case zN => k_asm); (case zB => k_asm); (case zF => k_asm); (case zX => k_asm); (case zT => k_asm); (case zhk => first | exact rfl | assumption); (case zhd => exact Nat.le_of_ble_eq_true rfl); (case zhu => exact Nat.le_of_ble_eq_true rfl); (case zh1 => omega); (case zh2 => with_reducible assumption); (case zh3 => with_reducible assumption); k_whole); intro t h' tk' F' N'; (try k_sweep))
  k_with "call ref" => (k_here; (with_reducible show wpAny _ _ (call (Value.ref 293) _ _) _ _ _); k_dflt (refine' decode_law ?zB ?zF ?zX ?zN ?zT ?zhk ?zhd ?zhu ?zh1 ?zh2 ?zh3 ?_; (case zN => k_asm); (case zB => k_asm); (case zF => k_asm); (case zX => k_asm); (case zT => k_asm); (case zhk => first | exact rfl | assumption); (case zhd => exact Nat.le_of_ble_eq_true rfl); (case zhu => exact Nat.le_of_ble_eq_true rfl); (case zh1 => omega); (case zh2 => with_reducible assumption); (case zh3 => with_reducible assumption); k_whole); intro t h' tk' F' N'; (try k_sweep))
  k_with "eval ListComp" => ((with_reducible show wpAny _ _ (eval (PySem.Expr.ListComp (PySem.Expr.Subscript (PySem.Expr.Name _ _) (PySem.Expr.Name _ _) _) _ _ _) _) _ _ _); (with_reducible refine stop_here ?_))
  k_with "eval ListComp" => ((with_reducible show wpAny _ _ (eval (PySem.Expr.ListComp (PySem.Expr.Call (PySem.Expr.Name _ _) _ _ _) _ _ _) _) _ _ _); (with_reducible refine stop_here ?_))
  k_with "CompSrc" => ((with_reducible show LCg.CompSrc _ _ _ _ _ _ _ (PySem.Expr.Subscript (PySem.Expr.Name _ _) (PySem.Expr.Name _ _) _) _ _ _ _ _ _); (with_reducible refine stop_here ?_))
  trivial
section
variable {w : World} {pv : Program} {loose : List Str} {mean : ExcName → Option Value} {mg mb : Str → Option Value} {h₀ : Heap} {L fa sa : Addr} {cd : Value} {u : Str → Option Value} {oc : Obj} {s : Shared} {vs : List Value} {ns : List Int} {R : Result → Shared → Prop}
theorem law_walk {params : Arguments} {body : List Stmt} {scope : Scope} (e : fd 61 = (params, body, scope)) (B : Below callerA h₀ [] h₀) (F : Fr h₀ L s.heap (kstB u [(Str.ofString "script", .ref sa)])) (X : (Kf w.params).In h₀) (N : News h₀ L s.heap [(L + 1, oc), (200, tabObj #[]), (312, tabObj #[])]) (T : Top pv loose mean mg mb h₀)
    (hoc : oc.data = .cell none) (hl : h₀.IsList sa vs.toArray) (hi : IntsAre vs ns) (hC1 : CodeHd h₀ 204 200) (hC2 : CodeHd h₀ 316 312) (hlt : (@LT.lt Nat _ 200 L) ∧ (@LT.lt Nat _ 312 L))
    (hS1 : SetAt h₀ 89 L89) (hS2 : SetAt h₀ 104 L104) (hS3 : SetAt h₀ 95 L95) (h63 : ns.length ≤ 63)
    (ret : ∀ h' m' T1 T2 tk', Fr h₀ L h' m' → News h₀ L h' (T2 ++ T1) → TabS T1 → TabL T2 → R (.ok (.ret (.bool true))) { s with heap := h', toks := tk' }) :
    wpAny (model PySem.Challenge.rw_il0176_01.prog w) (callerA.deeper (envX (Str.ofString "law") scope L fa cd [(Str.ofString "letters", L + 1)])) (execs body (envX (Str.ofString "law") scope L fa cd [(Str.ofString "letters", L + 1)]))
      (fun fl s' => R (.ok (.ret (match fl with | .ret v => v | _ => .none))) s')
      (fun e s' => wpAny (model PySem.Challenge.rw_il0176_01.prog w) (callerA.deeper (envX (Str.ofString "law") scope L fa cd [(Str.ofString "letters", L + 1)])) (leaving (envX (Str.ofString "law") scope L fa cd [(Str.ofString "letters", L + 1)]) e) (fun _ s'' => R (.error e) s'') (fun e' s'' => R (.error e') s'') s') s := by
  have h61 := e61.symm.trans e
  injection h61 with h1 h2
  injection h2 with h2 h3
  subst h1 h2 h3
  clear e
  revert X; k_fill; intro X
  k_steps
  refine' iadd_ints (as := [0, 27, 62, 63, 0, 62, 27, 63, 62, 63, 63, 53]) ?F ?N ?U ?b ?y (by assumption) ?z ?_
  case F => k_asm
  case N => k_asm
  case U => k_updF
  case b => k_mem
  case y => (repeat (first | exact IntsAre.nil | refine IntsAre.cons _ _ ?_))
  case z =>
    rw [List.length_map, List.length_take]
    have : min 10 ns.length ≤ 10 := Nat.min_le_left _ _
    show 12 + _ ≤ 1000
    omega
  intro us h9 n9 hI9 F9 N9
  try dsimp only at N9
  obtain ⟨v1, hI1, h61, hlo1, hhi1⟩ := gen_vals hI9
  clear hI9
  k_steps
  refine' iadd_ints (as := v1) ?F ?N ?U ?b hI1 (by assumption) ?z ?_
  case F => k_asm
  case N => k_asm
  case U => k_updF
  case b => k_mem
  case z =>
    exact rep_le hhi1
  clear hI1
  intro us2 h9 n9 hI9 F9 N9
  try dsimp only at N9
  obtain ⟨v2, hI2, h62, h42, hlo2, hhi2⟩ := gen_vals2 hI9 h61 hlo1 hhi1
  clear hI9
  replace N9 := news_drop4 N9
  clear h61 hlo1 hhi1
  k_steps
  refine LCg.ListComp_U (F₀ := by k_asm) (by with_unfolding_all rfl) (by decide) (by rfl) (by decide) (by rfl) ?_
  k_steps
  refine LCg.CompSrc.ledger rfl (by k_asm) (by k_asm) (by k_mem) (by rw [List.size_toArray, hI2.length, sizeLine_eq]; omega) ?_
  intro g
  refine comp_rest (fun i y => ∃ k t, v2[i]? = some k ∧ y = Value.str (ch (signOf k)) t) ?_ ?_
  · intro i v I oI C oC D m₂ ys h tk E' hi hv hC hx F N off ne
    obtain ⟨k, t, hk, rfl⟩ := ints_at hI2 (i := i) (v := v) (by simpa using hv)
    have hk9 := List.mem_of_getElem? hk
    have off0 := off
    simp only [LCg.Off3, and_true] at off
    k_steps
  · intro ys hyl hrel
    have hS := strs_of_rel (by rw [hyl, List.size_toArray]; exact hI2.length) hrel
    have hvl : (v2.map signOf).length ≤ 1000 := by rw [List.length_map]; omega
    k_steps
    refine ListComp_bytes (F₀ := by k_asm) (by with_unfolding_all rfl) (by decide) (by rfl) (by decide) (by rfl) ?_
    k_steps
    refine ⟨_, _, _, rfl, rfl, by k_asm, by k_asm, by rw [bytesOf_size, List.length_map]; omega, ?_⟩
    intro g
    refine comp_rest (fun i y => ∃ k t, v2[i]? = some k ∧ y = Value.str (ch (signOf k)) t) ?_ ?_
    · intro i v I oI C oC D m₂ ys h tk E' hi hv hC hx F N off ne
      obtain ⟨c, t, hc, rfl⟩ := hv
      obtain ⟨k, hk, hck⟩ := bytes_at h62 hc
      rw [hck] at hx
      have hk9 := sign_lt (h62 k (List.mem_of_getElem? hk))
      have off0 := off
      simp only [LCg.Off3, and_true] at off
      k_steps
    · intro ys hyl hrel
      have hS := strs_of_rel (by rw [hyl, bytesOf_size, List.length_map]) hrel
      k_steps
      refine' law_for ?e ?sc ?B ?F ?X ?N ?T ?I ?S ?H ?tl hC1 hC2 hS1 hS2 hS3 ?_
      case e => rw [e61]; rfl
      case sc => rw [e61]
      case B => k_asm
      case F => exact fr_kst (by k_asm) (kc rfl (kc rfl kn))
      case X => k_asm
      case N => exact news3 (by k_asm) (by k_mem) (by k_mem) (by k_mem)
      case T => k_asm
      case I => with_reducible assumption
      case S => with_reducible assumption
      case H => with_reducible assumption
      case tl => with_reducible assumption
      intro h9 m9 T1 T2 tk9 F9 N9 hT1 hT2
      k_steps
      exact ret _ _ _ _ _ (by k_asm) (by k_asm) (by assumption) (by assumption)
end
end
section
open PySem PySem.W PySem.Spec PySem.Calls PyProof.Rows
set_option maxRecDepth 100000
set_option maxHeartbeats 8000000
theorem ghost_set {h₁ : Heap} {a : Addr} {S : List Str} (hT : TabsAt [(204, 200), (316, 312)] h₁) (x : SetAt h₁ a S) : SetAt (ghostOf h₁ [(204, 200), (316, 312)]) a S :=
  let ⟨d, e, r⟩ := x; ⟨d, ghost_get hT e (fun q => by cases congrArg Obj.cls q), r⟩
theorem grown_two {h₀ h : Heap} {L : Addr} {T1 T2 : List (Addr × Obj)} (N : News h₀ L h (T2 ++ T1)) (h1 : TabS T1) (h2 : TabL T2) : GrownAll [(204, 200), (316, 312)] h := by
  obtain ⟨p1, m1, _⟩ := tabS_tab h1
  obtain ⟨p2, m2, _⟩ := tabL_tab h2
  exact ⟨GrownAt.of N (List.mem_append_right _ m1), GrownAt.of N (List.mem_append_left _ m2), trivial⟩
section
variable {w : World} {pv : Program} {loose : List Str} {mean : ExcName → Option Value} {mg mb : Str → Option Value} {h₀ : Heap} {L fa sa : Addr} {cd : Value} {u : Str → Option Value} {oc : Obj} {s : Shared} {vs : List Value} {ns : List Int} {R : Result → Shared → Prop}
theorem law_walk2 {prog : Program} {A : Around} {env : Env} {Q : Flow → Shared → Prop} {E : Value → Shared → Prop} {params : Arguments} {body : List Stmt} {scope : Scope} (e : fd 61 = (params, body, scope)) (B : Below callerA h₀ [] h₀) (F : Fr h₀ L s.heap (kstB u [(Str.ofString "script", .ref sa)])) (X : (Kf w.params).In h₀) (N : News h₀ L s.heap [(L + 1, oc), (200, tabObj #[]), (312, tabObj #[])]) (T : Top pv loose mean mg mb h₀)
    (hoc : oc.data = .cell none) (hl : h₀.IsList sa vs.toArray) (hi : IntsAre vs ns) (hC1 : CodeHd h₀ 204 200) (hC2 : CodeHd h₀ 316 312) (hlt : (@LT.lt Nat _ 200 L) ∧ (@LT.lt Nat _ 312 L))
    (hS1 : SetAt h₀ 89 L89) (hS2 : SetAt h₀ 104 L104) (hS3 : SetAt h₀ 95 L95) (h63 : ns.length ≤ 63)
    (ret : ∀ h' m' T1 T2 tk', Fr h₀ L h' m' → News h₀ L h' (T2 ++ T1) → TabS T1 → TabL T2 → R (.ok (.ret (.bool true))) { s with heap := h', toks := tk' })
    (hprog : prog = PySem.Challenge.rw_il0176_01.prog) (henv : env = (envX (Str.ofString "law") scope L fa cd [(Str.ofString "letters", L + 1)])) (hA : A = callerA.deeper env) (hQ : Q = fun fl s' => R (.ok (.ret (match fl with | .ret v => v | _ => .none))) s')
    (hE : E = fun e s' => wpAny (model prog w) A (leaving env e) (fun _ s'' => R (.error e) s'') (fun e' s'' => R (.error e') s'') s') :
    wpAny (model prog w) A (execs body env) Q E s := by
  subst hprog henv hA hQ hE
  exact law_walk e B F X N T hoc hl hi hC1 hC2 hlt hS1 hS2 hS3 h63 ret
theorem law_walk3 {c : ClaimW} {cl : Str → Option Addr} {mean : ExcName → Option Value} {args : List WData} {s₁ : Shared} {prog : Program} {A : Around} {env : Env} {E : Value → Shared → Prop} {params : Arguments} {body : List Stmt} {scope : Scope} (e : fd 61 = (params, body, scope)) (B : Below callerA h₀ [] h₀) (F : Fr h₀ L s.heap (kstB u [(Str.ofString "script", .ref sa)])) (X : (Kf w.params).In h₀) (N : News h₀ L s.heap [(L + 1, oc), (200, tabObj #[]), (312, tabObj #[])]) (T : Top pv loose mean mg mb h₀)
    (hoc : oc.data = .cell none) (hl : h₀.IsList sa vs.toArray) (hi : IntsAre vs ns) (hC1 : CodeHd h₀ 204 200) (hC2 : CodeHd h₀ 316 312) (hlt : (@LT.lt Nat _ 200 L) ∧ (@LT.lt Nat _ 312 L))
    (hS1 : SetAt h₀ 89 L89) (hS2 : SetAt h₀ 104 L104) (hS3 : SetAt h₀ 95 L95) (h63 : ns.length ≤ 63)
    (hg : s.gens = #[]) (hos : s.os = s₁.os) (hs₁ : s₁.heap = h₀) (hn : ∀ cls, c.raises args cls = false) (hp : c.post args (.bool true) args = true)
    (hprog : prog = PySem.Challenge.rw_il0176_01.prog) (henv : env = (envX (Str.ofString "law") scope L fa cd [(Str.ofString "letters", L + 1)])) (hA : A = callerA.deeper env)
    (hE : E = fun e s' => wpAny (model prog w) A (leaving env e) (fun _ s'' => GoodW c cl mean args s₁ (.error e) s'' ∧ GrownAll [(204, 200), (316, 312)] s''.heap) (fun e' s'' => GoodW c cl mean args s₁ (.error e') s'' ∧ GrownAll [(204, 200), (316, 312)] s''.heap) s') :
    wpAny (model prog w) A (execs body env) (fun fl s' => GoodW c cl mean args s₁ (.ok (.ret (match fl with | .ret v => v | _ => .none))) s' ∧ GrownAll [(204, 200), (316, 312)] s'.heap) E s := by
  refine law_walk2 (R := fun r s' => GoodW c cl mean args s₁ r s' ∧ GrownAll [(204, 200), (316, 312)] s'.heap) e B F X N T hoc hl hi hC1 hC2 hlt hS1 hS2 hS3 h63 (fun h' m' T1 T2 tk' F9 N9 h1 h2 => ?_) hprog henv hA rfl hE
  subst hs₁
  exact ⟨goodW_bool F9 hg hn hp hos, grown_two N9 h1 h2⟩
end
end
section
open PySem PySem.W PySem.Calls PyProof.Rows
set_option maxRecDepth 100000
set_option maxHeartbeats 1500000
theorem nr_cut {lk : Look} (k : Nat) : ∀ {l : List Stmt}, noRoadLSs lk (l.take k) = true → noRoadLSs lk (l.drop k) = true → noRoadLSs lk l = true := by
  induction k with
  | zero => intro l _ h; exact h
  | succ k ih =>
    intro l h1 h2
    cases l with
    | nil => exact h2
    | cons x r =>
      simp only [List.take_succ_cons, List.drop_succ_cons, noRoadLSs, Bool.and_eq_true] at h1 h2 ⊢
      exact ⟨h1.1, ih h1.2 h2⟩
theorem nr_look {a : Bool} {b : List Str} {l : List Stmt} (ha : a = false) (hb : b = []) (h : noRoadLSs { strict := false, foot := none, bare := [] } l = true) : noRoadLSs { strict := a, foot := none, bare := b } l = true := by subst ha hb; exact h
theorem said_all : PySem.W.OpenLaw.wellSaid PySem.Challenge.rw_il0176_01 = true := by
  unfold OpenLaw.wellSaid OpenRow.wellSaid OpenRow.partSaid looksOpen
  repeat' (with_reducible apply look_both)
  all_goals try with_reducible refine nr_look ?_ ?_ (nr_cut 8 ?_ (nr_cut 8 ?_ (nr_cut 8 ?_ (nr_cut 8 ?_ (nr_cut 8 ?_ (nr_cut 8 ?_ (nr_cut 8 ?_ ?_)))))))
  all_goals decide +kernel
end
end Mine
section
open PySem PySem.W PySem.Calls PyProof.Rows
set_option maxRecDepth 100000
set_option maxHeartbeats 1500000
theorem PySem.Challenge.cw_il0176_01_holds : PySem.Challenge.rw_il0176_01.Holds := by
  w_on
  refine holds_law Mine.said_all fun said => ?_
  refine Mine.to_walk (by assumption) ?_ ⟨_, _, by rfl, by rfl, by rfl, ?_⟩
  · w_witness2
  k_fill
  intro w s₀ s₁ mg mb G Y fa o pm cd doc dV kV ho hd hcd hD hmg hg args vals as hpre hlay hrd hwl hlo
  have KX := Y.k
  have X := (Ground.X G).1
  have V := (Ground.X G).2
  refine Ground.open G ?_
  intro T B D TE TW
  try (refine guard_noD D (by decide +kernel) ?_; clear D)
  have hT9 : TabsAt ([(204, 200), (316, 312)] : List (Addr × Addr)) s₁.heap := Y.tabs
  have Y1 := Mine.ghost_set hT9 Y.ctl
  have Y2 := Mine.ghost_set hT9 Y.ws
  have Y3 := Mine.ghost_set hT9 Y.bare
  clear hmg
  wrow_args hpre hlay hrd hwl hlo
  refine Mine.enter_T ?_
  w_top on
  refine Mine.post_T hT9 (fun _ _ => rfl) ?_
  w_call any ho hd hcd hD T F
  clear hd
  kn_ghosts F T
  rename _ = Data.cell _ => hcell
  rename (ghostOf _ _).IsList _ _ => hlist
  rename IntsAre _ _ => hints
  rename ¬ (_ < _) => h63
  k_drop
  refine' Mine.law_walk3 ?lwe ?lwB ?lwF ?lwX ?lwN ?lwT ?lwoc ?lw1 ?lw2 ?lwC1 ?lwC2 ?lwlt ?lw3 ?lw4 ?lw5 ?lwh63 ?lwg ?lwos ?lws ?lwn ?lwp ?lwprog ?lwenv ?lwA ?lwE
  case lws => rfl
  case lwos => rfl
  case lwprog => rfl
  case lwA => rfl
  case lwE => rfl
  case lwB => with_reducible assumption
  case lwX => with_reducible assumption
  case lwT => with_reducible assumption
  case lw1 => with_reducible exact hlist
  case lw2 => with_reducible exact hints
  case lw3 => with_reducible exact Y1
  case lw4 => with_reducible exact Y3
  case lw5 => with_reducible exact Y2
  case lwN => with_reducible assumption
  case lwC1 => assumption
  case lwC2 => assumption
  case lwlt => assumption
  case lwh63 => omega
  case lwg => exact hg
  case lwn => exact fun _ => rfl
  case lwp => wrow_post
  case lwoc => exact hcell.trans (by rfl)
  case lwenv => rfl
  case lwF => exact Mine.fr_kst (by with_reducible assumption) (List.forall_mem_cons.mpr ⟨by rfl, List.forall_mem_nil _⟩)
  case lwe => exact Mine.e61
end
