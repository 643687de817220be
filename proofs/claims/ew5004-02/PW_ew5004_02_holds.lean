import PyProof.Rows.All
import Wide.All
import OpenK.AllK
import Wide.FinOn
import KE.KPop
import KE.KIntText
import KE.IntTextLaws
import PyProof.ExcStrCall
import PyProof.Rows.FStr
import PyProof.FString4
import PyProof.AutoSeq1
import PyProof.StrOps2
import PyProof.ListCopy
import PyProof.ExcBaseAll.Exception
import PyProof.MeetsStr2
import PyProof.FactsAll.str_7
import Lean
import PySem.Challenge.RW_ew5004_02
open PySem PySem.W PySem.Calls PyProof.Rows
set_option Elab.async false
namespace Mine

/-- so many steps lead from one state of the machine to another, as the head's own runner counts them -/
def Goes (p : Program) (w : World) (n₀ : Nat) (ann : Option Value) (k : Nat) (s : Shared) (t : Thread) (s' : Shared) (t' : Thread) : Prop :=
  ∀ N r, topRun treeTable p w n₀ ann N s' t' = some r → topRun treeTable p w n₀ ann (k + N) s t = some r

section
variable {p : Program} {w : World} {n₀ : Nat} {ann : Option Value}
theorem Goes.refl {s : Shared} {t : Thread} : Goes p w n₀ ann 0 s t s t := fun N r h => by rw [Nat.zero_add]; exact h
theorem Goes.trans {k k' : Nat} {s s₁ s₂ : Shared} {t t₁ t₂ : Thread} (a : Goes p w n₀ ann k s t s₁ t₁) (b : Goes p w n₀ ann k' s₁ t₁ s₂ t₂) : Goes p w n₀ ann (k + k') s t s₂ t₂ :=
  fun N r h => by rw [Nat.add_assoc]; exact a _ _ (b _ _ h)
theorem Goes.one {s s' : Shared} {t t' : Thread} (h : through t = false) (ok : stepOk n₀ ann t = true) (e : step (denote treeTable) p w s t = .go s' t') : Goes p w n₀ ann 1 s t s' t' := fun N r hr => by
  rw [Nat.add_comm]
  unfold topRun
  rw [h, ok, e]
  exact hr
theorem Goes.then1 {k : Nat} {s s' s₂ : Shared} {t t' t₂ : Thread} (h : through t = false) (ok : stepOk n₀ ann t = true) (e : step (denote treeTable) p w s t = .go s' t') (b : Goes p w n₀ ann k s' t' s₂ t₂) : Goes p w n₀ ann (k + 1) s t s₂ t₂ := by
  rw [Nat.add_comm]; exact (Goes.one h ok e).trans b

def CallOk (p : Program) (w : World) (n₀ : Nat) (ann : Option Value) (c : Code) (s : Shared) (q : Pos) (r : Result) (s' : Shared) (kk : Nat) : Prop :=
  ∀ (K : Result → Sem Fin) (h : Option Value) (g : Bool) (l : List Value) (code : Code) (kept : List Value) (st : List Frame),
    Goes p w n₀ ann kk s ⟨denote treeTable c, c, q, .ret K h g l code q kept :: st⟩ s' ⟨K r, code, q, st⟩

/-- the run of one tree, node by node -/
inductive Tr (p : Program) (w : World) (n₀ : Nat) (ann : Option Value) {α : Type} : Sem α → Shared → Pos → α → Shared → Pos → Nat → Prop
  | pure {a : α} {s : Shared} {q : Pos} : Tr p w n₀ ann (.pure a) s q a s q 0
  | rule {t : String} {f : Unit → Sem α} {s s' : Shared} {q q' : Pos} {a : α} {k : Nat} (h : Tr p w n₀ ann (f ()) s q a s' q' k) : Tr p w n₀ ann (.rule t f) s q a s' q' (k + 1)
  | at {q₁ : Pos} {f : Unit → Sem α} {s s' : Shared} {q q' : Pos} {a : α} {k : Nat} (h : Tr p w n₀ ann (f ()) s q₁ a s' q' k) : Tr p w n₀ ann (.at q₁ f) s q a s' q' (k + 1)
  | load {b : Addr} {part : Option Value} {o : Obj} {f : Obj → Sem α} {s s' : Shared} {q q' : Pos} {a : α} {k : Nat} (ho : s.heap.get? b = some o) (h : Tr p w n₀ ann (f o) s q a s' q' k) : Tr p w n₀ ann (.load b part f) s q a s' q' (k + 1)
  | update {b : Addr} {part : Option Value} {g : Obj → Obj} {f : Unit → Sem α} {s s' : Shared} {q q' : Pos} {a : α} {k : Nat} (ho : (s.heap.get? b).isSome = true) (hb : n₀ ≤ b ∨ b = mainNs)
      (h : Tr p w n₀ ann (f ()) { s with heap := s.heap.update b g } q a s' q' k) : Tr p w n₀ ann (.update b part g f) s q a s' q' (k + 1)
  | alloc {o : Obj} {f : Addr → Sem α} {s s' : Shared} {q q' : Pos} {a : α} {k : Nat} (h : Tr p w n₀ ann (f s.heap.objs.size) { s with heap := s.heap.push o } q a s' q' k) : Tr p w n₀ ann (.alloc o f) s q a s' q' (k + 1)
  | fresh {f : Tok → Sem α} {s s' : Shared} {q q' : Pos} {a : α} {k : Nat} (h : Tr p w n₀ ann (f s.toks) { s with toks := s.toks + 1 } q a s' q' k) : Tr p w n₀ ann (.fresh f) s q a s' q' (k + 1)
  | ask {f : Setting → Sem α} {s s' : Shared} {q q' : Pos} {a : α} {k : Nat} (h : Tr p w n₀ ann (f ⟨p, w.params⟩) s q a s' q' k) : Tr p w n₀ ann (.ask f) s q a s' q' (k + 1)
  | point {l : List Value} {f : Unit → Sem α} {s s' : Shared} {q q' : Pos} {a : α} {k : Nat} (h : Tr p w n₀ ann (f ()) s q a s' q' k) : Tr p w n₀ ann (.point l f) s q a s' q' (k + 1)
  | call {c : Code} {hd : Option Value} {gd : Bool} {l : List Value} {f : Result → Sem α} {r : Result} {s s₁ s' : Shared} {q q' : Pos} {a : α} {k kk : Nat} (hc : CallOk p w n₀ ann c s q r s₁ kk)
      (h : Tr p w n₀ ann (f r) s₁ q a s' q' k) : Tr p w n₀ ann (.call c hd gd l f) s q a s' q' (k + kk + 1)

theorem Tr.sound {α : Type} {t : Sem α} {s s' : Shared} {q q' : Pos} {a : α} {k : Nat} (h : Tr p w n₀ ann t s q a s' q' k) :
    ∀ (K : α → Sem Fin) (H : Value → Sem Fin) (c : Code) (st : List Frame), Goes p w n₀ ann k s ⟨t.wrap K H id id, c, q, st⟩ s' ⟨K a, c, q', st⟩ := by
  induction h with
  | pure => intro K H c st; exact Goes.refl
  | rule h ih => intro K H c st; exact Goes.then1 (by simp [through, Sem.wrap]) rfl rfl (ih K H c st)
  | «at» h ih => intro K H c st; exact Goes.then1 (by simp [through, Sem.wrap]) rfl rfl (ih K H c st)
  | load ho h ih =>
    intro K H c st
    refine Goes.then1 (by simp [through, Sem.wrap]) rfl ?_ (ih K H c st)
    simp only [Sem.wrap, step, ho]
  | @update b part g f s s' q q' a k ho hb h ih =>
    intro K H c st
    refine Goes.then1 (by simp [through, Sem.wrap]) ?_ ?_ (ih K H c st)
    · show (true && (Nat.ble n₀ b || b == mainNs || b == cStatics || ann == some (.ref b))) = true
      rcases hb with hb | hb
      · rw [Nat.ble_eq_true_of_le hb]; rfl
      · rw [hb]; simp
    · simp only [Sem.wrap, step, ho, if_true]
  | alloc h ih => intro K H c st; exact Goes.then1 (by simp [through, Sem.wrap]) rfl rfl (ih K H c st)
  | fresh h ih => intro K H c st; exact Goes.then1 (by simp [through, Sem.wrap]) rfl rfl (ih K H c st)
  | ask h ih => intro K H c st; exact Goes.then1 (by simp [through, Sem.wrap]) rfl rfl (ih K H c st)
  | point h ih => intro K H c st; exact Goes.then1 (by simp [through, Sem.wrap]) rfl rfl (ih K H c st)
  | call hc h ih =>
    intro K H c st
    refine Goes.then1 (by simp [through, Sem.wrap]) rfl (by simp only [Sem.wrap, step]; rfl) ?_
    rw [Nat.add_comm]
    exact (hc _ _ _ _ _ _ _).trans (ih K H c st)

theorem Tr.bind {α β : Type} {t : Sem α} {g : α → Sem β} {s s₁ s' : Shared} {q q₁ q' : Pos} {a : α} {b : β} {k k' : Nat} (h : Tr p w n₀ ann t s q a s₁ q₁ k) (h' : Tr p w n₀ ann (g a) s₁ q₁ b s' q' k') :
    Tr p w n₀ ann (t.bind g) s q b s' q' (k + k') := by
  induction h with
  | pure => rw [Nat.zero_add]; exact h'
  | rule h ih => rw [Nat.add_right_comm]; exact .rule (ih h')
  | «at» h ih => rw [Nat.add_right_comm]; exact .at (ih h')
  | load ho h ih => rw [Nat.add_right_comm]; exact .load ho (ih h')
  | update ho hb h ih => rw [Nat.add_right_comm]; exact .update ho hb (ih h')
  | alloc h ih => rw [Nat.add_right_comm]; exact .alloc (ih h')
  | fresh h ih => rw [Nat.add_right_comm]; exact .fresh (ih h')
  | ask h ih => rw [Nat.add_right_comm]; exact .ask (ih h')
  | point h ih => rw [Nat.add_right_comm]; exact .point (ih h')
  | @call c hd gd l f r s s₁ s' q q' a k kk hc h ih => rw [show k + kk + 1 + k' = (k + k') + kk + 1 by omega]; exact .call hc (ih h')
theorem Tr.keep {α : Type} {t : Sem α} {s s' : Shared} {q q' : Pos} {a : α} {k : Nat} (vs : List Value) (h : Tr p w n₀ ann t s q a s' q' k) : Tr p w n₀ ann (t.keep vs) s q a s' q' k := by
  induction h with
  | pure => exact .pure
  | rule h ih => exact .rule ih
  | «at» h ih => exact .at ih
  | load ho h ih => exact .load ho ih
  | update ho hb h ih => exact .update ho hb ih
  | alloc h ih => exact .alloc ih
  | fresh h ih => exact .fresh ih
  | ask h ih => exact .ask ih
  | point h ih => exact .point ih
  | call hc h ih => exact .call hc ih
theorem Tr.holding {α : Type} {t : Sem α} {s s' : Shared} {q q' : Pos} {a : α} {k : Nat} {vs : List Value} (h : Tr p w n₀ ann t s q a s' q' k) : Tr p w n₀ ann (PySem.holding vs t) s q a s' q' k := by
  rw [holding_eq_keep]; exact h.keep _
theorem Tr.tryCatch {α : Type} {t : Sem α} {g : Value → Sem α} {s s' : Shared} {q q' : Pos} {a : α} {k : Nat} (h : Tr p w n₀ ann t s q a s' q' k) : Tr p w n₀ ann (t.tryCatch g) s q a s' q' k := by
  induction h with
  | pure => exact .pure
  | rule h ih => exact .rule ih
  | «at» h ih => exact .at ih
  | load ho h ih => exact .load ho ih
  | update ho hb h ih => exact .update ho hb ih
  | alloc h ih => exact .alloc ih
  | fresh h ih => exact .fresh ih
  | ask h ih => exact .ask ih
  | point h ih => exact .point ih
  | call hc h ih => exact .call hc ih

/-- `some number of steps, at most so many' -/
def Trs (p : Program) (w : World) (n₀ : Nat) (ann : Option Value) {α : Type} (t : Sem α) (s : Shared) (q : Pos) (a : α) (s' : Shared) (q' : Pos) (m : Nat) : Prop := ∃ k, k ≤ m ∧ Tr p w n₀ ann t s q a s' q' k
theorem Tr.s {α : Type} {t : Sem α} {s s' : Shared} {q q' : Pos} {a : α} {k : Nat} (h : Tr p w n₀ ann t s q a s' q' k) : Trs p w n₀ ann t s q a s' q' k := ⟨k, Nat.le_refl _, h⟩
theorem Trs.bind {α β : Type} {t : Sem α} {g : α → Sem β} {s s₁ s' : Shared} {q q₁ q' : Pos} {a : α} {b : β} {k k' : Nat} (h : Trs p w n₀ ann t s q a s₁ q₁ k) (h' : Trs p w n₀ ann (g a) s₁ q₁ b s' q' k') :
    Trs p w n₀ ann (t >>= g) s q b s' q' (k + k') := by
  obtain ⟨i, hi, x⟩ := h
  obtain ⟨j, hj, y⟩ := h'
  exact ⟨i + j, Nat.add_le_add hi hj, x.bind y⟩
theorem Trs.le {α : Type} {t : Sem α} {s s' : Shared} {q q' : Pos} {a : α} {k k' : Nat} (h : Trs p w n₀ ann t s q a s' q' k) (e : k ≤ k') : Trs p w n₀ ann t s q a s' q' k' :=
  let ⟨i, hi, x⟩ := h; ⟨i, Nat.le_trans hi e, x⟩
theorem Trs.holding {α : Type} {t : Sem α} {s s' : Shared} {q q' : Pos} {a : α} {k : Nat} {vs : List Value} (h : Trs p w n₀ ann t s q a s' q' k) : Trs p w n₀ ann (PySem.holding vs t) s q a s' q' k :=
  let ⟨i, hi, x⟩ := h; ⟨i, hi, x.holding⟩
end

section
variable {p : Program} {w : World} {n₀ : Nat} {ann : Option Value}
theorem Trs.pure {α : Type} {a : α} {s : Shared} {q : Pos} : Trs p w n₀ ann (Pure.pure a : Sem α) s q a s q 0 := ⟨0, Nat.le_refl _, .pure⟩
theorem Trs.rule {tag : String} {s : Shared} {q : Pos} : Trs p w n₀ ann (PySem.rule tag) s q () s q 1 := ⟨1, Nat.le_refl _, .rule .pure⟩
theorem Trs.standAt {s : Shared} {q q₁ : Pos} : Trs p w n₀ ann (PySem.standAt q₁) s q () s q₁ 1 := ⟨1, Nat.le_refl _, .at .pure⟩
theorem Trs.load {b : Addr} {o : Obj} {s : Shared} {q : Pos} (ho : s.heap.get? b = some o) : Trs p w n₀ ann (PySem.load b) s q o s q 1 := ⟨1, Nat.le_refl _, .load ho .pure⟩
theorem Trs.loadPart {b : Addr} {part : Option Value} {o : Obj} {s : Shared} {q : Pos} (ho : s.heap.get? b = some o) : Trs p w n₀ ann (PySem.loadPart b part) s q o s q 1 := ⟨1, Nat.le_refl _, .load ho .pure⟩
theorem Trs.update {b : Addr} {g : Obj → Obj} {s : Shared} {q : Pos} (ho : (s.heap.get? b).isSome = true) (hb : n₀ ≤ b ∨ b = mainNs) : Trs p w n₀ ann (PySem.update b g) s q () { s with heap := s.heap.update b g } q 1 := ⟨1, Nat.le_refl _, .update ho hb .pure⟩
theorem Trs.updatePart {b : Addr} {part : Option Value} {g : Obj → Obj} {s : Shared} {q : Pos} (ho : (s.heap.get? b).isSome = true) (hb : n₀ ≤ b ∨ b = mainNs) : Trs p w n₀ ann (PySem.updatePart b part g) s q () { s with heap := s.heap.update b g } q 1 := ⟨1, Nat.le_refl _, .update ho hb .pure⟩
theorem Trs.alloc {o : Obj} {s : Shared} {q : Pos} : Trs p w n₀ ann (PySem.alloc o) s q s.heap.objs.size { s with heap := s.heap.push o } q 1 := ⟨1, Nat.le_refl _, .alloc .pure⟩
theorem Trs.fresh {s : Shared} {q : Pos} : Trs p w n₀ ann PySem.fresh s q s.toks { s with toks := s.toks + 1 } q 1 := ⟨1, Nat.le_refl _, .fresh .pure⟩
theorem Trs.ask {s : Shared} {q : Pos} : Trs p w n₀ ann PySem.ask s q ⟨p, w.params⟩ s q 1 := ⟨1, Nat.le_refl _, .ask .pure⟩
theorem Trs.point {s : Shared} {q : Pos} : Trs p w n₀ ann PySem.point s q () s q 1 := ⟨1, Nat.le_refl _, .point .pure⟩
theorem Trs.ite {α : Type} {c : Prop} [Decidable c] {t u : Sem α} {s s' : Shared} {q q' : Pos} {a : α} {k : Nat} (h : Trs p w n₀ ann t s q a s' q' k) (h' : Trs p w n₀ ann u s q a s' q' k) : Trs p w n₀ ann (if c then t else u) s q a s' q' k := by
  split <;> assumption
theorem Trs.bind' {α β : Type} {t : Sem α} {g : α → Sem β} {s s₁ s' : Shared} {q q₁ q' : Pos} {a : α} {b : β} {k k' n : Nat} (h : Trs p w n₀ ann t s q a s₁ q₁ k) (h' : Trs p w n₀ ann (g a) s₁ q₁ b s' q' k') (e : k + k' ≤ n) :
    Trs p w n₀ ann (t >>= g) s q b s' q' n := (h.bind h').le e

theorem den_hash (x : Str) (k : Tok) : denote treeTable (.call (.builtin "str.__hash__") ⟨[.str x k], []⟩) = Pure.pure (.again (.builtin "str.__hash__" ⟨[.str x k], []⟩)) := by
  kernel_rfl
theorem den_hash2 (x : Str) (k : Tok) : denote treeTable (.builtin "str.__hash__" ⟨[.str x k], []⟩) = (PySem.strHash x >>= fun i => (do ret (← mkInt i))) := by
  kernel_rfl
theorem tr_strHash {x : Str} {s : Shared} {q : Pos} : Tr p w n₀ ann (PySem.strHash x) s q (hashStr w x) s q 1 := .ask .pure
theorem call_hash {x : Str} {k : Tok} {s : Shared} {q : Pos} : CallOk p w n₀ ann (.call (.builtin "str.__hash__") ⟨[.str x k], []⟩) s q (.ok (.ret (.int (hashStr w x) s.toks))) { s with toks := s.toks + 1 } 4 := by
  intro K h g l code kept st
  rw [den_hash]
  obtain ⟨heap, gens, drawn, toks, os⟩ := s
  refine Goes.then1 (by simp [through]) (by kernel_rfl) rfl ?_
  rw [den_hash2]
  refine Goes.then1 rfl rfl rfl ?_
  refine Goes.then1 rfl rfl rfl ?_
  exact Goes.one rfl rfl rfl

theorem trs_pyHash {x : Str} {k : Tok} {s : Shared} {q : Pos} : Trs p w n₀ ann (pyHash (.str x k)) s q (hashStr w x) { s with toks := s.toks + 1 } q 8 := by
  show Trs p w n₀ ann (callSpecialIfBound? (.str x k) "__hash__" >>= fun _ => PySem.strHash x) s q _ _ q 8
  refine Trs.bind' (k := 7) (k' := 1) (a := some (.int (hashStr w x) s.toks)) (s₁ := { s with toks := s.toks + 1 }) (q₁ := q) ?_ tr_strHash.s (by omega)
  have fin : Trs p w n₀ ann (PySem.call (.builtin "str.__hash__") ([.str x k] ++ []) >>= fun v => Pure.pure (some v)) s q (some (Value.int (hashStr w x) s.toks)) { s with toks := s.toks + 1 } q 5 :=
    Trs.bind' (k := 5) (k' := 0) (a := .int (hashStr w x) s.toks) (s₁ := { s with toks := s.toks + 1 }) (q₁ := q) (t := PySem.call (.builtin "str.__hash__") [.str x k]) ⟨5, Nat.le_refl _, .call call_hash .pure⟩ Trs.pure (by omega)
  simp only [callSpecialIfBound?, bindSpecialIfBound?]
  refine Trs.holding ?_
  have hl : specialOf (.str x k) "__hash__" = Pure.pure (some (.builtin "str.__hash__")) := F.slot_str_hash.lookup
  rw [hl]
  refine Trs.bind' (k := 1) (k' := 5) (a := some (.builtin "str.__hash__", [.str x k])) (s₁ := s) (q₁ := q) ?_ fin (by omega)
  refine Trs.bind' (k := 0) (k' := 1) Trs.pure ?_ (by omega)
  dsimp only
  rw [F.slot_str_hash.bind]
  refine Trs.bind' (k := 1) (k' := 0) (a := ⟨p, w.params⟩) (s₁ := s) (q₁ := q) Trs.ask ?_ (by omega)
  refine Trs.ite ?_ ?_
  · exact Trs.bind' (k := 0) (k' := 0) Trs.pure Trs.pure (by omega)
  · exact ⟨0, Nat.le_refl _, .pure⟩

abbrev setObj (es : Array (Int × Value)) (ep : Nat) (t : SetTable) : Obj := { cls := .type "set", data := .set es ep t }
theorem push_update (h : Heap) (o : Obj) (f : Obj → Obj) : (h.push o).update h.objs.size f = h.push (f o) := by
  obtain ⟨objs, l⟩ := h
  show Heap.mk _ _ = Heap.mk _ _
  congr 1
  apply Array.ext_getElem?
  intro i
  rw [Array.getElem?_modify, Array.getElem?_push, Array.getElem?_push]
  by_cases e : i = objs.size
  · subst e; simp
  · simp [e, Ne.symm e]
theorem get_pushed (h : Heap) (es : Array (Int × Value)) (ep : Nat) (t : SetTable) : (h.push (setObj es ep t)).get? h.objs.size = some (setObj es ep t) := Heap.get?_push_size h rfl

/-- one more text in the set: what setAddByScan lays, whatever the hash says -/
def hashP (P : Params) (x : Str) : Int := if x.cps.isEmpty = true then 0 else reduceHash (P.strHash x.cps)
theorem hashP_eq (w : World) (x : Str) : hashP w.params x = hashStr w x := rfl
def addStep (P : Params) (x : Str) (k : Tok) (r : Array (Int × Value) × Nat × SetTable) : Array (Int × Value) × Nat × SetTable :=
  let u := layNew r.2.2 r.1 (hashP P x) (.str x k)
  let t : SetTable := { u.2.1 with plain := false }
  if !u.2.2.1 && t.tooFull then
    let v := relayAll t u.1 (SetTable.grown u.1.size)
    (v.1, r.2.1 + 2, v.2.1)
  else (u.1, r.2.1 + 1, t)

structure Fine (xs : List Str) (r : Array (Int × Value) × Nat × SetTable) : Prop where
  fits : r.2.2.fits r.1.size = true
  size : r.1.size = xs.length
  texts : ∀ e ∈ r.1.toList, ∃ x k, e.2 = .str x k
  mem : ∀ x, (∃ e ∈ r.1.toList, e.2.isStr x = true) ↔ x ∈ xs

theorem trs_state {h : Heap} {es : Array (Int × Value)} {ep : Nat} {t : SetTable} {s : Shared} {q : Pos} (e : s.heap = h.push (setObj es ep t)) (hf : t.fits es.size = true) :
    Trs p w n₀ ann (setState h.objs.size) s q (es, ep, t) s q 1 := by
  unfold setState
  refine Trs.bind' (k := 1) (k' := 0) (Trs.load (o := setObj es ep t) (by rw [e]; exact get_pushed ..)) ?_ (by omega)
  have hc : (t.place.size != es.size || decide (t.fill > t.mask)) = false := by
    simp only [SetTable.fits, Bool.and_eq_true, beq_iff_eq, decide_eq_true_eq] at hf
    simp [hf.1, Nat.not_lt.mpr hf.2]
  dsimp only
  rw [hc]
  exact .pure
theorem trs_store {h : Heap} {es es' : Array (Int × Value)} {ep : Nat} {t t' : SetTable} {s : Shared} {q : Pos} (e : s.heap = h.push (setObj es ep t)) (hn : n₀ ≤ h.objs.size) (hz : es'.size ≤ sizeLine) :
    Trs p w n₀ ann (storeSet h.objs.size es' t') s q () { s with heap := h.push (setObj es' (ep + 1) t') } q 2 := by
  unfold storeSet
  have hg : s.heap.get? h.objs.size = some (setObj es ep t) := by rw [e]; exact get_pushed ..
  refine Trs.bind' (k := 1) (k' := 1) (Trs.load hg) ?_ (by omega)
  dsimp only
  rw [if_neg (Nat.not_lt.mpr hz)]
  have := Trs.update (p := p) (w := w) (ann := ann) (s := s) (q := q) (b := h.objs.size) (g := Obj.putSet es' t') (n₀ := n₀) (by rw [hg]; rfl) (.inl hn)
  rw [e, push_update] at this
  exact this

theorem trs_gave (b : Bool) {s : Shared} {q : Pos} : Trs p w n₀ ann (match b with | true => PySem.rule "set.scan.the-table-gave-way" | false => Pure.pure ()) s q () s q 1 := by
  cases b
  · exact Trs.pure.le (Nat.zero_le _)
  · exact Trs.rule

theorem Fine.scan {xs : List Str} {r : Array (Int × Value) × Nat × SetTable} (F : Fine xs r) {x : Str} (k : Tok) (hl : xs.length < 1000) : byScan (.str x k) r.1 = true := by
  have h1 : r.1.all (fun e => e.2.scannable) = true := by
    rw [← Array.all_toList, List.all_eq_true]
    intro e he
    obtain ⟨y, j, hy⟩ := F.texts e he
    rw [hy]; rfl
  simp only [byScan, h1, Bool.and_true, Bool.and_eq_true, decide_eq_true_eq]
  refine ⟨rfl, ?_⟩
  rw [F.size, show scanBound = 4096 from rfl]; omega
theorem Fine.absent {xs : List Str} {r : Array (Int × Value) × Nat × SetTable} (F : Fine xs r) {x : Str} (hx : x ∉ xs) : r.1.findIdx? (fun e => e.2.isStr x) = none := by
  have e : r.1.findIdx? (fun e => e.2.isStr x) = r.1.toList.findIdx? (fun e => e.2.isStr x) := by cases r.1; simp
  rw [e, List.findIdx?_eq_none_iff]
  intro y hy
  cases h : y.2.isStr x with
  | false => rfl
  | true => exact absurd ((F.mem x).mp ⟨y, hy, h⟩) hx

theorem addStep_fine (w : World) {xs : List Str} {r : Array (Int × Value) × Nat × SetTable} (F : Fine xs r) (x : Str) (k : Tok) : Fine (xs ++ [x]) (addStep w.params x k r) := by
  obtain ⟨es, ep, t⟩ := r
  have hperm := layNew_perm t es (hashStr w x) (.str x k)
  have hfits := layNew_fits t es (hashStr w x) (.str x k)
  unfold addStep
  rw [hashP_eq]
  generalize layNew t es (hashStr w x) (.str x k) = L at hperm hfits ⊢
  obtain ⟨es1, t1, wasDummy, gave⟩ := L
  dsimp only at hperm hfits ⊢
  rw [Array.toList_push] at hperm
  have F1 : Fine (xs ++ [x]) (es1, ep + 1, { t1 with plain := false }) := by
    refine ⟨SetTable.fits_plain_off hfits, ?_, ?_, ?_⟩
    · rw [← Array.length_toList, hperm.length_eq, List.length_append, List.length_append, Array.length_toList, show es.size = xs.length from F.size]; rfl
    · intro e he
      rcases List.mem_append.mp (hperm.mem_iff.mp he) with q | q
      · exact F.texts e q
      · rw [List.mem_singleton] at q; subst q; exact ⟨x, k, rfl⟩
    · intro y
      constructor
      · rintro ⟨e, he, hy⟩
        rcases List.mem_append.mp (hperm.mem_iff.mp he) with q | q
        · exact List.mem_append_left _ ((F.mem y).mp ⟨e, q, hy⟩)
        · rw [List.mem_singleton] at q; subst q
          have : y = x := by simpa [Value.isStr] using (beq_iff_eq.mp hy).symm
          rw [this]; exact List.mem_append_right _ (.head _)
      · intro hy
        rcases List.mem_append.mp hy with q | q
        · obtain ⟨e, he, h⟩ := (F.mem y).mpr q
          exact ⟨e, hperm.mem_iff.mpr (List.mem_append_left _ he), h⟩
        · rw [List.mem_singleton] at q; subst q
          exact ⟨_, hperm.mem_iff.mpr (List.mem_append_right _ (.head _)), by simp [Value.isStr]⟩
  split
  · have hp := relayAll_perm { t1 with plain := false } es1 (SetTable.grown es1.size)
    have hfr := relayAll_fits { t1 with plain := false } es1 (SetTable.grown es1.size)
    generalize relayAll { t1 with plain := false } es1 (SetTable.grown es1.size) = R at hp hfr ⊢
    obtain ⟨es2, t3, g2⟩ := R
    dsimp only at hp hfr ⊢
    refine ⟨hfr, ?_, ?_, ?_⟩
    · show es2.size = _
      rw [← Array.length_toList, hp.length_eq, Array.length_toList]; exact F1.size
    · intro e he; exact F1.texts e (hp.mem_iff.mp he)
    · intro y
      rw [← F1.mem y]
      exact ⟨fun ⟨e, he, h⟩ => ⟨e, hp.mem_iff.mp he, h⟩, fun ⟨e, he, h⟩ => ⟨e, hp.mem_iff.mpr he, h⟩⟩
  · exact F1

theorem trs_setAdd {h : Heap} {r : Array (Int × Value) × Nat × SetTable} {xs : List Str} {x : Str} {k : Tok} {s : Shared} {q : Pos} (e : s.heap = h.push (setObj r.1 r.2.1 r.2.2)) (F : Fine xs r) (hx : x ∉ xs)
    (hn : n₀ ≤ h.objs.size) (hl : xs.length < 900) :
    Trs p w n₀ ann (setAdd h.objs.size (.str x k)) s q true { s with heap := h.push (setObj (addStep w.params x k r).1 (addStep w.params x k r).2.1 (addStep w.params x k r).2.2), toks := s.toks + 1 } q 30 := by
  have F' := addStep_fine w F x k
  have hz : ∀ n, n ≤ 1000 → n ≤ sizeLine := fun n hn => by rw [sizeLine_eq]; omega
  unfold setAdd
  refine Trs.holding (Trs.bind' (k := 8) (k' := 20) trs_pyHash ?_ (by omega))
  unfold setAddHashed
  refine Trs.holding ?_
  unfold setAddHashedIn
  refine Trs.bind' (k := 1) (k' := 15) (trs_state e F.fits) ?_ (by omega)
  dsimp only
  rw [F.scan k (by omega)]
  simp only [↓reduceIte]
  unfold setAddByScan
  refine Trs.bind' (k := 14) (k' := 0) (a := some true) ?_ Trs.pure (by omega)
  refine Trs.bind' (k := 1) (k' := 12) Trs.rule ?_ (by omega)
  have hsc : setScan h.objs.size (.str x k) (hashStr w x) true r.1 = Pure.pure .absent := by
    unfold setScan
    dsimp only
    rw [if_pos (by
      rw [← Array.all_toList, List.all_eq_true]
      intro y hy
      obtain ⟨z, j, hz⟩ := F.texts y hy
      rw [hz]; rfl)]
    unfold setScanStrs
    rw [F.absent hx]
  rw [hsc]
  refine Trs.bind' (k := 0) (k' := 12) Trs.pure ?_ (by omega)
  obtain ⟨es, ep, t⟩ := r
  unfold addStep at F' ⊢
  rw [hashP_eq] at F' ⊢
  dsimp only at F' ⊢ e hn
  have hF1 := layNew_fits t es (hashStr w x) (.str x k)
  have hsz : (layNew t es (hashStr w x) (.str x k)).1.size ≤ 1000 := by
    rw [← Array.length_toList, (layNew_perm t es (hashStr w x) (.str x k)).length_eq, Array.toList_push, List.length_append, Array.length_toList, show es.size = xs.length from F.size]
    show xs.length + 1 ≤ 1000
    omega
  generalize hL : layNew t es (hashStr w x) (.str x k) = L at F' hF1 hsz ⊢
  obtain ⟨es1, t1, wasDummy, gave⟩ := L
  dsimp only at F' hF1 hsz ⊢
  refine Trs.bind' (k := 1) (k' := 11) (trs_gave _) ?_ (by omega)
  have tail : Trs p w n₀ ann (do
        storeSet h.objs.size es1 { t1 with plain := false }
        if (!wasDummy && ({ t1 with plain := false } : SetTable).tooFull) = true then do
            (match (relayAll { t1 with plain := false } es1 (SetTable.grown es1.size)).2.2 with | true => PySem.rule "set.scan.the-table-gave-way" | false => Pure.pure ())
            storeSet h.objs.size (relayAll { t1 with plain := false } es1 (SetTable.grown es1.size)).1 (relayAll { t1 with plain := false } es1 (SetTable.grown es1.size)).2.1
            Pure.pure (some true)
          else Pure.pure (some true)) { s with toks := s.toks + 1 } q (some true)
      { s with heap := h.push (setObj
          (if (!wasDummy && ({ t1 with plain := false } : SetTable).tooFull) = true then ((relayAll { t1 with plain := false } es1 (SetTable.grown es1.size)).1, ep + 2, (relayAll { t1 with plain := false } es1 (SetTable.grown es1.size)).2.1) else (es1, ep + 1, { t1 with plain := false })).1
          (if (!wasDummy && ({ t1 with plain := false } : SetTable).tooFull) = true then ((relayAll { t1 with plain := false } es1 (SetTable.grown es1.size)).1, ep + 2, (relayAll { t1 with plain := false } es1 (SetTable.grown es1.size)).2.1) else (es1, ep + 1, { t1 with plain := false })).2.1
          (if (!wasDummy && ({ t1 with plain := false } : SetTable).tooFull) = true then ((relayAll { t1 with plain := false } es1 (SetTable.grown es1.size)).1, ep + 2, (relayAll { t1 with plain := false } es1 (SetTable.grown es1.size)).2.1) else (es1, ep + 1, { t1 with plain := false })).2.2), toks := s.toks + 1 } q 8 := by
    refine Trs.bind' (k := 2) (k' := 5) (trs_store (s := { s with toks := s.toks + 1 }) e hn (hz _ hsz)) ?_ (by omega)
    by_cases c : (!wasDummy && ({ t1 with plain := false } : SetTable).tooFull) = true
    · rw [if_pos c, if_pos c]
      have hsz2 : (relayAll { t1 with plain := false } es1 (SetTable.grown es1.size)).1.size ≤ 1000 := by
        rw [← Array.length_toList, (relayAll_perm _ _ _).length_eq, Array.length_toList]; exact hsz
      refine Trs.bind' (k := 1) (k' := 3) (trs_gave _) ?_ (by omega)
      refine Trs.bind' (k := 2) (k' := 0) (trs_store rfl hn (hz _ hsz2)) Trs.pure (by omega)
    · rw [if_neg c, if_neg c]
      exact Trs.pure.le (by omega)
  split
  · refine Trs.bind' (k := 0) (k' := 8) (a := false) (s₁ := { s with toks := s.toks + 1 }) (q₁ := q) Trs.pure ?_ (by omega)
    exact tail
  · rename_i hp
    refine Trs.bind' (k := 0) (k' := 8) (a := true) (s₁ := { s with toks := s.toks + 1 }) (q₁ := q) Trs.pure ?_ (by omega)
    have ht : t1 = { t1 with plain := false } := by
      cases t1
      simp only [Bool.not_eq_true] at hp
      simp_all
    simp only [↓reduceIte]
    rw [← ht] at tail ⊢
    exact tail

/-- the set behind all its texts -/
def addAll (P : Params) (xs : List (Str × Tok)) (r : Array (Int × Value) × Nat × SetTable) : Array (Int × Value) × Nat × SetTable := xs.foldl (fun r x => addStep P x.1 x.2 r) r
theorem addAll_fine (w : World) : ∀ (ys : List (Str × Tok)) (xs : List Str) (r : Array (Int × Value) × Nat × SetTable), Fine xs r → Fine (xs ++ ys.map (·.1)) (addAll w.params ys r)
  | [], xs, r, F => by rw [List.map_nil, List.append_nil]; exact F
  | y :: ys, xs, r, F => by
    have := addAll_fine w ys (xs ++ [y.1]) (addStep w.params y.1 y.2 r) (addStep_fine w F y.1 y.2)
    rw [List.append_assoc] at this
    exact this

theorem trs_addLoop {h : Heap} {v : Value} : ∀ (ys : List (Str × Tok)) (xs : List Str) (r : Array (Int × Value) × Nat × SetTable) {s : Shared} {q : Pos}, s.heap = h.push (setObj r.1 r.2.1 r.2.2) → Fine xs r → (xs ++ ys.map (·.1)).Nodup →
    n₀ ≤ h.objs.size → (xs ++ ys.map (·.1)).length < 900 →
    Trs p w n₀ ann (forIn (ys.map fun y => Value.str y.1 y.2) PUnit.unit fun x _ => (do let _ ← setAdd h.objs.size x; Pure.pure (ForInStep.yield PUnit.unit) : Sem (ForInStep PUnit))) s q PUnit.unit
      { s with heap := h.push (setObj (addAll w.params ys r).1 (addAll w.params ys r).2.1 (addAll w.params ys r).2.2), toks := s.toks + ys.length } q (30 * ys.length)
  | [], xs, r, s, q, e, F, hnd, hn, hl => by
    rw [List.map_nil, List.forIn_nil]
    have : { s with heap := h.push (setObj (addAll w.params [] r).1 (addAll w.params [] r).2.1 (addAll w.params [] r).2.2), toks := s.toks + ([] : List (Str × Tok)).length } = s := by
      obtain ⟨heap, gens, drawn, toks, os⟩ := s
      subst e; rfl
    rw [this]
    exact Trs.pure.le (Nat.zero_le _)
  | y :: ys, xs, r, s, q, e, F, hnd, hn, hl => by
    rw [List.map_cons, List.forIn_cons]
    have hx : y.1 ∉ xs := by
      intro hm
      rw [List.map_cons] at hnd
      exact (List.nodup_append.mp hnd).2.2 _ hm _ (.head _) rfl
    rw [List.map_cons, List.length_append, List.length_cons, List.length_map] at hl
    refine Trs.bind' (k := 30) (k' := 30 * ys.length) (Trs.bind' (k := 30) (k' := 0) (trs_setAdd (k := y.2) e F hx hn (by omega)) Trs.pure (by omega)) ?_ (by rw [List.length_cons]; omega)
    dsimp only
    have := trs_addLoop (v := v) ys (xs ++ [y.1]) (addStep w.params y.1 y.2 r) (s := { s with heap := h.push (setObj (addStep w.params y.1 y.2 r).1 (addStep w.params y.1 y.2 r).2.1 (addStep w.params y.1 y.2 r).2.2), toks := s.toks + 1 }) (q := q) rfl
      (addStep_fine w F y.1 y.2) (by rw [List.append_assoc]; exact hnd) hn (by rw [List.append_assoc, List.length_append, List.singleton_append, List.length_cons, List.length_map]; omega)
    rw [List.length_cons, show s.toks + (ys.length + 1) = s.toks + 1 + ys.length by omega]
    exact this

def tokd : List Str → Tok → List (Str × Tok)
  | [], _ => []
  | x :: r, k => (x, k) :: tokd r (k + 1)
theorem tokd_fst : ∀ (xs : List Str) (k : Tok), (tokd xs k).map (·.1) = xs
  | [], _ => rfl
  | x :: r, k => by rw [tokd, List.map_cons, tokd_fst r]
theorem tokd_len : ∀ (xs : List Str) (k : Tok), (tokd xs k).length = xs.length
  | [], _ => rfl
  | x :: r, k => by rw [tokd, List.length_cons, tokd_len r, List.length_cons]

theorem trs_evalAll {env : Env} {sp : Pos} : ∀ (xs : List Str) {s : Shared} {q : Pos},
    Trs p w n₀ ann (evalAll (xs.map fun x => (do let v ← constValue env (.str x); PySem.standAt sp; Pure.pure v : Sem Value))) s q ((tokd xs s.toks).map fun y => Value.str y.1 y.2) { s with toks := s.toks + xs.length } (if xs.isEmpty then q else sp) (2 * xs.length)
  | [], s, q => Trs.pure
  | x :: xs, s, q => by
    rw [List.map_cons]
    unfold evalAll
    refine Trs.bind' (k := 2) (k' := 2 * xs.length) (a := .str x s.toks) (s₁ := { s with toks := s.toks + 1 }) (q₁ := sp) ?_ ?_ (by rw [List.length_cons]; omega)
    · exact ⟨2, Nat.le_refl _, .fresh (.at .pure)⟩
    · refine Trs.bind' (k := 2 * xs.length) (k' := 0) (Trs.holding (trs_evalAll xs (s := { s with toks := s.toks + 1 }) (q := sp))) ?_ (by omega)
      rw [List.length_cons, show s.toks + (xs.length + 1) = s.toks + 1 + xs.length by omega]
      simp only [List.isEmpty_cons, Bool.false_eq_true, if_false, ite_self]
      exact Trs.pure

/-- the object that the display lays -/
def varsObjOf (P : Params) (xs : List Str) (k : Tok) : Obj :=
  let r := addAll P (tokd xs k) (#[], 0, .fresh 0 0 (!P.followText "set-order"))
  setObj r.1 (r.2.1 + 1) { r.2.2 with led := false }

theorem trs_unled {h : Heap} {es : Array (Int × Value)} {ep : Nat} {t : SetTable} {s : Shared} {q : Pos} (e : s.heap = h.push (setObj es ep t)) (hf : t.fits es.size = true) (hn : n₀ ≤ h.objs.size) (hz : es.size ≤ sizeLine) :
    Trs p w n₀ ann (setUnled h.objs.size) s q () { s with heap := h.push (setObj es (ep + 1) { t with led := false }) } q 3 := by
  unfold setUnled
  exact Trs.bind' (k := 1) (k' := 2) (trs_state e hf) (trs_store e hn hz) (by omega)

theorem trs_display {env : Env} {sp : Pos} {b : Bool} {xs : List Str} {s : Shared} {q : Pos} (hx : xs ≠ []) (hnd : xs.Nodup) (hl : xs.length ≤ 30) (hn : n₀ ≤ s.heap.objs.size) :
    Trs p w n₀ ann (setDisplay .unsure b (xs.map fun x => (false, (do let v ← constValue env (.str x); PySem.standAt sp; Pure.pure v : Sem Value)))) s q (.ref s.heap.objs.size)
      { s with heap := s.heap.push (varsObjOf w.params xs s.toks), toks := s.toks + 2 * xs.length } sp (40 * xs.length + 20) := by
  unfold setDisplay
  rw [if_neg (by decide)]
  have h1 : Trs p w n₀ ann (newSet (.type "set")) s q (.ref s.heap.objs.size) { s with heap := s.heap.push (setObj #[] 0 (.fresh 0 0 (!w.params.followText "set-order"))) } q 2 := by
    unfold newSet setsByText
    refine Trs.bind' (k := 1) (k' := 1) (Trs.bind' (k := 1) (k' := 0) Trs.ask Trs.pure (by omega)) ?_ (by omega)
    dsimp only
    simp only [newObj]
    exact Trs.bind' (k := 1) (k' := 0) Trs.alloc Trs.pure (by omega)
  refine Trs.bind' (k := 2) (k' := 40 * xs.length + 18) h1 ?_ (by omega)
  dsimp only
  have hlen : (xs.map fun x => (false, (do let v ← constValue env (.str x); PySem.standAt sp; Pure.pure v : Sem Value))).length = xs.length := List.length_map _
  have hfi : (xs.map fun x => (false, (do let v ← constValue env (.str x); PySem.standAt sp; Pure.pure v : Sem Value))).findIdx? (·.1) = none := by
    rw [List.findIdx?_eq_none_iff]
    intro y hy
    obtain ⟨x, _, rfl⟩ := List.mem_map.mp hy
    rfl
  rw [hlen, hfi, if_neg (by omega), Option.getD_none]
  have htake : ((xs.map fun x => (false, (do let v ← constValue env (.str x); PySem.standAt sp; Pure.pure v : Sem Value))).take xs.length).map (·.2) = xs.map fun x => (do let v ← constValue env (.str x); PySem.standAt sp; Pure.pure v : Sem Value) := by
    rw [List.take_of_length_le (by rw [hlen]; exact Nat.le_refl _), List.map_map]; rfl
  have hdrop : (xs.map fun x => (false, (do let v ← constValue env (.str x); PySem.standAt sp; Pure.pure v : Sem Value))).drop xs.length = [] := List.drop_eq_nil_of_le (by rw [hlen]; exact Nat.le_refl _)
  rw [htake, hdrop]
  have F0 : Fine [] ((#[], 0, SetTable.fresh 0 0 (!w.params.followText "set-order")) : Array (Int × Value) × Nat × SetTable) := ⟨rfl, rfl, fun e he => by simp at he, fun x => by simp⟩
  have F1 := addAll_fine w (tokd xs s.toks) [] _ F0
  refine Trs.bind' (k := 40 * xs.length + 18) (k' := 0) (a := ()) (q₁ := sp) (Trs.holding ?_) Trs.pure (by omega)
  refine Trs.bind' (k := 2 * xs.length) (k' := 38 * xs.length + 18) (trs_evalAll xs) ?_ (by omega)
  have hsp : (if xs.isEmpty = true then q else sp) = sp := by
    cases xs with
    | nil => exact absurd rfl hx
    | cons _ _ => rfl
  rw [hsp]
  refine Trs.bind' (k := 30 * xs.length + 10) (k' := 0) (a := ()) (q₁ := sp) (s₁ := { s with heap := s.heap.push (varsObjOf w.params xs s.toks), toks := s.toks + 2 * xs.length }) (Trs.holding ?_) ?_ (by omega)
  · refine Trs.bind' (k := 30 * (tokd xs s.toks).length) (k' := 10) (trs_addLoop (v := .none) (h := s.heap) (tokd xs s.toks) [] (#[], 0, .fresh 0 0 (!w.params.followText "set-order")) rfl F0 (by rw [List.nil_append, tokd_fst]; exact hnd) hn (by rw [List.nil_append, tokd_fst]; omega)) ?_ (by rw [tokd_len]; omega)
    dsimp only
    rw [if_pos (by decide)]
    refine Trs.bind' (k := 1) (k' := 3) Trs.rule ?_ (by omega)
    have hz : (addAll w.params (tokd xs s.toks) (#[], 0, .fresh 0 0 (!w.params.followText "set-order"))).1.size ≤ sizeLine := by
      rw [F1.size, List.nil_append, tokd_fst, sizeLine_eq]; omega
    have := trs_unled (p := p) (w := w) (ann := ann) (n₀ := n₀) (h := s.heap) (es := (addAll w.params (tokd xs s.toks) (#[], 0, .fresh 0 0 (!w.params.followText "set-order"))).1) (ep := (addAll w.params (tokd xs s.toks) (#[], 0, .fresh 0 0 (!w.params.followText "set-order"))).2.1) (t := (addAll w.params (tokd xs s.toks) (#[], 0, .fresh 0 0 (!w.params.followText "set-order"))).2.2)
      (s := { s with heap := s.heap.push (setObj (addAll w.params (tokd xs s.toks) (#[], 0, .fresh 0 0 (!w.params.followText "set-order"))).1 (addAll w.params (tokd xs s.toks) (#[], 0, .fresh 0 0 (!w.params.followText "set-order"))).2.1 (addAll w.params (tokd xs s.toks) (#[], 0, .fresh 0 0 (!w.params.followText "set-order"))).2.2), toks := s.toks + xs.length + (tokd xs s.toks).length }) (q := sp) rfl F1.fits hn hz
    rw [tokd_len, show s.toks + xs.length + xs.length = s.toks + 2 * xs.length by omega] at this ⊢
    exact this
  · rw [List.forIn_nil]
    exact Trs.pure

theorem exec_vars {env : Env} {name : Str} {np sp pos : Pos} {elts : List Expr} {k : Nat} : exec (.Assign [.Name name np] (.Set elts k sp) pos) env = (do
    PySem.standAt pos
    let v ← (do
      PySem.standAt sp
      setDisplay (displayRoad k elts) (← inMainModule env) ((starEach elts env).map fun (star, t) => (star, do let v ← t; PySem.standAt sp; Pure.pure v)))
    (do
      PySem.standAt np
      bindName env name v)
    Pure.pure .next) := rfl

theorem trs_vars {env : Env} {name file : Str} {np sp pos : Pos} {elts : List Expr} {xs : List Str} {c : Addr} {oc om : Obj} {vs : Array Value} {tk : Tok} {es : Array DictEntry} {n : Nat} {s : Shared} {q : Pos}
    (hel : (starEach elts env).map (fun (y : Bool × Sem Value) => (y.1, (do let v ← y.2; PySem.standAt sp; Pure.pure v : Sem Value))) = xs.map fun x => (false, (do let v ← constValue env (.str x); PySem.standAt sp; Pure.pure v : Sem Value)))
    (hroad : displayRoad 0 elts = .unsure) (hx : xs ≠ []) (hnd : xs.Nodup) (hl : xs.length ≤ 30) (hn : n₀ ≤ s.heap.objs.size)
    (hcode : env.code = .ref c) (hoc : s.heap.get? c = some oc) (hvs : oc.data = .fields vs) (hfile : vs.getD 18 .none = .str file tk)
    (hom : s.heap.get? mainNs = some om) (hes : om.data = .dict es n) (hkey : aRefKeyMayBeTheName name es = false)
    (hstore : ∀ v, storeName env name v = nsSet mainNs name v) :
    Trs p w n₀ ann (exec (.Assign [.Name name np] (.Set elts 0 sp) pos) env) s q .next
      { s with heap := (s.heap.push (varsObjOf w.params xs s.toks)).update mainNs (Obj.putName name (hashStr w name) (.str name (s.toks + 2 * xs.length)) (.ref s.heap.objs.size)), toks := s.toks + 2 * xs.length + 1 } np (40 * xs.length + 40) := by
  rw [exec_vars]
  refine Trs.bind' (k := 1) (k' := 40 * xs.length + 39) Trs.standAt ?_ (by omega)
  have hmain : ∃ b, Trs p w n₀ ann (inMainModule env) s sp b s sp 2 := by
    refine ⟨!(p.modules.any fun (_, _, m) => m.file == file), ?_⟩
    unfold inMainModule
    rw [if_neg (by rw [hcode]; simp)]
    rw [hcode]
    unfold PySem.fieldsOf
    refine Trs.bind' (k := 1) (k' := 1) (a := vs) (s₁ := s) (q₁ := sp) (Trs.bind' (k := 1) (k' := 0) (Trs.load hoc) (by rw [hvs]; exact Trs.pure) (by omega)) ?_ (by omega)
    rw [hfile]
    exact Trs.bind' (k := 1) (k' := 0) Trs.ask Trs.pure (by omega)
  obtain ⟨b, hb⟩ := hmain
  refine Trs.bind' (k := 40 * xs.length + 23) (k' := 12) (a := .ref s.heap.objs.size) (q₁ := sp) (s₁ := { s with heap := s.heap.push (varsObjOf w.params xs s.toks), toks := s.toks + 2 * xs.length }) ?_ ?_ (by omega)
  · refine Trs.bind' (k := 1) (k' := 40 * xs.length + 22) Trs.standAt ?_ (by omega)
    refine Trs.bind' (k := 2) (k' := 40 * xs.length + 20) hb ?_ (by omega)
    rw [hroad]
    rw [show (List.map (fun x => match x with | (star, t) => (star, (do let v ← t; PySem.standAt sp; Pure.pure v : Sem Value))) (starEach elts env)) = xs.map fun x => (false, (do let v ← constValue env (.str x); PySem.standAt sp; Pure.pure v : Sem Value)) from hel]
    exact trs_display hx hnd hl hn
  · refine Trs.bind' (k := 10) (k' := 0) (a := ()) (q₁ := np) ?_ Trs.pure (by omega)
    refine Trs.bind' (k := 1) (k' := 8) Trs.standAt ?_ (by omega)
    unfold bindName
    refine Trs.bind' (k := 1) (k' := 6) (Trs.holding Trs.point) ?_ (by omega)
    refine Trs.bind' (k := 5) (k' := 1) (a := ()) ?_ Trs.point (by omega)
    rw [hstore]
    unfold nsSet
    refine Trs.bind' (k := 1) (k' := 4) tr_strHash.s ?_ (by omega)
    unfold mkText
    refine Trs.bind' (k := 1) (k' := 3) (a := .str name (s.toks + 2 * xs.length)) (s₁ := { s with heap := s.heap.push (varsObjOf w.params xs s.toks), toks := s.toks + 2 * xs.length + 1 }) (q₁ := np) (Trs.bind' (k := 1) (k' := 0) Trs.fresh Trs.pure (by omega)) ?_ (by omega)
    have hg : (s.heap.push (varsObjOf w.params xs s.toks)).get? mainNs = some om := Heap.get?_push_of_some _ hom
    refine Trs.bind' (k := 1) (k' := 1) (Trs.loadPart hg) ?_ (by omega)
    rw [hes]
    dsimp only
    rw [if_neg (by rw [hkey]; exact Bool.false_ne_true)]
    exact Trs.updatePart (by rw [hg]; rfl) (.inr rfl)

theorem goes_vars {env : Env} {st : Stmt} {rest : List Stmt} {s s' : Shared} {q q' : Pos} {cc : Code} {B : List PySem.Frame} {m : Nat} (h : Trs p w n₀ ann (exec st env) s q .next s' q' m) :
    Goes p w n₀ ann m s (restOf (st :: rest) env cc q B) s' (restOf rest env cc q' B) := by
  obtain ⟨k, hk, t⟩ := h
  have g := t.sound (fun f => match f with | .next => (execs rest env).wrap doneF (leaveH env) id id | f => doneF f) (leaveH env) cc B
  intro N r hr
  have := topRun_mono (m - k) _ _ _ _ (g N r hr)
  unfold restOf
  rw [execs_cons_wrap, show m + N = k + N + (m - k) by omega]
  exact this
end
end Mine

open PySem PySem.W PySem.Calls PyProof.Rows
set_option Elab.async false
set_option linter.all false
set_option maxRecDepth 100000
namespace Mine
abbrev pw : Program := PySem.Challenge.pw_ew5004_02
noncomputable def stAt (i : Nat) : Stmt := (pw.main.body[i]?).getD default
def clsBody (s : Stmt) : List Stmt := match s with | .ClassDef _ _ _ b _ _ _ _ _ _ _ => b | _ => []
noncomputable def clAt (i j : Nat) : Stmt := ((clsBody (stAt i))[j]?).getD default
def aOf (s : Stmt) : Arguments := match s with | .FunctionDef _ a _ _ _ _ _ _ _ _ => a | _ => default
def bOf (s : Stmt) : List Stmt := match s with | .FunctionDef _ _ b _ _ _ _ _ _ _ => b | _ => []
def sOf (s : Stmt) : Scope := match s with | .FunctionDef _ _ _ _ _ _ sc _ _ _ => sc | _ => default
def names8 : List Str := ["n", "i", "v", "w", "f", "t", "c", "e"]
def varsObj (P : Params) : Obj := varsObjOf P names8 304
noncomputable abbrev ob0_0 (P : Params) : Obj := Obj.mk (Value.type "dict") none (Data.dict #[DictEntry.mk (PyData.keyHash P (.ofString "__name__")) (Value.str (.ofString "__name__") 1) (Value.str (.ofString "builtins") 160), DictEntry.mk (PyData.keyHash P (.ofString "__doc__")) (Value.str (.ofString "__doc__") 2) (Value.builtin "builtins.__doc__:str#opaque"), DictEntry.mk (PyData.keyHash P (.ofString "__package__")) (Value.str (.ofString "__package__") 3) (Value.builtin "builtins.__package__:str#opaque"), DictEntry.mk (PyData.keyHash P (.ofString "__loader__")) (Value.str (.ofString "__loader__") 4) (Value.builtin "builtins.__loader__:shared#opaque"), DictEntry.mk (PyData.keyHash P (.ofString "__spec__")) (Value.str (.ofString "__spec__") 5) (Value.builtin "builtins.__spec__#opaque"), DictEntry.mk (PyData.keyHash P (.ofString "__build_class__")) (Value.str (.ofString "__build_class__") 6) (Value.builtin "__build_class__"), DictEntry.mk (PyData.keyHash P (.ofString "__\x69mport__")) (Value.str (.ofString "__\x69mport__") 7) (Value.builtin "__\x69mport__"), DictEntry.mk (PyData.keyHash P (.ofString "abs")) (Value.str (.ofString "abs") 8) (Value.builtin "abs"), DictEntry.mk (PyData.keyHash P (.ofString "all")) (Value.str (.ofString "all") 9) (Value.builtin "all"), DictEntry.mk (PyData.keyHash P (.ofString "any")) (Value.str (.ofString "any") 10) (Value.builtin "any"), DictEntry.mk (PyData.keyHash P (.ofString "ascii")) (Value.str (.ofString "ascii") 11) (Value.builtin "ascii"), DictEntry.mk (PyData.keyHash P (.ofString "bin")) (Value.str (.ofString "bin") 12) (Value.builtin "bin"), DictEntry.mk (PyData.keyHash P (.ofString "breakpoint")) (Value.str (.ofString "breakpoint") 13) (Value.builtin "breakpoint"), DictEntry.mk (PyData.keyHash P (.ofString "callable")) (Value.str (.ofString "callable") 14) (Value.builtin "callable"), DictEntry.mk (PyData.keyHash P (.ofString "chr")) (Value.str (.ofString "chr") 15) (Value.builtin "chr"), DictEntry.mk (PyData.keyHash P (.ofString "compile")) (Value.str (.ofString "compile") 16) (Value.builtin "compile"), DictEntry.mk (PyData.keyHash P (.ofString "delattr")) (Value.str (.ofString "delattr") 17) (Value.builtin "delattr"), DictEntry.mk (PyData.keyHash P (.ofString "dir")) (Value.str (.ofString "dir") 18) (Value.builtin "dir"), DictEntry.mk (PyData.keyHash P (.ofString "divmod")) (Value.str (.ofString "divmod") 19) (Value.builtin "divmod"), DictEntry.mk (PyData.keyHash P (.ofString "eval")) (Value.str (.ofString "eval") 20) (Value.builtin "eval"), DictEntry.mk (PyData.keyHash P (.ofString "exec")) (Value.str (.ofString "exec") 21) (Value.builtin "exec"), DictEntry.mk (PyData.keyHash P (.ofString "format")) (Value.str (.ofString "format") 22) (Value.builtin "format"), DictEntry.mk (PyData.keyHash P (.ofString "getattr")) (Value.str (.ofString "getattr") 23) (Value.builtin "getattr"), DictEntry.mk (PyData.keyHash P (.ofString "globals")) (Value.str (.ofString "globals") 24) (Value.builtin "globals"), DictEntry.mk (PyData.keyHash P (.ofString "hasattr")) (Value.str (.ofString "hasattr") 25) (Value.builtin "hasattr"), DictEntry.mk (PyData.keyHash P (.ofString "hash")) (Value.str (.ofString "hash") 26) (Value.builtin "hash"), DictEntry.mk (PyData.keyHash P (.ofString "hex")) (Value.str (.ofString "hex") 27) (Value.builtin "hex"), DictEntry.mk (PyData.keyHash P (.ofString "id")) (Value.str (.ofString "id") 28) (Value.builtin "id"), DictEntry.mk (PyData.keyHash P (.ofString "input")) (Value.str (.ofString "input") 29) (Value.builtin "input"), DictEntry.mk (PyData.keyHash P (.ofString "isinstance")) (Value.str (.ofString "isinstance") 30) (Value.builtin "isinstance"), DictEntry.mk (PyData.keyHash P (.ofString "issubclass")) (Value.str (.ofString "issubclass") 31) (Value.builtin "issubclass"), DictEntry.mk (PyData.keyHash P (.ofString "iter")) (Value.str (.ofString "iter") 32) (Value.builtin "iter"), DictEntry.mk (PyData.keyHash P (.ofString "aiter")) (Value.str (.ofString "aiter") 33) (Value.builtin "aiter"), DictEntry.mk (PyData.keyHash P (.ofString "len")) (Value.str (.ofString "len") 34) (Value.builtin "len"), DictEntry.mk (PyData.keyHash P (.ofString "locals")) (Value.str (.ofString "locals") 35) (Value.builtin "locals"), DictEntry.mk (PyData.keyHash P (.ofString "max")) (Value.str (.ofString "max") 36) (Value.builtin "max"), DictEntry.mk (PyData.keyHash P (.ofString "min")) (Value.str (.ofString "min") 37) (Value.builtin "min"), DictEntry.mk (PyData.keyHash P (.ofString "next")) (Value.str (.ofString "next") 38) (Value.builtin "next"), DictEntry.mk (PyData.keyHash P (.ofString "anext")) (Value.str (.ofString "anext") 39) (Value.builtin "anext"), DictEntry.mk (PyData.keyHash P (.ofString "oct")) (Value.str (.ofString "oct") 40) (Value.builtin "oct"), DictEntry.mk (PyData.keyHash P (.ofString "ord")) (Value.str (.ofString "ord") 41) (Value.builtin "ord"), DictEntry.mk (PyData.keyHash P (.ofString "pow")) (Value.str (.ofString "pow") 42) (Value.builtin "pow"), DictEntry.mk (PyData.keyHash P (.ofString "print")) (Value.str (.ofString "print") 43) (Value.builtin "print"), DictEntry.mk (PyData.keyHash P (.ofString "repr")) (Value.str (.ofString "repr") 44) (Value.builtin "repr"), DictEntry.mk (PyData.keyHash P (.ofString "round")) (Value.str (.ofString "round") 45) (Value.builtin "round"), DictEntry.mk (PyData.keyHash P (.ofString "setattr")) (Value.str (.ofString "setattr") 46) (Value.builtin "setattr"), DictEntry.mk (PyData.keyHash P (.ofString "sorted")) (Value.str (.ofString "sorted") 47) (Value.builtin "sorted"), DictEntry.mk (PyData.keyHash P (.ofString "sum")) (Value.str (.ofString "sum") 48) (Value.builtin "sum"), DictEntry.mk (PyData.keyHash P (.ofString "vars")) (Value.str (.ofString "vars") 49) (Value.builtin "vars"), DictEntry.mk (PyData.keyHash P (.ofString "None")) (Value.str (.ofString "None") 50) Value.none, DictEntry.mk (PyData.keyHash P (.ofString "Ellipsis")) (Value.str (.ofString "Ellipsis") 51) Value.ellipsis, DictEntry.mk (PyData.keyHash P (.ofString "NotImplemented")) (Value.str (.ofString "NotImplemented") 52) Value.notImplemented, DictEntry.mk (PyData.keyHash P (.ofString "False")) (Value.str (.ofString "False") 53) (Value.bool Bool.false), DictEntry.mk (PyData.keyHash P (.ofString "True")) (Value.str (.ofString "True") 54) (Value.bool Bool.true), DictEntry.mk (PyData.keyHash P (.ofString "bool")) (Value.str (.ofString "bool") 55) (Value.type "bool"), DictEntry.mk (PyData.keyHash P (.ofString "memoryview")) (Value.str (.ofString "memoryview") 56) (Value.type "memoryview"), DictEntry.mk (PyData.keyHash P (.ofString "bytearray")) (Value.str (.ofString "bytearray") 57) (Value.type "bytearray"), DictEntry.mk (PyData.keyHash P (.ofString "bytes")) (Value.str (.ofString "bytes") 58) (Value.type "bytes"), DictEntry.mk (PyData.keyHash P (.ofString "classmethod")) (Value.str (.ofString "classmethod") 59) (Value.type "classmethod"), DictEntry.mk (PyData.keyHash P (.ofString "complex")) (Value.str (.ofString "complex") 60) (Value.type "complex"), DictEntry.mk (PyData.keyHash P (.ofString "dict")) (Value.str (.ofString "dict") 61) (Value.type "dict"), DictEntry.mk (PyData.keyHash P (.ofString "enumerate")) (Value.str (.ofString "enumerate") 62) (Value.type "enumerate"), DictEntry.mk (PyData.keyHash P (.ofString "filter")) (Value.str (.ofString "filter") 63) (Value.type "filter"), DictEntry.mk (PyData.keyHash P (.ofString "float")) (Value.str (.ofString "float") 64) (Value.type "float"), DictEntry.mk (PyData.keyHash P (.ofString "frozenset")) (Value.str (.ofString "frozenset") 65) (Value.type "frozenset"), DictEntry.mk (PyData.keyHash P (.ofString "property")) (Value.str (.ofString "property") 66) (Value.type "property"), DictEntry.mk (PyData.keyHash P (.ofString "int")) (Value.str (.ofString "int") 67) (Value.type "int"), DictEntry.mk (PyData.keyHash P (.ofString "list")) (Value.str (.ofString "list") 68) (Value.type "list"), DictEntry.mk (PyData.keyHash P (.ofString "map")) (Value.str (.ofString "map") 69) (Value.type "map"), DictEntry.mk (PyData.keyHash P (.ofString "object")) (Value.str (.ofString "object") 70) (Value.type "object"), DictEntry.mk (PyData.keyHash P (.ofString "range")) (Value.str (.ofString "range") 71) (Value.type "range"), DictEntry.mk (PyData.keyHash P (.ofString "reversed")) (Value.str (.ofString "reversed") 72) (Value.type "reversed"), DictEntry.mk (PyData.keyHash P (.ofString "set")) (Value.str (.ofString "set") 73) (Value.type "set"), DictEntry.mk (PyData.keyHash P (.ofString "slice")) (Value.str (.ofString "slice") 74) (Value.type "slice"), DictEntry.mk (PyData.keyHash P (.ofString "staticmethod")) (Value.str (.ofString "staticmethod") 75) (Value.type "staticmethod"), DictEntry.mk (PyData.keyHash P (.ofString "str")) (Value.str (.ofString "str") 76) (Value.type "str"), DictEntry.mk (PyData.keyHash P (.ofString "super")) (Value.str (.ofString "super") 77) (Value.type "super"), DictEntry.mk (PyData.keyHash P (.ofString "tuple")) (Value.str (.ofString "tuple") 78) (Value.type "tuple"), DictEntry.mk (PyData.keyHash P (.ofString "type")) (Value.str (.ofString "type") 79) (Value.type "type"), DictEntry.mk (PyData.keyHash P (.ofString "zip")) (Value.str (.ofString "zip") 80) (Value.type "zip"), DictEntry.mk (PyData.keyHash P (.ofString "__debug__")) (Value.str (.ofString "__debug__") 81) (Value.bool Bool.true), DictEntry.mk (PyData.keyHash P (.ofString "BaseException")) (Value.str (.ofString "BaseException") 82) (Value.type "BaseException"), DictEntry.mk (PyData.keyHash P (.ofString "BaseExceptionGroup")) (Value.str (.ofString "BaseExceptionGroup") 83) (Value.type "BaseExceptionGroup"), DictEntry.mk (PyData.keyHash P (.ofString "Exception")) (Value.str (.ofString "Exception") 84) (Value.type "Exception"), DictEntry.mk (PyData.keyHash P (.ofString "GeneratorExit")) (Value.str (.ofString "GeneratorExit") 85) (Value.type "GeneratorExit"), DictEntry.mk (PyData.keyHash P (.ofString "KeyboardInterrupt")) (Value.str (.ofString "KeyboardInterrupt") 86) (Value.type "KeyboardInterrupt"), DictEntry.mk (PyData.keyHash P (.ofString "SystemExit")) (Value.str (.ofString "SystemExit") 87) (Value.type "SystemExit"), DictEntry.mk (PyData.keyHash P (.ofString "ArithmeticError")) (Value.str (.ofString "ArithmeticError") 88) (Value.type "ArithmeticError"), DictEntry.mk (PyData.keyHash P (.ofString "AssertionError")) (Value.str (.ofString "AssertionError") 89) (Value.type "AssertionError"), DictEntry.mk (PyData.keyHash P (.ofString "AttributeError")) (Value.str (.ofString "AttributeError") 90) (Value.type "AttributeError"), DictEntry.mk (PyData.keyHash P (.ofString "BufferError")) (Value.str (.ofString "BufferError") 91) (Value.type "BufferError"), DictEntry.mk (PyData.keyHash P (.ofString "EOFError")) (Value.str (.ofString "EOFError") 92) (Value.type "EOFError"), DictEntry.mk (PyData.keyHash P (.ofString "ImportError")) (Value.str (.ofString "ImportError") 93) (Value.type "ImportError"), DictEntry.mk (PyData.keyHash P (.ofString "LookupError")) (Value.str (.ofString "LookupError") 94) (Value.type "LookupError"), DictEntry.mk (PyData.keyHash P (.ofString "MemoryError")) (Value.str (.ofString "MemoryError") 95) (Value.type "MemoryError"), DictEntry.mk (PyData.keyHash P (.ofString "NameError")) (Value.str (.ofString "NameError") 96) (Value.type "NameError"), DictEntry.mk (PyData.keyHash P (.ofString "OSError")) (Value.str (.ofString "OSError") 97) (Value.type "OSError"), DictEntry.mk (PyData.keyHash P (.ofString "ReferenceError")) (Value.str (.ofString "ReferenceError") 98) (Value.type "ReferenceError"), DictEntry.mk (PyData.keyHash P (.ofString "RuntimeError")) (Value.str (.ofString "RuntimeError") 99) (Value.type "RuntimeError"), DictEntry.mk (PyData.keyHash P (.ofString "StopAsyncIteration")) (Value.str (.ofString "StopAsyncIteration") 100) (Value.type "StopAsyncIteration"), DictEntry.mk (PyData.keyHash P (.ofString "StopIteration")) (Value.str (.ofString "StopIteration") 101) (Value.type "StopIteration"), DictEntry.mk (PyData.keyHash P (.ofString "SyntaxError")) (Value.str (.ofString "SyntaxError") 102) (Value.type "SyntaxError"), DictEntry.mk (PyData.keyHash P (.ofString "SystemError")) (Value.str (.ofString "SystemError") 103) (Value.type "SystemError"), DictEntry.mk (PyData.keyHash P (.ofString "TypeError")) (Value.str (.ofString "TypeError") 104) (Value.type "TypeError"), DictEntry.mk (PyData.keyHash P (.ofString "ValueError")) (Value.str (.ofString "ValueError") 105) (Value.type "ValueError"), DictEntry.mk (PyData.keyHash P (.ofString "Warning")) (Value.str (.ofString "Warning") 106) (Value.type "Warning"), DictEntry.mk (PyData.keyHash P (.ofString "FloatingPointError")) (Value.str (.ofString "FloatingPointError") 107) (Value.type "FloatingPointError"), DictEntry.mk (PyData.keyHash P (.ofString "OverflowError")) (Value.str (.ofString "OverflowError") 108) (Value.type "OverflowError"), DictEntry.mk (PyData.keyHash P (.ofString "ZeroDivisionError")) (Value.str (.ofString "ZeroDivisionError") 109) (Value.type "ZeroDivisionError"), DictEntry.mk (PyData.keyHash P (.ofString "BytesWarning")) (Value.str (.ofString "BytesWarning") 110) (Value.type "BytesWarning"), DictEntry.mk (PyData.keyHash P (.ofString "DeprecationWarning")) (Value.str (.ofString "DeprecationWarning") 111) (Value.type "DeprecationWarning"), DictEntry.mk (PyData.keyHash P (.ofString "EncodingWarning")) (Value.str (.ofString "EncodingWarning") 112) (Value.type "EncodingWarning"), DictEntry.mk (PyData.keyHash P (.ofString "FutureWarning")) (Value.str (.ofString "FutureWarning") 113) (Value.type "FutureWarning"), DictEntry.mk (PyData.keyHash P (.ofString "ImportWarning")) (Value.str (.ofString "ImportWarning") 114) (Value.type "ImportWarning"), DictEntry.mk (PyData.keyHash P (.ofString "PendingDeprecationWarning")) (Value.str (.ofString "PendingDeprecationWarning") 115) (Value.type "PendingDeprecationWarning"), DictEntry.mk (PyData.keyHash P (.ofString "ResourceWarning")) (Value.str (.ofString "ResourceWarning") 116) (Value.type "ResourceWarning"), DictEntry.mk (PyData.keyHash P (.ofString "RuntimeWarning")) (Value.str (.ofString "RuntimeWarning") 117) (Value.type "RuntimeWarning"), DictEntry.mk (PyData.keyHash P (.ofString "SyntaxWarning")) (Value.str (.ofString "SyntaxWarning") 118) (Value.type "SyntaxWarning"), DictEntry.mk (PyData.keyHash P (.ofString "UnicodeWarning")) (Value.str (.ofString "UnicodeWarning") 119) (Value.type "UnicodeWarning"), DictEntry.mk (PyData.keyHash P (.ofString "UserWarning")) (Value.str (.ofString "UserWarning") 120) (Value.type "UserWarning"), DictEntry.mk (PyData.keyHash P (.ofString "BlockingIOError")) (Value.str (.ofString "BlockingIOError") 121) (Value.type "BlockingIOError"), DictEntry.mk (PyData.keyHash P (.ofString "ChildProcessError")) (Value.str (.ofString "ChildProcessError") 122) (Value.type "ChildProcessError"), DictEntry.mk (PyData.keyHash P (.ofString "ConnectionError")) (Value.str (.ofString "ConnectionError") 123) (Value.type "ConnectionError"), DictEntry.mk (PyData.keyHash P (.ofString "FileExistsError")) (Value.str (.ofString "FileExistsError") 124) (Value.type "FileExistsError"), DictEntry.mk (PyData.keyHash P (.ofString "FileNotFoundError")) (Value.str (.ofString "FileNotFoundError") 125) (Value.type "FileNotFoundError"), DictEntry.mk (PyData.keyHash P (.ofString "InterruptedError")) (Value.str (.ofString "InterruptedError") 126) (Value.type "InterruptedError"), DictEntry.mk (PyData.keyHash P (.ofString "IsADirectoryError")) (Value.str (.ofString "IsADirectoryError") 127) (Value.type "IsADirectoryError"), DictEntry.mk (PyData.keyHash P (.ofString "NotADirectoryError")) (Value.str (.ofString "NotADirectoryError") 128) (Value.type "NotADirectoryError"), DictEntry.mk (PyData.keyHash P (.ofString "PermissionError")) (Value.str (.ofString "PermissionError") 129) (Value.type "PermissionError"), DictEntry.mk (PyData.keyHash P (.ofString "ProcessLookupError")) (Value.str (.ofString "ProcessLookupError") 130) (Value.type "ProcessLookupError"), DictEntry.mk (PyData.keyHash P (.ofString "TimeoutError")) (Value.str (.ofString "TimeoutError") 131) (Value.type "TimeoutError"), DictEntry.mk (PyData.keyHash P (.ofString "IndentationError")) (Value.str (.ofString "IndentationError") 132) (Value.type "IndentationError"), DictEntry.mk (PyData.keyHash P (.ofString "_IncompleteInputError")) (Value.str (.ofString "_IncompleteInputError") 133) (Value.type "_IncompleteInputError"), DictEntry.mk (PyData.keyHash P (.ofString "IndexError")) (Value.str (.ofString "IndexError") 134) (Value.type "IndexError"), DictEntry.mk (PyData.keyHash P (.ofString "KeyError")) (Value.str (.ofString "KeyError") 135) (Value.type "KeyError"), DictEntry.mk (PyData.keyHash P (.ofString "ModuleNotFoundError")) (Value.str (.ofString "ModuleNotFoundError") 136) (Value.type "ModuleNotFoundError"), DictEntry.mk (PyData.keyHash P (.ofString "NotImplementedError")) (Value.str (.ofString "NotImplementedError") 137) (Value.type "NotImplementedError"), DictEntry.mk (PyData.keyHash P (.ofString "PythonFinalizationError")) (Value.str (.ofString "PythonFinalizationError") 138) (Value.type "PythonFinalizationError"), DictEntry.mk (PyData.keyHash P (.ofString "RecursionError")) (Value.str (.ofString "RecursionError") 139) (Value.type "RecursionError"), DictEntry.mk (PyData.keyHash P (.ofString "UnboundLocalError")) (Value.str (.ofString "UnboundLocalError") 140) (Value.type "UnboundLocalError"), DictEntry.mk (PyData.keyHash P (.ofString "UnicodeError")) (Value.str (.ofString "UnicodeError") 141) (Value.type "UnicodeError"), DictEntry.mk (PyData.keyHash P (.ofString "BrokenPipeError")) (Value.str (.ofString "BrokenPipeError") 142) (Value.type "BrokenPipeError"), DictEntry.mk (PyData.keyHash P (.ofString "ConnectionAbortedError")) (Value.str (.ofString "ConnectionAbortedError") 143) (Value.type "ConnectionAbortedError"), DictEntry.mk (PyData.keyHash P (.ofString "ConnectionRefusedError")) (Value.str (.ofString "ConnectionRefusedError") 144) (Value.type "ConnectionRefusedError"), DictEntry.mk (PyData.keyHash P (.ofString "ConnectionResetError")) (Value.str (.ofString "ConnectionResetError") 145) (Value.type "ConnectionResetError"), DictEntry.mk (PyData.keyHash P (.ofString "TabError")) (Value.str (.ofString "TabError") 146) (Value.type "TabError"), DictEntry.mk (PyData.keyHash P (.ofString "UnicodeDecodeError")) (Value.str (.ofString "UnicodeDecodeError") 147) (Value.type "UnicodeDecodeError"), DictEntry.mk (PyData.keyHash P (.ofString "UnicodeEncodeError")) (Value.str (.ofString "UnicodeEncodeError") 148) (Value.type "UnicodeEncodeError"), DictEntry.mk (PyData.keyHash P (.ofString "UnicodeTranslateError")) (Value.str (.ofString "UnicodeTranslateError") 149) (Value.type "UnicodeTranslateError"), DictEntry.mk (PyData.keyHash P (.ofString "ExceptionGroup")) (Value.str (.ofString "ExceptionGroup") 150) (Value.type "ExceptionGroup"), DictEntry.mk (PyData.keyHash P (.ofString "EnvironmentError")) (Value.str (.ofString "EnvironmentError") 151) (Value.type "OSError"), DictEntry.mk (PyData.keyHash P (.ofString "IOError")) (Value.str (.ofString "IOError") 152) (Value.type "OSError"), DictEntry.mk (PyData.keyHash P (.ofString "open")) (Value.str (.ofString "open") 153) (Value.builtin "open"), DictEntry.mk (PyData.keyHash P (.ofString "quit")) (Value.str (.ofString "quit") 154) (Value.builtin "builtins.quit#opaque"), DictEntry.mk (PyData.keyHash P (.ofString "exit")) (Value.str (.ofString "exit") 155) (Value.builtin "builtins.exit#opaque"), DictEntry.mk (PyData.keyHash P (.ofString "copyright")) (Value.str (.ofString "copyright") 156) (Value.builtin "builtins.copyright#opaque"), DictEntry.mk (PyData.keyHash P (.ofString "credits")) (Value.str (.ofString "credits") 157) (Value.builtin "builtins.credits#opaque"), DictEntry.mk (PyData.keyHash P (.ofString "license")) (Value.str (.ofString "license") 158) (Value.builtin "builtins.license#opaque"), DictEntry.mk (PyData.keyHash P (.ofString "help")) (Value.str (.ofString "help") 159) (Value.builtin "builtins.help#opaque")] 159) #[]
noncomputable abbrev ob1_1 (P : Params) : Obj := Obj.mk (Value.type "dict") none (Data.dict #[DictEntry.mk (PyData.keyHash P (.ofString "builtins")) (Value.str (.ofString "builtins") 162) (Value.ref 4), DictEntry.mk (PyData.keyHash P (.ofString "__main__")) (Value.str (.ofString "__main__") 163) (Value.ref 5), DictEntry.mk (PyData.keyHash P (.ofString "_sre")) (Value.str (.ofString "_sre") 244) (Value.ref 12)] 3) #[]
noncomputable abbrev ob2_2 (P : Params) : Obj := Obj.mk Value.none none (Data.dict #[DictEntry.mk (PyData.keyHash P (.ofString "\x69mport.loaded._sre")) (Value.str (.ofString "\x69mport.loaded._sre") 183) (Value.bool Bool.true), DictEntry.mk (PyData.keyHash P (.ofString "class._frozen_\x69mportlib.BuiltinImporter")) (Value.str (.ofString "class._frozen_\x69mportlib.BuiltinImporter") 185) (Value.ref 14), DictEntry.mk (PyData.keyHash P (.ofString "watched.\x69mport")) (Value.str (.ofString "watched.\x69mport") 206) (Value.ref 18), DictEntry.mk (PyData.keyHash P (.ofString "class._frozen_\x69mportlib.ModuleSpec")) (Value.str (.ofString "class._frozen_\x69mportlib.ModuleSpec") 216) (Value.ref 22), DictEntry.mk (PyData.keyHash P (.ofString "sys.modules.booked-epoch")) (Value.str (.ofString "sys.modules.booked-epoch") 245) (Value.int (OfNat.ofNat (α := Int) 3) 0), DictEntry.mk (PyData.keyHash P (.ofString "\x69mport.later-laid._sre")) (Value.str (.ofString "\x69mport.later-laid._sre") 270) (Value.bool Bool.true), DictEntry.mk (PyData.keyHash P (.ofString "watched.library")) (Value.str (.ofString "watched.library") 272) (Value.ref 27), DictEntry.mk (PyData.keyHash P (.ofString "watched.library-objects")) (Value.str (.ofString "watched.library-objects") 0) (Value.str (.ofString "\x0c") 0), DictEntry.mk (PyData.keyHash P (.ofString "watched.library-deep._sre")) (Value.str (.ofString "watched.library-deep._sre") 273) (Value.str (.ofString "\x04\x00\x00\x0b\x04\x00\x00\x0b\x04\x00\x00\x03\x04\x00\x00\x0b\x08\x04dict\x02") 0)] 9) #[]
noncomputable abbrev ob3_3 (P : Params) : Obj := Obj.mk (Value.type "dict") none (Data.dict #[DictEntry.mk (PyData.keyHash P (.ofString "__name__")) (Value.str (.ofString "__name__") 165) (Value.str (.ofString "__main__") 164), DictEntry.mk (PyData.keyHash P (.ofString "__doc__")) (Value.str (.ofString "__doc__") 166) Value.none, DictEntry.mk (PyData.keyHash P (.ofString "__package__")) (Value.str (.ofString "__package__") 167) Value.none, DictEntry.mk (PyData.keyHash P (.ofString "__loader__")) (Value.str (.ofString "__loader__") 168) (Value.builtin "__main__.__loader__#opaque"), DictEntry.mk (PyData.keyHash P (.ofString "__spec__")) (Value.str (.ofString "__spec__") 169) Value.none, DictEntry.mk (PyData.keyHash P (.ofString "__annotations__")) (Value.str (.ofString "__annotations__") 170) (Value.ref 6), DictEntry.mk (PyData.keyHash P (.ofString "__builtins__")) (Value.str (.ofString "__builtins__") 171) (Value.ref 4), DictEntry.mk (PyData.keyHash P (.ofString "__file__")) (Value.str (.ofString "__file__") 173) (Value.str (.ofString "/claim/cut.py") 172), DictEntry.mk (PyData.keyHash P (.ofString "__cached__")) (Value.str (.ofString "__cached__") 174) Value.none, DictEntry.mk (PyData.keyHash P (.ofString "_sre")) (Value.str (.ofString "_sre") 275) (Value.ref 12)] 10) #[]
noncomputable abbrev ob4_4 (P : Params) : Obj := Obj.mk (Value.type "module") (some 0) Data.plain #[]
noncomputable abbrev ob5_5 (P : Params) : Obj := Obj.mk (Value.type "module") (some 3) Data.plain #[]
noncomputable abbrev ob6_6 (P : Params) : Obj := Obj.mk (Value.type "dict") none (Data.dict #[] 0) #[]
noncomputable abbrev ob7_7 (P : Params) : Obj := Obj.mk (Value.type "tuple") none (Data.seq #[] 0) #[]
noncomputable abbrev ob8_8 (P : Params) : Obj := Obj.mk Value.none none (Data.fields #[]) #[]
noncomputable abbrev ob9_9 (P : Params) : Obj := Obj.mk (Value.type "code") none (Data.fields #[Value.str (.ofString "<module>") 176, Value.str (.ofString "<module>") 177, Value.str (.ofString "/claim/cut.py") 178, Value.int (OfNat.ofNat (α := Int) 1) 0, Value.int (OfNat.ofNat (α := Int) 0) 0, Value.int (OfNat.ofNat (α := Int) 0) 0, Value.int (OfNat.ofNat (α := Int) 0) 0, Value.int (OfNat.ofNat (α := Int) 0) 0, Value.ref 7, Value.bool Bool.false, Value.int (OfNat.ofNat (α := Int) 175) 0, Value.ref 8, Value.none, Value.none, Value.none, Value.none, Value.int (OfNat.ofNat (α := Int) 179) 0, Value.int (OfNat.ofNat (α := Int) 1) 0, Value.str (.ofString "/claim/cut.py") 180]) #[]
noncomputable abbrev ob10_10 (P : Params) : Obj := Obj.mk (Value.type "frame") none Data.plain #[some (Value.ref 9), some (Value.ref 3), some (Value.ref 3), none, some (Value.str (.ofString "__main__") 164), none, some (Value.ref 0)]
noncomputable abbrev ob11_11 (P : Params) : Obj := Obj.mk (Value.type "dict") none (Data.dict #[DictEntry.mk (PyData.keyHash P (.ofString "__name__")) (Value.str (.ofString "__name__") 247) (Value.str (.ofString "_sre") 246), DictEntry.mk (PyData.keyHash P (.ofString "__doc__")) (Value.str (.ofString "__doc__") 248) Value.none, DictEntry.mk (PyData.keyHash P (.ofString "__package__")) (Value.str (.ofString "__package__") 250) (Value.str (.ofString "") 249), DictEntry.mk (PyData.keyHash P (.ofString "__loader__")) (Value.str (.ofString "__loader__") 251) (Value.builtin "off-the-table:_sre.__loader__:shared#opaque"), DictEntry.mk (PyData.keyHash P (.ofString "__spec__")) (Value.str (.ofString "__spec__") 252) (Value.builtin "off-the-table:_sre.__spec__:shared#opaque"), DictEntry.mk (PyData.keyHash P (.ofString "compile")) (Value.str (.ofString "compile") 253) (Value.builtin "_sre.compile"), DictEntry.mk (PyData.keyHash P (.ofString "template")) (Value.str (.ofString "template") 254) (Value.builtin "off-the-table:_sre.template:shared#opaque"), DictEntry.mk (PyData.keyHash P (.ofString "getcodesize")) (Value.str (.ofString "getcodesize") 255) (Value.builtin "off-the-table:_sre.getcodesize:shared#opaque"), DictEntry.mk (PyData.keyHash P (.ofString "ascii_iscased")) (Value.str (.ofString "ascii_iscased") 256) (Value.builtin "off-the-table:_sre.ascii_iscased:shared#opaque"), DictEntry.mk (PyData.keyHash P (.ofString "unicode_iscased")) (Value.str (.ofString "unicode_iscased") 257) (Value.builtin "off-the-table:_sre.unicode_iscased:shared#opaque"), DictEntry.mk (PyData.keyHash P (.ofString "ascii_tolower")) (Value.str (.ofString "ascii_tolower") 258) (Value.builtin "off-the-table:_sre.ascii_tolower:shared#opaque"), DictEntry.mk (PyData.keyHash P (.ofString "unicode_tolower")) (Value.str (.ofString "unicode_tolower") 259) (Value.builtin "off-the-table:_sre.unicode_tolower:shared#opaque"), DictEntry.mk (PyData.keyHash P (.ofString "MAGIC")) (Value.str (.ofString "MAGIC") 261) (Value.int (OfNat.ofNat (α := Int) 20230612) 260), DictEntry.mk (PyData.keyHash P (.ofString "CODESIZE")) (Value.str (.ofString "CODESIZE") 263) (Value.int (OfNat.ofNat (α := Int) 4) 262), DictEntry.mk (PyData.keyHash P (.ofString "MAXREPEAT")) (Value.str (.ofString "MAXREPEAT") 265) (Value.int (OfNat.ofNat (α := Int) 4294967295) 264), DictEntry.mk (PyData.keyHash P (.ofString "MAXGROUPS")) (Value.str (.ofString "MAXGROUPS") 267) (Value.int (OfNat.ofNat (α := Int) 1073741823) 266), DictEntry.mk (PyData.keyHash P (.ofString "copyright")) (Value.str (.ofString "copyright") 269) (Value.str (.ofString " SRE 2.2.2 Copyright (c) 1997-2002 by Secret Labs AB ") 268)] 17) #[]
noncomputable abbrev ob12_12 (P : Params) : Obj := Obj.mk (Value.type "module") (some 11) Data.plain #[]
noncomputable abbrev ob13_13 (P : Params) : Obj := Obj.mk (Value.type "dict") none (Data.dict #[DictEntry.mk (PyData.keyHash P (.ofString "__module__")) (Value.str (.ofString "__module__") 189) (Value.str (.ofString "_frozen_\x69mportlib") 186), DictEntry.mk (PyData.keyHash P (.ofString "__firstlineno__")) (Value.str (.ofString "__firstlineno__") 190) (Value.int (OfNat.ofNat (α := Int) 971) 187), DictEntry.mk (PyData.keyHash P (.ofString "__doc__")) (Value.str (.ofString "__doc__") 191) (Value.builtin "_frozen_\x69mportlib.BuiltinImporter.__doc__:str#opaque"), DictEntry.mk (PyData.keyHash P (.ofString "_ORIGIN")) (Value.str (.ofString "_ORIGIN") 192) (Value.str (.ofString "built-in") 188), DictEntry.mk (PyData.keyHash P (.ofString "find_spec")) (Value.str (.ofString "find_spec") 193) (Value.builtin "_frozen_\x69mportlib.BuiltinImporter.find_spec#opaque"), DictEntry.mk (PyData.keyHash P (.ofString "create_module")) (Value.str (.ofString "create_module") 194) (Value.builtin "_frozen_\x69mportlib.BuiltinImporter.create_module#opaque"), DictEntry.mk (PyData.keyHash P (.ofString "exec_module")) (Value.str (.ofString "exec_module") 195) (Value.builtin "_frozen_\x69mportlib.BuiltinImporter.exec_module#opaque"), DictEntry.mk (PyData.keyHash P (.ofString "get_code")) (Value.str (.ofString "get_code") 196) (Value.builtin "_frozen_\x69mportlib.BuiltinImporter.get_code#opaque"), DictEntry.mk (PyData.keyHash P (.ofString "get_source")) (Value.str (.ofString "get_source") 197) (Value.builtin "_frozen_\x69mportlib.BuiltinImporter.get_source#opaque"), DictEntry.mk (PyData.keyHash P (.ofString "is_package")) (Value.str (.ofString "is_package") 198) (Value.builtin "_frozen_\x69mportlib.BuiltinImporter.is_package#opaque"), DictEntry.mk (PyData.keyHash P (.ofString "load_module")) (Value.str (.ofString "load_module") 199) (Value.builtin "_frozen_\x69mportlib.BuiltinImporter.load_module#opaque"), DictEntry.mk (PyData.keyHash P (.ofString "__static_attributes__")) (Value.str (.ofString "__static_attributes__") 200) (Value.ref 15), DictEntry.mk (PyData.keyHash P (.ofString "__dict__")) (Value.str (.ofString "__dict__") 202) (Value.ref 16), DictEntry.mk (PyData.keyHash P (.ofString "__weakref__")) (Value.str (.ofString "__weakref__") 204) (Value.ref 17)] 14) #[]
noncomputable abbrev ob14_14 (P : Params) : Obj := Obj.mk (Value.type "type") none (Data.cls (ClassData.mk (.ofString "BuiltinImporter") [Value.type "object"] [Value.ref 14, Value.type "object"] 13 (.ofString "BuiltinImporter") Bool.true [] [] Bool.false none Bool.false)) #[]
noncomputable abbrev ob15_15 (P : Params) : Obj := Obj.mk (Value.type "tuple") none (Data.seq #[] 0) #[]
noncomputable abbrev ob16_16 (P : Params) : Obj := Obj.mk (Value.type "getset_descriptor") none (Data.fields #[Value.str (.ofString "__dict__") 201, Value.ref 14, Value.builtin "function.__dict__", Value.builtin "function.__dict__#set"]) #[]
noncomputable abbrev ob17_17 (P : Params) : Obj := Obj.mk (Value.type "getset_descriptor") none (Data.fields #[Value.str (.ofString "__weakref__") 203, Value.ref 14, Value.builtin "ExceptionGroup.__weakref__", Value.none]) #[]
noncomputable abbrev ob18_18 (P : Params) : Obj := Obj.mk Value.none none (Data.seq #[Value.int (OfNat.ofNat (α := Int) 13) 0, Value.str (.ofString "\x06½\n__module__\x06º\x11_frozen_\x69mportlib\x06¾\x0f__firstlineno__\x04»\x00ϋ\x06¿\x07__doc__\t4_frozen_\x69mportlib.BuiltinImporter.__doc__:str#opaque\x06À\x07_ORIGIN\x06¼\x08built-in\x06Á\tfind_spec\t2_frozen_\x69mportlib.BuiltinImporter.find_spec#opaque\x06Â\x0dcreate_module\t6_frozen_\x69mportlib.BuiltinImporter.create_module#opaque\x06Ã\x0bexec_module\t4_frozen_\x69mportlib.BuiltinImporter.exec_module#opaque\x06Ä\x08get_code\t1_frozen_\x69mportlib.BuiltinImporter.get_code#opaque\x06Å\nget_source\t3_frozen_\x69mportlib.BuiltinImporter.get_source#opaque\x06Æ\nis_package\t3_frozen_\x69mportlib.BuiltinImporter.is_package#opaque\x06Ç\x0bload_module\t4_frozen_\x69mportlib.BuiltinImporter.load_module#opaque\x06È\x15__static_attributes__\x04\x00\x00\x0f\x06Ê\x08__dict__\x04\x00\x00\x10\x06Ì\x0b__weakref__\x04\x00\x00\x11") 0, Value.bool Bool.true, Value.bool Bool.true, Value.str (.ofString "") 205, Value.int (OfNat.ofNat (α := Int) 21) 0, Value.str (.ofString "\x06ã\n__module__\x06Ù\x11_frozen_\x69mportlib\x06ä\x0f__firstlineno__\x04Ú\x00Ȳ\x06å\x07__doc__\t/_frozen_\x69mportlib.ModuleSpec.__doc__:str#opaque\x06æ\x08__init__\t,_frozen_\x69mportlib.ModuleSpec.__init__#opaque\x06ç\x08__repr__\t,_frozen_\x69mportlib.ModuleSpec.__repr__#opaque\x06è\x06__eq__\t*_frozen_\x69mportlib.ModuleSpec.__eq__#opaque\x06é\x06cached\t*_frozen_\x69mportlib.ModuleSpec.cached#opaque\x06ê\x06parent\t*_frozen_\x69mportlib.ModuleSpec.parent#opaque\x06ë\x0chas_location\t0_frozen_\x69mportlib.ModuleSpec.has_location#opaque\x06ì\x15__static_attributes__\x04\x00\x00\x17\x06î\x08__dict__\x04\x00\x00\x18\x06ð\x0b__weakref__\x04\x00\x00\x19\x06ñ\x08__hash__\x00") 0, Value.bool Bool.true, Value.bool Bool.true, Value.str (.ofString "") 242] 1) #[]
noncomputable abbrev ob19_19 (P : Params) : Obj := Obj.mk (Value.type "list") none (Data.seq #[] 0) #[]
noncomputable abbrev ob20_20 (P : Params) : Obj := Obj.mk (Value.type "dict") none (Data.dict #[DictEntry.mk (PyData.keyHash P (.ofString "name")) (Value.str (.ofString "name") 208) (Value.str (.ofString "_sre") 207), DictEntry.mk (PyData.keyHash P (.ofString "loader")) (Value.str (.ofString "loader") 209) (Value.ref 14), DictEntry.mk (PyData.keyHash P (.ofString "origin")) (Value.str (.ofString "origin") 210) (Value.str (.ofString "built-in") 184), DictEntry.mk (PyData.keyHash P (.ofString "loader_state")) (Value.str (.ofString "loader_state") 211) Value.none, DictEntry.mk (PyData.keyHash P (.ofString "submodule_search_locations")) (Value.str (.ofString "submodule_search_locations") 212) Value.none, DictEntry.mk (PyData.keyHash P (.ofString "_uninitialized_submodules")) (Value.str (.ofString "_uninitialized_submodules") 213) (Value.ref 19), DictEntry.mk (PyData.keyHash P (.ofString "_set_fileattr")) (Value.str (.ofString "_set_fileattr") 214) (Value.bool Bool.false), DictEntry.mk (PyData.keyHash P (.ofString "_cached")) (Value.str (.ofString "_cached") 215) Value.none, DictEntry.mk (PyData.keyHash P (.ofString "_initializing")) (Value.str (.ofString "_initializing") 243) (Value.bool Bool.false)] 9) #[]
noncomputable abbrev ob21_21 (P : Params) : Obj := Obj.mk (Value.type "dict") none (Data.dict #[DictEntry.mk (PyData.keyHash P (.ofString "__module__")) (Value.str (.ofString "__module__") 227) (Value.str (.ofString "_frozen_\x69mportlib") 217), DictEntry.mk (PyData.keyHash P (.ofString "__firstlineno__")) (Value.str (.ofString "__firstlineno__") 228) (Value.int (OfNat.ofNat (α := Int) 562) 218), DictEntry.mk (PyData.keyHash P (.ofString "__doc__")) (Value.str (.ofString "__doc__") 229) (Value.builtin "_frozen_\x69mportlib.ModuleSpec.__doc__:str#opaque"), DictEntry.mk (PyData.keyHash P (.ofString "__init__")) (Value.str (.ofString "__init__") 230) (Value.builtin "_frozen_\x69mportlib.ModuleSpec.__init__#opaque"), DictEntry.mk (PyData.keyHash P (.ofString "__repr__")) (Value.str (.ofString "__repr__") 231) (Value.builtin "_frozen_\x69mportlib.ModuleSpec.__repr__#opaque"), DictEntry.mk (PyData.keyHash P (.ofString "__eq__")) (Value.str (.ofString "__eq__") 232) (Value.builtin "_frozen_\x69mportlib.ModuleSpec.__eq__#opaque"), DictEntry.mk (PyData.keyHash P (.ofString "cached")) (Value.str (.ofString "cached") 233) (Value.builtin "_frozen_\x69mportlib.ModuleSpec.cached#opaque"), DictEntry.mk (PyData.keyHash P (.ofString "parent")) (Value.str (.ofString "parent") 234) (Value.builtin "_frozen_\x69mportlib.ModuleSpec.parent#opaque"), DictEntry.mk (PyData.keyHash P (.ofString "has_location")) (Value.str (.ofString "has_location") 235) (Value.builtin "_frozen_\x69mportlib.ModuleSpec.has_location#opaque"), DictEntry.mk (PyData.keyHash P (.ofString "__static_attributes__")) (Value.str (.ofString "__static_attributes__") 236) (Value.ref 23), DictEntry.mk (PyData.keyHash P (.ofString "__dict__")) (Value.str (.ofString "__dict__") 238) (Value.ref 24), DictEntry.mk (PyData.keyHash P (.ofString "__weakref__")) (Value.str (.ofString "__weakref__") 240) (Value.ref 25), DictEntry.mk (PyData.keyHash P (.ofString "__hash__")) (Value.str (.ofString "__hash__") 241) Value.none] 13) #[]
noncomputable abbrev ob22_22 (P : Params) : Obj := Obj.mk (Value.type "type") none (Data.cls (ClassData.mk (.ofString "ModuleSpec") [Value.type "object"] [Value.ref 22, Value.type "object"] 21 (.ofString "ModuleSpec") Bool.true [] [] Bool.false none Bool.false)) #[]
noncomputable abbrev ob23_23 (P : Params) : Obj := Obj.mk (Value.type "tuple") none (Data.seq #[Value.str (.ofString "_cached") 219, Value.str (.ofString "_set_fileattr") 220, Value.str (.ofString "_uninitialized_submodules") 221, Value.str (.ofString "loader") 222, Value.str (.ofString "loader_state") 223, Value.str (.ofString "name") 224, Value.str (.ofString "origin") 225, Value.str (.ofString "submodule_search_locations") 226] 0) #[]
noncomputable abbrev ob24_24 (P : Params) : Obj := Obj.mk (Value.type "getset_descriptor") none (Data.fields #[Value.str (.ofString "__dict__") 237, Value.ref 22, Value.builtin "function.__dict__", Value.builtin "function.__dict__#set"]) #[]
noncomputable abbrev ob25_25 (P : Params) : Obj := Obj.mk (Value.type "getset_descriptor") none (Data.fields #[Value.str (.ofString "__weakref__") 239, Value.ref 22, Value.builtin "ExceptionGroup.__weakref__", Value.none]) #[]
noncomputable abbrev ob26_26 (P : Params) : Obj := Obj.mk (Value.ref 22) (some 20) Data.plain #[]
noncomputable abbrev ob27_27 (P : Params) : Obj := Obj.mk Value.none none (Data.seq #[Value.int (OfNat.ofNat (α := Int) 11) 0, Value.str (Str.mk #[6, 247, 8, 95, 95, 110, 97, 109, 101, 95, 95, 6, 246, 4, 95, 115, 114, 101, 6, 248, 7, 95, 95, 100, 111, 99, 95, 95, 0, 6, 250, 11, 95, 95, 112, 97, 99, 107, 97, 103, 101, 95, 95, 6, 249, 0, 6, 251, 10, 95, 95, 108, 111, 97, 100, 101, 114, 95, 95, 4, 0, 0, 14, 6, 252, 8, 95, 95, 115, 112, 101, 99, 95, 95, 4, 0, 0, 26, 6, 253, 7, 99, 111, 109, 112, 105, 108, 101, 9, 12, 95, 115, 114, 101, 46, 99, 111, 109, 112, 105, 108, 101, 6, 254, 8, 116, 101, 109, 112, 108, 97, 116, 101, 9, 13, 95, 115, 114, 101, 46, 116, 101, 109, 112, 108, 97, 116, 101, 6, 255, 11, 103, 101, 116, 99, 111, 100, 101, 115, 105, 122, 101, 9, 16, 95, 115, 114, 101, 46, 103, 101, 116, 99, 111, 100, 101, 115, 105, 122, 101, 6, 256, 13, 97, 115, 99, 105, 105, 95, 105, 115, 99, 97, 115, 101, 100, 9, 18, 95, 115, 114, 101, 46, 97, 115, 99, 105, 105, 95, 105, 115, 99, 97, 115, 101, 100, 6, 257, 15, 117, 110, 105, 99, 111, 100, 101, 95, 105, 115, 99, 97, 115, 101, 100, 9, 20, 95, 115, 114, 101, 46, 117, 110, 105, 99, 111, 100, 101, 95, 105, 115, 99, 97, 115, 101, 100, 6, 258, 13, 97, 115, 99, 105, 105, 95, 116, 111, 108, 111, 119, 101, 114, 9, 18, 95, 115, 114, 101, 46, 97, 115, 99, 105, 105, 95, 116, 111, 108, 111, 119, 101, 114, 6, 259, 15, 117, 110, 105, 99, 111, 100, 101, 95, 116, 111, 108, 111, 119, 101, 114, 9, 20, 95, 115, 114, 101, 46, 117, 110, 105, 99, 111, 100, 101, 95, 116, 111, 108, 111, 119, 101, 114, 6, 261, 5, 77, 65, 71, 73, 67, 4, 260, 0, 20230612, 6, 263, 8, 67, 79, 68, 69, 83, 73, 90, 69, 4, 262, 0, 4, 6, 265, 9, 77, 65, 88, 82, 69, 80, 69, 65, 84, 4, 264, 0, 4294967295, 6, 267, 9, 77, 65, 88, 71, 82, 79, 85, 80, 83, 4, 266, 0, 1073741823, 6, 269, 9, 99, 111, 112, 121, 114, 105, 103, 104, 116, 6, 268, 53, 32, 83, 82, 69, 32, 50, 46, 50, 46, 50, 32, 67, 111, 112, 121, 114, 105, 103, 104, 116, 32, 40, 99, 41, 32, 49, 57, 57, 55, 45, 50, 48, 48, 50, 32, 98, 121, 32, 83, 101, 99, 114, 101, 116, 32, 76, 97, 98, 115, 32, 65, 66, 32]) 0, Value.bool Bool.true, Value.bool Bool.false, Value.str (.ofString "_sre") 271] 0) #[]
noncomputable abbrev ob28_28 (P : Params) : Obj := Obj.mk (Value.type "tuple") none (Data.seq #[] 0) #[]
noncomputable abbrev ob29_29 (P : Params) : Obj := Obj.mk Value.none none (Data.fields #[]) #[]
noncomputable abbrev ob30_30 (P : Params) : Obj := Obj.mk (Value.type "code") none (Data.fields #[Value.str (.ofString "<module>") 277, Value.str (.ofString "<module>") 278, Value.str (.ofString "/claim/cut.py") 279, Value.int (OfNat.ofNat (α := Int) 1) 0, Value.int (OfNat.ofNat (α := Int) 0) 0, Value.int (OfNat.ofNat (α := Int) 0) 0, Value.int (OfNat.ofNat (α := Int) 0) 0, Value.int (OfNat.ofNat (α := Int) 0) 0, Value.ref 28, Value.bool Bool.false, Value.int (OfNat.ofNat (α := Int) 276) 0, Value.ref 29, Value.none, Value.none, Value.none, Value.none, Value.int (OfNat.ofNat (α := Int) 280) 0, Value.int (OfNat.ofNat (α := Int) 1) 0, Value.str (.ofString "/claim/cut.py") 281]) #[]
noncomputable abbrev ob31_31 (P : Params) : Obj := Obj.mk (Value.type "frame") none Data.plain #[some (Value.ref 30), some (Value.ref 3), some (Value.ref 3), none, some (Value.str (.ofString "__main__") 164), none, some (Value.ref 0)]
noncomputable abbrev ob2_32 (P : Params) : Obj := Obj.mk Value.none none (Data.dict #[DictEntry.mk (PyData.keyHash P (.ofString "\x69mport.loaded._sre")) (Value.str (.ofString "\x69mport.loaded._sre") 183) (Value.bool Bool.true), DictEntry.mk (PyData.keyHash P (.ofString "class._frozen_\x69mportlib.BuiltinImporter")) (Value.str (.ofString "class._frozen_\x69mportlib.BuiltinImporter") 185) (Value.ref 14), DictEntry.mk (PyData.keyHash P (.ofString "watched.\x69mport")) (Value.str (.ofString "watched.\x69mport") 206) (Value.ref 18), DictEntry.mk (PyData.keyHash P (.ofString "class._frozen_\x69mportlib.ModuleSpec")) (Value.str (.ofString "class._frozen_\x69mportlib.ModuleSpec") 216) (Value.ref 22), DictEntry.mk (PyData.keyHash P (.ofString "sys.modules.booked-epoch")) (Value.str (.ofString "sys.modules.booked-epoch") 245) (Value.int (OfNat.ofNat (α := Int) 3) 0), DictEntry.mk (PyData.keyHash P (.ofString "\x69mport.later-laid._sre")) (Value.str (.ofString "\x69mport.later-laid._sre") 270) (Value.bool Bool.true), DictEntry.mk (PyData.keyHash P (.ofString "watched.library")) (Value.str (.ofString "watched.library") 272) (Value.ref 27), DictEntry.mk (PyData.keyHash P (.ofString "watched.library-objects")) (Value.str (.ofString "watched.library-objects") 0) (Value.str (.ofString "\x0c") 0), DictEntry.mk (PyData.keyHash P (.ofString "watched.library-deep._sre")) (Value.str (.ofString "watched.library-deep._sre") 273) (Value.str (.ofString "\x04\x00\x00\x0b\x04\x00\x00\x0b\x04\x00\x00\x03\x04\x00\x00\x0b\x08\x04dict\x02") 0), DictEntry.mk (PyData.keyHash P (.ofString "type.__subclasses__.Exception.0")) (Value.str (.ofString "type.__subclasses__.Exception.0") 300) (Value.int (OfNat.ofNat (α := Int) 41) 0), DictEntry.mk (PyData.keyHash P (.ofString "type.__subclasses__.Exception.n")) (Value.str (.ofString "type.__subclasses__.Exception.n") 301) (Value.int (OfNat.ofNat (α := Int) 1) 0)] 11) #[]
noncomputable abbrev ob3_33 (P : Params) : Obj := Obj.mk (Value.type "dict") none (Data.dict #[DictEntry.mk (PyData.keyHash P (.ofString "__name__")) (Value.str (.ofString "__name__") 165) (Value.str (.ofString "babel.plural") 282), DictEntry.mk (PyData.keyHash P (.ofString "__doc__")) (Value.str (.ofString "__doc__") 166) Value.none, DictEntry.mk (PyData.keyHash P (.ofString "__package__")) (Value.str (.ofString "__package__") 167) Value.none, DictEntry.mk (PyData.keyHash P (.ofString "__loader__")) (Value.str (.ofString "__loader__") 168) (Value.builtin "__main__.__loader__#opaque"), DictEntry.mk (PyData.keyHash P (.ofString "__spec__")) (Value.str (.ofString "__spec__") 169) Value.none, DictEntry.mk (PyData.keyHash P (.ofString "__annotations__")) (Value.str (.ofString "__annotations__") 170) (Value.ref 6), DictEntry.mk (PyData.keyHash P (.ofString "__builtins__")) (Value.str (.ofString "__builtins__") 171) (Value.ref 4), DictEntry.mk (PyData.keyHash P (.ofString "__file__")) (Value.str (.ofString "__file__") 173) (Value.str (.ofString "/claim/cut.py") 172), DictEntry.mk (PyData.keyHash P (.ofString "__cached__")) (Value.str (.ofString "__cached__") 174) Value.none, DictEntry.mk (PyData.keyHash P (.ofString "_sre")) (Value.str (.ofString "_sre") 275) (Value.ref 12), DictEntry.mk (PyData.keyHash P (.ofString "RuleError")) (Value.str (.ofString "RuleError") 303) (Value.ref 41)] 11) #[]
noncomputable abbrev ob29_34 (P : Params) : Obj := Obj.mk Value.none none (Data.fields #[Value.int (OfNat.ofNat (α := Int) 3) 0, Value.int (OfNat.ofNat (α := Int) 0) 0, Value.ref 37]) #[]
noncomputable abbrev ob32_35 (P : Params) : Obj := Obj.mk (Value.type "tuple") none (Data.seq #[Value.type "Exception"] 0) #[]
noncomputable abbrev ob33_36 (P : Params) : Obj := Obj.mk (Value.type "builtin_function_or_method") none (Data.fields #[Value.builtin "type.__prepare__", Value.type "type"]) #[]
noncomputable abbrev ob34_37 (P : Params) : Obj := Obj.mk (Value.type "dict") none (Data.dict #[DictEntry.mk (PyData.keyHash P (.ofString "__module__")) (Value.str (.ofString "__module__") 291) (Value.str (.ofString "babel.plural") 282), DictEntry.mk (PyData.keyHash P (.ofString "__qualname__")) (Value.str (.ofString "__qualname__") 293) (Value.str (.ofString "RuleError") 292), DictEntry.mk (PyData.keyHash P (.ofString "__firstlineno__")) (Value.str (.ofString "__firstlineno__") 295) (Value.int (OfNat.ofNat (α := Int) 3) 294), DictEntry.mk (PyData.keyHash P (.ofString "__static_attributes__")) (Value.str (.ofString "__static_attributes__") 296) (Value.ref 39)] 4) #[]
noncomputable abbrev ob35_38 (P : Params) : Obj := Obj.mk (Value.type "tuple") none (Data.seq #[] 0) #[]
noncomputable abbrev ob36_39 (P : Params) : Obj := Obj.mk Value.none none (Data.fields #[]) #[]
noncomputable abbrev ob37_40 (P : Params) : Obj := Obj.mk (Value.type "code") none (Data.fields #[Value.str (.ofString "RuleError") 286, Value.str (.ofString "RuleError") 287, Value.str (.ofString "/claim/cut.py") 288, Value.int (OfNat.ofNat (α := Int) 3) 0, Value.int (OfNat.ofNat (α := Int) 0) 0, Value.int (OfNat.ofNat (α := Int) 0) 0, Value.int (OfNat.ofNat (α := Int) 0) 0, Value.int (OfNat.ofNat (α := Int) 0) 0, Value.ref 35, Value.bool Bool.false, Value.int (OfNat.ofNat (α := Int) 276) 0, Value.ref 36, Value.none, Value.none, Value.none, Value.none, Value.int (OfNat.ofNat (α := Int) 289) 0, Value.int (OfNat.ofNat (α := Int) 3) 0, Value.str (.ofString "/claim/cut.py") 290]) #[]
noncomputable abbrev ob38_41 (P : Params) : Obj := Obj.mk (Value.type "frame") none Data.plain #[some (Value.ref 37), some (Value.ref 3), some (Value.ref 34), none, some (Value.str (.ofString "babel.plural") 282), none, some (Value.ref 0)]
noncomputable abbrev ob39_42 (P : Params) : Obj := Obj.mk (Value.type "tuple") none (Data.seq #[] 0) #[]
noncomputable abbrev ob40_43 (P : Params) : Obj := Obj.mk (Value.type "dict") none (Data.dict #[DictEntry.mk (PyData.keyHash P (.ofString "__module__")) (Value.str (.ofString "__module__") 291) (Value.str (.ofString "babel.plural") 282), DictEntry.mk (PyData.keyHash P (.ofString "__firstlineno__")) (Value.str (.ofString "__firstlineno__") 295) (Value.int (OfNat.ofNat (α := Int) 3) 294), DictEntry.mk (PyData.keyHash P (.ofString "__static_attributes__")) (Value.str (.ofString "__static_attributes__") 296) (Value.ref 39), DictEntry.mk (PyData.keyHash P (.ofString "__weakref__")) (Value.str (.ofString "__weakref__") 298) (Value.ref 42), DictEntry.mk (PyData.keyHash P (.ofString "__doc__")) (Value.str (.ofString "__doc__") 299) Value.none] 3) #[]
noncomputable abbrev ob41_44 (P : Params) : Obj := Obj.mk (Value.type "type") none (Data.cls (ClassData.mk (.ofString "RuleError") [Value.type "Exception"] [Value.ref 41, Value.type "Exception", Value.type "BaseException", Value.type "object"] 40 (.ofString "RuleError") Bool.true [] [] Bool.false none Bool.false)) #[some (Value.ref 32), none, some (Value.str (.ofString "RuleError") 284), some (Value.str (.ofString "RuleError") 292), some (Value.builtin "Exception.__new__"), some (Value.bool Bool.true)]
noncomputable abbrev ob42_45 (P : Params) : Obj := Obj.mk (Value.type "getset_descriptor") none (Data.fields #[Value.str (.ofString "__weakref__") 297, Value.ref 41, Value.builtin "ExceptionGroup.__weakref__", Value.none]) #[]
noncomputable abbrev ob43_46 (P : Params) : Obj := Obj.mk (Value.type "super") none (Data.fields #[Value.ref 41, Value.ref 41, Value.ref 41]) #[]
noncomputable abbrev ob44_47 (P : Params) : Obj := Obj.mk (Value.type "builtin_function_or_method") none (Data.fields #[Value.builtin "object.__init_subclass__", Value.ref 41]) #[]
noncomputable abbrev ob3_48 (P : Params) : Obj := Obj.mk (Value.type "dict") none (Data.dict #[DictEntry.mk (PyData.keyHash P (.ofString "__name__")) (Value.str (.ofString "__name__") 165) (Value.str (.ofString "babel.plural") 282), DictEntry.mk (PyData.keyHash P (.ofString "__doc__")) (Value.str (.ofString "__doc__") 166) Value.none, DictEntry.mk (PyData.keyHash P (.ofString "__package__")) (Value.str (.ofString "__package__") 167) Value.none, DictEntry.mk (PyData.keyHash P (.ofString "__loader__")) (Value.str (.ofString "__loader__") 168) (Value.builtin "__main__.__loader__#opaque"), DictEntry.mk (PyData.keyHash P (.ofString "__spec__")) (Value.str (.ofString "__spec__") 169) Value.none, DictEntry.mk (PyData.keyHash P (.ofString "__annotations__")) (Value.str (.ofString "__annotations__") 170) (Value.ref 6), DictEntry.mk (PyData.keyHash P (.ofString "__builtins__")) (Value.str (.ofString "__builtins__") 171) (Value.ref 4), DictEntry.mk (PyData.keyHash P (.ofString "__file__")) (Value.str (.ofString "__file__") 173) (Value.str (.ofString "/claim/cut.py") 172), DictEntry.mk (PyData.keyHash P (.ofString "__cached__")) (Value.str (.ofString "__cached__") 174) Value.none, DictEntry.mk (PyData.keyHash P (.ofString "_sre")) (Value.str (.ofString "_sre") 275) (Value.ref 12), DictEntry.mk (PyData.keyHash P (.ofString "RuleError")) (Value.str (.ofString "RuleError") 303) (Value.ref 41), DictEntry.mk (PyData.keyHash P (.ofString "_VARS")) (Value.str (.ofString "_VARS") 320) (Value.ref 45)] 12) #[]
noncomputable abbrev ob3_49 (P : Params) : Obj := Obj.mk (Value.type "dict") none (Data.dict #[DictEntry.mk (PyData.keyHash P (.ofString "__name__")) (Value.str (.ofString "__name__") 165) (Value.str (.ofString "babel.plural") 282), DictEntry.mk (PyData.keyHash P (.ofString "__doc__")) (Value.str (.ofString "__doc__") 166) Value.none, DictEntry.mk (PyData.keyHash P (.ofString "__package__")) (Value.str (.ofString "__package__") 167) Value.none, DictEntry.mk (PyData.keyHash P (.ofString "__loader__")) (Value.str (.ofString "__loader__") 168) (Value.builtin "__main__.__loader__#opaque"), DictEntry.mk (PyData.keyHash P (.ofString "__spec__")) (Value.str (.ofString "__spec__") 169) Value.none, DictEntry.mk (PyData.keyHash P (.ofString "__annotations__")) (Value.str (.ofString "__annotations__") 170) (Value.ref 6), DictEntry.mk (PyData.keyHash P (.ofString "__builtins__")) (Value.str (.ofString "__builtins__") 171) (Value.ref 4), DictEntry.mk (PyData.keyHash P (.ofString "__file__")) (Value.str (.ofString "__file__") 173) (Value.str (.ofString "/claim/cut.py") 172), DictEntry.mk (PyData.keyHash P (.ofString "__cached__")) (Value.str (.ofString "__cached__") 174) Value.none, DictEntry.mk (PyData.keyHash P (.ofString "_sre")) (Value.str (.ofString "_sre") 275) (Value.ref 12), DictEntry.mk (PyData.keyHash P (.ofString "RuleError")) (Value.str (.ofString "RuleError") 303) (Value.ref 41), DictEntry.mk (PyData.keyHash P (.ofString "_VARS")) (Value.str (.ofString "_VARS") 320) (Value.ref 45), DictEntry.mk (PyData.keyHash P (.ofString "_RULES")) (Value.str (.ofString "_RULES") 526) (Value.ref 50)] 13) #[]
noncomputable abbrev ob46_50 (P : Params) : Obj := Obj.mk (Value.type "list") none (Data.seq #[Value.int (OfNat.ofNat (α := Int) 14) 324, Value.int (OfNat.ofNat (α := Int) 4) 325, Value.int (OfNat.ofNat (α := Int) 0) 326, Value.int (OfNat.ofNat (α := Int) 1) 327, Value.int (OfNat.ofNat (α := Int) 4294967295) 328, Value.int (OfNat.ofNat (α := Int) 7) 329, Value.int (OfNat.ofNat (α := Int) 13) 330, Value.int (OfNat.ofNat (α := Int) 24) 331, Value.int (OfNat.ofNat (α := Int) 9) 332, Value.int (OfNat.ofNat (α := Int) 1) 333, Value.int (OfNat.ofNat (α := Int) 4294967295) 334, Value.int (OfNat.ofNat (α := Int) 13) 335, Value.int (OfNat.ofNat (α := Int) 4) 336, Value.int (OfNat.ofNat (α := Int) 8) 337, Value.int (OfNat.ofNat (α := Int) 12) 338, Value.int (OfNat.ofNat (α := Int) 0) 339, Value.int (OfNat.ofNat (α := Int) 1) 340, Value.int (OfNat.ofNat (α := Int) 15) 341, Value.int (OfNat.ofNat (α := Int) 181) 342, Value.int (OfNat.ofNat (α := Int) 94) 343, Value.int (OfNat.ofNat (α := Int) 17) 344, Value.int (OfNat.ofNat (α := Int) 0) 345, Value.int (OfNat.ofNat (α := Int) 7) 346, Value.int (OfNat.ofNat (α := Int) 9) 347, Value.int (OfNat.ofNat (α := Int) 16) 348, Value.int (OfNat.ofNat (α := Int) 97) 349, Value.int (OfNat.ofNat (α := Int) 16) 350, Value.int (OfNat.ofNat (α := Int) 110) 351, Value.int (OfNat.ofNat (α := Int) 16) 352, Value.int (OfNat.ofNat (α := Int) 100) 353, Value.int (OfNat.ofNat (α := Int) 15) 354, Value.int (OfNat.ofNat (α := Int) 69) 355, Value.int (OfNat.ofNat (α := Int) 7) 356, Value.int (OfNat.ofNat (α := Int) 16) 357, Value.int (OfNat.ofNat (α := Int) 111) 358, Value.int (OfNat.ofNat (α := Int) 16) 359, Value.int (OfNat.ofNat (α := Int) 114) 360, Value.int (OfNat.ofNat (α := Int) 15) 361, Value.int (OfNat.ofNat (α := Int) 62) 362, Value.int (OfNat.ofNat (α := Int) 7) 363, Value.int (OfNat.ofNat (α := Int) 16) 364, Value.int (OfNat.ofNat (α := Int) 105) 365, Value.int (OfNat.ofNat (α := Int) 16) 366, Value.int (OfNat.ofNat (α := Int) 115) 367, Value.int (OfNat.ofNat (α := Int) 15) 368, Value.int (OfNat.ofNat (α := Int) 55) 369, Value.int (OfNat.ofNat (α := Int) 20) 370, Value.int (OfNat.ofNat (α := Int) 23) 371, Value.int (OfNat.ofNat (α := Int) 11) 372, Value.int (OfNat.ofNat (α := Int) 0) 373, Value.int (OfNat.ofNat (α := Int) 1) 374, Value.int (OfNat.ofNat (α := Int) 16) 375, Value.int (OfNat.ofNat (α := Int) 119) 376, Value.int (OfNat.ofNat (α := Int) 16) 377, Value.int (OfNat.ofNat (α := Int) 105) 378, Value.int (OfNat.ofNat (α := Int) 16) 379, Value.int (OfNat.ofNat (α := Int) 116) 380, Value.int (OfNat.ofNat (α := Int) 16) 381, Value.int (OfNat.ofNat (α := Int) 104) 382, Value.int (OfNat.ofNat (α := Int) 18) 383, Value.int (OfNat.ofNat (α := Int) 16) 384, Value.int (OfNat.ofNat (α := Int) 105) 385, Value.int (OfNat.ofNat (α := Int) 16) 386, Value.int (OfNat.ofNat (α := Int) 110) 387, Value.int (OfNat.ofNat (α := Int) 15) 388, Value.int (OfNat.ofNat (α := Int) 35) 389, Value.int (OfNat.ofNat (α := Int) 9) 390, Value.int (OfNat.ofNat (α := Int) 16) 391, Value.int (OfNat.ofNat (α := Int) 110) 392, Value.int (OfNat.ofNat (α := Int) 16) 393, Value.int (OfNat.ofNat (α := Int) 111) 394, Value.int (OfNat.ofNat (α := Int) 16) 395, Value.int (OfNat.ofNat (α := Int) 116) 396, Value.int (OfNat.ofNat (α := Int) 15) 397, Value.int (OfNat.ofNat (α := Int) 26) 398, Value.int (OfNat.ofNat (α := Int) 9) 399, Value.int (OfNat.ofNat (α := Int) 16) 400, Value.int (OfNat.ofNat (α := Int) 109) 401, Value.int (OfNat.ofNat (α := Int) 16) 402, Value.int (OfNat.ofNat (α := Int) 111) 403, Value.int (OfNat.ofNat (α := Int) 16) 404, Value.int (OfNat.ofNat (α := Int) 100) 405, Value.int (OfNat.ofNat (α := Int) 15) 406, Value.int (OfNat.ofNat (α := Int) 17) 407, Value.int (OfNat.ofNat (α := Int) 15) 408, Value.int (OfNat.ofNat (α := Int) 13) 409, Value.int (OfNat.ofNat (α := Int) 11) 410, Value.int (OfNat.ofNat (α := Int) 9) 411, Value.int (OfNat.ofNat (α := Int) 0) 412, Value.int (OfNat.ofNat (α := Int) 0) 413, Value.int (OfNat.ofNat (α := Int) 0) 414, Value.int (OfNat.ofNat (α := Int) 13648488) 415, Value.int (OfNat.ofNat (α := Int) 0) 416, Value.int (OfNat.ofNat (α := Int) 0) 417, Value.int (OfNat.ofNat (α := Int) 0) 418, Value.int (OfNat.ofNat (α := Int) 0) 419, Value.int (OfNat.ofNat (α := Int) 0) 420, Value.int (OfNat.ofNat (α := Int) 15) 421, Value.int (OfNat.ofNat (α := Int) 2) 422, Value.int (OfNat.ofNat (α := Int) 0) 423, Value.int (OfNat.ofNat (α := Int) 17) 424, Value.int (OfNat.ofNat (α := Int) 1) 425, Value.int (OfNat.ofNat (α := Int) 5) 426, Value.int (OfNat.ofNat (α := Int) 8) 427, Value.int (OfNat.ofNat (α := Int) 0) 428, Value.int (OfNat.ofNat (α := Int) 13) 429, Value.int (OfNat.ofNat (α := Int) 4) 430, Value.int (OfNat.ofNat (α := Int) 8) 431, Value.int (OfNat.ofNat (α := Int) 14) 432, Value.int (OfNat.ofNat (α := Int) 0) 433, Value.int (OfNat.ofNat (α := Int) 1) 434, Value.int (OfNat.ofNat (α := Int) 15) 435, Value.int (OfNat.ofNat (α := Int) 87) 436, Value.int (OfNat.ofNat (α := Int) 26) 437, Value.int (OfNat.ofNat (α := Int) 17) 438, Value.int (OfNat.ofNat (α := Int) 2) 439, Value.int (OfNat.ofNat (α := Int) 24) 440, Value.int (OfNat.ofNat (α := Int) 9) 441, Value.int (OfNat.ofNat (α := Int) 1) 442, Value.int (OfNat.ofNat (α := Int) 4294967295) 443, Value.int (OfNat.ofNat (α := Int) 13) 444, Value.int (OfNat.ofNat (α := Int) 4) 445, Value.int (OfNat.ofNat (α := Int) 8) 446, Value.int (OfNat.ofNat (α := Int) 10) 447, Value.int (OfNat.ofNat (α := Int) 0) 448, Value.int (OfNat.ofNat (α := Int) 1) 449, Value.int (OfNat.ofNat (α := Int) 17) 450, Value.int (OfNat.ofNat (α := Int) 3) 451, Value.int (OfNat.ofNat (α := Int) 5) 452, Value.int (OfNat.ofNat (α := Int) 8) 453, Value.int (OfNat.ofNat (α := Int) 0) 454, Value.int (OfNat.ofNat (α := Int) 13) 455, Value.int (OfNat.ofNat (α := Int) 4) 456, Value.int (OfNat.ofNat (α := Int) 8) 457, Value.int (OfNat.ofNat (α := Int) 14) 458, Value.int (OfNat.ofNat (α := Int) 0) 459, Value.int (OfNat.ofNat (α := Int) 1) 460, Value.int (OfNat.ofNat (α := Int) 15) 461, Value.int (OfNat.ofNat (α := Int) 61) 462, Value.int (OfNat.ofNat (α := Int) 31) 463, Value.int (OfNat.ofNat (α := Int) 17) 464, Value.int (OfNat.ofNat (α := Int) 4) 465, Value.int (OfNat.ofNat (α := Int) 7) 466, Value.int (OfNat.ofNat (α := Int) 5) 467, Value.int (OfNat.ofNat (α := Int) 16) 468, Value.int (OfNat.ofNat (α := Int) 37) 469, Value.int (OfNat.ofNat (α := Int) 15) 470, Value.int (OfNat.ofNat (α := Int) 19) 471, Value.int (OfNat.ofNat (α := Int) 5) 472, Value.int (OfNat.ofNat (α := Int) 16) 473, Value.int (OfNat.ofNat (α := Int) 44) 474, Value.int (OfNat.ofNat (α := Int) 15) 475, Value.int (OfNat.ofNat (α := Int) 14) 476, Value.int (OfNat.ofNat (α := Int) 7) 477, Value.int (OfNat.ofNat (α := Int) 16) 478, Value.int (OfNat.ofNat (α := Int) 33) 479, Value.int (OfNat.ofNat (α := Int) 16) 480, Value.int (OfNat.ofNat (α := Int) 61) 481, Value.int (OfNat.ofNat (α := Int) 15) 482, Value.int (OfNat.ofNat (α := Int) 7) 483, Value.int (OfNat.ofNat (α := Int) 5) 484, Value.int (OfNat.ofNat (α := Int) 16) 485, Value.int (OfNat.ofNat (α := Int) 61) 486, Value.int (OfNat.ofNat (α := Int) 15) 487, Value.int (OfNat.ofNat (α := Int) 2) 488, Value.int (OfNat.ofNat (α := Int) 0) 489, Value.int (OfNat.ofNat (α := Int) 17) 490, Value.int (OfNat.ofNat (α := Int) 5) 491, Value.int (OfNat.ofNat (α := Int) 15) 492, Value.int (OfNat.ofNat (α := Int) 30) 493, Value.int (OfNat.ofNat (α := Int) 28) 494, Value.int (OfNat.ofNat (α := Int) 17) 495, Value.int (OfNat.ofNat (α := Int) 6) 496, Value.int (OfNat.ofNat (α := Int) 7) 497, Value.int (OfNat.ofNat (α := Int) 14) 498, Value.int (OfNat.ofNat (α := Int) 16) 499, Value.int (OfNat.ofNat (α := Int) 46) 500, Value.int (OfNat.ofNat (α := Int) 16) 501, Value.int (OfNat.ofNat (α := Int) 46) 502, Value.int (OfNat.ofNat (α := Int) 24) 503, Value.int (OfNat.ofNat (α := Int) 6) 504, Value.int (OfNat.ofNat (α := Int) 0) 505, Value.int (OfNat.ofNat (α := Int) 1) 506, Value.int (OfNat.ofNat (α := Int) 16) 507, Value.int (OfNat.ofNat (α := Int) 46) 508, Value.int (OfNat.ofNat (α := Int) 1) 509, Value.int (OfNat.ofNat (α := Int) 15) 510, Value.int (OfNat.ofNat (α := Int) 7) 511, Value.int (OfNat.ofNat (α := Int) 5) 512, Value.int (OfNat.ofNat (α := Int) 16) 513, Value.int (OfNat.ofNat (α := Int) 8230) 514, Value.int (OfNat.ofNat (α := Int) 15) 515, Value.int (OfNat.ofNat (α := Int) 2) 516, Value.int (OfNat.ofNat (α := Int) 0) 517, Value.int (OfNat.ofNat (α := Int) 17) 518, Value.int (OfNat.ofNat (α := Int) 7) 519, Value.int (OfNat.ofNat (α := Int) 15) 520, Value.int (OfNat.ofNat (α := Int) 2) 521, Value.int (OfNat.ofNat (α := Int) 0) 522, Value.int (OfNat.ofNat (α := Int) 1) 523] 0) #[]
noncomputable abbrev ob47_51 (P : Params) : Obj := Obj.mk (Value.type "dict") none (Data.dict #[] 0) #[]
noncomputable abbrev ob48_52 (P : Params) : Obj := Obj.mk (Value.type "tuple") none (Data.seq #[Value.none, Value.none, Value.none, Value.none, Value.none] 0) #[]
noncomputable abbrev ob49_53 (P : Params) : Obj := Obj.mk (Value.type "tuple") none (Data.seq #[Value.int (OfNat.ofNat (α := Int) 14) 0, Value.int (OfNat.ofNat (α := Int) 4) 0, Value.int (OfNat.ofNat (α := Int) 0) 0, Value.int (OfNat.ofNat (α := Int) 1) 0, Value.int (OfNat.ofNat (α := Int) 4294967295) 0, Value.int (OfNat.ofNat (α := Int) 7) 0, Value.int (OfNat.ofNat (α := Int) 13) 0, Value.int (OfNat.ofNat (α := Int) 24) 0, Value.int (OfNat.ofNat (α := Int) 9) 0, Value.int (OfNat.ofNat (α := Int) 1) 0, Value.int (OfNat.ofNat (α := Int) 4294967295) 0, Value.int (OfNat.ofNat (α := Int) 13) 0, Value.int (OfNat.ofNat (α := Int) 4) 0, Value.int (OfNat.ofNat (α := Int) 8) 0, Value.int (OfNat.ofNat (α := Int) 12) 0, Value.int (OfNat.ofNat (α := Int) 0) 0, Value.int (OfNat.ofNat (α := Int) 1) 0, Value.int (OfNat.ofNat (α := Int) 15) 0, Value.int (OfNat.ofNat (α := Int) 181) 0, Value.int (OfNat.ofNat (α := Int) 94) 0, Value.int (OfNat.ofNat (α := Int) 17) 0, Value.int (OfNat.ofNat (α := Int) 0) 0, Value.int (OfNat.ofNat (α := Int) 7) 0, Value.int (OfNat.ofNat (α := Int) 9) 0, Value.int (OfNat.ofNat (α := Int) 16) 0, Value.int (OfNat.ofNat (α := Int) 97) 0, Value.int (OfNat.ofNat (α := Int) 16) 0, Value.int (OfNat.ofNat (α := Int) 110) 0, Value.int (OfNat.ofNat (α := Int) 16) 0, Value.int (OfNat.ofNat (α := Int) 100) 0, Value.int (OfNat.ofNat (α := Int) 15) 0, Value.int (OfNat.ofNat (α := Int) 69) 0, Value.int (OfNat.ofNat (α := Int) 7) 0, Value.int (OfNat.ofNat (α := Int) 16) 0, Value.int (OfNat.ofNat (α := Int) 111) 0, Value.int (OfNat.ofNat (α := Int) 16) 0, Value.int (OfNat.ofNat (α := Int) 114) 0, Value.int (OfNat.ofNat (α := Int) 15) 0, Value.int (OfNat.ofNat (α := Int) 62) 0, Value.int (OfNat.ofNat (α := Int) 7) 0, Value.int (OfNat.ofNat (α := Int) 16) 0, Value.int (OfNat.ofNat (α := Int) 105) 0, Value.int (OfNat.ofNat (α := Int) 16) 0, Value.int (OfNat.ofNat (α := Int) 115) 0, Value.int (OfNat.ofNat (α := Int) 15) 0, Value.int (OfNat.ofNat (α := Int) 55) 0, Value.int (OfNat.ofNat (α := Int) 20) 0, Value.int (OfNat.ofNat (α := Int) 23) 0, Value.int (OfNat.ofNat (α := Int) 11) 0, Value.int (OfNat.ofNat (α := Int) 0) 0, Value.int (OfNat.ofNat (α := Int) 1) 0, Value.int (OfNat.ofNat (α := Int) 16) 0, Value.int (OfNat.ofNat (α := Int) 119) 0, Value.int (OfNat.ofNat (α := Int) 16) 0, Value.int (OfNat.ofNat (α := Int) 105) 0, Value.int (OfNat.ofNat (α := Int) 16) 0, Value.int (OfNat.ofNat (α := Int) 116) 0, Value.int (OfNat.ofNat (α := Int) 16) 0, Value.int (OfNat.ofNat (α := Int) 104) 0, Value.int (OfNat.ofNat (α := Int) 18) 0, Value.int (OfNat.ofNat (α := Int) 16) 0, Value.int (OfNat.ofNat (α := Int) 105) 0, Value.int (OfNat.ofNat (α := Int) 16) 0, Value.int (OfNat.ofNat (α := Int) 110) 0, Value.int (OfNat.ofNat (α := Int) 15) 0, Value.int (OfNat.ofNat (α := Int) 35) 0, Value.int (OfNat.ofNat (α := Int) 9) 0, Value.int (OfNat.ofNat (α := Int) 16) 0, Value.int (OfNat.ofNat (α := Int) 110) 0, Value.int (OfNat.ofNat (α := Int) 16) 0, Value.int (OfNat.ofNat (α := Int) 111) 0, Value.int (OfNat.ofNat (α := Int) 16) 0, Value.int (OfNat.ofNat (α := Int) 116) 0, Value.int (OfNat.ofNat (α := Int) 15) 0, Value.int (OfNat.ofNat (α := Int) 26) 0, Value.int (OfNat.ofNat (α := Int) 9) 0, Value.int (OfNat.ofNat (α := Int) 16) 0, Value.int (OfNat.ofNat (α := Int) 109) 0, Value.int (OfNat.ofNat (α := Int) 16) 0, Value.int (OfNat.ofNat (α := Int) 111) 0, Value.int (OfNat.ofNat (α := Int) 16) 0, Value.int (OfNat.ofNat (α := Int) 100) 0, Value.int (OfNat.ofNat (α := Int) 15) 0, Value.int (OfNat.ofNat (α := Int) 17) 0, Value.int (OfNat.ofNat (α := Int) 15) 0, Value.int (OfNat.ofNat (α := Int) 13) 0, Value.int (OfNat.ofNat (α := Int) 11) 0, Value.int (OfNat.ofNat (α := Int) 9) 0, Value.int (OfNat.ofNat (α := Int) 0) 0, Value.int (OfNat.ofNat (α := Int) 0) 0, Value.int (OfNat.ofNat (α := Int) 0) 0, Value.int (OfNat.ofNat (α := Int) 13648488) 0, Value.int (OfNat.ofNat (α := Int) 0) 0, Value.int (OfNat.ofNat (α := Int) 0) 0, Value.int (OfNat.ofNat (α := Int) 0) 0, Value.int (OfNat.ofNat (α := Int) 0) 0, Value.int (OfNat.ofNat (α := Int) 0) 0, Value.int (OfNat.ofNat (α := Int) 15) 0, Value.int (OfNat.ofNat (α := Int) 2) 0, Value.int (OfNat.ofNat (α := Int) 0) 0, Value.int (OfNat.ofNat (α := Int) 17) 0, Value.int (OfNat.ofNat (α := Int) 1) 0, Value.int (OfNat.ofNat (α := Int) 5) 0, Value.int (OfNat.ofNat (α := Int) 8) 0, Value.int (OfNat.ofNat (α := Int) 0) 0, Value.int (OfNat.ofNat (α := Int) 13) 0, Value.int (OfNat.ofNat (α := Int) 4) 0, Value.int (OfNat.ofNat (α := Int) 8) 0, Value.int (OfNat.ofNat (α := Int) 14) 0, Value.int (OfNat.ofNat (α := Int) 0) 0, Value.int (OfNat.ofNat (α := Int) 1) 0, Value.int (OfNat.ofNat (α := Int) 15) 0, Value.int (OfNat.ofNat (α := Int) 87) 0, Value.int (OfNat.ofNat (α := Int) 26) 0, Value.int (OfNat.ofNat (α := Int) 17) 0, Value.int (OfNat.ofNat (α := Int) 2) 0, Value.int (OfNat.ofNat (α := Int) 24) 0, Value.int (OfNat.ofNat (α := Int) 9) 0, Value.int (OfNat.ofNat (α := Int) 1) 0, Value.int (OfNat.ofNat (α := Int) 4294967295) 0, Value.int (OfNat.ofNat (α := Int) 13) 0, Value.int (OfNat.ofNat (α := Int) 4) 0, Value.int (OfNat.ofNat (α := Int) 8) 0, Value.int (OfNat.ofNat (α := Int) 10) 0, Value.int (OfNat.ofNat (α := Int) 0) 0, Value.int (OfNat.ofNat (α := Int) 1) 0, Value.int (OfNat.ofNat (α := Int) 17) 0, Value.int (OfNat.ofNat (α := Int) 3) 0, Value.int (OfNat.ofNat (α := Int) 5) 0, Value.int (OfNat.ofNat (α := Int) 8) 0, Value.int (OfNat.ofNat (α := Int) 0) 0, Value.int (OfNat.ofNat (α := Int) 13) 0, Value.int (OfNat.ofNat (α := Int) 4) 0, Value.int (OfNat.ofNat (α := Int) 8) 0, Value.int (OfNat.ofNat (α := Int) 14) 0, Value.int (OfNat.ofNat (α := Int) 0) 0, Value.int (OfNat.ofNat (α := Int) 1) 0, Value.int (OfNat.ofNat (α := Int) 15) 0, Value.int (OfNat.ofNat (α := Int) 61) 0, Value.int (OfNat.ofNat (α := Int) 31) 0, Value.int (OfNat.ofNat (α := Int) 17) 0, Value.int (OfNat.ofNat (α := Int) 4) 0, Value.int (OfNat.ofNat (α := Int) 7) 0, Value.int (OfNat.ofNat (α := Int) 5) 0, Value.int (OfNat.ofNat (α := Int) 16) 0, Value.int (OfNat.ofNat (α := Int) 37) 0, Value.int (OfNat.ofNat (α := Int) 15) 0, Value.int (OfNat.ofNat (α := Int) 19) 0, Value.int (OfNat.ofNat (α := Int) 5) 0, Value.int (OfNat.ofNat (α := Int) 16) 0, Value.int (OfNat.ofNat (α := Int) 44) 0, Value.int (OfNat.ofNat (α := Int) 15) 0, Value.int (OfNat.ofNat (α := Int) 14) 0, Value.int (OfNat.ofNat (α := Int) 7) 0, Value.int (OfNat.ofNat (α := Int) 16) 0, Value.int (OfNat.ofNat (α := Int) 33) 0, Value.int (OfNat.ofNat (α := Int) 16) 0, Value.int (OfNat.ofNat (α := Int) 61) 0, Value.int (OfNat.ofNat (α := Int) 15) 0, Value.int (OfNat.ofNat (α := Int) 7) 0, Value.int (OfNat.ofNat (α := Int) 5) 0, Value.int (OfNat.ofNat (α := Int) 16) 0, Value.int (OfNat.ofNat (α := Int) 61) 0, Value.int (OfNat.ofNat (α := Int) 15) 0, Value.int (OfNat.ofNat (α := Int) 2) 0, Value.int (OfNat.ofNat (α := Int) 0) 0, Value.int (OfNat.ofNat (α := Int) 17) 0, Value.int (OfNat.ofNat (α := Int) 5) 0, Value.int (OfNat.ofNat (α := Int) 15) 0, Value.int (OfNat.ofNat (α := Int) 30) 0, Value.int (OfNat.ofNat (α := Int) 28) 0, Value.int (OfNat.ofNat (α := Int) 17) 0, Value.int (OfNat.ofNat (α := Int) 6) 0, Value.int (OfNat.ofNat (α := Int) 7) 0, Value.int (OfNat.ofNat (α := Int) 14) 0, Value.int (OfNat.ofNat (α := Int) 16) 0, Value.int (OfNat.ofNat (α := Int) 46) 0, Value.int (OfNat.ofNat (α := Int) 16) 0, Value.int (OfNat.ofNat (α := Int) 46) 0, Value.int (OfNat.ofNat (α := Int) 24) 0, Value.int (OfNat.ofNat (α := Int) 6) 0, Value.int (OfNat.ofNat (α := Int) 0) 0, Value.int (OfNat.ofNat (α := Int) 1) 0, Value.int (OfNat.ofNat (α := Int) 16) 0, Value.int (OfNat.ofNat (α := Int) 46) 0, Value.int (OfNat.ofNat (α := Int) 1) 0, Value.int (OfNat.ofNat (α := Int) 15) 0, Value.int (OfNat.ofNat (α := Int) 7) 0, Value.int (OfNat.ofNat (α := Int) 5) 0, Value.int (OfNat.ofNat (α := Int) 16) 0, Value.int (OfNat.ofNat (α := Int) 8230) 0, Value.int (OfNat.ofNat (α := Int) 15) 0, Value.int (OfNat.ofNat (α := Int) 2) 0, Value.int (OfNat.ofNat (α := Int) 0) 0, Value.int (OfNat.ofNat (α := Int) 17) 0, Value.int (OfNat.ofNat (α := Int) 7) 0, Value.int (OfNat.ofNat (α := Int) 15) 0, Value.int (OfNat.ofNat (α := Int) 2) 0, Value.int (OfNat.ofNat (α := Int) 0) 0, Value.int (OfNat.ofNat (α := Int) 1) 0] 0) #[]
noncomputable abbrev ob50_54 (P : Params) : Obj := Obj.mk (Value.type "re.Pattern") none (Data.fields #[Value.str (.ofString "\\s+|(and|or|is|(?:with)?in|not|mod|[nivwftce])(?!\\w)|(\\d+)(?!\\w)|(%|,|!=|=)|(\\.\\.\\.?|…)") 322, Value.int (OfNat.ofNat (α := Int) 32) 525, Value.int (OfNat.ofNat (α := Int) 4) 0, Value.none, Value.none, Value.ref 49, Value.int (OfNat.ofNat (α := Int) 0) 0]) #[]
noncomputable abbrev ob3_55 (P : Params) : Obj := Obj.mk (Value.type "dict") none (Data.dict #[DictEntry.mk (PyData.keyHash P (.ofString "__name__")) (Value.str (.ofString "__name__") 165) (Value.str (.ofString "babel.plural") 282), DictEntry.mk (PyData.keyHash P (.ofString "__doc__")) (Value.str (.ofString "__doc__") 166) Value.none, DictEntry.mk (PyData.keyHash P (.ofString "__package__")) (Value.str (.ofString "__package__") 167) Value.none, DictEntry.mk (PyData.keyHash P (.ofString "__loader__")) (Value.str (.ofString "__loader__") 168) (Value.builtin "__main__.__loader__#opaque"), DictEntry.mk (PyData.keyHash P (.ofString "__spec__")) (Value.str (.ofString "__spec__") 169) Value.none, DictEntry.mk (PyData.keyHash P (.ofString "__annotations__")) (Value.str (.ofString "__annotations__") 170) (Value.ref 6), DictEntry.mk (PyData.keyHash P (.ofString "__builtins__")) (Value.str (.ofString "__builtins__") 171) (Value.ref 4), DictEntry.mk (PyData.keyHash P (.ofString "__file__")) (Value.str (.ofString "__file__") 173) (Value.str (.ofString "/claim/cut.py") 172), DictEntry.mk (PyData.keyHash P (.ofString "__cached__")) (Value.str (.ofString "__cached__") 174) Value.none, DictEntry.mk (PyData.keyHash P (.ofString "_sre")) (Value.str (.ofString "_sre") 275) (Value.ref 12), DictEntry.mk (PyData.keyHash P (.ofString "RuleError")) (Value.str (.ofString "RuleError") 303) (Value.ref 41), DictEntry.mk (PyData.keyHash P (.ofString "_VARS")) (Value.str (.ofString "_VARS") 320) (Value.ref 45), DictEntry.mk (PyData.keyHash P (.ofString "_RULES")) (Value.str (.ofString "_RULES") 526) (Value.ref 50), DictEntry.mk (PyData.keyHash P (.ofString "tokenize_rule")) (Value.str (.ofString "tokenize_rule") 537) (Value.ref 57), DictEntry.mk (PyData.keyHash P (.ofString "test_next_token")) (Value.str (.ofString "test_next_token") 546) (Value.ref 65), DictEntry.mk (PyData.keyHash P (.ofString "skip_token")) (Value.str (.ofString "skip_token") 555) (Value.ref 73), DictEntry.mk (PyData.keyHash P (.ofString "value_node")) (Value.str (.ofString "value_node") 562) (Value.ref 80), DictEntry.mk (PyData.keyHash P (.ofString "ident_node")) (Value.str (.ofString "ident_node") 569) (Value.ref 87), DictEntry.mk (PyData.keyHash P (.ofString "range_list_node")) (Value.str (.ofString "range_list_node") 576) (Value.ref 94), DictEntry.mk (PyData.keyHash P (.ofString "negate")) (Value.str (.ofString "negate") 583) (Value.ref 101)] 20) #[]
noncomputable abbrev ob29_56 (P : Params) : Obj := Obj.mk Value.none none (Data.fields #[Value.int (OfNat.ofNat (α := Int) 3) 0, Value.int (OfNat.ofNat (α := Int) 0) 0, Value.ref 37, Value.int (OfNat.ofNat (α := Int) 7) 0, Value.int (OfNat.ofNat (α := Int) 0) 0, Value.ref 56, Value.int (OfNat.ofNat (α := Int) 20) 0, Value.int (OfNat.ofNat (α := Int) 0) 0, Value.ref 64, Value.int (OfNat.ofNat (α := Int) 22) 0, Value.int (OfNat.ofNat (α := Int) 0) 0, Value.ref 72, Value.int (OfNat.ofNat (α := Int) 25) 0, Value.int (OfNat.ofNat (α := Int) 0) 0, Value.ref 79, Value.int (OfNat.ofNat (α := Int) 27) 0, Value.int (OfNat.ofNat (α := Int) 0) 0, Value.ref 86, Value.int (OfNat.ofNat (α := Int) 29) 0, Value.int (OfNat.ofNat (α := Int) 0) 0, Value.ref 93, Value.int (OfNat.ofNat (α := Int) 31) 0, Value.int (OfNat.ofNat (α := Int) 0) 0, Value.ref 100]) #[]
noncomputable abbrev ob51_57 (P : Params) : Obj := Obj.mk (Value.type "tuple") none (Data.seq #[] 0) #[]
noncomputable abbrev ob52_58 (P : Params) : Obj := Obj.mk Value.none none (Data.fields #[]) #[]
noncomputable abbrev ob53_59 (P : Params) : Obj := Obj.mk (Value.type "tuple") none (Data.seq #[Value.str (.ofString "s") 530, Value.str (.ofString "result") 531, Value.str (.ofString "pos") 532, Value.str (.ofString "end") 533, Value.str (.ofString "match") 534] 0) #[]
noncomputable abbrev ob54_60 (P : Params) : Obj := Obj.mk (Value.type "tuple") none (Data.seq #[] 0) #[]
noncomputable abbrev ob55_61 (P : Params) : Obj := Obj.mk Value.none none (Data.func (FuncData.mk (.ofString "tokenize_rule") (.ofString "tokenize_rule") (aOf (stAt 5)) (FuncBody.stmts (bOf (stAt 5))) (sOf (stAt 5)) 0 [] Value.none Value.none Value.none Value.none none Value.none Value.none 0)) #[]
noncomputable abbrev ob56_62 (P : Params) : Obj := Obj.mk (Value.type "code") none (Data.fields #[Value.str (.ofString "tokenize_rule") 527, Value.str (.ofString "tokenize_rule") 528, Value.str (.ofString "/claim/cut.py") 529, Value.int (OfNat.ofNat (α := Int) 7) 0, Value.int (OfNat.ofNat (α := Int) 1) 0, Value.int (OfNat.ofNat (α := Int) 0) 0, Value.int (OfNat.ofNat (α := Int) 0) 0, Value.int (OfNat.ofNat (α := Int) 3) 0, Value.ref 51, Value.bool Bool.true, Value.int (OfNat.ofNat (α := Int) 276) 0, Value.ref 52, Value.none, Value.ref 53, Value.ref 54, Value.ref 55, Value.int (OfNat.ofNat (α := Int) 535) 0, Value.int (OfNat.ofNat (α := Int) 7) 0, Value.str (.ofString "/claim/cut.py") 536]) #[]
noncomputable abbrev ob57_63 (P : Params) : Obj := Obj.mk (Value.type "function") none (Data.func (FuncData.mk (.ofString "tokenize_rule") (.ofString "tokenize_rule") (aOf (stAt 5)) (FuncBody.stmts (bOf (stAt 5))) (sOf (stAt 5)) 3 [] Value.none Value.none Value.none (Value.str (.ofString "babel.plural") 282) none (Value.ref 56) Value.none 0)) #[]
noncomputable abbrev ob58_64 (P : Params) : Obj := Obj.mk (Value.type "tuple") none (Data.seq #[Value.none] 0) #[]
noncomputable abbrev ob59_65 (P : Params) : Obj := Obj.mk (Value.type "tuple") none (Data.seq #[] 0) #[]
noncomputable abbrev ob60_66 (P : Params) : Obj := Obj.mk Value.none none (Data.fields #[]) #[]
noncomputable abbrev ob61_67 (P : Params) : Obj := Obj.mk (Value.type "tuple") none (Data.seq #[Value.str (.ofString "tokens") 541, Value.str (.ofString "type_") 542, Value.str (.ofString "value") 543] 0) #[]
noncomputable abbrev ob62_68 (P : Params) : Obj := Obj.mk (Value.type "tuple") none (Data.seq #[] 0) #[]
noncomputable abbrev ob63_69 (P : Params) : Obj := Obj.mk Value.none none (Data.func (FuncData.mk (.ofString "test_next_token") (.ofString "test_next_token") (aOf (stAt 6)) (FuncBody.stmts (bOf (stAt 6))) (sOf (stAt 6)) 0 [] Value.none Value.none Value.none Value.none none Value.none Value.none 0)) #[]
noncomputable abbrev ob64_70 (P : Params) : Obj := Obj.mk (Value.type "code") none (Data.fields #[Value.str (.ofString "test_next_token") 538, Value.str (.ofString "test_next_token") 539, Value.str (.ofString "/claim/cut.py") 540, Value.int (OfNat.ofNat (α := Int) 20) 0, Value.int (OfNat.ofNat (α := Int) 3) 0, Value.int (OfNat.ofNat (α := Int) 0) 0, Value.int (OfNat.ofNat (α := Int) 0) 0, Value.int (OfNat.ofNat (α := Int) 3) 0, Value.ref 59, Value.bool Bool.true, Value.int (OfNat.ofNat (α := Int) 276) 0, Value.ref 60, Value.none, Value.ref 61, Value.ref 62, Value.ref 63, Value.int (OfNat.ofNat (α := Int) 544) 0, Value.int (OfNat.ofNat (α := Int) 20) 0, Value.str (.ofString "/claim/cut.py") 545]) #[]
noncomputable abbrev ob65_71 (P : Params) : Obj := Obj.mk (Value.type "function") none (Data.func (FuncData.mk (.ofString "test_next_token") (.ofString "test_next_token") (aOf (stAt 6)) (FuncBody.stmts (bOf (stAt 6))) (sOf (stAt 6)) 3 [] (Value.ref 58) Value.none Value.none (Value.str (.ofString "babel.plural") 282) none (Value.ref 64) Value.none 0)) #[]
noncomputable abbrev ob66_72 (P : Params) : Obj := Obj.mk (Value.type "tuple") none (Data.seq #[Value.none] 0) #[]
noncomputable abbrev ob67_73 (P : Params) : Obj := Obj.mk (Value.type "tuple") none (Data.seq #[] 0) #[]
noncomputable abbrev ob68_74 (P : Params) : Obj := Obj.mk Value.none none (Data.fields #[]) #[]
noncomputable abbrev ob69_75 (P : Params) : Obj := Obj.mk (Value.type "tuple") none (Data.seq #[Value.str (.ofString "tokens") 550, Value.str (.ofString "type_") 551, Value.str (.ofString "value") 552] 0) #[]
noncomputable abbrev ob70_76 (P : Params) : Obj := Obj.mk (Value.type "tuple") none (Data.seq #[] 0) #[]
noncomputable abbrev ob71_77 (P : Params) : Obj := Obj.mk Value.none none (Data.func (FuncData.mk (.ofString "skip_token") (.ofString "skip_token") (aOf (stAt 7)) (FuncBody.stmts (bOf (stAt 7))) (sOf (stAt 7)) 0 [] Value.none Value.none Value.none Value.none none Value.none Value.none 0)) #[]
noncomputable abbrev ob72_78 (P : Params) : Obj := Obj.mk (Value.type "code") none (Data.fields #[Value.str (.ofString "skip_token") 547, Value.str (.ofString "skip_token") 548, Value.str (.ofString "/claim/cut.py") 549, Value.int (OfNat.ofNat (α := Int) 22) 0, Value.int (OfNat.ofNat (α := Int) 3) 0, Value.int (OfNat.ofNat (α := Int) 0) 0, Value.int (OfNat.ofNat (α := Int) 0) 0, Value.int (OfNat.ofNat (α := Int) 3) 0, Value.ref 67, Value.bool Bool.true, Value.int (OfNat.ofNat (α := Int) 276) 0, Value.ref 68, Value.none, Value.ref 69, Value.ref 70, Value.ref 71, Value.int (OfNat.ofNat (α := Int) 553) 0, Value.int (OfNat.ofNat (α := Int) 22) 0, Value.str (.ofString "/claim/cut.py") 554]) #[]
noncomputable abbrev ob73_79 (P : Params) : Obj := Obj.mk (Value.type "function") none (Data.func (FuncData.mk (.ofString "skip_token") (.ofString "skip_token") (aOf (stAt 7)) (FuncBody.stmts (bOf (stAt 7))) (sOf (stAt 7)) 3 [] (Value.ref 66) Value.none Value.none (Value.str (.ofString "babel.plural") 282) none (Value.ref 72) Value.none 0)) #[]
noncomputable abbrev ob74_80 (P : Params) : Obj := Obj.mk (Value.type "tuple") none (Data.seq #[] 0) #[]
noncomputable abbrev ob75_81 (P : Params) : Obj := Obj.mk Value.none none (Data.fields #[]) #[]
noncomputable abbrev ob76_82 (P : Params) : Obj := Obj.mk (Value.type "tuple") none (Data.seq #[Value.str (.ofString "value") 559] 0) #[]
noncomputable abbrev ob77_83 (P : Params) : Obj := Obj.mk (Value.type "tuple") none (Data.seq #[] 0) #[]
noncomputable abbrev ob78_84 (P : Params) : Obj := Obj.mk Value.none none (Data.func (FuncData.mk (.ofString "value_node") (.ofString "value_node") (aOf (stAt 8)) (FuncBody.stmts (bOf (stAt 8))) (sOf (stAt 8)) 0 [] Value.none Value.none Value.none Value.none none Value.none Value.none 0)) #[]
noncomputable abbrev ob79_85 (P : Params) : Obj := Obj.mk (Value.type "code") none (Data.fields #[Value.str (.ofString "value_node") 556, Value.str (.ofString "value_node") 557, Value.str (.ofString "/claim/cut.py") 558, Value.int (OfNat.ofNat (α := Int) 25) 0, Value.int (OfNat.ofNat (α := Int) 1) 0, Value.int (OfNat.ofNat (α := Int) 0) 0, Value.int (OfNat.ofNat (α := Int) 0) 0, Value.int (OfNat.ofNat (α := Int) 3) 0, Value.ref 74, Value.bool Bool.true, Value.int (OfNat.ofNat (α := Int) 276) 0, Value.ref 75, Value.none, Value.ref 76, Value.ref 77, Value.ref 78, Value.int (OfNat.ofNat (α := Int) 560) 0, Value.int (OfNat.ofNat (α := Int) 25) 0, Value.str (.ofString "/claim/cut.py") 561]) #[]
noncomputable abbrev ob80_86 (P : Params) : Obj := Obj.mk (Value.type "function") none (Data.func (FuncData.mk (.ofString "value_node") (.ofString "value_node") (aOf (stAt 8)) (FuncBody.stmts (bOf (stAt 8))) (sOf (stAt 8)) 3 [] Value.none Value.none Value.none (Value.str (.ofString "babel.plural") 282) none (Value.ref 79) Value.none 0)) #[]
noncomputable abbrev ob81_87 (P : Params) : Obj := Obj.mk (Value.type "tuple") none (Data.seq #[] 0) #[]
noncomputable abbrev ob82_88 (P : Params) : Obj := Obj.mk Value.none none (Data.fields #[]) #[]
noncomputable abbrev ob83_89 (P : Params) : Obj := Obj.mk (Value.type "tuple") none (Data.seq #[Value.str (.ofString "name") 566] 0) #[]
noncomputable abbrev ob84_90 (P : Params) : Obj := Obj.mk (Value.type "tuple") none (Data.seq #[] 0) #[]
noncomputable abbrev ob85_91 (P : Params) : Obj := Obj.mk Value.none none (Data.func (FuncData.mk (.ofString "ident_node") (.ofString "ident_node") (aOf (stAt 9)) (FuncBody.stmts (bOf (stAt 9))) (sOf (stAt 9)) 0 [] Value.none Value.none Value.none Value.none none Value.none Value.none 0)) #[]
noncomputable abbrev ob86_92 (P : Params) : Obj := Obj.mk (Value.type "code") none (Data.fields #[Value.str (.ofString "ident_node") 563, Value.str (.ofString "ident_node") 564, Value.str (.ofString "/claim/cut.py") 565, Value.int (OfNat.ofNat (α := Int) 27) 0, Value.int (OfNat.ofNat (α := Int) 1) 0, Value.int (OfNat.ofNat (α := Int) 0) 0, Value.int (OfNat.ofNat (α := Int) 0) 0, Value.int (OfNat.ofNat (α := Int) 3) 0, Value.ref 81, Value.bool Bool.true, Value.int (OfNat.ofNat (α := Int) 276) 0, Value.ref 82, Value.none, Value.ref 83, Value.ref 84, Value.ref 85, Value.int (OfNat.ofNat (α := Int) 567) 0, Value.int (OfNat.ofNat (α := Int) 27) 0, Value.str (.ofString "/claim/cut.py") 568]) #[]
noncomputable abbrev ob87_93 (P : Params) : Obj := Obj.mk (Value.type "function") none (Data.func (FuncData.mk (.ofString "ident_node") (.ofString "ident_node") (aOf (stAt 9)) (FuncBody.stmts (bOf (stAt 9))) (sOf (stAt 9)) 3 [] Value.none Value.none Value.none (Value.str (.ofString "babel.plural") 282) none (Value.ref 86) Value.none 0)) #[]
noncomputable abbrev ob88_94 (P : Params) : Obj := Obj.mk (Value.type "tuple") none (Data.seq #[] 0) #[]
noncomputable abbrev ob89_95 (P : Params) : Obj := Obj.mk Value.none none (Data.fields #[]) #[]
noncomputable abbrev ob90_96 (P : Params) : Obj := Obj.mk (Value.type "tuple") none (Data.seq #[Value.str (.ofString "range_list") 573] 0) #[]
noncomputable abbrev ob91_97 (P : Params) : Obj := Obj.mk (Value.type "tuple") none (Data.seq #[] 0) #[]
noncomputable abbrev ob92_98 (P : Params) : Obj := Obj.mk Value.none none (Data.func (FuncData.mk (.ofString "range_list_node") (.ofString "range_list_node") (aOf (stAt 10)) (FuncBody.stmts (bOf (stAt 10))) (sOf (stAt 10)) 0 [] Value.none Value.none Value.none Value.none none Value.none Value.none 0)) #[]
noncomputable abbrev ob93_99 (P : Params) : Obj := Obj.mk (Value.type "code") none (Data.fields #[Value.str (.ofString "range_list_node") 570, Value.str (.ofString "range_list_node") 571, Value.str (.ofString "/claim/cut.py") 572, Value.int (OfNat.ofNat (α := Int) 29) 0, Value.int (OfNat.ofNat (α := Int) 1) 0, Value.int (OfNat.ofNat (α := Int) 0) 0, Value.int (OfNat.ofNat (α := Int) 0) 0, Value.int (OfNat.ofNat (α := Int) 3) 0, Value.ref 88, Value.bool Bool.true, Value.int (OfNat.ofNat (α := Int) 276) 0, Value.ref 89, Value.none, Value.ref 90, Value.ref 91, Value.ref 92, Value.int (OfNat.ofNat (α := Int) 574) 0, Value.int (OfNat.ofNat (α := Int) 29) 0, Value.str (.ofString "/claim/cut.py") 575]) #[]
noncomputable abbrev ob94_100 (P : Params) : Obj := Obj.mk (Value.type "function") none (Data.func (FuncData.mk (.ofString "range_list_node") (.ofString "range_list_node") (aOf (stAt 10)) (FuncBody.stmts (bOf (stAt 10))) (sOf (stAt 10)) 3 [] Value.none Value.none Value.none (Value.str (.ofString "babel.plural") 282) none (Value.ref 93) Value.none 0)) #[]
noncomputable abbrev ob95_101 (P : Params) : Obj := Obj.mk (Value.type "tuple") none (Data.seq #[] 0) #[]
noncomputable abbrev ob96_102 (P : Params) : Obj := Obj.mk Value.none none (Data.fields #[]) #[]
noncomputable abbrev ob97_103 (P : Params) : Obj := Obj.mk (Value.type "tuple") none (Data.seq #[Value.str (.ofString "rv") 580] 0) #[]
noncomputable abbrev ob98_104 (P : Params) : Obj := Obj.mk (Value.type "tuple") none (Data.seq #[] 0) #[]
noncomputable abbrev ob99_105 (P : Params) : Obj := Obj.mk Value.none none (Data.func (FuncData.mk (.ofString "negate") (.ofString "negate") (aOf (stAt 11)) (FuncBody.stmts (bOf (stAt 11))) (sOf (stAt 11)) 0 [] Value.none Value.none Value.none Value.none none Value.none Value.none 0)) #[]
noncomputable abbrev ob100_106 (P : Params) : Obj := Obj.mk (Value.type "code") none (Data.fields #[Value.str (.ofString "negate") 577, Value.str (.ofString "negate") 578, Value.str (.ofString "/claim/cut.py") 579, Value.int (OfNat.ofNat (α := Int) 31) 0, Value.int (OfNat.ofNat (α := Int) 1) 0, Value.int (OfNat.ofNat (α := Int) 0) 0, Value.int (OfNat.ofNat (α := Int) 0) 0, Value.int (OfNat.ofNat (α := Int) 3) 0, Value.ref 95, Value.bool Bool.true, Value.int (OfNat.ofNat (α := Int) 276) 0, Value.ref 96, Value.none, Value.ref 97, Value.ref 98, Value.ref 99, Value.int (OfNat.ofNat (α := Int) 581) 0, Value.int (OfNat.ofNat (α := Int) 31) 0, Value.str (.ofString "/claim/cut.py") 582]) #[]
noncomputable abbrev ob101_107 (P : Params) : Obj := Obj.mk (Value.type "function") none (Data.func (FuncData.mk (.ofString "negate") (.ofString "negate") (aOf (stAt 11)) (FuncBody.stmts (bOf (stAt 11))) (sOf (stAt 11)) 3 [] Value.none Value.none Value.none (Value.str (.ofString "babel.plural") 282) none (Value.ref 100) Value.none 0)) #[]
noncomputable abbrev ob3_108 (P : Params) : Obj := Obj.mk (Value.type "dict") none (Data.dict #[DictEntry.mk (PyData.keyHash P (.ofString "__name__")) (Value.str (.ofString "__name__") 165) (Value.str (.ofString "babel.plural") 282), DictEntry.mk (PyData.keyHash P (.ofString "__doc__")) (Value.str (.ofString "__doc__") 166) Value.none, DictEntry.mk (PyData.keyHash P (.ofString "__package__")) (Value.str (.ofString "__package__") 167) Value.none, DictEntry.mk (PyData.keyHash P (.ofString "__loader__")) (Value.str (.ofString "__loader__") 168) (Value.builtin "__main__.__loader__#opaque"), DictEntry.mk (PyData.keyHash P (.ofString "__spec__")) (Value.str (.ofString "__spec__") 169) Value.none, DictEntry.mk (PyData.keyHash P (.ofString "__annotations__")) (Value.str (.ofString "__annotations__") 170) (Value.ref 6), DictEntry.mk (PyData.keyHash P (.ofString "__builtins__")) (Value.str (.ofString "__builtins__") 171) (Value.ref 4), DictEntry.mk (PyData.keyHash P (.ofString "__file__")) (Value.str (.ofString "__file__") 173) (Value.str (.ofString "/claim/cut.py") 172), DictEntry.mk (PyData.keyHash P (.ofString "__cached__")) (Value.str (.ofString "__cached__") 174) Value.none, DictEntry.mk (PyData.keyHash P (.ofString "_sre")) (Value.str (.ofString "_sre") 275) (Value.ref 12), DictEntry.mk (PyData.keyHash P (.ofString "RuleError")) (Value.str (.ofString "RuleError") 303) (Value.ref 41), DictEntry.mk (PyData.keyHash P (.ofString "_VARS")) (Value.str (.ofString "_VARS") 320) (Value.ref 45), DictEntry.mk (PyData.keyHash P (.ofString "_RULES")) (Value.str (.ofString "_RULES") 526) (Value.ref 50), DictEntry.mk (PyData.keyHash P (.ofString "tokenize_rule")) (Value.str (.ofString "tokenize_rule") 537) (Value.ref 57), DictEntry.mk (PyData.keyHash P (.ofString "test_next_token")) (Value.str (.ofString "test_next_token") 546) (Value.ref 65), DictEntry.mk (PyData.keyHash P (.ofString "skip_token")) (Value.str (.ofString "skip_token") 555) (Value.ref 73), DictEntry.mk (PyData.keyHash P (.ofString "value_node")) (Value.str (.ofString "value_node") 562) (Value.ref 80), DictEntry.mk (PyData.keyHash P (.ofString "ident_node")) (Value.str (.ofString "ident_node") 569) (Value.ref 87), DictEntry.mk (PyData.keyHash P (.ofString "range_list_node")) (Value.str (.ofString "range_list_node") 576) (Value.ref 94), DictEntry.mk (PyData.keyHash P (.ofString "negate")) (Value.str (.ofString "negate") 583) (Value.ref 101), DictEntry.mk (PyData.keyHash P (.ofString "_Parser")) (Value.str (.ofString "_Parser") 694) (Value.ref 182)] 21) #[]
noncomputable abbrev ob29_109 (P : Params) : Obj := Obj.mk Value.none none (Data.fields #[Value.int (OfNat.ofNat (α := Int) 3) 0, Value.int (OfNat.ofNat (α := Int) 0) 0, Value.ref 37, Value.int (OfNat.ofNat (α := Int) 7) 0, Value.int (OfNat.ofNat (α := Int) 0) 0, Value.ref 56, Value.int (OfNat.ofNat (α := Int) 20) 0, Value.int (OfNat.ofNat (α := Int) 0) 0, Value.ref 64, Value.int (OfNat.ofNat (α := Int) 22) 0, Value.int (OfNat.ofNat (α := Int) 0) 0, Value.ref 72, Value.int (OfNat.ofNat (α := Int) 25) 0, Value.int (OfNat.ofNat (α := Int) 0) 0, Value.ref 79, Value.int (OfNat.ofNat (α := Int) 27) 0, Value.int (OfNat.ofNat (α := Int) 0) 0, Value.ref 86, Value.int (OfNat.ofNat (α := Int) 29) 0, Value.int (OfNat.ofNat (α := Int) 0) 0, Value.ref 93, Value.int (OfNat.ofNat (α := Int) 31) 0, Value.int (OfNat.ofNat (α := Int) 0) 0, Value.ref 100, Value.int (OfNat.ofNat (α := Int) 33) 0, Value.int (OfNat.ofNat (α := Int) 0) 0, Value.ref 107]) #[]
noncomputable abbrev ob102_110 (P : Params) : Obj := Obj.mk (Value.type "tuple") none (Data.seq #[] 0) #[]
noncomputable abbrev ob103_111 (P : Params) : Obj := Obj.mk (Value.type "builtin_function_or_method") none (Data.fields #[Value.builtin "type.__prepare__", Value.type "type"]) #[]
noncomputable abbrev ob104_112 (P : Params) : Obj := Obj.mk (Value.type "dict") none (Data.dict #[DictEntry.mk (PyData.keyHash P (.ofString "__module__")) (Value.str (.ofString "__module__") 591) (Value.str (.ofString "babel.plural") 282), DictEntry.mk (PyData.keyHash P (.ofString "__qualname__")) (Value.str (.ofString "__qualname__") 593) (Value.str (.ofString "_Parser") 592), DictEntry.mk (PyData.keyHash P (.ofString "__firstlineno__")) (Value.str (.ofString "__firstlineno__") 595) (Value.int (OfNat.ofNat (α := Int) 33) 594), DictEntry.mk (PyData.keyHash P (.ofString "__init__")) (Value.str (.ofString "__init__") 603) (Value.ref 115), DictEntry.mk (PyData.keyHash P (.ofString "expect")) (Value.str (.ofString "expect") 614) (Value.ref 123), DictEntry.mk (PyData.keyHash P (.ofString "condition")) (Value.str (.ofString "condition") 622) (Value.ref 130), DictEntry.mk (PyData.keyHash P (.ofString "and_condition")) (Value.str (.ofString "and_condition") 630) (Value.ref 137), DictEntry.mk (PyData.keyHash P (.ofString "relation")) (Value.str (.ofString "relation") 642) (Value.ref 144), DictEntry.mk (PyData.keyHash P (.ofString "newfangled_relation")) (Value.str (.ofString "newfangled_relation") 652) (Value.ref 151), DictEntry.mk (PyData.keyHash P (.ofString "range_or_value")) (Value.str (.ofString "range_or_value") 660) (Value.ref 158), DictEntry.mk (PyData.keyHash P (.ofString "range_list")) (Value.str (.ofString "range_list") 668) (Value.ref 165), DictEntry.mk (PyData.keyHash P (.ofString "expr")) (Value.str (.ofString "expr") 677) (Value.ref 172), DictEntry.mk (PyData.keyHash P (.ofString "value")) (Value.str (.ofString "value") 684) (Value.ref 179), DictEntry.mk (PyData.keyHash P (.ofString "__static_attributes__")) (Value.str (.ofString "__static_attributes__") 687) (Value.ref 180)] 14) #[]
noncomputable abbrev ob105_113 (P : Params) : Obj := Obj.mk (Value.type "tuple") none (Data.seq #[] 0) #[]
noncomputable abbrev ob106_114 (P : Params) : Obj := Obj.mk Value.none none (Data.fields #[Value.int (OfNat.ofNat (α := Int) 35) 0, Value.int (OfNat.ofNat (α := Int) 4) 0, Value.ref 114, Value.int (OfNat.ofNat (α := Int) 44) 0, Value.int (OfNat.ofNat (α := Int) 4) 0, Value.ref 122, Value.int (OfNat.ofNat (α := Int) 54) 0, Value.int (OfNat.ofNat (α := Int) 4) 0, Value.ref 129, Value.int (OfNat.ofNat (α := Int) 60) 0, Value.int (OfNat.ofNat (α := Int) 4) 0, Value.ref 136, Value.int (OfNat.ofNat (α := Int) 66) 0, Value.int (OfNat.ofNat (α := Int) 4) 0, Value.ref 143, Value.int (OfNat.ofNat (α := Int) 82) 0, Value.int (OfNat.ofNat (α := Int) 4) 0, Value.ref 150, Value.int (OfNat.ofNat (α := Int) 92) 0, Value.int (OfNat.ofNat (α := Int) 4) 0, Value.ref 157, Value.int (OfNat.ofNat (α := Int) 99) 0, Value.int (OfNat.ofNat (α := Int) 4) 0, Value.ref 164, Value.int (OfNat.ofNat (α := Int) 105) 0, Value.int (OfNat.ofNat (α := Int) 4) 0, Value.ref 171, Value.int (OfNat.ofNat (α := Int) 116) 0, Value.int (OfNat.ofNat (α := Int) 4) 0, Value.ref 178]) #[]
noncomputable abbrev ob107_115 (P : Params) : Obj := Obj.mk (Value.type "code") none (Data.fields #[Value.str (.ofString "_Parser") 586, Value.str (.ofString "_Parser") 587, Value.str (.ofString "/claim/cut.py") 588, Value.int (OfNat.ofNat (α := Int) 33) 0, Value.int (OfNat.ofNat (α := Int) 0) 0, Value.int (OfNat.ofNat (α := Int) 0) 0, Value.int (OfNat.ofNat (α := Int) 0) 0, Value.int (OfNat.ofNat (α := Int) 0) 0, Value.ref 105, Value.bool Bool.false, Value.int (OfNat.ofNat (α := Int) 276) 0, Value.ref 106, Value.none, Value.none, Value.none, Value.none, Value.int (OfNat.ofNat (α := Int) 589) 0, Value.int (OfNat.ofNat (α := Int) 33) 0, Value.str (.ofString "/claim/cut.py") 590]) #[]
noncomputable abbrev ob108_116 (P : Params) : Obj := Obj.mk (Value.type "frame") none Data.plain #[some (Value.ref 107), some (Value.ref 3), some (Value.ref 104), none, some (Value.str (.ofString "babel.plural") 282), none, some (Value.ref 0)]
noncomputable abbrev ob109_117 (P : Params) : Obj := Obj.mk (Value.type "tuple") none (Data.seq #[] 0) #[]
noncomputable abbrev ob110_118 (P : Params) : Obj := Obj.mk Value.none none (Data.fields #[]) #[]
noncomputable abbrev ob111_119 (P : Params) : Obj := Obj.mk (Value.type "tuple") none (Data.seq #[Value.str (.ofString "self") 599, Value.str (.ofString "string") 600] 0) #[]
noncomputable abbrev ob112_120 (P : Params) : Obj := Obj.mk (Value.type "tuple") none (Data.seq #[] 0) #[]
noncomputable abbrev ob113_121 (P : Params) : Obj := Obj.mk Value.none none (Data.func (FuncData.mk (.ofString "__init__") (.ofString "_Parser.__init__") (aOf (clAt 12 0)) (FuncBody.stmts (bOf (clAt 12 0))) (sOf (clAt 12 0)) 0 [] Value.none Value.none Value.none Value.none none Value.none Value.none 0)) #[]
noncomputable abbrev ob114_122 (P : Params) : Obj := Obj.mk (Value.type "code") none (Data.fields #[Value.str (.ofString "__init__") 596, Value.str (.ofString "_Parser.__init__") 597, Value.str (.ofString "/claim/cut.py") 598, Value.int (OfNat.ofNat (α := Int) 35) 0, Value.int (OfNat.ofNat (α := Int) 2) 0, Value.int (OfNat.ofNat (α := Int) 0) 0, Value.int (OfNat.ofNat (α := Int) 0) 0, Value.int (OfNat.ofNat (α := Int) 3) 0, Value.ref 109, Value.bool Bool.true, Value.int (OfNat.ofNat (α := Int) 276) 0, Value.ref 110, Value.none, Value.ref 111, Value.ref 112, Value.ref 113, Value.int (OfNat.ofNat (α := Int) 601) 0, Value.int (OfNat.ofNat (α := Int) 35) 0, Value.str (.ofString "/claim/cut.py") 602]) #[]
noncomputable abbrev ob115_123 (P : Params) : Obj := Obj.mk (Value.type "function") none (Data.func (FuncData.mk (.ofString "__init__") (.ofString "_Parser.__init__") (aOf (clAt 12 0)) (FuncBody.stmts (bOf (clAt 12 0))) (sOf (clAt 12 0)) 3 [] Value.none Value.none Value.none (Value.str (.ofString "babel.plural") 282) none (Value.ref 114) Value.none 0)) #[]
noncomputable abbrev ob116_124 (P : Params) : Obj := Obj.mk (Value.type "tuple") none (Data.seq #[Value.none, Value.none] 0) #[]
noncomputable abbrev ob117_125 (P : Params) : Obj := Obj.mk (Value.type "tuple") none (Data.seq #[] 0) #[]
noncomputable abbrev ob118_126 (P : Params) : Obj := Obj.mk Value.none none (Data.fields #[]) #[]
noncomputable abbrev ob119_127 (P : Params) : Obj := Obj.mk (Value.type "tuple") none (Data.seq #[Value.str (.ofString "self") 607, Value.str (.ofString "type_") 608, Value.str (.ofString "value") 609, Value.str (.ofString "term") 610, Value.str (.ofString "token") 611] 0) #[]
noncomputable abbrev ob120_128 (P : Params) : Obj := Obj.mk (Value.type "tuple") none (Data.seq #[] 0) #[]
noncomputable abbrev ob121_129 (P : Params) : Obj := Obj.mk Value.none none (Data.func (FuncData.mk (.ofString "expect") (.ofString "_Parser.expect") (aOf (clAt 12 1)) (FuncBody.stmts (bOf (clAt 12 1))) (sOf (clAt 12 1)) 0 [] Value.none Value.none Value.none Value.none none Value.none Value.none 0)) #[]
noncomputable abbrev ob122_130 (P : Params) : Obj := Obj.mk (Value.type "code") none (Data.fields #[Value.str (.ofString "expect") 604, Value.str (.ofString "_Parser.expect") 605, Value.str (.ofString "/claim/cut.py") 606, Value.int (OfNat.ofNat (α := Int) 44) 0, Value.int (OfNat.ofNat (α := Int) 4) 0, Value.int (OfNat.ofNat (α := Int) 0) 0, Value.int (OfNat.ofNat (α := Int) 0) 0, Value.int (OfNat.ofNat (α := Int) 3) 0, Value.ref 117, Value.bool Bool.true, Value.int (OfNat.ofNat (α := Int) 276) 0, Value.ref 118, Value.none, Value.ref 119, Value.ref 120, Value.ref 121, Value.int (OfNat.ofNat (α := Int) 612) 0, Value.int (OfNat.ofNat (α := Int) 44) 0, Value.str (.ofString "/claim/cut.py") 613]) #[]
noncomputable abbrev ob123_131 (P : Params) : Obj := Obj.mk (Value.type "function") none (Data.func (FuncData.mk (.ofString "expect") (.ofString "_Parser.expect") (aOf (clAt 12 1)) (FuncBody.stmts (bOf (clAt 12 1))) (sOf (clAt 12 1)) 3 [] (Value.ref 116) Value.none Value.none (Value.str (.ofString "babel.plural") 282) none (Value.ref 122) Value.none 0)) #[]
noncomputable abbrev ob124_132 (P : Params) : Obj := Obj.mk (Value.type "tuple") none (Data.seq #[] 0) #[]
noncomputable abbrev ob125_133 (P : Params) : Obj := Obj.mk Value.none none (Data.fields #[]) #[]
noncomputable abbrev ob126_134 (P : Params) : Obj := Obj.mk (Value.type "tuple") none (Data.seq #[Value.str (.ofString "self") 618, Value.str (.ofString "op") 619] 0) #[]
noncomputable abbrev ob127_135 (P : Params) : Obj := Obj.mk (Value.type "tuple") none (Data.seq #[] 0) #[]
noncomputable abbrev ob128_136 (P : Params) : Obj := Obj.mk Value.none none (Data.func (FuncData.mk (.ofString "condition") (.ofString "_Parser.condition") (aOf (clAt 12 2)) (FuncBody.stmts (bOf (clAt 12 2))) (sOf (clAt 12 2)) 0 [] Value.none Value.none Value.none Value.none none Value.none Value.none 0)) #[]
noncomputable abbrev ob129_137 (P : Params) : Obj := Obj.mk (Value.type "code") none (Data.fields #[Value.str (.ofString "condition") 615, Value.str (.ofString "_Parser.condition") 616, Value.str (.ofString "/claim/cut.py") 617, Value.int (OfNat.ofNat (α := Int) 54) 0, Value.int (OfNat.ofNat (α := Int) 1) 0, Value.int (OfNat.ofNat (α := Int) 0) 0, Value.int (OfNat.ofNat (α := Int) 0) 0, Value.int (OfNat.ofNat (α := Int) 3) 0, Value.ref 124, Value.bool Bool.true, Value.int (OfNat.ofNat (α := Int) 276) 0, Value.ref 125, Value.none, Value.ref 126, Value.ref 127, Value.ref 128, Value.int (OfNat.ofNat (α := Int) 620) 0, Value.int (OfNat.ofNat (α := Int) 54) 0, Value.str (.ofString "/claim/cut.py") 621]) #[]
noncomputable abbrev ob130_138 (P : Params) : Obj := Obj.mk (Value.type "function") none (Data.func (FuncData.mk (.ofString "condition") (.ofString "_Parser.condition") (aOf (clAt 12 2)) (FuncBody.stmts (bOf (clAt 12 2))) (sOf (clAt 12 2)) 3 [] Value.none Value.none Value.none (Value.str (.ofString "babel.plural") 282) none (Value.ref 129) Value.none 0)) #[]
noncomputable abbrev ob131_139 (P : Params) : Obj := Obj.mk (Value.type "tuple") none (Data.seq #[] 0) #[]
noncomputable abbrev ob132_140 (P : Params) : Obj := Obj.mk Value.none none (Data.fields #[]) #[]
noncomputable abbrev ob133_141 (P : Params) : Obj := Obj.mk (Value.type "tuple") none (Data.seq #[Value.str (.ofString "self") 626, Value.str (.ofString "op") 627] 0) #[]
noncomputable abbrev ob134_142 (P : Params) : Obj := Obj.mk (Value.type "tuple") none (Data.seq #[] 0) #[]
noncomputable abbrev ob135_143 (P : Params) : Obj := Obj.mk Value.none none (Data.func (FuncData.mk (.ofString "and_condition") (.ofString "_Parser.and_condition") (aOf (clAt 12 3)) (FuncBody.stmts (bOf (clAt 12 3))) (sOf (clAt 12 2)) 0 [] Value.none Value.none Value.none Value.none none Value.none Value.none 0)) #[]
noncomputable abbrev ob136_144 (P : Params) : Obj := Obj.mk (Value.type "code") none (Data.fields #[Value.str (.ofString "and_condition") 623, Value.str (.ofString "_Parser.and_condition") 624, Value.str (.ofString "/claim/cut.py") 625, Value.int (OfNat.ofNat (α := Int) 60) 0, Value.int (OfNat.ofNat (α := Int) 1) 0, Value.int (OfNat.ofNat (α := Int) 0) 0, Value.int (OfNat.ofNat (α := Int) 0) 0, Value.int (OfNat.ofNat (α := Int) 3) 0, Value.ref 131, Value.bool Bool.true, Value.int (OfNat.ofNat (α := Int) 276) 0, Value.ref 132, Value.none, Value.ref 133, Value.ref 134, Value.ref 135, Value.int (OfNat.ofNat (α := Int) 628) 0, Value.int (OfNat.ofNat (α := Int) 60) 0, Value.str (.ofString "/claim/cut.py") 629]) #[]
noncomputable abbrev ob137_145 (P : Params) : Obj := Obj.mk (Value.type "function") none (Data.func (FuncData.mk (.ofString "and_condition") (.ofString "_Parser.and_condition") (aOf (clAt 12 3)) (FuncBody.stmts (bOf (clAt 12 3))) (sOf (clAt 12 2)) 3 [] Value.none Value.none Value.none (Value.str (.ofString "babel.plural") 282) none (Value.ref 136) Value.none 0)) #[]
noncomputable abbrev ob138_146 (P : Params) : Obj := Obj.mk (Value.type "tuple") none (Data.seq #[] 0) #[]
noncomputable abbrev ob139_147 (P : Params) : Obj := Obj.mk Value.none none (Data.fields #[]) #[]
noncomputable abbrev ob140_148 (P : Params) : Obj := Obj.mk (Value.type "tuple") none (Data.seq #[Value.str (.ofString "self") 634, Value.str (.ofString "left") 635, Value.str (.ofString "op") 636, Value.str (.ofString "negated") 637, Value.str (.ofString "method") 638, Value.str (.ofString "rv") 639] 0) #[]
noncomputable abbrev ob141_149 (P : Params) : Obj := Obj.mk (Value.type "tuple") none (Data.seq #[] 0) #[]
noncomputable abbrev ob142_150 (P : Params) : Obj := Obj.mk Value.none none (Data.func (FuncData.mk (.ofString "relation") (.ofString "_Parser.relation") (aOf (clAt 12 4)) (FuncBody.stmts (bOf (clAt 12 4))) (sOf (clAt 12 4)) 0 [] Value.none Value.none Value.none Value.none none Value.none Value.none 0)) #[]
noncomputable abbrev ob143_151 (P : Params) : Obj := Obj.mk (Value.type "code") none (Data.fields #[Value.str (.ofString "relation") 631, Value.str (.ofString "_Parser.relation") 632, Value.str (.ofString "/claim/cut.py") 633, Value.int (OfNat.ofNat (α := Int) 66) 0, Value.int (OfNat.ofNat (α := Int) 1) 0, Value.int (OfNat.ofNat (α := Int) 0) 0, Value.int (OfNat.ofNat (α := Int) 0) 0, Value.int (OfNat.ofNat (α := Int) 3) 0, Value.ref 138, Value.bool Bool.true, Value.int (OfNat.ofNat (α := Int) 276) 0, Value.ref 139, Value.none, Value.ref 140, Value.ref 141, Value.ref 142, Value.int (OfNat.ofNat (α := Int) 640) 0, Value.int (OfNat.ofNat (α := Int) 66) 0, Value.str (.ofString "/claim/cut.py") 641]) #[]
noncomputable abbrev ob144_152 (P : Params) : Obj := Obj.mk (Value.type "function") none (Data.func (FuncData.mk (.ofString "relation") (.ofString "_Parser.relation") (aOf (clAt 12 4)) (FuncBody.stmts (bOf (clAt 12 4))) (sOf (clAt 12 4)) 3 [] Value.none Value.none Value.none (Value.str (.ofString "babel.plural") 282) none (Value.ref 143) Value.none 0)) #[]
noncomputable abbrev ob145_153 (P : Params) : Obj := Obj.mk (Value.type "tuple") none (Data.seq #[] 0) #[]
noncomputable abbrev ob146_154 (P : Params) : Obj := Obj.mk Value.none none (Data.fields #[]) #[]
noncomputable abbrev ob147_155 (P : Params) : Obj := Obj.mk (Value.type "tuple") none (Data.seq #[Value.str (.ofString "self") 646, Value.str (.ofString "left") 647, Value.str (.ofString "negated") 648, Value.str (.ofString "rv") 649] 0) #[]
noncomputable abbrev ob148_156 (P : Params) : Obj := Obj.mk (Value.type "tuple") none (Data.seq #[] 0) #[]
noncomputable abbrev ob149_157 (P : Params) : Obj := Obj.mk Value.none none (Data.func (FuncData.mk (.ofString "newfangled_relation") (.ofString "_Parser.newfangled_relation") (aOf (clAt 12 5)) (FuncBody.stmts (bOf (clAt 12 5))) (sOf (clAt 12 5)) 0 [] Value.none Value.none Value.none Value.none none Value.none Value.none 0)) #[]
noncomputable abbrev ob150_158 (P : Params) : Obj := Obj.mk (Value.type "code") none (Data.fields #[Value.str (.ofString "newfangled_relation") 643, Value.str (.ofString "_Parser.newfangled_relation") 644, Value.str (.ofString "/claim/cut.py") 645, Value.int (OfNat.ofNat (α := Int) 82) 0, Value.int (OfNat.ofNat (α := Int) 2) 0, Value.int (OfNat.ofNat (α := Int) 0) 0, Value.int (OfNat.ofNat (α := Int) 0) 0, Value.int (OfNat.ofNat (α := Int) 3) 0, Value.ref 145, Value.bool Bool.true, Value.int (OfNat.ofNat (α := Int) 276) 0, Value.ref 146, Value.none, Value.ref 147, Value.ref 148, Value.ref 149, Value.int (OfNat.ofNat (α := Int) 650) 0, Value.int (OfNat.ofNat (α := Int) 82) 0, Value.str (.ofString "/claim/cut.py") 651]) #[]
noncomputable abbrev ob151_159 (P : Params) : Obj := Obj.mk (Value.type "function") none (Data.func (FuncData.mk (.ofString "newfangled_relation") (.ofString "_Parser.newfangled_relation") (aOf (clAt 12 5)) (FuncBody.stmts (bOf (clAt 12 5))) (sOf (clAt 12 5)) 3 [] Value.none Value.none Value.none (Value.str (.ofString "babel.plural") 282) none (Value.ref 150) Value.none 0)) #[]
noncomputable abbrev ob152_160 (P : Params) : Obj := Obj.mk (Value.type "tuple") none (Data.seq #[] 0) #[]
noncomputable abbrev ob153_161 (P : Params) : Obj := Obj.mk Value.none none (Data.fields #[]) #[]
noncomputable abbrev ob154_162 (P : Params) : Obj := Obj.mk (Value.type "tuple") none (Data.seq #[Value.str (.ofString "self") 656, Value.str (.ofString "left") 657] 0) #[]
noncomputable abbrev ob155_163 (P : Params) : Obj := Obj.mk (Value.type "tuple") none (Data.seq #[] 0) #[]
noncomputable abbrev ob156_164 (P : Params) : Obj := Obj.mk Value.none none (Data.func (FuncData.mk (.ofString "range_or_value") (.ofString "_Parser.range_or_value") (aOf (clAt 12 6)) (FuncBody.stmts (bOf (clAt 12 6))) (sOf (clAt 12 6)) 0 [] Value.none Value.none Value.none Value.none none Value.none Value.none 0)) #[]
noncomputable abbrev ob157_165 (P : Params) : Obj := Obj.mk (Value.type "code") none (Data.fields #[Value.str (.ofString "range_or_value") 653, Value.str (.ofString "_Parser.range_or_value") 654, Value.str (.ofString "/claim/cut.py") 655, Value.int (OfNat.ofNat (α := Int) 92) 0, Value.int (OfNat.ofNat (α := Int) 1) 0, Value.int (OfNat.ofNat (α := Int) 0) 0, Value.int (OfNat.ofNat (α := Int) 0) 0, Value.int (OfNat.ofNat (α := Int) 3) 0, Value.ref 152, Value.bool Bool.true, Value.int (OfNat.ofNat (α := Int) 276) 0, Value.ref 153, Value.none, Value.ref 154, Value.ref 155, Value.ref 156, Value.int (OfNat.ofNat (α := Int) 658) 0, Value.int (OfNat.ofNat (α := Int) 92) 0, Value.str (.ofString "/claim/cut.py") 659]) #[]
noncomputable abbrev ob158_166 (P : Params) : Obj := Obj.mk (Value.type "function") none (Data.func (FuncData.mk (.ofString "range_or_value") (.ofString "_Parser.range_or_value") (aOf (clAt 12 6)) (FuncBody.stmts (bOf (clAt 12 6))) (sOf (clAt 12 6)) 3 [] Value.none Value.none Value.none (Value.str (.ofString "babel.plural") 282) none (Value.ref 157) Value.none 0)) #[]
noncomputable abbrev ob159_167 (P : Params) : Obj := Obj.mk (Value.type "tuple") none (Data.seq #[] 0) #[]
noncomputable abbrev ob160_168 (P : Params) : Obj := Obj.mk Value.none none (Data.fields #[]) #[]
noncomputable abbrev ob161_169 (P : Params) : Obj := Obj.mk (Value.type "tuple") none (Data.seq #[Value.str (.ofString "self") 664, Value.str (.ofString "range_list") 665] 0) #[]
noncomputable abbrev ob162_170 (P : Params) : Obj := Obj.mk (Value.type "tuple") none (Data.seq #[] 0) #[]
noncomputable abbrev ob163_171 (P : Params) : Obj := Obj.mk Value.none none (Data.func (FuncData.mk (.ofString "range_list") (.ofString "_Parser.range_list") (aOf (clAt 12 7)) (FuncBody.stmts (bOf (clAt 12 7))) (sOf (clAt 12 7)) 0 [] Value.none Value.none Value.none Value.none none Value.none Value.none 0)) #[]
noncomputable abbrev ob164_172 (P : Params) : Obj := Obj.mk (Value.type "code") none (Data.fields #[Value.str (.ofString "range_list") 661, Value.str (.ofString "_Parser.range_list") 662, Value.str (.ofString "/claim/cut.py") 663, Value.int (OfNat.ofNat (α := Int) 99) 0, Value.int (OfNat.ofNat (α := Int) 1) 0, Value.int (OfNat.ofNat (α := Int) 0) 0, Value.int (OfNat.ofNat (α := Int) 0) 0, Value.int (OfNat.ofNat (α := Int) 3) 0, Value.ref 159, Value.bool Bool.true, Value.int (OfNat.ofNat (α := Int) 276) 0, Value.ref 160, Value.none, Value.ref 161, Value.ref 162, Value.ref 163, Value.int (OfNat.ofNat (α := Int) 666) 0, Value.int (OfNat.ofNat (α := Int) 99) 0, Value.str (.ofString "/claim/cut.py") 667]) #[]
noncomputable abbrev ob165_173 (P : Params) : Obj := Obj.mk (Value.type "function") none (Data.func (FuncData.mk (.ofString "range_list") (.ofString "_Parser.range_list") (aOf (clAt 12 7)) (FuncBody.stmts (bOf (clAt 12 7))) (sOf (clAt 12 7)) 3 [] Value.none Value.none Value.none (Value.str (.ofString "babel.plural") 282) none (Value.ref 164) Value.none 0)) #[]
noncomputable abbrev ob166_174 (P : Params) : Obj := Obj.mk (Value.type "tuple") none (Data.seq #[] 0) #[]
noncomputable abbrev ob167_175 (P : Params) : Obj := Obj.mk Value.none none (Data.fields #[]) #[]
noncomputable abbrev ob168_176 (P : Params) : Obj := Obj.mk (Value.type "tuple") none (Data.seq #[Value.str (.ofString "self") 672, Value.str (.ofString "word") 673, Value.str (.ofString "name") 674] 0) #[]
noncomputable abbrev ob169_177 (P : Params) : Obj := Obj.mk (Value.type "tuple") none (Data.seq #[] 0) #[]
noncomputable abbrev ob170_178 (P : Params) : Obj := Obj.mk Value.none none (Data.func (FuncData.mk (.ofString "expr") (.ofString "_Parser.expr") (aOf (clAt 12 8)) (FuncBody.stmts (bOf (clAt 12 8))) (sOf (clAt 12 8)) 0 [] Value.none Value.none Value.none Value.none none Value.none Value.none 0)) #[]
noncomputable abbrev ob171_179 (P : Params) : Obj := Obj.mk (Value.type "code") none (Data.fields #[Value.str (.ofString "expr") 669, Value.str (.ofString "_Parser.expr") 670, Value.str (.ofString "/claim/cut.py") 671, Value.int (OfNat.ofNat (α := Int) 105) 0, Value.int (OfNat.ofNat (α := Int) 1) 0, Value.int (OfNat.ofNat (α := Int) 0) 0, Value.int (OfNat.ofNat (α := Int) 0) 0, Value.int (OfNat.ofNat (α := Int) 3) 0, Value.ref 166, Value.bool Bool.true, Value.int (OfNat.ofNat (α := Int) 276) 0, Value.ref 167, Value.none, Value.ref 168, Value.ref 169, Value.ref 170, Value.int (OfNat.ofNat (α := Int) 675) 0, Value.int (OfNat.ofNat (α := Int) 105) 0, Value.str (.ofString "/claim/cut.py") 676]) #[]
noncomputable abbrev ob172_180 (P : Params) : Obj := Obj.mk (Value.type "function") none (Data.func (FuncData.mk (.ofString "expr") (.ofString "_Parser.expr") (aOf (clAt 12 8)) (FuncBody.stmts (bOf (clAt 12 8))) (sOf (clAt 12 8)) 3 [] Value.none Value.none Value.none (Value.str (.ofString "babel.plural") 282) none (Value.ref 171) Value.none 0)) #[]
noncomputable abbrev ob173_181 (P : Params) : Obj := Obj.mk (Value.type "tuple") none (Data.seq #[] 0) #[]
noncomputable abbrev ob174_182 (P : Params) : Obj := Obj.mk Value.none none (Data.fields #[]) #[]
noncomputable abbrev ob175_183 (P : Params) : Obj := Obj.mk (Value.type "tuple") none (Data.seq #[Value.str (.ofString "self") 681] 0) #[]
noncomputable abbrev ob176_184 (P : Params) : Obj := Obj.mk (Value.type "tuple") none (Data.seq #[] 0) #[]
noncomputable abbrev ob177_185 (P : Params) : Obj := Obj.mk Value.none none (Data.func (FuncData.mk (.ofString "value") (.ofString "_Parser.value") (aOf (clAt 12 9)) (FuncBody.stmts (bOf (clAt 12 9))) (sOf (clAt 12 9)) 0 [] Value.none Value.none Value.none Value.none none Value.none Value.none 0)) #[]
noncomputable abbrev ob178_186 (P : Params) : Obj := Obj.mk (Value.type "code") none (Data.fields #[Value.str (.ofString "value") 678, Value.str (.ofString "_Parser.value") 679, Value.str (.ofString "/claim/cut.py") 680, Value.int (OfNat.ofNat (α := Int) 116) 0, Value.int (OfNat.ofNat (α := Int) 1) 0, Value.int (OfNat.ofNat (α := Int) 0) 0, Value.int (OfNat.ofNat (α := Int) 0) 0, Value.int (OfNat.ofNat (α := Int) 3) 0, Value.ref 173, Value.bool Bool.true, Value.int (OfNat.ofNat (α := Int) 276) 0, Value.ref 174, Value.none, Value.ref 175, Value.ref 176, Value.ref 177, Value.int (OfNat.ofNat (α := Int) 682) 0, Value.int (OfNat.ofNat (α := Int) 116) 0, Value.str (.ofString "/claim/cut.py") 683]) #[]
noncomputable abbrev ob179_187 (P : Params) : Obj := Obj.mk (Value.type "function") none (Data.func (FuncData.mk (.ofString "value") (.ofString "_Parser.value") (aOf (clAt 12 9)) (FuncBody.stmts (bOf (clAt 12 9))) (sOf (clAt 12 9)) 3 [] Value.none Value.none Value.none (Value.str (.ofString "babel.plural") 282) none (Value.ref 178) Value.none 0)) #[]
noncomputable abbrev ob180_188 (P : Params) : Obj := Obj.mk (Value.type "tuple") none (Data.seq #[Value.str (.ofString "ast") 685, Value.str (.ofString "tokens") 686] 0) #[]
noncomputable abbrev ob181_189 (P : Params) : Obj := Obj.mk (Value.type "dict") none (Data.dict #[DictEntry.mk (PyData.keyHash P (.ofString "__module__")) (Value.str (.ofString "__module__") 591) (Value.str (.ofString "babel.plural") 282), DictEntry.mk (PyData.keyHash P (.ofString "__firstlineno__")) (Value.str (.ofString "__firstlineno__") 595) (Value.int (OfNat.ofNat (α := Int) 33) 594), DictEntry.mk (PyData.keyHash P (.ofString "__init__")) (Value.str (.ofString "__init__") 603) (Value.ref 115), DictEntry.mk (PyData.keyHash P (.ofString "expect")) (Value.str (.ofString "expect") 614) (Value.ref 123), DictEntry.mk (PyData.keyHash P (.ofString "condition")) (Value.str (.ofString "condition") 622) (Value.ref 130), DictEntry.mk (PyData.keyHash P (.ofString "and_condition")) (Value.str (.ofString "and_condition") 630) (Value.ref 137), DictEntry.mk (PyData.keyHash P (.ofString "relation")) (Value.str (.ofString "relation") 642) (Value.ref 144), DictEntry.mk (PyData.keyHash P (.ofString "newfangled_relation")) (Value.str (.ofString "newfangled_relation") 652) (Value.ref 151), DictEntry.mk (PyData.keyHash P (.ofString "range_or_value")) (Value.str (.ofString "range_or_value") 660) (Value.ref 158), DictEntry.mk (PyData.keyHash P (.ofString "range_list")) (Value.str (.ofString "range_list") 668) (Value.ref 165), DictEntry.mk (PyData.keyHash P (.ofString "expr")) (Value.str (.ofString "expr") 677) (Value.ref 172), DictEntry.mk (PyData.keyHash P (.ofString "value")) (Value.str (.ofString "value") 684) (Value.ref 179), DictEntry.mk (PyData.keyHash P (.ofString "__static_attributes__")) (Value.str (.ofString "__static_attributes__") 687) (Value.ref 180), DictEntry.mk (PyData.keyHash P (.ofString "__dict__")) (Value.str (.ofString "__dict__") 689) (Value.ref 183), DictEntry.mk (PyData.keyHash P (.ofString "__weakref__")) (Value.str (.ofString "__weakref__") 691) (Value.ref 184), DictEntry.mk (PyData.keyHash P (.ofString "__doc__")) (Value.str (.ofString "__doc__") 692) Value.none] 4) #[]
noncomputable abbrev ob182_190 (P : Params) : Obj := Obj.mk (Value.type "type") none (Data.cls (ClassData.mk (.ofString "_Parser") [Value.type "object"] [Value.ref 182, Value.type "object"] 181 (.ofString "_Parser") Bool.true [] [] Bool.false none Bool.false)) #[none, none, some (Value.str (.ofString "_Parser") 584), some (Value.str (.ofString "_Parser") 592), some (Value.builtin "object.__new__"), some (Value.bool Bool.true)]
noncomputable abbrev ob183_191 (P : Params) : Obj := Obj.mk (Value.type "getset_descriptor") none (Data.fields #[Value.str (.ofString "__dict__") 688, Value.ref 182, Value.builtin "function.__dict__", Value.builtin "function.__dict__#set"]) #[]
noncomputable abbrev ob184_192 (P : Params) : Obj := Obj.mk (Value.type "getset_descriptor") none (Data.fields #[Value.str (.ofString "__weakref__") 690, Value.ref 182, Value.builtin "ExceptionGroup.__weakref__", Value.none]) #[]
noncomputable abbrev ob185_193 (P : Params) : Obj := Obj.mk (Value.type "super") none (Data.fields #[Value.ref 182, Value.ref 182, Value.ref 182]) #[]
noncomputable abbrev ob186_194 (P : Params) : Obj := Obj.mk (Value.type "builtin_function_or_method") none (Data.fields #[Value.builtin "object.__init_subclass__", Value.ref 182]) #[]
noncomputable abbrev ob3_195 (P : Params) : Obj := Obj.mk (Value.type "dict") none (Data.dict #[DictEntry.mk (PyData.keyHash P (.ofString "__name__")) (Value.str (.ofString "__name__") 165) (Value.str (.ofString "law_ew5004_02") 695), DictEntry.mk (PyData.keyHash P (.ofString "__doc__")) (Value.str (.ofString "__doc__") 166) Value.none, DictEntry.mk (PyData.keyHash P (.ofString "__package__")) (Value.str (.ofString "__package__") 167) Value.none, DictEntry.mk (PyData.keyHash P (.ofString "__loader__")) (Value.str (.ofString "__loader__") 168) (Value.builtin "__main__.__loader__#opaque"), DictEntry.mk (PyData.keyHash P (.ofString "__spec__")) (Value.str (.ofString "__spec__") 169) Value.none, DictEntry.mk (PyData.keyHash P (.ofString "__annotations__")) (Value.str (.ofString "__annotations__") 170) (Value.ref 6), DictEntry.mk (PyData.keyHash P (.ofString "__builtins__")) (Value.str (.ofString "__builtins__") 171) (Value.ref 4), DictEntry.mk (PyData.keyHash P (.ofString "__file__")) (Value.str (.ofString "__file__") 173) (Value.str (.ofString "/claim/cut.py") 172), DictEntry.mk (PyData.keyHash P (.ofString "__cached__")) (Value.str (.ofString "__cached__") 174) Value.none, DictEntry.mk (PyData.keyHash P (.ofString "_sre")) (Value.str (.ofString "_sre") 275) (Value.ref 12), DictEntry.mk (PyData.keyHash P (.ofString "RuleError")) (Value.str (.ofString "RuleError") 303) (Value.ref 41), DictEntry.mk (PyData.keyHash P (.ofString "_VARS")) (Value.str (.ofString "_VARS") 320) (Value.ref 45), DictEntry.mk (PyData.keyHash P (.ofString "_RULES")) (Value.str (.ofString "_RULES") 526) (Value.ref 50), DictEntry.mk (PyData.keyHash P (.ofString "tokenize_rule")) (Value.str (.ofString "tokenize_rule") 537) (Value.ref 57), DictEntry.mk (PyData.keyHash P (.ofString "test_next_token")) (Value.str (.ofString "test_next_token") 546) (Value.ref 65), DictEntry.mk (PyData.keyHash P (.ofString "skip_token")) (Value.str (.ofString "skip_token") 555) (Value.ref 73), DictEntry.mk (PyData.keyHash P (.ofString "value_node")) (Value.str (.ofString "value_node") 562) (Value.ref 80), DictEntry.mk (PyData.keyHash P (.ofString "ident_node")) (Value.str (.ofString "ident_node") 569) (Value.ref 87), DictEntry.mk (PyData.keyHash P (.ofString "range_list_node")) (Value.str (.ofString "range_list_node") 576) (Value.ref 94), DictEntry.mk (PyData.keyHash P (.ofString "negate")) (Value.str (.ofString "negate") 583) (Value.ref 101), DictEntry.mk (PyData.keyHash P (.ofString "_Parser")) (Value.str (.ofString "_Parser") 694) (Value.ref 182), DictEntry.mk (PyData.keyHash P (.ofString "_law_letters")) (Value.str (.ofString "_law_letters") 705) (Value.ref 187), DictEntry.mk (PyData.keyHash P (.ofString "_law_points")) (Value.str (.ofString "_law_points") 709) (Value.ref 188), DictEntry.mk (PyData.keyHash P (.ofString "_law_heads")) (Value.str (.ofString "_law_heads") 732) (Value.ref 208), DictEntry.mk (PyData.keyHash P (.ofString "_law_marks")) (Value.str (.ofString "_law_marks") 744) (Value.ref 217), DictEntry.mk (PyData.keyHash P (.ofString "_law_foreign")) (Value.str (.ofString "_law_foreign") 755) (Value.ref 223), DictEntry.mk (PyData.keyHash P (.ofString "_law_behind")) (Value.str (.ofString "_law_behind") 768) (Value.ref 230), DictEntry.mk (PyData.keyHash P (.ofString "_law_piece")) (Value.str (.ofString "_law_piece") 789) (Value.ref 237), DictEntry.mk (PyData.keyHash P (.ofString "_law_fold")) (Value.str (.ofString "_law_fold") 799) (Value.ref 244), DictEntry.mk (PyData.keyHash P (.ofString "_law_sentence")) (Value.str (.ofString "_law_sentence") 808) (Value.ref 251)] 30) #[]
noncomputable abbrev ob29_196 (P : Params) : Obj := Obj.mk Value.none none (Data.fields #[Value.int (OfNat.ofNat (α := Int) 3) 0, Value.int (OfNat.ofNat (α := Int) 0) 0, Value.ref 37, Value.int (OfNat.ofNat (α := Int) 7) 0, Value.int (OfNat.ofNat (α := Int) 0) 0, Value.ref 56, Value.int (OfNat.ofNat (α := Int) 20) 0, Value.int (OfNat.ofNat (α := Int) 0) 0, Value.ref 64, Value.int (OfNat.ofNat (α := Int) 22) 0, Value.int (OfNat.ofNat (α := Int) 0) 0, Value.ref 72, Value.int (OfNat.ofNat (α := Int) 25) 0, Value.int (OfNat.ofNat (α := Int) 0) 0, Value.ref 79, Value.int (OfNat.ofNat (α := Int) 27) 0, Value.int (OfNat.ofNat (α := Int) 0) 0, Value.ref 86, Value.int (OfNat.ofNat (α := Int) 29) 0, Value.int (OfNat.ofNat (α := Int) 0) 0, Value.ref 93, Value.int (OfNat.ofNat (α := Int) 31) 0, Value.int (OfNat.ofNat (α := Int) 0) 0, Value.ref 100, Value.int (OfNat.ofNat (α := Int) 33) 0, Value.int (OfNat.ofNat (α := Int) 0) 0, Value.ref 107, Value.int (OfNat.ofNat (α := Int) 125) 0, Value.int (OfNat.ofNat (α := Int) 0) 0, Value.ref 236, Value.int (OfNat.ofNat (α := Int) 162) 0, Value.int (OfNat.ofNat (α := Int) 0) 0, Value.ref 243, Value.int (OfNat.ofNat (α := Int) 167) 0, Value.int (OfNat.ofNat (α := Int) 0) 0, Value.ref 250]) #[]
noncomputable abbrev ob187_197 (P : Params) : Obj := Obj.mk (Value.type "tuple") none (Data.seq #[Value.str (.ofString "n") 697, Value.str (.ofString "i") 698, Value.str (.ofString "v") 699, Value.str (.ofString "w") 700, Value.str (.ofString "f") 701, Value.str (.ofString "t") 702, Value.str (.ofString "c") 703, Value.str (.ofString "e") 704] 0) #[]
noncomputable abbrev ob188_198 (P : Params) : Obj := Obj.mk (Value.type "tuple") none (Data.seq #[Value.str (.ofString "..") 706, Value.str (.ofString "...") 707, Value.str (.ofString "…") 708] 0) #[]
noncomputable abbrev ob189_199 (P : Params) : Obj := Obj.mk (Value.type "tuple") none (Data.seq #[Value.str (.ofString "word") 710, Value.str (.ofString "is") 711] 0) #[]
noncomputable abbrev ob190_200 (P : Params) : Obj := Obj.mk (Value.type "tuple") none (Data.seq #[Value.ref 189] 0) #[]
noncomputable abbrev ob191_201 (P : Params) : Obj := Obj.mk (Value.type "tuple") none (Data.seq #[Value.str (.ofString "word") 712, Value.str (.ofString "is") 713] 0) #[]
noncomputable abbrev ob192_202 (P : Params) : Obj := Obj.mk (Value.type "tuple") none (Data.seq #[Value.str (.ofString "word") 714, Value.str (.ofString "not") 715] 0) #[]
noncomputable abbrev ob193_203 (P : Params) : Obj := Obj.mk (Value.type "tuple") none (Data.seq #[Value.ref 191, Value.ref 192] 0) #[]
noncomputable abbrev ob194_204 (P : Params) : Obj := Obj.mk (Value.type "tuple") none (Data.seq #[Value.str (.ofString "word") 716, Value.str (.ofString "in") 717] 0) #[]
noncomputable abbrev ob195_205 (P : Params) : Obj := Obj.mk (Value.type "tuple") none (Data.seq #[Value.ref 194] 0) #[]
noncomputable abbrev ob196_206 (P : Params) : Obj := Obj.mk (Value.type "tuple") none (Data.seq #[Value.str (.ofString "word") 718, Value.str (.ofString "not") 719] 0) #[]
noncomputable abbrev ob197_207 (P : Params) : Obj := Obj.mk (Value.type "tuple") none (Data.seq #[Value.str (.ofString "word") 720, Value.str (.ofString "in") 721] 0) #[]
noncomputable abbrev ob198_208 (P : Params) : Obj := Obj.mk (Value.type "tuple") none (Data.seq #[Value.ref 196, Value.ref 197] 0) #[]
noncomputable abbrev ob199_209 (P : Params) : Obj := Obj.mk (Value.type "tuple") none (Data.seq #[Value.str (.ofString "word") 722, Value.str (.ofString "within") 723] 0) #[]
noncomputable abbrev ob200_210 (P : Params) : Obj := Obj.mk (Value.type "tuple") none (Data.seq #[Value.ref 199] 0) #[]
noncomputable abbrev ob201_211 (P : Params) : Obj := Obj.mk (Value.type "tuple") none (Data.seq #[Value.str (.ofString "word") 724, Value.str (.ofString "not") 725] 0) #[]
noncomputable abbrev ob202_212 (P : Params) : Obj := Obj.mk (Value.type "tuple") none (Data.seq #[Value.str (.ofString "word") 726, Value.str (.ofString "within") 727] 0) #[]
noncomputable abbrev ob203_213 (P : Params) : Obj := Obj.mk (Value.type "tuple") none (Data.seq #[Value.ref 201, Value.ref 202] 0) #[]
noncomputable abbrev ob204_214 (P : Params) : Obj := Obj.mk (Value.type "tuple") none (Data.seq #[Value.str (.ofString "symbol") 728, Value.str (.ofString "=") 729] 0) #[]
noncomputable abbrev ob205_215 (P : Params) : Obj := Obj.mk (Value.type "tuple") none (Data.seq #[Value.ref 204] 0) #[]
noncomputable abbrev ob206_216 (P : Params) : Obj := Obj.mk (Value.type "tuple") none (Data.seq #[Value.str (.ofString "symbol") 730, Value.str (.ofString "!=") 731] 0) #[]
noncomputable abbrev ob207_217 (P : Params) : Obj := Obj.mk (Value.type "tuple") none (Data.seq #[Value.ref 206] 0) #[]
noncomputable abbrev ob208_218 (P : Params) : Obj := Obj.mk (Value.type "tuple") none (Data.seq #[Value.ref 190, Value.ref 193, Value.ref 195, Value.ref 198, Value.ref 200, Value.ref 203, Value.ref 205, Value.ref 207] 0) #[]
noncomputable abbrev ob209_219 (P : Params) : Obj := Obj.mk (Value.type "tuple") none (Data.seq #[Value.int (OfNat.ofNat (α := Int) 1) 733] 0) #[]
noncomputable abbrev ob210_220 (P : Params) : Obj := Obj.mk (Value.type "tuple") none (Data.seq #[Value.int (OfNat.ofNat (α := Int) 1) 734, Value.int (OfNat.ofNat (α := Int) 3) 735] 0) #[]
noncomputable abbrev ob211_221 (P : Params) : Obj := Obj.mk (Value.type "tuple") none (Data.seq #[Value.int (OfNat.ofNat (α := Int) 1) 736] 0) #[]
noncomputable abbrev ob212_222 (P : Params) : Obj := Obj.mk (Value.type "tuple") none (Data.seq #[Value.int (OfNat.ofNat (α := Int) 1) 737, Value.int (OfNat.ofNat (α := Int) 2) 738] 0) #[]
noncomputable abbrev ob213_223 (P : Params) : Obj := Obj.mk (Value.type "tuple") none (Data.seq #[Value.int (OfNat.ofNat (α := Int) 1) 739] 0) #[]
noncomputable abbrev ob214_224 (P : Params) : Obj := Obj.mk (Value.type "tuple") none (Data.seq #[Value.int (OfNat.ofNat (α := Int) 1) 740, Value.int (OfNat.ofNat (α := Int) 2) 741] 0) #[]
noncomputable abbrev ob215_225 (P : Params) : Obj := Obj.mk (Value.type "tuple") none (Data.seq #[Value.int (OfNat.ofNat (α := Int) 1) 742] 0) #[]
noncomputable abbrev ob216_226 (P : Params) : Obj := Obj.mk (Value.type "tuple") none (Data.seq #[Value.int (OfNat.ofNat (α := Int) 1) 743] 0) #[]
noncomputable abbrev ob217_227 (P : Params) : Obj := Obj.mk (Value.type "tuple") none (Data.seq #[Value.ref 209, Value.ref 210, Value.ref 211, Value.ref 212, Value.ref 213, Value.ref 214, Value.ref 215, Value.ref 216] 0) #[]
noncomputable abbrev ob218_228 (P : Params) : Obj := Obj.mk (Value.type "tuple") none (Data.seq #[Value.str (.ofString "word") 745, Value.str (.ofString "or") 746] 0) #[]
noncomputable abbrev ob219_229 (P : Params) : Obj := Obj.mk (Value.type "tuple") none (Data.seq #[Value.str (.ofString "word") 747, Value.str (.ofString "and") 748] 0) #[]
noncomputable abbrev ob220_230 (P : Params) : Obj := Obj.mk (Value.type "tuple") none (Data.seq #[Value.str (.ofString "symbol") 749, Value.str (.ofString ",") 750] 0) #[]
noncomputable abbrev ob221_231 (P : Params) : Obj := Obj.mk (Value.type "tuple") none (Data.seq #[Value.str (.ofString "ellipsis") 751, Value.str (.ofString "...") 752] 0) #[]
noncomputable abbrev ob222_232 (P : Params) : Obj := Obj.mk (Value.type "tuple") none (Data.seq #[Value.str (.ofString "ellipsis") 753, Value.str (.ofString "…") 754] 0) #[]
noncomputable abbrev ob223_233 (P : Params) : Obj := Obj.mk (Value.type "tuple") none (Data.seq #[Value.ref 218, Value.ref 219, Value.ref 220, Value.ref 221, Value.ref 222] 0) #[]
noncomputable abbrev ob224_234 (P : Params) : Obj := Obj.mk (Value.type "tuple") none (Data.seq #[Value.str (.ofString "word") 756, Value.str (.ofString "n") 757] 0) #[]
noncomputable abbrev ob225_235 (P : Params) : Obj := Obj.mk (Value.type "tuple") none (Data.seq #[Value.str (.ofString "word") 758, Value.str (.ofString "is") 759] 0) #[]
noncomputable abbrev ob226_236 (P : Params) : Obj := Obj.mk (Value.type "tuple") none (Data.seq #[Value.str (.ofString "value") 760, Value.str (.ofString "3") 761] 0) #[]
noncomputable abbrev ob227_237 (P : Params) : Obj := Obj.mk (Value.type "tuple") none (Data.seq #[Value.str (.ofString "symbol") 762, Value.str (.ofString "=") 763] 0) #[]
noncomputable abbrev ob228_238 (P : Params) : Obj := Obj.mk (Value.type "tuple") none (Data.seq #[Value.str (.ofString "word") 764, Value.str (.ofString "mod") 765] 0) #[]
noncomputable abbrev ob229_239 (P : Params) : Obj := Obj.mk (Value.type "tuple") none (Data.seq #[Value.str (.ofString "symbol") 766, Value.str (.ofString "%") 767] 0) #[]
noncomputable abbrev ob230_240 (P : Params) : Obj := Obj.mk (Value.type "tuple") none (Data.seq #[Value.ref 224, Value.ref 225, Value.ref 226, Value.ref 227, Value.ref 228, Value.ref 229] 0) #[]
noncomputable abbrev ob231_241 (P : Params) : Obj := Obj.mk (Value.type "tuple") none (Data.seq #[] 0) #[]
noncomputable abbrev ob232_242 (P : Params) : Obj := Obj.mk Value.none none (Data.fields #[]) #[]
noncomputable abbrev ob233_243 (P : Params) : Obj := Obj.mk (Value.type "tuple") none (Data.seq #[Value.str (.ofString "a") 772, Value.str (.ofString "b") 773, Value.str (.ofString "letter") 774, Value.str (.ofString "words") 775, Value.str (.ofString "marks") 776, Value.str (.ofString "left") 777, Value.str (.ofString "c") 778, Value.str (.ofString "v") 779, Value.str (.ofString "way") 780, Value.str (.ofString "d") 781, Value.str (.ofString "pairs") 782, Value.str (.ofString "k") 783, Value.str (.ofString "e") 784, Value.str (.ofString "low") 785, Value.str (.ofString "told") 786] 0) #[]
noncomputable abbrev ob234_244 (P : Params) : Obj := Obj.mk (Value.type "tuple") none (Data.seq #[] 0) #[]
noncomputable abbrev ob235_245 (P : Params) : Obj := Obj.mk Value.none none (Data.func (FuncData.mk (.ofString "_law_piece") (.ofString "_law_piece") (aOf (stAt 20)) (FuncBody.stmts (bOf (stAt 20))) (sOf (stAt 20)) 0 [] Value.none Value.none Value.none Value.none none Value.none Value.none 0)) #[]
noncomputable abbrev ob236_246 (P : Params) : Obj := Obj.mk (Value.type "code") none (Data.fields #[Value.str (.ofString "_law_piece") 769, Value.str (.ofString "_law_piece") 770, Value.str (.ofString "/claim/cut.py") 771, Value.int (OfNat.ofNat (α := Int) 125) 0, Value.int (OfNat.ofNat (α := Int) 2) 0, Value.int (OfNat.ofNat (α := Int) 0) 0, Value.int (OfNat.ofNat (α := Int) 0) 0, Value.int (OfNat.ofNat (α := Int) 3) 0, Value.ref 231, Value.bool Bool.true, Value.int (OfNat.ofNat (α := Int) 276) 0, Value.ref 232, Value.none, Value.ref 233, Value.ref 234, Value.ref 235, Value.int (OfNat.ofNat (α := Int) 787) 0, Value.int (OfNat.ofNat (α := Int) 125) 0, Value.str (.ofString "/claim/cut.py") 788]) #[]
noncomputable abbrev ob237_247 (P : Params) : Obj := Obj.mk (Value.type "function") none (Data.func (FuncData.mk (.ofString "_law_piece") (.ofString "_law_piece") (aOf (stAt 20)) (FuncBody.stmts (bOf (stAt 20))) (sOf (stAt 20)) 3 [] Value.none Value.none Value.none (Value.str (.ofString "law_ew5004_02") 695) none (Value.ref 236) Value.none 0)) #[]
noncomputable abbrev ob238_248 (P : Params) : Obj := Obj.mk (Value.type "tuple") none (Data.seq #[] 0) #[]
noncomputable abbrev ob239_249 (P : Params) : Obj := Obj.mk Value.none none (Data.fields #[]) #[]
noncomputable abbrev ob240_250 (P : Params) : Obj := Obj.mk (Value.type "tuple") none (Data.seq #[Value.str (.ofString "word") 793, Value.str (.ofString "items") 794, Value.str (.ofString "told") 795, Value.str (.ofString "item") 796] 0) #[]
noncomputable abbrev ob241_251 (P : Params) : Obj := Obj.mk (Value.type "tuple") none (Data.seq #[] 0) #[]
noncomputable abbrev ob242_252 (P : Params) : Obj := Obj.mk Value.none none (Data.func (FuncData.mk (.ofString "_law_fold") (.ofString "_law_fold") (aOf (stAt 21)) (FuncBody.stmts (bOf (stAt 21))) (sOf (stAt 21)) 0 [] Value.none Value.none Value.none Value.none none Value.none Value.none 0)) #[]
noncomputable abbrev ob243_253 (P : Params) : Obj := Obj.mk (Value.type "code") none (Data.fields #[Value.str (.ofString "_law_fold") 790, Value.str (.ofString "_law_fold") 791, Value.str (.ofString "/claim/cut.py") 792, Value.int (OfNat.ofNat (α := Int) 162) 0, Value.int (OfNat.ofNat (α := Int) 2) 0, Value.int (OfNat.ofNat (α := Int) 0) 0, Value.int (OfNat.ofNat (α := Int) 0) 0, Value.int (OfNat.ofNat (α := Int) 3) 0, Value.ref 238, Value.bool Bool.true, Value.int (OfNat.ofNat (α := Int) 276) 0, Value.ref 239, Value.none, Value.ref 240, Value.ref 241, Value.ref 242, Value.int (OfNat.ofNat (α := Int) 797) 0, Value.int (OfNat.ofNat (α := Int) 162) 0, Value.str (.ofString "/claim/cut.py") 798]) #[]
noncomputable abbrev ob244_254 (P : Params) : Obj := Obj.mk (Value.type "function") none (Data.func (FuncData.mk (.ofString "_law_fold") (.ofString "_law_fold") (aOf (stAt 21)) (FuncBody.stmts (bOf (stAt 21))) (sOf (stAt 21)) 3 [] Value.none Value.none Value.none (Value.str (.ofString "law_ew5004_02") 695) none (Value.ref 243) Value.none 0)) #[]
noncomputable abbrev ob245_255 (P : Params) : Obj := Obj.mk (Value.type "tuple") none (Data.seq #[] 0) #[]
noncomputable abbrev ob246_256 (P : Params) : Obj := Obj.mk Value.none none (Data.fields #[]) #[]
noncomputable abbrev ob247_257 (P : Params) : Obj := Obj.mk (Value.type "tuple") none (Data.seq #[Value.str (.ofString "mark") 803, Value.str (.ofString "cut") 804, Value.str (.ofString "foreign") 805] 0) #[]
noncomputable abbrev ob248_258 (P : Params) : Obj := Obj.mk (Value.type "tuple") none (Data.seq #[] 0) #[]
noncomputable abbrev ob249_259 (P : Params) : Obj := Obj.mk Value.none none (Data.func (FuncData.mk (.ofString "_law_sentence") (.ofString "_law_sentence") (aOf (stAt 22)) (FuncBody.stmts (bOf (stAt 22))) (sOf (stAt 22)) 0 [] Value.none Value.none Value.none Value.none none Value.none Value.none 0)) #[]
noncomputable abbrev ob250_260 (P : Params) : Obj := Obj.mk (Value.type "code") none (Data.fields #[Value.str (.ofString "_law_sentence") 800, Value.str (.ofString "_law_sentence") 801, Value.str (.ofString "/claim/cut.py") 802, Value.int (OfNat.ofNat (α := Int) 167) 0, Value.int (OfNat.ofNat (α := Int) 3) 0, Value.int (OfNat.ofNat (α := Int) 0) 0, Value.int (OfNat.ofNat (α := Int) 0) 0, Value.int (OfNat.ofNat (α := Int) 3) 0, Value.ref 245, Value.bool Bool.true, Value.int (OfNat.ofNat (α := Int) 276) 0, Value.ref 246, Value.none, Value.ref 247, Value.ref 248, Value.ref 249, Value.int (OfNat.ofNat (α := Int) 806) 0, Value.int (OfNat.ofNat (α := Int) 167) 0, Value.str (.ofString "/claim/cut.py") 807]) #[]
noncomputable abbrev ob251_261 (P : Params) : Obj := Obj.mk (Value.type "function") none (Data.func (FuncData.mk (.ofString "_law_sentence") (.ofString "_law_sentence") (aOf (stAt 22)) (FuncBody.stmts (bOf (stAt 22))) (sOf (stAt 22)) 3 [] Value.none Value.none Value.none (Value.str (.ofString "law_ew5004_02") 695) none (Value.ref 250) Value.none 0)) #[]
noncomputable abbrev ob3_262 (P : Params) : Obj := Obj.mk (Value.type "dict") none (Data.dict #[DictEntry.mk (PyData.keyHash P (.ofString "__name__")) (Value.str (.ofString "__name__") 165) (Value.str (.ofString "law_ew5004_02") 695), DictEntry.mk (PyData.keyHash P (.ofString "__doc__")) (Value.str (.ofString "__doc__") 166) Value.none, DictEntry.mk (PyData.keyHash P (.ofString "__package__")) (Value.str (.ofString "__package__") 167) Value.none, DictEntry.mk (PyData.keyHash P (.ofString "__loader__")) (Value.str (.ofString "__loader__") 168) (Value.builtin "__main__.__loader__#opaque"), DictEntry.mk (PyData.keyHash P (.ofString "__spec__")) (Value.str (.ofString "__spec__") 169) Value.none, DictEntry.mk (PyData.keyHash P (.ofString "__annotations__")) (Value.str (.ofString "__annotations__") 170) (Value.ref 6), DictEntry.mk (PyData.keyHash P (.ofString "__builtins__")) (Value.str (.ofString "__builtins__") 171) (Value.ref 4), DictEntry.mk (PyData.keyHash P (.ofString "__file__")) (Value.str (.ofString "__file__") 173) (Value.str (.ofString "/claim/cut.py") 172), DictEntry.mk (PyData.keyHash P (.ofString "__cached__")) (Value.str (.ofString "__cached__") 174) Value.none, DictEntry.mk (PyData.keyHash P (.ofString "_sre")) (Value.str (.ofString "_sre") 275) (Value.ref 12), DictEntry.mk (PyData.keyHash P (.ofString "RuleError")) (Value.str (.ofString "RuleError") 303) (Value.ref 41), DictEntry.mk (PyData.keyHash P (.ofString "_VARS")) (Value.str (.ofString "_VARS") 320) (Value.ref 45), DictEntry.mk (PyData.keyHash P (.ofString "_RULES")) (Value.str (.ofString "_RULES") 526) (Value.ref 50), DictEntry.mk (PyData.keyHash P (.ofString "tokenize_rule")) (Value.str (.ofString "tokenize_rule") 537) (Value.ref 57), DictEntry.mk (PyData.keyHash P (.ofString "test_next_token")) (Value.str (.ofString "test_next_token") 546) (Value.ref 65), DictEntry.mk (PyData.keyHash P (.ofString "skip_token")) (Value.str (.ofString "skip_token") 555) (Value.ref 73), DictEntry.mk (PyData.keyHash P (.ofString "value_node")) (Value.str (.ofString "value_node") 562) (Value.ref 80), DictEntry.mk (PyData.keyHash P (.ofString "ident_node")) (Value.str (.ofString "ident_node") 569) (Value.ref 87), DictEntry.mk (PyData.keyHash P (.ofString "range_list_node")) (Value.str (.ofString "range_list_node") 576) (Value.ref 94), DictEntry.mk (PyData.keyHash P (.ofString "negate")) (Value.str (.ofString "negate") 583) (Value.ref 101), DictEntry.mk (PyData.keyHash P (.ofString "_Parser")) (Value.str (.ofString "_Parser") 694) (Value.ref 182), DictEntry.mk (PyData.keyHash P (.ofString "_law_letters")) (Value.str (.ofString "_law_letters") 705) (Value.ref 187), DictEntry.mk (PyData.keyHash P (.ofString "_law_points")) (Value.str (.ofString "_law_points") 709) (Value.ref 188), DictEntry.mk (PyData.keyHash P (.ofString "_law_heads")) (Value.str (.ofString "_law_heads") 732) (Value.ref 208), DictEntry.mk (PyData.keyHash P (.ofString "_law_marks")) (Value.str (.ofString "_law_marks") 744) (Value.ref 217), DictEntry.mk (PyData.keyHash P (.ofString "_law_foreign")) (Value.str (.ofString "_law_foreign") 755) (Value.ref 223), DictEntry.mk (PyData.keyHash P (.ofString "_law_behind")) (Value.str (.ofString "_law_behind") 768) (Value.ref 230), DictEntry.mk (PyData.keyHash P (.ofString "_law_piece")) (Value.str (.ofString "_law_piece") 789) (Value.ref 237), DictEntry.mk (PyData.keyHash P (.ofString "_law_fold")) (Value.str (.ofString "_law_fold") 799) (Value.ref 244), DictEntry.mk (PyData.keyHash P (.ofString "_law_sentence")) (Value.str (.ofString "_law_sentence") 808) (Value.ref 251), DictEntry.mk (PyData.keyHash P (.ofString "_law_read")) (Value.str (.ofString "_law_read") 817) (Value.ref 258), DictEntry.mk (PyData.keyHash P (.ofString "law")) (Value.str (.ofString "law") 823) (Value.ref 263)] 32) #[]
noncomputable abbrev ob29_263 (P : Params) : Obj := Obj.mk Value.none none (Data.fields #[Value.int (OfNat.ofNat (α := Int) 3) 0, Value.int (OfNat.ofNat (α := Int) 0) 0, Value.ref 37, Value.int (OfNat.ofNat (α := Int) 7) 0, Value.int (OfNat.ofNat (α := Int) 0) 0, Value.ref 56, Value.int (OfNat.ofNat (α := Int) 20) 0, Value.int (OfNat.ofNat (α := Int) 0) 0, Value.ref 64, Value.int (OfNat.ofNat (α := Int) 22) 0, Value.int (OfNat.ofNat (α := Int) 0) 0, Value.ref 72, Value.int (OfNat.ofNat (α := Int) 25) 0, Value.int (OfNat.ofNat (α := Int) 0) 0, Value.ref 79, Value.int (OfNat.ofNat (α := Int) 27) 0, Value.int (OfNat.ofNat (α := Int) 0) 0, Value.ref 86, Value.int (OfNat.ofNat (α := Int) 29) 0, Value.int (OfNat.ofNat (α := Int) 0) 0, Value.ref 93, Value.int (OfNat.ofNat (α := Int) 31) 0, Value.int (OfNat.ofNat (α := Int) 0) 0, Value.ref 100, Value.int (OfNat.ofNat (α := Int) 33) 0, Value.int (OfNat.ofNat (α := Int) 0) 0, Value.ref 107, Value.int (OfNat.ofNat (α := Int) 125) 0, Value.int (OfNat.ofNat (α := Int) 0) 0, Value.ref 236, Value.int (OfNat.ofNat (α := Int) 162) 0, Value.int (OfNat.ofNat (α := Int) 0) 0, Value.ref 243, Value.int (OfNat.ofNat (α := Int) 167) 0, Value.int (OfNat.ofNat (α := Int) 0) 0, Value.ref 250, Value.int (OfNat.ofNat (α := Int) 175) 0, Value.int (OfNat.ofNat (α := Int) 0) 0, Value.ref 257, Value.int (OfNat.ofNat (α := Int) 184) 0, Value.int (OfNat.ofNat (α := Int) 0) 0, Value.ref 262]) #[]
noncomputable abbrev ob252_264 (P : Params) : Obj := Obj.mk (Value.type "tuple") none (Data.seq #[] 0) #[]
noncomputable abbrev ob253_265 (P : Params) : Obj := Obj.mk Value.none none (Data.fields #[]) #[]
noncomputable abbrev ob254_266 (P : Params) : Obj := Obj.mk (Value.type "tuple") none (Data.seq #[Value.str (.ofString "p") 812, Value.str (.ofString "reader") 813, Value.str (.ofString "fault") 814] 0) #[]
noncomputable abbrev ob255_267 (P : Params) : Obj := Obj.mk (Value.type "tuple") none (Data.seq #[] 0) #[]
noncomputable abbrev ob256_268 (P : Params) : Obj := Obj.mk Value.none none (Data.func (FuncData.mk (.ofString "_law_read") (.ofString "_law_read") (aOf (stAt 23)) (FuncBody.stmts (bOf (stAt 23))) (sOf (stAt 23)) 0 [] Value.none Value.none Value.none Value.none none Value.none Value.none 0)) #[]
noncomputable abbrev ob257_269 (P : Params) : Obj := Obj.mk (Value.type "code") none (Data.fields #[Value.str (.ofString "_law_read") 809, Value.str (.ofString "_law_read") 810, Value.str (.ofString "/claim/cut.py") 811, Value.int (OfNat.ofNat (α := Int) 175) 0, Value.int (OfNat.ofNat (α := Int) 2) 0, Value.int (OfNat.ofNat (α := Int) 0) 0, Value.int (OfNat.ofNat (α := Int) 0) 0, Value.int (OfNat.ofNat (α := Int) 3) 0, Value.ref 252, Value.bool Bool.true, Value.int (OfNat.ofNat (α := Int) 276) 0, Value.ref 253, Value.none, Value.ref 254, Value.ref 255, Value.ref 256, Value.int (OfNat.ofNat (α := Int) 815) 0, Value.int (OfNat.ofNat (α := Int) 175) 0, Value.str (.ofString "/claim/cut.py") 816]) #[]
noncomputable abbrev ob258_270 (P : Params) : Obj := Obj.mk (Value.type "function") none (Data.func (FuncData.mk (.ofString "_law_read") (.ofString "_law_read") (aOf (stAt 23)) (FuncBody.stmts (bOf (stAt 23))) (sOf (stAt 23)) 3 [] Value.none Value.none Value.none (Value.str (.ofString "law_ew5004_02") 695) none (Value.ref 257) Value.none 0)) #[]
noncomputable abbrev ob259_271 (P : Params) : Obj := Obj.mk (Value.type "tuple") none (Data.seq #[] 0) #[]
noncomputable abbrev ob260_272 (P : Params) : Obj := Obj.mk Value.none none (Data.fields #[]) #[]
noncomputable abbrev ob261_273 (P : Params) : Obj := Obj.mk Value.none none (Data.func (FuncData.mk (.ofString "law") (.ofString "law") (aOf (stAt 24)) (FuncBody.stmts (bOf (stAt 24))) (sOf (stAt 24)) 0 [] Value.none Value.none Value.none Value.none none Value.none Value.none 0)) #[]
noncomputable abbrev ob262_274 (P : Params) : Obj := Obj.mk (Value.type "code") none (Data.fields #[Value.str (.ofString "law") 818, Value.str (.ofString "law") 819, Value.str (.ofString "/claim/cut.py") 820, Value.int (OfNat.ofNat (α := Int) 184) 0, Value.int (OfNat.ofNat (α := Int) 1) 0, Value.int (OfNat.ofNat (α := Int) 0) 0, Value.int (OfNat.ofNat (α := Int) 0) 0, Value.int (OfNat.ofNat (α := Int) 3) 0, Value.ref 259, Value.bool Bool.true, Value.int (OfNat.ofNat (α := Int) 276) 0, Value.ref 260, Value.none, Value.none, Value.none, Value.ref 261, Value.int (OfNat.ofNat (α := Int) 821) 0, Value.int (OfNat.ofNat (α := Int) 184) 0, Value.str (.ofString "/claim/cut.py") 822]) #[]
noncomputable abbrev ob263_275 (P : Params) : Obj := Obj.mk (Value.type "function") none (Data.func (FuncData.mk (.ofString "law") (.ofString "law") (aOf (stAt 24)) (FuncBody.stmts (bOf (stAt 24))) (sOf (stAt 24)) 3 [] Value.none Value.none Value.none (Value.str (.ofString "law_ew5004_02") 695) none (Value.ref 262) Value.none 0)) #[]
noncomputable abbrev s2_n : Nat := 46
noncomputable abbrev s2_drawn : Drawn := Drawn.mk 0 0 0 0
noncomputable abbrev s2_toks : Nat := 321
noncomputable abbrev sf_drawn : Drawn := Drawn.mk 0 0 0 0
noncomputable abbrev pos11 : Pos := Pos.mk 33 0 117 55
noncomputable abbrev sf_life : Life := Life.mk [] [] [] 0 [] [] Bool.false #[] [] 0 Bool.false Bool.false Bool.false (OfNat.ofNat (α := Int) 0) [OfNat.ofNat (α := Int) 2000, OfNat.ofNat (α := Int) 10, OfNat.ofNat (α := Int) 10] Bool.false 0 Bool.true [] [] 0 Bool.false
noncomputable abbrev s11_drawn : Drawn := Drawn.mk 0 0 0 0
noncomputable abbrev s21_toks : Nat := 809
noncomputable abbrev sb_list (P : Params) : @List Obj := [ob0_0 P, ob1_1 P, ob2_2 P, ob3_3 P, ob4_4 P, ob5_5 P, ob6_6 P, ob7_7 P, ob8_8 P, ob9_9 P, ob10_10 P, ob11_11 P, ob12_12 P, ob13_13 P, ob14_14 P, ob15_15 P, ob16_16 P, ob17_17 P, ob18_18 P, ob19_19 P, ob20_20 P, ob21_21 P, ob22_22 P, ob23_23 P, ob24_24 P, ob25_25 P, ob26_26 P, ob27_27 P, ob28_28 P, ob29_29 P, ob30_30 P, ob31_31 P]
noncomputable abbrev sa_n : Nat := 32
noncomputable abbrev s11_list (P : Params) : @List Obj := [ob0_0 P, ob1_1 P, ob2_32 P, ob3_108 P, ob4_4 P, ob5_5 P, ob6_6 P, ob7_7 P, ob8_8 P, ob9_9 P, ob10_10 P, ob11_11 P, ob12_12 P, ob13_13 P, ob14_14 P, ob15_15 P, ob16_16 P, ob17_17 P, ob18_18 P, ob19_19 P, ob20_20 P, ob21_21 P, ob22_22 P, ob23_23 P, ob24_24 P, ob25_25 P, ob26_26 P, ob27_27 P, ob28_28 P, ob29_109 P, ob30_30 P, ob31_31 P, ob32_35 P, ob33_36 P, ob34_37 P, ob35_38 P, ob36_39 P, ob37_40 P, ob38_41 P, ob39_42 P, ob40_43 P, ob41_44 P, ob42_45 P, ob43_46 P, ob44_47 P, varsObj P, ob46_50 P, ob47_51 P, ob48_52 P, ob49_53 P, ob50_54 P, ob51_57 P, ob52_58 P, ob53_59 P, ob54_60 P, ob55_61 P, ob56_62 P, ob57_63 P, ob58_64 P, ob59_65 P, ob60_66 P, ob61_67 P, ob62_68 P, ob63_69 P, ob64_70 P, ob65_71 P, ob66_72 P, ob67_73 P, ob68_74 P, ob69_75 P, ob70_76 P, ob71_77 P, ob72_78 P, ob73_79 P, ob74_80 P, ob75_81 P, ob76_82 P, ob77_83 P, ob78_84 P, ob79_85 P, ob80_86 P, ob81_87 P, ob82_88 P, ob83_89 P, ob84_90 P, ob85_91 P, ob86_92 P, ob87_93 P, ob88_94 P, ob89_95 P, ob90_96 P, ob91_97 P, ob92_98 P, ob93_99 P, ob94_100 P, ob95_101 P, ob96_102 P, ob97_103 P, ob98_104 P, ob99_105 P, ob100_106 P, ob101_107 P, ob102_110 P, ob103_111 P, ob104_112 P, ob105_113 P, ob106_114 P, ob107_115 P, ob108_116 P, ob109_117 P, ob110_118 P, ob111_119 P, ob112_120 P, ob113_121 P, ob114_122 P, ob115_123 P, ob116_124 P, ob117_125 P, ob118_126 P, ob119_127 P, ob120_128 P, ob121_129 P, ob122_130 P, ob123_131 P, ob124_132 P, ob125_133 P, ob126_134 P, ob127_135 P, ob128_136 P, ob129_137 P, ob130_138 P, ob131_139 P, ob132_140 P, ob133_141 P, ob134_142 P, ob135_143 P, ob136_144 P, ob137_145 P, ob138_146 P, ob139_147 P, ob140_148 P, ob141_149 P, ob142_150 P, ob143_151 P, ob144_152 P, ob145_153 P, ob146_154 P, ob147_155 P, ob148_156 P, ob149_157 P, ob150_158 P, ob151_159 P, ob152_160 P, ob153_161 P, ob154_162 P, ob155_163 P, ob156_164 P, ob157_165 P, ob158_166 P, ob159_167 P, ob160_168 P, ob161_169 P, ob162_170 P, ob163_171 P, ob164_172 P, ob165_173 P, ob166_174 P, ob167_175 P, ob168_176 P, ob169_177 P, ob170_178 P, ob171_179 P, ob172_180 P, ob173_181 P, ob174_182 P, ob175_183 P, ob176_184 P, ob177_185 P, ob178_186 P, ob179_187 P, ob180_188 P, ob181_189 P, ob182_190 P, ob183_191 P, ob184_192 P, ob185_193 P, ob186_194 P]
noncomputable abbrev s10_tree (P : Params) : W.BT := W.BT.node (ob0_0 P) (W.BT.node (ob1_1 P) (W.BT.node (ob3_55 P) (W.BT.node (ob7_7 P) (W.BT.node (ob15_15 P) (W.BT.node (ob31_31 P) (W.BT.node (ob63_69 P) W.BT.nil W.BT.nil) (W.BT.node (ob95_101 P) W.BT.nil W.BT.nil)) (W.BT.node (ob47_51 P) (W.BT.node (ob79_85 P) W.BT.nil W.BT.nil) W.BT.nil)) (W.BT.node (ob23_23 P) (W.BT.node (ob39_42 P) (W.BT.node (ob71_77 P) W.BT.nil W.BT.nil) W.BT.nil) (W.BT.node (ob55_61 P) (W.BT.node (ob87_93 P) W.BT.nil W.BT.nil) W.BT.nil))) (W.BT.node (ob11_11 P) (W.BT.node (ob19_19 P) (W.BT.node (ob35_38 P) (W.BT.node (ob67_73 P) W.BT.nil W.BT.nil) (W.BT.node (ob99_105 P) W.BT.nil W.BT.nil)) (W.BT.node (ob51_57 P) (W.BT.node (ob83_89 P) W.BT.nil W.BT.nil) W.BT.nil)) (W.BT.node (ob27_27 P) (W.BT.node (ob43_46 P) (W.BT.node (ob75_81 P) W.BT.nil W.BT.nil) W.BT.nil) (W.BT.node (ob59_65 P) (W.BT.node (ob91_97 P) W.BT.nil W.BT.nil) W.BT.nil)))) (W.BT.node (ob5_5 P) (W.BT.node (ob9_9 P) (W.BT.node (ob17_17 P) (W.BT.node (ob33_36 P) (W.BT.node (ob65_71 P) W.BT.nil W.BT.nil) (W.BT.node (ob97_103 P) W.BT.nil W.BT.nil)) (W.BT.node (ob49_53 P) (W.BT.node (ob81_87 P) W.BT.nil W.BT.nil) W.BT.nil)) (W.BT.node (ob25_25 P) (W.BT.node (ob41_44 P) (W.BT.node (ob73_79 P) W.BT.nil W.BT.nil) W.BT.nil) (W.BT.node (ob57_63 P) (W.BT.node (ob89_95 P) W.BT.nil W.BT.nil) W.BT.nil))) (W.BT.node (ob13_13 P) (W.BT.node (ob21_21 P) (W.BT.node (ob37_40 P) (W.BT.node (ob69_75 P) W.BT.nil W.BT.nil) (W.BT.node (ob101_107 P) W.BT.nil W.BT.nil)) (W.BT.node (ob53_59 P) (W.BT.node (ob85_91 P) W.BT.nil W.BT.nil) W.BT.nil)) (W.BT.node (ob29_56 P) (W.BT.node (varsObj P) (W.BT.node (ob77_83 P) W.BT.nil W.BT.nil) W.BT.nil) (W.BT.node (ob61_67 P) (W.BT.node (ob93_99 P) W.BT.nil W.BT.nil) W.BT.nil))))) (W.BT.node (ob2_32 P) (W.BT.node (ob4_4 P) (W.BT.node (ob8_8 P) (W.BT.node (ob16_16 P) (W.BT.node (ob32_35 P) (W.BT.node (ob64_70 P) W.BT.nil W.BT.nil) (W.BT.node (ob96_102 P) W.BT.nil W.BT.nil)) (W.BT.node (ob48_52 P) (W.BT.node (ob80_86 P) W.BT.nil W.BT.nil) W.BT.nil)) (W.BT.node (ob24_24 P) (W.BT.node (ob40_43 P) (W.BT.node (ob72_78 P) W.BT.nil W.BT.nil) W.BT.nil) (W.BT.node (ob56_62 P) (W.BT.node (ob88_94 P) W.BT.nil W.BT.nil) W.BT.nil))) (W.BT.node (ob12_12 P) (W.BT.node (ob20_20 P) (W.BT.node (ob36_39 P) (W.BT.node (ob68_74 P) W.BT.nil W.BT.nil) (W.BT.node (ob100_106 P) W.BT.nil W.BT.nil)) (W.BT.node (ob52_58 P) (W.BT.node (ob84_90 P) W.BT.nil W.BT.nil) W.BT.nil)) (W.BT.node (ob28_28 P) (W.BT.node (ob44_47 P) (W.BT.node (ob76_82 P) W.BT.nil W.BT.nil) W.BT.nil) (W.BT.node (ob60_66 P) (W.BT.node (ob92_98 P) W.BT.nil W.BT.nil) W.BT.nil)))) (W.BT.node (ob6_6 P) (W.BT.node (ob10_10 P) (W.BT.node (ob18_18 P) (W.BT.node (ob34_37 P) (W.BT.node (ob66_72 P) W.BT.nil W.BT.nil) (W.BT.node (ob98_104 P) W.BT.nil W.BT.nil)) (W.BT.node (ob50_54 P) (W.BT.node (ob82_88 P) W.BT.nil W.BT.nil) W.BT.nil)) (W.BT.node (ob26_26 P) (W.BT.node (ob42_45 P) (W.BT.node (ob74_80 P) W.BT.nil W.BT.nil) W.BT.nil) (W.BT.node (ob58_64 P) (W.BT.node (ob90_96 P) W.BT.nil W.BT.nil) W.BT.nil))) (W.BT.node (ob14_14 P) (W.BT.node (ob22_22 P) (W.BT.node (ob38_41 P) (W.BT.node (ob70_76 P) W.BT.nil W.BT.nil) W.BT.nil) (W.BT.node (ob54_60 P) (W.BT.node (ob86_92 P) W.BT.nil W.BT.nil) W.BT.nil)) (W.BT.node (ob30_30 P) (W.BT.node (ob46_50 P) (W.BT.node (ob78_84 P) W.BT.nil W.BT.nil) W.BT.nil) (W.BT.node (ob62_68 P) (W.BT.node (ob94_100 P) W.BT.nil W.BT.nil) W.BT.nil)))))
noncomputable abbrev pos10 : Pos := Pos.mk 31 0 32 25
noncomputable abbrev s3_toks : Nat := 527
noncomputable abbrev s0_toks : Nat := 276
noncomputable abbrev s2_list (P : Params) : @List Obj := [ob0_0 P, ob1_1 P, ob2_32 P, ob3_48 P, ob4_4 P, ob5_5 P, ob6_6 P, ob7_7 P, ob8_8 P, ob9_9 P, ob10_10 P, ob11_11 P, ob12_12 P, ob13_13 P, ob14_14 P, ob15_15 P, ob16_16 P, ob17_17 P, ob18_18 P, ob19_19 P, ob20_20 P, ob21_21 P, ob22_22 P, ob23_23 P, ob24_24 P, ob25_25 P, ob26_26 P, ob27_27 P, ob28_28 P, ob29_34 P, ob30_30 P, ob31_31 P, ob32_35 P, ob33_36 P, ob34_37 P, ob35_38 P, ob36_39 P, ob37_40 P, ob38_41 P, ob39_42 P, ob40_43 P, ob41_44 P, ob42_45 P, ob43_46 P, ob44_47 P, varsObj P]
noncomputable abbrev pos21 : Pos := Pos.mk 167 0 174 113
noncomputable abbrev s1_tree (P : Params) : W.BT := W.BT.node (ob0_0 P) (W.BT.node (ob1_1 P) (W.BT.node (ob3_33 P) (W.BT.node (ob7_7 P) (W.BT.node (ob15_15 P) (W.BT.node (ob31_31 P) W.BT.nil W.BT.nil) W.BT.nil) (W.BT.node (ob23_23 P) (W.BT.node (ob39_42 P) W.BT.nil W.BT.nil) W.BT.nil)) (W.BT.node (ob11_11 P) (W.BT.node (ob19_19 P) (W.BT.node (ob35_38 P) W.BT.nil W.BT.nil) W.BT.nil) (W.BT.node (ob27_27 P) (W.BT.node (ob43_46 P) W.BT.nil W.BT.nil) W.BT.nil))) (W.BT.node (ob5_5 P) (W.BT.node (ob9_9 P) (W.BT.node (ob17_17 P) (W.BT.node (ob33_36 P) W.BT.nil W.BT.nil) W.BT.nil) (W.BT.node (ob25_25 P) (W.BT.node (ob41_44 P) W.BT.nil W.BT.nil) W.BT.nil)) (W.BT.node (ob13_13 P) (W.BT.node (ob21_21 P) (W.BT.node (ob37_40 P) W.BT.nil W.BT.nil) W.BT.nil) (W.BT.node (ob29_34 P) W.BT.nil W.BT.nil)))) (W.BT.node (ob2_32 P) (W.BT.node (ob4_4 P) (W.BT.node (ob8_8 P) (W.BT.node (ob16_16 P) (W.BT.node (ob32_35 P) W.BT.nil W.BT.nil) W.BT.nil) (W.BT.node (ob24_24 P) (W.BT.node (ob40_43 P) W.BT.nil W.BT.nil) W.BT.nil)) (W.BT.node (ob12_12 P) (W.BT.node (ob20_20 P) (W.BT.node (ob36_39 P) W.BT.nil W.BT.nil) W.BT.nil) (W.BT.node (ob28_28 P) (W.BT.node (ob44_47 P) W.BT.nil W.BT.nil) W.BT.nil))) (W.BT.node (ob6_6 P) (W.BT.node (ob10_10 P) (W.BT.node (ob18_18 P) (W.BT.node (ob34_37 P) W.BT.nil W.BT.nil) W.BT.nil) (W.BT.node (ob26_26 P) (W.BT.node (ob42_45 P) W.BT.nil W.BT.nil) W.BT.nil)) (W.BT.node (ob14_14 P) (W.BT.node (ob22_22 P) (W.BT.node (ob38_41 P) W.BT.nil W.BT.nil) W.BT.nil) (W.BT.node (ob30_30 P) W.BT.nil W.BT.nil))))
noncomputable abbrev s0_tree (P : Params) : W.BT := W.BT.node (ob0_0 P) (W.BT.node (ob1_1 P) (W.BT.node (ob3_3 P) (W.BT.node (ob7_7 P) (W.BT.node (ob15_15 P) W.BT.nil W.BT.nil) (W.BT.node (ob23_23 P) W.BT.nil W.BT.nil)) (W.BT.node (ob11_11 P) (W.BT.node (ob19_19 P) W.BT.nil W.BT.nil) (W.BT.node (ob27_27 P) W.BT.nil W.BT.nil))) (W.BT.node (ob5_5 P) (W.BT.node (ob9_9 P) (W.BT.node (ob17_17 P) W.BT.nil W.BT.nil) (W.BT.node (ob25_25 P) W.BT.nil W.BT.nil)) (W.BT.node (ob13_13 P) (W.BT.node (ob21_21 P) W.BT.nil W.BT.nil) W.BT.nil))) (W.BT.node (ob2_2 P) (W.BT.node (ob4_4 P) (W.BT.node (ob8_8 P) (W.BT.node (ob16_16 P) W.BT.nil W.BT.nil) (W.BT.node (ob24_24 P) W.BT.nil W.BT.nil)) (W.BT.node (ob12_12 P) (W.BT.node (ob20_20 P) W.BT.nil W.BT.nil) W.BT.nil)) (W.BT.node (ob6_6 P) (W.BT.node (ob10_10 P) (W.BT.node (ob18_18 P) W.BT.nil W.BT.nil) (W.BT.node (ob26_26 P) W.BT.nil W.BT.nil)) (W.BT.node (ob14_14 P) (W.BT.node (ob22_22 P) W.BT.nil W.BT.nil) W.BT.nil)))
noncomputable abbrev s21_drawn : Drawn := Drawn.mk 0 0 0 0
noncomputable abbrev sa_toks : Nat := 282
noncomputable abbrev pos23 : Pos := Pos.mk 184 0 230 64
noncomputable abbrev s11_life : Life := Life.mk [] [] [] 0 [] [] Bool.false #[] [] 0 Bool.false Bool.false Bool.false (OfNat.ofNat (α := Int) 0) [OfNat.ofNat (α := Int) 2000, OfNat.ofNat (α := Int) 10, OfNat.ofNat (α := Int) 10] Bool.false 0 Bool.true [] [] 0 Bool.false
noncomputable abbrev sb_drawn : Drawn := Drawn.mk 0 0 0 0
noncomputable abbrev s2_tree (P : Params) : W.BT := W.BT.node (ob0_0 P) (W.BT.node (ob1_1 P) (W.BT.node (ob3_48 P) (W.BT.node (ob7_7 P) (W.BT.node (ob15_15 P) (W.BT.node (ob31_31 P) W.BT.nil W.BT.nil) W.BT.nil) (W.BT.node (ob23_23 P) (W.BT.node (ob39_42 P) W.BT.nil W.BT.nil) W.BT.nil)) (W.BT.node (ob11_11 P) (W.BT.node (ob19_19 P) (W.BT.node (ob35_38 P) W.BT.nil W.BT.nil) W.BT.nil) (W.BT.node (ob27_27 P) (W.BT.node (ob43_46 P) W.BT.nil W.BT.nil) W.BT.nil))) (W.BT.node (ob5_5 P) (W.BT.node (ob9_9 P) (W.BT.node (ob17_17 P) (W.BT.node (ob33_36 P) W.BT.nil W.BT.nil) W.BT.nil) (W.BT.node (ob25_25 P) (W.BT.node (ob41_44 P) W.BT.nil W.BT.nil) W.BT.nil)) (W.BT.node (ob13_13 P) (W.BT.node (ob21_21 P) (W.BT.node (ob37_40 P) W.BT.nil W.BT.nil) W.BT.nil) (W.BT.node (ob29_34 P) (W.BT.node (varsObj P) W.BT.nil W.BT.nil) W.BT.nil)))) (W.BT.node (ob2_32 P) (W.BT.node (ob4_4 P) (W.BT.node (ob8_8 P) (W.BT.node (ob16_16 P) (W.BT.node (ob32_35 P) W.BT.nil W.BT.nil) W.BT.nil) (W.BT.node (ob24_24 P) (W.BT.node (ob40_43 P) W.BT.nil W.BT.nil) W.BT.nil)) (W.BT.node (ob12_12 P) (W.BT.node (ob20_20 P) (W.BT.node (ob36_39 P) W.BT.nil W.BT.nil) W.BT.nil) (W.BT.node (ob28_28 P) (W.BT.node (ob44_47 P) W.BT.nil W.BT.nil) W.BT.nil))) (W.BT.node (ob6_6 P) (W.BT.node (ob10_10 P) (W.BT.node (ob18_18 P) (W.BT.node (ob34_37 P) W.BT.nil W.BT.nil) W.BT.nil) (W.BT.node (ob26_26 P) (W.BT.node (ob42_45 P) W.BT.nil W.BT.nil) W.BT.nil)) (W.BT.node (ob14_14 P) (W.BT.node (ob22_22 P) (W.BT.node (ob38_41 P) W.BT.nil W.BT.nil) W.BT.nil) (W.BT.node (ob30_30 P) W.BT.nil W.BT.nil))))
noncomputable abbrev s23_tree (P : Params) : W.BT := W.BT.node (ob0_0 P) (W.BT.node (ob1_1 P) (W.BT.node (ob3_262 P) (W.BT.node (ob7_7 P) (W.BT.node (ob15_15 P) (W.BT.node (ob31_31 P) (W.BT.node (ob63_69 P) (W.BT.node (ob127_135 P) (W.BT.node (ob255_267 P) W.BT.nil W.BT.nil) W.BT.nil) (W.BT.node (ob191_201 P) W.BT.nil W.BT.nil)) (W.BT.node (ob95_101 P) (W.BT.node (ob159_167 P) W.BT.nil W.BT.nil) (W.BT.node (ob223_233 P) W.BT.nil W.BT.nil))) (W.BT.node (ob47_51 P) (W.BT.node (ob79_85 P) (W.BT.node (ob143_151 P) W.BT.nil W.BT.nil) (W.BT.node (ob207_217 P) W.BT.nil W.BT.nil)) (W.BT.node (ob111_119 P) (W.BT.node (ob175_183 P) W.BT.nil W.BT.nil) (W.BT.node (ob239_249 P) W.BT.nil W.BT.nil)))) (W.BT.node (ob23_23 P) (W.BT.node (ob39_42 P) (W.BT.node (ob71_77 P) (W.BT.node (ob135_143 P) (W.BT.node (ob263_275 P) W.BT.nil W.BT.nil) W.BT.nil) (W.BT.node (ob199_209 P) W.BT.nil W.BT.nil)) (W.BT.node (ob103_111 P) (W.BT.node (ob167_175 P) W.BT.nil W.BT.nil) (W.BT.node (ob231_241 P) W.BT.nil W.BT.nil))) (W.BT.node (ob55_61 P) (W.BT.node (ob87_93 P) (W.BT.node (ob151_159 P) W.BT.nil W.BT.nil) (W.BT.node (ob215_225 P) W.BT.nil W.BT.nil)) (W.BT.node (ob119_127 P) (W.BT.node (ob183_191 P) W.BT.nil W.BT.nil) (W.BT.node (ob247_257 P) W.BT.nil W.BT.nil))))) (W.BT.node (ob11_11 P) (W.BT.node (ob19_19 P) (W.BT.node (ob35_38 P) (W.BT.node (ob67_73 P) (W.BT.node (ob131_139 P) (W.BT.node (ob259_271 P) W.BT.nil W.BT.nil) W.BT.nil) (W.BT.node (ob195_205 P) W.BT.nil W.BT.nil)) (W.BT.node (ob99_105 P) (W.BT.node (ob163_171 P) W.BT.nil W.BT.nil) (W.BT.node (ob227_237 P) W.BT.nil W.BT.nil))) (W.BT.node (ob51_57 P) (W.BT.node (ob83_89 P) (W.BT.node (ob147_155 P) W.BT.nil W.BT.nil) (W.BT.node (ob211_221 P) W.BT.nil W.BT.nil)) (W.BT.node (ob115_123 P) (W.BT.node (ob179_187 P) W.BT.nil W.BT.nil) (W.BT.node (ob243_253 P) W.BT.nil W.BT.nil)))) (W.BT.node (ob27_27 P) (W.BT.node (ob43_46 P) (W.BT.node (ob75_81 P) (W.BT.node (ob139_147 P) W.BT.nil W.BT.nil) (W.BT.node (ob203_213 P) W.BT.nil W.BT.nil)) (W.BT.node (ob107_115 P) (W.BT.node (ob171_179 P) W.BT.nil W.BT.nil) (W.BT.node (ob235_245 P) W.BT.nil W.BT.nil))) (W.BT.node (ob59_65 P) (W.BT.node (ob91_97 P) (W.BT.node (ob155_163 P) W.BT.nil W.BT.nil) (W.BT.node (ob219_229 P) W.BT.nil W.BT.nil)) (W.BT.node (ob123_131 P) (W.BT.node (ob187_197 P) W.BT.nil W.BT.nil) (W.BT.node (ob251_261 P) W.BT.nil W.BT.nil)))))) (W.BT.node (ob5_5 P) (W.BT.node (ob9_9 P) (W.BT.node (ob17_17 P) (W.BT.node (ob33_36 P) (W.BT.node (ob65_71 P) (W.BT.node (ob129_137 P) (W.BT.node (ob257_269 P) W.BT.nil W.BT.nil) W.BT.nil) (W.BT.node (ob193_203 P) W.BT.nil W.BT.nil)) (W.BT.node (ob97_103 P) (W.BT.node (ob161_169 P) W.BT.nil W.BT.nil) (W.BT.node (ob225_235 P) W.BT.nil W.BT.nil))) (W.BT.node (ob49_53 P) (W.BT.node (ob81_87 P) (W.BT.node (ob145_153 P) W.BT.nil W.BT.nil) (W.BT.node (ob209_219 P) W.BT.nil W.BT.nil)) (W.BT.node (ob113_121 P) (W.BT.node (ob177_185 P) W.BT.nil W.BT.nil) (W.BT.node (ob241_251 P) W.BT.nil W.BT.nil)))) (W.BT.node (ob25_25 P) (W.BT.node (ob41_44 P) (W.BT.node (ob73_79 P) (W.BT.node (ob137_145 P) W.BT.nil W.BT.nil) (W.BT.node (ob201_211 P) W.BT.nil W.BT.nil)) (W.BT.node (ob105_113 P) (W.BT.node (ob169_177 P) W.BT.nil W.BT.nil) (W.BT.node (ob233_243 P) W.BT.nil W.BT.nil))) (W.BT.node (ob57_63 P) (W.BT.node (ob89_95 P) (W.BT.node (ob153_161 P) W.BT.nil W.BT.nil) (W.BT.node (ob217_227 P) W.BT.nil W.BT.nil)) (W.BT.node (ob121_129 P) (W.BT.node (ob185_193 P) W.BT.nil W.BT.nil) (W.BT.node (ob249_259 P) W.BT.nil W.BT.nil))))) (W.BT.node (ob13_13 P) (W.BT.node (ob21_21 P) (W.BT.node (ob37_40 P) (W.BT.node (ob69_75 P) (W.BT.node (ob133_141 P) (W.BT.node (ob261_273 P) W.BT.nil W.BT.nil) W.BT.nil) (W.BT.node (ob197_207 P) W.BT.nil W.BT.nil)) (W.BT.node (ob101_107 P) (W.BT.node (ob165_173 P) W.BT.nil W.BT.nil) (W.BT.node (ob229_239 P) W.BT.nil W.BT.nil))) (W.BT.node (ob53_59 P) (W.BT.node (ob85_91 P) (W.BT.node (ob149_157 P) W.BT.nil W.BT.nil) (W.BT.node (ob213_223 P) W.BT.nil W.BT.nil)) (W.BT.node (ob117_125 P) (W.BT.node (ob181_189 P) W.BT.nil W.BT.nil) (W.BT.node (ob245_255 P) W.BT.nil W.BT.nil)))) (W.BT.node (ob29_263 P) (W.BT.node (varsObj P) (W.BT.node (ob77_83 P) (W.BT.node (ob141_149 P) W.BT.nil W.BT.nil) (W.BT.node (ob205_215 P) W.BT.nil W.BT.nil)) (W.BT.node (ob109_117 P) (W.BT.node (ob173_181 P) W.BT.nil W.BT.nil) (W.BT.node (ob237_247 P) W.BT.nil W.BT.nil))) (W.BT.node (ob61_67 P) (W.BT.node (ob93_99 P) (W.BT.node (ob157_165 P) W.BT.nil W.BT.nil) (W.BT.node (ob221_231 P) W.BT.nil W.BT.nil)) (W.BT.node (ob125_133 P) (W.BT.node (ob189_199 P) W.BT.nil W.BT.nil) (W.BT.node (ob253_265 P) W.BT.nil W.BT.nil))))))) (W.BT.node (ob2_32 P) (W.BT.node (ob4_4 P) (W.BT.node (ob8_8 P) (W.BT.node (ob16_16 P) (W.BT.node (ob32_35 P) (W.BT.node (ob64_70 P) (W.BT.node (ob128_136 P) (W.BT.node (ob256_268 P) W.BT.nil W.BT.nil) W.BT.nil) (W.BT.node (ob192_202 P) W.BT.nil W.BT.nil)) (W.BT.node (ob96_102 P) (W.BT.node (ob160_168 P) W.BT.nil W.BT.nil) (W.BT.node (ob224_234 P) W.BT.nil W.BT.nil))) (W.BT.node (ob48_52 P) (W.BT.node (ob80_86 P) (W.BT.node (ob144_152 P) W.BT.nil W.BT.nil) (W.BT.node (ob208_218 P) W.BT.nil W.BT.nil)) (W.BT.node (ob112_120 P) (W.BT.node (ob176_184 P) W.BT.nil W.BT.nil) (W.BT.node (ob240_250 P) W.BT.nil W.BT.nil)))) (W.BT.node (ob24_24 P) (W.BT.node (ob40_43 P) (W.BT.node (ob72_78 P) (W.BT.node (ob136_144 P) W.BT.nil W.BT.nil) (W.BT.node (ob200_210 P) W.BT.nil W.BT.nil)) (W.BT.node (ob104_112 P) (W.BT.node (ob168_176 P) W.BT.nil W.BT.nil) (W.BT.node (ob232_242 P) W.BT.nil W.BT.nil))) (W.BT.node (ob56_62 P) (W.BT.node (ob88_94 P) (W.BT.node (ob152_160 P) W.BT.nil W.BT.nil) (W.BT.node (ob216_226 P) W.BT.nil W.BT.nil)) (W.BT.node (ob120_128 P) (W.BT.node (ob184_192 P) W.BT.nil W.BT.nil) (W.BT.node (ob248_258 P) W.BT.nil W.BT.nil))))) (W.BT.node (ob12_12 P) (W.BT.node (ob20_20 P) (W.BT.node (ob36_39 P) (W.BT.node (ob68_74 P) (W.BT.node (ob132_140 P) (W.BT.node (ob260_272 P) W.BT.nil W.BT.nil) W.BT.nil) (W.BT.node (ob196_206 P) W.BT.nil W.BT.nil)) (W.BT.node (ob100_106 P) (W.BT.node (ob164_172 P) W.BT.nil W.BT.nil) (W.BT.node (ob228_238 P) W.BT.nil W.BT.nil))) (W.BT.node (ob52_58 P) (W.BT.node (ob84_90 P) (W.BT.node (ob148_156 P) W.BT.nil W.BT.nil) (W.BT.node (ob212_222 P) W.BT.nil W.BT.nil)) (W.BT.node (ob116_124 P) (W.BT.node (ob180_188 P) W.BT.nil W.BT.nil) (W.BT.node (ob244_254 P) W.BT.nil W.BT.nil)))) (W.BT.node (ob28_28 P) (W.BT.node (ob44_47 P) (W.BT.node (ob76_82 P) (W.BT.node (ob140_148 P) W.BT.nil W.BT.nil) (W.BT.node (ob204_214 P) W.BT.nil W.BT.nil)) (W.BT.node (ob108_116 P) (W.BT.node (ob172_180 P) W.BT.nil W.BT.nil) (W.BT.node (ob236_246 P) W.BT.nil W.BT.nil))) (W.BT.node (ob60_66 P) (W.BT.node (ob92_98 P) (W.BT.node (ob156_164 P) W.BT.nil W.BT.nil) (W.BT.node (ob220_230 P) W.BT.nil W.BT.nil)) (W.BT.node (ob124_132 P) (W.BT.node (ob188_198 P) W.BT.nil W.BT.nil) (W.BT.node (ob252_264 P) W.BT.nil W.BT.nil)))))) (W.BT.node (ob6_6 P) (W.BT.node (ob10_10 P) (W.BT.node (ob18_18 P) (W.BT.node (ob34_37 P) (W.BT.node (ob66_72 P) (W.BT.node (ob130_138 P) (W.BT.node (ob258_270 P) W.BT.nil W.BT.nil) W.BT.nil) (W.BT.node (ob194_204 P) W.BT.nil W.BT.nil)) (W.BT.node (ob98_104 P) (W.BT.node (ob162_170 P) W.BT.nil W.BT.nil) (W.BT.node (ob226_236 P) W.BT.nil W.BT.nil))) (W.BT.node (ob50_54 P) (W.BT.node (ob82_88 P) (W.BT.node (ob146_154 P) W.BT.nil W.BT.nil) (W.BT.node (ob210_220 P) W.BT.nil W.BT.nil)) (W.BT.node (ob114_122 P) (W.BT.node (ob178_186 P) W.BT.nil W.BT.nil) (W.BT.node (ob242_252 P) W.BT.nil W.BT.nil)))) (W.BT.node (ob26_26 P) (W.BT.node (ob42_45 P) (W.BT.node (ob74_80 P) (W.BT.node (ob138_146 P) W.BT.nil W.BT.nil) (W.BT.node (ob202_212 P) W.BT.nil W.BT.nil)) (W.BT.node (ob106_114 P) (W.BT.node (ob170_178 P) W.BT.nil W.BT.nil) (W.BT.node (ob234_244 P) W.BT.nil W.BT.nil))) (W.BT.node (ob58_64 P) (W.BT.node (ob90_96 P) (W.BT.node (ob154_162 P) W.BT.nil W.BT.nil) (W.BT.node (ob218_228 P) W.BT.nil W.BT.nil)) (W.BT.node (ob122_130 P) (W.BT.node (ob186_194 P) W.BT.nil W.BT.nil) (W.BT.node (ob250_260 P) W.BT.nil W.BT.nil))))) (W.BT.node (ob14_14 P) (W.BT.node (ob22_22 P) (W.BT.node (ob38_41 P) (W.BT.node (ob70_76 P) (W.BT.node (ob134_142 P) (W.BT.node (ob262_274 P) W.BT.nil W.BT.nil) W.BT.nil) (W.BT.node (ob198_208 P) W.BT.nil W.BT.nil)) (W.BT.node (ob102_110 P) (W.BT.node (ob166_174 P) W.BT.nil W.BT.nil) (W.BT.node (ob230_240 P) W.BT.nil W.BT.nil))) (W.BT.node (ob54_60 P) (W.BT.node (ob86_92 P) (W.BT.node (ob150_158 P) W.BT.nil W.BT.nil) (W.BT.node (ob214_224 P) W.BT.nil W.BT.nil)) (W.BT.node (ob118_126 P) (W.BT.node (ob182_190 P) W.BT.nil W.BT.nil) (W.BT.node (ob246_256 P) W.BT.nil W.BT.nil)))) (W.BT.node (ob30_30 P) (W.BT.node (ob46_50 P) (W.BT.node (ob78_84 P) (W.BT.node (ob142_150 P) W.BT.nil W.BT.nil) (W.BT.node (ob206_216 P) W.BT.nil W.BT.nil)) (W.BT.node (ob110_118 P) (W.BT.node (ob174_182 P) W.BT.nil W.BT.nil) (W.BT.node (ob238_248 P) W.BT.nil W.BT.nil))) (W.BT.node (ob62_68 P) (W.BT.node (ob94_100 P) (W.BT.node (ob158_166 P) W.BT.nil W.BT.nil) (W.BT.node (ob222_232 P) W.BT.nil W.BT.nil)) (W.BT.node (ob126_134 P) (W.BT.node (ob190_200 P) W.BT.nil W.BT.nil) (W.BT.node (ob254_266 P) W.BT.nil W.BT.nil)))))))
noncomputable abbrev s21_n : Nat := 252
noncomputable abbrev s10_toks : Nat := 584
noncomputable abbrev s3_life : Life := Life.mk [] [] [] 0 [] [] Bool.false #[] [] 0 Bool.false Bool.false Bool.false (OfNat.ofNat (α := Int) 0) [OfNat.ofNat (α := Int) 2000, OfNat.ofNat (α := Int) 10, OfNat.ofNat (α := Int) 10] Bool.false 0 Bool.true [] [] 0 Bool.false
noncomputable abbrev s3_tree (P : Params) : W.BT := W.BT.node (ob0_0 P) (W.BT.node (ob1_1 P) (W.BT.node (ob3_49 P) (W.BT.node (ob7_7 P) (W.BT.node (ob15_15 P) (W.BT.node (ob31_31 P) W.BT.nil W.BT.nil) (W.BT.node (ob47_51 P) W.BT.nil W.BT.nil)) (W.BT.node (ob23_23 P) (W.BT.node (ob39_42 P) W.BT.nil W.BT.nil) W.BT.nil)) (W.BT.node (ob11_11 P) (W.BT.node (ob19_19 P) (W.BT.node (ob35_38 P) W.BT.nil W.BT.nil) W.BT.nil) (W.BT.node (ob27_27 P) (W.BT.node (ob43_46 P) W.BT.nil W.BT.nil) W.BT.nil))) (W.BT.node (ob5_5 P) (W.BT.node (ob9_9 P) (W.BT.node (ob17_17 P) (W.BT.node (ob33_36 P) W.BT.nil W.BT.nil) (W.BT.node (ob49_53 P) W.BT.nil W.BT.nil)) (W.BT.node (ob25_25 P) (W.BT.node (ob41_44 P) W.BT.nil W.BT.nil) W.BT.nil)) (W.BT.node (ob13_13 P) (W.BT.node (ob21_21 P) (W.BT.node (ob37_40 P) W.BT.nil W.BT.nil) W.BT.nil) (W.BT.node (ob29_34 P) (W.BT.node (varsObj P) W.BT.nil W.BT.nil) W.BT.nil)))) (W.BT.node (ob2_32 P) (W.BT.node (ob4_4 P) (W.BT.node (ob8_8 P) (W.BT.node (ob16_16 P) (W.BT.node (ob32_35 P) W.BT.nil W.BT.nil) (W.BT.node (ob48_52 P) W.BT.nil W.BT.nil)) (W.BT.node (ob24_24 P) (W.BT.node (ob40_43 P) W.BT.nil W.BT.nil) W.BT.nil)) (W.BT.node (ob12_12 P) (W.BT.node (ob20_20 P) (W.BT.node (ob36_39 P) W.BT.nil W.BT.nil) W.BT.nil) (W.BT.node (ob28_28 P) (W.BT.node (ob44_47 P) W.BT.nil W.BT.nil) W.BT.nil))) (W.BT.node (ob6_6 P) (W.BT.node (ob10_10 P) (W.BT.node (ob18_18 P) (W.BT.node (ob34_37 P) W.BT.nil W.BT.nil) (W.BT.node (ob50_54 P) W.BT.nil W.BT.nil)) (W.BT.node (ob26_26 P) (W.BT.node (ob42_45 P) W.BT.nil W.BT.nil) W.BT.nil)) (W.BT.node (ob14_14 P) (W.BT.node (ob22_22 P) (W.BT.node (ob38_41 P) W.BT.nil W.BT.nil) W.BT.nil) (W.BT.node (ob30_30 P) (W.BT.node (ob46_50 P) W.BT.nil W.BT.nil) W.BT.nil))))
noncomputable abbrev s1_n : Nat := 45
noncomputable abbrev s21_tree (P : Params) : W.BT := W.BT.node (ob0_0 P) (W.BT.node (ob1_1 P) (W.BT.node (ob3_195 P) (W.BT.node (ob7_7 P) (W.BT.node (ob15_15 P) (W.BT.node (ob31_31 P) (W.BT.node (ob63_69 P) (W.BT.node (ob127_135 P) W.BT.nil W.BT.nil) (W.BT.node (ob191_201 P) W.BT.nil W.BT.nil)) (W.BT.node (ob95_101 P) (W.BT.node (ob159_167 P) W.BT.nil W.BT.nil) (W.BT.node (ob223_233 P) W.BT.nil W.BT.nil))) (W.BT.node (ob47_51 P) (W.BT.node (ob79_85 P) (W.BT.node (ob143_151 P) W.BT.nil W.BT.nil) (W.BT.node (ob207_217 P) W.BT.nil W.BT.nil)) (W.BT.node (ob111_119 P) (W.BT.node (ob175_183 P) W.BT.nil W.BT.nil) (W.BT.node (ob239_249 P) W.BT.nil W.BT.nil)))) (W.BT.node (ob23_23 P) (W.BT.node (ob39_42 P) (W.BT.node (ob71_77 P) (W.BT.node (ob135_143 P) W.BT.nil W.BT.nil) (W.BT.node (ob199_209 P) W.BT.nil W.BT.nil)) (W.BT.node (ob103_111 P) (W.BT.node (ob167_175 P) W.BT.nil W.BT.nil) (W.BT.node (ob231_241 P) W.BT.nil W.BT.nil))) (W.BT.node (ob55_61 P) (W.BT.node (ob87_93 P) (W.BT.node (ob151_159 P) W.BT.nil W.BT.nil) (W.BT.node (ob215_225 P) W.BT.nil W.BT.nil)) (W.BT.node (ob119_127 P) (W.BT.node (ob183_191 P) W.BT.nil W.BT.nil) (W.BT.node (ob247_257 P) W.BT.nil W.BT.nil))))) (W.BT.node (ob11_11 P) (W.BT.node (ob19_19 P) (W.BT.node (ob35_38 P) (W.BT.node (ob67_73 P) (W.BT.node (ob131_139 P) W.BT.nil W.BT.nil) (W.BT.node (ob195_205 P) W.BT.nil W.BT.nil)) (W.BT.node (ob99_105 P) (W.BT.node (ob163_171 P) W.BT.nil W.BT.nil) (W.BT.node (ob227_237 P) W.BT.nil W.BT.nil))) (W.BT.node (ob51_57 P) (W.BT.node (ob83_89 P) (W.BT.node (ob147_155 P) W.BT.nil W.BT.nil) (W.BT.node (ob211_221 P) W.BT.nil W.BT.nil)) (W.BT.node (ob115_123 P) (W.BT.node (ob179_187 P) W.BT.nil W.BT.nil) (W.BT.node (ob243_253 P) W.BT.nil W.BT.nil)))) (W.BT.node (ob27_27 P) (W.BT.node (ob43_46 P) (W.BT.node (ob75_81 P) (W.BT.node (ob139_147 P) W.BT.nil W.BT.nil) (W.BT.node (ob203_213 P) W.BT.nil W.BT.nil)) (W.BT.node (ob107_115 P) (W.BT.node (ob171_179 P) W.BT.nil W.BT.nil) (W.BT.node (ob235_245 P) W.BT.nil W.BT.nil))) (W.BT.node (ob59_65 P) (W.BT.node (ob91_97 P) (W.BT.node (ob155_163 P) W.BT.nil W.BT.nil) (W.BT.node (ob219_229 P) W.BT.nil W.BT.nil)) (W.BT.node (ob123_131 P) (W.BT.node (ob187_197 P) W.BT.nil W.BT.nil) (W.BT.node (ob251_261 P) W.BT.nil W.BT.nil)))))) (W.BT.node (ob5_5 P) (W.BT.node (ob9_9 P) (W.BT.node (ob17_17 P) (W.BT.node (ob33_36 P) (W.BT.node (ob65_71 P) (W.BT.node (ob129_137 P) W.BT.nil W.BT.nil) (W.BT.node (ob193_203 P) W.BT.nil W.BT.nil)) (W.BT.node (ob97_103 P) (W.BT.node (ob161_169 P) W.BT.nil W.BT.nil) (W.BT.node (ob225_235 P) W.BT.nil W.BT.nil))) (W.BT.node (ob49_53 P) (W.BT.node (ob81_87 P) (W.BT.node (ob145_153 P) W.BT.nil W.BT.nil) (W.BT.node (ob209_219 P) W.BT.nil W.BT.nil)) (W.BT.node (ob113_121 P) (W.BT.node (ob177_185 P) W.BT.nil W.BT.nil) (W.BT.node (ob241_251 P) W.BT.nil W.BT.nil)))) (W.BT.node (ob25_25 P) (W.BT.node (ob41_44 P) (W.BT.node (ob73_79 P) (W.BT.node (ob137_145 P) W.BT.nil W.BT.nil) (W.BT.node (ob201_211 P) W.BT.nil W.BT.nil)) (W.BT.node (ob105_113 P) (W.BT.node (ob169_177 P) W.BT.nil W.BT.nil) (W.BT.node (ob233_243 P) W.BT.nil W.BT.nil))) (W.BT.node (ob57_63 P) (W.BT.node (ob89_95 P) (W.BT.node (ob153_161 P) W.BT.nil W.BT.nil) (W.BT.node (ob217_227 P) W.BT.nil W.BT.nil)) (W.BT.node (ob121_129 P) (W.BT.node (ob185_193 P) W.BT.nil W.BT.nil) (W.BT.node (ob249_259 P) W.BT.nil W.BT.nil))))) (W.BT.node (ob13_13 P) (W.BT.node (ob21_21 P) (W.BT.node (ob37_40 P) (W.BT.node (ob69_75 P) (W.BT.node (ob133_141 P) W.BT.nil W.BT.nil) (W.BT.node (ob197_207 P) W.BT.nil W.BT.nil)) (W.BT.node (ob101_107 P) (W.BT.node (ob165_173 P) W.BT.nil W.BT.nil) (W.BT.node (ob229_239 P) W.BT.nil W.BT.nil))) (W.BT.node (ob53_59 P) (W.BT.node (ob85_91 P) (W.BT.node (ob149_157 P) W.BT.nil W.BT.nil) (W.BT.node (ob213_223 P) W.BT.nil W.BT.nil)) (W.BT.node (ob117_125 P) (W.BT.node (ob181_189 P) W.BT.nil W.BT.nil) (W.BT.node (ob245_255 P) W.BT.nil W.BT.nil)))) (W.BT.node (ob29_196 P) (W.BT.node (varsObj P) (W.BT.node (ob77_83 P) (W.BT.node (ob141_149 P) W.BT.nil W.BT.nil) (W.BT.node (ob205_215 P) W.BT.nil W.BT.nil)) (W.BT.node (ob109_117 P) (W.BT.node (ob173_181 P) W.BT.nil W.BT.nil) (W.BT.node (ob237_247 P) W.BT.nil W.BT.nil))) (W.BT.node (ob61_67 P) (W.BT.node (ob93_99 P) (W.BT.node (ob157_165 P) W.BT.nil W.BT.nil) (W.BT.node (ob221_231 P) W.BT.nil W.BT.nil)) (W.BT.node (ob125_133 P) (W.BT.node (ob189_199 P) W.BT.nil W.BT.nil) W.BT.nil)))))) (W.BT.node (ob2_32 P) (W.BT.node (ob4_4 P) (W.BT.node (ob8_8 P) (W.BT.node (ob16_16 P) (W.BT.node (ob32_35 P) (W.BT.node (ob64_70 P) (W.BT.node (ob128_136 P) W.BT.nil W.BT.nil) (W.BT.node (ob192_202 P) W.BT.nil W.BT.nil)) (W.BT.node (ob96_102 P) (W.BT.node (ob160_168 P) W.BT.nil W.BT.nil) (W.BT.node (ob224_234 P) W.BT.nil W.BT.nil))) (W.BT.node (ob48_52 P) (W.BT.node (ob80_86 P) (W.BT.node (ob144_152 P) W.BT.nil W.BT.nil) (W.BT.node (ob208_218 P) W.BT.nil W.BT.nil)) (W.BT.node (ob112_120 P) (W.BT.node (ob176_184 P) W.BT.nil W.BT.nil) (W.BT.node (ob240_250 P) W.BT.nil W.BT.nil)))) (W.BT.node (ob24_24 P) (W.BT.node (ob40_43 P) (W.BT.node (ob72_78 P) (W.BT.node (ob136_144 P) W.BT.nil W.BT.nil) (W.BT.node (ob200_210 P) W.BT.nil W.BT.nil)) (W.BT.node (ob104_112 P) (W.BT.node (ob168_176 P) W.BT.nil W.BT.nil) (W.BT.node (ob232_242 P) W.BT.nil W.BT.nil))) (W.BT.node (ob56_62 P) (W.BT.node (ob88_94 P) (W.BT.node (ob152_160 P) W.BT.nil W.BT.nil) (W.BT.node (ob216_226 P) W.BT.nil W.BT.nil)) (W.BT.node (ob120_128 P) (W.BT.node (ob184_192 P) W.BT.nil W.BT.nil) (W.BT.node (ob248_258 P) W.BT.nil W.BT.nil))))) (W.BT.node (ob12_12 P) (W.BT.node (ob20_20 P) (W.BT.node (ob36_39 P) (W.BT.node (ob68_74 P) (W.BT.node (ob132_140 P) W.BT.nil W.BT.nil) (W.BT.node (ob196_206 P) W.BT.nil W.BT.nil)) (W.BT.node (ob100_106 P) (W.BT.node (ob164_172 P) W.BT.nil W.BT.nil) (W.BT.node (ob228_238 P) W.BT.nil W.BT.nil))) (W.BT.node (ob52_58 P) (W.BT.node (ob84_90 P) (W.BT.node (ob148_156 P) W.BT.nil W.BT.nil) (W.BT.node (ob212_222 P) W.BT.nil W.BT.nil)) (W.BT.node (ob116_124 P) (W.BT.node (ob180_188 P) W.BT.nil W.BT.nil) (W.BT.node (ob244_254 P) W.BT.nil W.BT.nil)))) (W.BT.node (ob28_28 P) (W.BT.node (ob44_47 P) (W.BT.node (ob76_82 P) (W.BT.node (ob140_148 P) W.BT.nil W.BT.nil) (W.BT.node (ob204_214 P) W.BT.nil W.BT.nil)) (W.BT.node (ob108_116 P) (W.BT.node (ob172_180 P) W.BT.nil W.BT.nil) (W.BT.node (ob236_246 P) W.BT.nil W.BT.nil))) (W.BT.node (ob60_66 P) (W.BT.node (ob92_98 P) (W.BT.node (ob156_164 P) W.BT.nil W.BT.nil) (W.BT.node (ob220_230 P) W.BT.nil W.BT.nil)) (W.BT.node (ob124_132 P) (W.BT.node (ob188_198 P) W.BT.nil W.BT.nil) W.BT.nil))))) (W.BT.node (ob6_6 P) (W.BT.node (ob10_10 P) (W.BT.node (ob18_18 P) (W.BT.node (ob34_37 P) (W.BT.node (ob66_72 P) (W.BT.node (ob130_138 P) W.BT.nil W.BT.nil) (W.BT.node (ob194_204 P) W.BT.nil W.BT.nil)) (W.BT.node (ob98_104 P) (W.BT.node (ob162_170 P) W.BT.nil W.BT.nil) (W.BT.node (ob226_236 P) W.BT.nil W.BT.nil))) (W.BT.node (ob50_54 P) (W.BT.node (ob82_88 P) (W.BT.node (ob146_154 P) W.BT.nil W.BT.nil) (W.BT.node (ob210_220 P) W.BT.nil W.BT.nil)) (W.BT.node (ob114_122 P) (W.BT.node (ob178_186 P) W.BT.nil W.BT.nil) (W.BT.node (ob242_252 P) W.BT.nil W.BT.nil)))) (W.BT.node (ob26_26 P) (W.BT.node (ob42_45 P) (W.BT.node (ob74_80 P) (W.BT.node (ob138_146 P) W.BT.nil W.BT.nil) (W.BT.node (ob202_212 P) W.BT.nil W.BT.nil)) (W.BT.node (ob106_114 P) (W.BT.node (ob170_178 P) W.BT.nil W.BT.nil) (W.BT.node (ob234_244 P) W.BT.nil W.BT.nil))) (W.BT.node (ob58_64 P) (W.BT.node (ob90_96 P) (W.BT.node (ob154_162 P) W.BT.nil W.BT.nil) (W.BT.node (ob218_228 P) W.BT.nil W.BT.nil)) (W.BT.node (ob122_130 P) (W.BT.node (ob186_194 P) W.BT.nil W.BT.nil) (W.BT.node (ob250_260 P) W.BT.nil W.BT.nil))))) (W.BT.node (ob14_14 P) (W.BT.node (ob22_22 P) (W.BT.node (ob38_41 P) (W.BT.node (ob70_76 P) (W.BT.node (ob134_142 P) W.BT.nil W.BT.nil) (W.BT.node (ob198_208 P) W.BT.nil W.BT.nil)) (W.BT.node (ob102_110 P) (W.BT.node (ob166_174 P) W.BT.nil W.BT.nil) (W.BT.node (ob230_240 P) W.BT.nil W.BT.nil))) (W.BT.node (ob54_60 P) (W.BT.node (ob86_92 P) (W.BT.node (ob150_158 P) W.BT.nil W.BT.nil) (W.BT.node (ob214_224 P) W.BT.nil W.BT.nil)) (W.BT.node (ob118_126 P) (W.BT.node (ob182_190 P) W.BT.nil W.BT.nil) (W.BT.node (ob246_256 P) W.BT.nil W.BT.nil)))) (W.BT.node (ob30_30 P) (W.BT.node (ob46_50 P) (W.BT.node (ob78_84 P) (W.BT.node (ob142_150 P) W.BT.nil W.BT.nil) (W.BT.node (ob206_216 P) W.BT.nil W.BT.nil)) (W.BT.node (ob110_118 P) (W.BT.node (ob174_182 P) W.BT.nil W.BT.nil) (W.BT.node (ob238_248 P) W.BT.nil W.BT.nil))) (W.BT.node (ob62_68 P) (W.BT.node (ob94_100 P) (W.BT.node (ob158_166 P) W.BT.nil W.BT.nil) (W.BT.node (ob222_232 P) W.BT.nil W.BT.nil)) (W.BT.node (ob126_134 P) (W.BT.node (ob190_200 P) W.BT.nil W.BT.nil) W.BT.nil))))))
noncomputable abbrev s3_list (P : Params) : @List Obj := [ob0_0 P, ob1_1 P, ob2_32 P, ob3_49 P, ob4_4 P, ob5_5 P, ob6_6 P, ob7_7 P, ob8_8 P, ob9_9 P, ob10_10 P, ob11_11 P, ob12_12 P, ob13_13 P, ob14_14 P, ob15_15 P, ob16_16 P, ob17_17 P, ob18_18 P, ob19_19 P, ob20_20 P, ob21_21 P, ob22_22 P, ob23_23 P, ob24_24 P, ob25_25 P, ob26_26 P, ob27_27 P, ob28_28 P, ob29_34 P, ob30_30 P, ob31_31 P, ob32_35 P, ob33_36 P, ob34_37 P, ob35_38 P, ob36_39 P, ob37_40 P, ob38_41 P, ob39_42 P, ob40_43 P, ob41_44 P, ob42_45 P, ob43_46 P, ob44_47 P, varsObj P, ob46_50 P, ob47_51 P, ob48_52 P, ob49_53 P, ob50_54 P]
noncomputable abbrev sa_life : Life := Life.mk [] [] [] 0 [] [] Bool.false #[] [] 0 Bool.false Bool.false Bool.false (OfNat.ofNat (α := Int) 0) [OfNat.ofNat (α := Int) 2000, OfNat.ofNat (α := Int) 10, OfNat.ofNat (α := Int) 10] Bool.false 0 Bool.true [] [] 0 Bool.false
noncomputable abbrev sb_tree (P : Params) : W.BT := W.BT.node (ob0_0 P) (W.BT.node (ob1_1 P) (W.BT.node (ob3_3 P) (W.BT.node (ob7_7 P) (W.BT.node (ob15_15 P) (W.BT.node (ob31_31 P) W.BT.nil W.BT.nil) W.BT.nil) (W.BT.node (ob23_23 P) W.BT.nil W.BT.nil)) (W.BT.node (ob11_11 P) (W.BT.node (ob19_19 P) W.BT.nil W.BT.nil) (W.BT.node (ob27_27 P) W.BT.nil W.BT.nil))) (W.BT.node (ob5_5 P) (W.BT.node (ob9_9 P) (W.BT.node (ob17_17 P) W.BT.nil W.BT.nil) (W.BT.node (ob25_25 P) W.BT.nil W.BT.nil)) (W.BT.node (ob13_13 P) (W.BT.node (ob21_21 P) W.BT.nil W.BT.nil) (W.BT.node (ob29_29 P) W.BT.nil W.BT.nil)))) (W.BT.node (ob2_2 P) (W.BT.node (ob4_4 P) (W.BT.node (ob8_8 P) (W.BT.node (ob16_16 P) W.BT.nil W.BT.nil) (W.BT.node (ob24_24 P) W.BT.nil W.BT.nil)) (W.BT.node (ob12_12 P) (W.BT.node (ob20_20 P) W.BT.nil W.BT.nil) (W.BT.node (ob28_28 P) W.BT.nil W.BT.nil))) (W.BT.node (ob6_6 P) (W.BT.node (ob10_10 P) (W.BT.node (ob18_18 P) W.BT.nil W.BT.nil) (W.BT.node (ob26_26 P) W.BT.nil W.BT.nil)) (W.BT.node (ob14_14 P) (W.BT.node (ob22_22 P) W.BT.nil W.BT.nil) (W.BT.node (ob30_30 P) W.BT.nil W.BT.nil))))
noncomputable abbrev pos1 : Pos := Pos.mk 3 0 4 8
noncomputable abbrev s3_drawn : Drawn := Drawn.mk 0 0 0 0
noncomputable abbrev sb_toks : Nat := 282
noncomputable abbrev s0_n : Nat := 28
noncomputable abbrev sa_list (P : Params) : @List Obj := [ob0_0 P, ob1_1 P, ob2_2 P, ob3_3 P, ob4_4 P, ob5_5 P, ob6_6 P, ob7_7 P, ob8_8 P, ob9_9 P, ob10_10 P, ob11_11 P, ob12_12 P, ob13_13 P, ob14_14 P, ob15_15 P, ob16_16 P, ob17_17 P, ob18_18 P, ob19_19 P, ob20_20 P, ob21_21 P, ob22_22 P, ob23_23 P, ob24_24 P, ob25_25 P, ob26_26 P, ob27_27 P, ob28_28 P, ob29_29 P, ob30_30 P, ob31_31 P]
noncomputable abbrev sf_tree (P : Params) : W.BT := W.BT.node (ob0_0 P) (W.BT.node (ob1_1 P) (W.BT.node (ob3_262 P) (W.BT.node (ob7_7 P) (W.BT.node (ob15_15 P) (W.BT.node (ob31_31 P) (W.BT.node (ob63_69 P) (W.BT.node (ob127_135 P) (W.BT.node (ob255_267 P) W.BT.nil W.BT.nil) W.BT.nil) (W.BT.node (ob191_201 P) W.BT.nil W.BT.nil)) (W.BT.node (ob95_101 P) (W.BT.node (ob159_167 P) W.BT.nil W.BT.nil) (W.BT.node (ob223_233 P) W.BT.nil W.BT.nil))) (W.BT.node (ob47_51 P) (W.BT.node (ob79_85 P) (W.BT.node (ob143_151 P) W.BT.nil W.BT.nil) (W.BT.node (ob207_217 P) W.BT.nil W.BT.nil)) (W.BT.node (ob111_119 P) (W.BT.node (ob175_183 P) W.BT.nil W.BT.nil) (W.BT.node (ob239_249 P) W.BT.nil W.BT.nil)))) (W.BT.node (ob23_23 P) (W.BT.node (ob39_42 P) (W.BT.node (ob71_77 P) (W.BT.node (ob135_143 P) (W.BT.node (ob263_275 P) W.BT.nil W.BT.nil) W.BT.nil) (W.BT.node (ob199_209 P) W.BT.nil W.BT.nil)) (W.BT.node (ob103_111 P) (W.BT.node (ob167_175 P) W.BT.nil W.BT.nil) (W.BT.node (ob231_241 P) W.BT.nil W.BT.nil))) (W.BT.node (ob55_61 P) (W.BT.node (ob87_93 P) (W.BT.node (ob151_159 P) W.BT.nil W.BT.nil) (W.BT.node (ob215_225 P) W.BT.nil W.BT.nil)) (W.BT.node (ob119_127 P) (W.BT.node (ob183_191 P) W.BT.nil W.BT.nil) (W.BT.node (ob247_257 P) W.BT.nil W.BT.nil))))) (W.BT.node (ob11_11 P) (W.BT.node (ob19_19 P) (W.BT.node (ob35_38 P) (W.BT.node (ob67_73 P) (W.BT.node (ob131_139 P) (W.BT.node (ob259_271 P) W.BT.nil W.BT.nil) W.BT.nil) (W.BT.node (ob195_205 P) W.BT.nil W.BT.nil)) (W.BT.node (ob99_105 P) (W.BT.node (ob163_171 P) W.BT.nil W.BT.nil) (W.BT.node (ob227_237 P) W.BT.nil W.BT.nil))) (W.BT.node (ob51_57 P) (W.BT.node (ob83_89 P) (W.BT.node (ob147_155 P) W.BT.nil W.BT.nil) (W.BT.node (ob211_221 P) W.BT.nil W.BT.nil)) (W.BT.node (ob115_123 P) (W.BT.node (ob179_187 P) W.BT.nil W.BT.nil) (W.BT.node (ob243_253 P) W.BT.nil W.BT.nil)))) (W.BT.node (ob27_27 P) (W.BT.node (ob43_46 P) (W.BT.node (ob75_81 P) (W.BT.node (ob139_147 P) W.BT.nil W.BT.nil) (W.BT.node (ob203_213 P) W.BT.nil W.BT.nil)) (W.BT.node (ob107_115 P) (W.BT.node (ob171_179 P) W.BT.nil W.BT.nil) (W.BT.node (ob235_245 P) W.BT.nil W.BT.nil))) (W.BT.node (ob59_65 P) (W.BT.node (ob91_97 P) (W.BT.node (ob155_163 P) W.BT.nil W.BT.nil) (W.BT.node (ob219_229 P) W.BT.nil W.BT.nil)) (W.BT.node (ob123_131 P) (W.BT.node (ob187_197 P) W.BT.nil W.BT.nil) (W.BT.node (ob251_261 P) W.BT.nil W.BT.nil)))))) (W.BT.node (ob5_5 P) (W.BT.node (ob9_9 P) (W.BT.node (ob17_17 P) (W.BT.node (ob33_36 P) (W.BT.node (ob65_71 P) (W.BT.node (ob129_137 P) (W.BT.node (ob257_269 P) W.BT.nil W.BT.nil) W.BT.nil) (W.BT.node (ob193_203 P) W.BT.nil W.BT.nil)) (W.BT.node (ob97_103 P) (W.BT.node (ob161_169 P) W.BT.nil W.BT.nil) (W.BT.node (ob225_235 P) W.BT.nil W.BT.nil))) (W.BT.node (ob49_53 P) (W.BT.node (ob81_87 P) (W.BT.node (ob145_153 P) W.BT.nil W.BT.nil) (W.BT.node (ob209_219 P) W.BT.nil W.BT.nil)) (W.BT.node (ob113_121 P) (W.BT.node (ob177_185 P) W.BT.nil W.BT.nil) (W.BT.node (ob241_251 P) W.BT.nil W.BT.nil)))) (W.BT.node (ob25_25 P) (W.BT.node (ob41_44 P) (W.BT.node (ob73_79 P) (W.BT.node (ob137_145 P) W.BT.nil W.BT.nil) (W.BT.node (ob201_211 P) W.BT.nil W.BT.nil)) (W.BT.node (ob105_113 P) (W.BT.node (ob169_177 P) W.BT.nil W.BT.nil) (W.BT.node (ob233_243 P) W.BT.nil W.BT.nil))) (W.BT.node (ob57_63 P) (W.BT.node (ob89_95 P) (W.BT.node (ob153_161 P) W.BT.nil W.BT.nil) (W.BT.node (ob217_227 P) W.BT.nil W.BT.nil)) (W.BT.node (ob121_129 P) (W.BT.node (ob185_193 P) W.BT.nil W.BT.nil) (W.BT.node (ob249_259 P) W.BT.nil W.BT.nil))))) (W.BT.node (ob13_13 P) (W.BT.node (ob21_21 P) (W.BT.node (ob37_40 P) (W.BT.node (ob69_75 P) (W.BT.node (ob133_141 P) (W.BT.node (ob261_273 P) W.BT.nil W.BT.nil) W.BT.nil) (W.BT.node (ob197_207 P) W.BT.nil W.BT.nil)) (W.BT.node (ob101_107 P) (W.BT.node (ob165_173 P) W.BT.nil W.BT.nil) (W.BT.node (ob229_239 P) W.BT.nil W.BT.nil))) (W.BT.node (ob53_59 P) (W.BT.node (ob85_91 P) (W.BT.node (ob149_157 P) W.BT.nil W.BT.nil) (W.BT.node (ob213_223 P) W.BT.nil W.BT.nil)) (W.BT.node (ob117_125 P) (W.BT.node (ob181_189 P) W.BT.nil W.BT.nil) (W.BT.node (ob245_255 P) W.BT.nil W.BT.nil)))) (W.BT.node (ob29_263 P) (W.BT.node (varsObj P) (W.BT.node (ob77_83 P) (W.BT.node (ob141_149 P) W.BT.nil W.BT.nil) (W.BT.node (ob205_215 P) W.BT.nil W.BT.nil)) (W.BT.node (ob109_117 P) (W.BT.node (ob173_181 P) W.BT.nil W.BT.nil) (W.BT.node (ob237_247 P) W.BT.nil W.BT.nil))) (W.BT.node (ob61_67 P) (W.BT.node (ob93_99 P) (W.BT.node (ob157_165 P) W.BT.nil W.BT.nil) (W.BT.node (ob221_231 P) W.BT.nil W.BT.nil)) (W.BT.node (ob125_133 P) (W.BT.node (ob189_199 P) W.BT.nil W.BT.nil) (W.BT.node (ob253_265 P) W.BT.nil W.BT.nil))))))) (W.BT.node (ob2_32 P) (W.BT.node (ob4_4 P) (W.BT.node (ob8_8 P) (W.BT.node (ob16_16 P) (W.BT.node (ob32_35 P) (W.BT.node (ob64_70 P) (W.BT.node (ob128_136 P) (W.BT.node (ob256_268 P) W.BT.nil W.BT.nil) W.BT.nil) (W.BT.node (ob192_202 P) W.BT.nil W.BT.nil)) (W.BT.node (ob96_102 P) (W.BT.node (ob160_168 P) W.BT.nil W.BT.nil) (W.BT.node (ob224_234 P) W.BT.nil W.BT.nil))) (W.BT.node (ob48_52 P) (W.BT.node (ob80_86 P) (W.BT.node (ob144_152 P) W.BT.nil W.BT.nil) (W.BT.node (ob208_218 P) W.BT.nil W.BT.nil)) (W.BT.node (ob112_120 P) (W.BT.node (ob176_184 P) W.BT.nil W.BT.nil) (W.BT.node (ob240_250 P) W.BT.nil W.BT.nil)))) (W.BT.node (ob24_24 P) (W.BT.node (ob40_43 P) (W.BT.node (ob72_78 P) (W.BT.node (ob136_144 P) W.BT.nil W.BT.nil) (W.BT.node (ob200_210 P) W.BT.nil W.BT.nil)) (W.BT.node (ob104_112 P) (W.BT.node (ob168_176 P) W.BT.nil W.BT.nil) (W.BT.node (ob232_242 P) W.BT.nil W.BT.nil))) (W.BT.node (ob56_62 P) (W.BT.node (ob88_94 P) (W.BT.node (ob152_160 P) W.BT.nil W.BT.nil) (W.BT.node (ob216_226 P) W.BT.nil W.BT.nil)) (W.BT.node (ob120_128 P) (W.BT.node (ob184_192 P) W.BT.nil W.BT.nil) (W.BT.node (ob248_258 P) W.BT.nil W.BT.nil))))) (W.BT.node (ob12_12 P) (W.BT.node (ob20_20 P) (W.BT.node (ob36_39 P) (W.BT.node (ob68_74 P) (W.BT.node (ob132_140 P) (W.BT.node (ob260_272 P) W.BT.nil W.BT.nil) W.BT.nil) (W.BT.node (ob196_206 P) W.BT.nil W.BT.nil)) (W.BT.node (ob100_106 P) (W.BT.node (ob164_172 P) W.BT.nil W.BT.nil) (W.BT.node (ob228_238 P) W.BT.nil W.BT.nil))) (W.BT.node (ob52_58 P) (W.BT.node (ob84_90 P) (W.BT.node (ob148_156 P) W.BT.nil W.BT.nil) (W.BT.node (ob212_222 P) W.BT.nil W.BT.nil)) (W.BT.node (ob116_124 P) (W.BT.node (ob180_188 P) W.BT.nil W.BT.nil) (W.BT.node (ob244_254 P) W.BT.nil W.BT.nil)))) (W.BT.node (ob28_28 P) (W.BT.node (ob44_47 P) (W.BT.node (ob76_82 P) (W.BT.node (ob140_148 P) W.BT.nil W.BT.nil) (W.BT.node (ob204_214 P) W.BT.nil W.BT.nil)) (W.BT.node (ob108_116 P) (W.BT.node (ob172_180 P) W.BT.nil W.BT.nil) (W.BT.node (ob236_246 P) W.BT.nil W.BT.nil))) (W.BT.node (ob60_66 P) (W.BT.node (ob92_98 P) (W.BT.node (ob156_164 P) W.BT.nil W.BT.nil) (W.BT.node (ob220_230 P) W.BT.nil W.BT.nil)) (W.BT.node (ob124_132 P) (W.BT.node (ob188_198 P) W.BT.nil W.BT.nil) (W.BT.node (ob252_264 P) W.BT.nil W.BT.nil)))))) (W.BT.node (ob6_6 P) (W.BT.node (ob10_10 P) (W.BT.node (ob18_18 P) (W.BT.node (ob34_37 P) (W.BT.node (ob66_72 P) (W.BT.node (ob130_138 P) (W.BT.node (ob258_270 P) W.BT.nil W.BT.nil) W.BT.nil) (W.BT.node (ob194_204 P) W.BT.nil W.BT.nil)) (W.BT.node (ob98_104 P) (W.BT.node (ob162_170 P) W.BT.nil W.BT.nil) (W.BT.node (ob226_236 P) W.BT.nil W.BT.nil))) (W.BT.node (ob50_54 P) (W.BT.node (ob82_88 P) (W.BT.node (ob146_154 P) W.BT.nil W.BT.nil) (W.BT.node (ob210_220 P) W.BT.nil W.BT.nil)) (W.BT.node (ob114_122 P) (W.BT.node (ob178_186 P) W.BT.nil W.BT.nil) (W.BT.node (ob242_252 P) W.BT.nil W.BT.nil)))) (W.BT.node (ob26_26 P) (W.BT.node (ob42_45 P) (W.BT.node (ob74_80 P) (W.BT.node (ob138_146 P) W.BT.nil W.BT.nil) (W.BT.node (ob202_212 P) W.BT.nil W.BT.nil)) (W.BT.node (ob106_114 P) (W.BT.node (ob170_178 P) W.BT.nil W.BT.nil) (W.BT.node (ob234_244 P) W.BT.nil W.BT.nil))) (W.BT.node (ob58_64 P) (W.BT.node (ob90_96 P) (W.BT.node (ob154_162 P) W.BT.nil W.BT.nil) (W.BT.node (ob218_228 P) W.BT.nil W.BT.nil)) (W.BT.node (ob122_130 P) (W.BT.node (ob186_194 P) W.BT.nil W.BT.nil) (W.BT.node (ob250_260 P) W.BT.nil W.BT.nil))))) (W.BT.node (ob14_14 P) (W.BT.node (ob22_22 P) (W.BT.node (ob38_41 P) (W.BT.node (ob70_76 P) (W.BT.node (ob134_142 P) (W.BT.node (ob262_274 P) W.BT.nil W.BT.nil) W.BT.nil) (W.BT.node (ob198_208 P) W.BT.nil W.BT.nil)) (W.BT.node (ob102_110 P) (W.BT.node (ob166_174 P) W.BT.nil W.BT.nil) (W.BT.node (ob230_240 P) W.BT.nil W.BT.nil))) (W.BT.node (ob54_60 P) (W.BT.node (ob86_92 P) (W.BT.node (ob150_158 P) W.BT.nil W.BT.nil) (W.BT.node (ob214_224 P) W.BT.nil W.BT.nil)) (W.BT.node (ob118_126 P) (W.BT.node (ob182_190 P) W.BT.nil W.BT.nil) (W.BT.node (ob246_256 P) W.BT.nil W.BT.nil)))) (W.BT.node (ob30_30 P) (W.BT.node (ob46_50 P) (W.BT.node (ob78_84 P) (W.BT.node (ob142_150 P) W.BT.nil W.BT.nil) (W.BT.node (ob206_216 P) W.BT.nil W.BT.nil)) (W.BT.node (ob110_118 P) (W.BT.node (ob174_182 P) W.BT.nil W.BT.nil) (W.BT.node (ob238_248 P) W.BT.nil W.BT.nil))) (W.BT.node (ob62_68 P) (W.BT.node (ob94_100 P) (W.BT.node (ob158_166 P) W.BT.nil W.BT.nil) (W.BT.node (ob222_232 P) W.BT.nil W.BT.nil)) (W.BT.node (ob126_134 P) (W.BT.node (ob190_200 P) W.BT.nil W.BT.nil) (W.BT.node (ob254_266 P) W.BT.nil W.BT.nil)))))))
noncomputable abbrev pos3 : Pos := Pos.mk 6 0 6 6
noncomputable abbrev s21_list (P : Params) : @List Obj := [ob0_0 P, ob1_1 P, ob2_32 P, ob3_195 P, ob4_4 P, ob5_5 P, ob6_6 P, ob7_7 P, ob8_8 P, ob9_9 P, ob10_10 P, ob11_11 P, ob12_12 P, ob13_13 P, ob14_14 P, ob15_15 P, ob16_16 P, ob17_17 P, ob18_18 P, ob19_19 P, ob20_20 P, ob21_21 P, ob22_22 P, ob23_23 P, ob24_24 P, ob25_25 P, ob26_26 P, ob27_27 P, ob28_28 P, ob29_196 P, ob30_30 P, ob31_31 P, ob32_35 P, ob33_36 P, ob34_37 P, ob35_38 P, ob36_39 P, ob37_40 P, ob38_41 P, ob39_42 P, ob40_43 P, ob41_44 P, ob42_45 P, ob43_46 P, ob44_47 P, varsObj P, ob46_50 P, ob47_51 P, ob48_52 P, ob49_53 P, ob50_54 P, ob51_57 P, ob52_58 P, ob53_59 P, ob54_60 P, ob55_61 P, ob56_62 P, ob57_63 P, ob58_64 P, ob59_65 P, ob60_66 P, ob61_67 P, ob62_68 P, ob63_69 P, ob64_70 P, ob65_71 P, ob66_72 P, ob67_73 P, ob68_74 P, ob69_75 P, ob70_76 P, ob71_77 P, ob72_78 P, ob73_79 P, ob74_80 P, ob75_81 P, ob76_82 P, ob77_83 P, ob78_84 P, ob79_85 P, ob80_86 P, ob81_87 P, ob82_88 P, ob83_89 P, ob84_90 P, ob85_91 P, ob86_92 P, ob87_93 P, ob88_94 P, ob89_95 P, ob90_96 P, ob91_97 P, ob92_98 P, ob93_99 P, ob94_100 P, ob95_101 P, ob96_102 P, ob97_103 P, ob98_104 P, ob99_105 P, ob100_106 P, ob101_107 P, ob102_110 P, ob103_111 P, ob104_112 P, ob105_113 P, ob106_114 P, ob107_115 P, ob108_116 P, ob109_117 P, ob110_118 P, ob111_119 P, ob112_120 P, ob113_121 P, ob114_122 P, ob115_123 P, ob116_124 P, ob117_125 P, ob118_126 P, ob119_127 P, ob120_128 P, ob121_129 P, ob122_130 P, ob123_131 P, ob124_132 P, ob125_133 P, ob126_134 P, ob127_135 P, ob128_136 P, ob129_137 P, ob130_138 P, ob131_139 P, ob132_140 P, ob133_141 P, ob134_142 P, ob135_143 P, ob136_144 P, ob137_145 P, ob138_146 P, ob139_147 P, ob140_148 P, ob141_149 P, ob142_150 P, ob143_151 P, ob144_152 P, ob145_153 P, ob146_154 P, ob147_155 P, ob148_156 P, ob149_157 P, ob150_158 P, ob151_159 P, ob152_160 P, ob153_161 P, ob154_162 P, ob155_163 P, ob156_164 P, ob157_165 P, ob158_166 P, ob159_167 P, ob160_168 P, ob161_169 P, ob162_170 P, ob163_171 P, ob164_172 P, ob165_173 P, ob166_174 P, ob167_175 P, ob168_176 P, ob169_177 P, ob170_178 P, ob171_179 P, ob172_180 P, ob173_181 P, ob174_182 P, ob175_183 P, ob176_184 P, ob177_185 P, ob178_186 P, ob179_187 P, ob180_188 P, ob181_189 P, ob182_190 P, ob183_191 P, ob184_192 P, ob185_193 P, ob186_194 P, ob187_197 P, ob188_198 P, ob189_199 P, ob190_200 P, ob191_201 P, ob192_202 P, ob193_203 P, ob194_204 P, ob195_205 P, ob196_206 P, ob197_207 P, ob198_208 P, ob199_209 P, ob200_210 P, ob201_211 P, ob202_212 P, ob203_213 P, ob204_214 P, ob205_215 P, ob206_216 P, ob207_217 P, ob208_218 P, ob209_219 P, ob210_220 P, ob211_221 P, ob212_222 P, ob213_223 P, ob214_224 P, ob215_225 P, ob216_226 P, ob217_227 P, ob218_228 P, ob219_229 P, ob220_230 P, ob221_231 P, ob222_232 P, ob223_233 P, ob224_234 P, ob225_235 P, ob226_236 P, ob227_237 P, ob228_238 P, ob229_239 P, ob230_240 P, ob231_241 P, ob232_242 P, ob233_243 P, ob234_244 P, ob235_245 P, ob236_246 P, ob237_247 P, ob238_248 P, ob239_249 P, ob240_250 P, ob241_251 P, ob242_252 P, ob243_253 P, ob244_254 P, ob245_255 P, ob246_256 P, ob247_257 P, ob248_258 P, ob249_259 P, ob250_260 P, ob251_261 P]
noncomputable abbrev s23_life : Life := Life.mk [] [] [] 0 [] [] Bool.false #[] [] 0 Bool.false Bool.false Bool.false (OfNat.ofNat (α := Int) 0) [OfNat.ofNat (α := Int) 2000, OfNat.ofNat (α := Int) 10, OfNat.ofNat (α := Int) 10] Bool.false 0 Bool.true [] [] 0 Bool.false
noncomputable abbrev s21_life : Life := Life.mk [] [] [] 0 [] [] Bool.false #[] [] 0 Bool.false Bool.false Bool.false (OfNat.ofNat (α := Int) 0) [OfNat.ofNat (α := Int) 2000, OfNat.ofNat (α := Int) 10, OfNat.ofNat (α := Int) 10] Bool.false 0 Bool.true [] [] 0 Bool.false
noncomputable abbrev s3_n : Nat := 51
noncomputable abbrev sf_list (P : Params) : @List Obj := [ob0_0 P, ob1_1 P, ob2_32 P, ob3_262 P, ob4_4 P, ob5_5 P, ob6_6 P, ob7_7 P, ob8_8 P, ob9_9 P, ob10_10 P, ob11_11 P, ob12_12 P, ob13_13 P, ob14_14 P, ob15_15 P, ob16_16 P, ob17_17 P, ob18_18 P, ob19_19 P, ob20_20 P, ob21_21 P, ob22_22 P, ob23_23 P, ob24_24 P, ob25_25 P, ob26_26 P, ob27_27 P, ob28_28 P, ob29_263 P, ob30_30 P, ob31_31 P, ob32_35 P, ob33_36 P, ob34_37 P, ob35_38 P, ob36_39 P, ob37_40 P, ob38_41 P, ob39_42 P, ob40_43 P, ob41_44 P, ob42_45 P, ob43_46 P, ob44_47 P, varsObj P, ob46_50 P, ob47_51 P, ob48_52 P, ob49_53 P, ob50_54 P, ob51_57 P, ob52_58 P, ob53_59 P, ob54_60 P, ob55_61 P, ob56_62 P, ob57_63 P, ob58_64 P, ob59_65 P, ob60_66 P, ob61_67 P, ob62_68 P, ob63_69 P, ob64_70 P, ob65_71 P, ob66_72 P, ob67_73 P, ob68_74 P, ob69_75 P, ob70_76 P, ob71_77 P, ob72_78 P, ob73_79 P, ob74_80 P, ob75_81 P, ob76_82 P, ob77_83 P, ob78_84 P, ob79_85 P, ob80_86 P, ob81_87 P, ob82_88 P, ob83_89 P, ob84_90 P, ob85_91 P, ob86_92 P, ob87_93 P, ob88_94 P, ob89_95 P, ob90_96 P, ob91_97 P, ob92_98 P, ob93_99 P, ob94_100 P, ob95_101 P, ob96_102 P, ob97_103 P, ob98_104 P, ob99_105 P, ob100_106 P, ob101_107 P, ob102_110 P, ob103_111 P, ob104_112 P, ob105_113 P, ob106_114 P, ob107_115 P, ob108_116 P, ob109_117 P, ob110_118 P, ob111_119 P, ob112_120 P, ob113_121 P, ob114_122 P, ob115_123 P, ob116_124 P, ob117_125 P, ob118_126 P, ob119_127 P, ob120_128 P, ob121_129 P, ob122_130 P, ob123_131 P, ob124_132 P, ob125_133 P, ob126_134 P, ob127_135 P, ob128_136 P, ob129_137 P, ob130_138 P, ob131_139 P, ob132_140 P, ob133_141 P, ob134_142 P, ob135_143 P, ob136_144 P, ob137_145 P, ob138_146 P, ob139_147 P, ob140_148 P, ob141_149 P, ob142_150 P, ob143_151 P, ob144_152 P, ob145_153 P, ob146_154 P, ob147_155 P, ob148_156 P, ob149_157 P, ob150_158 P, ob151_159 P, ob152_160 P, ob153_161 P, ob154_162 P, ob155_163 P, ob156_164 P, ob157_165 P, ob158_166 P, ob159_167 P, ob160_168 P, ob161_169 P, ob162_170 P, ob163_171 P, ob164_172 P, ob165_173 P, ob166_174 P, ob167_175 P, ob168_176 P, ob169_177 P, ob170_178 P, ob171_179 P, ob172_180 P, ob173_181 P, ob174_182 P, ob175_183 P, ob176_184 P, ob177_185 P, ob178_186 P, ob179_187 P, ob180_188 P, ob181_189 P, ob182_190 P, ob183_191 P, ob184_192 P, ob185_193 P, ob186_194 P, ob187_197 P, ob188_198 P, ob189_199 P, ob190_200 P, ob191_201 P, ob192_202 P, ob193_203 P, ob194_204 P, ob195_205 P, ob196_206 P, ob197_207 P, ob198_208 P, ob199_209 P, ob200_210 P, ob201_211 P, ob202_212 P, ob203_213 P, ob204_214 P, ob205_215 P, ob206_216 P, ob207_217 P, ob208_218 P, ob209_219 P, ob210_220 P, ob211_221 P, ob212_222 P, ob213_223 P, ob214_224 P, ob215_225 P, ob216_226 P, ob217_227 P, ob218_228 P, ob219_229 P, ob220_230 P, ob221_231 P, ob222_232 P, ob223_233 P, ob224_234 P, ob225_235 P, ob226_236 P, ob227_237 P, ob228_238 P, ob229_239 P, ob230_240 P, ob231_241 P, ob232_242 P, ob233_243 P, ob234_244 P, ob235_245 P, ob236_246 P, ob237_247 P, ob238_248 P, ob239_249 P, ob240_250 P, ob241_251 P, ob242_252 P, ob243_253 P, ob244_254 P, ob245_255 P, ob246_256 P, ob247_257 P, ob248_258 P, ob249_259 P, ob250_260 P, ob251_261 P, ob252_264 P, ob253_265 P, ob254_266 P, ob255_267 P, ob256_268 P, ob257_269 P, ob258_270 P, ob259_271 P, ob260_272 P, ob261_273 P, ob262_274 P, ob263_275 P]
noncomputable abbrev s10_life : Life := Life.mk [] [] [] 0 [] [] Bool.false #[] [] 0 Bool.false Bool.false Bool.false (OfNat.ofNat (α := Int) 0) [OfNat.ofNat (α := Int) 2000, OfNat.ofNat (α := Int) 10, OfNat.ofNat (α := Int) 10] Bool.false 0 Bool.true [] [] 0 Bool.false
noncomputable abbrev fr : Nat := 31
noncomputable abbrev s10_n : Nat := 102
noncomputable abbrev sa_drawn : Drawn := Drawn.mk 0 0 0 0
noncomputable abbrev s23_n : Nat := 264
noncomputable abbrev s0_life : Life := Life.mk [] [] [] 0 [] [] Bool.false #[] [] 0 Bool.false Bool.false Bool.false (OfNat.ofNat (α := Int) 0) [OfNat.ofNat (α := Int) 2000, OfNat.ofNat (α := Int) 10, OfNat.ofNat (α := Int) 10] Bool.false 0 Bool.true [] [] 0 Bool.false
noncomputable abbrev s1_list (P : Params) : @List Obj := [ob0_0 P, ob1_1 P, ob2_32 P, ob3_33 P, ob4_4 P, ob5_5 P, ob6_6 P, ob7_7 P, ob8_8 P, ob9_9 P, ob10_10 P, ob11_11 P, ob12_12 P, ob13_13 P, ob14_14 P, ob15_15 P, ob16_16 P, ob17_17 P, ob18_18 P, ob19_19 P, ob20_20 P, ob21_21 P, ob22_22 P, ob23_23 P, ob24_24 P, ob25_25 P, ob26_26 P, ob27_27 P, ob28_28 P, ob29_34 P, ob30_30 P, ob31_31 P, ob32_35 P, ob33_36 P, ob34_37 P, ob35_38 P, ob36_39 P, ob37_40 P, ob38_41 P, ob39_42 P, ob40_43 P, ob41_44 P, ob42_45 P, ob43_46 P, ob44_47 P]
noncomputable abbrev s2_life : Life := Life.mk [] [] [] 0 [] [] Bool.false #[] [] 0 Bool.false Bool.false Bool.false (OfNat.ofNat (α := Int) 0) [OfNat.ofNat (α := Int) 2000, OfNat.ofNat (α := Int) 10, OfNat.ofNat (α := Int) 10] Bool.false 0 Bool.true [] [] 0 Bool.false
noncomputable abbrev s23_list (P : Params) : @List Obj := [ob0_0 P, ob1_1 P, ob2_32 P, ob3_262 P, ob4_4 P, ob5_5 P, ob6_6 P, ob7_7 P, ob8_8 P, ob9_9 P, ob10_10 P, ob11_11 P, ob12_12 P, ob13_13 P, ob14_14 P, ob15_15 P, ob16_16 P, ob17_17 P, ob18_18 P, ob19_19 P, ob20_20 P, ob21_21 P, ob22_22 P, ob23_23 P, ob24_24 P, ob25_25 P, ob26_26 P, ob27_27 P, ob28_28 P, ob29_263 P, ob30_30 P, ob31_31 P, ob32_35 P, ob33_36 P, ob34_37 P, ob35_38 P, ob36_39 P, ob37_40 P, ob38_41 P, ob39_42 P, ob40_43 P, ob41_44 P, ob42_45 P, ob43_46 P, ob44_47 P, varsObj P, ob46_50 P, ob47_51 P, ob48_52 P, ob49_53 P, ob50_54 P, ob51_57 P, ob52_58 P, ob53_59 P, ob54_60 P, ob55_61 P, ob56_62 P, ob57_63 P, ob58_64 P, ob59_65 P, ob60_66 P, ob61_67 P, ob62_68 P, ob63_69 P, ob64_70 P, ob65_71 P, ob66_72 P, ob67_73 P, ob68_74 P, ob69_75 P, ob70_76 P, ob71_77 P, ob72_78 P, ob73_79 P, ob74_80 P, ob75_81 P, ob76_82 P, ob77_83 P, ob78_84 P, ob79_85 P, ob80_86 P, ob81_87 P, ob82_88 P, ob83_89 P, ob84_90 P, ob85_91 P, ob86_92 P, ob87_93 P, ob88_94 P, ob89_95 P, ob90_96 P, ob91_97 P, ob92_98 P, ob93_99 P, ob94_100 P, ob95_101 P, ob96_102 P, ob97_103 P, ob98_104 P, ob99_105 P, ob100_106 P, ob101_107 P, ob102_110 P, ob103_111 P, ob104_112 P, ob105_113 P, ob106_114 P, ob107_115 P, ob108_116 P, ob109_117 P, ob110_118 P, ob111_119 P, ob112_120 P, ob113_121 P, ob114_122 P, ob115_123 P, ob116_124 P, ob117_125 P, ob118_126 P, ob119_127 P, ob120_128 P, ob121_129 P, ob122_130 P, ob123_131 P, ob124_132 P, ob125_133 P, ob126_134 P, ob127_135 P, ob128_136 P, ob129_137 P, ob130_138 P, ob131_139 P, ob132_140 P, ob133_141 P, ob134_142 P, ob135_143 P, ob136_144 P, ob137_145 P, ob138_146 P, ob139_147 P, ob140_148 P, ob141_149 P, ob142_150 P, ob143_151 P, ob144_152 P, ob145_153 P, ob146_154 P, ob147_155 P, ob148_156 P, ob149_157 P, ob150_158 P, ob151_159 P, ob152_160 P, ob153_161 P, ob154_162 P, ob155_163 P, ob156_164 P, ob157_165 P, ob158_166 P, ob159_167 P, ob160_168 P, ob161_169 P, ob162_170 P, ob163_171 P, ob164_172 P, ob165_173 P, ob166_174 P, ob167_175 P, ob168_176 P, ob169_177 P, ob170_178 P, ob171_179 P, ob172_180 P, ob173_181 P, ob174_182 P, ob175_183 P, ob176_184 P, ob177_185 P, ob178_186 P, ob179_187 P, ob180_188 P, ob181_189 P, ob182_190 P, ob183_191 P, ob184_192 P, ob185_193 P, ob186_194 P, ob187_197 P, ob188_198 P, ob189_199 P, ob190_200 P, ob191_201 P, ob192_202 P, ob193_203 P, ob194_204 P, ob195_205 P, ob196_206 P, ob197_207 P, ob198_208 P, ob199_209 P, ob200_210 P, ob201_211 P, ob202_212 P, ob203_213 P, ob204_214 P, ob205_215 P, ob206_216 P, ob207_217 P, ob208_218 P, ob209_219 P, ob210_220 P, ob211_221 P, ob212_222 P, ob213_223 P, ob214_224 P, ob215_225 P, ob216_226 P, ob217_227 P, ob218_228 P, ob219_229 P, ob220_230 P, ob221_231 P, ob222_232 P, ob223_233 P, ob224_234 P, ob225_235 P, ob226_236 P, ob227_237 P, ob228_238 P, ob229_239 P, ob230_240 P, ob231_241 P, ob232_242 P, ob233_243 P, ob234_244 P, ob235_245 P, ob236_246 P, ob237_247 P, ob238_248 P, ob239_249 P, ob240_250 P, ob241_251 P, ob242_252 P, ob243_253 P, ob244_254 P, ob245_255 P, ob246_256 P, ob247_257 P, ob248_258 P, ob249_259 P, ob250_260 P, ob251_261 P, ob252_264 P, ob253_265 P, ob254_266 P, ob255_267 P, ob256_268 P, ob257_269 P, ob258_270 P, ob259_271 P, ob260_272 P, ob261_273 P, ob262_274 P, ob263_275 P]
noncomputable abbrev cv : Value := Value.ref 30
noncomputable abbrev posB : Pos := Pos.mk 0 0 0 0
noncomputable abbrev s11_tree (P : Params) : W.BT := W.BT.node (ob0_0 P) (W.BT.node (ob1_1 P) (W.BT.node (ob3_108 P) (W.BT.node (ob7_7 P) (W.BT.node (ob15_15 P) (W.BT.node (ob31_31 P) (W.BT.node (ob63_69 P) (W.BT.node (ob127_135 P) W.BT.nil W.BT.nil) W.BT.nil) (W.BT.node (ob95_101 P) (W.BT.node (ob159_167 P) W.BT.nil W.BT.nil) W.BT.nil)) (W.BT.node (ob47_51 P) (W.BT.node (ob79_85 P) (W.BT.node (ob143_151 P) W.BT.nil W.BT.nil) W.BT.nil) (W.BT.node (ob111_119 P) (W.BT.node (ob175_183 P) W.BT.nil W.BT.nil) W.BT.nil))) (W.BT.node (ob23_23 P) (W.BT.node (ob39_42 P) (W.BT.node (ob71_77 P) (W.BT.node (ob135_143 P) W.BT.nil W.BT.nil) W.BT.nil) (W.BT.node (ob103_111 P) (W.BT.node (ob167_175 P) W.BT.nil W.BT.nil) W.BT.nil)) (W.BT.node (ob55_61 P) (W.BT.node (ob87_93 P) (W.BT.node (ob151_159 P) W.BT.nil W.BT.nil) W.BT.nil) (W.BT.node (ob119_127 P) (W.BT.node (ob183_191 P) W.BT.nil W.BT.nil) W.BT.nil)))) (W.BT.node (ob11_11 P) (W.BT.node (ob19_19 P) (W.BT.node (ob35_38 P) (W.BT.node (ob67_73 P) (W.BT.node (ob131_139 P) W.BT.nil W.BT.nil) W.BT.nil) (W.BT.node (ob99_105 P) (W.BT.node (ob163_171 P) W.BT.nil W.BT.nil) W.BT.nil)) (W.BT.node (ob51_57 P) (W.BT.node (ob83_89 P) (W.BT.node (ob147_155 P) W.BT.nil W.BT.nil) W.BT.nil) (W.BT.node (ob115_123 P) (W.BT.node (ob179_187 P) W.BT.nil W.BT.nil) W.BT.nil))) (W.BT.node (ob27_27 P) (W.BT.node (ob43_46 P) (W.BT.node (ob75_81 P) (W.BT.node (ob139_147 P) W.BT.nil W.BT.nil) W.BT.nil) (W.BT.node (ob107_115 P) (W.BT.node (ob171_179 P) W.BT.nil W.BT.nil) W.BT.nil)) (W.BT.node (ob59_65 P) (W.BT.node (ob91_97 P) (W.BT.node (ob155_163 P) W.BT.nil W.BT.nil) W.BT.nil) (W.BT.node (ob123_131 P) W.BT.nil W.BT.nil))))) (W.BT.node (ob5_5 P) (W.BT.node (ob9_9 P) (W.BT.node (ob17_17 P) (W.BT.node (ob33_36 P) (W.BT.node (ob65_71 P) (W.BT.node (ob129_137 P) W.BT.nil W.BT.nil) W.BT.nil) (W.BT.node (ob97_103 P) (W.BT.node (ob161_169 P) W.BT.nil W.BT.nil) W.BT.nil)) (W.BT.node (ob49_53 P) (W.BT.node (ob81_87 P) (W.BT.node (ob145_153 P) W.BT.nil W.BT.nil) W.BT.nil) (W.BT.node (ob113_121 P) (W.BT.node (ob177_185 P) W.BT.nil W.BT.nil) W.BT.nil))) (W.BT.node (ob25_25 P) (W.BT.node (ob41_44 P) (W.BT.node (ob73_79 P) (W.BT.node (ob137_145 P) W.BT.nil W.BT.nil) W.BT.nil) (W.BT.node (ob105_113 P) (W.BT.node (ob169_177 P) W.BT.nil W.BT.nil) W.BT.nil)) (W.BT.node (ob57_63 P) (W.BT.node (ob89_95 P) (W.BT.node (ob153_161 P) W.BT.nil W.BT.nil) W.BT.nil) (W.BT.node (ob121_129 P) (W.BT.node (ob185_193 P) W.BT.nil W.BT.nil) W.BT.nil)))) (W.BT.node (ob13_13 P) (W.BT.node (ob21_21 P) (W.BT.node (ob37_40 P) (W.BT.node (ob69_75 P) (W.BT.node (ob133_141 P) W.BT.nil W.BT.nil) W.BT.nil) (W.BT.node (ob101_107 P) (W.BT.node (ob165_173 P) W.BT.nil W.BT.nil) W.BT.nil)) (W.BT.node (ob53_59 P) (W.BT.node (ob85_91 P) (W.BT.node (ob149_157 P) W.BT.nil W.BT.nil) W.BT.nil) (W.BT.node (ob117_125 P) (W.BT.node (ob181_189 P) W.BT.nil W.BT.nil) W.BT.nil))) (W.BT.node (ob29_109 P) (W.BT.node (varsObj P) (W.BT.node (ob77_83 P) (W.BT.node (ob141_149 P) W.BT.nil W.BT.nil) W.BT.nil) (W.BT.node (ob109_117 P) (W.BT.node (ob173_181 P) W.BT.nil W.BT.nil) W.BT.nil)) (W.BT.node (ob61_67 P) (W.BT.node (ob93_99 P) (W.BT.node (ob157_165 P) W.BT.nil W.BT.nil) W.BT.nil) (W.BT.node (ob125_133 P) W.BT.nil W.BT.nil)))))) (W.BT.node (ob2_32 P) (W.BT.node (ob4_4 P) (W.BT.node (ob8_8 P) (W.BT.node (ob16_16 P) (W.BT.node (ob32_35 P) (W.BT.node (ob64_70 P) (W.BT.node (ob128_136 P) W.BT.nil W.BT.nil) W.BT.nil) (W.BT.node (ob96_102 P) (W.BT.node (ob160_168 P) W.BT.nil W.BT.nil) W.BT.nil)) (W.BT.node (ob48_52 P) (W.BT.node (ob80_86 P) (W.BT.node (ob144_152 P) W.BT.nil W.BT.nil) W.BT.nil) (W.BT.node (ob112_120 P) (W.BT.node (ob176_184 P) W.BT.nil W.BT.nil) W.BT.nil))) (W.BT.node (ob24_24 P) (W.BT.node (ob40_43 P) (W.BT.node (ob72_78 P) (W.BT.node (ob136_144 P) W.BT.nil W.BT.nil) W.BT.nil) (W.BT.node (ob104_112 P) (W.BT.node (ob168_176 P) W.BT.nil W.BT.nil) W.BT.nil)) (W.BT.node (ob56_62 P) (W.BT.node (ob88_94 P) (W.BT.node (ob152_160 P) W.BT.nil W.BT.nil) W.BT.nil) (W.BT.node (ob120_128 P) (W.BT.node (ob184_192 P) W.BT.nil W.BT.nil) W.BT.nil)))) (W.BT.node (ob12_12 P) (W.BT.node (ob20_20 P) (W.BT.node (ob36_39 P) (W.BT.node (ob68_74 P) (W.BT.node (ob132_140 P) W.BT.nil W.BT.nil) W.BT.nil) (W.BT.node (ob100_106 P) (W.BT.node (ob164_172 P) W.BT.nil W.BT.nil) W.BT.nil)) (W.BT.node (ob52_58 P) (W.BT.node (ob84_90 P) (W.BT.node (ob148_156 P) W.BT.nil W.BT.nil) W.BT.nil) (W.BT.node (ob116_124 P) (W.BT.node (ob180_188 P) W.BT.nil W.BT.nil) W.BT.nil))) (W.BT.node (ob28_28 P) (W.BT.node (ob44_47 P) (W.BT.node (ob76_82 P) (W.BT.node (ob140_148 P) W.BT.nil W.BT.nil) W.BT.nil) (W.BT.node (ob108_116 P) (W.BT.node (ob172_180 P) W.BT.nil W.BT.nil) W.BT.nil)) (W.BT.node (ob60_66 P) (W.BT.node (ob92_98 P) (W.BT.node (ob156_164 P) W.BT.nil W.BT.nil) W.BT.nil) (W.BT.node (ob124_132 P) W.BT.nil W.BT.nil))))) (W.BT.node (ob6_6 P) (W.BT.node (ob10_10 P) (W.BT.node (ob18_18 P) (W.BT.node (ob34_37 P) (W.BT.node (ob66_72 P) (W.BT.node (ob130_138 P) W.BT.nil W.BT.nil) W.BT.nil) (W.BT.node (ob98_104 P) (W.BT.node (ob162_170 P) W.BT.nil W.BT.nil) W.BT.nil)) (W.BT.node (ob50_54 P) (W.BT.node (ob82_88 P) (W.BT.node (ob146_154 P) W.BT.nil W.BT.nil) W.BT.nil) (W.BT.node (ob114_122 P) (W.BT.node (ob178_186 P) W.BT.nil W.BT.nil) W.BT.nil))) (W.BT.node (ob26_26 P) (W.BT.node (ob42_45 P) (W.BT.node (ob74_80 P) (W.BT.node (ob138_146 P) W.BT.nil W.BT.nil) W.BT.nil) (W.BT.node (ob106_114 P) (W.BT.node (ob170_178 P) W.BT.nil W.BT.nil) W.BT.nil)) (W.BT.node (ob58_64 P) (W.BT.node (ob90_96 P) (W.BT.node (ob154_162 P) W.BT.nil W.BT.nil) W.BT.nil) (W.BT.node (ob122_130 P) (W.BT.node (ob186_194 P) W.BT.nil W.BT.nil) W.BT.nil)))) (W.BT.node (ob14_14 P) (W.BT.node (ob22_22 P) (W.BT.node (ob38_41 P) (W.BT.node (ob70_76 P) (W.BT.node (ob134_142 P) W.BT.nil W.BT.nil) W.BT.nil) (W.BT.node (ob102_110 P) (W.BT.node (ob166_174 P) W.BT.nil W.BT.nil) W.BT.nil)) (W.BT.node (ob54_60 P) (W.BT.node (ob86_92 P) (W.BT.node (ob150_158 P) W.BT.nil W.BT.nil) W.BT.nil) (W.BT.node (ob118_126 P) (W.BT.node (ob182_190 P) W.BT.nil W.BT.nil) W.BT.nil))) (W.BT.node (ob30_30 P) (W.BT.node (ob46_50 P) (W.BT.node (ob78_84 P) (W.BT.node (ob142_150 P) W.BT.nil W.BT.nil) W.BT.nil) (W.BT.node (ob110_118 P) (W.BT.node (ob174_182 P) W.BT.nil W.BT.nil) W.BT.nil)) (W.BT.node (ob62_68 P) (W.BT.node (ob94_100 P) (W.BT.node (ob158_166 P) W.BT.nil W.BT.nil) W.BT.nil) (W.BT.node (ob126_134 P) W.BT.nil W.BT.nil))))))
noncomputable abbrev s1_toks : Nat := 304
noncomputable abbrev s0_drawn : Drawn := Drawn.mk 0 0 0 0
noncomputable abbrev sb_life : Life := Life.mk [] [] [] 0 [] [] Bool.false #[] [] 0 Bool.false Bool.false Bool.false (OfNat.ofNat (α := Int) 0) [OfNat.ofNat (α := Int) 2000, OfNat.ofNat (α := Int) 10, OfNat.ofNat (α := Int) 10] Bool.false 0 Bool.true [] [] 0 Bool.false
noncomputable abbrev ann : @Option Value := some (Value.ref 6)
noncomputable abbrev sb_n : Nat := 32
noncomputable abbrev sf_n : Nat := 264
noncomputable abbrev s10_list (P : Params) : @List Obj := [ob0_0 P, ob1_1 P, ob2_32 P, ob3_55 P, ob4_4 P, ob5_5 P, ob6_6 P, ob7_7 P, ob8_8 P, ob9_9 P, ob10_10 P, ob11_11 P, ob12_12 P, ob13_13 P, ob14_14 P, ob15_15 P, ob16_16 P, ob17_17 P, ob18_18 P, ob19_19 P, ob20_20 P, ob21_21 P, ob22_22 P, ob23_23 P, ob24_24 P, ob25_25 P, ob26_26 P, ob27_27 P, ob28_28 P, ob29_56 P, ob30_30 P, ob31_31 P, ob32_35 P, ob33_36 P, ob34_37 P, ob35_38 P, ob36_39 P, ob37_40 P, ob38_41 P, ob39_42 P, ob40_43 P, ob41_44 P, ob42_45 P, ob43_46 P, ob44_47 P, varsObj P, ob46_50 P, ob47_51 P, ob48_52 P, ob49_53 P, ob50_54 P, ob51_57 P, ob52_58 P, ob53_59 P, ob54_60 P, ob55_61 P, ob56_62 P, ob57_63 P, ob58_64 P, ob59_65 P, ob60_66 P, ob61_67 P, ob62_68 P, ob63_69 P, ob64_70 P, ob65_71 P, ob66_72 P, ob67_73 P, ob68_74 P, ob69_75 P, ob70_76 P, ob71_77 P, ob72_78 P, ob73_79 P, ob74_80 P, ob75_81 P, ob76_82 P, ob77_83 P, ob78_84 P, ob79_85 P, ob80_86 P, ob81_87 P, ob82_88 P, ob83_89 P, ob84_90 P, ob85_91 P, ob86_92 P, ob87_93 P, ob88_94 P, ob89_95 P, ob90_96 P, ob91_97 P, ob92_98 P, ob93_99 P, ob94_100 P, ob95_101 P, ob96_102 P, ob97_103 P, ob98_104 P, ob99_105 P, ob100_106 P, ob101_107 P]
noncomputable abbrev s1_drawn : Drawn := Drawn.mk 0 0 0 0
noncomputable abbrev posPre : Pos := Pos.mk 0 0 0 0
noncomputable abbrev sa_tree (P : Params) : W.BT := W.BT.node (ob0_0 P) (W.BT.node (ob1_1 P) (W.BT.node (ob3_3 P) (W.BT.node (ob7_7 P) (W.BT.node (ob15_15 P) (W.BT.node (ob31_31 P) W.BT.nil W.BT.nil) W.BT.nil) (W.BT.node (ob23_23 P) W.BT.nil W.BT.nil)) (W.BT.node (ob11_11 P) (W.BT.node (ob19_19 P) W.BT.nil W.BT.nil) (W.BT.node (ob27_27 P) W.BT.nil W.BT.nil))) (W.BT.node (ob5_5 P) (W.BT.node (ob9_9 P) (W.BT.node (ob17_17 P) W.BT.nil W.BT.nil) (W.BT.node (ob25_25 P) W.BT.nil W.BT.nil)) (W.BT.node (ob13_13 P) (W.BT.node (ob21_21 P) W.BT.nil W.BT.nil) (W.BT.node (ob29_29 P) W.BT.nil W.BT.nil)))) (W.BT.node (ob2_2 P) (W.BT.node (ob4_4 P) (W.BT.node (ob8_8 P) (W.BT.node (ob16_16 P) W.BT.nil W.BT.nil) (W.BT.node (ob24_24 P) W.BT.nil W.BT.nil)) (W.BT.node (ob12_12 P) (W.BT.node (ob20_20 P) W.BT.nil W.BT.nil) (W.BT.node (ob28_28 P) W.BT.nil W.BT.nil))) (W.BT.node (ob6_6 P) (W.BT.node (ob10_10 P) (W.BT.node (ob18_18 P) W.BT.nil W.BT.nil) (W.BT.node (ob26_26 P) W.BT.nil W.BT.nil)) (W.BT.node (ob14_14 P) (W.BT.node (ob22_22 P) W.BT.nil W.BT.nil) (W.BT.node (ob30_30 P) W.BT.nil W.BT.nil))))
noncomputable abbrev sf_toks : Nat := 824
noncomputable abbrev s23_drawn : Drawn := Drawn.mk 0 0 0 0
noncomputable abbrev s1_life : Life := Life.mk [] [] [] 0 [] [] Bool.false #[] [] 0 Bool.false Bool.false Bool.false (OfNat.ofNat (α := Int) 0) [OfNat.ofNat (α := Int) 2000, OfNat.ofNat (α := Int) 10, OfNat.ofNat (α := Int) 10] Bool.false 0 Bool.true [] [] 0 Bool.false
noncomputable abbrev pos2 : Pos := Pos.mk 5 0 5 5
noncomputable abbrev s10_drawn : Drawn := Drawn.mk 0 0 0 0
noncomputable abbrev steps : @List Nat := [12, 0, 9, 196, 123, 249, 33, 32, 32, 29, 29, 29, 29, 521, 9, 18, 13, 70, 37, 30, 34, 43, 32, 31, 31, 26, 1]
noncomputable abbrev s0_list (P : Params) : @List Obj := [ob0_0 P, ob1_1 P, ob2_2 P, ob3_3 P, ob4_4 P, ob5_5 P, ob6_6 P, ob7_7 P, ob8_8 P, ob9_9 P, ob10_10 P, ob11_11 P, ob12_12 P, ob13_13 P, ob14_14 P, ob15_15 P, ob16_16 P, ob17_17 P, ob18_18 P, ob19_19 P, ob20_20 P, ob21_21 P, ob22_22 P, ob23_23 P, ob24_24 P, ob25_25 P, ob26_26 P, ob27_27 P]
noncomputable abbrev s23_toks : Nat := 824
noncomputable abbrev frp : Pos := Pos.mk 0 0 0 0
noncomputable abbrev s11_n : Nat := 187
noncomputable abbrev s11_toks : Nat := 695
end Mine

open PySem PySem.W PySem.Calls PyProof.Rows
set_option Elab.async false
set_option linter.all false
set_option maxRecDepth 100000
namespace Mine
noncomputable def body : List Stmt := behindTheImports pw
noncomputable def env : Env := { scope := pw.main.scope, locals := mainNs, globals := mainNs, cells := [], code := cv, frame := some fr }
noncomputable def cE : Code := .body body env

noncomputable def H0 (P : Params) : Heap := ⟨(s0_list P).toArray, s0_life⟩
noncomputable def Ha (P : Params) : Heap := ⟨(sa_list P).toArray, sa_life⟩
noncomputable def Hf (P : Params) : Heap := ⟨(sf_list P).toArray, sf_life⟩
noncomputable def SB (w : World) (os : OsState) : SharedT := ⟨sb_tree w.params, sb_n, sb_life, #[], sb_drawn, sb_toks, os⟩
noncomputable def S1 (w : World) (os : OsState) : SharedT := ⟨s1_tree w.params, s1_n, s1_life, #[], s1_drawn, s1_toks, os⟩
noncomputable def S2 (w : World) (os : OsState) : SharedT := ⟨s2_tree w.params, s2_n, s2_life, #[], s2_drawn, s2_toks, os⟩
noncomputable def S3 (w : World) (os : OsState) : SharedT := ⟨s3_tree w.params, s3_n, s3_life, #[], s3_drawn, s3_toks, os⟩
noncomputable def S10 (w : World) (os : OsState) : SharedT := ⟨s10_tree w.params, s10_n, s10_life, #[], s10_drawn, s10_toks, os⟩
noncomputable def S11 (w : World) (os : OsState) : SharedT := ⟨s11_tree w.params, s11_n, s11_life, #[], s11_drawn, s11_toks, os⟩
noncomputable def S21 (w : World) (os : OsState) : SharedT := ⟨s21_tree w.params, s21_n, s21_life, #[], s21_drawn, s21_toks, os⟩
noncomputable def S23 (w : World) (os : OsState) : SharedT := ⟨s23_tree w.params, s23_n, s23_life, #[], s23_drawn, s23_toks, os⟩
theorem hd_open (w : World) : (fencedOpening treeTable pw w 3000).map (fun s => (s.heap, s.gens, s.drawn, s.toks)) = some (H0 w.params, #[], s0_drawn, s0_toks) := by
  kernel_rfl
theorem hd_size (w : World) : ((H0 w.params).isNs mainGlobals && (#[] : Array GenState).size == 0, (H0 w.params).objs.size, (H0 w.params).nsMap mainGlobals "__annotations__") = (true, 28, ann) := by
  kernel_rfl
theorem hd_pre (w : World) (os : OsState) : topGo treeTable pw w 28 ann 12 ⟨H0 w.params, #[], s0_drawn, s0_toks, os⟩ (topStub pw) = some (⟨Ha w.params, #[], sa_drawn, sa_toks, os⟩, ⟨denote treeTable cE, cE, posPre, [topFrame frp]⟩) := by
  kernel_rfl
theorem hd_block (w : World) (os : OsState) : segRun treeTable pw w 28 ann 1 1 ⟨Ha w.params, #[], sa_drawn, sa_toks, os⟩ (blockOf body env cE posPre [topFrame frp]) = some (.next, (SB w os).abs, cE, posB) := by
  kernel_rfl
theorem hdA (w : World) (os : OsState) : segRunT treeTable pw w 28 ann 1 206 (SB w os) (piecesOf (body.take 2) env cE posB [topFrame frp]) = some (.next, S1 w os, cE, pos1) := by
  kernel_rfl

theorem hd_tree (w : World) : s2_tree w.params = ((s1_tree w.params).ins 45 (varsObj w.params)).set mainNs (Obj.putName "_VARS" (hashStr w "_VARS") (.str "_VARS" 320) (.ref 45)) := by
  kernel_rfl

noncomputable def o3 (P : Params) : Obj := ((s1_tree P).get 3).getD default
noncomputable def o30 (P : Params) : Obj := ((s1_tree P).get 30).getD default
def esOf (o : Obj) : Array DictEntry := match o.data with | .dict es _ => es | _ => #[]
def epOf (o : Obj) : Nat := match o.data with | .dict _ n => n | _ => 0
def fsOf (o : Obj) : Array Value := match o.data with | .fields vs => vs | _ => #[]
def fileOf (v : Value) : Str := match v with | .str x _ => x | _ => Str.empty
def tokOf (v : Value) : Tok := match v with | .str _ k => k | _ => 0
noncomputable def stV : Stmt := (body[2]?).getD default
def setElts (s : Stmt) : List Expr := match s with | .Assign _ (.Set es _ _) _ => es | _ => []
def setPos (s : Stmt) : Pos := match s with | .Assign _ (.Set _ _ p) _ => p | _ => default
def tgtPos (s : Stmt) : Pos := match s with | .Assign [.Name _ p] _ _ => p | _ => default
def stPos (s : Stmt) : Pos := match s with | .Assign _ _ p => p | _ => default
theorem stV_is : stV = .Assign [.Name "_VARS" (tgtPos stV)] (.Set (setElts stV) 0 (setPos stV)) (stPos stV) := by kernel_rfl
theorem get_abs (w : World) (os : OsState) {a : Addr} {o : Obj} (h : a < 45) (g : (s1_tree w.params).get a = some o) (al : alive o = some o) : (S1 w os).abs.heap.get? a = some o := by
  show (absHeap (s1_tree w.params) 45 s1_life).get? a = _
  rw [abs_get h g, al]
theorem trs_V (w : World) (os : OsState) : Trs pw w 28 ann (exec stV env) (S1 w os).abs pos1 .next
    { (S1 w os).abs with heap := ((S1 w os).abs.heap.push (varsObjOf w.params names8 304)).update mainNs (Obj.putName "_VARS" (hashStr w "_VARS") (.str "_VARS" 320) (.ref 45)), toks := 321 } pos2 360 := by
  rw [stV_is]
  have hsz : (S1 w os).abs.heap.objs.size = 45 := absHeap_size _ _ _
  have := trs_vars (p := pw) (w := w) (n₀ := 28) (ann := ann) (env := env) (name := "_VARS") (file := fileOf ((fsOf (o30 w.params)).getD 18 .none)) (np := tgtPos stV) (sp := setPos stV) (pos := stPos stV) (elts := setElts stV) (xs := names8)
    (c := 30) (oc := o30 w.params) (om := o3 w.params) (vs := fsOf (o30 w.params)) (tk := tokOf ((fsOf (o30 w.params)).getD 18 .none)) (es := esOf (o3 w.params)) (n := epOf (o3 w.params)) (s := (S1 w os).abs) (q := pos1)
    (by kernel_rfl) (by kernel_rfl) (by decide) (by decide +kernel) (by decide) (by rw [hsz]; decide) (by kernel_rfl) (get_abs w os (by decide) (by kernel_rfl) (by kernel_rfl)) (by kernel_rfl) (by kernel_rfl)
    (get_abs w os (by decide) (by kernel_rfl) (by kernel_rfl)) (by kernel_rfl) (by kernel_rfl) (fun v => by kernel_rfl)
  rw [hsz] at this
  exact this
theorem abs_S2 (w : World) (os : OsState) : { (S1 w os).abs with heap := ((S1 w os).abs.heap.push (varsObjOf w.params names8 304)).update mainNs (Obj.putName "_VARS" (hashStr w "_VARS") (.str "_VARS" 320) (.ref 45)), toks := 321 } = (S2 w os).abs := by
  have e1 : (absHeap ((s1_tree w.params).ins 45 (varsObj w.params)) 46 s1_life) = (absHeap (s1_tree w.params) 45 s1_life).push (varsObj w.params) := absHeap_ins (by kernel_rfl)
  have e2 : absHeap (((s1_tree w.params).ins 45 (varsObj w.params)).set mainNs (Obj.putName "_VARS" (hashStr w "_VARS") (.str "_VARS" 320) (.ref 45))) 46 s1_life = (absHeap ((s1_tree w.params).ins 45 (varsObj w.params)) 46 s1_life).update mainNs (Obj.putName "_VARS" (hashStr w "_VARS") (.str "_VARS" 320) (.ref 45)) := absHeap_set (o := o3 w.params) (by kernel_rfl)
  rw [e1, ← hd_tree] at e2
  show (⟨(((absHeap (s1_tree w.params) 45 s1_life)).push (varsObj w.params)).update mainNs (Obj.putName "_VARS" (hashStr w "_VARS") (.str "_VARS" 320) (.ref 45)), #[], s1_drawn, 321, os⟩ : Shared) = ⟨absHeap (s2_tree w.params) 46 s2_life, #[], s2_drawn, 321, os⟩
  rw [← e2]
theorem hd_vars (w : World) (os : OsState) (rest : List Stmt) : Goes pw w 28 ann 360 (S1 w os).abs (restOf (stV :: rest) env cE pos1 [topFrame frp]) (S2 w os).abs (restOf rest env cE pos2 [topFrame frp]) := by
  have := goes_vars (rest := rest) (cc := cE) (B := [topFrame frp]) (trs_V w os)
  rw [abs_S2] at this
  exact this

theorem hdB1 (w : World) (os : OsState) : segRunT treeTable pw w 28 ann 1 250 (S2 w os) (piecesOf ((body.drop 3).take 1) env cE pos2 [topFrame frp]) = some (.next, S3 w os, cE, pos3) := by
  kernel_rfl
theorem hdB2 (w : World) (os : OsState) : segRunT treeTable pw w 28 ann 1 214 (S3 w os) (piecesOf ((body.drop 4).take 7) env cE pos3 [topFrame frp]) = some (.next, S10 w os, cE, pos10) := by
  kernel_rfl
theorem hdB3 (w : World) (os : OsState) : segRunT treeTable pw w 28 ann 1 522 (S10 w os) (piecesOf ((body.drop 11).take 1) env cE pos10 [topFrame frp]) = some (.next, S11 w os, cE, pos11) := by
  kernel_rfl
theorem hdB4 (w : World) (os : OsState) : segRunT treeTable pw w 28 ann 1 400 (S11 w os) (piecesOf ((body.drop 12).take 10) env cE pos11 [topFrame frp]) = some (.next, S21 w os, cE, pos21) := by
  kernel_rfl
theorem hdB5 (w : World) (os : OsState) : segRunT treeTable pw w 28 ann 1 400 (S21 w os) (piecesOf (body.drop 22) env cE pos21 [topFrame frp]) = some (.next, S23 w os, cE, pos23) := by
  kernel_rfl
theorem hd_fin (w : World) (os : OsState) : topRun treeTable pw w 28 ann 2 (S23 w os).abs ⟨doneF .next, cE, pos23, [topFrame frp]⟩ = some ⟨Hf w.params, #[], sf_drawn, sf_toks, os⟩ := by
  kernel_rfl

noncomputable def stLaw : Stmt := (body[23]?).getD default
noncomputable def qv : Program := { pw with main := { pw.main with body := [stLaw] } }
def looseN : List Str := ["_sre", "__name__", "RuleError", "_VARS", "_RULES", "tokenize_rule", "test_next_token", "skip_token", "value_node", "ident_node", "range_list_node", "negate", "_Parser", "_law_letters", "_law_points", "_law_heads", "_law_marks", "_law_foreign", "_law_behind", "_law_piece", "_law_fold", "_law_sentence", "_law_read"]
noncomputable def Sf (w : World) (os : OsState) : Shared := ⟨Hf w.params, #[], sf_drawn, sf_toks, os⟩
/-- the objects that stand behind the top, each at its place -/
noncomputable def K (P : Params) : Frag := (sf_list P).zipIdx.map fun x => (x.2, x.1)
noncomputable def asK : List Addr := List.range 264
theorem asK_is (P : Params) : asK = (K P).map (·.1) := by kernel_rfl
theorem lk1 (w : World) (os : OsState) : (staticsOk (importedModules pw.main.body) (H0 w.params) (Hf w.params) && namesBound pw (Hf w.params) && gensDone (Sf w os) && laidKept (H0 w.params) (Hf w.params)) = true := by
  kernel_rfl
theorem lk2 (w : World) (os : OsState) : openSeen qv looseN (importedModules pw.main.body) (fun _ => true) true (Sf w os) = openGood qv looseN := by
  unfold openSeen openGood
  refine looks_pair (by kernel_rfl) (looks_pair (by kernel_rfl) (looks_pair (by kernel_rfl) (looks_pair (by kernel_rfl) (looks_pair (by kernel_rfl) (looks_pair (by kernel_rfl) (looks_pair (by kernel_rfl) (looks_pair (by kernel_rfl) (by kernel_rfl))))))))
theorem lk3 (w : World) (os : OsState) : asK.map (Sf w os).heap.get? = (K w.params).map fun p => some p.2 := by
  kernel_rfl

theorem goes_piece {p : Program} {w : World} {n₀ : Nat} {ann : Option Value} {env : Env} {q : Pos} {n : Nat} {s s' : SharedT} {l rest : List Stmt} {c : Code} {pos p' : Pos}
    (h : segRunT treeTable p w n₀ ann 1 n s (piecesOf l env c pos [topFrame q]) = some (.next, s', c, p')) :
    Goes p w n₀ ann n s.abs (restOf (l ++ rest) env c pos [topFrame q]) s'.abs (restOf rest env c p' [topFrame q]) := fun N r hr => piece_app (segRun_of h) hr
theorem body_is : body = body.take 2 ++ (stV :: ((body.drop 3).take 1 ++ ((body.drop 4).take 7 ++ ((body.drop 11).take 1 ++ ((body.drop 12).take 10 ++ (body.drop 22 ++ [])))))) := by kernel_rfl
theorem hd_goes (w : World) (os : OsState) : Goes pw w 28 ann (206 + (360 + (250 + (214 + (522 + (400 + 400)))))) (SB w os).abs (restOf body env cE posB [topFrame frp]) (S23 w os).abs (restOf [] env cE pos23 [topFrame frp]) := by
  rw [body_is]
  exact (goes_piece (hdA w os)).trans ((hd_vars w os _).trans ((goes_piece (hdB1 w os)).trans ((goes_piece (hdB2 w os)).trans ((goes_piece (hdB3 w os)).trans ((goes_piece (hdB4 w os)).trans (goes_piece (hdB5 w os)))))))
theorem hd_run (w : World) (os : OsState) : topRun treeTable pw w 28 ann 2367 ⟨H0 w.params, #[], s0_drawn, s0_toks, os⟩ (topStub pw) = some (Sf w os) :=
  go_top (n := 12) (N := 2355) (hd_pre w os) (piece_block (n := 1) (N := 2354) (hd_block w os) (hd_goes w os 2 _ (hd_fin w os)))
noncomputable abbrev kh : Hook := kHook K asK asK_is
theorem head : LeftO pw qv looseN (fun _ => true) kh.obs kh.val 3000 :=
  LeftO.of_pieces (H₀ := H0) (H₁ := Hf) (gs₀ := #[]) (gs₁ := #[]) (d₀ := s0_drawn) (d₁ := sf_drawn) (k₀ := s0_toks) (k₁ := sf_toks) (m₀ := 28) (ann := ann) (M := 2367)
    hd_open hd_size hd_run (by decide) (fun w => funext fun os => Prod.ext (lk1 w os) (Prod.ext (lk2 w os) (lk3 w os)))
def recOfDef (s : Stmt) : DefRec := match s with | .FunctionDef n a b _ _ _ sc _ _ p => ⟨n, a, b, sc, p⟩ | _ => ⟨default, default, [], default, default⟩
noncomputable def lawRec : DefRec := recOfDef stLaw
theorem law_of_walk (walk : WalkO qv looseN (fun _ _ => True) kh.says PySem.Challenge.rw_ew5004_02.row.toRowW lawRec [] fun f vs => PySem.call f vs) : PySem.Challenge.rw_ew5004_02.Holds := by
  w_on
  o_law
  refine W.holds_open (q := qv) (loose := looseN) (Xt := fun _ => true) (XP := fun _ _ => True) (Yf := kh.obs) (Ya := kh.val) (YP := kh.says) (d := lawRec) (kwd := []) (N := 3000) head kh.of kh.keeps (fun _ _ => trivial) (fun _ _ _ _ _ => trivial)
    (by kernel_rfl) (by kernel_rfl) (by kernel_rfl) (fun s _ => recFacts_nil rfl) (by rfl) (by assumption) (by kernel_rfl) ⟨rfl, rfl, rfl, rfl, rfl, by decide +kernel⟩ ⟨[.list []], by decide +kernel, by decide +kernel⟩ walk
end Mine

open PySem PySem.W PySem.Calls PyProof.Rows
set_option Elab.async false
set_option linter.all false
namespace Mine

/-- values as trees; lists, dicts, instances and cells by a number of their place -/
inductive AV where
  | none | bool (b : Bool) | int (i : Int) | str (s : Str) | tup (l : List AV) | loc (k : Nat) | val (v : Value)
  deriving Inhabited
inductive AO where
  | lst (l : List AV) | dct (fs : List (Str × AV)) | inst (C : Addr) (k : Nat) | cell (v : Option AV) | exc (C : Addr) (msg : Str) | rng (a b c : Int)
  deriving Inhabited

mutual
def Rel (ι : List Addr) (h : Heap) (v : Value) : AV → Prop
  | .none => v = .none
  | .bool b => v = .bool b
  | .int i => ∃ t, v = .int i t
  | .str x => ∃ t, v = .str x t
  | .tup l => ∃ a vs, v = .ref a ∧ h.TupAt a vs ∧ RelL ι h vs l
  | .loc k => ∃ a, v = .ref a ∧ ι[k]? = some a
  | .val u => v = u
def RelL (ι : List Addr) (h : Heap) (vs : List Value) : List AV → Prop
  | [] => vs = []
  | a :: l => ∃ v r, vs = v :: r ∧ Rel ι h v a ∧ RelL ι h r l
end

def EntRel (ι : List Addr) (h : Heap) : List DictEntry → List (Str × AV) → Prop
  | [], [] => True
  | e :: es, f :: fs => (∃ t, e.key = .str f.1 t) ∧ Rel ι h e.val f.2 ∧ EntRel ι h es fs
  | _, _ => False
def ObjRel (ι : List Addr) (h : Heap) (a : Addr) : AO → Prop
  | .lst l => ∃ vs n, h.get? a = some (listOf vs.toArray n) ∧ RelL ι h vs l
  | .dct fs => ∃ es n, h.get? a = some (dictOf es n) ∧ EntRel ι h es fs
  | .inst C k => ∃ dx, ι[k]? = some dx ∧ h.get? a = some (instObj C dx)
  | .rng x y z => ∃ t u v, IsRange h a x y z t u v
  | .exc C msg => ∃ o vs t tk, h.get? a = some o ∧ o.cls = .ref C ∧ o.data = .fields vs ∧ vs[0]? = some (.ref t) ∧ h.TupAt t [.str msg tk]
  | .cell v => (match v with | some x => ∃ u, h.IsCell a (some u) ∧ Rel ι h u x | none => h.IsCell a none)

theorem ObjRel.isList {ι : List Addr} {h : Heap} {a : Addr} {l : List AV} (r : ObjRel ι h a (.lst l)) : ∃ vs, h.IsList a vs.toArray ∧ RelL ι h vs l :=
  let ⟨vs, n, e, q⟩ := r; ⟨vs, ⟨_, e, rfl, n, rfl⟩, q⟩
structure SRel (ι : List Addr) (σ : List AO) (h : Heap) : Prop where
  len : ι.length = σ.length
  nodup : ι.Nodup
  objs : ∀ (k : Nat) (o : AO) (a : Addr), σ[k]? = some o → ι[k]? = some a → ObjRel ι h a o

/-- tuples stay -/
def TK (h h' : Heap) : Prop := ∀ t vs, h.TupAt t vs → h'.TupAt t vs
theorem TK.refl (h : Heap) : TK h h := fun _ _ x => x
theorem TK.trans {h h' h'' : Heap} (x : TK h h') (y : TK h' h'') : TK h h'' := fun t vs z => y t vs (x t vs z)
theorem TK.of_keeps {h h' : Heap} (k : ∀ b o, h.get? b = some o → h'.get? b = some o) : TK h h' := fun t vs x => x.keeps k

def Pre (ι ι' : List Addr) : Prop := ∃ r, ι' = ι ++ r
theorem Pre.refl (ι : List Addr) : Pre ι ι := ⟨[], (List.append_nil _).symm⟩
theorem Pre.trans {ι ι' ι'' : List Addr} : Pre ι ι' → Pre ι' ι'' → Pre ι ι'' := fun ⟨r, e⟩ ⟨r', e'⟩ => ⟨r ++ r', by rw [e', e, List.append_assoc]⟩
theorem Pre.get {ι ι' : List Addr} {k : Nat} {a : Addr} (p : Pre ι ι') (h : ι[k]? = some a) : ι'[k]? = some a := by
  obtain ⟨r, rfl⟩ := p
  have := (List.getElem?_eq_some_iff.mp h).1
  rw [List.getElem?_append_left this]; exact h
theorem Pre.mem {ι ι' : List Addr} {a : Addr} (p : Pre ι ι') (h : a ∈ ι) : a ∈ ι' := by obtain ⟨r, rfl⟩ := p; exact List.mem_append_left _ h

mutual
theorem Rel.mono {ι ι' : List Addr} {h h' : Heap} (p : Pre ι ι') (tk : TK h h') {v : Value} : ∀ {a : AV}, Rel ι h v a → Rel ι' h' v a
  | .none, x => by simpa only [Rel] using x
  | .bool _, x => by simpa only [Rel] using x
  | .int _, x => by simpa only [Rel] using x
  | .str _, x => by simpa only [Rel] using x
  | .tup l, x => by
    simp only [Rel] at x ⊢
    obtain ⟨a, vs, e, t, r⟩ := x
    exact ⟨a, vs, e, tk _ _ t, RelL.mono p tk r⟩
  | .loc k, x => by
    simp only [Rel] at x ⊢
    obtain ⟨a, e, g⟩ := x
    exact ⟨a, e, p.get g⟩
  | .val _, x => by simpa only [Rel] using x
theorem RelL.mono {ι ι' : List Addr} {h h' : Heap} (p : Pre ι ι') (tk : TK h h') {vs : List Value} : ∀ {l : List AV}, RelL ι h vs l → RelL ι' h' vs l
  | [], x => by simpa only [RelL] using x
  | a :: l, x => by
    simp only [RelL] at x ⊢
    obtain ⟨v, r, e, y, z⟩ := x
    exact ⟨v, r, e, Rel.mono p tk y, RelL.mono p tk z⟩
end
theorem EntRel.mono {ι ι' : List Addr} {h h' : Heap} (p : Pre ι ι') (tk : TK h h') : ∀ {es : List DictEntry} {fs : List (Str × AV)}, EntRel ι h es fs → EntRel ι' h' es fs
  | [], [], _ => trivial
  | _ :: _, _ :: _, x => by
    simp only [EntRel] at x ⊢
    exact ⟨x.1, x.2.1.mono p tk, x.2.2.mono p tk⟩
  | [], _ :: _, x => by simp only [EntRel] at x
  | _ :: _, [], x => by simp only [EntRel] at x

theorem RelL.nil {ι : List Addr} {h : Heap} : RelL ι h [] [] := by simp only [RelL]
theorem RelL.cons {ι : List Addr} {h : Heap} {v : Value} {vs : List Value} {a : AV} {l : List AV} (x : Rel ι h v a) (y : RelL ι h vs l) : RelL ι h (v :: vs) (a :: l) := by
  simp only [RelL]; exact ⟨v, vs, rfl, x, y⟩
theorem RelL.length {ι : List Addr} {h : Heap} : ∀ {vs : List Value} {l : List AV}, RelL ι h vs l → vs.length = l.length
  | vs, [], x => by simp only [RelL] at x; rw [x]; rfl
  | vs, a :: l, x => by
    simp only [RelL] at x
    obtain ⟨v, r, rfl, _, z⟩ := x
    rw [List.length_cons, List.length_cons, z.length]
theorem RelL.get {ι : List Addr} {h : Heap} : ∀ {vs : List Value} {l : List AV} {i : Nat} {a : AV}, RelL ι h vs l → l[i]? = some a → ∃ v, vs[i]? = some v ∧ Rel ι h v a
  | vs, [], i, a, x, e => by cases e
  | vs, b :: l, i, a, x, e => by
    simp only [RelL] at x
    obtain ⟨v, r, rfl, y, z⟩ := x
    cases i with
    | zero => cases e; exact ⟨v, rfl, y⟩
    | succ i => exact z.get (i := i) (by simpa using e)
theorem RelL.append {ι : List Addr} {h : Heap} {us : List Value} {m : List AV} : ∀ {vs : List Value} {l : List AV}, RelL ι h vs l → RelL ι h us m → RelL ι h (vs ++ us) (l ++ m)
  | vs, [], x, y => by simp only [RelL] at x; subst x; exact y
  | vs, a :: l, x, y => by
    simp only [RelL] at x
    obtain ⟨v, r, rfl, p, q⟩ := x
    exact RelL.cons p (q.append y)
theorem RelL.reverse {ι : List Addr} {h : Heap} : ∀ {vs : List Value} {l : List AV}, RelL ι h vs l → RelL ι h vs.reverse l.reverse
  | vs, [], x => by simp only [RelL] at x; subst x; exact RelL.nil
  | vs, a :: l, x => by
    simp only [RelL] at x
    obtain ⟨v, r, rfl, p, q⟩ := x
    rw [List.reverse_cons, List.reverse_cons]
    exact q.reverse.append (RelL.cons p RelL.nil)
theorem RelL.drop {ι : List Addr} {h : Heap} : ∀ {vs : List Value} {l : List AV} (n : Nat), RelL ι h vs l → RelL ι h (vs.drop n) (l.drop n)
  | vs, [], n, x => by simp only [RelL] at x; subst x; rw [List.drop_nil, List.drop_nil]; exact RelL.nil
  | vs, a :: l, 0, x => x
  | vs, a :: l, n + 1, x => by
    simp only [RelL] at x
    obtain ⟨v, r, rfl, p, q⟩ := x
    exact q.drop n
theorem RelL.take {ι : List Addr} {h : Heap} : ∀ {vs : List Value} {l : List AV} (n : Nat), RelL ι h vs l → RelL ι h (vs.take n) (l.take n)
  | vs, [], n, x => by simp only [RelL] at x; subst x; rw [List.take_nil, List.take_nil]; exact RelL.nil
  | vs, a :: l, 0, x => RelL.nil
  | vs, a :: l, n + 1, x => by
    simp only [RelL] at x
    obtain ⟨v, r, rfl, p, q⟩ := x
    exact RelL.cons p (q.take n)

/-- the same but for the slots of a frame -/
def Same (h' : Heap) (b : Addr) (o : Obj) : Prop := ∃ sl, h'.get? b = some { o with slots := sl } ∧ ((∀ es n, o.data ≠ .dict es n) → sl = o.slots)
theorem Same.of {h' : Heap} {b : Addr} {o : Obj} (e : h'.get? b = some o) : Same h' b o := ⟨o.slots, e, fun _ => rfl⟩
theorem Same.eq {h' : Heap} {b : Addr} {o : Obj} (x : Same h' b o) (n : ∀ es n, o.data ≠ .dict es n) : h'.get? b = some o := by
  obtain ⟨sl, e, k⟩ := x
  rw [e, k n]
theorem Same.trans {h' h'' : Heap} {b : Addr} {o : Obj} (x : Same h' b o) (y : ∀ o', h'.get? b = some o' → Same h'' b o') : Same h'' b o := by
  obtain ⟨sl, e, k⟩ := x
  obtain ⟨sl', e', k'⟩ := y _ e
  exact ⟨sl', e', fun n => (k' n).trans (k n)⟩
/-- what may have turned between two heaps: the places of ι, what is one's own, and slots -/
structure Step (own : Addr → Prop) (ι ι' : List Addr) (h h' : Heap) : Prop where
  pre : Pre ι ι'
  new : ∀ a ∈ ι', a ∈ ι ∨ h.get? a = none
  live : ∀ b o, h.get? b = some o → ∃ o', h'.get? b = some o'
  keep : ∀ b o, h.get? b = some o → b ∉ ι → ¬ own b → Same h' b o
abbrev noOwn : Addr → Prop := fun _ => False
theorem Step.refl {own : Addr → Prop} {ι : List Addr} {h : Heap} : Step own ι ι h h := ⟨Pre.refl ι, fun _ => .inl, fun b o e => ⟨o, e⟩, fun b o e _ _ => .of e⟩
theorem Step.old {own : Addr → Prop} {ι ι' : List Addr} {h h' : Heap} (x : Step own ι ι' h h') {b : Addr} {o : Obj} (hb : b ∉ ι) (hl : h.get? b = some o) : b ∉ ι' := fun hm => by
  rcases x.new b hm with q | q
  · exact hb q
  · rw [q] at hl; cases hl
theorem Step.trans {own : Addr → Prop} {ι ι' ι'' : List Addr} {h h' h'' : Heap} (x : Step own ι ι' h h') (y : Step own ι' ι'' h' h'') : Step own ι ι'' h h'' where
  pre := x.pre.trans y.pre
  new := fun a ha => by
    rcases y.new a ha with q | q
    · exact x.new a q
    · refine .inr ?_
      cases e : h.get? a with
      | none => rfl
      | some o => obtain ⟨o', e'⟩ := x.live a o e; rw [q] at e'; cases e'
  live := fun b o e => by
    obtain ⟨o', e'⟩ := x.live b o e
    exact y.live b o' e'
  keep := fun b o e hb ho => (x.keep b o e hb ho).trans fun o' e' => y.keep b o' e' (x.old hb e) ho
theorem Step.weaken {own own' : Addr → Prop} {ι ι' : List Addr} {h h' : Heap} (x : Step own ι ι' h h') (k : ∀ b, own b → own' b) : Step own' ι ι' h h' :=
  ⟨x.pre, x.new, x.live, fun b o e hb ho => x.keep b o e hb fun q => ho (k b q)⟩
theorem size_le_of_keeps {h h' : Heap} (k : ∀ b o, h.get? b = some o → h'.get? b = some o) (a : ∀ b, h.objs.size ≤ b → True) : True := trivial

theorem SRel.notTup {ι : List Addr} {σ : List AO} {h : Heap} (S : SRel ι σ h) {a : Addr} {vs : List Value} (ha : a ∈ ι) (t : h.TupAt a vs) : False := by
  obtain ⟨k, hk⟩ := List.getElem?_of_mem ha
  have hlt : k < σ.length := S.len ▸ (List.getElem?_eq_some_iff.mp hk).1
  have hr := S.objs k _ a (List.getElem?_eq_getElem hlt) hk
  obtain ⟨o, n, ho, hc, hd⟩ := t
  generalize σ[k] = x at hr
  cases x with
  | lst l =>
    obtain ⟨us, m, ho', _⟩ := hr
    rw [ho] at ho'; cases ho'; exact absurd hc (by simp)
  | dct fs =>
    obtain ⟨es, m, ho', _⟩ := hr
    rw [ho] at ho'; cases ho'; exact absurd hc (by simp)
  | inst C k =>
    obtain ⟨dx, _, ho'⟩ := hr
    rw [ho] at ho'; cases ho'; cases hc
  | rng x y z =>
    obtain ⟨t, u, v, ho'⟩ := hr
    have ho' : h.get? a = some _ := ho'
    rw [ho] at ho'; cases ho'; cases hd
  | exc C msg =>
    obtain ⟨o', vs', t, tk, ho', hc', hd', _⟩ := hr
    rw [ho] at ho'; cases ho'; rw [hd] at hd'; cases hd'
  | cell v =>
    have : ∃ u, h.IsCell a u := by
      cases v with
      | none => exact ⟨none, hr⟩
      | some x => obtain ⟨u, q, _⟩ := hr; exact ⟨_, q⟩
    obtain ⟨u, o', ho', hd'⟩ := this
    rw [ho] at ho'; cases ho'; rw [hd] at hd'; cases hd'
theorem Step.tk {own : Addr → Prop} {ι ι' : List Addr} {h h' : Heap} {σ : List AO} (x : Step own ι ι' h h') (S : SRel ι σ h) (ho : ∀ b, own b → ∀ vs, ¬ h.TupAt b vs) : TK h h' := fun t vs z => by
  have z' := z
  obtain ⟨o, n, e, hc, hd⟩ := z
  obtain ⟨sl, g, _⟩ := x.keep t o e (fun hm => S.notTup hm z') (fun q => ho t q vs z')
  exact ⟨_, n, g, hc, hd⟩
theorem Step.tk0 {ι ι' : List Addr} {h h' : Heap} {σ : List AO} (x : Step noOwn ι ι' h h') (S : SRel ι σ h) : TK h h' := x.tk S fun _ q => q.elim
theorem ObjRel.mono {ι ι' : List Addr} {h h' : Heap} {a : Addr} {o : AO} (p : Pre ι ι') (tk : TK h h') (e : ∀ x, h.get? a = some x → h'.get? a = some x) (r : ObjRel ι h a o) : ObjRel ι' h' a o := by
  cases o with
  | lst l => obtain ⟨us, m, hx, q⟩ := r; exact ⟨us, m, e _ hx, q.mono p tk⟩
  | dct fs => obtain ⟨es, n, hx, q⟩ := r; exact ⟨es, n, e _ hx, q.mono p tk⟩
  | inst C k => obtain ⟨dx, g, hx⟩ := r; exact ⟨dx, p.get g, e _ hx⟩
  | rng x y z => obtain ⟨t, u, v, hx⟩ := r; exact ⟨t, u, v, e _ hx⟩
  | exc C msg => obtain ⟨x, vs, t, tt, hx, h1, h2, h3, h4⟩ := r; exact ⟨x, vs, t, tt, e _ hx, h1, h2, h3, tk _ _ h4⟩
  | cell v =>
    cases v with
    | none => obtain ⟨x, hx, rest⟩ := r; exact ⟨x, e _ hx, rest⟩
    | some y => obtain ⟨u, ⟨x, hx, rest⟩, q⟩ := r; exact ⟨u, ⟨x, e _ hx, rest⟩, q.mono p tk⟩
theorem SRel.grow {ι : List Addr} {σ : List AO} {h h' : Heap} (S : SRel ι σ h) (k : ∀ b o, h.get? b = some o → h'.get? b = some o) : SRel ι σ h' :=
  ⟨S.len, S.nodup, fun i o a hs hi => (S.objs i o a hs hi).mono (Pre.refl ι) (TK.of_keeps k) fun x hx => k _ _ hx⟩
theorem SRel.some_obj {ι : List Addr} {σ : List AO} {h : Heap} (S : SRel ι σ h) {a : Addr} (ha : a ∈ ι) : ∃ o, h.get? a = some o := by
  obtain ⟨k, hk⟩ := List.getElem?_of_mem ha
  have hlt : k < σ.length := S.len ▸ (List.getElem?_eq_some_iff.mp hk).1
  have hr := S.objs k _ a (List.getElem?_eq_getElem hlt) hk
  generalize σ[k] = x at hr
  cases x with
  | lst l => obtain ⟨us, m, ho', _⟩ := hr; exact ⟨_, ho'⟩
  | dct fs => obtain ⟨es, m, ho', _⟩ := hr; exact ⟨_, ho'⟩
  | inst C k => obtain ⟨dx, _, ho'⟩ := hr; exact ⟨_, ho'⟩
  | rng x y z => obtain ⟨t, u, v, ho'⟩ := hr; exact ⟨_, ho'⟩
  | exc C msg => obtain ⟨o', vs, t, tt, ho', _⟩ := hr; exact ⟨_, ho'⟩
  | cell v =>
    cases v with
    | none => obtain ⟨o', ho', _⟩ := hr; exact ⟨_, ho'⟩
    | some x => obtain ⟨u, ⟨o', ho', _⟩, _⟩ := hr; exact ⟨_, ho'⟩
/-- a new object for a new place -/
theorem SRel.push {ι : List Addr} {σ : List AO} {h h' : Heap} {a : Addr} {o : AO} (S : SRel ι σ h) (k : ∀ b x, h.get? b = some x → h'.get? b = some x) (ha : h.objs.size ≤ a) (r : ObjRel (ι ++ [a]) h' a o) : SRel (ι ++ [a]) (σ ++ [o]) h' := by
  have hn : a ∉ ι := fun hm => by obtain ⟨x, hx⟩ := S.some_obj hm; exact absurd (Heap.lt_size hx) (Nat.not_lt.mpr ha)
  refine ⟨by rw [List.length_append, List.length_append, S.len]; rfl, ?_, fun i x b hs hi => ?_⟩
  · refine List.nodup_append.mpr ⟨S.nodup, List.nodup_cons.mpr ⟨List.not_mem_nil, List.nodup_nil⟩, fun x hx y hy => ?_⟩
    rw [List.mem_singleton.mp hy]; exact fun q => hn (q ▸ hx)
  · by_cases hl : i < σ.length
    · rw [List.getElem?_append_left hl] at hs
      rw [List.getElem?_append_left (S.len ▸ hl)] at hi
      exact (S.objs i x b hs hi).mono ⟨[a], rfl⟩ (TK.of_keeps k) fun y hy => k _ _ hy
    · have hi' : i = σ.length := by
        have := (List.getElem?_eq_some_iff.mp hs).1
        rw [List.length_append] at this
        simp only [List.length_singleton] at this
        omega
      subst hi'
      rw [List.getElem?_append_right (Nat.le_refl _), Nat.sub_self] at hs
      rw [List.getElem?_append_right (by rw [S.len]; exact Nat.le_refl _), S.len, Nat.sub_self] at hi
      cases hs; cases hi; exact r
/-- a place changed -/
theorem SRel.set {ι : List Addr} {σ : List AO} {h h' : Heap} {a : Addr} {k : Nat} {o : AO} (S : SRel ι σ h) (hk : ι[k]? = some a) (same : ∀ b x, b ≠ a → h.get? b = some x → h'.get? b = some x) (r : ObjRel ι h' a o) : SRel ι (σ.set k o) h' := by
  have tk : TK h h' := fun t vs z => by
    have z' := z
    obtain ⟨x, n, e, hc, hd⟩ := z
    exact ⟨x, n, same _ _ (fun q => S.notTup (q ▸ List.mem_of_getElem? hk : t ∈ ι) z') e, hc, hd⟩
  refine ⟨by rw [List.length_set]; exact S.len, S.nodup, fun i x b hs hi => ?_⟩
  by_cases e : k = i
  · subst e
    have hlt : k < σ.length := S.len ▸ (List.getElem?_eq_some_iff.mp hk).1
    rw [List.getElem?_set_self hlt] at hs
    rw [hk] at hi
    cases hs; cases hi; exact r
  · rw [List.getElem?_set_ne e] at hs
    have hab : b ≠ a := fun q => e ((List.getElem?_inj (List.getElem?_eq_some_iff.mp hk).1 S.nodup).mp (by rw [hk, hi, q]))
    exact (S.objs i x b hs hi).mono (Pre.refl ι) tk fun y hy => same _ _ hab hy
end Mine

open PySem PySem.W PySem.Calls PyProof.Rows
set_option Elab.async false
set_option linter.all false
namespace Mine

structure Wd where
  prog : Program
  w : World
  H₀ : Heap
  os : OsState
  C : Addr
abbrev Wd.M (W : Wd) : Model := model W.prog W.w

structure Fx where
  scope : Scope
  cells : List (Str × Nat)
  n : Nat
  hd : Bool

structure AOk (n : Nat) (hd : Bool) (A : Around) (l : List Env) : Prop where
  frames : A.frames = some l
  handled : hd = false → A.handled = none
  depth : A.depth + n ≤ 900
  units : A.units + 10 * n ≤ 5000

structure EnvIs (X : Fx) (ι : List Addr) (env : Env) (L : Addr) : Prop where
  scope : env.scope = X.scope
  locals : env.locals = L
  globals : env.globals = mainGlobals
  builtins : env.builtins = builtinsNs
  cells : ∀ x k, X.cells.lookup x = some k → ∃ a, ι[k]? = some a ∧ env.cells.lookup x = some a

structure Inv (W : Wd) (l : List Env) (σ : List AO) (ι : List Addr) (s : Shared) : Prop where
  base : ∀ b o, W.H₀.get? b = some o → s.heap.get? b = some o
  srel : SRel ι σ s.heap
  fresh : ∀ a ∈ ι, W.H₀.get? a = none
  frames : s.heap.FunFrames W.H₀ l
  apart : ∀ a ∈ ι, a ∉ l.filterMap (·.frame)
  frn : ∀ a ∈ l.filterMap (·.frame), ∃ m, s.heap.Ns a m
  gens : s.gens = #[]
  os : s.os = W.os

theorem Inv.frd {W : Wd} {l : List Env} {σ : List AO} {ι : List Addr} {s : Shared} (I : Inv W l σ ι s) : ∀ a ∈ l.filterMap (·.frame), ∃ o es n, s.heap.get? a = some o ∧ o.data = .dict es n := fun a ha =>
  let ⟨_, o, es, n, ho, hd, _⟩ := I.frn a ha; ⟨o, es, n, ho, hd⟩
structure Fram (ρ : List (Str × AV)) (L : Addr) (ι : List Addr) (h : Heap) : Prop where
  ns : ∃ m, h.Ns L m ∧ ∀ x a, ρ.lookup x = some a → ∃ v, m x = some v ∧ Rel ι h v a
  notin : L ∉ ι

theorem ns_upto {h h' : Heap} {L : Addr} {m : Str → Option Value} (n : h.Ns L m) (k : ∀ o, h.get? L = some o → Same h' L o) : h'.Ns L m := by
  obtain ⟨o, es, ep, ho, hd, r⟩ := n
  obtain ⟨sl, g, _⟩ := k o ho
  exact ⟨_, es, ep, g, hd, r⟩
theorem Fram.step {ρ : List (Str × AV)} {L : Addr} {ι ι' : List Addr} {h h' : Heap} {σ : List AO} (F : Fram ρ L ι h) (st : Step noOwn ι ι' h h') (S : SRel ι σ h) : Fram ρ L ι' h' := by
  obtain ⟨⟨m, hn, hv⟩, hL⟩ := F
  have hlt : ∃ o, h.get? L = some o := by obtain ⟨o, es, ep, ho, _⟩ := hn; exact ⟨o, ho⟩
  obtain ⟨o, hlt⟩ := hlt
  refine ⟨⟨m, ns_upto hn fun o ho => st.keep L o ho hL id, fun x a hx => ?_⟩, st.old hL hlt⟩
  obtain ⟨v, e, r⟩ := hv x a hx
  exact ⟨v, e, r.mono st.pre (st.tk0 S)⟩
theorem EnvIs.mono {X : Fx} {ι ι' : List Addr} {env : Env} {L : Addr} (e : EnvIs X ι env L) (p : Pre ι ι') : EnvIs X ι' env L :=
  ⟨e.scope, e.locals, e.globals, e.builtins, fun x k h => let ⟨a, g, r⟩ := e.cells x k h; ⟨a, p.get g, r⟩⟩

/-- an exception on its way: made in this frame, or come from a callee -/
def Air (W : Wd) (l : List Env) (own : Addr → Prop) (ι : List Addr) (h : Heap) (e : Addr) (msg : Str) (σ' : List AO) (ι' : List Addr) (h' : Heap) : Prop :=
  (∃ (s₁ : Shared) (tk : Tok), Heap.MadeExcOf s₁.heap h' e (.ref W.C) [.str msg tk] ∧ Inv W l σ' ι' s₁ ∧ Step own ι ι' h s₁.heap) ∨
  (∃ B t tk, W.H₀.StaysIn B ∧ SRel ι' σ' B ∧ (∀ b o, h.get? b = some o → b ∉ ι → ¬ own b → b ∉ l.filterMap (·.frame) → Same B b o) ∧ B.get? t = none ∧ h'.TupAt t [.str msg tk] ∧ Heap.FlyingW B l e (.ref W.C) (.ref t) h')

def Got (W : Wd) (l : List Env) (ι : List Addr) (s : Shared) (Q : AV → List AO → Prop) (v : Value) (s' : Shared) : Prop :=
  ∃ a σ' ι', Q a σ' ∧ Rel ι' s'.heap v a ∧ Inv W l σ' ι' s' ∧ Step noOwn ι ι' s.heap s'.heap
def GotU (W : Wd) (l : List Env) (ι : List Addr) (s : Shared) (Q : List AO → Prop) (s' : Shared) : Prop :=
  ∃ σ' ι', Q σ' ∧ Inv W l σ' ι' s' ∧ Step noOwn ι ι' s.heap s'.heap
def Thrown (W : Wd) (l : List Env) (own : Addr → Prop) (ι : List Addr) (s : Shared) (E : Str → List AO → Prop) (v : Value) (s' : Shared) : Prop :=
  ∃ e msg σ' ι', v = .ref e ∧ E msg σ' ∧ Inv W l σ' ι' s' ∧ Step own ι ι' s.heap s'.heap ∧ Air W l own ι s.heap e msg σ' ι' s'.heap

/-- an operation on the state alone -/
def AO0 (W : Wd) (X : Fx) {α : Type} (t : Sem α) (σ : List AO) (Q : α → List AO → Prop) (E : Str → List AO → Prop) : Prop :=
  ∀ (A : Around) (l : List Env) (ι : List Addr) (s : Shared), AOk X.n X.hd A l → Inv W l σ ι s → wpAny W.M A t (fun b => GotU W l ι s (Q b)) (Thrown W l noOwn ι s E) s
def AOp1 (W : Wd) (X : Fx) (t : Value → Sem Value) (a : AV) (σ : List AO) (Q : AV → List AO → Prop) (E : Str → List AO → Prop) : Prop :=
  ∀ (A : Around) (l : List Env) (ι : List Addr) (s : Shared) (v : Value), AOk X.n X.hd A l → Inv W l σ ι s → Rel ι s.heap v a → wpAny W.M A (t v) (Got W l ι s Q) (Thrown W l noOwn ι s E) s
def AOp2 (W : Wd) (X : Fx) (t : Value → Value → Sem Value) (a b : AV) (σ : List AO) (Q : AV → List AO → Prop) (E : Str → List AO → Prop) : Prop :=
  ∀ (A : Around) (l : List Env) (ι : List Addr) (s : Shared) (v u : Value), AOk X.n X.hd A l → Inv W l σ ι s → Rel ι s.heap v a → Rel ι s.heap u b → wpAny W.M A (t v u) (Got W l ι s Q) (Thrown W l noOwn ι s E) s
def ABool1 (W : Wd) (X : Fx) (t : Value → Sem Bool) (a : AV) (σ : List AO) (Q : Bool → List AO → Prop) (E : Str → List AO → Prop) : Prop :=
  ∀ (A : Around) (l : List Env) (ι : List Addr) (s : Shared) (v : Value), AOk X.n X.hd A l → Inv W l σ ι s → Rel ι s.heap v a → wpAny W.M A (t v) (fun b => GotU W l ι s (Q b)) (Thrown W l noOwn ι s E) s

def AW (W : Wd) (X : Fx) (e : Expr) (ρ : List (Str × AV)) (σ : List AO) (Q : AV → List AO → Prop) (E : Str → List AO → Prop) : Prop :=
  ∀ (A : Around) (env : Env) (L : Addr) (l : List Env) (ι : List Addr) (s : Shared), AOk X.n X.hd A l → EnvIs X ι env L → Inv W l σ ι s → Fram ρ L ι s.heap →
    wpAny W.M A (eval e env) (Got W l ι s Q) (Thrown W l noOwn ι s E) s
def AT (W : Wd) (X : Fx) (e : Expr) (ρ : List (Str × AV)) (σ : List AO) (Q : Bool → List AO → Prop) (E : Str → List AO → Prop) : Prop :=
  ∀ (A : Around) (env : Env) (L : Addr) (l : List Env) (ι : List Addr) (s : Shared), AOk X.n X.hd A l → EnvIs X ι env L → Inv W l σ ι s → Fram ρ L ι s.heap →
    wpAny W.M A (isTrue e env (eval e env)) (fun b => GotU W l ι s (Q b)) (Thrown W l noOwn ι s E) s
def AWs (W : Wd) (X : Fx) (es : List Expr) (ρ : List (Str × AV)) (σ : List AO) (Q : List AV → List AO → Prop) (E : Str → List AO → Prop) : Prop :=
  ∀ (A : Around) (env : Env) (L : Addr) (l : List Env) (ι : List Addr) (s : Shared) (pos : Pos), AOk X.n X.hd A l → EnvIs X ι env L → Inv W l σ ι s → Fram ρ L ι s.heap →
    wpAny W.M A (spliced (backTo pos (starEach es env))) (fun vs s' => ∃ as σ' ι', Q as σ' ∧ RelL ι' s'.heap vs as ∧ Inv W l σ' ι' s' ∧ Step noOwn ι ι' s.heap s'.heap) (Thrown W l noOwn ι s E) s

theorem Air.pre {W : Wd} {l : List Env} {own : Addr → Prop} {ι ι' ι'' : List Addr} {σ' : List AO} {h h₁ h' : Heap} {e : Addr} {msg : Str} (st : Step own ι ι' h h₁) (x : Air W l own ι' h₁ e msg σ' ι'' h') : Air W l own ι h e msg σ' ι'' h' := by
  rcases x with ⟨h₂, tk, a, b, c⟩ | ⟨B, t, tk, a, z, b, c⟩
  · exact .inl ⟨h₂, tk, a, b, st.trans c⟩
  · exact .inr ⟨B, t, tk, a, z, fun i o hi hn ho hf => (st.keep i o hi hn ho).trans fun o' e' => b i o' e' (st.old hn hi) ho hf, c⟩
theorem Air.weaken {W : Wd} {l : List Env} {own own' : Addr → Prop} {ι ι'' : List Addr} {σ' : List AO} {h h' : Heap} {e : Addr} {msg : Str} (k : ∀ b, own b → own' b) (x : Air W l own ι h e msg σ' ι'' h') : Air W l own' ι h e msg σ' ι'' h' := by
  rcases x with ⟨h₂, tk, a, b, c⟩ | ⟨B, t, tk, a, z, b, c⟩
  · exact .inl ⟨h₂, tk, a, b, c.weaken k⟩
  · exact .inr ⟨B, t, tk, a, z, fun i o hi hn ho hf => b i o hi hn (fun q => ho (k i q)) hf, c⟩
theorem Thrown.preO {W : Wd} {l : List Env} {own : Addr → Prop} {ι ι' : List Addr} {s s₁ : Shared} {E : Str → List AO → Prop} {v : Value} {s' : Shared} (st : Step own ι ι' s.heap s₁.heap) (x : Thrown W l own ι' s₁ E v s') : Thrown W l own ι s E v s' := by
  obtain ⟨e, msg, σ', ι'', a, b, c, d, f⟩ := x
  exact ⟨e, msg, σ', ι'', a, b, c, st.trans d, f.pre st⟩
theorem Thrown.pre {W : Wd} {l : List Env} {own : Addr → Prop} {ι ι' : List Addr} {s s₁ : Shared} {E : Str → List AO → Prop} {v : Value} {s' : Shared} (st : Step noOwn ι ι' s.heap s₁.heap) (x : Thrown W l own ι' s₁ E v s') : Thrown W l own ι s E v s' := x.preO (st.weaken fun _ q => q.elim)
theorem Thrown.weaken {W : Wd} {l : List Env} {own own' : Addr → Prop} {ι : List Addr} {s : Shared} {E E' : Str → List AO → Prop} {v : Value} {s' : Shared} (k : ∀ b, own b → own' b) (hE : ∀ msg σ', E msg σ' → E' msg σ') (x : Thrown W l own ι s E v s') : Thrown W l own' ι s E' v s' := by
  obtain ⟨e, msg, σ', ι'', a, b, c, d, f⟩ := x
  exact ⟨e, msg, σ', ι'', a, hE _ _ b, c, d.weaken k, f.weaken k⟩
theorem Got.pre {W : Wd} {l : List Env} {ι ι' : List Addr} {s s₁ : Shared} {Q : AV → List AO → Prop} {v : Value} {s' : Shared} (st : Step noOwn ι ι' s.heap s₁.heap) (x : Got W l ι' s₁ Q v s') : Got W l ι s Q v s' := by
  obtain ⟨a, σ', ι'', q, r, i, t⟩ := x
  exact ⟨a, σ', ι'', q, r, i, st.trans t⟩
theorem GotU.pre {W : Wd} {l : List Env} {ι ι' : List Addr} {s s₁ : Shared} {Q : List AO → Prop} {s' : Shared} (st : Step noOwn ι ι' s.heap s₁.heap) (x : GotU W l ι' s₁ Q s') : GotU W l ι s Q s' := by
  obtain ⟨σ', ι'', q, i, t⟩ := x
  exact ⟨σ', ι'', q, i, st.trans t⟩

section
variable {W : Wd} {X : Fx} {ρ : List (Str × AV)} {σ : List AO} {Q : AV → List AO → Prop} {E : Str → List AO → Prop} {e l r : Expr} {op : Operator} {pos : Pos}
/-- go on behind an expression -/
theorem AW.andThen {A : Around} {env : Env} {L : Addr} {fl : List Env} {ι : List Addr} {s : Shared} {β : Type} {k : Value → Sem β} {P : β → Shared → Prop} {R : AV → List AO → Prop}
    (h : AW W X e ρ σ R E) (ok : AOk X.n X.hd A fl) (en : EnvIs X ι env L) (I : Inv W fl σ ι s) (F : Fram ρ L ι s.heap)
    (next : ∀ v a σ' ι' s', R a σ' → Rel ι' s'.heap v a → Inv W fl σ' ι' s' → Step noOwn ι ι' s.heap s'.heap → EnvIs X ι' env L → Fram ρ L ι' s'.heap → wpAny W.M A (k v) P (Thrown W fl noOwn ι s E) s') :
    wpAny W.M A (eval e env) (fun v s' => wpAny W.M A (k v) P (Thrown W fl noOwn ι s E) s') (Thrown W fl noOwn ι s E) s := by
  refine wpAny_mono (h A env L fl ι s ok en I F) (fun v s' g => ?_) fun _ _ x => x
  obtain ⟨a, σ', ι', q, r, i, t⟩ := g
  exact next v a σ' ι' s' q r i t (en.mono t.pre) (F.step t I.srel)

theorem AW_BinOp (h : AW W X l ρ σ (fun a σ₁ => AW W X r ρ σ₁ (fun b σ₂ => AOp2 W X (binaryOp op) a b σ₂ Q E) E) E) : AW W X (.BinOp l op r pos) ρ σ Q E := by
  intro A env L fl ι s ok en I F
  refine wpAny_BinOp ?_
  refine wpAny_mono (h A env L fl ι s ok en I F) (fun v s₁ g => ?_) fun _ _ x => x
  obtain ⟨a, σ₁, ι₁, q₁, r₁, i₁, t₁⟩ := g
  refine wpAny_mono (q₁ A env L fl ι₁ s₁ ok (en.mono t₁.pre) i₁ (F.step t₁ I.srel)) (fun u s₂ g => ?_) fun _ _ x => x.pre t₁
  obtain ⟨b, σ₂, ι₂, q₂, r₂, i₂, t₂⟩ := g
  exact wpAny_mono (q₂ A fl ι₂ s₂ v u ok i₂ (r₁.mono t₂.pre (t₂.tk0 i₁.srel)) r₂) (fun _ _ x => x.pre (t₁.trans t₂)) fun _ _ x => x.pre (t₁.trans t₂)
theorem AW_Compare1 {op : CmpOp} (h : AW W X l ρ σ (fun a σ₁ => AW W X r ρ σ₁ (fun b σ₂ => AOp2 W X (compareOp op) a b σ₂ Q E) E) E) (hm : behindInMarks op r = false := by with_unfolding_all rfl) : AW W X (.Compare l [op] [r] pos) ρ σ Q E := by
  intro A env L fl ι s ok en I F
  refine wpAny_Compare1 ?_ hm
  refine wpAny_mono (h A env L fl ι s ok en I F) (fun v s₁ g => ?_) fun _ _ x => x
  obtain ⟨a, σ₁, ι₁, q₁, r₁, i₁, t₁⟩ := g
  refine wpAny_mono (q₁ A env L fl ι₁ s₁ ok (en.mono t₁.pre) i₁ (F.step t₁ I.srel)) (fun u s₂ g => ?_) fun _ _ x => x.pre t₁
  obtain ⟨b, σ₂, ι₂, q₂, r₂, i₂, t₂⟩ := g
  exact wpAny_mono (q₂ A fl ι₂ s₂ v u ok i₂ (r₁.mono t₂.pre (t₂.tk0 i₁.srel)) r₂) (fun _ _ x => x.pre (t₁.trans t₂)) fun _ _ x => x.pre (t₁.trans t₂)
theorem AT_Compare1 {op : CmpOp} {Q : Bool → List AO → Prop} (h : AW W X l ρ σ (fun a σ₁ => AW W X r ρ σ₁ (fun b σ₂ => AOp2 W X (compareOp op) a b σ₂ (fun c σ₃ => ABool1 W X truthy c σ₃ Q E) E) E) E) (hm : behindInMarks op r = false := by with_unfolding_all rfl) : AT W X (.Compare l [op] [r] pos) ρ σ Q E := by
  intro A env L fl ι s ok en I F
  refine wpAny_isTrue_Compare1 ?_ hm
  refine wpAny_mono (h A env L fl ι s ok en I F) (fun v s₁ g => ?_) fun _ _ x => x
  obtain ⟨a, σ₁, ι₁, q₁, r₁, i₁, t₁⟩ := g
  refine wpAny_mono (q₁ A env L fl ι₁ s₁ ok (en.mono t₁.pre) i₁ (F.step t₁ I.srel)) (fun u s₂ g => ?_) fun _ _ x => x.pre t₁
  obtain ⟨b, σ₂, ι₂, q₂, r₂, i₂, t₂⟩ := g
  refine wpAny_mono (q₂ A fl ι₂ s₂ v u ok i₂ (r₁.mono t₂.pre (t₂.tk0 i₁.srel)) r₂) (fun c s₃ g => ?_) fun _ _ x => x.pre (t₁.trans t₂)
  obtain ⟨c', σ₃, ι₃, q₃, r₃, i₃, t₃⟩ := g
  exact wpAny_mono (q₃ A fl ι₃ s₃ c ok i₃ r₃) (fun _ _ x => x.pre ((t₁.trans t₂).trans t₃)) fun _ _ x => x.pre ((t₁.trans t₂).trans t₃)
theorem Inv.toks {fl : List Env} {ι : List Addr} {s : Shared} (I : Inv W fl σ ι s) (n : Nat) : Inv W fl σ ι { s with toks := n } := ⟨I.base, I.srel, I.fresh, I.frames, I.apart, I.frn, I.gens, I.os⟩
theorem Got.here {fl : List Env} {ι : List Addr} {s s' : Shared} {a : AV} {v : Value} (q : Q a σ) (r : Rel ι s'.heap v a) (I : Inv W fl σ ι s') (e : s'.heap = s.heap) : Got W fl ι s Q v s' := ⟨a, σ, ι, q, r, I, by rw [e]; exact Step.refl⟩
theorem GotU.here {fl : List Env} {ι : List Addr} {s s' : Shared} {Q : List AO → Prop} (q : Q σ) (I : Inv W fl σ ι s') (e : s'.heap = s.heap) : GotU W fl ι s Q s' := ⟨σ, ι, q, I, by rw [e]; exact Step.refl⟩
theorem AW_int {i : Int} {kk : Nat} (q : Q (.int i) σ) : AW W X (.Constant (.int i) kk pos) ρ σ Q E := by
  intro A env L fl ι s ok en I F
  exact wpAny_Constant_int (Got.here q (by simp only [Rel]; exact ⟨_, rfl⟩) (I.toks _) rfl)
end
end Mine

open PySem PySem.W PySem.Calls PyProof.Rows
set_option Elab.async false
set_option linter.all false
namespace Mine
section
variable {W : Wd} {X : Fx} {ρ : List (Str × AV)} {σ : List AO} {Q : AV → List AO → Prop} {E : Str → List AO → Prop} {e l r : Expr} {pos : Pos} {kk : Nat}

theorem AW_str {x : Str} (q : Q (.str x) σ) : AW W X (.Constant (.str x) kk pos) ρ σ Q E := by
  intro A env L fl ι s ok en I F
  exact wpAny_Constant_str (Got.here q (by simp only [Rel]; exact ⟨_, rfl⟩) (I.toks _) rfl)
theorem AW_none (q : Q .none σ) : AW W X (.Constant .none kk pos) ρ σ Q E := by
  intro A env L fl ι s ok en I F
  exact wpAny_Constant_none (Got.here q (by simp only [Rel]) I rfl)
theorem AW_bool {b : Bool} (q : Q (.bool b) σ) : AW W X (.Constant (.bool b) kk pos) ρ σ Q E := by
  intro A env L fl ι s ok en I F
  exact wpAny_Constant_bool (Got.here q (by simp only [Rel]) I rfl)

theorem AW_local {x : Str} {a : AV} (hv : ρ.lookup x = some a) (q : Q a σ) (hk : X.scope.kind = .function := by rfl) (hl : X.scope.names.lookup x = some .local := by rfl)
    (hd : (x == ("__debug__" : Str)) = false := by decide) : AW W X (.Name x pos) ρ σ Q E := by
  intro A env L fl ι s ok en I F
  obtain ⟨⟨m, hn, hm⟩, hL⟩ := F
  obtain ⟨v, hv, rv⟩ := hm x a hv
  exact wpAny_Name (wpAny_loadName_local (by rw [en.scope]; exact hk) (by show env.scope.names.lookup x = _; rw [en.scope]; exact hl) (by rw [en.locals]; exact hn) hv (Got.here q rv I rfl)) hd
theorem AW_cell {x : Str} {k : Nat} {a : AV} (hc : X.cells.lookup x = some k) (hv : σ[k]? = some (.cell (some a))) (q : Q a σ) (hk : X.scope.kind = .function := by rfl) (hl : X.scope.names.lookup x = some .cell := by rfl)
    (hd : (x == ("__debug__" : Str)) = false := by decide) : AW W X (.Name x pos) ρ σ Q E := by
  intro A env L fl ι s ok en I F
  obtain ⟨c, hi, hcl⟩ := en.cells x k hc
  obtain ⟨u, hu, ru⟩ := I.srel.objs k _ c hv hi
  exact wpAny_Name (wpAny_loadName_cell (by rw [en.scope]; exact hk) (by show env.scope.names.lookup x = _; rw [en.scope]; exact hl) hcl hu (Got.here q ru I rfl)) hd
theorem AW_free {x : Str} {k : Nat} {a : AV} (hc : X.cells.lookup x = some k) (hv : σ[k]? = some (.cell (some a))) (q : Q a σ) (hk : X.scope.kind = .function := by rfl) (hl : X.scope.names.lookup x = some .free := by rfl)
    (hd : (x == ("__debug__" : Str)) = false := by decide) (hn : (x == ("__classdict__" : Str)) = false := by decide) : AW W X (.Name x pos) ρ σ Q E := by
  intro A env L fl ι s ok en I F
  obtain ⟨c, hi, hcl⟩ := en.cells x k hc
  obtain ⟨u, hu, ru⟩ := I.srel.objs k _ c hv hi
  exact wpAny_Name (wpAny_loadName_free (by rw [en.scope]; exact hk) (by show env.scope.names.lookup x = _; rw [en.scope]; exact hl) hcl hu (Got.here q ru I rfl) hn) hd
/-- a global name whose value stands in the base -/
theorem AW_global {x : Str} {v : Value} {a : AV} {mg : Str → Option Value} (hg : W.H₀.Ns mainGlobals mg) (hv : mg x = some v) (rv : Rel [] W.H₀ v a) (q : Q a σ) (hk : X.scope.kind = .function := by rfl)
    (hl : X.scope.names.lookup x = some .globalImplicit := by rfl) (hd : (x == ("__debug__" : Str)) = false := by decide) : AW W X (.Name x pos) ρ σ Q E := by
  intro A env L fl ι s ok en I F
  exact Name_function_global (by rw [en.scope]; exact hk) (by show env.scope.names.lookup x = _; rw [en.scope]; exact hl)
    (loadGlobal_global (by rw [en.globals]; exact hg.keeps I.base) hv (Got.here q (rv.mono ⟨ι, rfl⟩ (TK.of_keeps I.base)) I rfl)) hd
theorem AW_builtin {x : Str} {v : Value} {mg mb : Str → Option Value} (hg : W.H₀.Ns mainGlobals mg) (hn : mg x = none) (hb : W.H₀.Ns builtinsNs mb) (hv : mb x = some v) (q : Q (.val v) σ) (hk : X.scope.kind = .function := by rfl)
    (hl : X.scope.names.lookup x = some .globalImplicit := by rfl) (hd : (x == ("__debug__" : Str)) = false := by decide) : AW W X (.Name x pos) ρ σ Q E := by
  intro A env L fl ι s ok en I F
  exact Name_function_global (by rw [en.scope]; exact hk) (by show env.scope.names.lookup x = _; rw [en.scope]; exact hl)
    (loadGlobal_builtin (by rw [en.globals]; exact hg.keeps I.base) hn (by rw [en.builtins]; exact hb.keeps I.base) hv (Got.here q (by simp only [Rel]) I rfl)) hd

/-- truth of a value -/
def truthOf (σ : List AO) : AV → Option Bool
  | .none => some false
  | .bool b => some b
  | .str x => some (x.length != 0)
  | .tup l => some (!l.isEmpty)
  | .loc k => match σ[k]? with
    | some (.lst l) => some (!l.isEmpty)
    | _ => none
  | _ => none
def smallOf (σ : List AO) : AV → Prop
  | .str x => x.length < 2 ^ 60
  | .tup l => l.length < 2 ^ 60
  | .loc k => ∀ l, σ[k]? = some (.lst l) → l.length < 2 ^ 60
  | _ => True
theorem truthy_op {Q : Bool → List AO → Prop} {a : AV} {b : Bool} (h : truthOf σ a = some b) (hs : smallOf σ a) (q : Q b σ) : ABool1 W X truthy a σ Q E := by
  intro A fl ι s v ok I rv
  cases a with
  | none => simp only [Rel] at rv; subst rv; cases h; exact truthy_none (GotU.here q I rfl)
  | bool c => simp only [Rel] at rv; subst rv; cases h; exact wpAny_truthy_bool (GotU.here q I rfl)
  | int i => cases h
  | str x =>
    simp only [Rel] at rv
    obtain ⟨t, rfl⟩ := rv
    simp only [truthOf, Option.some.injEq] at h
    simp only [smallOf] at hs
    refine PySem.P.truthy_str (by omega) ?_
    have e : ((x.length : Int) != 0) = b := by
      rw [← h]
      cases hx : x.length with
      | zero => rfl
      | succ n => simp; omega
    rw [e]
    exact GotU.here q (I.toks _) rfl
  | tup l =>
    simp only [Rel] at rv
    obtain ⟨t, vs, rfl, ⟨o, n, ho, hc, hd⟩, rl⟩ := rv
    simp only [truthOf, Option.some.injEq] at h
    simp only [smallOf] at hs
    refine truthy_tuple (items := vs.toArray) ⟨o, ho, hc, n, hd⟩ (by rw [List.size_toArray, rl.length]; omega) ?_
    have e : (!vs.toArray.isEmpty) = b := by
      rw [← h]
      have := rl.length
      cases vs <;> cases l <;> simp_all
    rw [e]
    exact GotU.here q (I.toks _) rfl
  | loc k =>
    simp only [Rel] at rv
    obtain ⟨t, rfl, hk⟩ := rv
    simp only [truthOf] at h
    split at h
    · rename_i l hl
      cases h
      obtain ⟨vs, hlist, rl⟩ := (I.srel.objs k _ t hl hk).isList
      have hs' := hs l hl
      refine wpAny_truthy_list hlist (by rw [List.size_toArray, rl.length]; omega) ?_
      have e : (!vs.toArray.isEmpty) = (!l.isEmpty) := by
        have := rl.length
        cases vs <;> cases l <;> simp_all
      rw [e]
      exact GotU.here q (I.toks _) rfl
    · cases h
  | val u => cases h

theorem AT_of {Q : Bool → List AO → Prop} (h : AW W X e ρ σ (fun a σ₁ => ABool1 W X truthy a σ₁ Q E) E) (he : ∀ env (whole : Sem Value), isTrue e env whole = (do let v ← whole; standAt e.pos; holding [v] (truthy v)) := by intro env whole; rfl) : AT W X e ρ σ Q E := by
  intro A env L fl ι s ok en I F
  refine isTrue_plain ?_ (he env _)
  refine wpAny_mono (h A env L fl ι s ok en I F) (fun v s₁ g => ?_) fun _ _ x => x
  obtain ⟨a, σ₁, ι₁, q₁, r₁, i₁, t₁⟩ := g
  exact wpAny_mono (q₁ A fl ι₁ s₁ v ok i₁ r₁) (fun _ _ x => x.pre t₁) fun _ _ x => x.pre t₁
theorem AT_not {Q : Bool → List AO → Prop} {x : Expr} (h : AT W X x ρ σ (fun b σ₁ => Q (!b) σ₁) E) : AT W X (.UnaryOp .Not x pos) ρ σ Q E := by
  intro A env L fl ι s ok en I F
  exact isTrue_not (h A env L fl ι s ok en I F)
theorem AT_and_nil {Q : Bool → List AO → Prop} (q : Q true σ) : AT W X (.BoolOp .And [] pos) ρ σ Q E := by
  intro A env L fl ι s ok en I F
  exact isTrue_and_nil (GotU.here q I rfl)
theorem AT_or_nil {Q : Bool → List AO → Prop} (q : Q false σ) : AT W X (.BoolOp .Or [] pos) ρ σ Q E := by
  intro A env L fl ι s ok en I F
  exact isTrue_or_nil (GotU.here q I rfl)
theorem AT_and {Q : Bool → List AO → Prop} {x : Expr} {rest : List Expr} (h : AT W X x ρ σ (fun b σ₁ => if b then AT W X (.BoolOp .And rest pos) ρ σ₁ Q E else Q false σ₁) E) : AT W X (.BoolOp .And (x :: rest) pos) ρ σ Q E := by
  intro A env L fl ι s ok en I F
  refine isTrue_and ?_
  refine wpAny_mono (h A env L fl ι s ok en I F) (fun b s₁ g => ?_) fun _ _ x => x
  obtain ⟨σ₁, ι₁, q₁, i₁, t₁⟩ := g
  cases b with
  | true => exact wpAny_mono (q₁ A env L fl ι₁ s₁ ok (en.mono t₁.pre) i₁ (F.step t₁ I.srel)) (fun _ _ x => x.pre t₁) fun _ _ x => x.pre t₁
  | false => exact ⟨σ₁, ι₁, q₁, i₁, t₁⟩
theorem AT_or {Q : Bool → List AO → Prop} {x : Expr} {rest : List Expr} (h : AT W X x ρ σ (fun b σ₁ => if b then Q true σ₁ else AT W X (.BoolOp .Or rest pos) ρ σ₁ Q E) E) : AT W X (.BoolOp .Or (x :: rest) pos) ρ σ Q E := by
  intro A env L fl ι s ok en I F
  refine isTrue_or ?_
  refine wpAny_mono (h A env L fl ι s ok en I F) (fun b s₁ g => ?_) fun _ _ x => x
  obtain ⟨σ₁, ι₁, q₁, i₁, t₁⟩ := g
  cases b with
  | false => exact wpAny_mono (q₁ A env L fl ι₁ s₁ ok (en.mono t₁.pre) i₁ (F.step t₁ I.srel)) (fun _ _ x => x.pre t₁) fun _ _ x => x.pre t₁
  | true => exact ⟨σ₁, ι₁, q₁, i₁, t₁⟩
theorem AW_IfExp {test body orelse : Expr} (h : AT W X test ρ σ (fun b σ₁ => if b then AW W X body ρ σ₁ Q E else AW W X orelse ρ σ₁ Q E) E) : AW W X (.IfExp test body orelse pos) ρ σ Q E := by
  intro A env L fl ι s ok en I F
  refine wpAny_IfExp ?_
  refine wpAny_mono (h A env L fl ι s ok en I F) (fun b s₁ g => ?_) fun _ _ x => x
  obtain ⟨σ₁, ι₁, q₁, i₁, t₁⟩ := g
  cases b <;> exact wpAny_mono (q₁ A env L fl ι₁ s₁ ok (en.mono t₁.pre) i₁ (F.step t₁ I.srel)) (fun _ _ x => x.pre t₁) fun _ _ x => x.pre t₁
theorem AW_and_one (h : AW W X e ρ σ Q E) {op : BoolOp} : AW W X (.BoolOp op [e] pos) ρ σ Q E := h
theorem AW_and {e₁ e₂ : Expr} {rest : List Expr} (h : AW W X e₁ ρ σ (fun a σ₁ => ABool1 W X truthy a σ₁ (fun b σ₂ => if b then AW W X (.BoolOp .And (e₂ :: rest) pos) ρ σ₂ Q E else Q a σ₂) E) E) : AW W X (.BoolOp .And (e₁ :: e₂ :: rest) pos) ρ σ Q E := by
  intro A env L fl ι s ok en I F
  refine BoolOp_and ?_
  refine wpAny_mono (h A env L fl ι s ok en I F) (fun v s₁ g => ?_) fun _ _ x => x
  obtain ⟨a, σ₁, ι₁, q₁, r₁, i₁, t₁⟩ := g
  refine wpAny_mono (q₁ A fl ι₁ s₁ v ok i₁ r₁) (fun b s₂ g => ?_) fun _ _ x => x.pre t₁
  obtain ⟨σ₂, ι₂, q₂, i₂, t₂⟩ := g
  have t := t₁.trans t₂
  cases b with
  | true => exact wpAny_mono (q₂ A env L fl ι₂ s₂ ok (en.mono t.pre) i₂ (F.step t I.srel)) (fun _ _ x => x.pre t) fun _ _ x => x.pre t
  | false => exact ⟨a, σ₂, ι₂, q₂, r₁.mono t₂.pre (t₂.tk0 i₁.srel), i₂, t⟩
theorem AW_or {e₁ e₂ : Expr} {rest : List Expr} (h : AW W X e₁ ρ σ (fun a σ₁ => ABool1 W X truthy a σ₁ (fun b σ₂ => if b then Q a σ₂ else AW W X (.BoolOp .Or (e₂ :: rest) pos) ρ σ₂ Q E) E) E) : AW W X (.BoolOp .Or (e₁ :: e₂ :: rest) pos) ρ σ Q E := by
  intro A env L fl ι s ok en I F
  refine BoolOp_or ?_
  refine wpAny_mono (h A env L fl ι s ok en I F) (fun v s₁ g => ?_) fun _ _ x => x
  obtain ⟨a, σ₁, ι₁, q₁, r₁, i₁, t₁⟩ := g
  refine wpAny_mono (q₁ A fl ι₁ s₁ v ok i₁ r₁) (fun b s₂ g => ?_) fun _ _ x => x.pre t₁
  obtain ⟨σ₂, ι₂, q₂, i₂, t₂⟩ := g
  have t := t₁.trans t₂
  cases b with
  | false => exact wpAny_mono (q₂ A env L fl ι₂ s₂ ok (en.mono t.pre) i₂ (F.step t I.srel)) (fun _ _ x => x.pre t) fun _ _ x => x.pre t
  | true => exact ⟨a, σ₂, ι₂, q₂, r₁.mono t₂.pre (t₂.tk0 i₁.srel), i₂, t⟩
end
end Mine

open PySem PySem.W PySem.Calls PyProof.Rows
set_option Elab.async false
set_option linter.all false
namespace Mine

/- the data that a value shows in a state -/
mutual
def Is (σ : List AO) (a : AV) : PyData → Prop
  | .none => a = .none
  | .bool b => a = .bool b
  | .int i => a = .int i
  | .str x => a = .str x
  | .tuple ds => ∃ l, a = .tup l ∧ IsL σ l ds
  | .list ds => ∃ k l, a = .loc k ∧ σ[k]? = some (.lst l) ∧ IsL σ l ds
  | .dict _ => False
def IsL (σ : List AO) (l : List AV) : List PyData → Prop
  | [] => l = []
  | d :: ds => ∃ a r, l = a :: r ∧ Is σ a d ∧ IsL σ r ds
end
mutual
theorem Is.reads {σ : List AO} {ι : List Addr} {h : Heap} (S : SRel ι σ h) {v : Value} {a : AV} : ∀ {d : PyData}, Is σ a d → Rel ι h v a → ∃ as, Reads h v d as
  | .none, x, r => by simp only [Is] at x; subst x; simp only [Rel] at r; subst r; exact ⟨_, .none⟩
  | .bool b, x, r => by simp only [Is] at x; subst x; simp only [Rel] at r; subst r; exact ⟨_, .bool b⟩
  | .int i, x, r => by simp only [Is] at x; subst x; simp only [Rel] at r; obtain ⟨t, rfl⟩ := r; exact ⟨_, .int i t⟩
  | .str y, x, r => by simp only [Is] at x; subst x; simp only [Rel] at r; obtain ⟨t, rfl⟩ := r; exact ⟨_, .str y t⟩
  | .tuple ds, x, r => by
    simp only [Is] at x
    obtain ⟨l, rfl, hl⟩ := x
    simp only [Rel] at r
    obtain ⟨t, vs, rfl, ⟨o, n, ho, hc, hd⟩, rl⟩ := r
    obtain ⟨as, ra⟩ := IsL.reads S hl rl
    exact ⟨_, .tuple ho hc hd (by simpa using ra)⟩
  | .list ds, x, r => by
    simp only [Is] at x
    obtain ⟨k, l, rfl, hk, hl⟩ := x
    simp only [Rel] at r
    obtain ⟨t, rfl, ht⟩ := r
    obtain ⟨vs, ⟨o, ho, hc, n, hd⟩, rl⟩ := (S.objs k _ t hk ht).isList
    obtain ⟨as, ra⟩ := IsL.reads S hl rl
    exact ⟨_, .list ho hc hd (by simpa using ra)⟩
  | .dict _, x, _ => by simp only [Is] at x
theorem IsL.reads {σ : List AO} {ι : List Addr} {h : Heap} (S : SRel ι σ h) {vs : List Value} {l : List AV} : ∀ {ds : List PyData}, IsL σ l ds → RelL ι h vs l → ∃ as, ReadsAll h vs ds as
  | [], x, r => by simp only [IsL] at x; subst x; simp only [RelL] at r; subst r; exact ⟨_, .nil⟩
  | d :: ds, x, r => by
    simp only [IsL] at x
    obtain ⟨a, l', rfl, hd, hl⟩ := x
    simp only [RelL] at r
    obtain ⟨v, vs', rfl, rv, rl⟩ := r
    obtain ⟨as, ra⟩ := Is.reads S hd rv
    obtain ⟨bs, rb⟩ := IsL.reads S hl rl
    exact ⟨_, .cons ra rb⟩
end

section
variable {W : Wd} {X : Fx} {ρ : List (Str × AV)} {σ : List AO} {Q : AV → List AO → Prop} {E : Str → List AO → Prop} {e l r : Expr} {pos : Pos} {kk : Nat}

theorem units_ok {A : Around} {fl : List Env} (ok : AOk X.n X.hd A fl) {n : Nat} (h : n ≤ 64) : A.units + n < cLine := by
  have := ok.units
  rw [cLine_is]; omega

theorem eq_op {a b : AV} {da db : PyData} (ia : Is σ a da) (ib : Is σ b db) (ha : SeqAt.shaped da = true) (hb : SeqAt.shaped db = true) (q : Q (.bool (PyData.eqv da db)) σ) : AOp2 W X (compareOp .Eq) a b σ Q E := by
  intro A fl ι s v u ok I rv ru
  obtain ⟨as, ra⟩ := ia.reads I.srel rv
  obtain ⟨bs, rb⟩ := ib.reads I.srel ru
  exact SeqAt.compareEq_shaped ra rb ha hb (units_ok ok (Nat.le_refl _)) (Got.here q (by simp only [Rel]) I rfl)
theorem ne_op {a b : AV} {da db : PyData} (ia : Is σ a da) (ib : Is σ b db) (ha : SeqAt.shaped da = true) (hb : SeqAt.shaped db = true) (q : Q (.bool (!PyData.eqv da db)) σ) : AOp2 W X (compareOp .NotEq) a b σ Q E := by
  intro A fl ι s v u ok I rv ru
  obtain ⟨as, ra⟩ := ia.reads I.srel rv
  obtain ⟨bs, rb⟩ := ib.reads I.srel ru
  exact SeqAt.compareNe_shaped ra rb ha hb (units_ok ok (Nat.le_refl _)) (Got.here q (by simp only [Rel]) I rfl)
def isNone : AV → Option Bool
  | .none => some true
  | .val _ => Option.none
  | _ => some false
theorem isNone_rel {ι : List Addr} {h : Heap} {v : Value} {a : AV} {b : Bool} (hn : isNone a = some b) (r : Rel ι h v a) : (v == .none) = b := by
  cases a <;> simp only [isNone, Option.some.injEq, reduceCtorEq] at hn <;> simp only [Rel] at r
  · subst r; subst hn; rfl
  · subst r; subst hn; simp
  · obtain ⟨t, rfl⟩ := r; subst hn; simp
  · obtain ⟨t, rfl⟩ := r; subst hn; simp
  · obtain ⟨t, _, rfl, _⟩ := r; subst hn; simp
  · obtain ⟨t, rfl, _⟩ := r; subst hn; simp
theorem is_none_op {a : AV} {b : Bool} (hn : isNone a = some b) (q : Q (.bool b) σ) : AOp2 W X (compareOp .Is) a .none σ Q E := by
  intro A fl ι s v u ok I rv ru
  have e := isNone_rel hn rv
  simp only [Rel] at ru
  subst ru
  exact PySem.is_none (Got.here (a := .bool b) q (by simp only [Rel]; rw [e]) I rfl)
theorem isNot_none_op {a : AV} {b : Bool} (hn : isNone a = some b) (q : Q (.bool (!b)) σ) : AOp2 W X (compareOp .IsNot) a .none σ Q E := by
  intro A fl ι s v u ok I rv ru
  have e := isNone_rel hn rv
  simp only [Rel] at ru
  subst ru
  exact PySem.isNot_none (Got.here (a := .bool (!b)) q (by simp only [Rel]; rw [e]) I rfl)
theorem lt_op {i j : Int} (q : Q (.bool (decide (i < j))) σ) : AOp2 W X (compareOp .Lt) (.int i) (.int j) σ Q E := by
  intro A fl ι s v u ok I rv ru
  simp only [Rel] at rv ru
  obtain ⟨t, rfl⟩ := rv
  obtain ⟨t', rfl⟩ := ru
  exact PySem.P.lt_int (Got.here q (by simp only [Rel]) I rfl)
theorem ge_op {i j : Int} (q : Q (.bool (decide (i ≥ j))) σ) : AOp2 W X (compareOp .GtE) (.int i) (.int j) σ Q E := by
  intro A fl ι s v u ok I rv ru
  simp only [Rel] at rv ru
  obtain ⟨t, rfl⟩ := rv
  obtain ⟨t', rfl⟩ := ru
  exact PySem.P.ge_int (Got.here q (by simp only [Rel]) I rfl)
theorem gt_op {i j : Int} (q : Q (.bool (decide (i > j))) σ) : AOp2 W X (compareOp .Gt) (.int i) (.int j) σ Q E := by
  intro A fl ι s v u ok I rv ru
  simp only [Rel] at rv ru
  obtain ⟨t, rfl⟩ := rv
  obtain ⟨t', rfl⟩ := ru
  exact PySem.P.gt_int (Got.here q (by simp only [Rel]) I rfl)
theorem add_int_op {i j : Int} (q : Q (.int (i + j)) σ) : AOp2 W X (binaryOp .Add) (.int i) (.int j) σ Q E := by
  intro A fl ι s v u ok I rv ru
  simp only [Rel] at rv ru
  obtain ⟨t, rfl⟩ := rv
  obtain ⟨t', rfl⟩ := ru
  exact PySem.P.add_int (Got.here q (by simp only [Rel]; exact ⟨_, rfl⟩) (I.toks _) rfl)
theorem iadd_int_op {i j : Int} (q : Q (.int (i + j)) σ) : AOp2 W X (inplaceOp .Add) (.int i) (.int j) σ Q E := by
  intro A fl ι s v u ok I rv ru
  simp only [Rel] at rv ru
  obtain ⟨t, rfl⟩ := rv
  obtain ⟨t', rfl⟩ := ru
  exact PySem.P.iadd_int (Got.here q (by simp only [Rel]; exact ⟨_, rfl⟩) (I.toks _) rfl)
theorem mod_int_op {i j : Int} (hj : j ≠ 0) (q : Q (.int (i.fmod j)) σ) : AOp2 W X (binaryOp .Mod) (.int i) (.int j) σ Q E := by
  intro A fl ι s v u ok I rv ru
  simp only [Rel] at rv ru
  obtain ⟨t, rfl⟩ := rv
  obtain ⟨t', rfl⟩ := ru
  exact PyProof.Rows.mod_int' hj (Got.here q (by simp only [Rel]; exact ⟨_, rfl⟩) (I.toks _) rfl)
theorem div_int_op {i j : Int} (hj : j ≠ 0) (hp : PySem.Builtin.divisionGoesByPylong i j = false) (q : Q (.int (i.fdiv j)) σ) : AOp2 W X (binaryOp .FloorDiv) (.int i) (.int j) σ Q E := by
  intro A fl ι s v u ok I rv ru
  simp only [Rel] at rv ru
  obtain ⟨t, rfl⟩ := rv
  obtain ⟨t', rfl⟩ := ru
  exact PyProof.Rows.floordiv_int hj (Got.here q (by simp only [Rel]; exact ⟨_, rfl⟩) (I.toks _) rfl) (.inl hp)
theorem pow_int_op {i j : Int} (h0 : 0 ≤ j) (h1 : j ≤ 1000000) (h2 : i.natAbs < 2 ^ 64) (q : Q (.int (i ^ j.toNat)) σ) : AOp2 W X (binaryOp .Pow) (.int i) (.int j) σ Q E := by
  intro A fl ι s v u ok I rv ru
  simp only [Rel] at rv ru
  obtain ⟨t, rfl⟩ := rv
  obtain ⟨t', rfl⟩ := ru
  exact PyProof.Rows.pow_int_small h0 h1 h2 (Got.here q (by simp only [Rel]; exact ⟨_, rfl⟩) (I.toks _) rfl)
theorem add_str_op {x y : Str} (hz : x.length + y.length ≤ 1000000) (q : Q (.str (x ++ y)) σ) : AOp2 W X (binaryOp .Add) (.str x) (.str y) σ Q E := by
  intro A fl ι s v u ok I rv ru
  simp only [Rel] at rv ru
  obtain ⟨t, rfl⟩ := rv
  obtain ⟨t', rfl⟩ := ru
  refine PySem.P.add_str ?_
  have em : ∀ z : Str, z.length = 0 → z = Str.empty := fun z hz => by
    obtain ⟨c⟩ := z
    have : c = #[] := Array.eq_empty_of_size_eq_zero hz
    rw [this]; rfl
  split
  · rename_i h0
    rw [em x (by simpa using h0), Str.empty_append] at q
    exact Got.here q (by simp only [Rel]; exact ⟨_, rfl⟩) I rfl
  · split
    · rename_i h0 h1
      rw [em y (by simpa using h1), Str.append_empty] at q
      exact Got.here q (by simp only [Rel]; exact ⟨_, rfl⟩) I rfl
    · show _ ∧ _
      exact ⟨by rw [Str.length_append, sizeLine_eq]; omega, Got.here q (by simp only [Rel]; exact ⟨_, rfl⟩) (I.toks _) rfl⟩
end
end Mine

open PySem PySem.W PySem.Calls PyProof.Rows
set_option Elab.async false
set_option linter.all false
namespace Mine
section
variable {W : Wd} {X : Fx} {ρ : List (Str × AV)} {σ : List AO} {Q : AV → List AO → Prop} {E : Str → List AO → Prop} {e l r : Expr} {pos : Pos} {kk : Nat}

theorem Inv.grow {fl : List Env} {ι : List Addr} {s : Shared} {h' : Heap} (I : Inv W fl σ ι s) (k : ∀ b o, s.heap.get? b = some o → h'.get? b = some o) : Inv W fl σ ι { s with heap := h' } :=
  ⟨fun b o e => k b o (I.base b o e), I.srel.grow k, I.fresh, I.frames.of_keeps fun b o e _ => ⟨o, k b o e, rfl⟩, I.apart, fun a ha => let ⟨m, e⟩ := I.frn a ha; ⟨m, e.keeps k⟩, I.gens, I.os⟩
theorem step_grow {own : Addr → Prop} {ι : List Addr} {h h' : Heap} (k : ∀ b o, h.get? b = some o → h'.get? b = some o) (z : h.objs.size ≤ h'.objs.size) : Step own ι ι h h' := ⟨Pre.refl ι, fun _ => .inl, fun b o e => ⟨o, k b o e⟩, fun b o e _ _ => .of (k b o e)⟩
theorem push_keeps (h : Heap) (o : Obj) : ∀ b x, h.get? b = some x → (h.push o).get? b = some x := fun _ _ e => Heap.get?_push_of_some _ e
theorem push_size (h : Heap) (o : Obj) : h.objs.size ≤ (h.push o).objs.size := by rw [Heap.size_push]; exact Nat.le_succ _
/-- a new tracked object at the heap's end -/
theorem Inv.alloc {fl : List Env} {ι : List Addr} {s : Shared} {o : AO} {x : Obj} (I : Inv W fl σ ι s) (r : ObjRel (ι ++ [s.heap.objs.size]) (s.heap.push x) s.heap.objs.size o) :
    Inv W fl (σ ++ [o]) (ι ++ [s.heap.objs.size]) { s with heap := s.heap.push x } := by
  have k := push_keeps s.heap x
  refine ⟨fun b o e => k b o (I.base b o e), I.srel.push k (Nat.le_refl _) r, fun a ha => ?_, I.frames.of_keeps fun b o e _ => ⟨o, k b o e, rfl⟩, fun a ha hm => ?_, fun a ha => let ⟨m, e⟩ := I.frn a ha; ⟨m, e.keeps k⟩, I.gens, I.os⟩
  · rcases List.mem_append.mp ha with q | q
    · exact I.fresh a q
    · rw [List.mem_singleton.mp q]
      cases e : W.H₀.get? s.heap.objs.size with
      | none => rfl
      | some o => exact absurd (Heap.lt_size (I.base _ _ e)) (Nat.lt_irrefl _)
  · rcases List.mem_append.mp ha with q | q
    · exact I.apart a q hm
    · rw [List.mem_singleton.mp q] at hm
      obtain ⟨_, o, ho, _⟩ := I.frames.mem hm
      exact absurd (Heap.lt_size ho) (Nat.lt_irrefl _)
theorem get_size (h : Heap) : h.get? h.objs.size = none := by
  cases e : h.get? h.objs.size with
  | none => rfl
  | some o => exact absurd (Heap.lt_size e) (Nat.lt_irrefl _)
theorem step_alloc {own : Addr → Prop} {ι : List Addr} {h : Heap} {x : Obj} : Step own ι (ι ++ [h.objs.size]) h (h.push x) :=
  ⟨⟨_, rfl⟩, fun a ha => by
    rcases List.mem_append.mp ha with q | q
    · exact .inl q
    · exact .inr (by rw [List.mem_singleton.mp q]; exact get_size h), fun b o e => ⟨o, push_keeps h x b o e⟩, fun b o e _ _ => .of (push_keeps h x b o e)⟩
theorem loc_new {ι : List Addr} {n : Nat} {a : Addr} (h : ι.length = n) : (ι ++ [a])[n]? = some a := by
  subst h; rw [List.getElem?_append_right (Nat.le_refl _), Nat.sub_self]; rfl
theorem RelL.push {ι : List Addr} {h : Heap} {x : Obj} {a : Addr} {vs : List Value} {l : List AV} (r : RelL ι h vs l) : RelL (ι ++ [a]) (h.push x) vs l := r.mono ⟨_, rfl⟩ (TK.of_keeps (push_keeps h x))

theorem AWs_nil {Q : List AV → List AO → Prop} (q : Q [] σ) : AWs W X [] ρ σ Q E := by
  intro A env L fl ι s pos ok en I F
  exact args_nil ⟨[], σ, ι, q, RelL.nil, I, Step.refl⟩
theorem AWs_cons {Q : List AV → List AO → Prop} {rest : List Expr} (h : AW W X e ρ σ (fun a σ₁ => AWs W X rest ρ σ₁ (fun as σ₂ => Q (a :: as) σ₂) E) E) (he : ∀ env, starEach (e :: rest) env = (false, eval e env) :: starEach rest env := by intro env; rfl) : AWs W X (e :: rest) ρ σ Q E := by
  intro A env L fl ι s pos ok en I F
  refine args_cons ?_ (he env)
  refine wpAny_mono (h A env L fl ι s ok en I F) (fun v s₁ g => ?_) fun _ _ x => x
  obtain ⟨a, σ₁, ι₁, q₁, r₁, i₁, t₁⟩ := g
  refine wpAny_mono (q₁ A env L fl ι₁ s₁ pos ok (en.mono t₁.pre) i₁ (F.step t₁ I.srel)) (fun vs s₂ g => ?_) fun _ _ x => x.pre t₁
  obtain ⟨as, σ₂, ι₂, q₂, r₂, i₂, t₂⟩ := g
  exact ⟨a :: as, σ₂, ι₂, q₂, .cons (r₁.mono t₂.pre (t₂.tk0 i₁.srel)) r₂, i₂, t₁.trans t₂⟩
theorem AW_Tuple {es : List Expr} (h : AWs W X es ρ σ (fun as σ₁ => as.length ≤ 1000000 ∧ Q (.tup as) σ₁) E) : AW W X (.Tuple es kk pos) ρ σ Q E := by
  intro A env L fl ι s ok en I F
  refine wpAny_Tuple_spliced ?_
  refine wpAny_mono (h A env L fl ι s pos ok en I F) (fun vs s₁ g => ?_) fun _ _ x => x
  obtain ⟨as, σ₁, ι₁, ⟨z, q₁⟩, r₁, i₁, t₁⟩ := g
  refine ⟨by rw [r₁.length, sizeLine_eq]; omega, .tup as, σ₁, ι₁, q₁, ?_, i₁.grow (push_keeps _ _), t₁.trans (step_grow (push_keeps _ _) (push_size _ _))⟩
  simp only [Rel]
  exact ⟨_, vs, rfl, ⟨_, 0, Heap.get?_push_size _ rfl, rfl, rfl⟩, r₁.mono (Pre.refl _) (TK.of_keeps (push_keeps _ _))⟩
theorem AW_List {es : List Expr} (h : AWs W X es ρ σ (fun as σ₁ => as.length ≤ 1000000 ∧ Q (.loc σ₁.length) (σ₁ ++ [.lst as])) E) : AW W X (.List es pos) ρ σ Q E := by
  intro A env L fl ι s ok en I F
  refine wpAny_List_spliced ?_
  refine wpAny_mono (h A env L fl ι s pos ok en I F) (fun vs s₁ g => ?_) fun _ _ x => x
  obtain ⟨as, σ₁, ι₁, ⟨z, q₁⟩, r₁, i₁, t₁⟩ := g
  refine ⟨by rw [r₁.length, sizeLine_eq]; omega, .loc σ₁.length, σ₁ ++ [.lst as], ι₁ ++ [s₁.heap.objs.size], q₁, ?_, i₁.alloc ?_, t₁.trans step_alloc⟩
  · simp only [Rel]
    exact ⟨_, rfl, loc_new i₁.srel.len⟩
  · exact ⟨vs, 0, Heap.get?_push_size _ rfl, r₁.push⟩

def ATail (W : Wd) (X : Fx) (value slice : Expr) (a b : AV) (σ : List AO) (Q : AV → List AO → Prop) (E : Str → List AO → Prop) : Prop := AOp2 W X (subscriptTail value slice) a b σ Q E
theorem AW_Subscript {value slice : Expr} (h : AW W X value ρ σ (fun a σ₁ => AW W X slice ρ σ₁ (fun b σ₂ => ATail W X value slice a b σ₂ Q E) E) E) : AW W X (.Subscript value slice pos) ρ σ Q E := by
  intro A env L fl ι s ok en I F
  refine Subscript_ ?_
  refine wpAny_mono (h A env L fl ι s ok en I F) (fun v s₁ g => ?_) fun _ _ x => x
  obtain ⟨a, σ₁, ι₁, q₁, r₁, i₁, t₁⟩ := g
  refine wpAny_mono (q₁ A env L fl ι₁ s₁ ok (en.mono t₁.pre) i₁ (F.step t₁ I.srel)) (fun u s₂ g => ?_) fun _ _ x => x.pre t₁
  obtain ⟨b, σ₂, ι₂, q₂, r₂, i₂, t₂⟩ := g
  exact wpAny_mono (q₂ A fl ι₂ s₂ v u ok i₂ (r₁.mono t₂.pre (t₂.tk0 i₁.srel)) r₂) (fun _ _ x => x.pre (t₁.trans t₂)) fun _ _ x => x.pre (t₁.trans t₂)
theorem sub_any (value slice : Expr) (o : Value) (i : Int) (t : Tok) : subscripted slice false o (.int i t) = operate [o, .int i t] (getItem o (.int i t)) ∨ subscripted slice false o (.int i t) = operate [.int i t, o] (getItem o (.int i t)) := by
  unfold subscripted
  split
  · exact .inr rfl
  · simp_all
  · exact .inl rfl
/-- the item at a place, counted from either end -/
def itemAt (l : List AV) (i : Int) : Option AV := if 0 ≤ i then l[i.toNat]? else if -(l.length : Int) ≤ i then l[(i + l.length).toNat]? else none
theorem seqIndex_of {i : Int} {n : Nat} : (0 ≤ i → i < n → seqIndex? i n = some i.toNat) ∧ (i < 0 → -(n : Int) ≤ i → seqIndex? i n = some (i + n).toNat) := by
  constructor <;> intro h1 h2 <;> unfold seqIndex? <;> (repeat' split) <;> simp_all <;> omega
theorem tup_item_op {value slice : Expr} {l : List AV} {i : Int} {a : AV} (hi : itemAt l i = some a) (hl : l.length ≤ 1000000) (q : Q a σ) : ATail W X value slice (.tup l) (.int i) σ Q E := by
  intro A fl ι s v u ok I rv ru
  simp only [Rel] at rv ru
  obtain ⟨t, vs, rfl, ⟨o, n, ho, hc, hd⟩, rl⟩ := rv
  obtain ⟨tk, rfl⟩ := ru
  have T : IsTup s.heap t vs.toArray := ⟨o, ho, hc, n, hd⟩
  have hlen := rl.length
  have key : ∃ j, seqIndex? i vs.length = some j ∧ l[j]? = some a ∧ -(2 ^ 63) ≤ i ∧ i < 2 ^ 63 := by
    unfold itemAt at hi
    split at hi
    · rename_i h0
      have hlt := (List.getElem?_eq_some_iff.mp hi).1
      exact ⟨_, seqIndex_of.1 h0 (by omega), hi, by omega, by omega⟩
    · split at hi
      · rename_i h0 h1
        exact ⟨_, seqIndex_of.2 (by omega) (by omega), by rw [hlen]; exact hi, by omega, by omega⟩
      · cases hi
  obtain ⟨j, hj, ha, h1, h2⟩ := key
  obtain ⟨x, hx, rx⟩ := rl.get ha
  rcases sub_any value slice (.ref t) i tk with hs | hs <;>
  exact tail_any T.typeIs slot_tuple_getitem.lookup (getItem_tuple T h1 h2 (by simpa using hj) (by simpa using hx) (Got.here q rx I rfl)) hs
theorem list_item_op {value slice : Expr} {k : Nat} {l : List AV} {i : Int} {a : AV} (hk : σ[k]? = some (.lst l)) (hi : itemAt l i = some a) (hl : l.length ≤ 1000000) (q : Q a σ) : ATail W X value slice (.loc k) (.int i) σ Q E := by
  intro A fl ι s v u ok I rv ru
  simp only [Rel] at rv ru
  obtain ⟨t, rfl, ht⟩ := rv
  obtain ⟨tk, rfl⟩ := ru
  obtain ⟨vs, hlist, rl⟩ := (I.srel.objs k _ t hk ht).isList
  have hlen := rl.length
  unfold itemAt at hi
  split at hi
  · rename_i h0
    have hlt := (List.getElem?_eq_some_iff.mp hi).1
    obtain ⟨x, hx, rx⟩ := rl.get hi
    rcases sub_any value slice (.ref t) i tk with hs | hs <;>
    exact tail_any hlist.typeIs slot_list_getitem.lookup (wpAny_getItem_list hlist h0 (by omega) (by simpa using hx) (Got.here q rx I rfl)) hs
  · split at hi
    · rename_i h0 h1
      obtain ⟨x, hx, rx⟩ := rl.get hi
      rcases sub_any value slice (.ref t) i tk with hs | hs <;>
      exact tail_any hlist.typeIs slot_list_getitem.lookup (wpAny_getItem_list_neg hlist (by omega) (by rw [List.size_toArray, hlen]; exact h1) (by omega) (by rw [List.size_toArray, hlen]; simpa using hx) (Got.here q rx I rfl)) hs
    · cases hi

/-- a slice's part -/
def APart (W : Wd) (X : Fx) (o : Option Expr) (ρ : List (Str × AV)) (σ : List AO) (Q : Option Int → List AO → Prop) (E : Str → List AO → Prop) : Prop :=
  match o with
  | none => Q none σ
  | some e => AW W X e ρ σ (fun a σ₁ => ∃ i, a = .int i ∧ Q (some i) σ₁) E
theorem APart.go {o : Option Expr} {Q : Option Int → List AO → Prop} (h : APart W X o ρ σ Q E) {A : Around} {env : Env} {L : Addr} {fl : List Env} {ι : List Addr} {s : Shared} (ok : AOk X.n X.hd A fl) (en : EnvIs X ι env L) (I : Inv W fl σ ι s) (F : Fram ρ L ι s.heap) :
    wpAny W.M A (evalPart o env) (fun v s' => ∃ i σ' ι', Q i σ' ∧ IsPart v i ∧ Inv W fl σ' ι' s' ∧ Step noOwn ι ι' s.heap s'.heap) (Thrown W fl noOwn ι s E) s := by
  cases o with
  | none => exact wpAny_pure ⟨none, σ, ι, h, .none, I, Step.refl⟩
  | some e =>
    refine wpAny_mono (h A env L fl ι s ok en I F) (fun v s₁ g => ?_) fun _ _ x => x
    obtain ⟨a, σ₁, ι₁, ⟨i, rfl, q⟩, r₁, i₁, t₁⟩ := g
    simp only [Rel] at r₁
    obtain ⟨t, rfl⟩ := r₁
    exact ⟨some i, σ₁, ι₁, q, .int i t, i₁, t₁⟩
def slicedOf (l : List AV) : Option Int → Option Int → Option Int → Option (List AV)
  | none, none, none => some l
  | some i, none, none => if 0 ≤ i then some (l.drop i.toNat) else none
  | none, some i, none => if 0 ≤ i then some (l.take i.toNat) else none
  | none, none, some i => if i = -1 then some l.reverse else none
  | _, _, _ => none
theorem sliced_rel {ι : List Addr} {h : Heap} {vs : List Value} {l m : List AV} {x y z : Option Int} (e : slicedOf l x y z = some m) (r : RelL ι h vs l) : ∃ us : List Value, slicePick vs.toArray x y z = us.toArray ∧ RelL ι h us m := by
  cases x with
  | none =>
    cases y with
    | none =>
      cases z with
      | none => cases e; exact ⟨vs, slicePick_all _, r⟩
      | some i =>
        simp only [slicedOf] at e
        split at e
        · rename_i hi; subst hi; cases e
          exact ⟨vs.reverse, by rw [krv_pick], r.reverse⟩
        · cases e
    | some i =>
      cases z with
      | none =>
        simp only [slicedOf] at e
        split at e
        · rename_i hi; cases e
          refine ⟨vs.take i.toNat, ?_, r.take _⟩
          have := slicePick_upto' vs.toArray i.toNat
          rw [Int.toNat_of_nonneg hi] at this
          exact this
        · cases e
      | some j => cases e
  | some i =>
    cases y with
    | none =>
      cases z with
      | none =>
        simp only [slicedOf] at e
        split at e
        · rename_i hi; cases e
          refine ⟨vs.drop i.toNat, ?_, r.drop _⟩
          have := slicePick_from' vs.toArray i.toNat
          rw [Int.toNat_of_nonneg hi] at this
          exact this
        · cases e
      | some j => cases e
    | some j => cases z <;> cases e
theorem sliced_len {l m : List AV} {x y z : Option Int} (e : slicedOf l x y z = some m) : m.length ≤ l.length := by
  unfold slicedOf at e
  split at e <;> (try split at e) <;> (first | cases e | skip) <;> simp <;> omega
theorem sub_slice (value : Expr) (lo hi st : Option Expr) (p : Pos) (o i : Value) : ∃ ops, subscripted (.Slice lo hi st p) false o i = operate ops (getItem o i) := by
  cases st with
  | none => exact ⟨[i, o], rfl⟩
  | some e => exact ⟨[o, i], rfl⟩
theorem AW_slice {value : Expr} {lo hi st : Option Expr} {p : Pos}
    (h : AW W X value ρ σ (fun a σ₁ => APart W X lo ρ σ₁ (fun x σ₂ => APart W X hi ρ σ₂ (fun y σ₃ => APart W X st ρ σ₃ (fun z σ₄ =>
      ∃ k l m, a = .loc k ∧ σ₄[k]? = some (.lst l) ∧ l.length ≤ 1000000 ∧ slicedOf l x y z = some m ∧ Q (.loc σ₄.length) (σ₄ ++ [.lst m])) E) E) E) E) :
    AW W X (.Subscript value (.Slice lo hi st p) pos) ρ σ Q E := by
  intro A env L fl ι s ok en I F
  refine Subscript_ ?_
  refine wpAny_mono (h A env L fl ι s ok en I F) (fun v s₁ g => ?_) fun _ _ x => x
  obtain ⟨a, σ₁, ι₁, q₁, r₁, i₁, t₁⟩ := g
  have en₁ := en.mono t₁.pre
  have F₁ := F.step t₁ I.srel
  refine wpAny_Slice ?_
  refine wpAny_mono (q₁.go ok en₁ i₁ F₁) (fun vl s₂ g => ?_) fun _ _ x => x.pre t₁
  obtain ⟨x, σ₂, ι₂, q₂, px, i₂, t₂⟩ := g
  have t12 := t₁.trans t₂
  have en₂ := en.mono t12.pre
  have F₂ := F.step t12 I.srel
  refine wpAny_mono (q₂.go ok en₂ i₂ F₂) (fun vu s₃ g => ?_) fun _ _ x => x.pre t12
  obtain ⟨y, σ₃, ι₃, q₃, py, i₃, t₃⟩ := g
  have t13 := t12.trans t₃
  refine wpAny_mono (q₃.go ok (en.mono t13.pre) i₃ (F.step t13 I.srel)) (fun vk s₄ g => ?_) fun _ _ x => x.pre t13
  obtain ⟨z, σ₄, ι₄, ⟨k, l, m, rfl, hk, hl, hm, q⟩, pz, i₄, t₄⟩ := g
  have t14 := t13.trans t₄
  have r₄ : Rel ι₄ s₄.heap v (.loc k) := r₁.mono ((t₂.trans t₃).trans t₄).pre (((t₂.trans t₃).trans t₄).tk0 i₁.srel)
  simp only [Rel] at r₄
  obtain ⟨t, rfl, ht⟩ := r₄
  obtain ⟨vs, hlist, rl⟩ := (i₄.srel.objs k _ t hk ht).isList
  obtain ⟨us, hus, ru⟩ := sliced_rel hm rl
  obtain ⟨ops, hs⟩ := sub_slice value lo hi st p (.ref t) (.ref s₄.heap.objs.size)
  have h0 : z ≠ some 0 := by rintro rfl; unfold slicedOf at hm; split at hm <;> simp_all
  refine tail_any (s := { s₄ with heap := s₄.heap.push { cls := .type "slice", data := .fields #[vl, vu, vk] } }) (Heap.IsList.typeIs (s := { s₄ with heap := s₄.heap.push { cls := .type "slice", data := .fields #[vl, vu, vk] } }) (hlist.push _)) slot_list_getitem.lookup
    (wpAny_getItem_list_slice (hlist.push _) (Heap.IsSliceOf.new ..) px py pz h0 ?_ (by rw [List.size_toArray, rl.length, sizeLine_eq]; omega)) hs
  rw [hus]
  have i5 : Inv W fl σ₄ ι₄ { s₄ with heap := s₄.heap.push { cls := .type "slice", data := .fields #[vl, vu, vk] } } := i₄.grow (push_keeps _ _)
  have t5 : Step noOwn ι ι₄ s.heap (s₄.heap.push { cls := .type "slice", data := .fields #[vl, vu, vk] }) := t14.trans (step_grow (push_keeps _ _) (push_size _ _))
  refine ⟨.loc σ₄.length, σ₄ ++ [.lst m], ι₄ ++ [(s₄.heap.push { cls := .type "slice", data := .fields #[vl, vu, vk] }).objs.size], q, ?_, i5.alloc ?_, t5.trans step_alloc⟩
  · simp only [Rel]
    exact ⟨_, rfl, loc_new i₄.srel.len⟩
  · exact ⟨us, 0, Heap.get?_push_size _ rfl, (ru.mono (Pre.refl _) (TK.of_keeps (push_keeps _ _))).push⟩

theorem add_list_op {j k : Nat} {l m : List AV} (hj : σ[j]? = some (.lst l)) (hk : σ[k]? = some (.lst m)) (hz : l.length + m.length ≤ 1000000) (q : Q (.loc σ.length) (σ ++ [.lst (l ++ m)])) : AOp2 W X (binaryOp .Add) (.loc j) (.loc k) σ Q E := by
  intro A fl ι s v u ok I rv ru
  simp only [Rel] at rv ru
  obtain ⟨t, rfl, ht⟩ := rv
  obtain ⟨t', rfl, ht'⟩ := ru
  obtain ⟨vs, hl, rl⟩ := (I.srel.objs j _ t hj ht).isList
  obtain ⟨ws, hb, rm⟩ := (I.srel.objs k _ t' hk ht').isList
  obtain ⟨⟨cls, dd, data, sl⟩, ho, hc, n, hd⟩ := id hl
  obtain ⟨⟨cls2, dd2, data2, sl2⟩, ho2, hc2, n2, hd2⟩ := id hb
  simp only at hc hd hc2 hd2
  subst hc hd hc2 hd2
  have e : vs.toArray ++ ws.toArray = (vs ++ ws).toArray := by simp
  have h1 := rl.length
  have h2 := rm.length
  refine concat_meets ⟨_, ho, rfl⟩ ⟨_, ho2, rfl⟩ noFill_list_add seq_list_add PySem.F.slot_list_add PySem.F.entry_list_add (PySem.F.args_list_add_2 _ _) (list_addW t t' vs.toArray ws.toArray n n2 dd dd2 sl sl2 (by rw [List.size_toArray, List.size_toArray, sizeLine_eq]; omega)) ⟨ho, ho2, ?_⟩
  rw [e]
  refine ⟨.loc σ.length, σ ++ [.lst (l ++ m)], ι ++ [s.heap.objs.size], q, ?_, I.alloc ?_, step_alloc⟩
  · simp only [Rel]; exact ⟨_, rfl, loc_new I.srel.len⟩
  · exact ⟨vs ++ ws, 0, Heap.get?_push_size _ rfl, (rl.append rm).push⟩
end
end Mine

open PySem PySem.W PySem.Calls PyProof.Rows
set_option Elab.async false
set_option linter.all false
namespace Mine

def upd : List (Str × AV) → Str → AV → List (Str × AV)
  | [], x, a => [(x, a)]
  | (y, b) :: r, x, a => match y == x with | true => (x, a) :: r | false => (y, b) :: upd r x a
theorem upd_lookup : ∀ (ρ : List (Str × AV)) (x : Str) (a : AV) (y : Str), (upd ρ x a).lookup y = if y = x then some a else ρ.lookup y
  | [], x, a, y => by
    unfold upd
    by_cases h : y = x
    · subst h; simp
    · rw [if_neg h, List.lookup_cons, beq_eq_false_iff_ne.mpr h]
  | (z, b) :: r, x, a, y => by
    unfold upd
    cases hz : z == x with
    | true =>
      have e := eq_of_beq hz
      subst e
      dsimp only
      by_cases h : y = z
      · subst h; rw [if_pos rfl, List.lookup_cons]; simp
      · rw [if_neg h, List.lookup_cons, List.lookup_cons, beq_eq_false_iff_ne.mpr h]
    | false =>
      have e := beq_eq_false_iff_ne.mp hz
      dsimp only
      rw [List.lookup_cons, List.lookup_cons]
      by_cases h : y = z
      · subst h
        rw [if_neg e]; simp
      · rw [beq_eq_false_iff_ne.mpr h]; exact upd_lookup r x a y

theorem funFrames_map {base h h' : Heap} : ∀ {l : List Env}, h.FunFrames base l → (∀ a ∈ l.filterMap (·.frame), ∃ o, h'.get? a = some o ∧ ∀ vs, o.data ≠ .fields vs) → h'.FunFrames base l
  | [], _, _ => trivial
  | env :: rest, ⟨hk, ⟨L, o, hf, hn, _, _⟩, hr⟩, k => by
    have hm : L ∈ (env :: rest).filterMap (·.frame) := List.mem_filterMap.mpr ⟨env, .head _, hf⟩
    obtain ⟨o', ho', hd'⟩ := k L hm
    exact ⟨hk, ⟨L, o', hf, hn, ho', hd'⟩, funFrames_map hr fun a ha => k a (by
      rw [List.filterMap_cons, hf]; exact List.mem_cons_of_mem _ ha)⟩

def Ends (W : Wd) (l : List Env) (L : Addr) (ι : List Addr) (s : Shared) (N : List (Str × AV) → List AO → Prop) (R : AV → List AO → Prop) (f : Flow) (s' : Shared) : Prop :=
  match f with
  | .next => ∃ ρ' σ' ι', N ρ' σ' ∧ Fram ρ' L ι' s'.heap ∧ Inv W l σ' ι' s' ∧ Step (· = L) ι ι' s.heap s'.heap
  | .ret v => ∃ a σ' ι', R a σ' ∧ Rel ι' s'.heap v a ∧ Inv W l σ' ι' s' ∧ Step (· = L) ι ι' s.heap s'.heap
  | _ => False
theorem Ends.pre {W : Wd} {l : List Env} {L : Addr} {ι ι₁ : List Addr} {s s₁ : Shared} {N : List (Str × AV) → List AO → Prop} {R : AV → List AO → Prop} {f : Flow} {s' : Shared} (st : Step (· = L) ι ι₁ s.heap s₁.heap) (x : Ends W l L ι₁ s₁ N R f s') : Ends W l L ι s N R f s' := by
  cases f with
  | next => obtain ⟨ρ', σ', ι', a, b, c, d⟩ := x; exact ⟨ρ', σ', ι', a, b, c, st.trans d⟩
  | ret v => obtain ⟨r, σ', ι', a, b, c, d⟩ := x; exact ⟨r, σ', ι', a, b, c, st.trans d⟩
  | brk => exact x
  | cont => exact x

structure At (X : Fx) (A : Around) (env : Env) (L : Addr) (l : List Env) : Prop where
  ok : AOk X.n X.hd A l
  frame : env.frame = some L
  top : ∃ outer, l = env :: outer
theorem At.mem {X : Fx} {A : Around} {env : Env} {L : Addr} {l : List Env} (t : At X A env L l) : L ∈ l.filterMap (·.frame) := by
  obtain ⟨o, rfl⟩ := t.top
  exact List.mem_filterMap.mpr ⟨env, .head _, t.frame⟩

def AS (W : Wd) (X : Fx) (st : Stmt) (ρ : List (Str × AV)) (σ : List AO) (N : List (Str × AV) → List AO → Prop) (R : AV → List AO → Prop) (E : Str → List AO → Prop) : Prop :=
  ∀ (A : Around) (env : Env) (L : Addr) (l : List Env) (ι : List Addr) (s : Shared), At X A env L l → EnvIs X ι env L → Inv W l σ ι s → Fram ρ L ι s.heap →
    ∀ (EE : Value → Shared → Prop), PassesOwn W.M A env EE → (∀ v s', Thrown W l (· = L) ι s E v s' → EE v s') → wpAny W.M A (exec st env) (Ends W l L ι s N R) EE s
def AX (W : Wd) (X : Fx) (ss : List Stmt) (ρ : List (Str × AV)) (σ : List AO) (N : List (Str × AV) → List AO → Prop) (R : AV → List AO → Prop) (E : Str → List AO → Prop) : Prop :=
  ∀ (A : Around) (env : Env) (L : Addr) (l : List Env) (ι : List Addr) (s : Shared), At X A env L l → EnvIs X ι env L → Inv W l σ ι s → Fram ρ L ι s.heap →
    ∀ (EE : Value → Shared → Prop), PassesOwn W.M A env EE → (∀ v s', Thrown W l (· = L) ι s E v s' → EE v s') → wpAny W.M A (execs ss env) (Ends W l L ι s N R) EE s

section
variable {W : Wd} {X : Fx} {ρ : List (Str × AV)} {σ : List AO} {N : List (Str × AV) → List AO → Prop} {R : AV → List AO → Prop} {E : Str → List AO → Prop} {e : Expr} {pos xp : Pos} {st : Stmt} {rest : List Stmt}

theorem toL {L : Addr} {l : List Env} {ι : List Addr} {s : Shared} {v : Value} {s' : Shared} (x : Thrown W l noOwn ι s E v s') : Thrown W l (· = L) ι s E v s' := x.weaken (fun _ q => q.elim) fun _ _ q => q
theorem stepL {L : Addr} {ι ι' : List Addr} {h h' : Heap} (x : Step noOwn ι ι' h h') : Step (· = L) ι ι' h h' := x.weaken fun _ q => q.elim

theorem AX_nil (h : N ρ σ) : AX W X [] ρ σ N R E := by
  intro A env L l ι s at_ en I F EE hE hT
  exact wpAny_execs_nil ⟨ρ, σ, ι, h, F, I, Step.refl⟩
theorem AX_cons (h : AS W X st ρ σ (fun ρ₁ σ₁ => AX W X rest ρ₁ σ₁ N R E) R E) : AX W X (st :: rest) ρ σ N R E := by
  intro A env L l ι s at_ en I F EE hE hT
  refine wpAny_execs_cons (wpAny_mono (h A env L l ι s at_ en I F EE hE hT) (fun f s₁ g => ?_) fun _ _ x => x)
  cases f with
  | next =>
    obtain ⟨ρ₁, σ₁, ι₁, q, F₁, I₁, t₁⟩ := g
    exact wpAny_mono (q A env L l ι₁ s₁ at_ (en.mono t₁.pre) I₁ F₁ EE hE fun v s' x => hT v s' (x.preO t₁)) (fun _ _ x => x.pre t₁) fun _ _ x => x
  | ret v => exact g
  | brk => exact g.elim
  | cont => exact g.elim
theorem AS_Return (h : AW W X e ρ σ R E) : AS W X (.Return (some e) pos) ρ σ N R E := by
  intro A env L l ι s at_ en I F EE hE hT
  refine wpAny_Return_some (wpAny_mono (h A env L l ι s at_.ok en I F) (fun v s₁ g => ?_) fun _ _ x => hT _ _ (toL x))
  obtain ⟨a, σ₁, ι₁, q, r, i, t⟩ := g
  exact ⟨a, σ₁, ι₁, q, r, i, stepL t⟩
theorem AS_Return0 (h : R .none σ) : AS W X (.Return none pos) ρ σ N R E := by
  intro A env L l ι s at_ en I F EE hE hT
  exact wpAny_Return_none ⟨.none, σ, ι, h, by simp only [Rel], I, Step.refl⟩
theorem AS_If {test : Expr} {body orelse : List Stmt} (h : AT W X test ρ σ (fun b σ₁ => if b then AX W X body ρ σ₁ N R E else AX W X orelse ρ σ₁ N R E) E) : AS W X (.If test body orelse pos) ρ σ N R E := by
  intro A env L l ι s at_ en I F EE hE hT
  refine wpAny_If (wpAny_mono (h A env L l ι s at_.ok en I F) (fun b s₁ g => ?_) fun _ _ x => hT _ _ (toL x))
  obtain ⟨σ₁, ι₁, q, i, t⟩ := g
  cases b <;> exact wpAny_mono (q A env L l ι₁ s₁ at_ (en.mono t.pre) i (F.step t I.srel) EE hE fun v s' x => hT v s' (x.preO (stepL t))) (fun _ _ x => x.pre (stepL t)) fun _ _ x => x

theorem Inv.same {l : List Env} {ι : List Addr} {s : Shared} {h' : Heap} {n : Nat} {c : Addr} (I : Inv W l σ ι s) (hn : W.H₀.get? c = none) (hs : Heap.SameBut c s.heap h') (S : SRel ι σ h')
    (d : c ∈ l.filterMap (·.frame) → ∃ m, h'.Ns c m) : Inv W l σ ι { s with heap := h', toks := n } := by
  have fr : ∀ a ∈ l.filterMap (·.frame), ∃ m, h'.Ns a m := fun a ha => by
    by_cases e : a = c
    · rw [e] at ha ⊢; exact d ha
    · obtain ⟨m, hm⟩ := I.frn a ha
      exact ⟨m, hm.sameBut hs e⟩
  refine ⟨fun b o e => ?_, S, I.fresh, funFrames_map I.frames fun a ha => ?_, I.apart, fr, I.gens, I.os⟩
  · exact (hs.2 b fun q => by rw [q, hn] at e; cases e).trans (I.base b o e)
  · obtain ⟨m, o, es, n, ho, hd, _⟩ := fr a ha
    exact ⟨o, ho, fun vs q => by rw [hd] at q; cases q⟩

theorem store_local {A : Around} {env : Env} {L : Addr} {l : List Env} {ι : List Addr} {s : Shared} {v : Value} {a : AV} {x : Str} {Q : Unit → Shared → Prop} {EE : Value → Shared → Prop} (hk : X.scope.kind = .function)
    (hl : X.scope.names.lookup x = some .local) (en : EnvIs X ι env L) (fr : L ∈ l.filterMap (·.frame)) (I : Inv W l σ ι s) (F : Fram ρ L ι s.heap) (rv : Rel ι s.heap v a)
    (h : ∀ s', Fram (upd ρ x a) L ι s'.heap → Inv W l σ ι s' → Step (· = L) ι ι s.heap s'.heap → Q () s') : wpAny W.M A (storeName env x v) Q EE s := by
  obtain ⟨⟨m, hn, hm⟩, hL⟩ := F
  have tk : ∀ h', Heap.SameBut L s.heap h' → TK s.heap h' := fun h' hs t vs z => by
    obtain ⟨o, n, e, hc, hd⟩ := z
    refine ⟨o, n, (hs.2 t fun q => ?_).trans e, hc, hd⟩
    obtain ⟨o', es, m', ho', hd'⟩ := I.frd L fr
    rw [q, ho'] at e; cases e
    rw [hd'] at hd; cases hd
  refine wpAny_storeName_local (by show env.scope.names.lookup x = _; rw [en.scope]; exact hl) (by rw [en.locals]; exact hn) (fun h' hn' hs => ?_) (by rw [en.scope, hk]; rfl)
  rw [en.locals] at hn' hs
  have k := tk h' hs
  have same : ∀ b, b ∈ ι → h'.get? b = s.heap.get? b := fun b hb => hs.2 b fun q => hL (q ▸ hb)
  refine h _ ⟨⟨_, hn', fun y b hy => ?_⟩, hL⟩ (I.same (I.frames.mem fr).1 hs ⟨I.srel.len, I.srel.nodup, fun i o b h1 h2 => (I.srel.objs i o b h1 h2).mono (Pre.refl _) k fun z hz => (same b (List.mem_of_getElem? h2)).trans hz⟩ fun _ => ?_) ⟨Pre.refl _, fun _ => .inl, fun b o e => ?_, fun b o e _ hb => .of ((hs.2 b hb).trans e)⟩
  · rw [upd_lookup] at hy
    by_cases q : y = x
    · rw [if_pos q] at hy ⊢; cases hy
      exact ⟨v, rfl, rv.mono (Pre.refl _) k⟩
    · rw [if_neg q] at hy ⊢
      obtain ⟨u, e, r⟩ := hm y b hy
      exact ⟨u, e, r.mono (Pre.refl _) k⟩
  · exact ⟨_, hn'⟩
  · by_cases q : b = L
    · rw [q]; obtain ⟨o, es, ep, ho, hd, _⟩ := hn'; exact ⟨o, ho⟩
    · exact ⟨o, (hs.2 b q).trans e⟩

theorem AS_Assign {x : Str} {value : Expr} (h : AW W X value ρ σ (fun a σ₁ => N (upd ρ x a) σ₁) E) (hs : ∀ env, env.scope = X.scope → swapsWith value (some (.Name x xp)) pos.line env = pure false := by intro _ _; rfl) (hk : X.scope.kind = .function := by rfl)
    (hl : X.scope.names.lookup x = some .local := by rfl) : AS W X (.Assign [.Name x xp] value pos) ρ σ N R E := by
  intro A env L l ι s at_ en I F EE hE hT
  refine wpAny_Assign_Name (wpAny_mono (h A env L l ι s at_.ok en I F) (fun v s₁ g => ?_) fun _ _ x => hT _ _ (toL x)) (hs env en.scope)
  obtain ⟨a, σ₁, ι₁, q, r, i, t⟩ := g
  exact store_local hk hl (en.mono t.pre) at_.mem i (F.step t I.srel) r fun s' F' I' t' => ⟨_, σ₁, ι₁, q, F', I', (stepL t).trans t'⟩

theorem AS_AugAssign {x : Str} {value : Expr} {op : Operator} {a : AV} (hv : ρ.lookup x = some a) (h : AW W X value ρ σ (fun b σ₁ => AOp2 W X (inplaceOp op) a b σ₁ (fun c σ₂ => N (upd ρ x c) σ₂) E) E) (hk : X.scope.kind = .function := by rfl)
    (hl : X.scope.names.lookup x = some .local := by rfl) : AS W X (.AugAssign (.Name x xp) op value pos) ρ σ N R E := by
  intro A env L l ι s at_ en I F EE hE hT
  obtain ⟨m, hn, hm⟩ := F.ns
  obtain ⟨v, hv, rv⟩ := hm x a hv
  refine wpAny_AugAssign_Name (wpAny_loadName_local (by rw [en.scope]; exact hk) (by show env.scope.names.lookup x = _; rw [en.scope]; exact hl) (by rw [en.locals]; exact hn) hv ?_)
  refine wpAny_mono (h A env L l ι s at_.ok en I F) (fun u s₁ g => ?_) fun _ _ x => hT _ _ (toL x)
  obtain ⟨b, σ₁, ι₁, q, r, i, t⟩ := g
  refine wpAny_mono (q A l ι₁ s₁ v u at_.ok i (rv.mono t.pre (t.tk0 I.srel)) r) (fun w s₂ g => ?_) fun _ _ x => hT _ _ (toL (x.pre t))
  obtain ⟨c, σ₂, ι₂, q₂, r₂, i₂, t₂⟩ := g
  have tt := t.trans t₂
  exact store_local hk hl (en.mono tt.pre) at_.mem i₂ (F.step tt I.srel) r₂ fun s' F' I' t' => ⟨_, σ₂, ι₂, q₂, F', I', (stepL tt).trans t'⟩
theorem AS_Expr (h : AW W X e ρ σ (fun _ σ₁ => N ρ σ₁) E) (hi : X.scope.kind = .function := by rfl) (hs : ∀ env, swapsWith e none pos.line env = pure false := by intro _; rfl) : AS W X (.Expr e pos) ρ σ N R E := by
  intro A env L l ι s at_ en I F EE hE hT
  refine wpAny_Expr_any (prog := W.prog) (w := W.w) (wpAny_mono (h A env L l ι s at_.ok en I F) (fun v s₁ g => ?_) fun _ _ x => hT _ _ (toL x)) (by unfold interactive; rw [en.scope, hi]; rfl) (hs env)
  obtain ⟨a, σ₁, ι₁, q, r, i, t⟩ := g
  exact ⟨ρ, σ₁, ι₁, q, F.step t I.srel, i, stepL t⟩

theorem assignEach_Name (x : Str) (p : Pos) (rest : List Expr) (env : Env) : assignEach (.Name x p :: rest) env = (false, assign (.Name x p) env) :: assignEach rest env := rfl
theorem assignEach_names (env : Env) : ∀ ts : List (Str × Pos), assignEach (ts.map fun x => Expr.Name x.1 x.2) env = ts.map fun x => (false, assign (.Name x.1 x.2) env)
  | [] => arm_assignEach_nil env
  | x :: ts => by rw [List.map_cons, assignEach_Name, assignEach_names env ts]; rfl
/-- names to which an unpacked tuple's items go -/
def updAll : List (Str × AV) → List Str → List AV → List (Str × AV)
  | ρ, x :: xs, a :: as => updAll (upd ρ x a) xs as
  | ρ, _, _ => ρ
theorem store_all (hk : X.scope.kind = .function) {A : Around} {env : Env} {L : Addr} {l : List Env} {EE : Value → Shared → Prop} (fr : L ∈ l.filterMap (·.frame)) {Q : Unit → Shared → Prop}
    (ts : List (Str × Pos)) : ∀ (vs : List Value) (as : List AV) (ρ : List (Str × AV)) (ι : List Addr) (s : Shared), EnvIs X ι env L → (∀ x ∈ ts, X.scope.names.lookup x.1 = some .local) → Inv W l σ ι s → Fram ρ L ι s.heap → RelL ι s.heap vs as → ts.length = as.length →
      (∀ s', Fram (updAll ρ (ts.map (·.1)) as) L ι s'.heap → Inv W l σ ι s' → Step (· = L) ι ι s.heap s'.heap → Q () s') →
      wpAny W.M A (assignInOrder (ts.map fun x => assign (.Name x.1 x.2) env) vs) Q EE s := by
  induction ts with
  | nil =>
    intro vs as ρ ι s en hl I F rl hlen h
    have : as = [] := List.length_eq_zero_iff.mp hlen.symm
    subst this
    simp only [RelL] at rl; subst rl
    exact wpAny_pure (h s F I Step.refl)
  | cons x ts ih =>
    intro vs as ρ ι s en hl I F rl hlen h
    cases as with
    | nil => cases hlen
    | cons a as =>
    simp only [RelL] at rl
    obtain ⟨v, us, rfl, rv, rl⟩ := rl
    rw [List.map_cons, assignInOrder]
    refine wpAny_bind (wpAny_holding (wpAny_assign_Name (store_local hk (hl x (.head _)) en fr I F rv fun s' F' I' t' => ?_)))
    have k : TK s.heap s'.heap := t'.tk I.srel fun b hb vs z => by
      subst hb
      obtain ⟨o', es, m', ho', hd'⟩ := I.frd b fr
      obtain ⟨o, n, e, hc, hd⟩ := z
      rw [ho'] at e; cases e
      rw [hd'] at hd; cases hd
    exact ih us as _ ι s' en (fun y hy => hl y (.tail _ hy)) I' F' (rl.mono (Pre.refl _) k) (by simpa using hlen) fun s'' F'' I'' t'' => h s'' F'' I'' (t'.trans t'')
theorem assignEach_star {env : Env} (ts : List (Str × Pos)) : (assignEach (ts.map fun x => Expr.Name x.1 x.2) env).length = ts.length ∧ (assignEach (ts.map fun x => Expr.Name x.1 x.2) env).findIdx? (·.1) = none := by
  rw [assignEach_names]
  refine ⟨List.length_map _, ?_⟩
  rw [List.findIdx?_eq_none_iff]
  intro x hx
  obtain ⟨y, _, rfl⟩ := List.mem_map.mp hx
  rfl
theorem assignEach_snd {env : Env} (ts : List (Str × Pos)) : (assignEach (ts.map fun x => Expr.Name x.1 x.2) env).map (·.2) = ts.map fun x => assign (.Name x.1 x.2) env := by
  rw [assignEach_names, List.map_map]; rfl
theorem assignEach_one (t : Expr) (h : ∀ x p, t ≠ .Starred x p) (env : Env) : (assignEach [t] env).map (·.2) = [assign t env] := by
  cases t <;> first | rfl | exact absurd rfl (h _ _)
theorem AS_Unpack {ts : List (Str × Pos)} {elts : List Expr} {kk : Nat} {value : Expr} (hts : ts.map (fun x => Expr.Name x.1 x.2) = elts)
    (h : AW W X value ρ σ (fun a σ₁ => ∃ as, a = .tup as ∧ as.length = ts.length ∧ N (updAll ρ (ts.map (·.1)) as) σ₁) E)
    (hl : ∀ x ∈ ts, X.scope.names.lookup x.1 = some .local) (hk : X.scope.kind = .function := by rfl) (hd : X.hd = false := by rfl)
    (hs : ∀ env, env.scope = X.scope → swapsWithSole [.Tuple elts kk xp] value pos.line env = pure false := by intro _ _; rfl) (hw : ∀ env, env.scope = X.scope → swappedStores [.Tuple elts kk xp] value env = pure none := by intro _ _; rfl) : AS W X (.Assign [.Tuple elts kk xp] value pos) ρ σ N R E := by
  intro A env L l ι s at_ en I F EE hE hT
  refine wpAny_Assign_stores (wpAny_mono (h A env L l ι s at_.ok en I F) (fun v s₁ g => ?_) fun _ _ x => hT _ _ (toL x)) (hs env en.scope) (hw env en.scope)
  obtain ⟨a, σ₁, ι₁, ⟨as, rfl, hlen, q⟩, r, i, t⟩ := g
  simp only [Rel] at r
  obtain ⟨p, vs, rfl, ⟨o, n, ho, hc, hdt⟩, rl⟩ := r
  rw [← hts]
  have st := assignEach_star (env := env) ts
  rw [assignEach_one _ (by intro _ _ q; cases q)]
  unfold assignAll
  refine wpAny_assign_Tuple (prog := W.prog) (w := W.w) (items := vs.toArray) (at_.ok.handled hd) ⟨o, ho, hc, n, hdt⟩ (by rw [st.1, List.size_toArray, rl.length, hlen]) st.2 fun h' hx => ?_
  have kp : ∀ b o, s₁.heap.get? b = some o → h'.get? b = some o := fun b o e => hx b o (Nat.ne_of_lt (Heap.lt_size e)) e
  have i' : Inv W l σ₁ ι₁ { s₁ with heap := h' } := i.grow kp
  have t' : Step noOwn ι ι₁ s.heap h' := t.trans (own := noOwn) (⟨Pre.refl _, fun _ => .inl, fun b o e => ⟨o, kp b o e⟩, fun b o e _ _ => .of (kp b o e)⟩ : Step noOwn ι₁ ι₁ s₁.heap h')
  rw [assignEach_snd]
  exact store_all hk at_.mem ts _ as ρ ι₁ _ (en.mono t.pre) hl i' (F.step t' I.srel) (rl.mono (Pre.refl _) (TK.of_keeps kp)) hlen.symm fun s' F' I' t'' => ⟨_, σ₁, ι₁, q, F', I', (stepL t').trans t''⟩
end
end Mine

open PySem PySem.W PySem.Calls PyProof.Rows
set_option Elab.async false
set_option linter.all false
namespace Mine

theorem frame_mem {l : List Env} {env : Env} {L : Addr} (h : env ∈ l) (hf : env.frame = some L) : L ∈ l.filterMap (·.frame) := List.mem_filterMap.mpr ⟨env, h, hf⟩
theorem SRel.stays {ι : List Addr} {σ : List AO} {B h : Heap} (S : SRel ι σ B) (k : B.StaysIn h) : SRel ι σ h := S.grow k
theorem Same.slots {h h' : Heap} {b : Addr} {o : Obj} {es : Array DictEntry} {n : Nat} (x : Same h b o) (u : h.UpToSlots h') (d : ∀ o', h.get? b = some o' → ∃ es n, o'.data = .dict es n) : Same h' b o :=
  x.trans fun o' e => by
    obtain ⟨es, n, hd⟩ := d o' e
    obtain ⟨sl, g⟩ := u b o' e fun vs q => by rw [hd] at q; cases q
    exact ⟨sl, g, fun q => absurd hd (q es n)⟩

section
variable {W : Wd} {X : Fx} {ρ : List (Str × AV)} {σ : List AO} {E : Str → List AO → Prop}

/-- what is left behind when an exception leaves a frame -/
theorem thrown_inv {own : Addr → Prop} {l : List Env} {ι ι' : List Addr} {s s' : Shared} {h' B : Heap} {e t : Addr} {σ' : List AO}
    (hs : W.H₀.StaysIn B) (S : SRel ι' σ' B) (pre : Pre ι ι') (new : ∀ a ∈ ι', a ∈ ι ∨ s.heap.get? a = none)
    (kB : ∀ b o, s.heap.get? b = some o → b ∉ ι → b ∉ l.filterMap (·.frame) → Same B b o) (kF : ∀ b o, s.heap.get? b = some o → b ∈ l.filterMap (·.frame) → ¬ own b → Same s'.heap b o) (hown : ∀ b, own b → b ∈ l.filterMap (·.frame))
    (fl : Heap.FlyingW B l e (.ref W.C) (.ref t) h') (up : s'.heap.UpToSlots h')
    (fresh : ∀ a ∈ ι', W.H₀.get? a = none) (apart : ∀ a ∈ ι', a ∉ l.filterMap (·.frame)) (frn : ∀ a ∈ l.filterMap (·.frame), ∃ m, s'.heap.Ns a m) (gens : s'.gens = #[]) (os : s'.os = W.os) :
    Inv W l σ' ι' { s' with heap := h' } ∧ Step own ι ι' s.heap h' := by
  obtain ⟨f1, f2, f3, f4⟩ := fl
  have S' : SRel ι' σ' h' := S.stays f1
  have frn' : ∀ a ∈ l.filterMap (·.frame), ∃ m, h'.Ns a m := fun a ha => let ⟨m, hm⟩ := frn a ha; ⟨m, up.ns hm⟩
  have keep : ∀ b o, s.heap.get? b = some o → b ∉ ι → ¬ own b → Same h' b o := fun b o eo hb hw => by
    by_cases hm : b ∈ l.filterMap (·.frame)
    · refine (kF b o eo hm hw).slots (es := #[]) (n := 0) up fun o' e' => ?_
      obtain ⟨_, o'', es, n, ho, hd, _⟩ := frn b hm
      rw [e'] at ho; cases ho
      exact ⟨es, n, hd⟩
    · exact (kB b o eo hb hm).trans fun o' e' => .of (f1 b o' e')
  refine ⟨⟨fun b o q => f1 b o (hs b o q), S', fresh, funFrames_base hs f3, apart, frn', gens, os⟩, ⟨pre, new, fun b o eo => ?_, keep⟩⟩
  by_cases hb : b ∈ ι
  · exact S'.some_obj (pre.mem hb)
  · by_cases hw : own b
    · obtain ⟨m, o', es, n, ho', _⟩ := frn' b (hown b hw)
      exact ⟨o', ho'⟩
    · obtain ⟨sl, g, _⟩ := keep b o eo hb hw
      exact ⟨_, g⟩

theorem thrown_of {own : Addr → Prop} {l : List Env} {ι ι' : List Addr} {s s' : Shared} {h' B : Heap} {e t : Addr} {msg : Str} {tk : Tok} {σ' : List AO} (hE : E msg σ')
    (hs : W.H₀.StaysIn B) (S : SRel ι' σ' B) (pre : Pre ι ι') (new : ∀ a ∈ ι', a ∈ ι ∨ s.heap.get? a = none)
    (kB : ∀ b o, s.heap.get? b = some o → b ∉ ι → b ∉ l.filterMap (·.frame) → Same B b o) (kF : ∀ b o, s.heap.get? b = some o → b ∈ l.filterMap (·.frame) → ¬ own b → Same s'.heap b o) (hown : ∀ b, own b → b ∈ l.filterMap (·.frame))
    (fl : Heap.FlyingW B l e (.ref W.C) (.ref t) h') (ht : B.get? t = none) (htup : h'.TupAt t [.str msg tk]) (up : s'.heap.UpToSlots h')
    (fresh : ∀ a ∈ ι', W.H₀.get? a = none) (apart : ∀ a ∈ ι', a ∉ l.filterMap (·.frame)) (frn : ∀ a ∈ l.filterMap (·.frame), ∃ m, s'.heap.Ns a m) (gens : s'.gens = #[]) (os : s'.os = W.os) :
    Thrown W l own ι s E (.ref e) { s' with heap := h' } :=
  let ⟨i, z⟩ := thrown_inv hs S pre new kB kF hown fl up fresh apart frn gens os
  ⟨e, msg, σ', ι', rfl, hE, i, z, .inr ⟨B, t, tk, hs, S, fun b o eo hb _ hm => kB b o eo hb hm, ht, htup, fl⟩⟩

theorem leave_thrown {A : Around} {env : Env} {l : List Env} {L : Addr} {ι : List Addr} {s s₁ s' : Shared} {v : Value} {EE : Value → Shared → Prop}
    (hA : A.frames = some (env :: l)) (hf : env.frame = some L) (hL : s.heap.get? L = none) (st : Step noOwn ι ι s.heap s₁.heap) (x : Thrown W (env :: l) (· = L) ι s₁ E v s') :
    wpAny W.M A (leaving env v) (fun _ s'' => Thrown W l noOwn ι s E v s'') EE s' := by
  obtain ⟨e, msg, σ', ι', rfl, hE, I, t, air⟩ := x
  have sub : ∀ b, b ∈ l.filterMap (·.frame) → b ∈ (env :: l).filterMap (·.frame) := fun b hb => by rw [List.filterMap_cons, hf]; exact List.mem_cons_of_mem _ hb
  have cs : ∀ b, b ∈ (env :: l).filterMap (·.frame) → b = L ∨ b ∈ l.filterMap (·.frame) := fun b hb => by
    rw [List.filterMap_cons, hf] at hb
    exact List.mem_cons.mp hb
  have neL : ∀ b o, s.heap.get? b = some o → b ≠ L := fun b o eo q => by rw [q, hL] at eo; cases eo
  have tt : Step (· = L) ι ι' s.heap s'.heap := (st.weaken fun _ q => q.elim).trans t
  have kF : ∀ b o, s.heap.get? b = some o → b ∈ l.filterMap (·.frame) → ¬ noOwn b → Same s'.heap b o := fun b o eo hm _ => tt.keep b o eo (fun q => I.apart b (t.pre.mem q) (sub b hm)) (neL b o eo)
  rcases air with ⟨s₂, tk, made, I₂, st₂⟩ | ⟨B, p, tk, hs, S, kB, hp, htup, fl⟩
  · have hin : ∀ env' ∈ (env :: l), ∀ b, env'.frame = some b → b ∈ (env :: l).filterMap (·.frame) := fun env' he b hb => frame_mem he hb
    have hsB : W.H₀.StaysIn (hideAll s₂.heap ((env :: l).filterMap (·.frame))) := fun b o q => hideAll_get _ (I₂.base b o q) fun hm => by
      rw [(I₂.frames.mem hm).1] at q; cases q
    have SB : SRel ι' σ' (hideAll s₂.heap ((env :: l).filterMap (·.frame))) := by
      have tk : TK s₂.heap (hideAll s₂.heap ((env :: l).filterMap (·.frame))) := fun b vs z => by
        obtain ⟨o, n, eo, hc, hd⟩ := z
        refine ⟨o, n, hideAll_get _ eo fun hm => ?_, hc, hd⟩
        obtain ⟨o', es, m, ho, hd'⟩ := I₂.frd b hm
        rw [ho] at eo; cases eo
        rw [hd'] at hd; cases hd
      exact ⟨I₂.srel.len, I₂.srel.nodup, fun i o b h1 h2 => (I₂.srel.objs i o b h1 h2).mono (Pre.refl _) tk fun z hz => hideAll_get _ hz (I₂.apart b (List.mem_of_getElem? h2))⟩
    refine wpAny_leaves_madeW hA hf (fun b o q => of_hideAll _ q) (funFrames_hide I₂.frames hin) made fun h' p x1 x2 x3 x4 => ?_
    refine thrown_of hE hsB SB t.pre tt.new (fun b o eo hb hm => ?_) kF (fun _ q => q.elim) x1 x3 x2 x4 I.fresh (fun a ha hm => I.apart a ha (sub a hm)) (fun a ha => I.frn a (sub a ha)) I.gens I.os
    have s2 : Same s₂.heap b o := (st.keep b o eo hb id).trans fun o' e' => st₂.keep b o' e' hb (neL b o eo)
    exact s2.trans fun o' e' => .of (hideAll_get _ e' fun q => (cs b q).elim (neL b o eo) hm)
  · have kB' : ∀ b o, s.heap.get? b = some o → b ∉ ι → b ∉ l.filterMap (·.frame) → Same B b o := fun b o eo hb hm =>
      (st.keep b o eo hb id).trans fun o' e' => kB b o' e' hb (neL b o eo) fun q => (cs b q).elim (neL b o eo) hm
    refine wpAny_leaves_onW hA hf fl fun h' x1 x2 => ?_
    exact thrown_of hE hs S t.pre tt.new kB' kF (fun _ q => q.elim) x1 hp (htup.of_slots x2) x2 I.fresh (fun a ha hm => I.apart a ha (sub a hm)) (fun a ha => I.frn a (sub a ha)) I.gens I.os

/-- a call of a value -/
def Con (W : Wd) (n : Nat) (hd : Bool) (f : Value) (args : List AV) (σ : List AO) (Q : AV → List AO → Prop) (E : Str → List AO → Prop) : Prop :=
  ∀ (A : Around) (l : List Env) (ι : List Addr) (s : Shared) (vs : List Value), AOk n hd A l → Inv W l σ ι s → RelL ι s.heap vs args → wpAny W.M A (call f vs []) (Got W l ι s Q) (Thrown W l noOwn ι s E) s

/-- how a call's code comes back -/
def Back (W : Wd) (l : List Env) (ι : List Addr) (s : Shared) (Q : AV → List AO → Prop) (E : Str → List AO → Prop) (r : Result) (s' : Shared) : Prop :=
  match r with
  | .ok (.ret v) => Got W l ι s Q v s'
  | .ok _ => False
  | .error e => Thrown W l noOwn ι s E e s'
def ConC (W : Wd) (n : Nat) (hd : Bool) (f : Value) (args : List AV) (σ : List AO) (Q : AV → List AO → Prop) (E : Str → List AO → Prop) : Prop :=
  ∀ (A : Around) (l : List Env) (ι : List Addr) (s : Shared) (vs : List Value), AOk n hd A l → Inv W l σ ι s → RelL ι s.heap vs args → codeAny W.M A (.call f ⟨vs, []⟩) (Back W l ι s Q E) s
theorem ConC.con {n : Nat} {hd : Bool} {f : Value} {args : List AV} {Q : AV → List AO → Prop} (h : ConC W n hd f args σ Q E) : Con W n hd f args σ Q E := fun A l ι s vs ok I rl =>
  wpAny_call (codeAny_mono (h A l ι s vs ok I rl) fun r s' x => by
    cases r with
    | error e => exact x
    | ok fl => cases fl <;> exact x)
theorem lookup_append_none {α : Type} {l m : List (Str × α)} {x : Str} (h : l.lookup x = none) : (l ++ m).lookup x = m.lookup x := by
  rw [List.lookup_append, h]; rfl
theorem lookup_reverse_nodup {α : Type} : ∀ {l : List (Str × α)}, (l.map (·.1)).Nodup → ∀ x, l.reverse.lookup x = l.lookup x
  | [], _, _ => rfl
  | (y, v) :: r, hn, x => by
    rw [List.map_cons, List.nodup_cons] at hn
    rw [List.reverse_cons, List.lookup_append, lookup_reverse_nodup hn.2 x, List.lookup_cons, List.lookup_cons, List.lookup_nil]
    cases e : x == y with
    | false => simp
    | true =>
      have hx := eq_of_beq e
      subst hx
      have : r.lookup x = none := by
        rw [List.lookup_eq_none_iff]
        intro p hp
        have hne : x ≠ p.1 := fun q => hn.1 (List.mem_map.mpr ⟨p, hp, q.symm⟩)
        simpa using hne
      rw [this]; rfl
theorem zip_nodup {α : Type} : ∀ (ns : List Str) (us : List α), ns.Nodup → ((ns.zip us).map (·.1)).Nodup
  | [], _, _ => List.nodup_nil
  | _ :: _, [], _ => List.nodup_nil
  | y :: ns, u :: us, h => by
    rw [List.nodup_cons] at h
    rw [List.zip_cons_cons, List.map_cons, List.nodup_cons]
    refine ⟨fun hm => ?_, zip_nodup ns us h.2⟩
    obtain ⟨p, hp, e⟩ := List.mem_map.mp hm
    have hp' : (p.1, p.2) ∈ ns.zip us := hp
    have e' : p.1 = y := e
    exact h.1 (e' ▸ (List.of_mem_zip hp').1)
theorem zip_lookup {ι : List Addr} {h : Heap} : ∀ {names : List Str} {vs : List Value} {as : List AV}, RelL ι h vs as → ∀ x a, (names.zip as).lookup x = some a → ∃ v, (names.zip vs).lookup x = some v ∧ Rel ι h v a
  | [], _, _, _, x, a, e => by cases e
  | _ :: _, vs, [], r, x, a, e => by cases e
  | y :: names, vs, b :: as, r, x, a, e => by
    simp only [RelL] at r
    obtain ⟨v, us, rfl, rv, rl⟩ := r
    rw [List.zip_cons_cons, List.lookup_cons] at e ⊢
    cases q : x == y with
    | true => rw [q] at e; cases e; exact ⟨v, rfl, rv⟩
    | false => rw [q] at e; exact zip_lookup rl x a e
theorem RelL.nones {ι : List Addr} {h : Heap} : ∀ k : Nat, RelL ι h (List.replicate k .none) (List.replicate k .none)
  | 0 => RelL.nil
  | k + 1 => RelL.cons (by simp only [Rel]) (RelL.nones k)

theorem AOk.deeper {n : Nat} {hd : Bool} {A : Around} {l : List Env} (x : AOk (n + 1) hd A l) (env : Env) : AOk n hd (A.deeper env) (env :: l) := by
  refine ⟨Around.frames_deeper x.frames, x.handled, ?_, ?_⟩
  · have := x.depth
    show A.depth + 1 + n ≤ 900
    omega
  · have := x.units
    show A.units + 3 + 10 * n ≤ 5000
    omega

theorem Con_def {n : Nat} {hd : Bool} {f : Addr} {o : Obj} {fd : FuncData} {body : List Stmt} {args : List AV} {names : List Str} {k : Nat} {Q : AV → List AO → Prop}
    (ho : W.H₀.get? f = some o) (hdt : o.data = .func fd) (hlim : W.H₀.NoLimit) (hcd : W.H₀.CodeRec fd.code fd.qualname) (hbody : fd.body = .stmts body)
    (hgl : fd.globals = mainGlobals) (hbi : fd.builtins = builtinsNs)
    (hbind : ∀ (s : Shared) (vs : List Value), (∀ b o, W.H₀.get? b = some o → s.heap.get? b = some o) → vs.length = args.length → BindsTo s fd ⟨vs, []⟩ (names.zip (vs ++ List.replicate k .none)))
    (hcell : ∀ x ∈ fd.scope.names, x.2 ≠ .cell) (hloc : ∀ x ∈ names, fd.scope.names.lookup x = some .local) (hnd : names.Nodup)
    (hco : fd.scope.isCoroutine = false) (hgen : fd.scope.isGenerator = false) (hk : fd.scope.kind = .function)
    (h : AX W ⟨fd.scope, [], n, hd⟩ body (names.zip (args ++ List.replicate k .none)) σ (fun _ σ' => Q .none σ') Q E) : ConC W (n + 1) hd (.ref f) args σ Q E := by
  intro A l ι s vs ok I rl
  refine codeAny_call_def (prog := W.prog) (w := W.w) (by have := ok.depth; show A.depth < 1000; omega) (I.base _ _ ho) hdt (hlim.keeps I.base) (hcd.keeps I.base) hbody (hbind s vs I.base rl.length) hcell (fun x hx => hloc _ ?_) (fun h₁ hn kp => ?_) hco hgen hk
  · exact (List.of_mem_zip (show (x.1, x.2) ∈ _ from hx)).1
  · have ok' := ok.deeper (callEnv fd s.heap.objs.size f)
    have hL : s.heap.get? s.heap.objs.size = none := get_size _
    have I₁ : Inv W (callEnv fd s.heap.objs.size f :: l) σ ι { s with heap := h₁, toks := s.toks + (names.zip (vs ++ List.replicate k Value.none)).length } := by
      have g := (I.grow kp).toks (s.toks + (names.zip (vs ++ List.replicate k Value.none)).length)
      have mL : ∀ a, a ∈ (callEnv fd s.heap.objs.size f :: l).filterMap (·.frame) → a = s.heap.objs.size ∨ a ∈ l.filterMap (·.frame) := fun a ha => List.mem_cons.mp ha
      have nL : W.H₀.get? s.heap.objs.size = none := by
        cases e : W.H₀.get? s.heap.objs.size with
        | none => rfl
        | some o => rw [I.base _ _ e] at hL; cases hL
      refine ⟨g.base, g.srel, g.fresh, ⟨by show fd.scope.kind ≠ .module; rw [hk]; decide, ?_, g.frames⟩, fun a ha hm => ?_, fun a ha => ?_, g.gens, g.os⟩
      · obtain ⟨o', es, ep, ho', hd', _⟩ := hn
        exact ⟨s.heap.objs.size, o', rfl, nL, ho', fun vs q => by rw [hd'] at q; cases q⟩
      · rcases mL a hm with q | q
        · obtain ⟨o', e'⟩ := I.srel.some_obj ha
          rw [q, hL] at e'; cases e'
        · exact g.apart a ha q
      · rcases mL a ha with q | q
        · exact ⟨_, by rw [q]; exact hn⟩
        · exact g.frn a q
    have st : Step noOwn ι ι s.heap h₁ := ⟨Pre.refl _, fun _ => .inl, fun b o e => ⟨o, kp b o e⟩, fun b o e _ _ => .of (kp b o e)⟩
    have tk₁ : TK s.heap h₁ := TK.of_keeps kp
    have F : Fram (names.zip (args ++ List.replicate k .none)) s.heap.objs.size ι h₁ := by
      refine ⟨⟨_, hn, fun x a hx => ?_⟩, fun hm => ?_⟩
      · have rr : RelL ι h₁ (vs ++ List.replicate k .none) (args ++ List.replicate k .none) := (rl.mono (Pre.refl _) tk₁).append (RelL.nones k)
        obtain ⟨v, e, r⟩ := zip_lookup rr x a hx
        refine ⟨v, ?_, r⟩
        rw [lookup_reverse_nodup ?_ x]; exact e
        exact zip_nodup _ _ hnd
      · obtain ⟨o', e'⟩ := I.srel.some_obj hm
        rw [hL] at e'; cases e'
    refine wpAny_mono (h _ _ s.heap.objs.size (callEnv fd s.heap.objs.size f :: l) ι _ ⟨ok', rfl, ⟨l, rfl⟩⟩ ⟨rfl, rfl, hgl, hbi, fun x k q => by cases q⟩ I₁ F _ PassesOwn.leaving fun v s₂ x => wpAny_mono (leave_thrown ok'.frames rfl hL st x) (fun _ _ y => y) fun _ _ y => y) (fun fl s₂ g => ?_) fun v s₂ x => x
    · have fin : ∀ (v : Value) a σ' ι', Q a σ' → Rel ι' s₂.heap v a → Inv W (callEnv fd s.heap.objs.size f :: l) σ' ι' s₂ → Step (· = s.heap.objs.size) ι ι' h₁ s₂.heap → Got W l ι s Q v s₂ := fun v a σ' ι' q r i t => by
        refine ⟨a, σ', ι', q, r, ⟨i.base, i.srel, i.fresh, i.frames.2.2, fun a ha hm => i.apart a ha (List.mem_cons_of_mem _ hm), fun a ha => i.frn a (List.mem_cons_of_mem _ ha), i.gens, i.os⟩, ?_⟩
        have tt : Step (· = s.heap.objs.size) ι ι' s.heap s₂.heap := (st.weaken fun _ q => q.elim).trans t
        exact ⟨tt.pre, tt.new, tt.live, fun b o e hb _ => tt.keep b o e hb fun q => by rw [q, hL] at e; cases e⟩
      cases fl with
      | next =>
        obtain ⟨ρ', σ', ι', q, F', i, t⟩ := g
        exact fin .none .none σ' ι' q (by simp only [Rel]) i t
      | ret v =>
        obtain ⟨a, σ', ι', q, r, i, t⟩ := g
        exact fin v a σ' ι' q r i t
      | brk => exact g.elim
      | cont => exact g.elim
end
end Mine

open PySem PySem.W PySem.Calls PyProof.Rows
set_option Elab.async false
set_option linter.all false
namespace Mine

theorem isStr_str (x y : Str) (t : Tok) : (Value.str x t).isStr y = (x == y) := rfl
theorem EntRel.noRef {ι : List Addr} {h : Heap} : ∀ {es : List DictEntry} {fs : List (Str × AV)}, EntRel ι h es fs → es.any (·.refKey) = false
  | [], _, _ => rfl
  | e :: es, [], x => by simp only [EntRel] at x
  | e :: es, f :: fs, x => by
    simp only [EntRel] at x
    obtain ⟨⟨t, k⟩, _, r⟩ := x
    rw [List.any_cons, EntRel.noRef r]
    unfold DictEntry.refKey; rw [k]; rfl
theorem EntRel.find {ι : List Addr} {h : Heap} {name : Str} : ∀ {es : List DictEntry} {fs : List (Str × AV)}, EntRel ι h es fs →
    (match fs.lookup name with
      | some a => ∃ e, es.find? (·.key.isStr name) = some e ∧ Rel ι h e.val a
      | none => es.find? (·.key.isStr name) = none)
  | [], [], _ => rfl
  | [], _ :: _, x => by simp only [EntRel] at x
  | e :: es, [], x => by simp only [EntRel] at x
  | e :: es, (y, b) :: fs, x => by
    simp only [EntRel] at x
    obtain ⟨⟨t, k⟩, rv, r⟩ := x
    have hk : e.key.isStr name = (y == name) := by rw [k]; rfl
    rw [List.lookup_cons, List.find?_cons, hk]
    by_cases q : name = y
    · subst q; simp only [beq_self_eq_true]; exact ⟨e, rfl, rv⟩
    · rw [beq_eq_false_iff_ne.mpr q, beq_eq_false_iff_ne.mpr (Ne.symm q)]
      exact EntRel.find r
theorem EntRel.getL_some {ι : List Addr} {h : Heap} {name : Str} {es : List DictEntry} {fs : List (Str × AV)} {a : AV} (r : EntRel ι h es fs) (e : fs.lookup name = some a) : ∃ v, getL name es = some (some v) ∧ Rel ι h v a := by
  have := r.find (name := name)
  rw [e] at this
  obtain ⟨en, he, rv⟩ := this
  exact ⟨en.val, by unfold getL; rw [he], rv⟩
theorem EntRel.getL_none {ι : List Addr} {h : Heap} {name : Str} {es : List DictEntry} {fs : List (Str × AV)} (r : EntRel ι h es fs) (e : fs.lookup name = none) : getL name es = some none := by
  have := r.find (name := name)
  rw [e] at this
  have this : es.find? (·.key.isStr name) = none := this
  unfold getL; rw [this, r.noRef]; rfl
theorem EntRel.put {ι : List Addr} {h : Heap} {name : Str} {hsh : Int} {tk : Tok} {v : Value} {a : AV} (rv : Rel ι h v a) : ∀ {es : List DictEntry} {fs : List (Str × AV)}, EntRel ι h es fs → EntRel ι h (putL name hsh (.str name tk) v es) (upd fs name a)
  | [], [], _ => by
    unfold putL upd
    simp only [EntRel]
    exact ⟨⟨tk, rfl⟩, rv, trivial⟩
  | [], _ :: _, x => by simp only [EntRel] at x
  | e :: es, [], x => by simp only [EntRel] at x
  | e :: es, (y, b) :: fs, x => by
    simp only [EntRel] at x
    obtain ⟨⟨t, k⟩, re, r⟩ := x
    have hk : e.key.isStr name = (y == name) := by rw [k]; rfl
    unfold putL upd
    rw [hk]
    cases q : y == name with
    | true =>
      have q := eq_of_beq q
      subst q
      simp only [if_true, EntRel]
      exact ⟨⟨t, k⟩, rv, r⟩
    | false =>
      simp only [Bool.false_eq_true, if_false, EntRel]
      exact ⟨⟨t, k⟩, re, EntRel.put rv r⟩
theorem EntRel.length {ι : List Addr} {h : Heap} : ∀ {es : List DictEntry} {fs : List (Str × AV)}, EntRel ι h es fs → es.length = fs.length
  | [], [], _ => rfl
  | [], _ :: _, x => by simp only [EntRel] at x
  | _ :: _, [], x => by simp only [EntRel] at x
  | e :: es, f :: fs, x => by
    simp only [EntRel] at x
    rw [List.length_cons, List.length_cons, EntRel.length x.2.2]

def handed : AV → Bool
  | .val _ => false
  | _ => true
theorem handed_rel {ι : List Addr} {h : Heap} {v : Value} {a : AV} (r : Rel ι h v a) (e : handed a = true) : handedIn v = true := by
  cases a <;> simp only [handed, Bool.false_eq_true] at e <;> simp only [Rel] at r
  · subst r; rfl
  · subst r; rfl
  · obtain ⟨t, rfl⟩ := r; rfl
  · obtain ⟨t, rfl⟩ := r; rfl
  · obtain ⟨t, _, rfl, _⟩ := r; rfl
  · obtain ⟨t, rfl, _⟩ := r; rfl

section
variable {W : Wd} {X : Fx} {ρ : List (Str × AV)} {σ : List AO} {Q : AV → List AO → Prop} {E : Str → List AO → Prop} {N : List (Str × AV) → List AO → Prop} {R : AV → List AO → Prop} {K : Frag} {pos apos : Pos}

theorem Inv.inK {l : List Env} {ι : List Addr} {s : Shared} (I : Inv W l σ ι s) (X : K.In W.H₀) : K.In s.heap := X.keeps I.base

/-- an object of a class at a place, with its fields -/
def IsObj (σ : List AO) (j : Nat) (C : Addr) (fs : List (Str × AV)) : Prop := ∃ d, σ[j]? = some (.inst C d) ∧ σ[d]? = some (.dct fs)
theorem IsObj.at {l : List Env} {ι : List Addr} {s : Shared} {j : Nat} {C : Addr} {fs : List (Str × AV)} (I : Inv W l σ ι s) (o : IsObj σ j C fs) {v : Value} (rv : Rel ι s.heap v (.loc j)) :
    ∃ x dx es n, v = .ref x ∧ InstAt s.heap x (instObj C dx) C (some (dictOf es n)) ∧ EntRel ι s.heap es fs ∧ s.heap.get? dx = some (dictOf es n) := by
  obtain ⟨d, h1, h2⟩ := o
  simp only [Rel] at rv
  obtain ⟨x, rfl, hx⟩ := rv
  obtain ⟨dx, hd, ho⟩ := I.srel.objs j _ x h1 hx
  obtain ⟨es, n, hdx, er⟩ := I.srel.objs d _ dx h2 hd
  exact ⟨x, dx, es, n, rfl, ⟨ho, rfl, rfl, hdx⟩, er, hdx⟩

theorem AW_Attr {value : Expr} {attr : Str} (XK : K.In W.H₀)
    (h : AW W X value ρ σ (fun a σ₁ => ∃ j C fs b at_, a = .loc j ∧ IsObj σ₁ j C fs ∧ plainGet K C attr = true ∧ hasDictIn K C = true ∧ findIn K (.ref C) attr = some at_ ∧ noGet K at_ = true ∧ fs.lookup attr = some b ∧ handed b = true ∧ Q b σ₁) E)
    (he : ∀ env, eval (.Attribute value attr pos) env = (do
      let o ← eval value env
      standAt pos.atName
      let r ← holding [o] (getAttr o attr true)
      letTemporaryGo value o r
      pure r) := by intro _; with_unfolding_all rfl) : AW W X (.Attribute value attr pos) ρ σ Q E := by
  intro A env L l ι s ok en I F
  refine Attribute_any_ (prog := W.prog) (w := W.w) ?_ (he env)
  refine wpAny_mono (h A env L l ι s ok en I F) (fun v s₁ g => ?_) fun _ _ x => x
  obtain ⟨a, σ₁, ι₁, ⟨j, C, fs, b, at_, rfl, ob, h1, h2, h3, h4, h5, h6, q⟩, r, i, t⟩ := g
  obtain ⟨x, dx, es, n, rfl, IA, er, -⟩ := ob.at i r
  obtain ⟨u, hu, ru⟩ := er.getL_some h5
  exact get_value (i.inK XK) IA (plainGet_of h1).1 (findObj_own h2 h3 h4 hu) (handed_rel ru h6) ⟨b, σ₁, ι₁, q, ru, i.toks _, t⟩

theorem Inv.setAt {l : List Env} {ι : List Addr} {s : Shared} {h' : Heap} {n : Nat} {a : Addr} {k : Nat} {o : AO} (I : Inv W l σ ι s) (hk : ι[k]? = some a) (hs : Heap.SameBut a s.heap h') (r : ObjRel ι h' a o) :
    Inv W l (σ.set k o) ι { s with heap := h', toks := n } ∧ Step noOwn ι ι s.heap h' := by
  have hm : a ∈ ι := List.mem_of_getElem? hk
  have S : SRel ι (σ.set k o) h' := I.srel.set hk (fun b x hb e => (hs.2 b hb).trans e) r
  have J := I
  refine ⟨⟨fun b o e => ?_, S, I.fresh, funFrames_map I.frames fun b hb => ?_, I.apart, fun b hb => ?_, I.gens, I.os⟩, ⟨Pre.refl _, fun _ => .inl, fun b o e => ?_, fun b o e hb _ => .of ((hs.2 b fun q => hb (q ▸ hm)).trans e)⟩⟩
  · exact (hs.2 b fun q => by rw [q, I.fresh a hm] at e; cases e).trans (I.base b o e)
  · obtain ⟨_, o, ho, hd⟩ := I.frames.mem hb
    exact ⟨o, (hs.2 b fun q => I.apart a hm (q ▸ hb)).trans ho, hd⟩
  · obtain ⟨m, h⟩ := I.frn b hb
    exact ⟨m, h.sameBut hs fun q => I.apart a hm (q ▸ hb)⟩
  · by_cases q : b = a
    · rw [q]; exact S.some_obj hm
    · exact ⟨o, (hs.2 b q).trans e⟩

theorem osa_core {prog : Program} {w : World} {A : Around} {s : Shared} {R : Result → Shared → Prop} {x dx C : Addr} {es es' : List DictEntry} {n n' : Nat} {name : Str} {tk : Tok} {v : Value} {ox : Obj} (X : K.In s.heap)
    (I : InstAt s.heap x ox C (some (dictOf es n))) (hd : ox.dict = some dx) (hp : plainOver K C = true) (ht : takerIn K C name = some none) (hh : (clsIn K C).any (·.hasDict) = true)
    (hl : (lookIn name (dictOf es n)).isSome = true) (e : Obj.putName name (PyData.keyHash w.params name) (.str name s.toks) v (dictOf es n) = dictOf es' n') (hz : es'.length ≤ 1000)
    (h : ∀ h', h'.get? dx = some (dictOf es' n') → Heap.SameBut dx s.heap h' → R (.ok (.ret .none)) { s with heap := h', toks := s.toks + 1 }) :
    codeAny (model prog w) A (.call (.builtin "object.__setattr__") ⟨[.ref x, .str name tk, v], []⟩) R s := by
  refine osa_open X I hp ht fun b => ?_
  obtain ⟨cd, hc, hd'⟩ := any_some hh
  obtain ⟨hx, hcl, hn, D⟩ := I
  obtain ⟨oc, odi, oda, osl⟩ := ox
  dsimp only at hcl hd
  subst hcl hd
  have D : s.heap.get? dx = some (dictOf es n) := D
  have D' := Heap.get?_update_self (Obj.putName name (PyData.keyHash w.params name) (.str name s.toks) v) D (by rw [e]; rfl)
  rw [e] at D'
  refine wpAny_bind (wpAny_pure (wpAny_bind (wpAny_bind (wpAny_loadPart hx (wpAny_bind ((looks_clsIn X hc).here ?_))))))
  rw [hd']
  refine wpAny_pure (a := some dx) (wpAny_bind (wpAny_pure (wpAny_bind ?_)))
  unfold nsSet
  refine wpAny_bind (wpAny_bind (wpAny_askSetting (wpAny_pure (wpAny_bind (wpAny_mkText (wpAny_bind (wpAny_loadPart D ?_)))))))
  have hl : (getL name es).isSome = true := hl
  dsimp only
  have c : (!es.toArray.any (·.key.isStr name) && es.toArray.any (·.refKey)) = false := by
    rw [← Array.any_toList, ← Array.any_toList]
    unfold getL at hl
    split at hl
    · rename_i en he
      rw [List.any_eq_true.mpr ⟨en, List.mem_of_find?_eq_some he, List.find?_some he⟩]; rfl
    · split at hl
      · cases hl
      · rename_i z; rw [Bool.not_eq_true] at z; rw [z, Bool.and_false]
  rw [aRefKeyMayBeTheName_at, c]
  refine wpAny_updatePart D ?_
  refine wpAny_bind (wpAny_lookBehind D' (pastItsLine_dict (by rw [List.size_toArray, sizeLine_eq]; omega)) ?_)
  exact wpAny_pure (h _ D' (Heap.SameBut.update ..))
theorem set_core {A : Around} {E : Value → Shared → Prop} {s : Shared} {x dx C : Addr} {es : List DictEntry} {n : Nat} {name : Str} {v : Value} {Q : Unit → Shared → Prop} {ox : Obj} (X : K.In s.heap) (I : InstAt s.heap x ox C (some (dictOf es n))) (hd : ox.dict = some dx)
    (hs : findIn K (.ref C) "__setattr__" = some (some (.builtin "object.__setattr__"))) (hp : plainOver K C = true) (ht : takerIn K C name = some none) (hh : hasDictIn K C = true) (hl : (getL name es).isSome = true) (hz : (putL name (PyData.keyHash W.w.params name) (.str name (s.toks + 1)) v es).length ≤ 1000)
    (h : ∀ h', h'.get? dx = some (dictOf (putL name (PyData.keyHash W.w.params name) (.str name (s.toks + 1)) v es) (putN name es n)) → Heap.SameBut dx s.heap h' → Q () { s with heap := h', toks := s.toks + 1 + 1 }) :
    wpAny W.M A (setAttr (.ref x) name v) Q E s :=
  set_plain (prog := W.prog) (w := W.w) X I hs (osa_core (s := { s with toks := s.toks + 1 }) X I hd hp ht hh hl (putName_dict ..) hz fun h' a b => h h' a b)

theorem AS_SetAttr {value o : Expr} {attr : Str} {xp : Pos} (XK : K.In W.H₀)
    (h : AW W X value ρ σ (fun b σ₁ => AW W X o ρ σ₁ (fun a σ₂ => ∃ j C d fs, a = .loc j ∧ σ₂[j]? = some (.inst C d) ∧ σ₂[d]? = some (.dct fs) ∧ findIn K (.ref C) "__setattr__" = some (some (.builtin "object.__setattr__")) ∧ plainOver K C = true ∧ takerIn K C attr = some none ∧ hasDictIn K C = true ∧
      fs.length ≤ 100 ∧ N ρ (σ₂.set d (.dct (upd fs attr b)))) E) E)
    (hs : ∀ env, swapsWith value (some (.Attribute o attr xp)) pos.line env = pure false := by intro _; rfl) : AS W X (.Assign [.Attribute o attr xp] value pos) ρ σ N R E := by
  intro A env L l ι s at_ en I F EE hE hT
  refine plainObj_wpAny_Assign_Attribute ?_ (hs env)
  refine wpAny_mono (h A env L l ι s at_.ok en I F) (fun v s₁ g => ?_) fun _ _ x => hT _ _ (toL x)
  obtain ⟨b, σ₁, ι₁, q, r, i, t⟩ := g
  refine wpAny_mono (q A env L l ι₁ s₁ at_.ok (en.mono t.pre) i (F.step t I.srel)) (fun u s₂ g => ?_) fun _ _ x => hT _ _ (toL (x.pre t))
  obtain ⟨a, σ₂, ι₂, ⟨j, C, d, fs, rfl, o1, o2, h1, h2, h3, h4, hz, q₂⟩, r₂, i₂, t₂⟩ := g
  have tt := t.trans t₂
  simp only [Rel] at r₂
  obtain ⟨x, rfl, hx⟩ := r₂
  obtain ⟨dx, hd, ho⟩ := i₂.srel.objs j _ x o1 hx
  obtain ⟨es, n, hdx, er⟩ := i₂.srel.objs d _ dx o2 hd
  have rv : Rel ι₂ s₂.heap v b := r.mono t₂.pre (t₂.tk0 i.srel)
  have hl : (getL attr es).isSome = true := by
    cases e : fs.lookup attr with
    | none => rw [er.getL_none e]; rfl
    | some z => obtain ⟨u, hu, _⟩ := er.getL_some e; rw [hu]; rfl
  have lenput : ∀ hsh tk, (putL attr hsh (.str attr tk) v es).length ≤ 1000 := fun hsh tk => by
    have e1 := (EntRel.put (name := attr) (hsh := hsh) (tk := tk) rv er).length
    have : ∀ (fs : List (Str × AV)), (upd fs attr b).length ≤ fs.length + 1 := by
      intro fs
      induction fs with
      | nil => exact Nat.le_refl _
      | cons f fs ih =>
        unfold upd
        split
        · rw [List.length_cons, List.length_cons]; omega
        · rw [List.length_cons, List.length_cons]; omega
    rw [e1]
    have := this fs
    omega
  refine set_core (W := W) (i₂.inK XK) ⟨ho, rfl, rfl, hdx⟩ rfl h1 h2 h3 h4 hl (lenput _ _) fun h' hg hs' => ?_
  have tk' : TK s₂.heap h' := fun p vs z => by
    obtain ⟨o, n, e, hc, hdt⟩ := z
    refine ⟨o, n, (hs'.2 p fun w => ?_).trans e, hc, hdt⟩
    rw [w, hdx] at e; cases e; cases hdt
  obtain ⟨I', t'⟩ := i₂.setAt (n := s₂.toks + 1 + 1) hd hs' (o := .dct (upd fs attr b)) ⟨_, _, hg, (EntRel.put rv er).mono (Pre.refl _) tk'⟩
  exact ⟨ρ, _, ι₂, q₂, F.step (tt.trans t') I.srel, I', stepL (tt.trans t')⟩
end
end Mine

open PySem PySem.W PySem.Calls PyProof.Rows
set_option Elab.async false
set_option linter.all false
namespace Mine

/-- callables of whose calls the machine asks nothing more -/
def Kps (W : Wd) (f : Value) : Prop := (∃ id, f = .builtin id) ∨ (∃ T, f = .type T) ∨ ∃ K : Frag, K.In W.H₀ ∧ keepIn K f = true

section
variable {W : Wd} {X : Fx} {ρ : List (Str × AV)} {σ : List AO} {Q : AV → List AO → Prop} {E : Str → List AO → Prop} {K : Frag} {pos apos : Pos}

theorem evalArgs_of {es : List Expr} {env : Env} {M : Model} {A : Around} {f : Value} {EE : Value → Shared → Prop} {s : Shared} {P : Args → Shared → Prop} (hst : ∀ e r, es = e :: r → starEach es env = (false, eval e env) :: starEach r env)
    (h : wpAny M A (spliced (backTo pos (starEach es env))) (fun vs s' => P ⟨vs, []⟩ s') EE s) : wpAny M A (evalArgs f true (backTo pos (starEach es env)) []) P EE s := by
  cases es with
  | nil =>
    unfold evalArgs
    show wpAny M A (spliced [] >>= _) P EE s
    refine wpAny_bind (wpAny_mono h (fun vs s' h' => ?_) fun _ _ x => x)
    exact wpAny_holding (wpAny_bind (wpAny_pure (wpAny_bind (wpAny_pure (wpAny_pure h')))))
  | cons e r =>
    rw [hst e r rfl] at h ⊢
    exact evalArgs_plain h

theorem callWith_kps {es : List Expr} {env : Env} {A : Around} {f : Value} {first : List Value} {EE : Value → Shared → Prop} {s : Shared} {P : Value → Shared → Prop} (k : Kps W f) (hst : ∀ e r, es = e :: r → starEach es env = (false, eval e env) :: starEach r env)
    (hpl : (backTo pos (starEach es env)).any (·.1) = false)
    (h : wpAny W.M A (spliced (backTo pos (starEach es env))) (fun vs s₁ => (∀ b o, W.H₀.get? b = some o → s₁.heap.get? b = some o) ∧ wpAny W.M A (call f (first ++ vs) []) P EE s₁) EE s) :
    wpAny W.M A (callWith pos f first (backTo pos (starEach es env)) []) P EE s := by
  rcases k with ⟨id, rfl⟩ | ⟨T, rfl⟩ | ⟨K, XK, hk⟩
  · exact callWith_builtin hpl (evalArgs_of hst (wpAny_mono h (fun vs s₁ h₁ => h₁.2) fun _ _ x => x))
  · exact PyProof.Rows.callWith_type hpl (evalArgs_of hst (wpAny_mono h (fun vs s₁ h₁ => h₁.2) fun _ _ x => x))
  · exact callWith_of (P := fun h => ∀ b o, W.H₀.get? b = some o → h.get? b = some o) (by rw [hpl]; rfl) (fun h kp => keeps_K hk h (XK.keeps kp)) (evalArgs_of hst h)

theorem Con.of_le {n : Nat} {hd : Bool} {f : Value} {args : List AV} {Q : AV → List AO → Prop} (h : Con W n hd f args σ Q E) {n' : Nat} (hn : n ≤ n') : Con W n' hd f args σ Q E := fun A l ι s vs ok I rl =>
  h A l ι s vs ⟨ok.frames, ok.handled, by have := ok.depth; omega, by have := ok.units; omega⟩ I rl

def plainArgs (es : List Expr) : Prop := ∀ env, (∀ e r, es = e :: r → starEach es env = (false, eval e env) :: starEach r env) ∧ ∀ pos, (backTo pos (starEach es env)).any (·.1) = false

theorem AW_Call {func : Expr} {es : List Expr} (h : AW W X func ρ σ (fun a σ₁ => ∃ f, a = .val f ∧ Kps W f ∧ AWs W X es ρ σ₁ (fun as σ₂ => Con W X.n X.hd f as σ₂ Q E) E) E)
    (hp : plainArgs es := by intro env; exact ⟨fun _ _ e => by cases e <;> rfl, fun _ => rfl⟩)
    (he : ∀ env, eval (.Call func es [] pos) env = (do callWith pos (← eval func env) [] (backTo pos (starEach es env)) (backToKw pos (keywordEach [] env))) := by intro _; rfl) : AW W X (.Call func es [] pos) ρ σ Q E := by
  intro A env L l ι s ok en I F
  refine Call_ ?_ (he env)
  refine wpAny_mono (h A env L l ι s ok en I F) (fun v s₁ g => ?_) fun _ _ x => x
  obtain ⟨a, σ₁, ι₁, ⟨f, rfl, k, q⟩, r, i, t⟩ := g
  simp only [Rel] at r
  subst r
  refine callWith_kps k (hp env).1 ((hp env).2 pos) (wpAny_mono (q A env L l ι₁ s₁ pos ok (en.mono t.pre) i (F.step t I.srel)) (fun vs s₂ g => ?_) fun _ _ x => x.pre t)
  obtain ⟨as, σ₂, ι₂, q₂, rl, i₂, t₂⟩ := g
  exact ⟨i₂.base, wpAny_mono (q₂ A l ι₂ s₂ vs ok i₂ rl) (fun _ _ x => x.pre (t.trans t₂)) fun _ _ x => x.pre (t.trans t₂)⟩

/-- what a method's name means on a value -/
def AMeth (W : Wd) (X : Fx) (name : Str) (a : AV) (f : Value) (σ : List AO) : Prop :=
  ∀ (A : Around) (l : List Env) (ι : List Addr) (s : Shared) (v : Value), AOk X.n X.hd A l → Inv W l σ ι s → Rel ι s.heap v a → ∀ (pl : Sem Bool) (P : Value × List Value → Shared → Prop) (EE : Value → Shared → Prop), P (f, [v]) s → wpAny W.M A (getMethod v name pl) P EE s

theorem AW_Method {o : Expr} {name : Str} {es : List Expr} (h : AW W X o ρ σ (fun a σ₁ => ∃ f, AMeth W X name a f σ₁ ∧ Kps W f ∧ AWs W X es ρ σ₁ (fun as σ₂ => Con W X.n X.hd f (a :: as) σ₂ Q E) E) E)
    (hbase : ∀ env, attributeBase o name env (eval o env) = eval o env := by intro _; rfl)
    (hp : plainArgs es := by intro env; exact ⟨fun _ _ e => by cases e <;> rfl, fun _ => rfl⟩)
    (hfew : ∀ env, ((backTo pos (starEach es env)).all (fun x => !x.1) && (backToKw pos (keywordEach [] env)).all (fun x => x.1.isSome) && decide (es.length + ([] : List Keyword).length + (if ([] : List Keyword).isEmpty then 0 else 1) < 30)) = true := by intro _; rfl)
    (hline : (apos.endLine == pos.line) = true := by rfl) : AW W X (.Call (.Attribute o name apos) es [] pos) ρ σ Q E := by
  intro A env L l ι s ok en I F
  rw [arm_eval_Call, hbase env]
  refine wpAny_bind (wpAny_mono (h A env L l ι s ok en I F) (fun v s₁ g => ?_) fun _ _ x => x)
  obtain ⟨a, σ₁, ι₁, ⟨f, am, k, q⟩, r, i, t⟩ := g
  refine wpAny_bind (wpAny_standAt ?_)
  have hform : methodCallForm (es.length + ([] : List Keyword).length) (backTo pos (starEach es env)) (backToKw pos (keywordEach [] env)) = true := hfew env
  have hpos : methodCallPos true o env apos pos = pure pos := by unfold methodCallPos; simp [hline]
  unfold methodCall
  rw [hform]
  refine wpAny_bind (wpAny_holding (am A l ι₁ s₁ v ok i r _ _ _ ?_))
  refine wpAny_bind (wpAny_of_eq hpos ?_)
  refine callWith_kps k (hp env).1 ((hp env).2 pos) (wpAny_mono (q A env L l ι₁ s₁ pos ok (en.mono t.pre) i (F.step t I.srel)) (fun vs s₂ g => ?_) fun _ _ x => x.pre t)
  obtain ⟨as, σ₂, ι₂, q₂, rl, i₂, t₂⟩ := g
  exact ⟨i₂.base, wpAny_mono (q₂ A l ι₂ s₂ (v :: vs) ok i₂ (.cons (r.mono t₂.pre (t₂.tk0 i.srel)) rl)) (fun _ _ x => x.pre (t.trans t₂)) fun _ _ x => x.pre (t.trans t₂)⟩

theorem inst_meth {name : Str} {j : Nat} {C f : Addr} {fs : List (Str × AV)} (XK : K.In W.H₀) (o : IsObj σ j C fs) (hg : plainGet K C name = true) (hf : findIn K (.ref C) name = some (some (.ref f))) (ht : isFn K (.ref f) = true) (hl : fs.lookup name = none) :
    AMeth W X name (.loc j) (.ref f) σ := by
  intro A l ι s v ok I r pl P EE h
  obtain ⟨x, dx, es, n, rfl, IA, er, -⟩ := o.at I r
  exact method_fn (I.inK XK) IA (plainGet_of hg).1 (plainGet_of hg).2 hf (beq_iff_eq.mp ht) (by show (lookIn name (dictOf es n)).map _ = _; rw [lookIn_dict, er.getL_none hl]; rfl) h
theorem kps_fn {f : Addr} (XK : K.In W.H₀) (h : fnIn K f = true) : Kps W (.ref f) := by
  refine .inr (.inr ⟨K, XK, ?_⟩)
  unfold fnIn at h
  split at h
  · rename_i e
    unfold keepIn; dsimp only; rw [e]
  · cases h
theorem kps_cls {C : Addr} (XK : K.In W.H₀) (h : keepIn K (.ref C) = true) : Kps W (.ref C) := .inr (.inr ⟨K, XK, h⟩)

theorem list_meth {name : Str} {id : String} {k : Nat} {l : List AV} (hk : σ[k]? = some (.lst l)) (slot : Slot "list" name id) (hty : typeOf (.builtin id) = pure (.type "method_descriptor")) : AMeth W X name (.loc k) (.builtin id) σ := by
  intro A fl ι s v ok I r pl P EE h
  simp only [Rel] at r
  obtain ⟨t, rfl, ht⟩ := r
  obtain ⟨vs, n, ho, rl⟩ := I.srel.objs k _ t hk ht
  exact getMethod_builtin (T := "list") (v := .ref t) (s := s) ⟨_, ho, rfl⟩ PySem.F.plainAttrs_list slot hty (fun a e => by cases e; exact ⟨_, ho, rfl⟩) h
theorem append_meth {k : Nat} {l : List AV} (hk : σ[k]? = some (.lst l)) : AMeth W X "append" (.loc k) (.builtin "list.append") σ := list_meth hk PySem.F.slot_list_append PySem.F.type_list_append
theorem pop_meth {k : Nat} {l : List AV} (hk : σ[k]? = some (.lst l)) : AMeth W X "pop" (.loc k) (.builtin "list.pop") σ := list_meth hk PySem.F.slot_list_pop PySem.F.type_list_pop

theorem append_con {n : Nat} {hd : Bool} {k : Nat} {l : List AV} {a : AV} (hk : σ[k]? = some (.lst l)) (hz : l.length ≤ 1000000) (q : Q .none (σ.set k (.lst (l ++ [a])))) : Con W n hd (.builtin "list.append") [.loc k, a] σ Q E := by
  intro A fl ι s vs ok I rl
  simp only [RelL, Rel] at rl
  obtain ⟨_, _, rfl, ⟨t, rfl, ht⟩, v, _, rfl, rv, rfl⟩ := rl
  obtain ⟨vs, n, ho, rl⟩ := I.srel.objs k _ t hk ht
  have D := PySem.IsL.update ho fun xs => xs.push v
  refine PySem.call_meets (prog := W.prog) (w := W.w) PySem.F.slot_list_append ⟨_, ho, rfl⟩ PySem.F.entry_list_append (PySem.F.args_list_append_2 _ _) (PySem.AutoListH.list_append_list_val_0 t _ n v (by rw [List.size_toArray, rl.length, sizeLine_eq]; omega)) ⟨ho, ?_⟩
  have tk' : TK s.heap (s.heap.update t (Obj.mapSeq fun xs => xs.push v)) := fun p us z => by
    have z' := z
    obtain ⟨o, m, e, hc, hd⟩ := z
    exact ⟨o, m, (Heap.get?_update_other _ _ (fun w => by rw [← w, ho] at e; cases e; exact absurd hc (by simp))).trans e, hc, hd⟩
  obtain ⟨I', t'⟩ := I.setAt (n := s.toks) ht (Heap.SameBut.update ..) (o := .lst (l ++ [a])) ⟨vs ++ [v], _, (by rw [← List.push_toArray]; exact D), (rl.append (RelL.cons rv RelL.nil)).mono (Pre.refl _) tk'⟩
  exact ⟨.none, _, ι, q, by simp only [Rel], I', t'⟩
theorem pop_con {n : Nat} {hd : Bool} {k : Nat} {l : List AV} {a : AV} (hk : σ[k]? = some (.lst (l ++ [a]))) (hz : l.length ≤ 1000000) (q : Q a (σ.set k (.lst l))) : Con W n hd (.builtin "list.pop") [.loc k] σ Q E := by
  intro A fl ι s vs ok I rl
  simp only [RelL, Rel] at rl
  obtain ⟨_, _, rfl, ⟨t, rfl, ht⟩, rfl⟩ := rl
  obtain ⟨vs, n, ho, rl⟩ := I.srel.objs k _ t hk ht
  have hlen := rl.length
  rw [List.length_append, List.length_singleton] at hlen
  obtain ⟨v, hv, rv⟩ := rl.get (i := l.length) (a := a) (by simp)
  have hvs : vs = vs.take l.length ++ [v] := by
    have e := List.take_append_drop l.length vs
    have : vs.drop l.length = [v] := by
      rw [List.drop_eq_getElem_cons (by omega)]
      rw [List.getElem?_eq_getElem (by omega)] at hv
      rw [Option.some.inj hv, List.drop_of_length_le (by omega)]
    rw [this] at e; exact e.symm
  have rt : RelL ι s.heap (vs.take l.length) l := by
    have := rl.take l.length
    rwa [List.take_append_of_le_length (Nat.le_refl _), List.take_length] at this
  have hy : vs.toArray[vs.toArray.size - 1]? = some v := by rw [List.size_toArray, hlen, Nat.add_sub_cancel, List.getElem?_toArray]; exact hv
  have D := PySem.IsL.update ho fun xs => xs.eraseIdxIfInBounds (vs.toArray.size - 1)
  have er : vs.toArray.eraseIdxIfInBounds (vs.toArray.size - 1) = (vs.take l.length).toArray := by
    have hl : (vs.take l.length).length = l.length := by rw [List.length_take]; omega
    have := kl_erase (vs.take l.length) [] v
    rw [← hvs, List.append_nil, hl] at this
    rw [List.size_toArray, hlen, Nat.add_sub_cancel]; exact this
  refine PySem.call_meets (prog := W.prog) (w := W.w) PySem.F.slot_list_pop ⟨_, ho, rfl⟩ PySem.F.entry_list_pop (PySem.F.args_list_pop_1 _) (PySem.MeetsSeq.list_pop_last t _ n v hy (by rw [List.size_toArray, hlen, sizeLine_eq]; omega)) ⟨ho, ?_⟩
  have tk' : TK s.heap (s.heap.update t (Obj.mapSeq fun xs => xs.eraseIdxIfInBounds (vs.toArray.size - 1))) := fun p us z => by
    have z' := z
    obtain ⟨o, m, e, hc, hd⟩ := z
    exact ⟨o, m, (Heap.get?_update_other _ _ (fun w => by rw [← w, ho] at e; cases e; exact absurd hc (by simp))).trans e, hc, hd⟩
  obtain ⟨I', t'⟩ := I.setAt (n := s.toks) ht (Heap.SameBut.update ..) (o := .lst l) ⟨vs.take l.length, _, (by rw [← er]; exact D), rt.mono (Pre.refl _) tk'⟩
  exact ⟨a, _, ι, q, rv.mono t'.pre (t'.tk0 I.srel), I', t'⟩
end
end Mine

open PySem PySem.W PySem.Calls PyProof.Rows
set_option Elab.async false
set_option linter.all false
namespace Mine
theorem tcw (C : Addr) (vs : List Value) : (Code.builtin "type.__call__" ⟨.ref C :: vs, []⟩).weight = 1 := by
  have h1 : (Code.builtin "type.__call__" ⟨.ref C :: vs, []⟩).frames = 0 := by kernel_rfl
  have h2 : (Code.builtin "type.__call__" ⟨.ref C :: vs, []⟩).isCreation = true := by kernel_rfl
  have h3 : (Code.builtin "type.__call__" ⟨.ref C :: vs, []⟩).isGuard = false := by kernel_rfl
  have h4 : (Code.builtin "type.__call__" ⟨.ref C :: vs, []⟩).isCaller = false := by kernel_rfl
  unfold Code.weight; rw [h1, h2, h3, h4]; rfl
theorem tcu (a : Args) : (Code.builtin "type.__call__" a).cUnits = 1 := by kernel_rfl
theorem tce (a : Args) : (Code.builtin "type.__call__" a).envs = [] := by kernel_rfl

section
variable {W : Wd} {X : Fx} {ρ : List (Str × AV)} {σ : List AO} {Q : AV → List AO → Prop} {E : Str → List AO → Prop} {K : Frag} {pos apos : Pos} {n : Nat} {hd : Bool}

theorem one_arg {ι : List Addr} {h : Heap} {vs : List Value} {a : AV} (r : RelL ι h vs [a]) : ∃ v, vs = [v] ∧ Rel ι h v a := by
  simp only [RelL] at r
  obtain ⟨v, _, rfl, rv, rfl⟩ := r
  exact ⟨v, rfl, rv⟩
theorem len_con {k : Nat} {l : List AV} (hk : σ[k]? = some (.lst l)) (hz : l.length ≤ 1000000) (q : Q (.int l.length) σ) : Con W n hd (.builtin "len") [.loc k] σ Q E := by
  intro A fl ι s vs ok I rl
  obtain ⟨v, rfl, rv⟩ := one_arg rl
  simp only [Rel] at rv
  obtain ⟨t, rfl, ht⟩ := rv
  obtain ⟨vs, hl, rl⟩ := (I.srel.objs k _ t hk ht).isList
  have e := rl.length
  refine call_len_list (prog := W.prog) (w := W.w) hl (by rw [List.size_toArray]; omega) (Got.here q (by simp only [Rel]; exact ⟨_, by rw [List.size_toArray, e]⟩) (I.toks _) rfl)
theorem abs_con {i : Int} (q : Q (.int (if i < 0 then -i else i)) σ) : Con W n hd (.builtin "abs") [.int i] σ Q E := by
  intro A fl ι s vs ok I rl
  obtain ⟨v, rfl, rv⟩ := one_arg rl
  simp only [Rel] at rv
  obtain ⟨t, rfl⟩ := rv
  exact call_abs_int (prog := W.prog) (w := W.w) fun u tk => Got.here q (by simp only [Rel]; exact ⟨u, rfl⟩) (I.toks _) rfl
theorem str_con {i : Int} (hi : i.natAbs.log2 < 1920) (q : Q (.str (Str.ofString (toString i))) σ) : Con W n hd (.type "str") [.int i] σ Q E := by
  intro A fl ι s vs ok I rl
  obtain ⟨v, rfl, rv⟩ := one_arg rl
  simp only [Rel] at rv
  obtain ⟨t, rfl⟩ := rv
  exact PySem.P.str_of_int (prog := W.prog) (w := W.w) hi (Got.here q (by simp only [Rel]; exact ⟨_, rfl⟩) (I.toks _) rfl)
theorem repr_con {x : Str} (hx : (reprText x).length ≤ sizeLine) (q : Q (.str (reprText x)) σ) : Con W n hd (.builtin "repr") [.str x] σ Q E := by
  intro A fl ι s vs ok I rl
  obtain ⟨v, rfl, rv⟩ := one_arg rl
  simp only [Rel] at rv
  obtain ⟨t, rfl⟩ := rv
  exact PySem.P.repr_of_str (prog := W.prog) (w := W.w) (Got.here q (by simp only [Rel]; exact ⟨_, rfl⟩) (I.toks _) rfl) hx
theorem int_con {x : Str} {i : Int} (hn : PySem.intText? x = some i) (hl : x.length ≤ 640) (q : Q (.int i) σ) : Con W n hd (.type "int") [.str x] σ Q E := by
  intro A fl ι s vs ok I rl
  obtain ⟨v, rfl, rv⟩ := one_arg rl
  simp only [Rel] at rv
  obtain ⟨t, rfl⟩ := rv
  exact KIN.call_text (prog := W.prog) (w := W.w) hn hl (Got.here q (by simp only [Rel]; exact ⟨_, rfl⟩) (I.toks _) rfl)

theorem make_con {C fI : Addr} {args : List AV} (XK : K.In W.H₀) (hm : makesIn K C = true) (hi : findIn K (.ref C) "__init__" = some (some (.ref fI))) (hf : isFn K (.ref fI) = true)
    (h : ConC W n hd (.ref fI) (.loc (σ.length + 1) :: args) (σ ++ [.dct []] ++ [.inst C σ.length]) (fun a σ' => a = .none ∧ Q (.loc (σ.length + 1)) σ') E) : ConC W (n + 1) hd (.ref C) args σ Q E := by
  intro A l ι s vs ok I rl
  have X := I.inK XK
  have hlen := I.srel.len
  have I₁ := I.alloc (x := emptyDict) (o := .dct []) ⟨[], 0, Heap.get?_push_size _ rfl, trivial⟩
  have I₂ := I₁.alloc (x := instObj C s.heap.objs.size) (o := .inst C σ.length) ⟨s.heap.objs.size, by
    rw [List.getElem?_append_left (by rw [List.length_append, hlen]; exact Nat.lt_succ_self _)]
    exact loc_new hlen, Heap.get?_push_size _ rfl⟩
  have t₂ : Step noOwn ι (ι ++ [s.heap.objs.size] ++ [(s.heap.push emptyDict).objs.size]) s.heap ((s.heap.push emptyDict).push (instObj C s.heap.objs.size)) := step_alloc.trans step_alloc
  have ok' : AOk n hd (A.under (.builtin "type.__call__" ⟨.ref C :: vs, []⟩)) l := by
    refine ⟨?_, ok.handled, ?_, ?_⟩
    · show pushEnvs (Code.builtin "type.__call__" ⟨.ref C :: vs, []⟩).envs A.frames = _
      rw [tce]; exact ok.frames
    · show A.depth + (Code.builtin "type.__call__" ⟨.ref C :: vs, []⟩).weight + n ≤ 900
      rw [tcw]; have := ok.depth; omega
    · show A.units + (Code.builtin "type.__call__" ⟨.ref C :: vs, []⟩).cUnits + 10 * n ≤ 5000
      rw [tcu]; have := ok.units; omega
  have hx : (ι ++ [s.heap.objs.size] ++ [(s.heap.push emptyDict).objs.size])[σ.length + 1]? = some (s.heap.objs.size + 1) := by
    have := loc_new (ι := ι ++ [s.heap.objs.size]) (a := (s.heap.push emptyDict).objs.size) (n := σ.length + 1) (by rw [List.length_append, hlen]; rfl)
    rw [this, Heap.size_push]
  have rl' : RelL (ι ++ [s.heap.objs.size] ++ [(s.heap.push emptyDict).objs.size]) ((s.heap.push emptyDict).push (instObj C s.heap.objs.size)) (.ref (s.heap.objs.size + 1) :: vs) (.loc (σ.length + 1) :: args) :=
    .cons (by simp only [Rel]; exact ⟨_, rfl, hx⟩) (rl.mono t₂.pre (t₂.tk0 I.srel))
  have key := h (A.under (.builtin "type.__call__" ⟨.ref C :: vs, []⟩)) l _ { s with heap := (s.heap.push emptyDict).push (instObj C s.heap.objs.size) } (.ref (s.heap.objs.size + 1) :: vs) ok' I₂ rl'
  obtain ⟨hh, g, d, t, os⟩ := s
  refine make_core (prog := W.prog) (w := W.w) (makes_of X hm) (looks_findIn X hi) (fun self => bind_fn X self (beq_iff_eq.mp hf)) (.inl rfl) (codeAny_mono key fun r s' z => ?_)
  cases r with
  | error e => exact Thrown.pre (s₁ := ⟨(hh.push emptyDict).push (instObj C hh.objs.size), g, d, t, os⟩) t₂ z
  | ok fl =>
    cases fl with
    | ret v =>
      obtain ⟨a, σ', ι', ⟨rfl, q⟩, r, i, t'⟩ := z
      simp only [Rel] at r
      refine ⟨r, .loc (σ.length + 1), σ', ι', q, ?_, i, t₂.trans t'⟩
      simp only [Rel]
      exact ⟨_, rfl, t'.pre.get hx⟩
    | next => exact z
    | brk => exact z
    | cont => exact z
end
end Mine

open PySem PySem.W PySem.Calls PyProof.Rows
set_option Elab.async false
set_option linter.all false
namespace Mine
section
variable {W : Wd} {X : Fx} {ρ : List (Str × AV)} {σ : List AO} {Q : AV → List AO → Prop} {N : List (Str × AV) → List AO → Prop} {R : AV → List AO → Prop} {E : Str → List AO → Prop} {e : Expr} {pos xp : Pos}

theorem Inv.step {l : List Env} {ι : List Addr} {s : Shared} {h' : Heap} {n : Nat} (I : Inv W l σ ι s) (k : ∀ b o, s.heap.get? b = some o → h'.get? b = some o) : Inv W l σ ι { s with heap := h', toks := n } ∧ Step noOwn ι ι s.heap h' :=
  ⟨(I.grow k).toks n, ⟨Pre.refl _, fun _ => .inl, fun b o e => ⟨o, k b o e⟩, fun b o e _ _ => .of (k b o e)⟩⟩

/-- raise of the class -/
theorem AS_Raise {x : Str} {e₀ : Expr} {np cpos : Pos} {B newId initId : String} {bm : List Value} {mg : Str → Option Value} (hg : W.H₀.Ns mainGlobals mg) (O : OwnCls x W.C bm newId mg W.H₀) (FB : ExcBaseFacts B newId initId bm) (hd : X.hd = false)
    (h : AW W X e₀ ρ σ (fun a σ₁ => ∃ msg, a = .str msg ∧ E msg σ₁) E) (hk : X.scope.kind = .function := by rfl) (hl : X.scope.names.lookup x = some .globalImplicit := by rfl) (hdb : (x == ("__debug__" : Str)) = false := by decide)
    (he : ∀ env, starEach [e₀] env = [(false, eval e₀ env)] := by intro _; rfl) :
    AS W X (.Raise (some (.Call (.Name x np) [e₀] [] cpos)) none pos) ρ σ N R E := by
  intro A env L l ι s at_ en I F EE hE hT
  obtain ⟨tl, NN, nm, q, bs, hdct, sn, sub, ab, col, dd, k0, k1, k2, k3, k5, mN, hC, hN, hni, T⟩ := O.obj
  refine wpAny_Raise_call_subT (prog := W.prog) (w := W.w) (C := W.C) (nm := nm) (q := q) (N := NN) (bs := bs) (bm := tl) (hdct := hdct) (sn := sn) (sub := sub) (ab := ab) (col := col) (dd := dd) (k0 := k0) (k1 := k1) (k2 := k2) (k3 := k3) (k5 := k5)
    FB (mN := mN) (T.hasType FB.hasBase) (at_.ok.handled hd) (by rw [he]; rfl) hni ?_
  refine Name_function_global (by rw [en.scope]; exact hk) (by show env.scope.names.lookup x = _; rw [en.scope]; exact hl) (loadGlobal_global (by rw [en.globals]; exact hg.keeps I.base) O.bound ⟨rfl, ?_⟩) hdb
  rw [he]
  refine evalArgs_plain (spliced_cons (wpAny_mono (h A env L l ι s at_.ok en I F) (fun v s₁ g => spliced_nil ?_) fun _ _ x => hT _ _ (toL x)))
  obtain ⟨a, σ₁, ι₁, ⟨msg, rfl, hm⟩, r, i, t⟩ := g
  simp only [Rel] at r
  obtain ⟨tk, rfl⟩ := r
  refine ⟨rfl, by rw [sizeLine_eq]; simp, i.base _ _ hC, hN.keeps i.base, T.keeps i.base, fun h' e hx => hT _ _ ?_⟩
  obtain ⟨I', t'⟩ := i.step (n := s₁.toks) hx.keeps
  exact ⟨e, msg, σ₁, ι₁, rfl, hm, I', stepL (t.trans t'), .inl ⟨s₁, tk, hx, i, stepL t⟩⟩

theorem AS_While {test : Expr} {body : List Stmt} (J : Nat → List (Str × AV) → List AO → Prop) (n : Nat) (h : J n ρ σ)
    (turn : ∀ n ρ₁ σ₁, J n ρ₁ σ₁ → AT W X test ρ₁ σ₁ (fun b σ₂ => if b then AX W X body ρ₁ σ₂ (fun ρ₃ σ₃ => ∃ m, m < n ∧ J m ρ₃ σ₃) R E else N ρ₁ σ₂) E) : AS W X (.While test body [] pos) ρ σ N R E := by
  intro A env L l ι s at_ en I F EE hE hT
  refine wpAny_While (codeAny_whileLoop (prog := W.prog) (w := W.w) (fun n s' => ∃ ρ₁ σ₁ ι₁, J n ρ₁ σ₁ ∧ Fram ρ₁ L ι₁ s'.heap ∧ Inv W l σ₁ ι₁ s' ∧ Step (· = L) ι ι₁ s.heap s'.heap) ?_ n ⟨ρ, σ, ι, h, F, I, Step.refl⟩)
  rintro n s' ⟨ρ₁, σ₁, ι₁, hJ, F₁, I₁, t₁⟩
  refine wpAny_mono (turn n ρ₁ σ₁ hJ A env L l ι₁ s' at_.ok (en.mono t₁.pre) I₁ F₁) (fun b s₂ g => ?_) fun v s₂ x => hE _ _ (hT _ _ ((toL x).preO t₁))
  obtain ⟨σ₂, ι₂, q, i, t⟩ := g
  have t2 := t₁.trans (stepL t)
  cases b with
  | true =>
    refine wpAny_mono (q A env L l ι₂ s₂ at_ (en.mono t2.pre) i (F₁.step t I₁.srel) EE hE fun v s' x => hT v s' (x.preO t2)) (fun f s₃ g => ?_) fun v s₃ x => hE _ _ x
    cases f with
    | next => obtain ⟨ρ₃, σ₃, ι₃, ⟨m, hm, hJ'⟩, F₃, I₃, t₃⟩ := g; exact ⟨m, hm, ρ₃, σ₃, ι₃, hJ', F₃, I₃, t2.trans t₃⟩
    | ret v => exact Ends.pre t2 (f := .ret v) (N := N) g
    | brk => exact g.elim
    | cont => exact g.elim
  | false => exact wpAny_execs_nil ⟨ρ₁, σ₂, ι₂, q, F₁.step t I₁.srel, i, t2⟩
end
end Mine

open PySem PySem.W PySem.Calls PyProof.Rows
set_option Elab.async false
set_option linter.all false
namespace Mine

structure IterOk (W : Wd) (X : Fx) (items : List AV) (SC : List AO → Prop) (I : Addr) (St : Nat → List Addr → Heap → Prop) : Prop where
  obj : ∀ i ι h, St i ι h → ∃ o vs, h.get? I = some o ∧ o.data = .fields vs ∧ o.cls ≠ .type "tuple"
  mono : ∀ i ι ι' h h', St i ι h → Pre ι ι' → (∀ o, h.get? I = some o → h'.get? I = some o) → St i ι' h'
  item : ∀ (A : Around) (l : List Env) (σ : List AO) (ι : List Addr) (s : Shared) (i : Nat) (a : AV), AOk X.n X.hd A l → SC σ → Inv W l σ ι s → St i ι s.heap → items[i]? = some a →
    ∀ (P : Option Value → Shared → Prop) (EE : Value → Shared → Prop), (∀ v h' tk, Rel ι s.heap v a → St (i + 1) ι h' → Heap.SameBut I s.heap h' → P (some v) { s with heap := h', toks := tk }) → wpAny W.M A (pyNext (.ref I)) P EE s
  done : ∀ (A : Around) (l : List Env) (σ : List AO) (ι : List Addr) (s : Shared), AOk X.n X.hd A l → SC σ → Inv W l σ ι s → St items.length ι s.heap →
    ∀ (P : Option Value → Shared → Prop) (EE : Value → Shared → Prop), (∀ h' tk, Heap.ExtBut I s.heap h' → P none { s with heap := h', toks := tk }) → wpAny W.M A (pyNext (.ref I)) P EE s
  self : ∀ (A : Around) (i : Nat) (ι : List Addr) (s : Shared) (P : Value → Shared → Prop) (EE : Value → Shared → Prop), St i ι s.heap → P (.ref I) s → wpAny W.M A (pyIter (.ref I)) P EE s

def AIter (W : Wd) (X : Fx) (a : AV) (items : List AV) (SC : List AO → Prop) (σ : List AO) : Prop :=
  ∀ (A : Around) (l : List Env) (ι : List Addr) (s : Shared) (v : Value), AOk X.n X.hd A l → Inv W l σ ι s → Rel ι s.heap v a →
    ∀ (P : Value → Shared → Prop) (EE : Value → Shared → Prop), (∀ I St h', IterOk W X items SC I St → St 0 ι h' → s.heap.get? I = none → (∀ b o, s.heap.get? b = some o → h'.get? b = some o) → P (.ref I) { s with heap := h' }) → wpAny W.M A (pyIter v) P EE s

section
variable {W : Wd} {X : Fx} {ρ : List (Str × AV)} {σ : List AO} {Q : AV → List AO → Prop} {N : List (Str × AV) → List AO → Prop} {R : AV → List AO → Prop} {E : Str → List AO → Prop} {e : Expr} {pos xp : Pos}

theorem list_iter {k : Nat} {l : List AV} (hk : σ[k]? = some (.lst l)) (hd : X.hd = false) : AIter W X (.loc k) l (fun σ => σ[k]? = some (.lst l)) σ := by
  intro A fl ι s v ok I rv P EE h
  simp only [Rel] at rv
  obtain ⟨t, rfl, ht⟩ := rv
  obtain ⟨vs, hl, rl⟩ := (I.srel.objs k _ t hk ht).isList
  refine wpAny_pyIter_list (prog := W.prog) (w := W.w) hl ?_
  refine h s.heap.objs.size (fun i ι h => h.IsListIter s.heap.objs.size t i ∧ ι[k]? = some t) _ ?_ ⟨⟨_, Heap.get?_push_size _ rfl, rfl, rfl⟩, ht⟩ (get_size _) (push_keeps _ _)
  refine ⟨fun i ι h st => ?_, fun i ι ι' h h' st p e => ⟨st.1.at e, p.get st.2⟩, fun A l' σ' ι' s' i a ok sc J st hi P EE hP => ?_, fun A l' σ' ι' s' ok sc J st P EE hP => ?_, fun A i ι s' P EE st hP => wpAny_pyIter_listiter (prog := W.prog) (w := W.w) st.1 hP⟩
  · obtain ⟨⟨o, ho, hc, hd⟩, _⟩ := st
    exact ⟨o, _, ho, hd, by rw [hc]; simp⟩
  · obtain ⟨vs', hl', rl'⟩ := (J.srel.objs k _ t sc st.2).isList
    obtain ⟨u, hu, ru⟩ := rl'.get hi
    exact wpAny_pyNext_list_item (prog := W.prog) (w := W.w) st.1 hl' (by simpa using hu) fun h' hit' hs => hP u h' s'.toks ru ⟨hit', st.2⟩ hs
  · obtain ⟨vs', hl', rl'⟩ := (J.srel.objs k _ t sc st.2).isList
    exact wpAny_pyNext_list_end (prog := W.prog) (w := W.w) (ok.handled hd) st.1 hl' (by rw [List.getElem?_toArray, ← rl'.length]; simp) fun h' hx => hP h' s'.toks hx

/-- what a range gives -/
def rangeItems (a c : Int) (n : Nat) : List AV := (List.range n).map fun (i : Nat) => AV.int (a + (i : Int) * c)
theorem rangeItems_length (a c : Int) (n : Nat) : (rangeItems a c n).length = n := by simp [rangeItems]
theorem rangeItems_get {a c : Int} {n i : Nat} {x : AV} (h : (rangeItems a c n)[i]? = some x) : i < n ∧ x = .int (a + (i : Int) * c) := by
  have hlt := (List.getElem?_eq_some_iff.mp h).1
  rw [rangeItems_length] at hlt
  refine ⟨hlt, ?_⟩
  simp [rangeItems, hlt] at h
  exact h.symm
theorem range_iter {k : Nat} {a b c : Int} (hk : σ[k]? = some (.rng a b c)) (hd : X.hd = false) (hs : Builtin.Range.small a b c = true) {n : Nat} (hn : Builtin.Range.rangeSize a b c = n) : AIter W X (.loc k) (rangeItems a c n) (fun _ => True) σ := by
  intro A fl ι s v ok I rv P EE h
  simp only [Rel] at rv
  obtain ⟨t, rfl, ht⟩ := rv
  obtain ⟨t1, u1, v1, hr⟩ := I.srel.objs k _ t hk ht
  refine wpAny_pyIter_range (prog := W.prog) (w := W.w) hr hs ?_
  refine h s.heap.objs.size (fun i ι h => IsRangeIter h s.heap.objs.size (a + (i : Nat) * c) ((n : Int) - (i : Nat)) c) _ ?_ (by rw [hn]; simpa using Heap.get?_push_size _ rfl) (get_size _) (push_keeps _ _)
  refine ⟨fun i ι h st => ⟨_, _, st, rfl, by simp⟩, fun i ι ι' h h' st p e => e _ st, fun A l' σ' ι' s' i x ok sc J st hi P EE hP => ?_, fun A l' σ' ι' s' ok sc J st P EE hP => ?_, fun A i ι s' P EE st hP => wpAny_pyIter_rangeiter (prog := W.prog) (w := W.w) st hP⟩
  · obtain ⟨hlt, rfl⟩ := rangeItems_get hi
    refine wpAny_pyNext_range_item (prog := W.prog) (w := W.w) st (by omega) fun h' hit' hs' => hP _ h' _ (by simp only [Rel]; exact ⟨_, rfl⟩) ?_ hs'
    have e1 : a + ((i + 1 : Nat) : Int) * c = a + (i : Int) * c + c := by push_cast; rw [Int.add_mul, Int.one_mul, Int.add_assoc]
    have e2 : (n : Int) - ((i + 1 : Nat) : Int) = (n : Int) - (i : Int) - 1 := by push_cast; omega
    rw [e1, e2]; exact hit'
  · rw [rangeItems_length] at st
    exact wpAny_pyNext_range_end (prog := W.prog) (w := W.w) (ok.handled hd) st (by omega) fun h' he' => hP h' s'.toks he'

/-- a place outside everything changed -/
theorem Inv.asideE {l : List Env} {ι : List Addr} {s : Shared} {h' : Heap} {n : Nat} {c : Addr} (I : Inv W l σ ι s) (hn : W.H₀.get? c = none) (hc : c ∉ ι) (ht : ∀ vs, ¬ s.heap.TupAt c vs) (hf : c ∉ l.filterMap (·.frame)) (hs : Heap.ExtBut c s.heap h') :
    Inv W l σ ι { s with heap := h', toks := n } ∧ TK s.heap h' := by
  have k : TK s.heap h' := fun t vs z => by
    have z' := z
    obtain ⟨o, m, e, hcl, hd⟩ := z
    exact ⟨o, m, hs t o (fun q => ht vs (q ▸ z')) e, hcl, hd⟩
  refine ⟨⟨fun b o e => hs b o (fun q => by rw [q, hn] at e; cases e) (I.base b o e), ⟨I.srel.len, I.srel.nodup, fun i o b h1 h2 => (I.srel.objs i o b h1 h2).mono (Pre.refl _) k fun z hz => hs b z (fun q => hc (q ▸ List.mem_of_getElem? h2)) hz⟩, I.fresh,
    funFrames_map I.frames fun b hb => ?_, I.apart, fun b hb => ?_, I.gens, I.os⟩, k⟩
  · obtain ⟨_, o, ho, hd⟩ := I.frames.mem hb
    exact ⟨o, hs b o (fun q => hf (q ▸ hb)) ho, hd⟩
  · obtain ⟨m, hm⟩ := I.frn b hb
    exact ⟨m, hm.extBut hs fun q => hf (q ▸ hb)⟩
theorem Inv.aside {l : List Env} {ι : List Addr} {s : Shared} {h' : Heap} {n : Nat} {c : Addr} (I : Inv W l σ ι s) (hn : W.H₀.get? c = none) (hc : c ∉ ι) (ht : ∀ vs, ¬ s.heap.TupAt c vs) (hf : c ∉ l.filterMap (·.frame)) (hs : Heap.SameBut c s.heap h') :
    Inv W l σ ι { s with heap := h', toks := n } ∧ TK s.heap h' := I.asideE hn hc ht hf hs.extBut

theorem Step.drop {own own' : Addr → Prop} {ι ι' : List Addr} {h h' : Heap} (x : Step own ι ι' h h') (k : ∀ b o, h.get? b = some o → own b → own' b) : Step own' ι ι' h h' :=
  ⟨x.pre, x.new, x.live, fun b o e hb ho => x.keep b o e hb fun q => ho (k b o e q)⟩

theorem AS_For {x : Str} {iter : Expr} {body : List Stmt} (h : AW W X iter ρ σ (fun a σ₁ => ∃ (items : List AV) (SC : List AO → Prop) (J : Nat → List (Str × AV) → List AO → Prop), AIter W X a items SC σ₁ ∧ J 0 ρ σ₁ ∧ (∀ i ρ₁ σ₂, J i ρ₁ σ₂ → SC σ₂) ∧
      (∀ i b ρ₁ σ₂, items[i]? = some b → J i ρ₁ σ₂ → AX W X body (upd ρ₁ x b) σ₂ (J (i + 1)) R E) ∧ (∀ ρ₁ σ₂, J items.length ρ₁ σ₂ → N ρ₁ σ₂)) E)
    (hk : X.scope.kind = .function := by rfl) (hl : X.scope.names.lookup x = some .local := by rfl) (hs : ∀ env x, foldedSetIterable iter env x = pure x := by intro _ _; rfl) : AS W X (.For (.Name x xp) iter body [] pos) ρ σ N R E := by
  intro A env L l ι s at_ en I F EE hE hT
  refine wpAny_For (wpAny_mono (h A env L l ι s at_.ok en I F) (fun v s₁ g => ?_) fun _ _ x => hT _ _ (toL x)) (hs env)
  obtain ⟨a, σ₁, ι₁, ⟨items, SC, J, ai, h0, hsc, turn, fin⟩, r, i₁, t₁⟩ := g
  refine ai A l ι₁ s₁ v at_.ok i₁ r _ _ fun It St h₂ io st0 hnew kp => ?_
  have hH0 : W.H₀.get? It = none := by
    cases e : W.H₀.get? It with
    | none => rfl
    | some o => rw [i₁.base _ _ e] at hnew; cases hnew
  have hIL : It ≠ L := fun q => by
    obtain ⟨m, o, es, ep, ho, _⟩ := i₁.frn L at_.mem
    rw [q, ho] at hnew; cases hnew
  have hIf : It ∉ l.filterMap (·.frame) := fun hm => by
    obtain ⟨m, o, es, ep, ho, _⟩ := i₁.frn It hm
    rw [ho] at hnew; cases hnew
  have hIι : It ∉ ι₁ := fun hm => by
    obtain ⟨o, ho⟩ := i₁.srel.some_obj hm
    rw [ho] at hnew; cases hnew
  obtain ⟨i₂, t₂⟩ := i₁.step (n := s₁.toks) kp
  have F₂ : Fram ρ L ι₁ h₂ := F.step (t₁.trans t₂) I.srel
  let Own : Addr → Prop := fun b => b = L ∨ b = It
  refine codeAny_forLoop (prog := W.prog) (w := W.w) (fun n s' => ∃ i ρ₁ σ₂ ι₂, n = items.length + 1 - i ∧ i ≤ items.length ∧ J i ρ₁ σ₂ ∧ St i ι₂ s'.heap ∧ Fram ρ₁ L ι₂ s'.heap ∧ Inv W l σ₂ ι₂ s' ∧ Step Own ι₁ ι₂ s₁.heap s'.heap ∧ It ∉ ι₂) ?_ (items.length + 1)
    ⟨0, ρ, σ₁, ι₁, rfl, Nat.zero_le _, h0, st0, F₂, i₂, t₂.weaken fun _ q => q.elim, hIι⟩
  rintro n s' ⟨i, ρ₁, σ₂, ι₂, rfl, hi, hJ, st, F', I', t', hI'⟩
  have toS : ∀ {ι₃ : List Addr} {h₃ : Heap}, Step Own ι₁ ι₃ s₁.heap h₃ → Step (· = L) ι ι₃ s.heap h₃ := fun z => (stepL t₁).trans (z.drop fun b o e q => q.elim id fun q => by rw [q, hnew] at e; cases e)
  obtain ⟨oI, vsI, hoI, hdI, hcI⟩ := io.obj i ι₂ s'.heap st
  have notTup : ∀ vs, ¬ s'.heap.TupAt It vs := fun vs z => by
    obtain ⟨o, m, eo, hcl, _⟩ := z
    rw [hoI] at eo; cases eo
    exact hcI hcl
  cases hit : items[i]? with
  | some b =>
    have hlt := (List.getElem?_eq_some_iff.mp hit).1
    refine io.item A l σ₂ ι₂ s' i b at_.ok (hsc i ρ₁ σ₂ hJ) I' st hit _ _ fun v h₃ tk rv st' hs => ?_
    obtain ⟨I₃, k₃⟩ := I'.aside (n := tk) hH0 hI' notTup hIf hs
    have F₃ : Fram ρ₁ L ι₂ h₃ := by
      obtain ⟨⟨m, hn, hm⟩, hL⟩ := F'
      exact ⟨⟨m, hn.sameBut hs (Ne.symm hIL), fun y c hy => let ⟨u, e, r⟩ := hm y c hy; ⟨u, e, r.mono (Pre.refl _) k₃⟩⟩, hL⟩
    have t₃ : Step Own ι₁ ι₂ s₁.heap h₃ := t'.trans ⟨Pre.refl _, fun _ => .inl, fun b o e => by
      by_cases q : b = It
      · rw [q]; obtain ⟨o', _, ho', _⟩ := io.obj _ _ _ st'; exact ⟨o', ho'⟩
      · exact ⟨o, (hs.2 b q).trans e⟩, fun b o e hb ho => .of ((hs.2 b fun q => ho (.inr q)).trans e)⟩
    refine wpAny_assign_Name (store_local hk hl (en.mono (t₁.pre.trans t'.pre)) at_.mem I₃ F₃ (rv.mono (Pre.refl _) k₃) fun s₄ F₄ I₄ t₄ => ?_)
    have t4 : Step Own ι₁ ι₂ s₁.heap s₄.heap := t₃.trans (t₄.weaken fun _ q => .inl q)
    obtain ⟨oJ, vsJ, hoJ, hdJ, hcJ⟩ := io.obj _ _ _ st'
    have st₄ : St (i + 1) ι₂ s₄.heap := io.mono _ _ _ _ _ st' (Pre.refl _) fun o e => (t₄.keep It o e hI' hIL).eq fun es n q => by rw [hoJ] at e; cases e; rw [hdJ] at q; cases q
    refine wpAny_mono (turn i b ρ₁ σ₂ hit hJ A env L l ι₂ s₄ at_ (en.mono (t₁.pre.trans t'.pre)) I₄ F₄ EE hE fun v s' x => hT v s' (x.preO (toS t4))) (fun f s₅ g => ?_) fun v s₅ x => hE _ _ x
    cases f with
    | next =>
      obtain ⟨ρ₅, σ₅, ι₅, hJ', F₅, I₅, t₅⟩ := g
      obtain ⟨oK, vsK, hoK, hdK, hcK⟩ := io.obj _ _ _ st₄
      have st₅ : St (i + 1) ι₅ s₅.heap := io.mono _ _ _ _ _ st₄ t₅.pre fun o e => (t₅.keep It o e hI' hIL).eq fun es n q => by rw [hoK] at e; cases e; rw [hdK] at q; cases q
      exact ⟨items.length + 1 - (i + 1), by omega, i + 1, ρ₅, σ₅, ι₅, rfl, hlt, hJ', st₅, F₅, I₅, t4.trans (t₅.weaken fun _ q => .inl q), t₅.old hI' hoK⟩
    | ret v => exact Ends.pre (toS t4) (f := .ret v) (N := N) g
    | brk => exact g.elim
    | cont => exact g.elim
  | none =>
    have hi' : i = items.length := Nat.le_antisymm hi (List.getElem?_eq_none_iff.mp hit)
    subst hi'
    refine io.done A l σ₂ ι₂ s' at_.ok (hsc _ ρ₁ σ₂ hJ) I' st _ _ fun h₃ tk hx => wpAny_execs_nil ?_
    obtain ⟨I₃, k₃⟩ := I'.asideE (n := tk) hH0 hI' notTup hIf hx
    have F₃ : Fram ρ₁ L ι₂ h₃ := by
      obtain ⟨⟨m, hn, hm⟩, hL⟩ := F'
      exact ⟨⟨m, hn.extBut hx (Ne.symm hIL), fun y c hy => let ⟨u, e, r⟩ := hm y c hy; ⟨u, e, r.mono (Pre.refl _) k₃⟩⟩, hL⟩
    refine ⟨ρ₁, σ₂, ι₂, fin ρ₁ σ₂ hJ, F₃, I₃, ?_⟩
    have z := toS t'
    refine ⟨z.pre, z.new, fun b o e => ?_, fun b o e hb ho => ?_⟩
    · obtain ⟨o', e'⟩ := z.live b o e
      have hbI : b ≠ It := fun q => by
        obtain ⟨o₁, e₁⟩ := t₁.live b o e
        rw [q, hnew] at e₁; cases e₁
      exact ⟨o', hx b o' hbI e'⟩
    · refine (z.keep b o e hb ho).trans fun o' e' => .of (hx b o' (fun q => ?_) e')
      obtain ⟨o₁, e₁⟩ := t₁.live b o e
      rw [q, hnew] at e₁; cases e₁
end
end Mine

open PySem PySem.W PySem.Calls PyProof.Rows
set_option Elab.async false
set_option linter.all false
namespace Mine

theorem cellOf_some {env : Env} {n : Str} {c : Addr} (h : env.cells.lookup n = some c) : cellOf env n = pure c := by
  unfold cellOf; rw [h]
theorem closure_list (env : Env) : ∀ (l : List (Str × NameKind)) (acc : List (Str × Addr)), (∀ x ∈ l, x.2 = .free → (env.cells.lookup x.1).isSome = true) → (∀ x c, acc.lookup x = some c → env.cells.lookup x = some c) →
    ∃ cl, (forIn (m := Sem) l acc fun x r => match x with | (name, kind) => if (kind == NameKind.free) = true then do let c ← cellOf env name; pure (ForInStep.yield ((name, c) :: r)) else pure (ForInStep.yield r)) = pure cl ∧ (∀ x c, cl.lookup x = some c → env.cells.lookup x = some c) ∧ (∀ x, (acc.lookup x).isSome = true → (cl.lookup x).isSome = true) ∧ ∀ x ∈ l, x.2 = .free → (cl.lookup x.1).isSome = true
  | [], acc, _, hs => ⟨acc, rfl, hs, fun _ h => h, fun _ h => nomatch h⟩
  | (n, k) :: r, acc, h, hs => by
    rw [List.forIn_cons]
    by_cases hk : k = .free
    · subst hk
      obtain ⟨c, hc⟩ := Option.isSome_iff_exists.mp (h (n, .free) (.head _) rfl)
      have hs' : ∀ x c', ((n, c) :: acc).lookup x = some c' → env.cells.lookup x = some c' := fun x c' e => by
        rw [List.lookup_cons] at e
        by_cases q : x = n
        · subst q; rw [beq_self_eq_true] at e; cases e; exact hc
        · rw [beq_eq_false_iff_ne.mpr q] at e; exact hs x c' e
      obtain ⟨cl, e, a, b, d⟩ := closure_list env r ((n, c) :: acc) (fun x hx => h x (.tail _ hx)) hs'
      refine ⟨cl, ?_, a, fun x hx => b x ?_, fun x hx hf => ?_⟩
      · simp only [beq_self_eq_true, if_true, cellOf_some hc, pure_bind]; exact e
      · rw [List.lookup_cons]
        cases x == n with
        | true => rfl
        | false => exact hx
      · rcases List.mem_cons.mp hx with rfl | hx
        · exact b n (by rw [List.lookup_cons, beq_self_eq_true]; rfl)
        · exact d x hx hf
    · obtain ⟨cl, e, a, b, d⟩ := closure_list env r acc (fun x hx => h x (.tail _ hx)) hs
      refine ⟨cl, ?_, a, b, fun x hx hf => ?_⟩
      · have : (k == NameKind.free) = false := by simpa using hk
        simp only [this, Bool.false_eq_true, if_false, pure_bind]; exact e
      · rcases List.mem_cons.mp hx with rfl | hx
        · exact absurd hf hk
        · exact d x hx hf
theorem closure_of {scope : Scope} {env : Env} (h : ∀ x ∈ scope.names, x.2 = .free → (env.cells.lookup x.1).isSome = true) :
    ∃ cl, closureFor scope env = pure cl ∧ ∀ x ∈ scope.names, x.2 = .free → cl.lookup x.1 = env.cells.lookup x.1 := by
  obtain ⟨cl, e, a, b, d⟩ := closure_list env scope.names [] h (fun _ _ h => by cases h)
  refine ⟨cl, ?_, fun x hx hf => ?_⟩
  · unfold closureFor
    dsimp only
    refine Eq.trans (congrArg (fun t => t >>= fun r => pure r) e) ?_
    rfl
  · obtain ⟨c, hc⟩ := Option.isSome_iff_exists.mp (d x hx hf)
    rw [hc, a _ _ hc]

def relabelS (scope sc : Scope) : Scope :=
  { scope with names := scope.names.map fun (n, k) => if (k == .free && sc.kind == .function && sc.names.lookup n == some .cell) then (n, .cell) else (n, k) }
theorem relabel_eq (scope : Scope) (env : Env) : relabel scope env = relabelS scope env.scope := rfl
abbrev NoE : Str → List AO → Prop := fun _ _ => False
def ACond (W : Wd) (X : Fx) (ifs : List Expr) (ρ : List (Str × AV)) (σ : List AO) (Q : Bool → List AO → Prop) : Prop :=
  match ifs with
  | [] => Q true σ
  | [c] => AT W X c ρ σ Q NoE
  | _ => False

section
variable {W : Wd} {X : Fx} {ρ : List (Str × AV)} {σ : List AO} {Q : AV → List AO → Prop} {N : List (Str × AV) → List AO → Prop} {R : AV → List AO → Prop} {E : Str → List AO → Prop} {e : Expr} {pos xp : Pos}

theorem store_ns {A : Around} {env : Env} {C : Addr} {l : List Env} {ι : List Addr} {s : Shared} {v : Value} {a : AV} {x : Str} {Q : Unit → Shared → Prop} {EE : Value → Shared → Prop} (hk : X.scope.kind = .function)
    (hl : X.scope.names.lookup x = some .local) (en : EnvIs X ι env C) (hn0 : W.H₀.get? C = none) (I : Inv W l σ ι s) (F : Fram ρ C ι s.heap) (rv : Rel ι s.heap v a)
    (h : ∀ s', Fram [(x, a)] C ι s'.heap → Inv W l σ ι s' → Step (· = C) ι ι s.heap s'.heap → Q () s') : wpAny W.M A (storeName env x v) Q EE s := by
  obtain ⟨⟨m, hn, hm⟩, hL⟩ := F
  have tk : ∀ h', Heap.SameBut C s.heap h' → TK s.heap h' := fun h' hs t vs z => by
    obtain ⟨o, n, e, hc, hd⟩ := z
    refine ⟨o, n, (hs.2 t fun q => ?_).trans e, hc, hd⟩
    obtain ⟨o', es, m', ho', hd', _⟩ := hn
    rw [q, ho'] at e; cases e
    rw [hd'] at hd; cases hd
  refine wpAny_storeName_local (by show env.scope.names.lookup x = _; rw [en.scope]; exact hl) (by rw [en.locals]; exact hn) (fun h' hn' hs => ?_) (by rw [en.scope, hk]; rfl)
  rw [en.locals] at hn' hs
  have k := tk h' hs
  have same : ∀ b, b ∈ ι → h'.get? b = s.heap.get? b := fun b hb => hs.2 b fun q => hL (q ▸ hb)
  refine h _ ⟨⟨_, hn', fun y b hy => ?_⟩, hL⟩ (I.same hn0 hs ⟨I.srel.len, I.srel.nodup, fun i o b h1 h2 => (I.srel.objs i o b h1 h2).mono (Pre.refl _) k fun z hz => (same b (List.mem_of_getElem? h2)).trans hz⟩ fun _ => ⟨_, hn'⟩) ⟨Pre.refl _, fun _ => .inl, fun b o e => ?_, fun b o e _ hb => .of ((hs.2 b hb).trans e)⟩
  · rw [List.lookup_cons] at hy
    by_cases q : y = x
    · subst q
      rw [beq_self_eq_true] at hy; cases hy
      exact ⟨v, by rw [if_pos rfl], rv.mono (Pre.refl _) k⟩
    · rw [beq_eq_false_iff_ne.mpr q] at hy; cases hy
  · by_cases q : b = C
    · rw [q]; obtain ⟨o, es, ep, ho, hd, _⟩ := hn'; exact ⟨o, ho⟩
    · exact ⟨o, (hs.2 b q).trans e⟩

structure CompSpec (W : Wd) (XC : Fx) (items : List AV) (SC : List AO → Prop) (J : Nat → List AO → Prop) (k : Nat) (x : Str) (ifs : List Expr) (elt : Expr) : Prop where
  sc : ∀ i σ, J i σ → SC σ
  turn : ∀ i b σ, items[i]? = some b → J i σ → ACond W XC ifs [(x, b)] σ (fun ok σ₃ => if ok then AW W XC elt [(x, b)] σ₃ (fun c σ₄ => ∃ ys, σ₄[k]? = some (.lst ys) ∧ ys.length ≤ 1000000 ∧ J (i + 1) (σ₄.set k (.lst (ys ++ [c])))) NoE else J (i + 1) σ₃)
theorem noThrow {l : List Env} {own : Addr → Prop} {ι : List Addr} {s : Shared} {v : Value} {s' : Shared} (x : Thrown W l own ι s NoE v s') : False := by obtain ⟨_, _, _, _, _, h, _⟩ := x; exact h

theorem comp_core {elt iter : Expr} {x : Str} {ifs : List Expr} {scope : Scope} {cs : List (Str × Nat)} {cl : List (Str × Addr)} {A : Around} {env : Env} {L : Addr} {l : List Env} {ι : List Addr} {s : Shared} {v : Value} {a : AV} {items : List AV} {SC : List AO → Prop} {J : Nat → List AO → Prop} {EE : Value → Shared → Prop} {RR : Value → Addr → Result → Shared → Prop}
    (ok : AOk X.n X.hd A l) (en : EnvIs X ι env L) (I : Inv W l σ ι s) (rv : Rel ι s.heap v a) (ai : AIter W X a items SC σ)
    (hcell : ∀ y ∈ scope.names, y.2 ≠ .cell) (hkind : scope.kind = .function) (hx : scope.names.lookup x = some .local)
    (hcl : ∀ y k, cs.lookup y = some k → ∃ c, ι[k]? = some c ∧ cl.lookup y = some c)
    (sp : CompSpec W ⟨relabelS scope X.scope, cs, X.n, X.hd⟩ items SC J σ.length x ifs elt) (h0 : J 0 (σ ++ [.lst []]))
    (hRR : ∀ σ' ι' s' D C, J items.length σ' → Inv W l σ' ι' s' → Step noOwn ι ι' s.heap s'.heap → ι'[σ.length]? = some D → (∃ m, s'.heap.Ns C m) → C ∉ ι' → s.heap.get? C = none → W.H₀.get? C = none → RR (.ref D) C (.ok .next) s') :
    wpAny W.M A (pyIter v) (fun it s₂ => wpAny W.M A (newList []) (fun acc s₃ => wpAny W.M A (newFunctionEnv scope env.globals cl [] env.qual none .none (some env)) (fun cenv s₄ =>
      codeAny W.M A (.compStart (.ListComp elt [⟨.Name x xp, iter, ifs, 0⟩] scope pos) 0 it acc { cenv with scope := relabel scope env }) (RR acc cenv.locals) s₄) EE s₃) EE s₂) EE s := by
  refine ai A l ι s v ok I rv _ _ fun It St h₂ io st0 hnew kp => ?_
  obtain ⟨i₂, t₂⟩ := I.step (n := s.toks) kp
  refine wpAny_newList ?_ (by rw [sizeLine_eq]; simp)
  have i₃ := i₂.alloc (x := { cls := .type "list", data := .seq ([] : List Value).toArray }) (o := .lst []) ⟨[], 0, Heap.get?_push_size _ rfl, RelL.nil⟩
  have t₃ : Step noOwn ι (ι ++ [h₂.objs.size]) s.heap (h₂.push { cls := .type "list", data := .seq ([] : List Value).toArray }) := t₂.trans step_alloc
  generalize hH : h₂.push { cls := .type "list", data := .seq ([] : List Value).toArray } = H at i₃ t₃
  have hD : (ι ++ [h₂.objs.size])[σ.length]? = some h₂.objs.size := loc_new I.srel.len
  have hHs : h₂.push { cls := .type "list", dict := none, data := .seq ([] : List Value).toArray } = H := hH
  have mem2 : ∀ {b : Addr} {o : Obj}, s.heap.get? b = some o → H.get? b = some o := fun e => hH ▸ push_keeps _ _ _ _ (kp _ _ e)
  refine wpAny_newFunctionEnv (M := W.M) (A := A) (s := { s with heap := H }) (binds := []) hcell (fun y hy => nomatch hy) (fun h₄ hns hsb => ?_) hkind
  have hns : h₄.Ns H.objs.size (fun x => ([] : List (Str × Value)).reverse.lookup x) := hns
  have hsb : Heap.SameBut H.objs.size (H.push { cls := .type "dict", data := .dict #[] }) h₄ := hsb
  have kp4 : ∀ b o, H.get? b = some o → h₄.get? b = some o := fun b o e => hsb.extBut b o (Nat.ne_of_lt (Heap.lt_size e)) (push_keeps _ _ b o e)
  have hCH : H.get? H.objs.size = none := get_size H
  have hCs : s.heap.get? H.objs.size = none := by
    cases e : s.heap.get? H.objs.size with
    | none => rfl
    | some o => rw [mem2 e] at hCH; cases hCH
  have hC0 : W.H₀.get? H.objs.size = none := by
    cases e : W.H₀.get? H.objs.size with
    | none => rfl
    | some o => rw [I.base _ _ e] at hCs; cases hCs
  have hCf : H.objs.size ∉ l.filterMap (·.frame) := fun hm => by
    obtain ⟨m, o, es, ep, ho, _⟩ := I.frn _ hm
    rw [ho] at hCs; cases hCs
  have hI0 : W.H₀.get? It = none := by
    cases e : W.H₀.get? It with
    | none => rfl
    | some o => rw [I.base _ _ e] at hnew; cases hnew
  have hIf : It ∉ l.filterMap (·.frame) := fun hm => by
    obtain ⟨m, o, es, ep, ho, _⟩ := I.frn _ hm
    rw [ho] at hnew; cases hnew
  obtain ⟨oI, vI, hoI, hdI, hcI⟩ := io.obj 0 ι h₂ st0
  have hoIH : H.get? It = some oI := hH ▸ push_keeps _ _ _ _ hoI
  have hIC : It ≠ H.objs.size := fun q => by rw [q] at hoIH; rw [hCH] at hoIH; cases hoIH
  have hI3 : It ∉ ι ++ [h₂.objs.size] := fun hm => by
    rcases List.mem_append.mp hm with q | q
    · obtain ⟨o, ho⟩ := I.srel.some_obj q
      rw [ho] at hnew; cases hnew
    · rw [List.mem_singleton.mp q, get_size] at hoI; cases hoI
  have hC3 : H.objs.size ∉ ι ++ [h₂.objs.size] := fun hm => by
    obtain ⟨o, ho⟩ := i₃.srel.some_obj hm
    have ho : H.get? H.objs.size = some o := ho
    rw [hCH] at ho; cases ho
  obtain ⟨i₄, t₄⟩ := Inv.step (n := s.toks + ([] : List (Str × Value)).length) i₃ kp4
  have t04 : Step noOwn ι (ι ++ [h₂.objs.size]) s.heap h₄ := t₃.trans t₄
  have en' : EnvIs ⟨relabelS scope X.scope, cs, X.n, X.hd⟩ (ι ++ [h₂.objs.size]) { newEnv scope H.objs.size env.globals cl env.qual none .none (some env) builtinsNs with scope := relabel scope env } H.objs.size :=
    ⟨by show relabelS scope env.scope = _; rw [en.scope], rfl, en.globals, en.builtins, fun y k hy => by
      obtain ⟨c, h1, h2⟩ := hcl y k hy
      exact ⟨c, Pre.get ⟨_, rfl⟩ h1, h2⟩⟩
  have hkc : (relabelS scope X.scope).kind = .function := hkind
  have hxc : (relabelS scope X.scope).names.lookup x = some .local := by
    have := lookup_relabel_local (env := env) hx
    rw [← en.scope]; exact this
  let Own : Addr → Prop := fun b => b = H.objs.size ∨ b = It
  have st4 : St 0 (ι ++ [h₂.objs.size]) h₄ := io.mono _ _ _ _ _ st0 ⟨_, rfl⟩ fun o e => kp4 _ _ (hH ▸ push_keeps _ _ _ _ e)
  have loop : ∀ s₄ : Shared, s₄ = { s with heap := h₄, toks := s.toks + ([] : List (Str × Value)).length } →
      codeAny W.M A (.compLoop (.ListComp elt [⟨.Name x xp, iter, ifs, 0⟩] scope pos) 0 (.ref It) (.ref h₂.objs.size) { newEnv scope H.objs.size env.globals cl env.qual none .none (some env) builtinsNs with scope := relabel scope env }) (RR (.ref h₂.objs.size) H.objs.size) s₄ := by
    rintro s₄ rfl
    refine codeAny_compLoop_tests (prog := W.prog) (w := W.w) (fun n s' => ∃ i ρ' σ' ι', n = items.length + 1 - i ∧ i ≤ items.length ∧ J i σ' ∧ St i ι' s'.heap ∧ Fram ρ' H.objs.size ι' s'.heap ∧ Inv W l σ' ι' s' ∧ Step Own (ι ++ [h₂.objs.size]) ι' h₄ s'.heap ∧ It ∉ ι') ?_ (items.length + 1)
      ⟨0, [], _, _, rfl, Nat.zero_le _, h0, st4, ⟨⟨_, hns, fun y b hy => by cases hy⟩, hC3⟩, i₄, Step.refl, hI3⟩
    rintro n s' ⟨i, ρ', σ', ι', rfl, hi, hJ, st, F', I', t', hI'⟩
    have hCs' : H.objs.size ∉ ι' := F'.notin
    have toS : ∀ {ι₅ : List Addr} {h₅ : Heap}, Step Own (ι ++ [h₂.objs.size]) ι₅ h₄ h₅ → Step noOwn ι ι₅ s.heap h₅ := fun z =>
      ((t04.weaken fun _ q => q.elim).trans z).drop fun b o e q => q.elim (fun q => by rw [q, hCs] at e; cases e) fun q => by rw [q, hnew] at e; cases e
    obtain ⟨oJ, vJ, hoJ, hdJ, hcJ⟩ := io.obj i ι' s'.heap st
    have notTup : ∀ vs, ¬ s'.heap.TupAt It vs := fun vs z => by
      obtain ⟨o, m, eo, hcl', _⟩ := z
      rw [hoJ] at eo; cases eo
      exact hcJ hcl'
    cases hit : items[i]? with
    | none =>
      have hi' : i = items.length := Nat.le_antisymm hi (List.getElem?_eq_none_iff.mp hit)
      subst hi'
      refine io.done A l σ' ι' s' ok (sp.sc _ σ' hJ) I' st _ _ fun h₅ tk hxx => ?_
      obtain ⟨I₅, k₅⟩ := I'.asideE (n := tk) hI0 hI' notTup hIf hxx
      have z := toS t'
      have nI : ∀ b o, s.heap.get? b = some o → b ≠ It := fun b o e q => by rw [q, hnew] at e; cases e
      refine hRR σ' ι' _ h₂.objs.size H.objs.size hJ I₅ ⟨z.pre, z.new, fun b o e => ?_, fun b o e hb ho => ?_⟩ (t'.pre.get hD) ?_ hCs' hCs hC0
      · obtain ⟨o', e'⟩ := z.live b o e
        exact ⟨o', hxx b o' (nI b o e) e'⟩
      · exact (z.keep b o e hb ho).trans fun o' e' => .of (hxx b o' (nI b o e) e')
      · obtain ⟨m, hm, _⟩ := F'.ns
        exact ⟨m, hm.extBut hxx (Ne.symm hIC)⟩
    | some b =>
      have hlt := (List.getElem?_eq_some_iff.mp hit).1
      refine io.item A l σ' ι' s' i b ok (sp.sc i σ' hJ) I' st hit _ _ fun u h₅ tk ru st' hs => ?_
      obtain ⟨I₅, k₅⟩ := I'.aside (n := tk) hI0 hI' notTup hIf hs
      have F₅ : Fram ρ' H.objs.size ι' h₅ := by
        obtain ⟨⟨m, hn, hm⟩, hL⟩ := F'
        exact ⟨⟨m, hn.sameBut hs (Ne.symm hIC), fun y c hy => let ⟨u, e, r⟩ := hm y c hy; ⟨u, e, r.mono (Pre.refl _) k₅⟩⟩, hL⟩
      have t₅ : Step Own (ι ++ [h₂.objs.size]) ι' h₄ h₅ := t'.trans ⟨Pre.refl _, fun _ => .inl, fun b o e => by
        by_cases q : b = It
        · rw [q]; obtain ⟨o', _, ho', _⟩ := io.obj _ _ _ st'; exact ⟨o', ho'⟩
        · exact ⟨o, (hs.2 b q).trans e⟩, fun b o e hb ho => .of ((hs.2 b fun q => ho (.inr q)).trans e)⟩
      refine wpAny_assign_Name (store_ns (X := ⟨relabelS scope X.scope, cs, X.n, X.hd⟩) hkc hxc (en'.mono t'.pre) hC0 I₅ F₅ (ru.mono (Pre.refl _) k₅) fun s₆ F₆ I₆ t₆ => ?_)
      have t46 : Step Own (ι ++ [h₂.objs.size]) ι' h₄ s₆.heap := t₅.trans (t₆.weaken fun _ q => .inl q)
      obtain ⟨oK, vK, hoK, hdK, hcK⟩ := io.obj _ _ _ st'
      have st₆ : St (i + 1) ι' s₆.heap := io.mono _ _ _ _ _ st' (Pre.refl _) fun o e => (t₆.keep It o e hI' hIC).eq fun es n q => by rw [hoK] at e; cases e; rw [hdK] at q; cases q
      have stay : ∀ {ι₇ : List Addr} {s₇ : Shared}, Step noOwn ι' ι₇ s₆.heap s₇.heap → St (i + 1) ι₇ s₇.heap ∧ It ∉ ι₇ := fun {ι₇ s₇} t₇ => by
        obtain ⟨oM, vM, hoM, hdM, hcM⟩ := io.obj _ _ _ st₆
        exact ⟨io.mono _ _ _ _ _ st₆ t₇.pre (fun o e => (t₇.keep It o e hI' id).eq (fun es n q => by (rw [hoM] at e; cases e; rw [hdM] at q; cases q))), t₇.old hI' hoM⟩
      have tn := sp.turn i b σ' hit hJ
      have body : ∀ (okk : Bool) (σ₇ : List AO) (ι₇ : List Addr) (s₇ : Shared) (EE : Value → Shared → Prop), (if okk then AW W ⟨relabelS scope X.scope, cs, X.n, X.hd⟩ elt [(x, b)] σ₇ (fun c σ₄ => ∃ ys, σ₄[σ.length]? = some (.lst ys) ∧ ys.length ≤ 1000000 ∧ J (i + 1) (σ₄.set σ.length (.lst (ys ++ [c])))) NoE else J (i + 1) σ₇) → Inv W l σ₇ ι₇ s₇ → Step noOwn ι' ι₇ s₆.heap s₇.heap →
          (if okk = true then wpAny W.M A (eval elt { newEnv scope H.objs.size env.globals cl env.qual none .none (some env) builtinsNs with scope := relabel scope env }) (fun xx s₄ =>
              wpAny W.M A (call (.builtin "list.append") [.ref h₂.objs.size, xx]) (fun _ s₅ => ∃ m, m < items.length + 1 - i ∧ ∃ i ρ' σ' ι', m = items.length + 1 - i ∧ i ≤ items.length ∧ J i σ' ∧ St i ι' s₅.heap ∧ Fram ρ' H.objs.size ι' s₅.heap ∧ Inv W l σ' ι' s₅ ∧ Step Own (ι ++ [h₂.objs.size]) ι' h₄ s₅.heap ∧ It ∉ ι') EE s₄) EE s₇
            else ∃ m, m < items.length + 1 - i ∧ ∃ i ρ' σ' ι', m = items.length + 1 - i ∧ i ≤ items.length ∧ J i σ' ∧ St i ι' s₇.heap ∧ Fram ρ' H.objs.size ι' s₇.heap ∧ Inv W l σ' ι' s₇ ∧ Step Own (ι ++ [h₂.objs.size]) ι' h₄ s₇.heap ∧ It ∉ ι') := by
        intro okk σ₇ ι₇ s₇ EE q I₇ t₇
        have F₇ := F₆.step t₇ I₆.srel
        have e7 := en'.mono (t'.pre.trans t₇.pre)
        have t47 : Step Own (ι ++ [h₂.objs.size]) ι₇ h₄ s₇.heap := t46.trans (t₇.weaken fun _ q => q.elim)
        cases okk with
        | false =>
          obtain ⟨sa, sb⟩ := stay t₇
          exact ⟨items.length + 1 - (i + 1), by omega, i + 1, _, σ₇, ι₇, rfl, hlt, q, sa, F₇, I₇, t47, sb⟩
        | true =>
          refine wpAny_mono (q A _ H.objs.size l ι₇ s₇ ok e7 I₇ F₇) (fun xx s₈ g => ?_) fun v s' x => (noThrow x).elim
          obtain ⟨c, σ₈, ι₈, ⟨ys, hys, hz, hJ'⟩, rc, I₈, t₈⟩ := g
          have hD8 : ι₈[σ.length]? = some h₂.objs.size := (t₇.trans t₈).pre.get (t'.pre.get hD)
          refine wpAny_mono (append_con (W := W) (n := X.n) (hd := X.hd) (E := NoE) (Q := fun _ σ' => J (i + 1) σ') (a := c) hys hz hJ' A l ι₈ s₈ [.ref h₂.objs.size, xx] ok I₈ (.cons (by simp only [Rel]; exact ⟨_, rfl, hD8⟩) (.cons rc RelL.nil))) (fun _ s₉ g => ?_) fun v s' x => (noThrow x).elim
          obtain ⟨_, σ₉, ι₉, hJ9, _, I₉, t₉⟩ := g
          have t79 := t₇.trans (t₈.trans t₉)
          obtain ⟨sa, sb⟩ := stay t79
          exact ⟨items.length + 1 - (i + 1), by omega, i + 1, _, σ₉, ι₉, rfl, hlt, hJ9, sa, F₆.step t79 I₆.srel, I₉, t46.trans (t79.weaken fun _ q => q.elim), sb⟩
      cases ifs with
      | nil => exact wpAny_tests_nil (prog := W.prog) (w := W.w) (body true σ' ι' s₆ _ tn I₆ Step.refl)
      | cons c r =>
        cases r with
        | cons c' r' => exact tn.elim
        | nil =>
          refine wpAny_tests_one (prog := W.prog) (w := W.w) (wpAny_mono (tn A _ H.objs.size l ι' s₆ ok (en'.mono t'.pre) I₆ F₆) (fun okk s₇ g => ?_) fun v s' x => (noThrow x).elim)
          obtain ⟨σ₇, ι₇, q, I₇, t₇⟩ := g
          exact body okk σ₇ ι₇ s₇ _ q I₇ t₇
  exact codeAny_compStart_list (prog := W.prog) (w := W.w) (loop _ rfl) (io.self A 0 _ _ _ _ st4 (loop _ rfl))
end
end Mine

open PySem PySem.W PySem.Calls PyProof.Rows
set_option Elab.async false
set_option linter.all false
namespace Mine
/-- what is asked of a comprehension's scope -/
structure CompScope (X : Fx) (scope : Scope) (cs : List (Str × Nat)) (x : Str) : Prop where
  cell : ∀ y ∈ scope.names, y.2 ≠ .cell
  kind : scope.kind = .function
  var : scope.names.lookup x = some .local
  names : ∀ y ∈ scope.names, y.2 = .local → scope.names.lookup y.1 = some .local
  free : ∀ y ∈ scope.names, y.2 = .free → (X.cells.lookup y.1).isSome = true
  cells : ∀ y k, cs.lookup y = some k → X.cells.lookup y = some k ∧ (y, .free) ∈ scope.names
section
variable {W : Wd} {X : Fx} {ρ : List (Str × AV)} {σ : List AO} {Q : AV → List AO → Prop} {N : List (Str × AV) → List AO → Prop} {R : AV → List AO → Prop} {E : Str → List AO → Prop} {e : Expr} {pos xp spos yp : Pos}

theorem CompScope.clos {scope : Scope} {cs : List (Str × Nat)} {x : Str} (c : CompScope X scope cs x) {ι : List Addr} {env : Env} {L : Addr} (en : EnvIs X ι env L) :
    ∃ cl, closureFor scope env = pure cl ∧ ∀ y k, cs.lookup y = some k → ∀ ι', Pre ι ι' → ∃ a, ι'[k]? = some a ∧ cl.lookup y = some a := by
  obtain ⟨cl, h1, h2⟩ := closure_of (scope := scope) (env := env) fun y hy hf => by
    obtain ⟨k, hk⟩ := Option.isSome_iff_exists.mp (c.free y hy hf)
    obtain ⟨a, _, h⟩ := en.cells y.1 k hk
    rw [h]; rfl
  refine ⟨cl, h1, fun y k hk ι' p => ?_⟩
  obtain ⟨e1, e2⟩ := c.cells y k hk
  obtain ⟨a, h3, h4⟩ := en.cells y k e1
  exact ⟨a, p.get h3, (h2 _ e2 rfl).trans h4⟩

theorem AW_ListComp {elt iter : Expr} {x : Str} {ifs : List Expr} {scope : Scope} {cs : List (Str × Nat)} (c : CompScope X scope cs x)
    (h : AW W X iter ρ σ (fun a σ₁ => ∃ (items : List AV) (SC : List AO → Prop) (J : Nat → List AO → Prop), AIter W X a items SC σ₁ ∧ CompSpec W ⟨relabelS scope X.scope, cs, X.n, X.hd⟩ items SC J σ₁.length x ifs elt ∧ J 0 (σ₁ ++ [.lst []]) ∧ ∀ σ', J items.length σ' → Q (.loc σ₁.length) σ') E)
    (hs : ∀ env x, foldedSetIterable iter env x = pure x := by intro _ _; rfl) : AW W X (.ListComp elt [⟨.Name x xp, iter, ifs, 0⟩] scope pos) ρ σ Q E := by
  intro A env L l ι s ok en I F
  obtain ⟨cl, hcl, hcs⟩ := c.clos en
  rw [eval_ListComp]
  refine wpAny_comprehension_free (use := none) rfl (hs env) hcl c.kind c.names (wpAny_mono (h A env L l ι s ok en I F) (fun v s₁ g => ?_) fun _ _ x => x)
  obtain ⟨a, σ₁, ι₁, ⟨items, SC, J, ai, sp, h0, fin⟩, r, i₁, t₁⟩ := g
  refine comp_core (RR := fun acc C => compPost W.M A (Thrown W l noOwn ι s E) none (Got W l ι s Q) acc C) ok (en.mono t₁.pre) i₁ r ai c.cell c.kind c.var (fun y k hk => hcs y k hk ι₁ t₁.pre) sp h0 ?_
  rintro σ' ι' s' D C hJ I' t' hD ⟨m, hm⟩ hC hCs hC0
  refine ⟨m, hm, fun h' hsb => ?_⟩
  have hf : C ∉ l.filterMap (·.frame) := fun hmm => by
    obtain ⟨m, o, es, ep, ho, _⟩ := i₁.frn C hmm
    rw [ho] at hCs; cases hCs
  have ht : ∀ vs, ¬ s'.heap.TupAt C vs := fun vs z => by
    obtain ⟨o, n, e, _, hd⟩ := z
    obtain ⟨o', es, ep, ho', hd', _⟩ := hm
    rw [e] at ho'; cases ho'; rw [hd] at hd'; cases hd'
  obtain ⟨I₂, k₂⟩ := I'.aside (n := s'.toks) hC0 hC ht hf hsb
  have nC : ∀ b o, s₁.heap.get? b = some o → b ≠ C := fun b o e q => by rw [q, hCs] at e; cases e
  have t₂ : Step noOwn ι₁ ι' s₁.heap h' := ⟨t'.pre, t'.new, fun b o e => by
    obtain ⟨o', e'⟩ := t'.live b o e
    exact ⟨o', (hsb.2 b (nC b o e)).trans e'⟩, fun b o e hb ho => (t'.keep b o e hb ho).trans fun o' e' => .of ((hsb.2 b (nC b o e)).trans e')⟩
  exact ⟨.loc σ₁.length, σ', ι', fin σ' hJ, by simp only [Rel]; exact ⟨D, rfl, hD⟩, I₂, t₁.trans t₂⟩

theorem AS_AssignComp {elt iter : Expr} {x y : Str} {ifs : List Expr} {scope : Scope} {cs : List (Str × Nat)} (c : CompScope X scope cs x)
    (h : AW W X iter ρ σ (fun a σ₁ => ∃ (items : List AV) (SC : List AO → Prop) (J : Nat → List AO → Prop), AIter W X a items SC σ₁ ∧ CompSpec W ⟨relabelS scope X.scope, cs, X.n, X.hd⟩ items SC J σ₁.length x ifs elt ∧ J 0 (σ₁ ++ [.lst []]) ∧ ∀ σ', J items.length σ' → N (upd ρ y (.loc σ₁.length)) σ') E)
    (hsw : ∀ env, env.scope = X.scope → swapsWith (.ListComp elt [⟨.Name x xp, iter, ifs, 0⟩] scope pos) (some (.Name y yp)) spos.line env = pure true) (hk : X.scope.kind = .function := by rfl) (hl : X.scope.names.lookup y = some .local := by rfl)
    (hs : ∀ env x, foldedSetIterable iter env x = pure x := by intro _ _; rfl) : AS W X (.Assign [.Name y yp] (.ListComp elt [⟨.Name x xp, iter, ifs, 0⟩] scope pos) spos) ρ σ N R E := by
  intro A env L l ι s at_ en I F EE hE hT
  obtain ⟨cl, hcl, hcs⟩ := c.clos en
  rw [exec_Assign_Name_used _ _ _ _ (hsw env en.scope)]
  refine wpAny_bind (wpAny_standAt (wpAny_bind ?_))
  show wpAny _ A (do let _ ← comprehension (.ListComp elt [⟨.Name x xp, iter, ifs, 0⟩] scope pos) scope env _ (newList []) false (eval iter env) (some (assign (.Name y yp) env))) _ _ s
  refine wpAny_bind (wpAny_mono (wpAny_comprehension_free (Q := fun _ s' => Ends W l L ι s N R .next s') rfl (hs env) hcl c.kind c.names (wpAny_mono (h A env L l ι s at_.ok en I F) (fun v s₁ g => ?_) fun _ _ x => hT _ _ (toL x)))
    (fun _ s' hq => wpAny_pure (wpAny_pure hq)) fun _ _ e => e)
  obtain ⟨a, σ₁, ι₁, ⟨items, SC, J, ai, sp, h0, fin⟩, r, i₁, t₁⟩ := g
  refine comp_core (RR := fun acc C => compPost W.M A EE (some (assign (.Name y yp) env)) (fun _ s' => Ends W l L ι s N R .next s') acc C) at_.ok (en.mono t₁.pre) i₁ r ai c.cell c.kind c.var (fun y k hk => hcs y k hk ι₁ t₁.pre) sp h0 ?_
  rintro σ' ι' s' D C hJ I' t' hD ⟨m, hm⟩ hC hCs hC0
  have hf : C ∉ l.filterMap (·.frame) := fun hmm => by
    obtain ⟨m, o, es, ep, ho, _⟩ := i₁.frn C hmm
    rw [ho] at hCs; cases hCs
  have hCL : C ≠ L := fun q => hf (q ▸ at_.mem)
  refine wpAny_assign_Name (store_local (a := .loc σ₁.length) hk hl (en.mono (t₁.trans t').pre) at_.mem I' (F.step (t₁.trans t') I.srel) (by simp only [Rel]; exact ⟨D, rfl, hD⟩) fun s₂ F₂ I₂ t₂ => ?_)
  have hm2 : s₂.heap.Ns C m := ns_upto hm fun o e => t₂.keep C o e hC hCL
  refine ⟨m, hm2, fun h' hsb => ?_⟩
  have ht : ∀ vs, ¬ s₂.heap.TupAt C vs := fun vs z => by
    obtain ⟨o, n, e, _, hd⟩ := z
    obtain ⟨o', es, ep, ho', hd', _⟩ := hm2
    rw [e] at ho'; cases ho'; rw [hd] at hd'; cases hd'
  obtain ⟨I₃, k₃⟩ := I₂.aside (n := s₂.toks) hC0 hC ht hf hsb
  have nC : ∀ b o, s₁.heap.get? b = some o → b ≠ C := fun b o e q => by rw [q, hCs] at e; cases e
  have t12 := (stepL (L := L) t').trans t₂
  have t₄ : Step (· = L) ι₁ ι' s₁.heap h' := ⟨t12.pre, t12.new, fun b o e => by
    obtain ⟨o', e'⟩ := t12.live b o e
    exact ⟨o', (hsb.2 b (nC b o e)).trans e'⟩, fun b o e hb ho => (t12.keep b o e hb ho).trans fun o' e' => .of ((hsb.2 b (nC b o e)).trans e')⟩
  refine ⟨_, σ', ι', fin σ' hJ, ?_, I₃, (stepL t₁).trans t₄⟩
  obtain ⟨⟨m', hn, hmm⟩, hL⟩ := F₂
  exact ⟨⟨m', hn.sameBut hsb (Ne.symm hCL), fun z b hz => let ⟨u, e, r⟩ := hmm z b hz; ⟨u, e, r.mono (Pre.refl _) k₃⟩⟩, hL⟩
end
end Mine

open PySem PySem.W PySem.Calls PyProof.Rows
set_option Elab.async false
set_option linter.all false
namespace Mine
theorem noteFrame_first {M : Model} {A : Around} {E : Value → Shared → Prop} {s : Shared} {base : Heap} {env : Env} {outer : List Env} {L e : Addr} {oe : Obj} {vs : Array Value} {a0 : Value} {Q : Unit → Shared → Prop}
    (hfr : A.frames = some (env :: outer)) (hl : s.heap.FunFrames base (env :: outer)) (hf : env.frame = some L)
    (he : s.heap.get? e = some oe) (hkb : base.StaysIn s.heap) (hen : base.get? e = none) (hd : oe.data = .fields vs) (h1 : vs[1]? = some .none) (h0 : vs[0]? = some a0)
    (h : ∀ h', Heap.NotedW base (env :: outer) e oe.cls a0 (rawInt L) s.heap h' → Q () { s with heap := h' }) : wpAny M A (noteFrame (.ref e) env) Q E s := by
  unfold noteFrame
  simp only [hf]
  refine wpAny_bind (wpAny_field he hd h1 ?_)
  rw [if_neg (by decide)]
  exact wpAny_entryW hfr hl hf he hkb hen hd (Array.getElem?_eq_some_iff.mp h1).1 h0 h
theorem handleBy_ownC {prog : Program} {w : World} {A : Around} {E : Value → Shared → Prop} {s : Shared} {env : Env} {e C : Addr} {x : Str} {bmB : List Value} {newId : String} {mg : Str → Option Value} {t : Expr} {n : Str} {b₀ : Stmt} {suite : List Stmt} {pos : Pos} {rest : List ExceptHandler} {Q : Flow → Shared → Prop}
    (hbase : bmB.contains (.type "BaseException") = true)
    (h : wpAny (model prog w) (A.mark (some (.ref e))) (eval t env) (fun c s₁ => c = .ref C ∧ OwnCls x C bmB newId mg s₁.heap ∧ (∃ oe, s₁.heap.get? e = some oe ∧ oe.cls = .ref C) ∧
      wpAny (model prog w) (A.mark (some (.ref e))) (setFlight (.ref e) none) (fun _ s₂ =>
          wpAny (model prog w) (A.mark (some (.ref e))) (storeName env n (.ref e)) (fun _ s₃ =>
            wpAny (model prog w) (A.mark (some (.ref e))) (execs (b₀ :: suite) env)
              (fun f s₄ => wpAny (model prog w) A (do bindName env n .none; unbindBehindTheSuite env n pos) (fun _ s₅ => Q f s₅) E s₄)
              (AsSuiteRaised (model prog w) (A.mark (some (.ref e))) env n pos (notedBy (model prog w) (A.mark (some (.ref e))) env (cameBackBy (model prog w) A env E))) s₃) (notedBy (model prog w) (A.mark (some (.ref e))) env (cameBackBy (model prog w) A env E)) s₂) (notedBy (model prog w) (A.mark (some (.ref e))) env (cameBackBy (model prog w) A env E)) s₁) (notedBy (model prog w) (A.mark (some (.ref e))) env (cameBackBy (model prog w) A env E)) s) :
    wpAny (model prog w) A (handleBy (.ref e) env (.ExceptHandler (some t) (some n) (b₀ :: suite) pos :: rest)) Q E s := by
  refine wpAny_handleBy_cons (codeAny_handlers_test (wpAny_mono h (fun c s₁ h₁ => ?_) fun _ _ y => y)) (by intro q; cases q)
  obtain ⟨rfl, O, ⟨oe, he, hcls⟩, hk⟩ := h₁
  obtain ⟨bm, N, nm, q, bs, hdct, sn, sub, ab, col, dd, k0, k1, k2, k3, k5, mN, hC, hN, hq, T⟩ := O.obj
  obtain ⟨hh, g, d, tk, os⟩ := s₁
  exact wpAny_excMatches_sub_self hC he hcls (T.hasType hbase) (codeAny_handlers_suite_as hk)
theorem SRel.add {ι : List Addr} {σ : List AO} {h : Heap} {a : Addr} {o : AO} (S : SRel ι σ h) (hn : a ∉ ι) (r : ObjRel (ι ++ [a]) h a o) : SRel (ι ++ [a]) (σ ++ [o]) h := by
  refine ⟨by rw [List.length_append, List.length_append, S.len]; rfl, ?_, fun i x b hs hi => ?_⟩
  · refine List.nodup_append.mpr ⟨S.nodup, List.nodup_cons.mpr ⟨List.not_mem_nil, List.nodup_nil⟩, fun x hx y hy => ?_⟩
    rw [List.mem_singleton.mp hy]; exact fun q => hn (q ▸ hx)
  · by_cases hl : i < σ.length
    · rw [List.getElem?_append_left hl] at hs
      rw [List.getElem?_append_left (S.len ▸ hl)] at hi
      exact (S.objs i x b hs hi).mono ⟨[a], rfl⟩ (TK.refl _) fun y hy => hy
    · have hi' : i = σ.length := by
        have := (List.getElem?_eq_some_iff.mp hs).1
        rw [List.length_append] at this
        simp only [List.length_singleton] at this
        omega
      subst hi'
      rw [List.getElem?_append_right (Nat.le_refl _), Nat.sub_self] at hs
      rw [List.getElem?_append_right (by rw [S.len]; exact Nat.le_refl _), S.len, Nat.sub_self] at hi
      cases hs; cases hi; exact r

section
variable {W : Wd} {X : Fx} {ρ : List (Str × AV)} {σ : List AO} {Q : AV → List AO → Prop} {N : List (Str × AV) → List AO → Prop} {R : AV → List AO → Prop} {E E₁ : Str → List AO → Prop} {e : Expr} {pos xp : Pos}

/-- an exception noted in the frame and taken up there: what stands -/
theorem taken_up {A : Around} {env : Env} {outer : List Env} {L : Addr} {ι : List Addr} {s s' : Shared} {v : Value} {P : Value → Shared → Prop} {EE EE' : Value → Shared → Prop}
    (hA : A.frames = some (env :: outer)) (hf : env.frame = some L) (x : Thrown W (env :: outer) (· = L) ι s E v s')
    (k : ∀ e h', v = .ref e → (∃ B t tk msg σ' ι', E msg σ' ∧ W.H₀.StaysIn B ∧ SRel ι' σ' B ∧ Pre ι ι' ∧ (∀ a ∈ ι', a ∈ ι ∨ s.heap.get? a = none) ∧ (∀ b o, s.heap.get? b = some o → b ∉ ι → b ∉ (env :: outer).filterMap (·.frame) → Same B b o) ∧
        (∀ b o, s.heap.get? b = some o → b ∈ (env :: outer).filterMap (·.frame) → ¬ b = L → Same s'.heap b o) ∧ Heap.FlyingW B (env :: outer) e (.ref W.C) (.ref t) h' ∧ B.get? t = none ∧ h'.TupAt t [.str msg tk] ∧ s'.heap.UpToSlots h' ∧ Inv W (env :: outer) σ' ι' s') → P v { s' with heap := h' }) :
    wpAny W.M A (noteFrame v env) (fun _ s₂ => wpAny W.M A (setFlight v none) (fun _ s₃ => P v s₃) EE s₂) EE' s' := by
  obtain ⟨e, msg, σ', ι', rfl, hE, I, t, air⟩ := x
  have kF : ∀ b o, s.heap.get? b = some o → b ∈ (env :: outer).filterMap (·.frame) → ¬ b = L → Same s'.heap b o := fun b o eo hm hb => t.keep b o eo (fun q => I.apart b (t.pre.mem q) hm) hb
  have mL : L ∈ (env :: outer).filterMap (·.frame) := frame_mem (.head _) hf
  rcases air with ⟨s₂, tk, made, I₂, st₂⟩ | ⟨B, p, tk, hs, S, kB, hp, htup, fl⟩
  · have hin : ∀ env' ∈ (env :: outer), ∀ b, env'.frame = some b → b ∈ (env :: outer).filterMap (·.frame) := fun env' he b hb => frame_mem he hb
    have hsB : W.H₀.StaysIn (hideAll s₂.heap ((env :: outer).filterMap (·.frame))) := fun b o q => hideAll_get _ (I₂.base b o q) fun hm => by
      rw [(I₂.frames.mem hm).1] at q; cases q
    have SB : SRel ι' σ' (hideAll s₂.heap ((env :: outer).filterMap (·.frame))) := by
      have tk : TK s₂.heap (hideAll s₂.heap ((env :: outer).filterMap (·.frame))) := fun b vs z => by
        obtain ⟨o, n, eo, hc, hd⟩ := z
        refine ⟨o, n, hideAll_get _ eo fun hm => ?_, hc, hd⟩
        obtain ⟨o', es, m, ho, hd'⟩ := I₂.frd b hm
        rw [ho] at eo; cases eo
        rw [hd'] at hd; cases hd
      exact ⟨I₂.srel.len, I₂.srel.nodup, fun i o b h1 h2 => (I₂.srel.objs i o b h1 h2).mono (Pre.refl _) tk fun z hz => hideAll_get _ hz (I₂.apart b (List.mem_of_getElem? h2))⟩
    have kp : (hideAll s₂.heap ((env :: outer).filterMap (·.frame))).StaysIn s'.heap := fun b o q => made.keeps b o (of_hideAll _ q)
    have fF : s'.heap.FunFrames (hideAll s₂.heap ((env :: outer).filterMap (·.frame))) (env :: outer) := (funFrames_hide I₂.frames hin).of_keeps fun b o ho _ => ⟨o, made.keeps b o ho, rfl⟩
    have fresh : ∀ b, s₂.heap.get? b = none → (hideAll s₂.heap ((env :: outer).filterMap (·.frame))).get? b = none := fun b hb => by
      cases q : (hideAll s₂.heap ((env :: outer).filterMap (·.frame))).get? b with
      | none => rfl
      | some o => rw [of_hideAll _ q] at hb; cases hb
    obtain ⟨p, he, hpn, hpt⟩ := made.there
    refine noteFrame_first (a0 := .ref p) hA fF hf he kp (fresh e made.new) rfl rfl rfl fun h₄ hN => ?_
    obtain ⟨k1, k2, k3, k4⟩ := hN
    refine wpAny_landsW (s := { s' with heap := h₄ }) ⟨k1, fresh e made.new, k2, k3⟩ fun h₅ hfl x2 => ?_
    have up : s'.heap.UpToSlots h₅ := Heap.UpToSlots.trans k4 x2
    refine k e h₅ rfl ⟨_, p, tk, msg, σ', ι', hE, hsB, SB, t.pre, t.new, fun b o eo hb hm => ?_, kF, hfl, fresh p hpn, Heap.TupAt.of_slots ⟨_, _, hpt, rfl, rfl⟩ up, up, I⟩
    exact (st₂.keep b o eo hb fun q => hm (q ▸ mL)).trans fun o' e' => .of (hideAll_get _ e' hm)
  · refine wpAny_looks_onW hA hf fl fun h₄ hh x1 => ?_
    refine wpAny_landsW (s := { s' with heap := h₄ }) hh fun h₅ hfl x2 => ?_
    have up : s'.heap.UpToSlots h₅ := Heap.UpToSlots.trans x1 x2
    exact k e h₅ rfl ⟨B, p, tk, msg, σ', ι', hE, hs, S, t.pre, t.new, fun b o eo hb hm => kB b o eo hb (fun q => hm (q ▸ mL)) hm, kF, hfl, hp, htup.of_slots up, up, I⟩

theorem AS_TryAs {body suite : List Stmt} {b₀ : Stmt} {x nm : Str} {np hp : Pos} {bmB : List Value} {newId : String} {mg : Str → Option Value} (hd : X.hd = false) (hg : W.H₀.Ns mainGlobals mg) (O : OwnCls x W.C bmB newId mg W.H₀) (hbase : bmB.contains (.type "BaseException") = true)
    (hb : AX W X body ρ σ N R E₁) (hs : ∀ msg σ₁, E₁ msg σ₁ → AX W ⟨X.scope, X.cells, X.n, true⟩ (b₀ :: suite) [(nm, .loc σ₁.length)] (σ₁ ++ [.exc W.C msg]) (fun _ _ => False) R NoE)
    (hk : X.scope.kind = .function := by rfl) (hl : X.scope.names.lookup x = some .globalImplicit := by rfl) (hn : X.scope.names.lookup nm = some .local := by rfl) (hdb : (x == ("__debug__" : Str)) = false := by decide) :
    AS W X (.Try body [.ExceptHandler (some (.Name x np)) (some nm) (b₀ :: suite) hp] [] [] pos) ρ σ N R E := by
  intro A env L l ι s at_ en I F EE hE hT
  obtain ⟨outer, rfl⟩ := at_.top
  refine wpAny_Try_except (prog := W.prog) (w := W.w) (wpAny_mono (hb A env L _ ι s at_ en I F _ PassesOwn.looking fun v s' xx => ?_) (fun f s₁ g => ?_) fun _ _ x => x)
  rotate_left
  · cases f with
    | next => exact wpAny_execs_nil g
    | ret v => exact g
    | brk => exact g.elim
    | cont => exact g.elim
  refine taken_up (P := fun v s₃ => wpAny W.M A (handleBy v env [.ExceptHandler (some (.Name x np)) (some nm) (b₀ :: suite) hp]) (Ends W (env :: outer) L ι s N R) EE s₃) at_.ok.frames at_.frame xx fun e h₅ hv q => ?_
  subst hv
  obtain ⟨B, t, tk, msg, σ', ι', hE₁, hB, S, pre, new, kB, kF, fl, hBt, htup, up, I'⟩ := q
  have ld : ∀ (Q : Value → Shared → Prop) (EE : Value → Shared → Prop) (s₁ : Shared), (∀ b o, W.H₀.get? b = some o → s₁.heap.get? b = some o) → Q (.ref W.C) s₁ → wpAny W.M (A.mark (some (.ref e))) (eval (.Name x np) env) Q EE s₁ := fun Q EE s₁ kp q =>
    Name_function_global (by rw [en.scope]; exact hk) (by show env.scope.names.lookup x = _; rw [en.scope]; exact hl) (loadGlobal_global (by rw [en.globals]; exact hg.keeps kp) O.bound q) hdb
  have kp5 : ∀ b o, W.H₀.get? b = some o → h₅.get? b = some o := fun b o q => fl.1 b o (hB b o q)
  refine handleBy_ownC (prog := W.prog) (w := W.w) hbase (ld _ _ { s' with heap := h₅ } kp5 ⟨rfl, O.keeps kp5, fl.there, ?_⟩)
  refine PyProof.Rows.lands_againW (s := { s' with heap := h₅ }) fl fun h₆ fl₆ up₆ => ?_
  have up6 : s'.heap.UpToSlots h₆ := Heap.UpToSlots.trans up up₆
  have htup6 := htup.of_slots up₆
  have mL := at_.mem
  obtain ⟨I₆, t₆⟩ := thrown_inv (W := W) (own := (· = L)) (s := s) (s' := s') hB S pre new kB kF (fun b hb => hb ▸ mL) fl₆ up6 I'.fresh I'.apart I'.frn I'.gens I'.os
  obtain ⟨f1, f2, f3, oe, vs, T, oT, ts, he, ⟨hcls, h0⟩, hdt, -⟩ := fl₆
  have hef : e ∉ (env :: outer).filterMap (·.frame) := fun hm => by
    obtain ⟨m, o, es, n, ho, hdd, _⟩ := I₆.frn e hm
    have ho : h₆.get? e = some o := ho
    rw [he] at ho; cases ho
    rw [hdt] at hdd; cases hdd
  have heι : e ∉ ι' := fun hm => by
    obtain ⟨o, ho⟩ := S.some_obj hm
    rw [f2] at ho; cases ho
  have he0 : W.H₀.get? e = none := by
    cases q : W.H₀.get? e with
    | none => rfl
    | some o => rw [hB e o q] at f2; cases f2
  have I₇ : Inv W (env :: outer) (σ' ++ [.exc W.C msg]) (ι' ++ [e]) { s' with heap := h₆ } := by
    refine ⟨I₆.base, I₆.srel.add heι ⟨oe, vs, t, tk, he, hcls, hdt, h0, htup6⟩, fun a ha => ?_, I₆.frames, fun a ha hm => ?_, I₆.frn, I₆.gens, I₆.os⟩
    · rcases List.mem_append.mp ha with q | q
      · exact I₆.fresh a q
      · rw [List.mem_singleton.mp q]; exact he0
    · rcases List.mem_append.mp ha with q | q
      · exact I₆.apart a q hm
      · rw [List.mem_singleton.mp q] at hm; exact hef hm
  have hes : s.heap.get? e = none := by
    cases q : s.heap.get? e with
    | none => rfl
    | some o =>
      have hei : e ∉ ι := fun hm => heι (pre.mem hm)
      obtain ⟨sl, g, _⟩ := kB e o q hei hef
      rw [f2] at g; cases g
  have t₇ : Step (· = L) ι (ι' ++ [e]) s.heap h₆ := ⟨t₆.pre.trans ⟨[e], rfl⟩, fun a ha => by
    rcases List.mem_append.mp ha with q | q
    · exact t₆.new a q
    · rw [List.mem_singleton.mp q]; exact .inr hes, t₆.live, t₆.keep⟩
  have okm : AOk X.n true (A.mark (some (.ref e))) (env :: outer) := ⟨at_.ok.frames, (fun q => by cases q), at_.ok.depth, at_.ok.units⟩
  have enm : EnvIs ⟨X.scope, X.cells, X.n, true⟩ (ι' ++ [e]) env L := ⟨en.scope, en.locals, en.globals, en.builtins, fun y k q => let ⟨a, g, r⟩ := en.cells y k q; ⟨a, t₇.pre.get g, r⟩⟩
  have hek : (ι' ++ [e])[σ'.length]? = some e := loc_new S.len
  have F₇ : Fram [] L (ι' ++ [e]) h₆ := by
    obtain ⟨m, hm⟩ := I₇.frn L mL
    exact ⟨⟨m, hm, fun y a q => by cases q⟩, fun hm => I₇.apart L hm mL⟩
  refine store_local (X := ⟨X.scope, X.cells, X.n, true⟩) (W := W) (a := .loc σ'.length) hk hn enm mL I₇ F₇ (by simp only [Rel]; exact ⟨e, rfl, hek⟩) fun s₈ F₈ I₈ t₈ => ?_
  refine wpAny_mono (hs msg σ' hE₁ (A.mark (some (.ref e))) env L _ _ s₈ ⟨okm, at_.frame, outer, rfl⟩ enm I₈ F₈ (fun _ _ => False) PassesOwn.never fun v s' x => ?_) (fun f s₉ g => ?_) fun _ _ x => x.elim
  · obtain ⟨_, _, _, _, _, h, _⟩ := x; exact h
  · cases f with
    | next => obtain ⟨_, _, _, h, _⟩ := g; exact h.elim
    | brk => exact g.elim
    | cont => exact g.elim
    | ret v =>
      obtain ⟨a, σ₉, ι₉, q, r, I₉, t₉⟩ := g
      obtain ⟨m, hm⟩ := I₉.frn L mL
      refine wpAny_nameGoes (n := nm) (m := m) (by show env.scope.names.lookup nm = _; rw [en.scope]; exact hn) (by rw [en.locals]; exact hm) (by rw [en.scope, hk]; rfl) fun h' m' hn' hs' => ?_
      rw [en.locals] at hn' hs'
      have hL9 : L ∉ ι₉ := fun hm => I₉.apart L hm mL
      have nt : ∀ vs, ¬ s₉.heap.TupAt L vs := fun vs z => by
        obtain ⟨o, n, eo, _, hd⟩ := z
        obtain ⟨o', es, n', ho', hd'⟩ := I₉.frd L mL
        rw [eo] at ho'; cases ho'; rw [hd] at hd'; cases hd'
      have k : TK s₉.heap h' := fun p vs z => by
        have z' := z
        obtain ⟨o, n, eo, hc, hd⟩ := z
        exact ⟨o, n, (hs'.2 p fun w => nt vs (w ▸ z')).trans eo, hc, hd⟩
      have I₁₀ : Inv W (env :: outer) σ₉ ι₉ { s₉ with heap := h', toks := s₉.toks + 1 } := I₉.same (I₉.frames.mem mL).1 hs' ⟨I₉.srel.len, I₉.srel.nodup, fun i o b h1 h2 => (I₉.srel.objs i o b h1 h2).mono (Pre.refl _) k fun z hz => (hs'.2 b fun w => hL9 (w ▸ List.mem_of_getElem? h2)).trans hz⟩ fun _ => ⟨m', hn'⟩
      have tt : Step (· = L) ι ι₉ s.heap s₉.heap := t₇.trans (t₈.trans t₉)
      refine ⟨a, σ₉, ι₉, q, r.mono (Pre.refl _) k, I₁₀, ⟨tt.pre, tt.new, fun b o eo => ?_, fun b o eo hb ho => (tt.keep b o eo hb ho).trans fun o' e' => .of ((hs'.2 b ho).trans e')⟩⟩
      by_cases w : b = L
      · rw [w]; obtain ⟨o', es, ep, ho', _⟩ := hn'; exact ⟨o', ho'⟩
      · obtain ⟨o', e'⟩ := tt.live b o eo
        exact ⟨o', (hs'.2 b w).trans e'⟩
end
end Mine

open PySem PySem.W PySem.Calls PyProof.Rows
open Builtin Builtin.BaseException
set_option Elab.async false
set_option linter.all false
set_option maxRecDepth 100000
namespace Mine
theorem bexc_plain : plainId "BaseException.__str__" = true := by decide +kernel
theorem bexc_kind : builtinKind "BaseException.__str__" = some .slot := by decide +kernel
theorem bexc_split : splitId "BaseException.__str__" = some ("BaseException", "__str__") := by decide +kernel
theorem bexc_slot : Slot "BaseException" "__str__" "BaseException.__str__" := Slot.of (T := "BaseException") (name := "__str__") (owner := "BaseException") (n := "__str__") (by rw [typeLookup_type, builtinLookup_eq_fast]; kernel_rfl) (by decide +kernel) (by decide +kernel) (by decide +kernel) (.inl (by decide +kernel)) (by rw [isSubtype_type]; kernel_rfl)

section
variable {prog : Program} {w : World} {A : Around} {E : Value → Shared → Prop} {s : Shared} {e t0 C : Addr} {K : Frag} {o : Obj} {vs : Array Value} {m : Str} {tk : Tok}
theorem bexcArgs_own {M : Model} {items : List Value} {Q : Value × List Value → Shared → Prop} (ho : s.heap.get? e = some o) (hd : o.data = .fields vs) (h0 : vs[0]? = some (.ref t0)) (ht : s.heap.TupAt t0 items) (hq : Q (.ref t0, items) s) :
    wpAny M A (bexcArgs (.ref e)) Q E s := by
  obtain ⟨ot, k, hto, _, htd⟩ := ht
  unfold bexcArgs
  refine wpAny_bind (wpAny_field ho hd h0 (wpAny_bind (wpAny_seqItems hto htd ?_)))
  have : items.toArray.toList = items := by simp
  show wpAny M A (pure (Value.ref t0, items.toArray.toList)) Q E s
  rw [this]; exact wpAny_pure hq
theorem bexc_own {Q : Fin → Shared → Prop} (ho : s.heap.get? e = some o) (hd : o.data = .fields vs) (h0 : vs[0]? = some (.ref t0)) (ht : s.heap.TupAt t0 [.str m tk]) (hq : Q (.done (.ret (.str m tk))) s) :
    wpAny (model prog w) A (Builtin.«BaseException.__str__» ⟨[.ref e], []⟩) Q E s := by
  obtain ⟨hp, g, d, t, os⟩ := s
  unfold Builtin.«BaseException.__str__»
  repeat (first | with_reducible refine bexcArgs_own ho hd h0 ht ?_ | wp_step)
  exact hq
theorem strOf_own {Q : Value → Shared → Prop} (hu : A.units < cLine) (X : K.In s.heap) (ho : s.heap.get? e = some o) (hc : o.cls = .ref C) (hd : o.data = .fields vs) (h0 : vs[0]? = some (.ref t0)) (ht : s.heap.TupAt t0 [.str m tk])
    (hs : findIn K (.ref C) "__str__" = some (some (.builtin "BaseException.__str__"))) (hb : mroIn K C (.type "BaseException") = some true) (hq : Q (.str m tk) s) : wpAny (model prog w) A (Builtin.Str.strOf (.ref e)) Q E s := by
  have L0 : Looks (model prog w) s.heap (typeOf (.ref e)) (.ref C) := hc ▸ (Looks.ld (part := none) ho).andThen .now
  have LI : Looks (model prog w) s.heap (isInstance (.ref e) (.type "BaseException")) true := L0.andThen (looks_mroIn X hb)
  have key : wpAny (model prog w) A (call (.builtin "BaseException.__str__") [.ref e]) (fun v s' => v = .str m tk ∧ s' = s) E s :=
    wpAny_call (codeAny_call_builtin bexc_plain PySem.F.entry_bexc_str (@check_slot (model prog w) _ _ _ "BaseException.__str__" "BaseException" "__str__" (.ref e) [] [] _ bexc_kind bexc_split LI (PySem.F.args_bexc_str _) (bexc_own ho hd h0 ht ⟨rfl, rfl⟩)))
  have sp : wpAny (model prog w) A (callSpecial? (.ref e) "__str__") (fun v s' => v = some (.str m tk) ∧ s' = s) E s := by
    refine wpAny_bind (wpAny_bind (L0.here ((looks_findIn X hs).here (wpAny_holding ?_))))
    rw [bexc_slot.bind]
    exact wpAny_bind (wpAny_pure (wpAny_bind (wpAny_mono key (fun u _ z => wpAny_pure ⟨by rw [z.1], z.2⟩) fun _ _ z => z)))
  unfold Builtin.Str.strOf
  repeat (first | with_reducible refine wpAny_cRoomFor hu ?_ | (with_reducible refine wpAny_bind (m := callSpecial? _ _) (wpAny_mono sp (fun v s' z => ?_) fun _ _ z => z)) | wp_step)
  obtain ⟨rfl, rfl⟩ := z
  exact wpAny_bind (wpAny_pure (wpAny_pure hq))
end

section
variable {W : Wd} {X : Fx} {ρ : List (Str × AV)} {σ : List AO} {Q : AV → List AO → Prop} {E : Str → List AO → Prop} {K : Frag} {n : Nat} {hd : Bool}
theorem strexc_con {k : Nat} {C : Addr} {msg : Str} (XK : K.In W.H₀) (hs : findIn K (.ref C) "__str__" = some (some (.builtin "BaseException.__str__"))) (hb : mroIn K C (.type "BaseException") = some true) (hk : σ[k]? = some (.exc C msg)) (q : Q (.str msg) σ) :
    Con W n hd (.type "str") [.loc k] σ Q E := by
  intro A fl ι s vs ok I rl
  obtain ⟨v, rfl, rv⟩ := one_arg rl
  simp only [Rel] at rv
  obtain ⟨t, rfl, ht⟩ := rv
  obtain ⟨o, ws, t0, tk, ho, hc, hdt, h0, htup⟩ := I.srel.objs k _ t hk ht
  have hu := ok.units
  refine callType_new (prog := W.prog) (w := W.w) PySem.F.called_str (by decide) (PySem.F.typeCall_str_1 _) (PySem.F.newCall_str_1 _) (fun obj => PySem.F.args_object_init_2 obj _) PySem.F.entry_str_new
    (meets_str_new (S := fun A' R s' => A'.units + 1 < cLine ∧ K.In s'.heap ∧ s'.heap.get? t = some o ∧ s'.heap.TupAt t0 [.str msg tk] ∧ R (.ok (.ret (.str msg tk))) s')
      fun _ _ A' _ _ hq => strOf_own (A := A'.in1) hq.1 hq.2.1 hq.2.2.1 hc hdt h0 hq.2.2.2.1 hs hb hq.2.2.2.2)
    ⟨?_, I.inK XK, ho, htup, typeIs_str _ _ _, Got.here q (by simp only [Rel]; exact ⟨_, rfl⟩) I rfl⟩
  show A.units + 1 + 1 < cLine
  rw [cLine_is]; omega
end
end Mine

open PySem PySem.W PySem.Calls PyProof.Rows
set_option Elab.async false
set_option linter.all false
set_option maxRecDepth 100000
namespace Mine
section
variable {W : Wd} {X : Fx} {ρ : List (Str × AV)} {σ : List AO} {Q : AV → List AO → Prop} {N : List (Str × AV) → List AO → Prop} {R : AV → List AO → Prop} {E : Str → List AO → Prop} {e : Expr} {pos xp : Pos} {n : Nat} {hd : Bool}

def AJoin (W : Wd) (X : Fx) (parts : List Expr) (acc : Str) (ρ : List (Str × AV)) (σ : List AO) (Q : Str → List AO → Prop) (E : Str → List AO → Prop) : Prop :=
  ∀ (A : Around) (env : Env) (L : Addr) (l : List Env) (ι₀ ι : List Addr) (s₀ s : Shared), AOk X.n X.hd A l → EnvIs X ι env L → Inv W l σ ι s → Fram ρ L ι s.heap → Step noOwn ι₀ ι s₀.heap s.heap →
    Joins W.M A (Thrown W l noOwn ι₀ s₀ E) (evalEach parts env) acc (fun out s' => out.length ≤ sizeLine ∧ ∃ σ' ι', Q out σ' ∧ Inv W l σ' ι' s' ∧ Step noOwn ι₀ ι' s₀.heap s'.heap) s
theorem AJ_nil {acc : Str} {Q : Str → List AO → Prop} (hz : acc.length ≤ sizeLine) (q : Q acc σ) : AJoin W X [] acc ρ σ Q E := by
  intro A env L l ι₀ ι s₀ s ok en I F t
  exact ⟨hz, σ, ι, q, I, t⟩
theorem AJ_cons {acc : Str} {rest : List Expr} {Q : Str → List AO → Prop} (h : AW W X e ρ σ (fun a σ₁ => ∃ y, a = .str y ∧ (acc ++ y).length ≤ sizeLine ∧ AJoin W X rest (acc ++ y) ρ σ₁ Q E) E) : AJoin W X (e :: rest) acc ρ σ Q E := by
  intro A env L l ι₀ ι s₀ s ok en I F t
  refine wpAny_mono (h A env L l ι s ok en I F) (fun v s₁ g => ?_) fun _ _ x => x.pre t
  obtain ⟨a, σ₁, ι₁, ⟨y, rfl, hz, q⟩, r, i, t₁⟩ := g
  simp only [Rel] at r
  obtain ⟨tk, rfl⟩ := r
  exact ⟨y, tk, rfl, hz, q A env L l ι₀ ι₁ s₀ s₁ ok (en.mono t₁.pre) i (F.step t₁ I.srel) (t.trans t₁)⟩
theorem AW_JoinedStr {v₁ v₂ : Expr} {rest : List Expr} (h : AJoin W X (v₁ :: v₂ :: rest) Str.empty ρ σ (fun out σ' => Q (.str out) σ') E) : AW W X (.JoinedStr (v₁ :: v₂ :: rest) pos) ρ σ Q E := by
  intro A env L l ι s ok en I F
  refine wpAny_JoinedStr (prog := W.prog) (w := W.w) ?_
  have := h A env L l ι ι s s ok en I F Step.refl
  have mono : ∀ (ps : List (Sem Value)) (acc : Str) (s₁ : Shared), Joins W.M A (Thrown W l noOwn ι s E) ps acc (fun out s' => out.length ≤ sizeLine ∧ ∃ σ' ι', Q (.str out) σ' ∧ Inv W l σ' ι' s' ∧ Step noOwn ι ι' s.heap s'.heap) s₁ →
      Joins W.M A (Thrown W l noOwn ι s E) ps acc (fun out s' => out.length ≤ sizeLine ∧ Got W l ι s Q (.str out s'.toks) { s' with toks := s'.toks + 1 }) s₁ := by
    intro ps
    induction ps with
    | nil =>
      rintro acc s₁ ⟨hz, σ', ι', q, i, t⟩
      exact ⟨hz, .str acc, σ', ι', q, by simp only [Rel]; exact ⟨_, rfl⟩, i.toks _, t⟩
    | cons p ps ih =>
      intro acc s₁ hj
      exact wpAny_mono hj (fun v s₂ ⟨y, t, e, hz, hr⟩ => ⟨y, t, e, hz, ih _ _ hr⟩) fun _ _ x => x
  exact mono _ _ _ this
theorem AW_Fmt {value : Expr} (h : AW W X value ρ σ (fun a σ₁ => ∃ x, a = .str x ∧ x.length ≤ sizeLine ∧ Q (.str x) σ₁) E) : AW W X (.FormattedValue value (-1) none pos) ρ σ Q E := by
  intro A env L l ι s ok en I F
  refine wpAny_FormattedValue_plain (prog := W.prog) (w := W.w) (wpAny_mono (h A env L l ι s ok en I F) (fun v s₁ g => ?_) fun _ _ x => x)
  obtain ⟨a, σ₁, ι₁, ⟨x, rfl, hz, q⟩, r, i, t⟩ := g
  simp only [Rel] at r
  obtain ⟨tk, rfl⟩ := r
  exact formatField_str (fun t' tk' => ⟨.str x, σ₁, ι₁, q, by simp only [Rel]; exact ⟨_, rfl⟩, i.toks _, t⟩) hz
theorem AW_FmtR {value : Expr} (h : AW W X value ρ σ (fun a σ₁ => ∃ x, a = .str x ∧ (reprText x).length ≤ sizeLine ∧ Q (.str (reprText x)) σ₁) E) : AW W X (.FormattedValue value 114 none pos) ρ σ Q E := by
  intro A env L l ι s ok en I F
  refine wpAny_FormattedValue_repr (prog := W.prog) (w := W.w) (wpAny_mono (h A env L l ι s ok en I F) (fun v s₁ g => ?_) fun _ _ x => x)
  obtain ⟨a, σ₁, ι₁, ⟨x, rfl, hz, q⟩, r, i, t⟩ := g
  simp only [Rel] at r
  obtain ⟨tk, rfl⟩ := r
  exact PySem.pyReprObj_str (formatField_str (fun t' tk' => ⟨.str (reprText x), σ₁, ι₁, q, by simp only [Rel]; exact ⟨_, rfl⟩, (i.toks _).toks _, t⟩) hz) hz

theorem AS_AssignCell {x : Str} {value : Expr} {k : Nat} (hc : X.cells.lookup x = some k) (h : AW W X value ρ σ (fun a σ₁ => (∃ old, σ₁[k]? = some (.cell old)) ∧ N ρ (σ₁.set k (.cell (some a)))) E) (hs : ∀ env, env.scope = X.scope → swapsWith value (some (.Name x xp)) pos.line env = pure false) (hk : X.scope.kind = .function := by rfl)
    (hl : X.scope.names.lookup x = some .cell := by rfl) : AS W X (.Assign [.Name x xp] value pos) ρ σ N R E := by
  intro A env L l ι s at_ en I F EE hE hT
  refine wpAny_Assign_Name (wpAny_mono (h A env L l ι s at_.ok en I F) (fun v s₁ g => ?_) fun _ _ x => hT _ _ (toL x)) (hs env en.scope)
  obtain ⟨a, σ₁, ι₁, ⟨⟨old, ho⟩, q⟩, r, i, t⟩ := g
  obtain ⟨c, hi, hcl⟩ := (en.mono t.pre).cells x k hc
  have oc := i.srel.objs k _ c ho hi
  have hv : ∃ v₀, s₁.heap.IsCell c v₀ := by
    cases old with
    | none => exact ⟨none, oc⟩
    | some z => obtain ⟨u, q, _⟩ := oc; exact ⟨_, q⟩
  obtain ⟨v₀, hv⟩ := hv
  refine wpAny_storeName_cell (by rw [en.scope]; exact hk) (by show env.scope.names.lookup x = _; rw [en.scope]; exact hl) hcl hv fun h' hc' hs' => ?_
  have tk : TK s₁.heap h' := fun p vs z => by
    obtain ⟨o, m, e, hcc, hd⟩ := z
    refine ⟨o, m, (hs'.2 p fun w => ?_).trans e, hcc, hd⟩
    obtain ⟨o', ho', hd'⟩ := hv
    rw [w, ho'] at e; cases e
    rw [hd'] at hd; cases hd
  obtain ⟨I', t'⟩ := i.setAt (n := s₁.toks) hi hs' (o := .cell (some a)) ⟨v, hc', r.mono (Pre.refl _) tk⟩
  exact ⟨ρ, _, ι₁, q, F.step (t.trans t') I.srel, I', stepL (t.trans t')⟩

theorem notin_set_op {a : Addr} {x : Str} {S : Str → Bool} {m : Nat} (hS : W.H₀.SetOf (strKind W.prog W.w) a S m) (q : Q (.bool (!S x)) σ) : AOp2 W X (compareOp .NotIn) (.str x) (.val (.ref a)) σ Q E := by
  intro A fl ι s v u ok I rv ru
  simp only [Rel] at rv ru
  obtain ⟨t, rfl⟩ := rv
  subst ru
  have hS' : s.heap.SetOf (strKind W.prog W.w) a S m := by
    obtain ⟨o, es, ep, tt, ho, r⟩ := hS
    exact ⟨o, es, ep, tt, I.base _ _ ho, r⟩
  exact wpAny_notInSet_of (knd := strKind W.prog W.w) (k := x) (by show Value.isStrOf x (.str x t) = true; simp [Value.isStrOf]) rfl hS' (Got.here q (by simp only [Rel]) (I.toks _) rfl)

noncomputable def holds (h : Heap) (d : PyData) (v : Value) : Bool := by
  classical exact decide (∃ d' as, Reads h v d' as ∧ PyData.eqv d' d = true)
theorem any_reads {h : Heap} {d : PyData} : ∀ {vs : List Value} {ds : List PyData} {as : List Addr}, PyData.canLayAll0 ds = true → ReadsAll h vs ds as → vs.any (holds h d) = ds.any fun y => PyData.eqv y d
  | _, [], _, _, r => by cases r; rfl
  | _, x :: xs, _, hl, r => by
    have hl' : x.canLay0 = true ∧ PyData.canLayAll0 xs = true := by simpa [PyData.canLayAll0] using hl
    cases r with
    | cons ra rb =>
      rw [List.any_cons, List.any_cons, any_reads hl'.2 rb]
      congr 1
      unfold holds
      rw [Bool.eq_iff_iff]
      simp only [decide_eq_true_eq]
      constructor
      · rintro ⟨d', as', r', e⟩
        rw [(ra.unique d' as' r').1]; exact e
      · exact fun e => ⟨x, _, ra, e⟩
theorem mem_reads {h : Heap} : ∀ {vs : List Value} {ds : List PyData} {as : List Addr}, ReadsAll h vs ds as → PyData.canLayAll0 ds = true → ∀ y ∈ vs, ∃ d ∈ ds, ∃ bs, Reads h y d bs ∧ d.canLay0 = true
  | _, _, _, .nil, _, y, hy => nomatch hy
  | _, _, _, .cons (d := d) (ds := ds) ra rb, hl, y, hy => by
    have hl' : d.canLay0 = true ∧ PyData.canLayAll0 ds = true := by simpa [PyData.canLayAll0] using hl
    rcases List.mem_cons.mp hy with rfl | hy
    · exact ⟨_, .head _, _, ra, hl'.1⟩
    · obtain ⟨d', hd, r⟩ := mem_reads rb hl'.2 y hy
      exact ⟨d', .tail _ hd, r⟩
theorem in_core {A : Around} {fl : List Env} {ι : List Addr} {s : Shared} {t : Addr} {vs : List Value} {u : Value} {l : List AV} {ds : List PyData} {a : AV} {d : PyData} (ok : AOk X.n X.hd A fl) (I : Inv W fl σ ι s) (rl : RelL ι s.heap vs l) (ru : Rel ι s.heap u a)
    (il : IsL σ l ds) (ia : Is σ a d) (hl : PyData.canLayAll0 ds = true) (hdl : d.canLay0 = true) (hdep : d.depth ≤ 64) : (∀ y, y ∈ vs.toArray → SeqAt.EqAt A.in1 s y u (holds s.heap d y)) ∧ vs.toArray.any (holds s.heap d) = ds.any fun y => PyData.eqv y d := by
  obtain ⟨as, ra⟩ := il.reads I.srel rl
  obtain ⟨bs, rb⟩ := ia.reads I.srel ru
  refine ⟨fun y hy => ?_, by rw [List.any_toArray]; exact any_reads hl ra⟩
  obtain ⟨d', hd', cs, rc, hc⟩ := mem_reads ra hl y (by simpa using hy)
  have e : holds s.heap d y = PyData.eqv d' d := by
    unfold holds
    rw [Bool.eq_iff_iff]
    simp only [decide_eq_true_eq]
    exact ⟨fun ⟨d'', as', r', e⟩ => by rw [(rc.unique d'' as' r').1]; exact e, fun e => ⟨d', _, rc, e⟩⟩
  rw [e]
  refine SeqAt.eqAt_reads d' d A.in1 s y u _ _ rc rb hc hdl ?_
  have := ok.units
  have h2 : min d'.depth d.depth ≤ 64 := Nat.le_trans (Nat.min_le_right _ _) hdep
  show A.units + 1 + min d'.depth d.depth < cLine
  rw [cLine_is]; omega
theorem in_tup_op {l : List AV} {ds : List PyData} {a : AV} {d : PyData} (il : IsL σ l ds) (ia : Is σ a d) (hl : PyData.canLayAll0 ds = true) (hdl : d.canLay0 = true) (hdep : d.depth ≤ 64) (q : Q (.bool (ds.any fun y => PyData.eqv y d)) σ) : AOp2 W X (compareOp .In) a (.tup l) σ Q E := by
  intro A fl ι s u v ok I ru rv
  simp only [Rel] at rv
  obtain ⟨t, vs, rfl, ⟨o, n, ho, hc, hdt⟩, rl⟩ := rv
  obtain ⟨h1, h2⟩ := in_core ok I rl ru il ia hl hdl hdep (t := t)
  refine SeqAt.in_tupleAt (holds s.heap d) ⟨o, ho, hc, n, hdt⟩ h1 ?_
  rw [h2]
  exact Got.here q (by simp only [Rel]) I rfl
theorem notin_tup_op {l : List AV} {ds : List PyData} {a : AV} {d : PyData} (il : IsL σ l ds) (ia : Is σ a d) (hl : PyData.canLayAll0 ds = true) (hdl : d.canLay0 = true) (hdep : d.depth ≤ 64) (q : Q (.bool (!ds.any fun y => PyData.eqv y d)) σ) : AOp2 W X (compareOp .NotIn) a (.tup l) σ Q E := by
  intro A fl ι s u v ok I ru rv
  simp only [Rel] at rv
  obtain ⟨t, vs, rfl, ⟨o, n, ho, hc, hdt⟩, rl⟩ := rv
  obtain ⟨h1, h2⟩ := in_core ok I rl ru il ia hl hdl hdep (t := t)
  refine SeqAt.notIn_tupleAt (holds s.heap d) ⟨o, ho, hc, n, hdt⟩ h1 ?_
  rw [h2]
  exact Got.here q (by simp only [Rel]) I rfl
theorem AW_neg {i : Int} (h : AW W X e ρ σ (fun a σ₁ => a = .int i ∧ Q (.int (-i)) σ₁) E) : AW W X (.UnaryOp .USub e pos) ρ σ Q E := by
  intro A env L l ι s ok en I F
  refine wpAny_UnaryOp (wpAny_mono (h A env L l ι s ok en I F) (fun v s₁ g => ?_) fun _ _ x => x)
  obtain ⟨a, σ₁, ι₁, ⟨rfl, q⟩, r, i, t⟩ := g
  simp only [Rel] at r
  obtain ⟨tk, rfl⟩ := r
  exact PyProof.Rows.neg_int (prog := W.prog) (w := W.w) ⟨_, σ₁, ι₁, q, by simp only [Rel]; exact ⟨_, rfl⟩, i.toks _, t⟩
theorem eqs_op {x y : Str} (q : Q (.bool (x == y)) σ) : AOp2 W X (compareOp .Eq) (.str x) (.str y) σ Q E := by
  intro A fl ι s v u ok I rv ru
  simp only [Rel] at rv ru
  obtain ⟨t, rfl⟩ := rv
  obtain ⟨t', rfl⟩ := ru
  exact PyProof.Rows.eq_str (prog := W.prog) (w := W.w) (Got.here q (by simp only [Rel]) I rfl)
theorem nes_op {x y : Str} (q : Q (.bool (x != y)) σ) : AOp2 W X (compareOp .NotEq) (.str x) (.str y) σ Q E := by
  intro A fl ι s v u ok I rv ru
  simp only [Rel] at rv ru
  obtain ⟨t, rfl⟩ := rv
  obtain ⟨t', rfl⟩ := ru
  exact PyProof.Rows.ne_str (prog := W.prog) (w := W.w) (Got.here q (by simp only [Rel]) I rfl)
theorem range1_con {b : Int} (q : Q (.loc σ.length) (σ ++ [.rng 0 b 1])) : Con W n hd (.type "range") [.int b] σ Q E := by
  intro A fl ι s vs ok I rl
  obtain ⟨v, rfl, rv⟩ := one_arg rl
  simp only [Rel] at rv
  obtain ⟨t, rfl⟩ := rv
  refine call_range_1 (prog := W.prog) (w := W.w) ?_
  exact ⟨.loc σ.length, _, _, q, by simp only [Rel]; exact ⟨_, rfl, loc_new I.srel.len⟩, (I.alloc (o := .rng 0 b 1) ⟨_, _, _, Heap.get?_push_size _ rfl⟩).toks _, step_alloc⟩
theorem range3_con {a b c : Int} (hc : c ≠ 0) (hp : Builtin.divisionGoesByPylong (b - a) c = false) (q : Q (.loc σ.length) (σ ++ [.rng a b c])) : Con W n hd (.type "range") [.int a, .int b, .int c] σ Q E := by
  intro A fl ι s vs ok I rl
  simp only [RelL, Rel] at rl
  obtain ⟨_, _, rfl, ⟨t, rfl⟩, _, _, rfl, ⟨u, rfl⟩, _, _, rfl, ⟨v, rfl⟩, rfl⟩ := rl
  refine call_range_3 (prog := W.prog) (w := W.w) hc ?_ (.inl hp)
  exact ⟨.loc σ.length, _, _, q, by simp only [Rel]; exact ⟨_, rfl, loc_new I.srel.len⟩, (I.alloc (o := .rng a b c) ⟨_, _, _, Heap.get?_push_size _ rfl⟩).toks _, step_alloc⟩
end
end Mine

open PySem PySem.W PySem.Calls PyProof.Rows
set_option Elab.async false
set_option linter.all false
namespace Mine
section
variable {W : Wd} {X : Fx} {ρ : List (Str × AV)} {σ : List AO} {Q : AV → List AO → Prop}
theorem SRel.cells {h : Heap} : ∀ (cs : List Addr) {ι : List Addr} {σ : List AO}, SRel ι σ h → cs.Nodup → (∀ c ∈ cs, c ∉ ι ∧ h.IsCell c none) → SRel (ι ++ cs) (σ ++ cs.map fun _ => AO.cell none) h
  | [], ι, σ, S, _, _ => by simpa using S
  | c :: cs, ι, σ, S, hn, hc => by
    have e1 : ι ++ (c :: cs) = (ι ++ [c]) ++ cs := by simp
    have e2 : σ ++ ((c :: cs).map fun _ => AO.cell none) = (σ ++ [AO.cell none]) ++ cs.map fun _ => AO.cell none := by simp
    rw [e1, e2]
    have hn' := List.nodup_cons.mp hn
    refine SRel.cells cs (S.add (hc c (.head _)).1 (hc c (.head _)).2) hn'.2 fun d hd => ⟨fun hm => ?_, (hc d (.tail _ hd)).2⟩
    rcases List.mem_append.mp hm with q | q
    · exact (hc d (.tail _ hd)).1 q
    · rw [List.mem_singleton.mp q] at hd; exact hn'.1 hd
/-- the cells' names, numbered from n on -/
def numbered : List Str → Nat → List (Str × Nat)
  | [], _ => []
  | x :: r, n => (x, n) :: numbered r (n + 1)
theorem numbered_lookup : ∀ (l : List (Str × Addr)) (n : Nat) (x : Str) (k : Nat), (numbered (l.map (·.1)) n).lookup x = some k → ∃ i a, k = n + i ∧ (l.map (·.2))[i]? = some a ∧ l.lookup x = some a
  | [], n, x, k, h => by cases h
  | (y, a) :: l, n, x, k, h => by
    rw [List.map_cons, numbered, List.lookup_cons] at h
    rw [List.lookup_cons]
    cases e : x == y with
    | true =>
      rw [e] at h
      cases h
      exact ⟨0, a, rfl, rfl, rfl⟩
    | false =>
      rw [e] at h
      obtain ⟨i, b, e1, e2, e3⟩ := numbered_lookup l (n + 1) x k h
      exact ⟨i + 1, b, by omega, e2, e3⟩
theorem lookup_mem {α : Type} : ∀ {l : List (Str × α)} {x : Str} {a : α}, (l.map (·.1)).Nodup → (x, a) ∈ l → l.lookup x = some a
  | (y, b) :: l, x, a, hn, hm => by
    rw [List.map_cons, List.nodup_cons] at hn
    rw [List.lookup_cons]
    rcases List.mem_cons.mp hm with q | q
    · cases q; simp
    · have hne : x ≠ y := fun e => hn.1 (List.mem_map.mpr ⟨(x, a), q, e⟩)
      have : (x == y) = false := by simpa using hne
      rw [this]
      exact lookup_mem hn.2 q
/-- a call of a def with one argument and cells, out of which nothing flies -/
theorem Con_law {n : Nat} {f : Addr} {o : Obj} {fd : FuncData} {body : List Stmt} {p : Str} {a : AV} {cn : List Str}
    (ho : W.H₀.get? f = some o) (hdt : o.data = .func fd) (hlim : W.H₀.NoLimit) (hcd : W.H₀.CodeRec fd.code fd.qualname) (hbody : fd.body = .stmts body)
    (hgl : fd.globals = mainGlobals) (hbi : fd.builtins = builtinsNs) (hclo : fd.closure = [])
    (hbind : ∀ v : Value, bindArgs fd ⟨[v], []⟩ = pure [(p, v)]) (hp : fd.scope.names.lookup p = some .local)
    (hcn : ∀ m, (cellsFrom m fd.scope.names []).map (·.1) = cn) (hcd' : cn.Nodup)
    (hco : fd.scope.isCoroutine = false) (hgen : fd.scope.isGenerator = false) (hk : fd.scope.kind = .function)
    (h : AX W ⟨fd.scope, numbered cn σ.length, n, false⟩ body [(p, a)] (σ ++ cn.map fun _ => AO.cell none) (fun _ σ' => Q .none σ') Q NoE) : ConC W (n + 1) false (.ref f) [a] σ Q NoE := by
  intro A l ι s vs ok I rl
  obtain ⟨v, rfl, rv⟩ := one_arg rl
  refine codeAny_call_cells (prog := W.prog) (w := W.w) (by have := ok.depth; show A.depth < 1000; omega) (I.base _ _ ho) hdt (hlim.keeps I.base) (hcd.keeps I.base) hbody (hbind v) hclo (fun x hx => .inl (by rw [List.mem_singleton.mp hx]; exact hp)) (fun s₁ ic => ?_) hco hgen hk
  obtain ⟨h₁, tk, rfl⟩ := ic.toInCall.same
  have kp := ic.toInCall.keep
  have hL : s.heap.get? s.heap.objs.size = none := get_size _
  have ok' := ok.deeper (callEnvC fd s.heap.objs.size f)
  have hn : h₁.Ns s.heap.objs.size (fun y => if y = p then some v else none) := by
    have q := ic.toInCall.ns
    have e : bindL (callEnvC fd s.heap.objs.size f).kindOf [(p, v)] (fun _ => none) = fun y => if y = p then some v else none := by
      have hkd : (callEnvC fd s.heap.objs.size f).kindOf p = some .local := hp
      unfold bindL bindL
      rw [if_pos hkd]
    rw [e] at q
    exact q
  have cells : ∀ c ∈ ((callEnvC fd s.heap.objs.size f).cells.map (·.2)), h₁.IsCell c none ∧ s.heap.objs.size < c := fun c hc => by
    obtain ⟨⟨y, c'⟩, hm, rfl⟩ := List.mem_map.mp hc
    refine ⟨?_, ic.above _ _ hm⟩
    have hlk : (callEnvC fd s.heap.objs.size f).cells.lookup y = some c' := lookup_mem (by show ((cellsFrom _ fd.scope.names []).map (·.1)).Nodup; rw [hcn]; exact hcd') hm
    have hcl := ic.cell y c' hlk
    have hkd : (callEnvC fd s.heap.objs.size f).kindOf p = some .local := hp
    have e : bindC (callEnvC fd s.heap.objs.size f).kindOf [(p, v)] (fun _ => none) = fun _ => none := by
      unfold bindC bindC
      rw [if_pos hkd]
    rw [e] at hcl
    exact hcl
  generalize hcs : (callEnvC fd s.heap.objs.size f).cells = cs at cells
  have hcs1 : cs.map (·.1) = cn := by rw [← hcs]; exact hcn _
  have hlen : (cs.map (·.2)).map (fun _ => AO.cell none) = cn.map fun _ => AO.cell none := by rw [← hcs1, List.map_map, List.map_map]; rfl
  have hnod : (cs.map (·.2)).Nodup := by
    rw [← hcs]
    exact List.pairwise_map.mpr ic.apart
  have hnew : ∀ c ∈ cs.map (·.2), s.heap.get? c = none := fun c hc => by
    have := (cells c hc).2
    cases e : s.heap.get? c with
    | none => rfl
    | some o => exact absurd (Heap.lt_size e) (Nat.not_lt.mpr (Nat.le_of_lt this))
  have hnotin : ∀ c ∈ cs.map (·.2), c ∉ ι := fun c hc hm => by
    obtain ⟨o', e'⟩ := I.srel.some_obj hm
    rw [hnew c hc] at e'; cases e'
  have S₁ : SRel (ι ++ cs.map (·.2)) (σ ++ cn.map fun _ => AO.cell none) h₁ := by
    rw [← hlen]
    exact SRel.cells _ (I.srel.grow kp) hnod fun c hc => ⟨hnotin c hc, (cells c hc).1⟩
  have nL : ∀ c, s.heap.get? c = none → W.H₀.get? c = none := fun c hc => by
    cases e : W.H₀.get? c with
    | none => rfl
    | some o => rw [I.base _ _ e] at hc; cases hc
  have mL : ∀ a, a ∈ (callEnvC fd s.heap.objs.size f :: l).filterMap (·.frame) → a = s.heap.objs.size ∨ a ∈ l.filterMap (·.frame) := fun a ha => List.mem_cons.mp ha
  have live : ∀ a ∈ l.filterMap (·.frame), ∃ o, s.heap.get? a = some o := fun a ha => let ⟨_, o, _, _, ho, _⟩ := I.frn a ha; ⟨o, ho⟩
  have g := I.grow kp
  have I₁ : Inv W (callEnvC fd s.heap.objs.size f :: l) (σ ++ cn.map fun _ => AO.cell none) (ι ++ cs.map (·.2)) { s with heap := h₁, toks := tk } := by
    refine ⟨g.base, S₁, fun a ha => ?_, ⟨by show fd.scope.kind ≠ .module; rw [hk]; decide, ?_, g.frames⟩, fun a ha hm => ?_, fun a ha => ?_, g.gens, g.os⟩
    · exact (List.mem_append.mp ha).elim (g.fresh a) fun q => nL a (hnew a q)
    · obtain ⟨o', es, ep, ho', hd', _⟩ := hn
      exact ⟨s.heap.objs.size, o', rfl, nL _ hL, ho', fun vs q => by rw [hd'] at q; cases q⟩
    · rcases List.mem_append.mp ha with hi | hi
      · rcases mL a hm with q | q
        · obtain ⟨o', e'⟩ := I.srel.some_obj hi
          rw [q, hL] at e'; cases e'
        · exact g.apart a hi q
      · rcases mL a hm with q | q
        · have := (cells a hi).2; omega
        · obtain ⟨o', e'⟩ := live a q
          rw [hnew a hi] at e'; cases e'
    · rcases mL a ha with q | q
      · exact ⟨_, by rw [q]; exact hn⟩
      · exact g.frn a q
  have st : Step noOwn ι (ι ++ cs.map (·.2)) s.heap h₁ := ⟨⟨_, rfl⟩, fun a ha => (List.mem_append.mp ha).imp id (hnew a), fun b o e => ⟨o, kp b o e⟩, fun b o e _ _ => .of (kp b o e)⟩
  have F : Fram [(p, a)] s.heap.objs.size (ι ++ cs.map (·.2)) h₁ := by
    refine ⟨⟨_, hn, fun x b hx => ?_⟩, fun hm => ?_⟩
    · rw [List.lookup_cons] at hx
      cases e : x == p with
      | true =>
        rw [e] at hx
        cases hx
        exact ⟨v, by rw [if_pos (eq_of_beq e)], rv.mono st.pre (st.tk0 I.srel)⟩
      | false => rw [e] at hx; cases hx
    · rcases List.mem_append.mp hm with q | q
      · obtain ⟨o', e'⟩ := I.srel.some_obj q
        rw [hL] at e'; cases e'
      · have := (cells _ q).2; omega
  have hcells : ∀ x k, (numbered cn σ.length).lookup x = some k → ∃ c, (ι ++ cs.map (·.2))[k]? = some c ∧ (callEnvC fd s.heap.objs.size f).cells.lookup x = some c := fun x k hx => by
    rw [← hcs1] at hx
    obtain ⟨i, c, rfl, e2, e3⟩ := numbered_lookup _ _ _ _ hx
    refine ⟨c, ?_, by rw [hcs]; exact e3⟩
    rw [← I.srel.len, List.getElem?_append_right (Nat.le_add_right _ _), Nat.add_sub_cancel_left]; exact e2
  refine wpAny_mono (h _ _ s.heap.objs.size (callEnvC fd s.heap.objs.size f :: l) _ _ ⟨ok', rfl, ⟨l, rfl⟩⟩ ⟨rfl, rfl, hgl, hbi, hcells⟩ I₁ F _ PassesOwn.leaving fun v s₂ x => ?_) (fun fl s₂ g => ?_) fun v s₂ x => x
  · obtain ⟨_, _, _, _, _, q, _⟩ := x; exact q.elim
  · have fin : ∀ (v : Value) a σ' ι', Q a σ' → Rel ι' s₂.heap v a → Inv W (callEnvC fd s.heap.objs.size f :: l) σ' ι' s₂ → Step (· = s.heap.objs.size) (ι ++ cs.map (·.2)) ι' h₁ s₂.heap → Got W l ι s Q v s₂ := fun v a σ' ι' q r i t => by
      refine ⟨a, σ', ι', q, r, ⟨i.base, i.srel, i.fresh, i.frames.2.2, fun a ha hm => i.apart a ha (List.mem_cons_of_mem _ hm), fun a ha => i.frn a (List.mem_cons_of_mem _ ha), i.gens, i.os⟩, ?_⟩
      have tt : Step (· = s.heap.objs.size) ι ι' s.heap s₂.heap := (st.weaken fun _ q => q.elim).trans t
      exact ⟨tt.pre, tt.new, tt.live, fun b o e hb _ => tt.keep b o e hb fun q => by rw [q, hL] at e; cases e⟩
    cases fl with
    | next =>
      obtain ⟨ρ', σ', ι', q, F', i, t⟩ := g
      exact fin .none .none σ' ι' q (by simp only [Rel]) i t
    | ret v =>
      obtain ⟨a, σ', ι', q, r, i, t⟩ := g
      exact fin v a σ' ι' q r i t
    | brk => exact g.elim
    | cont => exact g.elim
end
end Mine

open PySem PySem.W PySem.Calls PyProof.Rows
set_option Elab.async false
set_option linter.all false
namespace Mine
section
variable {W : Wd} {X : Fx} {ρ : List (Str × AV)} {σ : List AO} {Q : AV → List AO → Prop} {E : Str → List AO → Prop} {pos : Pos}
/-- a part of a list that stood before the call -/
theorem AW_sliceV {value : Expr} {lo hi st : Option Expr} {p : Pos}
    (h : AW W X value ρ σ (fun a σ₁ => APart W X lo ρ σ₁ (fun x σ₂ => APart W X hi ρ σ₂ (fun y σ₃ => APart W X st ρ σ₃ (fun z σ₄ =>
      ∃ t vs l m, a = .val (.ref t) ∧ W.H₀.IsList t (List.toArray vs) ∧ RelL [] W.H₀ vs l ∧ l.length ≤ 1000000 ∧ slicedOf l x y z = some m ∧ Q (.loc σ₄.length) (σ₄ ++ [.lst m])) E) E) E) E) :
    AW W X (.Subscript value (.Slice lo hi st p) pos) ρ σ Q E := by
  intro A env L fl ι s ok en I F
  refine Subscript_ ?_
  refine wpAny_mono (h A env L fl ι s ok en I F) (fun v s₁ g => ?_) fun _ _ x => x
  obtain ⟨a, σ₁, ι₁, q₁, r₁, i₁, t₁⟩ := g
  have en₁ := en.mono t₁.pre
  have F₁ := F.step t₁ I.srel
  refine wpAny_Slice ?_
  refine wpAny_mono (q₁.go ok en₁ i₁ F₁) (fun vl s₂ g => ?_) fun _ _ x => x.pre t₁
  obtain ⟨x, σ₂, ι₂, q₂, px, i₂, t₂⟩ := g
  have t12 := t₁.trans t₂
  have en₂ := en.mono t12.pre
  have F₂ := F.step t12 I.srel
  refine wpAny_mono (q₂.go ok en₂ i₂ F₂) (fun vu s₃ g => ?_) fun _ _ x => x.pre t12
  obtain ⟨y, σ₃, ι₃, q₃, py, i₃, t₃⟩ := g
  have t13 := t12.trans t₃
  refine wpAny_mono (q₃.go ok (en.mono t13.pre) i₃ (F.step t13 I.srel)) (fun vk s₄ g => ?_) fun _ _ x => x.pre t13
  obtain ⟨z, σ₄, ι₄, ⟨t, vs, l, m, rfl, hl0, rl0, hl, hm, q⟩, pz, i₄, t₄⟩ := g
  have t14 := t13.trans t₄
  simp only [Rel] at r₁
  subst r₁
  have hlist : s₄.heap.IsList t vs.toArray := by
    obtain ⟨o, e, hc, n, hd⟩ := hl0
    exact ⟨o, i₄.base _ _ e, hc, n, hd⟩
  have rl : RelL ι₄ s₄.heap vs l := rl0.mono ⟨ι₄, rfl⟩ (TK.of_keeps i₄.base)
  obtain ⟨us, hus, ru⟩ := sliced_rel hm rl
  obtain ⟨ops, hs⟩ := sub_slice value lo hi st p (.ref t) (.ref s₄.heap.objs.size)
  have h0 : z ≠ some 0 := by rintro rfl; unfold slicedOf at hm; split at hm <;> simp_all
  refine tail_any (s := { s₄ with heap := s₄.heap.push { cls := .type "slice", data := .fields #[vl, vu, vk] } }) (Heap.IsList.typeIs (s := { s₄ with heap := s₄.heap.push { cls := .type "slice", data := .fields #[vl, vu, vk] } }) (hlist.push _)) slot_list_getitem.lookup
    (wpAny_getItem_list_slice (hlist.push _) (Heap.IsSliceOf.new ..) px py pz h0 ?_ (by rw [List.size_toArray, rl.length, sizeLine_eq]; omega)) hs
  rw [hus]
  have i5 : Inv W fl σ₄ ι₄ { s₄ with heap := s₄.heap.push { cls := .type "slice", data := .fields #[vl, vu, vk] } } := i₄.grow (push_keeps _ _)
  have t5 : Step noOwn ι ι₄ s.heap (s₄.heap.push { cls := .type "slice", data := .fields #[vl, vu, vk] }) := t14.trans (step_grow (push_keeps _ _) (push_size _ _))
  refine ⟨.loc σ₄.length, σ₄ ++ [.lst m], ι₄ ++ [(s₄.heap.push { cls := .type "slice", data := .fields #[vl, vu, vk] }).objs.size], q, ?_, i5.alloc ?_, t5.trans step_alloc⟩
  · simp only [Rel]
    exact ⟨_, rfl, loc_new i₄.srel.len⟩
  · exact ⟨us, 0, Heap.get?_push_size _ rfl, (ru.mono (Pre.refl _) (TK.of_keeps (push_keeps _ _))).push⟩
/-- the script: a list of numbers that stood before the call -/
def Script (W : Wd) (t : Addr) (xs : List Int) : Prop := ∃ vs : List Value, W.H₀.IsList t vs.toArray ∧ RelL [] W.H₀ vs (xs.map AV.int)
theorem relL_ints {ι : List Addr} {h : Heap} : ∀ {vs : List Value} {xs : List Int}, IntsAre vs xs → RelL ι h vs (xs.map AV.int) := by
  intro vs xs hi
  induction xs generalizing vs with
  | nil =>
    cases hi
    exact RelL.nil
  | cons x xs ih =>
    cases hi
    rename_i hi
    exact RelL.cons (by simp only [Rel]; exact ⟨_, rfl⟩) (ih hi)
end
end Mine

open PySem PySem.W PySem.Calls PyProof.Rows
set_option Elab.async false
set_option linter.all false
namespace Mine
section
variable {W : Wd} {X : Fx} {ρ : List (Str × AV)} {σ : List AO} {Q : AV → List AO → Prop} {N : List (Str × AV) → List AO → Prop} {R : AV → List AO → Prop} {E : Str → List AO → Prop} {pos xp : Pos}
theorem sub_int_op {i j : Int} (q : Q (.int (i - j)) σ) : AOp2 W X (binaryOp .Sub) (.int i) (.int j) σ Q E := by
  intro A fl ι s v u ok I rv ru
  simp only [Rel] at rv ru
  obtain ⟨t, rfl⟩ := rv
  obtain ⟨t', rfl⟩ := ru
  exact PySem.P.sub_int (Got.here q (by simp only [Rel]; exact ⟨_, rfl⟩) (I.toks _) rfl)
theorem mul01_op {x : Str} {b : Nat} (hb : b < 2) (q : Q (.str (if b = 1 then x else Str.empty)) σ) : AOp2 W X (binaryOp .Mult) (.str x) (.int (b : Int)) σ Q E := by
  intro A fl ι s v u ok I rv ru
  simp only [Rel] at rv ru
  obtain ⟨t, rfl⟩ := rv
  obtain ⟨t', rfl⟩ := ru
  rcases (show b = 0 ∨ b = 1 by omega) with rfl | rfl
  · refine PySem.P.mul_str (by decide) (fun h => absurd (by decide) h) (fun h => absurd (by decide) h) ?_
    rw [if_pos (by decide)]
    exact ⟨by decide, Got.here q (by simp only [Rel]; exact ⟨_, rfl⟩) (I.toks _) rfl⟩
  · refine PySem.P.mul_str (by decide) (fun _ h => by simp at h) (fun _ h => by simp at h) ?_
    rw [if_neg (by decide), if_pos (by simp)]
    exact Got.here q (by simp only [Rel]; exact ⟨t, rfl⟩) I rfl
theorem fills_list_iadd : fillsInplaceSlot (.type "list") "add" true = pure false := by
  unfold fillsInplaceSlot
  show (typeLookup (.type "list") (dunderI "add") >>= fun fi => pure (fi.isSome && !isSeqSlot fi)) = pure false
  rw [PySem.F.slot_list_iadd.lookup]
  rfl
theorem seq_list_iadd : seqSlot? (.type "list") (dunderI "add") = pure (some (.builtin "list.__iadd__")) := PySem.seqSlot_of PySem.F.slot_list_iadd.lookup (by decide +kernel)
theorem iadd_list_op {j k : Nat} {l m : List AV} (hj : σ[j]? = some (.lst l)) (hk : σ[k]? = some (.lst m)) (hz : l.length + m.length ≤ 1000000) (q : Q (.loc j) (σ.set j (.lst (l ++ m)))) : AOp2 W X (inplaceOp .Add) (.loc j) (.loc k) σ Q E := by
  intro A fl ι s v u ok I rv ru
  simp only [Rel] at rv ru
  obtain ⟨t, rfl, ht⟩ := rv
  obtain ⟨t', rfl, ht'⟩ := ru
  obtain ⟨vs, n, ho, rl⟩ := I.srel.objs j _ t hj ht
  obtain ⟨us, n2, ho2, rm⟩ := I.srel.objs k _ t' hk ht'
  have D := PySem.IsL.update ho fun xs => xs ++ us.toArray
  have h1 := rl.length
  have h2 := rm.length
  have e : vs.toArray ++ us.toArray = (vs ++ us).toArray := by simp
  have tk' : TK s.heap (s.heap.update t (Obj.mapSeq fun xs => xs ++ us.toArray)) := fun p zs z => by
    have z' := z
    obtain ⟨o, m, e, hc, hd⟩ := z
    exact ⟨o, m, (Heap.get?_update_other _ _ (fun w => by rw [← w, ho] at e; cases e; exact absurd hc (by simp))).trans e, hc, hd⟩
  obtain ⟨I', t₁⟩ := I.setAt (n := s.toks) ht (Heap.SameBut.update ..) (o := .lst (l ++ m)) ⟨vs ++ us, _, (by rw [← e]; exact D), (rl.append rm).mono (Pre.refl _) tk'⟩
  have T1 : s.TypeIs (.ref t) "list" := ⟨_, ho, rfl⟩
  have T2 : s.TypeIs (.ref t') "list" := ⟨_, ho2, rfl⟩
  unfold inplaceOp
  refine wpAny_holding ?_
  refine wpAny_bind (wpAny_typeOf (T := "list") T1 (wpAny_bind (wpAny_of_eq fills_list_iadd ?_)))
  show wpAny _ _ (if false = true then _ else _) _ _ _
  rw [if_neg Bool.false_ne_true]
  refine wpAny_bind (wpAny_binaryOp1_none (T := "list") (nm := "add") T1 T2 noFill_list_add ?_)
  refine wpAny_bind (wpAny_of_eq seq_list_iadd ?_)
  refine wpAny_bind (wpAny_rule ?_)
  refine PySem.call_meets (prog := W.prog) (w := W.w) PySem.F.slot_list_iadd T1 PySem.F.entry_list_iadd (PySem.F.args_list_iadd_2 _ _) (PySem.AutoSeq1.list___iadd___list_list_0 t _ n t' _ n2 ?_ ?_ ?_) ⟨ho, ho2, ?_⟩
  · simp only [Bool.and_eq_true, not_and, Bool.not_eq_true', Bool.not_eq_true]
    intro _
    have hlt : vs.toArray.size + us.toArray.size ≤ 2000000 := by rw [List.size_toArray, List.size_toArray]; omega
    generalize vs.toArray.size + us.toArray.size = z at hlt ⊢
    unfold Builtin.List.listTooLong
    simp only [decide_eq_false_iff_not, sizeLine_eq]
    omega
  · rw [List.size_toArray, sizeLine_eq]; omega
  · rw [List.size_toArray, List.size_toArray, sizeLine_eq]; omega
  · exact ⟨.loc j, _, ι, q, by simp only [Rel]; exact ⟨_, rfl, ht⟩, I', t₁⟩
theorem AS_AugCell {x : Str} {value : Expr} {op : Operator} {k : Nat} {a : AV} (hc : X.cells.lookup x = some k) (hv : σ[k]? = some (.cell (some a))) (h : AW W X value ρ σ (fun b σ₁ => AOp2 W X (inplaceOp op) a b σ₁ (fun c σ₂ => (∃ old, σ₂[k]? = some (.cell old)) ∧ N ρ (σ₂.set k (.cell (some c)))) E) E)
    (hk : X.scope.kind = .function := by rfl) (hl : X.scope.names.lookup x = some .cell := by rfl) : AS W X (.AugAssign (.Name x xp) op value pos) ρ σ N R E := by
  intro A env L l ι s at_ en I F EE hE hT
  obtain ⟨c₀, hi₀, hcl₀⟩ := en.cells x k hc
  obtain ⟨v, hcv, rv⟩ := I.srel.objs k _ c₀ hv hi₀
  refine wpAny_AugAssign_Name (wpAny_loadName_cell (by rw [en.scope]; exact hk) (by show env.scope.names.lookup x = _; rw [en.scope]; exact hl) hcl₀ hcv ?_)
  refine wpAny_mono (h A env L l ι s at_.ok en I F) (fun u s₁ g => ?_) fun _ _ x => hT _ _ (toL x)
  obtain ⟨b, σ₁, ι₁, q, r, i, t⟩ := g
  refine wpAny_mono (q A l ι₁ s₁ v u at_.ok i (rv.mono t.pre (t.tk0 I.srel)) r) (fun w s₂ g => ?_) fun _ _ x => hT _ _ (toL (x.pre t))
  obtain ⟨cc, σ₂, ι₂, ⟨⟨old, ho⟩, q₂⟩, r₂, i₂, t₂⟩ := g
  have tt := t.trans t₂
  obtain ⟨c, hi, hcl⟩ := (en.mono tt.pre).cells x k hc
  have oc := i₂.srel.objs k _ c ho hi
  have hv : ∃ v₀, s₂.heap.IsCell c v₀ := by
    cases old with
    | none => exact ⟨none, oc⟩
    | some z => obtain ⟨u, q, _⟩ := oc; exact ⟨_, q⟩
  obtain ⟨v₀, hv⟩ := hv
  refine wpAny_storeName_cell (by rw [en.scope]; exact hk) (by show env.scope.names.lookup x = _; rw [en.scope]; exact hl) hcl hv fun h' hc' hs' => ?_
  have tk : TK s₂.heap h' := fun p vs z => by
    obtain ⟨o, m, e, hcc, hd⟩ := z
    refine ⟨o, m, (hs'.2 p fun w => ?_).trans e, hcc, hd⟩
    obtain ⟨o', ho', hd'⟩ := hv
    rw [w, ho'] at e; cases e
    rw [hd'] at hd; cases hd
  obtain ⟨I', t'⟩ := i₂.setAt (n := s₂.toks) hi hs' (o := .cell (some cc)) ⟨w, hc', r₂.mono (Pre.refl _) tk⟩
  exact ⟨ρ, _, ι₂, q₂, F.step (tt.trans t') I.srel, I', stepL (tt.trans t')⟩
theorem Inv.newAt {fl : List Env} {ι : List Addr} {s : Shared} {h' : Heap} {o : AO} (I : Inv W fl σ ι s) (k : ∀ b x, s.heap.get? b = some x → h'.get? b = some x) (r : ObjRel (ι ++ [s.heap.objs.size]) h' s.heap.objs.size o) :
    Inv W fl (σ ++ [o]) (ι ++ [s.heap.objs.size]) { s with heap := h' } ∧ Step noOwn ι (ι ++ [s.heap.objs.size]) s.heap h' := by
  have g := I.grow k
  have hL : s.heap.get? s.heap.objs.size = none := get_size _
  refine ⟨⟨g.base, I.srel.push k (Nat.le_refl _) r, fun a ha => ?_, g.frames, fun a ha hm => ?_, g.frn, g.gens, g.os⟩, ⟨⟨_, rfl⟩, fun a ha => ?_, fun b o e => ⟨o, k b o e⟩, fun b o e _ _ => .of (k b o e)⟩⟩
  · rcases List.mem_append.mp ha with q | q
    · exact I.fresh a q
    · rw [List.mem_singleton.mp q]
      cases e : W.H₀.get? s.heap.objs.size with
      | none => rfl
      | some o => rw [I.base _ _ e] at hL; cases hL
  · rcases List.mem_append.mp ha with q | q
    · exact g.apart a q hm
    · rw [List.mem_singleton.mp q] at hm
      obtain ⟨_, o, _, _, ho, _⟩ := I.frn _ hm
      rw [hL] at ho; cases ho
  · rcases List.mem_append.mp ha with q | q
    · exact .inl q
    · rw [List.mem_singleton.mp q]; exact .inr hL
theorem listtup_con {n : Nat} {hd : Bool} {l : List AV} (hz : l.length ≤ 1000000) (q : Q (.loc σ.length) (σ ++ [.lst l])) : Con W n hd (.type "list") [.tup l] σ Q E := by
  intro A fl ι s vs ok I rl
  obtain ⟨v, rfl, rv⟩ := one_arg rl
  simp only [Rel] at rv
  obtain ⟨t, us, rfl, ⟨o, m, ho, hc, hd⟩, ru⟩ := rv
  have h1 := ru.length
  refine call_list_seq (prog := W.prog) (w := W.w) t (.inr rfl) ho hc hd (fun h' c' kp hg => ?_) (by rw [List.size_toArray, sizeLine_eq]; omega)
  obtain ⟨I', t'⟩ := I.newAt (o := .lst l) kp ⟨us, c', hg, ru.mono ⟨_, rfl⟩ (TK.of_keeps kp)⟩
  exact ⟨.loc σ.length, _, _, q, by simp only [Rel]; exact ⟨_, rfl, loc_new I.srel.len⟩, I', t'⟩
end
end Mine

open PySem PySem.W PySem.Calls PyProof.Rows
set_option Elab.async false
set_option linter.all false
set_option maxRecDepth 100000
namespace Mine
noncomputable def fst (i : Nat) : DefRec := recOfDef ((pw.main.body[i]?).getD default)
def bodyOfCls (s : Stmt) : List Stmt := match s with | .ClassDef _ _ _ b _ _ _ _ _ _ _ => b | _ => []
noncomputable def mth (j : Nat) : DefRec := recOfDef ((bodyOfCls ((pw.main.body[12]?).getD default))[j]?.getD default)
noncomputable def obj (P : Params) (a : Nat) : Obj := ((sf_list P)[a]?).getD default
def fdOf (o : Obj) : FuncData := match o.data with | .func fd => fd | _ => default
noncomputable def fd (P : Params) (a : Nat) : FuncData := fdOf (obj P a)

def isVar (x : Str) : Bool := (["n", "i", "v", "w", "f", "t", "c", "e"] : List Str).contains x
structure Base (W : Wd) (mg mb : Str → Option Value) : Prop where
  X : (K W.w.params).In W.H₀
  hg : W.H₀.Ns mainGlobals mg
  hb : W.H₀.Ns builtinsNs mb
  bi : ∀ x : Str, x ≠ "__name__" → mb x = bootBuiltins x
  lim : W.H₀.NoLimit
  cls : W.C = 41
  vars : W.H₀.SetOf (strKind W.prog W.w) 45 isVar 8
variable {W : Wd} {mg mb : Str → Option Value} {σ : List AO} {Q : AV → List AO → Prop} {E : Str → List AO → Prop} {n : Nat} {hd : Bool}

theorem Base.fn (B : Base W mg mb) (a : Nat) {d : DefRec} {names : List Str} {args : List AV} {k : Nat} {dv : Value}
    (h1 : (K W.w.params).lookup a = some (obj W.w.params a)) (h2 : (obj W.w.params a).data = .func (fd W.w.params a)) (h3 : codeIn (K W.w.params) (fd W.w.params a).code (fd W.w.params a).qualname = true)
    (h4 : (fd W.w.params a).body = .stmts d.body) (h5 : (fd W.w.params a).scope = d.scope) (h6 : (fd W.w.params a).globals = mainGlobals) (h7 : (fd W.w.params a).builtins = builtinsNs)
    (hpar : (fd W.w.params a).params = d.params) (hdv : (fd W.w.params a).defaults = dv)
    (hbind : ∀ (s : Shared) (vs : List Value) (p : Arguments), p = d.params → ∀ f : FuncData, f.params = p → f.defaults = dv → (∀ b o, W.H₀.get? b = some o → s.heap.get? b = some o) → vs.length = args.length → BindsTo s f ⟨vs, []⟩ (names.zip (vs ++ List.replicate k .none)))
    (h8 : (d.scope.names.all fun x => x.2 != .cell) = true) (h9 : (names.all fun x => d.scope.names.lookup x == some .local) = true) (h10 : names.Nodup) (h11 : d.scope.isCoroutine = false) (h12 : d.scope.isGenerator = false) (h13 : d.scope.kind = .function)
    (h : AX W ⟨d.scope, [], n, hd⟩ d.body (names.zip (args ++ List.replicate k .none)) σ (fun _ σ' => Q .none σ') Q E) : ConC W (n + 1) hd (.ref a) args σ Q E := by
  refine Con_def (o := obj W.w.params a) (B.X _ _ h1) h2 B.lim (codeRec_of B.X h3) h4 h6 h7 (fun s vs kp hl => hbind s vs _ rfl _ hpar hdv kp hl) (by rw [h5]; exact fun x hx => by have := List.all_eq_true.mp h8 x hx; simpa using this) (by rw [h5]; exact fun x hx => by have := List.all_eq_true.mp h9 x hx; simpa using this) h10 (by rw [h5]; exact h11) (by rw [h5]; exact h12) (by rw [h5]; exact h13) (by rw [h5]; exact h)

theorem one_vs {vs : List Value} (h : vs.length = 1) : ∃ v, vs = [v] := by
  cases vs with
  | nil => cases h
  | cons v r => cases r with
    | nil => exact ⟨v, rfl⟩
    | cons _ _ => simp at h
set_option maxHeartbeats 2000000
theorem two_vs {vs : List Value} (h : vs.length = 2) : ∃ v u, vs = [v, u] := by
  cases vs with
  | nil => cases h
  | cons v r => obtain ⟨u, rfl⟩ := one_vs (vs := r) (by simpa using h); exact ⟨v, u, rfl⟩
theorem three_vs {vs : List Value} (h : vs.length = 3) : ∃ v u x, vs = [v, u, x] := by
  cases vs with
  | nil => cases h
  | cons v r => obtain ⟨u, x, rfl⟩ := two_vs (vs := r) (by simpa using h); exact ⟨v, u, x, rfl⟩
theorem Base.glob (B : Base W mg mb) {x : Str} {v : Value} (e : nsIn (K W.w.params) mainGlobals x = some (some v)) : mg x = some v := mg_of B.X B.hg e
theorem value_node_con (B : Base W mg mb) {a : AV} (q : Q (.tup [.str "value", .tup [a]]) σ) : ConC W (n + 1) hd (.ref 80) [a] σ Q E := by
  refine B.fn 80 (d := fst 8) (names := ["value"]) (k := 0) (by kernel_rfl) (by kernel_rfl) (by kernel_rfl) (by kernel_rfl) (by kernel_rfl) (by kernel_rfl) (by kernel_rfl) (dv := .none) (by kernel_rfl) (by kernel_rfl) (fun s vs p hp f h1 h2 kp hl => ?_) (by kernel_rfl) (by kernel_rfl) (by decide) (by kernel_rfl) (by kernel_rfl) (by kernel_rfl) ?_
  · obtain ⟨v, rfl⟩ := one_vs hl
    obtain ⟨nm, qn, params, bd, sc, gl, clo, dflt⟩ := f
    dsimp only at h1 h2
    subst h1 h2 hp
    exact BindsTo.of_eq (by kernel_rfl)
  · refine AX_cons (AS_Return (AW_Tuple (AWs_cons (AW_str (AWs_cons (AW_Tuple (AWs_cons (AW_local (by rfl) (AWs_nil ⟨?_, AWs_nil ⟨?_, q⟩⟩)))))))))
    all_goals simp

/- the program's words -/
abbrev Wrd := Str × Str
def wv (w : Wrd) : AV := .tup [.str w.1, .str w.2]
def stack (ws : List Wrd) : List AV := (ws.map wv).reverse
/-- an optional text as a value -/
def ov : Option Str → AV
  | none => .none
  | some x => .str x
def hit (ws : List Wrd) (k : Str) (x : Option Str) : Bool :=
  match ws with
  | [] => false
  | w :: _ => w.1 == k && (match x with | none => true | some y => w.2 == y)
theorem stack_cons (w : Wrd) (ws : List Wrd) : stack (w :: ws) = stack ws ++ [wv w] := by simp [stack]
theorem stack_length (ws : List Wrd) : (stack ws).length = ws.length := by simp [stack]
theorem stack_last (w : Wrd) (ws : List Wrd) : itemAt (stack (w :: ws)) (-1) = some (wv w) := by
  unfold itemAt
  rw [if_neg (by decide), stack_cons, List.length_append, List.length_singleton, if_pos (by omega)]
  have : ((-1 : Int) + (((stack ws).length + 1 : Nat) : Int)).toNat = (stack ws).length := by omega
  rw [this, List.getElem?_append_right (Nat.le_refl _), Nat.sub_self]; rfl

theorem is_str (x : Str) : Is σ (.str x) (.str x) := by simp only [Is]
theorem eqv_str (x y : Str) : PyData.eqv (.str x) (.str y) = (x == y) := by unfold PyData.eqv; rfl

theorem test_con (B : Base W mg mb) {t : Nat} {ws : List Wrd} {k : Str} {x : Option Str} (ht : σ[t]? = some (.lst (stack ws))) (hz : ws.length ≤ 1000000)
    (q : ∀ a, truthOf σ a = some (hit ws k x) → smallOf σ a → Q a σ) : ConC W (n + 1) hd (.ref 65) [.loc t, .str k, ov x] σ Q E := by
  refine B.fn 65 (d := fst 6) (names := ["tokens", "type_", "value"]) (k := 0) (by kernel_rfl) (by kernel_rfl) (by kernel_rfl) (by kernel_rfl) (by kernel_rfl) (by kernel_rfl) (by kernel_rfl) (dv := .ref 58) (by kernel_rfl) (by kernel_rfl) (fun s vs p hp f h1 h2 kp hl => ?_) (by kernel_rfl) (by kernel_rfl) (by decide) (by kernel_rfl) (by kernel_rfl) (by kernel_rfl) ?_
  · obtain ⟨v, u, z, rfl⟩ := three_vs hl
    obtain ⟨nm, qn, params, bd, sc, gl, clo, dflt⟩ := f
    dsimp only at h1 h2
    subst h1 h2 hp
    exact BindsTo.of_defaults (items := #[.none]) (n := 0) rfl (kp _ _ (B.X 58 (obj W.w.params 58) (by kernel_rfl))) (by kernel_rfl) rfl (by kernel_rfl)
  · have hl : (stack ws).length ≤ 1000000 := by rw [stack_length]; exact hz
    refine AX_cons (AS_Return (AW_and (AW_local (by rfl) (truthy_op (b := !ws.isEmpty) ?_ ?_ ?_))))
    · simp only [truthOf, ht]
      cases ws <;> simp [stack]
    · intro l e
      rw [ht] at e; cases e
      omega
    · cases ws with
      | nil => exact q _ (by simp only [truthOf, ht]; rfl) (by intro l e; rw [ht] at e; cases e; omega)
      | cons w ws =>
        have it := stack_last w ws
        refine AW_and (AW_Compare1 (AW_Subscript (AW_Subscript (AW_local (by rfl) (AW_neg (AW_int ⟨rfl, list_item_op ht it hl (AW_int (tup_item_op (a := .str w.1) rfl (by simp) (AW_local (by rfl) (eqs_op (truthy_op (b := w.1 == k) ?_ trivial ?_)))))⟩))))))
        · rfl
        · cases hk : w.1 == k with
          | false => exact q _ (by simp only [truthOf, hit, hk, Bool.false_and]) trivial
          | true =>
            cases x with
            | none =>
              refine AW_and_one (AW_or (AW_Compare1 (AW_local (by rfl) (AW_none (is_none_op (b := true) rfl (truthy_op (b := true) rfl trivial ?_))))))
              exact q _ (by simp only [truthOf, hit, hk, Bool.true_and]) trivial
            | some y =>
              refine AW_and_one (AW_or (AW_Compare1 (AW_local (by rfl) (AW_none (is_none_op (b := false) rfl (truthy_op (b := false) rfl trivial ?_))))))
              refine AW_and_one (AW_Compare1 (AW_Subscript (AW_Subscript (AW_local (by rfl) (AW_neg (AW_int ⟨rfl, list_item_op ht it hl (AW_int (tup_item_op (a := .str w.2) rfl (by simp) (AW_local (by rfl) (eqs_op ?_))))⟩))))))
              exact q _ (by simp only [truthOf, hit, hk, Bool.true_and]) trivial

theorem Base.name (B : Base W mg mb) {X : Fx} {ρ : List (Str × AV)} {x : Str} {v : Value} {pos : Pos} (e : nsIn (K W.w.params) mainGlobals x = some (some v)) (q : Q (.val v) σ) (hk : X.scope.kind = .function := by rfl)
    (hl : X.scope.names.lookup x = some .globalImplicit := by rfl) (hdb : (x == ("__debug__" : Str)) = false := by decide) : AW W X (.Name x pos) ρ σ Q E :=
  AW_global B.hg (B.glob e) (by simp only [Rel]) q hk hl hdb
theorem Base.call (B : Base W mg mb) {X : Fx} {ρ : List (Str × AV)} {x : Str} {f : Addr} {es : List Expr} {pos npos : Pos} (e : nsIn (K W.w.params) mainGlobals x = some (some (.ref f))) (hf : fnIn (K W.w.params) f = true)
    (h : AWs W X es ρ σ (fun as σ₂ => ConC W X.n X.hd (.ref f) as σ₂ Q E) E) (hk : X.scope.kind = .function := by rfl)
    (hl : X.scope.names.lookup x = some .globalImplicit := by rfl) (hdb : (x == ("__debug__" : Str)) = false := by decide)
    (hp : plainArgs es := by intro env; exact ⟨fun _ _ e => by cases e <;> rfl, fun _ => rfl⟩) : AW W X (.Call (.Name x npos) es [] pos) ρ σ Q E := by
  refine AW_Call (B.name e ⟨_, rfl, kps_fn B.X hf, fun A env L l ι s pos ok en I F => wpAny_mono (h A env L l ι s pos ok en I F) (fun vs s' g => ?_) fun _ _ x => x⟩ hk hl hdb) hp
  obtain ⟨as, σ', ι', q, r⟩ := g
  exact ⟨as, σ', ι', q.con, r⟩

def skipQ (t : Nat) (ws : List Wrd) (k : Str) (x : Option Str) (σ : List AO) (Q : AV → List AO → Prop) : Prop :=
  match ws with
  | [] => Q .none σ
  | w :: r => if hit (w :: r) k x then Q (wv w) (σ.set t (.lst (stack r))) else Q .none σ
theorem skip_body (B : Base W mg mb) {t : Nat} {ws : List Wrd} {k : Str} {x : Option Str} (ht : σ[t]? = some (.lst (stack ws))) (hz : ws.length ≤ 1000000) (q : skipQ t ws k x σ Q) :
    AX W ⟨(fst 7).scope, [], n + 1, hd⟩ (fst 7).body [("tokens", .loc t), ("type_", .str k), ("value", ov x)] σ (fun _ σ' => Q .none σ') Q E := by
  refine AX_cons (AS_If (AT_of (B.call (f := 65) (by kernel_rfl) (by kernel_rfl) (AWs_cons (AW_local (by rfl) (AWs_cons (AW_local (by rfl) (AWs_cons (AW_local (by rfl) (AWs_nil ?_)))))))))) 
  refine test_con B ht hz fun a ha hs => truthy_op ha hs ?_
  cases ws with
  | nil => exact AX_nil (AX_nil q)
  | cons w r =>
    cases hh : hit (w :: r) k x with
    | false =>
      simp only [skipQ, hh, Bool.false_eq_true, if_false] at q
      exact AX_nil (AX_nil q)
    | true =>
      simp only [skipQ, hh, if_true] at q
      refine AX_cons (AS_Return (AW_Method (AW_local (by rfl) ⟨_, pop_meth ht, .inl ⟨_, rfl⟩, AWs_nil (pop_con (l := stack r) (a := wv w) (by rw [ht, stack_cons]) (by rw [stack_length]; simp at hz; omega) q)⟩)))
theorem skip_con3 (B : Base W mg mb) {t : Nat} {ws : List Wrd} {k : Str} {x : Option Str} (ht : σ[t]? = some (.lst (stack ws))) (hz : ws.length ≤ 1000000) (q : skipQ t ws k x σ Q) : ConC W (n + 2) hd (.ref 73) [.loc t, .str k, ov x] σ Q E := by
  refine B.fn 73 (d := fst 7) (names := ["tokens", "type_", "value"]) (k := 0) (by kernel_rfl) (by kernel_rfl) (by kernel_rfl) (by kernel_rfl) (by kernel_rfl) (by kernel_rfl) (by kernel_rfl) (dv := .ref 66) (by kernel_rfl) (by kernel_rfl) (fun s vs p hp f h1 h2 kp hl => ?_) (by kernel_rfl) (by kernel_rfl) (by decide) (by kernel_rfl) (by kernel_rfl) (by kernel_rfl) (skip_body B ht hz q)
  obtain ⟨v, u, z, rfl⟩ := three_vs hl
  obtain ⟨nm, qn, params, bd, sc, gl, clo, dflt⟩ := f
  dsimp only at h1 h2
  subst h1 h2 hp
  exact BindsTo.of_defaults (items := #[.none]) (n := 0) rfl (kp _ _ (B.X 66 (obj W.w.params 66) (by kernel_rfl))) (by kernel_rfl) rfl (by kernel_rfl)
theorem skip_con2 (B : Base W mg mb) {t : Nat} {ws : List Wrd} {k : Str} (ht : σ[t]? = some (.lst (stack ws))) (hz : ws.length ≤ 1000000) (q : skipQ t ws k none σ Q) : ConC W (n + 2) hd (.ref 73) [.loc t, .str k] σ Q E := by
  refine B.fn 73 (d := fst 7) (names := ["tokens", "type_", "value"]) (k := 1) (by kernel_rfl) (by kernel_rfl) (by kernel_rfl) (by kernel_rfl) (by kernel_rfl) (by kernel_rfl) (by kernel_rfl) (dv := .ref 66) (by kernel_rfl) (by kernel_rfl) (fun s vs p hp f h1 h2 kp hl => ?_) (by kernel_rfl) (by kernel_rfl) (by decide) (by kernel_rfl) (by kernel_rfl) (by kernel_rfl) (skip_body B (x := none) ht hz q)
  obtain ⟨v, u, rfl⟩ := two_vs hl
  obtain ⟨nm, qn, params, bd, sc, gl, clo, dflt⟩ := f
  dsimp only at h1 h2
  subst h1 h2 hp
  exact BindsTo.of_defaults (items := #[.none]) (n := 0) rfl (kp _ _ (B.X 66 (obj W.w.params 66) (by kernel_rfl))) (by kernel_rfl) rfl (by kernel_rfl)
end Mine

open PySem PySem.W PySem.Calls PyProof.Rows
set_option Elab.async false
set_option linter.all false
set_option maxRecDepth 100000
set_option maxHeartbeats 2000000
namespace Mine
variable {W : Wd} {mg mb : Str → Option Value} {σ : List AO} {Q : AV → List AO → Prop} {E : Str → List AO → Prop} {n : Nat} {hd : Bool}

/-- a parser at j whose stack lies at t -/
structure Prs (σ : List AO) (j t : Nat) (ws : List Wrd) : Prop where
  obj : IsObj σ j 182 [("tokens", .loc t), ("ast", .none)]
  stk : σ[t]? = some (.lst (stack ws))
  small : ws.length ≤ 1000000
theorem Prs.app {j t : Nat} {ws : List Wrd} (p : Prs σ j t ws) (ext : List AO) : Prs (σ ++ ext) j t ws := by
  obtain ⟨⟨d, h1, h2⟩, h3, h4⟩ := p
  have ap : ∀ {i : Nat} {o : AO}, σ[i]? = some o → (σ ++ ext)[i]? = some o := fun {i o} e => by
    rw [List.getElem?_append_left (List.getElem?_eq_some_iff.mp e).1]; exact e
  exact ⟨⟨d, ap h1, ap h2⟩, ap h3, h4⟩
theorem Prs.set {j t : Nat} {ws : List Wrd} (p : Prs σ j t ws) {ws' : List Wrd} (hz : ws'.length ≤ 1000000) : Prs (σ.set t (.lst (stack ws'))) j t ws' := by
  obtain ⟨⟨d, h1, h2⟩, h3, h4⟩ := p
  have hlt := (List.getElem?_eq_some_iff.mp h3).1
  have ne : ∀ {i : Nat} {o : AO}, σ[i]? = some o → (∀ l, o ≠ .lst l) → (σ.set t (.lst (stack ws')))[i]? = some o := fun {i o} e hn => by
    have : t ≠ i := fun q => by rw [q] at h3; rw [h3] at e; cases e; exact hn _ rfl
    rw [List.getElem?_set_ne this]; exact e
  exact ⟨⟨d, ne h1 (fun l q => by cases q), ne h2 (fun l q => by cases q)⟩, List.getElem?_set_self hlt, hz⟩

theorem Base.tokens (B : Base W mg mb) {X : Fx} {ρ : List (Str × AV)} {x : Str} {j t : Nat} {ws : List Wrd} {pos np : Pos} (P : Prs σ j t ws) (hx : ρ.lookup x = some (.loc j)) (q : Q (.loc t) σ) (hk : X.scope.kind = .function := by rfl) (hl : X.scope.names.lookup x = some .local := by rfl)
    (hdb : (x == ("__debug__" : Str)) = false := by decide) : AW W X (.Attribute (.Name x np) "tokens" pos) ρ σ Q E :=
  AW_Attr B.X (AW_local hx ⟨j, 182, _, .loc t, none, rfl, P.obj, by kernel_rfl, by kernel_rfl, by kernel_rfl, by kernel_rfl, by rfl, rfl, q⟩ hk hl hdb)
theorem Base.meth (B : Base W mg mb) {X : Fx} {ρ : List (Str × AV)} {x m : Str} {j t : Nat} {ws : List Wrd} {f : Addr} {es : List Expr} {pos np apos : Pos} (P : Prs σ j t ws) (hx : ρ.lookup x = some (.loc j))
    (hf : findIn (K W.w.params) (.ref 182) m = some (some (.ref f))) (hfn : fnIn (K W.w.params) f = true) (hif : isFn (K W.w.params) (.ref f) = true) (hm : ([("tokens", .loc t), ("ast", .none)] : List (Str × AV)).lookup m = none)
    (h : AWs W X es ρ σ (fun as σ₂ => ConC W X.n X.hd (.ref f) (.loc j :: as) σ₂ Q E) E) (hk : X.scope.kind = .function := by rfl) (hl : X.scope.names.lookup x = some .local := by rfl)
    (hdb : (x == ("__debug__" : Str)) = false := by decide)
    (hp : plainArgs es := by intro env; exact ⟨fun _ _ e => by cases e <;> rfl, fun _ => rfl⟩)
    (hfew : ∀ env, ((backTo pos (starEach es env)).all (fun x => !x.1) && (backToKw pos (keywordEach [] env)).all (fun x => x.1.isSome) && decide (es.length + ([] : List Keyword).length + (if ([] : List Keyword).isEmpty then 0 else 1) < 30)) = true := by intro _; rfl)
    (hline : (apos.endLine == pos.line) = true := by rfl) : AW W X (.Call (.Attribute (.Name x np) m apos) es [] pos) ρ σ Q E := by
  refine AW_Method (AW_local hx ⟨.ref f, inst_meth B.X P.obj (by kernel_rfl) hf hif hm, kps_fn B.X hfn, fun A env L l ι s pos ok en I F => wpAny_mono (h A env L l ι s pos ok en I F) (fun vs s' g => ?_) fun _ _ x => x⟩ hk hl hdb) (fun _ => rfl) hp hfew hline
  obtain ⟨as, σ', ι', q, r⟩ := g
  exact ⟨as, σ', ι', q.con, r⟩

/-- the sentence of what is missing -/
def lackS (term : Str) (ws : List Wrd) : Str :=
  match ws with
  | [] => Str.empty ++ "expected " ++ term ++ " but end of rule reached"
  | w :: _ => Str.empty ++ "expected " ++ term ++ " but got " ++ reprText w.2
def termS (k : Str) (x term : Option Str) : Str :=
  match term with
  | some s => s
  | none => reprText (x.getD k)
structure Mild (ws : List Wrd) : Prop where
  txt : ∀ w ∈ ws, w.2.length ≤ 1000 ∧ (reprText w.2).length ≤ 10000
  val : ∀ w ∈ ws, w.1 = ("value" : Str) → (PySem.intText? w.2).isSome = true ∧ w.2.length ≤ 640
theorem len_le {x : Str} (h : x.length ≤ 100000) : x.length ≤ sizeLine := by rw [sizeLine_eq]; omega

theorem own_of_in' {K : Frag} {h₀ : Heap} {x : Str} {C : Addr} {bmB : List Value} {newId : String} (X : K.In h₀) (hg : h₀.Ns mainGlobals mg) (e : nsIn K mainGlobals x = some (some (.ref C))) (q : excIn K C bmB newId = true) : OwnCls x C bmB newId mg h₀ := by
  refine ⟨mg_of X hg e, ?_⟩
  unfold excIn at q
  split at q
  · rename_i dd cd sl ho
    split at q
    · rename_i C' bm k0 k1 k2 k3 n k5 hm hs
      simp only [Bool.and_eq_true, beq_iff_eq, Bool.not_eq_true'] at q
      obtain ⟨⟨⟨⟨⟨rfl, rfl⟩, hdel⟩, ht⟩, hok⟩, hni⟩ := q
      obtain ⟨nm, bs, mro, ns, qn, hd, sn, sub, ab, col, del⟩ := cd
      dsimp only at hm hdel hok hni
      subst hm hdel
      have hsl : sl = #[k0, k1, k2, k3, some (.builtin n), k5] := by
        obtain ⟨l⟩ := sl
        simp only at hs
        rw [hs]
      subst hsl
      exact ⟨bm, ns, nm, qn, bs, hd, sn, sub, ab, col, dd, k0, k1, k2, k3, k5, _, X _ _ ho, .of_isNs (isNs_of_in X hok), nsMap_none_of_in X hok hni, tail_of_in X ht⟩
    · cases q
  · cases q
theorem Base.own (B : Base W mg mb) : OwnCls "RuleError" W.C [.type "Exception", .type "BaseException", .type "object"] "Exception.__new__" mg W.H₀ := by
  rw [B.cls]
  exact own_of_in' B.X B.hg (by kernel_rfl) (by kernel_rfl)
theorem Base.raise (B : Base W mg mb) {X : Fx} {ρ : List (Str × AV)} {N : List (Str × AV) → List AO → Prop} {R : AV → List AO → Prop} {e₀ : Expr} {np cpos pos : Pos} (hd : X.hd = false)
    (h : AW W X e₀ ρ σ (fun a σ₁ => ∃ msg, a = .str msg ∧ E msg σ₁) E) (hk : X.scope.kind = .function := by rfl) (hl : X.scope.names.lookup ("RuleError" : Str) = some NameKind.globalImplicit := by rfl)
    (he : ∀ env, starEach [e₀] env = [(false, eval e₀ env)] := by intro _; rfl) : AS W X (.Raise (some (.Call (.Name ("RuleError" : Str) np) [e₀] [] cpos)) none pos) ρ σ N R E :=
  AS_Raise B.hg B.own PySem.F.excBase_Exception hd h hk hl (by decide) he

def expQ (t : Nat) (ws : List Wrd) (k : Str) (x term : Option Str) (σ : List AO) (Q : AV → List AO → Prop) (E : Str → List AO → Prop) : Prop :=
  match ws with
  | [] => E (lackS (termS k x term) []) σ
  | w :: r => if hit (w :: r) k x then Q (wv w) (σ.set t (.lst (stack r))) else E (lackS (termS k x term) (w :: r)) σ
theorem Base.bname (B : Base W mg mb) {X : Fx} {ρ : List (Str × AV)} {x : Str} {v : Value} {pos : Pos} (e : nsIn (K W.w.params) mainGlobals x = some none) (e2 : bootBuiltins x = some v) (hn : x ≠ "__name__") (q : Q (.val v) σ) (hk : X.scope.kind = .function := by rfl)
    (hl : X.scope.names.lookup x = some .globalImplicit := by rfl) (hdb : (x == ("__debug__" : Str)) = false := by decide) : AW W X (.Name x pos) ρ σ Q E :=
  AW_builtin B.hg (ns_none_of B.X B.hg e) B.hb ((B.bi x hn).trans e2) q hk hl hdb
theorem expect_body (B : Base W mg mb) {j t : Nat} {ws : List Wrd} {k : Str} {x term : Option Str} (P : Prs σ j t ws) (M : Mild ws) (hk0 : k.length ≠ 0) (hkl : k.length ≤ 1000) (hx0 : (reprText (x.getD k)).length ≤ 10000) (ht : (termS k x term).length ≤ 10000)
    (q : expQ t ws k x term σ Q E) :
    AX W ⟨(mth 1).scope, [], n + 2, false⟩ (mth 1).body [("self", .loc j), ("type_", .str k), ("value", ov x), ("term", ov term)] σ (fun _ σ' => Q .none σ') Q E := by
  refine AX_cons (AS_Assign (B.call (f := 73) (by kernel_rfl) (by kernel_rfl) (AWs_cons (B.tokens P (by rfl) (AWs_cons (AW_local (by rfl) (AWs_cons (AW_local (by rfl) (AWs_nil ?_))))))))) 
  refine skip_con3 B P.stk P.small ?_
  have miss : ∀ ρ : List (Str × AV), ρ = ([("self", AV.loc j), ("type_", .str k), ("value", ov x), ("term", ov term), ("token", .none)] : List (Str × AV)) → E (lackS (termS k x term) ws) σ → AX W ⟨(mth 1).scope, [], n + 2, false⟩ ((mth 1).body.drop 1) ρ σ (fun _ σ' => Q .none σ') Q E := by
    rintro _ rfl hE
    refine AX_cons (AS_If (AT_Compare1 (AW_local (by rfl) (AW_none (isNot_none_op (b := true) rfl (truthy_op (b := false) rfl trivial (AX_nil ?_)))))))
    have rest : ∀ s : Str, s.length ≤ 10000 → s = termS k x term → AX W ⟨(mth 1).scope, [], n + 2, false⟩ ((mth 1).body.drop 3) [("self", .loc j), ("type_", .str k), ("value", ov x), ("term", .str s), ("token", .none)] σ (fun _ σ' => Q .none σ') Q E := by
      rintro s hs rfl
      refine AX_cons (AS_If (AT_not (AT_of (B.tokens P (by rfl) (truthy_op (b := !ws.isEmpty) ?_ ?_ ?_)))))
      · simp only [truthOf, P.stk]; cases ws <;> simp [stack]
      · intro l e; rw [P.stk] at e; cases e; rw [stack_length]; have := P.small; omega
      · cases ws with
        | nil =>
          refine AX_cons (B.raise rfl (AW_JoinedStr (AJ_cons (AW_str ⟨_, rfl, ?_, AJ_cons (AW_Fmt (AW_local (by rfl) ⟨_, rfl, len_le (by omega), _, rfl, ?_, AJ_cons (AW_str ⟨_, rfl, ?_, AJ_nil ?_ ⟨_, rfl, hE⟩⟩)⟩))⟩))))
          all_goals (rw [sizeLine_eq]; simp only [strLen_append]; have e1 : (Str.empty).length = 0 := rfl; have e2 : (Str.ofString "expected ").length = 9 := rfl; have e3 : (Str.ofString " but end of rule reached").length = 24 := rfl; omega)
        | cons w r =>
          refine AX_nil ?_
          have hw := M.txt w (.head _)
          have hl : (stack (w :: r)).length ≤ 1000000 := by rw [stack_length]; exact P.small
          have e1 : (Str.empty).length = 0 := rfl
          have e2 : (Str.ofString "expected ").length = 9 := rfl
          have e3 : (Str.ofString " but got ").length = 9 := rfl
          have z : ∀ x : Str, x.length ≤ 30000 → x.length ≤ sizeLine := fun x h => by rw [sizeLine_eq]; omega
          refine AX_cons (B.raise rfl (AW_JoinedStr (AJ_cons (AW_str ⟨_, rfl, z _ (by simp only [strLen_append]; omega), AJ_cons (AW_Fmt (AW_local (by rfl) ⟨_, rfl, len_le (by omega), _, rfl, z _ (by simp only [strLen_append]; omega), AJ_cons (AW_str ⟨_, rfl, z _ (by simp only [strLen_append]; omega), ?_⟩)⟩))⟩))))
          refine AJ_cons (AW_FmtR ?_)
          refine AW_Subscript (AW_Subscript (B.tokens P (by rfl) (AW_neg (AW_int ⟨rfl, list_item_op P.stk (stack_last w r) hl ?_⟩))))
          refine AW_int (tup_item_op (a := .str w.2) rfl (by simp) ⟨_, rfl, len_le (by omega), _, rfl, z _ (by simp only [strLen_append]; omega), AJ_nil (z _ (by simp only [strLen_append]; omega)) ⟨_, rfl, hE⟩⟩)
    cases term with
    | some s => exact AX_cons (AS_If (AT_Compare1 (AW_local (by rfl) (AW_none (is_none_op (b := false) rfl (truthy_op (b := false) rfl trivial (AX_nil (rest s ht rfl))))))))
    | none =>
      refine AX_cons (AS_If (AT_Compare1 (AW_local (by rfl) (AW_none (is_none_op (b := true) rfl (truthy_op (b := true) rfl trivial ?_))))))
      refine AX_cons (AS_Assign (AW_Call (B.bname (v := .builtin "repr") (by kernel_rfl) (by kernel_rfl) (by decide) ⟨_, rfl, .inl ⟨_, rfl⟩, AWs_cons ?_⟩)))
      cases x with
      | none =>
        refine AW_or (AW_and (AW_Compare1 (AW_local (by rfl) (AW_none (is_none_op (b := true) rfl (truthy_op (b := true) rfl trivial ?_))))))
        refine AW_and_one (AW_local (by rfl) (truthy_op (b := true) ?_ ?_ ?_))
        · simp only [truthOf]; simpa using hk0
        · simp only [smallOf]; omega
        · exact AWs_nil (repr_con (len_le (by have := hx0; simp only [Option.getD] at this; omega)) (AX_nil (rest _ ht rfl)))
      | some y =>
        refine AW_or (AW_and (AW_Compare1 (AW_local (by rfl) (AW_none (is_none_op (b := false) rfl (truthy_op (b := false) rfl trivial (truthy_op (b := false) rfl trivial ?_)))))))
        exact AW_and_one (AW_local (by rfl) (AWs_nil (repr_con (len_le (by have := hx0; simp only [Option.getD] at this; omega)) (AX_nil (rest _ ht rfl)))))
  cases ws with
  | nil => exact miss _ rfl q
  | cons w r =>
    cases hh : hit (w :: r) k x with
    | false =>
      simp only [expQ, hh, Bool.false_eq_true, if_false] at q
      simp only [skipQ, hh, Bool.false_eq_true, if_false]
      exact miss _ rfl q
    | true =>
      simp only [expQ, hh, if_true] at q
      simp only [skipQ, hh, if_true]
      refine AX_cons (AS_If (AT_Compare1 (AW_local (by rfl) (AW_none (isNot_none_op (b := false) rfl (truthy_op (b := true) rfl trivial ?_))))))
      exact AX_cons (AS_Return (AW_local (by rfl) q))

theorem four_vs {vs : List Value} (h : vs.length = 4) : ∃ v u x y, vs = [v, u, x, y] := by
  cases vs with
  | nil => cases h
  | cons v r => obtain ⟨u, x, y, rfl⟩ := three_vs (vs := r) (by simpa using h); exact ⟨v, u, x, y, rfl⟩
theorem expect_con4 (B : Base W mg mb) {j t : Nat} {ws : List Wrd} {k : Str} {x term : Option Str} (P : Prs σ j t ws) (M : Mild ws) (hk0 : k.length ≠ 0) (hkl : k.length ≤ 1000) (hx0 : (reprText (x.getD k)).length ≤ 10000) (ht : (termS k x term).length ≤ 10000)
    (q : expQ t ws k x term σ Q E) : ConC W (n + 3) false (.ref 123) [.loc j, .str k, ov x, ov term] σ Q E := by
  refine B.fn 123 (d := mth 1) (names := ["self", "type_", "value", "term"]) (k := 0) (by kernel_rfl) (by kernel_rfl) (by kernel_rfl) (by kernel_rfl) (by kernel_rfl) (by kernel_rfl) (by kernel_rfl) (dv := .ref 116) (by kernel_rfl) (by kernel_rfl) (fun s vs p hp f h1 h2 kp hl => ?_) (by kernel_rfl) (by kernel_rfl) (by decide) (by kernel_rfl) (by kernel_rfl) (by kernel_rfl) (expect_body B P M hk0 hkl hx0 ht q)
  obtain ⟨v, u, z, y, rfl⟩ := four_vs hl
  obtain ⟨nm, qn, params, bd, sc, gl, clo, dflt⟩ := f
  dsimp only at h1 h2
  subst h1 h2 hp
  exact BindsTo.of_defaults (items := #[.none, .none]) (n := 0) rfl (kp _ _ (B.X 116 (obj W.w.params 116) (by kernel_rfl))) (by kernel_rfl) rfl (by kernel_rfl)
theorem expect_con2 (B : Base W mg mb) {j t : Nat} {ws : List Wrd} {k : Str} (P : Prs σ j t ws) (M : Mild ws) (hk0 : k.length ≠ 0) (hkl : k.length ≤ 1000) (hx0 : (reprText k).length ≤ 10000)
    (q : expQ t ws k none none σ Q E) : ConC W (n + 3) false (.ref 123) [.loc j, .str k] σ Q E := by
  refine B.fn 123 (d := mth 1) (names := ["self", "type_", "value", "term"]) (k := 2) (by kernel_rfl) (by kernel_rfl) (by kernel_rfl) (by kernel_rfl) (by kernel_rfl) (by kernel_rfl) (by kernel_rfl) (dv := .ref 116) (by kernel_rfl) (by kernel_rfl) (fun s vs p hp f h1 h2 kp hl => ?_) (by kernel_rfl) (by kernel_rfl) (by decide) (by kernel_rfl) (by kernel_rfl) (by kernel_rfl) (expect_body B (x := none) (term := none) P M hk0 hkl hx0 hx0 q)
  obtain ⟨v, u, rfl⟩ := two_vs hl
  obtain ⟨nm, qn, params, bd, sc, gl, clo, dflt⟩ := f
  dsimp only at h1 h2
  subst h1 h2 hp
  exact BindsTo.of_defaults (items := #[.none, .none]) (n := 0) rfl (kp _ _ (B.X 116 (obj W.w.params 116) (by kernel_rfl))) (by kernel_rfl) rfl (by kernel_rfl)

/- what a reader finds: the tree and how many words it took, or a sentence and how many it took -/
def num (x : Str) : Int := (PySem.intText? x).getD 0
def valT (x : Str) : AV := .tup [.str "value", .tup [.int (num x)]]
def lackV (ws : List Wrd) : Str := lackS (reprText "value") ws
def valQ (t : Nat) (ws : List Wrd) (σ : List AO) (Q : AV → List AO → Prop) (E : Str → List AO → Prop) : Prop :=
  match ws with
  | [] => E (lackV []) σ
  | w :: r => if w.1 == ("value" : Str) then Q (valT w.2) (σ.set t (.lst (stack r))) else E (lackV (w :: r)) σ
theorem value_con (B : Base W mg mb) {j t : Nat} {ws : List Wrd} (P : Prs σ j t ws) (M : Mild ws) (q : valQ t ws σ Q E) : ConC W (n + 4) false (.ref 179) [.loc j] σ Q E := by
  refine B.fn 179 (d := mth 9) (names := ["self"]) (k := 0) (by kernel_rfl) (by kernel_rfl) (by kernel_rfl) (by kernel_rfl) (by kernel_rfl) (by kernel_rfl) (by kernel_rfl) (dv := .none) (by kernel_rfl) (by kernel_rfl) (fun s vs p hp f h1 h2 kp hl => ?_) (by kernel_rfl) (by kernel_rfl) (by decide) (by kernel_rfl) (by kernel_rfl) (by kernel_rfl) ?_
  · obtain ⟨v, rfl⟩ := one_vs hl
    obtain ⟨nm, qn, params, bd, sc, gl, clo, dflt⟩ := f
    dsimp only at h1 h2
    subst h1 h2 hp
    exact BindsTo.of_eq (by kernel_rfl)
  · refine AX_cons (AS_Return (B.call (f := 80) (by kernel_rfl) (by kernel_rfl) (AWs_cons ?_)))
    refine AW_Call (B.bname (v := .type "int") (by kernel_rfl) (by kernel_rfl) (by decide) ⟨_, rfl, .inr (.inl ⟨_, rfl⟩), AWs_cons ?_⟩)
    refine AW_Subscript (B.meth (f := 123) P (by rfl) (by kernel_rfl) (by kernel_rfl) (by kernel_rfl) (by rfl) (AWs_cons (AW_str (AWs_nil ?_))))
    refine expect_con2 B P M (by decide) (by decide) (by decide +kernel) ?_
    cases ws with
    | nil => exact q
    | cons w r =>
      have e : hit (w :: r) "value" none = (w.1 == ("value" : Str)) := by simp [hit]
      simp only [expQ, e]
      cases hh : w.1 == ("value" : Str) with
      | false => simp only [valQ, hh, Bool.false_eq_true, if_false] at q; exact q
      | true =>
        simp only [valQ, hh, if_true] at q
        obtain ⟨h1, h2⟩ := M.val w (.head _) (eq_of_beq hh)
        obtain ⟨i, hi⟩ := Option.isSome_iff_exists.mp h1
        have hn : num w.2 = i := by unfold num; rw [hi]; rfl
        refine AW_int (tup_item_op (a := .str w.2) rfl (by simp) (AWs_nil (int_con hi h2 (AWs_nil (value_node_con B ?_)))))
        simp only [valT, hn] at q
        exact q
end Mine

open PySem PySem.W PySem.Calls PyProof.Rows
set_option Elab.async false
set_option linter.all false
set_option maxRecDepth 100000
set_option maxHeartbeats 2000000
namespace Mine
variable {W : Wd} {mg mb : Str → Option Value} {σ : List AO} {Q : AV → List AO → Prop} {E : Str → List AO → Prop} {n : Nat} {hd : Bool}

/-- a reader's answer: a tree and how many words it took, or a sentence and how many it took -/
inductive Ans (α : Type) where
  | ok (a : α) (n : Nat)
  | no (msg : Str) (n : Nat)
def after (t : Nat) (ws : List Wrd) (n : Nat) (σ : List AO) : List AO := σ.set t (.lst (stack (ws.drop n)))
def post (t : Nat) (ws : List Wrd) (a : Ans AV) (σ : List AO) (Q : AV → List AO → Prop) (E : Str → List AO → Prop) : Prop :=
  match a with
  | .ok v n => Q v (after t ws n σ)
  | .no msg n => E msg (after t ws n σ)
theorem after_zero {j t : Nat} {ws : List Wrd} (P : Prs σ j t ws) : after t ws 0 σ = σ := by
  unfold after
  rw [List.drop_zero]
  have h := P.stk
  obtain ⟨hlt, e⟩ := List.getElem?_eq_some_iff.mp h
  rw [← e]; exact List.set_getElem_self hlt
theorem after_after (t : Nat) (ws : List Wrd) (n m : Nat) (σ : List AO) : after t (ws.drop n) m (after t ws n σ) = after t ws (n + m) σ := by
  unfold after
  rw [List.set_set, List.drop_drop]
theorem Prs.after {j t : Nat} {ws : List Wrd} (P : Prs σ j t ws) (n : Nat) : Prs (after t ws n σ) j t (ws.drop n) := P.set (by have := P.small; rw [List.length_drop]; omega)
theorem Mild.drop {ws : List Wrd} (M : Mild ws) (n : Nat) : Mild (ws.drop n) := ⟨fun w h => M.txt w (List.mem_of_mem_drop h), fun w h => M.val w (List.mem_of_mem_drop h)⟩

def valA (ws : List Wrd) : Ans AV :=
  match ws with
  | [] => .no (lackV []) 0
  | w :: r => if w.1 == ("value" : Str) then .ok (valT w.2) 1 else .no (lackV (w :: r)) 0
theorem value_conA (B : Base W mg mb) {j t : Nat} {ws : List Wrd} (P : Prs σ j t ws) (M : Mild ws) (q : post t ws (valA ws) σ Q E) : ConC W (n + 4) false (.ref 179) [.loc j] σ Q E := by
  refine value_con B P M ?_
  cases ws with
  | nil => have q : E _ _ := q; rw [after_zero P] at q; exact q
  | cons w r =>
    unfold valA at q
    unfold valQ
    cases hh : w.1 == ("value" : Str) with
    | true => simp only [hh, if_true] at q ⊢; exact q
    | false =>
      simp only [hh, Bool.false_eq_true, if_false] at q ⊢
      have q : E _ _ := q
      rw [after_zero P] at q; exact q
theorem skipQ_of {j t : Nat} {ws : List Wrd} {k : Str} {x : Option Str} (P : Prs σ j t ws) (h1 : hit ws k x = true → ∀ w, Q (wv w) (after t ws 1 σ)) (h2 : hit ws k x = false → Q .none σ) : skipQ t ws k x σ Q := by
  cases ws with
  | nil => exact h2 rfl
  | cons w r =>
    unfold skipQ
    cases hh : hit (w :: r) k x with
    | true => simp only [hh, if_true]; exact h1 hh w
    | false => simp only [hh, Bool.false_eq_true, if_false]; exact h2 hh
theorem truthy_wv {X : Fx} {w : Wrd} {Q : Bool → List AO → Prop} (q : Q true σ) : ABool1 W X truthy (wv w) σ Q E := truthy_op (b := true) rfl (by simp [smallOf, wv]) q

def spanA (ws : List Wrd) : Ans AV :=
  match valA ws with
  | .no m n => .no m n
  | .ok a n =>
    if hit (ws.drop n) "ellipsis" none then
      match valA (ws.drop (n + 1)) with
      | .ok b m => .ok (.tup [a, b]) (n + 1 + m)
      | .no msg m => .no msg (n + 1 + m)
    else .ok (.tup [a, a]) n
theorem span_con (B : Base W mg mb) {j t : Nat} {ws : List Wrd} (P : Prs σ j t ws) (M : Mild ws) (q : post t ws (spanA ws) σ Q E) : ConC W (n + 5) false (.ref 158) [.loc j] σ Q E := by
  refine B.fn 158 (d := mth 6) (names := ["self"]) (k := 0) (by kernel_rfl) (by kernel_rfl) (by kernel_rfl) (by kernel_rfl) (by kernel_rfl) (by kernel_rfl) (by kernel_rfl) (dv := .none) (by kernel_rfl) (by kernel_rfl) (fun s vs p hp f h1 h2 kp hl => ?_) (by kernel_rfl) (by kernel_rfl) (by decide) (by kernel_rfl) (by kernel_rfl) (by kernel_rfl) ?_
  · obtain ⟨v, rfl⟩ := one_vs hl
    obtain ⟨nm, qn, params, bd, sc, gl, clo, dflt⟩ := f
    dsimp only at h1 h2
    subst h1 h2 hp
    exact BindsTo.of_eq (by kernel_rfl)
  · refine AX_cons (AS_Assign (B.meth (f := 179) P (by rfl) (by kernel_rfl) (by kernel_rfl) (by kernel_rfl) (by rfl) (AWs_nil (value_conA B P M ?_))))
    unfold spanA at q
    cases hv : valA ws with
    | no m k => rw [hv] at q; exact q
    | ok a k =>
      rw [hv] at q
      dsimp only at q
      have P₁ := P.after k
      have M₁ := M.drop k
      refine AX_cons (AS_If (AT_of (B.call (f := 73) (by kernel_rfl) (by kernel_rfl) (AWs_cons (B.tokens P₁ (by rfl) (AWs_cons (AW_str (AWs_nil (skip_con2 B P₁.stk P₁.small (skipQ_of P₁ (fun hh w => ?_) (fun hh => ?_)))))))))))
      · refine truthy_wv ?_
        rw [if_pos hh] at q
        rw [after_after]
        have P₂ := P.after (k + 1)
        refine AX_cons (AS_Return (AW_Tuple (AWs_cons (AW_local (by rfl) (AWs_cons (B.meth (f := 179) P₂ (by rfl) (by kernel_rfl) (by kernel_rfl) (by kernel_rfl) (by rfl) (AWs_nil (value_conA B P₂ (M.drop (k + 1)) ?_))))))))
        cases hv2 : valA (ws.drop (k + 1)) with
        | no m i => rw [hv2] at q; simp only [post, after_after]; exact q
        | ok b i => rw [hv2] at q; simp only [post, after_after]; exact AWs_nil ⟨by simp, q⟩
      · refine truthy_op (b := false) rfl trivial ?_
        rw [if_neg (by rw [hh]; decide)] at q
        exact AX_cons (AS_Return (AW_Tuple (AWs_cons (AW_local (by rfl) (AWs_cons (AW_local (by rfl) (AWs_nil ⟨by simp, q⟩)))))))

theorem after_length (t : Nat) (ws : List Wrd) (n : Nat) (σ : List AO) : (after t ws n σ).length = σ.length := by unfold after; rw [List.length_set]
theorem after_app {t : Nat} (h : t < σ.length) (ws : List Wrd) (n : Nat) (ext : List AO) : after t ws n (σ ++ ext) = after t ws n σ ++ ext := by
  unfold after; rw [List.set_append_left _ _ h]
theorem Prs.lt {j t : Nat} {ws : List Wrd} (P : Prs σ j t ws) : t < σ.length := (List.getElem?_eq_some_iff.mp P.stk).1
theorem last_get (l : List AO) (x : AO) : (l ++ [x])[l.length]? = some x := by rw [List.getElem?_append_right (Nat.le_refl _), Nat.sub_self]; rfl
theorem last_set (l : List AO) (x y : AO) : (l ++ [x]).set l.length y = l ++ [y] := by rw [List.set_append_right _ _ (Nat.le_refl _), Nat.sub_self]; rfl

def Ans.plus {α : Type} (k : Nat) : Ans α → Ans α
  | .ok a n => .ok a (k + n)
  | .no m n => .no m (k + n)
theorem Ans.plus_plus {α : Type} (a : Ans α) (i k : Nat) : (a.plus k).plus i = a.plus (i + k) := by cases a <;> simp [Ans.plus, Nat.add_assoc]
theorem valA_ok {ws : List Wrd} {a : AV} {n : Nat} (h : valA ws = .ok a n) : n = 1 ∧ 1 ≤ ws.length := by
  cases ws with
  | nil => cases h
  | cons w r =>
    unfold valA at h
    cases hh : w.1 == ("value" : Str) with
    | true => simp only [hh, if_true] at h; cases h; exact ⟨rfl, by simp⟩
    | false => simp only [hh, Bool.false_eq_true, if_false] at h; cases h
theorem spanA_ok {ws : List Wrd} {a : AV} {n : Nat} (h : spanA ws = .ok a n) : 1 ≤ n ∧ n ≤ ws.length := by
  unfold spanA at h
  cases hv : valA ws with
  | no m k => rw [hv] at h; cases h
  | ok b k =>
    rw [hv] at h
    obtain ⟨rfl, h1⟩ := valA_ok hv
    dsimp only at h
    split at h
    · cases hv2 : valA (ws.drop (1 + 1)) with
      | no m i => rw [hv2] at h; cases h
      | ok c i =>
        rw [hv2] at h
        obtain ⟨rfl, h2⟩ := valA_ok hv2
        cases h
        rw [List.length_drop] at h2
        omega
    · cases h; omega
def spansG : Nat → List Wrd → List AV → Ans (List AV)
  | 0, _, acc => .ok acc 0
  | f + 1, ws, acc =>
    if hit ws "symbol" (some ",") then
      match spanA (ws.drop 1) with
      | .ok a n => (spansG f (ws.drop (1 + n)) (acc ++ [a])).plus (1 + n)
      | .no msg n => .no msg (1 + n)
    else .ok acc 0
def spansA (ws : List Wrd) : Ans (List AV) :=
  match spanA ws with
  | .no m n => .no m n
  | .ok a n => (spansG ws.length (ws.drop n) [a]).plus n
def postL (t : Nat) (ws : List Wrd) (a : Ans (List AV)) (σ : List AO) (Q : AV → List AO → Prop) (E : Str → List AO → Prop) : Prop :=
  match a with
  | .ok items n => Q (.tup [.str "range_list", .loc σ.length]) (after t ws n σ ++ [.lst items])
  | .no msg n => ∀ ext, E msg (after t ws n σ ++ ext)
theorem range_list_node_con (B : Base W mg mb) {a : AV} (q : Q (.tup [.str "range_list", a]) σ) : ConC W (n + 1) hd (.ref 94) [a] σ Q E := by
  refine B.fn 94 (d := fst 10) (names := ["range_list"]) (k := 0) (by kernel_rfl) (by kernel_rfl) (by kernel_rfl) (by kernel_rfl) (by kernel_rfl) (by kernel_rfl) (by kernel_rfl) (dv := .none) (by kernel_rfl) (by kernel_rfl) (fun s vs p hp f h1 h2 kp hl => ?_) (by kernel_rfl) (by kernel_rfl) (by decide) (by kernel_rfl) (by kernel_rfl) (by kernel_rfl) ?_
  · obtain ⟨v, rfl⟩ := one_vs hl
    obtain ⟨nm, qn, params, bd, sc, gl, clo, dflt⟩ := f
    dsimp only at h1 h2
    subst h1 h2 hp
    exact BindsTo.of_eq (by kernel_rfl)
  · exact AX_cons (AS_Return (AW_Tuple (AWs_cons (AW_str (AWs_cons (AW_local (by rfl) (AWs_nil ⟨by simp, q⟩)))))))
theorem range_list_con (B : Base W mg mb) {j t : Nat} {ws : List Wrd} (P : Prs σ j t ws) (M : Mild ws) (q : postL t ws (spansA ws) σ Q E) : ConC W (n + 6) false (.ref 165) [.loc j] σ Q E := by
  refine B.fn 165 (d := mth 7) (names := ["self"]) (k := 0) (by kernel_rfl) (by kernel_rfl) (by kernel_rfl) (by kernel_rfl) (by kernel_rfl) (by kernel_rfl) (by kernel_rfl) (dv := .none) (by kernel_rfl) (by kernel_rfl) (fun s vs p hp f h1 h2 kp hl => ?_) (by kernel_rfl) (by kernel_rfl) (by decide) (by kernel_rfl) (by kernel_rfl) (by kernel_rfl) ?_
  · obtain ⟨v, rfl⟩ := one_vs hl
    obtain ⟨nm, qn, params, bd, sc, gl, clo, dflt⟩ := f
    dsimp only at h1 h2
    subst h1 h2 hp
    exact BindsTo.of_eq (by kernel_rfl)
  · have lt := P.lt
    refine AX_cons (AS_Assign (AW_List (AWs_cons (B.meth (f := 158) P (by rfl) (by kernel_rfl) (by kernel_rfl) (by kernel_rfl) (by rfl) (AWs_nil (span_con B P M ?_))))))
    unfold spansA at q
    cases hs : spanA ws with
    | no m k =>
      rw [hs] at q
      have := q []
      rw [List.append_nil] at this
      exact this
    | ok a k =>
      rw [hs] at q
      obtain ⟨k1, k2⟩ := spanA_ok hs
      refine AWs_nil ⟨by simp, ?_⟩
      rw [after_length]
      refine AX_cons (AS_While (fun m ρ σ' => ∃ k acc f, ρ = ([("self", AV.loc j), ("range_list", .loc σ.length)] : List (Str × AV)) ∧ σ' = after t ws k σ ++ [.lst acc] ∧ m = (ws.drop k).length ∧ (ws.drop k).length ≤ f ∧ acc.length + (ws.drop k).length ≤ 1000000 ∧ postL t ws ((spansG f (ws.drop k) acc).plus k) σ Q E) (ws.drop k).length
        ⟨k, [a], ws.length, rfl, rfl, rfl, by rw [List.length_drop]; omega, by have := P.small; rw [List.length_drop]; simp; omega, q⟩ ?_)
      rintro m _ _ ⟨k, acc, f, rfl, rfl, rfl, hf, hz, q⟩
      have P₁ : Prs (after t ws k σ ++ [.lst acc]) j t (ws.drop k) := (P.after k).app _
      have lk : (after t ws k σ ++ [AO.lst acc])[σ.length]? = some (.lst acc) := by rw [← after_length t ws k σ]; exact last_get _ _
      have stop : hit (ws.drop k) "symbol" (some ",") = false → postL t ws (.ok acc k) σ Q E := fun hh => by
        cases f with
        | zero => exact q
        | succ f =>
          unfold spansG at q
          rw [if_neg (by rw [hh]; decide)] at q
          exact q
      refine AT_of (B.call (f := 73) (by kernel_rfl) (by kernel_rfl) (AWs_cons (B.tokens P₁ (by rfl) (AWs_cons (AW_str (AWs_cons (AW_str (AWs_nil (skip_con3 B (x := some ",") P₁.stk P₁.small (skipQ_of P₁ (fun hh w => ?_) (fun hh => ?_)))))))))))
      · refine truthy_wv ?_
        have hne : 1 ≤ (ws.drop k).length := by
          cases hw : ws.drop k with
          | nil => rw [hw] at hh; cases hh
          | cons _ _ => simp
        cases f with
        | zero => omega
        | succ f =>
          unfold spansG at q
          rw [if_pos hh] at q
          have P₂ := P₁.after 1
          have M₂ := (M.drop k).drop 1
          rw [after_app (by rw [after_length]; exact lt), after_after] at P₂ ⊢
          refine AX_cons (AS_Expr (AW_Method (AW_local (by rfl) ⟨_, append_meth (l := acc) ?_, .inl ⟨_, rfl⟩, AWs_cons (B.meth (f := 158) P₂ (by rfl) (by kernel_rfl) (by kernel_rfl) (by kernel_rfl) (by rfl) (AWs_nil (span_con B P₂ M₂ ?_)))⟩)))
          · rw [← after_length t ws (k + 1) σ]; exact last_get _ _
          · cases hs2 : spanA ((ws.drop k).drop 1) with
            | no msg i =>
              rw [hs2] at q
              have q : ∀ ext, E msg (after t ws (k + (1 + i)) σ ++ ext) := q
              show E msg (after t ((ws.drop k).drop 1) i (after t ws (k + 1) σ ++ [.lst acc]))
              rw [after_app (by rw [after_length]; exact lt), List.drop_drop, after_after, Nat.add_assoc]
              exact q _
            | ok b i =>
              rw [hs2] at q
              obtain ⟨i1, i2⟩ := spanA_ok hs2
              rw [List.length_drop, List.length_drop] at i2
              rw [List.length_drop] at hne hf hz
              show AWs W _ [] _ (after t ((ws.drop k).drop 1) i (after t ws (k + 1) σ ++ [.lst acc])) _ _
              rw [after_app (by rw [after_length]; exact lt), List.drop_drop, after_after, Nat.add_assoc]
              have lk2 : (after t ws (k + (1 + i)) σ ++ [AO.lst acc])[σ.length]? = some (.lst acc) := by rw [← after_length t ws (k + (1 + i)) σ]; exact last_get _ _
              have ls2 : (after t ws (k + (1 + i)) σ ++ [AO.lst acc]).set σ.length (.lst (acc ++ [b])) = after t ws (k + (1 + i)) σ ++ [.lst (acc ++ [b])] := by
                rw [← after_length t ws (k + (1 + i)) σ]; exact last_set _ _ _
              refine AWs_nil (append_con lk2 (by omega) ?_)
              rw [ls2]
              refine AX_nil ⟨(ws.drop (k + (1 + i))).length, by rw [List.length_drop, List.length_drop]; omega, k + (1 + i), acc ++ [b], f, rfl, rfl, rfl, by rw [List.length_drop]; omega, by rw [List.length_append, List.length_singleton, List.length_drop]; omega, ?_⟩
              rw [Ans.plus_plus, List.drop_drop] at q
              exact q
      · refine truthy_op (b := false) rfl trivial ?_
        have q := stop hh
        exact AX_cons (AS_Return (B.call (f := 94) (by kernel_rfl) (by kernel_rfl) (AWs_cons (AW_local (by rfl) (AWs_nil (range_list_node_con B q))))))
end Mine

open PySem PySem.W PySem.Calls PyProof.Rows
set_option Elab.async false
set_option linter.all false
set_option maxRecDepth 100000
set_option maxHeartbeats 2000000
namespace Mine
variable {W : Wd} {mg mb : Str → Option Value} {σ : List AO} {Q : AV → List AO → Prop} {E : Str → List AO → Prop} {n : Nat} {hd : Bool}
def identT (x : Str) : AV := .tup [.str x, .tup []]
def modT (x : Str) (b : AV) : AV := .tup [.str "mod", .tup [identT x, b]]
def noVar : Str := "Expected identifier variable"
def isMod (ws : List Wrd) : Bool := hit ws "word" (some "mod") || hit ws "symbol" (some "%")
def exprA (ws : List Wrd) : Ans AV :=
  match ws with
  | [] => .no noVar 0
  | w :: r =>
    if w.1 == ("word" : Str) then
      if isVar w.2 then
        if isMod r then
          match valA (r.drop 1) with
          | .ok b n => .ok (modT w.2 b) (1 + 1 + n)
          | .no m n => .no m (1 + 1 + n)
        else .ok (identT w.2) 1
      else .no noVar 1
    else .no noVar 0
theorem ident_node_con (B : Base W mg mb) {x : Str} (q : Q (identT x) σ) : ConC W (n + 1) hd (.ref 87) [.str x] σ Q E := by
  refine B.fn 87 (d := fst 9) (names := ["name"]) (k := 0) (by kernel_rfl) (by kernel_rfl) (by kernel_rfl) (by kernel_rfl) (by kernel_rfl) (by kernel_rfl) (by kernel_rfl) (dv := .none) (by kernel_rfl) (by kernel_rfl) (fun s vs p hp f h1 h2 kp hl => ?_) (by kernel_rfl) (by kernel_rfl) (by decide) (by kernel_rfl) (by kernel_rfl) (by kernel_rfl) ?_
  · obtain ⟨v, rfl⟩ := one_vs hl
    obtain ⟨nm, qn, params, bd, sc, gl, clo, dflt⟩ := f
    dsimp only at h1 h2
    subst h1 h2 hp
    exact BindsTo.of_eq (by kernel_rfl)
  · exact AX_cons (AS_Return (AW_Tuple (AWs_cons (AW_local (by rfl) (AWs_cons (AW_Tuple (AWs_nil ⟨by simp, AWs_nil ⟨by simp, q⟩⟩)))))))
theorem expr_con (B : Base W mg mb) {j t : Nat} {ws : List Wrd} (P : Prs σ j t ws) (M : Mild ws) (q : post t ws (exprA ws) σ Q E) : ConC W (n + 5) false (.ref 172) [.loc j] σ Q E := by
  refine B.fn 172 (d := mth 8) (names := ["self"]) (k := 0) (by kernel_rfl) (by kernel_rfl) (by kernel_rfl) (by kernel_rfl) (by kernel_rfl) (by kernel_rfl) (by kernel_rfl) (dv := .none) (by kernel_rfl) (by kernel_rfl) (fun s vs p hp f h1 h2 kp hl => ?_) (by kernel_rfl) (by kernel_rfl) (by decide) (by kernel_rfl) (by kernel_rfl) (by kernel_rfl) ?_
  · obtain ⟨v, rfl⟩ := one_vs hl
    obtain ⟨nm, qn, params, bd, sc, gl, clo, dflt⟩ := f
    dsimp only at h1 h2
    subst h1 h2 hp
    exact BindsTo.of_eq (by kernel_rfl)
  · refine AX_cons (AS_Assign (B.call (f := 73) (by kernel_rfl) (by kernel_rfl) (AWs_cons (B.tokens P (by rfl) (AWs_cons (AW_str (AWs_nil (skip_con2 B P.stk P.small ?_))))))))
    have none_road : E noVar σ → AX W ⟨(mth 8).scope, [], n + 4, false⟩ ((mth 8).body.drop 1) [("self", .loc j), ("word", .none)] σ (fun _ σ' => Q .none σ') Q E := fun hE => by
      refine AX_cons (AS_If (AT_or (AT_Compare1 (AW_local (by rfl) (AW_none (is_none_op (b := true) rfl (truthy_op (b := true) rfl trivial ?_)))))))
      exact AX_cons (B.raise rfl (AW_str ⟨_, rfl, hE⟩))
    cases ws with
    | nil =>
      refine none_road ?_
      have q : E _ _ := q
      rw [after_zero P] at q; exact q
    | cons w r =>
      have e : hit (w :: r) "word" none = (w.1 == ("word" : Str)) := by simp [hit]
      unfold exprA at q
      simp only [skipQ, e]
      cases hh : w.1 == ("word" : Str) with
      | false =>
        simp only [hh, Bool.false_eq_true, if_false] at q ⊢
        refine none_road ?_
        have q : E _ _ := q
        rw [after_zero P] at q; exact q
      | true =>
        simp only [hh, if_true] at q ⊢
        refine AX_cons (AS_If (AT_or (AT_Compare1 (AW_local (by rfl) (AW_none (is_none_op (b := false) rfl (truthy_op (b := false) rfl trivial ?_)))))))
        refine AT_or (AT_Compare1 (AW_Subscript (AW_local (by rfl) (AW_int (tup_item_op (a := .str w.2) rfl (by simp) (B.name (v := .ref 45) (by kernel_rfl) (notin_set_op B.vars (truthy_op (b := !isVar w.2) rfl trivial ?_))))))))
        cases hv : isVar w.2 with
        | false =>
          simp only [hv, Bool.false_eq_true, if_false] at q
          exact AX_cons (B.raise rfl (AW_str ⟨_, rfl, q⟩))
        | true =>
          simp only [hv, if_true] at q
          refine AT_or_nil (AX_nil ?_)
          refine AX_cons (AS_Assign (AW_Subscript (AW_local (by rfl) (AW_int (tup_item_op (a := .str w.2) rfl (by simp) ?_)))))
          have P₁ : Prs (σ.set t (.lst (stack r))) j t r := P.after 1
          have e1 : σ.set t (.lst (stack r)) = after t (w :: r) 1 σ := rfl
          have e2 : ∀ k, after t (r.drop 1) k (after t r 1 (σ.set t (.lst (stack r)))) = after t (w :: r) (1 + 1 + k) σ := fun k => by
            have h1 := after_after t r 1 k (σ.set t (.lst (stack r)))
            have h2 := after_after t (w :: r) 1 (1 + k) σ
            rw [h1, Nat.add_assoc]; exact h2
          have P₂ := P₁.after 1
          have M₂ : Mild (r.drop 1) := (M.drop 1).drop 1
          have fin : isMod r = true → post t (r.drop 1) (valA (r.drop 1)) (after t r 1 (σ.set t (.lst (stack r)))) (fun b σ' => Q (modT w.2 b) σ') E := fun hm => by
            simp only [hm, if_true] at q
            cases hv2 : valA (r.drop 1) with
            | no m i => rw [hv2] at q; simp only [post, e2]; exact q
            | ok b i => rw [hv2] at q; simp only [post, e2]; exact q
          refine AX_cons (AS_If (AT_of (B.call (f := 73) (by kernel_rfl) (by kernel_rfl) (AWs_cons (B.tokens P₁ (by rfl) (AWs_cons (AW_str (AWs_cons (AW_str (AWs_nil (skip_con3 B (x := some "mod") P₁.stk P₁.small (skipQ_of P₁ (fun h1 w2 => ?_) (fun h1 => ?_)))))))))))))
          · refine truthy_wv (AX_cons (AS_Return (AW_Tuple (AWs_cons (AW_str (AWs_cons (AW_Tuple (AWs_cons (AW_Tuple (AWs_cons (AW_local (by rfl) (AWs_cons (AW_Tuple (AWs_nil ⟨by simp, AWs_nil ⟨by simp, ?_⟩⟩))))))))))))))
            refine AWs_cons (B.meth (f := 179) P₂ (by rfl) (by kernel_rfl) (by kernel_rfl) (by kernel_rfl) (by rfl) (AWs_nil (value_conA B P₂ M₂ ?_)))
            have := fin (by unfold isMod; rw [h1]; rfl)
            cases hv2 : valA (r.drop 1) with
            | no m i => rw [hv2] at this; exact this
            | ok b i => rw [hv2] at this; exact AWs_nil ⟨by simp, AWs_nil ⟨by simp, this⟩⟩
          · refine truthy_op (b := false) rfl trivial ?_
            refine AX_cons (AS_If (AT_of (B.call (f := 73) (by kernel_rfl) (by kernel_rfl) (AWs_cons (B.tokens P₁ (by rfl) (AWs_cons (AW_str (AWs_cons (AW_str (AWs_nil (skip_con3 B (x := some "%") P₁.stk P₁.small (skipQ_of P₁ (fun h2 w2 => ?_) (fun h2 => ?_)))))))))))))
            · refine truthy_wv (AX_cons (AS_Return (AW_Tuple (AWs_cons (AW_str (AWs_cons (AW_Tuple (AWs_cons (AW_Tuple (AWs_cons (AW_local (by rfl) (AWs_cons (AW_Tuple (AWs_nil ⟨by simp, AWs_nil ⟨by simp, ?_⟩⟩))))))))))))))
              refine AWs_cons (B.meth (f := 179) P₂ (by rfl) (by kernel_rfl) (by kernel_rfl) (by kernel_rfl) (by rfl) (AWs_nil (value_conA B P₂ M₂ ?_)))
              have := fin (by unfold isMod; rw [h1, h2]; rfl)
              cases hv2 : valA (r.drop 1) with
              | no m i => rw [hv2] at this; exact this
              | ok b i => rw [hv2] at this; exact AWs_nil ⟨by simp, AWs_nil ⟨by simp, this⟩⟩
            · refine truthy_op (b := false) rfl trivial (AX_nil (AX_nil ?_))
              have hm : isMod r = false := by unfold isMod; rw [h1, h2]; rfl
              simp only [hm, Bool.false_eq_true, if_false] at q
              exact AX_cons (AS_Return (B.call (f := 87) (by kernel_rfl) (by kernel_rfl) (AWs_cons (AW_local (by rfl) (AWs_nil (ident_node_con B q))))))
end Mine

open PySem PySem.W PySem.Calls PyProof.Rows
set_option Elab.async false
set_option linter.all false
set_option maxRecDepth 100000
set_option maxHeartbeats 2000000
namespace Mine
variable {W : Wd} {mg mb : Str → Option Value} {σ : List AO} {Q : AV → List AO → Prop} {E : Str → List AO → Prop} {n : Nat} {hd : Bool}
theorem negate_con (B : Base W mg mb) {a : AV} (q : Q (.tup [.str "not", .tup [a]]) σ) : ConC W (n + 1) hd (.ref 101) [a] σ Q E := by
  refine B.fn 101 (d := fst 11) (names := ["rv"]) (k := 0) (by kernel_rfl) (by kernel_rfl) (by kernel_rfl) (by kernel_rfl) (by kernel_rfl) (by kernel_rfl) (by kernel_rfl) (dv := .none) (by kernel_rfl) (by kernel_rfl) (fun s vs p hp f h1 h2 kp hl => ?_) (by kernel_rfl) (by kernel_rfl) (by decide) (by kernel_rfl) (by kernel_rfl) (by kernel_rfl) ?_
  · obtain ⟨v, rfl⟩ := one_vs hl
    obtain ⟨nm, qn, params, bd, sc, gl, clo, dflt⟩ := f
    dsimp only at h1 h2
    subst h1 h2 hp
    exact BindsTo.of_eq (by kernel_rfl)
  · exact AX_cons (AS_Return (AW_Tuple (AWs_cons (AW_str (AWs_cons (AW_Tuple (AWs_cons (AW_local (by rfl) (AWs_nil ⟨by simp, AWs_nil ⟨by simp, q⟩⟩)))))))))
def relT (neg : Bool) (left spans : AV) : AV :=
  if neg then .tup [.str "not", .tup [.tup [.str "relation", .tup [.str "in", left, spans]]]] else .tup [.str "relation", .tup [.str "in", left, spans]]
def wayMsg : Str := "Expected \"=\" or \"!=\" or legacy relation"
def postR (t : Nat) (ws : List Wrd) (neg : Bool) (left : AV) (a : Ans (List AV)) (σ : List AO) (Q : AV → List AO → Prop) (E : Str → List AO → Prop) : Prop :=
  match a with
  | .ok items n => Q (relT neg left (.tup [.str "range_list", .loc σ.length])) (after t ws n σ ++ [.lst items])
  | .no msg n => ∀ ext, E msg (after t ws n σ ++ ext)
def newQ (t : Nat) (ws : List Wrd) (left : AV) (σ : List AO) (Q : AV → List AO → Prop) (E : Str → List AO → Prop) : Prop :=
  if hit ws "symbol" (some "=") then postR t ws false left ((spansA (ws.drop 1)).plus 1) σ Q E
  else if hit ws "symbol" (some "!=") then postR t ws true left ((spansA (ws.drop 1)).plus 1) σ Q E
  else E wayMsg σ
theorem way_rest (B : Base W mg mb) {j t : Nat} {ws : List Wrd} {left : AV} {neg : Bool} (P : Prs σ j t ws) (M : Mild ws) (q : postR t ws neg left ((spansA (ws.drop 1)).plus 1) σ Q E) :
    AX W ⟨(mth 5).scope, [], n + 6, false⟩ ((mth 5).body.drop 1) [("self", .loc j), ("left", left), ("negated", .bool neg)] (after t ws 1 σ) (fun _ σ' => Q .none σ') Q E := by
  have P₁ := P.after 1
  refine AX_cons (AS_Assign (AW_Tuple (AWs_cons (AW_str (AWs_cons (AW_Tuple (AWs_cons (AW_str (AWs_cons (AW_local (by rfl) ?_)))))))))) 
  refine AWs_cons (B.meth (f := 165) P₁ (by rfl) (by kernel_rfl) (by kernel_rfl) (by kernel_rfl) (by rfl) (AWs_nil (range_list_con B P₁ (M.drop 1) ?_)))
  cases hs : spansA (ws.drop 1) with
  | no m k =>
    rw [hs] at q
    have q : ∀ ext, E m (after t ws (1 + k) σ ++ ext) := q
    simp only [postL, after_after]
    exact q
  | ok items k =>
    rw [hs] at q
    have q : Q (relT neg left (.tup [.str "range_list", .loc σ.length])) (after t ws (1 + k) σ ++ [.lst items]) := q
    simp only [postL, after_after, after_length]
    refine AWs_nil ⟨by simp, AWs_nil ⟨by simp, ?_⟩⟩
    cases neg with
    | true => exact AX_cons (AS_Return (AW_IfExp (AT_of (AW_local (by rfl) (truthy_op (a := .bool true) (b := true) rfl trivial (B.call (f := 101) (by kernel_rfl) (by kernel_rfl) (AWs_cons (AW_local (by rfl) (AWs_nil (negate_con B q)))))))))) 
    | false => exact AX_cons (AS_Return (AW_IfExp (AT_of (AW_local (by rfl) (truthy_op (a := .bool false) (b := false) rfl trivial (AW_local (by rfl) q))))))
theorem new_con (B : Base W mg mb) {j t : Nat} {ws : List Wrd} {left : AV} (P : Prs σ j t ws) (M : Mild ws) (q : newQ t ws left σ Q E) : ConC W (n + 7) false (.ref 151) [.loc j, left] σ Q E := by
  refine B.fn 151 (d := mth 5) (names := ["self", "left"]) (k := 0) (by kernel_rfl) (by kernel_rfl) (by kernel_rfl) (by kernel_rfl) (by kernel_rfl) (by kernel_rfl) (by kernel_rfl) (dv := .none) (by kernel_rfl) (by kernel_rfl) (fun s vs p hp f h1 h2 kp hl => ?_) (by kernel_rfl) (by kernel_rfl) (by decide) (by kernel_rfl) (by kernel_rfl) (by kernel_rfl) ?_
  · obtain ⟨v, u, rfl⟩ := two_vs hl
    obtain ⟨nm, qn, params, bd, sc, gl, clo, dflt⟩ := f
    dsimp only at h1 h2
    subst h1 h2 hp
    exact BindsTo.of_eq (by kernel_rfl)
  · unfold newQ at q
    refine AX_cons (AS_If (AT_of (B.call (f := 73) (by kernel_rfl) (by kernel_rfl) (AWs_cons (B.tokens P (by rfl) (AWs_cons (AW_str (AWs_cons (AW_str (AWs_nil (skip_con3 B (x := some "=") P.stk P.small (skipQ_of P (fun h1 w2 => ?_) (fun h1 => ?_)))))))))))))
    · rw [if_pos h1] at q
      exact truthy_wv (AX_cons (AS_Assign (AW_bool (AX_nil (way_rest B P M q)))))
    · rw [if_neg (by rw [h1]; decide)] at q
      refine truthy_op (b := false) rfl trivial ?_
      refine AX_cons (AS_If (AT_of (B.call (f := 73) (by kernel_rfl) (by kernel_rfl) (AWs_cons (B.tokens P (by rfl) (AWs_cons (AW_str (AWs_cons (AW_str (AWs_nil (skip_con3 B (x := some "!=") P.stk P.small (skipQ_of P (fun h2 w2 => ?_) (fun h2 => ?_)))))))))))))
      · rw [if_pos h2] at q
        exact truthy_wv (AX_cons (AS_Assign (AW_bool (AX_nil (AX_nil (way_rest B P M q))))))
      · rw [if_neg (by rw [h2]; decide)] at q
        exact truthy_op (b := false) rfl trivial (AX_cons (B.raise rfl (AW_str ⟨_, rfl, q⟩)))
end Mine

open PySem PySem.W PySem.Calls PyProof.Rows
set_option Elab.async false
set_option linter.all false
set_option maxRecDepth 100000
set_option maxHeartbeats 2000000
namespace Mine
variable {W : Wd} {mg mb : Str → Option Value} {σ : List AO} {Q : AV → List AO → Prop} {E : Str → List AO → Prop} {n : Nat} {hd : Bool} {X : Fx}
theorem split_meth {x : Str} : AMeth W X "split" (.str x) (.builtin "str.split") σ := by
  intro A fl ι s v ok I r pl P EE h
  simp only [Rel] at r
  obtain ⟨t, rfl⟩ := r
  exact getMethod_builtin (T := "str") (typeIs_str _ _ _) PySem.F.plainAttrs_str PySem.F.slot_str_split PySem.F.type_str_split (fun a e => nomatch e) h
theorem split_con {x y : Str} (h1 : (decide (x.length < y.length) || decide (Builtin.Str.strKind x < Builtin.Str.strKind y)) = true) (q : Q (.loc σ.length) (σ ++ [.lst [.str x]])) : Con W n hd (.builtin "str.split") [.str x, .str y] σ Q E := by
  intro A fl ι s vs ok I rl
  simp only [RelL, Rel] at rl
  obtain ⟨_, _, rfl, ⟨t, rfl⟩, _, _, rfl, ⟨u, rfl⟩, rfl⟩ := rl
  refine PySem.call_meets (prog := W.prog) (w := W.w) PySem.F.slot_str_split (typeIs_str _ _ _) PySem.F.entry_str_split (PySem.F.args_str_split_2 _ _) (PySem.meets_str_split_cannot_occur x y t u h1) ?_
  exact ⟨.loc σ.length, _, _, q, by simp only [Rel]; exact ⟨_, rfl, loc_new I.srel.len⟩, I.alloc (o := .lst [.str x]) ⟨[.str x t], 0, Heap.get?_push_size _ rfl, .cons (by simp only [Rel]; exact ⟨_, rfl⟩) RelL.nil⟩, step_alloc⟩
theorem lens_con {x : Str} (hz : x.length ≤ 1000000) (q : Q (.int x.length) σ) : Con W n hd (.builtin "len") [.str x] σ Q E := by
  intro A fl ι s vs ok I rl
  obtain ⟨v, rfl, rv⟩ := one_arg rl
  simp only [Rel] at rv
  obtain ⟨t, rfl⟩ := rv
  exact PySem.P.len_str (prog := W.prog) (w := W.w) (by omega) (Got.here q (by simp only [Rel]; exact ⟨_, rfl⟩) (I.toks _) rfl)
theorem tokenize_con (B : Base W mg mb) (q : Q (.loc (σ.length + 2)) (σ ++ [.lst [.str ""]] ++ [.lst []] ++ [.lst []])) : ConC W (n + 1) hd (.ref 57) [.str ""] σ Q E := by
  refine B.fn 57 (d := fst 5) (names := ["s"]) (k := 0) (by kernel_rfl) (by kernel_rfl) (by kernel_rfl) (by kernel_rfl) (by kernel_rfl) (by kernel_rfl) (by kernel_rfl) (dv := .none) (by kernel_rfl) (by kernel_rfl) (fun s vs p hp f h1 h2 kp hl => ?_) (by kernel_rfl) (by kernel_rfl) (by decide) (by kernel_rfl) (by kernel_rfl) (by kernel_rfl) ?_
  · obtain ⟨v, rfl⟩ := one_vs hl
    obtain ⟨nm, qn, params, bd, sc, gl, clo, dflt⟩ := f
    dsimp only at h1 h2
    subst h1 h2 hp
    exact BindsTo.of_eq (by kernel_rfl)
  · refine AX_cons (AS_Assign (AW_Subscript (AW_Method (AW_local (by rfl) ⟨_, split_meth, .inl ⟨_, rfl⟩, AWs_cons (AW_str (AWs_nil (split_con (by decide +kernel) ?_)))⟩))))
    refine AW_int (list_item_op (last_get σ (.lst [.str ""])) (a := .str "") rfl (by simp) ?_)
    refine AX_cons (AS_Assign (AW_List (AWs_nil ⟨by simp, ?_⟩)))
    refine AX_cons (AS_Assign (AW_int ?_))
    refine AX_cons (AS_Assign (AW_Call (B.bname (v := .builtin "len") (by kernel_rfl) (by kernel_rfl) (by decide) ⟨_, rfl, .inl ⟨_, rfl⟩, AWs_cons (AW_local (by rfl) (AWs_nil (lens_con (x := "") (by decide) ?_)))⟩)))
    refine AX_cons (AS_While (fun m ρ' σ' => ρ' = ([("s", AV.str ""), ("result", .loc (σ.length + 1)), ("pos", .int 0), ("end", .int 0)] : List (Str × AV)) ∧ σ' = σ ++ [.lst [.str ""]] ++ [.lst []]) 0 ⟨?_, rfl⟩ ?_)
    · have e : (σ ++ [AO.lst [AV.str ""]]).length = σ.length + 1 := by simp
      rw [e]; rfl
    · rintro m _ _ ⟨rfl, rfl⟩
      refine AT_Compare1 (AW_local (by rfl) (AW_local (by rfl) (lt_op (truthy_op (b := false) rfl trivial ?_))))
      have lg := last_get (σ ++ [AO.lst [AV.str ""]]) (.lst [])
      have e : (σ ++ [AO.lst [AV.str ""]]).length = σ.length + 1 := by simp
      have e2 : (σ ++ [AO.lst [AV.str ""]] ++ [AO.lst []]).length = σ.length + 2 := by simp
      rw [e] at lg
      refine AX_cons (AS_Return (AW_slice (AW_local (by rfl) ?_)))
      show AW W _ _ _ _ _ _
      refine AW_neg (AW_int ⟨rfl, _, rfl, _, [], [], rfl, lg, by simp, rfl, ?_⟩)
      rw [e2]; exact q
end Mine

open PySem PySem.W PySem.Calls PyProof.Rows
set_option Elab.async false
set_option linter.all false
set_option maxRecDepth 100000
set_option maxHeartbeats 2000000
namespace Mine
variable {W : Wd} {mg mb : Str → Option Value} {σ : List AO} {Q : AV → List AO → Prop} {E : Str → List AO → Prop} {n : Nat} {hd : Bool} {X : Fx}
/-- `_Parser('')`: a fresh parser with an empty stack -/
theorem init_con (B : Base W mg mb) {j d : Nat} (h1 : σ[j]? = some (.inst 182 d)) (h2 : σ[d]? = some (.dct []))
    (q : ∀ σ', σ' = ((σ ++ [AO.lst [AV.str ""]] ++ [AO.lst []] ++ [AO.lst []]).set d (AO.dct [("tokens", AV.loc (σ.length + 2)), ("ast", AV.none)])) → Q .none σ') : ConC W (n + 2) hd (.ref 115) [.loc j, .str ""] σ Q E := by
  refine B.fn 115 (d := mth 0) (names := ["self", "string"]) (k := 0) (by kernel_rfl) (by kernel_rfl) (by kernel_rfl) (by kernel_rfl) (by kernel_rfl) (by kernel_rfl) (by kernel_rfl) (dv := .none) (by kernel_rfl) (by kernel_rfl) (fun s vs p hp f h1 h2 kp hl => ?_) (by kernel_rfl) (by kernel_rfl) (by decide) (by kernel_rfl) (by kernel_rfl) (by kernel_rfl) ?_
  · obtain ⟨v, u, rfl⟩ := two_vs hl
    obtain ⟨nm, qn, params, bd, sc, gl, clo, dflt⟩ := f
    dsimp only at h1 h2
    subst h1 h2 hp
    exact BindsTo.of_eq (by kernel_rfl)
  · have lj := (List.getElem?_eq_some_iff.mp h1).1
    have ld := (List.getElem?_eq_some_iff.mp h2).1
    have a1 : (σ ++ [AO.lst [AV.str ""]] ++ [AO.lst []] ++ [AO.lst []])[j]? = some (.inst 182 d) := by rw [List.append_assoc, List.append_assoc, List.getElem?_append_left lj]; exact h1
    have a2 : (σ ++ [AO.lst [AV.str ""]] ++ [AO.lst []] ++ [AO.lst []])[d]? = some (.dct []) := by rw [List.append_assoc, List.append_assoc, List.getElem?_append_left ld]; exact h2
    refine AX_cons (AS_SetAttr B.X (B.call (f := 57) (by kernel_rfl) (by kernel_rfl) (AWs_cons (AW_local (by rfl) (AWs_nil (tokenize_con B ?_))))))
    refine AW_local (by rfl) ⟨j, 182, d, [], rfl, a1, a2, by kernel_rfl, by kernel_rfl, by kernel_rfl, by kernel_rfl, by simp, ?_⟩
    generalize hS : σ ++ [AO.lst [AV.str ""]] ++ [AO.lst []] ++ [AO.lst []] = S at a1 a2 q ⊢
    have lS := (List.getElem?_eq_some_iff.mp a2).1
    have hjd : d ≠ j := fun w => by rw [w, a1] at a2; cases a2
    have b1 : (S.set d (.dct [("tokens", .loc (σ.length + 2))]))[j]? = some (.inst 182 d) := by rw [List.getElem?_set_ne hjd]; exact a1
    have b2 : (S.set d (.dct [("tokens", .loc (σ.length + 2))]))[d]? = some (.dct [("tokens", .loc (σ.length + 2))]) := List.getElem?_set_self lS
    have htk : S[σ.length + 2]? = some (.lst []) := by
      rw [← hS]
      have e2 : (σ ++ [AO.lst [AV.str ""]] ++ [AO.lst []]).length = σ.length + 2 := by simp
      rw [← e2]; exact last_get _ _
    have hdt : d ≠ σ.length + 2 := fun w => by rw [w, htk] at a2; cases a2
    have b3 : (S.set d (.dct [("tokens", .loc (σ.length + 2))]))[σ.length + 2]? = some (.lst []) := by rw [List.getElem?_set_ne hdt]; exact htk
    show AX W _ _ _ (S.set d (AO.dct [(("tokens" : Str), AV.loc (σ.length + 2))])) _ _ _
    refine AX_cons (AS_If (AT_not (AT_of (AW_Attr B.X (AW_local (by rfl) ⟨j, 182, [("tokens", .loc (σ.length + 2))], .loc (σ.length + 2), none, rfl, ⟨d, b1, b2⟩, by kernel_rfl, by kernel_rfl, by kernel_rfl, by kernel_rfl, by rfl, rfl, truthy_op (b := false) ?_ ?_ ?_⟩)))))
    · simp only [truthOf, b3]; rfl
    · intro l e; rw [b3] at e; cases e; simp
    · refine AX_cons (AS_SetAttr B.X (AW_none (AW_local (by rfl) ⟨j, 182, d, [("tokens", .loc (σ.length + 2))], rfl, b1, b2, by kernel_rfl, by kernel_rfl, by kernel_rfl, by kernel_rfl, by simp, ?_⟩)))
      exact AX_cons (AS_Return0 (q _ (by rw [List.set_set]; rfl)))
end Mine

open PySem PySem.W PySem.Calls PySem.NumText PyProof.Rows
set_option Elab.async false
set_option linter.all false
set_option maxRecDepth 100000
set_option maxHeartbeats 2000000
namespace Mine
variable {W : Wd} {mg mb : Str → Option Value} {σ : List AO} {Q : AV → List AO → Prop} {E : Str → List AO → Prop} {n : Nat} {hd : Bool} {X : Fx}
/- texts -/
def TokStr (x : Str) : Prop := ∀ c ∈ x.cps.toList, c < 0x110000 ∧ c ≠ 39 ∧ Builtin.Str.reprChar 39 c = [c]
theorem str_ext {x y : Str} (h : x.cps.toList = y.cps.toList) : x = y := congrArg Str.mk (Array.toList_inj.mp h)
theorem app_list (x y : Str) : (x ++ y).cps.toList = x.cps.toList ++ y.cps.toList := PySem.W.KT.app_list x y
theorem str_assoc (x y z : Str) : x ++ y ++ z = x ++ (y ++ z) := str_ext (by rw [app_list, app_list, app_list, app_list, List.append_assoc])
theorem empty_str (x : Str) : Str.empty ++ x = x := PySem.W.KT.empty_app x
theorem foldl_quiet : ∀ (l : List Nat) (acc : Array Nat), (∀ c ∈ l, Builtin.Str.reprChar 39 c = [c]) → (l.foldl (fun out c => out ++ (Builtin.Str.reprChar 39 c).toArray) acc).toList = acc.toList ++ l
  | [], acc, _ => by simp
  | c :: r, acc, h => by
    rw [List.foldl_cons, foldl_quiet r _ fun d hd => h d (.tail _ hd), h c (.head _)]
    simp
def quote1 : Str := "'"
theorem repr_tok {x : Str} (h : TokStr x) : reprText x = quote1 ++ x ++ quote1 := by
  have hq : reprQuote x = 39 := by
    unfold reprQuote
    have : x.cps.contains 39 = false := by
      cases e : x.cps.contains 39 with
      | false => rfl
      | true =>
        have hm : 39 ∈ x.cps := Array.contains_iff_mem.mp e
        exact absurd rfl (h 39 (Array.mem_toList_iff.mpr hm)).2.1
    rw [this]; rfl
  refine str_ext ?_
  unfold reprText
  rw [hq, app_list, app_list]
  show ((x.cps.foldl (fun out c => out ++ (Builtin.Str.reprChar 39 c).toArray) #[39]).push 39).toList = _
  rw [Array.toList_push, ← Array.foldl_toList, foldl_quiet _ _ fun c hc => (h c hc).2.2]
  have e : quote1.cps.toList = [39] := by decide +kernel
  rw [e]
theorem TokStr.ok {x : Str} (h : TokStr x) : PyData.strOk x = true := by
  unfold PyData.strOk
  rw [← Array.all_toList, List.all_eq_true]
  exact fun c hc => decide_eq_true (h c hc).1
theorem TokStr.app {x y : Str} (h : TokStr x) (g : TokStr y) : TokStr (x ++ y) := fun c hc => by
  rw [app_list] at hc
  exact (List.mem_append.mp hc).elim (h c) (g c)
theorem tok_digits {x : Str} (h : AllDigits x.cps.toList) : TokStr x := fun c hc => by
  have r := h c hc
  have key : ∀ c : Nat, c < 58 → 48 ≤ c → Builtin.Str.reprChar 39 c = [c] := by decide +kernel
  exact ⟨by omega, by omega, key c (by omega) r.1⟩
def tokB (x : Str) : Bool := x.cps.toList.all fun c => decide (c < 0x110000) && (decide (c ≠ 39) && decide (Builtin.Str.reprChar 39 c = [c]))
theorem tok_of {x : Str} (h : tokB x = true) : TokStr x := fun c hc => by
  have := List.all_eq_true.mp h c hc
  simpa [Bool.and_eq_true] using this
/-- a number's text -/
def digits (a : Nat) : Str := Str.ofString (toString ((a : Nat) : Int))
theorem digits_list (a : Nat) : (digits a).cps.toList = (Nat.toDigits 10 a).map Char.toNat := PySem.W.KIN.signs_num a
theorem digits_all (a : Nat) : AllDigits (digits a).cps.toList := fun c hc => by
  rw [digits_list] at hc
  obtain ⟨ch, hch, e⟩ := List.mem_map.mp hc
  rw [← e]
  exact digit_range (Nat.isDigit_of_mem_toDigits (by decide) (by decide) hch)
theorem digits_ne (a : Nat) : (digits a).cps.toList ≠ [] := by
  rw [digits_list]
  intro e
  have h := toDigits_len_ge 10 a
  rw [List.map_eq_nil_iff.mp e] at h
  exact absurd h (by decide)
theorem digits_len {a k : Nat} (hk : 0 < k) (h : a < 10 ^ k) : (digits a).length ≤ k :=
  toString_length_le (v := (a : Int)) (by omega) hk (by exact_mod_cast h)
def zeroed (b : Bool) (a : Nat) : Str := (if b then ("0" : Str) else "") ++ digits a
theorem zeroed_list (b : Bool) (a : Nat) : (zeroed b a).cps.toList = (if b then [48] else []) ++ (digits a).cps.toList := by
  unfold zeroed
  rw [app_list]
  cases b with
  | true => have e : (("0" : Str)).cps.toList = [48] := by decide +kernel
            rw [if_pos rfl, if_pos rfl, e]
  | false => have e : (("" : Str)).cps.toList = [] := by decide +kernel
             rw [if_neg (by decide), if_neg (by decide), e]
theorem zeroed_all (b : Bool) (a : Nat) : AllDigits (zeroed b a).cps.toList := fun c hc => by
  rw [zeroed_list] at hc
  rcases List.mem_append.mp hc with h | h
  · cases b with
    | true => rw [if_pos rfl] at h; have := List.mem_singleton.mp h; omega
    | false => rw [if_neg (by decide)] at h; cases h
  · exact digits_all a c h
theorem zeroed_len (b : Bool) {a : Nat} (h : a < 10 ^ 40) : (zeroed b a).length ≤ 41 := by
  have h1 := digits_len (k := 40) (by decide) h
  have e : (zeroed b a).length = (zeroed b a).cps.toList.length := (Array.length_toList).symm
  have e2 : (digits a).length = (digits a).cps.toList.length := (Array.length_toList).symm
  rw [e, zeroed_list, List.length_append, ← e2]
  cases b with
  | true => rw [if_pos rfl]; simp; omega
  | false => rw [if_neg (by decide)]; simp; omega
theorem zeroed_num (b : Bool) {a : Nat} (h : a < 10 ^ 40) : PySem.intText? (zeroed b a) = some (a : Int) := by
  have ne : (zeroed b a).cps.toList ≠ [] := by
    rw [zeroed_list]
    exact fun q => digits_ne a (List.append_eq_nil_iff.mp q).2
  rw [intText_digits (zeroed_all b a) ne (by have := zeroed_len b h; omega), zeroed_list]
  have e : digitsVal ((if b then [48] else []) ++ (digits a).cps.toList) = digitsVal (digits a).cps.toList := by
    cases b with
    | true => rw [if_pos rfl]; rfl
    | false => rw [if_neg (by decide)]; rfl
  rw [e, digits_list, PySem.W.KIN.val_back]
/- the law's words -/
def lawAny : List Wrd := [("word", "n"), ("word", "i"), ("word", "v"), ("word", "w"), ("word", "f"), ("word", "t"), ("word", "c"), ("word", "e"), ("word", "mod"), ("word", "is"), ("word", "not"), ("word", "in"), ("word", "within"), ("word", "and"), ("word", "or"), ("symbol", "%"), ("symbol", ","), ("symbol", "="), ("symbol", "!="), ("ellipsis", ".."), ("ellipsis", "..."), ("ellipsis", "…"), ("value", "0"), ("value", "007")]
def lawLetters : List Str := ["n", "i", "v", "w", "f", "t", "c", "e"]
def lawKinds : List Str := ["word", "value", "symbol", "ellipsis"]
def lawPoints : List Str := ["..", "...", "…"]
/-- a word of the law: its kind one of four, its text quiet and short, a value's text a number -/
structure Tame (w : Wrd) : Prop where
  kind : w.1 ∈ lawKinds
  tok : TokStr w.2
  len : w.2.length ≤ 41
  ne : w.2.length ≠ 0
  val : w.1 = ("value" : Str) → (PySem.intText? w.2).isSome = true
def tameB (w : Wrd) : Bool := lawKinds.contains w.1 && (tokB w.2 && (decide (w.2.length ≤ 41) && (decide (w.2.length ≠ 0) && (w.1 != ("value" : Str) || (PySem.intText? w.2).isSome))))
theorem tame_of {w : Wrd} (h : tameB w = true) : Tame w := by
  simp only [tameB, Bool.and_eq_true, decide_eq_true_eq, Bool.or_eq_true] at h
  obtain ⟨h1, h2, h3, h4, h5⟩ := h
  refine ⟨by simpa using h1, tok_of h2, h3, h4, fun e => ?_⟩
  rcases h5 with h5 | h5
  · rw [e] at h5; simp at h5
  · exact h5
theorem tame_all {α : Type} {l : List α} {f : α → Wrd} (h : (l.all fun x => tameB (f x)) = true) : ∀ x ∈ l, Tame (f x) := fun x hx => tame_of (List.all_eq_true.mp h x hx)
theorem tame_any : ∀ w ∈ lawAny, Tame w := tame_all (f := id) (by kernel_rfl)
theorem repr_tok_len {x : Str} (h : TokStr x) : (reprText x).length ≤ 10 * x.length + 2 := StrLaws.reprText_len x fun c hc => Nat.lt_of_lt_of_le (h c hc).1 (by decide)
theorem mild_of {ws : List Wrd} (h : ∀ w ∈ ws, Tame w) : Mild ws :=
  ⟨fun w hw => ⟨Nat.le_trans (h w hw).len (by decide), Nat.le_trans (repr_tok_len (h w hw).tok) (by have := (h w hw).len; omega)⟩, fun w hw hv => ⟨(h w hw).val hv, Nat.le_trans (h w hw).len (by decide)⟩⟩
theorem getD_mem {α : Type} {l : List α} {i : Nat} {d : α} (h : i < l.length) : l.getD i d ∈ l := by
  rw [List.getD_eq_getElem?_getD, List.getElem?_eq_getElem h]; exact List.getElem_mem h
/- the program's tuples of texts -/
mutual
def relIn (K : Frag) (v : Value) : AV → Bool
  | .str x => match v with | .str y _ => y == x | _ => false
  | .int i => match v with | .int j _ => j == i | _ => false
  | .tup l => match v with
    | .ref a => match K.lookup a with
      | some o => o.cls == .type "tuple" && (match o.data with | .seq vs _ => relsIn K vs.toList l | _ => false)
      | none => false
    | _ => false
  | _ => false
def relsIn (K : Frag) (vs : List Value) : List AV → Bool
  | [] => vs.isEmpty
  | a :: l => match vs with | [] => false | v :: r => relIn K v a && relsIn K r l
end
mutual
theorem relIn_sound {K : Frag} {h : Heap} (XK : K.In h) {v : Value} : ∀ {a : AV}, relIn K v a = true → Rel [] h v a
  | .str x, e => by
    simp only [relIn] at e
    split at e
    · simp only [Rel]; exact ⟨_, by rw [eq_of_beq e]⟩
    · cases e
  | .tup l, e => by
    simp only [relIn] at e
    split at e
    · rename_i a
      split at e
      · rename_i o ho
        simp only [Bool.and_eq_true] at e
        obtain ⟨e1, e2⟩ := e
        split at e2
        · rename_i vs n hdt
          simp only [Rel]
          exact ⟨a, vs.toList, rfl, ⟨o, n, XK _ _ ho, beq_iff_eq.mp e1, by rw [hdt]⟩, relsIn_sound XK e2⟩
        · cases e2
      · cases e
    · cases e
  | .none, e => by simp only [relIn] at e; cases e
  | .bool _, e => by simp only [relIn] at e; cases e
  | .int i, e => by
    simp only [relIn] at e
    split at e
    · simp only [Rel]; exact ⟨_, by rw [eq_of_beq e]⟩
    · cases e
  | .loc _, e => by simp only [relIn] at e; cases e
  | .val _, e => by simp only [relIn] at e; cases e
theorem relsIn_sound {K : Frag} {h : Heap} (XK : K.In h) {vs : List Value} : ∀ {l : List AV}, relsIn K vs l = true → RelL [] h vs l
  | [], e => by
    simp only [relsIn] at e
    rw [List.isEmpty_iff.mp e]; exact RelL.nil
  | a :: l, e => by
    simp only [relsIn] at e
    split at e
    · cases e
    · simp only [Bool.and_eq_true] at e
      exact RelL.cons (relIn_sound XK e.1) (relsIn_sound XK e.2)
end
theorem Base.tupn (B : Base W mg mb) {X : Fx} {ρ : List (Str × AV)} {x : Str} {v : Value} {a : AV} {pos : Pos} (e : nsIn (K W.w.params) mainGlobals x = some (some v)) (r : relIn (K W.w.params) v a = true) (q : Q a σ) (hk : X.scope.kind = .function := by rfl)
    (hl : X.scope.names.lookup x = some .globalImplicit := by rfl) (hdb : (x == ("__debug__" : Str)) = false := by decide) : AW W X (.Name x pos) ρ σ Q E :=
  AW_global B.hg (B.glob e) (relIn_sound B.X r) q hk hl hdb
/- numbers -/
theorem nopylong {x y : Int} (h : y.natAbs < 2 ^ 64) : PySem.Builtin.divisionGoesByPylong x y = false := by
  unfold PySem.Builtin.divisionGoesByPylong
  simp only [Bool.and_eq_false_iff, decide_eq_false_iff_not]
  left
  split
  · decide
  · have : y.natAbs.log2 < 64 := by
      by_cases h0 : y.natAbs = 0
      · rw [h0]; decide
      · exact (Nat.log2_lt h0).mpr h
    omega
theorem divn_op {i k : Nat} {j : Int} (hj : j = (k : Int)) (hk : k ≠ 0) (h : k < 2 ^ 64) (q : Q (.int ((i / k : Nat) : Int)) σ) : AOp2 W X (binaryOp .FloorDiv) (.int (i : Int)) (.int j) σ Q E := by
  subst hj
  refine div_int_op (by omega) (nopylong (by simpa using h)) ?_
  have e : (i : Int).fdiv (k : Int) = ((i / k : Nat) : Int) := by
    rw [Int.fdiv_eq_ediv_of_nonneg _ (by omega)]; rfl
  rw [e]; exact q
theorem modn_op {i k : Nat} {j : Int} (hj : j = (k : Int)) (hk : k ≠ 0) (q : Q (.int ((i % k : Nat) : Int)) σ) : AOp2 W X (binaryOp .Mod) (.int (i : Int)) (.int j) σ Q E := by
  subst hj
  refine mod_int_op (by omega) ?_
  have e : (i : Int).fmod (k : Int) = ((i % k : Nat) : Int) := by
    rw [Int.fmod_eq_emod_of_nonneg _ (by omega)]; rfl
  rw [e]; exact q
theorem eqv_int (i j : Int) : PyData.eqv (.int i) (.int j) = (i == j) := by unfold PyData.eqv; rfl
theorem eqn_op {i k : Nat} {j : Int} (hj : j = (k : Int)) (q : Q (.bool (decide (i = k))) σ) : AOp2 W X (compareOp .Eq) (.int (i : Int)) (.int j) σ Q E := by
  subst hj
  refine eq_op (da := .int (i : Int)) (db := .int (k : Int)) (by simp only [Is]) (by simp only [Is]) (by rfl) (by rfl) ?_
  rw [eqv_int]
  have : ((i : Int) == (k : Int)) = decide (i = k) := by
    rw [Bool.eq_iff_iff, beq_iff_eq, decide_eq_true_eq]; omega
  rw [this]; exact q
theorem item_nat {l : List AV} {i : Nat} {a : AV} (h : l[i]? = some a) : itemAt l (i : Int) = some a := by
  unfold itemAt
  rw [if_pos (by omega)]; exact h
theorem any_item {i : Nat} (h : i < 24) : itemAt (lawAny.map wv) (i : Int) = some (wv (lawAny.getD i default)) := by
  refine item_nat ?_
  have hl : i < lawAny.length := h
  rw [List.getElem?_map, List.getElem?_eq_getElem hl, List.getD_eq_getElem?_getD, List.getElem?_eq_getElem hl]; rfl
theorem strs_item {l : List Str} {i : Nat} (h : i < l.length) : itemAt (l.map AV.str) (i : Int) = some (.str (l.getD i default)) := by
  refine item_nat ?_
  rw [List.getElem?_map, List.getElem?_eq_getElem h, List.getD_eq_getElem?_getD, List.getElem?_eq_getElem h]; rfl
theorem drop_cons {ws : List Wrd} {i : Nat} {w : Wrd} {r : List Wrd} (h : ws.drop i = w :: r) : ws[i]? = some w ∧ i < ws.length ∧ ws.drop (i + 1) = r := by
  have hl : i < ws.length := by
    have := congrArg List.length h
    rw [List.length_drop, List.length_cons] at this; omega
  rw [List.drop_eq_getElem_cons hl] at h
  injection h with h1 h2
  exact ⟨by rw [List.getElem?_eq_getElem hl, h1], hl, h2⟩
theorem drop_nil {ws : List Wrd} {i : Nat} (h : ws.drop i = []) : ¬ i < ws.length := by
  have := congrArg List.length h
  rw [List.length_drop, List.length_nil] at this; omega
theorem ltn_op {i j : Nat} (q : Q (.bool (decide (i < j))) σ) : AOp2 W X (compareOp .Lt) (.int (i : Int)) (.int (j : Int)) σ Q E := by
  refine lt_op ?_
  have : decide ((i : Int) < (j : Int)) = decide (i < j) := by
    rw [Bool.eq_iff_iff, decide_eq_true_eq, decide_eq_true_eq]; omega
  rw [this]; exact q
theorem gen_op {i j : Nat} (q : Q (.bool (decide (j ≤ i))) σ) : AOp2 W X (compareOp .GtE) (.int (i : Int)) (.int (j : Int)) σ Q E := by
  refine ge_op ?_
  have : decide ((i : Int) ≥ (j : Int)) = decide (j ≤ i) := by
    rw [Bool.eq_iff_iff, decide_eq_true_eq, decide_eq_true_eq]; omega
  rw [this]; exact q
theorem addn_op {i k : Nat} {j : Int} (hj : j = (k : Int)) (q : Q (.int ((i + k : Nat) : Int)) σ) : AOp2 W X (binaryOp .Add) (.int (i : Int)) (.int j) σ Q E := by
  subst hj
  refine add_int_op ?_
  rw [Int.natCast_add] at q; exact q
theorem wv_one {w : Wrd} {value slice : Expr} (q : Q (.str w.2) σ) : ATail W X value slice (wv w) (.int 1) σ Q E := tup_item_op (a := .str w.2) rfl (by simp) q
theorem wv_zero {w : Wrd} {value slice : Expr} (q : Q (.str w.1) σ) : ATail W X value slice (wv w) (.int 0) σ Q E := tup_item_op (a := .str w.1) rfl (by simp) q
theorem is_wv (w : Wrd) : Is σ (wv w) (.tuple [.str w.1, .str w.2]) := by simp [Is, IsL, wv]
theorem eqv_wv (w u : Wrd) : PyData.eqv (.tuple [.str w.1, .str w.2]) (.tuple [.str u.1, .str u.2]) = (w.1 == u.1 && w.2 == u.2) := by
  simp [PyData.eqv, PyData.eqvAll]
theorem kind_ok {x : Str} (h : x ∈ lawKinds) : PyData.strOk x = true := by
  have : ∀ x ∈ lawKinds, PyData.strOk x = true := fun x hx => List.all_eq_true.mp (by kernel_rfl : (lawKinds.all PyData.strOk) = true) x hx
  exact this x h
theorem wv_shaped {w : Wrd} (t : Tame w) : SeqAt.shaped (.tuple [.str w.1, .str w.2]) = true := by
  unfold SeqAt.shaped
  simp [PyData.canLay0, PyData.canLayAll0, PyData.depth, PyData.depthAll, kind_ok t.kind, t.tok.ok]
/-- `_Parser('')` -/
theorem parser_con (B : Base W mg mb) (q : ∀ ext d0, ext.length = 5 → ext[0]? = some (AO.dct [("tokens", d0), ("ast", AV.none)]) → ext[1]? = some (AO.inst 182 σ.length) → Q (.loc (σ.length + 1)) (σ ++ ext)) : ConC W (n + 3) hd (.ref 182) [.str ""] σ Q E := by
  refine make_con B.X (fI := 115) (by kernel_rfl) (by kernel_rfl) (by kernel_rfl) (init_con B (d := σ.length) ?_ ?_ ?_)
  · have e : (σ ++ [AO.dct []]).length = σ.length + 1 := by simp
    rw [← e]; exact last_get _ _
  · rw [List.append_assoc, List.getElem?_append_right (Nat.le_refl _), Nat.sub_self]; rfl
  · rintro _ rfl
    refine ⟨rfl, ?_⟩
    simp only [List.append_assoc]
    rw [List.set_append_right _ _ (Nat.le_refl _), Nat.sub_self]
    exact q _ _ (by simp) (by rfl) (by rfl)
theorem miss_eq {term : Str} {w : Wrd} (t : TokStr w.2) : (("expected " : Str) ++ term ++ " but got '") ++ w.2 ++ "'" = Str.empty ++ "expected " ++ term ++ " but got " ++ reprText w.2 := by
  rw [repr_tok t]
  have e : ((" but got '" : String) : Str) = (" but got " : Str) ++ quote1 := by decide +kernel
  rw [e, empty_str]
  simp only [str_assoc]
  rfl
theorem miss_eq0 {term : Str} : (("expected " : Str) ++ term) ++ " but end of rule reached" = Str.empty ++ "expected " ++ term ++ " but end of rule reached" := by
  rw [empty_str]
theorem quoteV : ((("'value'" : String)) : Str) = reprText "value" := by decide +kernel
theorem wv_eq_op {w u : Wrd} (tw : Tame w) (tu : Tame u) (q : Q (.bool (w.1 == u.1 && w.2 == u.2)) σ) : AOp2 W X (compareOp .Eq) (wv w) (.tup [.str u.1, .str u.2]) σ Q E := by
  refine eq_op (is_wv w) (is_wv u) (wv_shaped tw) (wv_shaped tu) ?_
  rw [eqv_wv]; exact q
def wdata (w : Wrd) : PyData := .tuple [.str w.1, .str w.2]
theorem wdata_lay {w : Wrd} (t : Tame w) : (wdata w).canLay0 = true := by
  unfold wdata
  simp [PyData.canLay0, PyData.canLayAll0, kind_ok t.kind, t.tok.ok]
theorem wdata_depth (w : Wrd) : (wdata w).depth ≤ 64 := by
  unfold wdata
  simp [PyData.depth, PyData.depthAll]
theorem isL_words (l : List Wrd) : IsL σ (l.map wv) (l.map wdata) := by
  induction l with
  | nil => simp [IsL]
  | cons w r ih => simp only [List.map_cons, IsL]; exact ⟨_, _, rfl, is_wv w, ih⟩
theorem isL_strs (l : List Str) : IsL σ (l.map AV.str) (l.map PyData.str) := by
  induction l with
  | nil => simp [IsL]
  | cons w r ih => simp only [List.map_cons, IsL]; exact ⟨_, _, rfl, is_str w, ih⟩
theorem layAll_words {l : List Wrd} (h : ∀ w ∈ l, Tame w) : PyData.canLayAll0 (l.map wdata) = true := by
  induction l with
  | nil => simp [PyData.canLayAll0]
  | cons w r ih => simp only [List.map_cons, PyData.canLayAll0, wdata_lay (h w (.head _)), ih fun u hu => h u (.tail _ hu), Bool.and_self]
/-- one of two words -/
def isOf (l : List Wrd) (w : Wrd) : Bool := l.any fun u => u.1 == w.1 && u.2 == w.2
theorem in_words {l : List Wrd} {w : Wrd} (hl : ∀ u ∈ l, Tame u) (hw : Tame w) (q : Q (.bool (isOf l w)) σ) : AOp2 W X (compareOp .In) (wv w) (.tup (l.map wv)) σ Q E := by
  refine in_tup_op (isL_words l) (is_wv w) (layAll_words hl) (wdata_lay hw) (wdata_depth w) ?_
  rw [List.any_map]
  have e : (fun y => PyData.eqv y (.tuple [.str w.1, .str w.2])) ∘ wdata = fun u : Wrd => u.1 == w.1 && u.2 == w.2 := funext fun u => eqv_wv u w
  rw [e]; exact q
theorem notin_words {l : List Wrd} {w : Wrd} (hl : ∀ u ∈ l, Tame u) (hw : Tame w) (q : Q (.bool (!isOf l w)) σ) : AOp2 W X (compareOp .NotIn) (wv w) (.tup (l.map wv)) σ Q E := by
  refine notin_tup_op (isL_words l) (is_wv w) (layAll_words hl) (wdata_lay hw) (wdata_depth w) ?_
  rw [List.any_map]
  have e : (fun y => PyData.eqv y (.tuple [.str w.1, .str w.2])) ∘ wdata = fun u : Wrd => u.1 == w.1 && u.2 == w.2 := funext fun u => eqv_wv u w
  rw [e]; exact q
theorem letters_lay : PyData.canLayAll0 (lawLetters.map PyData.str) = true := by kernel_rfl
theorem letters_any (x : Str) : (lawLetters.map PyData.str).any (fun y => PyData.eqv y (.str x)) = isVar x := by
  rw [List.any_map]
  have e : (fun y => PyData.eqv y (.str x)) ∘ PyData.str = fun y : Str => y == x := funext fun y => eqv_str y x
  rw [e]
  unfold isVar
  rw [List.contains_eq_any_beq]
  have e2 : (fun y : Str => y == x) = fun y => x == y := funext fun y => BEq.comm
  rw [e2]; rfl
theorem notin_letters {x : Str} (hx : PyData.strOk x = true) (q : Q (.bool (!isVar x)) σ) : AOp2 W X (compareOp .NotIn) (.str x) (.tup (lawLetters.map AV.str)) σ Q E := by
  refine notin_tup_op (isL_strs _) (is_str x) letters_lay (by simpa [PyData.canLay0] using hx) (by simp [PyData.depth]) ?_
  rw [letters_any]; exact q
theorem in_letters {x : Str} (hx : PyData.strOk x = true) (q : Q (.bool (isVar x)) σ) : AOp2 W X (compareOp .In) (.str x) (.tup (lawLetters.map AV.str)) σ Q E := by
  refine in_tup_op (isL_strs _) (is_str x) letters_lay (by simpa [PyData.canLay0] using hx) (by simp [PyData.depth]) ?_
  rw [letters_any]; exact q
def modWords : List Wrd := [("word", "mod"), ("symbol", "%")]
def eqWords : List Wrd := [("symbol", "="), ("symbol", "!=")]
theorem tame_mod : ∀ w ∈ modWords, Tame w := tame_all (f := id) (by kernel_rfl)
theorem tame_eqs : ∀ w ∈ eqWords, Tame w := tame_all (f := id) (by kernel_rfl)
theorem isOf_mod (w : Wrd) (r : List Wrd) : isOf modWords w = isMod (w :: r) := by
  simp only [isOf, modWords, isMod, hit, List.any_cons, List.any_nil, Bool.or_false]
  rw [BEq.comm (a := w.1) (b := ("word" : Str)), BEq.comm (a := w.2) (b := ("mod" : Str)), BEq.comm (a := w.1) (b := ("symbol" : Str)), BEq.comm (a := w.2) (b := ("%" : Str))]
theorem isOf_eqs (w : Wrd) (r : List Wrd) : isOf eqWords w = (hit (w :: r) "symbol" (some "=") || hit (w :: r) "symbol" (some "!=")) := by
  simp only [isOf, eqWords, hit, List.any_cons, List.any_nil, Bool.or_false]
  rw [BEq.comm (a := w.1) (b := ("symbol" : Str)), BEq.comm (a := w.2) (b := ("=" : Str)), BEq.comm (a := w.2) (b := ("!=" : Str))]
abbrev Due := Ans PyData
def numD (x : Str) : PyData := .tuple [.str "value", .tuple [.int (num x)]]
theorem is_valT (x : Str) : Is σ (valT x) (numD x) := by simp [Is, IsL, valT, numD]
mutual
def dataOf : AV → PyData
  | .none => .none
  | .bool b => .bool b
  | .int i => .int i
  | .str x => .str x
  | .tup l => .tuple (datasOf l)
  | .loc _ => .none
  | .val _ => .none
def datasOf : List AV → List PyData
  | [] => []
  | a :: l => dataOf a :: datasOf l
end
/-- a tree without places, told by its data -/
structure Fl (k : Nat) (a : AV) : Prop where
  is : ∀ σ, Is σ a (dataOf a)
  lay : (dataOf a).canLay0 = true
  dep : (dataOf a).depth ≤ k
theorem Fl.str {x : Str} (h : PyData.strOk x = true) (k : Nat) : Fl k (.str x) := ⟨fun σ => by simp only [dataOf, Is], by simpa [dataOf, PyData.canLay0] using h, by simp [dataOf, PyData.depth]⟩
theorem Fl.int (i : Int) (k : Nat) : Fl k (.int i) := ⟨fun σ => by simp only [dataOf, Is], by simp [dataOf, PyData.canLay0], by simp [dataOf, PyData.depth]⟩
theorem fls {k : Nat} : ∀ {l : List AV}, (∀ a ∈ l, Fl k a) → (∀ σ, IsL σ l (datasOf l)) ∧ PyData.canLayAll0 (datasOf l) = true ∧ PyData.depthAll (datasOf l) ≤ k
  | [], _ => ⟨fun σ => by simp [datasOf, IsL], by simp [datasOf, PyData.canLayAll0], by simp [datasOf, PyData.depthAll]⟩
  | a :: l, h => by
    obtain ⟨h1, h2, h3⟩ := fls fun b hb => h b (.tail _ hb)
    have g := h a (.head _)
    refine ⟨fun σ => ?_, ?_, ?_⟩
    · simp only [datasOf, IsL]; exact ⟨_, _, rfl, g.is σ, h1 σ⟩
    · simp only [datasOf, PyData.canLayAll0, g.lay, h2, Bool.and_self]
    · simp only [datasOf, PyData.depthAll]; exact Nat.max_le.mpr ⟨g.dep, h3⟩
theorem Fl.tup {k : Nat} {l : List AV} (h : ∀ a ∈ l, Fl k a) : Fl (k + 1) (.tup l) := by
  obtain ⟨h1, h2, h3⟩ := fls h
  refine ⟨fun σ => ?_, ?_, ?_⟩
  · simp only [dataOf, Is]; exact ⟨_, rfl, h1 σ⟩
  · simp only [dataOf, PyData.canLay0]; exact h2
  · simp only [dataOf, PyData.depth]; omega
theorem Fl.le {k m : Nat} {a : AV} (h : Fl k a) (hm : k ≤ m) : Fl m a := ⟨h.is, h.lay, Nat.le_trans h.dep hm⟩
theorem all2 {P : AV → Prop} {a b : AV} (h : P a) (g : P b) : ∀ x ∈ [a, b], P x := fun x hx => by
  rcases List.mem_cons.mp hx with rfl | hx
  · exact h
  · rw [List.mem_singleton.mp hx]; exact g
theorem all1 {P : AV → Prop} {a : AV} (h : P a) : ∀ x ∈ [a], P x := fun x hx => by rw [List.mem_singleton.mp hx]; exact h
theorem all0 {P : AV → Prop} : ∀ x ∈ ([] : List AV), P x := fun x hx => nomatch hx
theorem okl (x : String) (h : PyData.strOk (Str.ofString x) = true := by kernel_rfl) : PyData.strOk (Str.ofString x) = true := h
theorem fl_valT (x : Str) : Fl 2 (valT x) := Fl.tup (all2 (Fl.str (okl "value") 1) (Fl.tup (all1 (Fl.int _ 0))))
theorem fl_val {ws : List Wrd} {v : AV} {n : Nat} (h : valA ws = .ok v n) : Fl 2 v := by
  cases ws with
  | nil => cases h
  | cons w r =>
    have h : (if w.1 == ("value" : Str) then (Ans.ok (valT w.2) 1 : Ans AV) else .no (lackV (w :: r)) 0) = .ok v n := h
    split at h
    · cases h; exact fl_valT _
    · cases h
theorem fl_span {ws : List Wrd} {v : AV} {n : Nat} (h : spanA ws = .ok v n) : Fl 3 v := by
  unfold spanA at h
  cases hv : valA ws with
  | no m k => rw [hv] at h; cases h
  | ok b k =>
    rw [hv] at h
    dsimp only at h
    split at h
    · cases hv2 : valA (ws.drop (k + 1)) with
      | no m i => rw [hv2] at h; cases h
      | ok c i => rw [hv2] at h; cases h; exact Fl.tup (all2 (fl_val hv) (fl_val hv2))
    · cases h; exact Fl.tup (all2 (fl_val hv) (fl_val hv))
theorem fl_spansG : ∀ (f : Nat) {ws : List Wrd} {acc l : List AV} {n : Nat}, (∀ a ∈ acc, Fl 3 a) → spansG f ws acc = .ok l n → ∀ a ∈ l, Fl 3 a
  | 0, ws, acc, l, n, ha, h => by cases h; exact ha
  | f + 1, ws, acc, l, n, ha, h => by
    have h : (if hit ws "symbol" (some ",") then (match spanA (ws.drop 1) with | .ok a n => (spansG f (ws.drop (1 + n)) (acc ++ [a])).plus (1 + n) | .no msg n => .no msg (1 + n)) else (Ans.ok acc 0 : Ans (List AV))) = .ok l n := h
    split at h
    · cases hs : spanA (ws.drop 1) with
      | no m i => rw [hs] at h; cases h
      | ok a i =>
        rw [hs] at h
        dsimp only at h
        cases hg : spansG f (ws.drop (1 + i)) (acc ++ [a]) with
        | no m k => rw [hg] at h; cases h
        | ok l' k =>
          rw [hg] at h
          cases h
          exact fl_spansG f (fun b hb => (List.mem_append.mp hb).elim (ha b) fun hb => by rw [List.mem_singleton.mp hb]; exact fl_span hs) hg
    · cases h; exact ha
theorem fl_spans {ws : List Wrd} {l : List AV} {n : Nat} (h : spansA ws = .ok l n) : ∀ a ∈ l, Fl 3 a := by
  unfold spansA at h
  cases hs : spanA ws with
  | no m k => rw [hs] at h; cases h
  | ok a k =>
    rw [hs] at h
    dsimp only at h
    cases hg : spansG ws.length (ws.drop k) [a] with
    | no m i => rw [hg] at h; cases h
    | ok l' i =>
      rw [hg] at h
      cases h
      exact fl_spansG _ (all1 (fl_span hs)) hg
theorem fl_ident {x : Str} (h : PyData.strOk x = true) : Fl 2 (identT x) := Fl.tup (all2 (Fl.str h 1) ((Fl.tup (k := 0) all0)))
theorem fl_mod {x : Str} {b : AV} (h : PyData.strOk x = true) (hb : Fl 2 b) : Fl 4 (modT x b) := Fl.tup (all2 (Fl.str (okl "mod") 3) (Fl.tup (all2 (fl_ident h) hb)))
theorem fl_expr {ws : List Wrd} (T : ∀ w ∈ ws, Tame w) {v : AV} {n : Nat} (h : exprA ws = .ok v n) : Fl 4 v := by
  cases ws with
  | nil => cases h
  | cons w r =>
    have hw := (T w (.head _)).tok.ok
    have h : (if w.1 == ("word" : Str) then (if isVar w.2 then (if isMod r then (match valA (r.drop 1) with | .ok b n => .ok (modT w.2 b) (1 + 1 + n) | .no m n => .no m (1 + 1 + n)) else .ok (identT w.2) 1) else .no noVar 1) else (.no noVar 0 : Ans AV)) = .ok v n := h
    split at h
    · split at h
      · split at h
        · cases hv : valA (r.drop 1) with
          | no m i => rw [hv] at h; cases h
          | ok b i => rw [hv] at h; cases h; exact fl_mod hw (fl_val hv)
        · cases h; exact (fl_ident hw).le (by decide)
      · cases h
    · cases h
theorem fl_wv {w : Wrd} (t : Tame w) : Fl 1 (wv w) := Fl.tup (all2 (Fl.str (kind_ok t.kind) 0) (Fl.str t.tok.ok 0))
def listD (items : List AV) : PyData := .tuple [.str "range_list", .list (datasOf items)]
def relD (neg : Bool) (l s : PyData) : PyData :=
  if neg then .tuple [.str "not", .tuple [.tuple [.str "relation", .tuple [.str "in", l, s]]]] else .tuple [.str "relation", .tuple [.str "in", l, s]]
theorem is_listk {items : List AV} (h : ∀ a ∈ items, Fl 3 a) {τ : List AO} {k : Nat} (hk : τ[k]? = some (.lst items)) : Is τ (.tup [.str "range_list", .loc k]) (listD items) := by
  simp only [Is, IsL, listD]
  exact ⟨_, rfl, _, _, rfl, rfl, _, _, rfl, ⟨_, _, rfl, hk, (fls h).1 _⟩, rfl⟩
theorem is_list {items : List AV} (h : ∀ a ∈ items, Fl 3 a) (τ : List AO) : Is (τ ++ [.lst items]) (.tup [.str "range_list", .loc τ.length]) (listD items) := is_listk h (last_get _ _)
theorem is_tup1 {τ : List AO} {a : AV} {d : PyData} (h : Is τ a d) : Is τ (.tup [a]) (.tuple [d]) := by simp only [Is, IsL]; exact ⟨_, rfl, _, _, rfl, h, rfl⟩
theorem is_tup2 {τ : List AO} {a b : AV} {d e : PyData} (h : Is τ a d) (g : Is τ b e) : Is τ (.tup [a, b]) (.tuple [d, e]) := by simp only [Is, IsL]; exact ⟨_, rfl, _, _, rfl, h, _, _, rfl, g, rfl⟩
theorem is_tup3 {τ : List AO} {a b c : AV} {d e f : PyData} (h : Is τ a d) (g : Is τ b e) (k : Is τ c f) : Is τ (.tup [a, b, c]) (.tuple [d, e, f]) := by simp only [Is, IsL]; exact ⟨_, rfl, _, _, rfl, h, _, _, rfl, g, _, _, rfl, k, rfl⟩
theorem is_rel {τ : List AO} {neg : Bool} {l s : AV} {dl ds : PyData} (h : Is τ l dl) (g : Is τ s ds) : Is τ (relT neg l s) (relD neg dl ds) := by
  have r : Is τ (.tup [.str "relation", .tup [.str "in", l, s]]) (.tuple [.str "relation", .tuple [.str "in", dl, ds]]) := is_tup2 (is_str _) (is_tup3 (is_str _) h g)
  cases neg with
  | true => exact is_tup2 (is_str _) (is_tup1 r)
  | false => exact r
theorem shaped_list {items : List AV} (h : ∀ a ∈ items, Fl 3 a) : (listD items).canLay0 = true ∧ (listD items).depth ≤ 6 := by
  obtain ⟨h1, h2, h3⟩ := fls h
  have e : PyData.strOk (Str.ofString "range_list") = true := okl "range_list"
  simp only [listD, PyData.canLay0, PyData.canLayAll0, PyData.depth, PyData.depthAll, h2, e, Bool.and_self, true_and]
  omega
theorem shaped_rel {neg : Bool} {l s : PyData} (h : l.canLay0 = true ∧ l.depth ≤ 6) (g : s.canLay0 = true ∧ s.depth ≤ 6) : (relD neg l s).canLay0 = true ∧ (relD neg l s).depth ≤ 64 := by
  have e1 : PyData.strOk (Str.ofString "not") = true := okl "not"
  have e2 : PyData.strOk (Str.ofString "relation") = true := okl "relation"
  have e3 : PyData.strOk (Str.ofString "in") = true := okl "in"
  cases neg <;> simp only [relD, PyData.canLay0, PyData.canLayAll0, PyData.depth, PyData.depthAll, h.1, g.1, e1, e2, e3, Bool.and_self, true_and, if_true, if_false, Bool.false_eq_true] <;> omega
theorem plus_ok {α : Type} {a : Ans α} {k n : Nat} {l : α} (h : a.plus k = .ok l n) : ∃ m, a = .ok l m := by
  cases a with
  | ok v m => cases h; exact ⟨m, rfl⟩
  | no m i => cases h
theorem spans_plus {ws : List Wrd} {k : Nat} : ∀ l n, (spansA ws).plus k = .ok l n → ∀ x ∈ l, Fl 3 x := fun l n h => let ⟨_, e⟩ := plus_ok h; fl_spans e
theorem shaped_of {d : PyData} {k : Nat} (h : d.canLay0 = true ∧ d.depth ≤ k) (hk : k ≤ 64) : SeqAt.shaped d = true := by
  unfold SeqAt.shaped
  rw [h.1, decide_eq_true (Nat.le_trans h.2 hk)]; rfl
theorem kind_tok {k : Str} (h : k ∈ lawKinds) : TokStr k ∧ k.length ≤ 41 ∧ k.length ≠ 0 := by
  have : (lawKinds.all fun k => tokB k && (decide (k.length ≤ 41) && decide (k.length ≠ 0))) = true := by kernel_rfl
  have := List.all_eq_true.mp this k h
  simp only [Bool.and_eq_true, decide_eq_true_eq] at this
  exact ⟨tok_of this.1, this.2.1, this.2.2⟩
theorem AX_sub {ρ ρ' : List (Str × AV)} {ss : List Stmt} {N : List (Str × AV) → List AO → Prop} {R : AV → List AO → Prop} (hs : ∀ x a, ρ'.lookup x = some a → ρ.lookup x = some a) (h : AX W X ss ρ' σ N R E) : AX W X ss ρ σ N R E := by
  intro A env L l ι s at_ en I F EE hE hT
  obtain ⟨⟨m, hn, hv⟩, hL⟩ := F
  exact h A env L l ι s at_ en I ⟨⟨m, hn, fun x a hx => hv x a (hs x a hx)⟩, hL⟩ EE hE hT
theorem ltk_op {i k : Nat} {j : Int} (hj : j = (k : Int)) (q : Q (.bool (decide (i < k))) σ) : AOp2 W X (compareOp .Lt) (.int (i : Int)) (.int j) σ Q E := by
  subst hj; exact ltn_op q
theorem stack_rev (ws : List Wrd) : stack ws = ws.reverse.map wv := by rw [stack, List.map_reverse]
theorem depth_words (l : List Wrd) : PyData.depthAll (l.map wdata) ≤ 1 := by
  induction l with
  | nil => simp [PyData.depthAll]
  | cons w r ih =>
    simp only [List.map_cons, PyData.depthAll]
    refine Nat.max_le.mpr ⟨?_, ih⟩
    simp [wdata, PyData.depth, PyData.depthAll]
def stackD (ws : List Wrd) : PyData := .list (ws.reverse.map wdata)
theorem is_stack {k : Nat} {ws : List Wrd} (h : σ[k]? = some (.lst (stack ws))) : Is σ (.loc k) (stackD ws) := by
  simp only [Is, stackD]
  exact ⟨_, _, rfl, h, by rw [stack_rev]; exact isL_words _⟩
theorem stack_shaped {ws : List Wrd} (T : ∀ w ∈ ws, Tame w) : SeqAt.shaped (stackD ws) = true := by
  refine shaped_of (k := 2) ⟨?_, ?_⟩ (by decide)
  · simp only [stackD, PyData.canLay0]; exact layAll_words fun w hw => T w (List.mem_reverse.mp hw)
  · simp only [stackD, PyData.depth]; have := depth_words ws.reverse; omega
theorem eqv_self {d : PyData} (h : SeqAt.shaped d = true) : PyData.eqv d d = true := SeqAt.eqv_refl d (SeqAt.canLay_of_shaped h)
def numsV (ns : List Nat) : List AV := ns.map fun n : Nat => AV.int ((n : Nat) : Int)
theorem app_get {ext : List AO} {i : Nat} {o : AO} (h : σ[i]? = some o) : (σ ++ ext)[i]? = some o := by
  rw [List.getElem?_append_left (List.getElem?_eq_some_iff.mp h).1]; exact h
theorem after_ne {t i : Nat} {ws : List Wrd} {k : Nat} (h : i ≠ t) : (after t ws k σ)[i]? = σ[i]? := by
  unfold after
  exact List.getElem?_set_ne fun q => h q.symm
theorem log_ok {a : Nat} (ha : a < 10 ^ 40) : ((a : Int)).natAbs.log2 < 1920 := by
  show a.log2 < 1920
  by_cases h0 : a = 0
  · rw [h0]; decide
  · have : a < 2 ^ 133 := Nat.lt_of_lt_of_le ha (by decide)
    exact Nat.lt_trans ((Nat.log2_lt h0).mpr this) (by decide)
theorem numsV_item {ns : List Nat} {i : Nat} (h : i < ns.length) : itemAt (numsV ns) (i : Int) = some (.int ((ns.getD i 0 : Nat) : Int)) := by
  refine item_nat ?_
  unfold numsV
  rw [List.getElem?_map, List.getElem?_eq_getElem h, List.getD_eq_getElem?_getD, List.getElem?_eq_getElem h]; rfl
theorem numsV_len (ns : List Nat) : (numsV ns).length = ns.length := by unfold numsV; rw [List.length_map]
theorem comp_scope {scope : Scope} {cs : List (Str × Nat)} {x : Str} (h1 : (scope.names.all fun y => y.2 != .cell) = true) (h2 : scope.kind = .function) (h3 : scope.names.lookup x = some .local)
    (h4 : (scope.names.all fun y => y.2 != .local || scope.names.lookup y.1 == some .local) = true) (h5 : (scope.names.all fun y => y.2 != .free || (X.cells.lookup y.1).isSome) = true)
    (h6 : ∀ y k, cs.lookup y = some k → X.cells.lookup y = some k ∧ (y, .free) ∈ scope.names) : CompScope X scope cs x :=
  ⟨fun y hy => by simpa using List.all_eq_true.mp h1 y hy, h2, h3, fun y hy hk => by have := List.all_eq_true.mp h4 y hy; rw [hk] at this; simpa using this, fun y hy hk => by have := List.all_eq_true.mp h5 y hy; rw [hk] at this; simpa using this, h6⟩
theorem range_two {a b m : Nat} (hb : b ≤ 1000) (ha : a ≤ 1000) (hm : m = (b - a + 1) / 2) : Builtin.Range.rangeSize (a : Int) (b : Int) 2 = (m : Int) ∧ Builtin.Range.small (a : Int) (b : Int) 2 = true := by
  have e : Builtin.Range.rangeSize (a : Int) (b : Int) 2 = (m : Int) := by
    unfold Builtin.Range.rangeSize
    rw [if_pos (by decide)]
    split <;> omega
  refine ⟨e, ?_⟩
  unfold Builtin.Range.small
  rw [e]
  have fl : ∀ i : Int, -4000 ≤ i → i ≤ 4000 → Builtin.Range.rangeFitsLong i = true := fun i h1 h2 => by
    unfold Builtin.Range.rangeFitsLong
    rw [decide_eq_true (by omega), decide_eq_true (by omega)]; rfl
  rw [if_pos (by decide), fl (a : Int) (by omega) (by omega), fl (b : Int) (by omega) (by omega), fl 2 (by omega) (by omega), fl (m : Int) (by omega) (by omega), fl ((b : Int) + (2 - 1)) (by omega) (by omega), Bool.or_true]; rfl
theorem getD_small {ns : List Nat} (hN : ∀ a ∈ ns, a < 10 ^ 40) (i : Nat) : ns.getD i 0 < 10 ^ 40 := by
  rw [List.getD_eq_getElem?_getD]
  cases e : ns[i]? with
  | none => simp
  | some a => exact hN a (List.mem_of_getElem? e)
/-- the first list: the numbers of the script -/
def numOf (x : Int) : Nat := x.natAbs % 10 ^ 40
theorem abs_nat (x : Int) : (if x < 0 then -x else x) = ((x.natAbs : Nat) : Int) := by omega
/-- a fresh parser with a stack of words -/
theorem new_prs {d t : Nat} {S : List AO} {ws : List Wrd} (hd : S[d]? = some (.dct [("tokens", .loc t), ("ast", .none)])) (hj : S[d + 1]? = some (.inst 182 d)) (ht : S[t]? = some (.lst (stack ws))) (hz : ws.length ≤ 1000000) : Prs S (d + 1) t ws := ⟨⟨d, hj, hd⟩, ht, hz⟩
theorem set_ne {i d : Nat} {o x : AO} (h : σ[i]? = some o) (hne : i ≠ d) : (σ.set d x)[i]? = some o := by rw [List.getElem?_set_ne fun q => hne q.symm]; exact h
theorem AX_never {ρ : List (Str × AV)} {ss : List Stmt} {N : List (Str × AV) → List AO → Prop} {R : AV → List AO → Prop} (h : AX W X ss ρ σ (fun _ _ => False) R E) : AX W X ss ρ σ N R E := by
  intro A env L l ι s at_ en I F EE hE hT
  refine wpAny_mono (h A env L l ι s at_ en I F EE hE hT) (fun f s' g => ?_) fun _ _ x => x
  cases f with
  | next => obtain ⟨_, _, _, q, _⟩ := g; exact q.elim
  | ret v => exact g
  | brk => exact g
  | cont => exact g
end Mine

open PySem PySem.W PySem.Calls PySem.NumText PyProof.Rows
set_option Elab.async false
set_option linter.all false
set_option maxRecDepth 100000
set_option maxHeartbeats 2000000
namespace Mine
variable {W : Wd} {mg mb : Str → Option Value} {σ : List AO} {Q : AV → List AO → Prop} {E : Str → List AO → Prop} {n : Nat} {hd : Bool} {X : Fx}
/-- told by its data as long as its new places stand -/
def Stab (L : Nat) (ext : List AO) (a : AV) (d : PyData) : Prop := ∀ τ : List AO, (∀ i o, ext[i]? = some o → τ[L + i]? = some o) → Is τ a d
theorem Stab.left {L : Nat} {ext e2 : List AO} {a : AV} {d : PyData} (s : Stab L ext a d) : Stab L (ext ++ e2) a d := fun τ h => s τ fun i o ho => h i o (app_get ho)
theorem Stab.right {L : Nat} {ext e2 : List AO} {a : AV} {d : PyData} (s : Stab (L + ext.length) e2 a d) : Stab L (ext ++ e2) a d := fun τ h => s τ fun i o ho => by
  have := h (ext.length + i) o (by rw [List.getElem?_append_right (by omega), Nat.add_sub_cancel_left]; exact ho)
  rwa [← Nat.add_assoc] at this
theorem Stab.tup1 {L : Nat} {ext : List AO} {a : AV} {d : PyData} (s : Stab L ext a d) : Stab L ext (.tup [a]) (.tuple [d]) := fun τ h => is_tup1 (s τ h)
theorem Stab.tup2 {L : Nat} {ext : List AO} {a b : AV} {d e : PyData} (s : Stab L ext a d) (r : Stab L ext b e) : Stab L ext (.tup [a, b]) (.tuple [d, e]) := fun τ h => is_tup2 (s τ h) (r τ h)
theorem Stab.tup3 {L : Nat} {ext : List AO} {a b c : AV} {d e f : PyData} (s : Stab L ext a d) (r : Stab L ext b e) (u : Stab L ext c f) : Stab L ext (.tup [a, b, c]) (.tuple [d, e, f]) := fun τ h => is_tup3 (s τ h) (r τ h) (u τ h)
theorem Stab.str {L : Nat} {ext : List AO} (x : Str) : Stab L ext (.str x) (.str x) := fun τ h => is_str x
theorem Stab.fl {L k : Nat} {ext : List AO} {a : AV} (h : Fl k a) : Stab L ext a (dataOf a) := fun τ _ => h.is τ
theorem Stab.list {L : Nat} {items : List AV} (h : ∀ a ∈ items, Fl 3 a) : Stab L [.lst items] (.tup [.str "range_list", .loc L]) (listD items) := fun τ hτ => is_listk h (hτ 0 _ rfl)
def relQ (t : Nat) (ws : List Wrd) (d : Due) (σ : List AO) (Q : AV → List AO → Prop) (E : Str → List AO → Prop) : Prop :=
  match d with
  | .ok d n => ∀ a ext, Stab σ.length ext a d → Q a (after t ws n σ ++ ext)
  | .no m n => ∀ ext, E m (after t ws n σ ++ ext)
def Due.plus (k : Nat) : Due → Due
  | .ok d n => .ok d (k + n)
  | .no m n => .no m (k + n)
theorem Due.plus_plus (a : Due) (i k : Nat) : (a.plus k).plus i = a.plus (i + k) := by cases a <;> simp [Due.plus, Nat.add_assoc]
def noNeg : Str := "Cannot negate operator based rules."
def isA (op : Str) (left : AV) : Ans AV → Due
  | .ok v n => .ok (.tuple [.str op, .tuple [dataOf left, dataOf v]]) n
  | .no m n => .no m n
def relM (method : Str) (neg : Bool) (l s : PyData) : PyData :=
  if neg then .tuple [.str "not", .tuple [.tuple [.str "relation", .tuple [.str method, l, s]]]] else .tuple [.str "relation", .tuple [.str method, l, s]]
def inA (method : Str) (neg : Bool) (left : AV) : Ans (List AV) → Due
  | .ok items n => .ok (relM method neg (dataOf left) (listD items)) n
  | .no m n => .no m n
def newA (ws : List Wrd) (left : AV) : Due :=
  if hit ws "symbol" (some "=") then (inA "in" false left (spansA (ws.drop 1))).plus 1
  else if hit ws "symbol" (some "!=") then (inA "in" true left (spansA (ws.drop 1))).plus 1
  else .no wayMsg 0
def inB (ws : List Wrd) (neg : Bool) (left : AV) : Due :=
  if hit ws "word" (some "within") then (inA "within" neg left (spansA (ws.drop 1))).plus 1
  else if hit ws "word" (some "in") then (inA "in" neg left (spansA (ws.drop 1))).plus 1
  else if neg then .no noNeg 0
  else newA ws left
def isB (ws : List Wrd) (left : AV) : Due :=
  if hit ws "word" (some "not") then (isA "isnot" left (valA (ws.drop 1))).plus 1 else isA "is" left (valA ws)
def relB (ws : List Wrd) (left : AV) : Due :=
  if hit ws "word" (some "is") then (isB (ws.drop 1) left).plus 1
  else if hit ws "word" (some "not") then (inB (ws.drop 1) true left).plus 1
  else inB ws false left
def relA (ws : List Wrd) : Due :=
  match exprA ws with
  | .no m n => .no m n
  | .ok left n => (relB (ws.drop n) left).plus n
theorem skip_at (B : Base W mg mb) {j t m : Nat} {ws : List Wrd} {k x : Str} (P : Prs σ j t ws) (h1 : hit (ws.drop m) k (some x) = true → ∀ w, Q (wv w) (after t ws (m + 1) σ)) (h2 : hit (ws.drop m) k (some x) = false → Q .none (after t ws m σ)) :
    ConC W (n + 2) hd (.ref 73) [.loc t, .str k, .str x] (after t ws m σ) Q E :=
  skip_con3 B (x := some x) (P.after m).stk (P.after m).small (skipQ_of (P.after m) (fun hh w => by rw [after_after]; exact h1 hh w) h2)
def valQ2 (t : Nat) (ws : List Wrd) (m : Nat) (a : Ans AV) (σ : List AO) (Q : AV → List AO → Prop) (E : Str → List AO → Prop) : Prop :=
  match a with
  | .ok v i => Q v (after t ws (m + i) σ)
  | .no s i => E s (after t ws (m + i) σ)
theorem val_at (B : Base W mg mb) {j t m : Nat} {ws : List Wrd} (P : Prs σ j t ws) (M : Mild ws) (q : valQ2 t ws m (valA (ws.drop m)) σ Q E) : ConC W (n + 4) false (.ref 179) [.loc j] (after t ws m σ) Q E := by
  refine value_conA B (P.after m) (M.drop m) ?_
  cases hv : valA (ws.drop m) with
  | ok v i => rw [hv] at q; simp only [post, after_after]; exact q
  | no s i => rw [hv] at q; simp only [post, after_after]; exact q
def listQ2 (t : Nat) (ws : List Wrd) (m : Nat) (a : Ans (List AV)) (σ : List AO) (Q : AV → List AO → Prop) (E : Str → List AO → Prop) : Prop :=
  match a with
  | .ok items i => Q (.tup [.str "range_list", .loc σ.length]) (after t ws (m + i) σ ++ [.lst items])
  | .no s i => ∀ ext, E s (after t ws (m + i) σ ++ ext)
theorem list_at (B : Base W mg mb) {j t m : Nat} {ws : List Wrd} (P : Prs σ j t ws) (M : Mild ws) (q : listQ2 t ws m (spansA (ws.drop m)) σ Q E) : ConC W (n + 6) false (.ref 165) [.loc j] (after t ws m σ) Q E := by
  refine range_list_con B (P.after m) (M.drop m) ?_
  cases hv : spansA (ws.drop m) with
  | ok v i => rw [hv] at q; simp only [postL, after_after, after_length]; exact q
  | no s i => rw [hv] at q; simp only [postL, after_after]; exact q
theorem newQ_of2 {j t m : Nat} {ws : List Wrd} {left : AV} (P : Prs σ j t ws) (hl : Fl 4 left) (q : relQ t ws ((newA (ws.drop m) left).plus m) σ Q E) : newQ t (ws.drop m) left (after t ws m σ) Q E := by
  have key : ∀ neg, relQ t ws (((inA "in" neg left (spansA ((ws.drop m).drop 1))).plus 1).plus m) σ Q E → postR t (ws.drop m) neg left ((spansA ((ws.drop m).drop 1)).plus 1) (after t ws m σ) Q E := fun neg q => by
    cases hs : spansA ((ws.drop m).drop 1) with
    | no s i =>
      rw [hs] at q
      intro ext
      rw [after_after]
      exact q ext
    | ok items i =>
      rw [hs] at q
      show Q _ (after t (ws.drop m) (1 + i) (after t ws m σ) ++ [.lst items])
      rw [after_after, after_length]
      refine q _ [.lst items] ?_
      have hL := Stab.list (L := σ.length) (fl_spans hs)
      have r : Stab σ.length [.lst items] (.tup [.str "relation", .tup [.str "in", left, .tup [.str "range_list", .loc σ.length]]]) (.tuple [.str "relation", .tuple [.str "in", dataOf left, listD items]]) := (Stab.str _).tup2 ((Stab.str _).tup3 (Stab.fl hl) hL)
      cases neg with
      | true => exact (Stab.str _).tup2 r.tup1
      | false => exact r
  unfold newQ
  unfold newA at q
  cases h1 : hit (ws.drop m) "symbol" (some "=") with
  | true => rw [h1, if_pos rfl] at q; rw [if_pos rfl]; exact key false q
  | false =>
    rw [h1, if_neg (by decide)] at q; rw [if_neg (by decide)]
    cases h2 : hit (ws.drop m) "symbol" (some "!=") with
    | true => rw [h2, if_pos rfl] at q; rw [if_pos rfl]; exact key true q
    | false =>
      rw [h2, if_neg (by decide)] at q; rw [if_neg (by decide)]
      have := q []
      rw [List.append_nil] at this
      exact this
theorem relation_con (B : Base W mg mb) {j t : Nat} {ws : List Wrd} (P : Prs σ j t ws) (T : ∀ w ∈ ws, Tame w) (q : relQ t ws (relA ws) σ Q E) : ConC W (n + 8) false (.ref 144) [.loc j] σ Q E := by
  have M := mild_of T
  refine B.fn 144 (d := mth 4) (names := ["self"]) (k := 0) (by kernel_rfl) (by kernel_rfl) (by kernel_rfl) (by kernel_rfl) (by kernel_rfl) (by kernel_rfl) (by kernel_rfl) (dv := .none) (by kernel_rfl) (by kernel_rfl) (fun s vs p hp f h1 h2 kp hl => ?_) (by kernel_rfl) (by kernel_rfl) (by decide) (by kernel_rfl) (by kernel_rfl) (by kernel_rfl) ?_
  · obtain ⟨v, rfl⟩ := one_vs hl
    obtain ⟨nm, qn, params, bd, sc, gl, clo, dflt⟩ := f
    dsimp only at h1 h2
    subst h1 h2 hp
    exact BindsTo.of_eq (by kernel_rfl)
  · refine AX_cons (AS_Assign (B.meth (f := 172) P (by rfl) (by kernel_rfl) (by kernel_rfl) (by kernel_rfl) (by rfl) (AWs_nil (expr_con B P M ?_))))
    unfold relA at q
    cases he : exprA ws with
    | no m k =>
      rw [he] at q
      have := q []
      rw [List.append_nil] at this
      exact this
    | ok left k =>
      rw [he] at q
      have hl := fl_expr T he
      have q : relQ t ws ((relB (ws.drop k) left).plus k) σ Q E := q
      unfold relB at q
      have P₁ := P.after k
      -- behind a value
      have isV : ∀ (op : Str) (m : Nat), relQ t ws ((isA op left (valA (ws.drop m))).plus m) σ Q E → AX W ⟨(mth 4).scope, [], n + 7, false⟩ [(match (mth 4).body.getD 1 default with | .If _ b _ _ => b.getD 1 default | _ => default)] [("self", .loc j), ("left", left), ("op", .str op)] (after t ws m σ) (fun ρ₁ σ₁ => AX W ⟨(mth 4).scope, [], n + 7, false⟩ ((mth 4).body.drop 2) ρ₁ σ₁ (fun _ σ' => Q .none σ') Q E) Q E := fun op m q => by
        refine AX_cons (AS_Return (AW_Tuple (AWs_cons (AW_local (by rfl) (AWs_cons (AW_Tuple (AWs_cons (AW_local (by rfl) (AWs_cons (B.meth (f := 179) (P.after m) (by rfl) (by kernel_rfl) (by kernel_rfl) (by kernel_rfl) (by rfl) (AWs_nil (val_at B P M ?_))))))))))))
        cases hv : valA (ws.drop m) with
        | no s i =>
          rw [hv] at q
          have := q []
          rw [List.append_nil] at this
          exact this
        | ok v i =>
          rw [hv] at q
          have := q (.tup [.str op, .tup [left, v]]) [] ((Stab.str _).tup2 ((Stab.fl hl).tup2 (Stab.fl (fl_val hv))))
          rw [List.append_nil] at this
          exact AWs_nil ⟨by simp, AWs_nil ⟨by simp, this⟩⟩
      -- behind a list of ranges
      have inV : ∀ (method : Str) (neg : Bool) (ng : AV) (m : Nat), truthOf σ ng = some neg → (∀ τ, smallOf τ ng) → (∀ τ, truthOf τ ng = some neg) → relQ t ws ((inA method neg left (spansA (ws.drop m))).plus m) σ Q E → AX W ⟨(mth 4).scope, [], n + 7, false⟩ ((mth 4).body.drop 5) [("self", .loc j), ("left", left), ("negated", ng), ("method", .str method)] (after t ws m σ) (fun _ σ' => Q .none σ') Q E := fun method neg ng m _ hsm htr q => by
        refine AX_cons (AS_Assign (AW_Tuple (AWs_cons (AW_str (AWs_cons (AW_Tuple (AWs_cons (AW_local (by rfl) (AWs_cons (AW_local (by rfl) (AWs_cons (B.meth (f := 165) (P.after m) (by rfl) (by kernel_rfl) (by kernel_rfl) (by kernel_rfl) (by rfl) (AWs_nil (list_at B P M ?_))))))))))))))
        cases hv : spansA (ws.drop m) with
        | no s i => rw [hv] at q; exact q
        | ok items i =>
          rw [hv] at q
          refine AWs_nil ⟨by simp, AWs_nil ⟨by simp, ?_⟩⟩
          refine AX_cons (AS_Return (AW_IfExp (AT_of (AW_local (by rfl) (truthy_op (htr _) (hsm _) ?_)))))
          have hL := Stab.list (L := σ.length) (fl_spans hv)
          have r : Stab σ.length [.lst items] (.tup [.str "relation", .tup [.str method, left, .tup [.str "range_list", .loc σ.length]]]) (.tuple [.str "relation", .tuple [.str method, dataOf left, listD items]]) := (Stab.str _).tup2 ((Stab.str _).tup3 (Stab.fl hl) hL)
          cases neg with
          | true => exact B.call (f := 101) (by kernel_rfl) (by kernel_rfl) (AWs_cons (AW_local (by rfl) (AWs_nil (negate_con B (q _ _ ((Stab.str _).tup2 r.tup1))))))
          | false => exact AW_local (by rfl) (q _ _ r)
      have inW : ∀ (neg : Bool) (ng : AV) (m : Nat), (∀ τ, smallOf τ ng) → (∀ τ, truthOf τ ng = some neg) → relQ t ws ((inB (ws.drop m) neg left).plus m) σ Q E → AX W ⟨(mth 4).scope, [], n + 7, false⟩ ((mth 4).body.drop 3) [("self", .loc j), ("left", left), ("negated", ng)] (after t ws m σ) (fun _ σ' => Q .none σ') Q E := fun neg ng m hsm htr q => by
        unfold inB at q
        have P₂ := P.after m
        refine AX_cons (AS_Assign (AW_str ?_))
        refine AX_cons (AS_If (AT_of (B.call (f := 73) (by kernel_rfl) (by kernel_rfl) (AWs_cons (B.tokens P₂ (by rfl) (AWs_cons (AW_str (AWs_cons (AW_str (AWs_nil (skip_at B P (fun hh w => ?_) (fun hh => ?_))))))))))))
        · refine truthy_wv ?_
          rw [hh, if_pos rfl, Due.plus_plus, List.drop_drop] at q
          exact AX_cons (AS_Assign (AW_str (AX_nil (inV "within" neg ng (m + 1) (htr _) hsm htr q))))
        · refine truthy_op (b := false) rfl trivial ?_
          rw [hh, if_neg (by decide)] at q
          refine AX_cons (AS_If (AT_not (AT_of (B.call (f := 73) (by kernel_rfl) (by kernel_rfl) (AWs_cons (B.tokens P₂ (by rfl) (AWs_cons (AW_str (AWs_cons (AW_str (AWs_nil (skip_at B P (fun h2 w => ?_) (fun h2 => ?_)))))))))))))
          · refine truthy_wv ?_
            rw [h2, if_pos rfl, Due.plus_plus, List.drop_drop] at q
            exact AX_nil (AX_nil (inV "in" neg ng (m + 1) (htr _) hsm htr q))
          · refine truthy_op (b := false) rfl trivial ?_
            rw [h2, if_neg (by decide)] at q
            refine AX_cons (AS_If (AT_of (AW_local (by rfl) (truthy_op (htr _) (hsm _) ?_))))
            cases neg with
            | true =>
              rw [if_pos rfl] at q
              refine AX_cons (B.raise rfl (AW_str ⟨_, rfl, ?_⟩))
              have := q []
              rw [List.append_nil] at this
              exact this
            | false =>
              rw [if_neg (by decide)] at q
              refine AX_nil (AX_cons (AS_Return (B.meth (f := 151) P₂ (by rfl) (by kernel_rfl) (by kernel_rfl) (by kernel_rfl) (by rfl) (AWs_cons (AW_local (by rfl) (AWs_nil ?_))))))
              exact new_con B P₂ (M.drop m) (newQ_of2 P hl q)
      refine AX_cons (AS_If (AT_of (B.call (f := 73) (by kernel_rfl) (by kernel_rfl) (AWs_cons (B.tokens P₁ (by rfl) (AWs_cons (AW_str (AWs_cons (AW_str (AWs_nil (skip_at B P (fun hh w => ?_) (fun hh => ?_))))))))))))
      · refine truthy_wv ?_
        rw [hh, if_pos rfl, Due.plus_plus] at q
        unfold isB at q
        refine AX_cons (AS_Assign (AW_IfExp (AT_of (B.call (f := 73) (by kernel_rfl) (by kernel_rfl) (AWs_cons (B.tokens (P.after (k + 1)) (by rfl) (AWs_cons (AW_str (AWs_cons (AW_str (AWs_nil (skip_at B P (fun h2 w => ?_) (fun h2 => ?_)))))))))))))
        · refine truthy_wv (AW_str ?_)
          rw [List.drop_drop, h2, if_pos rfl, Due.plus_plus, List.drop_drop] at q
          exact isV "isnot" (k + 1 + 1) q
        · refine truthy_op (b := false) rfl trivial (AW_str ?_)
          rw [List.drop_drop, h2, if_neg (by decide)] at q
          exact isV "is" (k + 1) q
      · refine truthy_op (b := false) rfl trivial (AX_nil ?_)
        rw [hh, if_neg (by decide)] at q
        refine AX_cons (AS_Assign (B.call (f := 73) (by kernel_rfl) (by kernel_rfl) (AWs_cons (B.tokens P₁ (by rfl) (AWs_cons (AW_str (AWs_cons (AW_str (AWs_nil (skip_at B P (fun h2 w => ?_) (fun h2 => ?_)))))))))))
        · rw [h2, if_pos rfl, Due.plus_plus, List.drop_drop] at q
          exact inW true (wv w) (k + 1) (fun τ => by simp [smallOf, wv]) (fun τ => rfl) q
        · rw [h2, if_neg (by decide)] at q
          exact inW false .none k (fun τ => trivial) (fun τ => rfl) q
end Mine

open PySem PySem.W PySem.Calls PySem.NumText PyProof.Rows
set_option Elab.async false
set_option linter.all false
set_option maxRecDepth 100000
set_option maxHeartbeats 2000000
namespace Mine
variable {W : Wd} {mg mb : Str → Option Value} {σ : List AO} {Q : AV → List AO → Prop} {E : Str → List AO → Prop} {n : Nat} {hd : Bool} {X : Fx}
def chainG (rd : List Wrd → Due) (word : Str) : Nat → List Wrd → PyData → Due
  | 0, _, acc => .ok acc 0
  | f + 1, ws, acc =>
    if hit ws "word" (some word) then
      match rd (ws.drop 1) with
      | .ok d n => (chainG rd word f (ws.drop (1 + n)) (.tuple [.str word, .tuple [acc, d]])).plus (1 + n)
      | .no m n => .no m (1 + n)
    else .ok acc 0
def chainA (rd : List Wrd → Due) (word : Str) (ws : List Wrd) : Due :=
  match rd ws with
  | .no m n => .no m n
  | .ok d n => (chainG rd word ws.length (ws.drop n) d).plus n
def andA : List Wrd → Due := chainA relA "and"
def condA : List Wrd → Due := chainA andA "or"
theorem rel_con (B : Base W mg mb) {j t : Nat} {ws : List Wrd} (P : Prs σ j t ws) (T : ∀ w ∈ ws, Tame w) (q : relQ t ws (relA ws) σ Q E) : ConC W (n + 8) false (.ref 144) [.loc j] σ Q E := relation_con B P T q

theorem and_con (B : Base W mg mb) {j t : Nat} {ws : List Wrd} (P : Prs σ j t ws) (T : ∀ w ∈ ws, Tame w) (q : relQ t ws (andA ws) σ Q E) : ConC W (n + 9) false (.ref 137) [.loc j] σ Q E := by
  refine B.fn 137 (d := mth 3) (names := ["self"]) (k := 0) (by kernel_rfl) (by kernel_rfl) (by kernel_rfl) (by kernel_rfl) (by kernel_rfl) (by kernel_rfl) (by kernel_rfl) (dv := .none) (by kernel_rfl) (by kernel_rfl) (fun s vs p hp f h1 h2 kp hl => ?_) (by kernel_rfl) (by kernel_rfl) (by decide) (by kernel_rfl) (by kernel_rfl) (by kernel_rfl) ?_
  · obtain ⟨v, rfl⟩ := one_vs hl
    obtain ⟨nm, qn, params, bd, sc, gl, clo, dflt⟩ := f
    dsimp only at h1 h2
    subst h1 h2 hp
    exact BindsTo.of_eq (by kernel_rfl)
  · have lt := P.lt
    refine AX_cons (AS_Assign (B.meth (f := 144) P (by rfl) (by kernel_rfl) (by kernel_rfl) (by kernel_rfl) (by rfl) (AWs_nil (rel_con B P T ?_))))
    unfold andA chainA at q
    cases hs : relA ws with
    | no m k => rw [hs] at q; exact q
    | ok d k =>
      rw [hs] at q
      have q : relQ t ws ((chainG relA "and" ws.length (ws.drop k) d).plus k) σ Q E := q
      intro a ext st
      refine AX_cons (AS_While (fun m ρ σ' => ∃ k acc accd ext f, ρ = ([("self", AV.loc j), ("op", acc)] : List (Str × AV)) ∧ σ' = after t ws k σ ++ ext ∧ m = (ws.drop k).length ∧ (ws.drop k).length ≤ f ∧ Stab σ.length ext acc accd ∧ relQ t ws ((chainG relA "and" f (ws.drop k) accd).plus k) σ Q E) (ws.drop k).length
        ⟨k, a, d, ext, ws.length, rfl, rfl, rfl, by rw [List.length_drop]; omega, st, q⟩ ?_)
      rintro m _ _ ⟨k, acc, accd, ext, f, rfl, rfl, rfl, hf, st, q⟩
      have P₁ : Prs (after t ws k σ ++ ext) j t (ws.drop k) := (P.after k).app _
      refine AT_of (B.call (f := 73) (by kernel_rfl) (by kernel_rfl) (AWs_cons (B.tokens P₁ (by rfl) (AWs_cons (AW_str (AWs_cons (AW_str (AWs_nil (skip_con3 B (x := some "and") P₁.stk P₁.small (skipQ_of P₁ (fun hh w => ?_) (fun hh => ?_)))))))))))
      · refine truthy_wv ?_
        have hne : 1 ≤ (ws.drop k).length := by
          cases hw : ws.drop k with
          | nil => rw [hw] at hh; cases hh
          | cons _ _ => simp
        cases f with
        | zero => omega
        | succ f =>
          have eG : chainG relA "and" (f + 1) (ws.drop k) accd = (match relA ((ws.drop k).drop 1) with | .ok d n => (chainG relA "and" f ((ws.drop k).drop (1 + n)) (.tuple [.str "and", .tuple [accd, d]])).plus (1 + n) | .no m n => .no m (1 + n)) := by
            show (if hit (ws.drop k) "word" (some "and") then _ else _) = _
            exact if_pos hh
          rw [eG, List.drop_drop] at q
          have P₂ := P₁.after 1
          have T₂ : ∀ w ∈ (ws.drop k).drop 1, Tame w := fun w hw => T w (List.mem_of_mem_drop (List.mem_of_mem_drop hw))
          rw [after_app (by rw [after_length]; exact lt), after_after] at P₂ ⊢
          rw [List.drop_drop] at P₂ T₂
          refine AX_cons (AS_Assign (AW_Tuple (AWs_cons (AW_str (AWs_cons (AW_Tuple (AWs_cons (AW_local (by rfl) (AWs_cons (B.meth (f := 144) P₂ (by rfl) (by kernel_rfl) (by kernel_rfl) (by kernel_rfl) (by rfl) (AWs_nil (rel_con B P₂ T₂ ?_))))))))))))
          cases hs2 : relA (ws.drop (k + 1)) with
          | no msg i =>
            rw [hs2] at q
            intro e2
            rw [after_app (by rw [after_length]; exact lt), after_after, List.append_assoc]
            have := q (ext ++ e2)
            rw [show k + (1 + i) = k + 1 + i by omega] at this
            exact this
          | ok d i =>
            rw [hs2] at q
            have q : relQ t ws (((chainG relA "and" f ((ws.drop k).drop (1 + i)) (.tuple [.str "and", .tuple [accd, d]])).plus (1 + i)).plus k) σ Q E := q
            rw [Due.plus_plus, List.drop_drop] at q
            intro a2 e2 s2
            rw [after_app (by rw [after_length]; exact lt), after_after, List.append_assoc]
            rw [List.length_append, after_length] at s2
            refine AWs_nil ⟨by simp, AWs_nil ⟨by simp, AX_nil ?_⟩⟩
            refine ⟨(ws.drop (k + (1 + i))).length, by rw [List.length_drop]; rw [List.length_drop] at hne ⊢; omega, k + (1 + i), _, _, ext ++ e2, f, rfl, by rw [Nat.add_assoc], rfl, by rw [List.length_drop] at hf ⊢; omega, (Stab.str _).tup2 (st.left.tup2 s2.right), q⟩
      · refine truthy_op (b := false) rfl trivial ?_
        have e0 : chainG relA "and" f (ws.drop k) accd = .ok accd 0 := by
          cases f with
          | zero => rfl
          | succ f =>
            show (if hit (ws.drop k) "word" (some "and") then _ else _) = _
            rw [if_neg (by rw [hh]; decide)]
        rw [e0] at q
        exact AX_cons (AS_Return (AW_local (by rfl) (q _ _ st)))

theorem cond_con (B : Base W mg mb) {j t : Nat} {ws : List Wrd} (P : Prs σ j t ws) (T : ∀ w ∈ ws, Tame w) (q : relQ t ws (condA ws) σ Q E) : ConC W (n + 10) false (.ref 130) [.loc j] σ Q E := by
  refine B.fn 130 (d := mth 2) (names := ["self"]) (k := 0) (by kernel_rfl) (by kernel_rfl) (by kernel_rfl) (by kernel_rfl) (by kernel_rfl) (by kernel_rfl) (by kernel_rfl) (dv := .none) (by kernel_rfl) (by kernel_rfl) (fun s vs p hp f h1 h2 kp hl => ?_) (by kernel_rfl) (by kernel_rfl) (by decide) (by kernel_rfl) (by kernel_rfl) (by kernel_rfl) ?_
  · obtain ⟨v, rfl⟩ := one_vs hl
    obtain ⟨nm, qn, params, bd, sc, gl, clo, dflt⟩ := f
    dsimp only at h1 h2
    subst h1 h2 hp
    exact BindsTo.of_eq (by kernel_rfl)
  · have lt := P.lt
    refine AX_cons (AS_Assign (B.meth (f := 137) P (by rfl) (by kernel_rfl) (by kernel_rfl) (by kernel_rfl) (by rfl) (AWs_nil (and_con B P T ?_))))
    unfold condA chainA at q
    cases hs : andA ws with
    | no m k => rw [hs] at q; exact q
    | ok d k =>
      rw [hs] at q
      have q : relQ t ws ((chainG andA "or" ws.length (ws.drop k) d).plus k) σ Q E := q
      intro a ext st
      refine AX_cons (AS_While (fun m ρ σ' => ∃ k acc accd ext f, ρ = ([("self", AV.loc j), ("op", acc)] : List (Str × AV)) ∧ σ' = after t ws k σ ++ ext ∧ m = (ws.drop k).length ∧ (ws.drop k).length ≤ f ∧ Stab σ.length ext acc accd ∧ relQ t ws ((chainG andA "or" f (ws.drop k) accd).plus k) σ Q E) (ws.drop k).length
        ⟨k, a, d, ext, ws.length, rfl, rfl, rfl, by rw [List.length_drop]; omega, st, q⟩ ?_)
      rintro m _ _ ⟨k, acc, accd, ext, f, rfl, rfl, rfl, hf, st, q⟩
      have P₁ : Prs (after t ws k σ ++ ext) j t (ws.drop k) := (P.after k).app _
      refine AT_of (B.call (f := 73) (by kernel_rfl) (by kernel_rfl) (AWs_cons (B.tokens P₁ (by rfl) (AWs_cons (AW_str (AWs_cons (AW_str (AWs_nil (skip_con3 B (x := some "or") P₁.stk P₁.small (skipQ_of P₁ (fun hh w => ?_) (fun hh => ?_)))))))))))
      · refine truthy_wv ?_
        have hne : 1 ≤ (ws.drop k).length := by
          cases hw : ws.drop k with
          | nil => rw [hw] at hh; cases hh
          | cons _ _ => simp
        cases f with
        | zero => omega
        | succ f =>
          have eG : chainG andA "or" (f + 1) (ws.drop k) accd = (match andA ((ws.drop k).drop 1) with | .ok d n => (chainG andA "or" f ((ws.drop k).drop (1 + n)) (.tuple [.str "or", .tuple [accd, d]])).plus (1 + n) | .no m n => .no m (1 + n)) := by
            show (if hit (ws.drop k) "word" (some "or") then _ else _) = _
            exact if_pos hh
          rw [eG, List.drop_drop] at q
          have P₂ := P₁.after 1
          have T₂ : ∀ w ∈ (ws.drop k).drop 1, Tame w := fun w hw => T w (List.mem_of_mem_drop (List.mem_of_mem_drop hw))
          rw [after_app (by rw [after_length]; exact lt), after_after] at P₂ ⊢
          rw [List.drop_drop] at P₂ T₂
          refine AX_cons (AS_Assign (AW_Tuple (AWs_cons (AW_str (AWs_cons (AW_Tuple (AWs_cons (AW_local (by rfl) (AWs_cons (B.meth (f := 137) P₂ (by rfl) (by kernel_rfl) (by kernel_rfl) (by kernel_rfl) (by rfl) (AWs_nil (and_con B P₂ T₂ ?_))))))))))))
          cases hs2 : andA (ws.drop (k + 1)) with
          | no msg i =>
            rw [hs2] at q
            intro e2
            rw [after_app (by rw [after_length]; exact lt), after_after, List.append_assoc]
            have := q (ext ++ e2)
            rw [show k + (1 + i) = k + 1 + i by omega] at this
            exact this
          | ok d i =>
            rw [hs2] at q
            have q : relQ t ws (((chainG andA "or" f ((ws.drop k).drop (1 + i)) (.tuple [.str "or", .tuple [accd, d]])).plus (1 + i)).plus k) σ Q E := q
            rw [Due.plus_plus, List.drop_drop] at q
            intro a2 e2 s2
            rw [after_app (by rw [after_length]; exact lt), after_after, List.append_assoc]
            rw [List.length_append, after_length] at s2
            refine AWs_nil ⟨by simp, AWs_nil ⟨by simp, AX_nil ?_⟩⟩
            refine ⟨(ws.drop (k + (1 + i))).length, by rw [List.length_drop]; rw [List.length_drop] at hne ⊢; omega, k + (1 + i), _, _, ext ++ e2, f, rfl, by rw [Nat.add_assoc], rfl, by rw [List.length_drop] at hf ⊢; omega, (Stab.str _).tup2 (st.left.tup2 s2.right), q⟩
      · refine truthy_op (b := false) rfl trivial ?_
        have e0 : chainG andA "or" f (ws.drop k) accd = .ok accd 0 := by
          cases f with
          | zero => rfl
          | succ f =>
            show (if hit (ws.drop k) "word" (some "or") then _ else _) = _
            rw [if_neg (by rw [hh]; decide)]
        rw [e0] at q
        exact AX_cons (AS_Return (AW_local (by rfl) (q _ _ st)))
end Mine

open PySem PySem.W PySem.Calls PySem.NumText PyProof.Rows
set_option Elab.async false
set_option linter.all false
set_option maxRecDepth 100000
set_option maxHeartbeats 2000000
namespace Mine
variable {W : Wd} {mg mb : Str → Option Value} {σ : List AO} {Q : AV → List AO → Prop} {E : Str → List AO → Prop} {n : Nat} {hd : Bool} {X : Fx}
def foldT (word : Str) (a : AV) (as : List AV) : AV := as.foldl (fun acc x => .tup [.str word, .tup [acc, x]]) a
def foldD (word : Str) (a : PyData) (as : List PyData) : PyData := as.foldl (fun acc x => .tuple [.str word, .tuple [acc, x]]) a
theorem foldT_snoc (word : Str) (a : AV) (as : List AV) (x : AV) : foldT word a (as ++ [x]) = .tup [.str word, .tup [foldT word a as, x]] := by
  unfold foldT
  rw [List.foldl_append]; rfl
theorem fold_con (B : Base W mg mb) {il : Nat} {word : Str} {a : AV} {as : List AV} (h : σ[il]? = some (.lst (a :: as))) (hz : as.length ≤ 1000) (q : Q (foldT word a as) (σ ++ [.lst as])) : ConC W (n + 1) false (.ref 244) [.str word, .loc il] σ Q E := by
  refine B.fn 244 (d := fst 21) (names := ["word", "items"]) (k := 0) (by kernel_rfl) (by kernel_rfl) (by kernel_rfl) (by kernel_rfl) (by kernel_rfl) (by kernel_rfl) (by kernel_rfl) (dv := .none) (by kernel_rfl) (by kernel_rfl) (fun s vs p hp f h1 h2 kp hl => ?_) (by kernel_rfl) (by kernel_rfl) (by decide) (by kernel_rfl) (by kernel_rfl) (by kernel_rfl) ?_
  · obtain ⟨v, u, rfl⟩ := two_vs hl
    obtain ⟨nm, qn, params, bd, sc, gl, clo, dflt⟩ := f
    dsimp only at h1 h2
    subst h1 h2 hp
    exact BindsTo.of_eq (by kernel_rfl)
  · refine AX_cons (AS_Assign (AW_Subscript (AW_local (by rfl) (AW_int (list_item_op h (a := a) rfl (by simp; omega) ?_)))))
    refine AX_cons (AS_For (AW_slice (AW_local (by rfl) ?_)))
    show AW W _ _ _ _ _ _
    refine AW_int ⟨_, rfl, il, a :: as, as, rfl, h, by simp; omega, rfl, ?_⟩
    refine ⟨as, _, fun i ρ τ => τ = σ ++ [.lst as] ∧ ρ.lookup ("told" : Str) = some (foldT word a (as.take i)) ∧ ρ.lookup ("word" : Str) = some (.str word), list_iter (last_get _ _) rfl, ⟨rfl, by rfl, by rfl⟩, ?_, ?_, ?_⟩
    · rintro i ρ τ ⟨rfl, _, _⟩; exact last_get _ _
    · rintro i b ρ τ hb ⟨rfl, g1, g2⟩
      refine AX_sub (ρ' := [("told", foldT word a (as.take i)), ("word", .str word), ("item", b)]) (fun x c hx => ?_) ?_
      · rw [upd_lookup]
        simp only [List.lookup_cons, List.lookup_nil] at hx
        cases h1 : x == ("told" : Str) with
        | true => rw [h1] at hx; rw [eq_of_beq h1, if_neg (by decide +kernel), g1]; exact hx
        | false =>
          rw [h1] at hx
          cases h2 : x == ("word" : Str) with
          | true => rw [h2] at hx; rw [eq_of_beq h2, if_neg (by decide +kernel), g2]; exact hx
          | false =>
            rw [h2] at hx
            cases h3 : x == ("item" : Str) with
            | true => rw [h3] at hx; rw [if_pos (eq_of_beq h3)]; exact hx
            | false => rw [h3] at hx; cases hx
      · refine AX_cons (AS_Assign (AW_Tuple (AWs_cons (AW_local (by rfl) (AWs_cons (AW_Tuple (AWs_cons (AW_local (by rfl) (AWs_cons (AW_local (by rfl) (AWs_nil ⟨by simp, AWs_nil ⟨by simp, ?_⟩⟩)))))))))))
        refine AX_nil ⟨rfl, ?_, by rfl⟩
        rw [List.take_add_one, hb]
        show _ = some (foldT word a (as.take i ++ [b]))
        rw [foldT_snoc]; rfl
    · rintro ρ τ ⟨rfl, g1, g2⟩
      rw [List.take_length] at g1
      exact AX_cons (AS_Return (AW_local g1 q))
def l2foreign : List Wrd := [("word", "or"), ("word", "and"), ("symbol", ","), ("ellipsis", "..."), ("ellipsis", "…")]
def sentence2 (mark : Nat) (cut : Bool) (f : Wrd) : Str :=
  if mark = 0 then noVar else if mark = 1 then wayMsg else if mark = 2 then noNeg else if cut then lackV [] else lackV [f]
theorem sentence_con (B : Base W mg mb) {mark : Nat} {cut : Bool} {f : Wrd} (tf : Tame f) (q : Q (.str (sentence2 mark cut f)) σ) : ConC W (n + 1) false (.ref 251) [.int (mark : Int), .bool cut, wv f] σ Q E := by
  refine B.fn 251 (d := fst 22) (names := ["mark", "cut", "foreign"]) (k := 0) (by kernel_rfl) (by kernel_rfl) (by kernel_rfl) (by kernel_rfl) (by kernel_rfl) (by kernel_rfl) (by kernel_rfl) (dv := .none) (by kernel_rfl) (by kernel_rfl) (fun s vs p hp f h1 h2 kp hl => ?_) (by kernel_rfl) (by kernel_rfl) (by decide) (by kernel_rfl) (by kernel_rfl) (by kernel_rfl) ?_
  · obtain ⟨v, u, x, rfl⟩ := three_vs hl
    obtain ⟨nm, qn, params, bd, sc, gl, clo, dflt⟩ := f
    dsimp only at h1 h2
    subst h1 h2 hp
    exact BindsTo.of_eq (by kernel_rfl)
  · unfold sentence2 at q
    refine AX_cons (AS_If (AT_Compare1 (AW_local (by rfl) (AW_int (eqn_op (k := 0) rfl (truthy_op (a := .bool _) (b := decide (mark = 0)) rfl trivial ?_))))))
    by_cases c0 : mark = 0
    · rw [if_pos c0] at q; rw [decide_eq_true c0]; exact AX_cons (AS_Return (AW_str q))
    rw [if_neg c0] at q; rw [decide_eq_false c0]
    refine AX_nil (AX_cons (AS_If (AT_Compare1 (AW_local (by rfl) (AW_int (eqn_op (k := 1) rfl (truthy_op (a := .bool _) (b := decide (mark = 1)) rfl trivial ?_)))))))
    by_cases c1 : mark = 1
    · rw [if_pos c1] at q; rw [decide_eq_true c1]; exact AX_cons (AS_Return (AW_str q))
    rw [if_neg c1] at q; rw [decide_eq_false c1]
    refine AX_nil (AX_cons (AS_If (AT_Compare1 (AW_local (by rfl) (AW_int (eqn_op (k := 2) rfl (truthy_op (a := .bool _) (b := decide (mark = 2)) rfl trivial ?_)))))))
    by_cases c2 : mark = 2
    · rw [if_pos c2] at q; rw [decide_eq_true c2]; exact AX_cons (AS_Return (AW_str q))
    rw [if_neg c2] at q; rw [decide_eq_false c2]
    refine AX_nil (AX_cons (AS_Return (AW_IfExp (AT_of (AW_local (by rfl) (truthy_op (a := .bool cut) (b := cut) rfl trivial ?_))))))
    cases cut with
    | true =>
      refine AW_str ?_
      have e : Str.ofString "expected 'value' but end of rule reached" = lackV [] := by decide +kernel
      rw [e]; exact q
    | false =>
      have tl := tf.len
      have e1 : (Str.ofString "expected 'value' but got '").length = 26 := by decide +kernel
      have e2 : (Str.ofString "'").length = 1 := by decide +kernel
      refine AW_BinOp (AW_BinOp (AW_str (AW_Subscript (AW_local (by rfl) (AW_int (wv_one (add_str_op (by omega) (AW_str (add_str_op (by rw [strLen_append]; omega) ?_)))))))))
      have e : (Str.ofString "expected 'value' but got '" ++ f.2) ++ Str.ofString "'" = lackV [f] := by
        show _ = Str.empty ++ Str.ofString "expected " ++ reprText (Str.ofString "value") ++ Str.ofString " but got " ++ reprText f.2
        rw [← miss_eq tf.tok, ← quoteV]
        have : Str.ofString "expected 'value' but got '" = (("expected " : Str) ++ Str.ofString "'value'" ++ Str.ofString " but got '") := by decide +kernel
        rw [this]
      rw [e]; exact q
def readA (reader : Nat) : List Wrd → Due := if reader = 0 then relA else if reader = 1 then andA else condA
def readQ (t : Nat) (ws : List Wrd) (d : Due) (σ : List AO) (Q : AV → List AO → Prop) : Prop :=
  match d with
  | .ok d n => ∀ a ext, Stab σ.length ext a d → Q (.tup [a, .none]) (after t ws n σ ++ ext)
  | .no m n => ∀ ext, Q (.tup [.none, .str m]) (after t ws n σ ++ ext)
theorem read_con (B : Base W mg mb) {j t reader : Nat} {ws : List Wrd} (P : Prs σ j t ws) (T : ∀ w ∈ ws, Tame w) (q : readQ t ws (readA reader ws) σ Q) : ConC W (n + 11) false (.ref 258) [.loc j, .int (reader : Int)] σ Q E := by
  refine B.fn 258 (d := fst 23) (names := ["p", "reader"]) (k := 0) (by kernel_rfl) (by kernel_rfl) (by kernel_rfl) (by kernel_rfl) (by kernel_rfl) (by kernel_rfl) (by kernel_rfl) (dv := .none) (by kernel_rfl) (by kernel_rfl) (fun s vs p hp f h1 h2 kp hl => ?_) (by kernel_rfl) (by kernel_rfl) (by decide) (by kernel_rfl) (by kernel_rfl) (by kernel_rfl) ?_
  · obtain ⟨v, u, rfl⟩ := two_vs hl
    obtain ⟨nm, qn, params, bd, sc, gl, clo, dflt⟩ := f
    dsimp only at h1 h2
    subst h1 h2 hp
    exact BindsTo.of_eq (by kernel_rfl)
  · have mono : ∀ {d : Due} {Q₁ Q₂ : AV → List AO → Prop} {E : Str → List AO → Prop}, relQ t ws d σ Q₁ E → (∀ a σ', Q₁ a σ' → Q₂ a σ') → relQ t ws d σ Q₂ E := fun {d Q₁ Q₂ E} h k => by
      cases d with
      | ok d n => exact fun a ext st => k _ _ (h a ext st)
      | no m n => exact h
    have q' : relQ t ws (readA reader ws) σ (fun a σ' => Q (.tup [a, .none]) σ') (fun m σ' => Q (.tup [.none, .str m]) (σ' ++ [.exc W.C m])) := by
      cases hq : readA reader ws with
      | ok d n => rw [hq] at q; exact q
      | no m n => rw [hq] at q; exact fun ext => by dsimp only; rw [List.append_assoc]; exact q _
    refine AX_cons (AS_TryAs (E₁ := fun m σ' => Q (.tup [.none, .str m]) (σ' ++ [.exc W.C m])) rfl B.hg B.own (by decide +kernel) ?_ ?_)
    rotate_left
    · intro msg σ₁ h
      refine AX_cons (AS_Return (AW_Tuple (AWs_cons (AW_none (AWs_cons ?_)))))
      refine AW_Call (B.bname (v := .type "str") (by kernel_rfl) (by kernel_rfl) (by decide) ⟨_, rfl, .inr (.inl ⟨_, rfl⟩), AWs_cons (AW_local (by rfl) (AWs_nil (strexc_con B.X (C := W.C) ?_ ?_ (last_get _ _) (AWs_nil ⟨by simp, h⟩)))) ⟩)
      · rw [B.cls]; kernel_rfl
      · rw [B.cls]; kernel_rfl
    unfold readA at q'
    refine AX_cons (AS_If (AT_Compare1 (AW_local (by rfl) (AW_int (eqn_op (k := 0) rfl (truthy_op (a := .bool _) (b := decide (reader = 0)) rfl trivial ?_))))))
    by_cases c0 : reader = 0
    · rw [if_pos c0] at q'; rw [decide_eq_true c0]
      refine AX_cons (AS_Return (AW_Tuple (AWs_cons (B.meth (f := 144) P (by rfl) (by kernel_rfl) (by kernel_rfl) (by kernel_rfl) (by rfl) (AWs_nil (relation_con B P T ?_))))))
      exact mono q' fun a σ' h => AWs_cons (AW_none (AWs_nil ⟨by simp, h⟩))
    rw [if_neg c0] at q'; rw [decide_eq_false c0]
    refine AX_nil (AX_cons (AS_If (AT_Compare1 (AW_local (by rfl) (AW_int (eqn_op (k := 1) rfl (truthy_op (a := .bool _) (b := decide (reader = 1)) rfl trivial ?_)))))))
    by_cases c1 : reader = 1
    · rw [if_pos c1] at q'; rw [decide_eq_true c1]
      refine AX_cons (AS_Return (AW_Tuple (AWs_cons (B.meth (f := 137) P (by rfl) (by kernel_rfl) (by kernel_rfl) (by kernel_rfl) (by rfl) (AWs_nil (and_con B P T ?_))))))
      exact mono q' fun a σ' h => AWs_cons (AW_none (AWs_nil ⟨by simp, h⟩))
    rw [if_neg c1] at q'; rw [decide_eq_false c1]
    refine AX_nil (AX_cons (AS_Return (AW_Tuple (AWs_cons (B.meth (f := 130) P (by rfl) (by kernel_rfl) (by kernel_rfl) (by kernel_rfl) (by rfl) (AWs_nil (cond_con B P T ?_)))))))
    exact mono q' fun a σ' h => AWs_cons (AW_none (AWs_nil ⟨by simp, h⟩))
end Mine

open PySem PySem.W PySem.Calls PySem.NumText PyProof.Rows
set_option Elab.async false
set_option linter.all false
set_option maxRecDepth 100000
set_option maxHeartbeats 2000000
namespace Mine
variable {W : Wd} {mg mb : Str → Option Value} {σ : List AO} {Q : AV → List AO → Prop} {E : Str → List AO → Prop} {n : Nat} {hd : Bool} {X : Fx}
theorem sub_nil {ρ : List (Str × AV)} : ∀ x a, ([] : List (Str × AV)).lookup x = some a → ρ.lookup x = some a := fun x a h => nomatch h
theorem sub_cons {ρ ρ' : List (Str × AV)} {y : Str} {b : AV} (h : ρ.lookup y = some b) (hs : ∀ x a, ρ'.lookup x = some a → ρ.lookup x = some a) : ∀ x a, ((y, b) :: ρ').lookup x = some a → ρ.lookup x = some a := fun x a hx => by
  rw [List.lookup_cons] at hx
  cases e : x == y with
  | true => rw [e] at hx; cases hx; rw [eq_of_beq e]; exact h
  | false => rw [e] at hx; exact hs x a hx
theorem upd_same {ρ : List (Str × AV)} {x : Str} {a : AV} : (upd ρ x a).lookup x = some a := by rw [upd_lookup, if_pos rfl]
theorem upd_other {ρ : List (Str × AV)} {x y : Str} {a b : AV} (h : ρ.lookup y = some b) (hne : (y == x) = false) : (upd ρ x a).lookup y = some b := by
  rw [upd_lookup, if_neg (by intro q; rw [q] at hne; simp at hne)]; exact h
/- a piece: its words with their marks -/
abbrev MW := Wrd × Option Nat
def mv : Option Nat → AV
  | none => .none
  | some k => .int (k : Int)
def fw (x : MW) : AV := wv x.1
def fm (x : MW) : AV := mv x.2
def valN (v : Nat) : AV := .tup [.str "value", .tup [.int (v : Int)]]
def letter2 (a : Nat) : Str := lawLetters.getD (a % 8) default
def headW (a : Nat) : List MW :=
  (("word", letter2 a), some 0) :: (if a / 8 % 3 = 0 then [] else [((if a / 8 % 3 = 1 then ("word", "mod") else ("symbol", "%")), some 1), (("value", zeroed (decide (a / 8 % 2 = 1)) (a / 8 / 3 % 1000)), some 3)])
def headL (a : Nat) : AV := if a / 8 % 3 = 0 then identT (letter2 a) else modT (letter2 a) (valN (a / 8 / 3 % 1000))
def l2heads : List (List Wrd) := [[("word", "is")], [("word", "is"), ("word", "not")], [("word", "in")], [("word", "not"), ("word", "in")], [("word", "within")], [("word", "not"), ("word", "within")], [("symbol", "=")], [("symbol", "!=")]]
def l2marks : List (List Nat) := [[1], [1, 3], [1], [1, 2], [1], [1, 2], [1], [1]]
def wayW (way : Nat) : List MW := (l2heads.getD way []).zip ((l2marks.getD way []).map some)
def rangeW (k e : Nat) : List MW :=
  (if k = 0 then [] else [((("symbol", ",") : Wrd), (none : Option Nat))]) ++ (((("value", zeroed (decide (e / 5 % 2 = 1)) (e % 5)) : Wrd), some 3) :: (if e / 10 % 3 = 0 then [] else [((("ellipsis", lawPoints.getD (e / 120 % 3) default) : Wrd), none), ((("value", digits (e % 5 + e / 30 % 4)) : Wrd), some 3)]))
def rangeP (e : Nat) : AV := .tup [valN (e % 5), if e / 10 % 3 = 0 then valN (e % 5) else valN (e % 5 + e / 30 % 4)]
def ek (d k : Nat) : Nat := d / 3 / 30 ^ k
def rangesW (d n : Nat) : List MW := (List.range n).flatMap fun k => rangeW k (ek d k)
def rangesP (d n : Nat) : List AV := (List.range n).map fun k => rangeP (ek d k)
def piece (a b : Nat) : List MW := headW a ++ wayW (b % 8) ++ (if b % 8 < 2 then [((("value", digits (b / 8 % 100)) : Wrd), some 3)] else rangesW (b / 8) (b / 8 % 3 + 1))
def pieceD (a b : Nat) : PyData :=
  if b % 8 < 2 then .tuple [.str (if b % 8 = 0 then "is" else "isnot"), .tuple [dataOf (headL a), dataOf (valN (b / 8 % 100))]]
  else relM (if b % 8 = 4 ∨ b % 8 = 5 then "within" else "in") (decide (b % 8 = 3 ∨ b % 8 = 5 ∨ b % 8 = 7)) (dataOf (headL a)) (listD (rangesP (b / 8) (b / 8 % 3 + 1)))
theorem rangesW_succ (d n : Nat) : rangesW d (n + 1) = rangesW d n ++ rangeW n (ek d n) := by
  unfold rangesW
  rw [List.range_succ, List.flatMap_append]; simp
theorem rangesP_succ (d n : Nat) : rangesP d (n + 1) = rangesP d n ++ [rangeP (ek d n)] := by
  unfold rangesP
  rw [List.range_succ, List.map_append]; rfl
theorem rangeW_len (k e : Nat) : (rangeW k e).length ≤ 4 := by
  unfold rangeW
  split <;> split <;> simp
theorem rangesW_len (d n : Nat) : (rangesW d n).length ≤ 4 * n := by
  induction n with
  | zero => simp [rangesW]
  | succ n ih => rw [rangesW_succ, List.length_append]; have := rangeW_len n (ek d n); omega
theorem headW_len (a : Nat) : (headW a).length ≤ 3 := by unfold headW; split <;> simp
theorem wayW_len (way : Nat) (h : way < 8) : (wayW way).length ≤ 2 := by
  have : ∀ w : Nat, w < 8 → (wayW w).length ≤ 2 := by decide +kernel
  exact this way h
theorem fl_valN (v : Nat) : Fl 2 (valN v) := Fl.tup (all2 (Fl.str (okl "value") 1) (Fl.tup (all1 (Fl.int _ 0))))
theorem letter2_mem (a : Nat) : letter2 a ∈ lawLetters := getD_mem (Nat.mod_lt _ (by decide))
theorem letter2_tame (a : Nat) : Tame ("word", letter2 a) := tame_all (f := fun x => ("word", x)) (l := lawLetters) (by kernel_rfl) _ (letter2_mem a)
theorem fl_headL (a : Nat) : Fl 4 (headL a) := by
  unfold headL
  split
  · exact (fl_ident (letter2_tame a).tok.ok).le (by decide)
  · exact fl_mod (letter2_tame a).tok.ok (fl_valN _)
theorem fl_rangesP (d n : Nat) : ∀ x ∈ rangesP d n, Fl 3 x := fun x hx => by
  obtain ⟨k, _, rfl⟩ := List.mem_map.mp hx
  unfold rangeP
  split
  · exact Fl.tup (all2 (fl_valN _) (fl_valN _))
  · exact Fl.tup (all2 (fl_valN _) (fl_valN _))
/-- the two lists under way -/
structure PS (σ₀ σ : List AO) (w m : Nat) (iw im : List MW) : Prop where
  ext : ∃ e, σ = σ₀ ++ e
  words : σ[w]? = some (.lst (iw.map fw))
  marks : σ[m]? = some (.lst (im.map fm))
  hw : σ₀.length ≤ w
  hm : σ₀.length ≤ m
  ne : w ≠ m
theorem PS.app {σ₀ : List AO} {w m : Nat} {iw im : List MW} (p : PS σ₀ σ w m iw im) (x : List AO) : PS σ₀ (σ ++ x) w m iw im := by
  obtain ⟨e, rfl⟩ := p.ext
  exact ⟨⟨e ++ x, by rw [List.append_assoc]⟩, app_get p.words, app_get p.marks, p.hw, p.hm, p.ne⟩
theorem ext_set {σ₀ σ : List AO} {k : Nat} {o : AO} (h : ∃ e, σ = σ₀ ++ e) (hk : σ₀.length ≤ k) : ∃ e, σ.set k o = σ₀ ++ e := by
  obtain ⟨e, rfl⟩ := h
  exact ⟨_, List.set_append_right _ _ hk⟩
theorem PS.w {σ₀ : List AO} {w m : Nat} {iw im : List MW} (p : PS σ₀ σ w m iw im) (new : List MW) {l : List AV} (hl : l = (iw ++ new).map fw) : PS σ₀ (σ.set w (.lst l)) w m (iw ++ new) im := by
  subst hl
  exact ⟨ext_set p.ext p.hw, List.getElem?_set_self (List.getElem?_eq_some_iff.mp p.words).1, set_ne p.marks p.ne.symm, p.hw, p.hm, p.ne⟩
theorem PS.m {σ₀ : List AO} {w m : Nat} {iw im : List MW} (p : PS σ₀ σ w m iw im) (new : List MW) {l : List AV} (hl : l = (im ++ new).map fm) : PS σ₀ (σ.set m (.lst l)) w m iw (im ++ new) := by
  subst hl
  exact ⟨ext_set p.ext p.hm, set_ne p.words p.ne, List.getElem?_set_self (List.getElem?_eq_some_iff.mp p.marks).1, p.hw, p.hm, p.ne⟩
theorem PS.o {σ₀ : List AO} {w m k : Nat} {iw im : List MW} {o : AO} (p : PS σ₀ σ w m iw im) (hk : σ₀.length ≤ k) (h1 : k ≠ w) (h2 : k ≠ m) : PS σ₀ (σ.set k o) w m iw im :=
  ⟨ext_set p.ext hk, set_ne p.words h1.symm, set_ne p.marks h2.symm, p.hw, p.hm, p.ne⟩
theorem zeroed_mul {b a : Nat} (h : b < 2) : (if b = 1 then Str.ofString "0" else Str.empty) ++ digits a = zeroed (decide (b = 1)) a := by
  unfold zeroed
  have e : Str.empty = Str.ofString "" := by decide +kernel
  by_cases c : b = 1
  · rw [if_pos c, if_pos (by simpa using c)]
  · rw [if_neg c, if_neg (by simpa using c), e]
theorem rel_tree {σ₀ : List AO} {p : Nat} {pairs : List AV} {left : AV} {method : Str} {neg : Bool} {ext : List AO} (hp : (σ₀ ++ ext)[p]? = some (.lst pairs)) (h0 : σ₀.length ≤ p) (hP : ∀ a ∈ pairs, Fl 3 a) (hl : Fl 4 left) :
    Stab σ₀.length ext (if neg then .tup [.str "not", .tup [.tup [.str "relation", .tup [.str method, left, .tup [.str "range_list", .loc p]]]]] else .tup [.str "relation", .tup [.str method, left, .tup [.str "range_list", .loc p]]]) (relM method neg (dataOf left) (listD pairs)) := by
  have hL : Stab σ₀.length ext (.tup [.str "range_list", .loc p]) (listD pairs) := fun τ hτ => is_listk hP (by
    have := hτ (p - σ₀.length) (.lst pairs) (by rw [List.getElem?_append_right h0] at hp; exact hp)
    rwa [show σ₀.length + (p - σ₀.length) = p by omega] at this)
  have r : Stab σ₀.length ext (.tup [.str "relation", .tup [.str method, left, .tup [.str "range_list", .loc p]]]) (.tuple [.str "relation", .tuple [.str method, dataOf left, listD pairs]]) := (Stab.str _).tup2 ((Stab.str _).tup3 (Stab.fl hl) hL)
  cases neg with
  | true => exact (Stab.str _).tup2 r.tup1
  | false => exact r
/-- what `_law_piece` hands back -/
def pieceQ (a b : Nat) (σ : List AO) (Q : AV → List AO → Prop) : Prop :=
  ∀ (ext : List AO) (wl ml : Nat) (tree : AV), (σ ++ ext)[wl]? = some (.lst ((piece a b).map fw)) → (σ ++ ext)[ml]? = some (.lst ((piece a b).map fm)) → σ.length ≤ wl → σ.length ≤ ml → wl ≠ ml → Stab σ.length ext tree (pieceD a b) → Q (.tup [.loc wl, .loc ml, tree]) (σ ++ ext)
end Mine

open PySem PySem.W PySem.Calls PySem.NumText PyProof.Rows
set_option Elab.async false
set_option linter.all false
set_option maxRecDepth 100000
set_option maxHeartbeats 2000000
namespace Mine
variable {W : Wd} {mg mb : Str → Option Value} {σ : List AO} {Q : AV → List AO → Prop} {E : Str → List AO → Prop} {n : Nat} {hd : Bool} {X : Fx}
theorem range_one {b : Nat} (hb : b ≤ 1000) : Builtin.Range.rangeSize 0 (b : Int) 1 = (b : Int) ∧ Builtin.Range.small 0 (b : Int) 1 = true := by
  have e : Builtin.Range.rangeSize 0 (b : Int) 1 = (b : Int) := by
    unfold Builtin.Range.rangeSize
    rw [if_pos (by decide)]
    split <;> omega
  refine ⟨e, ?_⟩
  unfold Builtin.Range.small
  rw [e]
  have fl : ∀ i : Int, -4000 ≤ i → i ≤ 4000 → Builtin.Range.rangeFitsLong i = true := fun i h1 h2 => by
    unfold Builtin.Range.rangeFitsLong
    rw [decide_eq_true (by omega), decide_eq_true (by omega)]; rfl
  rw [if_pos (by decide), fl 0 (by omega) (by omega), fl (b : Int) (by omega) (by omega), fl 1 (by omega) (by omega), fl ((b : Int) + (1 - 1)) (by omega) (by omega), Bool.or_true]; rfl
noncomputable abbrev pieceX (n : Nat) : Fx := ⟨(fst 20).scope, [], n, false⟩
noncomputable def forB2 : List Stmt := match (fst 20).body.getD 12 default with | .For _ _ b _ _ => b | _ => []
theorem digits_small {v k : Nat} (hk : 0 < k) (h : v < 10 ^ k) (h2 : k ≤ 40) : (digits v).length ≤ 40 := Nat.le_trans (digits_len hk h) h2
theorem lt40 {a : Nat} (h : a < 1000000) : a < 10 ^ 40 := Nat.lt_of_lt_of_le h (by decide)
theorem strn_con {v : Nat} (h : ((v : Int)).natAbs.log2 < 1920) (q : Q (.str (digits v)) σ) : Con W n hd (.type "str") [.int (v : Int)] σ Q E := str_con h q
theorem piece_turn (B : Base W mg mb) {σ₀ : List AO} {w m p d k : Nat} {iw im : List MW} {ps : List AV} {wy lf : AV} {R : AV → List AO → Prop} (P : PS σ₀ σ w m iw im) (hp : σ[p]? = some (.lst ps)) (h0 : σ₀.length ≤ p) (h1 : p ≠ w) (h2 : p ≠ m)
    (s1 : iw.length ≤ 100) (s2 : im.length ≤ 100) (s3 : ps.length ≤ 100) (hk : k ≤ 2) :
    AX W (pieceX n) forB2 [("words", .loc w), ("marks", .loc m), ("pairs", .loc p), ("d", .int (d : Int)), ("k", .int (k : Int)), ("way", wy), ("left", lf)] σ
      (fun ρ τ => PS σ₀ τ w m (iw ++ rangeW k (ek d k)) (im ++ rangeW k (ek d k)) ∧ τ[p]? = some (.lst (ps ++ [rangeP (ek d k)])) ∧ ρ.lookup ("words" : Str) = some (.loc w) ∧ ρ.lookup ("marks" : Str) = some (.loc m) ∧ ρ.lookup ("pairs" : Str) = some (.loc p) ∧ ρ.lookup ("d" : Str) = some (.int (d : Int)) ∧ ρ.lookup ("way" : Str) = some wy ∧ ρ.lookup ("left" : Str) = some lf) R E := by
  have hpow : ((30 : Int) ^ ((k : Int)).toNat) = ((30 ^ k : Nat) : Int) := by rw [Int.toNat_natCast]; push_cast; rfl
  have hlt : 30 ^ k < 2 ^ 64 := Nat.lt_of_le_of_lt (Nat.pow_le_pow_right (by decide) hk) (by decide)
  refine AX_cons (AS_Assign (AW_BinOp (AW_BinOp (AW_local (by rfl) (AW_int (divn_op (k := 3) rfl (by decide) (by decide) (AW_BinOp (AW_int (AW_local (by rfl) (pow_int_op (by omega) (by omega) (by decide) (divn_op (k := 30 ^ k) hpow (Nat.pos_iff_ne_zero.mp (Nat.pow_pos (by decide))) hlt ?_)))))))))))
  have eek : d / 3 / 30 ^ k = ek d k := rfl
  rw [eek]
  generalize ek d k = e
  have e5 : e % 5 < 5 := Nat.mod_lt _ (by decide)
  refine AX_cons (AS_Assign (AW_Tuple (AWs_cons (AW_str (AWs_cons (AW_Tuple (AWs_cons (AW_BinOp (AW_local (by rfl) (AW_int (modn_op (k := 5) rfl (by decide) (AWs_nil ⟨by simp, AWs_nil ⟨by simp, ?_⟩⟩))))))))))))
  -- behind the comma
  have go : ∀ (σ : List AO) (c : List MW), c.length ≤ 1 → PS σ₀ σ w m (iw ++ c) (im ++ c) → σ[p]? = some (.lst ps) → rangeW k e = c ++ rangeW 0 e →
      AX W (pieceX n) (forB2.drop 3) [("words", .loc w), ("marks", .loc m), ("pairs", .loc p), ("d", .int (d : Int)), ("k", .int (k : Int)), ("way", wy), ("left", lf), ("e", .int (e : Int)), ("low", valN (e % 5))] σ
      (fun ρ τ => PS σ₀ τ w m (iw ++ rangeW k e) (im ++ rangeW k e) ∧ τ[p]? = some (.lst (ps ++ [rangeP e])) ∧ ρ.lookup ("words" : Str) = some (.loc w) ∧ ρ.lookup ("marks" : Str) = some (.loc m) ∧ ρ.lookup ("pairs" : Str) = some (.loc p) ∧ ρ.lookup ("d" : Str) = some (.int (d : Int)) ∧ ρ.lookup ("way" : Str) = some wy ∧ ρ.lookup ("left" : Str) = some lf) R E := fun σ c hc P hp hr => by
    have z0 : (("0" : Str)).length = 1 := by decide +kernel
    have z1 : Str.empty.length = 0 := rfl
    have d5 : (digits (e % 5)).length ≤ 1 := digits_len (by decide) (by omega)
    have hif : (if e / 5 % 2 = 1 then Str.ofString "0" else Str.empty).length ≤ 1 := by split <;> omega
    refine AX_cons (AS_Expr (AW_Method (AW_local (by rfl) ⟨_, append_meth P.words, .inl ⟨_, rfl⟩, AWs_cons (AW_Tuple (AWs_cons (AW_str (AWs_cons (AW_BinOp (AW_BinOp (AW_str (AW_BinOp (AW_BinOp (AW_local (by rfl) (AW_int (divn_op (k := 5) rfl (by decide) (by decide) (AW_int (modn_op (k := 2) rfl (by decide) (mul01_op (Nat.mod_lt _ (by decide)) ?_)))))))))))))))⟩)))
    refine AW_Call (B.bname (v := .type "str") (by kernel_rfl) (by kernel_rfl) (by decide) ⟨_, rfl, .inr (.inl ⟨_, rfl⟩), AWs_cons (AW_BinOp (AW_local (by rfl) (AW_int (modn_op (k := 5) rfl (by decide) (AWs_nil (str_con (log_ok (lt40 (by omega))) (add_str_op (y := digits (e % 5)) (by omega) ?_)))))))⟩)
    rw [zeroed_mul (Nat.mod_lt _ (by decide))]
    refine AWs_nil ⟨by simp, AWs_nil (append_con P.words (by rw [List.length_map, List.length_append]; omega) ?_)⟩
    have P₁ := P.w [((("value", zeroed (decide (e / 5 % 2 = 1)) (e % 5)) : Wrd), some 3)] (l := (iw ++ c).map fw ++ [.tup [.str "value", .str (zeroed (decide (e / 5 % 2 = 1)) (e % 5))]]) (by rw [List.map_append (l₁ := iw ++ c)]; rfl)
    have hp₁ := set_ne (x := .lst ((iw ++ c).map fw ++ [.tup [.str "value", .str (zeroed (decide (e / 5 % 2 = 1)) (e % 5))]])) hp h1
    generalize σ.set w (.lst ((iw ++ c).map fw ++ [.tup [.str "value", .str (zeroed (decide (e / 5 % 2 = 1)) (e % 5))]])) = σ₁ at P₁ hp₁ ⊢
    refine AX_cons (AS_Expr (AW_Method (AW_local (by rfl) ⟨_, append_meth P₁.marks, .inl ⟨_, rfl⟩, AWs_cons (AW_int (AWs_nil (append_con P₁.marks (by rw [List.length_map, List.length_append]; omega) ?_)))⟩)))
    have P₂ := P₁.m [((("value", zeroed (decide (e / 5 % 2 = 1)) (e % 5)) : Wrd), some 3)] (l := (im ++ c).map fm ++ [.int 3]) (by rw [List.map_append (l₁ := im ++ c)]; rfl)
    have hp₂ := set_ne (x := .lst ((im ++ c).map fm ++ [.int 3])) hp₁ h2
    generalize σ₁.set m (.lst ((im ++ c).map fm ++ [.int 3])) = σ₂ at P₂ hp₂ ⊢
    refine AX_cons (AS_If (AT_Compare1 (AW_BinOp (AW_BinOp (AW_local (by rfl) (AW_int (divn_op (k := 10) rfl (by decide) (by decide) (AW_int (modn_op (k := 3) rfl (by decide) (AW_int (eqn_op (k := 0) rfl (truthy_op (a := .bool _) (b := decide (e / 10 % 3 = 0)) rfl trivial ?_))))))))))))
    by_cases c0 : e / 10 % 3 = 0
    · rw [decide_eq_true c0]
      refine AX_cons (AS_Expr (AW_Method (AW_local (by rfl) ⟨_, append_meth hp₂, .inl ⟨_, rfl⟩, AWs_cons (AW_Tuple (AWs_cons (AW_local (by rfl) (AWs_cons (AW_local (by rfl) (AWs_nil ⟨by simp, AWs_nil (append_con hp₂ (by omega) ?_)⟩))))))⟩)))
      refine AX_nil (AX_nil ⟨?_, ?_, by rfl, by rfl, by rfl, by rfl, by rfl, by rfl⟩)
      · have hr0 : rangeW 0 e = [((("value", zeroed (decide (e / 5 % 2 = 1)) (e % 5)) : Wrd), some 3)] := by unfold rangeW; rw [if_pos rfl, if_pos c0]; rfl
        rw [hr, hr0, ← List.append_assoc, ← List.append_assoc]
        exact P₂.o h0 h1 h2
      · rw [List.getElem?_set_self (List.getElem?_eq_some_iff.mp hp₂).1]
        unfold rangeP
        rw [if_pos c0]
    · rw [decide_eq_false c0]
      have ds : (digits (e % 5 + e / 30 % 4)).length ≤ 1 := digits_len (by decide) (by omega)
      refine AX_cons (AS_AugAssign (a := .loc w) (by rfl) (AW_List (AWs_cons (AW_Tuple (AWs_cons (AW_str (AWs_cons (AW_Subscript (B.tupn (v := .ref 188) (a := .tup (lawPoints.map AV.str)) (by kernel_rfl) (by kernel_rfl) (AW_BinOp (AW_BinOp (AW_local (by rfl) (AW_int (divn_op (k := 120) rfl (by decide) (by decide) (AW_int (modn_op (k := 3) rfl (by decide) (tup_item_op (strs_item (l := lawPoints) (Nat.mod_lt _ (by decide))) (by decide) (AWs_nil ⟨by simp, ?_⟩))))))))))))))))))
      refine AWs_cons (AW_Tuple (AWs_cons (AW_str (AWs_cons (AW_Call (B.bname (v := .type "str") (by kernel_rfl) (by kernel_rfl) (by decide) ⟨_, rfl, .inr (.inl ⟨_, rfl⟩), AWs_cons (AW_BinOp (AW_BinOp (AW_local (by rfl) (AW_int (modn_op (k := 5) rfl (by decide) (AW_BinOp (AW_BinOp (AW_local (by rfl) (AW_int (divn_op (k := 30) rfl (by decide) (by decide) (AW_int (modn_op (k := 4) rfl (by decide) (addn_op (k := e / 30 % 4) rfl (AWs_nil (strn_con (log_ok (lt40 (by omega))) ?_)))))))))))))))⟩))))))
      refine AWs_nil ⟨by simp, AWs_nil ⟨by simp, iadd_list_op (app_get P₂.words) (last_get _ _) (by simp; omega) ?_⟩⟩
      have P₃ := (P₂.app [.lst [.tup [.str "ellipsis", .str (lawPoints.getD (e / 120 % 3) default)], .tup [.str "value", .str (digits (e % 5 + e / 30 % 4))]]]).w [((("ellipsis", lawPoints.getD (e / 120 % 3) default) : Wrd), none), ((("value", digits (e % 5 + e / 30 % 4)) : Wrd), some 3)]
        (l := ((iw ++ c) ++ [((("value", zeroed (decide (e / 5 % 2 = 1)) (e % 5)) : Wrd), some 3)]).map fw ++ [.tup [.str "ellipsis", .str (lawPoints.getD (e / 120 % 3) default)], .tup [.str "value", .str (digits (e % 5 + e / 30 % 4))]]) (by rw [List.map_append (l₁ := (iw ++ c) ++ _)]; rfl)
      have hp₃ := set_ne (x := .lst (((iw ++ c) ++ [((("value", zeroed (decide (e / 5 % 2 = 1)) (e % 5)) : Wrd), some 3)]).map fw ++ [.tup [.str "ellipsis", .str (lawPoints.getD (e / 120 % 3) default)], .tup [.str "value", .str (digits (e % 5 + e / 30 % 4))]])) (app_get (ext := [.lst [.tup [.str "ellipsis", .str (lawPoints.getD (e / 120 % 3) default)], .tup [.str "value", .str (digits (e % 5 + e / 30 % 4))]]]) hp₂) h1
      generalize List.set (σ₂ ++ _) w _ = σ₃ at P₃ hp₃ ⊢
      refine AX_cons (AS_AugAssign (a := .loc m) (by rfl) (AW_List (AWs_cons (AW_none (AWs_cons (AW_int (AWs_nil ⟨by simp, iadd_list_op (app_get P₃.marks) (last_get _ _) (by simp; omega) ?_⟩)))))))
      have P₄ := (P₃.app [.lst [.none, .int 3]]).m [((("ellipsis", lawPoints.getD (e / 120 % 3) default) : Wrd), none), ((("value", digits (e % 5 + e / 30 % 4)) : Wrd), some 3)]
        (l := ((im ++ c) ++ [((("value", zeroed (decide (e / 5 % 2 = 1)) (e % 5)) : Wrd), some 3)]).map fm ++ [.none, .int 3]) (by rw [List.map_append (l₁ := (im ++ c) ++ _)]; rfl)
      have hp₄ := set_ne (x := .lst (((im ++ c) ++ [((("value", zeroed (decide (e / 5 % 2 = 1)) (e % 5)) : Wrd), some 3)]).map fm ++ [.none, .int 3])) (app_get (ext := [.lst [.none, .int 3]]) hp₃) h2
      generalize List.set (σ₃ ++ _) m _ = σ₄ at P₄ hp₄ ⊢
      refine AX_cons (AS_Expr (AW_Method (AW_local (by rfl) ⟨_, append_meth hp₄, .inl ⟨_, rfl⟩, AWs_cons (AW_Tuple (AWs_cons (AW_local (by rfl) (AWs_cons (AW_Tuple (AWs_cons (AW_str (AWs_cons (AW_Tuple (AWs_cons (AW_BinOp (AW_BinOp (AW_local (by rfl) (AW_int (modn_op (k := 5) rfl (by decide) (AW_BinOp (AW_BinOp (AW_local (by rfl) (AW_int (divn_op (k := 30) rfl (by decide) (by decide) (AW_int (modn_op (k := 4) rfl (by decide) (addn_op (k := e / 30 % 4) rfl ?_)))))))))))))))))))))))⟩)))
      refine AWs_nil ⟨by simp, AWs_nil ⟨by simp, AWs_nil ⟨by simp, AWs_nil (append_con hp₄ (by omega) ?_)⟩⟩⟩
      refine AX_nil (AX_nil ⟨?_, ?_, by rfl, by rfl, by rfl, by rfl, by rfl, by rfl⟩)
      · have hr0 : rangeW 0 e = [((("value", zeroed (decide (e / 5 % 2 = 1)) (e % 5)) : Wrd), some 3)] ++ [((("ellipsis", lawPoints.getD (e / 120 % 3) default) : Wrd), none), ((("value", digits (e % 5 + e / 30 % 4)) : Wrd), some 3)] := by unfold rangeW; rw [if_pos rfl, if_neg c0]; rfl
        rw [hr, hr0, ← List.append_assoc, ← List.append_assoc, ← List.append_assoc, ← List.append_assoc]
        exact P₄.o h0 h1 h2
      · rw [List.getElem?_set_self (List.getElem?_eq_some_iff.mp hp₄).1]
        unfold rangeP
        rw [if_neg c0]; rfl
  refine AX_cons (AS_If (AT_Compare1 (AW_local (by rfl) (AW_int (gt_op (truthy_op (a := .bool _) (b := decide ((k : Int) > 0)) rfl trivial ?_))))))
  by_cases hk0 : k = 0
  · rw [decide_eq_false (by omega)]
    subst hk0
    exact AX_nil (go σ [] (by simp) (by rw [List.append_nil, List.append_nil]; exact P) hp (by rw [List.nil_append]))
  · rw [decide_eq_true (by omega)]
    refine AX_cons (AS_Expr (AW_Method (AW_local (by rfl) ⟨_, append_meth P.words, .inl ⟨_, rfl⟩, AWs_cons (AW_Tuple (AWs_cons (AW_str (AWs_cons (AW_str (AWs_nil ⟨by simp, AWs_nil (append_con P.words (by rw [List.length_map]; omega) ?_)⟩))))))⟩)))
    have P₁ := P.w [((("symbol", ",") : Wrd), none)] (l := iw.map fw ++ [.tup [.str "symbol", .str ","]]) (by rw [List.map_append]; rfl)
    have hp₁ := set_ne (x := .lst (iw.map fw ++ [.tup [.str "symbol", .str ","]])) hp h1
    generalize σ.set w (.lst (iw.map fw ++ [.tup [.str "symbol", .str ","]])) = σ₁ at P₁ hp₁ ⊢
    refine AX_cons (AS_Expr (AW_Method (AW_local (by rfl) ⟨_, append_meth P₁.marks, .inl ⟨_, rfl⟩, AWs_cons (AW_none (AWs_nil (append_con P₁.marks (by rw [List.length_map]; omega) ?_)))⟩)))
    have P₂ := P₁.m [((("symbol", ",") : Wrd), none)] (l := im.map fm ++ [.none]) (by rw [List.map_append]; rfl)
    have hp₂ := set_ne (x := .lst (im.map fm ++ [.none])) hp₁ h2
    generalize σ₁.set m (.lst (im.map fm ++ [.none])) = σ₂ at P₂ hp₂ ⊢
    exact AX_nil (go σ₂ [((("symbol", ",") : Wrd), none)] (by simp) P₂ hp₂ (by unfold rangeW; rw [if_neg hk0, if_pos rfl]; rfl))
end Mine

open PySem PySem.W PySem.Calls PySem.NumText PyProof.Rows
set_option Elab.async false
set_option linter.all false
set_option maxRecDepth 100000
set_option maxHeartbeats 2000000
namespace Mine
variable {W : Wd} {mg mb : Str → Option Value} {σ : List AO} {Q : AV → List AO → Prop} {E : Str → List AO → Prop} {n : Nat} {hd : Bool} {X : Fx}
def headsV : AV := .tup (l2heads.map fun l => .tup (l.map wv))
def marksV : AV := .tup (l2marks.map fun l => .tup (l.map fun k : Nat => AV.int (k : Int)))
theorem way_facts {way : Nat} (h : way < 8) : (wayW way).map fw = (l2heads.getD way []).map wv ∧ (wayW way).map fm = (l2marks.getD way []).map (fun k : Nat => AV.int (k : Int)) ∧
    itemAt (l2heads.map fun l => AV.tup (l.map wv)) (way : Int) = some (.tup ((l2heads.getD way []).map wv)) ∧ itemAt (l2marks.map fun l => AV.tup (l.map fun k : Nat => AV.int (k : Int))) (way : Int) = some (.tup ((l2marks.getD way []).map fun k : Nat => AV.int (k : Int))) ∧
    ((l2heads.getD way []).map wv).length ≤ 2 ∧ ((l2marks.getD way []).map (fun k : Nat => AV.int (k : Int))).length ≤ 2 := by
  rcases (show way = 0 ∨ way = 1 ∨ way = 2 ∨ way = 3 ∨ way = 4 ∨ way = 5 ∨ way = 6 ∨ way = 7 by omega) with rfl | rfl | rfl | rfl | rfl | rfl | rfl | rfl <;> exact ⟨rfl, rfl, rfl, rfl, by decide, by decide⟩
theorem isL_ints (l : List Int) : IsL σ (l.map AV.int) (l.map PyData.int) := by
  induction l with
  | nil => simp [IsL]
  | cons i r ih => simp only [List.map_cons, IsL]; exact ⟨_, _, rfl, by simp only [Is], ih⟩
theorem layAll_ints (l : List Int) : PyData.canLayAll0 (l.map PyData.int) = true := by
  induction l with
  | nil => simp [PyData.canLayAll0]
  | cons i r ih => simp [PyData.canLayAll0, PyData.canLay0, ih]
theorem in_ints {l : List Nat} {k : Nat} {L : List AV} (hL : L = (l.map fun i : Nat => (i : Int)).map AV.int) (q : Q (.bool (decide (k ∈ l))) σ) : AOp2 W X (compareOp .In) (.int (k : Int)) (.tup L) σ Q E := by
  subst hL
  refine in_tup_op (isL_ints _) (d := .int (k : Int)) (by simp only [Is]) (layAll_ints _) (by simp [PyData.canLay0]) (by simp [PyData.depth]) ?_
  have e : ((l.map fun i : Nat => (i : Int)).map PyData.int).any (fun y => PyData.eqv y (.int (k : Int))) = decide (k ∈ l) := by
    rw [Bool.eq_iff_iff, List.any_eq_true, decide_eq_true_eq]
    constructor
    · rintro ⟨y, hy, h⟩
      obtain ⟨z, hz, rfl⟩ := List.mem_map.mp hy
      obtain ⟨i, hi, rfl⟩ := List.mem_map.mp hz
      rw [eqv_int, beq_iff_eq] at h
      have : i = k := by omega
      rw [← this]; exact hi
    · intro hm
      exact ⟨.int (k : Int), List.mem_map.mpr ⟨(k : Int), List.mem_map.mpr ⟨k, hm, rfl⟩, rfl⟩, by rw [eqv_int]; simp⟩
  rw [e]; exact q
theorem piece_rest (B : Base W mg mb) {σ₀ : List AO} {w m a b : Nat} (P : PS σ₀ σ w m (headW a) (headW a)) (q : pieceQ a b σ₀ Q) :
    AX W (pieceX n) ((fst 20).body.drop 6) [("b", .int (b : Int)), ("words", .loc w), ("marks", .loc m), ("left", headL a)] σ (fun _ σ' => Q .none σ') Q E := by
  have hwl := headW_len a
  refine AX_cons (AS_Assign (AW_BinOp (AW_local (by rfl) (AW_int (modn_op (k := 8) rfl (by decide) ?_)))))
  refine AX_cons (AS_Assign (AW_BinOp (AW_local (by rfl) (AW_int (divn_op (k := 8) rfl (by decide) (by decide) ?_)))))
  unfold pieceQ piece pieceD at q
  have hway : b % 8 < 8 := Nat.mod_lt _ (by decide)
  generalize b % 8 = way at hway q ⊢
  generalize b / 8 = d at q ⊢
  obtain ⟨f1, f2, f3, f4, f5, f6⟩ := way_facts hway
  have hww := wayW_len way hway
  refine AX_cons (AS_AugAssign (a := .loc w) (by rfl) (AW_Call (B.bname (v := .type "list") (by kernel_rfl) (by kernel_rfl) (by decide) ⟨_, rfl, .inr (.inl ⟨_, rfl⟩), AWs_cons (AW_Subscript (B.tupn (v := .ref 208) (a := headsV) (by kernel_rfl) (by kernel_rfl) (AW_local (by rfl) (tup_item_op f3 (by decide) (AWs_nil (listtup_con (by omega) ?_))))))⟩)))
  refine iadd_list_op (app_get P.words) (last_get _ _) (by rw [List.length_map]; omega) ?_
  have P₁ := (P.app [.lst ((l2heads.getD way []).map wv)]).w (wayW way) (l := (headW a).map fw ++ (l2heads.getD way []).map wv) (by rw [List.map_append, f1])
  generalize List.set (σ ++ _) w _ = σ₁ at P₁ ⊢
  refine AX_cons (AS_AugAssign (a := .loc m) (by rfl) (AW_Call (B.bname (v := .type "list") (by kernel_rfl) (by kernel_rfl) (by decide) ⟨_, rfl, .inr (.inl ⟨_, rfl⟩), AWs_cons (AW_Subscript (B.tupn (v := .ref 217) (a := marksV) (by kernel_rfl) (by kernel_rfl) (AW_local (by rfl) (tup_item_op f4 (by decide) (AWs_nil (listtup_con (by omega) ?_))))))⟩)))
  refine iadd_list_op (app_get P₁.marks) (last_get _ _) (by rw [List.length_map]; omega) ?_
  have P₂ := (P₁.app [.lst ((l2marks.getD way []).map fun k : Nat => AV.int (k : Int))]).m (wayW way) (l := (headW a).map fm ++ (l2marks.getD way []).map fun k : Nat => AV.int (k : Int)) (by rw [List.map_append, f2])
  generalize List.set (σ₁ ++ _) m _ = σ₂ at P₂ ⊢
  have hbl : (headW a ++ wayW way).length ≤ 5 := by rw [List.length_append]; omega
  generalize headW a ++ wayW way = base at P₂ q hbl ⊢
  have hleft := fl_headL a
  generalize headL a = left at hleft q ⊢
  refine AX_cons (AS_If (AT_Compare1 (AW_local (by rfl) (AW_int (ltk_op (k := 2) rfl (truthy_op (a := .bool _) (b := decide (way < 2)) rfl trivial ?_))))))
  by_cases h2 : way < 2
  · rw [decide_eq_true h2]
    simp only [if_pos h2] at q
    have dv : (digits (d % 100)).length ≤ 2 := digits_len (by decide) (Nat.mod_lt _ (by decide))
    refine AX_cons (AS_Assign (AW_BinOp (AW_local (by rfl) (AW_int (modn_op (k := 100) rfl (by decide) ?_)))))
    refine AX_cons (AS_Expr (AW_Method (AW_local (by rfl) ⟨_, append_meth P₂.words, .inl ⟨_, rfl⟩, AWs_cons (AW_Tuple (AWs_cons (AW_str (AWs_cons (AW_Call (B.bname (v := .type "str") (by kernel_rfl) (by kernel_rfl) (by decide) ⟨_, rfl, .inr (.inl ⟨_, rfl⟩), AWs_cons (AW_local (by rfl) (AWs_nil (strn_con (log_ok (lt40 (Nat.lt_trans (Nat.mod_lt _ (by decide)) (by decide)))) ?_)))⟩))))))⟩)))
    refine AWs_nil ⟨by simp, AWs_nil (append_con P₂.words (by rw [List.length_map]; omega) ?_)⟩
    have P₃ := P₂.w [((("value", digits (d % 100)) : Wrd), some 3)] (l := base.map fw ++ [.tup [.str "value", .str (digits (d % 100))]]) (by rw [List.map_append]; rfl)
    generalize List.set σ₂ w _ = σ₃ at P₃ ⊢
    refine AX_cons (AS_Expr (AW_Method (AW_local (by rfl) ⟨_, append_meth P₃.marks, .inl ⟨_, rfl⟩, AWs_cons (AW_int (AWs_nil (append_con P₃.marks (by rw [List.length_map]; omega) ?_)))⟩)))
    have P₄ := P₃.m [((("value", digits (d % 100)) : Wrd), some 3)] (l := base.map fm ++ [.int 3]) (by rw [List.map_append]; rfl)
    generalize List.set σ₃ m _ = σ₄ at P₄ ⊢
    obtain ⟨e, rfl⟩ := P₄.ext
    have hop : itemAt [AV.str "is", AV.str "isnot"] (way : Int) = some (.str (if way = 0 then "is" else "isnot")) := by
      rcases (show way = 0 ∨ way = 1 by omega) with rfl | rfl <;> rfl
    refine AX_cons (AS_Return (AW_Tuple (AWs_cons (AW_local (by rfl) (AWs_cons (AW_local (by rfl) (AWs_cons (AW_Tuple (AWs_cons (AW_Subscript (AW_Tuple (AWs_cons (AW_str (AWs_cons (AW_str (AWs_nil ⟨by simp, AW_local (by rfl) (tup_item_op hop (by simp) ?_)⟩))))))))))))))))
    refine AWs_cons (AW_Tuple (AWs_cons (AW_local (by rfl) (AWs_cons (AW_Tuple (AWs_cons (AW_str (AWs_cons (AW_Tuple (AWs_cons (AW_local (by rfl) (AWs_nil ⟨by simp, AWs_nil ⟨by simp, AWs_nil ⟨by simp, AWs_nil ⟨by simp, AWs_nil ⟨by simp, ?_⟩⟩⟩⟩⟩))))))))))))
    exact q e w m _ P₄.words P₄.marks P₄.hw P₄.hm P₄.ne ((Stab.str _).tup2 ((Stab.fl hleft).tup2 (Stab.fl (fl_valN _))))
  · rw [decide_eq_false h2]
    simp only [if_neg h2] at q
    refine AX_nil (AX_cons (AS_Assign (AW_List (AWs_nil ⟨by simp, ?_⟩))))
    have hp0 := last_get σ₂ (.lst [])
    have lw := (List.getElem?_eq_some_iff.mp P₂.words).1
    have lm := (List.getElem?_eq_some_iff.mp P₂.marks).1
    have P₃ := P₂.app [.lst []]
    have l0 : σ₀.length ≤ σ₂.length := by obtain ⟨e, rfl⟩ := P₂.ext; simp
    obtain ⟨p, hpe⟩ : ∃ p, p = σ₂.length := ⟨_, rfl⟩
    rw [← hpe] at hp0 ⊢
    generalize σ₂ ++ [.lst []] = σ₃ at P₃ hp0 ⊢
    have hd3 : d % 3 < 3 := Nat.mod_lt _ (by decide)
    refine AX_cons (AS_For ?_)
    refine AW_Call (B.bname (v := .type "range") (by kernel_rfl) (by kernel_rfl) (by decide) ⟨_, rfl, .inr (.inl ⟨_, rfl⟩), AWs_cons (AW_BinOp (AW_BinOp (AW_local (by rfl) (AW_int (modn_op (k := 3) rfl (by decide) (AW_int (addn_op (k := 1) rfl (AWs_nil (range1_con ?_)))))))))⟩)
    obtain ⟨r1, r2⟩ := range_one (b := d % 3 + 1) (by omega)
    have P₄ := P₃.app [.rng 0 ((d % 3 + 1 : Nat) : Int) 1]
    refine ⟨_, _, fun i ρ τ => PS σ₀ τ w m (base ++ rangesW d i) (base ++ rangesW d i) ∧ τ[p]? = some (.lst (rangesP d i)) ∧ ρ.lookup ("words" : Str) = some (.loc w) ∧ ρ.lookup ("marks" : Str) = some (.loc m) ∧ ρ.lookup ("pairs" : Str) = some (.loc p) ∧ ρ.lookup ("d" : Str) = some (.int (d : Int)) ∧ ρ.lookup ("way" : Str) = some (.int (way : Int)) ∧ ρ.lookup ("left" : Str) = some left,
      range_iter (last_get _ _) rfl r2 r1, ⟨?_, app_get hp0, by rfl, by rfl, by rfl, by rfl, by rfl, by rfl⟩, fun _ _ _ _ => trivial, ?_, ?_⟩
    · have e0 : rangesW d 0 = [] := rfl
      rw [e0, List.append_nil]; exact P₄
    · rintro i x ρ τ hx ⟨PT, hpT, g1, g2, g3, g4, g5, g6⟩
      obtain ⟨hi, rfl⟩ := rangeItems_get hx
      have e : AV.int (0 + (i : Int) * 1) = .int (i : Int) := congrArg AV.int (by clear r1 r2 hx; omega)
      have hrl := rangesW_len d i
      have hpl : (rangesP d i).length = i := by unfold rangesP; rw [List.length_map, List.length_range]
      have keep : ∀ {y : Str} {c : AV}, ρ.lookup y = some c → (y == ("k" : Str)) = false → (upd ρ "k" (.int (i : Int))).lookup y = some c := fun h hne => upd_other h hne
      rw [e]
      refine AX_sub (ρ' := [("words", .loc w), ("marks", .loc m), ("pairs", .loc p), ("d", .int (d : Int)), ("k", .int (i : Int)), ("way", .int (way : Int)), ("left", left)]) (sub_cons (keep g1 (by decide +kernel)) (sub_cons (keep g2 (by decide +kernel)) (sub_cons (keep g3 (by decide +kernel)) (sub_cons (keep g4 (by decide +kernel)) (sub_cons upd_same (sub_cons (keep g5 (by decide +kernel)) (sub_cons (keep g6 (by decide +kernel)) sub_nil))))))) ?_
      have turn := piece_turn (W := W) (E := E) (R := Q) (n := n) (wy := .int (way : Int)) (lf := left) B PT hpT (by omega) (by omega) (by omega) (by rw [List.length_append]; omega) (by rw [List.length_append]; omega) (by omega) (k := i) (d := d) (by omega)
      rw [List.append_assoc, ← rangesW_succ, ← rangesP_succ] at turn
      exact turn
    · rintro ρ τ ⟨PT, hpT, g1, g2, g3, g4, g5, g6⟩
      have hln : (rangeItems 0 1 (d % 3 + 1)).length = d % 3 + 1 := rangeItems_length _ _ _
      rw [hln] at PT hpT
      refine AX_sub (ρ' := [("words", .loc w), ("marks", .loc m), ("pairs", .loc p), ("way", .int (way : Int)), ("left", left)]) (sub_cons g1 (sub_cons g2 (sub_cons g3 (sub_cons g5 (sub_cons g6 sub_nil))))) ?_
      obtain ⟨e, rfl⟩ := PT.ext
      have tree := fun method neg => rel_tree (method := method) (neg := neg) hpT (by omega) (fl_rangesP d (d % 3 + 1)) hleft
      have hmeth : (if way = 4 ∨ way = 5 then Str.ofString "within" else Str.ofString "in") = (if decide (way ∈ [4, 5]) then Str.ofString "within" else Str.ofString "in") := by simp
      have hneg : decide (way = 3 ∨ way = 5 ∨ way = 7) = decide (way ∈ [3, 5, 7]) := by simp
      rw [hmeth, hneg] at q
      refine AX_cons (AS_Assign (AW_Tuple (AWs_cons (AW_str (AWs_cons (AW_Tuple (AWs_cons (AW_IfExp (AT_Compare1 (AW_local (by rfl) (AW_Tuple (AWs_cons (AW_int (AWs_cons (AW_int (AWs_nil ⟨by simp, in_ints (l := [4, 5]) rfl (truthy_op (a := .bool _) (b := decide (way ∈ [4, 5])) rfl trivial ?_)⟩))))))))))))))))
      have go : ∀ method : Str, method = (if decide (way ∈ [4, 5]) then Str.ofString "within" else Str.ofString "in") → AX W (pieceX n) ((fst 20).body.drop 14) [("words", .loc w), ("marks", .loc m), ("pairs", .loc p), ("way", .int (way : Int)), ("left", left), ("told", .tup [.str "relation", .tup [.str method, left, .tup [.str "range_list", .loc p]]])] (σ₀ ++ e) (fun _ σ' => Q .none σ') Q E := fun method hm => by
        rw [← hm] at q
        refine AX_cons (AS_Return (AW_Tuple (AWs_cons (AW_local (by rfl) (AWs_cons (AW_local (by rfl) (AWs_cons (AW_IfExp (AT_Compare1 (AW_local (by rfl) (AW_Tuple (AWs_cons (AW_int (AWs_cons (AW_int (AWs_cons (AW_int (AWs_nil ⟨by simp, in_ints (l := [3, 5, 7]) rfl (truthy_op (a := .bool _) (b := decide (way ∈ [3, 5, 7])) rfl trivial ?_)⟩))))))))))))))))))
        cases hn : decide (way ∈ [3, 5, 7]) with
        | true =>
          rw [hn] at q
          exact AW_Tuple (AWs_cons (AW_str (AWs_cons (AW_Tuple (AWs_cons (AW_local (by rfl) (AWs_nil ⟨by simp, AWs_nil ⟨by simp, AWs_nil ⟨by simp, q e w m _ PT.words PT.marks PT.hw PT.hm PT.ne (tree method true)⟩⟩⟩)))))))
        | false =>
          rw [hn] at q
          exact AW_local (by rfl) (AWs_nil ⟨by simp, q e w m _ PT.words PT.marks PT.hw PT.hm PT.ne (tree method false)⟩)
      cases hm : decide (way ∈ [4, 5]) with
      | true =>
        exact AW_str (AWs_cons (AW_local (by rfl) (AWs_cons (AW_Tuple (AWs_cons (AW_str (AWs_cons (AW_local (by rfl) (AWs_nil ⟨by simp, AWs_nil ⟨by simp, AWs_nil ⟨by simp, go _ (by rw [hm]; rfl)⟩⟩⟩)))))))))
      | false =>
        exact AW_str (AWs_cons (AW_local (by rfl) (AWs_cons (AW_Tuple (AWs_cons (AW_str (AWs_cons (AW_local (by rfl) (AWs_nil ⟨by simp, AWs_nil ⟨by simp, AWs_nil ⟨by simp, go _ (by rw [hm]; rfl)⟩⟩⟩)))))))))
end Mine

open PySem PySem.W PySem.Calls PySem.NumText PyProof.Rows
set_option Elab.async false
set_option linter.all false
set_option maxRecDepth 100000
set_option maxHeartbeats 2000000
namespace Mine
variable {W : Wd} {mg mb : Str → Option Value} {σ : List AO} {Q : AV → List AO → Prop} {E : Str → List AO → Prop} {n : Nat} {hd : Bool} {X : Fx}
theorem nen_op {i k : Nat} {j : Int} (hj : j = (k : Int)) (q : Q (.bool (!decide (i = k))) σ) : AOp2 W X (compareOp .NotEq) (.int (i : Int)) (.int j) σ Q E := by
  subst hj
  refine ne_op (da := .int (i : Int)) (db := .int (k : Int)) (by simp only [Is]) (by simp only [Is]) (by rfl) (by rfl) ?_
  rw [eqv_int]
  have : ((i : Int) == (k : Int)) = decide (i = k) := by
    rw [Bool.eq_iff_iff, beq_iff_eq, decide_eq_true_eq]; omega
  rw [this]; exact q
theorem piece_con (B : Base W mg mb) {a b : Nat} (q : pieceQ a b σ Q) : ConC W (n + 1) false (.ref 237) [.int (a : Int), .int (b : Int)] σ Q E := by
  refine B.fn 237 (d := fst 20) (names := ["a", "b"]) (k := 0) (by kernel_rfl) (by kernel_rfl) (by kernel_rfl) (by kernel_rfl) (by kernel_rfl) (by kernel_rfl) (by kernel_rfl) (dv := .none) (by kernel_rfl) (by kernel_rfl) (fun s vs p hp f h1 h2 kp hl => ?_) (by kernel_rfl) (by kernel_rfl) (by decide) (by kernel_rfl) (by kernel_rfl) (by kernel_rfl) ?_
  · obtain ⟨v, u, rfl⟩ := two_vs hl
    obtain ⟨nm, qn, params, bd, sc, gl, clo, dflt⟩ := f
    dsimp only at h1 h2
    subst h1 h2 hp
    exact BindsTo.of_eq (by kernel_rfl)
  · refine AX_cons (AS_Assign (AW_Subscript (B.tupn (v := .ref 187) (a := .tup (lawLetters.map AV.str)) (by kernel_rfl) (by kernel_rfl) (AW_BinOp (AW_local (by rfl) (AW_int (modn_op (k := 8) rfl (by decide) (tup_item_op (strs_item (l := lawLetters) (Nat.mod_lt _ (by decide))) (by decide) ?_))))))))
    refine AX_cons (AS_Assign (AW_List (AWs_cons (AW_Tuple (AWs_cons (AW_str (AWs_cons (AW_local (by rfl) (AWs_nil ⟨by simp, AWs_nil ⟨by simp, ?_⟩⟩)))))))))
    refine AX_cons (AS_Assign (AW_List (AWs_cons (AW_int (AWs_nil ⟨by simp, ?_⟩)))))
    have P : PS σ (σ ++ [.lst [.tup [.str "word", .str (letter2 a)]]] ++ [.lst [.int 0]]) σ.length (σ ++ [AO.lst [.tup [.str "word", .str (letter2 a)]]]).length [((("word", letter2 a) : Wrd), some 0)] [((("word", letter2 a) : Wrd), some 0)] := by
      refine ⟨⟨_, List.append_assoc _ _ _⟩, app_get (last_get _ _), last_get _ _, Nat.le_refl _, by simp, by simp⟩
    obtain ⟨w, hw⟩ : ∃ w, w = σ.length := ⟨_, rfl⟩
    have el : lawLetters.getD (a % 8) default = letter2 a := rfl
    rw [el]
    rw [← hw] at P ⊢
    generalize (σ ++ [AO.lst [.tup [.str "word", .str (letter2 a)]]]).length = m at P ⊢
    generalize σ ++ [.lst [.tup [.str "word", .str (letter2 a)]]] ++ [.lst [.int 0]] = σ₁ at P ⊢
    refine AX_cons (AS_Assign (AW_Tuple (AWs_cons (AW_local (by rfl) (AWs_cons (AW_Tuple (AWs_nil ⟨by simp, AWs_nil ⟨by simp, ?_⟩⟩)))))))
    refine AX_cons (AS_Assign (AW_BinOp (AW_local (by rfl) (AW_int (divn_op (k := 8) rfl (by decide) (by decide) ?_)))))
    refine AX_cons (AS_If (AT_Compare1 (AW_BinOp (AW_local (by rfl) (AW_int (modn_op (k := 3) rfl (by decide) (AW_int (nen_op (k := 0) rfl (truthy_op (a := .bool _) (b := !decide (a / 8 % 3 = 0)) rfl trivial ?_)))))))))
    by_cases c0 : a / 8 % 3 = 0
    · rw [decide_eq_true c0]
      refine AX_nil ?_
      have eW : headW a = [((("word", letter2 a) : Wrd), some 0)] := by unfold headW; rw [if_pos c0]
      have eL : headL a = identT (letter2 a) := by unfold headL; rw [if_pos c0]
      rw [← eW] at P
      refine AX_sub (ρ' := [("b", .int (b : Int)), ("words", .loc w), ("marks", .loc m), ("left", headL a)]) (sub_cons (by rfl) (sub_cons (by rfl) (sub_cons (by rfl) (sub_cons (by rw [eL]; rfl) sub_nil)))) ?_
      exact piece_rest B P q
    · rw [decide_eq_false c0]
      have v3 : a / 8 / 3 % 1000 < 1000 := Nat.mod_lt _ (by decide)
      have dv : (digits (a / 8 / 3 % 1000)).length ≤ 3 := digits_len (by decide) v3
      have z0 : (("0" : Str)).length = 1 := by decide +kernel
      have z1 : Str.empty.length = 0 := rfl
      have hif : (if a / 8 % 2 = 1 then Str.ofString "0" else Str.empty).length ≤ 1 := by split <;> omega
      have eW : headW a = [((("word", letter2 a) : Wrd), some 0)] ++ [((if a / 8 % 3 = 1 then (("word", "mod") : Wrd) else ("symbol", "%")), some 1), ((("value", zeroed (decide (a / 8 % 2 = 1)) (a / 8 / 3 % 1000)) : Wrd), some 3)] := by unfold headW; rw [if_neg c0]; rfl
      have eL : headL a = modT (letter2 a) (valN (a / 8 / 3 % 1000)) := by unfold headL; rw [if_neg c0]
      refine AX_cons (AS_Assign (AW_BinOp (AW_BinOp (AW_local (by rfl) (AW_int (divn_op (k := 3) rfl (by decide) (by decide) (AW_int (modn_op (k := 1000) rfl (by decide) ?_))))))))
      refine AX_cons (AS_AugAssign (a := .loc w) (by rfl) (AW_List (AWs_cons (AW_IfExp (AT_Compare1 (AW_BinOp (AW_local (by rfl) (AW_int (modn_op (k := 3) rfl (by decide) (AW_int (eqn_op (k := 1) rfl (truthy_op (a := .bool _) (b := decide (a / 8 % 3 = 1)) rfl trivial ?_))))))))))))
      have go : ∀ u : Wrd, u = (if a / 8 % 3 = 1 then (("word", "mod") : Wrd) else ("symbol", "%")) → AWs W (pieceX n) (match (fst 20).body.getD 5 default with | .If _ b _ _ => (match b.getD 1 default with | .AugAssign _ _ (.List es _) _ => es.drop 1 | _ => []) | _ => []) [("a", .int (a : Int)), ("b", .int (b : Int)), ("letter", .str (letter2 a)), ("words", .loc w), ("marks", .loc m), ("left", identT (letter2 a)), ("c", .int ((a / 8 : Nat) : Int)), ("v", .int ((a / 8 / 3 % 1000 : Nat) : Int))] σ₁
          (fun as σ₂ => (wv u :: as).length ≤ 1000000 ∧ AOp2 W (pieceX n) (inplaceOp .Add) (.loc w) (.loc σ₂.length) (σ₂ ++ [.lst (wv u :: as)]) (fun c σ₂ => AX W (pieceX n) (match (fst 20).body.getD 5 default with | .If _ b _ _ => b.drop 2 | _ => []) (upd [("a", .int (a : Int)), ("b", .int (b : Int)), ("letter", .str (letter2 a)), ("words", .loc w), ("marks", .loc m), ("left", identT (letter2 a)), ("c", .int ((a / 8 : Nat) : Int)), ("v", .int ((a / 8 / 3 % 1000 : Nat) : Int))] "words" c) σ₂ (fun ρ₁ σ₁ => AX W (pieceX n) ((fst 20).body.drop 6) ρ₁ σ₁ (fun _ σ' => Q .none σ') Q E) Q E) E) E := fun u hu => by
        refine AWs_cons (AW_Tuple (AWs_cons (AW_str (AWs_cons (AW_BinOp (AW_BinOp (AW_str (AW_BinOp (AW_local (by rfl) (AW_int (modn_op (k := 2) rfl (by decide) (mul01_op (Nat.mod_lt _ (by decide)) ?_))))))))))))
        refine AW_Call (B.bname (v := .type "str") (by kernel_rfl) (by kernel_rfl) (by decide) ⟨_, rfl, .inr (.inl ⟨_, rfl⟩), AWs_cons (AW_local (by rfl) (AWs_nil (strn_con (log_ok (lt40 (Nat.lt_trans v3 (by decide)))) (add_str_op (by omega) ?_))))⟩)
        rw [zeroed_mul (Nat.mod_lt _ (by decide))]
        refine AWs_nil ⟨by simp, AWs_nil ⟨by simp, iadd_list_op (app_get P.words) (last_get _ _) (by simp) ?_⟩⟩
        have P₁ := (P.app [.lst [wv u, .tup [.str "value", .str (zeroed (decide (a / 8 % 2 = 1)) (a / 8 / 3 % 1000))]]]).w [(u, some 1), ((("value", zeroed (decide (a / 8 % 2 = 1)) (a / 8 / 3 % 1000)) : Wrd), some 3)] (l := [((("word", letter2 a) : Wrd), some 0)].map fw ++ [wv u, .tup [.str "value", .str (zeroed (decide (a / 8 % 2 = 1)) (a / 8 / 3 % 1000))]]) (by rw [List.map_append]; rfl)
        generalize List.set (σ₁ ++ _) w _ = σ₂ at P₁ ⊢
        refine AX_cons (AS_AugAssign (a := .loc m) (by rfl) (AW_List (AWs_cons (AW_int (AWs_cons (AW_int (AWs_nil ⟨by simp, iadd_list_op (app_get P₁.marks) (last_get _ _) (by simp) ?_⟩)))))))
        have P₂ := (P₁.app [.lst [.int 1, .int 3]]).m [(u, some 1), ((("value", zeroed (decide (a / 8 % 2 = 1)) (a / 8 / 3 % 1000)) : Wrd), some 3)] (l := [((("word", letter2 a) : Wrd), some 0)].map fm ++ [.int 1, .int 3]) (by rw [List.map_append]; rfl)
        generalize List.set (σ₂ ++ _) m _ = σ₃ at P₂ ⊢
        subst hu
        rw [← eW] at P₂
        refine AX_cons (AS_Assign (AW_Tuple (AWs_cons (AW_str (AWs_cons (AW_Tuple (AWs_cons (AW_local (by rfl) (AWs_cons (AW_Tuple (AWs_cons (AW_str (AWs_cons (AW_Tuple (AWs_cons (AW_local (by rfl) (AWs_nil ⟨by simp, AWs_nil ⟨by simp, AWs_nil ⟨by simp, AWs_nil ⟨by simp, ?_⟩⟩⟩⟩)))))))))))))))))
        refine AX_nil ?_
        refine AX_sub (ρ' := [("b", .int (b : Int)), ("words", .loc w), ("marks", .loc m), ("left", headL a)]) (sub_cons (by rfl) (sub_cons (by rfl) (sub_cons (by rfl) (sub_cons (by rw [eL]; rfl) sub_nil)))) ?_
        exact piece_rest B P₂ q
      by_cases c1 : a / 8 % 3 = 1
      · rw [decide_eq_true c1]
        exact AW_Tuple (AWs_cons (AW_str (AWs_cons (AW_str (AWs_nil ⟨by simp, go ("word", "mod") (by rw [if_pos c1])⟩)))))
      · rw [decide_eq_false c1]
        exact AW_Tuple (AWs_cons (AW_str (AWs_cons (AW_str (AWs_nil ⟨by simp, go ("symbol", "%") (by rw [if_neg c1])⟩)))))
end Mine

open PySem PySem.W PySem.Calls PySem.NumText PyProof.Rows
set_option Elab.async false
set_option linter.all false
set_option maxRecDepth 100000
set_option maxHeartbeats 2000000
namespace Mine
/- the plain law: what a reader finds on words that were laid by hand -/
def fx (x : MW) : Wrd := x.1
def Bad (tail : List Wrd) : Prop := tail = [] ∨ ∃ f rest, f ∈ l2foreign ∧ tail = f :: rest
def faultS (m : Nat) (tail : List Wrd) : Str := if m = 0 then noVar else if m = 1 then wayMsg else if m = 2 then noNeg else lackV tail
def faultN (m : Nat) (tail : List Wrd) : Nat := if m = 0 ∧ hit tail "word" none = true then 1 else 0
structure Seg {α : Type} (rd : List Wrd → Ans α) (ok : List Wrd → Prop) (S : List MW) (a : α) : Prop where
  full : ∀ rest, ok rest → rd (S.map fx ++ rest) = .ok a S.length
  fault : ∀ i w m tail, S[i]? = some (w, some m) → Bad tail → rd ((S.take i).map fx ++ tail) = .no (faultS m tail) (i + faultN m tail)
def genG {α β : Type} (rd : List Wrd → Ans α) (jk jx : Str) (comb : β → α → β) : Nat → List Wrd → β → Ans β
  | 0, _, acc => .ok acc 0
  | f + 1, ws, acc =>
    if hit ws jk (some jx) then
      match rd (ws.drop 1) with
      | .ok a n => (genG rd jk jx comb f (ws.drop (1 + n)) (comb acc a)).plus (1 + n)
      | .no m n => .no m (1 + n)
    else .ok acc 0
def genA {α β : Type} (rd : List Wrd → Ans α) (jk jx : Str) (comb : β → α → β) (init : α → β) (ws : List Wrd) : Ans β :=
  match rd ws with
  | .no m n => .no m n
  | .ok a n => (genG rd jk jx comb ws.length (ws.drop n) (init a)).plus n
def tailM {α : Type} (j : Wrd) (T : List (List MW × α)) : List MW := T.flatMap fun p => (j, none) :: p.1
theorem tailM_cons {α : Type} (j : Wrd) (p : List MW × α) (T : List (List MW × α)) : tailM j (p :: T) = ((j, none) :: p.1) ++ tailM j T := by simp [tailM]
section
variable {α β : Type} {rd : List Wrd → Ans α} {ok : List Wrd → Prop} {jk jx : Str} {comb : β → α → β}
theorem ok_tail (hj : ∀ rest, ok ((jk, jx) :: rest)) {T : List (List MW × α)} {rest : List Wrd} (h : ok rest) : ok ((tailM (jk, jx) T).map fx ++ rest) := by
  cases T with
  | nil => exact h
  | cons p T => rw [tailM_cons]; exact hj _
theorem drop_map_app (S : List MW) (rest : List Wrd) : (S.map fx ++ rest).drop S.length = rest := by
  have : S.length = (S.map fx).length := by rw [List.length_map]
  rw [this, List.drop_left]
theorem genG_full (hj : ∀ rest, ok ((jk, jx) :: rest)) : ∀ (T : List (List MW × α)) (f : Nat) (rest : List Wrd) (acc : β), (∀ p ∈ T, Seg rd ok p.1 p.2) → ok rest → hit rest jk (some jx) = false → ((tailM (jk, jx) T).map fx ++ rest).length ≤ f →
    genG rd jk jx comb f ((tailM (jk, jx) T).map fx ++ rest) acc = .ok (T.foldl (fun a p => comb a p.2) acc) (tailM (jk, jx) T).length
  | [], f, rest, acc, _, _, hh, _ => by
    cases f with
    | zero => rfl
    | succ f =>
      show (if hit rest jk (some jx) then _ else _) = _
      rw [if_neg (by rw [hh]; decide)]; rfl
  | p :: T, f, rest, acc, hT, hr, hh, hf => by
    rw [tailM_cons] at hf ⊢
    cases f with
    | zero => simp at hf
    | succ f =>
      have e : (((jk, jx), none) :: p.1 ++ tailM (jk, jx) T : List MW).map fx ++ rest = (jk, jx) :: (p.1.map fx ++ ((tailM (jk, jx) T).map fx ++ rest)) := by simp [fx]
      rw [e] at hf ⊢
      have hd : genG rd jk jx comb (f + 1) ((jk, jx) :: (p.1.map fx ++ ((tailM (jk, jx) T).map fx ++ rest))) acc = (match rd (p.1.map fx ++ ((tailM (jk, jx) T).map fx ++ rest)) with | .ok a n => (genG rd jk jx comb f ((p.1.map fx ++ ((tailM (jk, jx) T).map fx ++ rest)).drop n) (comb acc a)).plus (1 + n) | .no m n => .no m (1 + n)) := by
        have h1 : hit ((jk, jx) :: (p.1.map fx ++ ((tailM (jk, jx) T).map fx ++ rest))) jk (some jx) = true := by simp [hit]
        show (if hit ((jk, jx) :: (p.1.map fx ++ ((tailM (jk, jx) T).map fx ++ rest))) jk (some jx) = true then _ else _) = _
        rw [if_pos h1]
        have hdr : ∀ n, ((jk, jx) :: (p.1.map fx ++ ((tailM (jk, jx) T).map fx ++ rest))).drop (1 + n) = (p.1.map fx ++ ((tailM (jk, jx) T).map fx ++ rest)).drop n := fun n => by rw [Nat.add_comm]; rfl
        simp only [hdr]
        rfl
      rw [hd, (hT p (.head _)).full _ (ok_tail hj hr)]
      dsimp only
      rw [drop_map_app, genG_full hj T f rest _ (fun q hq => hT q (.tail _ hq)) hr hh (by simp at hf ⊢; omega)]
      simp [Ans.plus]; omega
theorem genG_fault (hj : ∀ rest, ok ((jk, jx) :: rest)) : ∀ (T : List (List MW × α)) (f : Nat) (i : Nat) (w : Wrd) (m : Nat) (tail : List Wrd) (acc : β), (∀ p ∈ T, Seg rd ok p.1 p.2) → (tailM (jk, jx) T)[i]? = some (w, some m) → Bad tail → (((tailM (jk, jx) T).take i).map fx ++ tail).length ≤ f →
    genG rd jk jx comb f (((tailM (jk, jx) T).take i).map fx ++ tail) acc = .no (faultS m tail) (i + faultN m tail)
  | [], f, i, w, m, tail, acc, _, h, _, _ => by simp [tailM] at h
  | p :: T, f, i, w, m, tail, acc, hT, h, hb, hf => by
    rw [tailM_cons] at h hf ⊢
    cases i with
    | zero => simp at h
    | succ i =>
      have e0 : ((((jk, jx), none) :: p.1 ++ tailM (jk, jx) T : List MW).take (i + 1)).map fx ++ tail = (jk, jx) :: (((p.1 ++ tailM (jk, jx) T).take i).map fx ++ tail) := by simp [fx]
      have h : (p.1 ++ tailM (jk, jx) T)[i]? = some (w, some m) := by simpa using h
      rw [e0] at hf ⊢
      cases f with
      | zero => simp at hf
      | succ f =>
        have hd : genG rd jk jx comb (f + 1) ((jk, jx) :: (((p.1 ++ tailM (jk, jx) T).take i).map fx ++ tail)) acc = (match rd (((p.1 ++ tailM (jk, jx) T).take i).map fx ++ tail) with | .ok a n => (genG rd jk jx comb f ((((p.1 ++ tailM (jk, jx) T).take i).map fx ++ tail).drop n) (comb acc a)).plus (1 + n) | .no m n => .no m (1 + n)) := by
          have h1 : hit ((jk, jx) :: (((p.1 ++ tailM (jk, jx) T).take i).map fx ++ tail)) jk (some jx) = true := by simp [hit]
          show (if hit ((jk, jx) :: (((p.1 ++ tailM (jk, jx) T).take i).map fx ++ tail)) jk (some jx) = true then _ else _) = _
          rw [if_pos h1]
          have hdr : ∀ n, ((jk, jx) :: (((p.1 ++ tailM (jk, jx) T).take i).map fx ++ tail)).drop (1 + n) = (((p.1 ++ tailM (jk, jx) T).take i).map fx ++ tail).drop n := fun n => by rw [Nat.add_comm]; rfl
          simp only [hdr]
          rfl
        rw [hd]
        by_cases hi : i < p.1.length
        · rw [List.getElem?_append_left hi] at h
          rw [List.take_append_of_le_length (Nat.le_of_lt hi), (hT p (.head _)).fault i w m tail h hb]
          dsimp only
          congr 1; omega
        · rw [List.getElem?_append_right (by omega)] at h
          obtain ⟨j, rfl⟩ : ∃ j, i = p.1.length + j := ⟨i - p.1.length, by omega⟩
          rw [Nat.add_sub_cancel_left] at h
          have et : (p.1 ++ tailM (jk, jx) T).take (p.1.length + j) = p.1 ++ (tailM (jk, jx) T).take j := by
            rw [List.take_append, List.take_of_length_le (by omega), Nat.add_sub_cancel_left]
          rw [et, List.map_append, List.append_assoc] at hf ⊢
          have hok : ok (((tailM (jk, jx) T).take j).map fx ++ tail) := by
            cases T with
            | nil => simp [tailM] at h
            | cons q T =>
              rw [tailM_cons] at h ⊢
              cases j with
              | zero => simp at h
              | succ j => simp only [List.cons_append, List.take_succ_cons, List.map_cons]; exact hj _
          rw [(hT p (.head _)).full _ hok]
          dsimp only
          rw [drop_map_app, genG_fault hj T f j w m tail _ (fun q hq => hT q (.tail _ hq)) h hb (by simp at hf ⊢; omega)]
          simp [Ans.plus]; omega
theorem seg_chain (hj : ∀ rest, ok ((jk, jx) :: rest)) {init : α → β} {S : List MW} {a : α} {T : List (List MW × α)} (h0 : Seg rd ok S a) (hT : ∀ p ∈ T, Seg rd ok p.1 p.2) :
    Seg (genA rd jk jx comb init) (fun rest => ok rest ∧ hit rest jk (some jx) = false) (S ++ tailM (jk, jx) T) (T.foldl (fun a p => comb a p.2) (init a)) where
  full := fun rest hr => by
    unfold genA
    rw [List.map_append, List.append_assoc, h0.full _ (ok_tail hj hr.1)]
    dsimp only
    rw [drop_map_app, genG_full hj T _ rest _ hT hr.1 hr.2 (by simp)]
    simp [Ans.plus]
  fault := fun i w m tail h hb => by
    unfold genA
    by_cases hi : i < S.length
    · rw [List.getElem?_append_left hi] at h
      rw [List.take_append_of_le_length (Nat.le_of_lt hi), h0.fault i w m tail h hb]
    · rw [List.getElem?_append_right (by omega)] at h
      obtain ⟨j, rfl⟩ : ∃ j, i = S.length + j := ⟨i - S.length, by omega⟩
      rw [Nat.add_sub_cancel_left] at h
      have et : (S ++ tailM (jk, jx) T).take (S.length + j) = S ++ (tailM (jk, jx) T).take j := by
        rw [List.take_append, List.take_of_length_le (by omega), Nat.add_sub_cancel_left]
      have hok : ok (((tailM (jk, jx) T).take j).map fx ++ tail) := by
        cases T with
        | nil => simp [tailM] at h
        | cons q T =>
          rw [tailM_cons] at h ⊢
          cases j with
          | zero => simp at h
          | succ j => simp only [List.cons_append, List.take_succ_cons, List.map_cons]; exact hj _
      rw [et, List.map_append, List.append_assoc, h0.full _ hok]
      dsimp only
      rw [drop_map_app, genG_fault hj T _ j w m tail _ hT h hb (by simp)]
      simp [Ans.plus]; omega
end
theorem plus_due (k : Nat) (d : Due) : Due.plus k d = Ans.plus k d := by cases d <;> rfl
theorem chainG_is (rd : List Wrd → Due) (word : Str) : ∀ (f : Nat) (ws : List Wrd) (acc : PyData), chainG rd word f ws acc = genG rd "word" word (fun acc d => .tuple [.str word, .tuple [acc, d]]) f ws acc
  | 0, _, _ => rfl
  | f + 1, ws, acc => by
    unfold chainG genG
    simp only [chainG_is rd word f, plus_due]
    all_goals (cases hit ws "word" (some word) <;> cases rd (ws.drop 1) <;> rfl)
theorem chainA_is (rd : List Wrd → Due) (word : Str) : chainA rd word = genA rd "word" word (fun acc d => .tuple [.str word, .tuple [acc, d]]) _root_.id := by
  funext ws
  unfold chainA genA
  simp only [chainG_is, plus_due, _root_.id]
  all_goals (cases rd ws <;> rfl)
theorem spansG_is : ∀ (f : Nat) (ws : List Wrd) (acc : List AV), spansG f ws acc = genG spanA "symbol" "," (fun acc a => acc ++ [a]) f ws acc
  | 0, _, _ => rfl
  | f + 1, ws, acc => by
    unfold spansG genG
    simp only [spansG_is f]
    all_goals (cases hit ws "symbol" (some ",") <;> cases spanA (ws.drop 1) <;> rfl)
theorem spansA_is : spansA = genA spanA "symbol" "," (fun acc a => acc ++ [a]) fun a => [a] := by
  funext ws
  unfold spansA genA
  simp only [spansG_is]
  all_goals (cases spanA ws <;> rfl)
end Mine

open PySem PySem.W PySem.Calls PySem.NumText PyProof.Rows
set_option Elab.async false
set_option linter.all false
set_option maxRecDepth 100000
set_option maxHeartbeats 2000000
namespace Mine
theorem bad_cases {P : List Wrd → Prop} {tail : List Wrd} (hb : Bad tail) (h0 : P []) (h1 : ∀ r, P (("word", "or") :: r)) (h2 : ∀ r, P (("word", "and") :: r)) (h3 : ∀ r, P (("symbol", ",") :: r)) (h4 : ∀ r, P (("ellipsis", "...") :: r)) (h5 : ∀ r, P (("ellipsis", "…") :: r)) : P tail := by
  rcases hb with rfl | ⟨f, r, hf, rfl⟩
  · exact h0
  · unfold l2foreign at hf
    simp only [List.mem_cons, List.not_mem_nil, or_false] at hf
    rcases hf with rfl | rfl | rfl | rfl | rfl
    · exact h1 r
    · exact h2 r
    · exact h3 r
    · exact h4 r
    · exact h5 r
theorem bad_val {tail : List Wrd} (hb : Bad tail) : valA tail = .no (lackV tail) 0 := bad_cases (P := fun t => valA t = .no (lackV t) 0) hb (by kernel_rfl) (fun _ => by kernel_rfl) (fun _ => by kernel_rfl) (fun _ => by kernel_rfl) (fun _ => by kernel_rfl) (fun _ => by kernel_rfl)
theorem bad_mod {tail : List Wrd} (hb : Bad tail) : isMod tail = false := bad_cases (P := fun t => isMod t = false) hb (by kernel_rfl) (fun _ => by kernel_rfl) (fun _ => by kernel_rfl) (fun _ => by kernel_rfl) (fun _ => by kernel_rfl) (fun _ => by kernel_rfl)
theorem bad_expr {tail : List Wrd} (hb : Bad tail) : exprA tail = .no noVar (faultN 0 tail) := bad_cases (P := fun t => exprA t = .no noVar (faultN 0 t)) hb (by kernel_rfl) (fun _ => by kernel_rfl) (fun _ => by kernel_rfl) (fun _ => by kernel_rfl) (fun _ => by kernel_rfl) (fun _ => by kernel_rfl)
theorem bad_rel {tail : List Wrd} {left : AV} (hb : Bad tail) : relB tail left = .no wayMsg 0 := bad_cases (P := fun t => relB t left = .no wayMsg 0) hb (by kernel_rfl) (fun _ => by kernel_rfl) (fun _ => by kernel_rfl) (fun _ => by kernel_rfl) (fun _ => by kernel_rfl) (fun _ => by kernel_rfl)
theorem bad_is {tail : List Wrd} {left : AV} (hb : Bad tail) : isB tail left = .no (lackV tail) 0 := bad_cases (P := fun t => isB t left = .no (lackV t) 0) hb (by kernel_rfl) (fun _ => by kernel_rfl) (fun _ => by kernel_rfl) (fun _ => by kernel_rfl) (fun _ => by kernel_rfl) (fun _ => by kernel_rfl)
theorem bad_in {tail : List Wrd} {left : AV} (hb : Bad tail) : inB tail true left = .no noNeg 0 := bad_cases (P := fun t => inB t true left = .no noNeg 0) hb (by kernel_rfl) (fun _ => by kernel_rfl) (fun _ => by kernel_rfl) (fun _ => by kernel_rfl) (fun _ => by kernel_rfl) (fun _ => by kernel_rfl)
theorem bad_span {tail : List Wrd} (hb : Bad tail) : spanA tail = .no (lackV tail) 0 := by unfold spanA; rw [bad_val hb]
def vw (x : Str) : MW := (("value", x), some 3)
theorem val_cons (x : Str) (r : List Wrd) : valA (("value", x) :: r) = .ok (valT x) 1 := by kernel_rfl
theorem fault3 (tail : List Wrd) : faultS 3 tail = lackV tail ∧ faultN 3 tail = 0 := ⟨rfl, rfl⟩
theorem seg_val (x : Str) : Seg valA (fun _ => True) [vw x] (valT x) where
  full := fun rest _ => val_cons x rest
  fault := fun i w m tail h hb => by
    cases i with
    | zero =>
      cases h
      exact bad_val hb
    | succ i => simp at h
def okSpan (rest : List Wrd) : Prop := hit rest "ellipsis" none = false
theorem seg_span (e : Nat) : Seg spanA okSpan (rangeW 0 e) (rangeP e) := by
  have z1 : valT (zeroed (decide (e / 5 % 2 = 1)) (e % 5)) = valN (e % 5) := by
    unfold valT valN num
    rw [zeroed_num _ (lt40 (Nat.lt_trans (Nat.mod_lt _ (by decide)) (by decide)))]; rfl
  by_cases c : e / 10 % 3 = 0
  · have eW : rangeW 0 e = [vw (zeroed (decide (e / 5 % 2 = 1)) (e % 5))] := by unfold rangeW; rw [if_pos rfl, if_pos c]; rfl
    have eP : rangeP e = .tup [valT (zeroed (decide (e / 5 % 2 = 1)) (e % 5)), valT (zeroed (decide (e / 5 % 2 = 1)) (e % 5))] := by unfold rangeP; rw [if_pos c, z1]
    rw [eW, eP]
    generalize zeroed (decide (e / 5 % 2 = 1)) (e % 5) = x
    refine ⟨fun rest hr => ?_, fun i w m tail h hb => ?_⟩
    · show spanA (("value", x) :: rest) = _
      have hr : hit rest "ellipsis" none = false := hr
      unfold spanA
      rw [val_cons]
      dsimp only
      rw [List.drop_one, List.tail_cons, hr]; rfl
    · cases i with
      | zero => cases h; exact bad_span hb
      | succ i => simp at h
  · have z2 : valT (digits (e % 5 + e / 30 % 4)) = valN (e % 5 + e / 30 % 4) := by
      have hn := zeroed_num false (a := e % 5 + e / 30 % 4) (lt40 (by omega))
      have hz : zeroed false (e % 5 + e / 30 % 4) = digits (e % 5 + e / 30 % 4) := by
        refine str_ext ?_
        rw [zeroed_list, if_neg (by decide)]; rfl
      rw [hz] at hn
      unfold valT valN num
      rw [hn]; rfl
    have eW : rangeW 0 e = [vw (zeroed (decide (e / 5 % 2 = 1)) (e % 5)), ((("ellipsis", lawPoints.getD (e / 120 % 3) default) : Wrd), none), vw (digits (e % 5 + e / 30 % 4))] := by unfold rangeW; rw [if_pos rfl, if_neg c]; rfl
    have eP : rangeP e = .tup [valT (zeroed (decide (e / 5 % 2 = 1)) (e % 5)), valT (digits (e % 5 + e / 30 % 4))] := by unfold rangeP; rw [if_neg c, z1, z2]
    rw [eW, eP]
    generalize zeroed (decide (e / 5 % 2 = 1)) (e % 5) = x
    generalize digits (e % 5 + e / 30 % 4) = y
    generalize lawPoints.getD (e / 120 % 3) default = p
    have key : ∀ r : List Wrd, spanA ((("value", x) : Wrd) :: (("ellipsis", p) : Wrd) :: r) = (match valA r with | .ok b m => .ok (.tup [valT x, b]) (1 + 1 + m) | .no msg m => .no msg (1 + 1 + m)) := fun r => by
      unfold spanA
      rw [val_cons]
      dsimp only
      have h1 : hit (((("value", x) : Wrd) :: (("ellipsis", p) : Wrd) :: r).drop 1) "ellipsis" none = true := by kernel_rfl
      rw [if_pos h1]
      have h2 : ((("value", x) : Wrd) :: (("ellipsis", p) : Wrd) :: r).drop (1 + 1) = r := rfl
      rw [h2]
      all_goals (cases valA r <;> rfl)
    refine ⟨fun rest hr => ?_, fun i w m tail h hb => ?_⟩
    · show spanA (("value", x) :: ("ellipsis", p) :: ("value", y) :: rest) = _
      rw [key, val_cons]; rfl
    · rcases i with _ | _ | _ | i
      · cases h; exact bad_span hb
      · cases h
      · cases h
        show spanA (("value", x) :: ("ellipsis", p) :: tail) = _
        rw [key, bad_val hb]; rfl
      · simp at h
def okRel (rest : List Wrd) : Prop := okSpan rest ∧ hit rest "symbol" (some ",") = false
def rangesT (d n : Nat) : List (List MW × AV) := (List.range n).map fun k => (rangeW 0 (ek d (k + 1)), rangeP (ek d (k + 1)))
theorem rangesW_eq (d n : Nat) : rangesW d (n + 1) = rangeW 0 (ek d 0) ++ tailM ("symbol", ",") (rangesT d n) := by
  induction n with
  | zero => simp [rangesW, rangesT, tailM]
  | succ n ih =>
    rw [rangesW_succ, ih, List.append_assoc]
    congr 1
    unfold rangesT
    rw [List.range_succ, List.map_append]
    unfold tailM
    rw [List.flatMap_append]
    congr 1
    simp only [List.map_cons, List.map_nil, List.flatMap_cons, List.flatMap_nil, List.append_nil]
    unfold rangeW
    rw [if_neg (by omega), if_pos rfl]; rfl
theorem rangesP_eq (d n : Nat) : rangesP d (n + 1) = (rangesT d n).foldl (fun acc p => acc ++ [p.2]) [rangeP (ek d 0)] := by
  induction n with
  | zero => rfl
  | succ n ih =>
    rw [rangesP_succ, ih]
    unfold rangesT
    rw [List.range_succ, List.map_append, List.foldl_append]; rfl
theorem seg_spans (d n : Nat) : Seg spansA okRel (rangesW d (n + 1)) (rangesP d (n + 1)) := by
  rw [spansA_is, rangesW_eq, rangesP_eq]
  refine seg_chain (ok := okSpan) (init := fun a => [a]) (fun rest => by unfold okSpan; kernel_rfl) (seg_span _) fun p hp => ?_
  obtain ⟨k, _, rfl⟩ := List.mem_map.mp hp
  exact seg_span _
def Ans.map {α β : Type} (g : α → β) : Ans α → Ans β
  | .ok a n => .ok (g a) n
  | .no m n => .no m n
theorem seg_prefix {α β : Type} {rd : List Wrd → Ans β} {rd2 : List Wrd → Ans α} {ok : List Wrd → Prop} {g : α → β} {V : List MW} {a : α} (Y : List MW) (h1 : ∀ r, rd (Y.map fx ++ r) = (Ans.map g (rd2 r)).plus Y.length)
    (h2 : ∀ i w m tail, Y[i]? = some (w, some m) → Bad tail → rd ((Y.take i).map fx ++ tail) = .no (faultS m tail) (i + faultN m tail)) (s : Seg rd2 ok V a) : Seg rd ok (Y ++ V) (g a) where
  full := fun rest hr => by
    rw [List.map_append, List.append_assoc, h1, s.full _ hr]
    simp [Ans.map, Ans.plus]
  fault := fun i w m tail h hb => by
    by_cases hi : i < Y.length
    · rw [List.getElem?_append_left hi] at h
      rw [List.take_append_of_le_length (Nat.le_of_lt hi)]
      exact h2 i w m tail h hb
    · rw [List.getElem?_append_right (by omega)] at h
      obtain ⟨j, rfl⟩ : ∃ j, i = Y.length + j := ⟨i - Y.length, by omega⟩
      rw [Nat.add_sub_cancel_left] at h
      have et : (Y ++ V).take (Y.length + j) = Y ++ V.take j := by rw [List.take_append, List.take_of_length_le (by omega), Nat.add_sub_cancel_left]
      rw [et, List.map_append, List.append_assoc, h1, s.fault j w m tail h hb]
      simp [Ans.map, Ans.plus]; omega
theorem inA_is (m : Str) (neg : Bool) (left : AV) (a : Ans (List AV)) : inA m neg left a = Ans.map (fun items => relM m neg (dataOf left) (listD items)) a := by cases a <;> rfl
theorem isA_is (op : Str) (left : AV) (a : Ans AV) : isA op left a = Ans.map (fun v => .tuple [.str op, .tuple [dataOf left, dataOf v]]) a := by cases a <;> rfl
theorem map_id {α : Type} (a : Ans α) : Ans.map _root_.id a = a := by cases a <;> rfl
/-- one word of a mark ahead -/
theorem fault_one {β : Type} {rd : List Wrd → Ans β} {x : Wrd} {k : Nat} (h : ∀ tail, Bad tail → rd tail = .no (faultS k tail) (0 + faultN k tail)) : ∀ i w m tail, ([(x, some k)] : List MW)[i]? = some (w, some m) → Bad tail → rd ((([(x, some k)] : List MW).take i).map fx ++ tail) = .no (faultS m tail) (i + faultN m tail) := fun i w m tail hi hb => by
  cases i with
  | zero => cases hi; exact h tail hb
  | succ i => simp at hi
theorem fault_two {β : Type} {rd : List Wrd → Ans β} {x y : Wrd} {k l : Nat} (h : ∀ tail, Bad tail → rd tail = .no (faultS k tail) (0 + faultN k tail)) (h2 : ∀ tail, Bad tail → rd (x :: tail) = .no (faultS l tail) (1 + faultN l tail)) : ∀ i w m tail, ([(x, some k), (y, some l)] : List MW)[i]? = some (w, some m) → Bad tail → rd ((([(x, some k), (y, some l)] : List MW).take i).map fx ++ tail) = .no (faultS m tail) (i + faultN m tail) := fun i w m tail hi hb => by
  rcases i with _ | _ | i
  · cases hi; exact h tail hb
  · cases hi; exact h2 tail hb
  · simp at hi
theorem plus2 {d : Due} : Due.plus 1 (Due.plus 1 d) = Ans.plus 2 d := by
  cases d with
  | ok a n => show Ans.ok a (1 + (1 + n)) = Ans.ok a (2 + n); rw [show 1 + (1 + n) = 2 + n by omega]
  | no m n => show Ans.no m (1 + (1 + n)) = Ans.no m (2 + n); rw [show 1 + (1 + n) = 2 + n by omega]
theorem seg_rel (way : Nat) (hw : way < 8) (left : AV) (d v : Nat) (hv : v < 10 ^ 40) :
    Seg (fun ws => relB ws left) okRel (wayW way ++ (if way < 2 then [vw (digits v)] else rangesW d (d % 3 + 1))) (if way < 2 then .tuple [.str (if way = 0 then "is" else "isnot"), .tuple [dataOf left, dataOf (valN v)]] else relM (if way = 4 ∨ way = 5 then "within" else "in") (decide (way = 3 ∨ way = 5 ∨ way = 7)) (dataOf left) (listD (rangesP d (d % 3 + 1)))) := by
  have z2 : valT (digits v) = valN v := by
    have hn := zeroed_num false (a := v) hv
    have hz : zeroed false v = digits v := by
      refine str_ext ?_
      rw [zeroed_list, if_neg (by decide)]; rfl
    rw [hz] at hn
    unfold valT valN num
    rw [hn]; rfl
  have b0 : ∀ tail, Bad tail → relB tail left = .no (faultS 1 tail) (0 + faultN 1 tail) := fun tail hb => bad_rel hb
  have sp := seg_spans d (d % 3)
  have wk : ∀ {α : Type} {rd : List Wrd → Ans α} {S : List MW} {a : α}, Seg rd (fun _ => True) S a → Seg rd okRel S a := fun s => ⟨fun r _ => s.full r trivial, s.fault⟩
  rcases (show way = 0 ∨ way = 1 ∨ way = 2 ∨ way = 3 ∨ way = 4 ∨ way = 5 ∨ way = 6 ∨ way = 7 by omega) with rfl | rfl | rfl | rfl | rfl | rfl | rfl | rfl
  · have s : Seg (fun ws => isB ws left) okRel [vw (digits v)] (.tuple [.str "is", .tuple [dataOf left, dataOf (valN v)]]) := by
      rw [← z2]
      refine ⟨fun rest _ => by kernel_rfl, fault_one (rd := fun ws => isB ws left) (x := ("value", digits v)) (k := 3) fun tail hb => bad_is hb⟩
    exact seg_prefix (g := _root_.id) (wayW 0) (fun r => by rw [map_id]; kernel_rfl) (fault_one b0) s
  · have s := wk (seg_val (digits v))
    rw [z2] at s
    exact seg_prefix (rd := fun ws => relB ws left) (g := fun v => .tuple [.str "isnot", .tuple [dataOf left, dataOf v]]) (wayW 1) (fun r => by
      have e : relB ((("word", "is") : Wrd) :: (("word", "not") : Wrd) :: r) left = Due.plus 1 (Due.plus 1 (isA "isnot" left (valA r))) := by kernel_rfl
      rw [← isA_is]
      exact e.trans plus2) (fault_two (rd := fun ws => relB ws left) (x := ("word", "is")) (y := ("word", "not")) (k := 1) (l := 3) b0 fun tail hb => by
      have e : relB ((("word", "is") : Wrd) :: tail) left = Due.plus 1 (isB tail left) := by kernel_rfl
      exact e.trans (by rw [bad_is hb]; rfl)) s
  · exact seg_prefix (rd := fun ws => relB ws left) (g := fun items => relM "in" false (dataOf left) (listD items)) (wayW 2) (fun r => by
      have e : relB ((("word", "in") : Wrd) :: r) left = Due.plus 1 (inA "in" false left (spansA r)) := by kernel_rfl
      rw [← inA_is]
      exact e.trans (plus_due _ _)) (fault_one (rd := fun ws => relB ws left) (x := ("word", "in")) (k := 1) b0) sp
  · exact seg_prefix (rd := fun ws => relB ws left) (g := fun items => relM "in" true (dataOf left) (listD items)) (wayW 3) (fun r => by
      have e : relB ((("word", "not") : Wrd) :: (("word", "in") : Wrd) :: r) left = Due.plus 1 (Due.plus 1 (inA "in" true left (spansA r))) := by kernel_rfl
      rw [← inA_is]
      exact e.trans plus2) (fault_two (rd := fun ws => relB ws left) (x := ("word", "not")) (y := ("word", "in")) (k := 1) (l := 2) b0 fun tail hb => by
      have e : relB ((("word", "not") : Wrd) :: tail) left = Due.plus 1 (inB tail true left) := by kernel_rfl
      exact e.trans (by rw [bad_in hb]; rfl)) sp
  · exact seg_prefix (rd := fun ws => relB ws left) (g := fun items => relM "within" false (dataOf left) (listD items)) (wayW 4) (fun r => by
      have e : relB ((("word", "within") : Wrd) :: r) left = Due.plus 1 (inA "within" false left (spansA r)) := by kernel_rfl
      rw [← inA_is]
      exact e.trans (plus_due _ _)) (fault_one (rd := fun ws => relB ws left) (x := ("word", "within")) (k := 1) b0) sp
  · exact seg_prefix (rd := fun ws => relB ws left) (g := fun items => relM "within" true (dataOf left) (listD items)) (wayW 5) (fun r => by
      have e : relB ((("word", "not") : Wrd) :: (("word", "within") : Wrd) :: r) left = Due.plus 1 (Due.plus 1 (inA "within" true left (spansA r))) := by kernel_rfl
      rw [← inA_is]
      exact e.trans plus2) (fault_two (rd := fun ws => relB ws left) (x := ("word", "not")) (y := ("word", "within")) (k := 1) (l := 2) b0 fun tail hb => by
      have e : relB ((("word", "not") : Wrd) :: tail) left = Due.plus 1 (inB tail true left) := by kernel_rfl
      exact e.trans (by rw [bad_in hb]; rfl)) sp
  · exact seg_prefix (rd := fun ws => relB ws left) (g := fun items => relM "in" false (dataOf left) (listD items)) (wayW 6) (fun r => by
      have e : relB ((("symbol", "=") : Wrd) :: r) left = Due.plus 1 (inA "in" false left (spansA r)) := by kernel_rfl
      rw [← inA_is]
      exact e.trans (plus_due _ _)) (fault_one (rd := fun ws => relB ws left) (x := ("symbol", "=")) (k := 1) b0) sp
  · exact seg_prefix (rd := fun ws => relB ws left) (g := fun items => relM "in" true (dataOf left) (listD items)) (wayW 7) (fun r => by
      have e : relB ((("symbol", "!=") : Wrd) :: r) left = Due.plus 1 (inA "in" true left (spansA r)) := by kernel_rfl
      rw [← inA_is]
      exact e.trans (plus_due _ _)) (fault_one (rd := fun ws => relB ws left) (x := ("symbol", "!=")) (k := 1) b0) sp
end Mine

open PySem PySem.W PySem.Calls PySem.NumText PyProof.Rows
set_option Elab.async false
set_option linter.all false
set_option maxRecDepth 100000
set_option maxHeartbeats 2000000
namespace Mine
theorem way_head {way : Nat} (h : way < 8) : ∃ z Y, wayW way = z :: Y ∧ ∀ r, isMod (fx z :: r) = false := by
  rcases (show way = 0 ∨ way = 1 ∨ way = 2 ∨ way = 3 ∨ way = 4 ∨ way = 5 ∨ way = 6 ∨ way = 7 by omega) with rfl | rfl | rfl | rfl | rfl | rfl | rfl | rfl <;> exact ⟨_, _, rfl, fun r => by kernel_rfl⟩
theorem letter_var (a : Nat) : isVar (letter2 a) = true := by
  unfold isVar
  rw [List.contains_iff_mem]; exact letter2_mem a
theorem expr_cons {x : Str} (hv : isVar x = true) (r : List Wrd) : exprA ((("word", x) : Wrd) :: r) = if isMod r then (match valA (r.drop 1) with | .ok b n => .ok (modT x b) (1 + 1 + n) | .no m n => .no m (1 + 1 + n)) else .ok (identT x) 1 := by
  have e : exprA ((("word", x) : Wrd) :: r) = if isVar x then (if isMod r then (match valA (r.drop 1) with | .ok b n => .ok (modT x b) (1 + 1 + n) | .no m n => .no m (1 + 1 + n)) else .ok (identT x) 1) else .no noVar 1 := by kernel_rfl
  rw [e, hv, if_pos rfl]
def modW (c : Nat) : Wrd := if c % 3 = 1 then ("word", "mod") else ("symbol", "%")
theorem modW_mod (c : Nat) (r : List Wrd) : isMod (modW c :: r) = true := by
  unfold modW
  split <;> kernel_rfl
theorem expr_head (a : Nat) (r : List Wrd) (hr : isMod r = false) : exprA ((headW a).map fx ++ r) = .ok (headL a) (headW a).length := by
  by_cases c0 : a / 8 % 3 = 0
  · have eW : headW a = [((("word", letter2 a) : Wrd), some 0)] := by unfold headW; rw [if_pos c0]
    have eL : headL a = identT (letter2 a) := by unfold headL; rw [if_pos c0]
    rw [eW, eL]
    show exprA ((("word", letter2 a) : Wrd) :: r) = _
    rw [expr_cons (letter_var a), hr]; rfl
  · have eW : headW a = [((("word", letter2 a) : Wrd), some 0), (modW (a / 8), some 1), vw (zeroed (decide (a / 8 % 2 = 1)) (a / 8 / 3 % 1000))] := by unfold headW; rw [if_neg c0]; rfl
    have eL : headL a = modT (letter2 a) (valT (zeroed (decide (a / 8 % 2 = 1)) (a / 8 / 3 % 1000))) := by
      unfold headL valT valN num
      rw [if_neg c0, zeroed_num _ (lt40 (Nat.lt_trans (Nat.mod_lt _ (by decide)) (by decide)))]; rfl
    rw [eW, eL]
    show exprA ((("word", letter2 a) : Wrd) :: modW (a / 8) :: (("value", zeroed (decide (a / 8 % 2 = 1)) (a / 8 / 3 % 1000)) : Wrd) :: r) = _
    rw [expr_cons (letter_var a), modW_mod, if_pos rfl, List.drop_one, List.tail_cons, val_cons]; rfl
theorem rel_of {ws : List Wrd} {left : AV} {k : Nat} (h : exprA ws = .ok left k) : relA ws = (relB (ws.drop k) left).plus k := by
  unfold relA
  rw [h]
theorem rel_no {ws : List Wrd} {m : Str} {k : Nat} (h : exprA ws = .no m k) : relA ws = .no m k := by
  unfold relA
  rw [h]
theorem seg_piece (a b : Nat) : Seg relA okRel (piece a b) (pieceD a b) := by
  have hway : b % 8 < 8 := Nat.mod_lt _ (by decide)
  have s := seg_rel (b % 8) hway (headL a) (b / 8) (b / 8 % 100) (lt40 (Nat.lt_trans (Nat.mod_lt _ (by decide)) (by decide)))
  have eP : piece a b = headW a ++ (wayW (b % 8) ++ (if b % 8 < 2 then [vw (digits (b / 8 % 100))] else rangesW (b / 8) (b / 8 % 3 + 1))) := by unfold piece; rw [List.append_assoc]; rfl
  have eD : pieceD a b = (if b % 8 < 2 then .tuple [.str (if b % 8 = 0 then "is" else "isnot"), .tuple [dataOf (headL a), dataOf (valN (b / 8 % 100))]] else relM (if b % 8 = 4 ∨ b % 8 = 5 then "within" else "in") (decide (b % 8 = 3 ∨ b % 8 = 5 ∨ b % 8 = 7)) (dataOf (headL a)) (listD (rangesP (b / 8) (b / 8 % 3 + 1)))) := rfl
  rw [eP, eD]
  obtain ⟨z, Y, hz, hzm⟩ := way_head hway
  have hZ : ∃ Z', wayW (b % 8) ++ (if b % 8 < 2 then [vw (digits (b / 8 % 100))] else rangesW (b / 8) (b / 8 % 3 + 1)) = z :: Z' := ⟨_, by rw [hz]; rfl⟩
  generalize wayW (b % 8) ++ (if b % 8 < 2 then [vw (digits (b / 8 % 100))] else rangesW (b / 8) (b / 8 % 3 + 1)) = Z at s hZ ⊢
  obtain ⟨Z', rfl⟩ := hZ
  generalize (if b % 8 < 2 then _ else _ : PyData) = D at s ⊢
  have rest : ∀ r, isMod r = false → relA ((headW a).map fx ++ r) = Ans.plus (headW a).length (relB r (headL a)) := fun r hr => by
    rw [rel_of (expr_head a r hr), drop_map_app, plus_due]
  refine ⟨fun r hr => ?_, fun i w m tail h hb => ?_⟩
  · have sf : relB ((z :: Z').map fx ++ r) (headL a) = .ok D (z :: Z').length := s.full r hr
    rw [List.map_append, List.append_assoc, rest ((z :: Z').map fx ++ r) (hzm _), sf]
    simp [Ans.plus]
  · by_cases hi : i < (headW a).length
    · rw [List.getElem?_append_left hi] at h
      rw [List.take_append_of_le_length (Nat.le_of_lt hi)]
      by_cases c0 : a / 8 % 3 = 0
      · have eW : headW a = [((("word", letter2 a) : Wrd), some 0)] := by unfold headW; rw [if_pos c0]
        rw [eW] at h ⊢
        cases i with
        | zero =>
          cases h
          show relA tail = _
          rw [rel_no (bad_expr hb), Nat.zero_add]; rfl
        | succ i => simp at h
      · have eW : headW a = [((("word", letter2 a) : Wrd), some 0), (modW (a / 8), some 1), vw (zeroed (decide (a / 8 % 2 = 1)) (a / 8 / 3 % 1000))] := by unfold headW; rw [if_neg c0]; rfl
        rw [eW] at h ⊢
        rcases i with _ | _ | _ | i
        · cases h
          show relA tail = _
          rw [rel_no (bad_expr hb), Nat.zero_add]; rfl
        · cases h
          show relA ((("word", letter2 a) : Wrd) :: tail) = _
          have e := expr_cons (letter_var a) tail
          rw [bad_mod hb, if_neg (by decide)] at e
          rw [rel_of e, List.drop_one, List.tail_cons, bad_rel hb]; rfl
        · cases h
          show relA ((("word", letter2 a) : Wrd) :: modW (a / 8) :: tail) = _
          have e := expr_cons (letter_var a) (modW (a / 8) :: tail)
          rw [modW_mod, if_pos rfl, List.drop_one, List.tail_cons, bad_val hb] at e
          rw [rel_no e]; rfl
        · simp at h
    · rw [List.getElem?_append_right (by omega)] at h
      obtain ⟨j, rfl⟩ : ∃ j, i = (headW a).length + j := ⟨i - (headW a).length, by omega⟩
      rw [Nat.add_sub_cancel_left] at h
      have et : (headW a ++ z :: Z').take ((headW a).length + j) = headW a ++ (z :: Z').take j := by rw [List.take_append, List.take_of_length_le (by omega), Nat.add_sub_cancel_left]
      have hm : isMod (((z :: Z').take j).map fx ++ tail) = false := by
        cases j with
        | zero => exact bad_mod hb
        | succ j => exact hzm _
      have sf : relB (((z :: Z').take j).map fx ++ tail) (headL a) = .no (faultS m tail) (j + faultN m tail) := s.fault j w m tail h hb
      rw [et, List.map_append, List.append_assoc, rest _ hm, sf]
      simp [Ans.plus]; omega
/- pieces joined -/
abbrev Pc := Nat × Nat
def pcM (p : Pc) : List MW := piece p.1 p.2
def pcD (p : Pc) : PyData := pieceD p.1 p.2
def groupM : List Pc → List MW
  | [] => []
  | p :: ps => pcM p ++ tailM ("word", "and") (ps.map fun p => (pcM p, pcD p))
def groupD : List Pc → PyData
  | [] => .none
  | p :: ps => foldD "and" (pcD p) (ps.map pcD)
def flatG : List (List Pc) → List MW
  | [] => []
  | g :: gs => groupM g ++ tailM ("word", "or") (gs.map fun g => (groupM g, groupD g))
def flatD : List (List Pc) → PyData
  | [] => .none
  | g :: gs => foldD "or" (groupD g) (gs.map groupD)
def okAnd (rest : List Wrd) : Prop := okRel rest ∧ hit rest "word" (some "and") = false
def okCond (rest : List Wrd) : Prop := okAnd rest ∧ hit rest "word" (some "or") = false
theorem seg_group (p : Pc) (ps : List Pc) : Seg andA okAnd (groupM (p :: ps)) (groupD (p :: ps)) := by
  have e : groupD (p :: ps) = (ps.map fun p => (pcM p, pcD p)).foldl (fun acc q => PyData.tuple [.str "and", .tuple [acc, q.2]]) (_root_.id (pcD p)) := by
    show (ps.map pcD).foldl _ _ = _
    rw [List.foldl_map, List.foldl_map]; rfl
  rw [e]
  unfold andA
  rw [chainA_is]
  refine seg_chain (ok := okRel) (init := _root_.id) (comb := fun acc d => PyData.tuple [.str "and", .tuple [acc, d]]) (fun rest => ⟨by unfold okSpan; kernel_rfl, by kernel_rfl⟩) (seg_piece _ _) fun q hq => ?_
  obtain ⟨q, _, rfl⟩ := List.mem_map.mp hq
  exact seg_piece _ _
theorem seg_flat (g : List Pc) (gs : List (List Pc)) (hg : ∀ x ∈ g :: gs, x ≠ []) : Seg condA okCond (flatG (g :: gs)) (flatD (g :: gs)) := by
  have e : flatD (g :: gs) = (gs.map fun g => (groupM g, groupD g)).foldl (fun acc q => PyData.tuple [.str "or", .tuple [acc, q.2]]) (_root_.id (groupD g)) := by
    show (gs.map groupD).foldl _ _ = _
    rw [List.foldl_map, List.foldl_map]; rfl
  have sg : ∀ x ∈ g :: gs, Seg andA okAnd (groupM x) (groupD x) := fun x hx => by
    cases x with
    | nil => exact absurd rfl (hg _ hx)
    | cons p ps => exact seg_group p ps
  rw [e]
  unfold condA
  rw [chainA_is]
  refine seg_chain (ok := okAnd) (init := _root_.id) (comb := fun acc d => PyData.tuple [.str "or", .tuple [acc, d]]) (fun rest => ⟨⟨by unfold okSpan; kernel_rfl, by kernel_rfl⟩, by kernel_rfl⟩) (sg _ (.head _)) fun q hq => ?_
  obtain ⟨x, hx, rfl⟩ := List.mem_map.mp hq
  exact sg x (.tail _ hx)
/- the words edited -/
def edit (mode spot : Nat) (f : Wrd) (ws : List Wrd) : List Wrd := if mode = 1 then ws.take spot ++ [f] ++ ws.drop (spot + 1) else if mode = 2 then ws.take spot else ws
def gone (m mode : Nat) (f : Wrd) : Bool := decide (m = 0) && (decide (mode = 1) && f.1 == ("word" : Str))
theorem sent_swap (m : Nat) (f : Wrd) (r : List Wrd) : faultS m (f :: r) = sentence2 m false f := by
  unfold faultS sentence2
  by_cases h0 : m = 0
  · rw [if_pos h0, if_pos h0]
  · rw [if_neg h0, if_neg h0]
    by_cases h1 : m = 1
    · rw [if_pos h1, if_pos h1]
    · rw [if_neg h1, if_neg h1]
      by_cases h2 : m = 2
      · rw [if_pos h2, if_pos h2]
      · rw [if_neg h2, if_neg h2, if_neg (by decide)]; exact (rfl : lackV (f :: r) = lackV [f])
theorem sent_cut (m : Nat) (f : Wrd) : faultS m [] = sentence2 m true f := by
  unfold faultS sentence2
  by_cases h0 : m = 0
  · rw [if_pos h0, if_pos h0]
  · rw [if_neg h0, if_neg h0]
    by_cases h1 : m = 1
    · rw [if_pos h1, if_pos h1]
    · rw [if_neg h1, if_neg h1]
      by_cases h2 : m = 2
      · rw [if_pos h2, if_pos h2]
      · rw [if_neg h2, if_neg h2, if_pos rfl]
theorem edit_seg {rd : List Wrd → Due} {ok : List Wrd → Prop} {S A : List MW} {a : PyData} (s : Seg rd ok S a) (hA : A = [] ∨ ∃ j A', A = (j, none) :: A' ∧ ∀ r, ok (j :: r)) {behind : List Wrd} (hbeh : A = [] → ok behind) {spot m mode : Nat} {w f : Wrd}
    (hs : (S ++ A)[spot]? = some (w, some m)) (hf : f ∈ l2foreign) :
    rd (edit mode spot f ((S ++ A).map fx ++ behind)) = if (mode = 1 ∨ mode = 2) ∧ spot < S.length then .no (sentence2 m (decide (mode = 2)) f) (if gone m mode f then spot + 1 else spot) else .ok a S.length := by
  have hlt := (List.getElem?_eq_some_iff.mp hs).1
  have hlen : ((S ++ A).map fx).length = (S ++ A).length := List.length_map _
  by_cases hsp : spot < S.length
  · have h := hs
    rw [List.getElem?_append_left hsp] at h
    have et : ((S ++ A).map fx ++ behind).take spot = (S.take spot).map fx := by
      rw [List.take_append_of_le_length (by omega), ← List.map_take, List.take_append_of_le_length (by omega)]
    by_cases m1 : mode = 1
    · subst m1
      rw [if_pos ⟨.inl rfl, hsp⟩]
      unfold edit
      rw [if_pos rfl, et, List.append_assoc, List.singleton_append, s.fault spot w m _ h (.inr ⟨f, _, hf, rfl⟩), sent_swap]
      congr 1
      unfold faultN gone
      have e : ∀ r, hit (f :: r) "word" none = (f.1 == ("word" : Str)) := fun r => by simp [hit]
      rw [e]
      by_cases m0 : m = 0 <;> cases hw : f.1 == ("word" : Str) <;> simp [m0]
    · by_cases m2 : mode = 2
      · subst m2
        rw [if_pos ⟨.inr rfl, hsp⟩]
        unfold edit
        have := s.fault spot w m [] h (.inl rfl)
        rw [List.append_nil] at this
        rw [if_neg (by decide), if_pos rfl, et, this, sent_cut m f]
        congr 1
        unfold faultN gone
        simp [hit]
      · rw [if_neg (by simp [m1, m2])]
        unfold edit
        rw [if_neg m1, if_neg m2, List.map_append, List.append_assoc]
        refine s.full _ ?_
        rcases hA with rfl | ⟨j, A', rfl, hj⟩
        · exact hbeh rfl
        · exact hj _
  · rw [if_neg (by simp [hsp])]
    have h := hs
    rw [List.getElem?_append_right (by omega)] at h
    rcases hA with rfl | ⟨j, A', rfl, hj⟩
    · simp at h
    · obtain ⟨i, rfl⟩ : ∃ i, spot = S.length + 1 + i := by
        refine ⟨spot - S.length - 1, ?_⟩
        have : spot ≠ S.length := fun q => by rw [q, Nat.sub_self] at h; cases h
        omega
      have ew : ((S ++ (j, none) :: A').map fx ++ behind) = S.map fx ++ (j :: (A'.map fx ++ behind)) := by simp [fx]
      have et : ((S ++ (j, none) :: A').map fx ++ behind).take (S.length + 1 + i) = S.map fx ++ (j :: (A'.map fx ++ behind).take i) := by
        rw [ew, List.take_append, List.length_map, List.take_of_length_le (by rw [List.length_map]; omega), show S.length + 1 + i - S.length = i + 1 by omega, List.take_succ_cons]
      unfold edit
      rw [et]
      split
      · rw [List.append_assoc, List.append_assoc]
        exact s.full _ (hj _)
      · split
        · exact s.full _ (hj _)
        · rw [ew]; exact s.full _ (hj _)
end Mine

open PySem PySem.W PySem.Calls PySem.NumText PyProof.Rows
set_option Elab.async false
set_option linter.all false
set_option maxRecDepth 100000
set_option maxHeartbeats 2000000
namespace Mine
variable {W : Wd} {mg mb : Str → Option Value} {σ : List AO} {Q : AV → List AO → Prop} {E : Str → List AO → Prop} {n : Nat} {hd : Bool} {X : Fx}
/- what stands while other places turn -/
def Agree (Mut : List Nat) (σ τ : List AO) : Prop := ∀ i o, i ∉ Mut → σ[i]? = some o → τ[i]? = some o
theorem Agree.trans {Mut : List Nat} {σ τ υ : List AO} (a : Agree Mut σ τ) (b : Agree Mut τ υ) : Agree Mut σ υ := fun i o hi h => b i o hi (a i o hi h)
theorem Agree.app {Mut : List Nat} (e : List AO) : Agree Mut σ (σ ++ e) := fun i o _ h => app_get h
theorem Agree.set {Mut : List Nat} {k : Nat} {o : AO} (h : k ∈ Mut) : Agree Mut σ (σ.set k o) := fun i x hi hx => set_ne hx fun q => hi (q ▸ h)
def Fix (Mut : List Nat) (σ : List AO) (a : AV) (d : PyData) : Prop := ∀ τ : List AO, Agree Mut σ τ → Is τ a d
theorem Fix.step {Mut : List Nat} {τ : List AO} {a : AV} {d : PyData} (f : Fix Mut σ a d) (h : Agree Mut σ τ) : Fix Mut τ a d := fun υ k => f υ (h.trans k)
def TF {α β : Type} (R : α → β → Prop) : List α → List β → Prop
  | [], [] => True
  | a :: l, b :: m => R a b ∧ TF R l m
  | _, _ => False
theorem TF.mono {α β : Type} {R R' : α → β → Prop} (h : ∀ a b, R a b → R' a b) : ∀ {l : List α} {m : List β}, TF R l m → TF R' l m
  | [], [], _ => trivial
  | _ :: _, _ :: _, x => ⟨h _ _ x.1, x.2.mono h⟩
theorem TF.snoc {α β : Type} {R : α → β → Prop} {a : α} {b : β} (h : R a b) : ∀ {l : List α} {m : List β}, TF R l m → TF R (l ++ [a]) (m ++ [b])
  | [], [], _ => ⟨h, trivial⟩
  | _ :: _, _ :: _, x => ⟨x.1, x.2.snoc h⟩
theorem TF.length {α β : Type} {R : α → β → Prop} : ∀ {l : List α} {m : List β}, TF R l m → l.length = m.length
  | [], [], _ => rfl
  | _ :: _, _ :: _, x => by rw [List.length_cons, List.length_cons, x.2.length]
theorem TF.get {α β : Type} {R : α → β → Prop} : ∀ {l : List α} {m : List β} {i : Nat} {b : β}, TF R l m → m[i]? = some b → ∃ a, l[i]? = some a ∧ R a b
  | [], [], i, b, _, h => by cases h
  | a :: l, c :: m, 0, b, x, h => by cases h; exact ⟨a, rfl, x.1⟩
  | a :: l, c :: m, i + 1, b, x, h => by
    obtain ⟨z, h1, h2⟩ := x.2.get (i := i) (by simpa using h)
    exact ⟨z, by simpa using h1, h2⟩
def sumL (l : List Pc) : Nat := (l.map fun p => (pcM p).length).sum
def endsOf (l : List Pc) : List Nat := (List.range l.length).map fun j => sumL (l.take (j + 1)) + j
theorem sumL_app (l m : List Pc) : sumL (l ++ m) = sumL l + sumL m := by unfold sumL; rw [List.map_append, List.sum_append]
theorem endsOf_snoc (l : List Pc) (p : Pc) : endsOf (l ++ [p]) = endsOf l ++ [sumL (l ++ [p]) + l.length] := by
  unfold endsOf
  rw [List.length_append, List.length_singleton, List.range_succ, List.map_append]
  congr 1
  · refine List.map_congr_left fun j hj => ?_
    have := List.mem_range.mp hj
    rw [List.take_append_of_le_length (by omega)]
  · simp only [List.map_cons, List.map_nil]
    rw [List.take_of_length_le (by simp)]
theorem tailM_app {α : Type} (j : Wrd) (T U : List (List MW × α)) : tailM j (T ++ U) = tailM j T ++ tailM j U := by unfold tailM; rw [List.flatMap_append]
theorem groupM_snoc {g : List Pc} (p : Pc) (h : g ≠ []) : groupM (g ++ [p]) = groupM g ++ ((("word", "and") : Wrd), none) :: pcM p := by
  cases g with
  | nil => exact absurd rfl h
  | cons q g =>
    show pcM q ++ tailM ("word", "and") ((g ++ [p]).map fun p => (pcM p, pcD p)) = (pcM q ++ tailM ("word", "and") (g.map fun p => (pcM p, pcD p))) ++ _
    rw [List.map_append, tailM_app, List.append_assoc]; simp [tailM]
theorem flatG_new {gs : List (List Pc)} (g : List Pc) (h : gs ≠ []) : flatG (gs ++ [g]) = flatG gs ++ ((("word", "or") : Wrd), none) :: groupM g := by
  cases gs with
  | nil => exact absurd rfl h
  | cons q gs =>
    show groupM q ++ tailM ("word", "or") ((gs ++ [g]).map fun g => (groupM g, groupD g)) = (groupM q ++ tailM ("word", "or") (gs.map fun g => (groupM g, groupD g))) ++ _
    rw [List.map_append, tailM_app, List.append_assoc]; simp [tailM]
theorem group_one (p : Pc) : groupM [p] = pcM p := by simp [groupM, tailM]
theorem flat_one (g : List Pc) : flatG [g] = groupM g := by simp [flatG, tailM]
theorem flatG_last (G : List (List Pc)) (g : List Pc) : flatG (G ++ [g]) = (if G = [] then [] else flatG G ++ [((("word", "or") : Wrd), none)]) ++ groupM g := by
  by_cases h : G = []
  · subst h; rw [if_pos rfl, List.nil_append, List.nil_append, flat_one]
  · rw [if_neg h, flatG_new g h, List.append_assoc]; rfl
theorem flatG_more (G : List (List Pc)) {g : List Pc} (p : Pc) (h : g ≠ []) : flatG (G ++ [g ++ [p]]) = flatG (G ++ [g]) ++ ((("word", "and") : Wrd), none) :: pcM p := by
  rw [flatG_last, flatG_last, groupM_snoc p h, List.append_assoc]
theorem groupM_len {g : List Pc} (h : g ≠ []) : (groupM g).length + 1 = sumL g + g.length := by
  have key : ∀ l : List Pc, (tailM (("word", "and") : Wrd) (l.map fun p => (pcM p, pcD p))).length = sumL l + l.length := fun l => by
    induction l with
    | nil => simp [tailM, sumL]
    | cons p l ih =>
      rw [List.map_cons, tailM_cons, List.length_append, ih]
      simp [sumL]; omega
  cases g with
  | nil => exact absurd rfl h
  | cons p ps =>
    show (pcM p ++ tailM ("word", "and") (ps.map fun p => (pcM p, pcD p))).length + 1 = _
    rw [List.length_append, key]
    simp [sumL]; omega
theorem flatG_len {gs : List (List Pc)} (h : gs ≠ []) (hg : ∀ g ∈ gs, g ≠ []) : (flatG gs).length + 1 = sumL gs.flatten + gs.flatten.length := by
  have key : ∀ l : List (List Pc), (∀ g ∈ l, g ≠ []) → (tailM (("word", "or") : Wrd) (l.map fun g => (groupM g, groupD g))).length = sumL l.flatten + l.flatten.length := fun l => by
    induction l with
    | nil => intro _; simp [tailM, sumL]
    | cons g l ih =>
      intro hg
      rw [List.map_cons, tailM_cons, List.length_append, ih fun x hx => hg x (.tail _ hx), List.flatten_cons, sumL_app, List.length_append]
      have := groupM_len (hg g (.head _))
      simp; omega
  cases gs with
  | nil => exact absurd rfl h
  | cons g gs =>
    show (groupM g ++ tailM ("word", "or") (gs.map fun g => (groupM g, groupD g))).length + 1 = _
    rw [List.length_append, key _ fun x hx => hg x (.tail _ hx), List.flatten_cons, sumL_app, List.length_append]
    have := groupM_len (hg g (.head _))
    omega
theorem piece_len (p : Pc) : (pcM p).length ≤ 17 := by
  unfold pcM piece
  have h1 := headW_len p.1
  have h2 := wayW_len (p.2 % 8) (Nat.mod_lt _ (by decide))
  have h3 := rangesW_len (p.2 / 8) (p.2 / 8 % 3 + 1)
  rw [List.length_append, List.length_append]
  split
  · simp; omega
  · omega
theorem sumL_le (l : List Pc) : sumL l ≤ 17 * l.length := by
  unfold sumL
  induction l with
  | nil => simp
  | cons p l ih => rw [List.map_cons, List.sum_cons, List.length_cons]; have := piece_len p; omega
/-- the lists under way -/
abbrev turn6 (ml fl gl el lc : Nat) : List Nat := [0, ml, fl, gl, el, lc]
abbrev TreesF (Mut : List Nat) (σ : List AO) (ts : List AV) (g : List Pc) : Prop := TF (fun t p => Fix Mut σ t (pcD p)) ts g
def GroupF (Mut : List Nat) (σ : List AO) (l : Nat) (g : List Pc) : Prop := ∃ ts, l ∉ Mut ∧ σ[l]? = some (.lst ts) ∧ TreesF Mut σ ts g
structure Mid (σ : List AO) (nl ml fl gl el : Nat) (ns : List Nat) (draw : Nat) (F Mk : List MW) (es : List Nat) (cl : List Nat) (G : List (List Pc)) (lc : Nat) (g : List Pc) : Prop where
  c0 : σ[0]? = some (.cell (some (.loc ml)))
  c1 : σ[1]? = some (.cell (some (.int (draw : Int))))
  nums : σ[nl]? = some (.lst (numsV ns))
  flat : σ[fl]? = some (.lst (F.map fw))
  marks : σ[ml]? = some (.lst (Mk.map fm))
  ends : σ[el]? = some (.lst (numsV es))
  groups : σ[gl]? = some (.lst ((cl ++ [lc]).map AV.loc))
  last : ∃ ts, σ[lc]? = some (.lst ts) ∧ TreesF (turn6 ml fl gl el lc) σ ts g
  closed : TF (GroupF (turn6 ml fl gl el lc) σ) cl G
  dist : 1 < nl ∧ nl < fl ∧ fl < ml ∧ ml < gl ∧ gl < el ∧ ml < lc ∧ lc ≠ gl ∧ lc ≠ el
section
variable {nl ml fl gl el lc draw : Nat} {ns es : List Nat} {F Mk : List MW} {cl : List Nat} {G : List (List Pc)} {g : List Pc}
theorem TreesF.step {Mut : List Nat} {τ : List AO} {ts : List AV} (f : TreesF Mut σ ts g) (h : Agree Mut σ τ) : TreesF Mut τ ts g := TF.mono (fun _ _ x => x.step h) f
theorem closed_step {Mut : List Nat} {τ : List AO} (f : TF (GroupF Mut σ) cl G) (h : Agree Mut σ τ) : TF (GroupF Mut τ) cl G := TF.mono (fun _ _ ⟨ts, h1, h2, h3⟩ => ⟨ts, h1, h _ _ h1 h2, h3.step h⟩) f
theorem Mid.app (M : Mid σ nl ml fl gl el ns draw F Mk es cl G lc g) (e : List AO) : Mid (σ ++ e) nl ml fl gl el ns draw F Mk es cl G lc g := by
  obtain ⟨ts, h1, h2⟩ := M.last
  exact ⟨app_get M.c0, app_get M.c1, app_get M.nums, app_get M.flat, app_get M.marks, app_get M.ends, app_get M.groups, ⟨ts, app_get h1, h2.step (.app e)⟩, closed_step M.closed (.app e), M.dist⟩
theorem Mid.setF (M : Mid σ nl ml fl gl el ns draw F Mk es cl G lc g) (F' : List MW) {l : List AV} (hl : l = F'.map fw) : Mid (σ.set fl (.lst l)) nl ml fl gl el ns draw F' Mk es cl G lc g := by
  subst hl
  obtain ⟨ts, h1, h2⟩ := M.last
  have ag : Agree (turn6 ml fl gl el lc) σ (σ.set fl (.lst (F'.map fw))) := .set (by simp)
  have D := M.dist
  exact ⟨set_ne M.c0 (by omega), set_ne M.c1 (by omega), set_ne M.nums (by omega), List.getElem?_set_self (List.getElem?_eq_some_iff.mp M.flat).1, set_ne M.marks (by omega), set_ne M.ends (by omega), set_ne M.groups (by omega), ⟨ts, set_ne h1 (by omega), h2.step ag⟩, closed_step M.closed ag, M.dist⟩
theorem Mid.setM (M : Mid σ nl ml fl gl el ns draw F Mk es cl G lc g) (F' : List MW) {l : List AV} (hl : l = F'.map fm) : Mid (σ.set ml (.lst l)) nl ml fl gl el ns draw F F' es cl G lc g := by
  subst hl
  obtain ⟨ts, h1, h2⟩ := M.last
  have ag : Agree (turn6 ml fl gl el lc) σ (σ.set ml (.lst (F'.map fm))) := .set (by simp)
  have D := M.dist
  exact ⟨set_ne M.c0 (by omega), set_ne M.c1 (by omega), set_ne M.nums (by omega), set_ne M.flat (by omega), List.getElem?_set_self (List.getElem?_eq_some_iff.mp M.marks).1, set_ne M.ends (by omega), set_ne M.groups (by omega), ⟨ts, set_ne h1 (by omega), h2.step ag⟩, closed_step M.closed ag, M.dist⟩
theorem Mid.setE (M : Mid σ nl ml fl gl el ns draw F Mk es cl G lc g) (e' : List Nat) {l : List AV} (hl : l = numsV e') : Mid (σ.set el (.lst l)) nl ml fl gl el ns draw F Mk e' cl G lc g := by
  subst hl
  obtain ⟨ts, h1, h2⟩ := M.last
  have ag : Agree (turn6 ml fl gl el lc) σ (σ.set el (.lst (numsV e'))) := .set (by simp)
  have D := M.dist
  exact ⟨set_ne M.c0 (by omega), set_ne M.c1 (by omega), set_ne M.nums (by omega), set_ne M.flat (by omega), set_ne M.marks (by omega), List.getElem?_set_self (List.getElem?_eq_some_iff.mp M.ends).1, set_ne M.groups (by omega), ⟨ts, set_ne h1 (by omega), h2.step ag⟩, closed_step M.closed ag, M.dist⟩
theorem Mid.setL (M : Mid σ nl ml fl gl el ns draw F Mk es cl G lc g) {ts : List AV} (h1 : σ[lc]? = some (.lst ts)) {t : AV} {p : Pc} (h2 : TreesF (turn6 ml fl gl el lc) σ ts g) (hf : Fix (turn6 ml fl gl el lc) σ t (pcD p)) : Mid (σ.set lc (.lst (ts ++ [t]))) nl ml fl gl el ns draw F Mk es cl G lc (g ++ [p]) := by
  have ag : Agree (turn6 ml fl gl el lc) σ (σ.set lc (.lst (ts ++ [t]))) := .set (by simp)
  have D := M.dist
  exact ⟨set_ne M.c0 (by omega), set_ne M.c1 (by omega), set_ne M.nums (by omega), set_ne M.flat (by omega), set_ne M.marks (by omega), set_ne M.ends (by omega), set_ne M.groups (by omega), ⟨ts ++ [t], List.getElem?_set_self (List.getElem?_eq_some_iff.mp h1).1, TF.snoc (R := fun x y => Fix (turn6 ml fl gl el lc) (σ.set lc (.lst (ts ++ [t]))) x (pcD y)) (hf.step ag) (h2.step ag)⟩, closed_step M.closed ag, M.dist⟩
theorem Mid.newG (M : Mid σ nl ml fl gl el ns draw F Mk es cl G lc g) {l : List AV} (hl : l = (cl ++ [lc]).map AV.loc ++ [.loc σ.length]) : Mid ((σ ++ [AO.lst []]).set gl (AO.lst l)) nl ml fl gl el ns draw F Mk es (cl ++ [lc]) (G ++ [g]) σ.length [] := by
  subst hl
  obtain ⟨ts, h1, h2⟩ := M.last
  have D := M.dist
  have b0 := (List.getElem?_eq_some_iff.mp M.c0).1
  have b1 := (List.getElem?_eq_some_iff.mp M.c1).1
  have b2 := (List.getElem?_eq_some_iff.mp M.nums).1
  have b3 := (List.getElem?_eq_some_iff.mp M.flat).1
  have b4 := (List.getElem?_eq_some_iff.mp M.marks).1
  have b5 := (List.getElem?_eq_some_iff.mp M.ends).1
  have b6 := (List.getElem?_eq_some_iff.mp M.groups).1
  have b7 := (List.getElem?_eq_some_iff.mp h1).1
  -- trees that stand with the old places turning stand with the new ones turning
  have fx : ∀ a d, Fix (turn6 ml fl gl el lc) σ a d → Fix (turn6 ml fl gl el σ.length) ((σ ++ [AO.lst []]).set gl (AO.lst ((cl ++ [lc]).map AV.loc ++ [.loc σ.length]))) a d := fun a d f τ hτ => f τ fun i o hi ho => by
    have hlt := (List.getElem?_eq_some_iff.mp ho).1
    simp only [turn6, List.mem_cons, List.not_mem_nil, or_false, not_or] at hi
    refine hτ i o (by simp only [turn6, List.mem_cons, List.not_mem_nil, or_false, not_or]; omega) (set_ne (app_get ho) (by omega))
  have gf : ∀ l x, GroupF (turn6 ml fl gl el lc) σ l x → GroupF (turn6 ml fl gl el σ.length) ((σ ++ [AO.lst []]).set gl (AO.lst ((cl ++ [lc]).map AV.loc ++ [.loc σ.length]))) l x := fun l x ⟨us, u1, u2, u3⟩ => by
    have hlt := (List.getElem?_eq_some_iff.mp u2).1
    simp only [turn6, List.mem_cons, List.not_mem_nil, or_false, not_or] at u1
    exact ⟨us, by simp only [turn6, List.mem_cons, List.not_mem_nil, or_false, not_or]; omega, set_ne (app_get u2) (by omega), TF.mono (fun _ _ x => fx _ _ x) u3⟩
  have hnl : lc ∉ turn6 ml fl gl el σ.length := by simp only [turn6, List.mem_cons, List.not_mem_nil, or_false, not_or]; omega
  have cls : TF (GroupF (turn6 ml fl gl el σ.length) ((σ ++ [AO.lst []]).set gl (AO.lst ((cl ++ [lc]).map AV.loc ++ [.loc σ.length])))) (cl ++ [lc]) (G ++ [g]) := TF.snoc ⟨ts, hnl, set_ne (app_get h1) (by omega), TF.mono (fun _ _ x => fx _ _ x) h2⟩ (TF.mono gf M.closed)
  refine ⟨set_ne (app_get M.c0) (by omega), set_ne (app_get M.c1) (by omega), set_ne (app_get M.nums) (by omega), set_ne (app_get M.flat) (by omega), set_ne (app_get M.marks) (by omega), set_ne (app_get M.ends) (by omega), ?_, ⟨[], set_ne (last_get _ _) (by omega), trivial⟩, cls, ?_⟩
  · rw [List.getElem?_set_self (by rw [List.length_append]; omega), List.map_append (l₁ := cl ++ [lc])]; rfl
  · omega
end
theorem mul_int_op {i j : Int} (h : i.natAbs < 2 ^ 30 ∧ j.natAbs < 2 ^ 30) (q : Q (.int (i * j)) σ) : AOp2 W X (binaryOp .Mult) (.int i) (.int j) σ Q E := by
  intro A fl ι s v u ok I rv ru
  simp only [Rel] at rv ru
  obtain ⟨t, rfl⟩ := rv
  obtain ⟨t', rfl⟩ := ru
  exact PySem.P.mul_int (Got.here q (by simp only [Rel]; exact ⟨_, rfl⟩) (I.toks _) rfl)
end Mine

open PySem PySem.W PySem.Calls PySem.NumText PyProof.Rows
set_option Elab.async false
set_option linter.all false
set_option maxRecDepth 100000
set_option maxHeartbeats 2000000
namespace Mine
variable {W : Wd} {mg mb : Str → Option Value} {σ : List AO} {Q : AV → List AO → Prop} {E : Str → List AO → Prop} {n : Nat} {hd : Bool} {X : Fx}
noncomputable abbrev lawY (n : Nat) : Fx := ⟨(fst 24).scope, [("marks", 0), ("draw", 1)], n, false⟩
noncomputable def forB6 : List Stmt := match (fst 24).body.getD 6 default with | .For _ _ b _ _ => b | _ => []
theorem numsV_ints (es : List Nat) : numsV es = (es.map fun n : Nat => (n : Int)).map AV.int := by unfold numsV; rw [List.map_map]; rfl
def numsD (es : List Nat) : PyData := .list ((es.map fun n : Nat => (n : Int)).map PyData.int)
theorem is_nums {k : Nat} {es : List Nat} (h : σ[k]? = some (.lst (numsV es))) : Is σ (.loc k) (numsD es) := by
  simp only [Is, numsD]
  exact ⟨_, _, rfl, h, by rw [numsV_ints]; exact isL_ints _⟩
theorem depth_ints (l : List Int) : PyData.depthAll (l.map PyData.int) = 0 := by
  induction l with
  | nil => simp [PyData.depthAll]
  | cons i r ih => simp [PyData.depthAll, PyData.depth, ih]
theorem nums_shaped (es : List Nat) : SeqAt.shaped (numsD es) = true := shaped_of (k := 1) ⟨by simp only [numsD, PyData.canLay0]; exact layAll_ints _, by simp only [numsD, PyData.depth, depth_ints]; omega⟩ (by decide)
theorem set_self {k : Nat} {o : AO} (h : σ[k]? = some o) : σ.set k o = σ := by
  obtain ⟨hlt, e⟩ := List.getElem?_eq_some_iff.mp h
  rw [← e]; exact List.set_getElem_self hlt
theorem item_last (l : List AV) (x : AV) : itemAt (l ++ [x]) (-1) = some x := by
  unfold itemAt
  rw [if_neg (by decide), List.length_append, List.length_singleton, if_pos (by omega)]
  have : ((-1 : Int) + ((l.length + 1 : Nat) : Int)).toNat = l.length := by omega
  rw [this, List.getElem?_append_right (Nat.le_refl _), Nat.sub_self]; rfl
/-- one more piece is laid -/
def LayN (nl ml fl gl el : Nat) (ns : List Nat) (draw cnt : Nat) (ρ : List (Str × AV)) (τ : List AO) : Prop :=
  ∃ cl G lc g, Mid τ nl ml fl gl el ns draw (flatG (G ++ [g])) (flatG (G ++ [g])) (endsOf (G ++ [g]).flatten) cl G lc g ∧ ((G = [] ∧ g = []) ∨ ∀ x ∈ G ++ [g], x ≠ []) ∧ (G ++ [g]).flatten.length = cnt ∧
    ρ.lookup ("numbers" : Str) = some (.loc nl) ∧ ρ.lookup ("flat" : Str) = some (.loc fl) ∧ ρ.lookup ("groups" : Str) = some (.loc gl) ∧ ρ.lookup ("ends" : Str) = some (.loc el)
theorem lay_turn (B : Base W mg mb) {nl ml fl gl el lc draw k cnt : Nat} {ns : List Nat} {cl : List Nat} {G : List (List Pc)} {g : List Pc} {R : AV → List AO → Prop}
    (M : Mid σ nl ml fl gl el ns draw (flatG (G ++ [g])) (flatG (G ++ [g])) (endsOf (G ++ [g]).flatten) cl G lc g) (good : (G = [] ∧ g = []) ∨ ∀ x ∈ G ++ [g], x ≠ []) (hcnt : (G ++ [g]).flatten.length = cnt) (hc : cnt ≤ 20) (hcl : cl.length ≤ 1000)
    (hgl : g.length ≤ 1000) (hk : k + 1 < ns.length) (hns : ns.length ≤ 1000) :
    AX W (lawY (n + 1)) forB6 [("numbers", .loc nl), ("flat", .loc fl), ("groups", .loc gl), ("ends", .loc el), ("k", .int (k : Int))] σ (LayN nl ml fl gl el ns draw (cnt + 1)) R NoE := by
  have hdist := M.dist
  obtain ⟨ts, hts, hTS⟩ := M.last
  have b5 := (List.getElem?_eq_some_iff.mp M.ends).1
  have b7 := (List.getElem?_eq_some_iff.mp hts).1
  have hflen : (flatG (G ++ [g])).length ≤ 1000 := by
    rcases good with ⟨rfl, rfl⟩ | hg
    · simp [flatG, groupM, tailM]
    · have := flatG_len (gs := G ++ [g]) (by simp) hg
      have := sumL_le (G ++ [g]).flatten
      omega
  have helen : (endsOf (G ++ [g]).flatten).length = cnt := by unfold endsOf; rw [List.length_map, List.length_range]; exact hcnt
  have nb : (numsV ns).length ≤ 1000000 := by rw [numsV_len]; omega
  refine AX_cons (AS_Unpack (ts := [("words", _), ("places", _), ("tree", _)]) (hl := by simp; decide) rfl (B.call (f := 237) (by kernel_rfl) (by kernel_rfl) (AWs_cons (AW_Subscript (AW_local (by rfl) (AW_local (by rfl) (list_item_op M.nums (numsV_item (i := k) (by omega)) nb ?_)))))))
  refine AWs_cons (AW_Subscript (AW_local (by rfl) (AW_BinOp (AW_local (by rfl) (AW_int (addn_op (k := 1) rfl (list_item_op M.nums (numsV_item (i := k + 1) hk) nb (AWs_nil (piece_con B ?_)))))))))
  obtain ⟨a, ha⟩ : ∃ a, a = ns.getD k 0 := ⟨_, rfl⟩
  obtain ⟨b, hb⟩ : ∃ b, b = ns.getD (k + 1) 0 := ⟨_, rfl⟩
  rw [← ha, ← hb]
  intro ext wl pl tree h1 h2 w1 w2 w3 st
  refine ⟨_, rfl, rfl, ?_⟩
  have M₁ := M.app ext
  have FT : Fix (turn6 ml fl gl el lc) (σ ++ ext) tree (pieceD a b) := fun τ hτ => st τ fun i o ho => hτ (σ.length + i) o (by simp only [turn6, List.mem_cons, List.not_mem_nil, or_false, not_or]; omega) (by rw [List.getElem?_append_right (by omega), Nat.add_sub_cancel_left]; exact ho)
  have hts₁ : (σ ++ ext)[lc]? = some (.lst ts) := app_get hts
  have hTS₁ := TreesF.step hTS (Agree.app (σ := σ) ext)
  have ltw : wl < (σ ++ ext).length := (List.getElem?_eq_some_iff.mp h1).1
  have ltp : pl < (σ ++ ext).length := (List.getElem?_eq_some_iff.mp h2).1
  have b8 : σ.length ≤ (σ ++ ext).length := by rw [List.length_append]; omega
  have hpl17 := piece_len (a, b)
  have hpl17 : (piece a b).length ≤ 17 := hpl17
  generalize σ ++ ext = σ₁ at M₁ FT h1 h2 hts₁ hTS₁ ltw ltp b8 ⊢
  -- behind the joint
  have fin : ∀ (τ : List AO) (cl' : List Nat) (G' : List (List Pc)) (lc' : Nat) (g' : List Pc) (J : List MW) (ts' : List AV), J.length ≤ 1 → Mid τ nl ml fl gl el ns draw (flatG (G ++ [g]) ++ J) (flatG (G ++ [g]) ++ J) (endsOf (G ++ [g]).flatten) cl' G' lc' g' →
      τ[lc']? = some (.lst ts') → TreesF (turn6 ml fl gl el lc') τ ts' g' → ts'.length ≤ 1000 → cl'.length ≤ 1001 → Fix (turn6 ml fl gl el lc') τ tree (pieceD a b) → τ[wl]? = some (.lst ((piece a b).map fw)) → τ[pl]? = some (.lst ((piece a b).map fm)) →
      flatG (G ++ [g]) ++ J ++ piece a b = flatG (G' ++ [g' ++ [(a, b)]]) → (G' ++ [g' ++ [(a, b)]]).flatten = (G ++ [g]).flatten ++ [(a, b)] → (∀ x ∈ G' ++ [g' ++ [(a, b)]], x ≠ []) →
      AX W (lawY (n + 1)) (forB6.drop 2) [("numbers", .loc nl), ("flat", .loc fl), ("groups", .loc gl), ("ends", .loc el), ("words", .loc wl), ("places", .loc pl), ("tree", tree)] τ (LayN nl ml fl gl el ns draw (cnt + 1)) R NoE := by
    intro τ cl' G' lc' g' J ts' hJ M hts hTS htl hcl' FT hw hp he hf hg
    refine AX_cons (AS_AugAssign (a := .loc fl) (by rfl) (AW_local (by rfl) (iadd_list_op M.flat hw (by rw [List.length_map, List.length_map, List.length_append]; omega) ?_)))
    have M₂ := M.setF (flatG (G ++ [g]) ++ J ++ piece a b) (l := (flatG (G ++ [g]) ++ J).map fw ++ (piece a b).map fw) (by rw [List.map_append (l₁ := flatG (G ++ [g]) ++ J)])
    have hp₂ := set_ne (x := .lst ((flatG (G ++ [g]) ++ J).map fw ++ (piece a b).map fw)) hp (show pl ≠ fl by omega)
    have ag₂ : Agree (turn6 ml fl gl el lc') τ (τ.set fl (.lst ((flatG (G ++ [g]) ++ J).map fw ++ (piece a b).map fw))) := .set (by simp)
    have ht₂ : (τ.set fl (.lst ((flatG (G ++ [g]) ++ J).map fw ++ (piece a b).map fw)))[lc']? = some (.lst ts') := set_ne hts (by have := M.dist; omega)
    have hT₂ := hTS.step ag₂
    have FT₂ := FT.step ag₂
    generalize τ.set fl (.lst ((flatG (G ++ [g]) ++ J).map fw ++ (piece a b).map fw)) = τ₂ at M₂ hp₂ ht₂ hT₂ FT₂ ⊢
    refine AX_cons (AS_AugCell (k := 0) (a := .loc ml) (by rfl) M₂.c0 (AW_local (by rfl) (iadd_list_op M₂.marks hp₂ (by rw [List.length_map, List.length_map, List.length_append]; omega) ?_)))
    have M₃ := M₂.setM (flatG (G ++ [g]) ++ J ++ piece a b) (l := (flatG (G ++ [g]) ++ J).map fm ++ (piece a b).map fm) (by rw [List.map_append (l₁ := flatG (G ++ [g]) ++ J)])
    have ag₃ : Agree (turn6 ml fl gl el lc') τ₂ (τ₂.set ml (.lst ((flatG (G ++ [g]) ++ J).map fm ++ (piece a b).map fm))) := .set (by simp)
    have ht₃ : (τ₂.set ml (.lst ((flatG (G ++ [g]) ++ J).map fm ++ (piece a b).map fm)))[lc']? = some (.lst ts') := set_ne ht₂ (by have := M.dist; omega)
    have hT₃ := hT₂.step ag₃
    have FT₃ := FT₂.step ag₃
    generalize τ₂.set ml (.lst ((flatG (G ++ [g]) ++ J).map fm ++ (piece a b).map fm)) = τ₃ at M₃ ht₃ hT₃ FT₃ ⊢
    refine ⟨⟨_, M₃.c0⟩, ?_⟩
    rw [set_self M₃.c0]
    refine AX_cons (AS_Expr (AW_Method (AW_Subscript (AW_local (by rfl) (AW_neg (AW_int ⟨rfl, list_item_op M₃.groups (by rw [List.map_append]; exact item_last _ _) (by simp; omega) ⟨_, append_meth ht₃, .inl ⟨_, rfl⟩, AWs_cons (AW_local (by rfl) (AWs_nil (append_con ht₃ (by omega) ?_)))⟩⟩))))))
    have M₄ := M₃.setL ht₃ hT₃ (p := (a, b)) FT₃
    generalize τ₃.set lc' (.lst (ts' ++ [tree])) = τ₄ at M₄ ⊢
    refine AX_cons (AS_Expr (AW_Method (AW_local (by rfl) ⟨_, append_meth M₄.ends, .inl ⟨_, rfl⟩, AWs_cons (AW_Call (B.bname (v := .builtin "len") (by kernel_rfl) (by kernel_rfl) (by decide) ⟨_, rfl, .inl ⟨_, rfl⟩, AWs_cons (AW_local (by rfl) (AWs_nil (len_con M₄.flat (by rw [List.length_map, List.length_append, List.length_append]; omega) ?_)))⟩))⟩)))
    rw [List.length_map]
    refine AWs_nil (append_con M₄.ends (by rw [numsV_len]; omega) ?_)
    have hlen := flatG_len (gs := G' ++ [g' ++ [(a, b)]]) (by simp) hg
    rw [he] at M₄ ⊢
    have M₅ := M₄.setE (endsOf (G' ++ [g' ++ [(a, b)]]).flatten) (l := numsV (endsOf (G ++ [g]).flatten) ++ [.int (((flatG (G' ++ [g' ++ [(a, b)]])).length : Nat) : Int)]) (by
      rw [hf, endsOf_snoc]
      have : (flatG (G' ++ [g' ++ [(a, b)]])).length = sumL ((G ++ [g]).flatten ++ [(a, b)]) + (G ++ [g]).flatten.length := by
        rw [hf, List.length_append, List.length_singleton] at hlen
        omega
      rw [this]
      unfold numsV
      rw [List.map_append]; rfl)
    exact AX_nil ⟨cl', G', lc', g' ++ [(a, b)], M₅, .inr hg, by rw [hf, List.length_append, hcnt]; rfl, by rfl, by rfl, by rfl, by rfl⟩
  -- is it the first?
  refine AX_cons (AS_If (AT_Compare1 (AW_local (by rfl) (AW_List (AWs_nil ⟨by simp, ?_⟩)))))
  have M₂ := M₁.app [.lst []]
  have FT₂ := FT.step (Agree.app [.lst []])
  have hts₂ : (σ₁ ++ [AO.lst []])[lc]? = some (.lst ts) := app_get hts₁
  have hTS₂ := hTS₁.step (Agree.app [.lst []])
  have h1₂ : (σ₁ ++ [AO.lst []])[wl]? = some (.lst ((piece a b).map fw)) := app_get h1
  have h2₂ : (σ₁ ++ [AO.lst []])[pl]? = some (.lst ((piece a b).map fm)) := app_get h2
  have hne : (PyData.eqv (numsD (endsOf (G ++ [g]).flatten)) (numsD [])) = decide (cnt = 0) := by
    have hl := helen
    generalize endsOf (G ++ [g]).flatten = es at hl
    cases es with
    | nil => rw [decide_eq_true (by simpa using hl.symm)]; rfl
    | cons e es => rw [decide_eq_false (by rw [← hl]; simp)]; rfl
  refine ne_op (is_nums M₂.ends) (is_nums (es := []) (last_get _ _)) (nums_shaped _) (nums_shaped _) ?_
  rw [hne]
  generalize hσ₂ : σ₁ ++ [AO.lst []] = σ₂ at M₂ FT₂ hts₂ hTS₂ h1₂ h2₂ ⊢
  have b9 : σ₂.length = σ₁.length + 1 := by rw [← hσ₂, List.length_append]; rfl
  refine truthy_op (a := .bool _) (b := !decide (cnt = 0)) rfl trivial ?_
  have htl : ts.length ≤ 1000 := by rw [TF.length hTS]; exact hgl
  by_cases c0 : cnt = 0
  · rw [decide_eq_true c0]
    have hGg : G = [] ∧ g = [] := by
      rcases good with h | hg
      · exact h
      · exfalso
        have := hg g (by simp)
        have : 1 ≤ g.length := by cases g with | nil => exact absurd rfl this | cons _ _ => simp
        have h3 : g.length ≤ ((G ++ [g]).flatten).length := by rw [List.flatten_append, List.length_append]; simp
        omega
    obtain ⟨rfl, rfl⟩ := hGg
    refine AX_nil (AX_sub (ρ' := [("numbers", .loc nl), ("flat", .loc fl), ("groups", .loc gl), ("ends", .loc el), ("words", .loc wl), ("places", .loc pl), ("tree", tree)]) (sub_cons (by rfl) (sub_cons (by rfl) (sub_cons (by rfl) (sub_cons (by rfl) (sub_cons (by rfl) (sub_cons (by rfl) (sub_cons (by rfl) sub_nil))))))) ?_)
    refine fin σ₂ cl [] lc [] [] ts (by simp) (by rw [List.append_nil]; exact M₂) hts₂ hTS₂ htl (by omega) FT₂ h1₂ h2₂ ?_ rfl (fun x hx => ?_)
    · rw [List.append_nil, List.nil_append, List.nil_append, List.nil_append, flat_one, flat_one, group_one]; rfl
    · simp at hx; rw [hx]; simp
  · rw [decide_eq_false c0]
    have hg : ∀ x ∈ G ++ [g], x ≠ [] := by
      rcases good with ⟨rfl, rfl⟩ | hg
      · exact absurd hcnt (by simp; omega)
      · exact hg
    have hgne := hg g (by simp)
    refine AX_cons (AS_Assign (AW_Compare1 (AW_BinOp (AW_BinOp (AW_Subscript (AW_local (by rfl) (AW_local (by rfl) (list_item_op M₂.nums (numsV_item (i := k) (by omega)) nb (AW_Subscript (AW_local (by rfl) (AW_BinOp (AW_local (by rfl) (AW_int (addn_op (k := 1) rfl (list_item_op M₂.nums (numsV_item (i := k + 1) hk) nb (addn_op (k := ns.getD (k + 1) 0) rfl (AW_int (modn_op (k := 2) rfl (by decide) (AW_int (eqn_op (k := 0) rfl ?_))))))))))))))))))))
    generalize decide ((ns.getD k 0 + ns.getD (k + 1) 0) % 2 = 0) = parted
    refine AX_cons (AS_Expr (AW_Method (AW_local (by rfl) ⟨_, append_meth M₂.flat, .inl ⟨_, rfl⟩, AWs_cons (AW_IfExp (AT_of (AW_local (by rfl) (truthy_op (a := .bool parted) (b := parted) rfl trivial ?_))))⟩)))
    have fl3 : ∀ (u : Wrd), AW W (lawY (n + 1)) (.Tuple [.Constant (.str u.1) 0 default, .Constant (.str u.2) 0 default] 0 default) [] σ₂ (fun _ _ => True) NoE → True := fun _ _ => trivial
    clear fl3
    cases parted with
    | true =>
      refine AW_Tuple (AWs_cons (AW_str (AWs_cons (AW_str (AWs_nil ⟨by simp, AWs_nil (append_con M₂.flat (by rw [List.length_map]; omega) ?_)⟩)))))
      have M₃ := M₂.setF (flatG (G ++ [g]) ++ [((("word", "or") : Wrd), none)]) (l := (flatG (G ++ [g])).map fw ++ [.tup [.str "word", .str "or"]]) (by rw [List.map_append]; rfl)
      have ag₃ : Agree (turn6 ml fl gl el lc) σ₂ (σ₂.set fl (.lst ((flatG (G ++ [g])).map fw ++ [.tup [.str "word", .str "or"]]))) := .set (by simp)
      have hw₃ := set_ne (x := .lst ((flatG (G ++ [g])).map fw ++ [.tup [.str "word", .str "or"]])) h1₂ (show wl ≠ fl by omega)
      have hp₃ := set_ne (x := .lst ((flatG (G ++ [g])).map fw ++ [.tup [.str "word", .str "or"]])) h2₂ (show pl ≠ fl by omega)
      have FT₃ := FT₂.step ag₃
      have b10 : (σ₂.set fl (.lst ((flatG (G ++ [g])).map fw ++ [.tup [.str "word", .str "or"]]))).length = σ₂.length := List.length_set
      generalize σ₂.set fl (.lst ((flatG (G ++ [g])).map fw ++ [.tup [.str "word", .str "or"]])) = σ₃ at M₃ hw₃ hp₃ FT₃ b10 ⊢
      refine AX_cons (AS_Expr (AW_Method (AW_cell (k := 0) (by rfl) M₃.c0 ⟨_, append_meth M₃.marks, .inl ⟨_, rfl⟩, AWs_cons (AW_none (AWs_nil (append_con M₃.marks (by rw [List.length_map]; omega) ?_)))⟩)))
      have M₄ := M₃.setM (flatG (G ++ [g]) ++ [((("word", "or") : Wrd), none)]) (l := (flatG (G ++ [g])).map fm ++ [.none]) (by rw [List.map_append]; rfl)
      have ag₄ : Agree (turn6 ml fl gl el lc) σ₃ (σ₃.set ml (.lst ((flatG (G ++ [g])).map fm ++ [.none]))) := .set (by simp)
      have hw₄ := set_ne (x := .lst ((flatG (G ++ [g])).map fm ++ [.none])) hw₃ (show wl ≠ ml by omega)
      have hp₄ := set_ne (x := .lst ((flatG (G ++ [g])).map fm ++ [.none])) hp₃ (show pl ≠ ml by omega)
      have FT₄ := FT₃.step ag₄
      have b11 : (σ₃.set ml (.lst ((flatG (G ++ [g])).map fm ++ [.none]))).length = σ₃.length := List.length_set
      generalize σ₃.set ml (.lst ((flatG (G ++ [g])).map fm ++ [.none])) = σ₄ at M₄ hw₄ hp₄ FT₄ b11 ⊢
      refine AX_cons (AS_If (AT_of (AW_local (by rfl) (truthy_op (a := .bool true) (b := true) rfl trivial ?_))))
      refine AX_cons (AS_Expr (AW_Method (AW_local (by rfl) ⟨_, append_meth M₄.groups, .inl ⟨_, rfl⟩, AWs_cons (AW_List (AWs_nil ⟨by simp, AWs_nil (append_con (app_get M₄.groups) (by simp; omega) ?_)⟩))⟩)))
      have M₅ := M₄.newG rfl
      have b12 := (List.getElem?_eq_some_iff.mp M₄.groups).1
      have ltl : σ₄.length < ((σ₄ ++ [AO.lst []]).set gl (AO.lst ((cl ++ [lc]).map AV.loc ++ [.loc σ₄.length]))).length := by rw [List.length_set, List.length_append]; simp
      have hl₅ : ((σ₄ ++ [AO.lst []]).set gl (AO.lst ((cl ++ [lc]).map AV.loc ++ [.loc σ₄.length])))[σ₄.length]? = some (.lst []) := set_ne (last_get _ _) (by omega)
      have FT₅ : Fix (turn6 ml fl gl el σ₄.length) ((σ₄ ++ [AO.lst []]).set gl (AO.lst ((cl ++ [lc]).map AV.loc ++ [.loc σ₄.length]))) tree (pieceD a b) := fun τ hτ => FT₄ τ fun i o hi ho => by
        have hlt := (List.getElem?_eq_some_iff.mp ho).1
        simp only [turn6, List.mem_cons, List.not_mem_nil, or_false, not_or] at hi
        exact hτ i o (by simp only [turn6, List.mem_cons, List.not_mem_nil, or_false, not_or]; omega) (set_ne (app_get ho) (by omega))
      have hw₅ := set_ne (x := AO.lst ((cl ++ [lc]).map AV.loc ++ [.loc σ₄.length])) (app_get (ext := [AO.lst []]) hw₄) (show wl ≠ gl by omega)
      have hp₅ := set_ne (x := AO.lst ((cl ++ [lc]).map AV.loc ++ [.loc σ₄.length])) (app_get (ext := [AO.lst []]) hp₄) (show pl ≠ gl by omega)
      refine AX_nil (AX_nil (AX_sub (ρ' := [("numbers", .loc nl), ("flat", .loc fl), ("groups", .loc gl), ("ends", .loc el), ("words", .loc wl), ("places", .loc pl), ("tree", tree)]) (sub_cons (by rfl) (sub_cons (by rfl) (sub_cons (by rfl) (sub_cons (by rfl) (sub_cons (by rfl) (sub_cons (by rfl) (sub_cons (by rfl) sub_nil))))))) ?_))
      refine fin _ (cl ++ [lc]) (G ++ [g]) σ₄.length [] [((("word", "or") : Wrd), none)] [] (by simp) M₅ hl₅ trivial (by simp) (by simp; omega) FT₅ hw₅ hp₅ ?_ (by simp) (fun x hx => ?_)
      · rw [List.nil_append, flatG_new (gs := G ++ [g]) [(a, b)] (by simp), group_one, List.append_assoc]; rfl
      · rcases List.mem_append.mp hx with h | h
        · exact hg x h
        · rw [List.mem_singleton.mp h]; simp
    | false =>
      refine AW_Tuple (AWs_cons (AW_str (AWs_cons (AW_str (AWs_nil ⟨by simp, AWs_nil (append_con M₂.flat (by rw [List.length_map]; omega) ?_)⟩)))))
      have M₃ := M₂.setF (flatG (G ++ [g]) ++ [((("word", "and") : Wrd), none)]) (l := (flatG (G ++ [g])).map fw ++ [.tup [.str "word", .str "and"]]) (by rw [List.map_append]; rfl)
      have ag₃ : Agree (turn6 ml fl gl el lc) σ₂ (σ₂.set fl (.lst ((flatG (G ++ [g])).map fw ++ [.tup [.str "word", .str "and"]]))) := .set (by simp)
      have hw₃ := set_ne (x := .lst ((flatG (G ++ [g])).map fw ++ [.tup [.str "word", .str "and"]])) h1₂ (show wl ≠ fl by omega)
      have hp₃ := set_ne (x := .lst ((flatG (G ++ [g])).map fw ++ [.tup [.str "word", .str "and"]])) h2₂ (show pl ≠ fl by omega)
      have hts₃ : (σ₂.set fl (.lst ((flatG (G ++ [g])).map fw ++ [.tup [.str "word", .str "and"]])))[lc]? = some (.lst ts) := set_ne hts₂ (by omega)
      have hTS₃ := hTS₂.step ag₃
      have FT₃ := FT₂.step ag₃
      generalize σ₂.set fl (.lst ((flatG (G ++ [g])).map fw ++ [.tup [.str "word", .str "and"]])) = σ₃ at M₃ hw₃ hp₃ FT₃ hts₃ hTS₃ ⊢
      refine AX_cons (AS_Expr (AW_Method (AW_cell (k := 0) (by rfl) M₃.c0 ⟨_, append_meth M₃.marks, .inl ⟨_, rfl⟩, AWs_cons (AW_none (AWs_nil (append_con M₃.marks (by rw [List.length_map]; omega) ?_)))⟩)))
      have M₄ := M₃.setM (flatG (G ++ [g]) ++ [((("word", "and") : Wrd), none)]) (l := (flatG (G ++ [g])).map fm ++ [.none]) (by rw [List.map_append]; rfl)
      have ag₄ : Agree (turn6 ml fl gl el lc) σ₃ (σ₃.set ml (.lst ((flatG (G ++ [g])).map fm ++ [.none]))) := .set (by simp)
      have hw₄ := set_ne (x := .lst ((flatG (G ++ [g])).map fm ++ [.none])) hw₃ (show wl ≠ ml by omega)
      have hp₄ := set_ne (x := .lst ((flatG (G ++ [g])).map fm ++ [.none])) hp₃ (show pl ≠ ml by omega)
      have hts₄ : (σ₃.set ml (.lst ((flatG (G ++ [g])).map fm ++ [.none])))[lc]? = some (.lst ts) := set_ne hts₃ (by omega)
      have hTS₄ := hTS₃.step ag₄
      have FT₄ := FT₃.step ag₄
      generalize σ₃.set ml (.lst ((flatG (G ++ [g])).map fm ++ [.none])) = σ₄ at M₄ hw₄ hp₄ FT₄ hts₄ hTS₄ ⊢
      refine AX_cons (AS_If (AT_of (AW_local (by rfl) (truthy_op (a := .bool false) (b := false) rfl trivial ?_))))
      refine AX_nil (AX_nil (AX_sub (ρ' := [("numbers", .loc nl), ("flat", .loc fl), ("groups", .loc gl), ("ends", .loc el), ("words", .loc wl), ("places", .loc pl), ("tree", tree)]) (sub_cons (by rfl) (sub_cons (by rfl) (sub_cons (by rfl) (sub_cons (by rfl) (sub_cons (by rfl) (sub_cons (by rfl) (sub_cons (by rfl) sub_nil))))))) ?_))
      refine fin σ₄ cl G lc g [((("word", "and") : Wrd), none)] ts (by simp) M₄ hts₄ hTS₄ htl (by omega) FT₄ hw₄ hp₄ ?_ (by simp) (fun x hx => ?_)
      · rw [flatG_more G _ hgne, List.append_assoc]; rfl
      · rcases List.mem_append.mp hx with h | h
        · exact hg x (List.mem_append_left _ h)
        · rw [List.mem_singleton.mp h]; simp
end Mine

open PySem PySem.W PySem.Calls PySem.NumText PyProof.Rows
set_option Elab.async false
set_option linter.all false
set_option maxRecDepth 100000
set_option maxHeartbeats 2000000
namespace Mine
variable {W : Wd} {mg mb : Str → Option Value} {σ : List AO} {Q : AV → List AO → Prop} {E : Str → List AO → Prop} {n : Nat} {hd : Bool} {X : Fx}
theorem nums2_stmt (B : Base W mg mb) {xs : List Int} {t : Addr} (hs : Script W t xs) {N : List (Str × AV) → List AO → Prop} {R : AV → List AO → Prop} (hl : xs.length ≤ 1000)
    (q : ∀ τ : List AO, τ[0]? = some (.cell none) → τ[1]? = some (.cell none) → τ[5]? = some (.lst (numsV ((xs.take 12).map numOf ++ [3, 35, 9, 2, 6, 7]))) → N [("script", .val (.ref t)), ("numbers", .loc 5)] τ) :
    AS W (lawY n) ((fst 24).body.headD default) [("script", .val (.ref t))] [.cell none, .cell none] N R NoE := by
  have e40 : ((10 : Int) ^ (40 : Int).toNat) = ((10 ^ 40 : Nat) : Int) := by decide +kernel
  obtain ⟨vs, hv, rv⟩ := hs
  refine AS_Assign (AW_BinOp (AW_ListComp (cs := []) (comp_scope (by kernel_rfl) (by kernel_rfl) (by kernel_rfl) (by kernel_rfl) (by kernel_rfl) (fun y k h => nomatch h)) ?_))
  refine AW_sliceV (AW_local (by rfl) ?_)
  show AW W _ _ _ _ _ _
  refine AW_int ⟨_, rfl, t, vs, xs.map AV.int, (xs.take 12).map AV.int, rfl, hv, rv, by rw [List.length_map]; omega, ?_, ?_⟩
  · show (if 0 ≤ (12 : Int) then some ((xs.map AV.int).take (12 : Int).toNat) else none) = _
    rw [if_pos (by decide), List.map_take]; rfl
  refine ⟨(xs.take 12).map AV.int, _, fun i τ => τ = [.cell none, .cell none, .lst ((xs.take 12).map AV.int)] ++ [AO.lst (numsV (((xs.take 12).take i).map numOf))], list_iter (k := 2) rfl rfl, ⟨?_, ?_⟩, rfl, ?_⟩
  · rintro i _ rfl; rfl
  · rintro i b _ hb rfl
    rw [List.getElem?_map] at hb
    obtain ⟨x, hx, rfl⟩ := Option.map_eq_some_iff.mp hb
    show AW W _ _ _ _ _ _
    refine AW_BinOp (AW_Call (B.bname (v := .builtin "abs") (by kernel_rfl) (by kernel_rfl) (by decide) ⟨_, rfl, .inl ⟨_, rfl⟩, AWs_cons (AW_local (by rfl) (AWs_nil (abs_con ?_)))⟩))
    rw [abs_nat]
    refine AW_BinOp (AW_int (AW_int (pow_int_op (by decide) (by decide) (by decide) (modn_op (k := 10 ^ 40) e40 (by decide) ?_))))
    refine ⟨_, last_get _ _, ?_, ?_⟩
    · rw [numsV_len, List.length_map]; have : ((xs.take 12).take i).length ≤ 1000 := by simp only [List.length_take]; omega
      omega
    · show List.set _ _ _ = _
      have : numsV (((xs.take 12).take (i + 1)).map numOf) = numsV (((xs.take 12).take i).map numOf) ++ [AV.int ((x.natAbs % 10 ^ 40 : Nat) : Int)] := by
        rw [List.take_add_one, hx]
        simp [numsV, numOf]
      rw [this]
      exact last_set _ _ _
  · intro τ hτ
    have hτ : τ = [.cell none, .cell none, .lst ((xs.take 12).map AV.int)] ++ [AO.lst (numsV ((xs.take 12).map numOf))] := by
      rw [hτ, List.length_map, List.take_length]
    subst hτ
    refine AW_List (AWs_cons (AW_int (AWs_cons (AW_int (AWs_cons (AW_int (AWs_cons (AW_int (AWs_cons (AW_int (AWs_cons (AW_int (AWs_nil ⟨by simp, ?_⟩)))))))))))))
    refine add_list_op (j := 3) (k := 4) rfl rfl (by rw [numsV_len, List.length_map]; have := List.length_take_le 12 xs; simp; omega) ?_
    refine q _ rfl rfl ?_
    show some (AO.lst _) = _
    congr 2
    simp [numsV]
theorem flatten_ge {G : List (List Pc)} (h : ∀ x ∈ G, x ≠ []) : G.length ≤ G.flatten.length := by
  induction G with
  | nil => simp
  | cons g G ih =>
    have h1 := h g (.head _)
    have h2 := ih fun x hx => h x (.tail _ hx)
    have : 1 ≤ g.length := by cases g with | nil => exact absurd rfl h1 | cons _ _ => simp
    rw [List.flatten_cons, List.length_append, List.length_cons]; omega
/-- what stands behind the first loop -/
def Laid2 (fl gl el : Nat) (ns : List Nat) (draw : Nat) (ρ : List (Str × AV)) (τ : List AO) : Prop :=
  ∃ nl ml cl G lc g, Mid τ nl ml fl gl el ns draw (flatG (G ++ [g])) (flatG (G ++ [g])) (endsOf (G ++ [g]).flatten) cl G lc g ∧ (∀ x ∈ G ++ [g], x ≠ []) ∧ (G ++ [g]).flatten.length ≤ 8 ∧
    ρ.lookup ("flat" : Str) = some (.loc fl) ∧ ρ.lookup ("groups" : Str) = some (.loc gl) ∧ ρ.lookup ("ends" : Str) = some (.loc el)
theorem law2_begin (B : Base W mg mb) {nl : Nat} {ns : List Nat} {v : AV} (h0 : σ[0]? = some (.cell none)) (h1 : σ[1]? = some (.cell none)) (hn : σ[nl]? = some (.lst (numsV ns))) (hnl : 1 < nl) (hl : 3 ≤ ns.length) (hl2 : ns.length ≤ 18)
    (q : ∀ fl gl el τ ρ, Laid2 fl gl el ns (ns.getD 0 0) ρ τ → AX W (lawY (n + 1)) ((fst 24).body.drop 7) ρ τ (fun _ _ => False) Q NoE) :
    AX W (lawY (n + 1)) ((fst 24).body.drop 1) [("script", v), ("numbers", .loc nl)] σ (fun _ _ => False) Q NoE := by
  have l1 := (List.getElem?_eq_some_iff.mp hn).1
  refine AX_cons (AS_AssignCell (k := 1) (by rfl) (AW_Subscript (AW_local (by rfl) (AW_int (list_item_op hn (numsV_item (i := 0) (by omega)) (by rw [numsV_len]; omega) ⟨⟨_, h1⟩, ?_⟩)))) (fun env he => by kernel_rfl))
  obtain ⟨draw, hdr⟩ : ∃ d, d = ns.getD 0 0 := ⟨_, rfl⟩
  rw [← hdr] at q ⊢
  have a0 : (σ.set 1 (.cell (some (.int (draw : Int)))))[0]? = some (.cell none) := set_ne h0 (by decide)
  have a1 : (σ.set 1 (.cell (some (.int (draw : Int)))))[1]? = some (.cell (some (.int (draw : Int)))) := List.getElem?_set_self (by omega)
  have an : (σ.set 1 (.cell (some (.int (draw : Int)))))[nl]? = some (.lst (numsV ns)) := set_ne hn (by omega)
  generalize σ.set 1 (.cell (some (.int (draw : Int)))) = σ₁ at a0 a1 an ⊢
  have l2 := (List.getElem?_eq_some_iff.mp an).1
  refine AX_cons (AS_Assign (AW_List (AWs_nil ⟨by simp, ?_⟩)))
  refine AX_cons (AS_AssignCell (k := 0) (by rfl) (AW_List (AWs_nil ⟨by simp, ⟨_, app_get (app_get a0)⟩, ?_⟩)) (fun env he => by kernel_rfl))
  refine AX_cons (AS_Assign (AW_List (AWs_cons (AW_List (AWs_nil ⟨by simp, AWs_nil ⟨by simp, ?_⟩⟩)))))
  refine AX_cons (AS_Assign (AW_List (AWs_nil ⟨by simp, ?_⟩)))
  have e1 : (σ₁ ++ [AO.lst []]).length = σ₁.length + 1 := by simp
  rw [e1]
  have e2 : ((σ₁ ++ [AO.lst []] ++ [AO.lst []]).set 0 (.cell (some (.loc (σ₁.length + 1))))).length = σ₁.length + 2 := by rw [List.length_set]; simp
  rw [e2]
  have e3 : ((σ₁ ++ [AO.lst []] ++ [AO.lst []]).set 0 (.cell (some (.loc (σ₁.length + 1)))) ++ [AO.lst []]).length = σ₁.length + 3 := by rw [List.length_append, e2]; rfl
  rw [e3]
  have e4 : ((σ₁ ++ [AO.lst []] ++ [AO.lst []]).set 0 (.cell (some (.loc (σ₁.length + 1)))) ++ [AO.lst []] ++ [AO.lst [AV.loc (σ₁.length + 2)]]).length = σ₁.length + 4 := by rw [List.length_append, e3]; rfl
  rw [e4]
  have b0 : ((σ₁ ++ [AO.lst []] ++ [AO.lst []]).set 0 (.cell (some (.loc (σ₁.length + 1)))))[0]? = some (.cell (some (.loc (σ₁.length + 1)))) := List.getElem?_set_self (by simp)
  have b1 : ((σ₁ ++ [AO.lst []] ++ [AO.lst []]).set 0 (.cell (some (.loc (σ₁.length + 1)))))[1]? = some (.cell (some (.int (draw : Int)))) := set_ne (app_get (app_get a1)) (by decide)
  have bn : ((σ₁ ++ [AO.lst []] ++ [AO.lst []]).set 0 (.cell (some (.loc (σ₁.length + 1)))))[nl]? = some (.lst (numsV ns)) := set_ne (app_get (app_get an)) (by omega)
  have bf : ((σ₁ ++ [AO.lst []] ++ [AO.lst []]).set 0 (.cell (some (.loc (σ₁.length + 1)))))[σ₁.length]? = some (.lst []) := set_ne (app_get (last_get _ _)) (by omega)
  have bm : ((σ₁ ++ [AO.lst []] ++ [AO.lst []]).set 0 (.cell (some (.loc (σ₁.length + 1)))))[σ₁.length + 1]? = some (.lst []) := set_ne (by rw [← e1]; exact last_get _ _) (by omega)
  generalize (σ₁ ++ [AO.lst []] ++ [AO.lst []]).set 0 (.cell (some (.loc (σ₁.length + 1)))) = σ₂ at e2 e3 e4 b0 b1 bn bf bm ⊢
  have M : Mid (σ₂ ++ [AO.lst []] ++ [AO.lst [AV.loc (σ₁.length + 2)]] ++ [AO.lst []]) nl (σ₁.length + 1) σ₁.length (σ₁.length + 3) (σ₁.length + 4) ns draw (flatG ([] ++ [[]])) (flatG ([] ++ [[]])) (endsOf ([] ++ [[]] : List (List Pc)).flatten) [] [] (σ₁.length + 2) [] := by
    refine ⟨app_get (app_get (app_get b0)), app_get (app_get (app_get b1)), app_get (app_get (app_get bn)), app_get (app_get (app_get bf)), app_get (app_get (app_get bm)), ?_, app_get ?_, ⟨[], app_get (app_get ?_), trivial⟩, trivial, by omega⟩
    · rw [← e4]; exact last_get _ _
    · rw [← e3]; exact last_get _ _
    · rw [← e2]; exact last_get _ _
  generalize σ₂ ++ [AO.lst []] ++ [AO.lst [AV.loc (σ₁.length + 2)]] ++ [AO.lst []] = σ₃ at M ⊢
  refine AX_cons (AS_For ?_)
  refine AW_Call (B.bname (v := .type "range") (by kernel_rfl) (by kernel_rfl) (by decide) ⟨_, rfl, .inr (.inl ⟨_, rfl⟩), AWs_cons (AW_int (AWs_cons (AW_BinOp ?_))) ⟩)
  refine AW_Call (B.bname (v := .builtin "len") (by kernel_rfl) (by kernel_rfl) (by decide) ⟨_, rfl, .inl ⟨_, rfl⟩, AWs_cons (AW_local (by rfl) (AWs_nil (len_con M.nums (by rw [numsV_len]; omega) (AW_int (sub_int_op ?_)))))⟩)
  have esub : (((numsV ns).length : Nat) : Int) - 1 = ((ns.length - 1 : Nat) : Int) := by rw [numsV_len]; omega
  rw [esub]
  refine AWs_cons (AW_int (AWs_nil (range3_con (by decide) (nopylong (by decide)) ?_)))
  obtain ⟨m, hm⟩ : ∃ m, m = (ns.length - 1 - 1 + 1) / 2 := ⟨_, rfl⟩
  obtain ⟨r1, r2⟩ := range_two (a := 1) (b := ns.length - 1) (m := m) (by omega) (by decide) hm
  have M' := M.app [.rng 1 ((ns.length - 1 : Nat) : Int) 2]
  refine ⟨_, _, fun i ρ τ => LayN nl (σ₁.length + 1) σ₁.length (σ₁.length + 3) (σ₁.length + 4) ns draw i ρ τ, range_iter (last_get _ _) rfl r2 r1, ⟨[], [], _, [], M', .inl ⟨rfl, rfl⟩, rfl, by rfl, by rfl, by rfl, by rfl⟩, fun _ _ _ _ => trivial, ?_, ?_⟩
  · rintro i b ρ τ hb ⟨cl, G, lc, g, MM, good, hcnt, g1, g2, g3, g4⟩
    obtain ⟨hi, rfl⟩ := rangeItems_get hb
    have e : AV.int (((1 : Nat) : Int) + (i : Int) * 2) = .int ((1 + i * 2 : Nat) : Int) := congrArg AV.int (by clear r1 r2 hb; omega)
    have keep : ∀ {y : Str} {c : AV}, ρ.lookup y = some c → (y == ("k" : Str)) = false → (upd ρ "k" (.int (((1 : Nat) : Int) + (i : Int) * 2))).lookup y = some c := fun h hne => upd_other h hne
    have hcl : cl.length ≤ 1000 ∧ g.length ≤ 1000 := by
      have hc1 := TF.length MM.closed
      rcases good with ⟨rfl, rfl⟩ | hg
      · simp at hc1; simp [hc1]
      · have := flatten_ge hg
        have h3 : g.length ≤ ((G ++ [g]).flatten).length := by rw [List.flatten_append, List.length_append]; simp
        rw [List.length_append] at this
        omega
    refine AX_sub (ρ' := [("numbers", .loc nl), ("flat", .loc σ₁.length), ("groups", .loc (σ₁.length + 3)), ("ends", .loc (σ₁.length + 4)), ("k", .int ((1 + i * 2 : Nat) : Int))]) (sub_cons (keep g1 (by decide +kernel)) (sub_cons (keep g2 (by decide +kernel)) (sub_cons (keep g3 (by decide +kernel)) (sub_cons (keep g4 (by decide +kernel)) (sub_cons (by rw [upd_same]; exact congrArg some e) sub_nil))))) ?_
    exact lay_turn B MM good hcnt (by omega) hcl.1 hcl.2 (by omega) (by omega)
  · rintro ρ τ ⟨cl, G, lc, g, MM, good, hcnt, g1, g2, g3, g4⟩
    rw [rangeItems_length] at hcnt
    refine q _ _ _ τ ρ ⟨_, _, cl, G, lc, g, MM, ?_, by omega, g2, g3, g4⟩
    rcases good with ⟨rfl, rfl⟩ | hg
    · simp at hcnt; omega
    · exact hg
end Mine

open PySem PySem.W PySem.Calls PySem.NumText PyProof.Rows
set_option Elab.async false
set_option linter.all false
set_option maxRecDepth 100000
set_option maxHeartbeats 2000000
namespace Mine
variable {W : Wd} {mg mb : Str → Option Value} {σ : List AO} {Q : AV → List AO → Prop} {E : Str → List AO → Prop} {n : Nat} {hd : Bool} {X : Fx}
theorem fix_fold {Mut : List Nat} {word : Str} {α : Type} {f : α → PyData} : ∀ {as : List AV} {gs : List α} {a : AV} {d : PyData}, Fix Mut σ a d → TF (fun t p => Fix Mut σ t (f p)) as gs → Fix Mut σ (foldT word a as) (foldD word d (gs.map f))
  | [], [], a, d, h, _ => h
  | x :: as, g :: gs, a, d, h, t => by
    have h2 : Fix Mut σ (.tup [.str word, .tup [a, x]]) (.tuple [.str word, .tuple [d, f g]]) := fun τ hτ => is_tup2 (is_str _) (is_tup2 (h τ hτ) (t.1 τ hτ))
    show Fix Mut σ (foldT word (.tup [.str word, .tup [a, x]]) as) (foldD word (.tuple [.str word, .tuple [d, f g]]) (gs.map f))
    exact fix_fold h2 t.2
def isMk (F : List MW) (k : Nat) : Bool := ((F[k]?).bind (·.2)).isSome
def spotsOf (F : List MW) (i : Nat) : List Nat := (List.range i).filter (isMk F)
theorem spotsOf_succ (F : List MW) (i : Nat) : spotsOf F (i + 1) = spotsOf F i ++ (if isMk F i then [i] else []) := by
  unfold spotsOf
  rw [List.range_succ, List.filter_append]
  congr 1
  cases h : isMk F i <;> simp [h]
theorem spots_stmt (B : Base W mg mb) {fl ml : Nat} {F : List MW} {ρ : List (Str × AV)} {N : List (Str × AV) → List AO → Prop} {R : AV → List AO → Prop} (hρ : ρ.lookup ("flat" : Str) = some (.loc fl)) (h0 : σ[0]? = some (.cell (some (.loc ml)))) (hf : σ[fl]? = some (.lst (F.map fw))) (hm : σ[ml]? = some (.lst (F.map fm))) (hz : F.length ≤ 1000)
    (q : ∀ ext, (σ ++ ext)[σ.length + 1]? = some (.lst (numsV (spotsOf F F.length))) → N (upd ρ "spots" (.loc (σ.length + 1))) (σ ++ ext)) :
    AS W (lawY n) ((fst 24).body.getD 7 default) ρ σ N R NoE := by
  obtain ⟨r1, r2⟩ := range_one (b := F.length) hz
  refine AS_AssignComp (cs := [("marks", 0)]) (comp_scope (by kernel_rfl) (by kernel_rfl) (by kernel_rfl) (by kernel_rfl) (by kernel_rfl) (fun y k h => ?_)) ?_ (fun env he => ?_)
  · rw [List.lookup_cons] at h
    cases e : y == ("marks" : Str) with
    | false => rw [e] at h; cases h
    | true =>
      rw [e] at h
      cases h
      rw [eq_of_beq e]
      exact ⟨by rfl, by decide +kernel⟩
  · refine AW_Call (B.bname (v := .type "range") (by kernel_rfl) (by kernel_rfl) (by decide) ⟨_, rfl, .inr (.inl ⟨_, rfl⟩), AWs_cons ?_⟩)
    refine AW_Call (B.bname (v := .builtin "len") (by kernel_rfl) (by kernel_rfl) (by decide) ⟨_, rfl, .inl ⟨_, rfl⟩, AWs_cons (AW_local hρ (AWs_nil (len_con hf (by rw [List.length_map]; omega) ?_)))⟩)
    rw [List.length_map]
    refine AWs_nil (range1_con ?_)
    refine ⟨_, _, fun i τ => τ = σ ++ [.rng 0 (F.length : Int) 1] ++ [AO.lst (numsV (spotsOf F i))], range_iter (last_get _ _) rfl r2 r1, ⟨fun _ _ _ => trivial, ?_⟩, rfl, ?_⟩
    · rintro i b _ hb rfl
      obtain ⟨hi, rfl⟩ := rangeItems_get hb
      have e : AV.int (0 + (i : Int) * 1) = .int (i : Int) := congrArg AV.int (by clear r1 r2 hb; omega)
      obtain ⟨x, hx⟩ : ∃ x, F[i]? = some x := ⟨_, List.getElem?_eq_getElem hi⟩
      have hitem : itemAt (F.map fm) (i : Int) = some (mv x.2) := item_nat (by rw [List.getElem?_map, hx]; rfl)
      have hnone : isNone (mv x.2) = some x.2.isNone := by cases x.2 <;> rfl
      have hmk : isMk F i = x.2.isSome := by unfold isMk; rw [hx]; rfl
      show AT W _ _ _ _ _ _
      refine AT_Compare1 (AW_Subscript (AW_cell (k := 0) (by rfl) (app_get (app_get h0)) (AW_local (a := .int (i : Int)) (by exact congrArg some e) (list_item_op (app_get (app_get hm)) hitem (by rw [List.length_map]; omega) (AW_none (isNot_none_op hnone (truthy_op (a := .bool _) (b := !x.2.isNone) rfl trivial ?_)))))))
      have hl : (numsV (spotsOf F i)).length ≤ 1000000 := by
        rw [numsV_len]
        have := List.length_filter_le (isMk F) (List.range i)
        rw [List.length_range] at this
        show ((List.range i).filter (isMk F)).length ≤ _
        omega
      cases ho : x.2 with
      | none =>
        show _ = _
        rw [spotsOf_succ, hmk, ho]
        simp
      | some k =>
        refine AW_local (a := .int (i : Int)) (by exact congrArg some e) ⟨_, last_get _ _, hl, ?_⟩
        rw [last_set, spotsOf_succ, hmk, ho]
        show _ = σ ++ [.rng 0 (F.length : Int) 1] ++ [AO.lst (numsV (spotsOf F i ++ [i]))]
        unfold numsV
        rw [List.map_append]; rfl
    · rintro τ hτ
      rw [rangeItems_length] at hτ
      subst hτ
      have e1 : (σ ++ [AO.rng 0 (F.length : Int) 1]).length = σ.length + 1 := by simp
      have hg := last_get (σ ++ [AO.rng 0 (F.length : Int) 1]) (AO.lst (numsV (spotsOf F F.length)))
      rw [e1] at hg ⊢
      rw [List.append_assoc] at hg ⊢
      exact q _ hg
  · cases env
    dsimp only at he
    subst he
    kernel_rfl
theorem Mid.inner {nl ml fl gl el draw lc : Nat} {ns es cl : List Nat} {F Mk : List MW} {G : List (List Pc)} {g : List Pc} (M : Mid σ nl ml fl gl el ns draw F Mk es cl G lc g) :
    TF (fun l x => ∃ ts, σ[l]? = some (.lst ts) ∧ TreesF (turn6 ml fl gl el lc) σ ts x) (cl ++ [lc]) (G ++ [g]) :=
  TF.snoc M.last (TF.mono (fun _ _ ⟨ts, _, h2, h3⟩ => ⟨ts, h2, h3⟩) M.closed)
theorem words_item {l : List Wrd} {i : Nat} (h : i < l.length) : itemAt (l.map wv) (i : Int) = some (wv (l.getD i default)) := by
  refine item_nat ?_
  rw [List.getElem?_map, List.getElem?_eq_getElem h, List.getD_eq_getElem?_getD, List.getElem?_eq_getElem h]; rfl
def l2behind : List Wrd := [("word", "n"), ("word", "is"), ("value", "3"), ("symbol", "="), ("word", "mod"), ("symbol", "%")]
def behindW (draw i : Nat) : List Wrd := (List.range i).map fun k => l2behind.getD ((draw / 4 + k) % 6) default
theorem behindW_succ (draw i : Nat) : behindW draw (i + 1) = behindW draw i ++ [l2behind.getD ((draw / 4 + i) % 6) default] := by
  unfold behindW
  rw [List.range_succ, List.map_append]; rfl
theorem behindW_len (draw i : Nat) : (behindW draw i).length = i := by simp [behindW]
theorem behind_ok (draw i : Nat) : okCond (behindW draw i) := by
  have h0 : okCond [] := ⟨⟨⟨by unfold okSpan; kernel_rfl, by kernel_rfl⟩, by kernel_rfl⟩, by kernel_rfl⟩
  have h1 : ∀ w ∈ l2behind, ∀ r, okCond (w :: r) := by
    intro w hw r
    unfold l2behind at hw
    simp only [List.mem_cons, List.not_mem_nil, or_false] at hw
    rcases hw with rfl | rfl | rfl | rfl | rfl | rfl <;> exact ⟨⟨⟨by unfold okSpan; kernel_rfl, by kernel_rfl⟩, by kernel_rfl⟩, by kernel_rfl⟩
  cases i with
  | zero => exact h0
  | succ i =>
    unfold behindW
    rw [List.range_succ_eq_map, List.map_cons]
    exact h1 _ (getD_mem (Nat.mod_lt _ (by decide))) _
theorem behind_tame (draw i : Nat) : ∀ w ∈ behindW draw i, Tame w := fun w hw => by
  obtain ⟨k, _, rfl⟩ := List.mem_map.mp hw
  exact (tame_all (f := id) (l := l2behind) (by kernel_rfl)) _ (getD_mem (Nat.mod_lt _ (by decide)))
theorem map_fw (F : List MW) : F.map fw = (F.map fx).map wv := by rw [List.map_map]; rfl
/-- `flat += [...]` -/
theorem behind_stmt (B : Base W mg mb) {fl draw : Nat} {F : List MW} {ρ : List (Str × AV)} {N : List (Str × AV) → List AO → Prop} {R : AV → List AO → Prop} (hρ : ρ.lookup ("flat" : Str) = some (.loc fl)) (h1 : σ[1]? = some (.cell (some (.int (draw : Int))))) (hf : σ[fl]? = some (.lst (F.map fw))) (hz : F.length ≤ 1000)
    (q : ∀ ext, N (upd ρ "flat" (.loc fl)) ((σ ++ ext).set fl (.lst ((F.map fx ++ behindW draw (draw % 4)).map wv)))) :
    AS W (lawY n) ((fst 24).body.getD 10 default) ρ σ N R NoE := by
  have hd4 : draw % 4 < 4 := Nat.mod_lt _ (by decide)
  obtain ⟨r1, r2⟩ := range_one (b := draw % 4) (by omega)
  refine AS_AugAssign (a := .loc fl) hρ (AW_ListComp (cs := [("draw", 1)]) (comp_scope (by kernel_rfl) (by kernel_rfl) (by kernel_rfl) (by kernel_rfl) (by kernel_rfl) (fun y k h => ?_)) ?_)
  · rw [List.lookup_cons] at h
    cases e : y == ("draw" : Str) with
    | false => rw [e] at h; cases h
    | true =>
      rw [e] at h
      cases h
      rw [eq_of_beq e]
      exact ⟨by rfl, by decide +kernel⟩
  · refine AW_Call (B.bname (v := .type "range") (by kernel_rfl) (by kernel_rfl) (by decide) ⟨_, rfl, .inr (.inl ⟨_, rfl⟩), AWs_cons (AW_BinOp (AW_cell (k := 1) (by rfl) h1 (AW_int (modn_op (k := 4) rfl (by decide) (AWs_nil (range1_con ?_)))))) ⟩)
    refine ⟨_, _, fun i τ => τ = σ ++ [.rng 0 ((draw % 4 : Nat) : Int) 1] ++ [AO.lst ((behindW draw i).map wv)], range_iter (last_get _ _) rfl r2 r1, ⟨fun _ _ _ => trivial, ?_⟩, rfl, ?_⟩
    · rintro i b _ hb rfl
      obtain ⟨hi, rfl⟩ := rangeItems_get hb
      have e : AV.int (0 + (i : Int) * 1) = .int (i : Int) := congrArg AV.int (by clear r1 r2 hb; omega)
      show AW W _ _ _ _ _ _
      refine AW_Subscript (B.tupn (v := .ref 230) (a := .tup (l2behind.map wv)) (by kernel_rfl) (by kernel_rfl) (AW_BinOp (AW_BinOp (AW_BinOp (AW_cell (k := 1) (by rfl) (app_get (app_get h1)) (AW_int (divn_op (k := 4) rfl (by decide) (by decide) (AW_local (a := .int (i : Int)) (by exact congrArg some e) (addn_op (k := i) rfl (AW_int (modn_op (k := 6) rfl (by decide) (tup_item_op (words_item (l := l2behind) (Nat.mod_lt _ (by decide))) (by decide) ?_))))))))))))
      refine ⟨_, last_get _ _, by rw [List.length_map, behindW_len]; omega, ?_⟩
      rw [last_set, behindW_succ, List.map_append]; rfl
    · rintro τ hτ
      rw [rangeItems_length] at hτ
      subst hτ
      refine iadd_list_op (app_get (app_get hf)) (last_get _ _) (by rw [List.length_map, List.length_map, behindW_len]; omega) ?_
      have := q ([.rng 0 ((draw % 4 : Nat) : Int) 1] ++ [AO.lst ((behindW draw (draw % 4)).map wv)])
      rw [List.map_append, ← map_fw, ← List.append_assoc] at this
      exact this
end Mine

open PySem PySem.W PySem.Calls PySem.NumText PyProof.Rows
set_option Elab.async false
set_option linter.all false
set_option maxRecDepth 100000
set_option maxHeartbeats 2000000
namespace Mine
variable {W : Wd} {mg mb : Str → Option Value} {σ : List AO} {Q : AV → List AO → Prop} {E : Str → List AO → Prop} {n : Nat} {hd : Bool} {X : Fx}
theorem ends_get {l : List Pc} {j : Nat} (h : j < l.length) : (endsOf l).getD j 0 = sumL (l.take (j + 1)) + j := by
  unfold endsOf
  rw [List.getD_eq_getElem?_getD, List.getElem?_map, List.getElem?_range h]; rfl
theorem ends_len (l : List Pc) : (endsOf l).length = l.length := by unfold endsOf; rw [List.length_map, List.length_range]
theorem ends_last {l : List Pc} (h : l ≠ []) : itemAt (numsV (endsOf l)) (-1) = some (.int ((sumL l + (l.length - 1) : Nat) : Int)) := by
  obtain ⟨A, p, rfl⟩ : ∃ A p, l = A ++ [p] := ⟨l.dropLast, l.getLast h, (List.dropLast_concat_getLast h).symm⟩
  rw [endsOf_snoc]
  have : numsV (endsOf A ++ [sumL (A ++ [p]) + A.length]) = numsV (endsOf A) ++ [.int ((sumL (A ++ [p]) + A.length : Nat) : Int)] := by unfold numsV; rw [List.map_append]; rfl
  rw [this, item_last, List.length_append, List.length_singleton, Nat.add_sub_cancel]
structure Rdy (σ : List AO) (fl ml sl : Nat) (F : List MW) (ws : List Wrd) (draw : Nat) (d0 d1 d2 : AV) (D0 D1 D2 : PyData) : Prop where
  c0 : σ[0]? = some (.cell (some (.loc ml)))
  c1 : σ[1]? = some (.cell (some (.int (draw : Int))))
  flat : σ[fl]? = some (.lst (ws.map wv))
  marks : σ[ml]? = some (.lst (F.map fm))
  spots : σ[sl]? = some (.lst (numsV (spotsOf F F.length)))
  f0 : Fix [] σ d0 D0
  f1 : Fix [] σ d1 D1
  f2 : Fix [] σ d2 D2
theorem Fix.free {Mut : List Nat} {a : AV} {d : PyData} (f : Fix Mut σ a d) : Fix [] σ a d := fun τ h => f τ fun i o _ ho => h i o (by simp) ho
def stopsV (a b c : Nat) : AV := .tup [.int (a : Int), .int (b : Int), .int (c : Int)]
theorem law2_mid (B : Base W mg mb) {nl ml fl gl el lc draw : Nat} {ns cl : List Nat} {G : List (List Pc)} {g : List Pc} {p0 : Pc} {ps0 : List Pc} {gs : List (List Pc)}
    (M : Mid σ nl ml fl gl el ns draw (flatG (G ++ [g])) (flatG (G ++ [g])) (endsOf (G ++ [g]).flatten) cl G lc g) (hgs : G ++ [g] = (p0 :: ps0) :: gs) (hg : ∀ x ∈ G ++ [g], x ≠ []) (hc : (G ++ [g]).flatten.length ≤ 20)
    (q : ∀ τ sl d0 d1 d2, Rdy τ fl ml sl (flatG (G ++ [g])) ((flatG (G ++ [g])).map fx ++ behindW draw (draw % 4)) draw d0 d1 d2 (pcD p0) (groupD (p0 :: ps0)) (flatD ((p0 :: ps0) :: gs)) →
      AX W (lawY (n + 1)) ((fst 24).body.drop 11) [("flat", .loc fl), ("spots", .loc sl), ("stops", stopsV (pcM p0).length (groupM (p0 :: ps0)).length (flatG (G ++ [g])).length), ("dues", .tup [d0, d1, d2])] τ (fun _ _ => False) Q NoE) :
    AX W (lawY (n + 1)) ((fst 24).body.drop 7) [("flat", .loc fl), ("groups", .loc gl), ("ends", .loc el)] σ (fun _ _ => False) Q NoE := by
  have hF := flatG_len (gs := G ++ [g]) (by simp) hg
  have hFs := sumL_le (G ++ [g]).flatten
  have hFl : (flatG (G ++ [g])).length ≤ 1000 := by omega
  have hne : (G ++ [g]).flatten ≠ [] := by rw [hgs]; simp
  have hG0 := groupM_len (g := p0 :: ps0) (by simp)
  have hel : (endsOf (G ++ [g]).flatten).length ≤ 20 := by rw [ends_len]; exact hc
  have hgl := flatten_ge hg
  refine AX_cons (spots_stmt B (by rfl) M.c0 M.flat M.marks hFl fun ext hs => ?_)
  have M₁ := M.app ext
  obtain ⟨sl, hsl⟩ : ∃ s, s = σ.length + 1 := ⟨_, rfl⟩
  have hslf : sl ≠ fl := by have := (List.getElem?_eq_some_iff.mp M.flat).1; omega
  rw [← hsl] at hs ⊢
  generalize σ ++ ext = σ₁ at M₁ hs ⊢
  have inner := M₁.inner
  rw [hgs] at inner
  have hlen := TF.length inner
  obtain ⟨l0, ll, hlocs⟩ : ∃ l0 ll, cl ++ [lc] = l0 :: ll := by
    cases h : cl ++ [lc] with
    | nil => simp at h
    | cons a b => exact ⟨a, b, rfl⟩
  rw [hlocs] at inner
  obtain ⟨⟨ts0, ht0, hT0⟩, hrest⟩ := inner
  have hgr := M₁.groups
  rw [hlocs] at hgr
  have hts0 := TF.length hT0
  cases ts0 with
  | nil => simp at hts0
  | cons t0 ts =>
  obtain ⟨hF0, hTs⟩ := hT0
  have htl : (t0 :: ts).length ≤ 20 := by
    rw [hts0]
    have : ((p0 :: ps0) :: gs).flatten.length ≤ 20 := by rw [← hgs]; exact hc
    rw [List.flatten_cons, List.length_append] at this
    omega
  have hlocl : (l0 :: ll).length ≤ 20 := by rw [← hlocs, hlen, ← hgs]; omega
  have hgi : itemAt ((l0 :: ll).map AV.loc) 0 = some (.loc l0) := rfl
  have hgb : ((l0 :: ll).map AV.loc).length ≤ 1000000 := by rw [List.length_map]; omega
  -- stops
  have s0 : (endsOf (G ++ [g]).flatten).getD 0 0 = (pcM p0).length := by
    rw [hgs, ends_get (by simp)]
    simp [sumL]
  have s1 : (endsOf (G ++ [g]).flatten).getD ((p0 :: ps0).length - 1) 0 = (groupM (p0 :: ps0)).length := by
    rw [hgs, ends_get (by simp; omega), List.flatten_cons]
    have : ((p0 :: ps0) ++ gs.flatten).take ((p0 :: ps0).length - 1 + 1) = p0 :: ps0 := by
      rw [show (p0 :: ps0).length - 1 + 1 = (p0 :: ps0).length by simp, List.take_left]
    rw [this]
    have : (p0 :: ps0).length = ps0.length + 1 := rfl
    omega
  have s2 : sumL (G ++ [g]).flatten + ((G ++ [g]).flatten.length - 1) = (flatG (G ++ [g])).length := by
    have : 1 ≤ (G ++ [g]).flatten.length := by cases h : (G ++ [g]).flatten with | nil => exact absurd h hne | cons _ _ => simp
    omega
  have hflat0 : 0 < (endsOf (G ++ [g]).flatten).length := by
    rw [ends_len]
    cases h : (G ++ [g]).flatten with
    | nil => exact absurd h hne
    | cons _ _ => simp
  have i0 := numsV_item (ns := endsOf (G ++ [g]).flatten) (i := 0) hflat0
  have i1 := numsV_item (ns := endsOf (G ++ [g]).flatten) (i := (p0 :: ps0).length - 1) (by rw [ends_len, hgs, List.flatten_cons, List.length_append]; simp; omega)
  rw [s0] at i0
  rw [s1] at i1
  have i2 := ends_last hne
  rw [s2] at i2
  have hesb : (numsV (endsOf (G ++ [g]).flatten)).length ≤ 1000000 := by rw [numsV_len]; omega
  have esub : (((t0 :: ts).length : Nat) : Int) - 1 = (((p0 :: ps0).length - 1 : Nat) : Int) := by rw [hts0]; simp
  refine AX_cons (AS_Assign (AW_Tuple (AWs_cons (AW_Subscript (AW_local (by rfl) (AW_int (list_item_op M₁.ends i0 hesb ?_)))))))
  refine AWs_cons (AW_Subscript (AW_local (by rfl) (AW_BinOp (AW_Call (B.bname (v := .builtin "len") (by kernel_rfl) (by kernel_rfl) (by decide) ⟨_, rfl, .inl ⟨_, rfl⟩, AWs_cons (AW_Subscript (AW_local (by rfl) (AW_int (list_item_op hgr hgi hgb (AWs_nil (len_con ht0 (by omega) (AW_int (sub_int_op ?_))))))))⟩)))))
  rw [esub]
  refine list_item_op M₁.ends i1 hesb (AWs_cons (AW_Subscript (AW_local (by rfl) (AW_neg (AW_int ⟨rfl, list_item_op M₁.ends i2 hesb (AWs_nil ⟨by simp, ?_⟩)⟩)))))
  -- dues
  have ag : ∀ e, Agree (turn6 ml fl gl el lc) σ₁ (σ₁ ++ e) := fun e => .app e
  refine AX_cons (AS_Assign (AW_Tuple (AWs_cons (AW_Subscript (AW_Subscript (AW_local (by rfl) (AW_int (list_item_op hgr hgi hgb (AW_int (list_item_op (a := t0) ht0 rfl (by omega) ?_))))))))))
  refine AWs_cons (B.call (f := 244) (by kernel_rfl) (by kernel_rfl) (AWs_cons (AW_str (AWs_cons (AW_Subscript (AW_local (by rfl) (AW_int (list_item_op hgr hgi hgb (AWs_nil (fold_con B ht0 (by simp at htl; omega) ?_))))))))))
  have hFa := fix_fold (word := "and") (f := pcD) hF0 hTs
  refine AWs_cons (B.call (f := 244) (by kernel_rfl) (by kernel_rfl) (AWs_cons (AW_str (AWs_cons (AW_ListComp (cs := []) (comp_scope (by kernel_rfl) (by kernel_rfl) (by kernel_rfl) (by kernel_rfl) (by kernel_rfl) (fun y k h => nomatch h)) (AW_local (by rfl) ?_)) ))))
  have hgr₂ : (σ₁ ++ [AO.lst ts])[gl]? = some (.lst ((l0 :: ll).map AV.loc)) := app_get hgr
  refine ⟨(l0 :: ll).map AV.loc, _, fun i τ => ∃ acc ext, τ = σ₁ ++ [AO.lst ts] ++ [AO.lst acc] ++ ext ∧ TF (fun a x => Fix (turn6 ml fl gl el lc) σ₁ a (groupD x)) acc (((p0 :: ps0) :: gs).take i), list_iter hgr₂ rfl, ⟨?_, ?_⟩, ⟨[], [], by rw [List.append_nil], trivial⟩, ?_⟩
  · rintro i _ ⟨acc, ext, rfl, _⟩
    exact app_get (app_get hgr₂)
  · rintro i b _ hb ⟨acc, ext, rfl, hacc⟩
    rw [List.getElem?_map] at hb
    obtain ⟨li, hli, rfl⟩ := Option.map_eq_some_iff.mp hb
    have hi := (List.getElem?_eq_some_iff.mp hli).1
    have hgi : i < ((p0 :: ps0) :: gs).length := by rw [← hlen, hlocs]; exact hi
    obtain ⟨x, hx⟩ : ∃ x, ((p0 :: ps0) :: gs)[i]? = some x := ⟨_, List.getElem?_eq_getElem hgi⟩
    have all : TF (fun l x => ∃ ts, σ₁[l]? = some (.lst ts) ∧ TreesF (turn6 ml fl gl el lc) σ₁ ts x) (l0 :: ll) ((p0 :: ps0) :: gs) := ⟨⟨t0 :: ts, ht0, hF0, hTs⟩, hrest⟩
    obtain ⟨l', hl', us, hus, hU⟩ := TF.get all hx
    rw [hli] at hl'
    cases hl'
    have hxne : x ≠ [] := hg x (by rw [hgs]; exact List.mem_of_getElem? hx)
    have hul := TF.length hU
    have hxl : x.length ≤ 20 := by
      have h1 : x ∈ (p0 :: ps0) :: gs := List.mem_of_getElem? hx
      have h2 : x.length ≤ ((p0 :: ps0) :: gs).flatten.length := by
        obtain ⟨A, C, hAC⟩ := List.append_of_mem h1
        rw [hAC, List.flatten_append, List.flatten_cons, List.length_append, List.length_append]; omega
      rw [← hgs] at h2; omega
    cases x with
    | nil => exact absurd rfl hxne
    | cons y ys =>
      cases us with
      | nil => simp at hul
      | cons u us =>
        show AW W _ _ _ _ _ _
        refine B.call (f := 244) (by kernel_rfl) (by kernel_rfl) (AWs_cons (AW_str (AWs_cons (AW_local (by rfl) (AWs_nil (fold_con (n := n) B (app_get (app_get (app_get hus))) (by simp at hul hxl; omega) ?_))))))
        have hal := TF.length hacc
        refine ⟨acc, app_get (app_get (last_get _ _)), by rw [hal, List.length_take]; omega, ?_⟩
        refine ⟨acc ++ [foldT "and" u us], ext ++ [.lst us], ?_, ?_⟩
        · rw [List.append_assoc (σ₁ ++ [AO.lst ts] ++ [AO.lst acc]), List.append_assoc (σ₁ ++ [AO.lst ts])]
          rw [List.set_append_right _ _ (Nat.le_refl _), Nat.sub_self]
          show σ₁ ++ [AO.lst ts] ++ (AO.lst (acc ++ [foldT "and" u us]) :: (ext ++ [AO.lst us])) = _
          rw [List.append_assoc (σ₁ ++ [AO.lst ts])]; rfl
        · rw [List.take_add_one, hx]
          exact TF.snoc (R := fun z x => Fix (turn6 ml fl gl el lc) σ₁ z (groupD x)) (a := foldT "and" u us) (b := y :: ys) (fix_fold (word := "and") (f := pcD) hU.1 hU.2) hacc
  · rintro τ ⟨acc, ext₂, rfl, hacc⟩
    rw [List.length_map, ← hlocs, hlen, List.take_length] at hacc
    have hal := TF.length hacc
    cases acc with
    | nil => simp at hal
    | cons A As =>
    have hlst : (σ₁ ++ [AO.lst ts] ++ [AO.lst (A :: As)] ++ ext₂)[(σ₁ ++ [AO.lst ts]).length]? = some (.lst (A :: As)) := app_get (last_get _ _)
    refine AWs_nil (fold_con B hlst ?_ ?_)
    · have : gs.length ≤ 20 := by
        have : ((p0 :: ps0) :: gs).length ≤ 20 := by rw [← hgs]; omega
        simp at this; omega
      simp at hal; omega
    have hFo := fix_fold (word := "or") (f := groupD) hacc.1 hacc.2
    refine AWs_nil ⟨by simp, ?_⟩
    have M₂ := (((M₁.app [AO.lst ts]).app [AO.lst (A :: As)]).app ext₂).app [AO.lst As]
    have hs₂ : (σ₁ ++ [AO.lst ts] ++ [AO.lst (A :: As)] ++ ext₂ ++ [AO.lst As])[sl]? = some (.lst (numsV (spotsOf (flatG (G ++ [g])) (flatG (G ++ [g])).length))) := app_get (app_get (app_get (app_get hs)))
    have ag₂ : Agree (turn6 ml fl gl el lc) σ₁ (σ₁ ++ [AO.lst ts] ++ [AO.lst (A :: As)] ++ ext₂ ++ [AO.lst As]) := fun i o _ ho => app_get (app_get (app_get (app_get ho)))
    have k0 := hF0.step ag₂
    have k1 := hFa.step ag₂
    have k2 := hFo.step ag₂
    generalize σ₁ ++ [AO.lst ts] ++ [AO.lst (A :: As)] ++ ext₂ ++ [AO.lst As] = σ₂ at M₂ hs₂ k0 k1 k2 ⊢
    refine AX_cons (behind_stmt B (by rfl) M₂.c1 M₂.flat hFl fun e => ?_)
    have hdist := M.dist
    have b3 := (List.getElem?_eq_some_iff.mp M₂.flat).1
    have ag₃ : Agree (turn6 ml fl gl el lc) σ₂ ((σ₂ ++ e).set fl (.lst (((flatG (G ++ [g])).map fx ++ behindW draw (draw % 4)).map wv))) := (Agree.app e).trans (.set (by simp))
    refine AX_sub (ρ' := [("flat", .loc fl), ("spots", .loc sl), ("stops", stopsV (pcM p0).length (groupM (p0 :: ps0)).length (flatG (G ++ [g])).length), ("dues", .tup [t0, foldT "and" t0 ts, foldT "or" A As])]) (sub_cons (by rfl) (sub_cons (by rfl) (sub_cons (by rfl) (sub_cons (by rfl) sub_nil)))) ?_
    refine q _ sl t0 (foldT "and" t0 ts) (foldT "or" A As) ⟨set_ne (app_get M₂.c0) (by omega), set_ne (app_get M₂.c1) (by omega), List.getElem?_set_self (by rw [List.length_append]; omega), set_ne (app_get M₂.marks) (by omega), set_ne (app_get hs₂) hslf, (k0.step ag₃).free, (k1.step ag₃).free, (k2.step ag₃).free⟩
end Mine

open PySem PySem.W PySem.Calls PySem.NumText PyProof.Rows
set_option Elab.async false
set_option linter.all false
set_option maxRecDepth 100000
set_option maxHeartbeats 2000000
namespace Mine
variable {W : Wd} {mg mb : Str → Option Value} {σ : List AO} {Q : AV → List AO → Prop} {E : Str → List AO → Prop} {n : Nat} {hd : Bool} {X : Fx}
noncomputable def forB11 : List Stmt := match (fst 24).body.getD 11 default with | .For _ _ b _ _ => b | _ => []
theorem foreign_tame : ∀ w ∈ l2foreign, Tame w := tame_all (f := id) (by kernel_rfl)
theorem edit_tame {ws : List Wrd} (T : ∀ w ∈ ws, Tame w) {mode sp : Nat} {f : Wrd} (hf : f ∈ l2foreign) : ∀ w ∈ edit mode sp f ws, Tame w := fun w hw => by
  unfold edit at hw
  split at hw
  · rcases List.mem_append.mp hw with h | h
    · rcases List.mem_append.mp h with h | h
      · exact T w (List.mem_of_mem_take h)
      · rw [List.mem_singleton.mp h]; exact foreign_tame f hf
    · exact T w (List.mem_of_mem_drop h)
  · split at hw
    · exact T w (List.mem_of_mem_take hw)
    · exact T w hw
theorem edit_len {ws : List Wrd} {mode sp : Nat} {f : Wrd} : (edit mode sp f ws).length ≤ ws.length + 1 := by
  unfold edit
  split
  · simp; omega
  · split
    · simp; omega
    · omega
theorem spot_mem {F : List MW} {sp : Nat} (h : sp ∈ spotsOf F F.length) : ∃ w m, F[sp]? = some (w, some m) := by
  unfold spotsOf at h
  obtain ⟨h1, h2⟩ := List.mem_filter.mp h
  unfold isMk at h2
  cases hF : F[sp]? with
  | none => rw [hF] at h2; cases h2
  | some x =>
    obtain ⟨w, o⟩ := x
    rw [hF] at h2
    cases o with
    | none => cases h2
    | some m => exact ⟨w, m, rfl⟩
/-- the end of a turn: the parser's stack against the rest -/
theorem read_end (B : Base W mg mb) {r k wl rl : Nat} {Wd2 : List Wrd} {fa sa sta d0 d1 d2 dr sent : AV} {Dr : PyData} {R : AV → List AO → Prop} {base : List AO}
    (hb : Agree [] base σ) (hr : r < 3) (hd : itemAt [d0, d1, d2] (r : Int) = some dr) (hfix : Fix [] base dr Dr) (hsh : SeqAt.shaped Dr = true) (T : ∀ w ∈ Wd2, Tame w) (hz : Wd2.length ≤ 1000)
    (hw : σ[wl]? = some (.lst (Wd2.map wv))) (hrest : σ[rl]? = some (.lst ((Wd2.map wv).drop k))) (hbl : base.length ≤ σ.length) (hrd : (sent = .none ∧ readA r Wd2 = .ok Dr k) ∨ ∃ S, sent = .str S ∧ readA r Wd2 = .no S k) :
    AX W (lawY (n + 11)) (forB11.drop 9) [("flat", fa), ("spots", sa), ("stops", sta), ("dues", .tup [d0, d1, d2]), ("reader", .int (r : Int)), ("words", .loc wl), ("sentence", sent), ("rest", .loc rl)] σ
      (fun ρ τ => Agree [] base τ ∧ base.length ≤ τ.length ∧ ρ.lookup ("flat" : Str) = some fa ∧ ρ.lookup ("spots" : Str) = some sa ∧ ρ.lookup ("stops" : Str) = some sta ∧ ρ.lookup ("dues" : Str) = some (.tup [d0, d1, d2])) R NoE := by
  refine AX_cons (AS_Assign (AW_Call (B.name (v := .ref 182) (by kernel_rfl) ⟨_, rfl, kps_cls B.X (by kernel_rfl), AWs_cons (AW_str (AWs_nil (ConC.con (parser_con (n := n + 8) B ?_))))⟩)))
  intro ext t0 e1 e2 e3
  refine AX_cons (AS_SetAttr B.X (AW_slice (AW_local (by rfl) ?_)))
  show AW W _ _ _ _ _ _
  refine AW_neg (AW_int ⟨rfl, _, rfl, wl, Wd2.map wv, stack Wd2, rfl, app_get hw, by rw [List.length_map]; omega, rfl, ?_⟩)
  have hd0 : (σ ++ ext ++ [AO.lst (stack Wd2)])[σ.length]? = some (.dct [("tokens", t0), ("ast", .none)]) := by
    refine app_get ?_
    rw [List.getElem?_append_right (Nat.le_refl _), Nat.sub_self]; exact e2
  have hj0 : (σ ++ ext ++ [AO.lst (stack Wd2)])[σ.length + 1]? = some (.inst 182 σ.length) := by
    refine app_get ?_
    rw [List.getElem?_append_right (by omega), Nat.add_sub_cancel_left]; exact e3
  have ht0 := last_get (σ ++ ext) (AO.lst (stack Wd2))
  have hlen : (σ ++ ext).length = σ.length + 5 := by rw [List.length_append, e1]
  rw [hlen] at ht0 ⊢
  have lrl := (List.getElem?_eq_some_iff.mp hrest).1
  have hr0 : (σ ++ ext ++ [AO.lst (stack Wd2)])[rl]? = some (.lst ((Wd2.map wv).drop k)) := app_get (app_get hrest)
  have ag0 : Agree [] base (σ ++ ext ++ [AO.lst (stack Wd2)]) := hb.trans fun i o _ h => app_get (app_get h)
  have hl0 : σ.length + 6 ≤ (σ ++ ext ++ [AO.lst (stack Wd2)]).length := by rw [List.length_append, hlen]; simp
  generalize σ ++ ext ++ [AO.lst (stack Wd2)] = S at hd0 hj0 ht0 hr0 ag0 hl0 ⊢
  refine AW_local (by rfl) ⟨σ.length + 1, 182, σ.length, [("tokens", t0), ("ast", .none)], rfl, hj0, hd0, by kernel_rfl, by kernel_rfl, by kernel_rfl, by kernel_rfl, by simp, ?_⟩
  have P : Prs (S.set σ.length (.dct (upd [("tokens", t0), ("ast", .none)] "tokens" (.loc (σ.length + 5))))) (σ.length + 1) (σ.length + 5) Wd2 := by
    refine new_prs ?_ (set_ne hj0 (by omega)) (set_ne ht0 (by omega)) (by omega)
    rw [List.getElem?_set_self (List.getElem?_eq_some_iff.mp hd0).1]; rfl
  have hr1 := set_ne (x := .dct (upd [("tokens", t0), ("ast", .none)] "tokens" (.loc (σ.length + 5)))) hr0 (show rl ≠ σ.length by omega)
  have ag1 : Agree [] base (S.set σ.length (.dct (upd [("tokens", t0), ("ast", .none)] "tokens" (.loc (σ.length + 5))))) := fun i o hi ho => set_ne (ag0 i o hi ho) (by have := (List.getElem?_eq_some_iff.mp ho).1; omega)
  have hl1 : σ.length + 6 ≤ (S.set σ.length (.dct (upd [("tokens", t0), ("ast", .none)] "tokens" (.loc (σ.length + 5))))).length := by rw [List.length_set]; exact hl0
  generalize S.set σ.length (.dct (upd [("tokens", t0), ("ast", .none)] "tokens" (.loc (σ.length + 5)))) = S₁ at P hr1 ag1 hl1 ⊢
  -- behind the reader
  have meet : ∀ (told said : AV) (e2 : List AO), ((sent = .none ∧ said = .none ∧ Is (after (σ.length + 5) Wd2 k S₁ ++ e2) told Dr) ∨ ∃ S, sent = .str S ∧ said = .str S) →
      AX W (lawY (n + 11)) (forB11.drop 12) [("flat", fa), ("spots", sa), ("stops", sta), ("dues", .tup [d0, d1, d2]), ("reader", .int (r : Int)), ("words", .loc wl), ("sentence", sent), ("rest", .loc rl), ("p", .loc (σ.length + 1)), ("told", told), ("said", said)] (after (σ.length + 5) Wd2 k S₁ ++ e2)
      (fun ρ τ => Agree [] base τ ∧ base.length ≤ τ.length ∧ ρ.lookup ("flat" : Str) = some fa ∧ ρ.lookup ("spots" : Str) = some sa ∧ ρ.lookup ("stops" : Str) = some sta ∧ ρ.lookup ("dues" : Str) = some (.tup [d0, d1, d2])) R NoE := by
    intro told said e2 h
    have P' := (P.after k).app e2
    have hr2 : (after (σ.length + 5) Wd2 k S₁ ++ e2)[rl]? = some (.lst ((Wd2.map wv).drop k)) := app_get (by rw [after_ne (by omega)]; exact hr1)
    have ag2 : Agree [] base (after (σ.length + 5) Wd2 k S₁ ++ e2) := fun i o hi ho => app_get (by rw [after_ne (by have := (List.getElem?_eq_some_iff.mp ho).1; omega)]; exact ag1 i o hi ho)
    have hl2 : base.length ≤ (after (σ.length + 5) Wd2 k S₁ ++ e2).length := by rw [List.length_append, after_length]; omega
    generalize after (σ.length + 5) Wd2 k S₁ ++ e2 = S₂ at h P' hr2 ag2 hl2 ⊢
    have Tk : ∀ w ∈ Wd2.drop k, Tame w := fun w hw => T w (List.mem_of_mem_drop hw)
    refine AX_cons (AS_If (AT_or (AT_Compare1 (AW_local (by rfl) (AW_local (by rfl) ?_)))))
    have e4 : ((Wd2.map wv).drop k).reverse = stack (Wd2.drop k) := by rw [← List.map_drop]; rfl
    have hst : ∀ τ : List AO, τ = S₂ ++ [AO.lst (stack (Wd2.drop k))] → Is τ (.loc (σ.length + 5)) (stackD (Wd2.drop k)) ∧ Is τ (.loc S₂.length) (stackD (Wd2.drop k)) := by
      rintro _ rfl
      exact ⟨is_stack (app_get P'.stk), is_stack (last_get _ _)⟩
    rcases h with ⟨rfl, rfl, i1⟩ | ⟨S, rfl, rfl⟩
    · refine ne_op (da := .none) (db := .none) (by simp only [Is]) (by simp only [Is]) rfl rfl (truthy_op (a := .bool _) (b := false) rfl trivial ?_)
      refine AT_or (AT_and (AT_Compare1 (AW_local (by rfl) (AW_none (is_none_op (b := true) rfl (truthy_op (b := true) rfl trivial ?_))))))
      refine AT_and (AT_Compare1 (AW_local (by rfl) (AW_Subscript (AW_local (by rfl) (AW_local (by rfl) (tup_item_op hd (by simp) (ne_op i1 (hfix _ ag2) hsh hsh (truthy_op (a := .bool _) (b := false) (by rw [eqv_self hsh]; rfl) trivial ?_))))))))
      refine AT_or (AT_Compare1 (B.tokens P' (by rfl) (AW_slice (AW_local (by rfl) ?_))))
      show AW W _ _ _ _ _ _
      refine AW_neg (AW_int ⟨rfl, _, rfl, rl, (Wd2.map wv).drop k, stack (Wd2.drop k), rfl, hr2, by simp; omega, by rw [← e4]; rfl, ?_⟩)
      obtain ⟨j1, j2⟩ := hst _ rfl
      refine ne_op j1 j2 (stack_shaped Tk) (stack_shaped Tk) (truthy_op (a := .bool _) (b := false) (by rw [eqv_self (stack_shaped Tk)]; rfl) trivial ?_)
      exact AT_or_nil (AX_nil (AX_nil ⟨ag2.trans (.app _), by rw [List.length_append]; omega, by rfl, by rfl, by rfl, by rfl⟩))
    · refine nes_op (truthy_op (a := .bool _) (b := false) (by simp [truthOf]) trivial ?_)
      refine AT_or (AT_and (AT_Compare1 (AW_local (by rfl) (AW_none (is_none_op (b := false) rfl (truthy_op (b := false) rfl trivial ?_))))))
      refine AT_or (AT_Compare1 (B.tokens P' (by rfl) (AW_slice (AW_local (by rfl) ?_))))
      show AW W _ _ _ _ _ _
      refine AW_neg (AW_int ⟨rfl, _, rfl, rl, (Wd2.map wv).drop k, stack (Wd2.drop k), rfl, hr2, by simp; omega, by rw [← e4]; rfl, ?_⟩)
      obtain ⟨j1, j2⟩ := hst _ rfl
      refine ne_op j1 j2 (stack_shaped Tk) (stack_shaped Tk) (truthy_op (a := .bool _) (b := false) (by rw [eqv_self (stack_shaped Tk)]; rfl) trivial ?_)
      exact AT_or_nil (AX_nil (AX_nil ⟨ag2.trans (.app _), by rw [List.length_append]; omega, by rfl, by rfl, by rfl, by rfl⟩))
  refine AX_cons (AS_Unpack (ts := [("told", _), ("said", _)]) (hl := by simp; decide) rfl (B.call (f := 258) (by kernel_rfl) (by kernel_rfl) (AWs_cons (AW_local (by rfl) (AWs_cons (AW_local (by rfl) (AWs_nil (read_con B P T ?_))))))))
  rcases hrd with ⟨rfl, hq⟩ | ⟨S, rfl, hq⟩
  · rw [hq]
    intro a e2 st
    refine ⟨_, rfl, rfl, meet a .none e2 (.inl ⟨rfl, rfl, st _ fun i o ho => ?_⟩)⟩
    have : S₁.length = (after (σ.length + 5) Wd2 k S₁).length := (after_length _ _ _ _).symm
    rw [this, List.getElem?_append_right (by omega), Nat.add_sub_cancel_left]; exact ho
  · rw [hq]
    intro e2
    exact ⟨_, rfl, rfl, meet .none (.str S) e2 (.inr ⟨S, rfl, rfl⟩)⟩
end Mine

open PySem PySem.W PySem.Calls PySem.NumText PyProof.Rows
set_option Elab.async false
set_option linter.all false
set_option maxRecDepth 100000
set_option maxHeartbeats 2000000
namespace Mine
variable {W : Wd} {mg mb : Str → Option Value} {σ : List AO} {Q : AV → List AO → Prop} {E : Str → List AO → Prop} {n : Nat} {hd : Bool} {X : Fx}
theorem take_item (l : List AV) (i : Nat) : slicedOf l none (some (i : Int)) none = some (l.take i) := by
  show (if 0 ≤ (i : Int) then some (l.take (i : Int).toNat) else none) = _
  rw [if_pos (by omega)]; rfl
theorem drop_item (l : List AV) (i : Nat) : slicedOf l (some (i : Int)) none none = some (l.drop i) := by
  show (if 0 ≤ (i : Int) then some (l.drop (i : Int).toNat) else none) = _
  rw [if_pos (by omega)]; rfl
theorem read_turn (B : Base W mg mb) {r fl ml sl draw stop s0 s1 s2 : Nat} {F : List MW} {ws : List Wrd} {d0 d1 d2 dr : AV} {D0 D1 D2 Dr : PyData} {R : AV → List AO → Prop}
    (D : Rdy σ fl ml sl F ws draw d0 d1 d2 D0 D1 D2) (hr : r < 3) (hd : itemAt [d0, d1, d2] (r : Int) = some dr) (hfix : Fix [] σ dr Dr) (hsh : SeqAt.shaped Dr = true) (hst : itemAt [.int (s0 : Int), .int (s1 : Int), .int (s2 : Int)] (r : Int) = some (.int (stop : Int)))
    (T : ∀ w ∈ ws, Tame w) (hz : ws.length ≤ 900) (hF : F.length ≤ 900) (hsp : 0 < (spotsOf F F.length).length)
    (hread : ∀ (mode sp : Nat) (w : Wrd) (m : Nat) (f : Wrd), F[sp]? = some (w, some m) → f ∈ l2foreign → readA r (edit mode sp f ws) = if (mode = 1 ∨ mode = 2) ∧ sp < stop then .no (sentence2 m (decide (mode = 2)) f) (if gone m mode f then sp + 1 else sp) else .ok Dr stop) :
    AX W (lawY (n + 11)) forB11 [("flat", .loc fl), ("spots", .loc sl), ("stops", stopsV s0 s1 s2), ("dues", .tup [d0, d1, d2]), ("reader", .int (r : Int))] σ
      (fun ρ τ => Agree [] σ τ ∧ σ.length ≤ τ.length ∧ ρ.lookup ("flat" : Str) = some (.loc fl) ∧ ρ.lookup ("spots" : Str) = some (.loc sl) ∧ ρ.lookup ("stops" : Str) = some (stopsV s0 s1 s2) ∧ ρ.lookup ("dues" : Str) = some (.tup [d0, d1, d2])) R NoE := by
  have fmb : (F.map fm).length ≤ 1000000 := by rw [List.length_map]; omega
  have wsb : (ws.map wv).length ≤ 1000000 := by rw [List.length_map]; omega
  have spl : (spotsOf F F.length).length ≤ 1000000 := by
    have := List.length_filter_le (isMk F) (List.range F.length)
    rw [List.length_range] at this
    show ((List.range F.length).filter (isMk F)).length ≤ _
    omega
  refine AX_cons (AS_Assign (AW_BinOp (AW_BinOp (AW_cell (k := 1) (by rfl) D.c1 (AW_local (by rfl) (addn_op (k := r) rfl (AW_int (modn_op (k := 3) rfl (by decide) ?_))))))))
  obtain ⟨mode, hmode⟩ : ∃ m, m = (draw + r) % 3 := ⟨_, rfl⟩
  rw [← hmode]
  have hm3 : mode < 3 := by rw [hmode]; exact Nat.mod_lt _ (by decide)
  have e7 : (7 : Int) * (r : Int) = ((7 * r : Nat) : Int) := by omega
  have hidx : (draw / 3 + 7 * r) % (spotsOf F F.length).length < (spotsOf F F.length).length := Nat.mod_lt _ hsp
  refine AX_cons (AS_Assign (AW_Subscript (AW_local (by rfl) (AW_BinOp (AW_BinOp (AW_BinOp (AW_cell (k := 1) (by rfl) D.c1 (AW_int (divn_op (k := 3) rfl (by decide) (by decide) (AW_BinOp (AW_int (AW_local (by rfl) (mul_int_op (by omega) (addn_op (k := 7 * r) e7 ?_))))))))))))))
  refine AW_Call (B.bname (v := .builtin "len") (by kernel_rfl) (by kernel_rfl) (by decide) ⟨_, rfl, .inl ⟨_, rfl⟩, AWs_cons (AW_local (by rfl) (AWs_nil (len_con D.spots (by rw [numsV_len]; exact spl) (modn_op (k := (spotsOf F F.length).length) (by rw [numsV_len]) (by omega) (list_item_op D.spots (numsV_item hidx) (by rw [numsV_len]; exact spl) ?_)))))⟩)
  have hspm : (spotsOf F F.length).getD ((draw / 3 + 7 * r) % (spotsOf F F.length).length) 0 ∈ spotsOf F F.length := getD_mem hidx
  generalize (spotsOf F F.length).getD ((draw / 3 + 7 * r) % (spotsOf F F.length).length) 0 = sp at hspm ⊢
  obtain ⟨w, m, hFs⟩ := spot_mem hspm
  refine AX_cons (AS_Assign (AW_Subscript (B.tupn (v := .ref 223) (a := .tup (l2foreign.map wv)) (by kernel_rfl) (by kernel_rfl) (AW_BinOp (AW_BinOp (AW_BinOp (AW_cell (k := 1) (by rfl) D.c1 (AW_int (divn_op (k := 5) rfl (by decide) (by decide) (AW_local (by rfl) (addn_op (k := r) rfl (AW_int (modn_op (k := 5) rfl (by decide) (tup_item_op (words_item (l := l2foreign) (Nat.mod_lt _ (by decide))) (by decide) ?_))))))))))))))
  have hf : l2foreign.getD ((draw / 5 + r) % 5) default ∈ l2foreign := getD_mem (Nat.mod_lt _ (by decide))
  generalize l2foreign.getD ((draw / 5 + r) % 5) default = f at hf ⊢
  have tf := foreign_tame f hf
  have hrd := hread mode sp w m f hFs hf
  -- the words as edited
  have fin : ∀ (ext : List AO) (wl : Nat), (σ ++ ext)[wl]? = some (.lst ((edit mode sp f ws).map wv)) →
      AX W (lawY (n + 11)) (forB11.drop 6) [("flat", .loc fl), ("spots", .loc sl), ("stops", stopsV s0 s1 s2), ("dues", .tup [d0, d1, d2]), ("reader", .int (r : Int)), ("mode", .int (mode : Int)), ("spot", .int (sp : Int)), ("foreign", wv f), ("words", .loc wl)] (σ ++ ext)
      (fun ρ τ => Agree [] σ τ ∧ σ.length ≤ τ.length ∧ ρ.lookup ("flat" : Str) = some (.loc fl) ∧ ρ.lookup ("spots" : Str) = some (.loc sl) ∧ ρ.lookup ("stops" : Str) = some (stopsV s0 s1 s2) ∧ ρ.lookup ("dues" : Str) = some (.tup [d0, d1, d2])) R NoE := by
    intro ext wl hw
    have hel := edit_len (ws := ws) (mode := mode) (sp := sp) (f := f)
    have Te := edit_tame T (mode := mode) (sp := sp) hf
    generalize edit mode sp f ws = V at hw hrd hel Te ⊢
    have Vb : (V.map wv).length ≤ 1000000 := by rw [List.length_map]; omega
    have last : ∀ (e : List AO) (rl k : Nat) (sent : AV), (σ ++ e)[wl]? = some (.lst (V.map wv)) → (σ ++ e)[rl]? = some (.lst ((V.map wv).drop k)) → ((sent = .none ∧ readA r V = .ok Dr k) ∨ ∃ S, sent = .str S ∧ readA r V = .no S k) →
        AX W (lawY (n + 11)) (forB11.drop 9) [("flat", .loc fl), ("spots", .loc sl), ("stops", stopsV s0 s1 s2), ("dues", .tup [d0, d1, d2]), ("reader", .int (r : Int)), ("words", .loc wl), ("sentence", sent), ("rest", .loc rl)] (σ ++ e)
        (fun ρ τ => Agree [] σ τ ∧ σ.length ≤ τ.length ∧ ρ.lookup ("flat" : Str) = some (.loc fl) ∧ ρ.lookup ("spots" : Str) = some (.loc sl) ∧ ρ.lookup ("stops" : Str) = some (stopsV s0 s1 s2) ∧ ρ.lookup ("dues" : Str) = some (.tup [d0, d1, d2])) R NoE := fun e rl k sent h1 h2 h3 =>
      read_end B (Agree.app e) hr hd hfix hsh Te (by omega) h1 h2 (by simp) h3
    refine AX_cons (AS_Assign (AW_none ?_))
    refine AX_cons (AS_Assign (AW_slice (AW_local (by rfl) ?_)))
    show AW W _ _ _ _ _ _
    refine AW_Subscript (AW_local (by rfl) (AW_local (by rfl) (tup_item_op hst (by simp) ⟨_, rfl, wl, V.map wv, (V.map wv).drop stop, rfl, hw, Vb, drop_item _ _, ?_⟩)))
    have hw2 : (σ ++ ext ++ [AO.lst ((V.map wv).drop stop)])[wl]? = some (.lst (V.map wv)) := app_get hw
    have hr2 := last_get (σ ++ ext) (AO.lst ((V.map wv).drop stop))
    have hm2 : (σ ++ ext ++ [AO.lst ((V.map wv).drop stop)])[ml]? = some (.lst (F.map fm)) := app_get (app_get D.marks)
    have hc2 : (σ ++ ext ++ [AO.lst ((V.map wv).drop stop)])[0]? = some (.cell (some (.loc ml))) := app_get (app_get D.c0)
    have e1 : σ ++ ext ++ [AO.lst ((V.map wv).drop stop)] = σ ++ (ext ++ [AO.lst ((V.map wv).drop stop)]) := List.append_assoc _ _ _
    generalize (σ ++ ext).length = rl at hr2 ⊢
    rw [e1] at hw2 hr2 hm2 hc2 ⊢
    generalize ext ++ [AO.lst ((V.map wv).drop stop)] = e at hw2 hr2 hm2 hc2 ⊢
    -- no fault ahead
    have good : ¬ ((mode = 1 ∨ mode = 2) ∧ sp < stop) → AX W (lawY (n + 11)) (forB11.drop 9) [("flat", .loc fl), ("spots", .loc sl), ("stops", stopsV s0 s1 s2), ("dues", .tup [d0, d1, d2]), ("reader", .int (r : Int)), ("mode", .int (mode : Int)), ("spot", .int (sp : Int)), ("foreign", wv f), ("words", .loc wl), ("sentence", .none), ("rest", .loc rl)] (σ ++ e)
        (fun ρ τ => Agree [] σ τ ∧ σ.length ≤ τ.length ∧ ρ.lookup ("flat" : Str) = some (.loc fl) ∧ ρ.lookup ("spots" : Str) = some (.loc sl) ∧ ρ.lookup ("stops" : Str) = some (stopsV s0 s1 s2) ∧ ρ.lookup ("dues" : Str) = some (.tup [d0, d1, d2])) R NoE := fun hno => by
      rw [if_neg hno] at hrd
      refine AX_sub (ρ' := [("flat", .loc fl), ("spots", .loc sl), ("stops", stopsV s0 s1 s2), ("dues", .tup [d0, d1, d2]), ("reader", .int (r : Int)), ("words", .loc wl), ("sentence", .none), ("rest", .loc rl)]) (sub_cons (by rfl) (sub_cons (by rfl) (sub_cons (by rfl) (sub_cons (by rfl) (sub_cons (by rfl) (sub_cons (by rfl) (sub_cons (by rfl) (sub_cons (by rfl) sub_nil)))))))) ?_
      exact last e rl stop .none hw2 hr2 (.inl ⟨rfl, hrd⟩)
    refine AX_cons (AS_If (AT_and (AT_Compare1 (AW_local (by rfl) (AW_int (nen_op (k := 0) rfl (truthy_op (a := .bool _) (b := !decide (mode = 0)) rfl trivial ?_)))))))
    by_cases m0 : mode = 0
    · rw [decide_eq_true m0]
      exact AX_nil (good (by omega))
    rw [decide_eq_false m0]
    refine AT_and (AT_Compare1 (AW_local (by rfl) (AW_Subscript (AW_local (by rfl) (AW_local (by rfl) (tup_item_op hst (by simp) (ltn_op (truthy_op (a := .bool _) (b := decide (sp < stop)) rfl trivial ?_))))))))
    by_cases hlt : sp < stop
    · rw [decide_eq_true hlt]
      rw [if_pos ⟨by omega, hlt⟩] at hrd
      refine AT_and_nil ?_
      have hitem : itemAt (F.map fm) (sp : Int) = some (.int (m : Int)) := item_nat (by rw [List.getElem?_map, hFs]; rfl)
      refine AX_cons (AS_Assign (B.call (f := 251) (by kernel_rfl) (by kernel_rfl) (AWs_cons (AW_Subscript (AW_cell (k := 0) (by rfl) hc2 (AW_local (by rfl) (list_item_op hm2 hitem fmb (AWs_cons (AW_Compare1 (AW_local (by rfl) (AW_int (eqn_op (k := 2) rfl (AWs_cons (AW_local (by rfl) (AWs_nil (sentence_con B tf ?_))))))))))))))))
      have rest : AX W (lawY (n + 11)) (match forB11.getD 8 default with | .If _ b _ _ => b.drop 2 | _ => []) [("flat", .loc fl), ("spots", .loc sl), ("stops", stopsV s0 s1 s2), ("dues", .tup [d0, d1, d2]), ("reader", .int (r : Int)), ("mode", .int (mode : Int)), ("spot", .int (sp : Int)), ("foreign", wv f), ("words", .loc wl), ("sentence", .str (sentence2 m (decide (mode = 2)) f)), ("rest", .loc rl), ("gone", .bool (gone m mode f))] (σ ++ e) (fun ρ₁ σ₁ => AX W (lawY (n + 11)) (forB11.drop 9) ρ₁ σ₁
          (fun ρ τ => Agree [] σ τ ∧ σ.length ≤ τ.length ∧ ρ.lookup ("flat" : Str) = some (.loc fl) ∧ ρ.lookup ("spots" : Str) = some (.loc sl) ∧ ρ.lookup ("stops" : Str) = some (stopsV s0 s1 s2) ∧ ρ.lookup ("dues" : Str) = some (.tup [d0, d1, d2])) R NoE) R NoE := by
        have go : ∀ k, k = (if gone m mode f then sp + 1 else sp) → AX W (lawY (n + 11)) (forB11.drop 9) [("flat", .loc fl), ("spots", .loc sl), ("stops", stopsV s0 s1 s2), ("dues", .tup [d0, d1, d2]), ("reader", .int (r : Int)), ("mode", .int (mode : Int)), ("spot", .int (sp : Int)), ("foreign", wv f), ("words", .loc wl), ("sentence", .str (sentence2 m (decide (mode = 2)) f)), ("rest", .loc (σ ++ e).length), ("gone", .bool (gone m mode f))] (σ ++ e ++ [AO.lst ((V.map wv).drop k)])
          (fun ρ τ => Agree [] σ τ ∧ σ.length ≤ τ.length ∧ ρ.lookup ("flat" : Str) = some (.loc fl) ∧ ρ.lookup ("spots" : Str) = some (.loc sl) ∧ ρ.lookup ("stops" : Str) = some (stopsV s0 s1 s2) ∧ ρ.lookup ("dues" : Str) = some (.tup [d0, d1, d2])) R NoE := fun k hk => by
          rw [← hk] at hrd
          refine AX_sub (ρ' := [("flat", .loc fl), ("spots", .loc sl), ("stops", stopsV s0 s1 s2), ("dues", .tup [d0, d1, d2]), ("reader", .int (r : Int)), ("words", .loc wl), ("sentence", .str (sentence2 m (decide (mode = 2)) f)), ("rest", .loc (σ ++ e).length)]) (sub_cons (by rfl) (sub_cons (by rfl) (sub_cons (by rfl) (sub_cons (by rfl) (sub_cons (by rfl) (sub_cons (by rfl) (sub_cons (by rfl) (sub_cons (by rfl) sub_nil)))))))) ?_
          have h1 : (σ ++ (e ++ [AO.lst ((V.map wv).drop k)]))[wl]? = some (.lst (V.map wv)) := by rw [← List.append_assoc]; exact app_get hw2
          have h2 : (σ ++ (e ++ [AO.lst ((V.map wv).drop k)]))[(σ ++ e).length]? = some (.lst ((V.map wv).drop k)) := by rw [← List.append_assoc]; exact last_get _ _
          have := last (e ++ [AO.lst ((V.map wv).drop k)]) (σ ++ e).length k (.str (sentence2 m (decide (mode = 2)) f)) h1 h2 (.inr ⟨_, rfl, hrd⟩)
          rw [← List.append_assoc] at this
          exact this
        refine AX_cons (AS_Assign (AW_IfExp (AT_of (AW_local (by rfl) (truthy_op (a := .bool (gone m mode f)) (b := gone m mode f) rfl trivial ?_)))))
        cases hgn : gone m mode f with
        | true =>
          rw [hgn] at go
          refine AW_slice (AW_local (by rfl) ?_)
          show AW W _ _ _ _ _ _
          exact AW_BinOp (AW_local (by rfl) (AW_int (addn_op (k := 1) rfl ⟨_, rfl, wl, V.map wv, (V.map wv).drop (sp + 1), rfl, hw2, Vb, drop_item _ _, AX_nil (go (sp + 1) rfl)⟩)))
        | false =>
          rw [hgn] at go
          refine AW_slice (AW_local (by rfl) ?_)
          show AW W _ _ _ _ _ _
          exact AW_local (by rfl) ⟨_, rfl, wl, V.map wv, (V.map wv).drop sp, rfl, hw2, Vb, drop_item _ _, AX_nil (go sp rfl)⟩
      refine AX_cons (AS_Assign (AW_and (AW_Compare1 (AW_Subscript (AW_cell (k := 0) (by rfl) hc2 (AW_local (by rfl) (list_item_op hm2 hitem fmb (AW_int (eqn_op (k := 0) rfl (truthy_op (a := .bool _) (b := decide (m = 0)) rfl trivial ?_))))))))))
      unfold gone at rest
      cases hm0 : decide (m = 0) with
      | false => rw [hm0] at rest; exact rest
      | true =>
        rw [hm0] at rest
        refine AW_and (AW_Compare1 (AW_local (by rfl) (AW_int (eqn_op (k := 1) rfl (truthy_op (a := .bool _) (b := decide (mode = 1)) rfl trivial ?_)))))
        cases hm1 : decide (mode = 1) with
        | false => rw [hm1] at rest; exact rest
        | true =>
          rw [hm1] at rest
          refine AW_and_one (AW_Compare1 (AW_Subscript (AW_local (by rfl) (AW_int (wv_zero (AW_str (eqs_op ?_)))))))
          exact rest
    · rw [decide_eq_false hlt]
      exact AX_nil (good (by omega))
  refine AX_cons (AS_Assign (AW_local (by rfl) ?_))
  refine AX_cons (AS_If (AT_Compare1 (AW_local (by rfl) (AW_int (eqn_op (k := 1) rfl (truthy_op (a := .bool _) (b := decide (mode = 1)) rfl trivial ?_))))))
  by_cases m1 : mode = 1
  · rw [decide_eq_true m1]
    refine AX_cons (AS_Assign (AW_BinOp (AW_BinOp (AW_slice (AW_local (by rfl) ?_)))))
    show AW W _ _ _ _ _ _
    refine AW_local (by rfl) ⟨_, rfl, fl, ws.map wv, (ws.map wv).take sp, rfl, D.flat, wsb, take_item _ _, ?_⟩
    refine AW_List (AWs_cons (AW_local (by rfl) (AWs_nil ⟨by simp, ?_⟩)))
    refine add_list_op (app_get (last_get _ _)) (last_get _ _) (by simp; omega) (AW_slice (AW_local (by rfl) ?_))
    show AW W _ _ _ _ _ _
    refine AW_BinOp (AW_local (by rfl) (AW_int (addn_op (k := 1) rfl ⟨_, rfl, fl, ws.map wv, (ws.map wv).drop (sp + 1), rfl, app_get (app_get (app_get D.flat)), wsb, drop_item _ _, ?_⟩)))
    refine add_list_op (app_get (last_get _ _)) (last_get _ _) (by simp; omega) (AX_nil ?_)
    refine AX_cons (AS_If (AT_Compare1 (AW_local (by rfl) (AW_int (eqn_op (k := 2) rfl (truthy_op (a := .bool _) (b := decide (mode = 2)) rfl trivial ?_))))))
    rw [decide_eq_false (by omega)]
    refine AX_nil ?_
    have he : (ws.map wv).take sp ++ [wv f] ++ (ws.map wv).drop (sp + 1) = (edit mode sp f ws).map wv := by
      unfold edit
      rw [if_pos m1, List.map_append, List.map_append, List.map_take, List.map_drop]; rfl
    have hlast := last_get (σ ++ [AO.lst ((ws.map wv).take sp)] ++ [AO.lst [wv f]] ++ [AO.lst ((ws.map wv).take sp ++ [wv f])] ++ [AO.lst ((ws.map wv).drop (sp + 1))]) (AO.lst ((ws.map wv).take sp ++ [wv f] ++ (ws.map wv).drop (sp + 1)))
    generalize (σ ++ [AO.lst ((ws.map wv).take sp)] ++ [AO.lst [wv f]] ++ [AO.lst ((ws.map wv).take sp ++ [wv f])] ++ [AO.lst ((ws.map wv).drop (sp + 1))]).length = wl at hlast ⊢
    rw [he] at hlast ⊢
    have ea : σ ++ [AO.lst ((ws.map wv).take sp)] ++ [AO.lst [wv f]] ++ [AO.lst ((ws.map wv).take sp ++ [wv f])] ++ [AO.lst ((ws.map wv).drop (sp + 1))] ++ [AO.lst ((edit mode sp f ws).map wv)] = σ ++ ([AO.lst ((ws.map wv).take sp)] ++ [AO.lst [wv f]] ++ [AO.lst ((ws.map wv).take sp ++ [wv f])] ++ [AO.lst ((ws.map wv).drop (sp + 1))] ++ [AO.lst ((edit mode sp f ws).map wv)]) := by simp
    rw [ea] at hlast ⊢
    exact fin _ wl hlast
  · rw [decide_eq_false m1]
    refine AX_nil (AX_cons (AS_If (AT_Compare1 (AW_local (by rfl) (AW_int (eqn_op (k := 2) rfl (truthy_op (a := .bool _) (b := decide (mode = 2)) rfl trivial ?_)))))))
    by_cases m2 : mode = 2
    · rw [decide_eq_true m2]
      refine AX_cons (AS_Assign (AW_slice (AW_local (by rfl) ?_)))
      show AW W _ _ _ _ _ _
      refine AW_local (by rfl) ⟨_, rfl, fl, ws.map wv, (ws.map wv).take sp, rfl, D.flat, wsb, take_item _ _, AX_nil ?_⟩
      have he : (ws.map wv).take sp = (edit mode sp f ws).map wv := by
        unfold edit
        rw [if_neg m1, if_pos m2, List.map_take]
      rw [he]
      exact fin _ _ (last_get _ _)
    · rw [decide_eq_false m2]
      refine AX_nil ?_
      have he : ws = edit mode sp f ws := by
        unfold edit
        rw [if_neg m1, if_neg m2]
      have := fin [] fl (by rw [List.append_nil, ← he]; exact D.flat)
      rw [List.append_nil] at this
      exact this
end Mine

open PySem PySem.W PySem.Calls PySem.NumText PyProof.Rows
set_option Elab.async false
set_option linter.all false
set_option maxRecDepth 100000
set_option maxHeartbeats 2000000
namespace Mine
variable {W : Wd} {mg mb : Str → Option Value} {σ : List AO} {Q : AV → List AO → Prop} {E : Str → List AO → Prop} {n : Nat} {hd : Bool} {X : Fx}
/- the trees can be compared -/
theorem relM_shape {method : Str} {neg : Bool} {l s : PyData} (hm : PyData.strOk method = true) (h : l.canLay0 = true ∧ l.depth ≤ 6) (g : s.canLay0 = true ∧ s.depth ≤ 6) : (relM method neg l s).canLay0 = true ∧ (relM method neg l s).depth ≤ 10 := by
  have e1 : PyData.strOk (Str.ofString "not") = true := okl "not"
  have e2 : PyData.strOk (Str.ofString "relation") = true := okl "relation"
  cases neg <;> simp only [relM, PyData.canLay0, PyData.canLayAll0, PyData.depth, PyData.depthAll, h.1, g.1, e1, e2, hm, Bool.and_self, true_and, if_true, if_false, Bool.false_eq_true] <;> omega
theorem pc_shape (p : Pc) : (pcD p).canLay0 = true ∧ (pcD p).depth ≤ 10 := by
  have hl := fl_headL p.1
  unfold pcD pieceD
  split
  · have hv := fl_valN (p.2 / 8 % 100)
    have e1 : PyData.strOk (if p.2 % 8 = 0 then Str.ofString "is" else Str.ofString "isnot") = true := by
      split
      · exact okl "is"
      · exact okl "isnot"
    simp only [PyData.canLay0, PyData.canLayAll0, PyData.depth, PyData.depthAll, hl.lay, hv.lay, e1, Bool.and_self, true_and]
    have := hl.dep
    have := hv.dep
    omega
  · refine relM_shape ?_ ⟨hl.lay, Nat.le_trans hl.dep (by decide)⟩ (shaped_list (fl_rangesP _ _))
    split
    · exact okl "within"
    · exact okl "in"
theorem fold_shape {word : Str} {k : Nat} (hw : PyData.strOk word = true) : ∀ {as : List PyData} {a : PyData} {c : Nat}, k ≤ c → (a.canLay0 = true ∧ a.depth ≤ c) → (∀ x ∈ as, x.canLay0 = true ∧ x.depth ≤ k) → (foldD word a as).canLay0 = true ∧ (foldD word a as).depth ≤ c + 2 * as.length
  | [], a, c, _, h, _ => by simpa [foldD] using h
  | x :: as, a, c, hk, h, hx => by
    have h1 := hx x (.head _)
    have h2 : (PyData.tuple [.str word, .tuple [a, x]]).canLay0 = true ∧ (PyData.tuple [.str word, .tuple [a, x]]).depth ≤ c + 2 := by
      simp only [PyData.canLay0, PyData.canLayAll0, PyData.depth, PyData.depthAll, h.1, h1.1, hw, Bool.and_self, true_and]
      omega
    have := fold_shape (as := as) hw (by omega : k ≤ c + 2) h2 fun y hy => hx y (.tail _ hy)
    show (foldD word (.tuple [.str word, .tuple [a, x]]) as).canLay0 = true ∧ (foldD word (.tuple [.str word, .tuple [a, x]]) as).depth ≤ _
    refine ⟨this.1, ?_⟩
    rw [List.length_cons]; omega
theorem group_shape {g : List Pc} (h : g ≠ []) (hl : g.length ≤ 8) : (groupD g).canLay0 = true ∧ (groupD g).depth ≤ 26 := by
  cases g with
  | nil => exact absurd rfl h
  | cons p ps =>
    have := fold_shape (word := "and") (as := ps.map pcD) (okl "and") (Nat.le_refl 10) (pc_shape p) fun x hx => by obtain ⟨q, _, rfl⟩ := List.mem_map.mp hx; exact pc_shape q
    refine ⟨this.1, Nat.le_trans this.2 ?_⟩
    rw [List.length_map]
    simp at hl; omega
theorem flat_shape {g : List Pc} {gs : List (List Pc)} (h : ∀ x ∈ g :: gs, x ≠ []) (hl : (g :: gs).flatten.length ≤ 8) : (flatD (g :: gs)).canLay0 = true ∧ (flatD (g :: gs)).depth ≤ 42 := by
  have hln : ∀ x ∈ g :: gs, x.length ≤ 8 := fun x hx => by
    obtain ⟨A, C, hAC⟩ := List.append_of_mem hx
    rw [hAC, List.flatten_append, List.flatten_cons, List.length_append, List.length_append] at hl
    omega
  have hgl := flatten_ge h
  have := fold_shape (word := "or") (as := gs.map groupD) (okl "or") (Nat.le_refl 26) (group_shape (h g (.head _)) (hln g (.head _))) fun x hx => by obtain ⟨q, hq, rfl⟩ := List.mem_map.mp hx; exact group_shape (h q (.tail _ hq)) (hln q (.tail _ hq))
  refine ⟨this.1, Nat.le_trans this.2 ?_⟩
  rw [List.length_map]
  rw [List.length_cons] at hgl
  omega
/- the words are tame -/
theorem tame_digits {x : Str} (h : AllDigits x.cps.toList) (hl : x.length ≤ 41) (hne : x.cps.toList ≠ []) : Tame ("value", x) := by
  refine ⟨?_, tok_digits h, hl, fun q => ?_, fun _ => ?_⟩
  · show ("value" : Str) ∈ lawKinds
    decide +kernel
  · have e2 : x.length = x.cps.toList.length := (Array.length_toList).symm
    rw [show (("value", x) : Wrd).2 = x from rfl, e2] at q
    exact hne (List.length_eq_zero_iff.mp q)
  · show (PySem.intText? x).isSome = true
    rw [intText_digits h hne (by omega)]; rfl
theorem tame_zeroed (b : Bool) {a : Nat} (h : a < 10 ^ 40) : Tame ("value", zeroed b a) := tame_digits (zeroed_all b a) (zeroed_len b h) (by rw [zeroed_list]; exact fun q => digits_ne a (List.append_eq_nil_iff.mp q).2)
theorem tame_dig {a : Nat} (h : a < 10 ^ 40) : Tame ("value", digits a) := tame_digits (digits_all a) (Nat.le_trans (digits_len (k := 40) (by decide) h) (by decide)) (digits_ne a)
theorem tame_point (i : Nat) (h : i < 3) : Tame ("ellipsis", lawPoints.getD i default) := tame_all (f := fun x => ("ellipsis", x)) (l := lawPoints) (by kernel_rfl) _ (getD_mem h)
theorem piece_tame (p : Pc) : ∀ x ∈ pcM p, Tame (fx x) := by
  have tw : ∀ way, way < 8 → ((wayW way).all fun x => tameB (fx x)) = true := fun way h => by
    rcases (show way = 0 ∨ way = 1 ∨ way = 2 ∨ way = 3 ∨ way = 4 ∨ way = 5 ∨ way = 6 ∨ way = 7 by omega) with rfl | rfl | rfl | rfl | rfl | rfl | rfl | rfl <;> kernel_rfl
  have tc : Tame ("symbol", ",") := tame_of (by kernel_rfl)
  have tr : ∀ k e, ∀ x ∈ rangeW k e, Tame (fx x) := fun k e x hx => by
    unfold rangeW at hx
    rcases List.mem_append.mp hx with h | h
    · split at h
      · cases h
      · rw [List.mem_singleton.mp h]; exact tc
    · rcases List.mem_cons.mp h with rfl | h
      · exact tame_zeroed _ (lt40 (Nat.lt_trans (Nat.mod_lt _ (by decide)) (by decide)))
      · split at h
        · cases h
        · rcases List.mem_cons.mp h with rfl | h
          · exact tame_point _ (Nat.mod_lt _ (by decide))
          · rw [List.mem_singleton.mp h]; exact tame_dig (lt40 (by omega))
  intro x hx
  unfold pcM piece at hx
  rcases List.mem_append.mp hx with h | h
  · rcases List.mem_append.mp h with h | h
    · unfold headW at h
      rcases List.mem_cons.mp h with rfl | h
      · exact letter2_tame _
      · split at h
        · cases h
        · rcases List.mem_cons.mp h with rfl | h
          · show Tame (if _ then _ else _)
            split
            · exact tame_of (by kernel_rfl)
            · exact tame_of (by kernel_rfl)
          · rw [List.mem_singleton.mp h]
            exact tame_zeroed _ (lt40 (Nat.lt_trans (Nat.mod_lt _ (by decide)) (by decide)))
    · exact tame_of (List.all_eq_true.mp (tw _ (Nat.mod_lt _ (by decide))) x h)
  · split at h
    · rw [List.mem_singleton.mp h]; exact tame_dig (lt40 (Nat.lt_trans (Nat.mod_lt _ (by decide)) (by decide)))
    · unfold rangesW at h
      obtain ⟨k, _, hk⟩ := List.mem_flatMap.mp h
      exact tr _ _ x hk
theorem tail_tame {α : Type} {j : Wrd} (hj : Tame j) {T : List (List MW × α)} (h : ∀ p ∈ T, ∀ x ∈ p.1, Tame (fx x)) : ∀ x ∈ tailM j T, Tame (fx x) := fun x hx => by
  unfold tailM at hx
  obtain ⟨p, hp, hx⟩ := List.mem_flatMap.mp hx
  rcases List.mem_cons.mp hx with rfl | hx
  · exact hj
  · exact h p hp x hx
theorem group_tame (g : List Pc) : ∀ x ∈ groupM g, Tame (fx x) := by
  cases g with
  | nil => intro x hx; cases hx
  | cons p ps =>
    intro x hx
    rcases List.mem_append.mp (show x ∈ pcM p ++ tailM ("word", "and") (ps.map fun p => (pcM p, pcD p)) from hx) with h | h
    · exact piece_tame p x h
    · refine tail_tame (tame_of (by kernel_rfl)) (fun q hq => ?_) x h
      obtain ⟨q, _, rfl⟩ := List.mem_map.mp hq
      exact piece_tame q
theorem flat_tame (gs : List (List Pc)) : ∀ x ∈ flatG gs, Tame (fx x) := by
  cases gs with
  | nil => intro x hx; cases hx
  | cons g gs =>
    intro x hx
    rcases List.mem_append.mp (show x ∈ groupM g ++ tailM ("word", "or") (gs.map fun g => (groupM g, groupD g)) from hx) with h | h
    · exact group_tame g x h
    · refine tail_tame (tame_of (by kernel_rfl)) (fun q hq => ?_) x h
      obtain ⟨q, _, rfl⟩ := List.mem_map.mp hq
      exact group_tame q
/- what each reader finds -/
theorem joint_or (rest : List Wrd) : okAnd ((("word", "or") : Wrd) :: rest) := ⟨⟨by unfold okSpan; kernel_rfl, by kernel_rfl⟩, by kernel_rfl⟩
theorem joint_and (rest : List Wrd) : okRel ((("word", "and") : Wrd) :: rest) := ⟨by unfold okSpan; kernel_rfl, by kernel_rfl⟩
theorem tail_head {α : Type} (j : Wrd) (T : List (List MW × α)) : tailM j T = [] ∨ ∃ A', tailM j T = (j, none) :: A' := by
  cases T with
  | nil => exact .inl rfl
  | cons p T => exact .inr ⟨_, tailM_cons _ _ _⟩
theorem read0 (p0 : Pc) (ps0 : List Pc) (gs : List (List Pc)) {behind : List Wrd} (hb : okCond behind) (mode sp : Nat) (w : Wrd) (m : Nat) (f : Wrd) (hs : (flatG ((p0 :: ps0) :: gs))[sp]? = some (w, some m)) (hf : f ∈ l2foreign) :
    readA 0 (edit mode sp f ((flatG ((p0 :: ps0) :: gs)).map fx ++ behind)) = if (mode = 1 ∨ mode = 2) ∧ sp < (pcM p0).length then .no (sentence2 m (decide (mode = 2)) f) (if gone m mode f then sp + 1 else sp) else .ok (pcD p0) (pcM p0).length := by
  have e : flatG ((p0 :: ps0) :: gs) = pcM p0 ++ (tailM ("word", "and") (ps0.map fun p => (pcM p, pcD p)) ++ tailM ("word", "or") (gs.map fun g => (groupM g, groupD g))) := List.append_assoc _ _ _
  rw [e] at hs ⊢
  refine edit_seg (rd := relA) (seg_piece p0.1 p0.2) ?_ (fun _ => hb.1.1) hs hf
  rcases tail_head (("word", "and") : Wrd) (ps0.map fun p => (pcM p, pcD p)) with h | ⟨A', h⟩
  · rw [h, List.nil_append]
    rcases tail_head (("word", "or") : Wrd) (gs.map fun g => (groupM g, groupD g)) with h | ⟨A', h⟩
    · exact .inl h
    · exact .inr ⟨_, A', h, fun r => (joint_or r).1⟩
  · rw [h]
    exact .inr ⟨_, _, rfl, joint_and⟩
theorem read1 (p0 : Pc) (ps0 : List Pc) (gs : List (List Pc)) {behind : List Wrd} (hb : okCond behind) (mode sp : Nat) (w : Wrd) (m : Nat) (f : Wrd) (hs : (flatG ((p0 :: ps0) :: gs))[sp]? = some (w, some m)) (hf : f ∈ l2foreign) :
    readA 1 (edit mode sp f ((flatG ((p0 :: ps0) :: gs)).map fx ++ behind)) = if (mode = 1 ∨ mode = 2) ∧ sp < (groupM (p0 :: ps0)).length then .no (sentence2 m (decide (mode = 2)) f) (if gone m mode f then sp + 1 else sp) else .ok (groupD (p0 :: ps0)) (groupM (p0 :: ps0)).length := by
  have e : flatG ((p0 :: ps0) :: gs) = groupM (p0 :: ps0) ++ tailM ("word", "or") (gs.map fun g => (groupM g, groupD g)) := rfl
  rw [e] at hs ⊢
  refine edit_seg (rd := andA) (seg_group p0 ps0) ?_ (fun _ => hb.1) hs hf
  rcases tail_head (("word", "or") : Wrd) (gs.map fun g => (groupM g, groupD g)) with h | ⟨A', h⟩
  · exact .inl h
  · exact .inr ⟨_, A', h, joint_or⟩
theorem read2 (p0 : Pc) (ps0 : List Pc) (gs : List (List Pc)) (hg : ∀ x ∈ (p0 :: ps0) :: gs, x ≠ []) {behind : List Wrd} (hb : okCond behind) (mode sp : Nat) (w : Wrd) (m : Nat) (f : Wrd) (hs : (flatG ((p0 :: ps0) :: gs))[sp]? = some (w, some m)) (hf : f ∈ l2foreign) :
    readA 2 (edit mode sp f ((flatG ((p0 :: ps0) :: gs)).map fx ++ behind)) = if (mode = 1 ∨ mode = 2) ∧ sp < (flatG ((p0 :: ps0) :: gs)).length then .no (sentence2 m (decide (mode = 2)) f) (if gone m mode f then sp + 1 else sp) else .ok (flatD ((p0 :: ps0) :: gs)) (flatG ((p0 :: ps0) :: gs)).length := by
  have := edit_seg (rd := condA) (A := []) (behind := behind) (spot := sp) (m := m) (mode := mode) (w := w) (f := f) (seg_flat (p0 :: ps0) gs hg) (.inl rfl) (fun _ => hb) (by rw [List.append_nil]; exact hs) hf
  rw [List.append_nil] at this
  exact this
end Mine

open PySem PySem.W PySem.Calls PySem.NumText PyProof.Rows
set_option Elab.async false
set_option linter.all false
set_option maxRecDepth 100000
set_option maxHeartbeats 2000000
namespace Mine
variable {W : Wd} {mg mb : Str → Option Value} {σ : List AO} {Q : AV → List AO → Prop} {E : Str → List AO → Prop} {n : Nat} {hd : Bool} {X : Fx}
theorem Rdy.step {fl ml sl draw : Nat} {F : List MW} {ws : List Wrd} {d0 d1 d2 : AV} {D0 D1 D2 : PyData} {τ : List AO} (D : Rdy σ fl ml sl F ws draw d0 d1 d2 D0 D1 D2) (h : Agree [] σ τ) : Rdy τ fl ml sl F ws draw d0 d1 d2 D0 D1 D2 :=
  ⟨h _ _ (by simp) D.c0, h _ _ (by simp) D.c1, h _ _ (by simp) D.flat, h _ _ (by simp) D.marks, h _ _ (by simp) D.spots, D.f0.step h, D.f1.step h, D.f2.step h⟩
theorem AX_post {ρ : List (Str × AV)} {ss : List Stmt} {N N' : List (Str × AV) → List AO → Prop} {R : AV → List AO → Prop} (h : AX W X ss ρ σ N R E) (k : ∀ ρ τ, N ρ τ → N' ρ τ) : AX W X ss ρ σ N' R E := by
  intro A env L l ι s at_ en I F EE hE hT
  refine wpAny_mono (h A env L l ι s at_ en I F EE hE hT) (fun f s' g => ?_) fun _ _ x => x
  cases f with
  | next => obtain ⟨ρ', σ', ι', q, r⟩ := g; exact ⟨ρ', σ', ι', k _ _ q, r⟩
  | ret v => exact g
  | brk => exact g
  | cont => exact g
theorem law2_tail (B : Base W mg mb) {fl ml sl draw k : Nat} {F : List MW} {ws : List Wrd} {d0 d1 d2 : AV} {D0 D1 D2 : PyData} {sa : AV} {s0 s2 : Nat} (D : Rdy σ fl ml sl F ws draw d0 d1 d2 D0 D1 D2) (T : ∀ w ∈ ws, Tame w) (hz : ws.length ≤ 900)
    (hsh : SeqAt.shaped D1 = true) (hand : andA ws = .ok D1 k) (q : ∀ τ, Q (.bool true) τ) :
    AX W (lawY (n + 11)) ((fst 24).body.drop 12) [("flat", .loc fl), ("spots", sa), ("stops", stopsV s0 k s2), ("dues", .tup [d0, d1, d2])] σ (fun _ _ => False) Q NoE := by
  refine AX_cons (AS_Assign (AW_Call (B.name (v := .ref 182) (by kernel_rfl) ⟨_, rfl, kps_cls B.X (by kernel_rfl), AWs_cons (AW_str (AWs_nil (ConC.con (parser_con (n := n + 8) B ?_))))⟩)))
  intro ext t0 e1 e2 e3
  refine AX_cons (AS_SetAttr B.X (AW_slice (AW_local (by rfl) ?_)))
  show AW W _ _ _ _ _ _
  refine AW_neg (AW_int ⟨rfl, _, rfl, fl, ws.map wv, stack ws, rfl, app_get D.flat, by rw [List.length_map]; omega, rfl, ?_⟩)
  have hd0 : (σ ++ ext ++ [AO.lst (stack ws)])[σ.length]? = some (.dct [("tokens", t0), ("ast", .none)]) := by
    refine app_get ?_
    rw [List.getElem?_append_right (Nat.le_refl _), Nat.sub_self]; exact e2
  have hj0 : (σ ++ ext ++ [AO.lst (stack ws)])[σ.length + 1]? = some (.inst 182 σ.length) := by
    refine app_get ?_
    rw [List.getElem?_append_right (by omega), Nat.add_sub_cancel_left]; exact e3
  have ht0 := last_get (σ ++ ext) (AO.lst (stack ws))
  have hlen : (σ ++ ext).length = σ.length + 5 := by rw [List.length_append, e1]
  rw [hlen] at ht0 ⊢
  have ag0 : Agree [] σ (σ ++ ext ++ [AO.lst (stack ws)]) := fun i o _ h => app_get (app_get h)
  generalize σ ++ ext ++ [AO.lst (stack ws)] = S at hd0 hj0 ht0 ag0 ⊢
  refine AW_local (by rfl) ⟨σ.length + 1, 182, σ.length, [("tokens", t0), ("ast", .none)], rfl, hj0, hd0, by kernel_rfl, by kernel_rfl, by kernel_rfl, by kernel_rfl, by simp, ?_⟩
  have P : Prs (S.set σ.length (.dct (upd [("tokens", t0), ("ast", .none)] "tokens" (.loc (σ.length + 5))))) (σ.length + 1) (σ.length + 5) ws := by
    refine new_prs ?_ (set_ne hj0 (by omega)) (set_ne ht0 (by omega)) (by omega)
    rw [List.getElem?_set_self (List.getElem?_eq_some_iff.mp hd0).1]; rfl
  have ag1 : Agree [] σ (S.set σ.length (.dct (upd [("tokens", t0), ("ast", .none)] "tokens" (.loc (σ.length + 5))))) := fun i o hi ho => set_ne (ag0 i o hi ho) (by have := (List.getElem?_eq_some_iff.mp ho).1; omega)
  generalize S.set σ.length (.dct (upd [("tokens", t0), ("ast", .none)] "tokens" (.loc (σ.length + 5)))) = S₁ at P ag1 ⊢
  refine AX_cons (AS_Assign (B.meth (f := 137) P (by rfl) (by kernel_rfl) (by kernel_rfl) (by kernel_rfl) (by rfl) (AWs_nil (and_con (n := n + 2) B P T ?_))))
  rw [hand]
  intro a e4 st
  have P' := (P.after k).app e4
  have ag2 : Agree [] σ (after (σ.length + 5) ws k S₁ ++ e4) := fun i o hi ho => app_get (by rw [after_ne (by have := (List.getElem?_eq_some_iff.mp ho).1; omega)]; exact ag1 i o hi ho)
  have i1 : Is (after (σ.length + 5) ws k S₁ ++ e4) a D1 := st _ fun i o ho => by
    have : S₁.length = (after (σ.length + 5) ws k S₁).length := (after_length _ _ _ _).symm
    rw [this, List.getElem?_append_right (by omega), Nat.add_sub_cancel_left]; exact ho
  have D' := D.step ag2
  generalize after (σ.length + 5) ws k S₁ ++ e4 = S₂ at P' i1 D' ⊢
  refine AX_cons (AS_Return (AW_and (AW_Compare1 (AW_local (by rfl) (AW_Subscript (AW_local (by rfl) (AW_int (tup_item_op (a := d1) rfl (by simp) (eq_op i1 (D'.f1 _ fun _ _ _ h => h) hsh hsh (truthy_op (a := .bool _) (b := true) (by rw [eqv_self hsh]; rfl) trivial ?_))))))))))
  refine AW_and_one (AW_Compare1 (B.tokens P' (by rfl) (AW_slice (AW_slice (AW_local (by rfl) ?_)))))
  show AW W _ _ _ _ _ _
  refine AW_Subscript (AW_local (by rfl) (AW_int (tup_item_op (a := .int (k : Int)) rfl (by simp) ⟨_, rfl, fl, ws.map wv, (ws.map wv).drop k, rfl, D'.flat, by rw [List.length_map]; omega, drop_item _ _, ?_⟩)))
  show AW W _ _ _ _ _ _
  have e5 : ((ws.map wv).drop k).reverse = stack (ws.drop k) := by rw [← List.map_drop]; rfl
  refine AW_neg (AW_int ⟨rfl, _, rfl, _, (ws.map wv).drop k, stack (ws.drop k), rfl, last_get _ _, by simp; omega, by rw [← e5]; rfl, ?_⟩)
  have Tk : ∀ w ∈ ws.drop k, Tame w := fun w hw => T w (List.mem_of_mem_drop hw)
  refine eq_op (is_stack (app_get (app_get P'.stk))) (is_stack (last_get _ _)) (stack_shaped Tk) (stack_shaped Tk) ?_
  rw [eqv_self (stack_shaped Tk)]; exact q _
theorem law2_readers (B : Base W mg mb) {fl ml sl draw : Nat} {d0 d1 d2 : AV} {p0 : Pc} {ps0 : List Pc} {gs : List (List Pc)}
    (D : Rdy σ fl ml sl (flatG ((p0 :: ps0) :: gs)) ((flatG ((p0 :: ps0) :: gs)).map fx ++ behindW draw (draw % 4)) draw d0 d1 d2 (pcD p0) (groupD (p0 :: ps0)) (flatD ((p0 :: ps0) :: gs)))
    (hg : ∀ x ∈ (p0 :: ps0) :: gs, x ≠ []) (hc : ((p0 :: ps0) :: gs).flatten.length ≤ 8) (q : ∀ τ, Q (.bool true) τ) :
    AX W (lawY (n + 11)) ((fst 24).body.drop 11) [("flat", .loc fl), ("spots", .loc sl), ("stops", stopsV (pcM p0).length (groupM (p0 :: ps0)).length (flatG ((p0 :: ps0) :: gs)).length), ("dues", .tup [d0, d1, d2])] σ (fun _ _ => False) Q NoE := by
  have hbo := behind_ok draw (draw % 4)
  have hF0 : (flatG ((p0 :: ps0) :: gs))[0]? = some (((("word", letter2 p0.1) : Wrd)), some 0) := rfl
  have hFl : (flatG ((p0 :: ps0) :: gs)).length ≤ 200 := by
    have := flatG_len (gs := (p0 :: ps0) :: gs) (by simp) hg
    have := sumL_le ((p0 :: ps0) :: gs).flatten
    omega
  have hsp : 0 < (spotsOf (flatG ((p0 :: ps0) :: gs)) (flatG ((p0 :: ps0) :: gs)).length).length := by
    refine List.length_pos_of_mem (a := 0) ?_
    unfold spotsOf
    refine List.mem_filter.mpr ⟨List.mem_range.mpr (List.getElem?_eq_some_iff.mp hF0).1, ?_⟩
    unfold isMk
    rw [hF0]; rfl
  have T : ∀ w ∈ (flatG ((p0 :: ps0) :: gs)).map fx ++ behindW draw (draw % 4), Tame w := fun w hw => by
    rcases List.mem_append.mp hw with h | h
    · obtain ⟨x, hx, rfl⟩ := List.mem_map.mp h
      exact flat_tame _ x hx
    · exact behind_tame _ _ w h
  have hd4 : draw % 4 < 4 := Nat.mod_lt _ (by decide)
  have hz : ((flatG ((p0 :: ps0) :: gs)).map fx ++ behindW draw (draw % 4)).length ≤ 900 := by rw [List.length_append, List.length_map, behindW_len]; omega
  have sh0 : SeqAt.shaped (pcD p0) = true := shaped_of (pc_shape p0) (by decide)
  have hgl : (p0 :: ps0).length ≤ 8 := by rw [List.flatten_cons, List.length_append] at hc; omega
  have sh1 : SeqAt.shaped (groupD (p0 :: ps0)) = true := shaped_of (group_shape (by simp) hgl) (by decide)
  have sh2 : SeqAt.shaped (flatD ((p0 :: ps0) :: gs)) = true := shaped_of (flat_shape hg hc) (by decide)
  have r0 := read0 p0 ps0 gs hbo
  have r1 := read1 p0 ps0 gs hbo
  have r2 := read2 p0 ps0 gs hg hbo
  have hand : andA ((flatG ((p0 :: ps0) :: gs)).map fx ++ behindW draw (draw % 4)) = .ok (groupD (p0 :: ps0)) (groupM (p0 :: ps0)).length := by
    have := r1 0 0 _ 0 (("word", "or") : Wrd) hF0 (by unfold l2foreign; simp)
    rw [if_neg (by simp)] at this
    exact this
  generalize hFe : flatG ((p0 :: ps0) :: gs) = F at D hF0 hFl hsp T hz r0 r1 r2 hand ⊢
  generalize F.map fx ++ behindW draw (draw % 4) = ws at D T hz r0 r1 r2 hand ⊢
  refine AX_cons (AS_For ?_)
  refine AW_Call (B.bname (v := .type "range") (by kernel_rfl) (by kernel_rfl) (by decide) ⟨_, rfl, .inr (.inl ⟨_, rfl⟩), AWs_cons (AW_int (AWs_nil (range1_con ?_)))⟩)
  refine ⟨_, _, fun i ρ τ => Agree [] σ τ ∧ σ.length ≤ τ.length ∧ ρ.lookup ("flat" : Str) = some (.loc fl) ∧ ρ.lookup ("spots" : Str) = some (.loc sl) ∧ ρ.lookup ("stops" : Str) = some (stopsV (pcM p0).length (groupM (p0 :: ps0)).length F.length) ∧ ρ.lookup ("dues" : Str) = some (.tup [d0, d1, d2]), range_iter (n := 3) (last_get _ _) rfl (by decide +kernel) (by decide +kernel), ⟨.app _, by simp, by rfl, by rfl, by rfl, by rfl⟩, fun _ _ _ _ => trivial, ?_, ?_⟩
  · rintro i b ρ τ hb ⟨ag, hl, g1, g2, g3, g4⟩
    obtain ⟨hi, rfl⟩ := rangeItems_get hb
    have e : AV.int (0 + (i : Int) * 1) = .int (i : Int) := congrArg AV.int (by clear hb; omega)
    have keep : ∀ {y : Str} {c : AV}, ρ.lookup y = some c → (y == ("reader" : Str)) = false → (upd ρ "reader" (.int (0 + (i : Int) * 1))).lookup y = some c := fun h hne => upd_other h hne
    refine AX_sub (ρ' := [("flat", .loc fl), ("spots", .loc sl), ("stops", stopsV (pcM p0).length (groupM (p0 :: ps0)).length F.length), ("dues", .tup [d0, d1, d2]), ("reader", .int (i : Int))]) (sub_cons (keep g1 (by decide +kernel)) (sub_cons (keep g2 (by decide +kernel)) (sub_cons (keep g3 (by decide +kernel)) (sub_cons (keep g4 (by decide +kernel)) (sub_cons (by rw [upd_same]; exact congrArg some e) sub_nil))))) ?_
    have D' := D.step ag
    have fin : ∀ {dr : AV} {Dr : PyData} {stop : Nat}, itemAt [d0, d1, d2] (i : Int) = some dr → Fix [] τ dr Dr → SeqAt.shaped Dr = true → itemAt [.int ((pcM p0).length : Int), .int ((groupM (p0 :: ps0)).length : Int), .int (F.length : Int)] (i : Int) = some (.int (stop : Int)) →
        (∀ (mode sp : Nat) (w : Wrd) (m : Nat) (f : Wrd), F[sp]? = some (w, some m) → f ∈ l2foreign → readA i (edit mode sp f ws) = if (mode = 1 ∨ mode = 2) ∧ sp < stop then .no (sentence2 m (decide (mode = 2)) f) (if gone m mode f then sp + 1 else sp) else .ok Dr stop) →
        AX W (lawY (n + 11)) forB11 [("flat", .loc fl), ("spots", .loc sl), ("stops", stopsV (pcM p0).length (groupM (p0 :: ps0)).length F.length), ("dues", .tup [d0, d1, d2]), ("reader", .int (i : Int))] τ
        (fun ρ τ => Agree [] σ τ ∧ σ.length ≤ τ.length ∧ ρ.lookup ("flat" : Str) = some (.loc fl) ∧ ρ.lookup ("spots" : Str) = some (.loc sl) ∧ ρ.lookup ("stops" : Str) = some (stopsV (pcM p0).length (groupM (p0 :: ps0)).length F.length) ∧ ρ.lookup ("dues" : Str) = some (.tup [d0, d1, d2])) Q NoE := fun h1 h2 h3 h4 h5 => by
      refine AX_post (read_turn B D' hi h1 h2 h3 h4 T hz (by omega) hsp h5) ?_
      rintro ρ' τ' ⟨a1, a2, a3⟩
      exact ⟨ag.trans a1, Nat.le_trans hl a2, a3⟩
    rcases (show i = 0 ∨ i = 1 ∨ i = 2 by omega) with rfl | rfl | rfl
    · exact fin (dr := d0) (stop := (pcM p0).length) rfl D'.f0 sh0 rfl r0
    · exact fin (dr := d1) (stop := (groupM (p0 :: ps0)).length) rfl D'.f1 sh1 rfl r1
    · exact fin (dr := d2) (stop := F.length) rfl D'.f2 sh2 rfl r2
  · rintro ρ τ ⟨ag, hl, g1, g2, g3, g4⟩
    refine AX_sub (ρ' := [("flat", .loc fl), ("spots", .loc sl), ("stops", stopsV (pcM p0).length (groupM (p0 :: ps0)).length F.length), ("dues", .tup [d0, d1, d2])]) (sub_cons g1 (sub_cons g2 (sub_cons g3 (sub_cons g4 sub_nil)))) ?_
    exact law2_tail B (D.step ag) T hz sh1 hand q
theorem law2_con (B : Base W mg mb) {xs : List Int} {t : Addr} (hs : Script W t xs) (hl : xs.length ≤ 1000) (q : ∀ τ, Q (.bool true) τ) : ConC W (n + 12) false (.ref 263) [.val (.ref t)] [] Q NoE := by
  refine Con_law (o := obj W.w.params 263) (fd := fd W.w.params 263) (body := (fst 24).body) (p := "script") (cn := ["marks", "draw"]) (B.X _ _ (by kernel_rfl)) (by kernel_rfl) B.lim (codeRec_of B.X (by kernel_rfl)) (by kernel_rfl) (by kernel_rfl) (by kernel_rfl) (by kernel_rfl) (fun v => by kernel_rfl) (by kernel_rfl) (fun m => by kernel_rfl) (by decide) (by kernel_rfl) (by kernel_rfl) (by kernel_rfl) ?_
  have body : AX W (lawY (n + 11)) (fst 24).body [("script", .val (.ref t))] [.cell none, .cell none] (fun _ _ => False) Q NoE := by
    refine AX_cons (nums2_stmt B hs hl fun τ h0 h1 h5 => ?_)
    refine law2_begin (n := n + 10) B h0 h1 h5 (by decide) ?_ ?_ ?_
    · rw [List.length_append]; simp
    · rw [List.length_append, List.length_map]; simp; omega
    · rintro fl gl el τ ρ ⟨nl, ml, cl, G, lc, g, M, hg, hc, g1, g2, g3⟩
      obtain ⟨x, gs, hx⟩ : ∃ x gs, G ++ [g] = x :: gs := by
        cases h : G ++ [g] with
        | nil => simp at h
        | cons a b => exact ⟨a, b, rfl⟩
      obtain ⟨p0, ps0, rfl⟩ : ∃ p ps, x = p :: ps := by
        have := hg x (by rw [hx]; exact .head _)
        cases x with
        | nil => exact absurd rfl this
        | cons a b => exact ⟨a, b, rfl⟩
      refine AX_sub (ρ' := [("flat", .loc fl), ("groups", .loc gl), ("ends", .loc el)]) (sub_cons g1 (sub_cons g2 (sub_cons g3 sub_nil))) ?_
      refine law2_mid (n := n + 10) B M hx hg (by omega) fun τ' sl d0 d1 d2 D => ?_
      rw [hx] at D hg hc ⊢
      exact law2_readers B D hg hc q
  have e : (fd W.w.params 263).scope = (fst 24).scope := by kernel_rfl
  rw [e]
  exact AX_never body
end Mine

open PySem PySem.W PySem.Calls PyProof.Rows
set_option Elab.async false
set_option linter.all false
set_option maxRecDepth 100000
namespace Mine
def Hashed (w : World) (r : Array (Int × Value) × Nat × SetTable) : Prop := ∀ e ∈ r.1.toList, ∃ x k, e = (hashStr w x, Value.str x k)
theorem addStep_hashed (w : World) {r : Array (Int × Value) × Nat × SetTable} (F : Hashed w r) (x : Str) (k : Tok) : Hashed w (addStep w.params x k r) := by
  obtain ⟨es, ep, t⟩ := r
  have hperm := layNew_perm t es (hashStr w x) (.str x k)
  unfold addStep
  rw [hashP_eq]
  generalize layNew t es (hashStr w x) (.str x k) = L at hperm ⊢
  obtain ⟨es1, t1, wasDummy, gave⟩ := L
  dsimp only at hperm ⊢
  rw [Array.toList_push] at hperm
  have h1 : ∀ e ∈ es1.toList, ∃ x k, e = (hashStr w x, Value.str x k) := fun e he => by
    rcases List.mem_append.mp (hperm.mem_iff.mp he) with q | q
    · exact F e q
    · rw [List.mem_singleton] at q; exact ⟨x, k, q⟩
  split
  · have hp := relayAll_perm { t1 with plain := false } es1 (SetTable.grown es1.size)
    generalize relayAll { t1 with plain := false } es1 (SetTable.grown es1.size) = R at hp ⊢
    obtain ⟨es2, t3, g2⟩ := R
    dsimp only at hp ⊢
    exact fun e he => h1 e (hp.mem_iff.mp he)
  · exact h1
theorem addAll_hashed (w : World) : ∀ (ys : List (Str × Tok)) (r : Array (Int × Value) × Nat × SetTable), Hashed w r → Hashed w (addAll w.params ys r)
  | [], r, F => F
  | y :: ys, r, F => addAll_hashed w ys (addStep w.params y.1 y.2 r) (addStep_hashed w F y.1 y.2)
theorem vars_set {prog : Program} {w : World} {h : Heap} {a : Addr} {xs : List Str} {k : Tok} {S : Str → Bool} (ho : h.get? a = some (varsObjOf w.params xs k)) (hS : ∀ x, S x = true ↔ x ∈ xs) (hl : xs.length < 900) : h.SetOf (strKind prog w) a S xs.length := by
  have F0 : Fine [] ((#[], 0, SetTable.fresh 0 0 (!w.params.followText "set-order")) : Array (Int × Value) × Nat × SetTable) := ⟨rfl, rfl, fun e he => by simp at he, fun x => by simp⟩
  have F1 := addAll_fine w (tokd xs k) [] _ F0
  have H1 := addAll_hashed w (tokd xs k) _ (show Hashed w (#[], 0, SetTable.fresh 0 0 (!w.params.followText "set-order")) from fun e he => by simp at he)
  rw [List.nil_append, tokd_fst] at F1
  unfold varsObjOf at ho
  generalize addAll w.params (tokd xs k) (#[], 0, SetTable.fresh 0 0 (!w.params.followText "set-order")) = r at F1 H1 ho
  dsimp only at ho
  refine ⟨_, r.1, r.2.1 + 1, _, ho, ⟨rfl, rfl, rfl⟩, rfl, fun e he => ?_, fun x => ?_, ?_, F1.fits, F1.size⟩
  · obtain ⟨x, t, rfl⟩ := H1 e he
    exact ⟨⟨x, by show (x == x) = true; simp, rfl⟩, rfl⟩
  · rw [hS x, ← F1.mem x]
    constructor
    · rintro ⟨e, he, q⟩
      obtain ⟨y, t, rfl⟩ := H1 e he
      exact ⟨_, he, by show (y == x) = true; simpa [Value.isStr] using q⟩
    · rintro ⟨e, he, q⟩
      obtain ⟨y, t, rfl⟩ := H1 e he
      have q : (y == x) = true := q
      exact ⟨_, he, by simpa [Value.isStr] using q⟩
  · rw [F1.size]; show xs.length < 4096; omega
end Mine

open PySem PySem.W PySem.Calls PySem.NumText PyProof.Rows
set_option Elab.async false
set_option linter.all false
set_option maxRecDepth 100000
set_option maxHeartbeats 2000000
namespace Mine
theorem vars_at (P : Params) : (K P).lookup 45 = some (varsObjOf P names8 304) := by kernel_rfl
theorem base2 {w : World} {s₀ s₁ : Shared} {mg mb : Str → Option Value} {R : WRecords} {XP : (Str → Option Value) → Heap → Prop} (G : Ground qv looseN R XP w s₀ mg mb s₁.heap) (Y : (K w.params).In s₁.heap) : Base ⟨pw, w, s₁.heap, s₁.os, 41⟩ mg mb where
  X := Y
  hg := G.T.g
  hb := G.T.b
  bi := G.T.builtins
  lim := G.T.nolimit
  cls := rfl
  vars := vars_set (xs := names8) (Y _ _ (vars_at w.params)) (fun x => by show List.contains _ _ = true ↔ _; rw [List.contains_iff_mem]; rfl) (by decide)
theorem walk2 : WalkO qv looseN (fun _ _ => True) kh.says PySem.Challenge.rw_ew5004_02.row.toRowW lawRec [] fun f vs => PySem.call f vs := by
  intro w s₀ s₁ mg mb G Y fa o pm cd doc dV kV ho hd hcd hD hmg hg args vals as hpre hlay hrd hwl hlo
  have KX : (K w.params).In s₁.heap := kIn_of Y
  have B := base2 G KX
  have hfa : fa = 263 := by
    have e := B.glob (x := lawRec.name) (v := .ref 263) (by kernel_rfl)
    rw [hmg] at e
    cases e; rfl
  subst hfa
  wrow_args hpre hlay hrd hwl hlo
  rename_i xs _ _ _ _ _ _ _ t vs _ hL _ _ _ hI _ hlen _
  have sc : Script ⟨pw, w, s₁.heap, s₁.os, 41⟩ t xs := ⟨vs, hL, relL_ints hI⟩
  have con := (law2_con (n := 0) B sc (Q := fun a _ => a = .bool true) (by omega) fun _ => rfl).con
  have I : Inv ⟨pw, w, s₁.heap, s₁.os, 41⟩ [] [] [] s₁ := ⟨fun _ _ e => e, ⟨rfl, List.nodup_nil, fun k o a h => by simp at h⟩, fun a h => (by simp at h), trivial, fun a h => (by simp at h), fun a h => (by simp at h), hg, rfl⟩
  have key := con callerA [] [] s₁ [.ref t] ⟨rfl, fun _ => rfl, by decide, by decide⟩ I (RelL.cons (by simp only [Rel]) RelL.nil)
  refine wpAny_mono key (fun v s' g => ?_) (fun e s' x => ?_)
  · obtain ⟨a, σ', ι', rfl, r, i, st⟩ := g
    simp only [Rel] at r
    subst r
    refine ⟨.inl ⟨_, .bool true, [], rfl, fun _ => rfl, .bool true, ?_, fun _ => ⟨List.nodup_nil, fun a h => (by simp at h)⟩⟩, .of_keep i.base, i.os, .of_eq i.gens⟩
    kernel_rfl
  · obtain ⟨_, _, _, _, _, q, _⟩ := x
    exact q.elim
theorem law2 : PySem.Challenge.rw_ew5004_02.Holds := law_of_walk walk2
end Mine

set_option maxRecDepth 100000 in
set_option maxHeartbeats 8000000 in
theorem PySem.Challenge.cw_ew5004_02_holds : PySem.Challenge.rw_ew5004_02.Holds := by
  exact Mine.law2
