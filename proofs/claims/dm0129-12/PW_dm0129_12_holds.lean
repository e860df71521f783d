import PyProof.Rows.All
import Wide.All
import OpenK.AllK
import Wide.FinOn
import KE.KTryMore
import PySem.Challenge.RW_dm0129_12
set_option Elab.async false
set_option maxRecDepth 100000
namespace Mine
open PySem PySem.W PyProof.Rows
set_option maxHeartbeats 8000000 in
open_top hd for PySem.Challenge.rw_dm0129_12
end Mine
section
open PySem PySem.W PySem.Calls PyProof.Rows
namespace Mine

/-- an entry of the ledger: an address and what is known of the object that lies there -/
noncomputable abbrev Ent := Addr × (Obj → Prop)

structure Led (h₀ h : Heap) (L : List Ent) : Prop where
  at_ : ∀ p ∈ L, ∃ o, h.get? p.1 = some o ∧ p.2 o
  nd : (L.map (·.1)).Nodup
  new : ∀ p ∈ L, h₀.get? p.1 = none
  keep : ∀ b o, h₀.get? b = some o → h.get? b = some o
  high : ∀ p ∈ L, p.1 ≠ sysModules
  three : ∃ o, h₀.get? sysModules = some o

theorem Led.get {h₀ h : Heap} {L : List Ent} (D : Led h₀ h L) {a : Addr} {P : Obj → Prop} (hm : (a, P) ∈ L) : ∃ o, h.get? a = some o ∧ P o := D.at_ _ hm

theorem Led.perm {h₀ h : Heap} {L L' : List Ent} (p : L.Perm L') (D : Led h₀ h L) : Led h₀ h L' :=
  ⟨fun q hq => D.at_ q (p.mem_iff.mpr hq), ((p.map (·.1)).nodup_iff).mp D.nd, fun q hq => D.new q (p.mem_iff.mpr hq), D.keep, fun q hq => D.high q (p.mem_iff.mpr hq), D.three⟩

theorem Led.sub {h₀ h : Heap} {L L' : List Ent} (p : L'.Sublist L) (D : Led h₀ h L) : Led h₀ h L' :=
  ⟨fun q hq => D.at_ q (p.subset hq), (p.map (·.1)).nodup D.nd, fun q hq => D.new q (p.subset hq), D.keep, fun q hq => D.high q (p.subset hq), D.three⟩

theorem Led.push {h₀ h : Heap} {L : List Ent} (D : Led h₀ h L) {o : Obj} {P : Obj → Prop} (hf : o.isFreed = false) (hP : P o) :
    Led h₀ (h.push o) ((h.objs.size, P) :: L) := by
  refine ⟨fun q hq => ?_, ?_, fun q hq => ?_, fun b o' e => Heap.get?_push_of_some _ (D.keep b o' e), fun q hq => ?_, D.three⟩
  · rcases List.mem_cons.mp hq with rfl | hq
    · exact ⟨o, Heap.get?_push_size _ hf, hP⟩
    · obtain ⟨o', h1, h2⟩ := D.at_ q hq
      exact ⟨o', Heap.get?_push_of_some _ h1, h2⟩
  · rw [List.map_cons, List.nodup_cons]
    refine ⟨fun hm => ?_, D.nd⟩
    obtain ⟨q, hq, e⟩ := List.mem_map.mp hm
    obtain ⟨o', h1, _⟩ := D.at_ q hq
    exact absurd (Heap.lt_size h1) (by rw [e]; exact Nat.lt_irrefl _)
  · rcases List.mem_cons.mp hq with rfl | hq
    · cases e : h₀.get? h.objs.size with
      | none => rfl
      | some o' => exact absurd (Heap.lt_size (D.keep _ _ e)) (Nat.lt_irrefl _)
    · exact D.new q hq
  · rcases List.mem_cons.mp hq with rfl | hq
    · obtain ⟨o3, e3⟩ := D.three
      exact Nat.ne_of_gt (Heap.lt_size (D.keep _ _ e3))
    · exact D.high q hq

/-- the ledger with one entry turned -/
inductive Put (a : Addr) (P P' : Obj → Prop) : List Ent → List Ent → Prop where
  | head {r : List Ent} : Put a P P' ((a, P) :: r) ((a, P') :: r)
  | tail {e : Ent} {r r' : List Ent} : Put a P P' r r' → Put a P P' (e :: r) (e :: r')
  | left {l l' r : List Ent} : Put a P P' l l' → Put a P P' (l ++ r) (l' ++ r)
  | right {l r r' : List Ent} : Put a P P' r r' → Put a P P' (l ++ r) (l ++ r')

theorem Put.split {a : Addr} {P P' : Obj → Prop} {L L' : List Ent} (p : Put a P P' L L') : ∃ l r, L = l ++ (a, P) :: r ∧ L' = l ++ (a, P') :: r := by
  induction p with
  | head => exact ⟨[], _, rfl, rfl⟩
  | tail _ ih => obtain ⟨l, r, rfl, rfl⟩ := ih; exact ⟨_ :: l, r, rfl, rfl⟩
  | @left _ _ z _ ih => obtain ⟨l, r, rfl, rfl⟩ := ih; exact ⟨l, r ++ z, by simp, by simp⟩
  | @right z _ _ _ ih => obtain ⟨l, r, rfl, rfl⟩ := ih; exact ⟨z ++ l, r, by simp, by simp⟩
theorem Put.mem {a : Addr} {P P' : Obj → Prop} {L L' : List Ent} (p : Put a P P' L L') : (a, P) ∈ L := by
  obtain ⟨l, r, rfl, _⟩ := p.split; simp
theorem Put.mem' {a : Addr} {P P' : Obj → Prop} {L L' : List Ent} (p : Put a P P' L L') : (a, P') ∈ L' := by
  obtain ⟨l, r, _, rfl⟩ := p.split; simp

theorem Led.put {h₀ h h' : Heap} {L L' : List Ent} {a : Addr} {P P' : Obj → Prop} (D : Led h₀ h L) (p : Put a P P' L L') (hs : Heap.SameBut a h h') {o : Obj} (ho : h'.get? a = some o) (hP : P' o) : Led h₀ h' L' := by
  obtain ⟨l, r, rfl, rfl⟩ := p.split
  have nd := D.nd
  have ek : (l ++ (a, P') :: r).map (·.1) = (l ++ (a, P) :: r).map (·.1) := by simp
  have ne : ∀ q ∈ l ++ r, q.1 ≠ a := by
    intro q hq e
    rw [List.map_append, List.map_cons, List.nodup_append] at nd
    obtain ⟨_, n2, n3⟩ := nd
    rcases List.mem_append.mp hq with hq | hq
    · exact n3 q.1 (List.mem_map_of_mem hq) a (.head _) e
    · exact (List.nodup_cons.mp n2).1 (List.mem_map.mpr ⟨q, hq, e⟩)
  have anew := D.new (a, P) (by simp)
  refine ⟨fun q hq => ?_, by rw [ek]; exact nd, fun q hq => ?_, fun b o' e => ?_, fun q hq => ?_, D.three⟩
  · rcases List.mem_append.mp hq with hq | hq
    · obtain ⟨o', h1, h2⟩ := D.at_ q (List.mem_append.mpr (.inl hq))
      exact ⟨o', (hs.2 _ (ne q (List.mem_append.mpr (.inl hq)))).trans h1, h2⟩
    · rcases List.mem_cons.mp hq with rfl | hq
      · exact ⟨o, ho, hP⟩
      · obtain ⟨o', h1, h2⟩ := D.at_ q (List.mem_append.mpr (.inr (.tail _ hq)))
        exact ⟨o', (hs.2 _ (ne q (List.mem_append.mpr (.inr hq)))).trans h1, h2⟩
  · rcases List.mem_append.mp hq with hq | hq
    · exact D.new q (List.mem_append.mpr (.inl hq))
    · rcases List.mem_cons.mp hq with rfl | hq
      · exact anew
      · exact D.new q (List.mem_append.mpr (.inr (.tail _ hq)))
  · refine (hs.2 b fun z => ?_).trans (D.keep b o' e)
    subst z
    rw [anew] at e; cases e
  · rcases List.mem_append.mp hq with hq | hq
    · exact D.high q (List.mem_append.mpr (.inl hq))
    · rcases List.mem_cons.mp hq with rfl | hq
      · exact D.high (a, P) (by simp)
      · exact D.high q (List.mem_append.mpr (.inr (.tail _ hq)))

/-- the state: the ledger holds, no generators, the outside as it was -/
structure St (h₀ : Heap) (os : OsState) (L : List Ent) (s : Shared) : Prop where
  led : Led h₀ s.heap L
  gens : s.gens = #[]
  os : s.os = os

section
variable {h₀ : Heap} {os : OsState} {L L' : List Ent} {s : Shared}
theorem St.perm (p : L.Perm L') (H : St h₀ os L s) : St h₀ os L' s := ⟨H.led.perm p, H.gens, H.os⟩
theorem St.sub (p : L'.Sublist L) (H : St h₀ os L s) : St h₀ os L' s := ⟨H.led.sub p, H.gens, H.os⟩
theorem St.tail {e : Ent} (H : St h₀ os (e :: L) s) : St h₀ os L s := H.sub (List.sublist_cons_self ..)
theorem St.toks (H : St h₀ os L s) (t : Nat) : St h₀ os L { s with toks := t } := ⟨H.led, H.gens, H.os⟩
theorem St.get (H : St h₀ os L s) {a : Addr} {P : Obj → Prop} (hm : (a, P) ∈ L) : ∃ o, s.heap.get? a = some o ∧ P o := H.led.get hm
theorem St.keep (H : St h₀ os L s) : ∀ b o, h₀.get? b = some o → s.heap.get? b = some o := H.led.keep
theorem St.notSys (H : St h₀ os L s) {a : Addr} {P : Obj → Prop} (hm : (a, P) ∈ L) : (a == sysModules) = false := by
  exact beq_eq_false_iff_ne.mpr (H.led.high _ hm)
theorem St.push (H : St h₀ os L s) {o : Obj} {P : Obj → Prop} (hf : o.isFreed = false) (hP : P o) : St h₀ os ((s.heap.objs.size, P) :: L) { s with heap := s.heap.push o } :=
  ⟨H.led.push hf hP, H.gens, H.os⟩
theorem St.put {h' : Heap} {a : Addr} {P P' : Obj → Prop} (H : St h₀ os L s) (p : Put a P P' L L') (hs : Heap.SameBut a s.heap h') {o : Obj} (ho : h'.get? a = some o) (hP : P' o) :
    St h₀ os L' { s with heap := h' } := ⟨H.led.put p hs ho hP, H.gens, H.os⟩
theorem St.upd {f : Obj → Obj} {a : Addr} {P P' : Obj → Prop} (H : St h₀ os L s) (p : Put a P P' L L') {o : Obj} (ho : s.heap.get? a = some o) (hf : (f o).isFreed = false) (hP : P' (f o)) :
    St h₀ os L' { s with heap := s.heap.update a f } := ⟨H.led.put p (Heap.SameBut.update ..) (Heap.get?_update_self f ho hf) hP, H.gens, H.os⟩
theorem St.imp {a : Addr} {P P' : Obj → Prop} (H : St h₀ os L s) (p : Put a P P' L L') (hP : ∀ o, P o → P' o) : St h₀ os L' s := by
  obtain ⟨o, ho, hp⟩ := H.get p.mem
  exact ⟨H.led.put p (Heap.SameBut.refl ..) ho (hP o hp), H.gens, H.os⟩
theorem St.ext {h' : Heap} {a : Addr} {P : Obj → Prop} (H : St h₀ os ((a, P) :: L) s) (hx : Heap.ExtBut a s.heap h') : St h₀ os L { s with heap := h' } := by
  have D := H.led
  have nd := D.nd
  rw [List.map_cons, List.nodup_cons] at nd
  have an := D.new _ (.head _)
  refine ⟨⟨fun q hq => ?_, nd.2, fun q hq => D.new q (.tail _ hq), fun b o e => ?_, fun q hq => D.high q (.tail _ hq), D.three⟩, H.gens, H.os⟩
  · obtain ⟨o, h1, h2⟩ := D.at_ q (.tail _ hq)
    exact ⟨o, hx _ _ (fun e => nd.1 (List.mem_map.mpr ⟨q, hq, e⟩)) h1, h2⟩
  · exact hx _ _ (fun z => by subst z; rw [an] at e; cases e) (D.keep b o e)
theorem St.ext0 {h' : Heap} (H : St h₀ os L s) (hx : ∀ b o, s.heap.get? b = some o → h'.get? b = some o) : St h₀ os L { s with heap := h' } := by
  have D := H.led
  refine ⟨⟨fun q hq => ?_, D.nd, D.new, fun b o e => hx _ _ (D.keep b o e), D.high, D.three⟩, H.gens, H.os⟩
  obtain ⟨o, h1, h2⟩ := D.at_ q hq
  exact ⟨o, hx _ _ h1, h2⟩
end

/-! what an object is -/
noncomputable def LI (xs : List Value) (o : Obj) : Prop := ∃ n, o = { cls := .type "list", data := .seq xs.toArray n }
noncomputable def TU (xs : List Value) (o : Obj) : Prop := ∃ n, o = { cls := .type "tuple", data := .seq xs.toArray n }
noncomputable def CE (v : Option Value) (o : Obj) : Prop := o = { cls := .type "cell", data := .cell v }
/-- a frame's names -/
noncomputable def NS (m : List (Str × Value)) (o : Obj) : Prop := ∃ es n, o.data = .dict es n ∧ StrKeys es ∧ ∀ x, nsFind es x = m.lookup x
noncomputable def putL : List (Str × Value) → Str → Value → List (Str × Value)
  | [], x, v => [(x, v)]
  | (y, u) :: r, x, v => if x == y then (x, v) :: r else (y, u) :: putL r x v
theorem putL_lookup : ∀ (m : List (Str × Value)) (x : Str) (v : Value) (y : Str), (putL m x v).lookup y = if y = x then some v else m.lookup y
  | [], x, v, y => by
    by_cases h : y = x
    · subst h; simp [putL]
    · have : (y == x) = false := by simpa using h
      simp [putL, List.lookup_cons, this, h]
  | (z, u) :: r, x, v, y => by
    unfold putL
    by_cases hz : x = z
    · subst hz
      rw [if_pos (by simp)]
      by_cases h : y = x
      · subst h; simp
      · have : (y == x) = false := by simpa using h
        simp [List.lookup_cons, this, h]
    · rw [if_neg (by simpa using hz)]
      rw [List.lookup_cons, List.lookup_cons, putL_lookup r x v y]
      by_cases h : y = z
      · subst h
        have : ¬ y = x := fun e => hz e.symm
        simp [this]
      · have : (y == z) = false := by simpa using h
        simp [this]

/-- item by item -/
inductive All2 {α β : Type} (R : α → β → Prop) : List α → List β → Prop where
  | nil : All2 R [] []
  | cons {a : α} {b : β} {l : List α} {m : List β} : R a b → All2 R l m → All2 R (a :: l) (b :: m)
namespace All2
variable {α β : Type} {R : α → β → Prop}
theorem length {l : List α} {m : List β} (h : All2 R l m) : l.length = m.length := by
  induction h with
  | nil => rfl
  | cons _ _ ih => simp [ih]
theorem append {l l' : List α} {m m' : List β} (h : All2 R l m) (h' : All2 R l' m') : All2 R (l ++ l') (m ++ m') := by
  induction h with
  | nil => exact h'
  | cons r _ ih => exact .cons r ih
theorem snoc {l : List α} {m : List β} {a : α} {b : β} (h : All2 R l m) (r : R a b) : All2 R (l ++ [a]) (m ++ [b]) := h.append (.cons r .nil)
theorem get {l : List α} {m : List β} (h : All2 R l m) : ∀ {i : Nat} {b : β}, m[i]? = some b → ∃ a, l[i]? = some a ∧ R a b := by
  induction h with
  | nil => intro i b e; simp at e
  | cons r _ ih =>
    intro i b e
    cases i with
    | zero => simp at e; subst e; exact ⟨_, rfl, r⟩
    | succ i => simp at e; simpa using ih e
theorem get' {l : List α} {m : List β} (h : All2 R l m) : ∀ {i : Nat} {a : α}, l[i]? = some a → ∃ b, m[i]? = some b ∧ R a b := by
  induction h with
  | nil => intro i b e; simp at e
  | cons r _ ih =>
    intro i b e
    cases i with
    | zero => simp at e; subst e; exact ⟨_, rfl, r⟩
    | succ i => simp at e; simpa using ih e
theorem take {l : List α} {m : List β} (h : All2 R l m) : ∀ n, All2 R (l.take n) (m.take n) := by
  induction h with
  | nil => intro n; simp; exact .nil
  | cons r _ ih => intro n; cases n with | zero => exact .nil | succ n => exact .cons r (ih n)
theorem drop {l : List α} {m : List β} (h : All2 R l m) : ∀ n, All2 R (l.drop n) (m.drop n) := by
  induction h with
  | nil => intro n; simp; exact .nil
  | cons r h ih => intro n; cases n with | zero => exact .cons r h | succ n => exact ih n
end All2

end Mine
end
section
open PySem PySem.W PySem.Calls PyProof.Rows
namespace Mine

noncomputable def LIT (l : Addr) (i : Nat) (o : Obj) : Prop := o.cls = .type "list_iterator" ∧ o.data = .fields #[.ref l, .int i 0]
noncomputable def TIT (l : Addr) (i : Nat) (o : Obj) : Prop := o.cls = .type "tuple_iterator" ∧ o.data = .fields #[.ref l, .int i 0]
noncomputable def RIT (x left step : Int) (o : Obj) : Prop := o = { cls := .type "range_iterator", dict := none, data := .fields #[rawInt x, rawInt left, rawInt step], slots := #[] }
noncomputable def RA (a b c : Int) (o : Obj) : Prop := ∃ t u v, o = { cls := .type "range", dict := none, data := .fields #[.int a t, .int b u, .int c v], slots := #[] }

section
variable {h₀ : Heap} {os : OsState} {L L' : List Ent} {s : Shared}
theorem St.list (H : St h₀ os L s) {l : Addr} {xs : List Value} (hm : (l, LI xs) ∈ L) : s.heap.IsList l xs.toArray := by
  obtain ⟨o, ho, n, rfl⟩ := H.get hm; exact ⟨_, ho, rfl, n, rfl⟩
theorem St.plist (H : St h₀ os L s) {l : Addr} {xs : List Value} (hm : (l, LI xs) ∈ L) : s.heap.PlainList l xs.toArray := by
  obtain ⟨o, ho, n, rfl⟩ := H.get hm; exact ⟨n, ho⟩
theorem St.tup (H : St h₀ os L s) {l : Addr} {xs : List Value} (hm : (l, TU xs) ∈ L) : s.heap.IsTuple l xs.toArray := by
  obtain ⟨o, ho, n, rfl⟩ := H.get hm; exact ⟨_, ho, rfl, n, rfl⟩
theorem St.ns (H : St h₀ os L s) {l : Addr} {m : List (Str × Value)} (hm : (l, NS m) ∈ L) : s.heap.Ns l (fun x => m.lookup x) := by
  obtain ⟨o, ho, es, n, hd, hk, hf⟩ := H.get hm; exact ⟨o, es, n, ho, hd, hk, hf⟩
theorem St.cell (H : St h₀ os L s) {c : Addr} {v : Option Value} (hm : (c, CE v) ∈ L) : s.heap.IsCell c v := by
  obtain ⟨o, ho, rfl⟩ := H.get hm; exact ⟨_, ho, rfl⟩
end

section
variable {prog : Program} {w : World} {M : Model} {A : Around} {E : Value → Shared → Prop} {h₀ : Heap} {os : OsState} {L L' : List Ent} {s : Shared} {env : Env}

/-- what is known of a frame's block -/
structure EV (env : Env) (C : Addr) (names : List (Str × NameKind)) (cells : List (Str × Addr)) : Prop where
  kind : env.scope.kind = .function
  loc : env.locals = C
  names : env.scope.names = names
  glob : env.globals = mainGlobals
  blt : env.builtins = builtinsNs
  cells : env.cells = cells
theorem EV.kindOf {env : Env} {C : Addr} {names : List (Str × NameKind)} {cells : List (Str × Addr)} (V : EV env C names cells) (x : Str) : env.kindOf x = names.lookup x := by unfold Env.kindOf; rw [V.names]
theorem EV.inter {env : Env} {C : Addr} {names : List (Str × NameKind)} {cells : List (Str × Addr)} (V : EV env C names cells) : interactive env = false := by unfold interactive; rw [V.kind]; rfl

section
variable {C : Addr} {names : List (Str × NameKind)} {cells : List (Str × Addr)}
/-! names -/
theorem r_loc {x : Str} {pos : Pos} {m : List (Str × Value)} {v : Value} {Q : Value → Shared → Prop} (V : EV env C names cells) (H : St h₀ os L s) (hm : (C, NS m) ∈ L) (hv : m.lookup x = some v) (h : Q v s)
    (hl : names.lookup x = some .local := by rfl) (hd : (x == ("__debug__" : Str)) = false := by rfl) :
    wpAny M A (eval (.Name x pos) env) Q E s := wpAny_Name (wpAny_loadName_local V.kind (by rw [V.kindOf]; exact hl) (V.loc ▸ H.ns hm) hv h) hd
theorem r_locn {x : Str} {m : List (Str × Value)} {v : Value} {Q : Value → Shared → Prop} (V : EV env C names cells) (H : St h₀ os L s) (hm : (C, NS m) ∈ L) (hv : m.lookup x = some v) (h : Q v s)
    (hl : names.lookup x = some .local := by rfl) :
    wpAny M A (loadName env x) Q E s := wpAny_loadName_local V.kind (by rw [V.kindOf]; exact hl) (V.loc ▸ H.ns hm) hv h
theorem r_cel {x : Str} {pos : Pos} {c : Addr} {v : Value} {Q : Value → Shared → Prop} (V : EV env C names cells) (H : St h₀ os L s) (hc : cells.lookup x = some c) (hm : (c, CE (some v)) ∈ L) (h : Q v s)
    (hl : names.lookup x = some .cell := by rfl) (hd : (x == ("__debug__" : Str)) = false := by rfl) :
    wpAny M A (eval (.Name x pos) env) Q E s := wpAny_Name (wpAny_loadName_cell V.kind (by rw [V.kindOf]; exact hl) (by rw [V.cells]; exact hc) (H.cell hm) h) hd
theorem r_sto {x : Str} {v : Value} {m : List (Str × Value)} {Q : Unit → Shared → Prop} (V : EV env C names cells) (H : St h₀ os L s) (p : Put C (NS m) (NS (putL m x v)) L L') (h : ∀ s', St h₀ os L' s' → Q () s')
    (hl : names.lookup x = some .local := by rfl) :
    wpAny M A (storeName env x v) Q E s := by
  refine wpAny_storeName_local (by rw [V.kindOf]; exact hl) (V.loc ▸ H.ns p.mem) (fun h' hn hs => h _ ?_) (by rw [V.kind]; rfl)
  obtain ⟨o, es, n, ho, hd, hk', hf⟩ := hn
  rw [V.loc] at ho hs
  exact (H.put p hs ho ⟨es, n, hd, hk', fun y => by rw [hf, putL_lookup]⟩).toks _
theorem r_stc {x : Str} {v : Value} {v₀ : Option Value} {c : Addr} {Q : Unit → Shared → Prop} (V : EV env C names cells) (H : St h₀ os L s) (hc : cells.lookup x = some c) (p : Put c (CE v₀) (CE (some v)) L L') (h : ∀ s', St h₀ os L' s' → Q () s')
    (hl : names.lookup x = some .cell := by rfl) :
    wpAny M A (storeName env x v) Q E s := by
  obtain ⟨o, ho, ho'⟩ := H.get p.mem
  unfold storeName
  simp only [V.kindOf, hl, V.kind]
  refine wpAny_bind (wpAny_cellOf (by rw [V.cells]; exact hc) ?_)
  unfold cellSet
  refine wpAny_bind (wpAny_load ho ?_)
  subst ho'
  exact wpAny_update ho (h _ (H.upd p ho rfl rfl))

/-- a global name -/
noncomputable def GlobIs (h₀ : Heap) (x : Str) (v : Value) : Prop := ∃ mg mb, h₀.Ns mainGlobals mg ∧ h₀.Ns builtinsNs mb ∧ (mg x = some v ∨ (mg x = none ∧ mb x = some v))
theorem r_glo {x : Str} {pos : Pos} {v : Value} {Q : Value → Shared → Prop} (V : EV env C names cells) (H : St h₀ os L s) (G : GlobIs h₀ x v) (h : Q v s)
    (hl : names.lookup x = some .globalImplicit := by rfl) (hd : (x == ("__debug__" : Str)) = false := by rfl) :
    wpAny M A (eval (.Name x pos) env) Q E s := by
  obtain ⟨mg, mb, n1, n2, hv⟩ := G
  refine Name_function_global V.kind (by rw [V.kindOf]; exact hl) ?_ hd
  rcases hv with hv | ⟨hv1, hv2⟩
  · exact loadGlobal_global (by rw [V.glob]; exact n1.keeps H.keep) hv h
  · exact loadGlobal_builtin (by rw [V.glob]; exact n1.keeps H.keep) hv1 (by rw [V.blt]; exact n2.keeps H.keep) hv2 h
end

/-! constants -/
theorem r_int {i : Int} {k : Nat} {pos : Pos} {Q : Value → Shared → Prop} (H : St h₀ os L s) (h : ∀ t s', St h₀ os L s' → Q (.int i t) s') : wpAny M A (eval (.Constant (.int i) k pos) env) Q E s :=
  wpAny_Constant_int (h _ _ (H.toks _))

/-! new objects -/
theorem r_newList {xs : List Value} {Q : Value → Shared → Prop} (H : St h₀ os L s) (h : ∀ a s', St h₀ os ((a, LI xs) :: L) s' → Q (.ref a) s') (hz : xs.length ≤ sizeLine) : wpAny M A (newList xs) Q E s :=
  wpAny_newObj_type (h _ _ (H.push rfl ⟨0, rfl⟩)) (by show xs.toArray.size ≤ sizeLine; rw [List.size_toArray]; exact hz)
theorem r_newTuple {xs : List Value} {Q : Value → Shared → Prop} (H : St h₀ os L s) (h : ∀ a s', St h₀ os ((a, TU xs) :: L) s' → Q (.ref a) s') (hz : xs.length ≤ sizeLine) : wpAny M A (newTuple xs) Q E s :=
  wpAny_newObj_type (h _ _ (H.push rfl ⟨0, rfl⟩)) (by show xs.toArray.size ≤ sizeLine; rw [List.size_toArray]; exact hz)

/-! list.append -/
theorem r_append {l : Addr} {xs : List Value} {x : Value} {Q : Value → Shared → Prop} (H : St h₀ os L s) (p : Put l (LI xs) (LI (xs ++ [x])) L L') (h : ∀ s', St h₀ os L' s' → Q .none s') (hz : xs.length ≤ sizeLine) :
    wpAny (model prog w) A (call (.builtin "list.append") [.ref l, x]) Q E s := by
  refine wpAny_list_append_plain (H.plist p.mem) (fun h' hl hs => h _ ?_) (by rw [List.size_toArray]; exact hz)
  obtain ⟨n, e⟩ := hl
  exact H.put p hs e ⟨n, by simp⟩
end

/-! what a loop takes: item by item -/
structure Nexts (prog : Program) (w : World) {α : Type} (R : Value → α → Prop) (C : List Ent → Prop) (it : Value) (J : List α → List Ent) : Prop where
  next : ∀ {A : Around} {E : Value → Shared → Prop} {h₀ : Heap} {os : OsState} {x : α} {rem : List α} {F : List Ent} {s : Shared} {Q : Option Value → Shared → Prop}, C F → St h₀ os (J (x :: rem) ++ F) s →
    (∀ v s', R v x → St h₀ os (J rem ++ F) s' → Q (some v) s') → wpAny (model prog w) A (pyNext it) Q E s
  stop : ∀ {A : Around} {E : Value → Shared → Prop} {h₀ : Heap} {os : OsState} {F : List Ent} {s : Shared} {Q : Option Value → Shared → Prop}, A.handled = none → C F → St h₀ os (J [] ++ F) s →
    (∀ s', St h₀ os F s' → Q none s') → wpAny (model prog w) A (pyNext it) Q E s
  self : ∀ {A : Around} {E : Value → Shared → Prop} {h₀ : Heap} {os : OsState} {rem : List α} {F : List Ent} {s : Shared} {Q : Value → Shared → Prop}, St h₀ os (J rem ++ F) s → Q it s → wpAny (model prog w) A (pyIter it) Q E s

section
variable {prog : Program} {w : World} {α : Type} {R : Value → α → Prop}

noncomputable def listJ (ia l : Addr) (xs : List α) (rem : List α) : List Ent := [(ia, fun o => ∃ i, xs.drop i = rem ∧ LIT l i o)]
theorem drop_cons {xs : List α} {i : Nat} {x : α} {rem : List α} (h : xs.drop i = x :: rem) : xs[i]? = some x ∧ xs.drop (i + 1) = rem := by
  have hl : i < xs.length := by
    rcases Nat.lt_or_ge i xs.length with h' | h'
    · exact h'
    · rw [List.drop_eq_nil_of_le h'] at h; cases h
  rw [List.drop_eq_getElem_cons hl] at h
  injection h with h1 h2
  exact ⟨by rw [List.getElem?_eq_getElem hl, h1], h2⟩

theorem nexts_list (ia l : Addr) (xs : List α) : Nexts prog w R (fun F => ∃ vs, All2 R vs xs ∧ (l, LI vs) ∈ F) (.ref ia) (listJ ia l xs) where
  next := by
    rintro A E h₀ os x rem F s Q ⟨vs, hvs, hm⟩ H h
    obtain ⟨o, ho, i, hi, hc, hd⟩ := H.get (a := ia) (.head _)
    obtain ⟨hx, hr⟩ := drop_cons hi
    obtain ⟨v, hv, hR⟩ := hvs.get hx
    refine wpAny_pyNext_list_item (i := i) ⟨o, ho, hc, hd⟩ (H.list (List.mem_append.mpr (.inr hm))) (x := v) (by simpa using hv) fun h' hit hs => ?_
    obtain ⟨o', ho', hc', hd'⟩ := hit
    exact h v _ hR (H.put .head hs ho' ⟨i + 1, hr, hc', hd'⟩)
  stop := by
    rintro A E h₀ os F s Q hh ⟨vs, hvs, hm⟩ H h
    obtain ⟨o, ho, i, hi, hc, hd⟩ := H.get (a := ia) (.head _)
    refine wpAny_pyNext_list_end hh (i := i) ⟨o, ho, hc, hd⟩ (H.list (List.mem_append.mpr (.inr hm))) ?_ fun h' hx => h _ (H.ext hx)
    have : xs.length ≤ i := List.drop_eq_nil_iff.mp hi
    have := hvs.length
    simp; omega
  self := by
    rintro A E h₀ os rem F s Q H h
    obtain ⟨o, ho, i, hi, hc, hd⟩ := H.get (a := ia) (.head _)
    exact wpAny_pyIter_listiter (i := i) ⟨o, ho, hc, hd⟩ h

theorem r_iter_list {A : Around} {E : Value → Shared → Prop} {h₀ : Heap} {os : OsState} {L : List Ent} {s : Shared} {l : Addr} {vs : List Value} {xs : List α} {Q : Value → Shared → Prop} (H : St h₀ os L s) (hm : (l, LI vs) ∈ L)
    (h : ∀ ia s', St h₀ os (listJ ia l xs xs ++ L) s' → Q (.ref ia) s') : wpAny (model prog w) A (pyIter (.ref l)) Q E s :=
  wpAny_pyIter_list (H.list hm) (h _ _ (H.push rfl ⟨0, rfl, rfl, rfl⟩))

noncomputable def tupJ (ia l : Addr) (xs : List α) (rem : List α) : List Ent := [(ia, fun o => ∃ i, xs.drop i = rem ∧ TIT l i o)]
theorem pyIter_tupleiter {A : Around} {E : Value → Shared → Prop} {s : Shared} {it l : Addr} {i : Nat} {Q : Value → Shared → Prop} (hit : s.heap.IsTupleIter it l i) (h : Q (.ref it) s) :
    wpAny (model prog w) A (pyIter (.ref it)) Q E s := wpAny_pyIter_tupleiter hit h
theorem nexts_tup (ia l : Addr) (xs : List α) : Nexts prog w R (fun F => ∃ vs, All2 R vs xs ∧ (l, TU vs) ∈ F) (.ref ia) (tupJ ia l xs) where
  next := by
    rintro A E h₀ os x rem F s Q ⟨vs, hvs, hm⟩ H h
    obtain ⟨o, ho, i, hi, hc, hd⟩ := H.get (a := ia) (.head _)
    obtain ⟨hx, hr⟩ := drop_cons hi
    obtain ⟨v, hv, hR⟩ := hvs.get hx
    refine wpAny_pyNext_tuple_item (i := i) ⟨o, ho, hc, hd⟩ (H.tup (List.mem_append.mpr (.inr hm))) (x := v) (by simpa using hv) fun h' hit hs => ?_
    obtain ⟨o', ho', hc', hd'⟩ := hit
    exact h v _ hR (H.put .head hs ho' ⟨i + 1, hr, hc', hd'⟩)
  stop := by
    rintro A E h₀ os F s Q hh ⟨vs, hvs, hm⟩ H h
    obtain ⟨o, ho, i, hi, hc, hd⟩ := H.get (a := ia) (.head _)
    refine wpAny_pyNext_tuple_end hh (i := i) ⟨o, ho, hc, hd⟩ (H.tup (List.mem_append.mpr (.inr hm))) ?_ fun h' hx => h _ (H.ext hx)
    have : xs.length ≤ i := List.drop_eq_nil_iff.mp hi
    have := hvs.length
    simp; omega
  self := by
    rintro A E h₀ os rem F s Q H h
    obtain ⟨o, ho, i, hi, hc, hd⟩ := H.get (a := ia) (.head _)
    exact pyIter_tupleiter (i := i) ⟨o, ho, hc, hd⟩ h
theorem r_iter_tup {A : Around} {E : Value → Shared → Prop} {h₀ : Heap} {os : OsState} {L : List Ent} {s : Shared} {l : Addr} {vs : List Value} {xs : List α} {Q : Value → Shared → Prop} (H : St h₀ os L s) (hm : (l, TU vs) ∈ L)
    (h : ∀ ia s', St h₀ os (tupJ ia l xs xs ++ L) s' → Q (.ref ia) s') : wpAny (model prog w) A (pyIter (.ref l)) Q E s :=
  wpAny_pyIter_tuple (H.tup hm) (h _ _ (H.push rfl ⟨0, rfl, rfl, rfl⟩))

/-- an int's value -/
noncomputable def IV (v : Value) (i : Int) : Prop := ∃ t, v = .int i t
/-- an index's value -/
noncomputable def NV (v : Value) (k : Nat) : Prop := ∃ t, v = .int k t

/-- the naturals a, a + c, .. (n of them) -/
noncomputable def upBy (c : Nat) : Nat → Nat → List Nat
  | _, 0 => []
  | a, n + 1 => a :: upBy c (a + c) n
noncomputable def rngJ (ia : Addr) (c : Nat) (rem : List Nat) : List Ent := [(ia, fun o => ∃ a : Nat, rem = upBy c a rem.length ∧ RIT a rem.length c o)]
theorem nexts_rng (ia : Addr) (c : Nat) : Nexts prog w NV (fun _ => True) (.ref ia) (rngJ ia c) where
  next := by
    rintro A E h₀ os x rem F s Q _ H h
    obtain ⟨o, ho, a, ha, rfl⟩ := H.get (a := ia) (.head _)
    simp only [List.length_cons, upBy, List.cons.injEq] at ha
    obtain ⟨rfl, ha⟩ := ha
    refine wpAny_pyNext_range_item ho (by simp) fun h' hit hs => h _ _ ⟨_, rfl⟩ ?_
    refine (H.put .head hs hit ⟨x + c, ha, ?_⟩).toks _
    show _ = _
    congr 4
    simp
  stop := by
    rintro A E h₀ os F s Q hh _ H h
    obtain ⟨o, ho, a, ha, rfl⟩ := H.get (a := ia) (.head _)
    exact wpAny_pyNext_range_end hh ho (by simp) fun h' hx => h _ (H.ext hx)
  self := by
    rintro A E h₀ os rem F s Q H h
    obtain ⟨o, ho, a, ha, rfl⟩ := H.get (a := ia) (.head _)
    exact wpAny_pyIter_rangeiter ho h
end
end Mine
end
section
open PySem PySem.W PySem.Calls PyProof.Rows
namespace Mine

/-! frames -/
noncomputable def cellNames (names : List (Str × NameKind)) : List Str := (names.filter (·.2 == .cell)).map (·.1)
noncomputable def cellEnts (as : List Addr) : List Ent := as.map fun a => (a, CE none)

section
variable {prog : Program} {w : World} {M : Model} {A : Around} {E : Value → Shared → Prop} {h₀ : Heap} {os : OsState} {L L' : List Ent} {s : Shared} {env : Env}

theorem NS.nil {c : Value} : NS [] { cls := c, data := .dict #[] } := ⟨#[], 0, rfl, fun _ h => (by simp at h), fun _ => rfl⟩

/-- the cells laid: newest name first -/
theorem r_layCells (f : Str × NameKind → List (Str × Addr) → Sem (ForInStep (List (Str × Addr))))
    (hf : ∀ name kind cells, f (name, kind) cells = if kind == .cell then (do let a ← alloc { cls := .type "cell", data := .cell none }; pure (.yield ((name, a) :: cells))) else pure (.yield cells)) :
    ∀ (names : List (Str × NameKind)) (acc : List (Str × Addr)) (L : List Ent) (s : Shared) (Q : List (Str × Addr) → Shared → Prop), St h₀ os L s →
      (∀ as s', as.length = (cellNames names).length → St h₀ os (cellEnts as.reverse ++ L) s' → Q (((cellNames names).zip as).reverse ++ acc) s') → wpAny M A (forIn names acc f) Q E s
  | [], acc, L, s, Q, H, h => by rw [List.forIn_nil]; exact wpAny_pure (h [] s rfl H)
  | (n, k) :: r, acc, L, s, Q, H, h => by
    rw [List.forIn_cons, hf]
    cases hk : k == NameKind.cell with
    | true =>
      simp only [if_true]
      refine wpAny_bind (wpAny_bind (wpAny_alloc (wpAny_pure ?_)))
      refine r_layCells f hf r _ _ _ Q (H.push (P := CE none) rfl rfl) fun as s' hl H' => ?_
      have e : cellNames ((n, k) :: r) = n :: cellNames r := by simp [cellNames, hk]
      have := h (s.heap.objs.size :: as) s' (by rw [e]; simp [hl]) (by simpa [cellEnts] using H')
      rw [e] at this
      simpa using this
    | false =>
      simp only [Bool.false_eq_true, if_false]
      refine wpAny_bind (wpAny_pure (r_layCells f hf r _ _ _ Q H fun as s' hl H' => ?_))
      have e : cellNames ((n, k) :: r) = cellNames r := by simp [cellNames, hk]
      have := h as s' (by rw [e]; exact hl) H'
      rw [e] at this
      exact this

theorem r_newEnv {scope : Scope} {globals : Addr} {closure : List (Str × Addr)} {binds : List (Str × Value)} {qual : Str} {func : Option Addr} {code : Value} {around : Option Env} {builtins : Addr} {Q : Env → Shared → Prop}
    (H : St h₀ os L s)
    (h : ∀ C as s', as.length = (cellNames scope.names).length → St h₀ os (cellEnts as.reverse ++ (C, NS []) :: L) s' →
      wpAny M A (forIn binds PUnit.unit fun x _ => do storeName (newEnv scope C globals (((cellNames scope.names).zip as).reverse ++ closure) qual func code around builtins) x.1 x.2; pure (ForInStep.yield PUnit.unit))
        (fun _ s'' => Q (newEnv scope C globals (((cellNames scope.names).zip as).reverse ++ closure) qual func code around builtins) s'') E s') :
    wpAny M A (newFunctionEnv scope globals closure binds qual func code around builtins) Q E s := by
  cases around with
  | none =>
    simp only [newFunctionEnv, Option.isSome_none, Bool.false_eq_true, if_false]
    refine wpAny_bind (wpAny_alloc ?_)
    refine wpAny_bind (r_layCells _ (fun name kind cells => by cases hkc : kind == NameKind.cell <;> simp [hkc]) _ _ _ _ _ (H.push (P := NS []) rfl NS.nil) fun as s' hl H' => ?_)
    exact wpAny_bind (wpAny_mono (h _ as s' hl H') (fun _ s'' q => wpAny_pure q) fun _ _ e => e)
  | some outer =>
    simp only [newFunctionEnv, Option.isSome_some, if_true]
    refine wpAny_bind (wpAny_alloc ?_)
    refine wpAny_bind (r_layCells _ (fun name kind cells => by cases hkc : kind == NameKind.cell <;> simp [hkc]) _ _ _ _ _ (H.push (P := NS []) rfl NS.nil) fun as s' hl H' => ?_)
    exact wpAny_bind (wpAny_mono (h _ as s' hl H') (fun _ s'' q => wpAny_pure q) fun _ _ e => e)

theorem r_binds_nil {f : Str × Value → PUnit → Sem (ForInStep PUnit)} {Q : PUnit → Shared → Prop} (h : Q PUnit.unit s) : wpAny M A (forIn ([] : List (Str × Value)) PUnit.unit f) Q E s := by
  rw [List.forIn_nil]; exact wpAny_pure h
theorem r_binds_cons {x : Str × Value} {r : List (Str × Value)} {Q : PUnit → Shared → Prop}
    (h : wpAny M A (storeName env x.1 x.2) (fun _ s' => wpAny M A (forIn r PUnit.unit fun x _ => do storeName env x.1 x.2; pure (ForInStep.yield PUnit.unit)) Q E s') E s) :
    wpAny M A (forIn (x :: r) PUnit.unit fun x _ => do storeName env x.1 x.2; pure (ForInStep.yield PUnit.unit)) Q E s := by
  rw [List.forIn_cons]
  exact wpAny_bind (wpAny_bind (wpAny_mono h (fun _ s' q => wpAny_pure q) fun _ _ e => e))

/-- a call of a plain def -/
theorem r_callFn {f : Addr} {o : Obj} {fd : FuncData} {body : List Stmt} {names : List (Str × NameKind)} {args : Args} {R : Result → Shared → Prop} (H : St h₀ os L s) (hroom : A.depth < recursionLimit) (hlim : h₀.NoLimit)
    (ho : h₀.get? f = some o) (hd : o.data = .func fd) (hcd : h₀.CodeRec fd.code fd.qualname) (hbody : fd.body = .stmts body) (hnames : fd.scope.names = names)
    (hg : fd.globals = mainGlobals) (hb : fd.builtins = builtinsNs) (hcl : fd.closure = []) (hk : fd.scope.kind = .function)
    (h : wpAny (model prog w) A.in1 (bindArgs fd args) (fun binds s₁ => ∃ L₁, St h₀ os L₁ s₁ ∧ ∀ env C as s', env = newEnv fd.scope C fd.globals ((cellNames names).zip as).reverse (fd.qualname ++ ".<locals>.") (some f) fd.code none fd.builtins →
      EV env C names ((cellNames names).zip as).reverse → as.length = (cellNames names).length → St h₀ os (cellEnts as.reverse ++ (C, NS []) :: L₁) s' →
      wpAny (model prog w) A.in1 (forIn binds PUnit.unit fun x _ => do storeName env x.1 x.2; pure (ForInStep.yield PUnit.unit))
        (fun _ s₂ => ∃ L₂, St h₀ os L₂ s₂ ∧ wpAny (model prog w) (A.deeper env) (execs body env)
          (fun f s' => R (.ok (.ret (match f with | .ret v => v | _ => .none))) s')
          (fun e s' => wpAny (model prog w) (A.deeper env) (leaving env e) (fun _ s'' => R (.error e) s'') (fun e' s'' => R (.error e') s'') s') s₂) (fun e s' => R (.error e) s') s') (fun e s' => R (.error e) s') s)
    (hco : fd.scope.isCoroutine = false := by rfl) (hgen : fd.scope.isGenerator = false := by rfl) :
    codeAny (model prog w) A (.call (.ref f) args) R s := by
  refine codeAny_call_function hroom (H.keep _ _ ho) hd hco hgen hbody (hcd.keeps H.keep) (wpAny_mono h (fun binds s₁ q => ?_) fun _ _ e => e)
  obtain ⟨L₁, H₁, q⟩ := q
  refine r_newEnv H₁ fun C as s' hl H' => ?_
  rw [hnames, hcl, List.append_nil]
  rw [hnames] at hl
  refine wpAny_mono (q _ C as s' rfl ⟨hk, rfl, hnames, hg, hb, rfl⟩ hl H') (fun _ s₂ q₂ => ?_) fun _ _ e => e
  obtain ⟨L₂, H₂, q₂⟩ := q₂
  exact ⟨hlim.keeps H₂.keep, codeAny_func q₂⟩

/-! loops -/
section
variable {α : Type} {R : Value → α → Prop} {C : List Ent → Prop} {it : Value} {J : List α → List Ent}

/-- what a loop asks of its target: nothing is let go behind it -/
noncomputable def Own (prog : Program) (w : World) (A : Around) (R : Value → α → Prop) (it : Value) (J : List α → List Ent) (h₀ : Heap) (os : OsState) (target : Expr) : Prop :=
  ∀ (E : Value → Shared → Prop) v x rem F s (Q : Unit → Shared → Prop), R v x → St h₀ os (J rem ++ F) s → Q () s → wpAny (model prog w) A (letOwnedTupleGo target it v) Q E s
theorem own_name {x : Str} {p : Pos} : Own prog w A R it J h₀ os (.Name x p) := fun _ _ _ _ _ _ _ _ _ h => wpAny_pure h
theorem r_forLoop (N : Nexts prog w R C it J) {target : Expr} {body : List Stmt} {Rr : Result → Shared → Prop} {σ : Type} (led : σ → List Ent) (Inv : List α → σ → Prop) (hh : A.handled = none)
    (hC : ∀ rem c, Inv rem c → C (led c))
    (turn : ∀ v x rem c s, R v x → Inv (x :: rem) c → St h₀ os (J rem ++ led c) s →
      wpAny (model prog w) A (assign target env v) (fun _ s₂ => wpAny (model prog w) A (execs body env) (fun f s₃ => match f with
        | .next | .cont => ∃ c', Inv rem c' ∧ St h₀ os (J rem ++ led c') s₃
        | .brk => Rr (.ok .next) s₃
        | .ret v => Rr (.ok (.ret v)) s₃) (notedBy (model prog w) A env fun e s' => Rr (.error e) s') s₂) (notedBy (model prog w) A env fun e s' => Rr (.error e) s') s)
    (fin : ∀ c s, Inv [] c → St h₀ os (led c) s → Rr (.ok .next) s) {rem : List α} {c : σ} (hI : Inv rem c) (H : St h₀ os (J rem ++ led c) s) (hgo : Own prog w A R it J h₀ os target := by exact own_name) :
    codeAny (model prog w) A (.forLoop target it body [] env) Rr s := by
  refine codeAny_forLoop_any (fun n s' => ∃ rem c, n = rem.length ∧ Inv rem c ∧ St h₀ os (J rem ++ led c) s') ?_ rem.length ⟨rem, c, rfl, hI, H⟩
  rintro n s' ⟨rem, c, rfl, hI, H⟩
  cases rem with
  | nil => exact N.stop hh (hC _ _ hI) H fun s₁ H₁ => wpAny_execs_nil (fin c s₁ hI H₁)
  | cons x rem =>
    refine N.next (hC _ _ hI) H fun v s₁ hR H₁ => ?_
    refine hgo _ v x rem (led c) s₁ _ hR H₁ (wpAny_mono (turn v x rem c s₁ hR hI H₁) (fun _ s₂ h₂ => wpAny_mono h₂ (fun f s₃ h₃ => ?_) fun _ _ e => e) fun _ _ e => e)
    cases f with
    | next => obtain ⟨c', hI', H'⟩ := h₃; exact ⟨rem.length, Nat.lt_succ_self _, rem, c', rfl, hI', H'⟩
    | cont => obtain ⟨c', hI', H'⟩ := h₃; exact ⟨rem.length, Nat.lt_succ_self _, rem, c', rfl, hI', H'⟩
    | brk => exact h₃
    | ret v => exact h₃

/-- the same, what comes behind left open -/
theorem r_forLoop1 (N : Nexts prog w R C it J) {target : Expr} {body : List Stmt} {Rr : Result → Shared → Prop} {σ : Type} (led : σ → List Ent) (Inv : List α → σ → Prop) (hh : A.handled = none)
    (hC : ∀ rem c, Inv rem c → C (led c))
    (turn : ∀ (Q : Flow → Shared → Prop) (E : Value → Shared → Prop) v x rem c s, R v x → Inv (x :: rem) c → St h₀ os (J rem ++ led c) s → (∀ c' s', Inv rem c' → St h₀ os (J rem ++ led c') s' → Q .next s') →
      wpAny (model prog w) A (assign target env v) (fun _ s₂ => wpAny (model prog w) A (execs body env) Q E s₂) E s)
    (fin : ∀ c s, Inv [] c → St h₀ os (led c) s → Rr (.ok .next) s) {rem : List α} {c : σ} (hI : Inv rem c) (H : St h₀ os (J rem ++ led c) s) (hgo : Own prog w A R it J h₀ os target := by exact own_name) :
    codeAny (model prog w) A (.forLoop target it body [] env) Rr s :=
  r_forLoop N led Inv hh hC (fun v x rem c s hR hI H => turn _ _ v x rem c s hR hI H fun c' _ hI' H' => ⟨c', hI', H'⟩) fin hI H hgo

/-- what comes behind left open -/
theorem gen {M : Model} {β : Type} {m : Sem β} {Q₀ : β → Shared → Prop} {E₀ : Value → Shared → Prop} (P : (β → Shared → Prop) → Prop) (hP : P Q₀) (h : ∀ (Q : β → Shared → Prop) (E : Value → Shared → Prop), P Q → wpAny M A m Q E s) : wpAny M A m Q₀ E₀ s := h Q₀ E₀ hP
/-- a statement, what comes behind left open -/
theorem r_cons {M : Model} {st : Stmt} {rest : List Stmt} {Q : Flow → Shared → Prop} (h : ∀ (Q' : Flow → Shared → Prop) (E' : Value → Shared → Prop), (∀ s', wpAny M A (execs rest env) Q E s' → Q' .next s') → wpAny M A (exec st env) Q' E' s) : wpAny M A (execs (st :: rest) env) Q E s :=
  wpAny_execs_cons (h _ _ fun _ h => h)
/-- a loop that may go on or give back early -/
theorem r_forLoop2 (N : Nexts prog w R C it J) {target : Expr} {body : List Stmt} {Rr : Result → Shared → Prop} {σ : Type} (led : σ → List Ent) (Inv : List α → σ → Prop) (Gr : Value → Shared → Prop) (hh : A.handled = none)
    (hC : ∀ rem c, Inv rem c → C (led c))
    (turn : ∀ (Q : Flow → Shared → Prop) (E : Value → Shared → Prop) v x rem c s, R v x → Inv (x :: rem) c → St h₀ os (J rem ++ led c) s → (∀ c' s', Inv rem c' → St h₀ os (J rem ++ led c') s' → Q .next s' ∧ Q .cont s') → (∀ r s', Gr r s' → Q (.ret r) s') →
      wpAny (model prog w) A (assign target env v) (fun _ s₂ => wpAny (model prog w) A (execs body env) Q E s₂) E s)
    (fin : ∀ c s, Inv [] c → St h₀ os (led c) s → Rr (.ok .next) s) (hG : ∀ r s', Gr r s' → Rr (.ok (.ret r)) s') {rem : List α} {c : σ} (hI : Inv rem c) (H : St h₀ os (J rem ++ led c) s) (hgo : Own prog w A R it J h₀ os target := by exact own_name) :
    codeAny (model prog w) A (.forLoop target it body [] env) Rr s :=
  r_forLoop N led Inv hh hC (fun v x rem c s hR hI H => turn _ _ v x rem c s hR hI H (fun c' _ hI' H' => ⟨⟨c', hI', H'⟩, ⟨c', hI', H'⟩⟩) fun r s' hr => hG r s' hr) fin hI H hgo

/-- the tests of a comprehension's clause -/
noncomputable abbrev testsOf (ifs : List Expr) (env : Env) : Sem Bool := forIn ifs true fun c r => if r = true then do let ok ← isTrue c env (eval c env); pure (ForInStep.yield ok) else pure (ForInStep.yield r)

theorem r_compLoop (N : Nexts prog w R C it J) {elt target iter : Expr} {ifs : List Expr} {scope : Scope} {pos : Pos} {acc : Addr} {Rr : Result → Shared → Prop} {σ : Type} (led : σ → List Ent) (Inv : List α → List Value → σ → Prop)
    (hh : A.handled = none) (hC : ∀ rem out c, Inv rem out c → C ((acc, LI out) :: led c)) (hz : ∀ rem out c, Inv rem out c → out.length + rem.length ≤ sizeLine)
    (turn : ∀ v x rem out c s, R v x → Inv (x :: rem) out c → St h₀ os (J rem ++ (acc, LI out) :: led c) s →
      wpAny (model prog w) A (assign target env v) (fun _ s₂ => wpAny (model prog w) A (testsOf ifs env) (fun ok s₃ =>
        if ok = true then wpAny (model prog w) A (eval elt env) (fun y s₄ => ∃ c', Inv rem (out ++ [y]) c' ∧ St h₀ os (J rem ++ (acc, LI out) :: led c') s₄) (notedBy (model prog w) A env fun e s' => Rr (.error e) s') s₃
        else ∃ c', Inv rem out c' ∧ St h₀ os (J rem ++ (acc, LI out) :: led c') s₃) (notedBy (model prog w) A env fun e s' => Rr (.error e) s') s₂) (notedBy (model prog w) A env fun e s' => Rr (.error e) s') s)
    (fin : ∀ out c s, Inv [] out c → St h₀ os ((acc, LI out) :: led c) s → Rr (.ok .next) s) {rem : List α} {out : List Value} {c : σ} (hI : Inv rem out c) (H : St h₀ os (J rem ++ (acc, LI out) :: led c) s) (hgo : Own prog w A R it J h₀ os target := by exact own_name) :
    codeAny (model prog w) A (.compLoop (.ListComp elt [⟨target, iter, ifs, 0⟩] scope pos) 0 it (.ref acc) env) Rr s := by
  refine codeAny_loop rfl (fun n s' => ∃ rem out c, n = rem.length ∧ Inv rem out c ∧ St h₀ os (J rem ++ (acc, LI out) :: led c) s') (fun n s hI => ?_) rem.length ⟨rem, out, c, rfl, hI, H⟩
  obtain ⟨rem, out, c, rfl, hI, H⟩ := hI
  show wpAny _ A ((compTurn (.ListComp elt [⟨target, iter, ifs, 0⟩] scope pos) 0 it (.ref acc) env).onRaise (fun x => do noteFrame x env; theTreesLotGoes x)) _ _ s
  refine wpAny_noted ?_
  rw [compTurn_list]
  refine wpAny_bind (wpAny_standAt (wpAny_bind ?_))
  cases rem with
  | nil => exact N.stop hh (hC _ _ _ hI) H fun s₁ H₁ => wpAny_pure (fin out c s₁ hI H₁)
  | cons x rem =>
    refine N.next (hC _ _ _ hI) H fun v s₁ hR H₁ => ?_
    refine wpAny_bind (hgo _ v x rem ((acc, LI out) :: led c) s₁ _ hR H₁ (wpAny_bind (wpAny_mono (turn v x rem out c s₁ hR hI H₁) (fun _ s₂ h₂ => wpAny_bind (wpAny_mono h₂ (fun ok s₃ h₃ => ?_) fun _ _ e => e)) fun _ _ e => e)))
    cases ok with
    | false =>
      obtain ⟨c', hI', H'⟩ := h₃
      exact wpAny_pure ⟨rfl, rem.length, Nat.lt_succ_self _, rem, out, c', rfl, hI', H'⟩
    | true =>
      refine wpAny_bind (wpAny_bind (wpAny_mono h₃ (fun y s₄ h₄ => ?_) fun _ _ e => e))
      obtain ⟨c', hI', H'⟩ := h₄
      have := hz _ _ _ hI
      refine wpAny_bind (r_append H' (.right .head) (fun s₅ H₅ => wpAny_pure (wpAny_pure ⟨rfl, rem.length, Nat.lt_succ_self _, rem, _, c', rfl, hI', H₅⟩)) (by omega))
/-- without tests, what comes behind left open -/
theorem r_compLoop1 (N : Nexts prog w R C it J) {elt target iter : Expr} {scope : Scope} {pos : Pos} {acc : Addr} {Rr : Result → Shared → Prop} {σ : Type} (led : σ → List Ent) (Inv : List α → List Value → σ → Prop)
    (hh : A.handled = none) (hC : ∀ rem out c, Inv rem out c → C ((acc, LI out) :: led c)) (hz : ∀ rem out c, Inv rem out c → out.length + rem.length ≤ sizeLine)
    (turn : ∀ (Q : Value → Shared → Prop) (E : Value → Shared → Prop) v x rem out c s, R v x → Inv (x :: rem) out c → St h₀ os (J rem ++ (acc, LI out) :: led c) s → (∀ y c' s', Inv rem (out ++ [y]) c' → St h₀ os (J rem ++ (acc, LI out) :: led c') s' → Q y s') →
      wpAny (model prog w) A (assign target env v) (fun _ s₂ => wpAny (model prog w) A (eval elt env) Q E s₂) E s)
    (fin : ∀ out c s, Inv [] out c → St h₀ os ((acc, LI out) :: led c) s → Rr (.ok .next) s) {rem : List α} {out : List Value} {c : σ} (hI : Inv rem out c) (H : St h₀ os (J rem ++ (acc, LI out) :: led c) s) (hgo : Own prog w A R it J h₀ os target := by exact own_name) :
    codeAny (model prog w) A (.compLoop (.ListComp elt [⟨target, iter, [], 0⟩] scope pos) 0 it (.ref acc) env) Rr s := by
  refine r_compLoop N led Inv hh hC hz (fun v x rem out c s hR hI H => ?_) fin hI H hgo
  refine wpAny_mono (turn (fun y s' => ∃ c', Inv rem (out ++ [y]) c' ∧ St h₀ os (J rem ++ (acc, LI out) :: led c') s') _ v x rem out c s hR hI H fun y c' s' hI' H' => ⟨c', hI', H'⟩) (fun _ s₂ h₂ => ?_) fun _ _ e => e
  unfold testsOf
  rw [List.forIn_nil]
  refine wpAny_pure ?_
  rw [if_pos rfl]
  exact h₂
end
end
end Mine
end
section
open PySem PySem.W PySem.Calls PyProof.Rows
namespace Mine

noncomputable def cEnv (scope : Scope) (Cl : Addr) (as : List Addr) (cl : List (Str × Addr)) (env : Env) : Env :=
  { scope := relabel scope env, locals := Cl, globals := env.globals, cells := ((cellNames scope.names).zip as).reverse ++ cl, qual := env.qual, func := none, code := env.code, frame := env.frame, builtins := env.builtins }

/-- the names of a comprehension's block -/
noncomputable def relNames (names outer : List (Str × NameKind)) : List (Str × NameKind) := names.map fun (n, k) => if k == .free && outer.lookup n == some .cell then (n, .cell) else (n, k)
/-- its closure -/
noncomputable def closOf (cells : List (Str × Addr)) : List (Str × NameKind) → List (Str × Addr) → List (Str × Addr)
  | [], acc => acc
  | (n, k) :: r, acc => if k == .free then closOf cells r ((n, (cells.lookup n).getD 0) :: acc) else closOf cells r acc
theorem closureFor_ev {env : Env} {C : Addr} {names : List (Str × NameKind)} {cells : List (Str × Addr)} (V : EV env C names cells) {scope : Scope} (h : (scope.names.all fun x => x.2 != .free || (cells.lookup x.1).isSome) = true) :
    closureFor scope env = pure (closOf cells scope.names []) := by
  have go : ∀ (ns : List (Str × NameKind)) (acc : List (Str × Addr)), (ns.all fun x => x.2 != .free || (cells.lookup x.1).isSome) = true →
      forIn (m := Sem) ns acc (fun x cs => match x with | (name, kind) => if (kind == NameKind.free) = true then do let a ← cellOf env name; pure (ForInStep.yield ((name, a) :: cs)) else pure (ForInStep.yield cs)) = pure (closOf cells ns acc) := by
    intro ns
    induction ns with
    | nil => intro acc _; rfl
    | cons x r ih =>
      intro acc hx
      obtain ⟨n, k⟩ := x
      rw [List.all_cons, Bool.and_eq_true] at hx
      rw [List.forIn_cons]
      unfold closOf
      cases hk : k == NameKind.free with
      | true =>
        have h1 : (cells.lookup n).isSome = true := by
          have := hx.1
          simp only [bne, hk, Bool.not_true, Bool.false_or] at this
          exact this
        obtain ⟨a, ha⟩ := Option.isSome_iff_exists.mp h1
        have hc : cellOf env n = pure a := by unfold cellOf; rw [V.cells, ha]
        simp only [hk, if_true, hc, pure_bind, ha, Option.getD_some]
        exact ih _ hx.2
      | false =>
        simp only [hk, Bool.false_eq_true, if_false, pure_bind]
        exact ih _ hx.2
  unfold closureFor
  simp only
  have := go scope.names [] h
  refine (congrArg (fun t => t >>= fun r => pure r) this).trans ?_
  rfl
theorem EV.comp {env : Env} {C Cl : Addr} {names : List (Str × NameKind)} {cells cl : List (Str × Addr)} {as : List Addr} (V : EV env C names cells) {scope : Scope} (hk : scope.kind = .function) :
    EV (cEnv scope Cl as cl env) Cl (relNames scope.names names) (((cellNames scope.names).zip as).reverse ++ cl) := by
  refine ⟨hk, rfl, ?_, V.glob, V.blt, rfl⟩
  show (scope.names.map _) = _
  unfold relNames
  refine List.map_congr_left fun x _ => ?_
  obtain ⟨n, k⟩ := x
  simp only [V.kindOf, V.kind, beq_self_eq_true, Bool.and_true]

section
variable {prog : Program} {w : World} {A : Around} {E : Value → Shared → Prop} {h₀ : Heap} {os : OsState} {L L' : List Ent} {s : Shared} {env : Env}
variable {Co : Addr} {onames : List (Str × NameKind)} {ocells : List (Str × Addr)}

/-- what a comprehension's block asks: the iterator, then the loop in its own frame -/
noncomputable def CompAsk (prog : Program) (w : World) (A : Around) (h₀ : Heap) (os : OsState) (env : Env) (cl : List (Str × Addr)) (elt target iter : Expr) (ifs : List Expr) (scope : Scope) (pos : Pos)
    (Z : Addr → List Value → List Ent → Prop) (it : Value) (s₂ : Shared) : Prop :=
  ∃ (α : Type) (R : Value → α → Prop) (C : List Ent → Prop) (J : List α → List Ent) (xs : List α) (L : List Ent), Nexts prog w R C it J ∧ St h₀ os (J xs ++ L) s₂ ∧
    ∀ D Cl as s₄, as.length = (cellNames scope.names).length → St h₀ os (J xs ++ (D, LI []) :: (cellEnts as.reverse ++ (Cl, NS []) :: L)) s₄ →
      codeAny (model prog w) A (.compLoop (.ListComp elt [⟨target, iter, ifs, 0⟩] scope pos) 0 it (.ref D) (cEnv scope Cl as cl env))
        (fun r s' => ∃ m out L', (match r with | .ok _ => True | .error _ => False) ∧ St h₀ os ((Cl, NS m) :: (D, LI out) :: L') s' ∧ Z D out L') s₄

theorem comp_block {elt target iter : Expr} {ifs : List Expr} {scope : Scope} {pos : Pos} {cl : List (Str × Addr)} {Z : Addr → List Value → List Ent → Prop} {it : Value} {s₂ : Shared} {RR : Value → Addr → Result → Shared → Prop}
    (ask : CompAsk prog w A h₀ os env cl elt target iter ifs scope pos Z it s₂)
    (hRR : ∀ D Cl m out L' f s', St h₀ os ((Cl, NS m) :: (D, LI out) :: L') s' → Z D out L' → RR (.ref D) Cl (.ok f) s') :
    wpAny (model prog w) A (newList []) (fun acc s₃ => wpAny (model prog w) A (newFunctionEnv scope env.globals cl [] env.qual none .none (some env)) (fun cenv s₄ =>
      codeAny (model prog w) A (.compStart (.ListComp elt [⟨target, iter, ifs, 0⟩] scope pos) 0 it acc { cenv with scope := relabel scope env }) (RR acc cenv.locals) s₄) E s₃) E s₂ := by
  obtain ⟨α, R, C, J, xs, L, N, H, ask⟩ := ask
  refine r_newList H (fun D s₃ H₃ => ?_) (Nat.zero_le _)
  refine r_newEnv H₃ fun Cl as s₄ hl H₄ => r_binds_nil ?_
  have H₅ : St h₀ os (J xs ++ (D, LI []) :: (cellEnts as.reverse ++ (Cl, NS []) :: L)) s₄ := by
    have e1 : cellEnts as.reverse ++ (Cl, NS []) :: (D, LI []) :: (J xs ++ L) = (cellEnts as.reverse ++ [(Cl, NS [])]) ++ (((D, LI []) :: J xs) ++ L) := by simp
    have e2 : J xs ++ (D, LI []) :: (cellEnts as.reverse ++ (Cl, NS []) :: L) = J xs ++ (D, LI []) :: ((cellEnts as.reverse ++ [(Cl, NS [])]) ++ L) := by simp
    rw [e1] at H₄
    rw [e2]
    exact H₄.perm ((List.perm_append_comm_assoc ..).trans List.perm_middle.symm)
  have go : codeAny (model prog w) A (.compLoop (.ListComp elt [⟨target, iter, ifs, 0⟩] scope pos) 0 it (.ref D) (cEnv scope Cl as cl env)) (RR (.ref D) Cl) s₄ := by
    refine codeAny_mono (ask D Cl as s₄ hl H₅) fun r s' q => ?_
    obtain ⟨m, out, L', hr, H', hZ⟩ := q
    cases r with
    | error e => exact hr.elim
    | ok f => exact hRR D Cl m out L' f s' H' hZ
  exact codeAny_compStart_list go (N.self H₅ go)

theorem r_ListComp {elt target iter : Expr} {ifs : List Expr} {scope : Scope} {pos : Pos} {cl : List (Str × Addr)} {Q : Value → Shared → Prop} (Z : Addr → List Value → List Ent → Prop)
    (h : wpAny (model prog w) A (eval iter env) (fun x s₁ => wpAny (model prog w) A (pyIter x) (CompAsk prog w A h₀ os env cl elt target iter ifs scope pos Z) E s₁) E s)
    (hQ : ∀ D out L' s', Z D out L' → St h₀ os ((D, LI out) :: L') s' → Q (.ref D) s')
    (hclos : closureFor scope env = pure cl) (hkind : scope.kind = .function := by rfl)
    (hnames : ∀ x ∈ scope.names, x.2 = .local → scope.names.lookup x.1 = some .local := by decide)
    (hs : ∀ x, foldedSetIterable iter env x = pure x := by intro _; rfl) :
    wpAny (model prog w) A (eval (.ListComp elt [⟨target, iter, ifs, 0⟩] scope pos) env) Q E s := by
  rw [eval_ListComp]
  refine wpAny_comprehension_free (use := none) rfl hs hclos hkind hnames (wpAny_mono h (fun xv s₁ h₁ => wpAny_mono h₁ (fun it s₂ h₂ => ?_) fun _ _ e => e) fun _ _ e => e)
  refine comp_block (RR := fun acc C => compPost (model prog w) A E none Q acc C) h₂ fun D Cl m out L' f s' H' hZ => ?_
  exact ⟨_, H'.ns (.head _), fun h'' hs'' => hQ D out L' _ hZ (H'.ext hs''.extBut)⟩

theorem r_AssignComp {elt target iter : Expr} {ifs : List Expr} {scope : Scope} {pos spos py : Pos} {y : Str} {cl : List (Str × Addr)} {Q : Flow → Shared → Prop} (Z : Addr → List Value → List Ent → Prop)
    (hsw : swapsWith (.ListComp elt [⟨target, iter, ifs, 0⟩] scope pos) (some (.Name y py)) spos.line env = pure true)
    (h : wpAny (model prog w) A (eval iter env) (fun x s₁ => wpAny (model prog w) A (pyIter x) (CompAsk prog w A h₀ os env cl elt target iter ifs scope pos Z) E s₁) E s)
    (hQ : ∀ D out L', Z D out L' → ∃ m L'', Put Co (NS m) (NS (putL m y (.ref D))) L' L'' ∧ ∀ s', St h₀ os ((D, LI out) :: L'') s' → Q .next s')
    (V : EV env Co onames ocells) (hclos : closureFor scope env = pure cl) (hl : onames.lookup y = some .local := by rfl) (hkind : scope.kind = .function := by rfl)
    (hnames : ∀ x ∈ scope.names, x.2 = .local → scope.names.lookup x.1 = some .local := by decide)
    (hs : ∀ x, foldedSetIterable iter env x = pure x := by intro _; rfl) :
    wpAny (model prog w) A (exec (.Assign [.Name y py] (.ListComp elt [⟨target, iter, ifs, 0⟩] scope pos) spos) env) Q E s := by
  rw [exec_Assign_Name_used _ _ _ _ hsw]
  refine wpAny_bind (wpAny_standAt (wpAny_bind ?_))
  show wpAny _ A (do let _ ← comprehension (.ListComp elt [⟨target, iter, ifs, 0⟩] scope pos) scope env _ (newList []) false (eval iter env) (some (assign (.Name y py) env))) _ _ s
  refine wpAny_bind (wpAny_mono (wpAny_comprehension_free (use := some (assign (.Name y py) env)) (Q := fun _ s' => Q .next s') rfl hs hclos hkind hnames
    (wpAny_mono h (fun xv s₁ h₁ => wpAny_mono h₁ (fun it s₂ h₂ => ?_) fun _ _ e => e) fun _ _ e => e)) (fun _ s' hq => wpAny_pure (wpAny_pure hq)) fun _ _ e => e)
  refine comp_block (RR := fun acc C => compPost (model prog w) A E (some (assign (.Name y py) env)) (fun _ s' => Q .next s') acc C) h₂ fun D Cl m out L' f s' H' hZ => ?_
  obtain ⟨m₀, L'', p, hQ⟩ := hQ D out L' hZ
  refine wpAny_assign_Name (r_sto V H' (.tail (.tail p)) (fun s'' H'' => ?_) hl)
  exact ⟨_, H''.ns (.head _), fun h'' hs'' => hQ _ (H''.ext hs''.extBut)⟩

/-- a comprehension whose tests and items leave all else as it was -/
theorem compPure {α β γ : Type} {R : Value → α → Prop} {C : List Ent → Prop} {it : Value} {J : List α → List Ent} (N : Nexts prog w R C it J) {elt target iter : Expr} {ifs : List Expr} {scope : Scope} {pos : Pos}
    {D : Addr} {env : Env} {xs : List α} (p : α → Bool) (g : α → β) (Ro : Value → β → Prop) (vent : γ → List Ent) (Va : α → γ → Prop) {Rr : Result → Shared → Prop} {c₀ : γ}
    (hh : A.handled = none) (hC : ∀ e c, C (e :: (vent c ++ L))) (hz : xs.length ≤ sizeLine)
    (has : ∀ E G c v x s, R v x → x ∈ xs → St h₀ os (G ++ (vent c ++ L)) s → wpAny (model prog w) A (assign target env v) (fun _ s' => ∃ c', Va x c' ∧ St h₀ os (G ++ (vent c' ++ L)) s') E s)
    (hte : ∀ E G c x s, Va x c → x ∈ xs → St h₀ os (G ++ (vent c ++ L)) s → wpAny (model prog w) A (testsOf ifs env) (fun ok s' => ok = p x ∧ St h₀ os (G ++ (vent c ++ L)) s') E s)
    (hel : ∀ E G c x s, Va x c → x ∈ xs → p x = true → St h₀ os (G ++ (vent c ++ L)) s → wpAny (model prog w) A (eval elt env) (fun y s' => Ro y (g x) ∧ St h₀ os (G ++ (vent c ++ L)) s') E s)
    (fin : ∀ out c s, All2 Ro out ((xs.filter p).map g) → St h₀ os ((D, LI out) :: (vent c ++ L)) s → Rr (.ok .next) s)
    (H : St h₀ os (J xs ++ (D, LI []) :: (vent c₀ ++ L)) s) (hgo : Own prog w A R it J h₀ os target := by exact own_name) :
    codeAny (model prog w) A (.compLoop (.ListComp elt [⟨target, iter, ifs, 0⟩] scope pos) 0 it (.ref D) env) Rr s := by
  refine r_compLoop N (σ := γ) (fun c => vent c ++ L) (fun rem out _ => ∃ done, xs = done ++ rem ∧ All2 Ro out ((done.filter p).map g)) hh (fun rem out c _ => hC _ c) ?_ ?_ ?_ ⟨[], rfl, .nil⟩ H hgo
  · rintro rem out c ⟨done, rfl, h⟩
    have := h.length
    rw [List.length_map] at this
    have := List.length_filter_le p done
    rw [List.length_append] at hz
    omega
  · rintro v x rem out c s hR ⟨done, hx, ho⟩ H
    have hxm : x ∈ xs := by rw [hx]; simp
    have e1 : J rem ++ (D, LI out) :: (vent c ++ L) = (J rem ++ [(D, LI out)]) ++ (vent c ++ L) := by simp
    rw [e1] at H
    refine wpAny_mono (has _ _ c v x s hR hxm H) (fun _ s₂ h₂ => ?_) fun _ _ e => e
    obtain ⟨c₂, hv, H₂⟩ := h₂
    refine wpAny_mono (hte _ _ c₂ x s₂ hv hxm H₂) (fun ok s₃ h₃ => ?_) fun _ _ e => e
    obtain ⟨rfl, H₃⟩ := h₃
    cases hp : p x with
    | true =>
      rw [if_pos rfl]
      refine wpAny_mono (hel _ _ c₂ x s₃ hv hxm hp H₃) (fun y s₄ h₄ => ?_) fun _ _ e => e
      obtain ⟨hy, H₄⟩ := h₄
      refine ⟨c₂, ⟨done ++ [x], by simp [hx], ?_⟩, by simpa using H₄⟩
      rw [List.filter_append, List.map_append]
      refine ho.append ?_
      simp only [List.filter_cons, hp, if_true, List.filter_nil, List.map_cons, List.map_nil]
      exact .cons hy .nil
    | false =>
      rw [if_neg (by simp)]
      refine ⟨c₂, ⟨done ++ [x], by simp [hx], ?_⟩, by simpa using H₃⟩
      rw [List.filter_append, List.map_append]
      simpa [List.filter_cons, hp] using ho
  · rintro out c s ⟨done, hx, ho⟩ H
    have : xs = done := by simpa using hx
    subst this
    exact fin out c s ho H
end
end Mine
end
section
open PySem PySem.W PySem.Calls PyProof.Rows
namespace Mine

/-- a node: an int or a text -/
inductive Nd where
  | i (n : Int)
  | c (x : Str)
  deriving DecidableEq
noncomputable def Nd.is : Nd → Value → Bool
  | .i n, v => Value.isInt n v
  | .c x, v => Value.isStrOf x v
theorem Nd.is_shape {k : Nd} {v : Value} (h : k.is v = true) : (∃ n t, k = .i n ∧ v = .int n t) ∨ ∃ x t, k = .c x ∧ v = .str x t := by
  cases k with
  | i n => obtain ⟨t, rfl⟩ := Value.isInt_shape h; exact .inl ⟨n, t, rfl, rfl⟩
  | c x => obtain ⟨t, rfl⟩ := Value.isStrOf_shape h; exact .inr ⟨x, t, rfl, rfl⟩
theorem Nd.is_int (n : Int) (t : Tok) : (Nd.i n).is (.int n t) = true := by simp [Nd.is, Value.isInt]
theorem Nd.is_str (x : Str) (t : Tok) : (Nd.c x).is (.str x t) = true := by simp [Nd.is, Value.isStrOf]
noncomputable def Nd.hash (w : World) : Nd → Int
  | .i n => hashInt n
  | .c x => hashStr w x

section
variable {prog : Program} {w : World} {A : Around} {E : Value → Shared → Prop} {s : Shared}
theorem eqBool_int_str {a : Int} {t : Tok} {b : Str} {u : Tok} {Q : Bool → Shared → Prop} (h : Q false s) : wpAny (model prog w) A (eqBool (.int a t) (.str b u)) Q E s := by
  unfold eqBool
  refine wpAny_holding ?_
  rw [if_neg (by simp)]
  exact wpAny_bind (EqMixed.eq_int_str (wpAny_truthy_bool h))
theorem eqBool_str_int {a : Str} {t : Tok} {b : Int} {u : Tok} {Q : Bool → Shared → Prop} (h : Q false s) : wpAny (model prog w) A (eqBool (.str a t) (.int b u)) Q E s := by
  unfold eqBool
  refine wpAny_holding ?_
  rw [if_neg (by simp)]
  exact wpAny_bind (EqMixed.eq_str_int (wpAny_truthy_bool h))
end

noncomputable def ndKind (prog : Program) (w : World) : KeyKind prog w Nd where
  is := Nd.is
  hash := Nd.hash w
  inj := fun v a b ha hb => by
    rcases Nd.is_shape ha with ⟨n, t, rfl, rfl⟩ | ⟨x, t, rfl, rfl⟩ <;> rcases Nd.is_shape hb with ⟨n', t', rfl, h⟩ | ⟨x', t', rfl, h⟩ <;> cases h <;> rfl
  byValue := fun k v h => by rcases Nd.is_shape h with ⟨n, t, rfl, rfl⟩ | ⟨x, t, rfl, rfl⟩ <;> rfl
  pyHash := fun hv h => by
    rcases Nd.is_shape hv with ⟨n, t, rfl, rfl⟩ | ⟨x, t, rfl, rfl⟩
    · exact wpAny_pyHash_int h
    · exact wpAny_pyHash_str h
  eqBool := fun hu hv h => by
    rcases Nd.is_shape hu with ⟨n, t, rfl, rfl⟩ | ⟨x, t, rfl, rfl⟩ <;> rcases Nd.is_shape hv with ⟨n', t', rfl, rfl⟩ | ⟨x', t', rfl, rfl⟩
    · exact wpAny_eqBool_int (by have e : (n == n') = decide (Nd.i n = Nd.i n') := by rw [Bool.eq_iff_iff]; simp
                                 rw [e]; exact h)
    · exact eqBool_int_str (by simpa using h)
    · exact eqBool_str_int (by simpa using h)
    · exact wpAny_eqBool_str (by simpa using h)
  «strs» := fun k x t v h => by
    rcases Nd.is_shape h with ⟨n, t', rfl, h'⟩ | ⟨x', t', rfl, h'⟩
    · cases h'
    · cases h'; cases v <;> rfl

/-- a node's value -/
noncomputable def ND (v : Value) (k : Nd) : Prop := k.is v = true
theorem ND.scan {v : Value} {k : Nd} (h : ND v k) : v.scannable = true := by rcases Nd.is_shape h with ⟨n, t, rfl, rfl⟩ | ⟨x, t, rfl, rfl⟩ <;> rfl
theorem ND.inj {v : Value} {a b : Nd} (ha : ND v a) (hb : ND v b) : a = b := by
  rcases Nd.is_shape ha with ⟨n, t, rfl, rfl⟩ | ⟨x, t, rfl, rfl⟩ <;> rcases Nd.is_shape hb with ⟨n', t', rfl, h⟩ | ⟨x', t', rfl, h⟩ <;> cases h <;> rfl

/-! dicts keyed by nodes; sets of nodes -/
noncomputable def DI (prog : Program) (w : World) (kvs : List (Nd × Value)) (o : Obj) : Prop := o.ExactDict ∧ (kvs.map (·.1)).Nodup ∧ ∃ es ep, o.data = .dict es ep ∧ KeysOf (ndKind prog w) es ∧ Pairs (ndKind prog w) es.toList kvs
noncomputable def SE (prog : Program) (w : World) (S : Nd → Bool) (n : Nat) (o : Obj) : Prop :=
  ∃ es ep t, o.ExactSet ∧ o.data = .set es ep t ∧ ElemsOf (ndKind prog w) es.toList ∧ (∀ k, S k = true ↔ ∃ e ∈ es.toList, (ndKind prog w).is k e.2 = true) ∧ es.size < scanBound ∧ t.fits es.size = true ∧ es.size = n

section
variable {prog : Program} {w : World} {A : Around} {E : Value → Shared → Prop} {h₀ : Heap} {os : OsState} {L L' : List Ent} {s : Shared} {env : Env}
theorem St.dict (H : St h₀ os L s) {d : Addr} {kvs : List (Nd × Value)} (hm : (d, DI prog w kvs) ∈ L) : s.heap.DictOf (ndKind prog w) d kvs := by
  obtain ⟨o, ho, hx, hn, es, ep, hd, hk, hp⟩ := H.get hm; exact ⟨o, es, ep, ho, hx, hd, hk, hp, hn⟩
theorem DI.of {h : Heap} {d : Addr} {kvs : List (Nd × Value)} (x : h.DictOf (ndKind prog w) d kvs) : ∃ o, h.get? d = some o ∧ DI prog w kvs o := by
  obtain ⟨o, es, ep, ho, hx, hd, hk, hp, hn⟩ := x; exact ⟨o, ho, hx, hn, es, ep, hd, hk, hp⟩
theorem St.set (H : St h₀ os L s) {d : Addr} {S : Nd → Bool} {n : Nat} (hm : (d, SE prog w S n) ∈ L) : s.heap.SetOf (ndKind prog w) d S n := by
  obtain ⟨o, ho, es, ep, t, r⟩ := H.get hm; exact ⟨o, es, ep, t, ho, r⟩
theorem SE.of {h : Heap} {d : Addr} {S : Nd → Bool} {n : Nat} (x : h.SetOf (ndKind prog w) d S n) : ∃ o, h.get? d = some o ∧ SE prog w S n o := by
  obtain ⟨o, es, ep, t, ho, r⟩ := x; exact ⟨o, ho, es, ep, t, r⟩

theorem DI.nil : DI prog w [] { cls := .type "dict", data := .dict #[] } := ⟨⟨rfl, rfl, rfl⟩, List.nodup_nil, #[], 0, rfl, fun _ h => by simp at h, .nil⟩

theorem r_dget {d : Addr} {kvs : List (Nd × Value)} {k : Nd} {key : Value} {Q : Value → Shared → Prop} (H : St h₀ os L s) (hm : (d, DI prog w kvs) ∈ L) (hk : ND key k)
    (h : ∀ s', St h₀ os L s' → Q ((valueAt kvs k).getD .none) s') : wpAny (model prog w) A (call (.builtin "dict.get") [.ref d, key]) Q E s :=
  call_meetsIn F.slot_dict_get (H.dict hm).typeIs F.entry_dict_get (F.args_dict_get_2 _ _) (meets_dict_get (ndKind prog w) d hk (H.notSys hm)) ⟨_, (H.dict hm).mapOf, h _ (H.toks _)⟩
theorem r_dgetItem {d : Addr} {kvs : List (Nd × Value)} {k : Nd} {key v : Value} {Q : Value → Shared → Prop} (H : St h₀ os L s) (hm : (d, DI prog w kvs) ∈ L) (hk : ND key k) (hv : valueAt kvs k = some v)
    (h : ∀ s', St h₀ os L s' → Q v s') : wpAny (model prog w) A (getItem (.ref d) key) Q E s :=
  wpAny_getItem_of (knd := ndKind prog w) hk (H.dict hm).mapOf hv (h _ (H.toks _))
theorem r_dset {d : Addr} {kvs : List (Nd × Value)} {k : Nd} {key v : Value} {Q : Unit → Shared → Prop} (H : St h₀ os L s) (p : Put d (DI prog w kvs) (DI prog w (stored kvs k v)) L L') (hk : ND key k)
    (h : ∀ s', St h₀ os L' s' → Q () s') (hz : kvs.length ≤ sizeLine) : wpAny (model prog w) A (setItem (.ref d) key v) Q E s :=
  wpAny_setItem_pairs (knd := ndKind prog w) hk (H.dict p.mem) (fun h' hm' hs => by obtain ⟨o, ho, ho'⟩ := DI.of hm'; exact h _ ((H.put p hs ho ho').toks _)) hz
theorem r_din {d : Addr} {kvs : List (Nd × Value)} {k : Nd} {key : Value} {Q : Value → Shared → Prop} (H : St h₀ os L s) (hm : (d, DI prog w kvs) ∈ L) (hk : ND key k)
    (h : ∀ s', St h₀ os L s' → Q (.bool (valueAt kvs k).isSome) s') : wpAny (model prog w) A (compareOp .In key (.ref d)) Q E s :=
  wpAny_in_of (knd := ndKind prog w) hk (H.notSys hm) (H.dict hm).mapOf (h _ (H.toks _))
theorem r_ddel {d : Addr} {kvs : List (Nd × Value)} {k : Nd} {key : Value} {Q : Unit → Shared → Prop} (H : St h₀ os L s) (p : Put d (DI prog w kvs) (DI prog w (without kvs k)) L L') (hk : ND key k) (hv : (valueAt kvs k).isSome = true)
    (h : ∀ s', St h₀ os L' s' → Q () s') (hz : kvs.length ≤ sizeLine) : wpAny (model prog w) A (delItem (.ref d) key) Q E s := by
  have hT := (H.dict p.mem).typeIs
  refine wpAny_delItem_slot hT (by decide) F.slot_dict_delitem ?_
  refine call_meetsIn F.slot_dict_delitem hT F.entry_dict_delitem (F.args_dict_delitem_2 _ _) (meets_dict_delitem_pairs (ndKind prog w) d hk) ⟨_, H.dict p.mem, hz, hv, fun h' hm' hs => ?_⟩
  obtain ⟨o, ho, ho'⟩ := DI.of hm'
  exact h _ ((H.put p hs ho ho').toks _)

theorem r_inSet {d : Addr} {S : Nd → Bool} {n : Nat} {k : Nd} {key : Value} {Q : Value → Shared → Prop} (H : St h₀ os L s) (hm : (d, SE prog w S n) ∈ L) (hk : ND key k)
    (h : ∀ s', St h₀ os L s' → Q (.bool (S k)) s') : wpAny (model prog w) A (compareOp .In key (.ref d)) Q E s :=
  wpAny_inSet_of (knd := ndKind prog w) hk hk.scan (H.set hm) (h _ (H.toks _))
theorem r_setAdd {d : Addr} {S : Nd → Bool} {n : Nat} {k : Nd} {key : Value} {Q : Value → Shared → Prop} (H : St h₀ os L s) (p : Put d (SE prog w S n) (SE prog w (fun k' => S k' || decide (k' = k)) (if S k then n else n + 1)) L L') (hk : ND key k)
    (h : ∀ s', St h₀ os L' s' → Q .none s') (hz : n + 1 < scanBound) : wpAny (model prog w) A (call (.builtin "set.add") [.ref d, key]) Q E s :=
  call_set_add (knd := ndKind prog w) hk hk.scan (H.set p.mem) hz fun h' hs hm' => by obtain ⟨o, ho, ho'⟩ := SE.of hm'; exact h _ ((H.put p hs ho ho').toks _)
theorem SE.nil (led : Bool) : SE prog w (fun _ => false) 0 { cls := .type "set", dict := none, data := .set #[] 0 (.fresh 0 0 led) } :=
  ⟨#[], 0, .fresh 0 0 led, ⟨rfl, rfl, rfl⟩, rfl, fun _ h => by simp at h, fun k => by simp, by decide, by rfl, rfl⟩
theorem r_newSet {Q : Value → Shared → Prop} (H : St h₀ os L s) (h : ∀ a s', St h₀ os ((a, SE prog w (fun _ => false) 0) :: L) s' → Q (.ref a) s') : wpAny (model prog w) A (call (.type "set") []) Q E s :=
  call_set_0 fun led => h _ _ (H.push rfl (SE.nil led))
end
end Mine
end
section
open PySem PySem.W PySem.Calls PyProof.Rows Builtin Builtin.ObjectAttr
namespace Mine

noncomputable def INST (C dx : Addr) (sl : Array (Option Value)) (o : Obj) : Prop := o = { cls := .ref C, dict := some dx, data := .plain, slots := sl }

theorem NS.lookIn {m : List (Str × Value)} {o : Obj} (h : NS m o) (name : Str) : lookIn name o = some (m.lookup name) := by
  obtain ⟨es, n, hd, hk, hf⟩ := h
  have hany : (es.toList.any (·.refKey)) = false := by
    rw [List.any_eq_false]; intro e he
    obtain ⟨x, t, h⟩ := hk e (Array.mem_toList_iff.mp he)
    simp [DictEntry.refKey, h]
  have := hf name
  unfold nsFind findBy at this
  unfold PySem.W.lookIn
  rw [hd]
  dsimp only
  rw [← Array.find?_toList] at this
  cases hx : es.toList.find? (fun e => e.key.isStr name) with
  | some e => rw [hx] at this; simp at this; dsimp only; rw [← this]
  | none =>
    rw [hx] at this
    simp only [Option.map_none] at this
    dsimp only
    rw [hany]
    simp [← this]

/-- an object's dict, entry by entry -/
noncomputable def EK (e : DictEntry) (p : Str × Value) : Prop := (∃ t, e.key = .str p.1 t) ∧ e.val = p.2
noncomputable def ID (m : List (Str × Value)) (o : Obj) : Prop := ∃ es n, o = dictOf es n ∧ All2 EK es m
theorem EK.isStr {e : DictEntry} {p : Str × Value} (h : EK e p) (x : Str) : e.key.isStr x = (x == p.1) := by
  obtain ⟨⟨t, ht⟩, _⟩ := h
  rw [ht]
  show (p.1 == x) = (x == p.1)
  rw [Bool.eq_iff_iff]; simp; exact eq_comm
theorem ek_put {name : Str} {h : Int} {t : Tok} {v : Value} {es : List DictEntry} {m : List (Str × Value)} (r : All2 EK es m) : All2 EK (PySem.W.putL name h (.str name t) v es) (Mine.putL m name v) := by
  induction r with
  | nil => exact .cons ⟨⟨t, rfl⟩, rfl⟩ .nil
  | @cons e p es m hk hr ih =>
    unfold PySem.W.putL Mine.putL
    rw [hk.isStr]
    cases hx : name == p.1 with
    | true =>
      simp only [if_true]
      have : name = p.1 := by simpa using hx
      refine .cons ⟨?_, rfl⟩ hr
      obtain ⟨⟨t, ht⟩, _⟩ := hk
      exact ⟨t, by rw [this]; exact ht⟩
    | false =>
      simp only [Bool.false_eq_true, if_false]
      exact .cons hk ih
theorem ek_find {es : List DictEntry} {m : List (Str × Value)} (r : All2 EK es m) (x : Str) : (es.find? fun e => e.key.isStr x).map (·.val) = m.lookup x := by
  induction r with
  | nil => rfl
  | @cons e p es m hk hr ih =>
    rw [List.find?_cons, List.lookup_cons, hk.isStr]
    cases hx : x == p.1 with
    | true => simp [hk.2]
    | false => exact ih
theorem ID.ns {m : List (Str × Value)} {o : Obj} (h : ID m o) : NS m o := by
  obtain ⟨es, n, rfl, r⟩ := h
  refine ⟨es.toArray, n, rfl, fun e he => ?_, fun x => ?_⟩
  · obtain ⟨i, hi⟩ := List.getElem?_of_mem (show e ∈ es by simpa using he)
    obtain ⟨p, _, ⟨t, ht⟩, _⟩ := r.get' hi
    exact ⟨p.1, t, ht⟩
  · unfold nsFind findBy
    rw [← ek_find r x]; simp
theorem ID.nil : ID [] emptyDict := ⟨[], 0, rfl, .nil⟩
theorem putL_len (m : List (Str × Value)) (x : Str) (v : Value) : (Mine.putL m x v).length ≤ m.length + 1 := by
  induction m with
  | nil => simp [Mine.putL]
  | cons p r ih => unfold Mine.putL; split <;> simp <;> omega

section
variable {prog : Program} {w : World} {A : Around} {E : Value → Shared → Prop} {h₀ : Heap} {os : OsState} {L L' : List Ent} {s : Shared} {env : Env} {K : Frag} {x C dx : Addr} {sl : Array (Option Value)} {m : List (Str × Value)} {name : Str}

theorem St.frag (H : St h₀ os L s) (X : K.In h₀) : K.In s.heap := X.keeps H.keep
theorem St.inst (H : St h₀ os L s) (hx : (x, INST C dx sl) ∈ L) (hd : (dx, ID m) ∈ L) : ∃ od, NS m od ∧ InstAt s.heap x ⟨.ref C, some dx, .plain, sl⟩ C (some od) := by
  obtain ⟨o, ho, rfl⟩ := H.get hx
  obtain ⟨od, hod, hn⟩ := H.get hd
  exact ⟨od, hn.ns, ho, rfl, rfl, hod⟩

/-- an attribute that the object's dict bears -/
theorem r_getD {expr : Bool} {v : Value} {attr : Option Value} {Q : Value → Shared → Prop} (H : St h₀ os L s) (X : K.In h₀) (hx : (x, INST C dx sl) ∈ L) (hd : (dx, ID m) ∈ L) (hg : plainGet K C name = true) (hh : hasDictIn K C = true)
    (ha : findIn K (.ref C) name = some attr) (hn : noGet K attr = true) (hl : m.lookup name = some v) (hv : handedIn v = true) (h : ∀ s', St h₀ os L s' → Q v s') :
    wpAny (model prog w) A (getAttr (.ref x) name expr) Q E s := by
  obtain ⟨od, hn', I⟩ := H.inst hx hd
  exact get_value (H.frag X) I (plainGet_of hg).1 (findObj_own hh ha hn (by rw [hn'.lookIn, hl])) hv (h _ (H.toks _))

/-- a slot read -/
theorem r_getS {expr : Bool} {v : Value} {p i : Nat} {Q : Value → Shared → Prop} (H : St h₀ os L s) (X : K.In h₀) (hx : (x, INST C dx sl) ∈ L) (hd : (dx, ID m) ∈ L) (hg : plainGet K C name = true)
    (hc : (clsIn K C).isSome = true) (ha : findIn K (.ref C) name = some (some (.ref p))) (hsp : specialIn K (.ref p) "__get__" = some (some (.builtin "member_descriptor.__get__"))) (ht : takesIn K (.ref p) = some true)
    (hp : slotIn K p C = some i) (hl : (sl[i]?).join = some v) (hv : handedIn v = true) (h : ∀ s', St h₀ os L s' → Q v s') :
    wpAny (model prog w) A (getAttr (.ref x) name expr) Q E s := by
  obtain ⟨od, hn', I⟩ := H.inst hx hd
  refine get_bind (H.frag X) I (plainGet_of hg).1 (findObj_data hc ha hsp ht) (plainGet_of hg).2 (wpAny_call ?_)
  exact slot_get (s := { s with toks := s.toks + 1 }) (H.frag X) I hp hl (handed_on hv (h _ (H.toks _)))

/-- a store into the object's dict -/
theorem r_setD {v : Value} {Q : Unit → Shared → Prop} (H : St h₀ os L s) (X : K.In h₀) (hx : (x, INST C dx sl) ∈ L) (p : Put dx (ID m) (ID (Mine.putL m name v)) L L')
    (hs : findIn K (.ref C) "__setattr__" = some (some (.builtin "object.__setattr__"))) (hp : plainOver K C = true) (ht : takerIn K C name = some none) (hh : hasDictIn K C = true) (hz : m.length ≤ 1000)
    (h : ∀ s', St h₀ os L' s' → Q () s') : wpAny (model prog w) A (setAttr (.ref x) name v) Q E s := by
  obtain ⟨od, hn', I⟩ := H.inst hx p.mem
  refine set_plain (H.frag X) I hs ?_
  have H1 := H.toks (s.toks + 1)
  obtain ⟨od, hn', I⟩ := H1.inst hx p.mem
  refine osa_open (H1.frag X) I hp ht fun b => ?_
  obtain ⟨cd, hc, hd'⟩ := any_some hh
  obtain ⟨hx', hcl, hn, -⟩ := I
  refine wpAny_bind (wpAny_pure (wpAny_bind (wpAny_bind (wpAny_loadPart hx' (wpAny_bind ((looks_clsIn (H1.frag X) hc).here ?_))))))
  rw [hd']
  refine wpAny_pure (a := some dx) (wpAny_bind (wpAny_pure (wpAny_bind ?_)))
  obtain ⟨od, hod, es, n, rfl, hr⟩ := H1.get p.mem
  unfold nsSet
  refine wpAny_bind (wpAny_bind (wpAny_askSetting (wpAny_pure (wpAny_bind (wpAny_mkText (wpAny_bind (wpAny_loadPart hod ?_)))))))
  dsimp only
  have hany : (es.toArray.any (·.refKey)) = false := by
    rw [← Array.any_toList, List.any_eq_false]; intro e he
    obtain ⟨i, hi⟩ := List.getElem?_of_mem (show e ∈ es by simpa using he)
    obtain ⟨q, _, ⟨t, ht⟩, _⟩ := hr.get' hi
    simp [DictEntry.refKey, ht]
  rw [aRefKeyMayBeTheName_at, hany, Bool.and_false]
  refine wpAny_updatePart hod ?_
  have e2 := putName_dict name (if name.cps.isEmpty then 0 else reduceHash (w.params.strHash name.cps)) (.str name (s.toks + 1)) v es n
  have hr' : All2 EK (PySem.W.putL name (if name.cps.isEmpty then 0 else reduceHash (w.params.strHash name.cps)) (.str name (s.toks + 1)) v es) (Mine.putL m name v) := ek_put hr
  have hlen := hr'.length
  have hlen2 := putL_len m name v
  have H2 := H1.toks (s.toks + 1 + 1)
  have H3 := H2.upd (f := Obj.putName name (if name.cps.isEmpty then 0 else reduceHash (w.params.strHash name.cps)) (.str name (s.toks + 1)) v) p hod (by rw [e2]; rfl) (by rw [e2]; exact ⟨_, _, rfl, hr'⟩)
  obtain ⟨o', ho', es', n', rfl, hr2⟩ := H3.get p.mem'
  refine wpAny_bind (wpAny_lookBehind ho' ?_ (wpAny_pure (h _ H3)))
  have := hr2.length
  exact pastItsLine_dict (by rw [List.size_toArray, sizeLine_eq]; omega)

/-- a store into a slot -/
theorem r_setS {v : Value} {p i : Nat} {Q : Unit → Shared → Prop} (H : St h₀ os L s) (X : K.In h₀) (hd : (dx, ID m) ∈ L)
    (pt : Put x (INST C dx sl) (INST C dx ((sl ++ Array.replicate (i + 1 - sl.size) none).setIfInBounds i (some v))) L L')
    (hs : findIn K (.ref C) "__setattr__" = some (some (.builtin "object.__setattr__"))) (hp : plainOver K C = true) (ht : takerIn K C name = some (some (.ref p)))
    (hT : typeIn K (.ref p) = some (.type "member_descriptor")) (hsl : slotIn K p C = some i) (hi : i < 1000)
    (h : ∀ s', St h₀ os L' s' → Q () s') : wpAny (model prog w) A (setAttr (.ref x) name v) Q E s := by
  obtain ⟨od, hn', I⟩ := H.inst pt.mem hd
  refine set_plain (H.frag X) I hs ?_
  have H1 := H.toks (s.toks + 1)
  generalize ({ s with toks := s.toks + 1 } : Shared) = s1 at H1
  obtain ⟨od, hn', I⟩ := H1.inst pt.mem hd
  refine osa_descr KF.slot_mset (H1.frag X) I hp ht hT ?_
  have X1 := H1.frag X
  obtain ⟨n, tn, owner, behind, tb, d, sl', cd, ho, hc, hm, hb, rfl⟩ := slot_of X1 hsl
  have fin : s1.heap.get? x = some ⟨.ref C, some dx, .plain, sl⟩ → Q () { s1 with heap := s1.heap.update x (fun o : Obj => ({ o with slots := (o.slots ++ Array.replicate (cd.slotNames.length - 1 - behind.toNat + 1 - o.slots.size) none).setIfInBounds (cd.slotNames.length - 1 - behind.toNat) (some v) } : Obj)) } :=
    fun hx => h _ (H1.upd (f := fun o : Obj => ({ o with slots := (o.slots ++ Array.replicate (cd.slotNames.length - 1 - behind.toNat + 1 - o.slots.size) none).setIfInBounds (cd.slotNames.length - 1 - behind.toNat) (some v) } : Obj)) pt hx (by rfl) (by rfl))
  obtain ⟨hh, g, dr, t, os'⟩ := s1
  have L0 := I.type (M := model prog w)
  have L1 := looks_mroIn (M := model prog w) X1 hm
  have L2 : Looks (model prog w) hh (Slots.slotNamesOf (.ref C)) cd.slotNames := (looks_clsIn X1 hc).andThen .now
  have hx := I.at_
  dsimp only at ho hx L0 L1
  have f0 := looks_field (M := model prog w) ho 0 (v := .str n tn) rfl
  have f1 := looks_field (M := model prog w) ho 1 (v := owner) rfl
  have f3 := looks_field (M := model prog w) ho 3 (v := .builtin "proto.slot#set") rfl
  have f4 := looks_field (M := model prog w) ho 4 (v := .int behind tb) rfl
  refine codeAny_call_builtin KF.slot_mset.plain KF.entry_mset (KF.slot_mset.check _ _ _ _ _ _ _ _ ⟨_, ho, rfl⟩ (KF.args_mset _ _ _) ?_)
  unfold Builtin.«member_descriptor.__set__» Getset_descriptor.descrSet Getset_descriptor.descrStoreThrough Getset_descriptor.descrCheckInstance Getset_descriptor.descrNameAndClass isInstance
  have f5 : Looks (model prog w) hh (Getset_descriptor.descrItself (.ref p)) [.ref p] := ((Looks.ld (part := none) ho).andThen .now).andThen (Looks.of_pure (by kernel_rfl))
  repeat lk
  refine ⟨Code.quiet_builtin _ (by decide +kernel), codeAny_builtin KF.entry_slotset ?_⟩
  unfold Builtin.«proto.slot#set» Slots.target
  repeat lk
  rw [if_neg hb]
  refine wpAny_pure (wpAny_bind ?_)
  unfold setSlotAt
  dsimp only
  rw [if_neg (by rw [sizeLine_eq]; omega)]
  exact wpAny_updatePart hx (wpAny_pure (fin hx))

/-- an object made -/
theorem r_make {rest : List Value} {kw : List (Str × Value)} {fI : Addr} {R : Result → Shared → Prop} (H : St h₀ os L s) (X : K.In h₀) (hm : makesIn K C = true) (hi : findIn K (.ref C) "__init__" = some (some (.ref fI))) (hf : typeIn K (.ref fI) = some (.type "function"))
    (h : ∀ x dx s', St h₀ os ((x, INST C dx #[]) :: (dx, ID []) :: L) s' →
      codeAny (model prog w) (A.under (.builtin "type.__call__" ⟨.ref C :: rest, kw⟩)) (.call (.ref fI) ⟨.ref x :: rest, kw⟩) (InitBack x R) s') :
    codeAny (model prog w) A (.call (.ref C) ⟨rest, kw⟩) R s := by
  have X1 := H.frag X
  obtain ⟨hh, g, d, t, os'⟩ := s
  refine make_core (makes_of X1 hm) (looks_findIn X1 hi) (fun self => bind_fn X1 self hf) (.inl rfl) ?_
  have H2 := (H.push (o := emptyDict) (P := ID []) rfl ID.nil).push (o := instObj C hh.objs.size) (P := INST C hh.objs.size #[]) rfl rfl
  have e : (({ (⟨hh, g, d, t, os'⟩ : Shared) with heap := hh.push emptyDict } : Shared).heap.objs.size) = hh.objs.size + 1 := Heap.size_push ..
  rw [e] at H2
  exact h _ _ _ H2

/-- a method of the object's class, in the call's form -/
theorem r_meth {f : Addr} {pl : Sem Bool} {Q : Value × List Value → Shared → Prop} (H : St h₀ os L s) (X : K.In h₀) (hx : (x, INST C dx sl) ∈ L) (hd : (dx, ID m) ∈ L) (hg : plainGet K C name = true)
    (hf : findIn K (.ref C) name = some (some (.ref f))) (ht : typeIn K (.ref f) = some (.type "function")) (hl : m.lookup name = none) (h : Q (.ref f, [.ref x]) s) :
    wpAny (model prog w) A (getMethod (.ref x) name pl) Q E s := by
  obtain ⟨od, hn', I⟩ := H.inst hx hd
  exact method_fn (H.frag X) I (plainGet_of hg).1 (plainGet_of hg).2 hf ht (by show Option.map _ (PySem.W.lookIn name od) = _; rw [hn'.lookIn, hl]; rfl) h

noncomputable def METH (f self : Value) (o : Obj) : Prop := o = methodObj f self
/-- a method of the object's class, bound -/
theorem r_bound {f : Addr} {expr : Bool} {Q : Value → Shared → Prop} (H : St h₀ os L s) (X : K.In h₀) (hx : (x, INST C dx sl) ∈ L) (hd : (dx, ID m) ∈ L) (hg : plainGet K C name = true) (hh : hasDictIn K C = true)
    (ha : findIn K (.ref C) name = some (some (.ref f))) (hf : typeIn K (.ref f) = some (.type "function")) (hgf : specialIn K (.ref f) "__get__" = some (some (.builtin "function.__get__"))) (ht : takesIn K (.ref f) = some false)
    (hc : copiedNames.contains name = false) (hl : m.lookup name = none) (h : ∀ q s', St h₀ os ((q, METH (.ref f) (.ref x)) :: L) s' → Q (.ref q) s') :
    wpAny (model prog w) A (getAttr (.ref x) name expr) Q E s := by
  obtain ⟨od, hn', I⟩ := H.inst hx hd
  refine get_bind (H.frag X) I (plainGet_of hg).1 (findObj_fn hh ha hgf ht hc (by rw [hn'.lookIn, hl])) (plainGet_of hg).2 (wpAny_call ?_)
  exact fn_get (s := { s with toks := s.toks + 1 }) (H.frag X) hf (handed_on rfl (h _ _ ((H.toks _).push rfl rfl)))
end
end Mine
end
section
open PySem PySem.W PySem.Calls PyProof.Rows
namespace Mine

/-- the arguments one by one -/
@[reducible] noncomputable def wpL (M : Model) (A : Around) (env : Env) (E : Value → Shared → Prop) : List Expr → (List Value → Shared → Prop) → Shared → Prop
  | [], Q, s => Q [] s
  | e :: r, Q, s => wpAny M A (eval e env) (fun v s₁ => wpL M A env E r (fun vs s₂ => Q (v :: vs) s₂) s₁) E s

noncomputable def Keeps (M : Model) (h₀ : Heap) (f : Value) : Prop := ∀ h : Heap, (∀ b o, h₀.get? b = some o → h.get? b = some o) → ∃ k, (k = Keeper.frame ∨ k = Keeper.machine ∨ k = Keeper.boundFrame) ∧ Looks M h (keeperOf f) k

section
variable {prog : Program} {w : World} {M : Model} {A : Around} {E : Value → Shared → Prop} {h₀ : Heap} {os : OsState} {L L' : List Ent} {s : Shared} {env : Env}

theorem keeps_builtin (id : String) : Keeps M h₀ (.builtin id) := fun _ _ => ⟨.machine, .inr (.inl rfl), Looks.of_pure rfl⟩
theorem keeps_type (T : String) : Keeps M h₀ (.type T) := fun _ _ => ⟨.machine, .inr (.inl rfl), Looks.of_pure rfl⟩
theorem keeps_frag {K : Frag} {f : Value} (X : K.In h₀) (hk : keepIn K f = true) : Keeps M h₀ f := fun _ k => keeps_K hk _ (X.keeps k)

theorem starEach_plain {e : Expr} {r : List Expr} (h : isStarred e = false) : starEach (e :: r) env = (false, eval e env) :: starEach r env := by
  cases e <;> first | rfl | cases h
theorem wpL_spliced {pos : Pos} : ∀ {es : List Expr} {Q : List Value → Shared → Prop} {s : Shared}, (es.all fun e => !isStarred e) = true → wpL M A env E es Q s → wpAny M A (spliced (backTo pos (starEach es env))) Q E s
  | [], _, _, _, h => spliced_nil h
  | e :: r, Q, s, hs, h => by
    rw [List.all_cons, Bool.and_eq_true] at hs
    rw [starEach_plain (by simpa using hs.1)]
    show wpAny M A (spliced ((false, eval e env) :: backTo pos (starEach r env))) Q E s
    exact spliced_cons (wpAny_mono h (fun v s₁ h₁ => wpL_spliced hs.2 h₁) fun _ _ x => x)
theorem wpL_args {pos : Pos} {f : Value} {es : List Expr} {Q : Args → Shared → Prop} (hs : (es.all fun e => !isStarred e) = true) (h : wpL M A env E es (fun vs s' => Q ⟨vs, []⟩ s') s) : wpAny M A (evalArgs f true (backTo pos (starEach es env)) []) Q E s := by
  cases es with
  | nil => exact evalArgs_nil3 h
  | cons e r =>
    have h' := wpL_spliced (pos := pos) hs h
    rw [List.all_cons, Bool.and_eq_true] at hs
    rw [starEach_plain (by simpa using hs.1)] at h' ⊢
    exact evalArgs_plain h'
theorem plain_any {pos : Pos} : ∀ {es : List Expr}, (es.all fun e => !isStarred e) = true → (backTo pos (starEach es env)).any (·.1) = false
  | [], _ => rfl
  | e :: r, hs => by
    rw [List.all_cons, Bool.and_eq_true] at hs
    rw [starEach_plain (by simpa using hs.1)]
    show (false || (backTo pos (starEach r env)).any (·.1)) = false
    rw [plain_any hs.2]; rfl

/-- a call with plain arguments -/
theorem r_cw {f : Value} {first : List Value} {pos : Pos} {es : List Expr} {Q : Value → Shared → Prop} (_H : St h₀ os L s) (Kp : Keeps M h₀ f)
    (h : wpL M A env E es (fun vs s₁ => ∃ L, St h₀ os L s₁ ∧ wpAny M A (call f (first ++ vs)) Q E s₁) s) (hs : (es.all fun e => !isStarred e) = true := by rfl) :
    wpAny M A (callWith pos f first (backTo pos (starEach es env)) []) Q E s := by
  refine callWith_of (P := fun h => ∀ b o, h₀.get? b = some o → h.get? b = some o) (by rw [plain_any hs]; rfl) (fun h k => Kp h k) (wpL_args hs ?_)
  have mono : ∀ (es : List Expr) (Q Q' : List Value → Shared → Prop) (s : Shared), (∀ vs s, Q vs s → Q' vs s) → wpL M A env E es Q s → wpL M A env E es Q' s := by
    intro es
    induction es with
    | nil => intro Q Q' s hq h; exact hq _ _ h
    | cons e r ih => intro Q Q' s hq h; exact wpAny_mono h (fun v s₁ h₁ => ih _ _ _ (fun vs s => hq _ _) h₁) fun _ _ x => x
  refine mono _ _ _ _ (fun vs s₁ q => ?_) h
  obtain ⟨L, H, q⟩ := q
  exact ⟨H.keep, q⟩

/-- a call by a name -/
theorem r_callN {x : Str} {np pos : Pos} {es : List Expr} {Q : Value → Shared → Prop} (h : wpAny M A (eval (.Name x np) env) (fun f s₁ => wpAny M A (callWith pos f [] (backTo pos (starEach es env)) []) Q E s₁) E s) :
    wpAny M A (eval (.Call (.Name x np) es [] pos) env) Q E s := wpAny_Call_NameR h

/-- a method call without a star -/
theorem r_callM {o : Expr} {name : Str} {apos pos : Pos} {es : List Expr} {Q : Value → Shared → Prop}
    (h : wpAny M A (eval o env) (fun ov s₁ => wpAny M A (getMethod ov name (do return (← importBound o env).getD true)) (fun f s₂ => wpAny M A (callWith pos f.1 f.2 (backTo pos (starEach es env)) []) Q E s₂) E s₁) E s)
    (hbase : attributeBase o name env (eval o env) = eval o env := by rfl) (hfew : methodCallForm (es.length + 0) (backTo pos (starEach es env)) [] = true := by rfl) (hline : (apos.endLine == pos.line) = true := by rfl) :
    wpAny M A (eval (.Call (.Attribute o name apos) es [] pos) env) Q E s := by
  rw [arm_eval_Call, hbase]
  refine wpAny_bind (wpAny_mono h (fun ov s₁ h₁ => wpAny_bind (wpAny_standAt ?_)) fun _ _ x => x)
  show wpAny M A (methodCall o name apos pos env ov (es.length + 0) (backTo pos (starEach es env)) []) Q E s₁
  unfold methodCall
  rw [hfew]
  refine wpAny_bind (wpAny_holding ?_)
  show wpAny M A (getMethod ov name _) _ E s₁
  refine wpAny_mono h₁ (fun f s₂ h₂ => ?_) fun _ _ x => x
  unfold methodCallPos
  rw [hline]
  exact wpAny_bind (wpAny_pure h₂)
/-- a method call with a star -/
theorem r_callMS {o : Expr} {name : Str} {apos pos : Pos} {es : List Expr} {Q : Value → Shared → Prop}
    (h : wpAny M A (eval o env) (fun ov s₁ => wpAny M A (getAttr ov name true) (fun f s₂ => wpAny M A (callWith pos f [] (backTo pos (starEach es env)) []) Q E s₂) E s₁) E s)
    (hbase : attributeBase o name env (eval o env) = eval o env := by rfl) (hfew : methodCallForm (es.length + 0) (backTo pos (starEach es env)) [] = false := by rfl) :
    wpAny M A (eval (.Call (.Attribute o name apos) es [] pos) env) Q E s := by
  rw [arm_eval_Call, hbase]
  refine wpAny_bind (wpAny_mono h (fun ov s₁ h₁ => wpAny_bind (wpAny_standAt ?_)) fun _ _ x => x)
  show wpAny M A (methodCall o name apos pos env ov (es.length + 0) (backTo pos (starEach es env)) []) Q E s₁
  unfold methodCall
  rw [hfew]
  refine wpAny_bind (wpAny_holding ?_)
  show wpAny M A (do pure (← getAttr ov name true, [])) _ E s₁
  refine wpAny_bind (wpAny_mono h₁ (fun f s₂ h₂ => wpAny_pure ?_) fun _ _ x => x)
  unfold methodCallPos
  exact wpAny_bind (wpAny_pure h₂)

/-! ints -/
theorem r_add {a b : Int} {t u : Tok} {Q : Value → Shared → Prop} (H : St h₀ os L s) (h : ∀ t s', St h₀ os L s' → Q (.int (a + b) t) s') : wpAny (model prog w) A (binaryOp .Add (.int a t) (.int b u)) Q E s := PyProof.Rows.add_int (h _ _ (H.toks _))
theorem r_mod {a b : Int} {t u : Tok} {Q : Value → Shared → Prop} (H : St h₀ os L s) (hb : 0 < b) (h : ∀ t s', St h₀ os L s' → Q (.int (a % b) t) s') : wpAny (model prog w) A (binaryOp .Mod (.int a t) (.int b u)) Q E s := by
  refine mod_int' (by omega) ?_
  rw [Int.fmod_eq_emod_of_nonneg _ (by omega)]
  exact h _ _ (H.toks _)
theorem r_div {a b : Int} {t u : Tok} {Q : Value → Shared → Prop} (H : St h₀ os L s) (hb : 0 < b) (hb2 : b < 1073741824) (h : ∀ t s', St h₀ os L s' → Q (.int (a / b) t) s') : wpAny (model prog w) A (binaryOp .FloorDiv (.int a t) (.int b u)) Q E s := by
  refine floordiv_int (by omega) ?_ (.inl (PyProof.noPylong_small (by omega)))
  rw [Int.fdiv_eq_ediv_of_nonneg _ (by omega)]
  exact h _ _ (H.toks _)
theorem r_pow2 {k : Nat} {t u : Tok} {Q : Value → Shared → Prop} (H : St h₀ os L s) (hk : k ≤ 1000) (h : ∀ t s', St h₀ os L s' → Q (.int (2 ^ k) t) s') : wpAny (model prog w) A (binaryOp .Pow (.int 2 t) (.int k u)) Q E s := by
  refine pow_int_small (by omega) (by omega) (by decide) ?_
  rw [Int.toNat_natCast]
  exact h _ _ (H.toks _)
theorem r_eqI {a b : Int} {t u : Tok} {Q : Value → Shared → Prop} (h : Q (.bool (a == b)) s) : wpAny (model prog w) A (compareOp .Eq (.int a t) (.int b u)) Q E s := PyProof.Rows.eq_int h

/-- the test of an if, an if-expression -/
theorem r_cmp1 {l r : Expr} {op : CmpOp} {pos : Pos} {whole : Sem Value} {Q : Bool → Shared → Prop}
    (h : wpAny M A (eval l env) (fun a s₁ => wpAny M A (eval r env) (fun b s₂ => wpAny M A (compareOp op a b) (fun c s₃ => wpAny M A (truthy c) Q E s₃) E s₂) E s₁) E s)
    (hm : behindInMarks op r = false := by with_unfolding_all rfl) : wpAny M A (isTrue (.Compare l [op] [r] pos) env whole) Q E s := wpAny_isTrue_Compare1 h hm
end
end Mine
end
section
open PySem PySem.W PySem.Calls PyProof.Rows
namespace Mine
section
variable {prog : Program} {w : World} {A : Around} {E : Value → Shared → Prop} {h₀ : Heap} {os : OsState} {L L' : List Ent} {s : Shared} {env : Env}
theorem St.bring (n : Nat) {e : Ent} (H : St h₀ os L s) (h : L[n]? = some e := by rfl) : St h₀ os (e :: L.eraseIdx n) s := by
  refine H.perm ?_
  obtain ⟨hn, rfl⟩ := List.getElem?_eq_some_iff.mp h
  have e : L = L.take n ++ L[n] :: L.drop (n + 1) := by rw [List.getElem_cons_drop, List.take_append_drop]
  rw [List.eraseIdx_eq_take_drop_succ]
  exact (List.Perm.of_eq e).trans List.perm_middle

theorem r_mdict {name : Str} {id : String} {d : Addr} {kvs : List (Nd × Value)} {pl : Sem Bool} {Q : Value × List Value → Shared → Prop} (slot : Slot "dict" name id) (hty : typeOf (.builtin id) = pure (.type "method_descriptor")) (H : St h₀ os L s) (hm : (d, DI prog w kvs) ∈ L)
    (h : Q (.builtin id, [.ref d]) s) : wpAny (model prog w) A (getMethod (.ref d) name pl) Q E s :=
  getMethod_builtin (H.dict hm).typeIs PySem.F.plainAttrs_dict slot hty (H.dict hm).mapOf.noDict h
theorem r_mlist {name : Str} {id : String} {l : Addr} {xs : List Value} {pl : Sem Bool} {Q : Value × List Value → Shared → Prop} (slot : Slot "list" name id) (hty : typeOf (.builtin id) = pure (.type "method_descriptor")) (H : St h₀ os L s) (hm : (l, LI xs) ∈ L)
    (h : Q (.builtin id, [.ref l]) s) : wpAny (model prog w) A (getMethod (.ref l) name pl) Q E s := by
  refine getMethod_builtin (H.list hm).typeIs PySem.F.plainAttrs_list slot hty (fun a e => ?_) h
  cases e
  obtain ⟨o, ho, n, rfl⟩ := H.get hm
  exact ⟨_, ho, rfl⟩
theorem r_mset {name : Str} {id : String} {l : Addr} {S : Nd → Bool} {n : Nat} {pl : Sem Bool} {Q : Value × List Value → Shared → Prop} (slot : Slot "set" name id) (hty : typeOf (.builtin id) = pure (.type "method_descriptor")) (H : St h₀ os L s) (hm : (l, SE prog w S n) ∈ L)
    (h : Q (.builtin id, [.ref l]) s) : wpAny (model prog w) A (getMethod (.ref l) name pl) Q E s :=
  getMethod_builtin (H.set hm).typeIs PySem.F.plainAttrs_set slot hty (H.set hm).noDict h
theorem r_lenL {l : Addr} {xs : List Value} {Q : Value → Shared → Prop} (H : St h₀ os L s) (hm : (l, LI xs) ∈ L) (hz : xs.length < 2 ^ 40) (h : ∀ t s', St h₀ os L s' → Q (.int xs.length t) s') :
    wpAny (model prog w) A (call (.builtin "len") [.ref l]) Q E s :=
  call_len_list (H.list hm) (by rw [List.size_toArray]; omega) (by rw [List.size_toArray]; exact h _ _ (H.toks _))
theorem r_lenT {l : Addr} {xs : List Value} {Q : Value → Shared → Prop} (H : St h₀ os L s) (hm : (l, TU xs) ∈ L) (hz : xs.length < 2 ^ 40) (h : ∀ t s', St h₀ os L s' → Q (.int xs.length t) s') :
    wpAny (model prog w) A (call (.builtin "len") [.ref l]) Q E s := by
  obtain ⟨o, ho, n, rfl⟩ := H.get hm
  exact PyProof.Rows.len_tuple (items := xs.toArray) ⟨_, ho, rfl, n, rfl⟩ (by rw [List.size_toArray]; omega) (by rw [List.size_toArray]; exact h _ _ (H.toks _))
theorem r_iadd {a b : Int} {t u : Tok} {Q : Value → Shared → Prop} (H : St h₀ os L s) (h : ∀ t s', St h₀ os L s' → Q (.int (a + b) t) s') : wpAny (model prog w) A (inplaceOp .Add (.int a t) (.int b u)) Q E s := PySem.P.iadd_int (h _ _ (H.toks _))
theorem r_isub {a b : Int} {t u : Tok} {Q : Value → Shared → Prop} (H : St h₀ os L s) (h : ∀ t s', St h₀ os L s' → Q (.int (a - b) t) s') : wpAny (model prog w) A (inplaceOp .Sub (.int a t) (.int b u)) Q E s := PySem.P.isub_int (h _ _ (H.toks _))
theorem r_List {es : List Expr} {pos : Pos} {Q : Value → Shared → Prop} (hs : (es.all fun e => !isStarred e) = true)
    (h : wpL (model prog w) A env E es (fun vs s₁ => ∃ L, St h₀ os L s₁ ∧ vs.length ≤ sizeLine ∧ ∀ a s', St h₀ os ((a, LI vs) :: L) s' → Q (.ref a) s') s) : wpAny (model prog w) A (eval (.List es pos) env) Q E s := by
  refine wpAny_List (wpL_spliced hs ?_)
  have mono : ∀ (es : List Expr) (Q Q' : List Value → Shared → Prop) (s : Shared), (∀ vs s, Q vs s → Q' vs s) → wpL (model prog w) A env E es Q s → wpL (model prog w) A env E es Q' s := by
    intro es
    induction es with
    | nil => intro Q Q' s hq h; exact hq _ _ h
    | cons e r ih => intro Q Q' s hq h; exact wpAny_mono h (fun v s₁ h₁ => ih _ _ _ (fun vs s => hq _ _) h₁) fun _ _ x => x
  refine mono _ _ _ _ (fun vs s₁ q => ?_) h
  obtain ⟨L, H, hz, q⟩ := q
  exact ⟨hz, q _ _ (H.push rfl ⟨0, rfl⟩)⟩
theorem r_List0 {pos : Pos} {Q : Value → Shared → Prop} (H : St h₀ os L s) (h : ∀ a s', St h₀ os ((a, LI []) :: L) s' → Q (.ref a) s') : wpAny (model prog w) A (eval (.List [] pos) env) Q E s :=
  r_List rfl ⟨L, H, Nat.zero_le _, h⟩
theorem r_asSub {M : Model} {o i : Expr} {pos : Pos} {v : Value} {Q : Unit → Shared → Prop}
    (h : wpAny M A (eval o env) (fun ov s₂ => wpAny M A (eval i env) (fun iv s₃ => wpAny M A (setItem ov iv v) Q E s₃) E s₂) E s) : wpAny M A (assign (.Subscript o i pos) env v) Q E s := by
  rw [arm_assign_Subscript]
  refine wpAny_bind (wpAny_holding (wpAny_mono h (fun ov s₂ h₂ => wpAny_bind (wpAny_holding (wpAny_mono h₂ (fun iv s₃ h₃ => ?_) fun _ _ x => x))) fun _ _ x => x))
  refine wpAny_bind (wpAny_standAt (wpAny_bind (wpAny_holding (wpAny_mono h₃ (fun _ s₄ h₄ => wpAny_release h₄) fun _ _ x => x))))
theorem r_asAttr {M : Model} {o : Expr} {attr : Str} {pos : Pos} {v : Value} {Q : Unit → Shared → Prop}
    (h : wpAny M A (eval o env) (fun ov s₂ => wpAny M A (setAttr ov attr v) Q E s₂) E s) : wpAny M A (assign (.Attribute o attr pos) env v) Q E s := by
  rw [arm_assign_Attribute]
  refine wpAny_bind (wpAny_holding (wpAny_mono h (fun ov s₂ h₂ => ?_) fun _ _ x => x))
  refine wpAny_bind (wpAny_standAt (wpAny_bind (wpAny_holding (wpAny_mono h₂ (fun _ s₄ h₄ => wpAny_release h₄) fun _ _ x => x))))
theorem r_delSub {M : Model} {o i : Expr} {pos : Pos} {Q : Unit → Shared → Prop}
    (h : wpAny M A (eval o env) (fun ov s₂ => wpAny M A (eval i env) (fun iv s₃ => wpAny M A (delItem ov iv) Q E s₃) E s₂) E s) : wpAny M A (delete (.Subscript o i pos) env) Q E s := by
  rw [arm_delete_Subscript]
  refine wpAny_bind (wpAny_mono h (fun ov s₂ h₂ => wpAny_bind (wpAny_holding (wpAny_mono h₂ (fun iv s₃ h₃ => ?_) fun _ _ x => x))) fun _ _ x => x)
  refine wpAny_bind (wpAny_standAt (wpAny_bind (wpAny_holding (wpAny_mono h₃ (fun _ s₄ h₄ => wpAny_release h₄) fun _ _ x => x))))
theorem r_bindV {M : Model} {fd : FuncData} {args : Args} {vs : List Value} {f : Value → List (Str × Value)} {Q : List (Str × Value) → Shared → Prop} (H : St h₀ os L s) (e : bindArgs fd args = (do let t ← newTuple vs; pure (f t))) (hz : vs.length ≤ sizeLine) (h : ∀ a s', St h₀ os ((a, TU vs) :: L) s' → Q (f (.ref a)) s') :
    wpAny M A (bindArgs fd args) Q E s := by
  rw [e]
  exact wpAny_bind (r_newTuple H (fun a s' H' => wpAny_pure (h a s' H')) hz)
theorem putL_ne {m : List (Str × Value)} {x y : Str} {u : Value} {r : Option Value} (h : m.lookup x = r) (hne : (x == y) = false := by rfl) : (putL m y u).lookup x = r := by
  rw [putL_lookup, if_neg (by simpa using hne)]; exact h
theorem putL_eq {m : List (Str × Value)} {x : Str} {u : Value} : (putL m x u).lookup x = some u := by rw [putL_lookup, if_pos rfl]
/-- range(n), walked -/
theorem r_range1 {n : Nat} {t : Tok} {Q : Value → Shared → Prop} (H : St h₀ os L s) (h : ∀ a s', St h₀ os ((a, RA 0 n 1) :: L) s' → Q (.ref a) s') : wpAny (model prog w) A (call (.type "range") [.int n t]) Q E s :=
  call_range_1 (h _ _ ((H.push rfl ⟨_, _, _, rfl⟩).toks _))
theorem r_range3 {a b c : Int} {t u v : Tok} {Q : Value → Shared → Prop} (H : St h₀ os L s) (hc : c ≠ 0) (hp : Builtin.divisionGoesByPylong (b - a) c = false) (h : ∀ r s', St h₀ os ((r, RA a b c) :: L) s' → Q (.ref r) s') : wpAny (model prog w) A (call (.type "range") [.int a t, .int b u, .int c v]) Q E s :=
  call_range_3 hc (h _ _ ((H.push rfl ⟨_, _, _, rfl⟩).toks _)) (.inl hp)
theorem upBy_len (c : Nat) : ∀ n a, (upBy c a n).length = n
  | 0, _ => rfl
  | n + 1, a => by simp [upBy, upBy_len c n]
theorem r_iter_rng {r : Addr} {a b c : Int} {i j c' : Nat} {Q : Value → Shared → Prop} (H : St h₀ os L s) (hm : (r, RA a b c) ∈ L) (hs : Builtin.Range.small a b c = true) (hi : a = i) (hc : c = c') (hj : Builtin.Range.rangeSize a b c = j)
    (h : ∀ ia s', St h₀ os (rngJ ia c' (upBy c' i j) ++ L) s' → Q (.ref ia) s') : wpAny (model prog w) A (pyIter (.ref r)) Q E s := by
  obtain ⟨o, ho, t, u, v, rfl⟩ := H.get hm
  refine wpAny_pyIter_range ho hs (h _ _ (H.push rfl ⟨i, ?_, ?_⟩))
  · rw [upBy_len]
  · rw [upBy_len, hi, hc] at *; rw [hj]; rfl
theorem r_iter_rng1 {r : Addr} {n : Nat} {Q : Value → Shared → Prop} (H : St h₀ os L s) (hm : (r, RA 0 n 1) ∈ L) (hn : n < 2 ^ 40)
    (h : ∀ ia s', St h₀ os (rngJ ia 1 (upBy 1 0 n) ++ L) s' → Q (.ref ia) s') : wpAny (model prog w) A (pyIter (.ref r)) Q E s := by
  refine r_iter_rng (i := 0) (c' := 1) H hm (small_one (by omega) (by omega) (by omega) (by omega)) rfl rfl ?_ h
  rw [rangeSize_one]; split <;> omega
theorem upBy_one : ∀ n a, upBy 1 a n = (List.range n).map (a + ·)
  | 0, _ => rfl
  | n + 1, a => by rw [List.range_succ_eq_map]; simp [upBy, upBy_one n (a + 1), Function.comp_def]; omega
theorem upBy_range (n : Nat) : upBy 1 0 n = List.range n := by rw [upBy_one]; simp
end
end Mine
end
section
open PySem PySem.W PySem.Calls PyProof.Rows
namespace Mine

theorem meets_bool_new_list (l : Addr) (items : Array Value) : Meets (Builtin.«bool.__new__» ⟨[.type "bool", .ref l], []⟩)
    (fun _ R s => s.heap.IsList l items ∧ (items.size : Int) < 2 ^ 63 ∧ R (.ok (.ret (.bool (!items.isEmpty)))) { s with toks := s.toks + 1 + 1 }) :=
  Meets.of_wp fun prog w A R s hs => by
    obtain ⟨h1, h2, h3⟩ := hs
    obtain ⟨hp, g, d, tk, os⟩ := s
    have f1 := F.conv_sub_bool
    repeat (any_goals (first | assumption | with_reducible apply wpAny_truthy_list | wp_step))
    all_goals first | exact ⟨_, rfl, h3⟩ | skip

section
variable {prog : Program} {w : World} {A : Around} {E : Value → Shared → Prop} {h₀ : Heap} {os : OsState} {L L' F : List Ent} {s : Shared} {env : Env}
theorem r_truthyL {l : Addr} {xs : List Value} {Q : Bool → Shared → Prop} (H : St h₀ os L s) (hm : (l, LI xs) ∈ L) (hz : xs.length < 2 ^ 40) (h : ∀ s', St h₀ os L s' → Q (!xs.isEmpty) s') :
    wpAny (model prog w) A (truthy (.ref l)) Q E s :=
  wpAny_truthy_list (H.list hm) (by rw [List.size_toArray]; omega) (by rw [List.isEmpty_toArray]; exact h _ (H.toks _))
theorem r_boolL {l : Addr} {xs : List Value} {Q : Value → Shared → Prop} (H : St h₀ os L s) (hm : (l, LI xs) ∈ L) (hz : xs.length < 2 ^ 40) (h : ∀ s', St h₀ os L s' → Q (.bool (!xs.isEmpty)) s') :
    wpAny (model prog w) A (call (.type "bool") [.ref l]) Q E s := by
  refine call_bool_1 (meets_bool_new_list l xs.toArray) ⟨H.list hm, by rw [List.size_toArray]; omega, rfl, ?_⟩
  rw [List.isEmpty_toArray]; exact h _ (H.toks _)
theorem r_tupleOf {l : Addr} {xs : List Value} {Q : Value → Shared → Prop} (H : St h₀ os L s) (hm : (l, LI xs) ∈ L) (hz : xs.length < 2 ^ 20) (h : ∀ a s', St h₀ os ((a, TU xs) :: L) s' → Q (.ref a) s') :
    wpAny (model prog w) A (call (.type "tuple") [.ref l]) Q E s := by
  refine call_tuple_list (H.list hm) (fun h' hk => h _ _ ?_) (by rw [List.size_toArray, sizeLine_eq]; omega)
  exact (H.ext0 hk).push rfl ⟨0, rfl⟩
theorem li_map {f : Array Value → Array Value} {xs ys : List Value} (hf : f xs.toArray = ys.toArray) {o : Obj} (h : LI xs o) : LI ys (o.mapSeq f) := by
  obtain ⟨n, rfl⟩ := h
  unfold Obj.mapSeq
  dsimp only
  rw [hf]
  exact ⟨_, rfl⟩
theorem LI.notFreed {xs : List Value} {o : Obj} (h : LI xs o) : o.isFreed = false := by obtain ⟨n, rfl⟩ := h; rfl
theorem St.mapL {f : Array Value → Array Value} {l : Addr} {xs ys : List Value} (H : St h₀ os L s) (p : Put l (LI xs) (LI ys) L L') (hf : f xs.toArray = ys.toArray) : St h₀ os L' { s with heap := s.heap.update l (Obj.mapSeq f) } := by
  obtain ⟨o, ho, hl⟩ := H.get p.mem
  exact H.upd p ho (li_map hf hl).notFreed (li_map hf hl)
theorem r_clear {l : Addr} {xs : List Value} {Q : Value → Shared → Prop} (H : St h₀ os L s) (p : Put l (LI xs) (LI []) L L') (hz : xs.length ≤ sizeLine) (h : ∀ s', St h₀ os L' s' → Q .none s') :
    wpAny (model prog w) A (call (.builtin "list.clear") [.ref l]) Q E s := by
  obtain ⟨o, ho, n, rfl⟩ := H.get p.mem
  exact call_meets PySem.F.slot_list_clear ⟨_, ho, rfl⟩ PySem.F.entry_list_clear (PySem.F.args_list_clear_1 _) (PySem.AutoSeq1.list_clear_list_0 l xs.toArray n (by simpa using hz)) ⟨ho, h _ (H.mapL p rfl)⟩
theorem r_extend {l b : Addr} {xs ys : List Value} {Q : Value → Shared → Prop} (H : St h₀ os L s) (p : Put l (LI xs) (LI (xs ++ ys)) L L') (hb : (b, LI ys) ∈ L) (hz : xs.length + ys.length < 2 ^ 20) (h : ∀ s', St h₀ os L' s' → Q .none s') :
    wpAny (model prog w) A (call (.builtin "list.extend") [.ref l, .ref b]) Q E s := by
  obtain ⟨o, ho, n, rfl⟩ := H.get p.mem
  obtain ⟨o2, ho2, n2, rfl⟩ := H.get hb
  refine call_meets PySem.F.slot_list_extend ⟨_, ho, rfl⟩ PySem.F.entry_list_extend (PySem.F.args_list_extend_2 _ _)
    (PySem.AutoSeq1.list_extend_list_list_0 l xs.toArray n b ys.toArray n2 ?_ (by rw [sizeLine_eq]; simp; omega) (by rw [sizeLine_eq]; simp; omega)) ⟨ho, ho2, h _ (H.mapL p (by simp))⟩
  unfold Builtin.List.listTooLong
  simp [sizeLine_eq]
  omega
theorem r_pop {l : Addr} {xs : List Value} {y : Value} {Q : Value → Shared → Prop} (H : St h₀ os L s) (p : Put l (LI (xs ++ [y])) (LI xs) L L') (hz : xs.length + 1 ≤ sizeLine) (h : ∀ s', St h₀ os L' s' → Q y s') :
    wpAny (model prog w) A (call (.builtin "list.pop") [.ref l]) Q E s := by
  obtain ⟨o, ho, n, rfl⟩ := H.get p.mem
  refine call_meets PySem.F.slot_list_pop ⟨_, ho, rfl⟩ PySem.F.entry_list_pop (PySem.F.args_list_pop_1 _) (PySem.MeetsSeq.list_pop_last l (xs ++ [y]).toArray n y (by simp) (by simpa using hz)) ⟨ho, h _ (H.mapL p ?_)⟩
  have hk : (xs ++ [y]).toArray.size - 1 = xs.length := by simp
  rw [hk, kl_erase, List.append_nil]
theorem r_getL {l : Addr} {xs : List Value} {k : Nat} {t : Tok} {x : Value} {Q : Value → Shared → Prop} (H : St h₀ os L s) (hm : (l, LI xs) ∈ L) (hk : k < 2 ^ 40) (hx : xs[k]? = some x) (h : Q x s) : wpAny (model prog w) A (getItem (.ref l) (.int k t)) Q E s :=
  wpAny_getItem_list (H.list hm) (by omega) (by omega) (by simpa using hx) h
theorem r_getLast {l : Addr} {xs : List Value} {t : Tok} {x : Value} {Q : Value → Shared → Prop} (H : St h₀ os L s) (hm : (l, LI (xs ++ [x])) ∈ L) (h : Q x s) : wpAny (model prog w) A (getItem (.ref l) (.int (-1) t)) Q E s :=
  wpAny_getItem_list_neg (H.list hm) (by omega) (by simp; omega) (by omega) (by rw [show ((-1 : Int) + ((xs ++ [x]).toArray.size : Nat)).toNat = xs.length by simp; omega]; simp) h
/-- a list of which only the items are known -/
noncomputable def LQ (xs : List Value) (o : Obj) : Prop := o.cls = .type "list" ∧ ∃ n, o.data = .seq xs.toArray n
theorem LI.q {xs : List Value} {o : Obj} (h : LI xs o) : LQ xs o := by obtain ⟨n, rfl⟩ := h; exact ⟨rfl, n, rfl⟩
theorem St.listQ (H : St h₀ os L s) {l : Addr} {xs : List Value} (hm : (l, LQ xs) ∈ L) : s.heap.IsList l xs.toArray := by
  obtain ⟨o, ho, hc, n, hd⟩ := H.get hm; exact ⟨_, ho, hc, n, hd⟩
theorem r_getQ {l : Addr} {xs : List Value} {k : Nat} {t : Tok} {x : Value} {Q : Value → Shared → Prop} (H : St h₀ os L s) (hm : (l, LQ xs) ∈ L) (hk : k < 2 ^ 40) (hx : xs[k]? = some x) (h : Q x s) : wpAny (model prog w) A (getItem (.ref l) (.int k t)) Q E s :=
  wpAny_getItem_list (H.listQ hm) (by omega) (by omega) (by simpa using hx) h
theorem r_setQ {l : Addr} {xs : List Value} {k : Nat} {t : Tok} {v : Value} {Q : Unit → Shared → Prop} (H : St h₀ os L s) (p : Put l (LQ xs) (LQ (xs.set k v)) L L') (hk : k < 2 ^ 40) (hn : k < xs.length) (h : ∀ s', St h₀ os L' s' → Q () s') : wpAny (model prog w) A (setItem (.ref l) (.int k t) v) Q E s := by
  refine wpAny_setItem_list (H.listQ p.mem) (by omega) (by omega) (by simp; omega) fun h' hl hs => h _ ?_
  obtain ⟨o, ho, hc, n, hd⟩ := hl
  exact H.put p hs ho ⟨hc, n, by rw [hd]; simp⟩
theorem r_subD {value slice : Expr} {d : Addr} {kvs : List (Nd × Value)} {k : Nd} {key v : Value} {Q : Value → Shared → Prop} (H : St h₀ os L s) (hm : (d, DI prog w kvs) ∈ L) (hk : ND key k) (hv : valueAt kvs k = some v) (h : ∀ s', St h₀ os L s' → Q v s')
    (hs : subscripted slice false (.ref d) key = operate [.ref d, key] (getItem (.ref d) key) := by with_unfolding_all rfl) : wpAny (model prog w) A (subscriptTail value slice (.ref d) key) Q E s :=
  tail_any (H.dict hm).typeIs PySem.F.slot_dict_getitem.lookup (r_dgetItem H hm hk hv h) hs
theorem r_subL {value slice : Expr} {l : Addr} {xs : List Value} {k : Nat} {t : Tok} {x : Value} {Q : Value → Shared → Prop} (H : St h₀ os L s) (hm : (l, LI xs) ∈ L) (hk : k < 2 ^ 40) (hx : xs[k]? = some x) (h : Q x s)
    (hs : subscripted slice false (.ref l) (.int k t) = operate [.ref l, .int k t] (getItem (.ref l) (.int k t)) := by with_unfolding_all rfl) : wpAny (model prog w) A (subscriptTail value slice (.ref l) (.int k t)) Q E s :=
  tail_any (H.list hm).typeIs PySem.F.slot_list_getitem.lookup (r_getL H hm hk hx h) hs
theorem r_subQ {value slice : Expr} {l : Addr} {xs : List Value} {k : Nat} {t : Tok} {x : Value} {Q : Value → Shared → Prop} (H : St h₀ os L s) (hm : (l, LQ xs) ∈ L) (hk : k < 2 ^ 40) (hx : xs[k]? = some x) (h : Q x s)
    (hs : subscripted slice false (.ref l) (.int k t) = operate [.ref l, .int k t] (getItem (.ref l) (.int k t)) := by with_unfolding_all rfl) : wpAny (model prog w) A (subscriptTail value slice (.ref l) (.int k t)) Q E s :=
  tail_any (H.listQ hm).typeIs PySem.F.slot_list_getitem.lookup (r_getQ H hm hk hx h) hs
theorem r_subLast {value slice : Expr} {l : Addr} {xs : List Value} {t : Tok} {x : Value} {Q : Value → Shared → Prop} (H : St h₀ os L s) (hm : (l, LI (xs ++ [x])) ∈ L) (h : Q x s)
    (hs : subscripted slice false (.ref l) (.int (-1) t) = operate [.ref l, .int (-1) t] (getItem (.ref l) (.int (-1) t)) := by with_unfolding_all rfl) : wpAny (model prog w) A (subscriptTail value slice (.ref l) (.int (-1) t)) Q E s :=
  tail_any (H.list hm).typeIs PySem.F.slot_list_getitem.lookup (r_getLast H hm h) hs
end
end Mine
end
section
open PySem PySem.W PySem.Calls PyProof.Rows
namespace Mine
namespace Nx
theorem ga : Slot "list_iterator" "__getattribute__" "object.__getattribute__" :=
  .of (owner := "object") (n := "__getattribute__") (by rw [typeLookup_type, builtinLookup_eq_fast]; kernel_rfl) (by decide +kernel) (by decide +kernel) (by decide +kernel)
    (by first | exact .inl (by decide +kernel) | exact .inr (by decide +kernel)) (by rw [isSubtype_type]; kernel_rfl)
theorem entry_ga : entryFor table "object.__getattribute__" = some Builtin.«object.__getattribute__» := entryFor_of_tree (by kernel_rfl)
theorem args_ga (a b : Value) : argsOk "object.__getattribute__" ⟨[a, b], []⟩ := by unfold argsOk; kernel_rfl
theorem ty_next : typeOf (.builtin "list_iterator.__next__") = pure (.type "wrapper_descriptor") := by show builtinType _ = _; rw [builtinType_eq_fast]; kernel_rfl
theorem wd_get : Slot "wrapper_descriptor" "__get__" "wrapper_descriptor.__get__" :=
  .of (owner := "wrapper_descriptor") (n := "__get__") (by rw [typeLookup_type, builtinLookup_eq_fast]; kernel_rfl) (by decide +kernel) (by decide +kernel) (by decide +kernel)
    (by first | exact .inl (by decide +kernel) | exact .inr (by decide +kernel)) (by rw [isSubtype_type]; kernel_rfl)
theorem wd_set : typeLookup (.type "wrapper_descriptor") "__set__" = pure none := by rw [typeLookup_type, builtinLookup_eq_fast]; kernel_rfl
theorem wd_del : typeLookup (.type "wrapper_descriptor") "__delete__" = pure none := by rw [typeLookup_type, builtinLookup_eq_fast]; kernel_rfl
theorem entry_wd : entryFor table "wrapper_descriptor.__get__" = some Builtin.«wrapper_descriptor.__get__» := entryFor_of_tree (by kernel_rfl)
theorem args_wd (a b c : Value) : argsOk "wrapper_descriptor.__get__" ⟨[a, b, c], []⟩ := by unfold argsOk; kernel_rfl
theorem owner : (".".intercalate ("list_iterator.__next__".cutAt '.').dropLast) = "list_iterator" := by
  have e0 : "list_iterator.__next__".cutAt '.' = ["list_iterator", "__next__"] := by first | rfl | decide +kernel
  rw [e0]; decide +kernel
theorem sub : isSubtype (.type "list_iterator") (.type "list_iterator") = pure true := by rw [isSubtype_type]; kernel_rfl
end Nx
section
variable {prog : Program} {w : World} {A : Around} {E : Value → Shared → Prop} {h : Heap} {g : Array GenState} {d : Drawn} {t : Nat} {os : OsState} {a : Addr} {o : Obj}
noncomputable abbrev wrapObj (it : Addr) : Obj := { cls := .type "method-wrapper", data := .fields #[.builtin "list_iterator.__next__", .ref it] }
theorem nx_get {R : Result → Shared → Prop} (hx : h.get? a = some o) (hc : o.cls = .type "list_iterator") (hq : R (.ok (.ret (.ref h.objs.size))) ⟨h.push (wrapObj a), g, d, t, os⟩) :
    codeAny (model prog w) A (.call (.builtin "wrapper_descriptor.__get__") ⟨[.builtin "list_iterator.__next__", .ref a, .type "list_iterator"], []⟩) R ⟨h, g, d, t, os⟩ := by
  have hT : (⟨h, g, d, t, os⟩ : Shared).TypeIs (.ref a) "list_iterator" := ⟨_, hx, hc⟩
  have hT5 : (⟨h, g, d, t, os⟩ : Shared).TypeIs (.builtin "list_iterator.__next__") "wrapper_descriptor" := Nx.ty_next
  have f8 : isSubtype (.type "list_iterator") (.type (".".intercalate ("list_iterator.__next__".cutAt '.').dropLast)) = pure true := by rw [Nx.owner]; exact Nx.sub
  refine codeAny_call_builtin Nx.wd_get.plain Nx.entry_wd (Nx.wd_get.check _ _ _ _ _ _ _ _ hT5 (Nx.args_wd _ _ _) ?_)
  repeat (any_goals (first | assumption | wp_step))
noncomputable abbrev liObj (vs : Array Value) : Obj := { cls := .type "list_iterator", data := .fields vs }
theorem nx_entry {vs : Array Value} {tk : Tok} {Q : Fin → Shared → Prop} (hx : h.get? a = some (liObj vs)) (hq : Q (.done (.ret (.ref h.objs.size))) ⟨h.push (wrapObj a), g, d, t, os⟩) :
    wpAny (model prog w) A (Builtin.«object.__getattribute__» ⟨[.ref a, .str "__next__" tk], []⟩) Q E ⟨h, g, d, t, os⟩ := by
  have hT : (⟨h, g, d, t, os⟩ : Shared).TypeIs (.ref a) "list_iterator" := ⟨_, hx, rfl⟩
  have hT5 : (⟨h, g, d, t, os⟩ : Shared).TypeIs (.builtin "list_iterator.__next__") "wrapper_descriptor" := Nx.ty_next
  have f4 := slot_listiter_next.lookup
  have f5 := Nx.ty_next
  have f6 := Nx.wd_get.lookup
  have f7 := Nx.wd_set
  have f9 := Nx.wd_del
  repeat (any_goals (first | assumption | wp_step))
  refine nx_get hx rfl ?_
  repeat (any_goals (first | assumption | wp_step))
theorem nx_call {vs : Array Value} {tk : Tok} {R : Result → Shared → Prop} (hx : h.get? a = some (liObj vs)) (hq : R (.ok (.ret (.ref h.objs.size))) ⟨h.push (wrapObj a), g, d, t, os⟩) :
    codeAny (model prog w) A (.call (.builtin "object.__getattribute__") ⟨[.ref a, .str "__next__" tk], []⟩) R ⟨h, g, d, t, os⟩ :=
  codeAny_call_builtin Nx.ga.plain Nx.entry_ga (Nx.ga.check _ _ _ _ _ _ _ _ (show (⟨h, g, d, t, os⟩ : Shared).TypeIs (.ref a) "list_iterator" from ⟨_, hx, rfl⟩) (Nx.args_ga _ _) (nx_entry hx hq))
theorem nx_by {vs : Array Value} {tk : Tok} {fill expr : Bool} {Q : Value → Shared → Prop} (hx : h.get? a = some (liObj vs))
    (hq : Q (.ref h.objs.size) ⟨h.push (wrapObj a), g, d, t, os⟩) : wpAny (model prog w) A (getAttrBy (.ref a) (.str "__next__" tk) fill expr) Q E ⟨h, g, d, t, os⟩ := by
  have hT : (⟨h, g, d, t, os⟩ : Shared).TypeIs (.ref a) "list_iterator" := ⟨_, hx, rfl⟩
  have f2 := Nx.ga.lookup
  have f3 := Nx.ga.bind (.ref a)
  have hx0 : (expr && onTheHeap (Value.builtin "object.__getattribute__")) = false := by cases expr <;> rfl
  repeat (any_goals (first | assumption | wp_step))
  refine nx_call hx ?_
  repeat (any_goals (first | assumption | wp_step))
theorem nx_attr {vs : Array Value} {expr : Bool} {Q : Value → Shared → Prop} (hx : h.get? a = some (liObj vs))
    (hq : Q (.ref h.objs.size) ⟨h.push (wrapObj a), g, d, t + 1, os⟩) : wpAny (model prog w) A (getAttr (.ref a) "__next__" expr) Q E ⟨h, g, d, t, os⟩ := by
  unfold getAttr
  repeat (any_goals (first | assumption | with_reducible apply nx_by hx | wp_step))
theorem nx_check (it : Addr) : checkBoundCall "list_iterator.__next__" ⟨[.ref it], []⟩ = pure () := by kernel_rfl
theorem nx_go {s : Shared} {q it : Addr} {R : Result → Shared → Prop} (ho : s.heap.get? q = some (wrapObj it))
    (h : codeAny (model prog w) A (.builtin "list_iterator.__next__" ⟨[.ref it], []⟩) R s) : codeAny (model prog w) A (.call (.ref q) ⟨[], []⟩) R s := by
  refine codeAny_of_tree ?_
  show wpAny _ _ (callAny (.ref q) _) _ _ _
  refine nd_load ho ?_
  show wpAny _ _ (do checkBoundCall "list_iterator.__next__" ⟨[.ref it], []⟩; again (.builtin "list_iterator.__next__" ⟨[.ref it], []⟩)) _ _ _
  rw [nx_check]
  exact wpAny_bind (wpAny_pure (wpAny_pure ⟨Code.quiet_builtin _ (by decide +kernel), h⟩))
theorem nx_item {s : Shared} {q it l : Addr} {i : Nat} {items : Array Value} {x : Value} {Q : Value → Shared → Prop} (ho : s.heap.get? q = some (wrapObj it)) (hit : s.heap.IsListIter it l i) (hl : s.heap.IsList l items) (hx : items[i]? = some x)
    (hQ : ∀ h', h'.IsListIter it l (i + 1) → Heap.SameBut it s.heap h' → Q x { s with heap := h' }) : wpAny (model prog w) A (call (.ref q) []) Q E s := by
  obtain ⟨o, ho', hc, hd⟩ := id hit
  obtain ⟨ol, hol, _, nl, hdl⟩ := hl
  refine wpAny_call (nx_go ho (codeAny_builtin entry_listiter_next ?_))
  show wpAny _ _ (field (.ref it) 0 >>= _) _ _ s
  refine wpAny_bind (wpAny_field ho' hd (x := .ref l) rfl ?_)
  show wpAny _ _ (if (Value.ref l == Value.none) = true then _ else _) _ _ s
  rw [if_neg (show ¬ ((Value.ref l == Value.none) = true) from Bool.false_ne_true)]
  show wpAny _ _ (field (.ref it) 1 >>= _) _ _ s
  refine wpAny_bind (wpAny_field ho' hd (x := .int i 0) rfl ?_)
  show wpAny _ _ (seqItems? (.ref l) >>= _) _ _ s
  refine wpAny_bind (wpAny_seqItems hol hdl ?_)
  simp only [Int.toNat_natCast, hx]
  refine wpAny_bind (wpAny_setField ho' hd (by simp) (wpAny_pure (hQ _ ?_ (Heap.SameBut.update ..))))
  exact ⟨_, Heap.get?_update_self _ ho' (Obj.isFreed_of_fields (Obj.data_mapFields hd _)), (Obj.cls_mapFields ..).trans hc, by
    rw [Obj.data_mapFields hd]; simp [rawInt]⟩
theorem nx_end {s : Shared} {q it l : Addr} {i : Nat} {items : Array Value} {Q : Value → Shared → Prop} (hh : A.handled = none) (ho : s.heap.get? q = some (wrapObj it)) (hit : s.heap.IsListIter it l i) (hl : s.heap.IsList l items) (hx : items[i]? = none)
    (hE : ∀ h' e vs, Heap.ExtBut it s.heap h' → s.heap.objs.size ≤ e → vs[1]? = some Value.none → h'.get? e = some { cls := .type "StopIteration", data := .fields vs } → E (.ref e) { s with heap := h' }) : wpAny (model prog w) A (call (.ref q) []) Q E s := by
  obtain ⟨o, ho', hc, hd⟩ := id hit
  obtain ⟨ol, hol, _, nl, hdl⟩ := hl
  refine wpAny_call (nx_go ho (codeAny_builtin entry_listiter_next ?_))
  show wpAny _ _ (field (.ref it) 0 >>= _) _ _ s
  refine wpAny_bind (wpAny_field ho' hd (x := .ref l) rfl ?_)
  show wpAny _ _ (if (Value.ref l == Value.none) = true then _ else _) _ _ s
  rw [if_neg (show ¬ ((Value.ref l == Value.none) = true) from Bool.false_ne_true)]
  show wpAny _ _ (field (.ref it) 1 >>= _) _ _ s
  refine wpAny_bind (wpAny_field ho' hd (x := .int i 0) rfl ?_)
  show wpAny _ _ (seqItems? (.ref l) >>= _) _ _ s
  refine wpAny_bind (wpAny_seqItems hol hdl ?_)
  simp only [Int.toNat_natCast, hx]
  refine wpAny_bind (wpAny_rule (wpAny_bind (wpAny_setField ho' hd (by simp) ?_)))
  show wpAny _ _ (newExc (.type "StopIteration") [] >>= _) _ _ _
  refine wpAny_bind ?_
  simp only [newExc, newTuple]
  refine wpAny_bind (wpAny_newObj_type ?_ (by size_fits))
  refine wpAny_bind (m := firstArgMember _ _) (wpAny_of_eq (a := Value.none) (by first | rfl | (simp only [firstArgMember]; rfl)) ?_)
  refine wpAny_newObj_type ?_ (by size_fits)
  simp only [raiseNew]
  refine wpAny_bind (wpAny_handled ?_)
  rw [show (A.under (.builtin "list_iterator.__next__" ⟨[.ref it], []⟩)).handled = none from hh]
  first | refine wpAny_bind (wpAny_pure (wpAny_throw ?_)) | refine wpAny_throw ?_
  refine hE _ _ _ (((Heap.SameBut.update ..).extBut.push _).push _) ?_ ?_ (Heap.get?_push_size _ rfl)
  rotate_left
  · rw [Array.getElem?_append_left (by simp)]; rfl
  rw [Heap.size_push, Heap.size_after_update]; exact Nat.le_succ _
end

/-- a bound __next__ of a list's iterator -/
noncomputable def WR (it : Addr) (o : Obj) : Prop := o = wrapObj it
/-- a record -/
noncomputable def FLD (cls : Value) (vs : Array Value) (o : Obj) : Prop := o.cls = cls ∧ o.data = .fields vs
section
variable {prog : Program} {w : World} {A : Around} {E : Value → Shared → Prop} {h₀ : Heap} {os : OsState} {L L' : List Ent} {s : Shared} {env : Env}
theorem r_wrapItem {q it l : Addr} {i : Nat} {vs : List Value} {x : Value} {Q : Value → Shared → Prop} (H : St h₀ os L s) (hq : (q, WR it) ∈ L) (p : Put it (LIT l i) (LIT l (i + 1)) L L') (hm : (l, LI vs) ∈ L) (hx : vs[i]? = some x)
    (h : ∀ s', St h₀ os L' s' → Q x s') : wpAny (model prog w) A (call (.ref q) []) Q E s := by
  obtain ⟨o, ho, rfl⟩ := H.get hq
  obtain ⟨oi, hoi, hc, hd⟩ := H.get p.mem
  refine nx_item ho ⟨oi, hoi, hc, hd⟩ (H.list hm) (by simpa using hx) fun h' hit hs => ?_
  obtain ⟨o', ho', hc', hd'⟩ := hit
  exact h _ (H.put p hs ho' ⟨hc', hd'⟩)
theorem r_wrapEnd {q it l : Addr} {i : Nat} {vs : List Value} {Q : Value → Shared → Prop} (hh : A.handled = none) (H : St h₀ os ((it, LIT l i) :: L) s) (hq : (q, WR it) ∈ L) (hm : (l, LI vs) ∈ L) (hx : vs[i]? = none)
    (h : ∀ e fs s', fs[1]? = some Value.none → St h₀ os ((e, FLD (.type "StopIteration") fs) :: L) s' → E (.ref e) s') : wpAny (model prog w) A (call (.ref q) []) Q E s := by
  obtain ⟨o, ho, rfl⟩ := H.get (List.mem_cons_of_mem _ hq)
  obtain ⟨oi, hoi, hc, hd⟩ := H.get (.head _)
  refine nx_end hh ho ⟨oi, hoi, hc, hd⟩ (H.list (List.mem_cons_of_mem _ hm)) (by simpa using hx) fun h' e fs hx hge h1 he => h e fs _ h1 ?_
  have hn : s.heap.get? e = none := by
    cases hq : s.heap.get? e with
    | none => rfl
    | some o' => exact absurd (Heap.lt_size hq) (Nat.not_lt.mpr hge)
  have H2 := H.ext hx
  have D := H2.led
  refine ⟨⟨fun p hp => ?_, ?_, fun p hp => ?_, D.keep, fun p hp => ?_, D.three⟩, H2.gens, H2.os⟩
  · rcases List.mem_cons.mp hp with rfl | hp
    · exact ⟨_, he, rfl, rfl⟩
    · exact D.at_ p hp
  · rw [List.map_cons, List.nodup_cons]
    refine ⟨fun hm => ?_, D.nd⟩
    obtain ⟨p, hp, e'⟩ := List.mem_map.mp hm
    obtain ⟨o', ho', _⟩ := H.led.at_ p (List.mem_cons_of_mem _ hp)
    rw [e', hn] at ho'
    cases ho'
  · rcases List.mem_cons.mp hp with rfl | hp
    · cases hb : h₀.get? e with
      | none => rfl
      | some o' => have := H.led.keep _ _ hb; rw [hn] at this; cases this
    · exact D.new p hp
  · rcases List.mem_cons.mp hp with rfl | hp
    · show e ≠ sysModules
      obtain ⟨o3, e3⟩ := D.three
      exact Nat.ne_of_gt (Nat.lt_of_lt_of_le (Heap.lt_size (H.led.keep _ _ e3)) hge)
    · exact D.high p hp
end
end Mine
end
section
open PySem PySem.W PySem.Calls PyProof.Rows
namespace Mine
/-- the frames under way lie in the ledger -/
noncomputable def Frs (fl : List Env) (F : List Ent) : Prop := ∀ env ∈ fl, env.scope.kind ≠ .module ∧ ∃ C m, env.frame = some C ∧ (C, NS m) ∈ F
theorem Frs.mono {fl : List Env} {F G : List Ent} (h : Frs fl F) (hs : ∀ e ∈ F, e ∈ G) : Frs fl G := fun env he => let ⟨a, C, m, b, c⟩ := h env he; ⟨a, C, m, b, hs _ c⟩
theorem NS.slots {m : List (Str × Value)} {o : Obj} (h : NS m o) (sl : Array (Option Value)) : NS m { o with slots := sl } := h
theorem NS.notFields {m : List (Str × Value)} {o : Obj} (h : NS m o) : ∀ vs, o.data ≠ .fields vs := by
  obtain ⟨es, n, hd, _⟩ := h
  intro vs e
  rw [hd] at e; cases e
section
variable {prog : Program} {w : World} {M : Model} {A : Around} {E : Value → Shared → Prop} {h₀ : Heap} {os : OsState} {L L' : List Ent} {s : Shared} {env : Env}
theorem St.funFrames (H : St h₀ os L s) : ∀ {fl : List Env}, Frs fl L → s.heap.FunFrames h₀ fl
  | [], _ => trivial
  | env :: r, fr => by
    obtain ⟨hk, C, m, hf, hm⟩ := fr env (.head _)
    obtain ⟨o, ho, hn⟩ := H.get hm
    exact ⟨hk, ⟨C, o, hf, H.led.new _ hm, ho, hn.notFields⟩, St.funFrames H fun e he => fr e (.tail _ he)⟩
theorem nodup_key {L : List Ent} (h : (L.map (·.1)).Nodup) {a : Addr} {P P' : Obj → Prop} (h1 : (a, P) ∈ L) (h2 : (a, P') ∈ L) : P = P' := by
  induction L with
  | nil => cases h1
  | cons x r ih =>
    rw [List.map_cons, List.nodup_cons] at h
    rcases List.mem_cons.mp h1 with e1 | h1 <;> rcases List.mem_cons.mp h2 with e2 | h2
    · rw [← e1] at e2; exact (Prod.mk.inj e2).2.symm
    · exact absurd (List.mem_map.mpr ⟨_, h2, by rw [← e1]⟩) h.1
    · exact absurd (List.mem_map.mpr ⟨_, h1, by rw [← e2]⟩) h.1
    · exact ih h.2 h1 h2
theorem St.slotsOnly {fl : List Env} {h' : Heap} (H : St h₀ os L s) (fr : Frs fl L) (x : Heap.SlotsOnly (fl.filterMap (·.frame)) s.heap h') : St h₀ os L { s with heap := h' } := by
  have D := H.led
  have mem : ∀ b, b ∈ fl.filterMap (·.frame) → ∃ m, (b, NS m) ∈ L := fun b hb => by
    obtain ⟨env, he, hf⟩ := List.mem_filterMap.mp hb
    obtain ⟨_, C, m, hf', hm⟩ := fr env he
    rw [hf] at hf'
    cases hf'
    exact ⟨m, hm⟩
  refine ⟨⟨fun p hp => ?_, D.nd, D.new, fun b o e => ?_, D.high, D.three⟩, H.gens, H.os⟩
  · obtain ⟨o, ho, hP⟩ := D.at_ p hp
    by_cases hb : p.1 ∈ fl.filterMap (·.frame)
    · obtain ⟨m, hm⟩ := mem _ hb
      obtain ⟨sl, hs⟩ := x.2.2 _ _ ho
      have e : p.2 = NS m := nodup_key D.nd (show (p.1, p.2) ∈ L from hp) hm
      refine ⟨_, hs, ?_⟩
      rw [e] at hP ⊢
      exact hP.slots sl
    · exact ⟨o, (x.2.1 _ hb).trans ho, hP⟩
  · refine (x.2.1 b fun hb => ?_).trans (D.keep b o e)
    obtain ⟨m, hm⟩ := mem _ hb
    have := D.new _ hm
    rw [e] at this
    cases this
theorem FLD.map {cls : Value} {vs : Array Value} {o : Obj} (h : FLD cls vs o) (f : Array Value → Array Value) : FLD cls (f vs) (o.mapFields f) ∧ (o.mapFields f).isFreed = false :=
  ⟨⟨(Obj.cls_mapFields ..).trans h.1, Obj.data_mapFields h.2 f⟩, Obj.isFreed_of_fields (Obj.data_mapFields h.2 f)⟩
theorem r_setField {e : Addr} {cls v : Value} {vs : Array Value} {i : Nat} {Q : Unit → Shared → Prop} (H : St h₀ os L s) (p : Put e (FLD cls vs) (FLD cls (vs.setIfInBounds i v)) L L') (hi : i < vs.size) (h : ∀ s', St h₀ os L' s' → Q () s') :
    wpAny M A (setField (.ref e) i v) Q E s := by
  obtain ⟨o, ho, hf⟩ := H.get p.mem
  exact wpAny_setField ho hf.2 hi (h _ (H.upd p ho (hf.map _).2 (hf.map _).1))
theorem r_field {e : Addr} {cls v : Value} {vs : Array Value} {i : Nat} {Q : Value → Shared → Prop} (H : St h₀ os L s) (hm : (e, FLD cls vs) ∈ L) (hi : vs[i]? = some v) (h : Q v s) : wpAny M A (field (.ref e) i) Q E s := by
  obtain ⟨o, ho, hf⟩ := H.get hm
  exact wpAny_field ho hf.2 hi h
/-- a new entry of the trace -/
theorem r_newEntry {outer : List Env} {C e : Addr} {cls head : Value} {vs : Array Value} {hadNext : Bool} {Q : Unit → Shared → Prop} (hfr : A.frames = some (env :: outer)) (fr : Frs (env :: outer) L) (hf : env.frame = some C)
    (H : St h₀ os ((e, FLD cls vs) :: L) s) (hsz : 1 < vs.size)
    (h : ∀ T ts s', ts[3]? = some (rawInt C) → St h₀ os ((T, FLD (.type "traceback") ts) :: (e, FLD cls (vs.setIfInBounds 1 (.ref T))) :: L) s' → Q () s') :
    wpAny M A (do let a ← frameOf env; let pl ← entryPlaceOf C hadNext; let b ← EntryCells.newEntry head a .none (rawInt C) .none pl; setField (.ref e) 1 b) Q E s := by
  have fr' : Frs (env :: outer) ((e, FLD cls vs) :: L) := fr.mono fun _ h => .tail _ h
  refine wpAny_bind (wpAny_frameOf_fun hfr (H.funFrames fr') hf fun h₁ hs₁ => ?_)
  have H₁ := H.slotsOnly fr' hs₁
  refine wpAny_bind (wpAny_entryPlaceOf fun pl hpl => ?_)
  unfold EntryCells.newEntry newFields
  refine wpAny_bind (wpAny_newObj_type ?_ (hpl.sizeOk5 _ _ _ _ _))
  have H₂ := H₁.push (o := { cls := .type "traceback", dict := none, data := .fields ([head, .ref C, .none, rawInt C, .none] ++ (if pl.isEmpty then List.replicate 6 Value.none else pl)).toArray })
    (P := FLD (.type "traceback") ([head, .ref C, .none, rawInt C, .none] ++ (if pl.isEmpty then List.replicate 6 Value.none else pl)).toArray) rfl ⟨rfl, rfl⟩
  exact r_setField H₂ (.tail .head) hsz fun s' H' => h _ _ s' (by simp) H'
/-- a frame noted in a new error -/
theorem r_noteNew {outer : List Env} {C e : Addr} {cls : Value} {vs : Array Value} {Q : Unit → Shared → Prop} (hfr : A.frames = some (env :: outer)) (fr : Frs (env :: outer) L) (hf : env.frame = some C)
    (H : St h₀ os ((e, FLD cls vs) :: L) s) (h1 : vs[1]? = some .none)
    (h : ∀ T ts s', ts[3]? = some (rawInt C) → St h₀ os ((T, FLD (.type "traceback") ts) :: (e, FLD cls (vs.setIfInBounds 1 (.ref T))) :: L) s' → Q () s') : wpAny M A (noteFrame (.ref e) env) Q E s := by
  unfold noteFrame
  simp only [hf]
  refine wpAny_bind (r_field H (.head _) h1 ?_)
  rw [if_neg (by decide)]
  exact r_newEntry hfr fr hf H (Array.getElem?_eq_some_iff.mp h1).1 h
/-- a frame noted in an error that has a trace -/
theorem r_noteOn {outer : List Env} {C e T : Addr} {cls tcls : Value} {vs ts : Array Value} {Q : Unit → Shared → Prop} (hfr : A.frames = some (env :: outer)) (fr : Frs (env :: outer) L) (hf : env.frame = some C)
    (H : St h₀ os ((T, FLD tcls ts) :: (e, FLD cls vs) :: L) s) (h1 : vs[1]? = some (.ref T)) (h3 : ts[3]? = some .none)
    (h : ∀ T ts s', ts[3]? = some (rawInt C) → St h₀ os ((T, FLD (.type "traceback") ts) :: (e, FLD cls (vs.setIfInBounds 1 (.ref T))) :: L) s' → Q () s') : wpAny M A (noteFrame (.ref e) env) Q E s := by
  unfold noteFrame
  simp only [hf]
  refine wpAny_bind (r_field H (.tail _ (.head _)) h1 ?_)
  rw [if_pos (show (Value.ref T != Value.none) = true from by simp)]
  refine wpAny_bind (r_field H (.head _) h3 ?_)
  rw [if_neg (show ¬ ((Value.none == rawInt C) = true) from by simp [rawInt])]
  refine wpAny_bind (r_setField H .head (Array.getElem?_eq_some_iff.mp h3).1 fun s' H' => ?_)
  exact r_newEntry hfr fr hf H'.tail (Array.getElem?_eq_some_iff.mp h1).1 h
/-- a new error in the ledger -/
theorem St.made {h' : Heap} {e : Addr} {cls : Value} {args : List Value} (H : St h₀ os L s) (x : Heap.MadeExcOf s.heap h' e cls args) : ∃ vs, vs[1]? = some Value.none ∧ St h₀ os ((e, FLD cls vs) :: L) { s with heap := h' } := by
  obtain ⟨t, he, _⟩ := x.there
  have H2 := H.ext0 x.keeps
  have D := H2.led
  refine ⟨#[.ref t, .none, .none, .none, .bool false, .none], rfl, ⟨⟨fun p hp => ?_, ?_, fun p hp => ?_, D.keep, fun p hp => ?_, D.three⟩, H2.gens, H2.os⟩⟩
  · rcases List.mem_cons.mp hp with rfl | hp
    · exact ⟨_, he, rfl, rfl⟩
    · exact D.at_ p hp
  · rw [List.map_cons, List.nodup_cons]
    refine ⟨fun hm => ?_, D.nd⟩
    obtain ⟨p, hp, e'⟩ := List.mem_map.mp hm
    obtain ⟨o', ho', _⟩ := H.led.at_ p hp
    rw [e', x.new] at ho'
    cases ho'
  · rcases List.mem_cons.mp hp with rfl | hp
    · cases hb : h₀.get? e with
      | none => rfl
      | some o' => have := H.led.keep _ _ hb; rw [x.new] at this; cases this
    · exact D.new p hp
  · rcases List.mem_cons.mp hp with rfl | hp
    · rintro rfl
      obtain ⟨o3, e3⟩ := D.three
      have := H.led.keep _ _ e3
      rw [x.new] at this
      cases this
    · exact D.high p hp
/-- the flight over -/
theorem r_land {e T : Addr} {cls tcls : Value} {vs ts : Array Value} {Q : Unit → Shared → Prop}
    (H : St h₀ os ((T, FLD tcls ts) :: (e, FLD cls vs) :: L) s) (h1 : vs[1]? = some (.ref T)) (h3 : 3 < ts.size)
    (h : ∀ s', St h₀ os ((T, FLD tcls (ts.setIfInBounds 3 .none)) :: (e, FLD cls vs) :: L) s' → Q () s') : wpAny M A (setFlight (.ref e) none) Q E s := by
  unfold setFlight
  refine wpAny_bind (r_field H (.tail _ (.head _)) h1 ?_)
  rw [if_pos (show (Value.ref T != Value.none) = true from by simp)]
  exact r_setField H .head h3 h
end
end Mine
end
section
open PySem PySem.W PySem.Calls PyProof.Rows
namespace Mine
/-- a dict, its epoch known -/
noncomputable def DIE (prog : Program) (w : World) (kvs : List (Nd × Value)) (ep : Nat) (o : Obj) : Prop := o.ExactDict ∧ (kvs.map (·.1)).Nodup ∧ ∃ es, o.data = .dict es ep ∧ KeysOf (ndKind prog w) es ∧ Pairs (ndKind prog w) es.toList kvs
noncomputable def KIT (d : Addr) (i n ep : Nat) (o : Obj) : Prop := o.cls = .type "dict_keyiterator" ∧ o.data = .fields #[.ref d, .int i 0, .int n 0, .int ep 0]
noncomputable def VIT (d : Addr) (i n ep : Nat) (o : Obj) : Prop := o.cls = .type "dict_valueiterator" ∧ o.data = .fields #[.ref d, .int i 0, .int n 0, .int ep 0]
noncomputable def VVW (d : Addr) (o : Obj) : Prop := o.cls = .type "dict_values" ∧ o.data = .fields #[.ref d]
section
variable {prog : Program} {w : World} {A : Around} {E : Value → Shared → Prop} {h₀ : Heap} {os : OsState} {L L' : List Ent} {s : Shared} {env : Env}
theorem DIE.di {kvs : List (Nd × Value)} {ep : Nat} {o : Obj} (h : DIE prog w kvs ep o) : DI prog w kvs o := ⟨h.1, h.2.1, let ⟨es, r⟩ := h.2.2; ⟨es, ep, r⟩⟩
theorem St.openD {d : Addr} {kvs : List (Nd × Value)} {L' : Nat → List Ent} (H : St h₀ os L s) (p : ∀ ep, Put d (DI prog w kvs) (DIE prog w kvs ep) L (L' ep)) : ∃ ep, St h₀ os (L' ep) s := by
  obtain ⟨o, ho, h1, h2, es, ep, h3⟩ := H.get (p 0).mem
  exact ⟨ep, ⟨H.led.put (p ep) (Heap.SameBut.refl ..) ho ⟨h1, h2, es, h3⟩, H.gens, H.os⟩⟩
theorem St.dictE (H : St h₀ os L s) {d : Addr} {kvs : List (Nd × Value)} {ep : Nat} (hm : (d, DIE prog w kvs ep) ∈ L) : s.heap.DictAt (ndKind prog w) d kvs ep := by
  obtain ⟨o, ho, hx, hn, es, hd, hk, hp⟩ := H.get hm; exact ⟨o, es, ho, hx, hd, hk, hp, hn⟩
noncomputable def keyJ (ia d : Addr) (kvs : List (Nd × Value)) (ep : Nat) (rem : List (Nd × Value)) : List Ent := [(ia, fun o => ∃ i, kvs.drop i = rem ∧ KIT d i kvs.length ep o)]
theorem nexts_keys (ia d : Addr) (kvs : List (Nd × Value)) (ep : Nat) : Nexts prog w (fun v (p : Nd × Value) => ND v p.1) (fun F => (d, DIE prog w kvs ep) ∈ F) (.ref ia) (keyJ ia d kvs ep) where
  next := by
    rintro A E h₀ os ⟨k, x⟩ rem F s Q hm H h
    obtain ⟨o, ho, i, hi, hc, hd⟩ := H.get (a := ia) (.head _)
    obtain ⟨hx, hr⟩ := drop_cons hi
    refine wpAny_pyNext_dict_item (i := i) ⟨o, ho, hc, hd⟩ (H.dictE (List.mem_append.mpr (.inr hm))) hx fun key h' hk hit hs => ?_
    obtain ⟨o', ho', hc', hd'⟩ := hit
    exact h key _ hk (H.put .head hs ho' ⟨i + 1, hr, hc', hd'⟩)
  stop := by
    rintro A E h₀ os F s Q hh hm H h
    obtain ⟨o, ho, i, hi, hc, hd⟩ := H.get (a := ia) (.head _)
    refine wpAny_pyNext_dict_end hh (i := i) ⟨o, ho, hc, hd⟩ (H.dictE (List.mem_append.mpr (.inr hm))) ?_ fun h' hx => h _ (H.ext hx)
    exact List.getElem?_eq_none (List.drop_eq_nil_iff.mp hi)
  self := by
    rintro A E h₀ os rem F s Q H h
    obtain ⟨o, ho, i, hi, hc, hd⟩ := H.get (a := ia) (.head _)
    exact wpAny_pyIter_keyiter (i := i) ⟨o, ho, hc, hd⟩ h
theorem r_iter_keys {d : Addr} {kvs : List (Nd × Value)} {ep : Nat} {Q : Value → Shared → Prop} (H : St h₀ os L s) (hm : (d, DIE prog w kvs ep) ∈ L) (h : ∀ ia s', St h₀ os (keyJ ia d kvs ep kvs ++ L) s' → Q (.ref ia) s') :
    wpAny (model prog w) A (pyIter (.ref d)) Q E s :=
  wpAny_pyIter_dict (H.notSys hm) (H.dictE hm) (h _ _ (H.push rfl ⟨0, rfl, rfl, rfl⟩))
noncomputable def valJ (ia d : Addr) (kvs : List (Nd × Value)) (ep : Nat) (rem : List (Nd × Value)) : List Ent := [(ia, fun o => ∃ i, kvs.drop i = rem ∧ VIT d i kvs.length ep o)]
theorem nexts_vals (ia d : Addr) (kvs : List (Nd × Value)) (ep : Nat) : Nexts prog w (fun v (p : Nd × Value) => v = p.2) (fun F => (d, DIE prog w kvs ep) ∈ F) (.ref ia) (valJ ia d kvs ep) where
  next := by
    rintro A E h₀ os ⟨k, x⟩ rem F s Q hm H h
    obtain ⟨o, ho, i, hi, hc, hd⟩ := H.get (a := ia) (.head _)
    obtain ⟨hx, hr⟩ := drop_cons hi
    refine wpAny_pyNext_values_item (i := i) ⟨o, ho, hc, hd⟩ (H.dictE (List.mem_append.mpr (.inr hm))) hx fun h' hit hs => ?_
    obtain ⟨o', ho', hc', hd'⟩ := hit
    exact h x _ rfl (H.put .head hs ho' ⟨i + 1, hr, hc', hd'⟩)
  stop := by
    rintro A E h₀ os F s Q hh hm H h
    obtain ⟨o, ho, i, hi, hc, hd⟩ := H.get (a := ia) (.head _)
    refine wpAny_pyNext_values_end hh (i := i) ⟨o, ho, hc, hd⟩ (H.dictE (List.mem_append.mpr (.inr hm))) ?_ fun h' hx => h _ (H.ext hx)
    exact List.getElem?_eq_none (List.drop_eq_nil_iff.mp hi)
  self := by
    rintro A E h₀ os rem F s Q H h
    obtain ⟨o, ho, i, hi, hc, hd⟩ := H.get (a := ia) (.head _)
    exact wpAny_pyIter_valiter (i := i) ⟨o, ho, hc, hd⟩ h
theorem r_iter_vals {v d : Addr} {kvs : List (Nd × Value)} {ep : Nat} {Q : Value → Shared → Prop} (H : St h₀ os L s) (hv : (v, VVW d) ∈ L) (hm : (d, DIE prog w kvs ep) ∈ L) (h : ∀ ia s', St h₀ os (valJ ia d kvs ep kvs ++ L) s' → Q (.ref ia) s') :
    wpAny (model prog w) A (pyIter (.ref v)) Q E s := by
  obtain ⟨o, ho, hc, hd⟩ := H.get hv
  exact wpAny_pyIter_values ⟨o, ho, hc, hd⟩ (H.dictE hm) (h _ _ (H.push rfl ⟨0, rfl, rfl, rfl⟩))
theorem r_values {d : Addr} {kvs : List (Nd × Value)} {ep : Nat} {Q : Value → Shared → Prop} (H : St h₀ os L s) (hm : (d, DIE prog w kvs ep) ∈ L) (h : ∀ v s', St h₀ os ((v, VVW d) :: L) s' → Q (.ref v) s') :
    wpAny (model prog w) A (call (.builtin "dict.values") [.ref d]) Q E s :=
  call_meetsIn PySem.F.slot_dict_values (H.dictE hm).dictOf.typeIs PySem.F.entry_dict_values (PySem.F.args_dict_values_1 _) (meets_dict_values (ndKind prog w) d (H.notSys hm)) ⟨⟨kvs, (H.dictE hm).dictOf⟩, h _ _ (H.push rfl ⟨rfl, rfl⟩)⟩
theorem r_mdictE {name : Str} {id : String} {d : Addr} {kvs : List (Nd × Value)} {ep : Nat} {pl : Sem Bool} {Q : Value × List Value → Shared → Prop} (slot : Slot "dict" name id) (hty : typeOf (.builtin id) = pure (.type "method_descriptor")) (H : St h₀ os L s) (hm : (d, DIE prog w kvs ep) ∈ L)
    (h : Q (.builtin id, [.ref d]) s) : wpAny (model prog w) A (getMethod (.ref d) name pl) Q E s :=
  getMethod_builtin (H.dictE hm).dictOf.typeIs PySem.F.plainAttrs_dict slot hty (H.dictE hm).dictOf.mapOf.noDict h
theorem r_subDE {value slice : Expr} {d : Addr} {kvs : List (Nd × Value)} {ep : Nat} {k : Nd} {key v : Value} {Q : Value → Shared → Prop} (H : St h₀ os L s) (hm : (d, DIE prog w kvs ep) ∈ L) (hk : ND key k) (hv : valueAt kvs k = some v) (h : ∀ s', St h₀ os L s' → Q v s')
    (hs : subscripted slice false (.ref d) key = operate [.ref d, key] (getItem (.ref d) key) := by with_unfolding_all rfl) : wpAny (model prog w) A (subscriptTail value slice (.ref d) key) Q E s :=
  tail_any (H.dictE hm).dictOf.typeIs PySem.F.slot_dict_getitem.lookup (wpAny_getItem_of (knd := ndKind prog w) hk (H.dictE hm).dictOf.mapOf hv (h _ (H.toks _))) hs
end
end Mine
end
section
open PySem PySem.W PySem.Calls PyProof.Rows
namespace Mine
noncomputable def LIX (l : Addr) (o : Obj) : Prop := o = liObj #[.ref l, .int 0 0]
section
variable {prog : Program} {w : World} {M : Model} {A : Around} {E : Value → Shared → Prop} {h₀ : Heap} {os : OsState} {L L' : List Ent} {s : Shared} {env : Env}
theorem r_iterFn {l : Addr} {vs : List Value} {Q : Value → Shared → Prop} (H : St h₀ os L s) (hm : (l, LI vs) ∈ L) (h : ∀ ia s', St h₀ os ((ia, LIX l) :: L) s' → Q (.ref ia) s') : wpAny (model prog w) A (call (.builtin "iter") [.ref l]) Q E s := by
  refine call_function_entry (by decide +kernel) (by decide +kernel) kdk_entry_iter (kdk_args_iter _) ?_
  unfold Builtin.«iter»
  refine wpAny_bind (m := someArgs "iter" 1 2 _) (wpAny_of_eq (a := [Value.ref l]) (by first | rfl | kernel_rfl!) ?_)
  show wpAny _ _ (pyIter (.ref l) >>= _) _ _ _
  refine wpAny_bind (wpAny_pyIter_list (H.list hm) ?_)
  exact wpAny_pure ⟨_, rfl, h _ _ (H.push rfl rfl)⟩
theorem r_nextAttr {ia l : Addr} {expr : Bool} {Q : Value → Shared → Prop} (H : St h₀ os ((ia, LIX l) :: L) s) (h : ∀ q s', St h₀ os ((q, WR ia) :: (ia, LIT l 0) :: L) s' → Q (.ref q) s') : wpAny (model prog w) A (getAttr (.ref ia) (Str.ofString "__next__") expr) Q E s := by
  obtain ⟨o, ho, rfl⟩ := H.get (.head _)
  obtain ⟨hh, g, d, t, os'⟩ := s
  refine nx_attr ho (h _ _ ?_)
  exact ((H.imp (P' := LIT l 0) .head fun o e => by rw [e]; exact ⟨rfl, rfl⟩).push (o := wrapObj ia) (P := WR ia) rfl rfl).toks _
theorem r_callS {a b : Expr} {sp pos : Pos} {es : List Expr} {Q : Value → Shared → Prop} (h : wpAny M A (eval (.Subscript a b sp) env) (fun f s₁ => wpAny M A (callWith pos f [] (backTo pos (starEach es env)) []) Q E s₁) E s) :
    wpAny M A (eval (.Call (.Subscript a b sp) es [] pos) env) Q E s := by
  show wpAny M A (do callWith pos (← eval (.Subscript a b sp) env) [] (backTo pos (starEach es env)) (backToKw pos (keywordEach [] env))) Q E s
  exact wpAny_bind h
theorem r_cwW {q it : Addr} {pos : Pos} {Q : Value → Shared → Prop} (H : St h₀ os L s) (hq : (q, WR it) ∈ L) (h : wpAny M A (call (.ref q) []) Q E s) : wpAny M A (callWith pos (.ref q) [] (backTo pos (starEach [] env)) []) Q E s := by
  obtain ⟨o, ho, rfl⟩ := H.get hq
  refine callWith_of (P := fun h => h.get? q = some (wrapObj it)) rfl (fun h k => ⟨.machine, .inr (.inl rfl), (Looks.ld (part := none) k).andThen .now⟩) (evalArgs_nil3 ⟨ho, h⟩)
theorem r_neg {a : Int} {t : Tok} {Q : Value → Shared → Prop} (H : St h₀ os L s) (h : ∀ t s', St h₀ os L s' → Q (.int (-a) t) s') : wpAny (model prog w) A (unaryOp .USub (.int a t)) Q E s := PySem.P.neg_int (h _ _ (H.toks _))
theorem r_addL {a b : Addr} {xs ys : List Value} {Q : Value → Shared → Prop} (H : St h₀ os L s) (ha : (a, LI xs) ∈ L) (hb : (b, LI ys) ∈ L) (hz : xs.length + ys.length < 2 ^ 20) (h : ∀ c s', St h₀ os ((c, LI (xs ++ ys)) :: L) s' → Q (.ref c) s') :
    wpAny (model prog w) A (binaryOp .Add (.ref a) (.ref b)) Q E s := by
  obtain ⟨o, ho, n, rfl⟩ := H.get ha
  obtain ⟨o2, ho2, n2, rfl⟩ := H.get hb
  refine PySem.P.add_list (items := xs.toArray) (items2 := ys.toArray) ho ho2 (h _ _ ?_) (by rw [sizeLine_eq]; simp; omega)
  exact H.push rfl ⟨0, by simp⟩
/-- a slice of a list, its bounds read -/
theorem r_slice {value : Expr} {lower upper : Option Expr} {p pos : Pos} {Q : Value → Shared → Prop}
    (h : wpAny (model prog w) A (eval value env) (fun o s₁ => wpAny (model prog w) A (evalPart lower env) (fun vl s₂ => wpAny (model prog w) A (evalPart upper env) (fun vu s₃ =>
      ∃ L l xs lo hi, o = .ref l ∧ St h₀ os L s₃ ∧ (l, LI xs) ∈ L ∧ xs.length < 2 ^ 20 ∧ IsPart vl lo ∧ IsPart vu hi ∧ ∀ a s', St h₀ os ((a, LI (slicePick xs.toArray lo hi none).toList) :: L) s' → Q (.ref a) s') E s₂) E s₁) E s)
    (ht : ∀ o r, letTemporaryGo value o r = pure () := by intro _ _; rfl) :
    wpAny (model prog w) A (eval (.Subscript value (.Slice lower upper none p) pos) env) Q E s := by
  refine wpAny_Subscript_list_slice (wpAny_mono h (fun o s₁ h₁ => wpAny_mono h₁ (fun vl s₂ h₂ => wpAny_mono h₂ (fun vu s₃ h₃ => ?_) fun _ _ e => e) fun _ _ e => e) fun _ _ e => e) ht
  obtain ⟨L, l, xs, lo, hi, rfl, H, hm, hz, p1, p2, hQ⟩ := h₃
  refine ⟨l, xs.toArray, lo, hi, rfl, H.list hm, by rw [sizeLine_eq]; simp; omega, p1, p2, ?_⟩
  have H2 := ((H.push (o := { cls := .type "slice", data := .fields #[vl, vu, .none] }) (P := fun _ => True) rfl trivial).push (o := { cls := .type "list", data := .seq (slicePick xs.toArray lo hi none) }) (P := LI (slicePick xs.toArray lo hi none).toList) rfl ⟨0, by simp⟩)
  have e : ({ s₃ with heap := s₃.heap.push { cls := .type "slice", data := .fields #[vl, vu, .none] } } : Shared).heap.objs.size = s₃.heap.objs.size + 1 := Heap.size_push ..
  rw [e] at H2
  have H3 := (H2.bring 1).tail
  exact hQ _ _ H3
end
end Mine
end
section
open PySem PySem.W PySem.Calls PyProof.Rows
namespace Mine
noncomputable abbrev KH : Params → Frag := hd.heap_39

noncomputable def globTab : List (Str × Value) := [(Str.ofString "_law_node", .ref 148), (Str.ofString "_law_far", .ref 153), (Str.ofString "TopologicalSorter", .ref 137), (Str.ofString "CycleError", .ref 55), (Str.ofString "_NodeInfo", .ref 40),
  (Str.ofString "_NODE_OUT", .int (-1) 197), (Str.ofString "_NODE_DONE", .int (-2) 200), (Str.ofString "len", .builtin "len"), (Str.ofString "range", .type "range"), (Str.ofString "chr", .builtin "chr"), (Str.ofString "sorted", .builtin "sorted"),
  (Str.ofString "tuple", .type "tuple"), (Str.ofString "bool", .type "bool"), (Str.ofString "set", .type "set"), (Str.ofString "iter", .builtin "iter"), (Str.ofString "StopIteration", .type "StopIteration")]
/-- what is known of the heap that the call finds -/
structure BF (w : World) (h₀ : Heap) : Prop where
  K : (KH w.params).In h₀
  nolim : h₀.NoLimit
  glob : ∀ x v, (x, v) ∈ globTab → GlobIs h₀ x v

/-- room for k calls more, nothing being handled -/
structure Calm (A : Around) (k : Nat) : Prop where
  handled : A.handled = none
  depth : A.depth + k < 600
  units : A.units + 20 * k < 900
theorem Calm.room {A : Around} {k : Nat} (h : Calm A k) : A.depth < recursionLimit := by have := h.depth; show A.depth < 1000; omega
theorem Calm.deeper {A : Around} {k : Nat} {env : Env} (h : Calm A (k + 1)) : Calm (A.deeper env) k := ⟨h.handled, by have := h.depth; show A.depth + 1 + k < 600; omega, by have := h.units; show A.units + 3 + 20 * k < 900; omega⟩
theorem Calm.le {A : Around} {k l : Nat} (h : Calm A k) (hl : l ≤ k) : Calm A l := ⟨h.handled, by have := h.depth; omega, by have := h.units; omega⟩

theorem Calm.u {A : Around} {k : Nat} (h : Calm A k) : A.units < 900 := Nat.lt_of_le_of_lt (Nat.le_add_right _ _) h.units
/-! small numbers -/
theorem b40 {k : Nat} (h : k ≤ 1000) : k < 2 ^ 40 := by omega
theorem b20 {k : Nat} (h : k ≤ 1000) : k < 2 ^ 20 := by omega
theorem bsz {k : Nat} (h : k ≤ 1000) : k ≤ sizeLine := by rw [sizeLine_eq]; omega
theorem s1k {k : Nat} (h : k ≤ 21) : k ≤ 1000 := Nat.le_trans h (by decide)
theorem s40 {k : Nat} (h : k ≤ 21) : k < 2 ^ 40 := b40 (s1k h)
theorem s20 {k : Nat} (h : k ≤ 21) : k < 2 ^ 20 := b20 (s1k h)
theorem ssz {k : Nat} (h : k ≤ 21) : k ≤ sizeLine := bsz (s1k h)
theorem lt21 {k n : Nat} (h : k < n) (hn : n ≤ 21) : k ≤ 21 := Nat.le_trans (Nat.le_of_lt h) hn
theorem plus2 {a : Nat} (h : a < 64) : a + 2 ≤ 1000 := by omega
theorem sub2 (n : Nat) : n + 3 - (n + 1) = 2 := by omega
theorem sum800 {a b : Nat} (h1 : a ≤ 21) (h2 : b ≤ 21) : a + b < 800 := by omega
theorem szn {n b : Nat} (h1 : n ≤ 21) (h2 : b ≤ 21) : 21 * n + b ≤ sizeLine := bsz (by omega)
theorem sum20e {a b n : Nat} (h : a ≤ 21 * n) (h1 : n ≤ 21) (h2 : b ≤ 21) : a + b < 2 ^ 20 := b20 (by omega)
theorem sum20 {a b : Nat} (h1 : a ≤ 21) (h2 : b ≤ 21) : a + b < 2 ^ 20 := b20 (by omega)
theorem third_lt {n x : Nat} (h : 3 * n < x) : n < (x + 2) / 3 := by omega
theorem third_21 {n x : Nat} (h : 3 * n < x) (hx : x < 64) : n ≤ 21 := by omega
theorem two_lt {y : Nat} (h : y ≤ 21) : (2 : Int) ^ y < 1073741824 := by
  have : (2 : Nat) ^ y ≤ 2 ^ 21 := Nat.pow_le_pow_right (by decide) h
  have : ((2 ^ y : Nat) : Int) ≤ ((2 ^ 21 : Nat) : Int) := Int.ofNat_le.mpr this
  rw [Int.natCast_pow] at this
  exact Int.lt_of_le_of_lt this (by decide)
/-- the node of a number -/
noncomputable def nodeOf (x : Int) : Nd := if x % 2 = 0 then .i x else .c ⟨#[(97 + x / 2 % 26).toNat]⟩

section
variable {prog : Program} {w : World} {A : Around} {E : Value → Shared → Prop} {h₀ : Heap} {os : OsState} {L : List Ent} {s : Shared}
theorem BF.code (B : BF w h₀) {cd : Value} {q : Str} (e : codeIn (KH w.params) cd q = true) : h₀.CodeRec cd q := codeRec_of B.K e

theorem law_node_spec {k : Nat} (B : BF w h₀) (hA : Calm A (k + 1)) (H : St h₀ os L s) {v : Value} {x : Int} {Q : Value → Shared → Prop} (hv : IV v x) (h : ∀ v' s', ND v' (nodeOf x) → St h₀ os L s' → Q v' s') :
    wpAny (model prog w) A (call (.ref 148) [v]) Q E s := by
  obtain ⟨t, rfl⟩ := hv
  refine wpAny_call (r_callFn H hA.room B.nolim (B.K 148 _ rfl) rfl (B.code (by kernel_rfl)) rfl rfl rfl rfl rfl rfl ?_)
  refine wpAny_pure ⟨L, H, fun env C as s₁ _ V hl H₁ => ?_⟩
  obtain rfl : as = [] := List.length_eq_zero_iff.mp hl
  refine r_binds_cons (r_sto V H₁ .head (fun s₂ H₂ => r_binds_nil ⟨_, H₂, ?_⟩))
  refine wpAny_execs_cons (wpAny_Return_some (wpAny_IfExp (r_cmp1 (wpAny_BinOp ?_))))
  refine r_loc V H₂ (.head _) rfl (r_int H₂ fun _ s₃ H₃ => r_mod H₃ (by decide) fun _ s₄ H₄ => r_int H₄ fun _ s₅ H₅ => r_eqI (wpAny_truthy_bool ?_))
  by_cases hx : x % 2 = 0
  · rw [show (x % 2 == 0) = true by simpa using hx]
    refine r_loc V H₅ (.head _) rfl (h _ _ ?_ H₅.tail)
    unfold nodeOf; rw [if_pos hx]; exact Nd.is_int ..
  · rw [show (x % 2 == 0) = false by simpa using hx]
    refine r_callN (r_glo V H₅ (B.glob _ (.builtin "chr") (by decide)) (r_cw H₅ (keeps_builtin _) ?_))
    refine wpAny_BinOp (r_int H₅ fun _ s₆ H₆ => wpAny_BinOp (wpAny_BinOp (r_loc V H₆ (.head _) rfl (r_int H₆ fun _ s₇ H₇ => r_div H₇ (by decide) (by decide) fun _ s₈ H₈ => r_int H₈ fun _ s₉ H₉ =>
      r_mod H₉ (by decide) fun _ sa Ha => r_add Ha fun _ sb Hb => ⟨_, Hb, ?_⟩))))
    have h1 := Int.emod_nonneg (x / 2) (show (26 : Int) ≠ 0 by decide)
    have h2 := Int.emod_lt_of_pos (x / 2) (show (0 : Int) < 26 by decide)
    refine chr_of_range (by omega) (by omega) (h _ _ ?_ (Hb.toks _).tail)
    unfold nodeOf; rw [if_neg hx]; exact Nd.is_str ..
end
end Mine
end
set_option genInjectivity false
section
open PySem PySem.W PySem.Calls PyProof.Rows
namespace Mine

/-- a node's record as it lies -/
structure NI where
  addr : Addr
  dx : Addr
  sa : Addr
  kv : Value
  key : Nd
  np : Int
  tok : Tok
  svs : List Value
  succ : List Nd
noncomputable def NI.ok (n : NI) : Prop := ND n.kv n.key ∧ All2 ND n.svs n.succ
noncomputable def NI.obj (n : NI) : Obj → Prop := INST 40 n.dx #[some n.kv, some (.int n.np n.tok), some (.ref n.sa)]
noncomputable def nisL : List NI → List Ent
  | [] => []
  | n :: r => (n.addr, n.obj) :: (n.dx, ID []) :: (n.sa, LI n.svs) :: nisL r
theorem nisL_append (a b : List NI) : nisL (a ++ b) = nisL a ++ nisL b := by
  induction a with
  | nil => rfl
  | cons n r ih => simp [nisL, ih]
theorem nisL_mem {nis : List NI} {n : NI} (h : n ∈ nis) : (n.addr, n.obj) ∈ nisL nis ∧ (n.dx, ID []) ∈ nisL nis ∧ (n.sa, LI n.svs) ∈ nisL nis := by
  induction nis with
  | nil => cases h
  | cons x r ih =>
    rcases List.mem_cons.mp h with rfl | h
    · exact ⟨.head _, .tail _ (.head _), .tail _ (.tail _ (.head _))⟩
    · obtain ⟨a, b, c⟩ := ih h
      exact ⟨.tail _ (.tail _ (.tail _ a)), .tail _ (.tail _ (.tail _ b)), .tail _ (.tail _ (.tail _ c))⟩
theorem put_np {nis : List NI} {i : Nat} {n : NI} (h : nis[i]? = some n) (np : Int) (tok : Tok) :
    Put n.addr n.obj ({ n with np, tok } : NI).obj (nisL nis) (nisL (nis.set i { n with np, tok })) := by
  induction nis generalizing i with
  | nil => simp at h
  | cons x r ih =>
    cases i with
    | zero => simp at h; subst h; exact .head
    | succ i => simp at h; exact .tail (.tail (.tail (ih h)))
theorem put_succ {nis : List NI} {i : Nat} {n : NI} (h : nis[i]? = some n) (v : Value) (k : Nd) :
    Put n.sa (LI n.svs) (LI (n.svs ++ [v])) (nisL nis) (nisL (nis.set i { n with svs := n.svs ++ [v], succ := n.succ ++ [k] })) := by
  induction nis generalizing i with
  | nil => simp at h
  | cons x r ih =>
    cases i with
    | zero => simp at h; subst h; exact .tail (.tail .head)
    | succ i => simp at h; exact .tail (.tail (.tail (ih h)))

/-- the sorter as it lies -/
structure So where
  self : Addr
  dx : Addr
  n2i : Addr
  nis : List NI
  ready : Value
  passed : Int
  ptok : Tok
  fin : Int
  ftok : Tok
noncomputable def So.attrs (S : So) : List (Str × Value) := [(Str.ofString "_node2info", .ref S.n2i), (Str.ofString "_ready_nodes", S.ready), (Str.ofString "_npassedout", .int S.passed S.ptok), (Str.ofString "_nfinished", .int S.fin S.ftok)]
noncomputable def So.kvs (S : So) : List (Nd × Value) := S.nis.map fun n => (n.key, .ref n.addr)
noncomputable def So.L (prog : Program) (w : World) (S : So) : List Ent := (S.self, INST 137 S.dx #[]) :: (S.dx, ID S.attrs) :: (S.n2i, DI prog w S.kvs) :: nisL S.nis
noncomputable def So.ok (S : So) : Prop := (∀ n ∈ S.nis, n.ok) ∧ (S.nis.map (·.key)).Nodup ∧ S.nis.length ≤ 1000 ∧ handedIn S.ready = true

section
variable {prog : Program} {w : World} {A : Around} {E : Value → Shared → Prop} {h₀ : Heap} {os : OsState} {L L' : List Ent} {s : Shared}

theorem kf_get137 (P : Params) (name : Str) : plainGet (KH P) 137 name = true := by unfold plainGet; kernel_rfl
theorem kf_get40 (P : Params) (name : Str) : plainGet (KH P) 40 name = true := by unfold plainGet; kernel_rfl
theorem kf_dict137 (P : Params) : hasDictIn (KH P) 137 = true := by kernel_rfl
theorem kf_set137 (P : Params) : findIn (KH P) (.ref 137) "__setattr__" = some (some (.builtin "object.__setattr__")) := by kernel_rfl
theorem kf_set40 (P : Params) : findIn (KH P) (.ref 40) "__setattr__" = some (some (.builtin "object.__setattr__")) := by kernel_rfl
theorem kf_over137 (P : Params) : plainOver (KH P) 137 = true := by kernel_rfl
theorem kf_over40 (P : Params) : plainOver (KH P) 40 = true := by kernel_rfl
theorem kf_cls40 (P : Params) : (clsIn (KH P) 40).isSome = true := by kernel_rfl

noncomputable def soNames : List Str := [Str.ofString "_node2info", Str.ofString "_ready_nodes", Str.ofString "_npassedout", Str.ofString "_nfinished"]
theorem kf_find1 (P : Params) : findIn (KH P) (.ref 137) (Str.ofString "_node2info") = some none := by kernel_rfl
theorem kf_find2 (P : Params) : findIn (KH P) (.ref 137) (Str.ofString "_ready_nodes") = some none := by kernel_rfl
theorem kf_find3 (P : Params) : findIn (KH P) (.ref 137) (Str.ofString "_npassedout") = some none := by kernel_rfl
theorem kf_find4 (P : Params) : findIn (KH P) (.ref 137) (Str.ofString "_nfinished") = some none := by kernel_rfl
theorem kf_find (P : Params) {name : Str} (h : name ∈ soNames) : findIn (KH P) (.ref 137) name = some none := by
  simp only [soNames, List.mem_cons, List.not_mem_nil, or_false] at h
  rcases h with rfl | rfl | rfl | rfl
  · exact kf_find1 P
  · exact kf_find2 P
  · exact kf_find3 P
  · exact kf_find4 P
theorem kf_taker (P : Params) {name : Str} (h : name ∈ soNames) : takerIn (KH P) 137 name = some none := by unfold takerIn; rw [kf_find P h]; rfl

/-- an attribute of the sorter's read -/
theorem r_soGet {expr : Bool} {x dx : Addr} {m : List (Str × Value)} {name : Str} {v : Value} {Q : Value → Shared → Prop} (B : BF w h₀) (H : St h₀ os L s) (hx : (x, INST 137 dx #[]) ∈ L) (hd : (dx, ID m) ∈ L)
    (hl : m.lookup name = some v) (hv : handedIn v = true) (h : ∀ s', St h₀ os L s' → Q v s') (hn : name ∈ soNames := by decide) : wpAny (model prog w) A (getAttr (.ref x) name expr) Q E s :=
  r_getD H B.K hx hd (kf_get137 _ _) (kf_dict137 _) (kf_find _ hn) rfl hl hv h
/-- an attribute of the sorter's stored -/
theorem r_soSet {x dx : Addr} {m : List (Str × Value)} {name : Str} {v : Value} {Q : Unit → Shared → Prop} (B : BF w h₀) (H : St h₀ os L s) (hx : (x, INST 137 dx #[]) ∈ L) (p : Put dx (ID m) (ID (putL m name v)) L L')
    (hz : m.length ≤ 1000) (h : ∀ s', St h₀ os L' s' → Q () s') (hn : name ∈ soNames := by decide) : wpAny (model prog w) A (setAttr (.ref x) name v) Q E s :=
  r_setD H B.K hx p (kf_set137 _) (kf_over137 _) (kf_taker _ hn) (kf_dict137 _) hz h

/-- a slot of a node's record -/
noncomputable def slotNo (name : Str) : Nat := if name = Str.ofString "node" then 0 else if name = Str.ofString "npredecessors" then 1 else 2
noncomputable def slotAd (name : Str) : Nat := if name = Str.ofString "node" then 41 else if name = Str.ofString "npredecessors" then 42 else 43
noncomputable def niNames : List Str := [Str.ofString "node", Str.ofString "npredecessors", Str.ofString "successors"]
theorem kf_slot1 (P : Params) : findIn (KH P) (.ref 40) (Str.ofString "node") = some (some (.ref 41)) ∧ specialIn (KH P) (.ref 41) "__get__" = some (some (.builtin "member_descriptor.__get__")) ∧ takesIn (KH P) (.ref 41) = some true ∧ slotIn (KH P) 41 40 = some 0 ∧ typeIn (KH P) (.ref 41) = some (.type "member_descriptor") := ⟨by kernel_rfl, by kernel_rfl, by kernel_rfl, by kernel_rfl, by kernel_rfl⟩
theorem kf_slot2 (P : Params) : findIn (KH P) (.ref 40) (Str.ofString "npredecessors") = some (some (.ref 42)) ∧ specialIn (KH P) (.ref 42) "__get__" = some (some (.builtin "member_descriptor.__get__")) ∧ takesIn (KH P) (.ref 42) = some true ∧ slotIn (KH P) 42 40 = some 1 ∧ typeIn (KH P) (.ref 42) = some (.type "member_descriptor") := ⟨by kernel_rfl, by kernel_rfl, by kernel_rfl, by kernel_rfl, by kernel_rfl⟩
theorem kf_slot3 (P : Params) : findIn (KH P) (.ref 40) (Str.ofString "successors") = some (some (.ref 43)) ∧ specialIn (KH P) (.ref 43) "__get__" = some (some (.builtin "member_descriptor.__get__")) ∧ takesIn (KH P) (.ref 43) = some true ∧ slotIn (KH P) 43 40 = some 2 ∧ typeIn (KH P) (.ref 43) = some (.type "member_descriptor") := ⟨by kernel_rfl, by kernel_rfl, by kernel_rfl, by kernel_rfl, by kernel_rfl⟩
theorem kf_slot (P : Params) {name : Str} (h : name ∈ niNames) : ∃ p, p = slotAd name ∧ findIn (KH P) (.ref 40) name = some (some (.ref p)) ∧ specialIn (KH P) (.ref p) "__get__" = some (some (.builtin "member_descriptor.__get__")) ∧ takesIn (KH P) (.ref p) = some true ∧ slotIn (KH P) p 40 = some (slotNo name) ∧ typeIn (KH P) (.ref p) = some (.type "member_descriptor") := by
  simp only [niNames, List.mem_cons, List.not_mem_nil, or_false] at h
  rcases h with rfl | rfl | rfl
  · exact ⟨41, rfl, kf_slot1 P⟩
  · exact ⟨42, rfl, kf_slot2 P⟩
  · exact ⟨43, rfl, kf_slot3 P⟩
theorem r_niGet (i : Nat) {expr : Bool} {x dx : Addr} {sl : Array (Option Value)} {m : List (Str × Value)} {name : Str} {v : Value} {Q : Value → Shared → Prop} (B : BF w h₀) (H : St h₀ os L s) (hx : (x, INST 40 dx sl) ∈ L) (hd : (dx, ID m) ∈ L)
    (hl : (sl[i]?).join = some v) (hv : handedIn v = true) (h : ∀ s', St h₀ os L s' → Q v s') (hn : name ∈ niNames := by decide) (hi : slotNo name = i := by decide) : wpAny (model prog w) A (getAttr (.ref x) name expr) Q E s := by
  obtain ⟨p, _, h1, h2, h3, h4, h5⟩ := kf_slot w.params hn
  subst hi
  exact r_getS H B.K hx hd (kf_get40 _ _) (kf_cls40 _) h1 h2 h3 h4 hl hv h
theorem r_niSet (i : Nat) {sl' : Array (Option Value)} {x dx : Addr} {sl : Array (Option Value)} {m : List (Str × Value)} {name : Str} {v : Value} {Q : Unit → Shared → Prop} (B : BF w h₀) (H : St h₀ os L s) (hd : (dx, ID m) ∈ L)
    (he : (sl ++ Array.replicate (i + 1 - sl.size) none).setIfInBounds i (some v) = sl') (pt : Put x (INST 40 dx sl) (INST 40 dx sl') L L')
    (h : ∀ s', St h₀ os L' s' → Q () s') (hn : name ∈ niNames := by decide) (hi : slotNo name = i := by decide) : wpAny (model prog w) A (setAttr (.ref x) name v) Q E s := by
  obtain ⟨p, _, h1, h2, h3, h4, h5⟩ := kf_slot w.params hn
  subst hi
  subst he
  refine r_setS H B.K hd pt (kf_set40 _) (kf_over40 _) ?_ h5 h4 (by unfold slotNo; split <;> (try split) <;> decide) h
  unfold takerIn; rw [h1, Option.bind_some]; dsimp only; rw [h3]; rfl
end
end Mine
end
section
open PySem PySem.W PySem.Calls PyProof.Rows
namespace Mine
section
variable {prog : Program} {w : World} {A : Around} {E : Value → Shared → Prop} {h₀ : Heap} {os : OsState} {L L' : List Ent} {s : Shared}

theorem Calm.made {k : Nat} {id : String} {args : Args} (h : Calm A (k + 1)) (hid : (Code.builtin id args).cUnits ≤ 20 := by exact Nat.le_of_ble_eq_true rfl) (hw : (Code.builtin id args).weight ≤ 1 := by exact Nat.le_of_ble_eq_true rfl) : Calm (A.under (.builtin id args)) k :=
  ⟨h.handled, by have := h.depth; show A.depth + _ + k < 600; omega, by have := h.units; show A.units + _ + 20 * k < 900; omega⟩
theorem kf_makes137 (P : Params) : makesIn (KH P) 137 = true ∧ findIn (KH P) (.ref 137) "__init__" = some (some (.ref 73)) ∧ typeIn (KH P) (.ref 73) = some (.type "function") := ⟨by kernel_rfl, by kernel_rfl, by kernel_rfl⟩

theorem new_sorter {k : Nat} (B : BF w h₀) (hA : Calm A (k + 2)) (H : St h₀ os L s) {Q : Value → Shared → Prop}
    (h : ∀ (S : So) s', S.nis = [] → S.ready = .none → S.passed = 0 → S.fin = 0 → St h₀ os (S.L prog w ++ L) s' → Q (.ref S.self) s') :
    wpAny (model prog w) A (call (.ref 137) []) Q E s := by
  obtain ⟨k1, k2, k3⟩ := kf_makes137 w.params
  refine wpAny_call (r_make H B.K k1 k2 k3 fun x dx s₁ H₁ => ?_)
  have hA' : Calm (A.under (.builtin "type.__call__" ⟨[.ref 137], []⟩)) (k + 1) := hA.made
  refine r_callFn H₁ hA'.room B.nolim (B.K 73 _ rfl) rfl (B.code (by kernel_rfl)) rfl rfl rfl rfl rfl rfl ?_
  refine BindsTo.of_defaults rfl (H₁.keep _ _ (B.K 66 _ rfl)) rfl rfl rfl _ _ _ _ ⟨_, H₁, fun env C as s₂ _ V hl H₂ => ?_⟩
  obtain rfl : as = [] := List.length_eq_zero_iff.mp hl
  refine r_binds_cons (r_sto V H₂ .head (fun s₃ H₃ => r_binds_cons (r_sto V H₃ .head fun s₃ H₃ => r_binds_nil ⟨_, H₃, ?_⟩)))
  refine wpAny_execs_cons (plainObj_wpAny_Assign_Attribute (wpAny_Dict_empty ?_))
  have H₄ := H₃.push (o := { cls := .type "dict", data := .dict #[] }) (P := DI prog w []) rfl DI.nil
  refine r_loc V H₄ (.tail _ (.head _)) rfl (r_soSet B H₄ (.tail _ (.tail _ (.head _))) (.tail (.tail (.tail .head))) (Nat.le_of_ble_eq_true rfl) fun s₅ H₅ => ?_)
  refine wpAny_execs_cons (plainObj_wpAny_Assign_Attribute (wpAny_Constant_none ?_))
  refine r_loc V H₅ (.tail _ (.head _)) rfl (r_soSet B H₅ (.tail _ (.tail _ (.head _))) (.tail (.tail (.tail .head))) (Nat.le_of_ble_eq_true rfl) fun s₆ H₆ => ?_)
  refine wpAny_execs_cons (plainObj_wpAny_Assign_Attribute (r_int H₆ fun t₆ s₇ H₇ => ?_))
  refine r_loc V H₇ (.tail _ (.head _)) rfl (r_soSet B H₇ (.tail _ (.tail _ (.head _))) (.tail (.tail (.tail .head))) (Nat.le_of_ble_eq_true rfl) fun s₈ H₈ => ?_)
  refine wpAny_execs_cons (plainObj_wpAny_Assign_Attribute (r_int H₈ fun t₈ s₉ H₉ => ?_))
  refine r_loc V H₉ (.tail _ (.head _)) rfl (r_soSet B H₉ (.tail _ (.tail _ (.head _))) (.tail (.tail (.tail .head))) (Nat.le_of_ble_eq_true rfl) fun sa Ha => ?_)
  refine wpAny_execs_cons (wpAny_If (r_cmp1 (r_loc V Ha (.tail _ (.head _)) rfl (wpAny_Constant_none (isNot_none (wpAny_truthy_bool ?_))))))
  refine wpAny_execs_nil (wpAny_execs_nil ⟨rfl, ?_⟩)
  show Q (.ref x) sa
  exact h ⟨x, dx, _, [], .none, 0, t₆, 0, t₈⟩ sa rfl rfl rfl rfl ((Ha.bring 1).tail.bring 2 |>.bring 2)
end
end Mine
end
section
open PySem PySem.W PySem.Calls PyProof.Rows
namespace Mine
section
variable {prog : Program} {w : World} {A : Around} {E : Value → Shared → Prop} {h₀ : Heap} {os : OsState} {L L' F : List Ent} {s : Shared}

theorem kf_makes40 (P : Params) : makesIn (KH P) 40 = true ∧ findIn (KH P) (.ref 40) "__init__" = some (some (.ref 36)) ∧ typeIn (KH P) (.ref 36) = some (.type "function") := ⟨by kernel_rfl, by kernel_rfl, by kernel_rfl⟩

theorem new_ni {k : Nat} (B : BF w h₀) (hA : Calm A (k + 2)) (H : St h₀ os L s) {v : Value} {key : Nd} (hv : ND v key) {Q : Value → Shared → Prop}
    (h : ∀ (n : NI) s', n.kv = v → n.key = key → n.np = 0 → n.svs = [] → n.succ = [] → St h₀ os (nisL [n] ++ L) s' → Q (.ref n.addr) s') :
    wpAny (model prog w) A (call (.ref 40) [v]) Q E s := by
  obtain ⟨k1, k2, k3⟩ := kf_makes40 w.params
  refine wpAny_call (r_make H B.K k1 k2 k3 fun x dx s₁ H₁ => ?_)
  have hA' : Calm (A.under (.builtin "type.__call__" ⟨[.ref 40, v], []⟩)) (k + 1) := hA.made
  refine r_callFn H₁ hA'.room B.nolim (B.K 36 _ rfl) rfl (B.code (by kernel_rfl)) rfl rfl rfl rfl rfl rfl ?_
  refine wpAny_pure ⟨_, H₁, fun env C as s₂ _ V hl H₂ => ?_⟩
  obtain rfl : as = [] := List.length_eq_zero_iff.mp hl
  refine r_binds_cons (r_sto V H₂ .head (fun s₃ H₃ => r_binds_cons (r_sto V H₃ .head fun s₃ H₃ => r_binds_nil ⟨_, H₃, ?_⟩)))
  refine wpAny_execs_cons (plainObj_wpAny_Assign_Attribute (r_loc V H₃ (.head _) rfl (r_loc V H₃ (.head _) rfl (r_niSet 0 (sl' := #[some v]) B H₃ (.tail _ (.tail _ (.head _))) rfl (.tail .head) fun s₄ H₄ => ?_))))
  refine wpAny_execs_cons (plainObj_wpAny_Assign_Attribute (r_int H₄ fun t₄ s₅ H₅ => (r_loc V H₅ (.head _) rfl (r_niSet 1 (sl' := #[some v, some (.int 0 t₄)]) B H₅ (.tail _ (.tail _ (.head _))) rfl (.tail .head) fun s₆ H₆ => ?_))))
  refine wpAny_execs_cons (plainObj_wpAny_Assign_Attribute (r_List0 H₆ fun a s₇ H₇ => (r_loc V H₇ (.tail _ (.head _)) rfl (r_niSet 2 (sl' := #[some v, some (.int 0 t₄), some (.ref a)]) B H₇ (.tail _ (.tail _ (.tail _ (.head _)))) rfl (.tail (.tail .head)) fun s₈ H₈ => ?_))))
  refine wpAny_execs_nil ⟨rfl, ?_⟩
  show Q (.ref x) s₈
  have G := (H₈.bring 1).tail
  have G := G.bring 2
  have G := G.bring 2
  exact h ⟨x, dx, a, v, key, 0, t₄, [], []⟩ s₈ rfl rfl rfl rfl rfl G

/-- the record of a node, made if it lacks -/
structure Ens (nis nis' : List NI) (key : Nd) (i : Nat) (n : NI) : Prop where
  at_ : nis'[i]? = some n
  key_ : n.key = key
  or : nis' = nis ∨ (nis' = nis ++ [n] ∧ key ∉ nis.map (·.key) ∧ n.np = 0 ∧ n.succ = [])
  ok : (∀ n ∈ nis', n.ok) ∧ (nis'.map (·.key)).Nodup

theorem valueAt_nis {nis : List NI} {k : Nd} : (k ∉ nis.map (·.key) ∧ valueAt (nis.map fun n => (n.key, Value.ref n.addr)) k = none) ∨ ∃ (i : Nat) (n : NI), nis[i]? = some n ∧ n.key = k ∧ valueAt (nis.map fun n => (n.key, Value.ref n.addr)) k = some (.ref n.addr) := by
  induction nis with
  | nil => exact .inl ⟨by simp, rfl⟩
  | cons x r ih =>
    by_cases h : x.key = k
    · exact .inr ⟨0, x, rfl, h, by simp [valueAt, h]⟩
    · have e : valueAt ((x :: r).map fun n => (n.key, Value.ref n.addr)) k = valueAt (r.map fun n => (n.key, Value.ref n.addr)) k := by simp [valueAt, List.find?_cons, h]
      rw [e]
      rcases ih with ⟨h1, h2⟩ | ⟨i, n, h1, h2, h3⟩
      · refine .inl ⟨?_, h2⟩
        rw [List.map_cons, List.mem_cons]
        rintro (e | e)
        · exact h e.symm
        · exact h1 e
      · exact .inr ⟨i + 1, n, by simpa using h1, h2, h3⟩
theorem stored_new {kvs : List (Nd × Value)} {k : Nd} {v : Value} (h : k ∉ kvs.map (·.1)) : stored kvs k v = kvs ++ [(k, v)] := by
  unfold stored
  rw [if_neg]
  simpa using fun b h' => h (List.mem_map.mpr ⟨(k, b), h', rfl⟩)

theorem get_nodeinfo_spec {k : Nat} (B : BF w h₀) (hA : Calm A (k + 4)) {S : So} (hS : S.ok) (H : St h₀ os (S.L prog w ++ F) s) {v : Value} {key : Nd} (hv : ND v key) (hz : S.nis.length < 900) {Q : Value → Shared → Prop}
    (h : ∀ nis' i n s', Ens S.nis nis' key i n → St h₀ os (({ S with nis := nis' } : So).L prog w ++ F) s' → Q (.ref n.addr) s') :
    wpAny (model prog w) A (call (.ref 80) [.ref S.self, v]) Q E s := by
  refine wpAny_call (r_callFn H hA.room B.nolim (B.K 80 _ rfl) rfl (B.code (by kernel_rfl)) rfl rfl rfl rfl rfl rfl ?_)
  refine wpAny_pure ⟨_, H, fun env C as s₂ _ V hl H₂ => ?_⟩
  obtain rfl : as = [] := List.length_eq_zero_iff.mp hl
  refine r_binds_cons (r_sto V H₂ .head (fun s₃ H₃ => r_binds_cons (r_sto V H₃ .head fun s₃ H₃ => r_binds_nil ⟨_, H₃, ?_⟩)))
  refine gen (fun Q' => (∀ v s', Q v s' → Q' (.ret v) s') ∧ ∀ s', Q .none s' → Q' .next s') ⟨fun _ _ h => h, fun _ h => h⟩ fun Q' E' hQ' => ?_
  refine wpAny_execs_cons (wpAny_If (r_cmp1 (wpAny_NamedExpr (r_callM (Attribute_any_ (r_loc V H₃ (.head _) rfl (r_soGet B H₃ (.tail _ (.head _)) (.tail _ (.tail _ (.head _))) rfl rfl fun s₄ H₄ => ?_)))))))
  refine r_mdict PySem.F.slot_dict_get PySem.F.type_dict_get H₄ (.tail _ (.tail _ (.tail _ (.head _)))) (r_cw H₄ (keeps_builtin _) (r_loc V H₄ (.head _) rfl ⟨_, H₄, ?_⟩))
  refine r_dget H₄ (.tail _ (.tail _ (.tail _ (.head _)))) hv fun s₅ H₅ => wpAny_assign_Name (r_sto V H₅ .head fun s₆ H₆ => wpAny_Constant_none (is_none (wpAny_truthy_bool ?_)))
  rcases valueAt_nis (nis := S.nis) (k := key) with ⟨h1, h2⟩ | ⟨i, n, h1, h2, h3⟩
  · rw [show valueAt S.kvs key = none from h2] at H₆ ⊢
    refine wpAny_execs_cons (wpAny_Assign_two (r_callN (r_glo V H₆ (B.glob _ (.ref 40) (by decide)) (r_cw H₆ (keeps_frag B.K (by kernel_rfl)) (r_loc V H₆ (.head _) rfl ⟨_, H₆, ?_⟩)))))
    refine new_ni (k := k + 1) B hA.deeper H₆ hv fun n s₇ n1 n2 n3 n4 n5 H₇ => ?_
    have hk : key ∉ S.kvs.map (·.1) := by simpa [So.kvs, List.map_map, Function.comp_def] using h1
    refine r_asSub (Attribute_any_ (r_loc V H₇ (.tail _ (.tail _ (.tail _ (.head _)))) rfl (r_soGet B H₇ (.tail _ (.tail _ (.tail _ (.tail _ (.head _))))) (.tail _ (.tail _ (.tail _ (.tail _ (.tail _ (.head _)))))) rfl rfl fun s₈ H₈ => ?_)))
    refine r_loc V H₈ (.tail _ (.tail _ (.tail _ (.head _)))) rfl (r_dset H₈ (.tail (.tail (.tail (.tail (.tail (.tail .head)))))) hv (fun s₉ H₉ => ?_) ?_)
    · rw [stored_new hk] at H₉
      refine wpAny_assign_Name (r_sto V H₉ (.tail (.tail (.tail .head))) fun sa Ha => ?_)
      refine wpAny_execs_nil (wpAny_execs_cons (wpAny_Return_some (r_loc V Ha (.tail _ (.tail _ (.tail _ (.head _)))) rfl ?_)))
      refine hQ'.1 _ _ (h (S.nis ++ [n]) S.nis.length n sa ⟨by simp, n2, .inr ⟨rfl, h1, n3, n5⟩, ?_, ?_⟩ ?_)
      · intro n' hn'
        rcases List.mem_append.mp hn' with hn' | hn'
        · exact hS.1 n' hn'
        · obtain rfl := List.mem_singleton.mp hn'
          exact ⟨by rw [n1, n2]; exact hv, by rw [n4, n5]; exact .nil⟩
      · rw [List.map_append, List.nodup_append]
        refine ⟨hS.2.1, by simp, ?_⟩
        rintro a ha b hb rfl
        rw [List.map_singleton, List.mem_singleton] at hb
        rw [hb, n2] at ha
        exact h1 ha
      · have G := (Ha.bring 3).tail
        have e : ({ S with nis := S.nis ++ [n] } : So).L prog w ++ F = [(S.self, INST 137 S.dx #[]), (S.dx, ID S.attrs), (S.n2i, DI prog w (S.kvs ++ [(key, Value.ref n.addr)]))] ++ (nisL S.nis ++ (nisL [n] ++ F)) := by
          simp [So.L, So.kvs, nisL_append, n2, So.attrs]
        rw [e]
        refine St.perm ((List.perm_append_comm_assoc (nisL [n]) [(S.self, INST 137 S.dx #[]), (S.dx, ID S.attrs), (S.n2i, DI prog w (S.kvs ++ [(key, Value.ref n.addr)]))] (nisL S.nis ++ F)).trans ((List.perm_append_comm_assoc (nisL [n]) (nisL S.nis) F).append_left _)) G
    · show (S.nis.map _).length ≤ _
      rw [List.length_map, sizeLine_eq]; omega
  · rw [show valueAt S.kvs key = some (.ref n.addr) from h3] at H₆ ⊢
    refine wpAny_execs_nil (wpAny_execs_cons (wpAny_Return_some (r_loc V H₆ (.head _) rfl ?_)))
    exact hQ'.1 _ _ (h S.nis i n s₆ ⟨h1, h2, .inl rfl, hS.1, hS.2.1⟩ H₆.tail)
end
end Mine
end
section
open PySem PySem.W PySem.Calls PyProof.Rows
namespace Mine

/-- a node's record: its name, its count, its successors -/
structure PN where
  key : Nd
  np : Int
  succ : List Nd
noncomputable def NI.pn (n : NI) : PN := ⟨n.key, n.np, n.succ⟩
noncomputable def absN (nis : List NI) : List PN := nis.map NI.pn
noncomputable def ensure (G : List PN) (k : Nd) : List PN := if k ∈ G.map (·.key) then G else G ++ [⟨k, 0, []⟩]
noncomputable def bump (G : List PN) (k : Nd) (d : Int) : List PN := G.map fun e => if e.key = k then { e with np := e.np + d } else e
noncomputable def addSucc (G : List PN) (p k : Nd) : List PN := G.map fun e => if e.key = p then { e with succ := e.succ ++ [k] } else e
noncomputable def addG (G : List PN) (k : Nd) (ps : List Nd) : List PN := ps.foldl (fun G p => addSucc (ensure G p) p k) (bump (ensure G k) k ps.length)

noncomputable def sbound (G : List PN) (b : Nat) : Prop := ∀ e ∈ G, e.succ.length ≤ b
theorem sbound_ensure {G : List PN} {b : Nat} {k : Nd} (h : sbound G b) : sbound (ensure G k) b := by
  unfold ensure
  split
  · exact h
  · intro e he
    rcases List.mem_append.mp he with he | he
    · exact h e he
    · obtain rfl := List.mem_singleton.mp he
      exact Nat.zero_le _
theorem sbound_bump {G : List PN} {b : Nat} {k : Nd} {d : Int} (h : sbound G b) : sbound (bump G k d) b := by
  intro e he
  obtain ⟨x, hx, rfl⟩ := List.mem_map.mp he
  split
  · exact h x hx
  · exact h x hx
theorem sbound_add {G : List PN} {b : Nat} {k p : Nd} (h : sbound G b) : sbound (addSucc G p k) (b + 1) := by
  intro e he
  obtain ⟨x, hx, rfl⟩ := List.mem_map.mp he
  have := h x hx
  split
  · simpa using this
  · omega
theorem sbound_fold {k : Nd} : ∀ (ps : List Nd) {G : List PN} {b : Nat}, sbound G b → sbound (ps.foldl (fun G p => addSucc (ensure G p) p k) G) (b + ps.length)
  | [], _, _, h => h
  | p :: r, G, b, h => by
    have := sbound_fold (k := k) r (sbound_add (k := k) (p := p) (sbound_ensure (k := p) h))
    rw [List.length_cons, show b + (r.length + 1) = b + 1 + r.length by omega]
    exact this
theorem sbound_addG {G : List PN} {b : Nat} {k : Nd} {ps : List Nd} (h : sbound G b) : sbound (addG G k ps) (b + ps.length) := sbound_fold ps (sbound_bump (sbound_ensure h))

noncomputable def okN (nis : List NI) : Prop := (∀ n ∈ nis, n.ok) ∧ (nis.map (·.key)).Nodup

theorem absN_keys (nis : List NI) : (absN nis).map (·.key) = nis.map (·.key) := by simp [absN, NI.pn, Function.comp_def]
theorem Ens.abs {nis nis' : List NI} {key : Nd} {i : Nat} {n : NI} (h : Ens nis nis' key i n) : absN nis' = ensure (absN nis) key := by
  unfold ensure
  rw [absN_keys]
  rcases h.or with e | ⟨e, h1, h2, h3⟩
  · have h1 := List.mem_map_of_mem (f := NI.key) (List.mem_of_getElem? h.at_)
    rw [h.key_, e] at h1
    rw [if_pos h1, e]
  · rw [if_neg h1, e]
    simp [absN, NI.pn, h2, h3, h.key_]
theorem abs_set {nis : List NI} (hn : (nis.map (·.key)).Nodup) {i : Nat} {n : NI} (h : nis[i]? = some n) (n' : NI) (f : PN → PN) (hf : n'.pn = f n.pn) :
    absN (nis.set i n') = (absN nis).map fun e => if e.key = n.key then f e else e := by
  induction nis generalizing i with
  | nil => simp at h
  | cons x r ih =>
    rw [List.map_cons, List.nodup_cons] at hn
    cases i with
    | zero =>
      simp at h; subst h
      show n'.pn :: absN r = (if x.pn.key = x.key then f x.pn else x.pn) :: (absN r).map _
      rw [if_pos (show x.pn.key = x.key from rfl), hf]
      congr 1
      rw [List.map_congr_left (g := id), List.map_id]
      intro e he
      rw [if_neg]; rfl
      intro e2
      apply hn.1
      rw [← e2, ← absN_keys]
      exact List.mem_map_of_mem he
    | succ i =>
      simp at h
      show x.pn :: absN (r.set i n') = (if x.pn.key = n.key then f x.pn else x.pn) :: (absN r).map _
      rw [ih hn.2 h, if_neg]
      intro e2
      apply hn.1
      show x.pn.key ∈ _
      rw [e2]
      exact List.mem_map_of_mem (List.mem_of_getElem? h)
theorem okN_set {nis : List NI} (hn : okN nis) {i : Nat} {n : NI} (h : nis[i]? = some n) {n' : NI} (hk : n'.key = n.key) (ho : n'.ok) : okN (nis.set i n') := by
  refine ⟨fun x hx => ?_, ?_⟩
  · rcases List.mem_or_eq_of_mem_set hx with hx | rfl
    · exact hn.1 x hx
    · exact ho
  · rw [List.map_set, hk]
    have : (nis.map (·.key))[i]? = some n.key := by simp [h]
    obtain ⟨hi, e⟩ := List.getElem?_eq_some_iff.mp this
    rw [← e, List.set_getElem_self]
    exact hn.2

section
variable {prog : Program} {w : World} {A : Around} {E : Value → Shared → Prop} {h₀ : Heap} {os : OsState} {L L' F : List Ent} {s : Shared}
theorem St.mid (X Y : List Ent) (H : St h₀ os (X ++ (Y ++ F)) s) : St h₀ os (Y ++ (X ++ F)) s := H.perm (List.perm_append_comm_assoc ..)
theorem kvs_set {nis : List NI} {i : Nat} {n n' : NI} (h : nis[i]? = some n) (hk : n'.key = n.key) (ha : n'.addr = n.addr) : (nis.set i n').map (fun n => (n.key, Value.ref n.addr)) = nis.map (fun n => (n.key, Value.ref n.addr)) := by
  rw [List.map_set, hk, ha]
  have : (nis.map (fun n => (n.key, Value.ref n.addr)))[i]? = some (n.key, Value.ref n.addr) := by simp [h]
  obtain ⟨hi, e⟩ := List.getElem?_eq_some_iff.mp this
  rw [← e, List.set_getElem_self]
/-- the sorter with other records -/
noncomputable abbrev So.wi (S : So) (nis : List NI) : So := { S with nis := nis }
theorem So.L_set {S : So} {i : Nat} {n n' : NI} (h : S.nis[i]? = some n) (hk : n'.key = n.key) (ha : n'.addr = n.addr) {a : Addr} {P P' : Obj → Prop} (p : Put a P P' (nisL S.nis) (nisL (S.nis.set i n'))) :
    Put a P P' (S.L prog w) ((S.wi (S.nis.set i n')).L prog w) := by
  unfold So.L So.kvs
  show Put a P P' _ ((S.self, INST 137 S.dx #[]) :: (S.dx, ID S.attrs) :: (S.n2i, DI prog w ((S.nis.set i n').map (fun n => (n.key, Value.ref n.addr)))) :: nisL (S.nis.set i n'))
  rw [kvs_set h hk ha]
  exact .tail (.tail (.tail p))
theorem So.L_mem {S : So} {i : Nat} {n : NI} (h : S.nis[i]? = some n) (X F : List Ent) : (n.addr, n.obj) ∈ X ++ (S.L prog w ++ F) ∧ (n.dx, ID []) ∈ X ++ (S.L prog w ++ F) ∧ (n.sa, LI n.svs) ∈ X ++ (S.L prog w ++ F) := by
  obtain ⟨a, b, c⟩ := nisL_mem (List.mem_of_getElem? h)
  exact ⟨List.mem_append_right _ (List.mem_append_left _ (.tail _ (.tail _ (.tail _ a)))), List.mem_append_right _ (List.mem_append_left _ (.tail _ (.tail _ (.tail _ b)))), List.mem_append_right _ (List.mem_append_left _ (.tail _ (.tail _ (.tail _ c))))⟩

section
variable {S : So} {i : Nat} {n : NI} {expr : Bool}
theorem r_npGet (X : List Ent) {Q : Value → Shared → Prop} (B : BF w h₀) (H : St h₀ os (X ++ (S.L prog w ++ F)) s) (hi : S.nis[i]? = some n) (h : ∀ s', St h₀ os (X ++ (S.L prog w ++ F)) s' → Q (.int n.np n.tok) s') :
    wpAny (model prog w) A (getAttr (.ref n.addr) (Str.ofString "npredecessors") expr) Q E s := r_niGet 1 B H (So.L_mem hi X F).1 (So.L_mem hi X F).2.1 rfl rfl h
theorem r_sucGet (X : List Ent) {Q : Value → Shared → Prop} (B : BF w h₀) (H : St h₀ os (X ++ (S.L prog w ++ F)) s) (hi : S.nis[i]? = some n) (h : ∀ s', St h₀ os (X ++ (S.L prog w ++ F)) s' → Q (.ref n.sa) s') :
    wpAny (model prog w) A (getAttr (.ref n.addr) (Str.ofString "successors") expr) Q E s := r_niGet 2 B H (So.L_mem hi X F).1 (So.L_mem hi X F).2.1 rfl rfl h
theorem ND.handed {v : Value} {k : Nd} (h : ND v k) : handedIn v = true := by rcases Nd.is_shape h with ⟨n, t, rfl, rfl⟩ | ⟨x, t, rfl, rfl⟩ <;> rfl
theorem r_nodeGet (X : List Ent) {Q : Value → Shared → Prop} (B : BF w h₀) (H : St h₀ os (X ++ (S.L prog w ++ F)) s) (hi : S.nis[i]? = some n) (hk : ND n.kv n.key) (h : ∀ s', St h₀ os (X ++ (S.L prog w ++ F)) s' → Q n.kv s') :
    wpAny (model prog w) A (getAttr (.ref n.addr) (Str.ofString "node") expr) Q E s := r_niGet 0 B H (So.L_mem hi X F).1 (So.L_mem hi X F).2.1 rfl hk.handed h
theorem r_npSet (X : List Ent) {np : Int} {tok : Tok} {Q : Unit → Shared → Prop} (B : BF w h₀) (H : St h₀ os (X ++ (S.L prog w ++ F)) s) (hi : S.nis[i]? = some n) (h : ∀ s', St h₀ os (X ++ ((S.wi (S.nis.set i { n with np := np, tok := tok })).L prog w ++ F)) s' → Q () s') :
    wpAny (model prog w) A (setAttr (.ref n.addr) (Str.ofString "npredecessors") (.int np tok)) Q E s :=
  r_niSet 1 (sl := #[some n.kv, some (.int n.np n.tok), some (.ref n.sa)]) (sl' := #[some n.kv, some (.int np tok), some (.ref n.sa)]) B H (So.L_mem hi X F).2.1 rfl (.right (.left (So.L_set (n' := { n with np := np, tok := tok }) hi rfl rfl (put_np hi np tok)))) h
theorem r_sucApp (X : List Ent) {v : Value} {k : Nd} {Q : Value → Shared → Prop} (H : St h₀ os (X ++ (S.L prog w ++ F)) s) (hi : S.nis[i]? = some n) (hz : n.svs.length ≤ sizeLine)
    (h : ∀ s', St h₀ os (X ++ ((S.wi (S.nis.set i { n with svs := n.svs ++ [v], succ := n.succ ++ [k] })).L prog w ++ F)) s' → Q .none s') : wpAny (model prog w) A (call (.builtin "list.append") [.ref n.sa, v]) Q E s :=
  r_append H (.right (.left (So.L_set (n' := { n with svs := n.svs ++ [v], succ := n.succ ++ [k] }) hi rfl rfl (put_succ hi v k)))) h hz
end
theorem kf_m80 (P : Params) : findIn (KH P) (.ref 137) (Str.ofString "_get_nodeinfo") = some (some (.ref 80)) ∧ typeIn (KH P) (.ref 80) = some (.type "function") := ⟨by kernel_rfl, by kernel_rfl⟩
theorem kf_k80 (P : Params) : keepIn (KH P) (.ref 80) = true := by kernel_rfl

theorem a4 {x r s v : Nat} (h : x + (r + 1) ≤ s + 1 + v) (hz : s + v < 800) : x < 801 := by omega
theorem a5 {x y r z : Nat} (h1 : x ≤ y + 1) (h2 : y + (r + 1) ≤ z) : x + r ≤ z := by omega
theorem add_spec {k : Nat} (B : BF w h₀) (hA : Calm A (k + 6)) {S : So} (hS : S.ok) (hr : S.ready = .none) (H : St h₀ os (S.L prog w ++ F) s) {v : Value} {key : Nd} (hv : ND v key) {vs : List Value} {ks : List Nd} (hvs : All2 ND vs ks) (hz : S.nis.length + vs.length < 800) {b : Nat} (hb : sbound (absN S.nis) b) (hbz : b + vs.length ≤ sizeLine) {Q : Value → Shared → Prop}
    (h : ∀ nis' s', okN nis' → absN nis' = addG (absN S.nis) key ks → nis'.length ≤ S.nis.length + 1 + vs.length → St h₀ os (({ S with nis := nis' } : So).L prog w ++ F) s' → Q .none s') :
    codeAny (model prog w) A (.call (.ref 87) ⟨.ref S.self :: v :: vs, []⟩) (fun r s' => match r with | .ok (.ret v) => Q v s' | .ok _ => False | .error e => E e s') s := by
  refine (r_callFn H hA.room B.nolim (B.K 87 _ rfl) rfl (B.code (by kernel_rfl)) rfl rfl rfl rfl rfl rfl ?_)
  refine r_bindV (vs := vs) (f := fun t => [(Str.ofString "self", .ref S.self), (Str.ofString "node", v), (Str.ofString "predecessors", t)]) H (by cases vs <;> rfl) (bsz (Nat.le_of_lt (Nat.lt_of_le_of_lt (Nat.le_add_left _ _) (Nat.lt_of_lt_of_le hz (by decide))))) fun ta s₁ H₁ => ⟨_, H₁, fun env C as s₂ _ V hl H₂ => ?_⟩
  obtain rfl : as = [] := List.length_eq_zero_iff.mp hl
  refine r_binds_cons (r_sto V H₂ .head (fun s₃ H₃ => r_binds_cons (r_sto V H₃ .head fun s₃ H₃ => r_binds_cons (r_sto V H₃ .head fun s₃ H₃ => r_binds_nil ⟨_, H₃, ?_⟩))))
  refine gen (fun Q' => (∀ v s', Q v s' → Q' (.ret v) s') ∧ ∀ s', Q .none s' → Q' .next s') ⟨fun _ _ h => h, fun _ h => h⟩ fun Q' E' hQ' => ?_
  refine wpAny_execs_cons (wpAny_If (r_cmp1 (Attribute_any_ (r_loc V H₃ (.head _) rfl (r_soGet B H₃ (.tail _ (.tail _ (.head _))) (.tail _ (.tail _ (.tail _ (.head _)))) rfl (by rw [hr]; rfl) fun s₄ H₄ => wpAny_Constant_none (isNot_none (wpAny_truthy_bool ?_)))))))
  rw [hr]
  refine wpAny_execs_nil ?_
  refine wpAny_execs_cons (wpAny_Assign_Name (r_callM (r_loc V H₄ (.head _) rfl (r_meth H₄ B.K (.tail _ (.tail _ (.head _))) (.tail _ (.tail _ (.tail _ (.head _)))) (kf_get137 _ _) (kf_m80 _).1 (kf_m80 _).2 rfl (r_cw H₄ (keeps_frag B.K (kf_k80 _)) (r_loc V H₄ (.head _) rfl ⟨_, H₄, ?_⟩))))))
  refine get_nodeinfo_spec (k := k + 1) B hA.deeper hS (St.mid [_, _] (S.L prog w) H₄) hv (Nat.lt_of_le_of_lt (Nat.le_add_right _ _) (Nat.lt_of_lt_of_le hz (by decide))) fun nis₁ i₁ n₁ s₅ e₁ H₅ => ?_
  replace H₅ := St.mid _ [_, _] H₅
  refine r_sto V H₅ .head fun s₆ H₆ => ?_
  refine wpAny_execs_cons (wpAny_AugAssign_AttributeAny (r_loc V H₆ (.head _) rfl (r_npGet (S := S.wi nis₁) [_, _] B H₆ e₁.at_ fun s₇ H₇ => ?_)))
  refine r_callN (r_glo V H₇ (B.glob _ (.builtin "len") (by decide)) (r_cw H₇ (keeps_builtin _) (r_loc V H₇ (.head _) rfl ⟨_, H₇, ?_⟩)))
  refine r_lenT H₇ (.tail _ (.head _)) (b40 (Nat.le_of_lt (Nat.lt_of_le_of_lt (Nat.le_add_left _ _) (Nat.lt_of_lt_of_le hz (by decide))))) fun t₇ s₈ H₈ => r_iadd H₈ fun t₉ s₉ H₉ => ?_
  refine r_npSet (S := S.wi nis₁) [_, _] B H₉ e₁.at_ fun sa Ha => ?_
  have hl₁ : nis₁.length ≤ S.nis.length + 1 := by rcases e₁.or with e | ⟨e, _⟩ <;> rw [e] <;> simp
  have ok₂ : okN (nis₁.set i₁ { n₁ with np := n₁.np + vs.length, tok := t₉ }) := okN_set e₁.ok e₁.at_ rfl (show n₁.ok from e₁.ok.1 _ (List.mem_of_getElem? e₁.at_))
  have ab₂ : absN (nis₁.set i₁ { n₁ with np := n₁.np + vs.length, tok := t₉ }) = bump (ensure (absN S.nis) key) key ks.length := by
    rw [abs_set e₁.ok.2 e₁.at_ { n₁ with np := n₁.np + vs.length, tok := t₉ } (fun e => { e with np := e.np + ks.length }) (by simp [NI.pn, hvs.length]), e₁.abs, e₁.key_]; rfl
  have len₂ : (nis₁.set i₁ { n₁ with np := n₁.np + vs.length, tok := t₉ }).length ≤ S.nis.length + 1 := by simpa using hl₁
  generalize nis₁.set i₁ { n₁ with np := n₁.np + vs.length, tok := t₉ } = nis₂ at Ha ok₂ ab₂ len₂
  refine wpAny_execs_cons (wpAny_For (r_loc V Ha (.head _) rfl (r_iter_tup (xs := ks) Ha (.tail _ (.head _)) fun ia sb Hb => ?_)))
  have hlk := hvs.length
  refine r_forLoop1 (nexts_tup ia ta ks) (σ := List NI × List (Str × Value)) (fun c => (C, NS c.2) :: (ta, TU vs) :: ((S.wi c.1).L prog w ++ F))
    (fun rem c => okN c.1 ∧ c.1.length + rem.length ≤ S.nis.length + 1 + vs.length ∧ c.2.lookup (Str.ofString "self") = some (.ref S.self) ∧ c.2.lookup (Str.ofString "node") = some v ∧
      ∃ done, ks = done ++ rem ∧ absN c.1 = done.foldl (fun G p => addSucc (ensure G p) p key) (bump (ensure (absN S.nis) key) key ks.length)) hA.handled (fun _ c _ => ⟨vs, hvs, .tail _ (.head _)⟩) ?_ ?_ (c := (nis₂, _))
      ⟨ok₂, by dsimp only; rw [← hlk]; exact Nat.add_le_add_right len₂ _, rfl, rfl, [], rfl, ab₂⟩ Hb
  · rintro Q1 E1 pv p rem ⟨nis, m⟩ sc hp ⟨hok, hlen, hself, hnode, done, hks, hab⟩ Hc hQ1
    dsimp only at hok hlen hself hnode hab Hc
    rw [List.length_cons] at hlen
    refine wpAny_assign_Name (r_sto V Hc (.tail .head) fun sd Hd => ?_)
    refine wpAny_execs_cons (wpAny_Assign_Name (r_callM (r_loc V Hd (.tail _ (.head _)) (putL_ne hself) (r_meth Hd B.K (.tail _ (.tail _ (.tail _ (.head _)))) (.tail _ (.tail _ (.tail _ (.tail _ (.head _))))) (kf_get137 _ _) (kf_m80 _).1 (kf_m80 _).2 rfl (r_cw Hd (keeps_frag B.K (kf_k80 _)) (r_loc V Hd (.tail _ (.head _)) putL_eq ⟨_, Hd, ?_⟩))))))
    refine get_nodeinfo_spec (k := k + 1) (S := S.wi nis) B hA.deeper ⟨hok.1, hok.2, Nat.le_of_lt (Nat.lt_of_lt_of_le (a4 hlen hz) (by decide)), hS.2.2.2⟩ (St.mid [_, _, _] ((S.wi nis).L prog w) Hd) hp (Nat.lt_of_lt_of_le (a4 hlen hz) (by decide)) fun nis₃ i₃ n₃ se e₃ He => ?_
    replace He := St.mid _ [_, _, _] He
    refine r_sto V He (.tail .head) fun sf Hf => ?_
    refine wpAny_execs_cons (wpAny_Expr (r_callM (Attribute_any_ (r_loc V Hf (.tail _ (.head _)) putL_eq (r_sucGet (S := S.wi nis₃) [_, _, _] B Hf e₃.at_ fun sg Hg => ?_)))) V.inter)
    refine r_mlist PySem.F.slot_list_append PySem.F.type_list_append Hg (So.L_mem (S := S.wi nis₃) e₃.at_ [_, _, _] F).2.2 (r_cw Hg (keeps_builtin _) (r_loc V Hg (.tail _ (.head _)) (putL_ne (putL_ne hnode)) ⟨_, Hg, ?_⟩))
    refine r_sucApp (S := S.wi nis₃) (k := key) [_, _, _] Hg e₃.at_ ?_ fun sh Hh => ?_
    · have h1 := (e₃.ok.1 _ (List.mem_of_getElem? e₃.at_)).2.length
      have h2 : n₃.pn ∈ ensure (absN nis) p := e₃.abs ▸ List.mem_map_of_mem (List.mem_of_getElem? e₃.at_)
      have h3 : n₃.pn.succ.length ≤ b + done.length := sbound_ensure (hab ▸ sbound_fold done (sbound_bump (sbound_ensure hb))) _ h2
      have h4 : n₃.pn.succ.length = n₃.svs.length := h1.symm
      have h5 : done.length ≤ ks.length := by rw [hks, List.length_append]; exact Nat.le_add_right _ _
      rw [← h4]
      exact Nat.le_trans h3 (Nat.le_trans (Nat.add_le_add_left h5 b) (by rw [← hlk]; exact hbz))
    refine wpAny_execs_nil (hQ1 (nis₃.set i₃ { n₃ with svs := n₃.svs ++ [v], succ := n₃.succ ++ [key] }, _) _ ⟨?_, ?_, putL_ne (putL_ne hself), putL_ne (putL_ne hnode), done ++ [p], by simp [hks], ?_⟩ Hh)
    · exact okN_set e₃.ok e₃.at_ rfl ⟨(e₃.ok.1 _ (List.mem_of_getElem? e₃.at_)).1, (e₃.ok.1 _ (List.mem_of_getElem? e₃.at_)).2.snoc hv⟩
    · have : nis₃.length ≤ nis.length + 1 := by rcases e₃.or with e | ⟨e, _⟩ <;> rw [e] <;> simp
      dsimp only
      rw [List.length_set]
      exact a5 this hlen
    · rw [List.foldl_append, ← hab]
      show absN _ = addSucc (ensure (absN nis) p) p key
      rw [← e₃.abs, abs_set e₃.ok.2 e₃.at_ _ (fun e => { e with succ := e.succ ++ [key] }) rfl, e₃.key_]
      rfl
  · rintro ⟨nis, m⟩ sc ⟨hok, hlen, hself, hnode, done, hks, hab⟩ Hc
    refine wpAny_execs_nil (hQ'.2 _ (h nis sc hok ?_ (by simpa using hlen) Hc.tail.tail))
    have : ks = done := by simpa using hks
    subst this
    exact hab
end
end Mine
end
section
open PySem PySem.W PySem.Calls PyProof.Rows
namespace Mine
section
variable {prog : Program} {w : World} {A : Around} {E : Value → Shared → Prop} {h₀ : Heap} {os : OsState} {L L' F : List Ent} {s : Shared}

theorem is_active_spec {k : Nat} (B : BF w h₀) (hA : Calm A (k + 3)) {S : So} {ra : Addr} (hr : S.ready = .ref ra) {rvs : List Value} (hz : rvs.length < 2 ^ 20) (H : St h₀ os (S.L prog w ++ (ra, LI rvs) :: F) s) {Q : Value → Shared → Prop}
    (h : ∀ s', St h₀ os (S.L prog w ++ (ra, LI rvs) :: F) s' → Q (.bool (decide (S.fin < S.passed) || !rvs.isEmpty)) s') :
    wpAny (model prog w) A (call (.ref 106) [.ref S.self]) Q E s := by
  refine wpAny_call (r_callFn H hA.room B.nolim (B.K 106 _ rfl) rfl (B.code (by kernel_rfl)) rfl rfl rfl rfl rfl rfl ?_)
  refine wpAny_pure ⟨_, H, fun env C as s₂ _ V hl H₂ => ?_⟩
  obtain rfl : as = [] := List.length_eq_zero_iff.mp hl
  refine r_binds_cons (r_sto V H₂ .head (fun s₃ H₃ => r_binds_nil ⟨_, H₃, ?_⟩))
  refine wpAny_execs_cons (wpAny_If (r_cmp1 (Attribute_any_ (r_loc V H₃ (.head _) rfl (r_soGet B H₃ (.tail _ (.head _)) (.tail _ (.tail _ (.head _))) rfl (by rw [hr]; rfl) fun s₄ H₄ => wpAny_Constant_none (is_none (wpAny_truthy_bool ?_)))))))
  rw [hr]
  refine wpAny_execs_nil ?_
  refine wpAny_execs_cons (wpAny_Return_some (BoolOp_or (wpAny_Compare1 (Attribute_any_ (r_loc V H₄ (.head _) rfl (r_soGet B H₄ (.tail _ (.head _)) (.tail _ (.tail _ (.head _))) rfl rfl fun s₅ H₅ => ?_))))))
  refine Attribute_any_ (r_loc V H₅ (.head _) rfl (r_soGet B H₅ (.tail _ (.head _)) (.tail _ (.tail _ (.head _))) rfl rfl fun s₆ H₆ => ?_))
  refine wpAny_lt_int (wpAny_truthy_bool ?_)
  by_cases hlt : S.fin < S.passed
  · rw [show decide (S.fin < S.passed) = true by simpa using hlt]
    have := h s₆ H₆.tail
    rw [show decide (S.fin < S.passed) = true by simpa using hlt] at this
    exact this
  · rw [show decide (S.fin < S.passed) = false by simpa using hlt]
    refine BoolOp_one (r_callN (r_glo V H₆ (B.glob _ (.type "bool") (by decide)) (r_cw H₆ (keeps_type _) (Attribute_any_ (r_loc V H₆ (.head _) rfl (r_soGet B H₆ (.tail _ (.head _)) (.tail _ (.tail _ (.head _))) rfl (by rw [hr]; rfl) fun s₇ H₇ => ⟨_, H₇, ?_⟩))))))
    rw [hr]
    refine r_boolL H₇ (.tail _ (List.mem_append_right _ (.head _))) (by omega) fun s₈ H₈ => ?_
    have := h s₈ H₈.tail
    rw [show decide (S.fin < S.passed) = false by simpa using hlt] at this
    exact this
end
end Mine
end
section
open PySem PySem.W PySem.Calls PyProof.Rows
namespace Mine
noncomputable def setNp (G : List PN) (k : Nd) (d : Int) : List PN := G.map fun e => if e.key = k then { e with np := d } else e
theorem setNp_keys (G : List PN) (k : Nd) (d : Int) : (setNp G k d).map (·.key) = G.map (·.key) := by
  unfold setNp; rw [List.map_map]; refine List.map_congr_left fun e _ => ?_
  show (if e.key = k then _ else e).key = e.key
  split <;> rfl
section
variable {prog : Program} {w : World} {A : Around} {E : Value → Shared → Prop} {h₀ : Heap} {os : OsState} {L L' F : List Ent} {s : Shared}

theorem find_nis {nis : List NI} {k : Nd} (h : k ∈ (absN nis).map (·.key)) : ∃ (i : Nat) (n : NI), nis[i]? = some n ∧ n.key = k ∧ valueAt (nis.map fun n => (n.key, Value.ref n.addr)) k = some (.ref n.addr) := by
  rw [absN_keys] at h
  rcases valueAt_nis (nis := nis) (k := k) with ⟨h1, _⟩ | h
  · exact absurd h h1
  · exact h

theorem get_ready_spec {k : Nat} (B : BF w h₀) (hA : Calm A (k + 3)) {S : So} (hS : okN S.nis) {ra : Addr} (hr : S.ready = .ref ra) {rvs : List Value} {rks : List Nd} (hrv : All2 ND rvs rks) (hmem : ∀ x ∈ rks, x ∈ (absN S.nis).map (·.key)) (hz : rvs.length < 2 ^ 20)
    (H : St h₀ os (S.L prog w ++ (ra, LI rvs) :: F) s) {Q : Value → Shared → Prop}
    (h : ∀ ta nis' pt s', okN nis' → absN nis' = rks.foldl (fun G x => setNp G x (-1)) (absN S.nis) → St h₀ os (({ S with nis := nis', passed := S.passed + rks.length, ptok := pt } : So).L prog w ++ (ra, LI []) :: (ta, TU rvs) :: F) s' → Q (.ref ta) s') :
    wpAny (model prog w) A (call (.ref 99) [.ref S.self]) Q E s := by
  refine wpAny_call (r_callFn H hA.room B.nolim (B.K 99 _ rfl) rfl (B.code (by kernel_rfl)) rfl rfl rfl rfl rfl rfl ?_)
  refine wpAny_pure ⟨_, H, fun env C as s₂ _ V hl H₂ => ?_⟩
  obtain rfl : as = [] := List.length_eq_zero_iff.mp hl
  refine r_binds_cons (r_sto V H₂ .head (fun s₃ H₃ => r_binds_nil ⟨_, H₃, ?_⟩))
  refine gen (fun Q' => (∀ v s', Q v s' → Q' (.ret v) s') ∧ ∀ s', Q .none s' → Q' .next s') ⟨fun _ _ h => h, fun _ h => h⟩ fun Q' E' hQ' => ?_
  refine wpAny_execs_cons (wpAny_If (r_cmp1 (Attribute_any_ (r_loc V H₃ (.head _) rfl (r_soGet B H₃ (.tail _ (.head _)) (.tail _ (.tail _ (.head _))) rfl (by rw [hr]; rfl) fun s₄ H₄ => wpAny_Constant_none (is_none (wpAny_truthy_bool ?_)))))))
  rw [hr]
  refine wpAny_execs_nil ?_
  refine wpAny_execs_cons (wpAny_Assign_Name (r_callN (r_glo V H₄ (B.glob _ (.type "tuple") (by decide)) (r_cw H₄ (keeps_type _) (Attribute_any_ (r_loc V H₄ (.head _) rfl (r_soGet B H₄ (.tail _ (.head _)) (.tail _ (.tail _ (.head _))) rfl (by rw [hr]; rfl) fun s₅ H₅ => ⟨_, H₅, ?_⟩)))))))
  rw [hr]
  refine r_tupleOf H₅ (.tail _ (List.mem_append_right _ (.head _))) hz fun ta s₆ H₆ => r_sto V H₆ (.tail .head) fun s₇ H₇ => ?_
  refine wpAny_execs_cons (wpAny_Assign_Name (Attribute_any_ (r_loc V H₇ (.tail _ (.head _)) rfl (r_soGet B H₇ (.tail _ (.tail _ (.head _))) (.tail _ (.tail _ (.tail _ (.head _)))) rfl rfl fun s₈ H₈ => r_sto V H₈ (.tail .head) fun s₉ H₉ => ?_))))
  refine wpAny_execs_cons (wpAny_For (r_loc V H₉ (.tail _ (.head _)) rfl (r_iter_tup (xs := rks) H₉ (.head _) fun ia sb Hb => ?_)))
  refine r_forLoop1 (nexts_tup ia ta rks) (σ := List NI × List (Str × Value)) (fun c => (ta, TU rvs) :: (C, NS c.2) :: ((S.wi c.1).L prog w ++ (ra, LI rvs) :: F))
    (fun rem c => okN c.1 ∧ c.2.lookup (Str.ofString "self") = some (.ref S.self) ∧ c.2.lookup (Str.ofString "result") = some (.ref ta) ∧ c.2.lookup (Str.ofString "n2i") = some (.ref S.n2i) ∧ (absN c.1).map (·.key) = (absN S.nis).map (·.key) ∧
      ∃ done, rks = done ++ rem ∧ absN c.1 = done.foldl (fun G x => setNp G x (-1)) (absN S.nis)) hA.handled (fun _ c _ => ⟨rvs, hrv, .head _⟩) ?_ ?_ (c := (S.nis, _))
      ⟨hS, rfl, rfl, rfl, rfl, [], rfl, rfl⟩ Hb
  · rintro Q1 E1 pv p rem ⟨nis, m⟩ sc hp ⟨hok, hself, hres, hn2i, hkeys, done, hks, hab⟩ Hc hQ1
    dsimp only at hok hself hres hn2i hab Hc hkeys
    refine wpAny_assign_Name (r_sto V Hc (.tail (.tail .head)) fun sd Hd => ?_)
    obtain ⟨i, n, hi, hk, hva⟩ := find_nis (nis := nis) (k := p) (by rw [hkeys]; exact hmem p (by rw [hks]; simp))
    refine wpAny_execs_cons (plainObj_wpAny_Assign_Attribute (r_glo V Hd (B.glob _ (.int (-1) 197) (by decide)) (Subscript_ (r_loc V Hd (.tail _ (.tail _ (.head _))) (putL_ne hn2i) (r_loc V Hd (.tail _ (.tail _ (.head _))) putL_eq ?_)))))
    refine r_subD Hd (.tail _ (.tail _ (.tail _ (.tail _ (.tail _ (.head _)))))) hp hva fun se He => ?_
    refine r_npSet (S := S.wi nis) [_, _, _] B He hi fun sf Hf => ?_
    refine wpAny_execs_nil (hQ1 (nis.set i { n with np := -1, tok := 197 }, _) _ ⟨okN_set hok hi rfl (show n.ok from hok.1 _ (List.mem_of_getElem? hi)), putL_ne hself, putL_ne hres, putL_ne hn2i, ?_, done ++ [p], by simp [hks], ?_⟩ Hf)
    · rw [← hkeys, abs_set hok.2 hi _ (fun e => { e with np := -1 }) rfl]
      exact setNp_keys _ _ _
    · rw [List.foldl_append, ← hab, abs_set hok.2 hi _ (fun e => { e with np := -1 }) rfl, hk]
      rfl
  · rintro ⟨nis, m⟩ sc ⟨hok, hself, hres, hn2i, hkeys, done, hks, hab⟩ Hc
    dsimp only at hok hself hres hn2i hab Hc hkeys
    obtain rfl : rks = done := by simpa using hks
    refine wpAny_execs_cons (wpAny_Expr (r_callM (Attribute_any_ (r_loc V Hc (.tail _ (.head _)) hself (r_soGet B Hc (.tail _ (.tail _ (.head _))) (.tail _ (.tail _ (.tail _ (.head _)))) rfl (by rw [hr]; rfl) fun sd Hd => ?_)))) V.inter)
    rw [show (S.wi nis).ready = .ref ra from hr]
    refine r_mlist PySem.F.slot_list_clear PySem.F.type_list_clear Hd (.tail _ (.tail _ (List.mem_append_right _ (.head _)))) (r_cw Hd (keeps_builtin _) ⟨_, Hd, r_clear Hd (.tail (.tail (.right .head))) (by rw [sizeLine_eq]; omega) fun se He => ?_⟩)
    refine wpAny_execs_cons (wpAny_AugAssign_AttributeAny (r_loc V He (.tail _ (.head _)) hself (r_soGet B He (.tail _ (.tail _ (.head _))) (.tail _ (.tail _ (.tail _ (.head _)))) rfl rfl fun sf Hf => ?_)))
    refine r_callN (r_glo V Hf (B.glob _ (.builtin "len") (by decide)) (r_cw Hf (keeps_builtin _) (r_loc V Hf (.tail _ (.head _)) hres ⟨_, Hf, ?_⟩)))
    refine r_lenT Hf (.head _) (by omega) fun t₇ sg Hg => r_iadd Hg fun t₉ sh Hh => ?_
    refine r_soSet B Hh (.tail _ (.tail _ (.head _))) (.tail (.tail (.tail .head))) (Nat.le_of_ble_eq_true rfl) fun si Hi => ?_
    refine wpAny_execs_cons (wpAny_Return_some (r_loc V Hi (.tail _ (.head _)) hres ?_))
    have Hj := (Hi.bring 1).tail
    refine hQ'.1 _ _ (h ta nis t₉ si hok hab ?_)
    rw [← hrv.length]
    exact Hj.perm ((List.perm_middle (l₁ := ({ S with nis := nis, passed := S.passed + rvs.length, ptok := t₉ } : So).L prog w)).symm.trans ((List.Perm.swap _ _ _).append_left _))
end
end Mine
end
section
open PySem PySem.W PySem.Calls PyProof.Rows
namespace Mine
noncomputable def npAt (G : List PN) (k : Nd) : Option Int := (G.find? fun e => e.key = k).map (·.np)
noncomputable def succAt (G : List PN) (k : Nd) : List Nd := ((G.find? fun e => e.key = k).map (·.succ)).getD []
noncomputable def decr (g : List PN × List Nd) (x : Nd) : List PN × List Nd := (bump g.1 x (-1), if npAt (bump g.1 x (-1)) x = some 0 then g.2 ++ [x] else g.2)
noncomputable def doneOne (g : List PN × List Nd) (k : Nd) : List PN × List Nd := (succAt g.1 k).foldl decr (setNp g.1 k (-2), g.2)

/-- a record but for its count -/
noncomputable def NI.bone (n : NI) : NI := { n with np := 0, tok := 0 }
theorem bone_set {nis : List NI} {i : Nat} {n n' : NI} (h : nis[i]? = some n) (hb : n'.bone = n.bone) : (nis.set i n').map NI.bone = nis.map NI.bone := by
  rw [List.map_set, hb]
  have : (nis.map NI.bone)[i]? = some n.bone := by simp [h]
  obtain ⟨hi, e⟩ := List.getElem?_eq_some_iff.mp this
  rw [← e, List.set_getElem_self]
theorem bone_get {nis nis' : List NI} (h : nis'.map NI.bone = nis.map NI.bone) {i : Nat} {n : NI} (hi : nis[i]? = some n) : ∃ n', nis'[i]? = some n' ∧ n'.bone = n.bone := by
  have : (nis.map NI.bone)[i]? = some n.bone := by simp [hi]
  rw [← h, List.getElem?_map] at this
  obtain ⟨n', h1, h2⟩ := Option.map_eq_some_iff.mp this
  exact ⟨n', h1, h2⟩
theorem bone_ok {nis nis' : List NI} (h : nis'.map NI.bone = nis.map NI.bone) (ho : okN nis) : okN nis' := by
  refine ⟨fun n hn => ?_, ?_⟩
  · obtain ⟨i, hi⟩ := List.getElem?_of_mem hn
    obtain ⟨n', h1, h2⟩ := bone_get h.symm hi
    have := ho.1 n' (List.mem_of_getElem? h1)
    have e : n'.bone.ok = n.bone.ok := by rw [h2]
    exact e ▸ (show n'.bone.ok from this)
  · have e : ∀ l : List NI, l.map (·.key) = (l.map NI.bone).map (·.key) := fun l => by simp [NI.bone, Function.comp_def]
    rw [e, h, ← e]
    exact ho.2
theorem bone_keys {nis nis' : List NI} (h : nis'.map NI.bone = nis.map NI.bone) : (absN nis').map (·.key) = (absN nis).map (·.key) := by
  have e : ∀ l : List NI, l.map (·.key) = (l.map NI.bone).map (·.key) := fun l => by simp [NI.bone, Function.comp_def]
  rw [absN_keys, absN_keys, e, h, ← e]
theorem find_abs {nis : List NI} (hn : (nis.map (·.key)).Nodup) {i : Nat} {n : NI} (h : nis[i]? = some n) : (absN nis).find? (fun e => e.key = n.key) = some n.pn := by
  induction nis generalizing i with
  | nil => simp at h
  | cons x r ih =>
    rw [List.map_cons, List.nodup_cons] at hn
    cases i with
    | zero => simp at h; subst h; simp [absN, NI.pn]
    | succ i =>
      simp at h
      have : x.key ≠ n.key := fun e => hn.1 (e ▸ List.mem_map_of_mem (List.mem_of_getElem? h))
      show (x.pn :: absN r).find? _ = _
      rw [List.find?_cons_of_neg (by simp only [decide_eq_true_eq]; exact this)]
      exact ih hn.2 h
theorem npAt_abs {nis : List NI} (hn : (nis.map (·.key)).Nodup) {i : Nat} {n : NI} (h : nis[i]? = some n) : npAt (absN nis) n.key = some n.np := by unfold npAt; rw [find_abs hn h]; rfl
theorem succAt_abs {nis : List NI} (hn : (nis.map (·.key)).Nodup) {i : Nat} {n : NI} (h : nis[i]? = some n) : succAt (absN nis) n.key = n.succ := by unfold succAt; rw [find_abs hn h]; rfl
section
variable {prog : Program} {w : World} {A : Around} {E : Value → Shared → Prop} {h₀ : Heap} {os : OsState} {L L' F : List Ent} {s : Shared}

structure DSt where
  nis : List NI
  fin : Int
  ft : Tok
  m : List (Str × Value)
  rvs : List Value
noncomputable abbrev So.at (S : So) (c : DSt) : So := { S with nis := c.nis, fin := c.fin, ftok := c.ft }

theorem d1 {x r d n b e v z u : Nat} (h1 : x ≤ r + d) (h2 : d ≤ n) (h3 : n ≤ b) (h4 : r ≤ z + e) (h5 : e + b ≤ v) (h6 : z + v + u < 2 ^ 20) : x ≤ sizeLine := by rw [sizeLine_eq]; omega
theorem d2 {x r n b e z : Nat} (h1 : x ≤ r + n) (h3 : n ≤ b) (h4 : r ≤ z + e) : x ≤ z + (e + 1 * b) := by omega
theorem d3 {a b c : Nat} (h : a + b + c < 2 ^ 20) : c ≤ sizeLine := by rw [sizeLine_eq]; omega
theorem done_spec {k : Nat} (B : BF w h₀) (hA : Calm A (k + 3)) {S : So} (hS : okN S.nis) {ra : Addr} (hr : S.ready = .ref ra) {rvs : List Value} {rks : List Nd} (hrv : All2 ND rvs rks) {vs : List Value} {ks : List Nd} (hvs : All2 ND vs ks)
    (hcl : ∀ n ∈ S.nis, ∀ x ∈ n.succ, x ∈ (absN S.nis).map (·.key)) {b : Nat} (hb : ∀ n ∈ S.nis, n.succ.length ≤ b) (hz : rvs.length + vs.length * b + vs.length < 2 ^ 20) (hmem : ∀ x ∈ ks, x ∈ (absN S.nis).map (·.key))
    (hout : ∀ pre x post, ks = pre ++ x :: post → npAt (pre.foldl doneOne (absN S.nis, rks)).1 x = some (-1))
    (H : St h₀ os (S.L prog w ++ (ra, LI rvs) :: F) s) {Q : Value → Shared → Prop}
    (h : ∀ nis' rvs' rks' ft s', okN nis' → All2 ND rvs' rks' → (absN nis', rks') = ks.foldl doneOne (absN S.nis, rks) → nis'.map NI.bone = S.nis.map NI.bone → rvs'.length ≤ rvs.length + vs.length * b →
      St h₀ os (({ S with nis := nis', fin := S.fin + ks.length, ftok := ft } : So).L prog w ++ (ra, LI rvs') :: F) s' → Q .none s') :
    codeAny (model prog w) A (.call (.ref 120) ⟨.ref S.self :: vs, []⟩) (fun r s' => match r with | .ok (.ret v) => Q v s' | .ok _ => False | .error e => E e s') s := by
  have hlk := hvs.length
  refine (r_callFn H hA.room B.nolim (B.K 120 _ rfl) rfl (B.code (by kernel_rfl)) rfl rfl rfl rfl rfl rfl ?_)
  refine r_bindV (vs := vs) (f := fun t => [(Str.ofString "self", .ref S.self), (Str.ofString "nodes", t)]) H (by cases vs <;> rfl) (d3 hz) fun ta s₁ H₁ => ⟨_, H₁, fun env C as s₂ _ V hl H₂ => ?_⟩
  obtain rfl : as = [] := List.length_eq_zero_iff.mp hl
  refine r_binds_cons (r_sto V H₂ .head (fun s₃ H₃ => r_binds_cons (r_sto V H₃ .head fun s₃ H₃ => r_binds_nil ⟨_, H₃, ?_⟩)))
  refine gen (fun Q' => (∀ v s', Q v s' → Q' (.ret v) s') ∧ ∀ s', Q .none s' → Q' .next s') ⟨fun _ _ h => h, fun _ h => h⟩ fun Q' E' hQ' => ?_
  refine wpAny_execs_cons (wpAny_If (r_cmp1 (Attribute_any_ (r_loc V H₃ (.head _) rfl (r_soGet B H₃ (.tail _ (.tail _ (.head _))) (.tail _ (.tail _ (.tail _ (.head _)))) rfl (by rw [hr]; rfl) fun s₄ H₄ => wpAny_Constant_none (is_none (wpAny_truthy_bool ?_)))))))
  rw [hr]
  refine wpAny_execs_nil ?_
  refine wpAny_execs_cons (wpAny_Assign_Name (Attribute_any_ (r_loc V H₄ (.head _) rfl (r_soGet B H₄ (.tail _ (.tail _ (.head _))) (.tail _ (.tail _ (.tail _ (.head _)))) rfl rfl fun s₈ H₈ => r_sto V H₈ .head fun s₉ H₉ => ?_))))
  refine wpAny_execs_cons (wpAny_For (r_loc V H₉ (.head _) rfl (r_iter_tup (xs := ks) H₉ (.tail _ (.head _)) fun ia sb Hb => ?_)))
  refine r_forLoop1 (nexts_tup ia ta ks) (σ := DSt) (fun c => (C, NS c.m) :: (ta, TU vs) :: ((S.at c).L prog w ++ (ra, LI c.rvs) :: F))
    (fun rem c => c.nis.map NI.bone = S.nis.map NI.bone ∧ c.m.lookup (Str.ofString "self") = some (.ref S.self) ∧ c.m.lookup (Str.ofString "n2i") = some (.ref S.n2i) ∧
      ∃ done rks', ks = done ++ rem ∧ c.fin = S.fin + done.length ∧ All2 ND c.rvs rks' ∧ c.rvs.length ≤ rvs.length + done.length * b ∧ (absN c.nis, rks') = done.foldl doneOne (absN S.nis, rks)) hA.handled (fun _ c _ => ⟨vs, hvs, .tail _ (.head _)⟩) ?_ ?_ (c := ⟨S.nis, S.fin, S.ftok, _, rvs⟩)
      ⟨rfl, rfl, rfl, [], rks, rfl, by simp, hrv, by simp, rfl⟩ Hb
  · rintro Q1 E1 pv p rem ⟨nis, fin, ft, m, rv⟩ sc hp ⟨hbo, hself, hn2i, done, rks', hks, hfin, hrk, hrl, hab⟩ Hc hQ1
    dsimp only at hbo hself hn2i hfin hrk hrl hab Hc
    have hok := bone_ok hbo hS
    have hkeys := bone_keys hbo
    refine wpAny_assign_Name (r_sto V Hc (.tail .head) fun sd Hd => ?_)
    obtain ⟨i, n, hi, hk, hva⟩ := find_nis (nis := nis) (k := p) (by rw [hkeys]; exact hmem p (by rw [hks]; simp))
    refine wpAny_execs_cons (wpAny_If (r_cmp1 (wpAny_NamedExpr (r_callM (r_loc V Hd (.tail _ (.head _)) (putL_ne hn2i) (r_mdict PySem.F.slot_dict_get PySem.F.type_dict_get Hd (.tail _ (.tail _ (.tail _ (.tail _ (.tail _ (.head _)))))) (r_cw Hd (keeps_builtin _) (r_loc V Hd (.tail _ (.head _)) putL_eq ⟨_, Hd, ?_⟩))))))))
    refine r_dget Hd (.tail _ (.tail _ (.tail _ (.tail _ (.tail _ (.head _)))))) hp fun se He => ?_
    rw [show valueAt (S.at ⟨nis, fin, ft, m, rv⟩).kvs p = some (.ref n.addr) from hva]
    refine wpAny_assign_Name (r_sto V He (.tail .head) fun sf Hf => wpAny_Constant_none (is_none (wpAny_truthy_bool (wpAny_execs_nil ?_))))
    have hnp : n.np = -1 := by
      have := hout done p rem hks
      rw [← hab] at this
      have h2 := npAt_abs hok.2 hi
      rw [hk] at h2
      dsimp only at this
      rw [h2] at this
      exact Option.some.inj this
    refine wpAny_execs_cons (wpAny_Assign_Name (Attribute_any_ (r_loc V Hf (.tail _ (.head _)) putL_eq (r_npGet (S := S.at ⟨nis, fin, ft, m, rv⟩) [_, _, _] B Hf hi fun sg Hg => r_sto V Hg (.tail .head) fun sh Hh => ?_))))
    rw [hnp] at Hh
    refine wpAny_execs_cons (wpAny_If (r_cmp1 (r_loc V Hh (.tail _ (.head _)) putL_eq (r_glo V Hh (B.glob _ (.int (-1) 197) (by decide)) (PySem.P.ne_int (wpAny_truthy_bool ?_))))))
    rw [if_neg (by decide)]
    refine wpAny_execs_nil ?_
    refine wpAny_execs_cons (plainObj_wpAny_Assign_Attribute (r_glo V Hh (B.glob _ (.int (-2) 200) (by decide)) (r_loc V Hh (.tail _ (.head _)) (putL_ne putL_eq) (r_npSet (S := S.at ⟨nis, fin, ft, m, rv⟩) [_, _, _] B Hh hi fun si Hi => ?_))))
    have hmul : (done.length + 1) * b ≤ ks.length * b := Nat.mul_le_mul_right b (by rw [hks]; simp)
    rw [Nat.add_mul, Nat.one_mul, ← hlk] at hmul
    have hi2 : (nis.set i { n with np := -2, tok := 200 })[i]? = some { n with np := -2, tok := 200 } := by
      rw [List.getElem?_set_self (List.getElem?_eq_some_iff.mp hi).1]
    have hbo2 : (nis.set i { n with np := -2, tok := 200 }).map NI.bone = S.nis.map NI.bone := (bone_set (n' := { n with np := -2, tok := 200 }) hi rfl).trans hbo
    have hab2 : absN (nis.set i { n with np := -2, tok := 200 }) = setNp (absN nis) p (-2) := by
      rw [abs_set hok.2 hi _ (fun e => { e with np := -2 }) rfl, hk]; rfl
    have hnok := hok.1 n (List.mem_of_getElem? hi)
    have hsu : succAt (absN nis) p = n.succ := by rw [← hk]; exact succAt_abs hok.2 hi
    obtain ⟨n₀, hn₀, hbn⟩ := bone_get hbo.symm hi
    have hsl : n.succ.length ≤ b := by
      have := hb n₀ (List.mem_of_getElem? hn₀)
      have e : n₀.bone.succ = n.bone.succ := by rw [hbn]
      exact (show n.succ = n₀.succ from e.symm) ▸ this
    have hsc : ∀ x ∈ n.succ, x ∈ (absN S.nis).map (·.key) := by
      have e : n₀.bone.succ = n.bone.succ := by rw [hbn]
      rw [show n.succ = n₀.succ from e.symm]
      exact hcl n₀ (List.mem_of_getElem? hn₀)
    refine wpAny_execs_cons (wpAny_For (Attribute_any_ (r_loc V Hi (.tail _ (.head _)) (putL_ne putL_eq) (r_sucGet (n := { n with np := -2, tok := 200 }) (S := (S.at ⟨nis, fin, ft, m, rv⟩).wi (nis.set i { n with np := -2, tok := 200 })) [_, _, _] B Hi hi2 fun sj Hj => ?_))))
    refine r_iter_list (xs := n.succ) Hj (So.L_mem (S := (S.at ⟨nis, fin, ft, m, rv⟩).wi (nis.set i { n with np := -2, tok := 200 })) hi2 [_, _, _] _).2.2 fun ib sk Hk => ?_
    refine r_forLoop1 (nexts_list (R := ND) ib n.sa n.succ) (σ := DSt) (fun c => tupJ ia ta ks rem ++ (C, NS c.m) :: (ta, TU vs) :: ((S.at c).L prog w ++ (ra, LI c.rvs) :: F))
      (fun rem2 c => c.fin = fin ∧ c.ft = ft ∧ c.nis.map NI.bone = S.nis.map NI.bone ∧ c.m.lookup (Str.ofString "self") = some (.ref S.self) ∧ c.m.lookup (Str.ofString "n2i") = some (.ref S.n2i) ∧
        ∃ done2 rks2, n.succ = done2 ++ rem2 ∧ All2 ND c.rvs rks2 ∧ c.rvs.length ≤ rv.length + done2.length ∧ (absN c.nis, rks2) = done2.foldl decr (setNp (absN nis) p (-2), rks')) hA.handled ?_ ?_ ?_ (c := ⟨nis.set i { n with np := -2, tok := 200 }, fin, ft, _, rv⟩)
        ⟨rfl, rfl, hbo2, putL_ne (putL_ne (putL_ne hself)), putL_ne (putL_ne (putL_ne hn2i)), [], rks', rfl, hrk, by simp, by rw [hab2]; rfl⟩ Hk
    · rintro rem2 c ⟨_, _, hb3, _⟩
      obtain ⟨n', h1, h2⟩ := bone_get (hb3.trans hbo.symm) hi
      have e1 : n'.bone.svs = n.bone.svs := by rw [h2]
      have e2 : n'.bone.sa = n.bone.sa := by rw [h2]
      have := (So.L_mem (prog := prog) (w := w) (S := S.at c) h1 (tupJ ia ta ks rem ++ [(C, NS c.m), (ta, TU vs)]) ((ra, LI c.rvs) :: F)).2.2
      rw [show n'.sa = n.sa from e2, show n'.svs = n.svs from e1] at this
      exact ⟨n.svs, hnok.2, this⟩
    · rintro Q2 E2 qv q rem2 ⟨nis3, fin3, ft3, m3, rv3⟩ sl hq ⟨h31, h32, hbo3, hself3, hn2i3, done2, rks2, hsd, hrk3, hrl3, hab3⟩ Hl hQ2
      dsimp only at h31 h32 hbo3 hself3 hn2i3 hrk3 hrl3 hab3 Hl
      subst h31 h32
      have hok3 := bone_ok hbo3 hS
      refine wpAny_assign_Name (r_sto V Hl (.tail (.tail .head)) fun sm Hm => ?_)
      obtain ⟨j, n3, hj, hk3, hva3⟩ := find_nis (nis := nis3) (k := q) (by rw [bone_keys hbo3]; exact hsc q (by rw [hsd]; simp))
      refine wpAny_execs_cons (wpAny_Assign_Name (Subscript_ (r_loc V Hm (.tail _ (.tail _ (.head _))) (putL_ne hn2i3) (r_loc V Hm (.tail _ (.tail _ (.head _))) putL_eq
        (r_subD Hm (.tail _ (.tail _ (.tail _ (.tail _ (.tail _ (.tail _ (.head _))))))) hq hva3 fun sn Hn => r_sto V Hn (.tail (.tail .head)) fun so Ho => ?_)))))
      refine wpAny_execs_cons (wpAny_AugAssign_AttributeAny (r_loc V Ho (.tail _ (.tail _ (.head _))) putL_eq (r_npGet (S := S.at ⟨nis3, fin3, ft3, m3, rv3⟩) [_, _, _, _] B Ho hj fun sp Hp => r_int Hp fun t1 sq Hq => r_isub Hq fun t2 sr Hr => ?_)))
      refine r_npSet (S := S.at ⟨nis3, fin3, ft3, m3, rv3⟩) [_, _, _, _] B Hr hj fun ss Hs => ?_
      have hj2 : (nis3.set j { n3 with np := n3.np - 1, tok := t2 })[j]? = some { n3 with np := n3.np - 1, tok := t2 } := by
        rw [List.getElem?_set_self (List.getElem?_eq_some_iff.mp hj).1]
      have hbo4 : (nis3.set j { n3 with np := n3.np - 1, tok := t2 }).map NI.bone = S.nis.map NI.bone := (bone_set (n' := { n3 with np := n3.np - 1, tok := t2 }) hj rfl).trans hbo3
      have hab4 : absN (nis3.set j { n3 with np := n3.np - 1, tok := t2 }) = bump (absN nis3) q (-1) := by
        rw [abs_set hok3.2 hj _ (fun e => { e with np := e.np + -1 }) rfl, hk3]; rfl
      have hnp4 : npAt (bump (absN nis3) q (-1)) q = some (n3.np - 1) := by
        rw [← hab4, ← hk3]
        exact npAt_abs (n := { n3 with np := n3.np - 1, tok := t2 }) (bone_ok hbo4 hS).2 hj2
      refine wpAny_execs_cons (wpAny_If (r_cmp1 (Attribute_any_ (r_loc V Hs (.tail _ (.tail _ (.head _))) putL_eq (r_npGet (n := { n3 with np := n3.np - 1, tok := t2 }) (S := (S.at ⟨nis3, fin3, ft3, m3, rv3⟩).wi (nis3.set j { n3 with np := n3.np - 1, tok := t2 })) [_, _, _, _] B Hs hj2 fun st Ht => r_int Ht fun t3 su Hu => r_eqI (wpAny_truthy_bool ?_))))))
      have hfold : ∀ r, (if npAt (bump (absN nis3) q (-1)) q = some 0 then rks2 ++ [q] else rks2) = r → (absN (nis3.set j { n3 with np := n3.np - 1, tok := t2 }), r) = (done2 ++ [q]).foldl decr (setNp (absN nis) p (-2), rks') := by
        intro r hr2
        rw [List.foldl_append, ← hab3]
        show _ = decr (absN nis3, rks2) q
        unfold decr
        dsimp only
        rw [hr2, hab4]
      by_cases h0 : n3.np - 1 = 0
      · rw [show (n3.np - 1 == 0) = true by simpa using h0]
        refine wpAny_execs_cons (wpAny_Expr (r_callM (Attribute_any_ (r_loc V Hu (.tail _ (.tail _ (.head _))) (putL_ne (putL_ne hself3)) (r_soGet B Hu (.tail _ (.tail _ (.tail _ (.tail _ (.head _))))) (.tail _ (.tail _ (.tail _ (.tail _ (.tail _ (.head _)))))) rfl (by rw [show ((S.at ⟨nis3, fin3, ft3, m3, rv3⟩).wi (nis3.set j { n3 with np := n3.np - 1, tok := t2 })).ready = .ref ra from hr]; rfl) fun sv Hv => ?_)))) V.inter)
        rw [show ((S.at ⟨nis3, fin3, ft3, m3, rv3⟩).wi (nis3.set j { n3 with np := n3.np - 1, tok := t2 })).ready = .ref ra from hr]
        refine r_mlist PySem.F.slot_list_append PySem.F.type_list_append Hv (.tail _ (.tail _ (.tail _ (.tail _ (List.mem_append_right (So.L prog w _) (.head _)))))) (r_cw Hv (keeps_builtin _) (r_loc V Hv (.tail _ (.tail _ (.head _))) (putL_ne putL_eq) ⟨_, Hv, ?_⟩))
        refine r_append Hv (.tail (.tail (.tail (.tail (.right (l := So.L prog w _) .head))))) (fun sw Hw => wpAny_execs_nil (wpAny_execs_nil ?_)) (d1 hrl3 (by rw [hsd, List.length_append]; exact Nat.le_add_right _ _) hsl hrl hmul hz)
        refine hQ2 ⟨nis3.set j { n3 with np := n3.np - 1, tok := t2 }, fin3, ft3, _, rv3 ++ [qv]⟩ _ ⟨rfl, rfl, hbo4, putL_ne (putL_ne hself3), putL_ne (putL_ne hn2i3), done2 ++ [q], rks2 ++ [q], by simp [hsd], hrk3.snoc hq, by dsimp only; rw [List.length_append, List.length_append]; exact Nat.add_le_add_right hrl3 1, hfold _ ?_⟩ Hw
        rw [if_pos (by rw [hnp4, h0])]
      · rw [show (n3.np - 1 == 0) = false by simpa using h0]
        refine wpAny_execs_nil (wpAny_execs_nil ?_)
        refine hQ2 ⟨nis3.set j { n3 with np := n3.np - 1, tok := t2 }, fin3, ft3, _, rv3⟩ _ ⟨rfl, rfl, hbo4, putL_ne (putL_ne hself3), putL_ne (putL_ne hn2i3), done2 ++ [q], rks2, by simp [hsd], hrk3, by dsimp only; rw [List.length_append]; exact Nat.le_succ_of_le hrl3, hfold _ ?_⟩ Hu
        rw [if_neg (by rw [hnp4]; simpa using h0)]
    · rintro ⟨nis3, fin3, ft3, m3, rv3⟩ sl ⟨h31, h32, hbo3, hself3, hn2i3, done2, rks2, hsd, hrk3, hrl3, hab3⟩ Hl
      dsimp only at h31 h32 hbo3 hself3 hn2i3 hrk3 hrl3 hab3 Hl
      subst h31 h32
      obtain rfl : n.succ = done2 := by simpa using hsd
      refine wpAny_execs_cons (wpAny_AugAssign_AttributeAny (r_loc V Hl (.tail _ (.head _)) hself3 (r_soGet B Hl (.tail _ (.tail _ (.tail _ (.head _)))) (.tail _ (.tail _ (.tail _ (.tail _ (.head _))))) rfl rfl fun sm Hm => r_int Hm fun t1 sn Hn => r_iadd Hn fun t2 so Ho => ?_)))
      refine r_soSet B Ho (.tail _ (.tail _ (.tail _ (.head _)))) (.tail (.tail (.tail (.tail .head)))) (Nat.le_of_ble_eq_true rfl) fun sp Hp => wpAny_execs_nil ?_
      refine hQ1 ⟨nis3, fin3 + 1, t2, m3, rv3⟩ _ ⟨hbo3, hself3, hn2i3, done ++ [p], rks2, by simp [hks], by dsimp only; rw [hfin, List.length_append]; exact Int.add_assoc _ _ _, hrk3, ?_, ?_⟩ Hp
      · rw [List.length_append, List.length_singleton, Nat.add_mul]
        exact d2 hrl3 hsl hrl
      · rw [List.foldl_append, ← hab]
        show _ = doneOne (absN nis, rks') p
        unfold doneOne
        dsimp only
        rw [hsu, hab3]
  · rintro ⟨nis, fin, ft, m, rv⟩ sc ⟨hbo, hself, hn2i, done, rks', hks, hfin, hrk, hrl, hab⟩ Hc
    dsimp only at hbo hself hn2i hfin hrk hrl hab Hc
    obtain rfl : ks = done := by simpa using hks
    refine wpAny_execs_nil (hQ'.2 _ (h nis rv rks' ft sc (bone_ok hbo hS) hrk hab hbo (by rw [hlk]; exact hrl) ?_))
    subst hfin
    exact Hc.tail.tail
end
end Mine
end
section
open PySem PySem.W PySem.Calls PyProof.Rows
namespace Mine
/-- one step of the search: a node, its bound __next__, its iterator, its record, the place reached -/
structure Fk where
  v : Value
  k : Nd
  q : Addr
  it : Addr
  n : NI
  i : Nat
noncomputable def fksL : List Fk → List Ent
  | [] => []
  | f :: r => (f.q, WR f.it) :: (f.it, LIT f.n.sa f.i) :: fksL r
structure FS where
  m : List (Str × Value)
  fs : List Fk
  vis : List Nd
  kv : List (Nd × Value)
noncomputable def SoE (prog : Program) (w : World) (S : So) (ep : Nat) : List Ent := (S.self, INST 137 S.dx #[]) :: (S.dx, ID S.attrs) :: (S.n2i, DIE prog w S.kvs ep) :: nisL S.nis
structure FA where
  C : Addr
  stk : Addr
  its : Addr
  sn : Addr
  n2s : Addr
noncomputable def fcL (prog : Program) (w : World) (a : FA) (S : So) (ep : Nat) (F : List Ent) (c : FS) : List Ent :=
  (a.C, NS c.m) :: (a.stk, LI (c.fs.map (·.v)).reverse) :: (a.its, LI (c.fs.map fun f => Value.ref f.q).reverse) :: (a.sn, SE prog w (fun k => decide (k ∈ c.vis)) c.vis.length) :: (a.n2s, DI prog w c.kv) :: (fksL c.fs ++ (SoE prog w S ep ++ F))
structure FI (a : FA) (S : So) (c : FS) : Prop where
  n2i : c.m.lookup (Str.ofString "n2i") = some (.ref S.n2i)
  stk : c.m.lookup (Str.ofString "stack") = some (.ref a.stk)
  its : c.m.lookup (Str.ofString "itstack") = some (.ref a.its)
  sn : c.m.lookup (Str.ofString "seen") = some (.ref a.sn)
  n2s : c.m.lookup (Str.ofString "node2stacki") = some (.ref a.n2s)
  fs : ∀ f ∈ c.fs, f.n ∈ S.nis ∧ ND f.v f.k ∧ f.i ≤ f.n.svs.length ∧ f.k ∈ c.vis
  nd : (c.fs.map (·.k)).Nodup
  visnd : c.vis.Nodup
  vis : ∀ k ∈ c.vis, k ∈ S.nis.map (·.key)
  keys : c.kv.map (·.1) = (c.fs.map (·.k)).reverse
  numv : ∀ p ∈ c.kv, ∃ (j : Nat) (t : Tok), p.2 = .int j t
theorem FI.store {a : FA} {S : So} {c : FS} (h : FI a S c) (v : Value) : FI a S { c with m := putL c.m (Str.ofString "node") v } :=
  ⟨putL_ne h.n2i, putL_ne h.stk, putL_ne h.its, putL_ne h.sn, putL_ne h.n2s, h.fs, h.nd, h.visnd, h.vis, h.keys, h.numv⟩
theorem nodup_len {α : Type} [DecidableEq α] : ∀ {l r : List α}, l.Nodup → (∀ x ∈ l, x ∈ r) → l.length ≤ r.length
  | [], _, _, _ => Nat.zero_le _
  | x :: t, r, hn, hs => by
    rw [List.nodup_cons] at hn
    have hx := hs x (.head _)
    have := nodup_len (r := r.erase x) hn.2 fun y hy => (List.mem_erase_of_ne (fun e => by subst e; exact hn.1 hy)).mpr (hs y (.tail _ hy))
    rw [List.length_erase_of_mem hx] at this
    have := List.length_pos_of_mem hx
    rw [List.length_cons]
    omega
theorem FI.visLen {a : FA} {S : So} {c : FS} (h : FI a S c) : c.vis.length ≤ S.nis.length := by
  have := nodup_len h.visnd h.vis
  rwa [List.length_map] at this
theorem FI.fsLen {a : FA} {S : So} {c : FS} (h : FI a S c) : c.fs.length ≤ S.nis.length := by
  have := nodup_len (l := c.fs.map (·.k)) (r := c.vis) h.nd fun x hx => by obtain ⟨f, hf, rfl⟩ := List.mem_map.mp hx; exact (h.fs f hf).2.2.2
  rw [List.length_map] at this
  exact Nat.le_trans this h.visLen
theorem FI.kvLen {a : FA} {S : So} {c : FS} (h : FI a S c) : c.kv.length = c.fs.length := by
  have := congrArg List.length h.keys
  simpa using this
noncomputable def wU (nis : List NI) (vis : List Nd) : Nat := (nis.map fun n => if n.key ∈ vis then 0 else n.svs.length + 2).sum
noncomputable def wF (fs : List Fk) : Nat := (fs.map fun f => f.n.svs.length - f.i + 1).sum
noncomputable def FS.mu (S : So) (c : FS) : Nat := wU S.nis c.vis + wF c.fs
theorem wU_le (nis : List NI) (vis : List Nd) (k : Nd) : wU nis (k :: vis) ≤ wU nis vis := by
  unfold wU
  induction nis with
  | nil => exact Nat.le_refl _
  | cons x r ih =>
    simp only [List.map_cons, List.sum_cons]
    refine Nat.add_le_add ?_ ih
    by_cases h : x.key ∈ vis
    · rw [if_pos (List.mem_cons_of_mem _ h), if_pos h]; exact Nat.le_refl _
    · rw [if_neg h]; split <;> omega
theorem wU_push {nis : List NI} {vis : List Nd} {n : NI} (hn : n ∈ nis) (hk : n.key ∉ vis) : wU nis (n.key :: vis) + (n.svs.length + 2) ≤ wU nis vis := by
  induction nis with
  | nil => cases hn
  | cons x r ih =>
    have hr := wU_le r vis n.key
    unfold wU at *
    simp only [List.map_cons, List.sum_cons]
    rcases List.mem_cons.mp hn with rfl | hn
    · rw [if_pos (.head _), if_neg hk]; omega
    · have := ih hn
      have h2 : (if x.key ∈ n.key :: vis then 0 else x.svs.length + 2) ≤ (if x.key ∈ vis then 0 else x.svs.length + 2) := by
        by_cases h : x.key ∈ vis
        · rw [if_pos (List.mem_cons_of_mem _ h), if_pos h]; exact Nat.le_refl _
        · rw [if_neg h]; split <;> omega
      omega
theorem revsz {α β : Type} (g : α → β) {fs : List α} {n : Nat} (h : fs.length ≤ n) (hn : n < 900) : (fs.map g).reverse.length ≤ 900 := by
  rw [List.length_reverse, List.length_map]; exact Nat.le_of_lt (Nat.lt_of_le_of_lt h hn)
theorem n1k {k : Nat} (h : k ≤ 900) : k ≤ 1000 := Nat.le_trans h (by decide)
theorem n1p {k : Nat} (h : k ≤ 900) : k + 1 ≤ 1000 := Nat.le_trans (Nat.add_le_add_right h 1) (by decide)
theorem vsz {k n : Nat} (h : k ≤ n) (hn : n < 900) : k + 1 < scanBound := Nat.lt_of_le_of_lt (Nat.add_le_add_right (Nat.le_of_lt (Nat.lt_of_le_of_lt h hn)) 1) (by unfold scanBound; decide)
theorem slsz {α : Type} (g : α → Value) {fs : List α} {n : Nat} (j : Int) (h : fs.length ≤ n) (hn : n < 900) : (slicePick (fs.map g).reverse.toArray (some j) none none).toList.length ≤ 900 := by
  have h1 := slicePick_size_le (fs.map g).reverse.toArray (some j) none none
  rw [List.size_toArray] at h1
  exact Nat.le_trans h1 (revsz g h hn)
theorem mu1 {a b c d : Nat} (h : c < b) : a + (b - (c + 1) + 1 + d) < a + (b - c + 1 + d) := by omega
theorem mu2 {a b c d : Nat} : a + d < a + (b - c + 1 + d) := by omega
theorem mu3 {a b c d : Nat} (h : a + (b + 2) ≤ c) : a + (b - 0 + 1 + d) ≤ c + d := by omega
end Mine
end
section
open PySem PySem.W PySem.Calls PyProof.Rows
namespace Mine
section
variable {prog : Program} {w : World} {A : Around} {E : Value → Shared → Prop} {h₀ : Heap} {os : OsState} {L L' F : List Ent} {s : Shared}

theorem SoE.di {S : So} {ep : Nat} {X : List Ent} (H : St h₀ os (X ++ (SoE prog w S ep ++ F)) s) : St h₀ os (X ++ (S.L prog w ++ F)) s :=
  H.imp (.right (.left (.tail (.tail .head)))) fun _ h => h.di
theorem fc_mem {a : FA} {S : So} {ep : Nat} {c : FS} {e e0 : Ent} (h : e ∈ nisL S.nis) : e ∈ e0 :: fcL prog w a S ep F c := by
  unfold fcL SoE
  simp only [List.mem_cons, List.mem_append]
  simp [h]
theorem fc_memF {a : FA} {S : So} {ep : Nat} {c : FS} {e : Ent} {X : List Ent} (h : e ∈ F) : e ∈ X ++ fcL prog w a S ep F c := by
  unfold fcL SoE
  simp only [List.mem_cons, List.mem_append]
  simp [h]
theorem without_keys (kvs : List (Nd × Value)) (k : Nd) : (without kvs k).map (·.1) = (kvs.map (·.1)).filter fun x => decide (x ≠ k) := by
  unfold without
  rw [List.filter_map]; rfl
theorem stopFacts : isSubtype (.type "StopIteration") (.type "BaseException") = pure true ∧ isSubtype (.type ((Manifest.find? "StopIteration").elim "type" fun x => x.metatype)) (.type "tuple") = pure false :=
  ⟨by rw [isSubtype_type]; kernel_rfl, by rw [isSubtype_type]; kernel_rfl⟩

theorem find_cycle_spec {k : Nat} (B : BF w h₀) (hA : Calm A (k + 3)) {fl : List Env} (hfl : A.frames = some fl) (hfr : Frs fl F) {S : So} (hS : okN S.nis) (hcl : ∀ n ∈ S.nis, ∀ x ∈ n.succ, x ∈ S.nis.map (·.key)) (hz : S.nis.length < 900) (hz2 : ∀ n ∈ S.nis, n.svs.length < 2 ^ 20)
    (H : St h₀ os (S.L prog w ++ F) s) {Q : Value → Shared → Prop}
    (hN : ∀ s', St h₀ os (S.L prog w ++ F) s' → Q .none s') (hL : ∀ a xs s', xs.length < 2 ^ 20 → St h₀ os ((a, LI xs) :: (S.L prog w ++ F)) s' → Q (.ref a) s') :
    wpAny (model prog w) A (call (.ref 127) [.ref S.self]) Q E s := by
  refine wpAny_call (r_callFn H hA.room B.nolim (B.K 127 _ rfl) rfl (B.code (by kernel_rfl)) rfl rfl rfl rfl rfl rfl ?_)
  refine wpAny_pure ⟨_, H, fun env C as s₂ henv V hl H₂ => ?_⟩
  obtain rfl : as = [] := List.length_eq_zero_iff.mp hl
  have hfC : env.frame = some C := by rw [henv]; rfl
  have hfr2 : (A.deeper env).frames = some (env :: fl) := by show A.frames.map _ = _; rw [hfl]; rfl
  clear henv
  refine r_binds_cons (r_sto V H₂ .head (fun s₃ H₃ => r_binds_nil ⟨_, H₃, ?_⟩))
  refine gen (fun Q' => (∀ s', St h₀ os (S.L prog w ++ F) s' → Q' (.ret .none) s') ∧ ∀ b xs s', xs.length < 2 ^ 20 → St h₀ os ((b, LI xs) :: (S.L prog w ++ F)) s' → Q' (.ret (.ref b)) s') ⟨hN, hL⟩ fun Q' E' hQ' => ?_
  clear hN hL
  refine wpAny_execs_cons (wpAny_Assign_Name (Attribute_any_ (r_loc V H₃ (.head _) rfl (r_soGet B H₃ (.tail _ (.head _)) (.tail _ (.tail _ (.head _))) rfl rfl fun s₈ H₈ => r_sto V H₈ .head fun s₉ H₉ => ?_))))
  refine wpAny_execs_cons (wpAny_Assign_Name (r_List0 H₉ fun stk s₄ H₄ => r_sto V H₄ (.tail .head) fun s₅ H₅ => ?_))
  refine wpAny_execs_cons (wpAny_Assign_Name (r_List0 H₅ fun its s₄ H₄ => r_sto V H₄ (.tail (.tail .head)) fun s₅ H₅ => ?_))
  refine wpAny_execs_cons (wpAny_Assign_Name (r_callN (r_glo V H₅ (B.glob _ (.type "set") (by decide)) (r_cw H₅ (keeps_type _) ⟨_, H₅, r_newSet H₅ fun sn s₄ H₄ => r_sto V H₄ (.tail (.tail (.tail .head))) fun s₅ H₅ => ?_⟩))))
  refine wpAny_execs_cons (wpAny_Assign_Name (wpAny_Dict_empty ?_))
  have H₆ := H₅.push (o := { cls := .type "dict", data := .dict #[] }) (P := DI prog w []) rfl DI.nil
  refine r_sto V H₆ (.tail (.tail (.tail (.tail .head)))) fun s₇ H₇ => ?_
  have G := H₇.perm ((List.reverse_perm [_, _, _, _, _]).symm.append_right _)
  obtain ⟨a, m, rfl, hI, Gm⟩ : ∃ (a : FA) (m : List (Str × Value)), C = a.C ∧ FI a S ⟨m, [], [], []⟩ ∧ St h₀ os ((a.C, NS m) :: (a.stk, LI []) :: (a.its, LI []) :: (a.sn, SE prog w (fun k => decide (k ∈ ([] : List Nd))) 0) :: (a.n2s, DI prog w []) :: (S.L prog w ++ F)) s₇ := by
    have e : (fun k => decide (k ∈ ([] : List Nd))) = fun _ => false := by funext k; simp
    rw [e]
    have G' : St h₀ os (_ :: _ :: _ :: _ :: _ :: (S.L prog w ++ F)) s₇ := G
    refine ⟨⟨C, stk, its, sn, _⟩, _, rfl, ?_, G'⟩
    exact ⟨rfl, rfl, rfl, rfl, rfl, by simp, by simp, by simp, by simp, rfl, by simp⟩
  clear G H₇ H₆ H₅
  obtain ⟨ep, Ga⟩ : ∃ ep, St h₀ os (fcL prog w a S ep F ⟨m, [], [], []⟩) s₇ := St.openD (d := S.n2i) (prog := prog) (w := w) (kvs := S.kvs) Gm (fun ep => .tail (.tail (.tail (.tail (.tail (.left (.tail (.tail .head))))))))
  refine wpAny_execs_cons (wpAny_For (r_loc V Ga (.head _) hI.n2i (r_iter_keys Ga (.tail _ (.tail _ (.tail _ (.tail _ (.tail _ (.tail _ (.tail _ (.head _)))))))) fun ia sb Hb => ?_)))
  have hfrs : ∀ L : List Ent, (∃ m, (a.C, NS m) ∈ L) → (∀ e ∈ F, e ∈ L) → Frs (env :: fl) L := fun L hC hF e he => by
    rcases List.mem_cons.mp he with rfl | he
    · obtain ⟨m', hm'⟩ := hC
      exact ⟨by rw [V.kind]; decide, a.C, m', hfC, hm'⟩
    · obtain ⟨h1, C', m', h2, h3⟩ := hfr e he
      exact ⟨h1, C', m', h2, hF _ h3⟩
  refine r_forLoop2 (nexts_keys ia S.n2i S.kvs ep) (σ := FS) (fun c => fcL prog w a S ep F c) (fun rem c => FI a S c ∧ c.fs = [] ∧ ∀ p ∈ rem, p.1 ∈ S.nis.map (·.key)) (fun r s' => ∃ b xs, r = .ref b ∧ xs.length < 2 ^ 20 ∧ St h₀ os ((b, LI xs) :: (S.L prog w ++ F)) s') hA.handled ?_ ?_ ?_ ?_ (c := ⟨m, [], [], []⟩) ⟨hI, rfl, ?_⟩ Hb
  · rintro rem c _
    exact .tail _ (.tail _ (.tail _ (.tail _ (.tail _ (List.mem_append_right _ (.tail _ (.tail _ (.head _))))))))
  · rintro Q1 E1 nv ⟨nk, nx⟩ rem ⟨m, fs, vis, kv⟩ sc hnd ⟨hI, hfs, hrem⟩ Hc hQ1 hR1
    dsimp only at hfs hnd
    subst hfs
    refine wpAny_assign_Name (r_sto V Hc (.tail .head) fun sd Hd => ?_)
    replace hI := hI.store nv
    dsimp only at hI
    refine wpAny_execs_cons (wpAny_If (r_cmp1 (r_loc V Hd (.tail _ (.head _)) putL_eq (r_loc V Hd (.tail _ (.head _)) hI.sn (r_inSet Hd (.tail _ (.tail _ (.tail _ (.tail _ (.head _))))) hnd fun se He => wpAny_truthy_bool ?_)))))
    by_cases hv : nk ∈ vis
    · rw [show decide (nk ∈ vis) = true by simpa using hv, if_pos rfl]
      exact wpAny_execs_cons (wpAny_Continue (hQ1 ⟨_, [], vis, kv⟩ _ ⟨hI, rfl, fun p hp => hrem p (.tail _ hp)⟩ He).2)
    · rw [show decide (nk ∈ vis) = false by simpa using hv, if_neg (by simp)]
      refine wpAny_execs_nil ?_
      refine wpAny_execs_cons (wpAny_While (codeAny_whileLoop (fun n s' => ∃ (c : FS) (v : Value) (k : Nd), n = c.mu S ∧ FI a S c ∧ c.m.lookup (Str.ofString "node") = some v ∧ ND v k ∧ k ∈ S.nis.map (·.key) ∧ St h₀ os (keyJ ia S.n2i S.kvs ep rem ++ fcL prog w a S ep F c) s') ?_ _
        ⟨_, nv, nk, rfl, hI, putL_eq, hnd, hrem _ (.head _), He⟩))
      clear hI hv He Hd Hc
      rintro _ sf ⟨⟨m, fs, vis, kv⟩, v, k, rfl, hI, hm, hnd, hk, Hf⟩
      dsimp only at hm
      refine wpAny_isTrue_value (wpAny_Constant_bool (wpAny_truthy_bool ?_))
      rw [if_pos rfl]
      refine gen (fun Q2 => (∀ s', (∃ n, n < FS.mu S ⟨m, fs, vis, kv⟩ ∧ ∃ (c : FS) (v : Value) (k : Nd), n = c.mu S ∧ FI a S c ∧ c.m.lookup (Str.ofString "node") = some v ∧ ND v k ∧ k ∈ S.nis.map (·.key) ∧ St h₀ os (keyJ ia S.n2i S.kvs ep rem ++ fcL prog w a S ep F c) s') → Q2 .next s') ∧
        (∀ c s', FI a S c → c.fs = [] → St h₀ os (keyJ ia S.n2i S.kvs ep rem ++ fcL prog w a S ep F c) s' → Q2 .brk s') ∧ ∀ b xs s', xs.length < 2 ^ 20 → St h₀ os ((b, LI xs) :: (S.L prog w ++ F)) s' → Q2 (.ret (.ref b)) s')
        ⟨fun _ h => h, fun c s' h1 h2 h3 => wpAny_execs_nil (hQ1 c s' ⟨h1, h2, fun p hp => hrem p (.tail _ hp)⟩ h3).1, fun b xs s' h1 h2 => hR1 _ s' ⟨b, xs, rfl, h1, h2⟩⟩ fun Q2 E2 ⟨hN2, hB2, hR2⟩ => ?_
      refine wpAny_execs_cons (gen (fun Q4 => (∀ (c1 : FS) s', FI a S c1 → c1.mu S ≤ FS.mu S ⟨m, fs, vis, kv⟩ → St h₀ os (keyJ ia S.n2i S.kvs ep rem ++ fcL prog w a S ep F c1) s' → Q4 .next s') ∧
        ∀ b xs s', xs.length < 2 ^ 20 → St h₀ os ((b, LI xs) :: (S.L prog w ++ F)) s' → Q4 (.ret (.ref b)) s') ⟨?_, hR2⟩ fun Q4 E4 hQ4 => ?_)
      rotate_left
      · refine wpAny_If (r_cmp1 (r_loc V Hf (.tail _ (.head _)) hm (r_loc V Hf (.tail _ (.head _)) hI.sn (r_inSet Hf (.tail _ (.tail _ (.tail _ (.tail _ (.head _))))) hnd fun sg Hg => wpAny_truthy_bool ?_))))
        have hfs := hI.fsLen
        have hvl := hI.visLen
        have hkl := hI.kvLen
        dsimp only at hfs hvl hkl
        by_cases hv : k ∈ vis
        · rw [show decide (k ∈ vis) = true by simpa using hv, if_pos rfl]
          refine wpAny_execs_cons (wpAny_If (r_cmp1 (r_loc V Hg (.tail _ (.head _)) hm (r_loc V Hg (.tail _ (.head _)) hI.n2s (r_din Hg (.tail _ (.tail _ (.tail _ (.tail _ (.tail _ (.head _)))))) hnd fun sh Hh => wpAny_truthy_bool ?_)))))
          cases hva : valueAt kv k with
          | none => exact wpAny_execs_nil (wpAny_execs_nil (hQ4.1 _ _ hI (Nat.le_refl _) Hh))
          | some jv =>
            obtain ⟨j, t, rfl⟩ : ∃ (j : Nat) (t : Tok), jv = .int j t := by
              obtain ⟨p, hp, rfl⟩ := Option.map_eq_some_iff.mp hva
              exact hI.numv p (List.mem_of_find?_eq_some hp)
            refine wpAny_execs_cons (wpAny_Return_some (wpAny_BinOp (r_slice (r_loc V Hh (.tail _ (.head _)) hI.stk (evalPart_some_step (Subscript_ (r_loc V Hh (.tail _ (.head _)) hI.n2s (r_loc V Hh (.tail _ (.head _)) hm
              (r_subD Hh (.tail _ (.tail _ (.tail _ (.tail _ (.tail _ (.head _)))))) hnd hva fun si Hi => evalPart_none_step ⟨_, a.stk, _, some (j : Int), none, rfl, Hi, .tail _ (.tail _ (.head _)), b20 (n1k (revsz _ hfs hz)), .int .., .none, fun b sj Hj => ?_⟩)))))))))
            refine r_List rfl (r_loc V Hj (.tail _ (.tail _ (.head _))) hm ⟨_, Hj, by rw [sizeLine_eq]; simp, fun b2 sk Hk => r_addL Hk (.tail _ (.head _)) (.head _) ?_ fun c sl Hl => hQ4.2 c ((slicePick (fs.map (·.v)).reverse.toArray (some (j : Int)) none none).toList ++ [v]) _ ?_ ?_⟩)
            · exact b20 (n1p (slsz _ _ hfs hz))
            · rw [List.length_append]; exact b20 (n1p (slsz _ _ hfs hz))
            · exact SoE.di (X := [_]) (Hl.sub (.cons₂ _ (.cons _ (.cons _ (.cons _ (.cons _ (.cons _ (.cons _ (.cons _ (.cons _ (List.sublist_append_right _ _)))))))))))
        · rw [show decide (k ∈ vis) = false by simpa using hv, if_neg (by simp)]
          refine wpAny_execs_cons (wpAny_Expr (r_callM (r_loc V Hg (.tail _ (.head _)) hI.sn (r_mset PySem.F.slot_set_add PySem.F.type_set_add Hg (.tail _ (.tail _ (.tail _ (.tail _ (.head _))))) (r_cw Hg (keeps_builtin _) (r_loc V Hg (.tail _ (.head _)) hm ⟨_, Hg,
            r_setAdd Hg (.tail (.tail (.tail (.tail .head)))) hnd (fun sh Hh => ?_) ?_⟩))))) V.inter)
          rotate_left
          · exact vsz hvl hz
          replace Hh := Hh.imp (P' := SE prog w (fun k' => decide (k' ∈ k :: vis)) (k :: vis).length) (.tail (.tail (.tail (.tail .head)))) (fun o ho => by
            have e1 : (fun k' => decide (k' ∈ vis) || decide (k' = k)) = fun k' => decide (k' ∈ k :: vis) := by funext k'; rw [Bool.eq_iff_iff]; simp [or_comm]
            have e2 : (if decide (k ∈ vis) = true then vis.length else vis.length + 1) = (k :: vis).length := by rw [if_neg (by simpa using hv)]; rfl
            rw [← e1, ← e2]; exact ho)
          obtain ⟨ix, n, hix, hnk, hva⟩ := find_nis (nis := S.nis) (k := k) (by rw [absN_keys]; exact hk)
          have hnm := List.mem_of_getElem? hix
          have hme := nisL_mem hnm
          have hin : ∀ {e : Ent}, e ∈ nisL S.nis → e ∈ keyJ ia S.n2i S.kvs ep rem ++ fcL prog w a S ep F ⟨m, fs, k :: vis, kv⟩ := fun h => fc_mem h
          refine wpAny_execs_cons (wpAny_Expr (r_callM (r_loc V Hh (.tail _ (.head _)) hI.its ?_)) V.inter)
          refine r_mlist PySem.F.slot_list_append PySem.F.type_list_append Hh (.tail _ (.tail _ (.tail _ (.head _)))) (r_cw Hh (keeps_builtin _) ?_)
          refine Attribute_any_ (r_callN (r_glo V Hh (B.glob _ (.builtin "iter") (by decide)) (r_cw Hh (keeps_builtin _) (Attribute_any_ (Subscript_ (r_loc V Hh (.tail _ (.head _)) hI.n2i (r_loc V Hh (.tail _ (.head _)) hm ?_)))))))
          refine r_subDE Hh (.tail _ (.tail _ (.tail _ (.tail _ (.tail _ (.tail _ (List.mem_append_right _ (.tail _ (.tail _ (.head _)))))))))) hnd hva fun si Hi => ?_
          refine r_niGet 2 B Hi (hin hme.1) (hin hme.2.1) rfl rfl fun sj Hj => ⟨_, Hj, r_iterFn Hj (hin hme.2.2) fun it sk Hk => r_nextAttr Hk fun q sl Hl => ⟨_, Hl, r_append Hl (.tail (.tail (.tail (.tail (.tail .head))))) (fun sm Hm => ?_) ?_⟩⟩
          rotate_left
          · exact bsz (n1k (revsz _ hfs hz))
          refine wpAny_execs_cons (wpAny_Assign_Subscript (r_callN (r_glo V Hm (B.glob _ (.builtin "len") (by decide)) (r_cw Hm (keeps_builtin _) (r_loc V Hm (.tail _ (.tail _ (.tail _ (.head _)))) hI.stk ⟨_, Hm, ?_⟩)))))
          refine r_lenL Hm (.tail _ (.tail _ (.tail _ (.tail _ (.head _))))) (b40 (n1k (revsz _ hfs hz))) fun t1 sn1 Hn => r_loc V Hn (.tail _ (.tail _ (.tail _ (.head _)))) hI.n2s (r_loc V Hn (.tail _ (.tail _ (.tail _ (.head _)))) hm ?_)
          refine r_dset Hn (.tail (.tail (.tail (.tail (.tail (.tail (.tail .head))))))) hnd (fun so Ho => ?_) (bsz (by show kv.length ≤ _; rw [hkl]; exact n1k (Nat.le_of_lt (Nat.lt_of_le_of_lt hfs hz))))
          refine wpAny_execs_cons (wpAny_Expr (r_callM (r_loc V Ho (.tail _ (.tail _ (.tail _ (.head _)))) hI.stk ?_)) V.inter)
          refine r_mlist PySem.F.slot_list_append PySem.F.type_list_append Ho (.tail _ (.tail _ (.tail _ (.tail _ (.head _))))) (r_cw Ho (keeps_builtin _) (r_loc V Ho (.tail _ (.tail _ (.tail _ (.head _)))) hm ⟨_, Ho, r_append Ho (.tail (.tail (.tail (.tail .head)))) (fun sp Hp => wpAny_execs_nil ?_) ?_⟩))
          rotate_left
          · exact bsz (n1k (revsz _ hfs hz))
          have hkv : k ∉ kv.map (·.1) := by
            intro hx
            rw [hI.keys, List.mem_reverse] at hx
            obtain ⟨f, hf, rfl⟩ := List.mem_map.mp hx
            exact hv (hI.fs f hf).2.2.2
          refine hQ4.1 ⟨m, ⟨v, k, q, it, n, 0⟩ :: fs, k :: vis, stored kv k (.int ((fs.map (·.v)).reverse.length : Nat) t1)⟩ _ ⟨hI.n2i, hI.stk, hI.its, hI.sn, hI.n2s, ?_, ?_, ?_, ?_, ?_, ?_⟩ ?_ ?_
          · intro f hf
            rcases List.mem_cons.mp hf with rfl | hf
            · exact ⟨hnm, hnd, Nat.zero_le _, .head _⟩
            · obtain ⟨h1, h2, h3, h4⟩ := hI.fs f hf
              exact ⟨h1, h2, h3, .tail _ h4⟩
          · show (k :: fs.map (·.k)).Nodup
            refine List.nodup_cons.mpr ⟨fun hx => ?_, hI.nd⟩
            obtain ⟨f, hf, rfl⟩ := List.mem_map.mp hx
            exact hv (hI.fs f hf).2.2.2
          · exact List.nodup_cons.mpr ⟨hv, hI.visnd⟩
          · intro x hx
            rcases List.mem_cons.mp hx with rfl | hx
            · exact hk
            · exact hI.vis x hx
          · dsimp only
            rw [stored_new hkv, List.map_append, hI.keys]
            simp
          · intro p hp
            dsimp only at hp
            rw [stored_new hkv] at hp
            rcases List.mem_append.mp hp with hp | hp
            · exact hI.numv p hp
            · obtain rfl := List.mem_singleton.mp hp
              exact ⟨_, _, rfl⟩
          · have := wU_push hnm (vis := vis) (by rw [hnk]; exact hv)
            rw [hnk] at this
            exact mu3 this
          · have G := St.mid [_, _] [_, _, _, _, _, _] Hp
            simp only [fcL, List.map_cons, List.reverse_cons]
            exact G
      · rintro c1 s' hI1 hmu H1
        · refine wpAny_execs_cons (wpAny_While (codeAny_whileLoop (fun n s'' => ∃ c2 : FS, n = c2.mu S ∧ FI a S c2 ∧ c2.mu S ≤ c1.mu S ∧ St h₀ os (keyJ ia S.n2i S.kvs ep rem ++ fcL prog w a S ep F c2) s'') ?_ _ ⟨c1, rfl, hI1, Nat.le_refl _, H1⟩))
          rintro _ sg ⟨⟨m2, fs2, vis2, kv2⟩, rfl, hI2, hmu2, H2⟩
          have hfs2 := hI2.fsLen
          have hkl2 := hI2.kvLen
          dsimp only at hfs2 hkl2
          refine wpAny_isTrue_value (r_loc V H2 (.tail _ (.head _)) hI2.stk (r_truthyL H2 (.tail _ (.tail _ (.head _))) (b40 (n1k (revsz _ hfs2 hz))) fun sh Hh => ?_))
          cases fs2 with
          | nil =>
            rw [if_neg (by simp)]
            exact wpAny_execs_cons (wpAny_Break (hB2 _ _ hI2 rfl Hh))
          | cons f rest =>
            rw [if_pos (by simp)]
            simp only [fcL, fksL, List.map_cons, List.reverse_cons] at Hh
            obtain ⟨hfn, hfnd, hfi, hfv⟩ := hI2.fs f (.head _)
            have hme := nisL_mem hfn
            have hfok := hS.1 _ hfn
            refine gen (fun Q3 => (∀ s', (∃ n, n < FS.mu S ⟨m2, f :: rest, vis2, kv2⟩ ∧ ∃ c2 : FS, n = c2.mu S ∧ FI a S c2 ∧ c2.mu S ≤ c1.mu S ∧ St h₀ os (keyJ ia S.n2i S.kvs ep rem ++ fcL prog w a S ep F c2) s') → Q3 .next s') ∧
              ∀ s', (∃ n, n < FS.mu S ⟨m, fs, vis, kv⟩ ∧ ∃ (c : FS) (v : Value) (k : Nd), n = c.mu S ∧ FI a S c ∧ c.m.lookup (Str.ofString "node") = some v ∧ ND v k ∧ k ∈ S.nis.map (·.key) ∧ St h₀ os (keyJ ia S.n2i S.kvs ep rem ++ fcL prog w a S ep F c) s') → Q3 .brk s')
              ⟨fun _ h => h, fun s' h => wpAny_execs_nil (hN2 s' h)⟩ fun Q3 E3 ⟨hN3, hB3⟩ => ?_
            refine wpAny_execs_cons (wpAny_Try_except ?_)
            refine wpAny_execs_cons (wpAny_Assign_Name (r_callS (Subscript_ (r_loc V Hh (.tail _ (.head _)) hI2.its (UnaryOp_ (r_int Hh fun t1 si Hi => r_neg Hi fun t2 sj Hj => r_subLast Hj (.tail _ (.tail _ (.tail _ (.head _)))) (r_cwW Hj (.tail _ (.tail _ (.tail _ (.tail _ (.tail _ (.tail _ (.head _))))))) ?_)))))))
            by_cases hlt : f.i < f.n.svs.length
            · obtain ⟨x, hx⟩ : ∃ x, f.n.svs[f.i]? = some x := ⟨_, List.getElem?_eq_getElem hlt⟩
              obtain ⟨xk, hxk, hxn⟩ := hfok.2.get' hx
              refine r_wrapItem Hj (.tail _ (.tail _ (.tail _ (.tail _ (.tail _ (.tail _ (.head _))))))) (.tail (.tail (.tail (.tail (.tail (.tail (.tail .head))))))) ?_ hx fun sk Hk => r_sto V Hk (.tail .head) fun sl Hl => wpAny_execs_cons (wpAny_Break (hB3 _ ?_))
              · exact .tail _ (.tail _ (.tail _ (.tail _ (.tail _ (.tail _ (.tail _ (.tail _ (List.mem_append_right _ (.tail _ (.tail _ (.tail _ (List.mem_append_left _ hme.2.2))))))))))))
              refine ⟨_, ?_, ⟨putL m2 (Str.ofString "node") x, { f with i := f.i + 1 } :: rest, vis2, kv2⟩, x, xk, rfl, ⟨putL_ne hI2.n2i, putL_ne hI2.stk, putL_ne hI2.its, putL_ne hI2.sn, putL_ne hI2.n2s, ?_, hI2.nd, hI2.visnd, hI2.vis, hI2.keys, hI2.numv⟩, putL_eq, hxn, hcl _ hfn _ (List.mem_of_getElem? hxk), ?_⟩
              · refine Nat.lt_of_lt_of_le ?_ (Nat.le_trans hmu2 hmu)
                exact mu1 hlt
              · intro g hg
                rcases List.mem_cons.mp hg with rfl | hg
                · exact ⟨hfn, hfnd, hlt, hfv⟩
                · exact hI2.fs g (.tail _ hg)
              · simp only [fcL, fksL, List.map_cons, List.reverse_cons]
                exact Hl
            · have hx : f.n.svs[f.i]? = none := List.getElem?_eq_none (Nat.not_lt.mp hlt)
              have Hk := Hj.bring 7
              refine r_wrapEnd hA.handled Hk (.tail _ (.tail _ (.tail _ (.tail _ (.tail _ (.tail _ (.head _))))))) ?_ hx fun e fs sl h1 Hl => ?_
              · exact .tail _ (.tail _ (.tail _ (.tail _ (.tail _ (.tail _ (.tail _ (List.mem_append_right _ (.tail _ (.tail _ (.tail _ (List.mem_append_left _ hme.2.2)))))))))))
              have hs1 : 1 < fs.size := (Array.getElem?_eq_some_iff.mp h1).1
              refine r_noteNew hfr2 (hfrs _ ⟨m2, .tail _ (.head _)⟩ fun g hg => .tail _ (.tail _ (.tail _ (.tail _ (.tail _ (.tail _ (.tail _ (List.mem_append_right _ (List.mem_append_right _ hg))))))))) hfC Hl h1 fun T ts sm h3 Hm => ?_
              have hs3 : 3 < ts.size := (Array.getElem?_eq_some_iff.mp h3).1
              have hT : (fs.setIfInBounds 1 (Value.ref T))[1]? = some (.ref T) := by simp [hs1]
              refine r_land Hm hT hs3 fun sn1 Hn => ?_
              refine wpAny_handleBy_builtin (b := true) stopFacts.1 stopFacts.2 isSubtype_stop (r_glo V Hn (B.glob _ (.type "StopIteration") (by decide)) ⟨rfl, ?_, ?_⟩)
              · obtain ⟨o, ho, hc, _⟩ := Hn.get (.tail _ (.head _))
                exact ⟨o, ho, hc⟩
              rw [if_pos rfl]
              refine r_land Hn hT (by simpa using hs3) fun so Ho => ?_
              refine gen (fun Q5 => ∀ s', (∃ n, n < FS.mu S ⟨m2, f :: rest, vis2, kv2⟩ ∧ ∃ c2 : FS, n = c2.mu S ∧ FI a S c2 ∧ c2.mu S ≤ c1.mu S ∧ St h₀ os (keyJ ia S.n2i S.kvs ep rem ++ fcL prog w a S ep F c2) s') → Q5 .next s')
                (fun s' h => wpAny_execs_nil (hN3 s' h)) fun Q5 E5 hQ5 => ?_
              have hlen : rest.length ≤ S.nis.length := Nat.le_of_lt hfs2
              have hkm : f.k ∈ kv2.map (·.1) := by rw [hI2.keys, List.mem_reverse]; exact .head _
              have hvs : (valueAt kv2 f.k).isSome = true := by
                rw [valueAt_isSome_eq_any, List.any_eq_true]
                obtain ⟨p, hp, e⟩ := List.mem_map.mp hkm
                exact ⟨p, hp, by simpa using e⟩
              have hndk := hI2.nd
              rw [List.map_cons, List.nodup_cons] at hndk
              refine wpAny_execs_cons (wpAny_Delete (wpAny_deleteEach_cons (r_delSub (r_loc V Ho (.tail _ (.tail _ (.tail _ (.head _)))) hI2.n2s (r_callM (r_loc V Ho (.tail _ (.tail _ (.tail _ (.head _)))) hI2.stk ?_))))))
              refine r_mlist PySem.F.slot_list_pop PySem.F.type_list_pop Ho (.tail _ (.tail _ (.tail _ (.tail _ (.head _))))) (r_cw Ho (keeps_builtin _) ⟨_, Ho, r_pop Ho (.tail (.tail (.tail (.tail .head)))) ?_ fun sp Hp => ?_⟩)
              · exact bsz (n1p (revsz _ hlen hz))
              refine r_ddel Hp (.tail (.tail (.tail (.tail (.tail (.tail (.tail .head))))))) hfnd hvs (fun sq Hq => wpAny_deleteEach_nil ?_) (bsz (by show kv2.length ≤ _; rw [hkl2]; exact n1k (Nat.le_of_lt (Nat.lt_of_le_of_lt hfs2 hz))))
              refine wpAny_execs_cons (wpAny_Expr_any (r_callM (r_loc V Hq (.tail _ (.tail _ (.tail _ (.head _)))) hI2.its ?_)) V.inter)
              refine r_mlist PySem.F.slot_list_pop PySem.F.type_list_pop Hq (.tail _ (.tail _ (.tail _ (.tail _ (.tail _ (.head _)))))) (r_cw Hq (keeps_builtin _) ⟨_, Hq, r_pop Hq (.tail (.tail (.tail (.tail (.tail .head))))) ?_ fun sr Hr => ?_⟩)
              · exact bsz (n1p (revsz _ hlen hz))
              refine wpAny_execs_nil (hQ5 _ ?_)
              have Hs := (Hr.tail.tail.bring 6).tail
              refine ⟨_, ?_, ⟨m2, rest, vis2, without kv2 f.k⟩, rfl, ⟨hI2.n2i, hI2.stk, hI2.its, hI2.sn, hI2.n2s, fun g hg => hI2.fs g (.tail _ hg), hndk.2, hI2.visnd, hI2.vis, ?_, ?_⟩, ?_, ?_⟩
              · exact mu2
              · dsimp only
                rw [without_keys, hI2.keys]
                simp only [List.map_cons, List.reverse_cons, List.filter_append]
                rw [List.filter_eq_self.mpr]
                · simp
                · intro x hx
                  rw [List.mem_reverse] at hx
                  exact decide_eq_true (fun e => hndk.1 (by rw [← e]; exact hx))
              · intro p hp
                exact hI2.numv p (List.mem_filter.mp hp).1
              · refine Nat.le_trans ?_ hmu2
                exact Nat.le_of_lt mu2
              · exact Hs
  · rintro ⟨m, fs, vis, kv⟩ sc ⟨hI, hfs, _⟩ Hc
    dsimp only at hfs
    subst hfs
    refine wpAny_execs_cons (wpAny_Return_some (wpAny_Constant_none ?_))
    exact hQ'.1 sc (SoE.di (X := []) Hc.tail.tail.tail.tail.tail)
  · rintro _ s' ⟨b, xs, rfl, h1, h2⟩
    exact hQ'.2 b xs s' h1 h2
  · intro p hp
    obtain ⟨n, hn, rfl⟩ := List.mem_map.mp hp
    exact List.mem_map_of_mem hn
end
end Mine
end
section
open PySem PySem.W PySem.Calls PyProof.Rows
namespace Mine
section
variable {prog : Program} {w : World} {A : Around} {E : Value → Shared → Prop} {h₀ : Heap} {os : OsState} {L L' F : List Ent} {s : Shared} {env : Env}
theorem r_tests0 {Q : Bool → Shared → Prop} (h : Q true s) : wpAny (model prog w) A (testsOf [] env) Q E s := by
  unfold testsOf; rw [List.forIn_nil]; exact wpAny_pure h
theorem r_tests1 {c : Expr} {Q : Bool → Shared → Prop} (h : wpAny (model prog w) A (isTrue c env (eval c env)) Q E s) : wpAny (model prog w) A (testsOf [c] env) Q E s := by
  unfold testsOf
  rw [List.forIn_cons]
  simp only [if_true]
  refine wpAny_bind (wpAny_bind (wpAny_mono h (fun b s' q => wpAny_pure ?_) fun _ _ e => e))
  show wpAny _ _ (forIn [] b _) _ _ _
  rw [List.forIn_nil]
  exact wpAny_pure q
noncomputable def readyOf (G : List PN) : List Nd := (G.filter fun e => decide (e.np = 0)).map (·.key)
theorem ready_kvs {nis : List NI} (hn : (nis.map (·.key)).Nodup) :
    ((nis.map fun n => (n.key, Value.ref n.addr)).filter fun p => decide (npAt (absN nis) p.1 = some 0)).map (·.1) = readyOf (absN nis) := by
  have h : ∀ n ∈ nis, npAt (absN nis) n.key = some n.np := fun n hn' => by
    obtain ⟨i, hi⟩ := List.getElem?_of_mem hn'
    exact npAt_abs hn hi
  generalize npAt (absN nis) = f at h
  unfold readyOf absN
  clear hn
  induction nis with
  | nil => rfl
  | cons x r ih =>
    have hx := h x (.head _)
    have ih := ih fun n hn => h n (.tail _ hn)
    simp only [List.map_cons, List.filter_cons, hx, Option.some.injEq]
    show _ = List.map _ (if decide (x.np = 0) = true then x.pn :: _ else _)
    by_cases h0 : x.np = 0
    · simp only [h0, decide_true, if_true, List.map_cons]
      rw [ih]; rfl
    · simp only [h0, decide_false, Bool.false_eq_true, if_false]
      exact ih
theorem kf_m127 (P : Params) : findIn (KH P) (.ref 137) (Str.ofString "_find_cycle") = some (some (.ref 127)) ∧ typeIn (KH P) (.ref 127) = some (.type "function") ∧ keepIn (KH P) (.ref 127) = true := ⟨by kernel_rfl, by kernel_rfl, by kernel_rfl⟩

theorem strKeys_all {es : Array DictEntry} (h : es.toList.all (fun e => match e.key with | .str _ _ => true | _ => false) = true) : StrKeys es := by
  intro e he
  have := List.all_eq_true.mp h e (Array.mem_toList_iff.mpr he)
  split at this
  · rename_i x t hx; exact ⟨x, t, hx⟩
  · cases this
theorem ns54 (B : BF w h₀) : ∃ mN : Str → Option Value, mN "__init__" = none ∧ h₀.Ns 54 mN := by
  refine ⟨_, ?_, ⟨_, _, _, B.K 54 _ rfl, rfl, strKeys_all ?_, fun _ => rfl⟩⟩
  · kernel_rfl
  · kernel_rfl

theorem prepare_spec {k : Nat} (B : BF w h₀) (hA : Calm A (k + 6)) {fl : List Env} (hfl : A.frames = some fl) (hfr : Frs fl F) {S : So} (hS : okN S.nis) (hr : S.ready = .none) (hcl : ∀ n ∈ S.nis, ∀ x ∈ n.succ, x ∈ S.nis.map (·.key)) (hz : S.nis.length < 900) (hz2 : ∀ n ∈ S.nis, n.svs.length < 2 ^ 20)
    (H : St h₀ os (S.L prog w ++ F) s) {Q : Value → Shared → Prop}
    (hN : ∀ ra rvs s', All2 ND rvs (readyOf (absN S.nis)) → St h₀ os (({ S with ready := .ref ra } : So).L prog w ++ (ra, LI rvs) :: F) s' → Q .none s')
    (hE : ∀ ra rvs e T vs ts s', All2 ND rvs (readyOf (absN S.nis)) → vs[1]? = some (.ref T) → ts[3]? = some Value.none → St h₀ os ((T, FLD (.type "traceback") ts) :: (e, FLD (.ref 55) vs) :: (({ S with ready := .ref ra } : So).L prog w ++ (ra, LI rvs) :: F)) s' → E (.ref e) s') :
    wpAny (model prog w) A (call (.ref 92) [.ref S.self]) Q E s := by
  refine wpAny_call (r_callFn H hA.room B.nolim (B.K 92 _ rfl) rfl (B.code (by kernel_rfl)) rfl rfl rfl rfl rfl rfl ?_)
  refine wpAny_pure ⟨_, H, fun env C as s₂ henv V hl H₂ => ?_⟩
  obtain rfl : as = [] := List.length_eq_zero_iff.mp hl
  have hfC : env.frame = some C := by rw [henv]; rfl
  have hfr2 : (A.deeper env).frames = some (env :: fl) := by show A.frames.map _ = _; rw [hfl]; rfl
  clear henv
  refine r_binds_cons (r_sto V H₂ .head (fun s₃ H₃ => r_binds_nil ⟨_, H₃, ?_⟩))
  refine wpAny_execs_cons (wpAny_If (r_cmp1 (Attribute_any_ (r_loc V H₃ (.head _) rfl (r_soGet B H₃ (.tail _ (.head _)) (.tail _ (.tail _ (.head _))) rfl (by rw [hr]; rfl) fun s₄ H₄ => wpAny_Constant_none (isNot_none (wpAny_truthy_bool ?_)))))))
  rw [hr]
  refine wpAny_execs_nil ?_
  obtain ⟨ep, Ga⟩ : ∃ ep, St h₀ os ((C, NS [(Str.ofString "self", Value.ref S.self)]) :: (SoE prog w S ep ++ F)) s₄ := St.openD (d := S.n2i) (prog := prog) (w := w) (kvs := S.kvs) H₄ (fun ep => .tail (.left (.tail (.tail .head))))
  refine wpAny_execs_cons (plainObj_wpAny_Assign_Attribute (r_ListComp (h₀ := h₀) (os := os) (Z := fun D out L' => All2 ND out (readyOf (absN S.nis)) ∧ L' = (C, NS [(Str.ofString "self", Value.ref S.self)]) :: (SoE prog w S ep ++ F)) ?_ ?_ (closureFor_ev V rfl)))
  · refine r_callM (Attribute_any_ (r_loc V Ga (.head _) rfl (r_soGet B Ga (.tail _ (.head _)) (.tail _ (.tail _ (.head _))) rfl rfl fun s₅ H₅ => ?_)))
    refine r_mdictE PySem.F.slot_dict_values PySem.F.type_dict_values H₅ (.tail _ (.tail _ (.tail _ (.head _)))) (r_cw H₅ (keeps_builtin _) ⟨_, H₅, r_values H₅ (.tail _ (.tail _ (.tail _ (.head _)))) fun vv s₆ H₆ => ?_⟩)
    refine r_iter_vals H₆ (.head _) (.tail _ (.tail _ (.tail _ (.tail _ (.head _))))) fun ia s₇ H₇ => ?_
    refine ⟨_, _, _, _, S.kvs, _, nexts_vals ia S.n2i S.kvs ep, H₇, fun D Cl as s₈ hl H₈ => ?_⟩
    obtain rfl : as = [] := List.length_eq_zero_iff.mp hl
    have hkv : ∀ x ∈ S.kvs, ∃ n ∈ S.nis, x = (n.key, Value.ref n.addr) := fun x hx => by
      obtain ⟨n, hn, e⟩ := List.mem_map.mp hx
      exact ⟨n, hn, e.symm⟩
    have hnp : ∀ n ∈ S.nis, npAt (absN S.nis) n.key = some n.np := fun n hn => by
      obtain ⟨i, hi⟩ := List.getElem?_of_mem hn
      exact npAt_abs hS.2 hi
    refine compPure (nexts_vals ia S.n2i S.kvs ep) (γ := List (Str × Value)) (fun p => decide (npAt (absN S.nis) p.1 = some 0)) (fun p => p.1) ND (fun m => [(Cl, NS m)]) (fun x m => m.lookup (Str.ofString "i") = some x.2) (c₀ := []) hA.handled ?_ ?_ ?_ ?_ ?_ ?_ H₈
    · intro e c
      exact .tail _ (.tail _ (.tail _ (.tail _ (.tail _ (.tail _ (.head _))))))
    · show (S.nis.map _).length ≤ _
      rw [List.length_map, sizeLine_eq]; omega
    · rintro E' G m v x s' rfl hx Hs
      exact wpAny_assign_Name (r_sto (V.comp (by rfl)) Hs (.right .head) fun s'' Hs' => ⟨_, putL_eq, Hs'⟩)
    · intro E' G m x s' hm hx Hs
      obtain ⟨n, hn, rfl⟩ := hkv x hx
      have hme := nisL_mem hn
      have hin : ∀ {e : Ent}, e ∈ nisL S.nis → e ∈ G ++ ([(Cl, NS m)] ++ (vv, VVW S.n2i) :: (C, NS [(Str.ofString "self", Value.ref S.self)]) :: (SoE prog w S ep ++ F)) := fun h => List.mem_append_right _ (.tail _ (.tail _ (.tail _ (.tail _ (.tail _ (.tail _ (List.mem_append_left _ h)))))))
      refine r_tests1 (r_cmp1 (Attribute_any_ (r_loc (V.comp (by rfl)) Hs (List.mem_append_right _ (.head _)) hm (r_niGet 1 B Hs (hin hme.1) (hin hme.2.1) rfl rfl fun sa Ha => r_int Ha fun t sb Hb => r_eqI (wpAny_truthy_bool ⟨?_, Hb⟩)))))
      rw [Bool.eq_iff_iff]
      simp [hnp n hn]
    · intro E' G m x s' hm hx hp Hs
      obtain ⟨n, hn, rfl⟩ := hkv x hx
      have hme := nisL_mem hn
      have hin : ∀ {e : Ent}, e ∈ nisL S.nis → e ∈ G ++ ([(Cl, NS m)] ++ (vv, VVW S.n2i) :: (C, NS [(Str.ofString "self", Value.ref S.self)]) :: (SoE prog w S ep ++ F)) := fun h => List.mem_append_right _ (.tail _ (.tail _ (.tail _ (.tail _ (.tail _ (.tail _ (List.mem_append_left _ h)))))))
      exact Attribute_any_ (r_loc (V.comp (by rfl)) Hs (List.mem_append_right _ (.head _)) hm (r_niGet 0 B Hs (hin hme.1) (hin hme.2.1) rfl (hS.1 n hn).1.handed fun sa Ha => ⟨(hS.1 n hn).1, Ha⟩))
    · intro out m s' ho Hs
      have G1 := (Hs.bring 2).tail
      have G2 := G1.bring 1
      refine ⟨m, out, _, trivial, G2, ?_, rfl⟩
      rw [← ready_kvs hS.2]
      exact ho
  · rintro D out L' s₅ ⟨hout, rfl⟩ H₅
    refine r_loc V H₅ (.tail _ (.head _)) rfl (r_soSet B H₅ (.tail _ (.tail _ (.head _))) (.tail (.tail (.tail .head))) (Nat.le_of_ble_eq_true rfl) fun s₆ H₆ => ?_)
    have H₇ : St h₀ os ((D, LI out) :: (C, NS [(Str.ofString "self", Value.ref S.self)]) :: (({ S with ready := .ref D } : So).L prog w ++ F)) s₆ := SoE.di (S := { S with ready := .ref D }) (X := [_, _]) H₆
    refine wpAny_execs_cons (wpAny_Assign_Name (r_callM (r_loc V H₇ (.tail _ (.head _)) rfl (r_meth H₇ B.K (.tail _ (.tail _ (.head _))) (.tail _ (.tail _ (.tail _ (.head _)))) (kf_get137 _ _) (kf_m127 _).1 (kf_m127 _).2.1 rfl (r_cw H₇ (keeps_frag B.K (kf_m127 _).2.2) ⟨_, H₇, ?_⟩)))))
    have hfrs : Frs (env :: fl) ([(D, LI out), (C, NS [(Str.ofString "self", Value.ref S.self)])] ++ F) := fun e he => by
      rcases List.mem_cons.mp he with rfl | he
      · exact ⟨by rw [V.kind]; decide, C, _, hfC, .tail _ (.head _)⟩
      · obtain ⟨h1, C', m', h2, h3⟩ := hfr e he
        exact ⟨h1, C', m', h2, .tail _ (.tail _ h3)⟩
    refine find_cycle_spec (k := k + 2) (S := { S with ready := .ref D }) B hA.deeper hfr2 hfrs hS hcl hz hz2 (St.mid [_, _] (({ S with ready := .ref D } : So).L prog w) H₇) ?_ ?_
    · intro s₈ H₈
      refine r_sto V H₈ (.right (l := So.L prog w _) (.tail .head)) fun s₉ H₉ => ?_
      refine wpAny_execs_cons (wpAny_If (wpAny_isTrue_value (r_loc V H₉ (List.mem_append_right (So.L prog w _) (.tail _ (.head _))) rfl (wpAny_of_eq (a := false) rfl ?_))))
      rw [if_neg (by simp)]
      exact wpAny_execs_nil (wpAny_execs_nil (hN D out s₉ hout (H₉.sub ((List.Sublist.cons_cons _ (List.sublist_cons_self _ _)).append_left _))))
    · intro b xs s₈ hxs H₈
      refine r_sto V H₈ (.tail (.right (l := So.L prog w _) (.tail .head))) fun s₉ H₉ => ?_
      refine wpAny_execs_cons (wpAny_If (wpAny_isTrue_value (r_loc V H₉ (.tail _ (List.mem_append_right (So.L prog w _) (.tail _ (.head _)))) rfl (r_truthyL H₉ (.head _) (by omega) fun sa Ha => ?_))))
      cases xs with
      | nil =>
        rw [if_neg (by simp)]
        exact wpAny_execs_nil (wpAny_execs_nil (hN D out sa hout (Ha.tail.sub ((List.Sublist.cons_cons _ (List.sublist_cons_self _ _)).append_left _))))
      | cons x0 xr =>
        rw [if_pos (by simp)]
        obtain ⟨mN, hni, hns⟩ := ns54 B
        refine wpAny_execs_cons (wpAny_Raise_call_sub (C := 55) (N := 54) PySem.F.excBase_ValueError hA.handled rfl hni (r_glo V Ha (B.glob _ (.ref 55) (by decide)) ⟨rfl, wpL_args rfl
          (JoinedStr_one (wpAny_Constant_str (r_loc V (Ha.toks _) (.tail _ (List.mem_append_right (So.L prog w _) (.tail _ (.head _)))) rfl ⟨rfl, by rw [sizeLine_eq]; simp, Ha.keep _ _ (B.K 55 _ rfl), hns.keeps Ha.keep, fun h' e hx => ?_⟩)))⟩))
        obtain ⟨vs, h1, Hb⟩ := (Ha.toks _).made hx
        have hs1 : 1 < vs.size := (Array.getElem?_eq_some_iff.mp h1).1
        unfold leaving
        refine wpAny_bind (r_noteNew hfr2 (fun g hg => ?_) hfC Hb h1 fun T ts sd h3 Hd => ?_)
        · rcases List.mem_cons.mp hg with rfl | hg
          · exact ⟨by rw [V.kind]; decide, C, _, hfC, .tail _ (List.mem_append_right (So.L prog w _) (.tail _ (.head _)))⟩
          · obtain ⟨q1, C', m', q2, q3⟩ := hfr g hg
            exact ⟨q1, C', m', q2, .tail _ (List.mem_append_right (So.L prog w _) (.tail _ (.tail _ q3)))⟩
        have hs3 : 3 < ts.size := (Array.getElem?_eq_some_iff.mp h3).1
        have hT : (vs.setIfInBounds 1 (Value.ref T))[1]? = some (.ref T) := by simp [hs1]
        refine r_land Hd hT hs3 fun se He => ?_
        refine hE D out e T (vs.setIfInBounds 1 (.ref T)) (ts.setIfInBounds 3 .none) se hout hT (by simp [hs3]) (He.sub ?_)
        exact .cons_cons _ (.cons_cons _ (.cons _ ((List.Sublist.cons_cons _ (List.sublist_cons_self _ _)).append_left _)))
end
end Mine
end
section
open PySem PySem.W PySem.Calls PyProof.Rows
namespace Mine
noncomputable def Nd.data : Nd → PyData
  | .i n => .int n
  | .c x => .str x
noncomputable def Nd.fit : Nd → Bool
  | .i _ => true
  | .c x => (PyData.str x).canLay0
/-- a value reads as data -/
noncomputable def RD (h : Heap) (v : Value) (d : PyData) : Prop := ∃ as, Reads h v d as
theorem ND.rd {h : Heap} {v : Value} {k : Nd} (x : ND v k) : RD h v k.data := by
  rcases Nd.is_shape x with ⟨n, t, rfl, rfl⟩ | ⟨y, t, rfl, rfl⟩
  · exact ⟨[], .int ..⟩
  · exact ⟨[], .str ..⟩
theorem NV.rd {h : Heap} {v : Value} {k : Nat} (x : NV v k) : RD h v (.int k) := by obtain ⟨t, rfl⟩ := x; exact ⟨[], .int ..⟩
theorem IV.rd {h : Heap} {v : Value} {k : Int} (x : IV v k) : RD h v (.int k) := by obtain ⟨t, rfl⟩ := x; exact ⟨[], .int ..⟩
theorem rd_all {h : Heap} {vs : List Value} {ds : List PyData} (x : All2 (RD h) vs ds) : ∃ as, ReadsAll h vs ds as := by
  induction x with
  | nil => exact ⟨[], .nil⟩
  | cons r _ ih =>
    obtain ⟨as, r⟩ := r
    obtain ⟨bs, ih⟩ := ih
    exact ⟨as ++ bs, .cons r ih⟩
theorem All2.map {α β γ : Type} {R : α → β → Prop} {R' : α → γ → Prop} {f : β → γ} (hf : ∀ a b, R a b → R' a (f b)) {l : List α} {m : List β} (x : All2 R l m) : All2 R' l (m.map f) := by
  induction x with
  | nil => exact .nil
  | cons r _ ih => exact .cons (hf _ _ r) ih
theorem nd_eqv (a b : Nd) : PyData.eqv a.data b.data = decide (a = b) := by
  cases a <;> cases b <;> rw [Bool.eq_iff_iff] <;> simp [Nd.data, PyData.eqv]
theorem nd_can {k : Nd} (h : k.fit = true) : k.data.canLay0 = true := by cases k <;> first | rfl | exact h
theorem can_all {ds : List PyData} (h : ∀ d ∈ ds, d.canLay0 = true) : PyData.canLayAll0 ds = true := by
  induction ds with
  | nil => rfl
  | cons x r ih =>
    unfold PyData.canLayAll0
    rw [h x (.head _), ih fun d hd => h d (.tail _ hd)]; rfl
section
variable {prog : Program} {w : World} {A : Around} {E : Value → Shared → Prop} {h₀ : Heap} {os : OsState} {L L' : List Ent} {s : Shared} {env : Env}
theorem St.rdL (H : St h₀ os L s) {l : Addr} {vs : List Value} {ds : List PyData} (hm : (l, LI vs) ∈ L) (x : All2 (RD s.heap) vs ds) : RD s.heap (.ref l) (.list ds) := by
  obtain ⟨o, ho, n, rfl⟩ := H.get hm
  obtain ⟨as, r⟩ := rd_all x
  exact ⟨_, .list ho rfl rfl (by simpa using r)⟩
theorem St.rdT (H : St h₀ os L s) {l : Addr} {vs : List Value} {ds : List PyData} (hm : (l, TU vs) ∈ L) (x : All2 (RD s.heap) vs ds) : RD s.heap (.ref l) (.tuple ds) := by
  obtain ⟨o, ho, n, rfl⟩ := H.get hm
  obtain ⟨as, r⟩ := rd_all x
  exact ⟨_, .tuple ho rfl rfl (by simpa using r)⟩
theorem r_notInN {l : Addr} {vs : List Value} {ks : List Nd} {v : Value} {k : Nd} {Q : Value → Shared → Prop} (hu : A.units < 900) (H : St h₀ os L s) (hm : (l, LI vs) ∈ L) (hvs : All2 ND vs ks) (hv : ND v k) (hf : ∀ x ∈ ks, x.fit = true) (hk : k.fit = true)
    (h : Q (.bool (!decide (k ∈ ks))) s) : wpAny (model prog w) A (compareOp .NotIn v (.ref l)) Q E s := by
  obtain ⟨as, r1⟩ := H.rdL hm (hvs.map (f := Nd.data) fun _ _ x => x.rd)
  obtain ⟨bs, r2⟩ := hv.rd (h := s.heap)
  have e : ((ks.map Nd.data).any fun y => PyData.eqv y k.data) = decide (k ∈ ks) := by
    rw [Bool.eq_iff_iff, List.any_map]
    simp [Function.comp_def, nd_eqv]
  refine PySem.SeqAt.notIn_list_reads r1 r2 (can_all fun d hd => ?_) (nd_can hk) ?_ (by rw [e]; exact h)
  · obtain ⟨x, hx, rfl⟩ := List.mem_map.mp hd
    exact nd_can (hf x hx)
  · have : (Nd.data k).depth = 0 := by cases k <;> rfl
    rw [this, Nat.min_zero]
    show A.units + 1 + 0 < cLine
    unfold cLine; omega
/-- ints in a list of ints -/
noncomputable def natD (x : Nat) : PyData := .int (x : Int)
theorem nat_any (ks : List Nat) (k : Nat) : ((ks.map natD).any fun y => PyData.eqv y (.int k)) = decide (k ∈ ks) := by
  rw [Bool.eq_iff_iff, List.any_map]
  simp only [List.any_eq_true, Function.comp_def, PyData.eqv, natD, beq_iff_eq, decide_eq_true_eq]
  constructor
  · rintro ⟨x, hx, h⟩; have := Int.ofNat.inj h; exact this ▸ hx
  · intro hk; exact ⟨k, hk, rfl⟩
theorem nat_can (ks : List Nat) : PyData.canLayAll0 (ks.map natD) = true := can_all fun d hd => by obtain ⟨x, _, rfl⟩ := List.mem_map.mp hd; rfl
theorem r_notInI {l : Addr} {vs : List Value} {ks : List Nat} {v : Value} {k : Nat} {Q : Value → Shared → Prop} (hu : A.units < 900) (H : St h₀ os L s) (hm : (l, LI vs) ∈ L) (hvs : All2 NV vs ks) (hv : NV v k)
    (h : Q (.bool (!decide (k ∈ ks))) s) : wpAny (model prog w) A (compareOp .NotIn v (.ref l)) Q E s := by
  obtain ⟨as, r1⟩ := H.rdL hm (hvs.map (f := natD) fun _ _ x => NV.rd x)
  obtain ⟨bs, r2⟩ := hv.rd (h := s.heap)
  refine PySem.SeqAt.notIn_list_reads r1 r2 (nat_can ks) rfl ?_ (by rw [nat_any]; exact h)
  show A.units + 1 + min _ 0 < cLine
  rw [Nat.min_zero]; unfold cLine; omega
theorem r_inI {l : Addr} {vs : List Value} {ks : List Nat} {v : Value} {k : Nat} {Q : Value → Shared → Prop} (hu : A.units < 900) (H : St h₀ os L s) (hm : (l, LI vs) ∈ L) (hvs : All2 NV vs ks) (hv : NV v k)
    (h : Q (.bool (decide (k ∈ ks))) s) : wpAny (model prog w) A (compareOp .In v (.ref l)) Q E s := by
  obtain ⟨as, r1⟩ := H.rdL hm (hvs.map (f := natD) fun _ _ x => NV.rd x)
  obtain ⟨bs, r2⟩ := hv.rd (h := s.heap)
  refine PySem.SeqAt.in_list_reads r1 r2 (nat_can ks) rfl ?_ (by rw [nat_any]; exact h)
  show A.units + 1 + min _ 0 < cLine
  rw [Nat.min_zero]; unfold cLine; omega
/-- a pair's tuple -/
noncomputable def pairD (p : Nat × Nat) : PyData := .tuple [.int (p.1 : Int), .int (p.2 : Int)]
theorem pair_any (ps : List (Nat × Nat)) (p : Nat × Nat) : ((ps.map pairD).any fun y => PyData.eqv y (pairD p)) = decide (p ∈ ps) := by
  rw [Bool.eq_iff_iff, List.any_map]
  simp only [List.any_eq_true, Function.comp_def, pairD, PyData.eqv, PyData.eqvAll, Bool.and_true, Bool.and_eq_true, beq_iff_eq, decide_eq_true_eq]
  constructor
  · rintro ⟨x, hx, h1, h2⟩
    have : x = p := Prod.ext (Int.ofNat.inj h1) (Int.ofNat.inj h2)
    exact this ▸ hx
  · intro hp; exact ⟨p, hp, rfl, rfl⟩
theorem r_inP {l t : Addr} {vs : List Value} {ps : List (Nat × Nat)} {p : Nat × Nat} {Q : Value → Shared → Prop} (hu : A.units < 900) (H : St h₀ os L s) (hm : (l, LI vs) ∈ L) (hvs : All2 (fun v p => RD s.heap v (pairD p)) vs ps) (hv : RD s.heap (.ref t) (pairD p))
    (h : Q (.bool (decide (p ∈ ps))) s) : wpAny (model prog w) A (compareOp .In (.ref t) (.ref l)) Q E s := by
  obtain ⟨as, r1⟩ := H.rdL hm (hvs.map (f := pairD) fun _ _ x => x)
  obtain ⟨bs, r2⟩ := hv
  refine PySem.SeqAt.in_list_reads r1 r2 (can_all fun d hd => by obtain ⟨x, _, rfl⟩ := List.mem_map.mp hd; rfl) rfl ?_ (by rw [pair_any]; exact h)
  have : (pairD p).depth = 1 := rfl
  rw [this]
  have : min (PyData.depthAll (ps.map pairD)) 1 ≤ 1 := Nat.min_le_right _ _
  show A.units + 1 + _ < cLine
  unfold cLine; omega
end
section
variable {prog : Program} {w : World} {A : Around} {E : Value → Shared → Prop} {h₀ : Heap} {os : OsState} {L L' L2 F : List Ent} {s : Shared} {env : Env}
variable {Co : Addr} {onames : List (Str × NameKind)} {ocells : List (Str × Addr)}
/-- a comprehension over one name, without cells of its own -/
theorem comp0 {α β : Type} {R : Value → α → Prop} {C : List Ent → Prop} {it : Value} {J : List α → List Ent} (N : Nexts prog w R C it J) {elt iter : Expr} {x : Str} {px : Pos} {ifs : List Expr} {scope : Scope} {pos : Pos} {cl : List (Str × Addr)} {xs : List α}
    (V : EV env Co onames ocells) (p : α → Bool) (g : α → β) (Ro : Value → β → Prop) (hh : A.handled = none) (hC : ∀ e1 e2, C (e1 :: e2 :: L)) (hz : xs.length ≤ sizeLine) (hsub : L2.Sublist L)
    (hte : ∀ cenv Cl E G m v y s, EV cenv Cl (relNames scope.names onames) cl → m.lookup x = some v → R v y → y ∈ xs → St h₀ os (G ++ (Cl, NS m) :: L) s → wpAny (model prog w) A (testsOf ifs cenv) (fun ok s' => ok = p y ∧ St h₀ os (G ++ (Cl, NS m) :: L) s') E s)
    (hel : ∀ cenv Cl E G m v y s, EV cenv Cl (relNames scope.names onames) cl → m.lookup x = some v → R v y → y ∈ xs → p y = true → St h₀ os (G ++ (Cl, NS m) :: L) s → wpAny (model prog w) A (eval elt cenv) (fun z s' => Ro z (g y) ∧ St h₀ os (G ++ (Cl, NS m) :: L) s') E s)
    (H : St h₀ os (J xs ++ L) s) (hcn : cellNames scope.names = [] := by rfl) (hk : scope.kind = .function := by rfl) (hx : (relNames scope.names onames).lookup x = some .local := by rfl) :
    CompAsk prog w A h₀ os env cl elt (.Name x px) iter ifs scope pos (fun _ out L' => All2 Ro out ((xs.filter p).map g) ∧ L' = L2) it s := by
  refine ⟨α, R, C, J, xs, L, N, H, fun D Cl as s₄ hl H₄ => ?_⟩
  rw [hcn] at hl
  obtain rfl : as = [] := List.length_eq_zero_iff.mp hl
  have Vc : EV (cEnv scope Cl [] cl env) Cl (relNames scope.names onames) cl := by
    have := V.comp (Cl := Cl) (cl := cl) (as := []) hk
    rw [hcn] at this
    exact this
  refine compPure N (γ := List (Str × Value)) p g Ro (fun m => [(Cl, NS m)]) (fun y m => ∃ v, m.lookup x = some v ∧ R v y) (c₀ := []) hh (fun e c => hC e _) hz ?_ ?_ ?_ ?_ H₄
  · intro E' G m v y s' hv hy Hs
    exact wpAny_assign_Name (r_sto Vc Hs (.right .head) (fun s'' Hs' => ⟨_, ⟨v, putL_eq, hv⟩, Hs'⟩) hx)
  · rintro E' G m y s' ⟨v, hm, hv⟩ hy Hs
    exact hte _ Cl E' G m v y s' Vc hm hv hy Hs
  · rintro E' G m y s' ⟨v, hm, hv⟩ hy hp Hs
    exact hel _ Cl E' G m v y s' Vc hm hv hy hp Hs
  · intro out m s' ho Hs
    exact ⟨m, out, L2, trivial, ((Hs.bring 1).sub (.cons_cons _ (.cons_cons _ hsub))), ho, rfl⟩
/-- a comprehension over one name that is a cell -/
theorem compC {α β : Type} {R : Value → α → Prop} {C : List Ent → Prop} {it : Value} {J : List α → List Ent} (N : Nexts prog w R C it J) {elt iter : Expr} {x : Str} {px : Pos} {ifs : List Expr} {scope : Scope} {pos : Pos} {cl : List (Str × Addr)} {xs : List α}
    (V : EV env Co onames ocells) (p : α → Bool) (g : α → β) (Ro : Value → β → Prop) (hh : A.handled = none) (hC : ∀ e1 e2 e3, C (e1 :: e2 :: e3 :: L)) (hz : xs.length ≤ sizeLine) (hsub : L2.Sublist L)
    (hte : ∀ cenv Cl cb E G m v y s, EV cenv Cl (relNames scope.names onames) ((x, cb) :: cl) → R v y → y ∈ xs → St h₀ os (G ++ (cb, CE (some v)) :: (Cl, NS m) :: L) s → wpAny (model prog w) A (testsOf ifs cenv) (fun ok s' => ok = p y ∧ St h₀ os (G ++ (cb, CE (some v)) :: (Cl, NS m) :: L) s') E s)
    (hel : ∀ cenv Cl cb E G m v y s, EV cenv Cl (relNames scope.names onames) ((x, cb) :: cl) → R v y → y ∈ xs → p y = true → St h₀ os (G ++ (cb, CE (some v)) :: (Cl, NS m) :: L) s → wpAny (model prog w) A (eval elt cenv) (fun z s' => Ro z (g y) ∧ St h₀ os (G ++ (cb, CE (some v)) :: (Cl, NS m) :: L) s') E s)
    (H : St h₀ os (J xs ++ L) s) (hcn : cellNames scope.names = [x] := by rfl) (hk : scope.kind = .function := by rfl) (hx : (relNames scope.names onames).lookup x = some .cell := by rfl) :
    CompAsk prog w A h₀ os env cl elt (.Name x px) iter ifs scope pos (fun _ out L' => All2 Ro out ((xs.filter p).map g) ∧ L' = L2) it s := by
  refine ⟨α, R, C, J, xs, L, N, H, fun D Cl as s₄ hl H₄ => ?_⟩
  rw [hcn] at hl
  obtain ⟨cb, rfl⟩ : ∃ cb, as = [cb] := by
    match as, hl with
    | [cb], _ => exact ⟨cb, rfl⟩
  have Vc : EV (cEnv scope Cl [cb] cl env) Cl (relNames scope.names onames) ((x, cb) :: cl) := by
    have := V.comp (Cl := Cl) (cl := cl) (as := [cb]) hk
    rw [hcn] at this
    exact this
  refine compPure N (γ := Option Value × List (Str × Value)) p g Ro (fun c => [(cb, CE c.1), (Cl, NS c.2)]) (fun y c => ∃ v, c.1 = some v ∧ R v y) (c₀ := (none, [])) hh (fun e c => hC e _ _) hz ?_ ?_ ?_ ?_ H₄
  · intro E' G m v y s' hv hy Hs
    exact wpAny_assign_Name (r_stc Vc Hs (by simp) (.right .head) (fun s'' Hs' => ⟨(some v, m.2), ⟨v, rfl, hv⟩, Hs'⟩) hx)
  · rintro E' G ⟨_, m⟩ y s' ⟨v, rfl, hv⟩ hy Hs
    exact hte _ Cl cb E' G m v y s' Vc hv hy Hs
  · rintro E' G ⟨_, m⟩ y s' ⟨v, rfl, hv⟩ hy hp Hs
    exact hel _ Cl cb E' G m v y s' Vc hv hy hp Hs
  · intro out ⟨_, m⟩ s' ho Hs
    exact ⟨m, out, L2, trivial, ((Hs.bring 2).sub (.cons_cons _ (.cons_cons _ (.cons _ hsub)))), ho, rfl⟩
/-- a comprehension with one cell of its own: the loop in a frame of which only the facts are known -/
theorem compAsk1 {α : Type} {R : Value → α → Prop} {C : List Ent → Prop} {it : Value} {J : List α → List Ent} (N : Nexts prog w R C it J) {elt iter : Expr} {x : Str} {px : Pos} {ifs : List Expr} {scope : Scope} {pos : Pos} {cl : List (Str × Addr)} {xs : List α} {Z : Addr → List Value → List Ent → Prop}
    (V : EV env Co onames ocells) (H : St h₀ os (J xs ++ L) s)
    (h : ∀ cenv D Cl cb s₄, EV cenv Cl (relNames scope.names onames) ((x, cb) :: cl) → St h₀ os (J xs ++ (D, LI []) :: (cb, CE none) :: (Cl, NS []) :: L) s₄ →
      codeAny (model prog w) A (.compLoop (.ListComp elt [⟨.Name x px, iter, ifs, 0⟩] scope pos) 0 it (.ref D) cenv) (fun r s' => ∃ m out L', (match r with | .ok _ => True | .error _ => False) ∧ St h₀ os ((Cl, NS m) :: (D, LI out) :: L') s' ∧ Z D out L') s₄)
    (hcn : cellNames scope.names = [x] := by rfl) (hk : scope.kind = .function := by rfl) :
    CompAsk prog w A h₀ os env cl elt (.Name x px) iter ifs scope pos Z it s := by
  refine ⟨α, R, C, J, xs, L, N, H, fun D Cl as s₄ hl H₄ => ?_⟩
  rw [hcn] at hl
  obtain ⟨cb, rfl⟩ : ∃ cb, as = [cb] := by
    match as, hl with
    | [cb], _ => exact ⟨cb, rfl⟩
  have Vc : EV (cEnv scope Cl [cb] cl env) Cl (relNames scope.names onames) ((x, cb) :: cl) := by
    have := V.comp (Cl := Cl) (cl := cl) (as := [cb]) hk
    rw [hcn] at this
    exact this
  exact h _ D Cl cb s₄ Vc H₄
end
end Mine
end
section
open PySem PySem.W PySem.Calls PyProof.Rows
namespace Mine
noncomputable def boolV (b : Bool) : Value := .bool b
noncomputable def rowsL : List Addr → List (List Bool) → List Ent
  | a :: as, r :: rs => (a, LQ (r.map boolV)) :: rowsL as rs
  | _, _ => []
theorem rowsL_mem : ∀ {as : List Addr} {M : List (List Bool)} {i : Nat} {a : Addr} {r : List Bool}, as[i]? = some a → M[i]? = some r → (a, LQ (r.map boolV)) ∈ rowsL as M
  | [], _, _, _, _, h, _ => by simp at h
  | _ :: _, [], _, _, _, _, h => by simp at h
  | x :: as, y :: M, 0, a, r, h1, h2 => by simp at h1 h2; subst h1 h2; exact .head _
  | x :: as, y :: M, i + 1, a, r, h1, h2 => by simp at h1 h2; exact .tail _ (rowsL_mem h1 h2)
theorem rowsL_put : ∀ {as : List Addr} {M : List (List Bool)} {i : Nat} {a : Addr} {r r' : List Bool}, as[i]? = some a → M[i]? = some r → Put a (LQ (r.map boolV)) (LQ (r'.map boolV)) (rowsL as M) (rowsL as (M.set i r'))
  | [], _, _, _, _, _, h, _ => by simp at h
  | _ :: _, [], _, _, _, _, _, h => by simp at h
  | x :: as, y :: M, 0, a, r, r', h1, h2 => by simp at h1 h2; subst h1 h2; exact .head
  | x :: as, y :: M, i + 1, a, r, r', h1, h2 => by simp at h1 h2; exact .tail (rowsL_put h1 h2)
theorem rowsL_snoc : ∀ {as : List Addr} {M : List (List Bool)} (a : Addr) (r : List Bool), as.length = M.length → rowsL (as ++ [a]) (M ++ [r]) = rowsL as M ++ [(a, LQ (r.map boolV))]
  | [], [], _, _, _ => rfl
  | [], _ :: _, _, _, h => by simp at h
  | _ :: _, [], _, _, h => by simp at h
  | x :: as, y :: M, a, r, h => by
    show (x, _) :: rowsL (as ++ [a]) (M ++ [r]) = _
    rw [rowsL_snoc a r (by simpa using h)]; rfl

/-! the closure, as the program computes it -/
noncomputable def getM (M : List (List Bool)) (a b : Nat) : Bool := ((M[a]?).bind (·[b]?)).getD false
noncomputable def setM (M : List (List Bool)) (a b : Nat) : List (List Bool) := M.set a (((M[a]?).getD []).set b true)
noncomputable def upd (m a : Nat) (M : List (List Bool)) (b : Nat) : List (List Bool) := if getM M a m && getM M m b then setM M a b else M
noncomputable def row1 (n m : Nat) (M : List (List Bool)) (a : Nat) : List (List Bool) := (List.range n).foldl (upd m a) M
noncomputable def pass (n : Nat) (M : List (List Bool)) (m : Nat) : List (List Bool) := (List.range n).foldl (row1 n m) M
noncomputable def init0 (n : Nat) (E : List (Nat × Nat)) : List (List Bool) := (List.range n).map fun a => (List.range n).map fun b => decide ((a, b) ∈ E)
noncomputable def warsh (n : Nat) (E : List (Nat × Nat)) : List (List Bool) := (List.range n).foldl (pass n) (init0 n E)
/-- n rows of n -/
noncomputable def sq (n : Nat) (M : List (List Bool)) : Prop := M.length = n ∧ ∀ r ∈ M, r.length = n
theorem sq_setM {n : Nat} {M : List (List Bool)} (h : sq n M) {a : Nat} (ha : a < n) (b : Nat) : sq n (setM M a b) := by
  refine ⟨by simp [setM, h.1], fun r hr => ?_⟩
  rcases List.mem_or_eq_of_mem_set hr with hr | rfl
  · exact h.2 r hr
  · have : a < M.length := by rw [h.1]; exact ha
    rw [List.getElem?_eq_getElem this]
    simp [h.2 _ (List.getElem_mem this)]
theorem sq_upd {n : Nat} {M : List (List Bool)} (h : sq n M) {a : Nat} (ha : a < n) (m b : Nat) : sq n (upd m a M b) := by
  unfold upd; split
  · exact sq_setM h ha b
  · exact h
theorem sq_get {n : Nat} {M : List (List Bool)} (h : sq n M) {a b : Nat} (ha : a < n) (hb : b < n) : ∃ r, M[a]? = some r ∧ r[b]? = some (getM M a b) ∧ r.length = n := by
  have h1 : a < M.length := by rw [h.1]; exact ha
  have h2 := h.2 _ (List.getElem_mem h1)
  refine ⟨M[a], List.getElem?_eq_getElem h1, ?_, h2⟩
  unfold getM
  rw [List.getElem?_eq_getElem h1]
  simp [List.getElem?_eq_getElem (show b < M[a].length by omega)]
theorem sq_init (n : Nat) (E : List (Nat × Nat)) : sq n (init0 n E) := by
  refine ⟨by simp [init0], fun r hr => ?_⟩
  obtain ⟨a, _, rfl⟩ := List.mem_map.mp hr
  simp
end Mine
end
section
open PySem PySem.W PySem.Calls PyProof.Rows
namespace Mine
/-- the edges' list: pairs of ints in tuples of the ledger -/
noncomputable def EDG (F : List Ent) (evs : List Value) (es : List (Nat × Nat)) : Prop := All2 (fun v (p : Nat × Nat) => ∃ t x y, v = .ref t ∧ (t, TU [x, y]) ∈ F ∧ NV x p.1 ∧ NV y p.2) evs es
section
variable {prog : Program} {w : World} {A : Around} {E : Value → Shared → Prop} {h₀ : Heap} {os : OsState} {L L' F : List Ent} {s : Shared}
theorem swaps_ev {env : Env} {C : Addr} {names : List (Str × NameKind)} {cells : List (Str × Addr)} (V : EV env C names cells) {elt : Expr} {gens : List Comprehension} {scope : Scope} {pos py : Pos} {y : Str} {line : Nat} (b : Bool)
    (h : (names.lookup y == some .local && py.line == pos.line && !(scope.names.any fun x => x.1 == y && (x.2 == .local || x.2 == .cell))) = b) :
    swapsWith (.ListComp elt gens scope pos) (some (.Name y py)) line env = pure b := by
  have hb : env.blockKind = .function := by unfold Env.blockKind; rw [V.kind]; rfl
  show (pure _ : Sem Bool) = pure b
  rw [hb, V.kindOf, ← h]
  rfl
theorem All2.imp {α β : Type} {R R' : α → β → Prop} (hf : ∀ a b, R a b → R' a b) {l : List α} {m : List β} (x : All2 R l m) : All2 R' l m := by
  induction x with
  | nil => exact .nil
  | cons r _ ih => exact .cons (hf _ _ r) ih
theorem EDG.rd (H : St h₀ os L s) (hF : ∀ e ∈ F, e ∈ L) {evs : List Value} {es : List (Nat × Nat)} (h : EDG F evs es) : All2 (fun v p => RD s.heap v (pairD p)) evs es :=
  All2.imp (fun v p ⟨t, x, y, e, hm, h1, h2⟩ => by
    subst e
    exact H.rdT (hF _ hm) (.cons h1.rd (.cons h2.rd .nil))) h

theorem r_Tuple {env : Env} {es : List Expr} {k : Nat} {pos : Pos} {Q : Value → Shared → Prop} (hs : (es.all fun e => !isStarred e) = true)
    (h : wpL (model prog w) A env E es (fun vs s₁ => ∃ L, St h₀ os L s₁ ∧ vs.length ≤ sizeLine ∧ ∀ a s', St h₀ os ((a, TU vs) :: L) s' → Q (.ref a) s') s) : wpAny (model prog w) A (eval (.Tuple es k pos) env) Q E s := by
  refine wpAny_Tuple (wpL_spliced hs ?_)
  have mono : ∀ (es : List Expr) (Q Q' : List Value → Shared → Prop) (s : Shared), (∀ vs s, Q vs s → Q' vs s) → wpL (model prog w) A env E es Q s → wpL (model prog w) A env E es Q' s := by
    intro es
    induction es with
    | nil => intro Q Q' s hq h; exact hq _ _ h
    | cons e r ih => intro Q Q' s hq h; exact wpAny_mono h (fun v s₁ h₁ => ih _ _ _ (fun vs s => hq _ _) h₁) fun _ _ x => x
  refine mono _ _ _ _ (fun vs s₁ q => ?_) h
  obtain ⟨L, H, hz, q⟩ := q
  exact ⟨hz, q _ _ (H.push rfl ⟨0, rfl⟩)⟩
theorem all2_bool {vs : List Value} {bs : List Bool} (h : All2 (fun v b => v = boolV b) vs bs) : vs = bs.map boolV := by
  induction h with
  | nil => rfl
  | cons r _ ih => rw [r, ih]; rfl
noncomputable def rowE (n : Nat) (es : List (Nat × Nat)) (a : Nat) : List Bool := (List.range n).map fun b => decide ((a, b) ∈ es)
structure FC where
  av : Option Value
  m : List (Str × Value)
  as : List Addr
theorem far_spec {k : Nat} (B : BF w h₀) (hA : Calm A (k + 3)) {n : Nat} (hn : n < 1000) {t : Tok} {ea : Addr} {evs : List Value} {es : List (Nat × Nat)} (hea : (ea, LI evs) ∈ F) (hes : EDG F evs es) (H : St h₀ os F s) {Q : Value → Shared → Prop}
    (h : ∀ fa as s', as.length = n → St h₀ os ((fa, LI (as.map Value.ref)) :: (rowsL as (warsh n es) ++ F)) s' → Q (.ref fa) s') :
    wpAny (model prog w) A (call (.ref 153) [.int n t, .ref ea]) Q E s := by
  refine wpAny_call (r_callFn H hA.room B.nolim (B.K 153 _ rfl) rfl (B.code (by kernel_rfl)) rfl rfl rfl rfl rfl rfl ?_)
  refine wpAny_pure ⟨_, H, fun env C as s₂ _ V hl H₂ => ?_⟩
  have hn1 := Nat.le_of_lt hn
  have hlt1 : ∀ {x : Nat}, x < n → x < 2 ^ 40 := fun h => b40 (Nat.le_of_lt (Nat.lt_trans h hn))
  obtain ⟨c1, c2, rfl⟩ : ∃ c1 c2, as = [c1, c2] := by
    match as, hl with
    | [c1, c2], _ => exact ⟨c1, c2, rfl⟩
  refine r_binds_cons (r_stc V H₂ rfl (.tail .head) fun s₃ H₃ => r_binds_cons (r_stc V H₃ rfl .head fun s₄ H₄ => r_binds_nil ⟨_, H₄, ?_⟩))
  refine gen (fun Q' => (∀ v s', Q v s' → Q' (.ret v) s') ∧ ∀ s', Q .none s' → Q' .next s') ⟨fun _ _ h => h, fun _ h => h⟩ fun Q' E' hQ' => ?_
  refine wpAny_execs_cons (r_AssignComp (h₀ := h₀) (os := os) (Z := fun D out L' => ∃ as : List Addr, as.length = n ∧ out = as.map Value.ref ∧ L' = (c2, CE (some (.ref ea))) :: (c1, CE (some (.int n t))) :: (C, NS []) :: (rowsL as (init0 n es) ++ F)) (swaps_ev V true (by rfl)) ?_ ?_ V (closureFor_ev V rfl))
  · refine r_callN (r_glo V H₄ (B.glob _ (.type "range") (by decide)) (r_cw H₄ (keeps_type _) (r_cel V H₄ rfl (.tail _ (.head _)) ⟨_, H₄, r_range1 H₄ fun ra s₅ H₅ => r_iter_rng1 H₅ (.head _) (b40 hn1) fun ia s₆ H₆ => ?_⟩)))
    rw [upBy_range] at H₆
    refine compAsk1 (nexts_rng ia 1) V H₆ fun cenv D Cl ca s₇ Vc H₇ => ?_
    refine r_compLoop1 (nexts_rng ia 1) (σ := FC) (fun c => (ca, CE c.av) :: (Cl, NS c.m) :: (ra, RA 0 n 1) :: (c2, CE (some (.ref ea))) :: (c1, CE (some (.int n t))) :: (C, NS []) :: (rowsL c.as ((List.range c.as.length).map (rowE n es)) ++ F))
      (fun rem out c => out = c.as.map Value.ref ∧ rem = (List.range n).drop c.as.length ∧ c.as.length ≤ n) hA.handled (fun _ _ _ _ => trivial) ?_ ?_ ?_ (c := ⟨none, [], []⟩) ⟨rfl, by simp, by simp⟩ H₇
    · rintro rem out c ⟨rfl, rfl, h3⟩
      rw [sizeLine_eq]; simp; omega
    · rintro Q' E' v x rem out ⟨av, m, as⟩ s₈ hv ⟨rfl, hrem, hle⟩ H₈ hQ
      dsimp only at hrem hle H₈
      obtain ⟨hx, hrem'⟩ := drop_cons hrem.symm
      have hxl : x = as.length := by
        have := List.getElem?_eq_some_iff.mp hx
        obtain ⟨h1, h2⟩ := this
        simpa using h2.symm
      have hxn : x < n := by have := (List.getElem?_eq_some_iff.mp hx).1; rw [List.length_range] at this; omega
      refine wpAny_assign_Name (r_stc Vc H₈ (by rfl) (.right (.tail .head)) fun s₉ H₉ => ?_)
      obtain ⟨L9, hL9⟩ : ∃ L9, rngJ ia 1 rem ++ (D, LI (as.map Value.ref)) :: (ca, CE (some v)) :: (Cl, NS m) :: (ra, RA 0 n 1) :: (c2, CE (some (.ref ea))) :: (c1, CE (some (.int n t))) :: (C, NS []) :: (rowsL as ((List.range as.length).map (rowE n es)) ++ F) = L9 := ⟨_, rfl⟩
      replace H₉ : St h₀ os L9 s₉ := by rw [← hL9]; exact H₉
      refine r_ListComp (h₀ := h₀) (os := os) (Z := fun D2 out2 L2 => All2 (fun v b => v = boolV b) out2 (((List.range n).filter fun _ => true).map fun b => decide ((x, b) ∈ es)) ∧ L2 = L9) ?_ ?_ (closureFor_ev Vc (by rfl))
      · have hm1 : (c1, CE (some (.int n t))) ∈ L9 := by rw [← hL9]; exact .tail _ (.tail _ (.tail _ (.tail _ (.tail _ (.tail _ (.head _))))))
        have hm2 : (c2, CE (some (.ref ea))) ∈ L9 := by rw [← hL9]; exact .tail _ (.tail _ (.tail _ (.tail _ (.tail _ (.head _)))))
        have hma : (ca, CE (some v)) ∈ L9 := by rw [← hL9]; exact .tail _ (.tail _ (.head _))
        have hmF : ∀ e ∈ F, e ∈ L9 := fun e he => by rw [← hL9]; exact .tail _ (.tail _ (.tail _ (.tail _ (.tail _ (.tail _ (.tail _ (.tail _ (List.mem_append_right _ he))))))))
        refine r_callN (r_glo Vc H₉ (B.glob _ (.type "range") (by decide)) (r_cw H₉ (keeps_type _) (r_cel (c := c1) Vc H₉ (by rfl) hm1 ⟨_, H₉, r_range1 H₉ fun rb sa Ha => r_iter_rng1 (n := n) Ha (.head _) (b40 hn1) fun ib sb Hb => ?_⟩)))
        rw [upBy_range] at Hb
        refine comp0 (nexts_rng ib 1) Vc (fun _ => true) (fun b => decide ((x, b) ∈ es)) (fun v b => v = boolV b) hA.handled (fun _ _ => trivial) (by rw [List.length_range]; exact bsz hn1) (List.sublist_cons_self ..) ?_ ?_ Hb
        · intro cenv2 Cl2 E2 G m' vb b s' V2 hlb hvb hb Hs
          exact r_tests0 ⟨rfl, Hs⟩
        · intro cenv2 Cl2 E2 G m' vb b s' V2 hlb hvb hb _ Hs
          have hin : ∀ e ∈ L9, e ∈ G ++ (Cl2, NS m') :: (rb, RA 0 n 1) :: L9 := fun e he => List.mem_append_right _ (.tail _ (.tail _ he))
          refine wpAny_Compare1 (r_Tuple rfl (r_cel (c := ca) V2 Hs (by rfl) (hin _ hma) (r_loc V2 Hs (List.mem_append_right _ (.head _)) hlb ⟨_, Hs, by rw [sizeLine_eq]; exact Nat.le_of_ble_eq_true rfl, fun tp sd Hd => ?_⟩)))
          exact r_cel (c := c2) V2 Hd (by rfl) (.tail _ (hin _ hm2)) (r_inP (hA.deeper (env := env)).u Hd (.tail _ (hin _ (hmF _ hea))) (hes.rd Hd fun e he => .tail _ (hin _ (hmF _ he))) (p := (x, b)) (Hd.rdT (.head _) (.cons hv.rd (.cons hvb.rd .nil))) ⟨rfl, Hd.tail⟩)
      · rintro D2 out2 L' s' ⟨ho, rfl⟩ Hs
        subst hL9
        rw [List.filter_eq_self.mpr (fun _ _ => rfl)] at ho
        replace ho : All2 (fun v b => v = boolV b) out2 (rowE n es x) := ho
        obtain rfl := all2_bool ho
        refine hQ _ ⟨some v, m, as ++ [D2]⟩ _ ⟨by simp, by simpa using hrem'.symm, by simp; omega⟩ ?_
        have e3 : (List.range (as ++ [D2]).length).map (rowE n es) = (List.range as.length).map (rowE n es) ++ [rowE n es x] := by
          rw [List.length_append, List.length_singleton, List.range_succ, List.map_append, hxl]; rfl
        dsimp only
        rw [e3, rowsL_snoc _ _ (by simp)]
        have Ht := Hs.imp (P' := LQ ((rowE n es x).map boolV)) .head fun _ h => h.q
        refine Ht.perm ?_
        have := (List.perm_middle (a := (D2, LQ ((rowE n es x).map boolV))) (l₁ := rngJ ia 1 rem ++ (D, LI (as.map Value.ref)) :: (ca, CE (some v)) :: (Cl, NS m) :: (ra, RA 0 n 1) :: (c2, CE (some (.ref ea))) :: (c1, CE (some (.int n t))) :: (C, NS []) :: rowsL as ((List.range as.length).map (rowE n es))) (l₂ := F)).symm
        simpa using this
    · rintro out ⟨av, m, as⟩ s₈ ⟨rfl, hrem, hle⟩ H₈
      dsimp only at hrem hle H₈
      have hl' : as.length = n := by
        have := congrArg List.length hrem
        simp at this
        omega
      have G1 := (H₈.bring 1).tail
      have G2 := (G1.bring 2).tail
      have G3 := G2.bring 1
      refine ⟨m, _, _, trivial, G3, as, hl', rfl, ?_⟩
      rw [hl']; rfl
  · rintro D out L' ⟨as, hlen, rfl, rfl⟩
    refine ⟨_, _, .tail (.tail .head), fun s₅ H₅ => ?_⟩
    refine wpAny_execs_cons (wpAny_For (r_callN (r_glo V H₅ (B.glob _ (.type "range") (by decide)) (r_cw H₅ (keeps_type _) (r_cel (c := c1) V H₅ rfl (.tail _ (.tail _ (.head _))) ⟨_, H₅, r_range1 H₅ fun ra s₆ H₆ => r_iter_rng1 (n := n) H₆ (.head _) (b40 hn1) fun ia s₇ H₇ => ?_⟩)))))
    rw [upBy_range] at H₇
    have H₈ := (H₇.bring 1).tail
    refine r_forLoop1 (nexts_rng ia 1) (σ := List (Str × Value) × List (List Bool)) (fun c => (D, LI (as.map Value.ref)) :: (c2, CE (some (.ref ea))) :: (c1, CE (some (.int n t))) :: (C, NS c.1) :: (rowsL as c.2 ++ F))
      (fun rem c => c.1.lookup (Str.ofString "far") = some (.ref D) ∧ sq n c.2 ∧ ∃ done, List.range n = done ++ rem ∧ c.2 = done.foldl (pass n) (init0 n es)) hA.handled (fun _ _ _ => trivial) ?_ ?_ (c := (_, init0 n es)) ⟨rfl, sq_init n es, [], rfl, rfl⟩ H₈
    · rintro Q1 E1 mv mid rem ⟨m, M⟩ sa hmv ⟨hfar, hsq, done, hdone, hM⟩ Ha hQ1
      dsimp only at hfar hsq hM Ha
      have inR : ∀ {l r : List Nat} {x : Nat}, List.range n = l ++ x :: r → x < n := fun {l r x} e => List.mem_range.mp (by rw [e]; simp)
      have hmid : mid < n := inR hdone
      refine wpAny_assign_Name (r_sto V Ha (.right (.tail (.tail (.tail .head)))) fun sb Hb => ?_)
      refine wpAny_execs_cons (wpAny_For (r_callN (r_glo V Hb (B.glob _ (.type "range") (by decide)) (r_cw Hb (keeps_type _) (r_cel (c := c1) V Hb rfl (List.mem_append_right _ (.tail _ (.tail _ (.head _)))) ⟨_, Hb, r_range1 Hb fun rb sc Hc => r_iter_rng1 (n := n) Hc (.head _) (b40 hn1) fun ib sd Hd => ?_⟩)))))
      rw [upBy_range] at Hd
      have He := (Hd.bring 1).tail
      refine r_forLoop1 (nexts_rng ib 1) (σ := List (Str × Value) × List (List Bool)) (fun c => rngJ ia 1 rem ++ (D, LI (as.map Value.ref)) :: (c2, CE (some (.ref ea))) :: (c1, CE (some (.int n t))) :: (C, NS c.1) :: (rowsL as c.2 ++ F))
        (fun rem2 c => c.1.lookup (Str.ofString "far") = some (.ref D) ∧ c.1.lookup (Str.ofString "middle") = some mv ∧ sq n c.2 ∧ ∃ done2, List.range n = done2 ++ rem2 ∧ c.2 = done2.foldl (row1 n mid) M) hA.handled (fun _ _ _ => trivial) ?_ ?_ (c := (_, M)) ⟨putL_ne hfar, putL_eq, hsq, [], rfl, rfl⟩ He
      · rintro Q2 E2 av a rem2 ⟨m2, M2⟩ se hav ⟨hfar2, hmd2, hsq2, done2, hdone2, hM2⟩ Hf hQ2
        dsimp only at hfar2 hmd2 hsq2 hM2 Hf
        have ha : a < n := inR hdone2
        refine wpAny_assign_Name (r_sto V Hf (.right (.right (.tail (.tail (.tail .head))))) fun sf Hg => ?_)
        refine wpAny_execs_cons (wpAny_For (r_callN (r_glo V Hg (B.glob _ (.type "range") (by decide)) (r_cw Hg (keeps_type _) (r_cel (c := c1) V Hg rfl (List.mem_append_right _ (List.mem_append_right _ (.tail _ (.tail _ (.head _))))) ⟨_, Hg, r_range1 Hg fun rc sg Hh => r_iter_rng1 (n := n) Hh (.head _) (b40 hn1) fun ic sh Hi => ?_⟩)))))
        rw [upBy_range] at Hi
        have Hj := (Hi.bring 1).tail
        refine r_forLoop1 (nexts_rng ic 1) (σ := List (Str × Value) × List (List Bool)) (fun c => rngJ ib 1 rem2 ++ (rngJ ia 1 rem ++ (D, LI (as.map Value.ref)) :: (c2, CE (some (.ref ea))) :: (c1, CE (some (.int n t))) :: (C, NS c.1) :: (rowsL as c.2 ++ F)))
          (fun rem3 c => c.1.lookup (Str.ofString "far") = some (.ref D) ∧ c.1.lookup (Str.ofString "middle") = some mv ∧ c.1.lookup (Str.ofString "a") = some av ∧ sq n c.2 ∧ ∃ done3, List.range n = done3 ++ rem3 ∧ c.2 = done3.foldl (upd mid a) M2) hA.handled (fun _ _ _ => trivial) ?_ ?_ (c := (_, M2)) ⟨putL_ne hfar2, putL_ne hmd2, putL_eq, hsq2, [], rfl, rfl⟩ Hj
        · rintro Q3 E3 bv b rem3 ⟨m3, M3⟩ si hbv ⟨hfar3, hmd3, ha3, hsq3, done3, hdone3, hM3⟩ Hk hQ3
          dsimp only at hfar3 hmd3 ha3 hsq3 hM3 Hk
          have hb : b < n := inR hdone3
          refine wpAny_assign_Name (r_sto V Hk (.right (.right (.right (.tail (.tail (.tail .head)))))) fun sj Hl => ?_)
          obtain ⟨ta, rfl⟩ := hav
          obtain ⟨tb, rfl⟩ := hbv
          obtain ⟨tm, rfl⟩ := hmv
          obtain ⟨r, hr, hrm, hrl⟩ := sq_get hsq3 ha hmid
          obtain ⟨r2, hr2, hrb, hrl2⟩ := sq_get hsq3 hmid hb
          obtain ⟨ad, had⟩ : ∃ ad, as[a]? = some ad := ⟨_, List.getElem?_eq_getElem (by rw [hlen]; assumption)⟩
          obtain ⟨md, hmdd⟩ : ∃ md, as[mid]? = some md := ⟨_, List.getElem?_eq_getElem (by rw [hlen]; assumption)⟩
          have hlA : (as.map Value.ref)[a]? = some (.ref ad) := by simp [had]
          have hlM : (as.map Value.ref)[mid]? = some (.ref md) := by simp [hmdd]
          have next : ∀ sz M4, M4 = upd mid a M3 b → sq n M4 → St h₀ os (rngJ ic 1 rem3 ++ (rngJ ib 1 rem2 ++ (rngJ ia 1 rem ++ (D, LI (as.map Value.ref)) :: (c2, CE (some (.ref ea))) :: (c1, CE (some (.int n t))) :: (C, NS (putL m3 (Str.ofString "b") (.int b tb))) :: (rowsL as M4 ++ F)))) sz →
              Q3 .next sz := by
            rintro sz M4 rfl h4 Hz
            refine hQ3 (_, _) _ ⟨putL_ne hfar3, putL_ne hmd3, putL_ne ha3, h4, done3 ++ [b], by simp [hdone3], ?_⟩ Hz
            rw [List.foldl_append, ← hM3]; rfl
          obtain ⟨m4, hm4⟩ : ∃ m4, m4 = putL m3 (Str.ofString "b") (.int b tb) := ⟨_, rfl⟩
          have qf : m4.lookup (Str.ofString "far") = some (.ref D) := by rw [hm4]; exact putL_ne hfar3
          have qm : m4.lookup (Str.ofString "middle") = some (.int mid tm) := by rw [hm4]; exact putL_ne hmd3
          have qa : m4.lookup (Str.ofString "a") = some (.int a ta) := by rw [hm4]; exact putL_ne ha3
          have qb : m4.lookup (Str.ofString "b") = some (.int b tb) := by rw [hm4]; exact putL_eq
          rw [← hm4] at Hl next
          clear hm4
          obtain ⟨Lk, hLk⟩ : ∃ Lk, Lk = rngJ ic 1 rem3 ++ (rngJ ib 1 rem2 ++ (rngJ ia 1 rem ++ (D, LI (as.map Value.ref)) :: (c2, CE (some (.ref ea))) :: (c1, CE (some (.int n t))) :: (C, NS m4) :: (rowsL as M3 ++ F))) := ⟨_, rfl⟩
          have i_C : (C, NS m4) ∈ Lk := by rw [hLk]; exact .tail _ (.tail _ (.tail _ (.tail _ (.tail _ (.tail _ (.head _))))))
          have i_D : (D, LI (as.map Value.ref)) ∈ Lk := by rw [hLk]; exact .tail _ (.tail _ (.tail _ (.head _)))
          have i_R : ∀ e ∈ rowsL as M3, e ∈ Lk := fun e h => by rw [hLk]; exact .tail _ (.tail _ (.tail _ (.tail _ (.tail _ (.tail _ (.tail _ (List.mem_append_left _ h)))))))
          replace Hl : St h₀ os Lk sj := by rw [hLk]; exact Hl
          have next0 : ∀ sz, M3 = upd mid a M3 b → St h₀ os Lk sz → Q3 .next sz := fun sz e Hz => next sz M3 e hsq3 (hLk ▸ Hz)
          refine wpAny_execs_cons (wpAny_If (wpAny_isTrue_BoolOp (wpAny_allTrue_And_cons (wpAny_isTrue_value (Subscript_ (Subscript_ (r_loc V Hl i_C qf (r_loc V Hl i_C qa
            (r_subL Hl i_D (hlt1 ha) hlA (r_loc V Hl i_C qm (r_subQ Hl (i_R _ (rowsL_mem had hr)) (hlt1 hmid) (x := boolV (getM M3 a mid)) (by simp [hrm]) (wpAny_truthy_bool ?_))))))))))))
          cases hg1 : getM M3 a mid with
          | false =>
            rw [if_neg (by simp), if_neg (by simp)]
            exact wpAny_execs_nil (wpAny_execs_nil (next0 _ (by unfold upd; rw [hg1]; simp) Hl))
          | true =>
            rw [if_pos rfl]
            refine wpAny_allTrue_And_cons (wpAny_isTrue_value (Subscript_ (Subscript_ (r_loc V Hl i_C qf (r_loc V Hl i_C qm
              (r_subL Hl i_D (hlt1 hmid) hlM (r_loc V Hl i_C qb (r_subQ Hl (i_R _ (rowsL_mem hmdd hr2)) (hlt1 hb) (x := boolV (getM M3 mid b)) (by simp [hrb]) (wpAny_truthy_bool ?_)))))))))
            cases hg2 : getM M3 mid b with
            | false =>
              rw [if_neg (by simp), if_neg (by simp)]
              exact wpAny_execs_nil (wpAny_execs_nil (next0 _ (by unfold upd; rw [hg1, hg2]; simp) Hl))
            | true =>
              rw [if_pos rfl]
              refine wpAny_allTrue_And_nil ?_
              rw [if_pos rfl]
              refine wpAny_execs_cons (wpAny_Assign_Subscript (wpAny_Constant_bool (Subscript_ (r_loc V Hl i_C qf (r_loc V Hl i_C qa
                (r_subL Hl i_D (hlt1 ha) hlA (r_loc V Hl i_C qb ?_)))))))
              have hput := rowsL_put (r' := r.set b true) had hr
              rw [List.map_set] at hput
              rw [hLk] at Hl
              refine r_setQ Hl (.right (.right (.right (.tail (.tail (.tail (.tail (.left hput)))))))) (hlt1 hb) (by rw [List.length_map, hrl]; exact hb) fun sk Hm => wpAny_execs_nil (wpAny_execs_nil (next _ _ ?_ ?_ Hm))
              · unfold upd setM; rw [hg1, hg2, hr]; rfl
              · have e : M3.set a (r.set b true) = setM M3 a b := by unfold setM; rw [hr]; rfl
                rw [e]; exact sq_setM hsq3 ha b
        · rintro ⟨m3, M3⟩ si ⟨hfar3, hmd3, ha3, hsq3, done3, hdone3, hM3⟩ Hk
          dsimp only at hfar3 hmd3 ha3 hsq3 hM3 Hk
          refine wpAny_execs_nil (hQ2 (m3, M3) _ ⟨hfar3, hmd3, hsq3, done2 ++ [a], by simp [hdone2], ?_⟩ Hk)
          rw [List.foldl_append, ← hM2]
          show M3 = row1 n mid M2 a
          unfold row1
          rw [hdone3, List.append_nil]; exact hM3
      · rintro ⟨m2, M2⟩ se ⟨hfar2, hmd2, hsq2, done2, hdone2, hM2⟩ Hf
        dsimp only at hfar2 hmd2 hsq2 hM2 Hf
        refine wpAny_execs_nil (hQ1 (m2, M2) _ ⟨hfar2, hsq2, done ++ [mid], by simp [hdone], ?_⟩ Hf)
        rw [List.foldl_append, ← hM]
        show M2 = pass n M mid
        unfold pass
        rw [hdone2, List.append_nil]; exact hM2
    · rintro ⟨m, M⟩ sa ⟨hfar, hsq, done, hdone, hM⟩ Ha
      dsimp only at hfar hsq hM Ha
      refine wpAny_execs_cons (wpAny_Return_some (r_loc V Ha (.tail _ (.tail _ (.tail _ (.head _)))) hfar ?_))
      have : M = warsh n es := by rw [hM]; unfold warsh; rw [hdone, List.append_nil]
      subst this
      exact hQ'.1 _ _ (h D as sa hlen (((Ha.bring 1).tail.bring 1).tail.bring 1).tail)
end
end Mine
end
section
open PySem PySem.W PySem.Calls PyProof.Rows
namespace Mine
theorem All2.refl {α : Type} : ∀ l : List α, All2 (fun a b => a = b) l l
  | [] => .nil
  | _ :: l => .cons rfl (All2.refl l)
theorem All2.toEq {α : Type} {l m : List α} (h : All2 (fun a b => a = b) l m) : l = m := by
  induction h with
  | nil => rfl
  | cons r _ ih => rw [r, ih]
/-- assignments one by one -/
@[reducible] noncomputable def wpAs (M : Model) (A : Around) (env : Env) (E : Value → Shared → Prop) : List Expr → List Value → (Unit → Shared → Prop) → Shared → Prop
  | e :: r, v :: vs, Q, s => wpAny M A (assign e env v) (fun _ s₁ => wpAs M A env E r vs Q s₁) E s
  | _, _, Q, s => Q () s
section
variable {prog : Program} {w : World} {A : Around} {E : Value → Shared → Prop} {h₀ : Heap} {os : OsState} {L L' F : List Ent} {s : Shared} {env : Env}
theorem r_draw {α : Type} {R : Value → α → Prop} {C : List Ent → Prop} {it : Value} {J : List α → List Ent} (N : Nexts prog w R C it J) (hC : C F) : ∀ (xs rem : List α) {s : Shared} {Q : List Value → Shared → Prop}, St h₀ os (J (xs ++ rem) ++ F) s →
    (∀ vs s', All2 R vs xs → St h₀ os (J rem ++ F) s' → Q vs s') → wpAny (model prog w) A (draw it xs.length) Q E s
  | [], rem, s, Q, H, h => wpAny_pure (h [] s .nil H)
  | x :: xs, rem, s, Q, H, h => by
    show wpAny _ _ (pyNext it >>= _) Q E s
    refine wpAny_bind (N.next hC H fun v s₁ hR H₁ => ?_)
    refine wpAny_bind (wpAny_holding (r_draw N hC xs rem H₁ fun vs s' hvs H' => wpAny_pure ?_))
    exact h (v :: vs) s' (.cons hR hvs) H'
theorem r_notIterL {l : Addr} {vs : List Value} {Q : Bool → Shared → Prop} (H : St h₀ os L s) (hm : (l, LI vs) ∈ L) (h : Q false s) : wpAny (model prog w) A (notIterableAtAll (.ref l)) Q E s := by
  unfold notIterableAtAll
  refine wpAny_bind (wpAny_specialOf (H.list hm).typeIs PySem.F.slot_list_iter.lookup ?_)
  exact wpAny_pure h
theorem r_notIterT {l : Addr} {vs : List Value} {Q : Bool → Shared → Prop} (H : St h₀ os L s) (hm : (l, TU vs) ∈ L) (h : Q false s) : wpAny (model prog w) A (notIterableAtAll (.ref l)) Q E s := by
  unfold notIterableAtAll
  refine wpAny_bind (wpAny_specialOf (H.tup hm).typeIs PySem.F.slot_tuple_iter.lookup ?_)
  exact wpAny_pure h
theorem r_unpackItems {l : Addr} {vs : List Value} {Q : List Value → Shared → Prop} (hh : A.handled = none) (H : St h₀ os L s) (hm : (l, LI vs) ∈ L ∨ (l, TU vs) ∈ L) (h : ∀ s', St h₀ os L s' → Q vs s') :
    wpAny (model prog w) A (unpackItems (.ref l) vs.length none) Q E s := by
  unfold unpackItems
  have go : ∀ {C : List Ent → Prop} {it : Value} {J : List Value → List Ent} (N : Nexts prog w (fun a b => a = b) C it J) (hC : C L) {s : Shared}, St h₀ os (J vs ++ L) s →
      wpAny (model prog w) A (do
        let items ← holding [it] (draw it vs.length)
        if items.length < vs.length then
          rule "unpack.too-few"; raiseError "ValueError" s!"not enough values to unpack (expected {vs.length}, got {items.length})"
        if (← holding items (pyNext it)).isSome then
          rule "unpack.too-many"; raiseError "ValueError" s!"too many values to unpack (expected {vs.length})"
        return items) Q E s := by
    intro C it J N hC s H
    refine wpAny_bind (wpAny_holding (r_draw N hC vs [] (by rw [List.append_nil]; exact H) fun vs' s' hv H' => ?_))
    obtain rfl := hv.toEq
    rw [if_neg (Nat.lt_irrefl _)]
    refine wpAny_bind (wpAny_holding (N.stop hh hC H' fun s₂ H₂ => ?_))
    simp only [Option.isSome_none, Bool.false_eq_true, if_false]
    exact wpAny_pure (h _ H₂)
  rcases hm with hm | hm
  · refine wpAny_bind (r_notIterL H hm ?_)
    rw [if_neg (by simp)]
    refine wpAny_bind (wpAny_holding (r_iter_list (xs := vs) H hm fun ia s₁ H₁ => ?_))
    exact go (nexts_list ia l vs) ⟨vs, All2.refl _, hm⟩ H₁
  · refine wpAny_bind (r_notIterT H hm ?_)
    rw [if_neg (by simp)]
    refine wpAny_bind (wpAny_holding (r_iter_tup (xs := vs) H hm fun ia s₁ H₁ => ?_))
    exact go (nexts_tup ia l vs) ⟨vs, All2.refl _, hm⟩ H₁
theorem assignEach_plain {e : Expr} {r : List Expr} (h : isStarred e = false) : assignEach (e :: r) env = (false, assign e env) :: assignEach r env := by
  cases e <;> first | rfl | cases h
theorem each_side : ∀ (r : List Expr), (r.all fun e => !isStarred e) = true → (assignEach r env).length = r.length ∧ (assignEach r env).findIdx? (·.1) = none := by
  intro r
  induction r with
  | nil => intro _; exact ⟨rfl, rfl⟩
  | cons e r ih =>
    intro hs
    rw [List.all_cons, Bool.and_eq_true] at hs
    rw [assignEach_plain (by simpa using hs.1)]
    obtain ⟨a, b⟩ := ih hs.2
    exact ⟨by simp [a], by simp [List.findIdx?_cons, b]⟩
theorem wpAs_each {M : Model} {Q : Unit → Shared → Prop} (es : List Expr) : ∀ (vs : List Value) (s : Shared), (es.all fun e => !isStarred e) = true → es.length = vs.length → wpAs M A env E es vs Q s →
    wpAny M A (assignInOrder ((assignEach es env).map (·.2)) vs) Q E s := by
  induction es with
  | nil => intro vs s _ _ h; unfold wpAs at h; exact wpAny_pure h
  | cons e r ih =>
    intro vs s hs hl h
    cases vs with
    | nil => cases hl
    | cons v vs =>
      rw [List.all_cons, Bool.and_eq_true] at hs
      rw [assignEach_plain (by simpa using hs.1)]
      unfold wpAs at h
      show wpAny M A (do holding vs (assign e env v); assignInOrder ((assignEach r env).map (·.2)) vs) Q E s
      exact wpAny_bind (wpAny_holding (wpAny_mono h (fun _ s₁ h₁ => ih vs s₁ hs.2 (by simpa using hl) h₁) fun _ _ x => x))
/-- several names from a list or a tuple -/
theorem r_asTup {elts : List Expr} {k : Nat} {pos : Pos} {l : Addr} {vs : List Value} {Q : Unit → Shared → Prop} (hh : A.handled = none) (H : St h₀ os L s) (hm : (l, LI vs) ∈ L ∨ (l, TU vs) ∈ L)
    (h : ∀ s', St h₀ os L s' → wpAs (model prog w) A env E elts vs Q s') (hs : (elts.all fun e => !isStarred e) = true := by rfl) (hl : elts.length = vs.length := by rfl) :
    wpAny (model prog w) A (assign (.Tuple elts k pos) env (.ref l)) Q E s := by
  rw [arm_assign_Tuple]
  refine wpAny_bind (wpAny_standAt ?_)
  unfold unpack
  obtain ⟨h2, h3⟩ := each_side (env := env) elts hs
  rw [h2, h3, hl]
  refine wpAny_bind (wpAny_holding (r_unpackItems hh H hm fun s' H' => ?_))
  exact wpAs_each elts vs s' hs hl (h s' H')

/-! stars -/
theorem r_collect {l : Addr} {xs : List Value} {Q : List Value → Shared → Prop} (H : St h₀ os L s) (hm : (l, LI xs) ∈ L) (hz : xs.length < 2 ^ 20) (h : ∀ s', St h₀ os L s' → Q xs s') : wpAny (model prog w) A (collect (.ref l)) Q E s := by
  obtain ⟨o, ho, n, rfl⟩ := H.get hm
  refine wpAny_collect_seq l (.inl rfl) ho rfl rfl (fun h' hk => ?_) (by rw [List.size_toArray, sizeLine_eq]; omega)
  rw [List.toList_toArray]
  exact h _ (H.ext0 hk)
/-- the method object called with a star -/
theorem r_cwMS {K : Frag} {q f : Addr} {self : Value} {pos : Pos} {args : List (Bool × Sem Value)} {Q : Value → Shared → Prop} (X : K.In h₀) (hf : fnIn K f = true) (hst : args.any (·.1) = true)
    (h : wpAny (model prog w) A (evalArgs (.ref q) true args []) (fun a s₁ => a.kw = [] ∧ ∃ L, St h₀ os L s₁ ∧ (q, METH (.ref f) self) ∈ L ∧ codeAny (model prog w) A (.call (.ref f) ⟨self :: a.pos, []⟩) (fun r s' => match r with | .ok (.ret v) => Q v s' | .ok _ => False | .error e => E e s') s₁) E s) :
    wpAny (model prog w) A (callWith pos (.ref q) [] args []) Q E s := by
  unfold callWith
  refine wpAny_bind (wpAny_holding (wpAny_mono h (fun a s₁ h₁ => wpAny_bind (wpAny_standAt ?_)) fun _ _ x => x))
  obtain ⟨hkw, L, H, hq, hc⟩ := h₁
  obtain ⟨o, ho, rfl⟩ := H.get hq
  obtain ⟨apos, akw⟩ := a
  dsimp only at hkw hc
  subst hkw
  have hk : Looks (model prog w) s₁.heap (keeperOf (.ref q)) .boundFrame := by
    unfold fnIn at hf
    split at hf
    · rename_i e
      exact (Looks.ld (part := none) ho).andThen ((Looks.ld (part := none) (H.frag X _ _ e)).andThen .now)
    · cases hf
  refine wpAny_bind (hk.here ?_)
  simp only [hst, List.any_nil, Bool.or_false, List.nil_append]
  refine wpAny_bind (wpAny_operating (wpAny_call (method_call ho ?_)))
  refine codeAny_mono hc fun r s' hr => ?_
  cases r with
  | ok fl =>
    cases fl with
    | ret v => exact wpAny_bind (wpAny_holding (wpAny_point (wpAny_pure hr)))
    | _ => exact hr.elim
  | error e => exact hr
end
end Mine
end
section
open PySem PySem.W PySem.Calls PyProof.Rows
namespace Mine
section
variable {prog : Program} {w : World} {A : Around} {E : Value → Shared → Prop} {h₀ : Heap} {os : OsState} {L L' F : List Ent} {s : Shared} {env : Env}
/-- f(*e) -/
theorem r_star1 {f : Value} {e : Expr} {p pos : Pos} {Q : Args → Shared → Prop}
    (h : wpAny (model prog w) A (eval e env) (fun v s₁ => ∃ L l xs, v = .ref l ∧ St h₀ os L s₁ ∧ (l, LI xs) ∈ L ∧ xs.length < 2 ^ 20 ∧ ∀ s', St h₀ os L s' → Q ⟨xs, []⟩ s') E s) :
    wpAny (model prog w) A (evalArgs f true (backTo pos (starEach [.Starred e p] env)) []) Q E s := by
  show wpAny (model prog w) A (evalArgs f true [(true, do let v ← eval e env; standAt pos; pure v)] []) Q E s
  unfold evalArgs
  refine wpAny_bind (wpAny_bind (wpAny_mono h (fun v s₁ h₁ => wpAny_bind (wpAny_standAt (wpAny_pure (wpAny_bind (wpAny_pure ?_))))) fun _ _ x => x))
  obtain ⟨L, l, xs, rfl, H, hm, hz, hQ⟩ := h₁
  refine wpAny_holding ?_
  dsimp only
  simp only [List.all_nil, if_true]
  refine wpAny_bind (wpAny_pure ?_)
  refine wpAny_bind (wpAny_bind (r_notIterL H hm ?_))
  rw [if_neg (by simp)]
  exact wpAny_holding (r_collect H hm hz fun s' H' => wpAny_pure (hQ s' H'))
/-- f(a, *e) -/
theorem r_star2 {f : Value} {a e : Expr} {p pos : Pos} {Q : Args → Shared → Prop} (ha : isStarred a = false)
    (h : wpAny (model prog w) A (eval a env) (fun va s₀ => wpAny (model prog w) A (eval e env) (fun v s₁ => ∃ L l xs, v = .ref l ∧ St h₀ os L s₁ ∧ (l, LI xs) ∈ L ∧ xs.length < 2 ^ 20 ∧ ∀ s', St h₀ os L s' → Q ⟨va :: xs, []⟩ s') E s₀) E s) :
    wpAny (model prog w) A (evalArgs f true (backTo pos (starEach [a, .Starred e p] env)) []) Q E s := by
  rw [starEach_plain ha]
  show wpAny (model prog w) A (evalArgs f true [(false, eval a env), (true, do let v ← eval e env; standAt pos; pure v)] []) Q E s
  unfold evalArgs
  refine wpAny_bind (wpAny_bind (wpAny_mono h (fun va s₀ h₀' => ?_) fun _ _ x => x))
  simp only [Bool.false_eq_true, if_false]
  refine wpAny_bind (wpAny_pure (wpAny_bind (wpAny_holding ?_)))
  unfold spliced
  refine wpAny_bind (wpAny_bind (wpAny_mono h₀' (fun v s₁ h₁ => wpAny_bind (wpAny_standAt (wpAny_pure ?_))) fun _ _ x => x))
  obtain ⟨L, l, xs, rfl, H, hm, hz, hQ⟩ := h₁
  rw [if_pos rfl]
  refine wpAny_bind (r_notIterL H hm ?_)
  simp only [Bool.false_eq_true, if_false]
  refine wpAny_bind <| r_collect H hm hz fun s' H' => ?_
  refine wpAny_bind (wpAny_holding (wpAny_pure (wpAny_pure (wpAny_pure (wpAny_bind (wpAny_pure (wpAny_holding ?_)))))))
  dsimp only
  simp only [List.all_nil, if_true]
  refine wpAny_bind (wpAny_pure (wpAny_bind (wpAny_pure (wpAny_pure ?_))))
  simp only [List.append_nil]
  exact hQ s' H'
/-! list.index -/
theorem r_index {l : Addr} {vs : List Value} {ks : List Nd} {v : Value} {k : Nd} {Q : Value → Shared → Prop} (hu : A.units < 900) (H : St h₀ os L s) (hm : (l, LI vs) ∈ L) (hvs : All2 ND vs ks) (hv : ND v k) (hf : ∀ x ∈ ks, x.fit = true) (hk : k ∈ ks) (hz : ks.length < 2 ^ 20)
    (h : ∀ t s', St h₀ os L s' → Q (.int (ks.idxOf k : Nat) t) s') : wpAny (model prog w) A (call (.builtin "list.index") [.ref l, v]) Q E s := by
  obtain ⟨o, ho, n, rfl⟩ := H.get hm
  have hj := List.idxOf_lt_length_of_mem hk
  have hl := hvs.length
  have ev : ∀ i (hi : i < vs.toArray.size), ∃ x, ks[i]? = some x ∧ ND vs.toArray[i] x := fun i hi => by
    have hi' : i < vs.length := by simpa using hi
    obtain ⟨x, h1, h2⟩ := hvs.get' (List.getElem?_eq_getElem hi')
    exact ⟨x, h1, by simpa using h2⟩
  refine call_meets PySem.F.slot_list_index ⟨_, ho, rfl⟩ PySem.F.entry_list_index (PySem.F.args_list_index_2 _ _)
    (PySem.SeqAt.list_indexAt l vs.toArray n none #[] v (fun y => k.is y) (ks.idxOf k) (by rw [List.size_toArray]; omega) (by omega) ?_ ?_) ⟨ho, fun y hy => ?_, h _ _ (H.toks _)⟩
  · obtain ⟨x, h1, h2⟩ := ev (ks.idxOf k) (by rw [List.size_toArray]; omega)
    rw [List.getElem?_eq_getElem hj] at h1
    have : x = k := by simpa using (Option.some.inj h1).symm
    subst this
    exact h2
  · intro m hm' hlt
    obtain ⟨x, h1, h2⟩ := ev m hm'
    cases hc : k.is vs.toArray[m] with
    | false => rfl
    | true =>
      exfalso
      have e := ND.inj h2 hc
      subst e
      have hm2 : m < ks.length := by rw [← hl]; simpa using hm'
      rw [List.getElem?_eq_getElem hm2] at h1
      have h3 := Option.some.inj h1
      have : List.idxOf x ks ≤ m := by
        refine Nat.le_of_not_lt fun hlt => ?_
        have := List.not_of_lt_findIdx (p := (· == x)) (xs := ks) hlt
        simp [h3] at this
      omega
  · obtain ⟨i, hi⟩ := List.getElem?_of_mem (show y ∈ vs by simpa using hy)
    obtain ⟨x, h1, h2⟩ := hvs.get' hi
    obtain ⟨as, r1⟩ := h2.rd (h := s.heap)
    obtain ⟨bs, r2⟩ := hv.rd (h := s.heap)
    have e : k.is y = PyData.eqv x.data k.data := by
      rw [nd_eqv, Bool.eq_iff_iff]
      constructor
      · intro q; simpa using ND.inj h2 q
      · intro q; have : x = k := by simpa using q
        exact this ▸ h2
    rw [e]
    refine PySem.SeqAt.eqAt_reads x.data k.data _ _ _ _ _ _ r1 r2 (nd_can (hf x (List.mem_of_getElem? h1))) (nd_can (hf k hk)) ?_
    have : (Nd.data k).depth = 0 := by cases k <;> rfl
    rw [this, Nat.min_zero]
    show A.units + 1 + 0 < cLine
    unfold cLine; omega
end
end Mine
end
section
open PySem PySem.W PySem.Calls PyProof.Rows
namespace Mine
theorem nat_eqvAll : ∀ ks js : List Nat, PyData.eqvAll (ks.map natD) (js.map natD) = decide (ks = js)
  | [], [] => rfl
  | [], _ :: _ => by simp [PyData.eqvAll]
  | _ :: _, [] => by simp [PyData.eqvAll]
  | k :: ks, j :: js => by
    have ih := nat_eqvAll ks js
    have e : PyData.eqv (natD k) (natD j) = decide (k = j) := by
      rw [Bool.eq_iff_iff]; simp only [natD, PyData.eqv, beq_iff_eq, decide_eq_true_eq]
      exact ⟨fun h => Int.ofNat.inj h, fun h => by rw [h]⟩
    rw [List.map_cons, List.map_cons, PyData.eqvAll, ih, e, Bool.eq_iff_iff]
    simp
theorem list_can {ds : List PyData} (h : PyData.canLayAll0 ds = true) : (PyData.list ds).canLay0 = true := h
theorem nats_depth : ∀ ks : List Nat, PyData.depthAll (ks.map natD) = 0
  | [] => rfl
  | k :: ks => by
    rw [List.map_cons]
    show max (natD k).depth (PyData.depthAll (ks.map natD)) = 0
    rw [nats_depth ks]; rfl
/-- every third -/
noncomputable def thirds (xs : List Int) : List Int := (List.range ((xs.length + 2) / 3)).filterMap fun j => xs[3 * j]?
section
variable {prog : Program} {w : World} {A : Around} {E : Value → Shared → Prop} {h₀ : Heap} {os : OsState} {L L' F : List Ent} {s : Shared} {env : Env}
theorem rd_nats (H : St h₀ os L s) {l : Addr} {vs : List Value} {ks : List Nat} (hm : (l, LI vs) ∈ L) (hvs : All2 NV vs ks) : RD s.heap (.ref l) (.list (ks.map natD)) := H.rdL hm (hvs.map (f := natD) fun _ _ x => NV.rd x)
theorem nats_units {A : Around} (hu : A.units < 900) (ks js : List Nat) : A.units + min (PyData.list (ks.map natD)).depth (PyData.list (js.map natD)).depth < cLine := by
  have : (PyData.list (ks.map natD)).depth = 1 + PyData.depthAll (ks.map natD) ∨ (PyData.list (ks.map natD)).depth = PyData.depthAll (ks.map natD) + 1 := by first | exact .inl rfl | exact .inr rfl
  rw [nats_depth] at this
  have : min (PyData.list (ks.map natD)).depth (PyData.list (js.map natD)).depth ≤ 1 := Nat.le_trans (Nat.min_le_left _ _) (by omega)
  unfold cLine; omega
theorem r_eqN {l m : Addr} {vs ws : List Value} {ks js : List Nat} {Q : Value → Shared → Prop} (hu : A.units < 900) (H : St h₀ os L s) (hl : (l, LI vs) ∈ L) (hm : (m, LI ws) ∈ L) (hvs : All2 NV vs ks) (hws : All2 NV ws js)
    (h : Q (.bool (decide (ks = js))) s) : wpAny (model prog w) A (compareOp .Eq (.ref l) (.ref m)) Q E s := by
  obtain ⟨as, r1⟩ := rd_nats H hl hvs
  obtain ⟨bs, r2⟩ := rd_nats H hm hws
  refine PySem.SeqAt.compareEq_reads r1 r2 (list_can (nat_can ks)) (list_can (nat_can js)) (nats_units hu ks js) ?_
  show Q (.bool (PyData.eqvAll (ks.map natD) (js.map natD))) s
  rw [nat_eqvAll]; exact h
theorem r_neN {l m : Addr} {vs ws : List Value} {ks js : List Nat} {Q : Value → Shared → Prop} (hu : A.units < 900) (H : St h₀ os L s) (hl : (l, LI vs) ∈ L) (hm : (m, LI ws) ∈ L) (hvs : All2 NV vs ks) (hws : All2 NV ws js)
    (h : Q (.bool (!decide (ks = js))) s) : wpAny (model prog w) A (compareOp .NotEq (.ref l) (.ref m)) Q E s := by
  obtain ⟨as, r1⟩ := rd_nats H hl hvs
  obtain ⟨bs, r2⟩ := rd_nats H hm hws
  refine PySem.SeqAt.compareNe_reads r1 r2 (list_can (nat_can ks)) (list_can (nat_can js)) (nats_units hu ks js) ?_
  show Q (.bool (!PyData.eqvAll (ks.map natD) (js.map natD))) s
  rw [nat_eqvAll]; exact h
theorem ints_of {vs : List Value} {ks : List Nat} (h : All2 NV vs ks) : IntsAre vs (ks.map fun k : Nat => (k : Int)) := by
  induction h with
  | nil => exact .nil
  | cons r _ ih => obtain ⟨t, rfl⟩ := r; exact .cons _ t ih
theorem of_ints {vs : List Value} {ns : List Int} (h : IntsAre vs ns) : ∀ {ks : List Nat}, ns = ks.map (fun k : Nat => (k : Int)) → All2 NV vs ks := by
  induction h with
  | nil => intro ks e; cases ks with | nil => exact .nil | cons _ _ => cases e
  | cons n t _ ih =>
    intro ks e
    cases ks with
    | nil => cases e
    | cons k ks =>
      rw [List.map_cons] at e
      injection e with e1 e2
      exact .cons ⟨t, by rw [e1]⟩ (ih e2)
theorem nonneg_map : ∀ ns : List Int, (∀ n ∈ ns, 0 ≤ n) → ∃ ks : List Nat, ns = ks.map fun k : Nat => (k : Int)
  | [], _ => ⟨[], rfl⟩
  | n :: ns, h => by
    obtain ⟨ks, e⟩ := nonneg_map ns fun m hm => h m (.tail _ hm)
    obtain ⟨k, hk⟩ := Int.eq_ofNat_of_zero_le (h n (.head _))
    exact ⟨k :: ks, by rw [List.map_cons, ← e, hk]⟩
theorem r_sorted {l : Addr} {vs : List Value} {ks : List Nat} {Q : Value → Shared → Prop} (H : St h₀ os L s) (hl : (l, LI vs) ∈ L) (hvs : All2 NV vs ks) (hz : vs.length < 64)
    (h : ∀ a ws js s', All2 NV ws js → js.Perm ks → js.Pairwise (· ≤ ·) → St h₀ os ((a, LI ws) :: L) s' → Q (.ref a) s') : wpAny (model prog w) A (call (.builtin "sorted") [.ref l]) Q E s := by
  refine sorted_ints (H.list hl) (ints_of hvs) hz fun out ns' h1 h2 h3 => ?_
  obtain ⟨js, rfl⟩ := nonneg_map ns' fun n hn => by
    obtain ⟨k, _, rfl⟩ := List.mem_map.mp (h2.mem_iff.mp hn)
    omega
  have inj : Function.Injective (fun k : Nat => (k : Int)) := fun a b e => Int.ofNat.inj e
  have hp : js.Perm ks := by
    have := h2.map Int.toNat
    simpa [Function.comp_def] using this
  have hs : js.Pairwise (· ≤ ·) := by
    rw [List.pairwise_map] at h3
    exact h3.imp fun h => by omega
  refine h _ _ _ _ (of_ints h1 rfl) hp hs ?_
  obtain ⟨e, he⟩ := sortedAll_at s.heap vs out
  have H2 : St h₀ os L { s with heap := sortedAll s.heap vs out } := H.ext0 fun b o hb => sortedAll_old hb
  have D := H2.led
  have lo : ∀ b o, s.heap.get? b = some o → b ≠ s.heap.objs.size + 1 := fun b o hb e => absurd (Heap.lt_size hb) (by rw [e]; exact Nat.not_lt.mpr (Nat.le_succ _))
  refine ⟨⟨fun p hp => ?_, ?_, fun p hp => ?_, D.keep, fun p hp => ?_, D.three⟩, H2.gens, H2.os⟩
  · rcases List.mem_cons.mp hp with rfl | hp
    · exact ⟨_, he, e, by simp [seqObj]⟩
    · exact D.at_ p hp
  · rw [List.map_cons, List.nodup_cons]
    refine ⟨fun hm => ?_, D.nd⟩
    obtain ⟨p, hp, e'⟩ := List.mem_map.mp hm
    obtain ⟨o', ho', _⟩ := H.led.at_ p hp
    exact lo _ _ ho' e'
  · rcases List.mem_cons.mp hp with rfl | hp
    · cases hb : h₀.get? (s.heap.objs.size + 1) with
      | none => rfl
      | some o' => exact absurd rfl (lo _ _ (H.led.keep _ _ hb))
    · exact D.new p hp
  · rcases List.mem_cons.mp hp with rfl | hp
    · obtain ⟨o3, e3⟩ := D.three
      exact fun e' => lo _ _ (H.led.keep _ _ e3) e'.symm
    · exact D.high p hp

/-! a list that the call found -/
theorem r_lenB {l : Addr} {xs : List Value} {Q : Value → Shared → Prop} (H : St h₀ os L s) (hm : h₀.IsList l xs.toArray) (hz : xs.length < 2 ^ 40) (h : ∀ t s', St h₀ os L s' → Q (.int xs.length t) s') :
    wpAny (model prog w) A (call (.builtin "len") [.ref l]) Q E s := by
  have hl : s.heap.IsList l xs.toArray := by obtain ⟨o, ho, r⟩ := hm; exact ⟨o, H.keep _ _ ho, r⟩
  exact call_len_list hl (by rw [List.size_toArray]; omega) (by rw [List.size_toArray]; exact h _ _ (H.toks _))
theorem r_subB {value slice : Expr} {l : Addr} {xs : List Value} {k : Nat} {t : Tok} {x : Value} {Q : Value → Shared → Prop} (H : St h₀ os L s) (hm : h₀.IsList l xs.toArray) (hk : k < 2 ^ 40) (hx : xs[k]? = some x) (h : Q x s)
    (hs : subscripted slice false (.ref l) (.int k t) = operate [.ref l, .int k t] (getItem (.ref l) (.int k t)) := by with_unfolding_all rfl) : wpAny (model prog w) A (subscriptTail value slice (.ref l) (.int k t)) Q E s := by
  have hl : s.heap.IsList l xs.toArray := by obtain ⟨o, ho, r⟩ := hm; exact ⟨o, H.keep _ _ ho, r⟩
  exact tail_any hl.typeIs PySem.F.slot_list_getitem.lookup (wpAny_getItem_list hl (by omega) (by omega) (by simpa using hx) h) hs
theorem r_addB {a b : Addr} {xs ys : List Value} {Q : Value → Shared → Prop} (H : St h₀ os L s) (ha : h₀.IsList a xs.toArray) (hb : (b, LI ys) ∈ L) (hz : xs.length + ys.length < 2 ^ 20) (h : ∀ c s', St h₀ os ((c, LI (xs ++ ys)) :: L) s' → Q (.ref c) s') :
    wpAny (model prog w) A (binaryOp .Add (.ref a) (.ref b)) Q E s := by
  obtain ⟨⟨cls, dd, data, sl⟩, ho, hc, n, hd⟩ := ha
  simp only at hc hd
  subst hc hd
  have ho := H.keep _ _ ho
  obtain ⟨o2, ho2, n2, rfl⟩ := H.get hb
  refine concat_meets ⟨_, ho, rfl⟩ ⟨_, ho2, rfl⟩ noFill_list_add seq_list_add PySem.F.slot_list_add PySem.F.entry_list_add (PySem.F.args_list_add_2 _ _) (list_addW a b xs.toArray ys.toArray n n2 dd none sl #[] (by rw [sizeLine_eq]; simp; omega)) ⟨ho, ho2, h _ _ ?_⟩
  exact H.push rfl ⟨0, by simp⟩
theorem third_pick (xs : List Int) : pickNums xs none none (some 3) = thirds xs := by
  unfold pickNums thirds sliceBounds sliceRange
  simp only [Option.getD_some]
  rw [List.filterMap_map]
  have e : (if (3 : Int) > 0 then if (if (3 : Int) > 0 then (0 : Int) else (xs.length : Int) - 1) < (if (3 : Int) > 0 then (xs.length : Int) else -1) then ((if (3 : Int) > 0 then (xs.length : Int) else -1) - (if (3 : Int) > 0 then 0 else (xs.length : Int) - 1) + 3 - 1) / 3 else 0 else if (if (3 : Int) > 0 then (0 : Int) else (xs.length : Int) - 1) > (if (3 : Int) > 0 then (xs.length : Int) else -1) then ((if (3 : Int) > 0 then (0 : Int) else (xs.length : Int) - 1) - (if (3 : Int) > 0 then (xs.length : Int) else -1) - 3 - 1) / -3 else 0).toNat = (xs.length + 2) / 3 := by
    simp only [show (3 : Int) > 0 by decide, if_true]
    split <;> omega
  rw [e]
  congr 1
  funext j
  simp only [Function.comp, show (3 : Int) > 0 by decide, if_true]
  congr 1
  omega
/-- script[::3] -/
theorem r_thirds {value st : Expr} {p pos : Pos} {l : Addr} {vs : List Value} {xs : List Int} {Q : Value → Shared → Prop} (hm : h₀.IsList l vs.toArray) (hvs : IntsAre vs xs) (hz : vs.length < 2 ^ 20)
    (h : wpAny (model prog w) A (eval value env) (fun o s₁ => o = .ref l ∧ wpAny (model prog w) A (eval st env) (fun v s₃ => ∃ t L, v = .int 3 t ∧ St h₀ os L s₃ ∧ ∀ a ws s', IntsAre ws (thirds xs) → St h₀ os ((a, LI ws) :: L) s' → Q (.ref a) s') E s₁) E s)
    (ht : ∀ o r, letTemporaryGo value o r = pure () := by intro _ _; rfl) :
    wpAny (model prog w) A (eval (.Subscript value (.Slice none none (some st) p) pos) env) Q E s := by
  refine wpAny_Subscript_Slice_step (T := "list") PySem.F.slot_list_getitem.lookup (wpAny_mono h (fun o s₁ h₁ => ?_) fun _ _ e => e) ht
  obtain ⟨rfl, h₁⟩ := h₁
  refine wpAny_Slice (wpAny_pure (wpAny_pure (wpAny_mono h₁ (fun v s₃ h₃ => ?_) fun _ _ e => e)))
  obtain ⟨t, L, rfl, H, hQ⟩ := h₃
  have H2 := H.push (o := { cls := .type "slice", data := .fields #[.none, .none, .int 3 t] }) (P := fun _ => True) rfl trivial
  have hl : (s₃.heap.push { cls := .type "slice", data := .fields #[.none, .none, .int 3 t] }).IsList l vs.toArray := by
    obtain ⟨o, ho, r⟩ := hm
    exact ⟨o, H2.keep _ _ ho, r⟩
  refine ⟨Heap.IsList.typeIs (s := { s₃ with heap := s₃.heap.push { cls := .type "slice", data := .fields #[.none, .none, .int 3 t] } }) hl, ?_⟩
  refine wpAny_getItem_list_slice (lo := none) (hi := none) (st := some 3) hl (Heap.IsSliceOf.new ..) .none .none (.int 3 t) (by decide) ?_ (by rw [List.size_toArray, sizeLine_eq]; omega)
  have H3 := H2.push (o := { cls := .type "list", data := .seq (slicePick vs.toArray none none (some 3)) }) (P := LI (slicePick vs.toArray none none (some 3)).toList) rfl ⟨0, by simp⟩
  refine hQ _ _ _ ?_ ((H3.bring 1).tail)
  rw [← third_pick]
  exact hvs.pick none none (some 3)
end
end Mine
end
section
open PySem PySem.W PySem.Calls PyProof.Rows
namespace Mine
section
variable {prog : Program} {w : World} {A : Around} {E : Value → Shared → Prop} {h₀ : Heap} {os : OsState} {L L' L2 F : List Ent} {s : Shared} {env : Env}
variable {Co : Addr} {onames : List (Str × NameKind)} {ocells : List (Str × Addr)}

theorem swapped_ev (V : EV env Co onames ocells) {ts vs : List Expr} {k k2 : Nat} {p p2 : Pos}
    (h : ((ts.filterMap fun | .Name id pos => (if onames.lookup id == some .local && pos.line == (ts.head?.map (·.pos.line)).getD 0 then some id else none) | _ => none).length != ts.length) = true) :
    swappedStores [.Tuple ts k p] (.Tuple vs k2 p2) env = pure none := by
  have e : env.kindOf = fun x => onames.lookup x := funext V.kindOf
  unfold swappedStores
  dsimp only
  rw [e]
  split
  · rfl
  split
  · rfl
  refine if_pos ?_
  rw [Bool.or_eq_true]
  exact .inl h
/-- t1, t2 = e -/
theorem r_AssignT {ts : List Expr} {value : Expr} {k : Nat} {p pos : Pos} {Q : Flow → Shared → Prop}
    (h : wpAny (model prog w) A (eval value env) (fun v s₁ => wpAny (model prog w) A (assign (.Tuple ts k p) env v) (fun _ => Q .next) E s₁) E s)
    (hw : swappedStores [.Tuple ts k p] value env = pure none) (hs : swapsWithSole [.Tuple ts k p] value pos.line env = pure false := by rfl) :
    wpAny (model prog w) A (exec (.Assign [.Tuple ts k p] value pos) env) Q E s := by
  refine wpAny_Assign_stores ?_ hs hw
  exact h
/-- name = [..], the name no fast local -/
theorem r_AssignC {elt : Expr} {gens : List Comprehension} {scope : Scope} {pos spos py : Pos} {y : Str} {Q : Flow → Shared → Prop} (V : EV env Co onames ocells)
    (h : wpAny (model prog w) A (eval (.ListComp elt gens scope pos) env) (fun v s₁ => wpAny (model prog w) A (storeName env y v) (fun _ => Q .next) E s₁) E s)
    (hn : onames.lookup y = some .cell := by rfl) :
    wpAny (model prog w) A (exec (.Assign [.Name y py] (.ListComp elt gens scope pos) spos) env) Q E s :=
  wpAny_Assign_Name h (swaps_ev V false (by rw [hn]; rfl))
end
end Mine
end
section
open PySem PySem.W PySem.Calls PyProof.Rows
namespace Mine
/-! lookups in the records -/
theorem find_map {f : PN → PN} (hf : ∀ e, (f e).key = e.key) (G : List PN) (x : Nd) : (G.map f).find? (fun e => e.key = x) = (G.find? fun e => e.key = x).map f := by
  induction G with
  | nil => rfl
  | cons e r ih =>
    rw [List.map_cons, List.find?_cons, List.find?_cons, hf]
    cases decide (e.key = x) with
    | true => rfl
    | false => exact ih
theorem find_key {G : List PN} {x : Nd} {e : PN} (h : G.find? (fun e => e.key = x) = some e) : e.key = x := by simpa using List.find?_some h
theorem npAt_bump (G : List PN) (k : Nd) (d : Int) (x : Nd) : npAt (bump G k d) x = (npAt G x).map fun v => if x = k then v + d else v := by
  unfold npAt bump
  rw [find_map (fun e => by split <;> rfl)]
  cases h : G.find? (fun e => e.key = x) with
  | none => rfl
  | some e =>
    have := find_key h
    subst this
    simp only [Option.map_some]
    split <;> rfl
theorem npAt_setNp (G : List PN) (k : Nd) (d : Int) (x : Nd) : npAt (setNp G k d) x = (npAt G x).map fun v => if x = k then d else v := by
  unfold npAt setNp
  rw [find_map (fun e => by split <;> rfl)]
  cases h : G.find? (fun e => e.key = x) with
  | none => rfl
  | some e =>
    have := find_key h
    subst this
    simp only [Option.map_some]
    split <;> rfl
theorem npAt_addSucc (G : List PN) (p k : Nd) (x : Nd) : npAt (addSucc G p k) x = npAt G x := by
  unfold npAt addSucc
  rw [find_map (fun e => by split <;> rfl)]
  cases h : G.find? (fun e => e.key = x) with
  | none => rfl
  | some e =>
    simp only [Option.map_some]
    split <;> rfl
theorem succAt_bump (G : List PN) (k : Nd) (d : Int) (x : Nd) : succAt (bump G k d) x = succAt G x := by
  unfold succAt bump
  rw [find_map (fun e => by split <;> rfl)]
  cases h : G.find? (fun e => e.key = x) with
  | none => rfl
  | some e =>
    simp only [Option.map_some, Option.getD_some]
    split <;> rfl
theorem succAt_setNp (G : List PN) (k : Nd) (d : Int) (x : Nd) : succAt (setNp G k d) x = succAt G x := by
  unfold succAt setNp
  rw [find_map (fun e => by split <;> rfl)]
  cases h : G.find? (fun e => e.key = x) with
  | none => rfl
  | some e =>
    simp only [Option.map_some, Option.getD_some]
    split <;> rfl
theorem find_none {G : List PN} {x : Nd} (h : x ∉ G.map (·.key)) : G.find? (fun e => e.key = x) = none := by
  rw [List.find?_eq_none]
  intro e he hx
  exact h (List.mem_map.mpr ⟨e, he, by simpa using hx⟩)
theorem find_some {G : List PN} {x : Nd} (h : x ∈ G.map (·.key)) : ∃ e, G.find? (fun e => e.key = x) = some e := by
  cases hf : G.find? (fun e => e.key = x) with
  | some e => exact ⟨e, rfl⟩
  | none =>
    rw [List.find?_eq_none] at hf
    obtain ⟨e, he, rfl⟩ := List.mem_map.mp h
    exact absurd (decide_eq_true rfl) (hf e he)
theorem succAt_addSucc {G : List PN} {p k : Nd} (hp : p ∈ G.map (·.key)) (x : Nd) : succAt (addSucc G p k) x = succAt G x ++ (if p = x then [k] else []) := by
  unfold succAt addSucc
  rw [find_map (fun e => by split <;> rfl)]
  cases h : G.find? (fun e => e.key = x) with
  | none =>
    rw [if_neg]
    · rfl
    · rintro rfl
      obtain ⟨e, he⟩ := find_some hp
      rw [he] at h; cases h
  | some e =>
    have := find_key h
    subst this
    simp only [Option.map_some, Option.getD_some]
    by_cases h2 : e.key = p
    · rw [if_pos h2, if_pos h2.symm]
    · rw [if_neg h2, if_neg fun h => h2 h.symm]; simp
theorem keys_bump (G : List PN) (k : Nd) (d : Int) : (bump G k d).map (·.key) = G.map (·.key) := by
  unfold bump; rw [List.map_map]; refine List.map_congr_left fun e _ => ?_
  show (if e.key = k then _ else e).key = e.key
  split <;> rfl
theorem keys_addSucc (G : List PN) (p k : Nd) : (addSucc G p k).map (·.key) = G.map (·.key) := by
  unfold addSucc; rw [List.map_map]; refine List.map_congr_left fun e _ => ?_
  show (if e.key = p then _ else e).key = e.key
  split <;> rfl
theorem keys_ensure (G : List PN) (k x : Nd) : x ∈ (ensure G k).map (·.key) ↔ x = k ∨ x ∈ G.map (·.key) := by
  unfold ensure
  split
  · rename_i h
    constructor
    · exact .inr
    · rintro (rfl | h') <;> assumption
  · rw [List.map_append, List.mem_append]
    simp only [List.map_cons, List.map_nil, List.mem_singleton]
    exact or_comm
theorem nodup_ensure {G : List PN} (k : Nd) (h : (G.map (·.key)).Nodup) : ((ensure G k).map (·.key)).Nodup := by
  unfold ensure
  split
  · exact h
  · rename_i hk
    rw [List.map_append, List.nodup_append]
    refine ⟨h, by simp, ?_⟩
    rintro a ha b hb rfl
    simp at hb
    exact hk (hb ▸ ha)
noncomputable def npD (G : List PN) (x : Nd) : Int := (npAt G x).getD 0
theorem npD_ensure (G : List PN) (k x : Nd) : npD (ensure G k) x = npD G x := by
  unfold ensure
  split
  · rfl
  · unfold npD npAt
    rw [List.find?_append]
    cases G.find? (fun e => e.key = x) with
    | some e => rfl
    | none =>
      rw [Option.none_or, List.find?_singleton]
      split <;> rfl
theorem succAt_ensure (G : List PN) (k x : Nd) : succAt (ensure G k) x = succAt G x := by
  unfold ensure
  split
  · rfl
  · unfold succAt
    rw [List.find?_append]
    cases G.find? (fun e => e.key = x) with
    | some e => rfl
    | none =>
      rw [Option.none_or, List.find?_singleton]
      split <;> rfl
theorem npD_bump {G : List PN} {k : Nd} (hk : k ∈ G.map (·.key)) (d : Int) (x : Nd) : npD (bump G k d) x = npD G x + if x = k then d else 0 := by
  unfold npD
  rw [npAt_bump]
  by_cases h : x = k
  · subst h
    obtain ⟨e, he⟩ := find_some hk
    unfold npAt
    rw [he]
    simp
  · simp only [h, if_false]
    cases npAt G x <;> simp
theorem npD_addSucc (G : List PN) (p k x : Nd) : npD (addSucc G p k) x = npD G x := by unfold npD; rw [npAt_addSucc]

/-! adding -/
noncomputable def addS (k : Nd) (G : List PN) (p : Nd) : List PN := addSucc (ensure G p) p k
theorem fold_keys {k : Nd} : ∀ (ps : List Nd) (G : List PN) (x : Nd), x ∈ (ps.foldl (addS k) G).map (·.key) ↔ x ∈ ps ∨ x ∈ G.map (·.key)
  | [], G, x => by simp
  | p :: r, G, x => by
    rw [List.foldl_cons, fold_keys r, List.mem_cons]
    unfold addS
    rw [keys_addSucc, keys_ensure]
    constructor
    · rintro (h | h | h)
      · exact .inl (.inr h)
      · exact .inl (.inl h)
      · exact .inr h
    · rintro ((h | h) | h)
      · exact .inr (.inl h)
      · exact .inl h
      · exact .inr (.inr h)
theorem fold_nodup {k : Nd} : ∀ (ps : List Nd) (G : List PN), (G.map (·.key)).Nodup → ((ps.foldl (addS k) G).map (·.key)).Nodup
  | [], G, h => h
  | p :: r, G, h => fold_nodup r _ (by unfold addS; rw [keys_addSucc]; exact nodup_ensure p h)
theorem fold_npD {k : Nd} : ∀ (ps : List Nd) (G : List PN) (x : Nd), npD (ps.foldl (addS k) G) x = npD G x
  | [], G, x => rfl
  | p :: r, G, x => by rw [List.foldl_cons, fold_npD r]; unfold addS; rw [npD_addSucc, npD_ensure]
theorem fold_succ {k : Nd} : ∀ (ps : List Nd) (G : List PN) (x : Nd), succAt (ps.foldl (addS k) G) x = succAt G x ++ (ps.filter fun p => decide (p = x)).map fun _ => k
  | [], G, x => by simp
  | p :: r, G, x => by
    rw [List.foldl_cons, fold_succ r]
    unfold addS
    rw [succAt_addSucc ((keys_ensure G p p).mpr (.inl rfl)), succAt_ensure, List.filter_cons]
    by_cases h : p = x
    · simp [h]
    · simp [h]
theorem addG_keys (G : List PN) (k : Nd) (ps : List Nd) (x : Nd) : x ∈ (addG G k ps).map (·.key) ↔ x ∈ ps ∨ x = k ∨ x ∈ G.map (·.key) := by
  show x ∈ (ps.foldl (addS k) _).map _ ↔ _
  rw [fold_keys, keys_bump, keys_ensure]
theorem addG_nodup {G : List PN} (k : Nd) (ps : List Nd) (h : (G.map (·.key)).Nodup) : ((addG G k ps).map (·.key)).Nodup :=
  fold_nodup ps _ (by rw [keys_bump]; exact nodup_ensure k h)
theorem addG_npD (G : List PN) (k : Nd) (ps : List Nd) (x : Nd) : npD (addG G k ps) x = npD G x + if x = k then (ps.length : Int) else 0 := by
  show npD (ps.foldl (addS k) _) x = _
  rw [fold_npD, npD_bump ((keys_ensure G k k).mpr (.inl rfl)), npD_ensure]
theorem addG_succ (G : List PN) (k : Nd) (ps : List Nd) (x : Nd) : succAt (addG G k ps) x = succAt G x ++ (ps.filter fun p => decide (p = x)).map fun _ => k := by
  show succAt (ps.foldl (addS k) _) x = _
  rw [fold_succ, succAt_bump, succAt_ensure]

/-! the graph by indices -/
noncomputable def nd (row : List Nd) (j : Nat) : Nd := (row[j]?).getD (.i 0)
noncomputable def cnt (es : List (Nat × Nat)) (fin : List Nat) (j : Nat) : Nat := (es.filter fun e => decide (e.2 = j) && !decide (e.1 ∈ fin)).length
noncomputable def outs (es : List (Nat × Nat)) (i : Nat) : List Nat := (es.filter fun e => decide (e.1 = i)).map (·.2)
theorem nd_of {row : List Nd} {j : Nat} {k : Nd} (h : row[j]? = some k) : nd row j = k := by unfold nd; rw [h]; rfl
theorem nd_at {row : List Nd} {j : Nat} (h : j < row.length) : row[j]? = some (nd row j) := by unfold nd; rw [List.getElem?_eq_getElem h]; rfl
theorem row_inj {row : List Nd} (hn : row.Nodup) {i j : Nat} {k : Nd} (hi : row[i]? = some k) (hj : row[j]? = some k) : i = j := by
  obtain ⟨h1, e1⟩ := List.getElem?_eq_some_iff.mp hi
  obtain ⟨h2, e2⟩ := List.getElem?_eq_some_iff.mp hj
  exact (List.getElem_inj hn).mp (e1.trans e2.symm)
theorem cnt_zero {es : List (Nat × Nat)} {fin : List Nat} {j : Nat} : cnt es fin j = 0 ↔ ∀ a, (a, j) ∈ es → a ∈ fin := by
  unfold cnt
  rw [List.length_eq_zero_iff, List.filter_eq_nil_iff]
  constructor
  · intro h a ha
    have := h _ ha
    simpa using this
  · rintro h ⟨a, b⟩ he hp
    simp only [Bool.and_eq_true, decide_eq_true_eq, Bool.not_eq_true', decide_eq_false_iff_not] at hp
    obtain ⟨rfl, h2⟩ := hp
    exact h2 (h a he)
theorem cnt_cons (a b : Nat) (r : List (Nat × Nat)) (fin : List Nat) (j : Nat) : cnt ((a, b) :: r) fin j = (if b = j ∧ a ∉ fin then 1 else 0) + cnt r fin j := by
  unfold cnt
  rw [List.filter_cons]
  by_cases h : b = j ∧ a ∉ fin
  · rw [if_pos h, if_pos (by simpa using h), List.length_cons]; omega
  · rw [if_neg h, if_neg (by simpa using h)]; omega
theorem outs_cons (a b : Nat) (r : List (Nat × Nat)) (i j : Nat) : (outs ((a, b) :: r) i).count j = (if a = i ∧ b = j then 1 else 0) + (outs r i).count j := by
  unfold outs
  rw [List.filter_cons]
  by_cases h : a = i
  · rw [if_pos (by simpa using h), List.map_cons, List.count_cons]
    by_cases h2 : b = j
    · rw [if_pos (by simpa using h2), if_pos ⟨h, h2⟩]; omega
    · rw [if_neg (by simpa using h2), if_neg (fun x => h2 x.2)]; omega
  · rw [if_neg (by simpa using h), if_neg (fun x => h x.1)]; omega
theorem cnt_snoc {fin : List Nat} {i : Nat} (hi : i ∉ fin) (j : Nat) : ∀ es : List (Nat × Nat), cnt es fin j = cnt es (fin ++ [i]) j + (outs es i).count j
  | [] => rfl
  | (a, b) :: r => by
    have ih := cnt_snoc hi j r
    rw [cnt_cons, cnt_cons, outs_cons]
    have e : a ∉ fin ++ [i] ↔ a ∉ fin ∧ a ≠ i := by simp
    by_cases hb : b = j
    · by_cases ha : a = i
      · rw [if_pos ⟨hb, ha ▸ hi⟩, if_neg (fun x => (e.mp x.2).2 ha), if_pos ⟨ha, hb⟩]; omega
      · by_cases haf : a ∈ fin
        · rw [if_neg (fun x => x.2 haf), if_neg (fun x => (e.mp x.2).1 haf), if_neg (fun x => ha x.1)]; omega
        · rw [if_pos ⟨hb, haf⟩, if_pos ⟨hb, e.mpr ⟨haf, ha⟩⟩, if_neg (fun x => ha x.1)]; omega
    · rw [if_neg (fun x => hb x.1), if_neg (fun x => hb x.1), if_neg (fun x => hb x.2)]; omega
theorem cnt_append (es es' : List (Nat × Nat)) (fin : List Nat) (j : Nat) : cnt (es ++ es') fin j = cnt es fin j + cnt es' fin j := by unfold cnt; rw [List.filter_append, List.length_append]

inductive Reach (es : List (Nat × Nat)) : Nat → Nat → Prop where
  | one {a b : Nat} : (a, b) ∈ es → Reach es a b
  | step {a b c : Nat} : Reach es a b → (b, c) ∈ es → Reach es a c
theorem Reach.trans {es : List (Nat × Nat)} {a b c : Nat} (h : Reach es a b) (h' : Reach es b c) : Reach es a c := by
  induction h' with
  | one e => exact .step h e
  | step _ e ih => exact .step ih e
end Mine
end
section
open PySem PySem.W PySem.Calls PyProof.Rows
namespace Mine
/-- row and edges -/
structure Base (row : List Nd) (es : List (Nat × Nat)) : Prop where
  nodup : row.Nodup
  lt : ∀ e ∈ es, e.1 < row.length ∧ e.2 < row.length
/-- successors as the edges tell -/
noncomputable def Su (row : List Nd) (es : List (Nat × Nat)) (G : List PN) : Prop := ∀ j k, row[j]? = some k → succAt G k = (outs es j).map (nd row)
structure Inv (row : List Nd) (es : List (Nat × Nat)) (G : List PN) (rks : List Nd) (handed fin : List Nat) : Prop where
  hn : handed.Nodup
  fn : fin.Nodup
  sub : ∀ i ∈ fin, i ∈ handed
  hlt : ∀ i ∈ handed, i < row.length
  np : ∀ j k, row[j]? = some k → npAt G k = some (if j ∈ fin then -2 else if j ∈ handed then -1 else (cnt es fin j : Int))
  su : Su row es G
  rn : rks.Nodup
  rm : ∀ j k, row[j]? = some k → (k ∈ rks ↔ j ∉ handed ∧ cnt es fin j = 0)
  rr : ∀ k ∈ rks, k ∈ row
  hc : ∀ i ∈ handed, cnt es fin i = 0
  ac : ∀ i ∈ fin, ¬ Reach es i i

structure Mid (row : List Nd) (es : List (Nat × Nat)) (handed fin : List Nat) (rest : List Nat) (G : List PN) (r : List Nd) : Prop where
  np : ∀ j k, row[j]? = some k → npAt G k = some (if j ∈ fin then -2 else if j ∈ handed then -1 else ((cnt es fin j + rest.count j : Nat) : Int))
  su : Su row es G
  rn : r.Nodup
  rm : ∀ j k, row[j]? = some k → (k ∈ r ↔ j ∉ handed ∧ cnt es fin j + rest.count j = 0)
  rr : ∀ k ∈ r, k ∈ row

theorem Mid.decr {row : List Nd} {es : List (Nat × Nat)} {handed fin rest : List Nat} {G : List PN} {r : List Nd} {i : Nat} (hr : row.Nodup) (M : Mid row es handed fin (i :: rest) G r) (hi : i < row.length) (hh : i ∉ handed) (hf : i ∉ fin) :
    Mid row es handed fin rest (decr (G, r) (nd row i)).1 (decr (G, r) (nd row i)).2 := by
  have hk := nd_at hi
  have hnp := M.np i _ hk
  rw [if_neg hf, if_neg hh, List.count_cons_self] at hnp
  have hb : npAt (bump G (nd row i) (-1)) (nd row i) = some ((cnt es fin i + rest.count i : Nat) : Int) := by
    rw [npAt_bump, hnp]
    simp only [Option.map_some, if_true]
    congr 1
    omega
  have ne : ∀ {j : Nat} {k : Nd}, row[j]? = some k → j ≠ i → k ≠ nd row i := fun {j k} h1 h2 h3 => h2 (row_inj hr h1 (h3 ▸ hk))
  have hnr : nd row i ∉ r := fun h => by
    have := ((M.rm i _ hk).mp h).2
    rw [List.count_cons_self] at this
    omega
  have hmem : ∀ x, x ∈ (Mine.decr (G, r) (nd row i)).2 ↔ x ∈ r ∨ (x = nd row i ∧ cnt es fin i + rest.count i = 0) := fun x => by
    unfold Mine.decr
    dsimp only
    rw [hb]
    by_cases h0 : cnt es fin i + rest.count i = 0
    · rw [if_pos (by rw [h0]; rfl), List.mem_append, List.mem_singleton]; simp [h0]
    · rw [if_neg (by intro h; exact h0 (by have := Option.some.inj h; omega))]; exact ⟨.inl, fun h => h.elim id fun h => absurd h.2 h0⟩
  refine ⟨fun j k hj => ?_, fun j k hj => ?_, ?_, fun j k hj => ?_, fun k hk' => ?_⟩
  · show npAt (bump G (nd row i) (-1)) k = _
    by_cases e : j = i
    · subst e
      rw [nd_of hj] at hb
      rw [nd_of hj, hb, if_neg hf, if_neg hh]
    · rw [npAt_bump, M.np j k hj, Option.map_some]
      rw [if_neg (ne hj e), List.count_cons_of_ne (fun h => e h.symm)]
  · show succAt (bump G (nd row i) (-1)) k = _
    rw [succAt_bump]; exact M.su j k hj
  · unfold Mine.decr
    dsimp only
    split
    · rw [List.nodup_append]
      refine ⟨M.rn, by simp, ?_⟩
      rintro a ha b hb' rfl
      simp at hb'
      exact hnr (hb' ▸ ha)
    · exact M.rn
  · rw [hmem, M.rm j k hj]
    by_cases e : j = i
    · subst e
      rw [List.count_cons_self, nd_of hj]
      constructor
      · rintro (h | h)
        · exact absurd h.2 (by omega)
        · exact ⟨hh, h.2⟩
      · exact fun h => .inr ⟨rfl, h.2⟩
    · rw [List.count_cons_of_ne (fun h => e h.symm)]
      constructor
      · rintro (h | h)
        · exact h
        · exact absurd h.1 (ne hj e)
      · exact .inl
  · rcases (hmem k).mp hk' with h | h
    · exact M.rr k h
    · rw [h.1]; exact List.mem_of_getElem? hk

theorem Mid.fold {row : List Nd} {es : List (Nat × Nat)} {handed fin : List Nat} (hr : row.Nodup) : ∀ (rest : List Nat) {G : List PN} {r : List Nd}, Mid row es handed fin rest G r → (∀ i ∈ rest, i < row.length ∧ i ∉ handed ∧ i ∉ fin) →
    Mid row es handed fin [] ((rest.map (nd row)).foldl Mine.decr (G, r)).1 ((rest.map (nd row)).foldl Mine.decr (G, r)).2
  | [], _, _, M, _ => M
  | i :: rest, G, r, M, h => by
    obtain ⟨h1, h2, h3⟩ := h i (.head _)
    exact Mid.fold hr rest (M.decr hr h1 h2 h3) fun j hj => h j (.tail _ hj)

theorem outs_mem {es : List (Nat × Nat)} {i j : Nat} : j ∈ outs es i ↔ (i, j) ∈ es := by
  unfold outs
  rw [List.mem_map]
  constructor
  · rintro ⟨⟨a, b⟩, h, rfl⟩
    rw [List.mem_filter] at h
    obtain ⟨h1, h2⟩ := h
    have : a = i := by simpa using h2
    exact this ▸ h1
  · intro h
    exact ⟨(i, j), List.mem_filter.mpr ⟨h, by simp⟩, rfl⟩

theorem Reach.last {es : List (Nat × Nat)} {a b : Nat} (h : Reach es a b) : ∃ p, (p, b) ∈ es ∧ (a = p ∨ Reach es a p) := by
  cases h with
  | one e => exact ⟨a, e, .inl rfl⟩
  | step h e => exact ⟨_, e, .inr h⟩

theorem Inv.doneOne {row : List Nd} {es : List (Nat × Nat)} {G : List PN} {rks : List Nd} {handed fin : List Nat} {i : Nat} (B : Base row es) (I : Inv row es G rks handed fin) (hi : i ∈ handed) (hf : i ∉ fin) :
    Inv row es (Mine.doneOne (G, rks) (nd row i)).1 (Mine.doneOne (G, rks) (nd row i)).2 handed (fin ++ [i]) := by
  have hil := I.hlt i hi
  have hk := nd_at hil
  have hpre := cnt_zero.mp (I.hc i hi)
  have hsub : ∀ x ∈ fin ++ [i], x ∈ handed := fun x hx => by
    rcases List.mem_append.mp hx with h | h
    · exact I.sub x h
    · rw [List.mem_singleton.mp h]; exact hi
  have hout : ∀ j ∈ outs es i, j < row.length ∧ j ∉ handed ∧ j ∉ fin ++ [i] := fun j hj => by
    have he := outs_mem.mp hj
    have hnh : j ∉ handed := fun h => hf (cnt_zero.mp (I.hc j h) i he)
    exact ⟨(B.lt _ he).2, hnh, fun h => hnh (hsub j h)⟩
  have M : Mid row es handed (fin ++ [i]) (outs es i) (setNp G (nd row i) (-2)) rks := by
    refine ⟨fun j k hj => ?_, fun j k hj => ?_, I.rn, fun j k hj => ?_, I.rr⟩
    · rw [npAt_setNp, I.np j k hj, Option.map_some]
      by_cases e : j = i
      · subst e
        rw [if_pos (nd_of hj).symm, if_pos (List.mem_append_right _ (.head _))]
      · have hne : ¬ k = nd row i := fun h => e (row_inj B.nodup hj (by rw [h]; exact hk))
        rw [if_neg hne, ← cnt_snoc hf]
        by_cases h1 : j ∈ fin
        · rw [if_pos h1, if_pos (List.mem_append_left _ h1)]
        · have h2 : j ∉ fin ++ [i] := by simp [h1, e]
          rw [if_neg h1, if_neg h2]
    · rw [succAt_setNp]; exact I.su j k hj
    · rw [I.rm j k hj, cnt_snoc hf]
  have hd : Mine.doneOne (G, rks) (nd row i) = ((outs es i).map (nd row)).foldl Mine.decr (setNp G (nd row i) (-2), rks) := by
    unfold Mine.doneOne
    dsimp only
    rw [I.su i _ hk]
  rw [hd]
  have N := M.fold B.nodup _ hout
  refine ⟨I.hn, ?_, hsub, I.hlt, N.np, N.su, N.rn, N.rm, N.rr, fun j hj => ?_, fun j hj => ?_⟩
  · rw [List.nodup_append]
    refine ⟨I.fn, by simp, ?_⟩
    rintro a ha b hb rfl
    simp at hb
    exact hf (hb ▸ ha)
  · have := cnt_snoc hf j es
    have := I.hc j hj
    omega
  · rcases List.mem_append.mp hj with h | h
    · exact I.ac j h
    · rw [List.mem_singleton.mp h]
      intro hR
      obtain ⟨p, hp, h'⟩ := hR.last
      have hpf := hpre p hp
      rcases h' with rfl | h'
      · exact hf hpf
      · exact I.ac p hpf (Reach.trans (.one hp) h')

theorem Inv.doneAll {row : List Nd} {es : List (Nat × Nat)} {handed : List Nat} (B : Base row es) : ∀ (gr : List Nat) {G : List PN} {rks : List Nd} {fin : List Nat}, Inv row es G rks handed fin → gr.Nodup → (∀ i ∈ gr, i ∈ handed ∧ i ∉ fin) →
    Inv row es ((gr.map (nd row)).foldl Mine.doneOne (G, rks)).1 ((gr.map (nd row)).foldl Mine.doneOne (G, rks)).2 handed (fin ++ gr)
  | [], _, _, _, I, _, _ => by rw [List.append_nil]; exact I
  | i :: gr, G, rks, fin, I, hn, h => by
    rw [List.nodup_cons] at hn
    obtain ⟨h1, h2⟩ := h i (.head _)
    have := Inv.doneAll B gr (I.doneOne B h1 h2) hn.2 fun j hj => ⟨(h j (.tail _ hj)).1, fun hm => by
      rcases List.mem_append.mp hm with hm | hm
      · exact (h j (.tail _ hj)).2 hm
      · rw [List.mem_singleton.mp hm] at hj; exact hn.1 hj⟩
    rw [List.append_assoc] at this
    exact this
/-- what done asks of its nodes -/
theorem Inv.outs {row : List Nd} {es : List (Nat × Nat)} {G : List PN} {rks : List Nd} {handed fin gr : List Nat} (B : Base row es) (I : Inv row es G rks handed fin) (hn : gr.Nodup) (h : ∀ i ∈ gr, i ∈ handed ∧ i ∉ fin) :
    ∀ pre x post, gr.map (nd row) = pre ++ x :: post → npAt (pre.foldl Mine.doneOne (G, rks)).1 x = some (-1) := by
  intro pre x post e
  obtain ⟨g1, g2, rfl, rfl, e2⟩ := List.map_eq_append_iff.mp e
  obtain ⟨i, g3, rfl, rfl, _⟩ := List.map_eq_cons_iff.mp e2
  rw [List.nodup_append] at hn
  have J := I.doneAll B g1 hn.1 fun j hj => h j (List.mem_append_left _ hj)
  obtain ⟨h1, h2⟩ := h i (List.mem_append_right _ (.head _))
  rw [J.np i _ (nd_at (I.hlt i h1)), if_neg, if_pos h1]
  intro hm
  rcases List.mem_append.mp hm with hm | hm
  · exact h2 hm
  · exact hn.2.2 i hm i (.head _) rfl

theorem npAt_foldSet : ∀ (rks : List Nd) (G : List PN) (x : Nd), npAt (rks.foldl (fun G x => setNp G x (-1)) G) x = (npAt G x).map fun v => if x ∈ rks then -1 else v
  | [], G, x => by simp
  | r :: rks, G, x => by
    rw [List.foldl_cons, npAt_foldSet rks, npAt_setNp]
    cases npAt G x with
    | none => rfl
    | some v =>
      simp only [Option.map_some, List.mem_cons]
      by_cases h1 : x = r <;> by_cases h2 : x ∈ rks <;> simp [h1, h2]
theorem succAt_foldSet : ∀ (rks : List Nd) (G : List PN) (x : Nd), succAt (rks.foldl (fun G x => setNp G x (-1)) G) x = succAt G x
  | [], G, x => rfl
  | r :: rks, G, x => by rw [List.foldl_cons, succAt_foldSet rks, succAt_setNp]
theorem idx_at {row : List Nd} {k : Nd} (h : k ∈ row) : row[row.idxOf k]? = some k := by
  rw [List.getElem?_eq_getElem (List.idxOf_lt_length_of_mem h)]
  exact congrArg some (by simp)
theorem Inv.ready {row : List Nd} {es : List (Nat × Nat)} {G : List PN} {rks : List Nd} {handed fin : List Nat} (B : Base row es) (I : Inv row es G rks handed fin) :
    Inv row es (rks.foldl (fun G x => setNp G x (-1)) G) [] (handed ++ rks.map (row.idxOf ·)) fin := by
  have hm : ∀ j k, row[j]? = some k → (j ∈ handed ++ rks.map (row.idxOf ·) ↔ j ∈ handed ∨ k ∈ rks) := fun j k hj => by
    rw [List.mem_append, List.mem_map]
    constructor
    · rintro (h | ⟨x, hx, rfl⟩)
      · exact .inl h
      · rw [idx_at (I.rr x hx)] at hj
        cases hj
        exact .inr hx
    · rintro (h | h)
      · exact .inl h
      · exact .inr ⟨k, h, row_inj B.nodup (idx_at (I.rr k h)) hj⟩
  have hlt : ∀ i ∈ handed ++ rks.map (row.idxOf ·), i < row.length := fun i hi => by
    rcases List.mem_append.mp hi with h | h
    · exact I.hlt i h
    · obtain ⟨x, hx, rfl⟩ := List.mem_map.mp h
      exact List.idxOf_lt_length_of_mem (I.rr x hx)
  have hc : ∀ i ∈ handed ++ rks.map (row.idxOf ·), cnt es fin i = 0 := fun i hi => by
    have hj := nd_at (hlt i hi)
    rcases (hm i _ hj).mp hi with h | h
    · exact I.hc i h
    · exact ((I.rm i _ hj).mp h).2
  refine ⟨?_, I.fn, fun i hi => List.mem_append_left _ (I.sub i hi), hlt, fun j k hj => ?_, fun j k hj => ?_, List.nodup_nil, fun j k hj => ?_, fun k hk => (List.not_mem_nil hk).elim, hc, I.ac⟩
  · rw [List.nodup_append]
    refine ⟨I.hn, ?_, ?_⟩
    · have : ∀ l : List Nd, l.Nodup → (∀ x ∈ l, x ∈ row) → (l.map (row.idxOf ·)).Nodup := by
        intro l
        induction l with
        | nil => intro _ _; exact List.nodup_nil
        | cons x r ih =>
          intro hn hr
          rw [List.nodup_cons] at hn
          rw [List.map_cons, List.nodup_cons]
          refine ⟨fun h => ?_, ih hn.2 fun y hy => hr y (.tail _ hy)⟩
          obtain ⟨y, hy, e⟩ := List.mem_map.mp h
          have h1 := idx_at (hr y (.tail _ hy))
          have h2 := idx_at (hr x (.head _))
          rw [show row.idxOf y = row.idxOf x from e, h2] at h1
          cases h1
          exact hn.1 hy
      exact this rks I.rn I.rr
    · rintro a ha b hb rfl
      obtain ⟨x, hx, rfl⟩ := List.mem_map.mp hb
      exact ((I.rm _ x (idx_at (I.rr x hx))).mp hx).1 ha
  · rw [npAt_foldSet, I.np j k hj, Option.map_some]
    congr 1
    by_cases h1 : k ∈ rks
    · have h2 := (I.rm j k hj).mp h1
      rw [if_pos h1, if_neg (fun h => h2.1 (I.sub j h)), if_pos ((hm j k hj).mpr (.inr h1))]
    · rw [if_neg h1]
      by_cases h3 : j ∈ handed
      · rw [if_pos h3, if_pos ((hm j k hj).mpr (.inl h3))]
      · rw [if_neg h3, if_neg (fun h => (hm j k hj).mp h |>.elim h3 h1)]
  · rw [succAt_foldSet]; exact I.su j k hj
  · constructor
    · intro h; cases h
    · rintro ⟨h1, h2⟩
      exact absurd ((hm j k hj).mpr (.inr ((I.rm j k hj).mpr ⟨fun h => h1 (List.mem_append_left _ h), h2⟩))) h1
end Mine
end
section
open PySem PySem.W PySem.Calls PyProof.Rows
namespace Mine
/-! Warshall -/
theorem getM_setM {n : Nat} {M : List (List Bool)} (h : sq n M) {a b : Nat} (ha : a < n) (hb : b < n) (x y : Nat) : getM (setM M a b) x y = (decide (x = a ∧ y = b) || getM M x y) := by
  obtain ⟨r, hr, _, hl⟩ := sq_get h ha hb
  unfold getM setM
  rw [hr, Option.getD_some]
  by_cases hx : x = a
  · subst hx
    rw [List.getElem?_set_self (by rw [h.1]; exact ha), hr]
    simp only [Option.bind_some]
    by_cases hy : y = b
    · subst hy; rw [List.getElem?_set_self (by omega)]; simp
    · rw [List.getElem?_set_ne (fun e => hy e.symm)]; simp [hy]
  · rw [List.getElem?_set_ne (fun e => hx e.symm)]; simp [hx]
noncomputable def LEM (M M' : List (List Bool)) : Prop := ∀ x y, getM M x y = true → getM M' x y = true
theorem upd_le {n m a b : Nat} {M : List (List Bool)} (h : sq n M) (ha : a < n) (hb : b < n) : LEM M (upd m a M b) := by
  intro x y hxy
  unfold upd
  split
  · rw [getM_setM h ha hb, hxy, Bool.or_true]
  · exact hxy
theorem fold_inv {β : Type} {f : List (List Bool) → β → List (List Bool)} (I : List (List Bool) → Prop) : ∀ (l : List β) {M : List (List Bool)}, (∀ M x, x ∈ l → I M → I (f M x)) → I M → I (l.foldl f M)
  | [], _, _, h => h
  | x :: l, M, hf, h => fold_inv I l (fun M y hy => hf M y (.tail _ hy)) (hf M x (.head _) h)
theorem fold_hit {β : Type} {f : List (List Bool) → β → List (List Bool)} (I P : List (List Bool) → Prop) : ∀ (l : List β) {M : List (List Bool)} {x : β}, (∀ M y, y ∈ l → I M → I (f M y)) → (∀ M y, y ∈ l → I M → P M → P (f M y)) → I M → x ∈ l → (∀ M, I M → P (f M x)) → P (l.foldl f M)
  | [], _, _, _, _, _, hx, _ => by cases hx
  | z :: l, M, x, hI, hP, h, hx, hit => by
    rw [List.foldl_cons]
    rcases List.mem_cons.mp hx with rfl | hx
    · exact (fold_inv (fun M => I M ∧ P M) l (fun M y hy q => ⟨hI M y (.tail _ hy) q.1, hP M y (.tail _ hy) q.1 q.2⟩) ⟨hI M x (.head _) h, hit M h⟩).2
    · exact fold_hit I P l (fun M y hy => hI M y (.tail _ hy)) (fun M y hy => hP M y (.tail _ hy)) (hI M z (.head _) h) hx hit
/-- square and above M0 -/
noncomputable def Abv (n : Nat) (M0 M : List (List Bool)) : Prop := sq n M ∧ LEM M0 M
theorem abv_upd {n m a b : Nat} {M0 M : List (List Bool)} (ha : a < n) (hb : b < n) (h : Abv n M0 M) : Abv n M0 (upd m a M b) := ⟨sq_upd h.1 ha m b, fun x y q => upd_le h.1 ha hb x y (h.2 x y q)⟩
theorem abv_row1 {n m a : Nat} {M0 M : List (List Bool)} (ha : a < n) (h : Abv n M0 M) : Abv n M0 (row1 n m M a) :=
  fold_inv (Abv n M0) _ (fun _ _ hx q => abv_upd ha (List.mem_range.mp hx) q) h
theorem abv_pass {n m : Nat} {M0 M : List (List Bool)} (h : Abv n M0 M) : Abv n M0 (pass n M m) :=
  fold_inv (Abv n M0) _ (fun _ _ hx q => abv_row1 (List.mem_range.mp hx) q) h
theorem row1_hit {n m a b : Nat} {M : List (List Bool)} (ha : a < n) (hb : b < n) (h : sq n M) (h1 : getM M a m = true) (h2 : getM M m b = true) : getM (row1 n m M a) a b = true := by
  refine fold_hit (Abv n M) (fun M => getM M a b = true) _ (fun _ _ hx q => abv_upd ha (List.mem_range.mp hx) q) (fun M' y hy q p => upd_le q.1 ha (List.mem_range.mp hy) a b p) ⟨h, fun _ _ q => q⟩ (List.mem_range.mpr hb) fun M' q => ?_
  unfold upd
  rw [q.2 _ _ h1, q.2 _ _ h2]
  simp only [Bool.and_self, if_true]
  rw [getM_setM q.1 ha hb]; simp
theorem pass_hit {n m a b : Nat} {M : List (List Bool)} (ha : a < n) (hb : b < n) (h : sq n M) (h1 : getM M a m = true) (h2 : getM M m b = true) : getM (pass n M m) a b = true := by
  refine fold_hit (Abv n M) (fun M => getM M a b = true) _ (fun _ _ hx q => abv_row1 (List.mem_range.mp hx) q) (fun M' y hy q p => (abv_row1 (M0 := M') (List.mem_range.mp hy) ⟨q.1, fun _ _ z => z⟩).2 a b p) ⟨h, fun _ _ q => q⟩ (List.mem_range.mpr ha) fun M' q => ?_
  exact row1_hit ha hb q.1 (q.2 _ _ h1) (q.2 _ _ h2)
theorem getM_init {n : Nat} {es : List (Nat × Nat)} (a b : Nat) : getM (init0 n es) a b = true ↔ a < n ∧ b < n ∧ (a, b) ∈ es := by
  unfold getM init0
  by_cases ha : a < n
  · rw [List.getElem?_map, List.getElem?_range ha]
    simp only [Option.map_some, Option.bind_some]
    by_cases hb : b < n
    · rw [List.getElem?_map, List.getElem?_range hb]; simp [ha, hb]
    · rw [List.getElem?_eq_none (by simp; omega)]; simp [hb]
  · rw [List.getElem?_eq_none (by simp; omega)]; simp [ha]
inductive Via (es : List (Nat × Nat)) (m : Nat) : Nat → Nat → Prop where
  | one {a b : Nat} : (a, b) ∈ es → Via es m a b
  | join {a b c : Nat} : Via es m a c → c < m → Via es m c b → Via es m a b
theorem via_succ {es : List (Nat × Nat)} {m a b : Nat} (h : Via es (m + 1) a b) : Via es m a b ∨ (Via es m a m ∧ Via es m m b) := by
  induction h with
  | one e => exact .inl (.one e)
  | @join a b c _ hc _ ih1 ih2 =>
    by_cases e : c = m
    · subst e
      refine .inr ⟨?_, ?_⟩
      · rcases ih1 with h | h
        · exact h
        · exact h.1
      · rcases ih2 with h | h
        · exact h
        · exact h.2
    · have hc : c < m := by omega
      rcases ih1 with h1 | h1 <;> rcases ih2 with h2 | h2
      · exact .inl (.join h1 hc h2)
      · exact .inr ⟨.join h1 hc h2.1, h2.2⟩
      · exact .inr ⟨h1.1, .join h1.2 hc h2⟩
      · exact .inr ⟨h1.1, h2.2⟩
theorem via_lt {es : List (Nat × Nat)} {n m a b : Nat} (hl : ∀ e ∈ es, e.1 < n ∧ e.2 < n) (h : Via es m a b) : a < n ∧ b < n := by
  induction h with
  | one e => exact hl _ e
  | join _ _ _ ih1 ih2 => exact ⟨ih1.1, ih2.2⟩
theorem warsh_ge {n : Nat} {es : List (Nat × Nat)} (hl : ∀ e ∈ es, e.1 < n ∧ e.2 < n) : ∀ m, m ≤ n → sq n ((List.range m).foldl (pass n) (init0 n es)) ∧ ∀ a b, Via es m a b → getM ((List.range m).foldl (pass n) (init0 n es)) a b = true
  | 0, _ => by
    refine ⟨sq_init n es, fun a b h => ?_⟩
    cases h with
    | one e => exact (getM_init a b).mpr ⟨(hl _ e).1, (hl _ e).2, e⟩
    | join _ hc _ => exact absurd hc (Nat.not_lt_zero _)
  | m + 1, hm => by
    obtain ⟨h1, h2⟩ := warsh_ge hl m (by omega)
    rw [List.range_succ, List.foldl_append]
    show sq n (pass n _ m) ∧ ∀ a b, _ → getM (pass n _ m) a b = true
    have := abv_pass (m := m) (M0 := (List.range m).foldl (pass n) (init0 n es)) ⟨h1, fun _ _ q => q⟩
    refine ⟨this.1, fun a b h => ?_⟩
    rcases via_succ h with h | ⟨h, h'⟩
    · exact this.2 _ _ (h2 a b h)
    · exact pass_hit (via_lt hl h).1 (via_lt hl h').2 h1 (h2 _ _ h) (h2 _ _ h')
noncomputable def Snd (n : Nat) (es : List (Nat × Nat)) (M : List (List Bool)) : Prop := sq n M ∧ ∀ a b, getM M a b = true → Reach es a b
theorem snd_upd {n m a b : Nat} {es : List (Nat × Nat)} {M : List (List Bool)} (ha : a < n) (hb : b < n) (h : Snd n es M) : Snd n es (upd m a M b) := by
  refine ⟨sq_upd h.1 ha m b, fun x y q => ?_⟩
  unfold upd at q
  split at q
  · rename_i hc
    rw [getM_setM h.1 ha hb, Bool.or_eq_true] at q
    rw [Bool.and_eq_true] at hc
    rcases q with q | q
    · obtain ⟨rfl, rfl⟩ : x = a ∧ y = b := by simpa using q
      exact (h.2 _ _ hc.1).trans (h.2 _ _ hc.2)
    · exact h.2 _ _ q
  · exact h.2 _ _ q
theorem warsh_snd {n : Nat} {es : List (Nat × Nat)} : Snd n es (warsh n es) :=
  fold_inv (Snd n es) _ (fun _ _ _ q => fold_inv (Snd n es) _ (fun _ _ ha q => fold_inv (Snd n es) _ (fun _ _ hb q => snd_upd (List.mem_range.mp ha) (List.mem_range.mp hb) q) q) q)
    ⟨sq_init n es, fun a b h => .one ((getM_init a b).mp h).2.2⟩
theorem reach_via {es : List (Nat × Nat)} {n a b : Nat} (hl : ∀ e ∈ es, e.1 < n ∧ e.2 < n) (h : Reach es a b) : Via es n a b := by
  induction h with
  | one e => exact .one e
  | step _ e ih => exact .join ih (hl _ e).1 (.one e)
theorem warsh_iff {n : Nat} {es : List (Nat × Nat)} (hl : ∀ e ∈ es, e.1 < n ∧ e.2 < n) (a b : Nat) : getM (warsh n es) a b = true ↔ Reach es a b :=
  ⟨warsh_snd.2 a b, fun h => (warsh_ge hl n (Nat.le_refl _)).2 a b (reach_via hl h)⟩
theorem warsh_sq {n : Nat} {es : List (Nat × Nat)} : sq n (warsh n es) := (warsh_snd (n := n) (es := es)).1

/-! counting -/
theorem nd_len {α : Type} [DecidableEq α] : ∀ {l m : List α}, l.Nodup → (∀ x ∈ l, x ∈ m) → l.length ≤ m.length
  | [], _, _, _ => Nat.zero_le _
  | x :: r, m, hn, h => by
    rw [List.nodup_cons] at hn
    have hx := h x (.head _)
    have := nd_len (l := r) (m := m.erase x) hn.2 fun y hy => (List.mem_erase_of_ne (fun e : y = x => hn.1 (e ▸ hy))).mpr (h y (.tail _ hy))
    rw [List.length_erase_of_mem hx] at this
    have := List.length_pos_of_mem hx
    rw [List.length_cons]; omega
theorem len_lt {l m : List Nat} (hl : l.Nodup) (hm : m.Nodup) (h : ∀ x ∈ l, x ∈ m) : l.length < m.length ↔ ∃ x ∈ m, x ∉ l := by
  constructor
  · intro hlt
    refine Classical.byContradiction fun hno => ?_
    have := nd_len hm fun x hx => Classical.byContradiction fun hx' => hno ⟨x, hx, hx'⟩
    omega
  · rintro ⟨x, hx, hx'⟩
    have := nd_len (l := x :: l) (m := m) (List.nodup_cons.mpr ⟨hx', hl⟩) fun y hy => (List.mem_cons.mp hy).elim (fun e => e ▸ hx) (h y)
    rw [List.length_cons] at this; omega

/-! what is ripe -/
noncomputable def ripeB (es : List (Nat × Nat)) (fin : List Nat) (b : Nat) : Bool := !decide (b ∈ fin) && decide (cnt es fin b = 0)
theorem Inv.active {row : List Nd} {es : List (Nat × Nat)} {G : List PN} {rks : List Nd} {handed fin : List Nat} (I : Inv row es G rks handed fin) :
    (decide ((fin.length : Int) < (handed.length : Int)) || !rks.isEmpty) = !((List.range row.length).filter (ripeB es fin)).isEmpty := by
  rw [Bool.eq_iff_iff, Bool.or_eq_true, decide_eq_true_eq, Int.ofNat_lt, len_lt I.fn I.hn I.sub]
  have e : ∀ l : List Nat, (!l.isEmpty) = true ↔ ∃ x, x ∈ l := fun l => by cases l <;> simp
  have e' : (!rks.isEmpty) = true ↔ ∃ x, x ∈ rks := by cases rks <;> simp
  rw [e, e']
  constructor
  · rintro (⟨x, hx, hx'⟩ | ⟨k, hk⟩)
    · exact ⟨x, List.mem_filter.mpr ⟨List.mem_range.mpr (I.hlt x hx), by simp [ripeB, hx', I.hc x hx]⟩⟩
    · have hj := idx_at (I.rr k hk)
      obtain ⟨h1, h2⟩ := (I.rm _ k hj).mp hk
      refine ⟨row.idxOf k, List.mem_filter.mpr ⟨List.mem_range.mpr (List.idxOf_lt_length_of_mem (I.rr k hk)), ?_⟩⟩
      have h3 : row.idxOf k ∉ fin := fun h => h1 (I.sub _ h)
      simp [ripeB, h2, h3]
  · rintro ⟨x, hx⟩
    obtain ⟨h1, h2⟩ := List.mem_filter.mp hx
    simp only [ripeB, Bool.and_eq_true, Bool.not_eq_true', decide_eq_false_iff_not, decide_eq_true_eq] at h2
    by_cases hh : x ∈ handed
    · exact .inl ⟨x, hh, h2.1⟩
    · exact .inr ⟨_, (I.rm x _ (nd_at (List.mem_range.mp h1))).mpr ⟨hh, h2.2⟩⟩

/-! the end -/
noncomputable def badB (far : Nat → Nat → Bool) (held : List Nat) (b a : Nat) : Bool := far a b && (far a a || decide (a ∈ held))
noncomputable def dueB (n : Nat) (far : Nat → Nat → Bool) (held : List Nat) (b : Nat) : Bool := ((List.range n).filter (badB far held b)).isEmpty
noncomputable def dueL (n : Nat) (far : Nat → Nat → Bool) (held : List Nat) : List Nat := (List.range n).filter (dueB n far held)
theorem dueB_iff {n : Nat} {es : List (Nat × Nat)} {far : Nat → Nat → Bool} {held : List Nat} (hl : ∀ e ∈ es, e.1 < n ∧ e.2 < n) (hf : ∀ a b, far a b = true ↔ Reach es a b) (b : Nat) :
    dueB n far held b = true ↔ ∀ a, Reach es a b → ¬ Reach es a a ∧ a ∉ held := by
  unfold dueB
  rw [List.isEmpty_iff, List.filter_eq_nil_iff]
  constructor
  · intro h a ha
    have := h a (List.mem_range.mpr (via_lt hl (reach_via hl ha)).1)
    simp only [badB, Bool.and_eq_true, Bool.or_eq_true, hf, decide_eq_true_eq, not_and, not_or] at this
    exact this ha
  · intro h a _ hb
    simp only [badB, Bool.and_eq_true, Bool.or_eq_true, hf, decide_eq_true_eq] at hb
    obtain ⟨h1, h2⟩ := h a hb.1
    exact hb.2.elim h1 h2
theorem Inv.anc {row : List Nd} {es : List (Nat × Nat)} {G : List PN} {rks : List Nd} {handed fin : List Nat} (I : Inv row es G rks handed fin) {a b : Nat} (h : Reach es a b) (hb : b ∈ handed) : a ∈ fin := by
  induction h with
  | one e => exact cnt_zero.mp (I.hc _ hb) _ e
  | step _ e ih => exact ih (I.sub _ (cnt_zero.mp (I.hc _ hb) _ e))
theorem Inv.due {row : List Nd} {es : List (Nat × Nat)} {G : List PN} {handed fin held : List Nat} {far : Nat → Nat → Bool} (B : Base row es) (I : Inv row es G [] handed fin) (hleft : ∀ k ∈ handed, k ∈ held ∨ k ∈ fin) (hheld : ∀ k ∈ fin, k ∉ held)
    (hf : ∀ a b, far a b = true ↔ Reach es a b) (b : Nat) : b ∈ handed ↔ b ∈ dueL row.length far held := by
  unfold dueL
  rw [List.mem_filter, List.mem_range, dueB_iff B.lt hf]
  constructor
  · intro hb
    exact ⟨I.hlt b hb, fun a ha => ⟨I.ac a (I.anc ha hb), hheld a (I.anc ha hb)⟩⟩
  · rintro ⟨hb, h⟩
    have key : ∀ N b, b < row.length → (∀ a, Reach es a b → ¬ Reach es a a ∧ a ∉ held) → ((List.range row.length).filter fun x => far x b).length ≤ N → b ∈ handed := by
      intro N
      induction N with
      | zero =>
        intro b hb h hN
        refine Classical.byContradiction fun hh => ?_
        have hnz : cnt es fin b ≠ 0 := fun h0 => by
          have := (I.rm b _ (nd_at hb)).mpr ⟨hh, h0⟩
          cases this
        refine hnz (cnt_zero.mpr fun a ha => ?_)
        have hm : a ∈ (List.range row.length).filter fun x => far x b := List.mem_filter.mpr ⟨List.mem_range.mpr (B.lt _ ha).1, (hf a b).mpr (.one ha)⟩
        have := List.length_pos_of_mem hm
        omega
      | succ N ih =>
        intro b hb h hN
        refine Classical.byContradiction fun hh => ?_
        have hnz : cnt es fin b ≠ 0 := fun h0 => by
          have := (I.rm b _ (nd_at hb)).mpr ⟨hh, h0⟩
          cases this
        refine hnz (cnt_zero.mpr fun a ha => ?_)
        have haR : Reach es a b := .one ha
        have hal := (B.lt _ ha).1
        have hah : a ∈ handed := by
          refine ih a hal (fun c hc => h c (hc.trans haR)) ?_
          have hsub : ∀ x ∈ a :: (List.range row.length).filter fun x => far x a, x ∈ (List.range row.length).filter fun x => far x b := fun x hx => by
            rcases List.mem_cons.mp hx with rfl | hx
            · exact List.mem_filter.mpr ⟨List.mem_range.mpr hal, (hf _ b).mpr haR⟩
            · obtain ⟨h1, h2⟩ := List.mem_filter.mp hx
              exact List.mem_filter.mpr ⟨h1, (hf _ _).mpr (((hf _ _).mp h2).trans haR)⟩
          have hnd : (a :: (List.range row.length).filter fun x => far x a).Nodup := List.nodup_cons.mpr ⟨fun hm => (h a haR).1 ((hf _ _).mp (List.mem_filter.mp hm).2), List.nodup_range.filter _⟩
          have := nd_len hnd hsub
          rw [List.length_cons] at this
          omega
        exact (hleft a hah).elim (fun h' => absurd h' (h a haR).2) id
    exact key _ b hb h (Nat.le_refl _)
theorem Inv.last {row : List Nd} {es : List (Nat × Nat)} {G : List PN} {handed fin held : List Nat} {far : Nat → Nat → Bool} (B : Base row es) (I : Inv row es G [] handed fin) (hleft : ∀ k ∈ handed, k ∈ held ∨ k ∈ fin) (hheld : ∀ k ∈ fin, k ∉ held)
    (hf : ∀ a b, far a b = true ↔ Reach es a b) : decide ((fin.length : Int) < (handed.length : Int)) = !((dueL row.length far held).filter fun b => decide (b ∈ held)).isEmpty := by
  rw [Bool.eq_iff_iff, decide_eq_true_eq, Int.ofNat_lt, len_lt I.fn I.hn I.sub]
  have e : ∀ l : List Nat, (!l.isEmpty) = true ↔ ∃ x, x ∈ l := fun l => by cases l <;> simp
  rw [e]
  constructor
  · rintro ⟨x, hx, hx'⟩
    exact ⟨x, List.mem_filter.mpr ⟨(I.due B hleft hheld hf x).mp hx, by simpa using (hleft x hx).resolve_right hx'⟩⟩
  · rintro ⟨x, hx⟩
    obtain ⟨h1, h2⟩ := List.mem_filter.mp hx
    exact ⟨x, (I.due B hleft hheld hf x).mpr h1, fun h => hheld x h (by simpa using h2)⟩
theorem sorted_eq : ∀ {l m : List Nat}, l.Pairwise (· ≤ ·) → l.Nodup → m.Pairwise (· < ·) → (∀ x, x ∈ l ↔ x ∈ m) → l = m
  | [], [], _, _, _, _ => rfl
  | [], y :: m, _, _, _, h => by have := (h y).mpr (.head _); cases this
  | x :: l, [], _, _, _, h => by have := (h x).mp (.head _); cases this
  | x :: l, y :: m, h1, h2, h3, h => by
    rw [List.pairwise_cons] at h1 h3
    rw [List.nodup_cons] at h2
    have e : x = y := by
      have a := (h x).mp (.head _)
      have b := (h y).mpr (.head _)
      rcases List.mem_cons.mp a with a | a
      · exact a
      · rcases List.mem_cons.mp b with b | b
        · exact b.symm
        · have := h3.1 _ a; have := h1.1 _ b; omega
    subst e
    congr 1
    refine sorted_eq h1.2 h2.2 h3.2 fun z => ?_
    constructor
    · intro hz
      rcases List.mem_cons.mp ((h z).mp (.tail _ hz)) with rfl | q
      · exact absurd hz h2.1
      · exact q
    · intro hz
      rcases List.mem_cons.mp ((h z).mpr (.tail _ hz)) with rfl | q
      · exact absurd (h3.1 _ hz) (Nat.lt_irrefl _)
      · exact q
theorem dueL_sorted (n : Nat) (far : Nat → Nat → Bool) (held : List Nat) : (dueL n far held).Pairwise (· < ·) := List.pairwise_lt_range.filter _

/-! the adds -/
structure Bld (row : List Nd) (es : List (Nat × Nat)) (G : List PN) : Prop where
  base : Base row es
  kn : (G.map (·.key)).Nodup
  ks : ∀ k ∈ G.map (·.key), k ∈ row
  np : ∀ j k, row[j]? = some k → npD G k = (cnt es [] j : Int)
  su : Su row es G
theorem Bld.nil {row : List Nd} (h : row.Nodup) : Bld row [] [] := ⟨⟨h, fun _ h => (List.not_mem_nil h).elim⟩, List.nodup_nil, fun _ h => (List.not_mem_nil h).elim, fun _ _ _ => rfl, fun _ _ _ => rfl⟩
theorem cnt_here (ahead : List Nat) (here j : Nat) : cnt (ahead.map fun k => (k, here)) [] j = if j = here then ahead.length else 0 := by
  induction ahead with
  | nil => simp [cnt]
  | cons a r ih =>
    rw [List.map_cons, cnt_cons, ih]
    by_cases h : j = here
    · subst h; simp; omega
    · rw [if_neg h, if_neg h, if_neg (fun x => h x.1.symm)]
theorem outs_here (ahead : List Nat) (here j : Nat) : outs (ahead.map fun k => (k, here)) j = (ahead.filter fun k => decide (k = j)).map fun _ => here := by
  unfold outs
  rw [List.filter_map, List.map_map]; rfl
theorem Bld.add {row : List Nd} {es : List (Nat × Nat)} {G : List PN} {here : Nat} {ahead : List Nat} (D : Bld row es G) (hh : here < row.length) (ha : ∀ k ∈ ahead, k < row.length) :
    Bld row (es ++ ahead.map fun k => (k, here)) (addG G (nd row here) (ahead.map (nd row))) := by
  have hk := nd_at hh
  have mem : ∀ {j : Nat}, j < row.length → nd row j ∈ row := fun h => List.mem_of_getElem? (nd_at h)
  refine ⟨⟨D.base.nodup, fun e he => ?_⟩, addG_nodup _ _ D.kn, fun k h => ?_, fun j k hj => ?_, fun j k hj => ?_⟩
  · rcases List.mem_append.mp he with he | he
    · exact D.base.lt e he
    · obtain ⟨k, hk', rfl⟩ := List.mem_map.mp he
      exact ⟨ha k hk', hh⟩
  · rcases (addG_keys _ _ _ _).mp h with h | h | h
    · obtain ⟨j, hj, rfl⟩ := List.mem_map.mp h
      exact mem (ha j hj)
    · rw [h]; exact mem hh
    · exact D.ks k h
  · rw [addG_npD, D.np j k hj, cnt_append, cnt_here, List.length_map]
    by_cases e : j = here
    · subst e
      rw [if_pos (nd_of hj).symm, if_pos rfl]; omega
    · rw [if_neg (fun h => e (row_inj D.base.nodup hj (by rw [h]; exact hk))), if_neg e]; omega
  · rw [addG_succ, D.su j k hj]
    have : outs (es ++ ahead.map fun k => (k, here)) j = outs es j ++ outs (ahead.map fun k => (k, here)) j := by unfold outs; rw [List.filter_append, List.map_append]
    rw [this, outs_here, List.map_append, List.filter_map, List.map_map, List.map_map]
    congr 1
    have e : (ahead.filter ((fun p => decide (p = k)) ∘ nd row)) = ahead.filter fun k => decide (k = j) := by
      refine List.filter_congr fun x hx => ?_
      rw [Bool.eq_iff_iff]
      simp only [Function.comp, decide_eq_true_eq]
      constructor
      · intro h; exact row_inj D.base.nodup (by rw [← h]; exact nd_at (ha x hx)) hj
      · rintro rfl; exact nd_of hj
    rw [e]; rfl
theorem readyOf_mem {G : List PN} (hn : (G.map (·.key)).Nodup) (k : Nd) : k ∈ readyOf G ↔ npAt G k = some 0 := by
  induction G with
  | nil => simp [readyOf, npAt]
  | cons e r ih =>
    rw [List.map_cons, List.nodup_cons] at hn
    have ih := ih hn.2
    unfold readyOf npAt at *
    rw [List.filter_cons, List.find?_cons]
    by_cases hk : e.key = k
    · subst hk
      rw [show decide (e.key = e.key) = true by simp]
      by_cases h0 : e.np = 0
      · simp [h0]
      · simp only [h0, decide_false, Bool.false_eq_true, if_false]
        constructor
        · intro h
          obtain ⟨x, hx, hx'⟩ := List.mem_map.mp h
          exact absurd (List.mem_map.mpr ⟨x, (List.mem_filter.mp hx).1, hx'⟩) hn.1
        · intro h; exact absurd (Option.some.inj h) h0
    · rw [show decide (e.key = k) = false by simpa using hk]
      dsimp only
      rw [← ih]
      by_cases h0 : e.np = 0
      · simp only [h0, decide_true, if_true, List.map_cons, List.mem_cons]
        exact ⟨fun h => h.resolve_left fun x => hk x.symm, .inr⟩
      · simp only [h0, decide_false, Bool.false_eq_true, if_false]
theorem Bld.inv {row : List Nd} {es : List (Nat × Nat)} {G : List PN} (D : Bld row es G) (hall : ∀ k ∈ row, k ∈ G.map (·.key)) : Inv row es G (readyOf G) [] [] := by
  have hnp : ∀ j k, row[j]? = some k → npAt G k = some (cnt es [] j : Int) := fun j k hj => by
    have := D.np j k hj
    unfold npD at this
    obtain ⟨e, he⟩ := find_some (hall k (List.mem_of_getElem? hj))
    unfold npAt at this ⊢
    rw [he] at this ⊢
    exact congrArg some this
  refine ⟨List.nodup_nil, List.nodup_nil, fun _ h => (List.not_mem_nil h).elim, fun _ h => (List.not_mem_nil h).elim, fun j k hj => ?_, D.su, ?_, fun j k hj => ?_, fun k hk => ?_, fun _ h => (List.not_mem_nil h).elim, fun _ h => (List.not_mem_nil h).elim⟩
  · rw [hnp j k hj]; simp
  · unfold readyOf
    exact (List.filter_sublist.map _).nodup D.kn
  · rw [readyOf_mem D.kn, hnp j k hj]
    constructor
    · intro h; exact ⟨List.not_mem_nil, by have := Option.some.inj h; omega⟩
    · rintro ⟨_, h⟩; rw [h]; rfl
  · unfold readyOf at hk
    obtain ⟨e, he, rfl⟩ := List.mem_map.mp hk
    exact D.ks _ (List.mem_map.mpr ⟨e, (List.mem_filter.mp he).1, rfl⟩)
end Mine
end
section
open PySem PySem.W PySem.Calls PyProof.Rows
namespace Mine
noncomputable def lawFd (P : Params) : FuncData := match (KH P).lookup 158 with
  | some ⟨_, _, .func fd, _⟩ => fd
  | _ => default
noncomputable def lawB (P : Params) : List Stmt := match (lawFd P).body with
  | .stmts b => b
  | _ => []
noncomputable def lawN (P : Params) : List (Str × NameKind) := (lawFd P).scope.names
noncomputable def bodyOf : List Stmt → List Stmt
  | Stmt.For _ _ b _ _ :: _ => b
  | Stmt.While _ b _ _ :: _ => b
  | _ => []
theorem lawB_len (P : Params) : (lawB P).length = 13 := by rfl
theorem lawFd_at (P : Params) : ∃ o, (KH P).lookup 158 = some o ∧ o.data = .func (lawFd P) := ⟨_, rfl, rfl⟩
/-- the places of the law's cells and of its frame -/
structure LA where
  row : Addr
  edges : Addr
  held : Addr
  here : Addr
  draw : Addr
  fin : Addr
  left : Addr
  pick : Addr
  far : Addr
  C : Addr
/-- what the cells hold -/
structure LV where
  row : Option Value := none
  edges : Option Value := none
  held : Option Value := none
  here : Option Value := none
  draw : Option Value := none
  fin : Option Value := none
  left : Option Value := none
  pick : Option Value := none
  far : Option Value := none
noncomputable def LA.cells (a : LA) : List (Str × Addr) := [(Str.ofString "far", a.far), (Str.ofString "pick", a.pick), (Str.ofString "left", a.left), (Str.ofString "finished", a.fin), (Str.ofString "draw", a.draw), (Str.ofString "here", a.here), (Str.ofString "held", a.held), (Str.ofString "edges", a.edges), (Str.ofString "row", a.row)]
noncomputable def frL (a : LA) (v : LV) (m : List (Str × Value)) : List Ent := [(a.C, NS m), (a.row, CE v.row), (a.edges, CE v.edges), (a.held, CE v.held), (a.here, CE v.here), (a.draw, CE v.draw), (a.fin, CE v.fin), (a.left, CE v.left), (a.pick, CE v.pick), (a.far, CE v.far)]
theorem cells_len {as : List Addr} {P : Params} (h : as.length = (cellNames (lawN P)).length) : ∃ a : LA, ∀ C, ((cellNames (lawN P)).zip as).reverse = ({ a with C := C } : LA).cells ∧ cellEnts as.reverse ++ [(C, NS [])] = (frL { a with C := C } {} []).reverse := by
  have e : (cellNames (lawN P)).length = 9 := by rfl
  rw [e] at h
  match as, h with
  | [c0, c1, c2, c3, c4, c5, c6, c7, c8], _ => exact ⟨⟨c0, c1, c2, c3, c4, c5, c6, c7, c8, 0⟩, fun C => ⟨rfl, rfl⟩⟩
section
variable {P : Params} {M : Model} {A : Around} {E : Value → Shared → Prop} {h₀ : Heap} {os : OsState} {R : List Ent} {s : Shared} {env : Env} {a : LA} {v : LV} {m : List (Str × Value)} {x : Value} {pos : Pos}
theorem lw_loc (X : List Ent) {y : Str} {Q : Value → Shared → Prop} (V : EV env a.C (lawN P) a.cells) (H : St h₀ os (X ++ (frL a v m ++ R)) s) (hv : m.lookup y = some x) (h : Q x s) (hl : (lawN P).lookup y = some .local := by rfl) (hd : (y == ("__debug__" : Str)) = false := by rfl) :
    wpAny M A (eval (.Name y pos) env) Q E s := r_loc V H (List.mem_append_right _ (.head _)) hv h hl hd
theorem lw_sto (X : List Ent) {y : Str} {Q : Unit → Shared → Prop} (V : EV env a.C (lawN P) a.cells) (H : St h₀ os (X ++ (frL a v m ++ R)) s) (h : ∀ s', St h₀ os (X ++ (frL a v (putL m y x) ++ R)) s' → Q () s') (hl : (lawN P).lookup y = some .local := by rfl) :
    wpAny M A (storeName env y x) Q E s := r_sto V H (.right (.left .head)) h hl
theorem fr_row (hv : v.row = some x) : (a.row, CE (some x)) ∈ frL a v m := by rw [← hv]; exact .tail _ (.head _)
theorem ld_row (X : List Ent) {Q : Value → Shared → Prop} (V : EV env a.C (lawN P) a.cells) (H : St h₀ os (X ++ (frL a v m ++ R)) s) (hv : v.row = some x) (h : Q x s) : wpAny M A (eval (.Name (Str.ofString "row") pos) env) Q E s := r_cel V H rfl (List.mem_append_right _ (List.mem_append_left _ (fr_row hv))) h
theorem st_row (X : List Ent) {Q : Unit → Shared → Prop} (V : EV env a.C (lawN P) a.cells) (H : St h₀ os (X ++ (frL a v m ++ R)) s) (h : ∀ s', St h₀ os (X ++ (frL a { v with row := some x } m ++ R)) s' → Q () s') : wpAny M A (storeName env (Str.ofString "row") x) Q E s := r_stc V H rfl (.right (.left (.tail .head))) h
theorem fr_edges (hv : v.edges = some x) : (a.edges, CE (some x)) ∈ frL a v m := by rw [← hv]; exact .tail _ (.tail _ (.head _))
theorem ld_edges (X : List Ent) {Q : Value → Shared → Prop} (V : EV env a.C (lawN P) a.cells) (H : St h₀ os (X ++ (frL a v m ++ R)) s) (hv : v.edges = some x) (h : Q x s) : wpAny M A (eval (.Name (Str.ofString "edges") pos) env) Q E s := r_cel V H rfl (List.mem_append_right _ (List.mem_append_left _ (fr_edges hv))) h
theorem st_edges (X : List Ent) {Q : Unit → Shared → Prop} (V : EV env a.C (lawN P) a.cells) (H : St h₀ os (X ++ (frL a v m ++ R)) s) (h : ∀ s', St h₀ os (X ++ (frL a { v with edges := some x } m ++ R)) s' → Q () s') : wpAny M A (storeName env (Str.ofString "edges") x) Q E s := r_stc V H rfl (.right (.left (.tail (.tail .head)))) h
theorem fr_held (hv : v.held = some x) : (a.held, CE (some x)) ∈ frL a v m := by rw [← hv]; exact .tail _ (.tail _ (.tail _ (.head _)))
theorem ld_held (X : List Ent) {Q : Value → Shared → Prop} (V : EV env a.C (lawN P) a.cells) (H : St h₀ os (X ++ (frL a v m ++ R)) s) (hv : v.held = some x) (h : Q x s) : wpAny M A (eval (.Name (Str.ofString "held") pos) env) Q E s := r_cel V H rfl (List.mem_append_right _ (List.mem_append_left _ (fr_held hv))) h
theorem st_held (X : List Ent) {Q : Unit → Shared → Prop} (V : EV env a.C (lawN P) a.cells) (H : St h₀ os (X ++ (frL a v m ++ R)) s) (h : ∀ s', St h₀ os (X ++ (frL a { v with held := some x } m ++ R)) s' → Q () s') : wpAny M A (storeName env (Str.ofString "held") x) Q E s := r_stc V H rfl (.right (.left (.tail (.tail (.tail .head))))) h
theorem fr_here (hv : v.here = some x) : (a.here, CE (some x)) ∈ frL a v m := by rw [← hv]; exact .tail _ (.tail _ (.tail _ (.tail _ (.head _))))
theorem ld_here (X : List Ent) {Q : Value → Shared → Prop} (V : EV env a.C (lawN P) a.cells) (H : St h₀ os (X ++ (frL a v m ++ R)) s) (hv : v.here = some x) (h : Q x s) : wpAny M A (eval (.Name (Str.ofString "here") pos) env) Q E s := r_cel V H rfl (List.mem_append_right _ (List.mem_append_left _ (fr_here hv))) h
theorem st_here (X : List Ent) {Q : Unit → Shared → Prop} (V : EV env a.C (lawN P) a.cells) (H : St h₀ os (X ++ (frL a v m ++ R)) s) (h : ∀ s', St h₀ os (X ++ (frL a { v with here := some x } m ++ R)) s' → Q () s') : wpAny M A (storeName env (Str.ofString "here") x) Q E s := r_stc V H rfl (.right (.left (.tail (.tail (.tail (.tail .head)))))) h
theorem fr_draw (hv : v.draw = some x) : (a.draw, CE (some x)) ∈ frL a v m := by rw [← hv]; exact .tail _ (.tail _ (.tail _ (.tail _ (.tail _ (.head _)))))
theorem ld_draw (X : List Ent) {Q : Value → Shared → Prop} (V : EV env a.C (lawN P) a.cells) (H : St h₀ os (X ++ (frL a v m ++ R)) s) (hv : v.draw = some x) (h : Q x s) : wpAny M A (eval (.Name (Str.ofString "draw") pos) env) Q E s := r_cel V H rfl (List.mem_append_right _ (List.mem_append_left _ (fr_draw hv))) h
theorem st_draw (X : List Ent) {Q : Unit → Shared → Prop} (V : EV env a.C (lawN P) a.cells) (H : St h₀ os (X ++ (frL a v m ++ R)) s) (h : ∀ s', St h₀ os (X ++ (frL a { v with draw := some x } m ++ R)) s' → Q () s') : wpAny M A (storeName env (Str.ofString "draw") x) Q E s := r_stc V H rfl (.right (.left (.tail (.tail (.tail (.tail (.tail .head))))))) h
theorem fr_fin (hv : v.fin = some x) : (a.fin, CE (some x)) ∈ frL a v m := by rw [← hv]; exact .tail _ (.tail _ (.tail _ (.tail _ (.tail _ (.tail _ (.head _))))))
theorem ld_fin (X : List Ent) {Q : Value → Shared → Prop} (V : EV env a.C (lawN P) a.cells) (H : St h₀ os (X ++ (frL a v m ++ R)) s) (hv : v.fin = some x) (h : Q x s) : wpAny M A (eval (.Name (Str.ofString "finished") pos) env) Q E s := r_cel V H rfl (List.mem_append_right _ (List.mem_append_left _ (fr_fin hv))) h
theorem st_fin (X : List Ent) {Q : Unit → Shared → Prop} (V : EV env a.C (lawN P) a.cells) (H : St h₀ os (X ++ (frL a v m ++ R)) s) (h : ∀ s', St h₀ os (X ++ (frL a { v with fin := some x } m ++ R)) s' → Q () s') : wpAny M A (storeName env (Str.ofString "finished") x) Q E s := r_stc V H rfl (.right (.left (.tail (.tail (.tail (.tail (.tail (.tail .head)))))))) h
theorem fr_left (hv : v.left = some x) : (a.left, CE (some x)) ∈ frL a v m := by rw [← hv]; exact .tail _ (.tail _ (.tail _ (.tail _ (.tail _ (.tail _ (.tail _ (.head _)))))))
theorem ld_left (X : List Ent) {Q : Value → Shared → Prop} (V : EV env a.C (lawN P) a.cells) (H : St h₀ os (X ++ (frL a v m ++ R)) s) (hv : v.left = some x) (h : Q x s) : wpAny M A (eval (.Name (Str.ofString "left") pos) env) Q E s := r_cel V H rfl (List.mem_append_right _ (List.mem_append_left _ (fr_left hv))) h
theorem st_left (X : List Ent) {Q : Unit → Shared → Prop} (V : EV env a.C (lawN P) a.cells) (H : St h₀ os (X ++ (frL a v m ++ R)) s) (h : ∀ s', St h₀ os (X ++ (frL a { v with left := some x } m ++ R)) s' → Q () s') : wpAny M A (storeName env (Str.ofString "left") x) Q E s := r_stc V H rfl (.right (.left (.tail (.tail (.tail (.tail (.tail (.tail (.tail .head))))))))) h
theorem fr_pick (hv : v.pick = some x) : (a.pick, CE (some x)) ∈ frL a v m := by rw [← hv]; exact .tail _ (.tail _ (.tail _ (.tail _ (.tail _ (.tail _ (.tail _ (.tail _ (.head _))))))))
theorem ld_pick (X : List Ent) {Q : Value → Shared → Prop} (V : EV env a.C (lawN P) a.cells) (H : St h₀ os (X ++ (frL a v m ++ R)) s) (hv : v.pick = some x) (h : Q x s) : wpAny M A (eval (.Name (Str.ofString "pick") pos) env) Q E s := r_cel V H rfl (List.mem_append_right _ (List.mem_append_left _ (fr_pick hv))) h
theorem st_pick (X : List Ent) {Q : Unit → Shared → Prop} (V : EV env a.C (lawN P) a.cells) (H : St h₀ os (X ++ (frL a v m ++ R)) s) (h : ∀ s', St h₀ os (X ++ (frL a { v with pick := some x } m ++ R)) s' → Q () s') : wpAny M A (storeName env (Str.ofString "pick") x) Q E s := r_stc V H rfl (.right (.left (.tail (.tail (.tail (.tail (.tail (.tail (.tail (.tail .head)))))))))) h
theorem fr_far (hv : v.far = some x) : (a.far, CE (some x)) ∈ frL a v m := by rw [← hv]; exact .tail _ (.tail _ (.tail _ (.tail _ (.tail _ (.tail _ (.tail _ (.tail _ (.tail _ (.head _)))))))))
theorem ld_far (X : List Ent) {Q : Value → Shared → Prop} (V : EV env a.C (lawN P) a.cells) (H : St h₀ os (X ++ (frL a v m ++ R)) s) (hv : v.far = some x) (h : Q x s) : wpAny M A (eval (.Name (Str.ofString "far") pos) env) Q E s := r_cel V H rfl (List.mem_append_right _ (List.mem_append_left _ (fr_far hv))) h
theorem st_far (X : List Ent) {Q : Unit → Shared → Prop} (V : EV env a.C (lawN P) a.cells) (H : St h₀ os (X ++ (frL a v m ++ R)) s) (h : ∀ s', St h₀ os (X ++ (frL a { v with far := some x } m ++ R)) s' → Q () s') : wpAny M A (storeName env (Str.ofString "far") x) Q E s := r_stc V H rfl (.right (.left (.tail (.tail (.tail (.tail (.tail (.tail (.tail (.tail (.tail .head))))))))))) h
end
end Mine
end
section
open PySem PySem.W PySem.Calls PyProof.Rows
namespace Mine
theorem nodeOf_fit (x : Int) : (nodeOf x).fit = true := by
  unfold nodeOf
  split
  · rfl
  · have h1 := Int.emod_nonneg (x / 2) (show (26 : Int) ≠ 0 by decide)
    have h2 := Int.emod_lt_of_pos (x / 2) (show (0 : Int) < 26 by decide)
    generalize x / 2 % 26 = y at h1 h2
    obtain ⟨n, rfl⟩ := Int.eq_ofNat_of_zero_le h1
    have h3 : n < 26 := by omega
    clear h1 h2
    have : ∀ n : Nat, n < 26 → (Nd.c ⟨#[(97 + (n : Int)).toNat]⟩).fit = true := by decide +kernel
    exact this n h3
theorem ints_iv {vs : List Value} {xs : List Int} (h : IntsAre vs xs) : All2 IV vs xs := by
  induction h with
  | nil => exact .nil
  | cons n t _ ih => exact .cons ⟨t, rfl⟩ ih
/-- the row: the script's nodes, each once -/
structure RowOf (xs : List Int) (row : List Nd) : Prop where
  nodup : row.Nodup
  mem : ∀ y, y ∈ row ↔ y ∈ (thirds xs).map nodeOf
  len : row.length ≤ 21
theorem RowOf.fit {xs : List Int} {row : List Nd} (h : RowOf xs row) : ∀ y ∈ row, y.fit = true := fun y hy => by
  obtain ⟨x, _, rfl⟩ := List.mem_map.mp ((h.mem y).mp hy)
  exact nodeOf_fit x
theorem thirds_len (xs : List Int) : (thirds xs).length ≤ (xs.length + 2) / 3 := by
  unfold thirds
  have := List.length_filterMap_le (fun j => xs[3 * j]?) (List.range ((xs.length + 2) / 3))
  rw [List.length_range] at this
  exact this
section
variable {prog : Program} {w : World} {A : Around} {E : Value → Shared → Prop} {h₀ : Heap} {os : OsState} {R : List Ent} {s : Shared} {env : Env} {a : LA} {v : LV} {m : List (Str × Value)}
theorem law_row {k : Nat} (B : BF w h₀) (hA : Calm A (k + 1)) (V : EV env a.C (lawN w.params) a.cells) {l : Addr} {vs : List Value} {xs : List Int} (hl : h₀.IsList l vs.toArray) (hvs : IntsAre vs xs) (hz : xs.length < 64) (hm : m.lookup (Str.ofString "script") = some (.ref l))
    (H : St h₀ os (frL a v m ++ R) s) {Q : Flow → Shared → Prop}
    (h : ∀ ra rvs row m' s', RowOf xs row → All2 ND rvs row → m'.lookup (Str.ofString "script") = some (.ref l) → St h₀ os (frL a { v with row := some (.ref ra) } m' ++ (ra, LI rvs) :: R) s' → wpAny (model prog w) A (execs ((lawB w.params).drop 2) env) Q E s') :
    wpAny (model prog w) A (execs (lawB w.params) env) Q E s := by
  have hvl : vs.length = xs.length := (ints_iv hvs).length
  refine wpAny_execs_cons (wpAny_Assign_Name (r_List0 H fun ra s₁ H₁ => st_row [_] V H₁ fun s₂ H₂ => ?_))
  refine wpAny_execs_cons (wpAny_For (r_thirds hl hvs (b20 (by rw [hvl]; exact Nat.le_of_lt (Nat.lt_of_lt_of_le hz (by decide)))) (lw_loc [_] V H₂ hm ⟨rfl, r_int H₂ fun t s₃ H₃ => ⟨t, _, rfl, H₃, fun ta ws s₄ hws H₄ => ?_⟩⟩)))
  refine r_iter_list (xs := thirds xs) H₄ (.head _) fun ia s₅ H₅ => ?_
  have H₆ : St h₀ os (listJ ia ta (thirds xs) (thirds xs) ++ (frL a { v with row := some (.ref ra) } m ++ ((ta, LI ws) :: (ra, LI []) :: R))) s₅ := by
    refine H₅.perm (List.Perm.append_left _ ?_)
    exact List.perm_append_comm_assoc [_, _] (frL a { v with row := some (.ref ra) } m) R
  refine r_forLoop1 (nexts_list (R := IV) ia ta (thirds xs)) (σ := List Value × List (Str × Value)) (fun c => frL a { v with row := some (.ref ra) } c.2 ++ ((ta, LI ws) :: (ra, LI c.1) :: R))
    (fun rem c => c.2.lookup (Str.ofString "script") = some (.ref l) ∧ ∃ done row, thirds xs = done ++ rem ∧ All2 ND c.1 row ∧ row.Nodup ∧ (∀ y, y ∈ row ↔ y ∈ done.map nodeOf) ∧ row.length ≤ done.length) hA.handled (fun _ c _ => ⟨ws, ints_iv hws, List.mem_append_right _ (.head _)⟩) ?_ ?_ (c := ([], m))
    ⟨hm, [], [], rfl, .nil, List.nodup_nil, by simp, by simp⟩ H₆
  · rintro Q1 E1 xv x rem ⟨rvs, m2⟩ sa hxv ⟨hm2, done, row, hd, hrv, hrn, hrm, hrl⟩ Ha hQ1
    dsimp only at hm2 hrv Ha
    have hle : done.length ≤ 21 := by
      have h1 := congrArg List.length hd
      rw [List.length_append] at h1
      have h2 := thirds_len xs
      omega
    have hfit : ∀ y ∈ row, y.fit = true := fun y hy => by
      obtain ⟨x, _, rfl⟩ := List.mem_map.mp ((hrm y).mp hy)
      exact nodeOf_fit x
    refine wpAny_assign_Name (lw_sto _ V Ha fun sb Hb => ?_)
    refine wpAny_execs_cons (wpAny_If (r_cmp1 (r_callN (r_glo V Hb (B.glob _ (.ref 148) (by decide)) (r_cw Hb (keeps_frag B.K (by kernel_rfl)) (lw_loc _ V Hb putL_eq ⟨_, Hb, law_node_spec B hA Hb hxv fun nv sc hnv Hc => ?_⟩))))))
    refine ld_row _ V Hc rfl (r_notInN hA.u Hc (List.mem_append_right _ (List.mem_append_right _ (.tail _ (.head _)))) hrv hnv hfit (nodeOf_fit x) (wpAny_truthy_bool ?_))
    by_cases hin : nodeOf x ∈ row
    · rw [if_neg (by simp [hin])]
      refine wpAny_execs_nil (wpAny_execs_nil (hQ1 (rvs, _) _ ⟨putL_ne hm2, done ++ [x], row, by simp [hd], hrv, hrn, fun y => ?_, by rw [List.length_append]; exact Nat.le_succ_of_le hrl⟩ Hc))
      rw [hrm, List.map_append, List.mem_append]
      constructor
      · exact .inl
      · rintro (h | h)
        · exact h
        · simp at h; rw [h]; exact (hrm _).mp hin
    · rw [if_pos (by simp [hin])]
      refine wpAny_execs_cons (wpAny_Expr (r_callM (ld_row _ V Hc rfl (r_mlist PySem.F.slot_list_append PySem.F.type_list_append Hc (List.mem_append_right _ (List.mem_append_right _ (.tail _ (.head _)))) (r_cw Hc (keeps_builtin _) ?_)))) V.inter)
      refine r_callN (r_glo V Hc (B.glob _ (.ref 148) (by decide)) (r_cw Hc (keeps_frag B.K (by kernel_rfl)) (lw_loc _ V Hc putL_eq ⟨_, Hc, law_node_spec B hA Hc hxv fun nv2 sd hnv2 Hd => ⟨_, Hd, ?_⟩⟩)))
      have hrl2 := hrv.length
      refine r_append Hd (.right (.right (.tail .head))) (fun se He => wpAny_execs_nil (wpAny_execs_nil (hQ1 (rvs ++ [nv2], _) _ ⟨putL_ne hm2, done ++ [x], row ++ [nodeOf x], by simp [hd], hrv.snoc hnv2, ?_, fun y => ?_, by rw [List.length_append, List.length_append]; exact Nat.add_le_add_right hrl 1⟩ He))) (ssz (by rw [hrl2]; exact Nat.le_trans hrl hle))
      · rw [List.nodup_append]
        refine ⟨hrn, by simp, ?_⟩
        rintro b hb c hc rfl
        simp at hc
        exact hin (hc ▸ hb)
      · simp only [List.mem_append, hrm, List.map_append, List.map_cons, List.map_nil]
  · rintro ⟨rvs, m2⟩ sa ⟨hm2, done, row, hd, hrv, hrn, hrm, hrl⟩ Ha
    dsimp only at hm2 hrv Ha
    obtain rfl : thirds xs = done := by simpa using hd
    have h2 := thirds_len xs
    refine h ra rvs row m2 sa ⟨hrn, hrm, by omega⟩ hrv hm2 (Ha.sub ?_)
    exact (List.Sublist.refl _).append (.cons _ (List.Sublist.refl _))
end
end Mine
end
section
open PySem PySem.W PySem.Calls PyProof.Rows
namespace Mine
section
variable {prog : Program} {w : World} {A : Around} {E : Value → Shared → Prop} {h₀ : Heap} {os : OsState} {R : List Ent} {s : Shared} {env : Env} {a : LA} {v : LV} {m : List (Str × Value)}
/-- a slice of a new list -/
theorem r_sliceA {value : Expr} {lower upper : Option Expr} {p pos : Pos} {Q : Value → Shared → Prop}
    (h : wpAny (model prog w) A (eval value env) (fun o s₁ => wpAny (model prog w) A (evalPart lower env) (fun vl s₂ => wpAny (model prog w) A (evalPart upper env) (fun vu s₃ =>
      ∃ L l xs lo hi, o = .ref l ∧ St h₀ os L s₃ ∧ (l, LI xs) ∈ L ∧ xs.length < 2 ^ 20 ∧ IsPart vl lo ∧ IsPart vu hi ∧ ∀ a s', St h₀ os ((a, LI (slicePick xs.toArray lo hi none).toList) :: L) s' → Q (.ref a) s') E s₂) E s₁) E s) :
    wpAny (model prog w) A (eval (.Subscript value (.Slice lower upper none p) pos) env) Q E s := by
  refine Subscript_ (wpAny_mono h (fun o s₁ h₁ => wpAny_Slice (wpAny_mono h₁ (fun vl s₂ h₂ => wpAny_mono h₂ (fun vu s₃ h₃ => ?_) fun _ _ e => e) fun _ _ e => e)) fun _ _ e => e)
  obtain ⟨L, l, xs, lo, hi, rfl, H, hm, hz, p1, p2, hQ⟩ := h₃
  refine wpAny_pure ?_
  have H2 := H.push (o := { cls := .type "slice", data := .fields #[vl, vu, .none] }) (P := fun _ => True) rfl trivial
  refine tail_any (H2.list (.tail _ hm)).typeIs PySem.F.slot_list_getitem.lookup (wpAny_getItem_list_slice (st := none) (H2.list (.tail _ hm)) (Heap.IsSliceOf.new ..) p1 p2 .none (by simp) ?_ (by rw [List.size_toArray, sizeLine_eq]; omega)) rfl
  have H3 := H2.push (o := { cls := .type "list", data := .seq (slicePick xs.toArray lo hi none) }) (P := LI (slicePick xs.toArray lo hi none).toList) rfl ⟨0, by simp⟩
  exact hQ _ _ (H3.bring 1).tail
theorem law_new {k : Nat} (B : BF w h₀) (hA : Calm A (k + 2)) (V : EV env a.C (lawN w.params) a.cells) (H : St h₀ os (frL a v m ++ R) s) {Q : Flow → Shared → Prop}
    (h : ∀ ea ha pa (S : So) s', S.nis = [] → S.ready = .none → S.passed = 0 → S.fin = 0 →
      St h₀ os (frL a { v with edges := some (.ref ea), held := some (.ref ha) } (putL (putL m (Str.ofString "sorter") (.ref S.self)) (Str.ofString "picks") (.ref pa)) ++ ((pa, LI []) :: (ha, LI []) :: (ea, LI []) :: (S.L prog w ++ R))) s' → wpAny (model prog w) A (execs ((lawB w.params).drop 4) env) Q E s') :
    wpAny (model prog w) A (execs ((lawB w.params).drop 2) env) Q E s := by
  refine wpAny_execs_cons (wpAny_Assign_Name (r_callN (r_glo V H (B.glob _ (.ref 137) (by decide)) (r_cw H (keeps_frag B.K (by kernel_rfl)) ⟨_, H, new_sorter B hA H fun S s₁ h1 h2 h3 h4 H₁ => ?_⟩))))
  refine lw_sto [] V (St.mid _ (frL a v m) H₁) fun s₂ H₂ => ?_
  refine wpAny_execs_cons (r_AssignT (r_Tuple rfl (r_List0 H₂ fun ea s₃ H₃ => r_List0 H₃ fun ha s₄ H₄ => r_List0 H₄ fun pa s₅ H₅ => ⟨_, H₅, by rw [sizeLine_eq]; exact Nat.le_of_ble_eq_true rfl, fun ta s₆ H₆ => ?_⟩)) (swapped_ev V (by rfl)))
  refine r_asTup hA.handled H₆ (.inr (.head _)) fun s₇ H₇ => ?_
  refine wpAny_assign_Name (st_edges [_, _, _, _] V H₇ fun s₈ H₈ => wpAny_assign_Name (st_held [_, _, _, _] V H₈ fun s₉ H₉ => wpAny_assign_Name (lw_sto [_, _, _, _] V H₉ fun sa Ha => ?_)))
  exact h ea ha pa S sa h1 h2 h3 h4 (St.mid [_, _, _] (frL a _ _) Ha.tail)
end
end Mine
end
section
open PySem PySem.W PySem.Calls PyProof.Rows
namespace Mine
noncomputable def lawFor (P : Params) : List Stmt := bodyOf ((lawB P).drop 4)
theorem All2.lenEq {α β : Type} {R : α → β → Prop} {l : List α} {m : List β} (h : All2 R l m) : l.length = m.length := h.length
theorem two_of {l : List Value} {zs : List Int} (h : All2 IV l zs) {i : Nat} (hi : i + 3 ≤ l.length) : ∃ dv tv dr th, (l.drop (i + 1)).take 2 = [dv, tv] ∧ IV dv dr ∧ IV tv th := by
  obtain ⟨d, h1, h2⟩ := h.get' (List.getElem?_eq_getElem (show i + 1 < l.length by omega))
  obtain ⟨t, h3, h4⟩ := h.get' (List.getElem?_eq_getElem (show i + 2 < l.length by omega))
  refine ⟨_, _, d, t, ?_, h2, h4⟩
  rw [List.drop_eq_getElem_cons (by omega), List.take_succ_cons, List.drop_eq_getElem_cons (by omega), List.take_succ_cons, List.take_zero]
/-- the state of the building -/
structure BW where
  v : LV
  m : List (Str × Value)
  evs : List Value
  hvs : List Value
  pvs : List Value
  S : So
  T : List Ent
noncomputable def bwL (prog : Program) (w : World) (a : LA) (ra ea ha pa : Addr) (rvs : List Value) (c : BW) : List Ent :=
  frL a c.v c.m ++ ((pa, LI c.pvs) :: (ha, LI c.hvs) :: (ea, LI c.evs) :: (c.S.L prog w ++ (ra, LI rvs) :: c.T))
structure BI (xs : List Int) (row : List Nd) (l ra ea ha pa : Addr) (n : Nat) (c : BW) : Prop where
  script : c.m.lookup (Str.ofString "script") = some (.ref l)
  sorter : c.m.lookup (Str.ofString "sorter") = some (.ref c.S.self)
  picks : c.m.lookup (Str.ofString "picks") = some (.ref pa)
  vrow : c.v.row = some (.ref ra)
  vedges : c.v.edges = some (.ref ea)
  vheld : c.v.held = some (.ref ha)
  ok : okN c.S.nis
  rdy : c.S.ready = .none
  passed : c.S.passed = 0
  fin : c.S.fin = 0
  exs : ∃ es held pk, EDG c.T c.evs es ∧ All2 NV c.hvs held ∧ All2 IV c.pvs pk ∧ Bld row es (absN c.S.nis) ∧ es.length ≤ 21 * n ∧ held.length ≤ n ∧ pk.length = n
  sb : sbound (absN c.S.nis) (21 * n)
  keys : ∀ j, j < n → ∀ x, xs[3 * j]? = .some x → nodeOf x ∈ (absN c.S.nis).map (·.key)
theorem BI.len {xs : List Int} {row : List Nd} {l ra ea ha pa : Addr} {n : Nat} {c : BW} (h : BI xs row l ra ea ha pa n c) (hr : row.length ≤ 21) : c.S.nis.length ≤ 21 := by
  obtain ⟨es, held, pk, _, _, _, D, _⟩ := h.exs
  have := nd_len h.ok.2 (m := row) fun x hx => D.ks x (by rw [absN_keys]; exact hx)
  rw [List.length_map] at this
  omega
theorem EDG.mono {F G : List Ent} {evs : List Value} {es : List (Nat × Nat)} (h : EDG F evs es) (hs : ∀ e ∈ F, e ∈ G) : EDG G evs es := All2.imp (fun _ _ ⟨t, x, y, e, hm, h1, h2⟩ => ⟨t, x, y, e, hs _ hm, h1, h2⟩) h
theorem kf_m87 (P : Params) : findIn (KH P) (.ref 137) (Str.ofString "add") = some (some (.ref 87)) ∧ typeIn (KH P) (.ref 87) = some (.type "function") ∧ specialIn (KH P) (.ref 87) "__get__" = some (some (.builtin "function.__get__")) ∧ takesIn (KH P) (.ref 87) = some false ∧ fnIn (KH P) 87 = true := ⟨by kernel_rfl, by kernel_rfl, by kernel_rfl, by kernel_rfl, by kernel_rfl⟩
section
variable {prog : Program} {w : World} {A : Around} {E : Value → Shared → Prop} {h₀ : Heap} {os : OsState} {R X : List Ent} {s : Shared} {env : Env} {a : LA}
theorem law_turn {k : Nat} (B : BF w h₀) (hA : Calm A (k + 6)) (V : EV env a.C (lawN w.params) a.cells) {l ra ea ha pa : Addr} {vs rvs : List Value} {xs : List Int} {row : List Nd} (hl : h₀.IsList l vs.toArray) (hvs : IntsAre vs xs) (hz : xs.length < 64) (hro : RowOf xs row) (hrv : All2 ND rvs row)
    {n : Nat} {iv : Value} {c : BW} (hi : 3 * n < xs.length) (I : BI xs row l ra ea ha pa n c) (hiv : NV iv (3 * n)) (hm : c.m.lookup (Str.ofString "i") = some iv) (H : St h₀ os (X ++ bwL prog w a ra ea ha pa rvs c) s) {Q : Flow → Shared → Prop}
    (h : ∀ c' s', BI xs row l ra ea ha pa (n + 1) c' → St h₀ os (X ++ bwL prog w a ra ea ha pa rvs c') s' → Q .next s') :
    wpAny (model prog w) A (execs (lawFor w.params) env) Q E s := by
  obtain ⟨v, m, evs, hvs', pvs, S, T⟩ := c
  have hlen := I.len hro.len
  have hrl := hro.len
  have hrvl := hrv.length
  obtain ⟨es, held, pk, hes, hhe, hpk, DB, hel, hhl, hpl⟩ := I.exs
  have hvl : vs.length = xs.length := (ints_iv hvs).length
  obtain ⟨ti, rfl⟩ := hiv
  unfold bwL at H
  dsimp only at H hm hlen hes hhe hpk DB
  have hu := hA.u
  have hrvl' : rvs.length ≤ 21 := by rw [hrvl]; exact hrl
  have h3n : 3 * n ≤ 1000 := Nat.le_of_lt (Nat.lt_of_lt_of_le (Nat.lt_trans hi hz) (by decide))
  have hn21 := third_21 hi hz
  have hvz : vs.length < 64 := by rw [hvl]; exact hz
  have hvn : 3 * n < vs.length := by rw [hvl]; exact hi
  obtain ⟨xv, hxv⟩ : ∃ xv, vs[3 * n]? = some xv := ⟨_, List.getElem?_eq_getElem hvn⟩
  obtain ⟨x, hx, hxi⟩ := (ints_iv hvs).get' hxv
  have hxin : nodeOf x ∈ row := (hro.mem _).mpr (List.mem_map_of_mem (by
    unfold thirds
    exact List.mem_filterMap.mpr ⟨n, List.mem_range.mpr (third_lt hi), hx⟩))
  obtain ⟨Rs, hRs⟩ : ∃ Rs, Rs = (pa, LI pvs) :: (ha, LI hvs') :: (ea, LI evs) :: (S.L prog w ++ (ra, LI rvs) :: T) := ⟨_, rfl⟩
  have rin : ∀ X' : List Ent, ∀ v' m', (ra, LI rvs) ∈ X' ++ (frL a v' m' ++ Rs) := fun X' v' m' => by
    rw [hRs]
    exact List.mem_append_right _ (List.mem_append_right _ (.tail _ (.tail _ (.tail _ (List.mem_append_right _ (.head _))))))
  rw [← hRs] at H
  -- here
  refine r_cons fun Q1 E1 hQ1 => (wpAny_Assign_Name (r_callM (ld_row X V H I.vrow ?_)))
  refine r_mlist PySem.F.slot_list_index PySem.F.type_list_index H (rin X _ _) (r_cw H (keeps_builtin _) ?_)
  refine r_callN (r_glo V H (B.glob _ (.ref 148) (by decide)) (r_cw H (keeps_frag B.K (by kernel_rfl)) ?_))
  refine Subscript_ (lw_loc X V H I.script (lw_loc X V H hm (r_subB H hl (b40 h3n) hxv ⟨_, H, ?_⟩)))
  refine law_node_spec (k := k) B (hA.le (Nat.add_le_add_left (by decide) k)) H hxi fun nv s₁ hnv H₁ => ⟨_, H₁, ?_⟩
  refine r_index hu H₁ (rin X _ _) hrv hnv hro.fit hxin (s20 hrl) fun t₁ s₂ H₂ => st_here X V H₂ fun s₃ H₃ => ?_
  have hhere : row.idxOf (nodeOf x) < row.length := List.idxOf_lt_length_of_mem hxin
  have hhat : row[row.idxOf (nodeOf x)]? = some (nodeOf x) := idx_at hxin
  generalize row.idxOf (nodeOf x) = here at hhere hhat H₃
  obtain ⟨v0, hv0⟩ : ∃ v0 : LV, v0 = { v with here := some (.int here t₁) } := ⟨_, rfl⟩
  have vr : v0.row = some (.ref ra) := by rw [hv0]; exact I.vrow
  have ve : v0.edges = some (.ref ea) := by rw [hv0]; exact I.vedges
  have vh : v0.held = some (.ref ha) := by rw [hv0]; exact I.vheld
  have vi : v0.here = some (.int here t₁) := by rw [hv0]
  rw [← hv0] at H₃
  clear hv0
  -- draw, third
  refine hQ1 _ ?_
  refine r_cons fun Q1 E1 hQ1 => (r_AssignT (r_sliceA (h₀ := h₀) (os := os) (wpAny_BinOp (lw_loc X V H₃ I.script (r_List (h₀ := h₀) (os := os) rfl ?_)))) rfl)
  refine r_int H₃ fun z1 s₄ H₄ => r_int H₄ fun z2 s₅ H₅ => ⟨_, H₅, by rw [sizeLine_eq]; exact Nat.le_of_ble_eq_true rfl, fun za s₆ H₆ => ?_⟩
  refine r_addB (ys := [.int 0 z1, .int 0 z2]) H₆ hl (.head _) (b20 (plus2 hvz)) fun sa s₇ H₇ => ?_
  refine evalPart_some_step (wpAny_BinOp (lw_loc (_ :: _ :: X) V H₇ hm (r_int H₇ fun _ s₈ H₈ => r_add H₈ fun ta s₉ H₉ => ?_)))
  refine evalPart_some_step (wpAny_BinOp (lw_loc (_ :: _ :: X) V H₉ hm (r_int H₉ fun _ sb Hb => r_add Hb fun tb sc Hc => ?_)))
  refine ⟨_, sa, _, some ((3 * n + 1 : Nat) : Int), some ((3 * n + 3 : Nat) : Int), rfl, Hc, .head _, by rw [List.length_append]; exact b20 (plus2 hvz), .int _ _, .int _ _, fun pa' sd Hd => ?_⟩
  obtain ⟨dv, tv, dr, th, hdt, hdv, htv⟩ := two_of (i := 3 * n) ((ints_iv hvs).append (.cons ⟨z1, rfl⟩ (.cons ⟨z2, rfl⟩ .nil))) (by rw [List.length_append]; exact Nat.add_le_add_right hvn 2)
  rw [slicePick_run _ _ _ (by rw [List.size_toArray, List.length_append]; exact Nat.add_le_add_right hvn 2) (Nat.add_le_add_left (by decide) _), sub2, List.toList_toArray, hdt] at Hd
  have He := ((Hd.bring 1).tail.bring 1).tail
  refine r_asTup hA.handled He (.inl (.head _)) fun se Hf => wpAny_assign_Name (st_draw (_ :: X) V Hf fun sf Hg => wpAny_assign_Name (lw_sto (_ :: X) V Hg fun sg Hh => ?_))
  obtain ⟨td, rfl⟩ := hdv
  obtain ⟨tt, rfl⟩ := htv
  obtain ⟨v1, hv1⟩ : ∃ v1 : LV, v1 = { v0 with draw := some (.int dr td) } := ⟨_, rfl⟩
  obtain ⟨m1, hm1⟩ : ∃ m1, m1 = putL m (Str.ofString "third") (.int th tt) := ⟨_, rfl⟩
  have K₁ : St h₀ os (X ++ (frL a v1 m1 ++ Rs)) sg := by rw [hv1, hm1]; exact Hh.tail
  replace vr : v1.row = some (.ref ra) := by rw [hv1]; exact vr
  replace ve : v1.edges = some (.ref ea) := by rw [hv1]; exact ve
  replace vh : v1.held = some (.ref ha) := by rw [hv1]; exact vh
  replace vi : v1.here = some (.int here t₁) := by rw [hv1]; exact vi
  have vd : v1.draw = some (.int dr td) := by rw [hv1]
  have ms : m1.lookup (Str.ofString "sorter") = some (.ref S.self) := by rw [hm1]; exact putL_ne I.sorter
  have mp : m1.lookup (Str.ofString "picks") = some (.ref pa) := by rw [hm1]; exact putL_ne I.picks
  have mc : m1.lookup (Str.ofString "script") = some (.ref l) := by rw [hm1]; exact putL_ne I.script
  have mt : m1.lookup (Str.ofString "third") = some (.int th tt) := by rw [hm1]; exact putL_eq
  clear Hh hv1 hm1
  -- reach
  refine hQ1 _ ?_
  refine r_cons fun Q1 E1 hQ1 => (wpAny_Assign_Name (wpAny_mono (Q := fun vv s' => ∃ (r : Nat) (t : Tok), vv = .int r t ∧ r ≤ row.length ∧ St h₀ os (X ++ (frL a v1 m1 ++ Rs)) s') ?_ (fun vv s' hvv => ?_) fun _ _ e => e))
  · refine wpAny_IfExp (r_cmp1 (wpAny_BinOp (ld_draw X V K₁ vd (r_int K₁ fun _ s1 K1 => r_mod K1 (by decide) fun _ s2 K2 => r_int K2 fun _ s3 K3 => r_eqI (wpAny_truthy_bool ?_)))))
    by_cases h31 : dr % 32 = 31
    · rw [show (dr % 32 == 31) = true by simpa using h31, if_pos rfl]
      refine r_callN (r_glo V K3 (B.glob _ (.builtin "len") (by decide)) (r_cw K3 (keeps_builtin _) (ld_row X V K3 vr ⟨_, K3, r_lenL K3 (rin X _ _) (s40 hrvl') fun t s4 K4 => ⟨row.length, t, ?_, Nat.le_refl _, K4⟩⟩)))
      rw [hrvl]
    · rw [show (dr % 32 == 31) = false by simpa using h31, if_neg (by simp)]
      exact ld_here X V K3 vi ⟨here, t₁, rfl, Nat.le_of_lt hhere, K3⟩
  obtain ⟨r, tr, rfl, hr, K₂⟩ := hvv
  have hr21 := Nat.le_trans hr hrl
  refine lw_sto X V K₂ fun s1 K₃ => ?_
  -- ahead
  obtain ⟨p, hp⟩ : ∃ p : Nat → Bool, p = fun y => (dr / 2 ^ y % 2 == 1) := ⟨_, rfl⟩
  refine hQ1 _ ?_
  refine r_cons fun Q1 E1 hQ1 => (r_AssignComp (h₀ := h₀) (os := os) (Z := fun D out L' => All2 NV out (((List.range r).filter p).map fun y => y) ∧ L' = X ++ (frL a v1 (putL m1 (Str.ofString "reach") (.int r tr)) ++ Rs)) (swaps_ev V true (by rfl)) ?_ ?_ V (closureFor_ev V rfl))
  · refine r_callN (r_glo V K₃ (B.glob _ (.type "range") (by decide)) (r_cw K₃ (keeps_type _) (lw_loc X V K₃ putL_eq ⟨_, K₃, r_range1 K₃ fun rg s2 K2 => r_iter_rng1 K2 (.head _) (s40 hr21) fun ia s3 K3 => ?_⟩)))
    rw [upBy_range] at K3
    refine comp0 (nexts_rng ia 1) V p (fun y => y) NV hA.handled (fun _ _ => trivial) (by rw [List.length_range]; exact ssz hr21) (List.sublist_cons_self ..) ?_ ?_ K3
    · intro cenv Cl E' G m' kv y s' Vc hk' hkv hy Hs
      obtain ⟨tk, rfl⟩ := hkv
      have hy' : y < r := List.mem_range.mp hy
      refine r_tests1 (r_cmp1 (wpAny_BinOp (wpAny_BinOp (r_cel (c := a.draw) Vc Hs rfl (List.mem_append_right _ (.tail _ (.tail _ (List.mem_append_right _ (List.mem_append_left _ (fr_draw vd)))))) (wpAny_BinOp ?_)))))
      have hy21 := lt21 hy' hr21
      refine r_int Hs fun _ s4 K4 => r_loc Vc K4 (List.mem_append_right _ (.head _)) hk' (r_pow2 K4 (s1k hy21) fun _ s5 K5 => r_div K5 (Int.pow_pos (by decide)) (two_lt hy21) fun _ s6 K6 => r_int K6 fun _ s7 K7 => r_mod K7 (by decide) fun _ s8 K8 => r_int K8 fun _ s9 K9 => r_eqI (wpAny_truthy_bool ⟨?_, K9⟩))
      rw [hp]
    · intro cenv Cl E' G m' kv y s' Vc hk' hkv hy _ Hs
      exact r_loc Vc Hs (List.mem_append_right _ (.head _)) hk' ⟨hkv, Hs⟩
  rintro D out L' ⟨hout, rfl⟩
  refine ⟨_, _, .right (.left .head), fun s2 K₄ => ?_⟩
  rw [List.map_id'] at hout
  have hahd : ∀ y ∈ (List.range r).filter p, y < row.length := fun y hy => by
    exact Nat.lt_of_lt_of_le (List.mem_range.mp (List.mem_filter.mp hy).1) hr
  have hahl : ((List.range r).filter p).length ≤ 21 := by
    have := List.length_filter_le p (List.range r)
    rw [List.length_range] at this
    exact Nat.le_trans this hr21
  generalize (List.range r).filter p = ahd at hout hahd hahl
  clear hp p
  -- add
  have mk : ∀ m' : List (Str × Value), m' = putL (putL m1 (Str.ofString "reach") (.int r tr)) (Str.ofString "ahead") (.ref D) → m'.lookup (Str.ofString "sorter") = some (.ref S.self) ∧ m'.lookup (Str.ofString "picks") = some (.ref pa) ∧ m'.lookup (Str.ofString "script") = some (.ref l) ∧ m'.lookup (Str.ofString "third") = some (.int th tt) ∧ m'.lookup (Str.ofString "ahead") = some (.ref D) := by
    rintro m' rfl
    exact ⟨putL_ne (putL_ne ms), putL_ne (putL_ne mp), putL_ne (putL_ne mc), putL_ne (putL_ne mt), putL_eq⟩
  generalize hm3 : putL (putL m1 (Str.ofString "reach") (.int r tr)) (Str.ofString "ahead") (.ref D) = m3 at K₄
  replace K₄ : St h₀ os ((D, LI out) :: (X ++ (frL a v1 m3 ++ Rs))) s2 := K₄
  obtain ⟨ms, mp, mc, mt, ma⟩ := mk m3 hm3.symm
  clear mk hm3
  have hSin : ∀ Y : List Ent, ∀ e ∈ S.L prog w, e ∈ Y ++ (X ++ (frL a v1 m3 ++ Rs)) := fun Y e he => by
    rw [hRs]
    exact List.mem_append_right _ (List.mem_append_right _ (List.mem_append_right _ (.tail _ (.tail _ (.tail _ (List.mem_append_left _ he))))))
  obtain ⟨f1, f2, f3, f4, f5⟩ := kf_m87 w.params
  refine hQ1 _ ?_
  refine r_cons fun Q1 E1 hQ1 => (wpAny_Expr (r_callMS (lw_loc (_ :: X) V K₄ ms (r_bound K₄ B.K (hSin [_] _ (.head _)) (hSin [_] _ (.tail _ (.head _))) (kf_get137 _ _) (kf_dict137 _) f1 f2 f3 f4 rfl rfl fun q s3 K₅ => ?_))) V.inter)
  obtain ⟨hv0, hhv0, hnd0⟩ := hrv.get hhat
  refine r_cwMS (h₀ := h₀) (os := os) (self := .ref S.self) B.K f5 rfl (r_star2 (h₀ := h₀) (os := os) rfl (Subscript_ (ld_row (_ :: _ :: X) V K₅ vr (ld_here (_ :: _ :: X) V K₅ vi (r_subL K₅ (rin (_ :: _ :: X) _ _) (s40 (lt21 hhere hrl)) hhv0 ?_)))))
  refine r_ListComp (h₀ := h₀) (os := os) (Z := fun D2 out2 L' => All2 ND out2 ((ahd.filter fun _ => true).map (nd row)) ∧ L' = (q, METH (.ref 87) (.ref S.self)) :: (D, LI out) :: (X ++ (frL a v1 m3 ++ Rs))) ?_ ?_ (closureFor_ev V rfl)
  · refine lw_loc (_ :: _ :: X) V K₅ ma (r_iter_list (xs := ahd) K₅ (.tail _ (.head _)) fun ia s4 K₆ => ?_)
    refine comp0 (nexts_list (R := NV) ia D ahd) V (fun _ => true) (nd row) ND hA.handled (fun _ _ => ⟨out, hout, .tail _ (.tail _ (.tail _ (.head _)))⟩) (ssz hahl) (List.Sublist.refl _) ?_ ?_ K₆
    · intro cenv Cl E' G m' kv y s' Vc hk' hkv hy Hs
      exact r_tests0 ⟨rfl, Hs⟩
    · intro cenv Cl E' G m' kv y s' Vc hk' hkv hy _ Hs
      obtain ⟨tk, rfl⟩ := hkv
      obtain ⟨yv, hyv, hynd⟩ := hrv.get (nd_at (hahd y hy))
      have hy' := hahd y hy
      refine Subscript_ (r_cel (c := a.row) Vc Hs rfl (List.mem_append_right _ (.tail _ (.tail _ (.tail _ (List.mem_append_right _ (List.mem_append_left _ (fr_row vr))))))) (r_loc Vc Hs (List.mem_append_right _ (.head _)) hk' (r_subL Hs (List.mem_append_right _ (.tail _ (rin (_ :: _ :: X) _ _))) (s40 (lt21 hy' hrl)) hyv ⟨hynd, Hs⟩)))
  rintro D2 out2 L' s4 ⟨hout2, rfl⟩ K₆
  rw [List.filter_eq_self.mpr (fun _ _ => rfl)] at hout2
  have ho2 := hout2.length
  rw [List.length_map] at ho2
  have ho21 : out2.length ≤ 21 := by rw [ho2]; exact hahl
  refine ⟨_, D2, out2, rfl, K₆, .head _, s20 ho21, fun s5 K₇ => ⟨rfl, _, K₇, .tail _ (.head _), ?_⟩⟩
  obtain ⟨Y, hY⟩ : ∃ Y, Y = (D2, LI out2) :: (q, METH (.ref 87) (.ref S.self)) :: (D, LI out) :: (X ++ (frL a v1 m3 ++ [(pa, LI pvs), (ha, LI hvs'), (ea, LI evs)])) := ⟨_, rfl⟩
  have eY : ∀ S' : So, (D2, LI out2) :: (q, METH (.ref 87) (.ref S.self)) :: (D, LI out) :: (X ++ (frL a v1 m3 ++ ((pa, LI pvs) :: (ha, LI hvs') :: (ea, LI evs) :: (S'.L prog w ++ (ra, LI rvs) :: T)))) = Y ++ (S'.L prog w ++ (ra, LI rvs) :: T) := fun S' => by rw [hY]; simp
  rw [hRs, eY S] at K₇
  refine add_spec (k := k) B hA (S := S) ⟨I.ok.1, I.ok.2, s1k hlen, by rw [show S.ready = .none from I.rdy]; rfl⟩ I.rdy (St.mid Y (S.L prog w) K₇) hnd0 hout2 (sum800 hlen ho21) I.sb (szn hn21 ho21) fun nis' s6 hok hab hnl K₈ => ?_
  replace K₈ := St.mid _ Y K₈
  rw [← eY { S with nis := nis' }] at K₈
  replace K₈ := K₈.tail.tail
  clear K₇ K₆ hSin eY hY Y
  -- edges
  have hEin : ∀ Y : List Ent, (ea, LI evs) ∈ Y ++ ((D, LI out) :: (X ++ (frL a v1 m3 ++ ((pa, LI pvs) :: (ha, LI hvs') :: (ea, LI evs) :: (({ S with nis := nis' } : So).L prog w ++ (ra, LI rvs) :: T))))) := fun Y => List.mem_append_right _ (.tail _ (List.mem_append_right _ (List.mem_append_right _ (.tail _ (.tail _ (.head _))))))
  refine hQ1 _ ?_
  refine r_cons fun Q1 E1 hQ1 => (wpAny_Expr (r_callM (ld_edges (_ :: X) V K₈ ve (r_mlist PySem.F.slot_list_extend PySem.F.type_list_extend K₈ (hEin []) (r_cw K₈ (keeps_builtin _) ?_)))) V.inter)
  obtain ⟨LE, hLE⟩ : ∃ LE, LE = (D, LI out) :: (X ++ (frL a v1 m3 ++ ((pa, LI pvs) :: (ha, LI hvs') :: (ea, LI evs) :: (({ S with nis := nis' } : So).L prog w ++ (ra, LI rvs) :: T)))) := ⟨_, rfl⟩
  refine r_ListComp (h₀ := h₀) (os := os) (Z := fun D3 out3 L' => ∃ T', EDG T' out3 (ahd.map fun y => (y, here)) ∧ L' = T' ++ LE) ?_ ?_ (closureFor_ev V rfl)
  · refine lw_loc (_ :: X) V K₈ ma (r_iter_list (xs := ahd) K₈ (.head _) fun ia s7 K₉ => ?_)
    rw [← hLE] at K₉
    have hDin : (D, LI out) ∈ LE := by rw [hLE]; exact .head _
    have hhin : (a.here, CE (some (.int here t₁))) ∈ LE := by rw [hLE]; exact .tail _ (List.mem_append_right _ (List.mem_append_left _ (fr_here vi)))
    refine ⟨_, _, _, _, _, _, nexts_list (R := NV) ia D ahd, K₉, fun D3 Cl as s8 hl8 Ka => ?_⟩
    obtain rfl : as = [] := List.length_eq_zero_iff.mp hl8
    refine r_compLoop1 (nexts_list (R := NV) ia D ahd) (σ := List (Str × Value) × List Ent) (fun c => (Cl, NS c.1) :: (c.2 ++ LE)) (fun rem o3 c => ∃ done, ahd = done ++ rem ∧ EDG c.2 o3 (done.map fun y => (y, here))) hA.handled
      (fun _ _ c _ => ⟨out, hout, .tail _ (.tail _ (List.mem_append_right _ hDin))⟩) ?_ ?_ ?_ (c := ([], [])) ⟨[], rfl, .nil⟩ Ka
    · rintro rem o3 c ⟨done, hd, ho⟩
      have h1 := ho.length
      have h2 := congrArg List.length hd
      rw [List.length_map] at h1
      rw [List.length_append] at h2
      rw [h1, ← h2]; exact ssz hahl
    · rintro Q1 E1 kv y rem o3 ⟨m4, T4⟩ s9 hkv ⟨done, hd, ho⟩ Kb hQ1
      dsimp only at ho Kb
      refine wpAny_assign_Name (r_sto (V.comp (by rfl)) Kb (.right (.tail .head)) fun sa Kc => ?_)
      refine r_Tuple rfl (r_loc (V.comp (by rfl)) Kc (List.mem_append_right _ (.tail _ (.head _))) putL_eq (r_cel (c := a.here) (V.comp (by rfl)) Kc (by rfl) (List.mem_append_right _ (.tail _ (.tail _ (List.mem_append_right _ hhin)))) ⟨_, Kc, by rw [sizeLine_eq]; exact Nat.le_of_ble_eq_true rfl, fun tp sb Kd => ?_⟩))
      refine hQ1 _ (putL m4 (Str.ofString "k") kv, (tp, TU [kv, .int here t₁]) :: T4) _ ⟨done ++ [y], by simp [hd], ?_⟩ ?_
      · rw [List.map_append]
        exact (ho.mono fun e he => .tail _ he).snoc ⟨tp, _, _, rfl, .head _, hkv, ⟨t₁, rfl⟩⟩
      · exact Kd.perm (List.perm_middle (l₁ := [_, _, _])).symm
    · rintro o3 ⟨m4, T4⟩ s9 ⟨done, hd, ho⟩ Kb
      dsimp only at ho Kb
      obtain rfl : ahd = done := by simpa using hd
      exact ⟨m4, o3, _, trivial, Kb.bring 1, T4, ho, rfl⟩
  rintro D3 out3 L' s7 ⟨T', hT', rfl⟩ K₉
  have ho3 := hT'.length
  rw [List.length_map] at ho3
  have ho321 : out3.length ≤ 21 := by rw [ho3]; exact hahl
  have hevl := hes.length
  subst hLE
  refine ⟨_, K₉, r_extend (ys := out3) K₉ (.tail (.right (.tail (.right (.right (.tail (.tail .head))))))) (.head _) (sum20e (by rw [hevl]; exact hel) hn21 ho321) fun s8 Ka => ?_⟩
  have Kb : St h₀ os (X ++ (frL a v1 m3 ++ ((pa, LI pvs) :: (ha, LI hvs') :: (ea, LI (evs ++ out3)) :: (({ S with nis := nis' } : So).L prog w ++ (ra, LI rvs) :: (T' ++ T))))) s8 := by
    have Kc := Ka.tail.sub ((List.sublist_cons_self (D, LI out) _).append_left T')
    have e1 : ∀ U : List Ent, X ++ (frL a v1 m3 ++ ((pa, LI pvs) :: (ha, LI hvs') :: (ea, LI (evs ++ out3)) :: (({ S with nis := nis' } : So).L prog w ++ (ra, LI rvs) :: U))) = (X ++ (frL a v1 m3 ++ ((pa, LI pvs) :: (ha, LI hvs') :: (ea, LI (evs ++ out3)) :: (({ S with nis := nis' } : So).L prog w ++ [(ra, LI rvs)])))) ++ U := fun U => by simp
    rw [e1]
    refine Kc.perm ?_
    refine (List.Perm.of_eq ?_).trans (List.perm_append_comm_assoc T' (X ++ (frL a v1 m3 ++ ((pa, LI pvs) :: (ha, LI hvs') :: (ea, LI (evs ++ out3)) :: (({ S with nis := nis' } : So).L prog w ++ [(ra, LI rvs)])))) T)
    rw [← e1]
  -- held
  obtain ⟨Rt, hRt⟩ : ∃ Rt, Rt = (ea, LI (evs ++ out3)) :: (({ S with nis := nis' } : So).L prog w ++ (ra, LI rvs) :: (T' ++ T)) := ⟨_, rfl⟩
  rw [← hRt] at Kb
  have hhvl := hhe.length
  refine hQ1 _ ?_
  refine r_cons fun Q1 E1 hQ1 => (wpAny_mono (Q := fun f s' => f = .next ∧ ∃ hvs2 held2, All2 NV hvs2 held2 ∧ held2.length ≤ n + 1 ∧ St h₀ os (X ++ (frL a v1 m3 ++ ((pa, LI pvs) :: (ha, LI hvs2) :: Rt))) s') ?_ (fun f s' hf => ?_) fun _ _ e => e)
  · refine wpAny_If (r_cmp1 (wpAny_BinOp (lw_loc X V Kb mt (r_int Kb fun _ s1 K1 => r_mod K1 (by decide) fun _ s2 K2 => r_int K2 fun _ s3 K3 => r_eqI (wpAny_truthy_bool ?_)))))
    by_cases h43 : th % 4 = 3
    · rw [show (th % 4 == 3) = true by simpa using h43, if_pos rfl]
      refine wpAny_execs_cons (wpAny_Expr (r_callM (ld_held X V K3 vh (r_mlist PySem.F.slot_list_append PySem.F.type_list_append K3 (List.mem_append_right _ (List.mem_append_right _ (.tail _ (.head _)))) (r_cw K3 (keeps_builtin _) (ld_here X V K3 vi ⟨_, K3, ?_⟩))))) V.inter)
      exact r_append K3 (.right (.right (.tail .head))) (fun s4 K4 => wpAny_execs_nil ⟨rfl, _, held ++ [here], hhe.snoc ⟨t₁, rfl⟩, by rw [List.length_append]; exact Nat.add_le_add_right hhl 1, K4⟩) (ssz (by rw [hhvl]; exact Nat.le_trans hhl hn21))
    · rw [show (th % 4 == 3) = false by simpa using h43, if_neg (by simp)]
      exact wpAny_execs_nil ⟨rfl, hvs', held, hhe, Nat.le_succ_of_le hhl, K3⟩
  obtain ⟨rfl, hvs2, held2, hhe2, hhl2, Kc⟩ := hf
  -- picks
  have hpvl := hpk.length
  refine hQ1 _ ?_
  refine r_cons fun Q1 E1 hQ1 => (wpAny_Expr (r_callM (lw_loc X V Kc mp (r_mlist PySem.F.slot_list_append PySem.F.type_list_append Kc (List.mem_append_right _ (List.mem_append_right _ (.head _))) (r_cw Kc (keeps_builtin _) (wpAny_BinOp (lw_loc X V Kc mt (r_int Kc fun _ s1 K1 => r_div K1 (by decide) (by decide) fun tq s2 K2 => ⟨_, K2, ?_⟩))))))) V.inter)
  refine r_append K2 (.right (.right .head)) (fun s3 K3 => hQ1 _ (wpAny_execs_nil ?_)) (ssz (by rw [hpvl, hpl]; exact hn21))
  subst hRt
  refine h ⟨v1, m3, evs ++ out3, hvs2, pvs ++ [Value.int (th / 4) tq], { S with nis := nis' }, T' ++ T⟩ s3 ⟨mc, ms, mp, vr, ve, vh, hok, I.rdy, I.passed, I.fin, ⟨es ++ ahd.map fun y => (y, here), held2, pk ++ [th / 4], ?_, hhe2, hpk.snoc ⟨tq, rfl⟩, ?_, ?_, hhl2, by simp [hpl]⟩, ?_, ?_⟩ K3
  · exact (hes.mono fun e he => List.mem_append_right _ he).append (hT'.mono fun e he => List.mem_append_left _ he)
  · show Bld row _ (absN nis')
    rw [hab, ← nd_of hhat]
    exact DB.add hhere hahd
  · rw [List.length_append, List.length_map]; exact Nat.add_le_add hel hahl
  · show sbound (absN nis') _
    rw [hab]
    have := sbound_addG (k := nodeOf x) (ps := ahd.map (nd row)) I.sb
    rw [List.length_map] at this
    intro e he
    exact Nat.le_trans (this e he) (Nat.add_le_add_left hahl _)
  · intro j hj x' hx'
    show nodeOf x' ∈ (absN nis').map (·.key)
    rw [hab, addG_keys]
    by_cases e : j = n
    · subst e
      rw [hx] at hx'
      cases hx'
      exact .inr (.inl rfl)
    · exact .inr (.inr (I.keys j (Nat.lt_of_le_of_ne (Nat.le_of_lt_succ hj) e) x' hx'))
end
end Mine
end
section
open PySem PySem.W PySem.Calls PyProof.Rows
namespace Mine
theorem rsize3 (n : Nat) : Builtin.Range.rangeSize 0 n 3 = ((n + 2) / 3 : Nat) := by
  unfold Builtin.Range.rangeSize
  simp only [show (3 : Int) > 0 by decide, if_true]
  split <;> omega
theorem lt3 {x n d : Nat} (h : (x + 2) / 3 - n = d + 1) : 3 * n < x := by omega
theorem lt3a {y n d : Nat} (h : y - n = d + 1) : n + 1 ≤ y := by omega
theorem lt3b {y n d : Nat} (h : y - n = d + 1) : y - (n + 1) = d := by omega
theorem small3 : ∀ n : Nat, n < 64 → Builtin.Range.small 0 n 3 = true := by decide +kernel
section
variable {prog : Program} {w : World} {A : Around} {E : Value → Shared → Prop} {h₀ : Heap} {os : OsState} {R X : List Ent} {s : Shared} {env : Env} {a : LA}
theorem law_build {k : Nat} (B : BF w h₀) (hA : Calm A (k + 6)) (V : EV env a.C (lawN w.params) a.cells) {l ra ea ha pa : Addr} {vs rvs : List Value} {xs : List Int} {row : List Nd} (hl : h₀.IsList l vs.toArray) (hvs : IntsAre vs xs) (hz : xs.length < 64) (hro : RowOf xs row) (hrv : All2 ND rvs row)
    {c : BW} (I : BI xs row l ra ea ha pa 0 c) (H : St h₀ os (bwL prog w a ra ea ha pa rvs c) s) {Q : Flow → Shared → Prop}
    (h : ∀ c' s', BI xs row l ra ea ha pa ((xs.length + 2) / 3) c' → St h₀ os (bwL prog w a ra ea ha pa rvs c') s' → wpAny (model prog w) A (execs ((lawB w.params).drop 5) env) Q E s') :
    wpAny (model prog w) A (execs ((lawB w.params).drop 4) env) Q E s := by
  have hvl : vs.length = xs.length := (ints_iv hvs).length
  refine wpAny_execs_cons (wpAny_For (r_callN (r_glo V H (B.glob _ (.type "range") (by decide)) (r_cw H (keeps_type _) (r_int H fun t₀ s₁ H₁ => ?_)))))
  refine r_callN (r_glo V H₁ (B.glob _ (.builtin "len") (by decide)) (r_cw H₁ (keeps_builtin _) (lw_loc [] V H₁ I.script ⟨_, H₁, r_lenB H₁ hl (b40 (by rw [hvl]; exact Nat.le_of_lt (Nat.lt_of_lt_of_le hz (by decide)))) fun t₁ s₂ H₂ => r_int H₂ fun t₂ s₃ H₃ => ⟨_, H₃, ?_⟩⟩)))
  refine r_range3 H₃ (by decide) (PyProof.noPylong_small (by decide)) fun rg s₄ H₄ => ?_
  refine r_iter_rng (i := 0) (c' := 3) (j := (xs.length + 2) / 3) H₄ (.head _) (by rw [hvl]; exact small3 _ hz) rfl rfl (by rw [hvl]; exact rsize3 _) fun ia s₅ H₅ => ?_
  have H₆ := (H₅.bring 1).tail
  refine r_forLoop (nexts_rng ia 3) (σ := BW) (fun c => bwL prog w a ra ea ha pa rvs c) (fun rem c => ∃ n, BI xs row l ra ea ha pa n c ∧ n ≤ (xs.length + 2) / 3 ∧ rem = upBy 3 (3 * n) ((xs.length + 2) / 3 - n)) hA.handled (fun _ _ _ => trivial) ?_ ?_ (c := c) ⟨0, I, Nat.zero_le _, rfl⟩ H₆
  · rintro iv i rem c s₆ hiv ⟨n, J, hn, hrem⟩ H₇
    obtain ⟨d, hd⟩ : ∃ d, (xs.length + 2) / 3 - n = d := ⟨_, rfl⟩
    rw [hd] at hrem
    cases d with
    | zero => cases hrem
    | succ d =>
      unfold upBy at hrem
      injection hrem with e1 e2
      subst e1
      refine wpAny_assign_Name (lw_sto (rngJ ia 3 rem) V H₇ fun s₇ H₈ => ?_)
      have J' : BI xs row l ra ea ha pa n { c with m := putL c.m (Str.ofString "i") iv } := ⟨putL_ne J.script, putL_ne J.sorter, putL_ne J.picks, J.vrow, J.vedges, J.vheld, J.ok, J.rdy, J.passed, J.fin, J.exs, J.sb, J.keys⟩
      refine law_turn (k := k) B hA V hl hvs hz hro hrv (lt3 hd) J' hiv putL_eq H₈ fun c' s₈ J₂ H₉ => ?_
      exact ⟨c', ⟨n + 1, J₂, lt3a hd, by rw [e2, lt3b hd]; rfl⟩, H₉⟩
  · rintro c s₆ ⟨n, J, hn, hrem⟩ H₇
    have : (xs.length + 2) / 3 = n := by
      have := congrArg List.length hrem
      rw [upBy_len] at this
      simp at this
      omega
    subst this
    exact h c s₆ J H₇
/-- the law's own error caught -/
theorem r_handle {K : Frag} {e : Addr} {cls c : Value} {t : Expr} {b₀ : Stmt} {suite : List Stmt} {pos : Pos} {rest : List ExceptHandler} {Q : Flow → Shared → Prop} (X : K.In h₀) (hx : exmOne K cls c = some true)
    (h : wpAny (model prog w) (A.mark (some (.ref e))) (eval t env) (fun c' s₁ => c' = c ∧ ∃ L vs, St h₀ os L s₁ ∧ (e, FLD cls vs) ∈ L ∧
      wpAny (model prog w) (A.mark (some (.ref e))) (setFlight (.ref e) none) (fun _ s₂ => wpAny (model prog w) (A.mark (some (.ref e))) (execs (b₀ :: suite) env) Q (notedBy (model prog w) (A.mark (some (.ref e))) env (cameBackBy (model prog w) A env E)) s₂) (notedBy (model prog w) (A.mark (some (.ref e))) env (cameBackBy (model prog w) A env E)) s₁)
      (notedBy (model prog w) (A.mark (some (.ref e))) env (cameBackBy (model prog w) A env E)) s) :
    wpAny (model prog w) A (handleBy (.ref e) env (.ExceptHandler (some t) none (b₀ :: suite) pos :: rest)) Q E s := by
  refine wpAny_handleBy_cons (codeAny_handlers_test (wpAny_mono h (fun c' s₁ h₁ => ?_) fun _ _ x => x)) (by intro q; cases q)
  obtain ⟨rfl, L, vs, H, hm, hk⟩ := h₁
  obtain ⟨o, ho, hc, _⟩ := H.get hm
  have LT : Looks (model prog w) s₁.heap (typeOf (.ref e)) cls := by
    rw [← hc]
    exact (Looks.ld (part := none) ho).andThen .now
  refine (exm_one (H.frag X) LT hx).here ?_
  exact codeAny_handlers_suite hk
theorem kf_m92 (P : Params) : findIn (KH P) (.ref 137) (Str.ofString "prepare") = some (some (.ref 92)) ∧ typeIn (KH P) (.ref 92) = some (.type "function") ∧ keepIn (KH P) (.ref 92) = true := ⟨by kernel_rfl, by kernel_rfl, by kernel_rfl⟩
theorem law_prepare {k : Nat} (B : BF w h₀) (hA : Calm A (k + 6)) (hfr : A.frames = some [env]) (hfC : env.frame = some a.C) (V : EV env a.C (lawN w.params) a.cells) {m : List (Str × Value)} {v : LV} {S : So} (hS : okN S.nis) (hr : S.ready = .none) (hcl : ∀ n ∈ S.nis, ∀ x ∈ n.succ, x ∈ S.nis.map (·.key)) (hz : S.nis.length < 900) (hz2 : ∀ n ∈ S.nis, n.svs.length < 2 ^ 20)
    (hm : m.lookup (Str.ofString "sorter") = some (.ref S.self)) (H : St h₀ os (frL a v m ++ (X ++ (S.L prog w ++ R))) s) {Q : Flow → Shared → Prop}
    (h : ∀ ya yvs s', All2 ND yvs (readyOf (absN S.nis)) → St h₀ os (frL a v m ++ (X ++ (({ S with ready := .ref ya } : So).L prog w ++ (ya, LI yvs) :: R))) s' → wpAny (model prog w) A (execs ((lawB w.params).drop 6) env) Q E s') :
    wpAny (model prog w) A (execs ((lawB w.params).drop 5) env) Q E s := by
  have eX : ∀ U : List Ent, frL a v m ++ (X ++ U) = (frL a v m ++ X) ++ U := fun U => by simp
  obtain ⟨f1, f2, f3⟩ := kf_m92 w.params
  have inS : ∀ e ∈ S.L prog w, e ∈ frL a v m ++ (X ++ (S.L prog w ++ R)) := fun e he => List.mem_append_right _ (List.mem_append_right _ (List.mem_append_left _ he))
  refine wpAny_execs_cons (wpAny_Try_except ?_)
  refine wpAny_execs_cons (wpAny_Expr (r_callM (lw_loc [] V H hm (r_meth H B.K (inS _ (.head _)) (inS _ (.tail _ (.head _))) (kf_get137 _ _) f1 f2 rfl (r_cw H (keeps_frag B.K f3) ⟨_, H, ?_⟩)))) V.inter)
  have H₁ := H
  rw [eX] at H₁
  have fr : Frs [env] ((frL a v m ++ X) ++ R) := fun g hg => by
    rw [List.mem_singleton.mp hg]
    exact ⟨by rw [V.kind]; decide, a.C, m, hfC, List.mem_append_left _ (List.mem_append_left _ (.head _))⟩
  refine prepare_spec (k := k) B hA hfr fr hS hr hcl hz hz2 (St.mid _ (S.L prog w) H₁) ?_ ?_
  · intro ya yvs s₁ hy H₂
    refine wpAny_execs_nil (wpAny_execs_nil (h ya yvs s₁ hy ?_))
    rw [eX]
    refine H₂.perm ?_
    refine ((List.Perm.append_left _ (List.perm_middle (l₁ := frL a v m ++ X)).symm).trans ?_)
    exact List.perm_append_comm_assoc ..
  · intro ya yvs e T fs ts s₁ hy h1 h3 H₂
    have hin : ∀ g ∈ (frL a v m ++ X) ++ R, g ∈ ({ S with ready := .ref ya } : So).L prog w ++ (ya, LI yvs) :: ((frL a v m ++ X) ++ R) := fun g hg => List.mem_append_right _ (.tail _ hg)
    refine r_noteOn hfr (fr.mono hin) hfC H₂ h1 h3 fun T2 ts2 s₂ h32 H₃ => ?_
    have hs1 : 1 < fs.size := (Array.getElem?_eq_some_iff.mp h1).1
    have hs3 : 3 < ts2.size := (Array.getElem?_eq_some_iff.mp h32).1
    have hT : (fs.setIfInBounds 1 (Value.ref T2))[1]? = some (.ref T2) := by simp [hs1]
    refine r_land H₃ hT hs3 fun s₃ H₄ => ?_
    refine r_handle (h₀ := h₀) (os := os) (c := .ref 55) (cls := .ref 55) B.K (by kernel_rfl) (r_glo V H₄ (B.glob _ (.ref 55) (by decide)) ⟨rfl, _, _, H₄, .tail _ (.head _), ?_⟩)
    refine r_land H₄ hT (by simpa using hs3) fun s₄ H₅ => ?_
    refine wpAny_execs_cons (wpAny_Pass (wpAny_execs_nil ?_))
    refine h ya yvs s₄ hy ?_
    rw [eX]
    refine H₅.tail.tail.perm ?_
    refine ((List.Perm.append_left _ (List.perm_middle (l₁ := frL a v m ++ X)).symm).trans ?_)
    exact List.perm_append_comm_assoc ..
end
end Mine
end
section
open PySem PySem.W PySem.Calls PyProof.Rows
namespace Mine
theorem succ_ok {row : List Nd} {es : List (Nat × Nat)} {nis : List NI} (hb : Base row es) (hok : okN nis) (hsu : Su row es (absN nis)) (hk : ∀ k ∈ (absN nis).map (·.key), k ∈ row) : ∀ n ∈ nis, (∀ x ∈ n.succ, x ∈ row) ∧ n.succ.length ≤ es.length := by
  intro n hn
  obtain ⟨i, hi⟩ := List.getElem?_of_mem hn
  have hin : n.key ∈ row := hk _ (by rw [absN_keys]; exact List.mem_map_of_mem hn)
  have e := hsu _ _ (idx_at hin)
  rw [succAt_abs hok.2 hi] at e
  rw [e]
  refine ⟨fun x hx => ?_, ?_⟩
  · obtain ⟨j, hj, rfl⟩ := List.mem_map.mp hx
    exact List.mem_of_getElem? (nd_at (hb.lt _ (outs_mem.mp hj)).2)
  · rw [List.length_map]
    unfold outs
    rw [List.length_map]
    exact List.length_filter_le ..
section
variable {prog : Program} {w : World} {A : Around} {E : Value → Shared → Prop} {h₀ : Heap} {os : OsState} {R X L : List Ent} {s : Shared} {env : Env} {a : LA}
theorem CompAsk.mono {cl : List (Str × Addr)} {elt target iter : Expr} {ifs : List Expr} {scope : Scope} {pos : Pos} {Z Z' : Addr → List Value → List Ent → Prop} {it : Value} (h : CompAsk prog w A h₀ os env cl elt target iter ifs scope pos Z it s) (hZ : ∀ D out L', Z D out L' → Z' D out L') :
    CompAsk prog w A h₀ os env cl elt target iter ifs scope pos Z' it s := by
  obtain ⟨α, R, C, J, xs, L, N, H, ask⟩ := h
  refine ⟨α, R, C, J, xs, L, N, H, fun D Cl as s₄ hl H₄ => codeAny_mono (ask D Cl as s₄ hl H₄) fun r s' q => ?_⟩
  obtain ⟨m, out, L', hr, H', hz⟩ := q
  exact ⟨m, out, L', hr, H', hZ _ _ _ hz⟩
theorem St.pull {P Y : List Ent} {e : Ent} (H : St h₀ os (P ++ (Y ++ e :: R)) s) : St h₀ os (Y ++ e :: (P ++ R)) s := by
  have e1 : ∀ U : List Ent, Y ++ e :: U = (Y ++ [e]) ++ U := fun U => by simp
  rw [e1] at H ⊢
  exact H.perm (List.perm_append_comm_assoc ..)
theorem St.back {P Y : List Ent} {e : Ent} (H : St h₀ os (Y ++ e :: (P ++ R)) s) : St h₀ os (P ++ (Y ++ e :: R)) s := by
  have e1 : ∀ U : List Ent, Y ++ e :: U = (Y ++ [e]) ++ U := fun U => by simp
  rw [e1] at H ⊢
  exact H.perm (List.perm_append_comm_assoc ..)
theorem kf_m99 (P : Params) : findIn (KH P) (.ref 137) (Str.ofString "get_ready") = some (some (.ref 99)) ∧ typeIn (KH P) (.ref 99) = some (.type "function") ∧ keepIn (KH P) (.ref 99) = true := ⟨by kernel_rfl, by kernel_rfl, by kernel_rfl⟩
/-- [row.index(v) for v in sorter.get_ready()] -/
theorem ready_comp {k : Nat} (B : BF w h₀) (hA : Calm A (k + 3)) (V : EV env a.C (lawN w.params) a.cells) {P : List Ent} {m : List (Str × Value)} {ra ya : Addr} {rvs yvs : List Value} {row rks : List Nd} {S : So}
    (hC : (a.C, NS m) ∈ P) (hm : m.lookup (Str.ofString "sorter") = some (.ref S.self)) (hro : (a.row, CE (some (.ref ra))) ∈ P) (hS : okN S.nis) (hr : S.ready = .ref ya) (hrv : All2 ND rvs row) (hfit : ∀ y ∈ row, y.fit = true) (hrl : row.length ≤ 21) (hyv : All2 ND yvs rks) (hrow : ∀ y ∈ rks, y ∈ row) (hkey : ∀ y ∈ row, y ∈ (absN S.nis).map (·.key)) (hyl : yvs.length ≤ 21)
    (H : St h₀ os (P ++ (S.L prog w ++ (ya, LI yvs) :: (ra, LI rvs) :: R)) s) {Q : Value → Shared → Prop}
    (h : ∀ D out nis' pt s', okN nis' → absN nis' = rks.foldl (fun G x => setNp G x (-1)) (absN S.nis) → All2 NV out (rks.map (row.idxOf ·)) →
      St h₀ os ((D, LI out) :: (P ++ (({ S with nis := nis', passed := S.passed + rks.length, ptok := pt } : So).L prog w ++ (ya, LI []) :: (ra, LI rvs) :: R))) s' → Q (.ref D) s')
    {p1 p2 p3 p4 p5 p6 p7 p8 pos : Pos} {scope : Scope} (hl1 : (p7.endLine == p8.line) = true) (hl2 : (p2.endLine == p4.line) = true) (hcn : cellNames scope.names = []) (hk : scope.kind = .function) (hxv : (relNames scope.names (lawN w.params)).lookup (Str.ofString "v") = some .local)
    (hxr : (relNames scope.names (lawN w.params)).lookup (Str.ofString "row") = some .cell) (hcr : (closOf a.cells scope.names []).lookup (Str.ofString "row") = some a.row) (hcl : (scope.names.all fun x => x.2 != .free || (a.cells.lookup x.1).isSome) = true) (hns : ∀ x ∈ scope.names, x.2 = .local → scope.names.lookup x.1 = some .local) :
    wpAny (model prog w) A (eval (.ListComp (.Call (.Attribute (.Name (Str.ofString "row") p1) (Str.ofString "index") p2) [.Name (Str.ofString "v") p3] [] p4) [⟨.Name (Str.ofString "v") p5, .Call (.Attribute (.Name (Str.ofString "sorter") p6) (Str.ofString "get_ready") p7) [] [] p8, [], 0⟩] scope pos) env) Q E s := by
  have hu := hA.u
  obtain ⟨f1, f2, f3⟩ := kf_m99 w.params
  have inS : ∀ e ∈ S.L prog w, e ∈ P ++ (S.L prog w ++ (ya, LI yvs) :: (ra, LI rvs) :: R) := fun e he => List.mem_append_right _ (List.mem_append_left _ he)
  refine r_ListComp (h₀ := h₀) (os := os) (Z := fun D out L' => ∃ nis' pt, okN nis' ∧ absN nis' = rks.foldl (fun G x => setNp G x (-1)) (absN S.nis) ∧ All2 NV out (rks.map (row.idxOf ·)) ∧ L' = P ++ (({ S with nis := nis', passed := S.passed + rks.length, ptok := pt } : So).L prog w ++ (ya, LI []) :: (ra, LI rvs) :: R)) ?_ ?_ (closureFor_ev V hcl) hk hns
  · refine r_callM (r_loc V H (List.mem_append_left _ hC) hm (r_meth H B.K (inS _ (.head _)) (inS _ (.tail _ (.head _))) (kf_get137 _ _) f1 f2 rfl (r_cw H (keeps_frag B.K f3) ⟨_, H, ?_⟩))) (hline := hl1)
    refine get_ready_spec (k := k) B hA hS hr hyv (fun y hy => hkey y (hrow y hy)) (by omega) H.pull fun ta nis' pt s₁ hok hab H₁ => ?_
    have H₂ := St.back (P := (ta, TU yvs) :: P) (R := (ra, LI rvs) :: R) H₁
    refine r_iter_tup (xs := rks) H₂ (.head _) fun ia s₂ H₃ => ?_
    refine CompAsk.mono (comp0 (nexts_tup (R := ND) ia ta rks) V (fun _ => true) (fun y => row.idxOf y) NV hA.handled (fun _ _ => ⟨yvs, hyv, .tail _ (.tail _ (.head _))⟩) (by rw [sizeLine_eq, ← hyv.length]; omega) (List.sublist_cons_self ..) ?_ ?_ H₃ hcn hk hxv) fun D out L' ⟨q1, q2⟩ => ?_
    · intro cenv Cl E' G m' kv y s' Vc hk' hkv hy Hs
      exact r_tests0 ⟨rfl, Hs⟩
    · intro cenv Cl E' G m' kv y s' Vc hk' hkv hy _ Hs
      have hin : ∀ e ∈ P ++ (({ S with nis := nis', passed := S.passed + rks.length, ptok := pt } : So).L prog w ++ (ya, LI []) :: (ra, LI rvs) :: R), e ∈ G ++ (Cl, NS m') :: ((ta, TU yvs) :: P ++ (({ S with nis := nis', passed := S.passed + rks.length, ptok := pt } : So).L prog w ++ (ya, LI []) :: (ra, LI rvs) :: R)) := fun e he => List.mem_append_right _ (.tail _ (.tail _ he))
      have hri : (ra, LI rvs) ∈ P ++ (({ S with nis := nis', passed := S.passed + rks.length, ptok := pt } : So).L prog w ++ (ya, LI []) :: (ra, LI rvs) :: R) := List.mem_append_right _ (List.mem_append_right _ (.tail _ (.head _)))
      refine r_callM (r_cel (c := a.row) Vc Hs hcr (hin _ (List.mem_append_left _ hro)) (r_mlist PySem.F.slot_list_index PySem.F.type_list_index Hs (hin _ hri) (r_cw Hs (keeps_builtin _) (r_loc Vc Hs (List.mem_append_right _ (.head _)) hk' ⟨_, Hs, ?_⟩ hxv))) hxr) (hline := hl2)
      exact r_index hu Hs (hin _ hri) hrv hkv hfit (hrow y hy) (by omega) fun t s₃ K => ⟨⟨t, rfl⟩, K⟩
    · rw [List.filter_eq_self.mpr (fun _ _ => rfl)] at q1
      exact ⟨nis', pt, hok, hab, q1, q2⟩
  · rintro D out L' s₁ ⟨nis', pt, hok, hab, hout, rfl⟩ H₁
    exact h D out nis' pt s₁ hok hab hout H₁
end
end Mine
end
section
open PySem PySem.W PySem.Calls PyProof.Rows
namespace Mine
/-- what the law's second half leaves as it is -/
structure FX where
  ra : Addr
  ea : Addr
  ha : Addr
  pa : Addr
  ya : Addr
  da : Addr
  fa : Addr
  rvs : List Value
  evs : List Value
  hvs : List Value
  pvs : List Value
  T : List Ent
structure FF (F : FX) (row : List Nd) (es : List (Nat × Nat)) (held : List Nat) (pk : List Int) : Prop where
  rv : All2 ND F.rvs row
  fit : ∀ y ∈ row, y.fit = true
  rl : row.length ≤ 21
  ed : EDG F.T F.evs es
  he : All2 NV F.hvs held
  pv : All2 IV F.pvs pk
  pz : row ≠ [] → pk ≠ []
  base : Base row es
  el : es.length ≤ 441
  hl : held.length ≤ 21
  pl : pk.length ≤ 22
structure WW where
  v : LV
  m : List (Str × Value)
  la : Addr
  lvs : List Value
  fvs : List Value
  dvs : List Value
  yvs : List Value
  S : So
/-- the lists behind the frame -/
noncomputable def wkL (F : FX) (la : Addr) (lvs fvs dvs : List Value) : List Ent := [(la, LI lvs), (F.fa, LI fvs), (F.da, LI dvs), (F.pa, LI F.pvs), (F.ha, LI F.hvs), (F.ea, LI F.evs)]
noncomputable def soR (prog : Program) (w : World) (F : FX) (S : So) (yvs : List Value) : List Ent := S.L prog w ++ (F.ya, LI yvs) :: (F.ra, LI F.rvs) :: F.T
noncomputable def wwL (prog : Program) (w : World) (a : LA) (F : FX) (c : WW) : List Ent := frL a c.v c.m ++ (wkL F c.la c.lvs c.fvs c.dvs ++ soR prog w F c.S c.yvs)
/-- the sorter against the lists -/
structure SI (F : FX) (row : List Nd) (es : List (Nat × Nat)) (S : So) (yvs : List Value) (rks : List Nd) (handed fin : List Nat) : Prop where
  yv : All2 ND yvs rks
  ok : okN S.nis
  rdy : S.ready = .ref F.ya
  passed : S.passed = handed.length
  sfin : S.fin = fin.length
  inv : Inv row es (absN S.nis) rks handed fin
  keys : ∀ y, y ∈ (absN S.nis).map (·.key) ↔ y ∈ row
structure WN (F : FX) (S : So) (la : Addr) (v : LV) (m : List (Str × Value)) (turn : Nat) : Prop where
  sorter : m.lookup (Str.ofString "sorter") = some (.ref S.self)
  picks : m.lookup (Str.ofString "picks") = some (.ref F.pa)
  handed : m.lookup (Str.ofString "handed") = some (.ref F.da)
  turn : ∃ t, m.lookup (Str.ofString "turn") = some (.int turn t)
  vrow : v.row = some (.ref F.ra)
  vedges : v.edges = some (.ref F.ea)
  vheld : v.held = some (.ref F.ha)
  vfin : v.fin = some (.ref F.fa)
  vleft : v.left = some (.ref la)
structure WI (F : FX) (row : List Nd) (es : List (Nat × Nat)) (held : List Nat) (c : WW) (rks : List Nd) (handed fin left : List Nat) (turn : Nat) : Prop where
  wn : WN F c.S c.la c.v c.m turn
  si : SI F row es c.S c.yvs rks handed fin
  dv : All2 NV c.dvs handed
  fv : All2 NV c.fvs fin
  lv : All2 NV c.lvs left
  lf : left = handed.filter fun k => !decide (k ∈ held) && !decide (k ∈ fin)
  fh : ∀ k ∈ fin, k ∉ held
  nil : left = [] → rks = []
theorem SI.rl {F : FX} {row : List Nd} {es : List (Nat × Nat)} {S : So} {yvs : List Value} {rks : List Nd} {handed fin : List Nat} (h : SI F row es S yvs rks handed fin) : rks.length ≤ row.length := nd_len h.inv.rn h.inv.rr
theorem SI.hl {F : FX} {row : List Nd} {es : List (Nat × Nat)} {S : So} {yvs : List Value} {rks : List Nd} {handed fin : List Nat} (h : SI F row es S yvs rks handed fin) : handed.length ≤ row.length := by
  have := nd_len h.inv.hn (m := List.range row.length) fun x hx => List.mem_range.mpr (h.inv.hlt x hx)
  rw [List.length_range] at this
  exact this
theorem SI.fl {F : FX} {row : List Nd} {es : List (Nat × Nat)} {S : So} {yvs : List Value} {rks : List Nd} {handed fin : List Nat} (h : SI F row es S yvs rks handed fin) : fin.length ≤ row.length :=
  Nat.le_trans (nd_len h.inv.fn h.inv.sub) h.hl
theorem SI.yl {F : FX} {row : List Nd} {es : List (Nat × Nat)} {S : So} {yvs : List Value} {rks : List Nd} {handed fin : List Nat} (h : SI F row es S yvs rks handed fin) (hr : row.length ≤ 21) : yvs.length ≤ 21 := by
  rw [h.yv.length]; exact Nat.le_trans h.rl hr
/-- get_ready -/
theorem SI.ready {F : FX} {row : List Nd} {es : List (Nat × Nat)} {S : So} {yvs : List Value} {rks : List Nd} {handed fin : List Nat} {nis' : List NI} {pt : Tok} (B : Base row es) (h : SI F row es S yvs rks handed fin) (hok : okN nis') (hab : absN nis' = rks.foldl (fun G x => setNp G x (-1)) (absN S.nis)) :
    SI F row es { S with nis := nis', passed := S.passed + rks.length, ptok := pt } [] [] (handed ++ rks.map (row.idxOf ·)) fin := by
  refine ⟨.nil, hok, h.rdy, ?_, h.sfin, ?_, fun y => ?_⟩
  · show S.passed + rks.length = _
    rw [h.passed]; simp
  · show Inv row es (absN nis') _ _ _
    rw [hab]; exact h.inv.ready B
  · show y ∈ (absN nis').map (·.key) ↔ _
    rw [hab]
    have : ∀ (rks : List Nd) (G : List PN), (rks.foldl (fun G x => setNp G x (-1)) G).map (·.key) = G.map (·.key) := by
      intro rks
      induction rks with
      | nil => intro G; rfl
      | cons r rks ih => intro G; rw [List.foldl_cons, ih, setNp_keys]
    rw [this]; exact h.keys y
section
variable {prog : Program} {w : World} {A : Around} {E : Value → Shared → Prop} {h₀ : Heap} {os : OsState} {R X L : List Ent} {s : Shared} {env : Env} {a : LA}
theorem law_first {k : Nat} (B : BF w h₀) (hA : Calm A (k + 6)) (V : EV env a.C (lawN w.params) a.cells) {G : FX} {row : List Nd} {es : List (Nat × Nat)} {held : List Nat} {pk : List Int} (K : FF G row es held pk) {v : LV} {m : List (Str × Value)} {S : So} {yvs : List Value} {rks : List Nd}
    (I : SI G row es S yvs rks [] []) (hs : m.lookup (Str.ofString "sorter") = some (.ref S.self)) (hp : m.lookup (Str.ofString "picks") = some (.ref G.pa)) (vr : v.row = some (.ref G.ra)) (ve : v.edges = some (.ref G.ea)) (vh : v.held = some (.ref G.ha))
    (H : St h₀ os (frL a v m ++ ((G.pa, LI G.pvs) :: (G.ha, LI G.hvs) :: (G.ea, LI G.evs) :: soR prog w G S yvs)) s) {Q : Flow → Shared → Prop}
    (h : ∀ da fa c rks' handed fin left turn s', WI { G with da := da, fa := fa } row es held c rks' handed fin left turn → St h₀ os (wwL prog w a { G with da := da, fa := fa } c) s' → wpAny (model prog w) A (execs ((lawB w.params).drop 9) env) Q E s') :
    wpAny (model prog w) A (execs ((lawB w.params).drop 6) env) Q E s := by
  have hu := hA.u
  have hyl := I.yl K.rl
  refine wpAny_execs_cons (r_AssignT (r_Tuple (h₀ := h₀) (os := os) rfl ?_) (swapped_ev V (by rfl)))
  refine ready_comp (k := k + 3) (P := frL a v m ++ [(G.pa, LI G.pvs), (G.ha, LI G.hvs), (G.ea, LI G.evs)]) (S := S) (R := G.T) B hA V (.head _) hs (List.mem_append_left _ (fr_row vr)) I.ok I.rdy K.rv K.fit K.rl I.yv I.inv.rr (fun y hy => (I.keys y).mpr hy) hyl H (fun D out nis' pt s₁ hok hab hout H₁ => ?_) rfl rfl rfl rfl rfl rfl rfl rfl (by decide)
  obtain ⟨S', hS'⟩ : ∃ S' : So, S' = { S with nis := nis', passed := S.passed + rks.length, ptok := pt } := ⟨_, rfl⟩
  have I' := I.ready (pt := pt) K.base hok hab
  rw [← hS'] at I'
  have hself : S'.self = S.self := by rw [hS']
  replace H₁ : St h₀ os ((D, LI out) :: (frL a v m ++ ((G.pa, LI G.pvs) :: (G.ha, LI G.hvs) :: (G.ea, LI G.evs) :: soR prog w G S' []))) s₁ := by rw [hS']; exact H₁
  clear hS'
  refine r_List0 H₁ fun fa s₂ H₂ => ⟨_, H₂, by rw [sizeLine_eq]; exact Nat.le_of_ble_eq_true rfl, fun tp s₃ H₃ => ?_⟩
  refine r_asTup hA.handled H₃ (.inr (.head _)) fun s₄ H₄ => wpAny_assign_Name (lw_sto [_, _, _] V H₄ fun s₅ H₅ => wpAny_assign_Name (st_fin [_, _, _] V H₅ fun s₆ H₆ => ?_))
  have H₇ := St.mid [_, _] (frL a _ _) H₆.tail
  rw [List.nil_append] at I'
  generalize hhd : rks.map (row.idxOf ·) = handed at hout I'
  have hhl := I'.hl
  have hrl := K.rl
  have hol := hout.length
  -- left
  refine wpAny_execs_cons (r_AssignC V (r_ListComp (h₀ := h₀) (os := os) (Z := fun D2 out2 L' => All2 NV out2 ((handed.filter fun y => !decide (y ∈ held)).map fun y => y) ∧ L' = frL a { v with fin := some (.ref fa) } (putL m (Str.ofString "handed") (.ref D)) ++ ((fa, LI []) :: (D, LI out) :: (G.pa, LI G.pvs) :: (G.ha, LI G.hvs) :: (G.ea, LI G.evs) :: soR prog w G S' [])) ?_ ?_ (closureFor_ev V rfl)))
  · refine lw_loc [] V H₇ putL_eq (r_iter_list (xs := handed) H₇ (List.mem_append_right _ (.tail _ (.head _))) fun ia s₇ H₈ => ?_)
    refine comp0 (nexts_list (R := NV) ia D handed) V (fun y => !decide (y ∈ held)) (fun y => y) NV hA.handled (fun _ _ => ⟨out, hout, .tail _ (.tail _ (List.mem_append_right _ (.tail _ (.head _))))⟩) (ssz (Nat.le_trans hhl hrl)) (List.Sublist.refl _) ?_ ?_ H₈
    · intro cenv Cl E' G' m' kv y s' Vc hk' hkv hy Hs
      refine r_tests1 (r_cmp1 (r_loc Vc Hs (List.mem_append_right _ (.head _)) hk' (r_cel (c := a.held) Vc Hs rfl (List.mem_append_right _ (.tail _ (List.mem_append_left _ (fr_held vh)))) (r_notInI hu Hs (List.mem_append_right _ (.tail _ (List.mem_append_right _ (.tail _ (.tail _ (.tail _ (.head _))))))) K.he hkv (wpAny_truthy_bool ⟨rfl, Hs⟩)))))
    · intro cenv Cl E' G' m' kv y s' Vc hk' hkv hy _ Hs
      exact r_loc Vc Hs (List.mem_append_right _ (.head _)) hk' ⟨hkv, Hs⟩
  rintro la lvs L' s₇ ⟨hlv, rfl⟩ H₈
  rw [List.map_id'] at hlv
  refine st_left [_] V H₈ fun s₈ H₉ => ?_
  -- turn
  refine wpAny_execs_cons (wpAny_Assign_Name (r_int H₉ fun tt s₉ Ha => lw_sto [_] V Ha fun sa Hb => ?_))
  refine h D fa ⟨{ v with fin := some (.ref fa), left := some (.ref la) }, putL (putL m (Str.ofString "handed") (.ref D)) (Str.ofString "turn") (.int 0 tt), la, lvs, [], out, [], S'⟩ [] handed [] _ 0 sa ⟨⟨?_, ?_, ?_, ⟨tt, putL_eq⟩, vr, ve, vh, rfl, rfl⟩, ⟨I'.yv, I'.ok, I'.rdy, I'.passed, I'.sfin, I'.inv, I'.keys⟩, hout, .nil, hlv, ?_, fun _ hk => (List.not_mem_nil hk).elim, fun _ => rfl⟩ (St.mid [_] (frL a _ _) Hb)
  · rw [hself]; exact putL_ne (putL_ne hs)
  · exact putL_ne (putL_ne hp)
  · exact putL_ne putL_eq
  · exact List.filter_congr fun x _ => by simp
end
end Mine
end
section
open PySem PySem.W PySem.Calls PyProof.Rows
namespace Mine
noncomputable def lawWh (P : Params) : List Stmt := bodyOf ((lawB P).drop 9)
theorem range_get (l : List Nat) : (List.range l.length).map (fun k => (l[k]?).getD 0) = l := by
  refine List.ext_getElem? fun i => ?_
  rw [List.getElem?_map]
  by_cases h : i < l.length
  · rw [List.getElem?_range h, List.getElem?_eq_getElem h]
    simp [List.getElem?_eq_getElem h]
  · rw [List.getElem?_eq_none (by simp; omega), List.getElem?_eq_none (by omega)]; rfl
theorem pick_sub (l : List Nat) (p : Nat → Bool) : (((List.range l.length).filter p).map fun k => (l[k]?).getD 0).Sublist l := by
  have := (List.filter_sublist (p := p) (l := List.range l.length)).map fun k => (l[k]?).getD 0
  rw [range_get] at this
  exact this
section
variable {prog : Program} {w : World} {A : Around} {E : Value → Shared → Prop} {h₀ : Heap} {os : OsState} {R X L : List Ent} {s : Shared} {env : Env} {a : LA}
theorem law_pick {k : Nat} (B : BF w h₀) (hA : Calm A (k + 6)) (V : EV env a.C (lawN w.params) a.cells) {G : FX} {row : List Nd} {es : List (Nat × Nat)} {held : List Nat} {pk : List Int} (K : FF G row es held pk) {S : So} {la : Addr} {v : LV} {m : List (Str × Value)} {turn : Nat} {lvs : List Value} {left : List Nat} {R : List Ent}
    (N : WN G S la v m turn) (hlv : All2 NV lvs left) (hll : left.length ≤ 21) (hln : left ≠ []) (hrn : row ≠ [])
    (hla : (la, LI lvs) ∈ R) (hpa : (G.pa, LI G.pvs) ∈ R) (H : St h₀ os (frL a v m ++ R) s) {Q : Flow → Shared → Prop}
    (h : ∀ ga gvs group pick tp m' s', group.Sublist left → group ≠ [] → All2 NV gvs group → WN G S la { v with pick := some (.int pick tp) } m' (turn + 1) → m'.lookup (Str.ofString "group") = some (.ref ga) →
      St h₀ os ((ga, LI gvs) :: (frL a { v with pick := some (.int pick tp) } m' ++ R)) s' → wpAny (model prog w) A (execs ((lawWh w.params).drop 4) env) Q E s') :
    wpAny (model prog w) A (execs (lawWh w.params) env) Q E s := by
  have hu := hA.u
  obtain ⟨tt, htt⟩ := N.turn
  have hpl := K.pv.length
  have hpz := List.length_pos_iff.mpr (K.pz hrn)
  have hpl2 := K.pl
  have hlvl := hlv.length
  have hp1k : G.pvs.length ≤ 1000 := by rw [hpl]; exact Nat.le_trans hpl2 (by decide)
  have hll' : lvs.length ≤ 21 := by rw [hlvl]; exact hll
  -- pick
  refine wpAny_execs_cons (wpAny_Assign_Name (Subscript_ (lw_loc [] V H N.picks (wpAny_BinOp (lw_loc [] V H htt (r_callN (r_glo V H (B.glob _ (.builtin "len") (by decide)) (r_cw H (keeps_builtin _) (lw_loc [] V H N.picks ⟨_, H, ?_⟩)))))))))
  refine r_lenL H (List.mem_append_right _ hpa) (b40 hp1k) fun _ s₁ H₁ => r_mod H₁ (by omega) fun _ s₂ H₂ => ?_
  rw [show ((turn : Int) % (G.pvs.length : Int)) = ((turn % G.pvs.length : Nat) : Int) from (Int.natCast_emod ..).symm]
  have hlt : turn % G.pvs.length < G.pvs.length := Nat.mod_lt _ (by omega)
  obtain ⟨pv, hpv⟩ : ∃ pv, G.pvs[turn % G.pvs.length]? = some pv := ⟨_, List.getElem?_eq_getElem hlt⟩
  obtain ⟨pick, _, tp, rfl⟩ := K.pv.get' hpv
  refine r_subL H₂ (List.mem_append_right _ hpa) (b40 (Nat.le_trans (Nat.le_of_lt hlt) hp1k)) hpv (st_pick [] V H₂ fun s₃ H₃ => ?_)
  -- turn
  refine wpAny_execs_cons (wpAny_AugAssign_Name (r_locn V H₃ (.head _) htt (r_int H₃ fun _ s₄ H₄ => r_iadd H₄ fun t2 s₅ H₅ => lw_sto [] V H₅ fun s₆ H₆ => ?_)))
  obtain ⟨v1, hv1⟩ : ∃ v1 : LV, v1 = { v with pick := some (.int pick tp) } := ⟨_, rfl⟩
  obtain ⟨m1, hm1⟩ : ∃ m1, m1 = putL m (Str.ofString "turn") (.int (turn + 1) t2) := ⟨_, rfl⟩
  have N1 : WN G S la v1 m1 (turn + 1) := by
    rw [hv1, hm1]
    exact ⟨putL_ne N.sorter, putL_ne N.picks, putL_ne N.handed, ⟨t2, putL_eq⟩, N.vrow, N.vedges, N.vheld, N.vfin, N.vleft⟩
  have vp : v1.pick = some (.int pick tp) := by rw [hv1]
  replace H₆ : St h₀ os (frL a v1 m1 ++ R) s₆ := by rw [hv1, hm1]; exact H₆
  clear hm1
  -- group
  obtain ⟨p, hp⟩ : ∃ p : Nat → Bool, p = fun y => (pick / 2 ^ y % 2 == 1) := ⟨_, rfl⟩
  refine wpAny_execs_cons (r_AssignComp (h₀ := h₀) (os := os) (Z := fun D out L' => All2 NV out (((List.range left.length).filter p).map fun k => (left[k]?).getD 0) ∧ L' = frL a v1 m1 ++ R) (swaps_ev V true (by rfl)) ?_ ?_ V (closureFor_ev V rfl))
  · refine r_callN (r_glo V H₆ (B.glob _ (.type "range") (by decide)) (r_cw H₆ (keeps_type _) (r_callN (r_glo V H₆ (B.glob _ (.builtin "len") (by decide)) (r_cw H₆ (keeps_builtin _) (ld_left [] V H₆ N1.vleft ⟨_, H₆, ?_⟩))))))
    refine r_lenL H₆ (List.mem_append_right _ hla) (s40 hll') fun _ s₇ H₇ => ⟨_, H₇, ?_⟩
    rw [hlvl]
    refine r_range1 H₇ fun rg s₈ H₈ => r_iter_rng1 H₈ (.head _) (s40 hll) fun ia s₉ H₉ => ?_
    rw [upBy_range] at H₉
    refine comp0 (nexts_rng ia 1) V p (fun k => (left[k]?).getD 0) NV hA.handled (fun _ _ => trivial) (by rw [List.length_range]; exact ssz hll) (List.sublist_cons_self ..) ?_ ?_ H₉
    · intro cenv Cl E' G' m' kv y s' Vc hk' hkv hy Hs
      obtain ⟨tk, rfl⟩ := hkv
      have hy' : y < left.length := List.mem_range.mp hy
      refine r_tests1 (r_cmp1 (wpAny_BinOp (wpAny_BinOp (r_cel (c := a.pick) Vc Hs rfl (List.mem_append_right _ (.tail _ (.tail _ (List.mem_append_left _ (fr_pick vp))))) (wpAny_BinOp ?_)))))
      refine r_int Hs fun _ s4 K4 => r_loc Vc K4 (List.mem_append_right _ (.head _)) hk' (r_pow2 K4 (s1k (lt21 hy' hll)) fun _ s5 K5 => r_div K5 (Int.pow_pos (by decide)) (two_lt (lt21 hy' hll)) fun _ s6 K6 => r_int K6 fun _ s7 K7 => r_mod K7 (by decide) fun _ s8 K8 => r_int K8 fun _ s9 K9 => r_eqI (wpAny_truthy_bool ⟨?_, K9⟩))
      rw [hp]
    · intro cenv Cl E' G' m' kv y s' Vc hk' hkv hy _ Hs
      obtain ⟨tk, rfl⟩ := hkv
      have hy' : y < left.length := List.mem_range.mp hy
      obtain ⟨x, hx, hxv⟩ := hlv.get (List.getElem?_eq_getElem hy')
      refine Subscript_ (r_cel (c := a.left) Vc Hs rfl (List.mem_append_right _ (.tail _ (.tail _ (List.mem_append_left _ (fr_left N1.vleft))))) (r_loc Vc Hs (List.mem_append_right _ (.head _)) hk' (r_subL Hs (List.mem_append_right _ (.tail _ (.tail _ (List.mem_append_right _ hla)))) (s40 (lt21 hy' hll)) hx ⟨?_, Hs⟩)))
      rw [List.getElem?_eq_getElem hy']; exact hxv
  rintro ga gvs L' ⟨hgv, rfl⟩
  refine ⟨_, _, .left .head, fun s₇ H₇ => ?_⟩
  have hsub := pick_sub left p
  generalize (((List.range left.length).filter p).map fun k => (left[k]?).getD 0) = group at hgv hsub
  clear hp p
  replace H₇ : St h₀ os ((ga, LI gvs) :: (frL a v1 (putL m1 (Str.ofString "group") (.ref ga)) ++ R)) s₇ := H₇
  -- the first one
  refine wpAny_execs_cons (wpAny_mono (Q := fun f s' => f = .next ∧ ∃ ga gvs group m', group.Sublist left ∧ group ≠ [] ∧ All2 NV gvs group ∧ WN G S la v1 m' (turn + 1) ∧ m'.lookup (Str.ofString "group") = some (.ref ga) ∧ St h₀ os ((ga, LI gvs) :: (frL a v1 m' ++ R)) s') ?_ (fun f s' hf => ?_) fun _ _ e => e)
  · have N2 : ∀ x, WN G S la v1 (putL m1 (Str.ofString "group") x) (turn + 1) := fun x => ⟨putL_ne N1.sorter, putL_ne N1.picks, putL_ne N1.handed, let ⟨t, q⟩ := N1.turn; ⟨t, putL_ne q⟩, N1.vrow, N1.vedges, N1.vheld, N1.vfin, N1.vleft⟩
    refine wpAny_If (r_cmp1 (lw_loc [_] V H₇ putL_eq (r_List0 H₇ fun ee s₈ H₈ => r_eqN hu H₈ (.tail _ (.head _)) (.head _) hgv .nil (wpAny_truthy_bool ?_))))
    by_cases hg : group = []
    · rw [if_pos (by simpa using hg)]
      have H₉ := H₈.tail
      refine wpAny_execs_cons (wpAny_Assign_Name (r_slice (h₀ := h₀) (os := os) (ld_left [_] V H₉ N1.vleft (evalPart_none_step (evalPart_some_step (r_int H₉ fun _ s₉ Ha => ?_))))))
      refine ⟨_, la, lvs, none, some ((1 : Nat) : Int), rfl, Ha, .tail _ (List.mem_append_right _ hla), s20 hll', .none, .int _ _, fun gb sa Hb => ?_⟩
      rw [slicePick_upto'] at Hb
      rw [List.toList_toArray, List.toList_toArray] at Hb
      refine lw_sto [_, _] V Hb fun sb Hc => wpAny_execs_nil ?_
      refine ⟨rfl, gb, lvs.take 1, left.take 1, _, List.take_sublist .., ?_, hlv.take 1, ?_, putL_eq, (Hc.bring 1).tail⟩
      · cases left with
        | nil => exact absurd rfl hln
        | cons x r => simp
      · have := N2 (.ref ga)
        exact ⟨putL_ne this.sorter, putL_ne this.picks, putL_ne this.handed, let ⟨t, q⟩ := this.turn; ⟨t, putL_ne q⟩, this.vrow, this.vedges, this.vheld, this.vfin, this.vleft⟩
    · rw [if_neg (by simpa using hg)]
      exact wpAny_execs_nil ⟨rfl, ga, gvs, group, _, hsub, hg, hgv, N2 _, putL_eq, H₈.tail⟩
  obtain ⟨rfl, ga, gvs, group, m', q1, q2, q3, q4, q5, q6⟩ := hf
  subst hv1
  exact h ga gvs group pick tp m' s' q1 q2 q3 q4 q5 q6
end
end Mine
end
section
open PySem PySem.W PySem.Calls PyProof.Rows
namespace Mine
theorem kf_m120 (P : Params) : findIn (KH P) (.ref 137) (Str.ofString "done") = some (some (.ref 120)) ∧ typeIn (KH P) (.ref 120) = some (.type "function") ∧ specialIn (KH P) (.ref 120) "__get__" = some (some (.builtin "function.__get__")) ∧ takesIn (KH P) (.ref 120) = some false ∧ fnIn (KH P) 120 = true := ⟨by kernel_rfl, by kernel_rfl, by kernel_rfl, by kernel_rfl, by kernel_rfl⟩
section
variable {prog : Program} {w : World} {A : Around} {E : Value → Shared → Prop} {h₀ : Heap} {os : OsState} {R X L : List Ent} {s : Shared} {env : Env} {a : LA}
theorem law_done {k : Nat} (B : BF w h₀) (hA : Calm A (k + 6)) (V : EV env a.C (lawN w.params) a.cells) {G : FX} {row : List Nd} {es : List (Nat × Nat)} {held : List Nat} {pk : List Int} (K : FF G row es held pk) {S : So} {la ga : Addr} {v : LV} {m : List (Str × Value)} {turn : Nat} {lvs fvs dvs gvs yvs : List Value} {handed fin group : List Nat} {rks : List Nd}
    (N : WN G S la v m turn) (I : SI G row es S yvs rks handed fin) (hg : m.lookup (Str.ofString "group") = some (.ref ga)) (hgv : All2 NV gvs group) (hgn : group.Nodup) (hgm : ∀ i ∈ group, i ∈ handed ∧ i ∉ fin) (hfv : All2 NV fvs fin)
    (H : St h₀ os ((ga, LI gvs) :: (frL a v m ++ (wkL G la lvs fvs dvs ++ soR prog w G S yvs))) s) {Q : Flow → Shared → Prop}
    (h : ∀ (S' : So) yvs' rks' s', S'.self = S.self → SI G row es S' yvs' rks' handed (fin ++ group) → St h₀ os ((ga, LI gvs) :: (frL a v m ++ (wkL G la lvs (fvs ++ gvs) dvs ++ soR prog w G S' yvs'))) s' → wpAny (model prog w) A (execs ((lawWh w.params).drop 6) env) Q E s') :
    wpAny (model prog w) A (execs ((lawWh w.params).drop 4) env) Q E s := by
  have hgl : group.length ≤ 21 := by
    have := nd_len hgn fun i hi => (hgm i hi).1
    have := I.hl
    have := K.rl
    omega
  have hgvl := hgv.length
  have hrl := K.rl
  have hfl := I.fl
  have hfvl := hfv.length
  have hyl := I.yl K.rl
  have hgr : ∀ i ∈ group, i < row.length := fun i hi => I.inv.hlt i (hgm i hi).1
  obtain ⟨f1, f2, f3, f4, f5⟩ := kf_m120 w.params
  have inS : ∀ Y : List Ent, ∀ e ∈ S.L prog w, e ∈ Y ++ (frL a v m ++ (wkL G la lvs fvs dvs ++ soR prog w G S yvs)) := fun Y e he => List.mem_append_right _ (List.mem_append_right _ (List.mem_append_right _ (List.mem_append_left _ he)))
  have hri : ∀ Y : List Ent, (G.ra, LI G.rvs) ∈ Y ++ (frL a v m ++ (wkL G la lvs fvs dvs ++ soR prog w G S yvs)) := fun Y => List.mem_append_right _ (List.mem_append_right _ (List.mem_append_right _ (List.mem_append_right _ (.tail _ (.head _)))))
  -- done
  refine wpAny_execs_cons (wpAny_Expr (r_callMS (lw_loc [_] V H N.sorter (r_bound H B.K (inS [_] _ (.head _)) (inS [_] _ (.tail _ (.head _))) (kf_get137 _ _) (kf_dict137 _) f1 f2 f3 f4 rfl rfl fun q s₁ H₁ => ?_))) V.inter)
  refine r_cwMS (h₀ := h₀) (os := os) (self := .ref S.self) B.K f5 rfl (r_star1 (h₀ := h₀) (os := os) ?_)
  refine r_ListComp (h₀ := h₀) (os := os) (Z := fun D2 out2 L' => All2 ND out2 ((group.filter fun _ => true).map (nd row)) ∧ L' = (q, METH (.ref 120) (.ref S.self)) :: (ga, LI gvs) :: (frL a v m ++ (wkL G la lvs fvs dvs ++ soR prog w G S yvs))) ?_ ?_ (closureFor_ev V rfl)
  · refine lw_loc [_, _] V H₁ hg (r_iter_list (xs := group) H₁ (.tail _ (.head _)) fun ia s₂ H₂ => ?_)
    refine comp0 (nexts_list (R := NV) ia ga group) V (fun _ => true) (nd row) ND hA.handled (fun _ _ => ⟨gvs, hgv, .tail _ (.tail _ (.tail _ (.head _)))⟩) (ssz hgl) (List.Sublist.refl _) ?_ ?_ H₂
    · intro cenv Cl E' G' m' kv y s' Vc hk' hkv hy Hs
      exact r_tests0 ⟨rfl, Hs⟩
    · intro cenv Cl E' G' m' kv y s' Vc hk' hkv hy _ Hs
      obtain ⟨tk, rfl⟩ := hkv
      have hy' := hgr y hy
      obtain ⟨yv, hyv, hynd⟩ := K.rv.get (nd_at hy')
      exact Subscript_ (r_cel (c := a.row) Vc Hs rfl (List.mem_append_right _ (.tail _ (.tail _ (.tail _ (List.mem_append_left _ (fr_row N.vrow)))))) (r_loc Vc Hs (List.mem_append_right _ (.head _)) hk' (r_subL Hs (List.mem_append_right _ (.tail _ (hri [_, _]))) (s40 (lt21 hy' hrl)) hyv ⟨hynd, Hs⟩)))
  rintro D2 out2 L' s₂ ⟨hout2, rfl⟩ H₂
  rw [List.filter_eq_self.mpr (fun _ _ => rfl)] at hout2
  have ho2 := hout2.length
  rw [List.length_map] at ho2
  refine ⟨_, D2, out2, rfl, H₂, .head _, s20 (by rw [ho2]; exact hgl), fun s₃ H₃ => ⟨rfl, _, H₃, .tail _ (.head _), ?_⟩⟩
  have H₄ := St.pull (P := (D2, LI out2) :: (q, METH (.ref 120) (.ref S.self)) :: (ga, LI gvs) :: (frL a v m ++ wkL G la lvs fvs dvs)) (Y := S.L prog w) (e := (G.ya, LI yvs)) (R := (G.ra, LI G.rvs) :: G.T) H₃
  have sok := succ_ok K.base I.ok I.inv.su fun y hy => (I.keys y).mp hy
  refine done_spec (k := k + 3) B hA I.ok I.rdy I.yv hout2 (fun n hn x hx => (I.keys x).mpr ((sok n hn).1 x hx)) (b := 441) (fun n hn => Nat.le_trans (sok n hn).2 K.el) (by omega) (fun x hx => ?_) (I.inv.outs K.base hgn hgm) H₄ fun nis' yvs' rks' ft s₄ hok hyv' hfold hbone hlen H₅ => ?_
  · obtain ⟨i, hi, rfl⟩ := List.mem_map.mp hx
    exact (I.keys _).mpr (List.mem_of_getElem? (nd_at (hgr i hi)))
  have H₆ := St.back (P := (D2, LI out2) :: (q, METH (.ref 120) (.ref S.self)) :: (ga, LI gvs) :: (frL a v m ++ wkL G la lvs fvs dvs)) (R := (G.ra, LI G.rvs) :: G.T) H₅
  obtain ⟨S', hS'⟩ : ∃ S' : So, S' = { S with nis := nis', fin := S.fin + (group.map (nd row)).length, ftok := ft } := ⟨_, rfl⟩
  have hself : S'.self = S.self := by rw [hS']
  have I' : SI G row es S' yvs' rks' handed (fin ++ group) := by
    rw [hS']
    have J := I.inv.doneAll K.base group hgn hgm
    rw [← hfold] at J
    refine ⟨hyv', hok, I.rdy, I.passed, ?_, J, fun y => ?_⟩
    · show S.fin + ((group.map (nd row)).length : Int) = _
      rw [I.sfin]; simp
    · show y ∈ (absN nis').map (·.key) ↔ _
      rw [bone_keys hbone]; exact I.keys y
  have H₇ : St h₀ os ((ga, LI gvs) :: (frL a v m ++ (wkL G la lvs fvs dvs ++ soR prog w G S' yvs'))) s₄ := by
    rw [hS']; exact H₆.tail.tail
  clear H₆ H₅ hS'
  -- finished
  refine wpAny_execs_cons (wpAny_Expr (r_callM (ld_fin [_] V H₇ N.vfin (r_mlist PySem.F.slot_list_extend PySem.F.type_list_extend H₇ (.tail _ (List.mem_append_right _ (List.mem_append_left _ (.tail _ (.head _))))) (r_cw H₇ (keeps_builtin _) (lw_loc [_] V H₇ hg ⟨_, H₇, ?_⟩))))) V.inter)
  exact r_extend (ys := gvs) H₇ (.tail (.right (.left (.tail .head)))) (.head _) (by omega) fun s₅ H₈ => h S' yvs' rks' s₅ hself I' H₈
end
end Mine
end
section
open PySem PySem.W PySem.Calls PyProof.Rows
namespace Mine
theorem kf_m106 (P : Params) : findIn (KH P) (.ref 137) (Str.ofString "is_active") = some (some (.ref 106)) ∧ typeIn (KH P) (.ref 106) = some (.type "function") ∧ keepIn (KH P) (.ref 106) = true := ⟨by kernel_rfl, by kernel_rfl, by kernel_rfl⟩
/-- an edge's tuple -/
noncomputable def RE (T : List Ent) (v : Value) (p : Nat × Nat) : Prop := ∃ t x y, v = .ref t ∧ (t, TU [x, y]) ∈ T ∧ NV x p.1 ∧ NV y p.2
theorem ripe_none {es : List (Nat × Nat)} {fin : List Nat} {b : Nat} : ((es.filter fun e => decide (e.2 = b) && !decide (e.1 ∈ fin)).map (·.1) = []) ↔ cnt es fin b = 0 := by
  unfold cnt
  rw [List.map_eq_nil_iff, List.length_eq_zero_iff]
theorem own_list {prog : Program} {w : World} {A : Around} {h₀ : Heap} {os : OsState} {T : List Ent} {ia l : Addr} {xs : List (Nat × Nat)} {elts : List Expr} {k : Nat} {pos : Pos} : Own prog w A (RE T) (.ref ia) (listJ ia l xs) h₀ os (.Tuple elts k pos) := by
  rintro E v x rem F s Q ⟨t, _, _, rfl, _⟩ H h
  obtain ⟨o, ho, i, _, hc, hd⟩ := H.get (a := ia) (.head _)
  exact wpAny_letOwnedTupleGo_listiter (i := i) ⟨o, ho, hc, hd⟩ h
section
variable {prog : Program} {w : World} {A : Around} {E : Value → Shared → Prop} {h₀ : Heap} {os : OsState} {R X L : List Ent} {s : Shared} {env : Env} {a : LA}
theorem law_ripe {k : Nat} (B : BF w h₀) (hA : Calm A (k + 6)) (V : EV env a.C (lawN w.params) a.cells) {G : FX} {row : List Nd} {es : List (Nat × Nat)} {held : List Nat} {pk : List Int} (K : FF G row es held pk) {S : So} {la ga : Addr} {v : LV} {m : List (Str × Value)} {turn : Nat} {lvs fvs dvs gvs yvs : List Value} {handed fin : List Nat} {rks : List Nd}
    (N : WN G S la v m turn) (I : SI G row es S yvs rks handed fin) (hfv : All2 NV fvs fin) (hg : m.lookup (Str.ofString "group") = some (.ref ga))
    (H : St h₀ os ((ga, LI gvs) :: (frL a v m ++ (wkL G la lvs fvs dvs ++ soR prog w G S yvs))) s) {Q : Flow → Shared → Prop}
    (h : ∀ m' s', WN G S la v m' turn → m'.lookup (Str.ofString "group") = some (.ref ga) → St h₀ os ((ga, LI gvs) :: (frL a v m' ++ (wkL G la lvs fvs dvs ++ soR prog w G S yvs))) s' → wpAny (model prog w) A (execs ((lawWh w.params).drop 8) env) Q E s') :
    wpAny (model prog w) A (execs ((lawWh w.params).drop 6) env) Q E s := by
  have hu := hA.u
  have hrl := K.rl
  have hrvl := K.rv.length
  have hyl := I.yl K.rl
  have hrvl' : G.rvs.length ≤ 21 := by rw [hrvl]; exact hrl
  obtain ⟨L0, hL0⟩ : ∃ L0, L0 = (ga, LI gvs) :: (frL a v m ++ (wkL G la lvs fvs dvs ++ soR prog w G S yvs)) := ⟨_, rfl⟩
  have i_fr : ∀ e ∈ frL a v m, e ∈ L0 := fun e he => by rw [hL0]; exact .tail _ (List.mem_append_left _ he)
  have i_fin : (G.fa, LI fvs) ∈ L0 := by rw [hL0]; exact .tail _ (List.mem_append_right _ (List.mem_append_left _ (.tail _ (.head _))))
  have i_ed : (G.ea, LI G.evs) ∈ L0 := by rw [hL0]; exact .tail _ (List.mem_append_right _ (List.mem_append_left _ (.tail _ (.tail _ (.tail _ (.tail _ (.tail _ (.head _))))))))
  have i_row : (G.ra, LI G.rvs) ∈ L0 := by rw [hL0]; exact .tail _ (List.mem_append_right _ (List.mem_append_right _ (List.mem_append_right _ (.tail _ (.head _)))))
  have i_T : ∀ e ∈ G.T, e ∈ L0 := fun e he => by rw [hL0]; exact .tail _ (List.mem_append_right _ (List.mem_append_right _ (List.mem_append_right _ (.tail _ (.tail _ he)))))
  -- ripe
  refine wpAny_execs_cons (r_AssignComp (h₀ := h₀) (os := os) (Z := fun D out L' => All2 NV out (((List.range row.length).filter (ripeB es fin)).map fun y => y) ∧ L' = (ga, LI gvs) :: (frL a v m ++ (wkL G la lvs fvs dvs ++ soR prog w G S yvs))) (swaps_ev V true (by rfl)) ?_ ?_ V (closureFor_ev V rfl))
  · refine r_callN (r_glo V H (B.glob _ (.type "range") (by decide)) (r_cw H (keeps_type _) (r_callN (r_glo V H (B.glob _ (.builtin "len") (by decide)) (r_cw H (keeps_builtin _) (ld_row [_] V H N.vrow ⟨_, H, ?_⟩))))))
    refine r_lenL H (hL0 ▸ i_row) (s40 hrvl') fun _ s₁ H₁ => ⟨_, H₁, ?_⟩
    rw [hrvl]
    refine r_range1 H₁ fun rg s₂ H₂ => r_iter_rng1 H₂ (.head _) (s40 hrl) fun ia s₃ H₃ => ?_
    rw [upBy_range, ← hL0] at H₃
    rw [← hL0]
    refine compC (nexts_rng ia 1) V (ripeB es fin) (fun y => y) NV hA.handled (fun _ _ _ => trivial) (by rw [List.length_range]; exact ssz hrl) (List.sublist_cons_self ..) ?_ ?_ H₃
    · intro cenv Cl cb E' G' m' bv y s' Vc hbv hy Hs
      have hin : ∀ e ∈ L0, e ∈ G' ++ (cb, CE (some bv)) :: (Cl, NS m') :: (rg, RA 0 row.length 1) :: L0 := fun e he => List.mem_append_right _ (.tail _ (.tail _ (.tail _ he)))
      obtain ⟨Lc, hLc⟩ : ∃ Lc, Lc = G' ++ (cb, CE (some bv)) :: (Cl, NS m') :: (rg, RA 0 row.length 1) :: L0 := ⟨_, rfl⟩
      have i_b : (cb, CE (some bv)) ∈ Lc := by rw [hLc]; exact List.mem_append_right _ (.head _)
      rw [← hLc] at hin Hs ⊢
      refine r_tests1 (wpAny_isTrue_BoolOp (wpAny_allTrue_And_cons (r_cmp1 (r_cel (c := cb) Vc Hs rfl i_b (r_cel (c := a.fin) Vc Hs rfl (hin _ (i_fr _ (fr_fin N.vfin))) (r_notInI hu Hs (hin _ i_fin) hfv hbv (wpAny_truthy_bool ?_)))))))
      by_cases hyf : y ∈ fin
      · rw [if_neg (by simp [hyf])]
        exact ⟨by simp [ripeB, hyf], Hs⟩
      rw [if_pos (by simp [hyf])]
      refine wpAny_allTrue_And_cons (r_cmp1 (r_ListComp (h₀ := h₀) (os := os) (Z := fun D2 out2 L2 => All2 NV out2 ((es.filter fun e => decide (e.2 = y) && !decide (e.1 ∈ fin)).map (·.1)) ∧ L2 = Lc) ?_ ?_ (closureFor_ev Vc (by rfl))))
      · refine r_cel (c := a.edges) Vc Hs rfl (hin _ (i_fr _ (fr_edges N.vedges))) (r_iter_list (xs := es) Hs (hin _ i_ed) fun ib s₄ H₄ => ?_)
        refine ⟨_, _, _, _, es, _, nexts_list (R := RE G.T) ib G.ea es, H₄, fun D2 Cl2 as2 s₅ hl2 H₅ => ?_⟩
        obtain rfl : as2 = [] := List.length_eq_zero_iff.mp hl2
        refine compPure (nexts_list (R := RE G.T) ib G.ea es) (γ := List (Str × Value)) (fun e => decide (e.2 = y) && !decide (e.1 ∈ fin)) (fun e => e.1) NV (fun m => [(Cl2, NS m)]) (fun e m => ∃ x z, m.lookup (Str.ofString "a") = some x ∧ NV x e.1 ∧ m.lookup (Str.ofString "c") = some z ∧ NV z e.2) (c₀ := []) hA.handled
          (fun _ _ => ⟨G.evs, K.ed, .tail _ (.tail _ (hin _ i_ed))⟩) (bsz (Nat.le_trans K.el (by decide))) ?_ ?_ ?_ ?_ H₅ own_list
        · rintro E2 G2 m2 ev e s₆ ⟨t, x, z, rfl, ht, hx, hz⟩ he H₆
          refine r_asTup hA.handled H₆ (.inr (List.mem_append_right _ (List.mem_append_right _ (hin _ (i_T _ ht))))) fun s₇ H₇ => ?_
          exact wpAny_assign_Name (r_sto (Vc.comp (by rfl)) H₇ (.right .head) fun s₈ H₈ => wpAny_assign_Name (r_sto (Vc.comp (by rfl)) H₈ (.right .head) fun s₉ H₉ => ⟨_, ⟨x, z, putL_ne putL_eq, hx, putL_eq, hz⟩, H₉⟩))
        · rintro E2 G2 m2 e s₆ ⟨x, z, hmx, hx, hmz, hz⟩ he H₆
          obtain ⟨tx, rfl⟩ := hx
          obtain ⟨tz, rfl⟩ := hz
          obtain ⟨ty, rfl⟩ := hbv
          have hin2 : ∀ g ∈ Lc, g ∈ G2 ++ ([(Cl2, NS m2)] ++ Lc) := fun g hg => List.mem_append_right _ (.tail _ hg)
          refine r_tests1 (wpAny_isTrue_BoolOp (wpAny_allTrue_And_cons (r_cmp1 (r_loc (Vc.comp (by rfl)) H₆ (List.mem_append_right _ (.head _)) hmz (r_cel (c := cb) (Vc.comp (by rfl)) H₆ (by rfl) (hin2 _ i_b) (r_eqI (wpAny_truthy_bool ?_)))))))
          by_cases h1 : e.2 = y
          · rw [if_pos (by simp [h1])]
            refine wpAny_allTrue_And_cons (r_cmp1 (r_loc (Vc.comp (by rfl)) H₆ (List.mem_append_right _ (.head _)) hmx (r_cel (c := a.fin) (Vc.comp (by rfl)) H₆ (by rfl) (hin2 _ (hin _ (i_fr _ (fr_fin N.vfin)))) (r_notInI hu H₆ (hin2 _ (hin _ i_fin)) hfv ⟨tx, rfl⟩ (wpAny_truthy_bool ?_)))))
            by_cases h2 : e.1 ∈ fin
            · rw [if_neg (by simp [h2])]
              exact ⟨by simp [h2], H₆⟩
            · rw [if_pos (by simp [h2])]
              exact wpAny_allTrue_And_nil ⟨by simp [h1, h2], H₆⟩
          · rw [if_neg (by simpa using fun e' => h1 (Int.ofNat.inj e'))]
            exact ⟨by simp [h1], H₆⟩
        · rintro E2 G2 m2 e s₆ ⟨x, z, hmx, hx, hmz, hz⟩ he _ H₆
          exact r_loc (Vc.comp (by rfl)) H₆ (List.mem_append_right _ (.head _)) hmx ⟨hx, H₆⟩
        · intro out2 m2 s₆ ho H₆
          exact ⟨m2, out2, _, trivial, H₆.bring 1, ho, rfl⟩
      · rintro D2 out2 L2 s₄ ⟨ho, rfl⟩ H₄
        refine r_List0 H₄ fun ee s₅ H₅ => r_eqN hu H₅ (.tail _ (.head _)) (.head _) ho .nil (wpAny_truthy_bool ?_)
        by_cases hc : cnt es fin y = 0
        · rw [if_pos (by simpa using ripe_none.mpr hc)]
          exact wpAny_allTrue_And_nil ⟨by simp [ripeB, hyf, hc], H₅.tail.tail⟩
        · rw [if_neg (by simpa using fun e => hc (ripe_none.mp e))]
          exact ⟨by simp [ripeB, hc], H₅.tail.tail⟩
    · intro cenv Cl cb E' G' m' bv y s' Vc hbv hy _ Hs
      exact r_cel (c := cb) Vc Hs rfl (List.mem_append_right _ (.head _)) ⟨hbv, Hs⟩
  rintro D out L' ⟨hout, rfl⟩
  refine ⟨_, _, .tail (.left .head), fun s₁ H₁ => ?_⟩
  rw [List.map_id'] at hout
  replace H₁ : St h₀ os ((D, LI out) :: (ga, LI gvs) :: (frL a v (putL m (Str.ofString "ripe") (.ref D)) ++ (wkL G la lvs fvs dvs ++ soR prog w G S yvs))) s₁ := H₁
  have N1 : WN G S la v (putL m (Str.ofString "ripe") (.ref D)) turn := ⟨putL_ne N.sorter, putL_ne N.picks, putL_ne N.handed, let ⟨t, q⟩ := N.turn; ⟨t, putL_ne q⟩, N.vrow, N.vedges, N.vheld, N.vfin, N.vleft⟩
  have hripe : (putL m (Str.ofString "ripe") (.ref D)).lookup (Str.ofString "ripe") = some (.ref D) := putL_eq
  have hg1 : (putL m (Str.ofString "ripe") (.ref D)).lookup (Str.ofString "group") = some (.ref ga) := putL_ne hg
  generalize putL m (Str.ofString "ripe") (.ref D) = m1 at H₁ N1 hripe hg1
  -- is_active
  obtain ⟨f1, f2, f3⟩ := kf_m106 w.params
  have inS : ∀ e ∈ S.L prog w, e ∈ (D, LI out) :: (ga, LI gvs) :: (frL a v m1 ++ (wkL G la lvs fvs dvs ++ soR prog w G S yvs)) := fun e he => .tail _ (.tail _ (List.mem_append_right _ (List.mem_append_right _ (List.mem_append_left _ he))))
  have hact := I.inv.active
  rw [← I.sfin, ← I.passed] at hact
  refine wpAny_execs_cons (wpAny_If (r_cmp1 (r_callM (lw_loc [_, _] V H₁ N1.sorter (r_meth H₁ B.K (inS _ (.head _)) (inS _ (.tail _ (.head _))) (kf_get137 _ _) f1 f2 rfl (r_cw H₁ (keeps_frag B.K f3) ⟨_, H₁, ?_⟩))))))
  have H₂ := St.pull (P := (D, LI out) :: (ga, LI gvs) :: (frL a v m1 ++ wkL G la lvs fvs dvs)) (Y := S.L prog w) (e := (G.ya, LI yvs)) (R := (G.ra, LI G.rvs) :: G.T) H₁
  refine is_active_spec (k := k + 3) B hA I.rdy (s20 hyl) H₂ fun s₂ H₃ => ?_
  have H₄ := St.back (P := (D, LI out) :: (ga, LI gvs) :: (frL a v m1 ++ wkL G la lvs fvs dvs)) (Y := S.L prog w) (e := (G.ya, LI yvs)) (R := (G.ra, LI G.rvs) :: G.T) H₃
  replace H₄ : St h₀ os ((D, LI out) :: (ga, LI gvs) :: (frL a v m1 ++ (wkL G la lvs fvs dvs ++ soR prog w G S yvs))) s₂ := H₄
  refine wpAny_Compare1 (lw_loc [_, _] V H₄ hripe (r_List0 H₄ fun ee s₃ H₅ => r_neN hu H₅ (.tail _ (.head _)) (.head _) hout .nil ?_))
  have hye : yvs.isEmpty = rks.isEmpty := by
    have := I.yv.length
    cases yvs <;> cases rks <;> simp_all
  have e2 : (!decide ((List.range row.length).filter (ripeB es fin) = [])) = !((List.range row.length).filter (ripeB es fin)).isEmpty := by
    cases (List.range row.length).filter (ripeB es fin) <;> simp
  rw [hye, hact, e2]
  refine wpAny_isNot_self rfl (wpAny_truthy_bool ?_)
  rw [if_neg (by simp)]
  exact wpAny_execs_nil (h m1 s₃ N1 hg1 H₅.tail.tail)
end
end Mine
end
section
open PySem PySem.W PySem.Calls PyProof.Rows
namespace Mine
section
variable {prog : Program} {w : World} {A : Around} {E : Value → Shared → Prop} {h₀ : Heap} {os : OsState} {R X L : List Ent} {s : Shared} {env : Env} {a : LA}
theorem law_more {k : Nat} (B : BF w h₀) (hA : Calm A (k + 6)) (V : EV env a.C (lawN w.params) a.cells) {G : FX} {row : List Nd} {es : List (Nat × Nat)} {held : List Nat} {pk : List Int} (K : FF G row es held pk) {S : So} {la ga : Addr} {v : LV} {m : List (Str × Value)} {turn : Nat} {lvs fvs dvs gvs yvs : List Value} {handed fin group left : List Nat} {rks : List Nd} {pick : Int} {tp : Tok}
    (N : WN G S la v m turn) (I : SI G row es S yvs rks handed fin) (hdv : All2 NV dvs handed) (hlv : All2 NV lvs left) (hgv : All2 NV gvs group) (hgl : group.length ≤ 21) (hll : left.length ≤ 21) (hg : m.lookup (Str.ofString "group") = some (.ref ga)) (vp : v.pick = some (.int pick tp))
    (H : St h₀ os ((ga, LI gvs) :: (frL a v m ++ (wkL G la lvs fvs dvs ++ soR prog w G S yvs))) s) {Q : Flow → Shared → Prop}
    (h : ∀ (S' : So) yvs' rks' dvs' handed' s', S'.self = S.self → SI G row es S' yvs' rks' handed' fin → All2 NV dvs' handed' → (∀ i ∈ handed, i ∈ handed') → (rks' = [] ∨ group.length ≠ left.length) →
      St h₀ os ((ga, LI gvs) :: (frL a v m ++ (wkL G la lvs fvs dvs' ++ soR prog w G S' yvs'))) s' → wpAny (model prog w) A (execs ((lawWh w.params).drop 9) env) Q E s') :
    wpAny (model prog w) A (execs ((lawWh w.params).drop 8) env) Q E s := by
  have hu := hA.u
  have hrl := K.rl
  have hyl := I.yl K.rl
  have hgvl := hgv.length
  have hlvl := hlv.length
  have hdvl := hdv.length
  have hhl := I.hl
  refine wpAny_execs_cons (wpAny_mono (Q := fun f s' => f = .next ∧ ∃ (S' : So) (yvs' : List Value) (rks' : List Nd) (dvs' : List Value) (handed' : List Nat), S'.self = S.self ∧ SI G row es S' yvs' rks' handed' fin ∧ All2 NV dvs' handed' ∧ (∀ i ∈ handed, i ∈ handed') ∧ (rks' = [] ∨ group.length ≠ left.length) ∧
    St h₀ os ((ga, LI gvs) :: (frL a v m ++ (wkL G la lvs fvs dvs' ++ soR prog w G S' yvs'))) s') ?_ (fun f s' hf => ?_) fun _ _ e => e)
  · refine wpAny_If (wpAny_mono (Q := fun b s' => (b = true ∨ group.length ≠ left.length) ∧ St h₀ os ((ga, LI gvs) :: (frL a v m ++ (wkL G la lvs fvs dvs ++ soR prog w G S yvs))) s') ?_ (fun b s₁ hb => ?_) fun _ _ e => e)
    · refine wpAny_isTrue_BoolOp (wpAny_allTrue_Or_cons (r_cmp1 (wpAny_BinOp (ld_pick [_] V H vp (r_int H fun _ s1 K1 => r_mod K1 (by decide) fun _ s2 K2 => r_int K2 fun _ s3 K3 => PyProof.Rows.gt_int (wpAny_truthy_bool ?_))))))
      by_cases hp : 0 < pick % 3
      · rw [if_pos (by simpa using hp)]
        exact ⟨.inl rfl, K3⟩
      rw [if_neg (by simpa using hp)]
      refine wpAny_allTrue_Or_cons (r_cmp1 (r_callN (r_glo V K3 (B.glob _ (.builtin "len") (by decide)) (r_cw K3 (keeps_builtin _) (lw_loc [_] V K3 hg ⟨_, K3, r_lenL K3 (.head _) (s40 (by rw [hgvl]; exact hgl)) fun _ s4 K4 => ?_⟩)))))
      refine r_callN (r_glo V K4 (B.glob _ (.builtin "len") (by decide)) (r_cw K4 (keeps_builtin _) (ld_left [_] V K4 N.vleft ⟨_, K4, r_lenL K4 (.tail _ (List.mem_append_right _ (List.mem_append_left _ (.head _)))) (s40 (by rw [hlvl]; exact hll)) fun _ s5 K5 => r_eqI (wpAny_truthy_bool ?_)⟩)))
      by_cases hq : group.length = left.length
      · rw [if_pos (by rw [hgvl, hlvl, hq]; simp)]
        exact ⟨.inl rfl, K5⟩
      · rw [if_neg (by rw [hgvl, hlvl]; simpa using fun e => hq (Int.ofNat.inj e))]
        exact wpAny_allTrue_Or_nil ⟨.inr hq, K5⟩
    obtain ⟨hb, H₁⟩ := hb
    cases b with
    | false =>
      rw [if_neg (by simp)]
      exact wpAny_execs_nil ⟨rfl, S, yvs, rks, dvs, handed, rfl, I, hdv, fun _ hi => hi, .inr (hb.resolve_left (by simp)), H₁⟩
    | true =>
      rw [if_pos rfl]
      refine wpAny_execs_cons (wpAny_Expr (r_callM (lw_loc [_] V H₁ N.handed (r_mlist PySem.F.slot_list_extend PySem.F.type_list_extend H₁ (.tail _ (List.mem_append_right _ (List.mem_append_left _ (.tail _ (.tail _ (.head _)))))) (r_cw H₁ (keeps_builtin _) ?_)))) V.inter)
      refine ready_comp (k := k + 3) (P := (ga, LI gvs) :: (frL a v m ++ wkL G la lvs fvs dvs)) (S := S) (R := G.T) B hA V (.tail _ (.head _)) N.sorter (.tail _ (List.mem_append_left _ (fr_row N.vrow))) I.ok I.rdy K.rv K.fit K.rl I.yv I.inv.rr (fun y hy => (I.keys y).mpr hy) hyl H₁ (fun D out nis' pt s₂ hok hab hout H₂ => ?_) rfl rfl rfl rfl rfl rfl rfl rfl (by decide)
      have I' := I.ready (pt := pt) K.base hok hab
      have hol := hout.length
      rw [List.length_map] at hol
      have hrk := I.rl
      obtain ⟨S', hS'⟩ : ∃ S' : So, S' = { S with nis := nis', passed := S.passed + rks.length, ptok := pt } := ⟨_, rfl⟩
      rw [← hS'] at I'
      have hself : S'.self = S.self := by rw [hS']
      replace H₂ : St h₀ os ((D, LI out) :: (ga, LI gvs) :: (frL a v m ++ (wkL G la lvs fvs dvs ++ soR prog w G S' []))) s₂ := by rw [hS']; exact H₂
      refine ⟨_, H₂, r_extend (ys := out) H₂ (.tail (.tail (.right (.left (.tail (.tail .head)))))) (.head _) (sum20 (by rw [hdvl]; exact Nat.le_trans hhl hrl) (by rw [hol]; exact Nat.le_trans hrk hrl)) fun s₃ H₃ => wpAny_execs_nil ?_⟩
      exact ⟨rfl, S', [], [], dvs ++ out, handed ++ rks.map (row.idxOf ·), hself, I', hdv.append hout, fun i hi => List.mem_append_left _ hi, .inl rfl, H₃.tail⟩
  obtain ⟨rfl, S', yvs', rks', dvs', handed', q1, q2, q3, q4, q5, q6⟩ := hf
  exact h S' yvs' rks' dvs' handed' s' q1 q2 q3 q4 q5 q6
theorem law_left {k : Nat} (hA : Calm A (k + 6)) (V : EV env a.C (lawN w.params) a.cells) {G : FX} {row : List Nd} {es : List (Nat × Nat)} {held : List Nat} {pk : List Int} (K : FF G row es held pk) {S : So} {la ga : Addr} {v : LV} {m : List (Str × Value)} {turn : Nat} {lvs fvs dvs gvs yvs : List Value} {handed fin : List Nat}
    (N : WN G S la v m turn) (hdv : All2 NV dvs handed) (hfv : All2 NV fvs fin) (hdl : handed.length ≤ 21)
    (H : St h₀ os ((ga, LI gvs) :: (frL a v m ++ (wkL G la lvs fvs dvs ++ soR prog w G S yvs))) s) {Q : Flow → Shared → Prop}
    (h : ∀ lb lvs' s', All2 NV lvs' (handed.filter fun k => !decide (k ∈ held) && !decide (k ∈ fin)) → WN G S lb { v with left := some (.ref lb) } m turn → St h₀ os (frL a { v with left := some (.ref lb) } m ++ (wkL G lb lvs' fvs dvs ++ soR prog w G S yvs)) s' → Q .next s') :
    wpAny (model prog w) A (execs ((lawWh w.params).drop 9) env) Q E s := by
  have hu := hA.u
  have H₁ := H.tail
  obtain ⟨L0, hL0⟩ : ∃ L0, L0 = frL a v m ++ (wkL G la lvs fvs dvs ++ soR prog w G S yvs) := ⟨_, rfl⟩
  have i_fr : ∀ e ∈ frL a v m, e ∈ L0 := fun e he => by rw [hL0]; exact List.mem_append_left _ he
  have i_fin : (G.fa, LI fvs) ∈ L0 := by rw [hL0]; exact List.mem_append_right _ (List.mem_append_left _ (.tail _ (.head _)))
  have i_da : (G.da, LI dvs) ∈ L0 := by rw [hL0]; exact List.mem_append_right _ (List.mem_append_left _ (.tail _ (.tail _ (.head _))))
  have i_he : (G.ha, LI G.hvs) ∈ L0 := by rw [hL0]; exact List.mem_append_right _ (List.mem_append_left _ (.tail _ (.tail _ (.tail _ (.tail _ (.head _))))))
  refine wpAny_execs_cons (r_AssignC V (r_ListComp (h₀ := h₀) (os := os) (Z := fun D out L' => All2 NV out ((handed.filter fun k => !decide (k ∈ held) && !decide (k ∈ fin)).map fun y => y) ∧ L' = L0) ?_ ?_ (closureFor_ev V rfl)))
  · refine lw_loc [] V H₁ N.handed (r_iter_list (xs := handed) H₁ (hL0 ▸ i_da) fun ia s₂ H₂ => ?_)
    rw [← hL0] at H₂
    refine comp0 (nexts_list (R := NV) ia G.da handed) V (fun k => !decide (k ∈ held) && !decide (k ∈ fin)) (fun y => y) NV hA.handled (fun _ _ => ⟨dvs, hdv, .tail _ (.tail _ i_da)⟩) (ssz hdl) (List.Sublist.refl _) ?_ ?_ H₂
    · intro cenv Cl E' G' m' kv y s' Vc hk' hkv hy Hs
      have hin : ∀ e ∈ L0, e ∈ G' ++ (Cl, NS m') :: L0 := fun e he => List.mem_append_right _ (.tail _ he)
      refine r_tests1 (wpAny_isTrue_BoolOp (wpAny_allTrue_And_cons (r_cmp1 (r_loc Vc Hs (List.mem_append_right _ (.head _)) hk' (r_cel (c := a.held) Vc Hs rfl (hin _ (i_fr _ (fr_held N.vheld))) (r_notInI hu Hs (hin _ i_he) K.he hkv (wpAny_truthy_bool ?_)))))))
      by_cases h1 : y ∈ held
      · rw [if_neg (by simp [h1])]
        exact ⟨by simp [h1], Hs⟩
      rw [if_pos (by simp [h1])]
      refine wpAny_allTrue_And_cons (r_cmp1 (r_loc Vc Hs (List.mem_append_right _ (.head _)) hk' (r_cel (c := a.fin) Vc Hs rfl (hin _ (i_fr _ (fr_fin N.vfin))) (r_notInI hu Hs (hin _ i_fin) hfv hkv (wpAny_truthy_bool ?_)))))
      by_cases h2 : y ∈ fin
      · rw [if_neg (by simp [h2])]
        exact ⟨by simp [h2], Hs⟩
      · rw [if_pos (by simp [h2])]
        exact wpAny_allTrue_And_nil ⟨by simp [h1, h2], Hs⟩
    · intro cenv Cl E' G' m' kv y s' Vc hk' hkv hy _ Hs
      exact r_loc Vc Hs (List.mem_append_right _ (.head _)) hk' ⟨hkv, Hs⟩
  rintro lb lvs' L' s₂ ⟨hlv, rfl⟩ H₂
  rw [List.map_id'] at hlv
  rw [hL0] at H₂
  refine st_left [_] V H₂ fun s₃ H₃ => wpAny_execs_nil ?_
  have H₄ := St.mid [_] (frL a _ _) H₃
  refine h lb lvs' s₃ hlv ⟨N.sorter, N.picks, N.handed, N.turn, N.vrow, N.vedges, N.vheld, N.vfin, rfl⟩ (H₄.sub ?_)
  exact (List.Sublist.refl _).append (.cons_cons _ (.cons _ (List.Sublist.refl _)))
end
end Mine
end
section
open PySem PySem.W PySem.Calls PyProof.Rows
namespace Mine
theorem WN.so {F : FX} {S S' : So} {la : Addr} {v : LV} {m : List (Str × Value)} {turn : Nat} (h : WN F S la v m turn) (e : S'.self = S.self) : WN F S' la v m turn := ⟨by rw [e]; exact h.sorter, h.picks, h.handed, h.turn, h.vrow, h.vedges, h.vheld, h.vfin, h.vleft⟩
section
variable {prog : Program} {w : World} {A : Around} {E : Value → Shared → Prop} {h₀ : Heap} {os : OsState} {s : Shared} {env : Env} {a : LA}
theorem law_body {k : Nat} (B : BF w h₀) (hA : Calm A (k + 6)) (V : EV env a.C (lawN w.params) a.cells) {G : FX} {row : List Nd} {es : List (Nat × Nat)} {held : List Nat} {pk : List Int} (K : FF G row es held pk) {c : WW} {rks : List Nd} {handed fin left : List Nat} {turn : Nat}
    (W : WI G row es held c rks handed fin left turn) (hln : left ≠ []) (H : St h₀ os (wwL prog w a G c) s) {Q : Flow → Shared → Prop}
    (h : ∀ c' rks' handed' fin' left' turn' s', WI G row es held c' rks' handed' fin' left' turn' → fin.length < fin'.length → St h₀ os (wwL prog w a G c') s' → Q .next s') :
    wpAny (model prog w) A (execs (lawWh w.params) env) Q E s := by
  obtain ⟨v, m, la, lvs, fvs, dvs, yvs, S⟩ := c
  have I := W.si
  have hrl := K.rl
  have hll : left.length ≤ 21 := by
    rw [W.lf]
    refine Nat.le_trans (List.length_filter_le ..) ?_
    have := I.hl
    omega
  have hlm : ∀ i ∈ left, i ∈ handed ∧ i ∉ held ∧ i ∉ fin := fun i hi => by
    rw [W.lf] at hi
    have := List.mem_filter.mp hi
    simpa using this
  have hlnd : left.Nodup := by rw [W.lf]; exact I.inv.hn.filter _
  have hrn : row ≠ [] := by
    obtain ⟨i, hi⟩ := List.exists_mem_of_ne_nil _ hln
    have := I.inv.hlt i (hlm i hi).1
    rintro rfl
    simp at this
  refine law_pick (k := k) B hA V K W.wn W.lv hll hln hrn (List.mem_append_left _ (.head _)) (List.mem_append_left _ (.tail _ (.tail _ (.tail _ (.head _))))) H fun ga gvs group pick tp m1 s₁ hsub hgne hgv N1 hg1 H₁ => ?_
  have hgn : group.Nodup := hsub.nodup hlnd
  have hgm : ∀ i ∈ group, i ∈ handed ∧ i ∉ held ∧ i ∉ fin := fun i hi => hlm i (hsub.subset hi)
  have hgl : group.length ≤ 21 := Nat.le_trans hsub.length_le hll
  refine law_done (k := k) B hA V K N1 I hg1 hgv hgn (fun i hi => ⟨(hgm i hi).1, (hgm i hi).2.2⟩) W.fv H₁ fun S2 yvs2 rks2 s₂ e2 I2 H₂ => ?_
  have hfv2 : All2 NV (fvs ++ gvs) (fin ++ group) := W.fv.append hgv
  refine law_ripe (k := k) B hA V K (N1.so e2) I2 hfv2 hg1 H₂ fun m3 s₃ N3 hg3 H₃ => ?_
  refine law_more (k := k) B hA V K N3 I2 W.dv W.lv hgv hgl hll hg3 rfl H₃ fun S4 yvs4 rks4 dvs4 handed4 s₄ e4 I4 hdv4 hmono hor H₄ => ?_
  have hhl4 := I4.hl
  refine law_left (k := k) hA V K (N3.so e4) hdv4 hfv2 (Nat.le_trans hhl4 hrl) H₄ fun lb lvs5 s₅ hlv5 N5 H₅ => ?_
  refine h ⟨_, m3, lb, lvs5, fvs ++ gvs, dvs4, yvs4, S4⟩ rks4 handed4 (fin ++ group) _ (turn + 1) s₅ ⟨N5, I4, hdv4, hfv2, hlv5, rfl, ?_, fun hnil => ?_⟩ ?_ H₅
  · intro i hi
    rcases List.mem_append.mp hi with hi | hi
    · exact W.fh i hi
    · exact (hgm i hi).2.1
  · refine hor.resolve_right fun hne => ?_
    have hlt : group.length < left.length := by have := hsub.length_le; omega
    obtain ⟨x, hx, hx'⟩ := (len_lt hgn hlnd hsub.subset).mp hlt
    have hx2 := hlm x hx
    have : x ∈ handed4.filter fun k => !decide (k ∈ held) && !decide (k ∈ fin ++ group) := List.mem_filter.mpr ⟨hmono x hx2.1, by simp [hx2.2.1, hx2.2.2, hx']⟩
    rw [hnil] at this
    cases this
  · have := List.length_pos_iff.mpr hgne
    rw [List.length_append]; omega
theorem law_while {k : Nat} (B : BF w h₀) (hA : Calm A (k + 6)) (V : EV env a.C (lawN w.params) a.cells) {G : FX} {row : List Nd} {es : List (Nat × Nat)} {held : List Nat} {pk : List Int} (K : FF G row es held pk) {c : WW} {rks : List Nd} {handed fin left : List Nat} {turn : Nat}
    (W : WI G row es held c rks handed fin left turn) (H : St h₀ os (wwL prog w a G c) s) {Q : Flow → Shared → Prop}
    (h : ∀ c' rks' handed' fin' turn' s', WI G row es held c' rks' handed' fin' [] turn' → St h₀ os (wwL prog w a G c') s' → wpAny (model prog w) A (execs ((lawB w.params).drop 10) env) Q E s') :
    wpAny (model prog w) A (execs ((lawB w.params).drop 9) env) Q E s := by
  have hu := hA.u
  refine wpAny_execs_cons (wpAny_While (codeAny_whileLoop (fun n s' => ∃ c rks handed fin left turn, n = row.length - fin.length ∧ WI G row es held c rks handed fin left turn ∧ St h₀ os (wwL prog w a G c) s') ?_ _ ⟨c, rks, handed, fin, left, turn, rfl, W, H⟩))
  rintro n s₁ ⟨c, rks, handed, fin, left, turn, rfl, W, H⟩
  refine r_cmp1 (ld_left [] V H W.wn.vleft (r_List0 H fun ee s₂ H₂ => r_neN hu H₂ (.tail _ (List.mem_append_right _ (List.mem_append_left _ (.head _)))) (.head _) W.lv .nil (wpAny_truthy_bool ?_)))
  by_cases hl : left = []
  · subst hl
    rw [if_neg (by simp)]
    exact wpAny_execs_nil (h c rks handed fin turn s₂ W H₂.tail)
  · rw [if_pos (by simpa using hl)]
    refine law_body (k := k) B hA V K W hl H₂.tail fun c' rks' handed' fin' left' turn' s₃ W' hlt H₃ => ?_
    have := W'.si.fl
    exact ⟨_, by omega, c', rks', handed', fin', left', turn', rfl, W', H₃⟩
end
end Mine
end
section
open PySem PySem.W PySem.Calls PyProof.Rows
namespace Mine
section
variable {prog : Program} {w : World} {A : Around} {E : Value → Shared → Prop} {h₀ : Heap} {os : OsState} {s : Shared} {env : Env} {a : LA}
theorem law_end {k : Nat} (B : BF w h₀) (hA : Calm A (k + 6)) (V : EV env a.C (lawN w.params) a.cells) {G : FX} {row : List Nd} {es : List (Nat × Nat)} {held : List Nat} {pk : List Int} (K : FF G row es held pk) {c : WW} {rks : List Nd} {handed fin : List Nat} {turn : Nat}
    (W : WI G row es held c rks handed fin [] turn) (H : St h₀ os (wwL prog w a G c) s) {Q : Flow → Shared → Prop}
    (h : ∀ L s', St h₀ os L s' → Q (.ret (.bool true)) s') :
    wpAny (model prog w) A (execs ((lawB w.params).drop 10) env) Q E s := by
  have hu := hA.u
  obtain ⟨v, m, la, lvs, fvs, dvs, yvs, S⟩ := c
  obtain rfl := W.nil rfl
  have I := W.si
  have N := W.wn
  have hrl := K.rl
  have hrvl := K.rv.length
  have hrvl' : G.rvs.length ≤ 21 := by rw [hrvl]; exact hrl
  have hhl := I.hl
  have hdvl := W.dv.length
  unfold wwL at H
  dsimp only at H I N hdvl
  have i_row : ∀ X' : List Ent, ∀ v' m', (G.ra, LI G.rvs) ∈ X' ++ (frL a v' m' ++ (wkL G la lvs fvs dvs ++ soR prog w G S yvs)) := fun X' v' m' => List.mem_append_right _ (List.mem_append_right _ (List.mem_append_right _ (List.mem_append_right _ (.tail _ (.head _)))))
  -- far
  refine wpAny_execs_cons (wpAny_Assign_Name (r_callN (r_glo V H (B.glob _ (.ref 153) (by decide)) (r_cw H (keeps_frag B.K (by kernel_rfl)) (r_callN (r_glo V H (B.glob _ (.builtin "len") (by decide)) (r_cw H (keeps_builtin _) (ld_row [] V H N.vrow ⟨_, H, ?_⟩))))))))
  refine r_lenL H (i_row [] _ _) (s40 hrvl') fun t₁ s₁ H₁ => ld_edges [] V H₁ N.vedges ⟨_, H₁, ?_⟩
  rw [hrvl]
  refine far_spec (k := k + 3) (F := frL a v m ++ (wkL G la lvs fvs dvs ++ soR prog w G S yvs)) B hA (n := row.length) (Nat.lt_of_le_of_lt hrl (by decide)) (List.mem_append_right _ (List.mem_append_left _ (.tail _ (.tail _ (.tail _ (.tail _ (.tail _ (.head _)))))))) (K.ed.mono fun e he => List.mem_append_right _ (List.mem_append_right _ (List.mem_append_right _ (.tail _ (.tail _ he))))) H₁ fun fa as s₂ hal H₂ => ?_
  obtain ⟨M, hM⟩ : ∃ M, M = warsh row.length es := ⟨_, rfl⟩
  have hsq : sq row.length M := by rw [hM]; exact warsh_sq
  have hfar : ∀ x y, getM M x y = true ↔ Reach es x y := by rw [hM]; exact warsh_iff K.base.lt
  rw [← hM] at H₂
  clear hM
  refine st_far ((fa, LI (as.map Value.ref)) :: rowsL as M) V H₂ fun s₃ H₃ => ?_
  obtain ⟨v1, hv1⟩ : ∃ v1 : LV, v1 = { v with far := some (.ref fa) } := ⟨_, rfl⟩
  have N1 : WN G S la v1 m turn := by rw [hv1]; exact ⟨N.sorter, N.picks, N.handed, N.turn, N.vrow, N.vedges, N.vheld, N.vfin, N.vleft⟩
  have vf : v1.far = some (.ref fa) := by rw [hv1]
  rw [← hv1] at H₃
  clear hv1
  obtain ⟨XX, hXX⟩ : ∃ XX, XX = (fa, LI (as.map Value.ref)) :: rowsL as M := ⟨_, rfl⟩
  rw [← hXX] at H₃
  have x_fa : (fa, LI (as.map Value.ref)) ∈ XX := by rw [hXX]; exact .head _
  have x_rows : ∀ e ∈ rowsL as M, e ∈ XX := fun e he => by rw [hXX]; exact .tail _ he
  clear hXX
  -- due
  obtain ⟨L0, hL0⟩ : ∃ L0, L0 = XX ++ (frL a v1 m ++ (wkL G la lvs fvs dvs ++ soR prog w G S yvs)) := ⟨_, rfl⟩
  have i_fr : ∀ e ∈ frL a v1 m, e ∈ L0 := fun e he => by rw [hL0]; exact List.mem_append_right _ (List.mem_append_left _ he)
  have i_X : ∀ e ∈ XX, e ∈ L0 := fun e he => by rw [hL0]; exact List.mem_append_left _ he
  have i_ro : (G.ra, LI G.rvs) ∈ L0 := by rw [hL0]; exact i_row XX _ _
  have i_he : (G.ha, LI G.hvs) ∈ L0 := by rw [hL0]; exact List.mem_append_right _ (List.mem_append_right _ (List.mem_append_left _ (.tail _ (.tail _ (.tail _ (.tail _ (.head _)))))))
  refine wpAny_execs_cons (r_AssignComp (h₀ := h₀) (os := os) (Z := fun D out L' => All2 NV out ((dueL row.length (getM M) held).map fun y => y) ∧ L' = XX ++ (frL a v1 m ++ (wkL G la lvs fvs dvs ++ soR prog w G S yvs))) (swaps_ev V true (by rfl)) ?_ ?_ V (closureFor_ev V rfl))
  · refine r_callN (r_glo V H₃ (B.glob _ (.type "range") (by decide)) (r_cw H₃ (keeps_type _) (r_callN (r_glo V H₃ (B.glob _ (.builtin "len") (by decide)) (r_cw H₃ (keeps_builtin _) (ld_row XX V H₃ N1.vrow ⟨_, H₃, ?_⟩))))))
    refine r_lenL H₃ (i_row XX _ _) (s40 hrvl') fun _ s₄ H₄ => ⟨_, H₄, ?_⟩
    rw [hrvl]
    refine r_range1 H₄ fun rg s₅ H₅ => r_iter_rng1 H₅ (.head _) (s40 hrl) fun ia s₆ H₆ => ?_
    rw [upBy_range, ← hL0] at H₆
    rw [← hL0]
    unfold dueL
    refine compC (nexts_rng ia 1) V (dueB row.length (getM M) held) (fun y => y) NV hA.handled (fun _ _ _ => trivial) (by rw [List.length_range]; exact ssz hrl) (List.sublist_cons_self ..) ?_ ?_ H₆
    · intro cenv Cl cb E' G' m' bv y s' Vc hbv hy Hs
      have hy' : y < row.length := List.mem_range.mp hy
      have hin : ∀ e ∈ L0, e ∈ G' ++ (cb, CE (some bv)) :: (Cl, NS m') :: (rg, RA 0 row.length 1) :: L0 := fun e he => List.mem_append_right _ (.tail _ (.tail _ (.tail _ he)))
      obtain ⟨Lc, hLc⟩ : ∃ Lc, Lc = G' ++ (cb, CE (some bv)) :: (Cl, NS m') :: (rg, RA 0 row.length 1) :: L0 := ⟨_, rfl⟩
      have i_b : (cb, CE (some bv)) ∈ Lc := by rw [hLc]; exact List.mem_append_right _ (.head _)
      rw [← hLc] at hin Hs ⊢
      refine r_tests1 (r_cmp1 (r_ListComp (h₀ := h₀) (os := os) (Z := fun D2 out2 L2 => All2 NV out2 (((List.range row.length).filter (badB (getM M) held y)).map fun z => z) ∧ L2 = Lc) ?_ ?_ (closureFor_ev Vc (by rfl))))
      · refine r_callN (r_glo Vc Hs (B.glob _ (.type "range") (by decide)) (r_cw Hs (keeps_type _) (r_callN (r_glo Vc Hs (B.glob _ (.builtin "len") (by decide)) (r_cw Hs (keeps_builtin _) (r_cel (c := a.row) Vc Hs rfl (hin _ (i_fr _ (fr_row N1.vrow))) ⟨_, Hs, ?_⟩))))))
        refine r_lenL Hs (hin _ i_ro) (s40 hrvl') fun _ s₇ H₇ => ⟨_, H₇, ?_⟩
        rw [hrvl]
        refine r_range1 H₇ fun rh s₈ H₈ => r_iter_rng1 H₈ (.head _) (s40 hrl) fun ib s₉ H₉ => ?_
        rw [upBy_range] at H₉
        refine comp0 (nexts_rng ib 1) Vc (badB (getM M) held y) (fun z => z) NV hA.handled (fun _ _ => trivial) (by rw [List.length_range]; exact ssz hrl) (List.sublist_cons_self ..) ?_ ?_ H₉
        · intro cenv2 Cl2 E2 G2 m2 xv x s2 V2 hk2 hxv hx Ks
          have hx' : x < row.length := List.mem_range.mp hx
          obtain ⟨tx, rfl⟩ := hxv
          obtain ⟨ty, rfl⟩ := hbv
          have hin2 : ∀ e ∈ Lc, e ∈ G2 ++ (Cl2, NS m2) :: (rh, RA 0 row.length 1) :: Lc := fun e he => List.mem_append_right _ (.tail _ (.tail _ he))
          obtain ⟨ad, had⟩ : ∃ ad, as[x]? = some ad := ⟨_, List.getElem?_eq_getElem (by rw [hal]; exact hx')⟩
          have hlA : (as.map Value.ref)[x]? = some (.ref ad) := by simp [had]
          obtain ⟨r, hr, hrb, hrle⟩ := sq_get hsq hx' hy'
          obtain ⟨r', hr', hrx, _⟩ := sq_get hsq hx' hx'
          obtain rfl : r = r' := by rw [hr] at hr'; exact Option.some.inj hr'
          have i_fa : (fa, LI (as.map Value.ref)) ∈ G2 ++ (Cl2, NS m2) :: (rh, RA 0 row.length 1) :: Lc := hin2 _ (hin _ (i_X _ x_fa))
          have i_ad : (ad, LQ (r.map boolV)) ∈ G2 ++ (Cl2, NS m2) :: (rh, RA 0 row.length 1) :: Lc := hin2 _ (hin _ (i_X _ (x_rows _ (rowsL_mem had hr))))
          have i_far : (a.far, CE (some (.ref fa))) ∈ G2 ++ (Cl2, NS m2) :: (rh, RA 0 row.length 1) :: Lc := hin2 _ (hin _ (i_fr _ (fr_far vf)))
          refine r_tests1 (wpAny_isTrue_BoolOp (wpAny_allTrue_And_cons (wpAny_isTrue_value (Subscript_ (Subscript_ (r_cel (c := a.far) V2 Ks rfl i_far (r_loc V2 Ks (List.mem_append_right _ (.head _)) hk2 (r_subL Ks i_fa (s40 (lt21 hx' hrl)) hlA (r_cel (c := cb) V2 Ks rfl (hin2 _ i_b) (r_subQ Ks i_ad (s40 (lt21 hy' hrl)) (x := boolV (getM M x y)) (by simp [hrb]) (wpAny_truthy_bool ?_)))))))))))
          cases hg1 : getM M x y with
          | false =>
            rw [if_neg (by simp)]
            exact ⟨by simp [badB, hg1], Ks⟩
          | true =>
            rw [if_pos rfl]
            refine wpAny_allTrue_And_cons (wpAny_isTrue_BoolOp (wpAny_allTrue_Or_cons (wpAny_isTrue_value (Subscript_ (Subscript_ (r_cel (c := a.far) V2 Ks rfl i_far (r_loc V2 Ks (List.mem_append_right _ (.head _)) hk2 (r_subL Ks i_fa (s40 (lt21 hx' hrl)) hlA (r_loc V2 Ks (List.mem_append_right _ (.head _)) hk2 (r_subQ Ks i_ad (s40 (lt21 hx' hrl)) (x := boolV (getM M x x)) (by simp [hrx]) (wpAny_truthy_bool ?_)))))))))))
            cases hg2 : getM M x x with
            | true =>
              rw [if_pos rfl, if_pos rfl]
              exact wpAny_allTrue_And_nil ⟨by simp [badB, hg1, hg2], Ks⟩
            | false =>
              rw [if_neg (by simp)]
              refine wpAny_allTrue_Or_cons (r_cmp1 (r_loc V2 Ks (List.mem_append_right _ (.head _)) hk2 (r_cel (c := a.held) V2 Ks rfl (hin2 _ (hin _ (i_fr _ (fr_held N1.vheld)))) (r_inI hu Ks (hin2 _ (hin _ i_he)) K.he ⟨tx, rfl⟩ (wpAny_truthy_bool ?_)))))
              by_cases h3 : x ∈ held
              · rw [if_pos (by simpa using h3), if_pos rfl]
                exact wpAny_allTrue_And_nil ⟨by simp [badB, hg1, h3], Ks⟩
              · rw [if_neg (by simpa using h3)]
                refine wpAny_allTrue_Or_nil ?_
                rw [if_neg (by simp)]
                exact ⟨by simp [badB, hg2, h3], Ks⟩
        · intro cenv2 Cl2 E2 G2 m2 xv x s2 V2 hk2 hxv hx _ Ks
          exact r_loc V2 Ks (List.mem_append_right _ (.head _)) hk2 ⟨hxv, Ks⟩
      · rintro D2 out2 L2 s₇ ⟨ho, rfl⟩ H₇
        rw [List.map_id'] at ho
        refine r_List0 H₇ fun ee s₈ H₈ => r_eqN hu H₈ (.tail _ (.head _)) (.head _) ho .nil (wpAny_truthy_bool ⟨?_, H₈.tail.tail⟩)
        unfold dueB
        cases (List.range row.length).filter (badB (getM M) held y) <;> simp
    · intro cenv Cl cb E' G' m' bv y s' Vc hbv hy _ Hs
      exact r_cel (c := cb) Vc Hs rfl (List.mem_append_right _ (.head _)) ⟨hbv, Hs⟩
  rintro D out L' ⟨hout, rfl⟩
  refine ⟨_, _, .right (.left .head), fun s₄ H₄ => ?_⟩
  rw [List.map_id'] at hout
  replace H₄ : St h₀ os ((D, LI out) :: (XX ++ (frL a v1 (putL m (Str.ofString "due") (.ref D)) ++ (wkL G la lvs fvs dvs ++ soR prog w G S yvs)))) s₄ := H₄
  have N2 : WN G S la v1 (putL m (Str.ofString "due") (.ref D)) turn := ⟨putL_ne N1.sorter, putL_ne N1.picks, putL_ne N1.handed, let ⟨t, q⟩ := N1.turn; ⟨t, putL_ne q⟩, N1.vrow, N1.vedges, N1.vheld, N1.vfin, N1.vleft⟩
  have hdue : (putL m (Str.ofString "due") (.ref D)).lookup (Str.ofString "due") = some (.ref D) := putL_eq
  generalize putL m (Str.ofString "due") (.ref D) = m1 at H₄ N2 hdue
  -- the answer
  have hleft : ∀ k ∈ handed, k ∈ held ∨ k ∈ fin := fun k hk => by
    refine Classical.byContradiction fun hn => ?_
    have : k ∈ handed.filter fun k => !decide (k ∈ held) && !decide (k ∈ fin) := List.mem_filter.mpr ⟨hk, by simpa using not_or.mp hn⟩
    rw [← W.lf] at this
    cases this
  have hdm := I.inv.due K.base hleft W.fh hfar
  have hlast := I.inv.last K.base hleft W.fh hfar
  refine wpAny_execs_cons (wpAny_Return_some (BoolOp_and (wpAny_Compare1 (r_callN (r_glo V H₄ (B.glob _ (.builtin "sorted") (by decide)) (r_cw H₄ (keeps_builtin _) (lw_loc (_ :: XX) V H₄ N2.handed ⟨_, H₄, ?_⟩)))))))
  refine r_sorted H₄ (.tail _ (List.mem_append_right _ (List.mem_append_right _ (List.mem_append_left _ (.tail _ (.tail _ (.head _))))))) W.dv (by rw [hdvl]; exact Nat.lt_of_le_of_lt (Nat.le_trans hhl hrl) (by decide)) fun so ws js s₅ hws hperm hsor H₅ => ?_
  obtain rfl : js = dueL row.length (getM M) held := sorted_eq hsor (hperm.nodup_iff.mpr I.inv.hn) (dueL_sorted ..) fun x => (hperm.mem_iff).trans (hdm x)
  refine lw_loc (_ :: _ :: XX) V H₅ hdue (r_eqN hu H₅ (.head _) (.tail _ (.head _)) hws hout (wpAny_truthy_bool ?_))
  rw [if_pos (by simp)]
  obtain ⟨f1, f2, f3⟩ := kf_m106 w.params
  have eP : ∀ U : List Ent, (so, LI ws) :: (D, LI out) :: (XX ++ (frL a v1 m1 ++ (wkL G la lvs fvs dvs ++ U))) = ((so, LI ws) :: (D, LI out) :: (XX ++ (frL a v1 m1 ++ wkL G la lvs fvs dvs))) ++ U := fun U => by simp
  have inS : ∀ e ∈ S.L prog w, e ∈ (so, LI ws) :: (D, LI out) :: (XX ++ (frL a v1 m1 ++ (wkL G la lvs fvs dvs ++ soR prog w G S yvs))) := fun e he => .tail _ (.tail _ (List.mem_append_right _ (List.mem_append_right _ (List.mem_append_right _ (List.mem_append_left _ he)))))
  refine BoolOp_one (wpAny_Compare1 (r_callM (lw_loc (_ :: _ :: XX) V H₅ N2.sorter (r_meth H₅ B.K (inS _ (.head _)) (inS _ (.tail _ (.head _))) (kf_get137 _ _) f1 f2 rfl (r_cw H₅ (keeps_frag B.K f3) ⟨_, H₅, ?_⟩)))))
  have hye : yvs = [] := by
    have := I.yv.length
    exact List.length_eq_zero_iff.mp (by simpa using this)
  rw [eP] at H₅
  refine is_active_spec (k := k + 3) B hA I.rdy (by rw [hye]; exact Nat.two_pow_pos 20) (St.pull (Y := S.L prog w) (e := (G.ya, LI yvs)) (R := (G.ra, LI G.rvs) :: G.T) H₅) fun s₆ H₆ => ?_
  replace H₆ := St.back (Y := S.L prog w) (e := (G.ya, LI yvs)) (R := (G.ra, LI G.rvs) :: G.T) H₆
  replace H₆ : St h₀ os (((so, LI ws) :: (D, LI out) :: (XX ++ (frL a v1 m1 ++ wkL G la lvs fvs dvs))) ++ soR prog w G S yvs) s₆ := H₆
  rw [← eP] at H₆
  refine wpAny_Compare1 (r_ListComp (h₀ := h₀) (os := os) (Z := fun D2 out2 L2 => All2 NV out2 (((dueL row.length (getM M) held).filter fun y => decide (y ∈ held)).map fun y => y) ∧ L2 = (so, LI ws) :: (D, LI out) :: (XX ++ (frL a v1 m1 ++ (wkL G la lvs fvs dvs ++ soR prog w G S yvs)))) ?_ ?_ (closureFor_ev V rfl))
  · refine lw_loc (_ :: _ :: XX) V H₆ hdue (r_iter_list (xs := dueL row.length (getM M) held) H₆ (.tail _ (.head _)) fun ia s₇ H₇ => ?_)
    have hdl : (dueL row.length (getM M) held).length ≤ 21 := by
      unfold dueL
      refine Nat.le_trans (List.length_filter_le ..) ?_
      rw [List.length_range]; exact hrl
    refine comp0 (nexts_list (R := NV) ia D (dueL row.length (getM M) held)) V (fun y => decide (y ∈ held)) (fun y => y) NV hA.handled (fun _ _ => ⟨out, hout, .tail _ (.tail _ (.tail _ (.head _)))⟩) (ssz hdl) (List.Sublist.refl _) ?_ ?_ H₇
    · intro cenv Cl E' G' m' kv y s' Vc hk' hkv hy Hs
      have i_he2 : (G.ha, LI G.hvs) ∈ (so, LI ws) :: (D, LI out) :: (XX ++ (frL a v1 m1 ++ (wkL G la lvs fvs dvs ++ soR prog w G S yvs))) := .tail _ (.tail _ (List.mem_append_right _ (List.mem_append_right _ (List.mem_append_left _ (.tail _ (.tail _ (.tail _ (.tail _ (.head _)))))))))
      have i_hc : (a.held, CE (some (.ref G.ha))) ∈ (so, LI ws) :: (D, LI out) :: (XX ++ (frL a v1 m1 ++ (wkL G la lvs fvs dvs ++ soR prog w G S yvs))) := .tail _ (.tail _ (List.mem_append_right _ (List.mem_append_left _ (fr_held N2.vheld))))
      exact r_tests1 (r_cmp1 (r_loc Vc Hs (List.mem_append_right _ (.head _)) hk' (r_cel (c := a.held) Vc Hs rfl (List.mem_append_right _ (.tail _ i_hc)) (r_inI hu Hs (List.mem_append_right _ (.tail _ i_he2)) K.he hkv (wpAny_truthy_bool ⟨rfl, Hs⟩)))))
    · intro cenv Cl E' G' m' kv y s' Vc hk' hkv hy _ Hs
      exact r_loc Vc Hs (List.mem_append_right _ (.head _)) hk' ⟨hkv, Hs⟩
  rintro D2 out2 L2 s₇ ⟨ho2, rfl⟩ H₇
  rw [List.map_id'] at ho2
  refine r_List0 H₇ fun ee s₈ H₈ => r_neN hu H₈ (.tail _ (.head _)) (.head _) ho2 .nil ?_
  have e3 : (!decide ((dueL row.length (getM M) held).filter (fun y => decide (y ∈ held)) = [])) = !((dueL row.length (getM M) held).filter (fun y => decide (y ∈ held))).isEmpty := by
    cases (dueL row.length (getM M) held).filter (fun y => decide (y ∈ held)) <;> simp
  rw [e3, ← hlast, I.sfin, I.passed, hye]
  refine is_bool ?_
  have e4 : ((decide ((fin.length : Int) < (handed.length : Int)) || !([] : List Value).isEmpty) == decide ((fin.length : Int) < (handed.length : Int))) = true := by simp
  rw [e4]
  exact h _ s₈ H₈
end
end Mine
end
section
open PySem PySem.W PySem.Calls PyProof.Rows
namespace Mine
section
variable {prog : Program} {w : World} {A : Around} {E : Value → Shared → Prop} {h₀ : Heap} {os : OsState} {s : Shared}
theorem row_keys {xs : List Int} {row : List Nd} {l ra ea ha pa : Addr} {c : BW} (hro : RowOf xs row) (I : BI xs row l ra ea ha pa ((xs.length + 2) / 3) c) : ∀ y ∈ row, y ∈ (absN c.S.nis).map (·.key) := by
  intro y hy
  obtain ⟨x, hx, rfl⟩ := List.mem_map.mp ((hro.mem y).mp hy)
  unfold thirds at hx
  obtain ⟨j, hj, hx⟩ := List.mem_filterMap.mp hx
  exact I.keys j (List.mem_range.mp hj) x hx
theorem row_xs {xs : List Int} {row : List Nd} (hro : RowOf xs row) (h : row ≠ []) : 0 < xs.length := by
  obtain ⟨y, hy⟩ := List.exists_mem_of_ne_nil _ h
  obtain ⟨x, hx, rfl⟩ := List.mem_map.mp ((hro.mem y).mp hy)
  unfold thirds at hx
  obtain ⟨j, hj, hx⟩ := List.mem_filterMap.mp hx
  have := (List.getElem?_eq_some_iff.mp hx).1
  omega
theorem law_spec {k : Nat} (B : BF w h₀) (hA : Calm A (k + 7)) (hfr : A.frames = some []) {l : Addr} {vs : List Value} {xs : List Int} (hl : h₀.IsList l vs.toArray) (hvs : IntsAre vs xs) (hz : xs.length < 64) (H : St h₀ os [] s) {Q : Value → Shared → Prop}
    (h : ∀ L s', St h₀ os L s' → Q (.bool true) s') : wpAny (model prog w) A (call (.ref 158) [.ref l]) Q E s := by
  refine wpAny_call (r_callFn (names := lawN w.params) (body := lawB w.params) H hA.room B.nolim (B.K 158 _ rfl) rfl (B.code (by kernel_rfl)) rfl rfl rfl rfl rfl rfl ?_)
  refine wpAny_pure ⟨_, H, fun env C as s₁ henv V hal H₁ => ?_⟩
  obtain ⟨a0, ha0⟩ := cells_len hal
  obtain ⟨e1, e2⟩ := ha0 C
  obtain ⟨a, ha⟩ : ∃ a : LA, a = { a0 with C := C } := ⟨_, rfl⟩
  have haC : a.C = C := by rw [ha]
  rw [← ha] at e1 e2
  rw [e1, ← haC] at V
  rw [e2] at H₁
  have hfC : env.frame = some a.C := by rw [henv, haC]; rfl
  have hfr2 : (A.deeper env).frames = some [env] := by show A.frames.map _ = _; rw [hfr]; rfl
  clear henv e1 e2 ha0 ha haC
  have H₂ : St h₀ os (frL a {} [] ++ []) s₁ := by rw [List.append_nil]; exact H₁.perm (List.reverse_perm _)
  have hA' : Calm (A.deeper env) (k + 6) := hA.deeper
  refine r_binds_cons (lw_sto [] V H₂ fun s₂ H₃ => r_binds_nil ⟨_, H₃, ?_⟩)
  refine law_row (k := k + 5) (vs := vs) B hA' V hl hvs hz putL_eq H₃ fun ra rvs row m1 s₃ hro hrv hm1 H₄ => ?_
  refine law_new (k := k + 4) B hA' V H₄ fun ea ha pa S s₄ q1 q2 q3 q4 H₅ => ?_
  have I0 : BI xs row l ra ea ha pa 0 ⟨{ row := some (.ref ra), edges := some (.ref ea), held := some (.ref ha) }, putL (putL m1 (Str.ofString "sorter") (.ref S.self)) (Str.ofString "picks") (.ref pa), [], [], [], S, []⟩ := by
    refine ⟨putL_ne (putL_ne hm1), putL_ne putL_eq, putL_eq, rfl, rfl, rfl, ?_, q2, q3, q4, ⟨[], [], [], .nil, .nil, .nil, ?_, Nat.le_refl _, Nat.le_refl _, rfl⟩, ?_, fun j hj => absurd hj (Nat.not_lt_zero _)⟩
    · show okN S.nis
      rw [q1]
      exact ⟨fun _ h => (List.not_mem_nil h).elim, List.nodup_nil⟩
    · show Bld row [] (absN S.nis)
      rw [q1]
      exact Bld.nil hro.nodup
    · show sbound (absN S.nis) _
      rw [q1]
      exact fun _ h => (List.not_mem_nil h).elim
  refine law_build (k := k) B hA' V hl hvs hz hro hrv I0 H₅ fun c s₅ I H₆ => ?_
  have hall := row_keys hro I
  obtain ⟨v, m, evs, hvs', pvs, S2, T⟩ := c
  obtain ⟨es, held, pk, hes, hhe, hpk, DB, hel, hhl, hpl⟩ := I.exs
  dsimp only at hes hhe hpk DB hall
  have hok : okN S2.nis := I.ok
  have sok := succ_ok DB.base hok DB.su DB.ks
  have hlen := I.len hro.len
  have h21 : (xs.length + 2) / 3 ≤ 21 := by omega
  have hel2 : es.length ≤ 441 := by omega
  refine law_prepare (k := k) (X := [(pa, LI pvs), (ha, LI hvs'), (ea, LI evs)]) (R := (ra, LI rvs) :: T) B hA' hfr2 hfC V hok I.rdy (fun n hn x hx => ?_) (by have : S2.nis.length ≤ 21 := hlen; omega) (fun n hn => ?_) I.sorter H₆ fun ya yvs s₆ hyv H₇ => ?_
  · rw [← absN_keys]; exact hall x ((sok n hn).1 x hx)
  · have h1 := (hok.1 n hn).2.length
    have h2 := (sok n hn).2
    omega
  have K : FF ⟨ra, ea, ha, pa, ya, 0, 0, rvs, evs, hvs', pvs, T⟩ row es held pk := ⟨hrv, hro.fit, hro.len, hes, hhe, hpk, fun hr => by
    have := row_xs hro hr
    intro e
    rw [e] at hpl
    simp at hpl
    omega, DB.base, hel2, by omega, by omega⟩
  have SI0 : SI ⟨ra, ea, ha, pa, ya, 0, 0, rvs, evs, hvs', pvs, T⟩ row es { S2 with ready := .ref ya } yvs (readyOf (absN S2.nis)) [] [] :=
    ⟨hyv, hok, rfl, I.passed, I.fin, DB.inv hall, fun y => ⟨DB.ks y, hall y⟩⟩
  refine law_first (k := k) (G := ⟨ra, ea, ha, pa, ya, 0, 0, rvs, evs, hvs', pvs, T⟩) B hA' V K SI0 I.sorter I.picks I.vrow I.vedges I.vheld H₇ fun da fa c rks' handed fin left turn s₇ W H₈ => ?_
  have K2 : FF ⟨ra, ea, ha, pa, ya, da, fa, rvs, evs, hvs', pvs, T⟩ row es held pk := ⟨K.rv, K.fit, K.rl, K.ed, K.he, K.pv, K.pz, K.base, K.el, K.hl, K.pl⟩
  refine law_while (k := k) B hA' V K2 W H₈ fun c' rks2 handed2 fin2 turn2 s₈ W2 H₉ => ?_
  exact law_end (k := k) B hA' V K2 W2 H₉ fun L s₉ Ha => h L s₉ Ha
end
end Mine
end
open PySem PySem.W PySem.Calls PyProof.Rows
namespace Mine
section
variable {w : World} {h : Heap} {p : Program} {loose : List Str} {mg mb : Str → Option Value}
theorem g_own (KX : (KH w.params).In h) (T : TopRead p loose mg mb h) {x : Str} {v : Value} (e : nsIn (KH w.params) mainGlobals x = some (some v)) : GlobIs h x v := ⟨mg, mb, T.g, T.b, .inl (mg_of KX T.g e)⟩
theorem g_blt (KX : (KH w.params).In h) (T : TopRead p loose mg mb h) {x : Str} {v : Value} (e : nsIn (KH w.params) mainGlobals x = some none) (hn : x ≠ "__name__") (hb : bootBuiltins x = some v) : GlobIs h x v := ⟨mg, mb, T.g, T.b, .inr ⟨mg_none_of KX T.g e, (T.builtins x hn).trans hb⟩⟩
theorem globs (KX : (KH w.params).In h) (T : TopRead p loose mg mb h) : ∀ x v, (x, v) ∈ globTab → GlobIs h x v := by
  intro x v hm
  simp only [globTab, List.mem_cons, List.not_mem_nil, or_false, Prod.mk.injEq] at hm
  rcases hm with ⟨rfl, rfl⟩ | ⟨rfl, rfl⟩ | ⟨rfl, rfl⟩ | ⟨rfl, rfl⟩ | ⟨rfl, rfl⟩ | ⟨rfl, rfl⟩ | ⟨rfl, rfl⟩ | ⟨rfl, rfl⟩ | ⟨rfl, rfl⟩ | ⟨rfl, rfl⟩ | ⟨rfl, rfl⟩ | ⟨rfl, rfl⟩ | ⟨rfl, rfl⟩ | ⟨rfl, rfl⟩ | ⟨rfl, rfl⟩ | ⟨rfl, rfl⟩
  · exact g_own KX T (by kernel_rfl)
  · exact g_own KX T (by kernel_rfl)
  · exact g_own KX T (by kernel_rfl)
  · exact g_own KX T (by kernel_rfl)
  · exact g_own KX T (by kernel_rfl)
  · exact g_own KX T (by kernel_rfl)
  · exact g_own KX T (by kernel_rfl)
  · exact g_blt KX T (by kernel_rfl) (by decide) (by kernel_rfl)
  · exact g_blt KX T (by kernel_rfl) (by decide) (by kernel_rfl)
  · exact g_blt KX T (by kernel_rfl) (by decide) (by kernel_rfl)
  · exact g_blt KX T (by kernel_rfl) (by decide) (by kernel_rfl)
  · exact g_blt KX T (by kernel_rfl) (by decide) (by kernel_rfl)
  · exact g_blt KX T (by kernel_rfl) (by decide) (by kernel_rfl)
  · exact g_blt KX T (by kernel_rfl) (by decide) (by kernel_rfl)
  · exact g_blt KX T (by kernel_rfl) (by decide) (by kernel_rfl)
  · exact g_blt KX T (by kernel_rfl) (by decide) (by kernel_rfl)
end
theorem post_true (a b : List WData) : PySem.Challenge.rw_dm0129_12.row.claim.post a (.bool true) b = true := by
  show (WShape.has [] (.bool true) .bool && WTm.holds [] (.eq .res (.lit (.bool true))) { args := a, res := some (.bool true), after := b }) = true
  have e1 : WShape.has [] (.bool true) .bool = true := by kernel_rfl
  have e2 : WTm.holds [] (.eq .res (.lit (.bool true))) { args := a, res := some (.bool true), after := b } = true := by
    unfold WTm.holds
    simp only [WTm.value]
    kernel_rfl
  rw [e1, e2]; rfl
end Mine
set_option maxHeartbeats 4000000 in
theorem PySem.Challenge.cw_dm0129_12_holds : PySem.Challenge.rw_dm0129_12.Holds := by
  refine Mine.hd ?_
  intro w s₀ s₁ mg mb G Y fa o pm cd doc dV kV ho hdd hcd hD hmg hg args vals as hpre hlay hrd hwl hlo
  have KX : (Mine.KH w.params).In s₁.heap := kIn_of Y
  have TT : TopRead _ _ mg mb s₁.heap := Ground.open G (fun T _ _ _ _ => topRead_of T)
  have hfa : fa = 158 := by
    have h1 := mg_of (n := Str.ofString "law") (v := .ref 158) KX TT.g (by kernel_rfl)
    have h2 : mg (Str.ofString "law") = some (.ref fa) := hmg
    rw [h1] at h2
    cases h2
    rfl
  have h3 : ∃ o, s₁.heap.get? sysModules = some o := Ground.open G (fun T _ _ _ _ => by
    obtain ⟨mm, ⟨o, _, _, ho, _⟩, _⟩ := (T.seer (by decide +kernel)).mods
    exact ⟨o, ho⟩)
  clear ho hdd hcd hD hmg
  subst hfa
  wrow_args hpre hlay hrd hwl hlo
  rename IntsAre _ _ => hI
  rename Heap.IsList _ _ _ => hL
  rename ¬ (_ < _) => hc
  have B : Mine.BF w s₁.heap := ⟨KX, TT.nolimit, Mine.globs KX TT⟩
  have H0 : Mine.St s₁.heap s₁.os [] s₁ := ⟨⟨fun _ h => (List.not_mem_nil h).elim, List.nodup_nil, fun _ h => (List.not_mem_nil h).elim, fun _ _ e => e, fun _ h => (List.not_mem_nil h).elim, h3⟩, hg, rfl⟩
  have hA : Mine.Calm callerA (0 + 7) := ⟨rfl, by decide, by decide⟩
  show wpAny _ callerA (call (.ref 158) [.ref _]) _ _ s₁
  refine Mine.law_spec (k := 0) B hA rfl hL hI (by omega) H0 fun L s' H => GoodW.toG ⟨.inl ⟨.bool true, .bool true, [], rfl, fun _ => rfl, .bool .., ?_, fun _ => ⟨List.nodup_nil, fun _ h => (List.not_mem_nil h).elim⟩⟩, H.keep, H.os, H.gens⟩
  exact Mine.post_true _ _
