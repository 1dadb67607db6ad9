/-
  Words on memory that the walks of FnSizes share: a block known whole, a byte row of a known capacity that is appended to within its room, and the bundle that NewXof keeps. Conditions: none beyond each lemma's own premises.
-/
import Derived.Below
import Derived.Laws.OwnMore
import Derived.Laws.Rows
import Derived.Laws.Tables
import Derived.Laws.IdiomCopy
import Derived.Deep.Draws
import Derived.Deep.MidRow
import Derived.Deep.WholeRow
import Derived.Tactics
namespace Go.Proofs.YtkacahdogfchfaaGreatDoor
open Go.RowKit

theorem hide {p : Prop} (h : p) : Hid p := h

/-- Block g is just the cells cs of type t, none frozen. -/
def Blk (w : World) (g : Nat) (t : TypeId) (cs : Array Value) : Prop := w.heap[g]? = some (.cells cs t (0, 0))

section
variable {w w' : World} {g : Nat} {t : TypeId} {cs : Array Value}
theorem Blk.lt (h : Blk w g t cs) : g < w.heap.size := by
  rcases Nat.lt_or_ge g w.heap.size with hlt | hge
  · exact hlt
  · unfold Blk at h; rw [Array.getElem?_eq_none hge] at h; cases h
theorem Blk.cell (h : Blk w g t cs) (i : Nat) : w.cell? ⟨g, i, none⟩ = cs[i]? := cell_of_row w g i cs t (0, 0) h
theorem Blk.frozen (h : Blk w g t cs) (i : Nat) : w.frozen? ⟨g, i, none⟩ = false := by
  unfold Blk at h
  simp [World.frozen?, h]
theorem Blk.new (w : World) (t : TypeId) (cs : Array Value) : Blk (w.alloc (.cells cs t)) w.heap.size t cs := heap_alloc_new w _
theorem Blk.drew (h : Blk w g t cs) : Blk w.drew g t cs := h
theorem Blk.drewN (h : Blk w g t cs) (n : Nat) : Blk (w.drewN n) g t cs := h
theorem Blk.alloc (h : Blk w g t cs) (o : Obj) : Blk (w.alloc o) g t cs := (Below.heap_alloc w o g h.lt).trans h
theorem Blk.set_ (h : Blk w g t cs) (i : Nat) (u : Value) : Blk (w.setCell ⟨g, i, none⟩ u) g t (cs.setIfInBounds i u) := by
  unfold Blk at h ⊢
  simp [World.setCell, Array.getElem?_modify, h]
theorem Blk.far (h : Blk w g t cs) {p : Addr} (hp : g ≠ p.block) (u : Value) : Blk (w.setCell p u) g t cs := (Below.heap_setCell w p u g hp).trans h
theorem Blk.below {B : Nat} (h : Blk w g t cs) (hb : Below B w w') (hg : g < B) : Blk w' g t cs := (hb.block g hg).trans h
theorem Blk.grown {row : Option Nat} (h : Blk w g t cs) (hb : w.grownBy w' row) (hg : some g ≠ row) : Blk w' g t cs := (hb.block g h.lt hg).trans h
theorem Blk.setRow (h : Blk w g t cs) (cs' : Array Value) : Blk (w.setRow g cs') g t cs' := setRow_heap w g cs cs' t (0, 0) h
theorem Blk.setRow_far {k : Nat} (h : Blk w g t cs) (hk : g ≠ k) (cs' : Array Value) : Blk (w.setRow k cs') g t cs := (setRow_other w k g cs' hk).trans h
end

theorem below_drewN {B : Nat} {a w : World} (h : Below B a w) (n : Nat) : Below B a (w.drewN n) := ⟨h.os, h.tape, h.output, h.size, h.block⟩
theorem below_setRow {B : Nat} {a w : World} (h : Below B a w) {g : Nat} (hg : B ≤ g) (cs : Array Value) : Below B a (w.setRow g cs) :=
  h.trans ⟨rfl, rfl, rfl, by simp, fun k hk => setRow_other w g k cs (by omega)⟩
theorem below_setCells {B : Nat} {a w : World} (h : Below B a w) {g : Nat} (hg : B ≤ g) : ∀ (vs : List Value) (o : Nat), Below B a (w.setCells g o vs) := by
  intro vs
  induction vs generalizing w with
  | nil => intro o; exact h
  | cons v r ih => intro o; exact ih (h.setCell (p := ⟨g, o, none⟩) hg v) (o + 1)
theorem bcell {W w1 : World} {B : Nat} (hb : Below B W w1) : (∀ b o, b < B → w1.cell? ⟨b, o, none⟩ = W.cell? ⟨b, o, none⟩) ∧ (∀ b o, b < B → w1.frozen? ⟨b, o, none⟩ = W.frozen? ⟨b, o, none⟩) :=
  ⟨fun b o h => hb.cell (p := ⟨b, o, none⟩) h, fun b o h => hb.frozen (p := ⟨b, o, none⟩) h⟩

/-- All cells are one cell each. -/
def Ones (cs : Array Value) : Prop := cs.all (·.oneCell') = true
theorem Ones.set_ {cs : Array Value} (h : Ones cs) (i : Nat) {v : Value} (hv : v.oneCell' = true) : Ones (cs.setIfInBounds i v) := by
  unfold Ones at *
  rw [Array.all_eq_true_iff_forall_mem] at *
  intro x hx
  rcases Array.mem_or_eq_of_mem_setIfInBounds hx with hx | hx
  · exact h x hx
  · rw [hx]; exact hv

/-- The bytes of a row of room for cap: block g holds cap cells of type 5. -/
def Hd (w : World) (g cap : Nat) : Prop := ∃ cur : Array Value, Blk w g 5 cur ∧ cur.size = cap
theorem Hd.lt {w : World} {g cap : Nat} (h : Hd w g cap) : g < w.heap.size := h.elim fun _ h => h.1.lt
theorem Hd.alloc {w : World} {g cap : Nat} (h : Hd w g cap) (o : Obj) : Hd (w.alloc o) g cap := h.elim fun c h => ⟨c, h.1.alloc o, h.2⟩
theorem Hd.far {w : World} {g cap : Nat} (h : Hd w g cap) {p : Addr} (hp : g ≠ p.block) (u : Value) : Hd (w.setCell p u) g cap := h.elim fun c h => ⟨c, h.1.far hp u, h.2⟩
theorem Hd.below {B : Nat} {w w' : World} {g cap : Nat} (h : Hd w g cap) (hb : Below B w w') (hg : g < B) : Hd w' g cap := h.elim fun c h => ⟨c, h.1.below hb hg, h.2⟩

/-- Bytes that a slice value reads: none at nil or at length 0. -/
def Bytes (w : World) (A : Option Addr) (m : Nat) : Prop := m = 0 ∨ ∃ a, A = some a ∧ a.block < w.heap.size ∧ ∃ news : List Value, news.length = m ∧ (∀ j u, news[j]? = some u → w.cell? (a.add j) = some u) ∧ ∀ u ∈ news, u.oneCell' = true
theorem addr_add_block (a : Addr) (n : Nat) : (a.add n).block = a.block := by unfold Addr.add; split <;> rfl
theorem Bytes.keep {w w' : World} {A : Option Addr} {m : Nat} (h : Bytes w A m) (hs : w.heap.size ≤ w'.heap.size) (hk : ∀ p : Addr, p.block < w.heap.size → w'.cell? p = w.cell? p) : Bytes w' A m := by
  rcases h with h | ⟨a, hA, hb, news, h1, h2, h3⟩
  · exact .inl h
  · exact .inr ⟨a, hA, by omega, news, h1, fun j u hu => (hk _ (by rw [addr_add_block]; exact hb)).trans (h2 j u hu), h3⟩
theorem Bytes.below {w w' : World} {A : Option Addr} {m : Nat} (h : Bytes w A m) (hb : Below w.heap.size w w') : Bytes w' A m := h.keep hb.size fun _ hp => hb.cell hp

section
variable {P : Program}
theorem run_app (w : World) (t ty : TypeId) (i : TypeInfo) (ht : P.underlying t = some (.slice 5)) (hi : P.info? 5 = some i) (hs : i.size = 1) (g n cap : Nat) (hd : Hd w g cap)
    (A : Option Addr) (m c : Nat) (hb : Bytes w A m) (hroom : n + m ≤ cap) :
    ∃ w', (Builtin.append_ #[t, t] ty #[.slice (some ⟨g, 0, none⟩) n cap, .slice A m c]).run P w = .ok (.slice (some ⟨g, 0, none⟩) (n + m) cap) w' ∧ Hd w' g cap ∧ w.grownBy w' (some g) := by
  obtain ⟨cur, hg, hc⟩ := hd
  have fin : ∀ (a : Addr) (news : List Value), news.length = m → (∀ j u, news[j]? = some u → w.cell? (a.add j) = some u) → (∀ u ∈ news, u.oneCell' = true) →
      ∃ w', (Builtin.append_ #[t, t] ty #[.slice (some ⟨g, 0, none⟩) n cap, .slice (some a) m c]).run P w = .ok (.slice (some ⟨g, 0, none⟩) (n + m) cap) w' ∧ Hd w' g cap ∧ w.grownBy w' (some g) := by
    intro a news hl hn h1
    refine ⟨_, run_append_room w t ty 5 i ht hi g n cap cur hg a m c news (by rw [hs, hl]; omega) hn h1 hroom (by rw [hs, hl, hc]; omega), ⟨_, setRow_heap w g cur _ 5 (0, 0) hg, ?_⟩, ⟨rfl, rfl, rfl, by simp, fun k _ hk => setRow_other w g k _ (fun e => hk (by rw [e]))⟩⟩
    simp only [List.size_toArray, List.length_append, List.length_take, List.length_drop, Array.length_toList, hs, hl, hc]
    omega
  rcases hb with rfl | ⟨a, rfl, hab, news, hl, hn, h1⟩
  · cases A with
    | none =>
      refine ⟨w, ?_, ⟨cur, hg, hc⟩, ⟨rfl, rfl, rfl, Nat.le_refl _, fun _ _ _ => rfl⟩⟩
      have hz : n ≤ cap := by omega
      simp [Builtin.append_, run_underlying ht, sizeOf, typeInfo, hi, Builtin.lenOf, Builtin.firstCells, hz, storeCells]
    | some a => exact fin a [] rfl (fun j u hu => by simp at hu) (fun u hu => by simp at hu)
  · exact fin a news hl hn h1

/-- At an append within the room, in a plain region. -/
theorem wpList_app {ops : Array Oper} {rest : List Oper} {o : Oper} {a : Act} {w : World} {Q : Exit → Act → World → Prop} (hgd : o.guard = none) (s x : Operand) (t : TypeId)
    (ho : o.op = .call { callee := .builtin .append, args := #[s, x], argTypes := #[t, t] })
    (i : TypeInfo) (ht : P.underlying t = some (.slice 5)) (hi : P.info? 5 = some i) (hsz : i.size = 1) (g n cap : Nat) (hd : Hd w g cap)
    (A : Option Addr) (m c : Nat) (hs : a.eval s = .slice (some ⟨g, 0, none⟩) n cap) (hx : a.eval x = .slice A m c) (hb : Bytes w A m) (hroom : n + m ≤ cap)
    (h : ∀ w', Hd w' g cap → w.grownBy w' (some g) → wpList P ops Q rest (a.put o.dst (.slice (some ⟨g, 0, none⟩) (n + m) cap)) w') : wpList P ops Q (o :: rest) a w :=
  wpList_plain hgd fun _ hK => by
    obtain ⟨w', hr, h2, h3⟩ := run_app (P := P) w t o.type i ht hi hsz g n cap hd A m c hb hroom
    unfold Oper.wp execOp
    simp only [ho, resolve, invoke, builtin, Sem.run_bind, Sem.run_pure, Result.andThen_ok, List.map_toArray, List.map_cons, List.map_nil, hs, hx, hr]
    exact hK _ _ (h w' h2 h3)
end

/-- A block that was just made of bytes, read by a slice over it. -/
theorem bytes_new (w : World) (cs : Array Value) (h1 : Ones cs) : Bytes (w.alloc (.cells cs 5)) (some ⟨w.heap.size, 0, none⟩) cs.size := by
  refine .inr ⟨_, rfl, by simp, cs.toList, by simp, fun j u hu => ?_, fun u hu => ?_⟩
  · have hadd : (⟨w.heap.size, 0, none⟩ : Addr).add j = ⟨w.heap.size, j, none⟩ := by unfold Addr.add; split <;> simp_all
    rw [hadd, (Blk.new w 5 cs).cell]
    simpa using hu
  · exact (Array.all_eq_true_iff_forall_mem.1 h1) u (by simpa using hu)

theorem bytes_one (w : World) (k : IntKind) (x : Int) (B : Nat) (hB : w.heap.size = B) : Bytes (w.alloc (.cells #[.int k x] 5)) (some ⟨B, 0, none⟩) 1 := by
  subst hB; exact bytes_new w #[.int k x] (by simp [Ones, Value.oneCell'])

theorem grown_of_alloc {w w' : World} {o : Obj} {row : Option Nat} (h : (w.alloc o).grownBy w' row) : w.grownBy w' row :=
  ⟨h.os, h.tape, h.output, Nat.le_trans (by simp) h.size, fun k hk hr => (h.block k (by simp; omega) hr).trans (heap_alloc_old w o k hk)⟩
theorem below_of_grown {B g : Nat} {a w w' : World} (h : Below B a w) (hg : w.grownBy w' (some g)) (hB : B ≤ w.heap.size) (hgB : B ≤ g) : Below B a w' :=
  h.grown hg hB (fun k hk => by cases hk; exact hgB)

/-- WHAT NewXof KEEPS: its variable (block b, type t, 202 cells) and the row of bytes (block g, room for cap). -/
structure XS (w0 w : World) (t : TypeId) (b g cap : Nat) : Prop where
  below : Below w0.heap.size w0 w
  hb : w0.heap.size ≤ b
  hg : w0.heap.size ≤ g
  ne : b ≠ g
  blk : ∃ cs, Blk w b t cs ∧ cs.size = 202 ∧ Ones cs
  hd : Hd w g cap
section
variable {w0 w w' : World} {t : TypeId} {b g cap : Nat}
theorem XS.blt (h : XS w0 w t b g cap) : b < w.heap.size := h.blk.elim fun _ h => h.1.lt
theorem XS.alloc (h : XS w0 w t b g cap) (o : Obj) : XS w0 (w.alloc o) t b g cap :=
  ⟨h.below.alloc h.below.size o, h.hb, h.hg, h.ne, h.blk.elim fun cs x => ⟨cs, x.1.alloc o, x.2⟩, h.hd.alloc o⟩
theorem XS.set_ (h : XS w0 w t b g cap) (i : Nat) {v : Value} (hv : v.oneCell' = true) : XS w0 (w.setCell ⟨b, i, none⟩ v) t b g cap :=
  ⟨h.below.setCell (p := ⟨b, i, none⟩) h.hb v, h.hb, h.hg, h.ne, h.blk.elim fun cs x => ⟨_, x.1.set_ i v, by simpa using x.2.1, x.2.2.set_ i hv⟩, h.hd.far (p := ⟨b, i, none⟩) (fun e => h.ne e.symm) v⟩
theorem XS.grown (h : XS w0 w t b g cap) (hg : w.grownBy w' (some g)) (hd : Hd w' g cap) : XS w0 w' t b g cap :=
  ⟨below_of_grown h.below hg h.below.size h.hg, h.hb, h.hg, h.ne, h.blk.elim fun cs x => ⟨cs, x.1.grown hg (by simpa using h.ne), x.2⟩, hd⟩
theorem XS.more (h : XS w0 w t b g cap) (hb : Below w.heap.size w w') : XS w0 w' t b g cap :=
  ⟨h.below.trans (hb.mono h.below.size), h.hb, h.hg, h.ne, h.blk.elim fun cs x => ⟨cs, x.1.below hb h.blt, x.2⟩, h.hd.below hb h.hd.lt⟩
theorem XS.cell1 (h : XS w0 w t b g cap) (i : Nat) (hi : i < 202) : ∃ v, w.cell? ⟨b, i, none⟩ = some v := by
  obtain ⟨cs, h1, h2, _⟩ := h.blk
  exact ⟨cs[i]'(by omega), by rw [h1.cell, Array.getElem?_eq_getElem]⟩
theorem XS.frozen (h : XS w0 w t b g cap) (i : Nat) : w.frozen? ⟨b, i, none⟩ = false := by
  obtain ⟨cs, h1, _⟩ := h.blk
  exact h1.frozen i
end
theorem Blk.setCells {g : Nat} {t : TypeId} : ∀ (vs : List Value) (o : Nat) (w : World) (cs : Array Value), Blk w g t cs → Ones cs → (∀ v ∈ vs, v.oneCell' = true) → ∃ cs', Blk (w.setCells g o vs) g t cs' ∧ cs'.size = cs.size ∧ Ones cs' := by
  intro vs
  induction vs with
  | nil => intro o w cs h h1 _; exact ⟨cs, h, rfl, h1⟩
  | cons v r ih =>
    intro o w cs h h1 hv
    obtain ⟨cs', h', hs', ho'⟩ := ih (o + 1) _ _ (h.set_ o v) (h1.set_ o (hv v (by simp))) (fun x hx => hv x (by simp [hx]))
    exact ⟨cs', h', by simpa using hs', ho'⟩
theorem Blk.there {w : World} {g : Nat} {t : TypeId} {cs : Array Value} (h : Blk w g t cs) (o n : Nat) (hn : o + n ≤ cs.size) : w.there g o n := fun j hj =>
  ⟨by rw [h.cell, Array.getElem?_eq_getElem (by omega)]; rfl, h.frozen _⟩
theorem Hd.setCells {g cap b : Nat} (hne : b ≠ g) : ∀ (vs : List Value) (o : Nat) (w : World), Hd w g cap → Hd (w.setCells b o vs) g cap := by
  intro vs
  induction vs with
  | nil => intro o w h; exact h
  | cons v r ih => intro o w h; exact ih (o + 1) _ (h.far (p := ⟨b, o, none⟩) (fun e => hne e.symm) v)
theorem XS.setCells {w0 w : World} {t : TypeId} {b g cap : Nat} (h : XS w0 w t b g cap) (o : Nat) (cs : Array Value) (h1 : Ones cs) : XS w0 (w.setCells b o cs.toList) t b g cap := by
  refine ⟨below_setCells h.below h.hb _ _, h.hb, h.hg, h.ne, ?_, Hd.setCells h.ne _ _ _ h.hd⟩
  obtain ⟨ds, hd, hs, ho⟩ := h.blk
  obtain ⟨cs', h', hs', ho'⟩ := Blk.setCells cs.toList o w ds hd ho (fun v hv => (Array.all_eq_true_iff_forall_mem.1 h1) v (by simpa using hv))
  exact ⟨cs', h', hs'.trans hs, ho'⟩

section
variable {P : Program}
/-- The stores of whole structs, as the walk's simp meets them: to be laid into the context ahead of the walk. -/
theorem run_put_mid {w : World} {g : Nat} {t : TypeId} {old : Array Value} (hg : Blk w g t old) (o : Nat) (cs : Array Value) (hn : o + cs.size ≤ old.size) (h1 : Ones cs) :
    Sem.run P (storeCells ⟨g, o, none⟩ cs.toList) w = .ok () (w.setCells g o cs.toList) := by
  have ht := hg.there o cs.size hn
  have := run_storeCells_cells (P := P) g o cs.toList 0 w (fun j hj => by simpa using (ht j (by simpa using hj)).1) (fun j hj => by simpa using (ht j (by simpa using hj)).2)
    (fun v hv => (Array.all_eq_true_iff_forall_mem.1 h1) v (by simpa using hv))
  simpa using this
theorem run_put_row {w : World} {g : Nat} {t : TypeId} {old : Array Value} (hg : Blk w g t old) (cs : Array Value) (hn : old.size = cs.size) (h1 : Ones cs) :
    Sem.run P (storeCells ⟨g, 0, none⟩ cs.toList) w = .ok () (w.setRow g cs) := by
  have := run_storeCells_from (P := P) g t cs.toList 0 old w hg (by simp; omega) (fun v hv => (Array.all_eq_true_iff_forall_mem.1 h1) v (by simpa using hv))
  simpa using this
end

/-- A struct result behind another result. -/
theorem results_cell_tmp {P : Program} {fn : Func} {p q : Tmp} {ty : TypeId} (h : fn.results = #[.cell p ty, .tmp q]) (tmps : Array Value) (w : World) (g : Nat) (t : TypeId) (cs : Array Value) (d : TypeDesc)
    (hp : tmps.getD p undef = .pointer (some ⟨g, 0, none⟩)) (hg : Blk w g t cs)
    (hu : P.underlying ty = some d) (hd : (match d with | .struct _ | .array _ _ => true | _ => false) = true) (hi : (P.info? ty).map (·.size) = some cs.size) :
    (results fn tmps).run P w = .ok (.tuple #[.agg cs, tmps.getD q undef]) w := by
  have hp' : tmps[p]?.getD undef = .pointer (some ⟨g, 0, none⟩) := by simpa using hp
  simp [results, h, hp', asAddr, run_loadVar_row w g t ty cs (0, 0) d hg hu hd hi]
end Go.Proofs.YtkacahdogfchfaaGreatDoor
