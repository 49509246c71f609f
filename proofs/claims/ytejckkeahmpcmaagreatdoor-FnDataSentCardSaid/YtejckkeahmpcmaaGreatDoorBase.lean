/- Plain lemmas on worlds: blocks known whole, and what a call may have turned. No statement of the seat is proved here. -/
import Derived.Test.YtejckkeahmpcmaaGreatDoorProg
import Derived.Handy
import Derived.Deep.QuietTactic
import Derived.BigQuiet
import Derived.StillTailTactics
import Derived.Deep.RegionWith
import Derived.Deep.RegionLaw
import Derived.Deep.DeepFit
import Derived.Deep.DeepMust
import Derived.WalkSpells
import Derived.WalkLawsBesides
import Derived.Lib.Hide
import Derived.Laws.CopyOwn
import Derived.Laws.IdiomStrings
import Derived.Lib.OthersKept
namespace Go.Proofs.YtejckkeahmpcmaaGreatDoor
open Go.RowKit

theorem info5 : (Tryz.prog.info? 5).map (fun i => (i.zero, i.size, i.bytes)) = some (some (.int .u8 0), 1, 1) := by kernel_rfl

/-- A block known whole. -/
def Blk (w : World) (b : Nat) (cs : Array Value) (T : TypeId) : Prop := w.heap[b]? = some (.cells cs T (0, 0))

theorem Blk.cell {w : World} {b : Nat} {cs : Array Value} {T : TypeId} (h : Blk w b cs T) : ∀ i, w.cell? ⟨b, i, none⟩ = cs[i]? := by
  intro i; unfold Blk at h; simp [World.cell?, h]
theorem Blk.free {w : World} {b : Nat} {cs : Array Value} {T : TypeId} (h : Blk w b cs T) : ∀ i, w.frozen? ⟨b, i, none⟩ = false := by
  intro i; unfold Blk at h; simp [World.frozen?, h]
theorem Blk.lt {w : World} {b : Nat} {cs : Array Value} {T : TypeId} (h : Blk w b cs T) : b < w.heap.size := lt_of_block h
theorem Blk.ne {w : World} {b b' : Nat} {cs cs' : Array Value} {T T' : TypeId} (h : Blk w b cs T) (h' : Blk w b' cs' T') (hT : T ≠ T') : b ≠ b' := by
  intro e; subst e; unfold Blk at h h'; rw [h] at h'; injection h' with h'; injection h' with _ h' _; exact hT h'
theorem Blk.inj {w : World} {b : Nat} {cs cs' : Array Value} {T T' : TypeId} (h : Blk w b cs T) (h' : Blk w b cs' T') : cs = cs' := by
  unfold Blk at h h'; rw [h] at h'; injection h' with h'; injection h'
theorem Blk.set {w : World} {b : Nat} {cs : Array Value} {T : TypeId} (h : Blk w b cs T) (i : Nat) (v : Value) : Blk (w.setCell ⟨b, i, none⟩ v) b (cs.setIfInBounds i v) T := by
  have hlt := h.lt
  unfold Blk at h ⊢
  have h' : w.heap[b] = .cells cs T (0, 0) := by simpa [Array.getElem?_eq_getElem hlt] using h
  show (w.heap.modify b _)[b]? = _
  rw [Array.getElem?_eq_getElem (by simpa using hlt), Array.getElem_modify_self, h']
  rfl
theorem Blk.other {w : World} {b : Nat} {cs : Array Value} {T : TypeId} (h : Blk w b cs T) {a : Addr} (hne : b ≠ a.block) (v : Value) : Blk (w.setCell a v) b cs T := by
  unfold Blk at h ⊢; rw [Below.heap_setCell _ _ _ _ hne]; exact h
theorem Blk.alloc {w : World} {b : Nat} {cs : Array Value} {T : TypeId} (h : Blk w b cs T) (o : Obj) : Blk (w.alloc o) b cs T := by
  have hlt := h.lt
  unfold Blk at h ⊢; rw [Below.heap_alloc _ _ _ hlt]; exact h
theorem Blk.drewN {w : World} {b : Nat} {cs : Array Value} {T : TypeId} (h : Blk w b cs T) (q : Nat) : Blk (w.drewN q) b cs T := h
theorem Blk.drew {w : World} {b : Nat} {cs : Array Value} {T : TypeId} (h : Blk w b cs T) : Blk w.drew b cs T := h
theorem Blk.new (w : World) (cs : Array Value) (T : TypeId) : Blk (w.alloc (.cells cs T)) w.heap.size cs T := heap_alloc_new w _
theorem Blk.row {w : World} {b : Nat} {cs : Array Value} {T : TypeId} (h : Blk w b cs T) (cs' : Array Value) : Blk (w.setRow b cs') b cs' T := setRow_heap w b cs cs' T _ h
theorem Blk.rowOther {w : World} {b : Nat} {cs : Array Value} {T : TypeId} (h : Blk w b cs T) {g : Nat} (hne : b ≠ g) (cs' : Array Value) : Blk (w.setRow g cs') b cs T := by
  unfold Blk at h ⊢; rw [setRow_other w g b cs' hne]; exact h

/-- Between w and w' only blocks of S may have turned (blocks may have come). -/
structure Only (S : Nat → Prop) (w w' : World) : Prop where
  os : w'.os = w.os
  tape : w'.tape = w.tape
  output : w'.output = w.output
  size : w.heap.size ≤ w'.heap.size
  block : ∀ k, k < w.heap.size → ¬ S k → w'.heap[k]? = w.heap[k]?

theorem Only.refl (S : Nat → Prop) (w : World) : Only S w w := ⟨rfl, rfl, rfl, Nat.le_refl _, fun _ _ _ => rfl⟩
theorem Only.trans {S : Nat → Prop} {a b c : World} (h : Only S a b) (k : Only S b c) : Only S a c :=
  ⟨k.os.trans h.os, k.tape.trans h.tape, k.output.trans h.output, Nat.le_trans h.size k.size, fun i hi hS => (k.block i (Nat.lt_of_lt_of_le hi h.size) hS).trans (h.block i hi hS)⟩
theorem Only.mono {S S' : Nat → Prop} {a b : World} (h : Only S a b) (hS : ∀ k, S k → S' k) : Only S' a b :=
  ⟨h.os, h.tape, h.output, h.size, fun k hk hn => h.block k hk (fun s => hn (hS k s))⟩
/-- What is written in the second step may lie in blocks that came with the first. -/
theorem Only.trans' {S S' : Nat → Prop} {a b c : World} (h : Only S a b) (k : Only S' b c) (hS : ∀ i, i < a.heap.size → S' i → S i) : Only S a c :=
  ⟨k.os.trans h.os, k.tape.trans h.tape, k.output.trans h.output, Nat.le_trans h.size k.size, fun i hi hn => (k.block i (Nat.lt_of_lt_of_le hi h.size) (fun s => hn (hS i hi s))).trans (h.block i hi hn)⟩
theorem Only.drewN {S : Nat → Prop} {a b : World} (h : Only S a b) (q : Nat) : Only S a (b.drewN q) := ⟨h.os, h.tape, h.output, h.size, h.block⟩
theorem Only.drew {S : Nat → Prop} {a b : World} (h : Only S a b) : Only S a b.drew := ⟨h.os, h.tape, h.output, h.size, h.block⟩
theorem Only.alloc {S : Nat → Prop} {a b : World} (h : Only S a b) (o : Obj) : Only S a (b.alloc o) :=
  h.trans ⟨rfl, rfl, rfl, by simp, fun k hk _ => Below.heap_alloc _ _ _ hk⟩
theorem Only.setCell {S : Nat → Prop} {a b : World} (h : Only S a b) (p : Addr) (v : Value) (hp : p.block < a.heap.size → S p.block) : Only S a (b.setCell p v) :=
  ⟨h.os, h.tape, h.output, by simpa using h.size, fun k hk hn => by
    rw [Below.heap_setCell _ _ _ _ (fun e => hn (by subst e; exact hp hk))]; exact h.block k hk hn⟩
theorem Only.setRow {S : Nat → Prop} {a b : World} (h : Only S a b) (g : Nat) (cs : Array Value) (hp : g < a.heap.size → S g) : Only S a (b.setRow g cs) :=
  ⟨h.os, h.tape, h.output, by simpa using h.size, fun k hk hn => by
    rw [setRow_other b g k cs (fun e => hn (by subst e; exact hp hk))]; exact h.block k hk hn⟩
theorem Only.grown {S : Nat → Prop} {a b c : World} (h : Only S a b) {row : Option Nat} (hg : b.grownBy c row) (hp : ∀ k, row = some k → k < a.heap.size → S k) : Only S a c :=
  ⟨hg.os.trans h.os, hg.tape.trans h.tape, hg.output.trans h.output, Nat.le_trans h.size hg.size, fun k hk hn =>
    (hg.block k (Nat.lt_of_lt_of_le hk h.size) (fun e => hn (hp k e.symm hk))).trans (h.block k hk hn)⟩
theorem Only.blk {S : Nat → Prop} {a b : World} (h : Only S a b) {g : Nat} {cs : Array Value} {T : TypeId} (hb : Blk a g cs T) (hn : ¬ S g) : Blk b g cs T := by
  have := h.block g hb.lt hn; unfold Blk at hb ⊢; rw [this]; exact hb
theorem Only.below {S : Nat → Prop} {a b : World} (h : Only S a b) {B : Nat} (hB : B ≤ a.heap.size) (hS : ∀ k, S k → B ≤ k) : Below B a b :=
  ⟨h.os, h.tape, h.output, h.size, fun k hk => h.block k (by omega) (fun s => by have := hS k s; omega)⟩
theorem Only.ofBelow {S : Nat → Prop} {a b : World} (h : Below a.heap.size a b) : Only S a b :=
  ⟨h.os, h.tape, h.output, h.size, fun k hk _ => h.block k hk⟩
theorem Only.cell {S : Nat → Prop} {a b : World} (h : Only S a b) {p : Addr} (hp : p.block < a.heap.size) (hn : ¬ S p.block) : b.cell? p = a.cell? p := World.cell?_of_block (h.block _ hp hn)
theorem Only.frozen {S : Nat → Prop} {a b : World} (h : Only S a b) {p : Addr} (hp : p.block < a.heap.size) (hn : ¬ S p.block) : b.frozen? p = a.frozen? p := World.frozen?_of_block (h.block _ hp hn)

/-- An owned row where its own block has not turned. -/
theorem Only.own {S : Nat → Prop} {a b : World} (h : Only S a b) {base e size n : Nat} {v : Value} {xs : List Value} (ho : a.ownsRow base e size v n xs) (hn : ∀ k, v.ownBlock = some k → ¬ S k) : b.ownsRow base e size v n xs := by
  obtain ⟨h1, h2⟩ := ho
  refine ⟨h1, ?_⟩
  rcases h2 with h2 | ⟨g, cap, cur, hv, hg, hh, r⟩
  · exact Or.inl h2
  · subst hv
    exact Or.inr ⟨g, cap, cur, rfl, hg, by rw [h.block g (lt_of_block hh) (hn g rfl)]; exact hh, r⟩

theorem own_ne {w : World} {base e size n b : Nat} {v : Value} {xs : List Value} {cs : Array Value} {T : TypeId} (ho : w.ownsRow base e size v n xs) (hb : Blk w b cs T) (hT : T ≠ e) : v.ownBlock ≠ some b := by
  intro hk
  obtain ⟨_, h2⟩ := ho
  rcases h2 with ⟨rfl, _⟩ | ⟨g, cap, cur, rfl, hg, hh, _⟩
  · simp [Value.ownBlock] at hk
  · simp [Value.ownBlock] at hk; subst hk
    exact (Blk.ne hb hh hT) rfl

/-- Bytes as cells. -/
def cellsOf (l : List UInt8) : List Value := l.map fun b => Value.int .u8 b.toNat
theorem cellsOf_length (l : List UInt8) : (cellsOf l).length = l.length := by simp [cellsOf]
theorem cellsOf_append (a b : List UInt8) : cellsOf (a ++ b) = cellsOf a ++ cellsOf b := by simp [cellsOf]
theorem cellsOf_get (l : List UInt8) (i : Nat) : (cellsOf l)[i]? = l[i]?.map fun b => Value.int .u8 b.toNat := by simp [cellsOf]
theorem cellsOf_one (l : List UInt8) : ∀ u ∈ cellsOf l, u.oneCell' = true := by
  intro u hu; simp [cellsOf] at hu; obtain ⟨_, _, rfl⟩ := hu; rfl

/-- A string of these bytes. -/
abbrev str (l : List UInt8) : Value := .string ⟨l.toArray⟩
abbrev ptr (b : Nat) : Value := .pointer (some ⟨b, 0, none⟩)

/-- The bytes l stand in the cells C from place o on. -/
def Lies (C : Array Value) (o : Nat) (l : List UInt8) : Prop := ∀ i b, l[i]? = some b → C[o + i]? = some (Value.int .u8 b.toNat)

theorem Lies.nil (C : Array Value) (o : Nat) : Lies C o [] := fun i b h => by simp at h
theorem Lies.push {C : Array Value} {l : List UInt8} (h : Lies C 0 l) (b : UInt8) (hs : l.length < C.size) : Lies (C.setIfInBounds l.length (.int .u8 b.toNat)) 0 (l ++ [b]) := by
  intro i c hc
  rw [Array.getElem?_setIfInBounds]
  rcases Nat.lt_or_ge i l.length with hi | hi
  · rw [List.getElem?_append_left hi] at hc
    rw [if_neg (by omega)]; exact h i c hc
  · have : i = l.length := by
      have hlt : i < (l ++ [b]).length := by
        rcases Nat.lt_or_ge i (l ++ [b]).length with h' | h'
        · exact h'
        · rw [List.getElem?_eq_none h'] at hc; cases hc
      simp at hlt; omega
    subst this
    simp at hc; subst hc
    simp [hs]

/-- The row C with the bytes m laid from place k on. -/
def putAt (C : Array Value) (k : Nat) (m : List UInt8) : Array Value := (C.toList.take k ++ cellsOf m ++ C.toList.drop (k + m.length)).toArray

/-- 'copy(b[o:], s)' of a string into a row. -/
theorem run_copy_string {P : Program} (w : World) (dT sT ty elem : TypeId) (g o dLen dCap : Nat) (s : ByteArray) (cur : Array Value) (t : TypeId)
    (hu : P.underlying dT = some (.slice elem)) (hs : (P.info? elem).map (·.size) = some 1)
    (hg : Blk w g cur t) (hn : s.size ≤ dLen) (hfit : o + s.size ≤ cur.size) :
    (Builtin.copy_ #[dT, sT] ty #[.slice (some ⟨g, o, none⟩) dLen dCap, .string s]).run P w =
      .ok (goInt s.size) (w.setRow g (putAt cur o s.data.toList)) := by
  have hsl : s.data.toList.length = s.size := by rw [Array.length_toList]; rfl
  unfold putAt; rw [hsl]
  have hsz : (cellsOf s.data.toList).length = s.size := by rw [cellsOf_length, Array.length_toList]; rfl
  have hst := run_storeCells_at P g o t (cellsOf s.data.toList) 0 cur w hg (by rw [hsz]; simpa using hfit) (cellsOf_one _)
  simp only [Nat.add_zero, hsz] at hst
  have hmin : Nat.min s.size dLen = s.size := Nat.min_eq_left hn
  have hext : ((s.extract 0 s.size).data.map fun b => Value.int .u8 b.toNat).toList = cellsOf s.data.toList := by simp [cellsOf]
  cases hq : P.info? elem with
  | none => simp [hq] at hs
  | some i =>
    simp [Builtin.copy_, run_underlying hu, Builtin.lenOf, Builtin.firstCells, sizeOf, typeInfo, hq, hmin]
    have he : List.map (fun b => Value.int IntKind.u8 ↑b.toNat) s.data.toList = cellsOf s.data.toList := rfl
    rw [he, List.take_of_length_le (by rw [hsz]; exact Nat.le_refl _), hst]
    simp

theorem wpList_copy_string {P : Program} {w : World} {ops : Array Oper} {rest : List Oper} {o : Oper} {a : Act} {Q : Exit → Act → World → Prop} (hgd : o.guard = none) (d s : Operand) (dT sT : TypeId)
    (ho : o.op = .call { callee := .builtin .copy, args := #[d, s], argTypes := #[dT, sT] }) (elem : TypeId) (hu : P.underlying dT = some (.slice elem)) (hsz : (P.info? elem).map (·.size) = some 1)
    (g off dLen dCap : Nat) (st : ByteArray) (hd : a.eval d = .slice (some ⟨g, off, none⟩) dLen dCap) (hs : a.eval s = .string st)
    (cur : Array Value) (t : TypeId) (hg : Blk w g cur t) (hn : st.size ≤ dLen) (hfit : off + st.size ≤ cur.size)
    (h : wpList P ops Q rest (a.put o.dst (goInt st.size)) (w.setRow g (putAt cur off st.data.toList))) : wpList P ops Q (o :: rest) a w := by
  refine wpList_plain hgd fun K hK => ?_
  have hrun := run_copy_string (P := P) w dT sT o.type elem g off dLen dCap st cur t hu hsz hg hn hfit
  unfold Oper.wp
  simp [execOp, ho, resolve, invoke, builtin, hd, hs, hrun, Result.andThen, -List.append_assoc]
  exact hK _ _ h

theorem step_copy_string {P : Program} {ops : Array Oper} {o : Oper} {a : Act} {w : World} {K : Act → World → Prop} {Q : Exit → Act → World → Prop} {E : Prop} (hgd : o.guard = none) (d s : Operand) (dT sT : TypeId)
    (ho : o.op = .call { callee := .builtin .copy, args := #[d, s], argTypes := #[dT, sT] }) (elem : TypeId) (hu : P.underlying dT = some (.slice elem)) (hsz : (P.info? elem).map (·.size) = some 1)
    (g off dLen dCap : Nat) (st : ByteArray) (hd : a.eval d = .slice (some ⟨g, off, none⟩) dLen dCap) (hs : a.eval s = .string st)
    (cur : Array Value) (t : TypeId) (hg : Blk w g cur t) (hn : st.size ≤ dLen) (hfit : off + st.size ≤ cur.size)
    (h : K (a.put o.dst (goInt st.size)) (w.setRow g (putAt cur off st.data.toList))) :
    if Region.wanted o (yielded ops a.tmps) = true then Oper.wp P o a w K Q else E := by
  have hw : Region.wanted o (yielded ops a.tmps) = true := by simp [Region.wanted, hgd]
  rw [if_pos hw]
  have hrun := run_copy_string (P := P) w dT sT o.type elem g off dLen dCap st cur t hu hsz hg hn hfit
  unfold Oper.wp
  simp [execOp, ho, resolve, invoke, builtin, hd, hs, hrun, Result.andThen, -List.append_assoc]
  exact h

/-- append onto an owned row: as 'run_append_own', and where the row lies behind it: where it lay, or in a new block. -/
theorem run_append_own2 {P : Program} (w : World) (base : Nat) (t ty e : TypeId) (i : TypeInfo) (z : Value) (size bytes : Nat) (ht : P.underlying t = some (.slice e)) (hi : P.info? e = some i) (hz : i.zero = some z)
    (hsize : i.size = size) (hby : i.bytes = bytes) (hzs : z.cells.size = size) (hsz : 0 < size)
    (v : Value) (n : Nat) (xs : List Value) (hown : w.ownsRow base e size v n xs)
    (a : Addr) (m c : Nat) (news : List Value) (hl : news.length = m * size) (hnews : ∀ j u, news[j]? = some u → w.cell? (a.add j) = some u) (h1 : ∀ u ∈ news, u.oneCell' = true)
    (h63 : n + m ≤ maxLen) (hbytes : (n + m) * bytes ≤ 140737488355328) (hbase : base ≤ w.heap.size) :
    ∃ v' w', (Builtin.append_ #[t, t] ty #[v, .slice (some a) m c]).run P w = .ok v' w' ∧ w'.ownsRow base e size v' (n + m) (xs ++ news) ∧ w.grownBy w' v.ownBlock ∧
      ∀ k, v'.ownBlock = some k → v.ownBlock = some k ∨ w.heap.size ≤ k := by
  obtain ⟨v', w', hr, h2, h3, h4⟩ := run_append_own (P := P) w base t ty e i z size bytes ht hi hz hsize hby hzs hsz v n xs hown a m c news hl hnews h1 h63 hbytes hbase
  refine ⟨v', w', hr, h2, h3, ?_⟩
  subst hsize
  subst hby
  have hsmall : n + m ≤ 9223372036854775807 := by simp only [maxLen] at h63; omega
  rcases hown.2 with ⟨rfl, rfl⟩ | ⟨g, cap, cur, rfl, hbg, hg, hnc, hcm, hcs, htake⟩
  · by_cases hm : m = 0
    · have := h4.2 ⟨rfl, hm⟩
      subst this
      intro k hk; simp [Value.ownBlock] at hk
    · have hr2 := run_append_nil (P := P) w t ty e i z ht hi hz a m c news hl hnews (by omega) (by omega) (by have hb := hbytes; simp only [Nat.zero_add] at hb; omega)
      rw [hr] at hr2
      injection hr2 with hv _
      subst hv
      intro k hk
      simp [Value.ownBlock] at hk
      exact .inr (by omega)
  · by_cases hroom : n + m ≤ cap
    · obtain ⟨w2, hr2, _, _⟩ := run_append_fits (P := P) w base t ty e i i.size ht hi rfl g n cap xs hown a m c news hl hnews h1 hroom
      rw [hr] at hr2
      injection hr2 with hv _
      subst hv
      intro k hk
      exact .inl hk
    · have holds : ∀ j u, xs[j]? = some u → w.cell? ((⟨g, 0, none⟩ : Addr).add j) = some u := hown.cells (g := g) rfl
      have hr2 := run_append_grow (P := P) w t ty e i z ht hi hz ⟨g, 0, none⟩ n cap xs hown.1 holds a m c news hl hnews (by omega) (by omega) (growslice_fits (by omega) hbytes)
      rw [hr] at hr2
      injection hr2 with hv _
      subst hv
      intro k hk
      simp [Value.ownBlock] at hk
      exact .inr (by omega)

theorem wpList_append_own2 {P : Program} {w : World} {ops : Array Oper} {rest : List Oper} {o : Oper} {a : Act} {Q : Exit → Act → World → Prop} (hgd : o.guard = none) (s x : Operand) (t : TypeId)
    (ho : o.op = .call { callee := .builtin .append, args := #[s, x], argTypes := #[t, t] })
    (base : Nat) (e : TypeId) (i : TypeInfo) (z : Value) (size bytes : Nat) (ht : P.underlying t = some (.slice e)) (hi : P.info? e = some i) (hz : i.zero = some z)
    (hsize : i.size = size) (hby : i.bytes = bytes) (hzs : z.cells.size = size) (hsz : 0 < size)
    (v : Value) (n : Nat) (xs : List Value) (hs : a.eval s = v) (hown : w.ownsRow base e size v n xs)
    (ad : Addr) (m c : Nat) (news : List Value) (hx : a.eval x = .slice (some ad) m c) (hl : news.length = m * size) (hnews : ∀ j u, news[j]? = some u → w.cell? (ad.add j) = some u) (h1 : ∀ u ∈ news, u.oneCell' = true)
    (h63 : n + m ≤ maxLen) (hbytes : (n + m) * bytes ≤ 140737488355328) (hbase : base ≤ w.heap.size)
    (h : ∀ p cap w', Hid (w'.ownsRow base e size (.slice p (n + m) cap) (n + m) (xs ++ news)) → Hid (w.grownBy w' v.ownBlock) → Hid (∀ k, (Value.slice p (n + m) cap).ownBlock = some k → v.ownBlock = some k ∨ w.heap.size ≤ k) →
      wpList P ops Q rest (a.put o.dst (.slice p (n + m) cap)) w') : wpList P ops Q (o :: rest) a w := by
  refine wpList_plain hgd fun K hK => ?_
  obtain ⟨v', w', hr, h2, h3, h4⟩ := run_append_own2 (P := P) w base t o.type e i z size bytes ht hi hz hsize hby hzs hsz v n xs hown ad m c news hl hnews h1 h63 hbytes hbase
  obtain ⟨p, cap, rfl⟩ : ∃ p cap, v' = .slice p (n + m) cap := by
    rcases h2.2 with ⟨rfl, h0⟩ | ⟨g, cap, cur, rfl, _⟩
    · rw [h0]; exact ⟨_, _, rfl⟩
    · exact ⟨_, _, rfl⟩
  unfold Oper.wp execOp
  simp only [ho, resolve, invoke, builtin, Sem.run_bind, Sem.run_pure, Result.andThen_ok, List.map_toArray, List.map_cons, List.map_nil, hs, hx, hr]
  exact hK _ _ (h p cap w' h2 h3 h4)

/-- '[]byte(s)': a new row, its bytes. -/
theorem wpList_bytes {P : Program} {w : World} {ops : Array Oper} {rest : List Oper} {o : Oper} {a : Act} {Q : Exit → Act → World → Prop} (hgd : o.guard = none) (x : Operand) (src dst e : TypeId)
    (ho : o.op = .convert src dst x) (h1 : P.underlying src = some .string) (h2 : P.underlying dst = some (.slice e)) (h3 : P.underlying e = some (.int .u8)) (l : List UInt8) (hx : a.eval x = .string ⟨l.toArray⟩)
    (h : ∀ cap w', (∀ j, j < l.length → w'.cell? ⟨w.heap.size, j, none⟩ = some (.int .u8 (l.getD j 0).toNat)) → Hid (Only (fun _ => False) w w') → Hid (w.heap.size < w'.heap.size) →
      wpList P ops Q rest (a.put o.dst (.slice (some ⟨w.heap.size, 0, none⟩) l.length cap)) w') : wpList P ops Q (o :: rest) a w := by
  refine wpList_plain hgd fun K hK => ?_
  have hr := run_bytes_of_string (P := P) w src dst e ⟨l.toArray⟩ h1 h2 h3
  have hs : (⟨l.toArray⟩ : ByteArray).size = l.length := rfl
  rw [hs] at hr
  unfold Oper.wp execOp
  simp only [ho, Sem.run_bind, Sem.run_pure, Result.andThen_ok, hx, hr]
  refine hK _ _ (h _ _ ?_ ?_ ?_)
  · intro j hj
    have h4 : (w.drew.alloc (.cells (bytesRow ⟨l.toArray⟩ (grownCap w l.length 0 e)) e ((bytesRow ⟨l.toArray⟩ (grownCap w l.length 0 e)).size, (bytesRow ⟨l.toArray⟩ (grownCap w l.length 0 e)).size + 1))).cell? ⟨w.drew.heap.size, j, none⟩ = (bytesRow ⟨l.toArray⟩ (grownCap w l.length 0 e))[j]? := World.cell?_alloc_mark _ _ _ _ _
    have h5 := bytesRow_at ⟨l.toArray⟩ (grownCap w l.length 0 e) j (by simpa using hj)
    have h6 := h4.trans h5
    have h7 : (⟨l.toArray⟩ : ByteArray).data[j]'(by simpa using hj) = l.getD j 0 := by simp [List.getD, hj]
    rw [h7] at h6
    exact h6
  · exact ((Only.refl (fun _ => False) w).drew).alloc _
  · show _ < _
    simp

/-- A string's iterator moves on, in whatever block it lies. -/
theorem wpList_next {P : Program} {w : World} {ops : Array Oper} {rest : List Oper} {o : Oper} {a : Act} {Q : Exit → Act → World → Prop} (hgd : o.guard = none) (x : Operand) (ho : o.op = .next x true)
    (k : Nat) (l : List UInt8) (pos : Nat) (b : UInt8) (hx : a.eval x = ptr k) (hk : w.heap[k]? = some (.stringIter ⟨l.toArray⟩ pos)) (hb : l[pos]? = some b) (ha : b.toNat < 128)
    (h : ∀ w', Hid (w'.heap[k]? = some (.stringIter ⟨l.toArray⟩ (pos + 1))) → Hid (∀ S : Nat → Prop, ∀ w0, Only S w0 w → (k < w0.heap.size → S k) → Only S w0 w') → Hid (w'.heap.size = w.heap.size) →
      wpList P ops Q rest (a.put o.dst (.tuple #[.bool true, .int .i64 pos, .int .i32 b.toNat])) w') : wpList P ops Q (o :: rest) a w := by
  refine wpList_plain hgd fun K hK => ?_
  have hlt : pos < (⟨l.toArray⟩ : ByteArray).size := by
    rcases Nat.lt_or_ge pos l.length with h' | h'
    · exact h'
    · rw [List.getElem?_eq_none h'] at hb; cases hb
  have hv : (⟨l.toArray⟩ : ByteArray)[pos]'hlt = b := by
    have h1 : l[pos]'hlt = b := by
      have := List.getElem?_eq_getElem (l := l) (i := pos) hlt
      rw [hb] at this
      exact (Option.some.inj this).symm
    exact h1
  have hr := Lib.run_next_ascii_at (P := P) w k ⟨l.toArray⟩ pos o.type hk hlt (by rw [hv]; exact ha)
  rw [hv] at hr
  unfold Oper.wp execOp
  simp only [ho, Sem.run_bind, Sem.run_pure, Result.andThen_ok, hx, hr]
  refine hK _ _ (h _ (Lib.iterAt_heap w k _ pos _ hk) ?_ (Lib.iterAt_size w k _ _))
  intro S w0 hO hS
  exact ⟨hO.os, hO.tape, hO.output, by rw [Lib.iterAt_size]; exact hO.size, fun i hi hn => by
    rw [Lib.iterAt_other w k i _ _ (fun e => hn (by subst e; exact hS hi))]; exact hO.block i hi hn⟩
theorem wpList_next_end {P : Program} {w : World} {ops : Array Oper} {rest : List Oper} {o : Oper} {a : Act} {Q : Exit → Act → World → Prop} (hgd : o.guard = none) (x : Operand) (ho : o.op = .next x true)
    (k : Nat) (l : List UInt8) (hx : a.eval x = ptr k) (hk : w.heap[k]? = some (.stringIter ⟨l.toArray⟩ l.length))
    (h : wpList P ops Q rest (a.put o.dst (.tuple #[.bool false])) w) : wpList P ops Q (o :: rest) a w := by
  refine wpList_plain hgd fun K hK => ?_
  have hr := Lib.run_next_end_at (P := P) w k ⟨l.toArray⟩ l.length o.type hk (by show ¬ l.length < l.toArray.size; simp)
  unfold Oper.wp execOp
  simp only [ho, Sem.run_bind, Sem.run_pure, Result.andThen_ok, hx, hr]
  exact hK _ _ h

/-- Bytes laid into cells behind those that lie there. -/
theorem Lies.put {C : Array Value} {o : Nat} {l : List UInt8} {k : Nat} (h : Lies C o l) (hk : k = o + l.length) (m : List UInt8) (hfit : k + m.length ≤ C.size) :
    Lies (putAt C k m) o (l ++ m) := by
  unfold putAt; subst hk
  intro i b hb
  simp only [List.getElem?_toArray]
  rcases Nat.lt_or_ge i l.length with hi | hi
  · rw [List.getElem?_append_left hi] at hb
    rw [List.append_assoc, List.getElem?_append_left (by simp; omega), List.getElem?_take_of_lt (by omega)]
    simpa using h i b hb
  · rw [List.getElem?_append_right hi] at hb
    have hlt : i - l.length < m.length := by
      rcases Nat.lt_or_ge (i - l.length) m.length with h' | h'
      · exact h'
      · rw [List.getElem?_eq_none h'] at hb; cases hb
    have hl : (List.take (o + l.length) C.toList).length = o + l.length := by simp; omega
    rw [List.append_assoc, List.getElem?_append_right (by rw [hl]; omega), hl, List.getElem?_append_left (by rw [cellsOf_length]; omega), cellsOf_get,
      show o + i - (o + l.length) = i - l.length from by omega, hb]
    rfl
theorem put_size {C : Array Value} {k : Nat} (m : List UInt8) (hfit : k + m.length ≤ C.size) : (putAt C k m).size = C.size := by
  unfold putAt; simp [cellsOf_length]; omega
end Go.Proofs.YtejckkeahmpcmaaGreatDoor
