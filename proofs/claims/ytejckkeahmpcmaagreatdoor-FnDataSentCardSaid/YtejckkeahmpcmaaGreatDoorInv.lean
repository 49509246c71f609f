/- The client's memory as one word, and what each store does to it. No statement of the seat is proved here. -/
import Derived.Test.YtejckkeahmpcmaaGreatDoorBase
namespace Go.Proofs.YtejckkeahmpcmaaGreatDoor
open Go.RowKit

/-- The blocks of a client: wire, line limit, reader and its array, writer and its array, textproto's connection, the client. Bs: where the sent bytes' rows begin. -/
structure Ids where
  W : Nat
  L : Nat
  BR : Nat
  RB : Nat
  BW : Nat
  WB : Nat
  TC : Nat
  C : Nat
  Bs : Nat

/-- What they hold. -/
structure St where
  inp : List UInt8
  rest : List UInt8
  snt : List UInt8
  pnd : List UInt8
  sv : Value
  dot : Value
  ext : Value
  dg : Bool
  dh : Bool
  rc : Value

def Ids.rwc (c : Ids) : Value := .iface 121 (.agg #[.iface 116 (ptr c.L), .iface 51 (ptr c.W), .iface 51 (ptr c.W)])

def Ids.all (c : Ids) (k : Nat) : Prop := k = c.W ∨ k = c.L ∨ k = c.BR ∨ k = c.RB ∨ k = c.BW ∨ k = c.WB ∨ k = c.TC ∨ k = c.C

/-- What a call over a client may turn. -/
def May (c : Ids) (v : Value) (k : Nat) : Prop := c.all k ∨ v.ownBlock = some k

structure Inv (w : World) (c : Ids) (s : St) : Prop where
  wire : Blk w c.W #[str s.inp, s.sv, .bool false] 54
  own : w.ownsRow c.Bs 5 1 s.sv s.snt.length (cellsOf s.snt)
  lim : ∃ k : Nat, Blk w c.L #[.iface 51 (ptr c.W), .int .i64 2000, .int .i64 k] 118 ∧ k + s.inp.length ≤ 2000 ∧ (s.inp ≠ [] → k = 0)
  br : ∃ (r : Nat) (lb lr : Int), Blk w c.BR #[.slice (some ⟨c.RB, 0, none⟩) 4096 4096, c.rwc, .int .i64 r, .int .i64 ((r + s.rest.length : Nat) : Int), .nilIface, .int .i64 lb, .int .i64 lr] 255 ∧
    r + s.rest.length ≤ 4096 ∧ (s.inp ≠ [] → r = 0 ∧ s.rest = []) ∧ ∃ C, Blk w c.RB C 5 ∧ C.size = 4096 ∧ Lies C r s.rest
  bw : Blk w c.BW #[.nilIface, .slice (some ⟨c.WB, 0, none⟩) 4096 4096, .int .i64 s.pnd.length, c.rwc] 259
  wb : ∃ C, Blk w c.WB C 5 ∧ C.size = 4096 ∧ Lies C 0 s.pnd
  pl : s.pnd.length ≤ 4096
  tc : Blk w c.TC #[ptr c.BR, ptr c.BW, c.rwc, s.dot] 176
  cl : Blk w c.C #[.iface 51 (ptr c.W), ptr c.TC, .bool false, s.ext, .string ⟨#[108, 111, 99, 97, 108, 104, 111, 115, 116]⟩, .bool s.dg, .nilIface, .bool s.dh, .nilIface, s.rc] 91
  rbwb : c.RB ≠ c.WB
  lt : ∀ k, c.all k → k < c.Bs
  bs : c.Bs ≤ w.heap.size

section
variable {w w' : World} {c : Ids} {s : St}

theorem Inv.all_lt (h : Inv w c s) (k : Nat) (hk : c.all k) : k < w.heap.size := Nat.lt_of_lt_of_le (h.lt k hk) h.bs
theorem Inv.own_ge (h : Inv w c s) (k : Nat) (hk : s.sv.ownBlock = some k) : c.Bs ≤ k := (h.own.lt k hk).1
theorem Inv.own_not (h : Inv w c s) (k : Nat) (hk : s.sv.ownBlock = some k) : ¬ c.all k := fun ha => by
  have h1 := h.own_ge k hk; have h2 := h.lt k ha; omega
theorem Inv.may_lt (h : Inv w c s) (k : Nat) (hk : May c s.sv k) : k < w.heap.size := by
  rcases hk with hk | hk
  · exact h.all_lt k hk
  · exact (h.own.lt k hk).2
/-- A block of another make is none of the client's. -/
theorem Inv.may_not (h : Inv w c s) {b : Nat} {cs : Array Value} {T : TypeId} (hb : Blk w b cs T) (hT : T ∉ [5, 54, 91, 118, 176, 255, 259]) : ¬ May c s.sv b := by
  obtain ⟨k, hl, _⟩ := h.lim
  obtain ⟨r, lb, lr, hbr, _, _, C, hrb, _, _⟩ := h.br
  obtain ⟨C', hwb, _, _⟩ := h.wb
  have n (x : Nat) (cs' : Array Value) (T' : TypeId) (hx : Blk w x cs' T') (hT' : T' ∈ [5, 54, 91, 118, 176, 255, 259]) : b ≠ x :=
    Blk.ne hb hx (fun e => hT (e ▸ hT'))
  rintro (ha | ho)
  · rcases ha with rfl | rfl | rfl | rfl | rfl | rfl | rfl | rfl
    · exact n _ _ _ h.wire (by simp) rfl
    · exact n _ _ _ hl (by simp) rfl
    · exact n _ _ _ hbr (by simp) rfl
    · exact n _ _ _ hrb (by simp) rfl
    · exact n _ _ _ h.bw (by simp) rfl
    · exact n _ _ _ hwb (by simp) rfl
    · exact n _ _ _ h.tc (by simp) rfl
    · exact n _ _ _ h.cl (by simp) rfl
  · exact own_ne h.own hb (fun e => hT (by subst e; simp)) ho

/-- Blocks that are none of the client's may turn, and come. -/
theorem Inv.only (h : Inv w c s) {S : Nat → Prop} (ho : Only S w w') (hS : ∀ k, S k → ¬ May c s.sv k) : Inv w' c s := by
  obtain ⟨k, hl, hk⟩ := h.lim
  obtain ⟨r, lb, lr, hbr, h1, h2, C, hrb, h3, h4⟩ := h.br
  obtain ⟨C', hwb, h5, h6⟩ := h.wb
  have n (x : Nat) (hx : c.all x) : ¬ S x := fun hs => hS x hs (.inl hx)
  exact { wire := ho.blk h.wire (n _ (by simp [Ids.all])), own := ho.own h.own (fun k hk hs => hS k hs (.inr hk)),
          lim := ⟨k, ho.blk hl (n _ (by simp [Ids.all])), hk⟩,
          br := ⟨r, lb, lr, ho.blk hbr (n _ (by simp [Ids.all])), h1, h2, C, ho.blk hrb (n _ (by simp [Ids.all])), h3, h4⟩,
          bw := ho.blk h.bw (n _ (by simp [Ids.all])), wb := ⟨C', ho.blk hwb (n _ (by simp [Ids.all])), h5, h6⟩, pl := h.pl,
          tc := ho.blk h.tc (n _ (by simp [Ids.all])), cl := ho.blk h.cl (n _ (by simp [Ids.all])), rbwb := h.rbwb, lt := h.lt, bs := Nat.le_trans h.bs ho.size }
theorem Inv.drewN (h : Inv w c s) (q : Nat) : Inv (w.drewN q) c s := h.only (S := fun _ => False) ((Only.refl _ _).drewN q) (fun _ hf => hf.elim)
theorem Inv.alloc (h : Inv w c s) (o : Obj) : Inv (w.alloc o) c s := h.only (S := fun _ => False) ((Only.refl _ _).alloc o) (fun _ hf => hf.elim)

/-- One block of the client's turns: the others stand. P: which. -/
theorem Inv.rest (h : Inv w c s) {S : Nat → Prop} (ho : Only S w w') : (¬ S c.W → Blk w' c.W #[str s.inp, s.sv, .bool false] 54) ∧ (¬ S c.TC → Blk w' c.TC #[ptr c.BR, ptr c.BW, c.rwc, s.dot] 176) :=
  ⟨fun n => ho.blk h.wire n, fun n => ho.blk h.tc n⟩

theorem Inv.n_W_L (h : Inv w c s) : c.W ≠ c.L := by obtain ⟨k, hl, _⟩ := h.lim; exact Blk.ne h.wire hl (by decide)
theorem Inv.n_W_BW (h : Inv w c s) : c.W ≠ c.BW := Blk.ne h.wire h.bw (by decide)
theorem Inv.n_W_TC (h : Inv w c s) : c.W ≠ c.TC := Blk.ne h.wire h.tc (by decide)
theorem Inv.n_W_C (h : Inv w c s) : c.W ≠ c.C := Blk.ne h.wire h.cl (by decide)
theorem Inv.n_W_BR (h : Inv w c s) : c.W ≠ c.BR := by obtain ⟨r, lb, lr, hbr, _⟩ := h.br; exact Blk.ne h.wire hbr (by decide)
theorem Inv.n_W_RB (h : Inv w c s) : c.W ≠ c.RB := by obtain ⟨r, lb, lr, _, _, _, C, hrb, _⟩ := h.br; exact Blk.ne h.wire hrb (by decide)
theorem Inv.n_W_WB (h : Inv w c s) : c.W ≠ c.WB := by obtain ⟨C, hwb, _⟩ := h.wb; exact Blk.ne h.wire hwb (by decide)
theorem Inv.n_L_BR (h : Inv w c s) : c.L ≠ c.BR := by obtain ⟨k, hl, _⟩ := h.lim; obtain ⟨r, lb, lr, hbr, _⟩ := h.br; exact Blk.ne hl hbr (by decide)
theorem Inv.n_L_RB (h : Inv w c s) : c.L ≠ c.RB := by obtain ⟨k, hl, _⟩ := h.lim; obtain ⟨r, lb, lr, _, _, _, C, hrb, _⟩ := h.br; exact Blk.ne hl hrb (by decide)
theorem Inv.n_L_BW (h : Inv w c s) : c.L ≠ c.BW := by obtain ⟨k, hl, _⟩ := h.lim; exact Blk.ne hl h.bw (by decide)
theorem Inv.n_L_WB (h : Inv w c s) : c.L ≠ c.WB := by obtain ⟨k, hl, _⟩ := h.lim; obtain ⟨C, hwb, _⟩ := h.wb; exact Blk.ne hl hwb (by decide)
theorem Inv.n_L_TC (h : Inv w c s) : c.L ≠ c.TC := by obtain ⟨k, hl, _⟩ := h.lim; exact Blk.ne hl h.tc (by decide)
theorem Inv.n_L_C (h : Inv w c s) : c.L ≠ c.C := by obtain ⟨k, hl, _⟩ := h.lim; exact Blk.ne hl h.cl (by decide)
theorem Inv.n_BR_RB (h : Inv w c s) : c.BR ≠ c.RB := by obtain ⟨r, lb, lr, hbr, _, _, C, hrb, _⟩ := h.br; exact Blk.ne hbr hrb (by decide)
theorem Inv.n_BR_BW (h : Inv w c s) : c.BR ≠ c.BW := by obtain ⟨r, lb, lr, hbr, _⟩ := h.br; exact Blk.ne hbr h.bw (by decide)
theorem Inv.n_BR_WB (h : Inv w c s) : c.BR ≠ c.WB := by obtain ⟨r, lb, lr, hbr, _⟩ := h.br; obtain ⟨C, hwb, _⟩ := h.wb; exact Blk.ne hbr hwb (by decide)
theorem Inv.n_BR_TC (h : Inv w c s) : c.BR ≠ c.TC := by obtain ⟨r, lb, lr, hbr, _⟩ := h.br; exact Blk.ne hbr h.tc (by decide)
theorem Inv.n_BR_C (h : Inv w c s) : c.BR ≠ c.C := by obtain ⟨r, lb, lr, hbr, _⟩ := h.br; exact Blk.ne hbr h.cl (by decide)
theorem Inv.n_RB_BW (h : Inv w c s) : c.RB ≠ c.BW := by obtain ⟨r, lb, lr, _, _, _, C, hrb, _⟩ := h.br; exact Blk.ne hrb h.bw (by decide)
theorem Inv.n_RB_TC (h : Inv w c s) : c.RB ≠ c.TC := by obtain ⟨r, lb, lr, _, _, _, C, hrb, _⟩ := h.br; exact Blk.ne hrb h.tc (by decide)
theorem Inv.n_RB_C (h : Inv w c s) : c.RB ≠ c.C := by obtain ⟨r, lb, lr, _, _, _, C, hrb, _⟩ := h.br; exact Blk.ne hrb h.cl (by decide)
theorem Inv.n_BW_WB (h : Inv w c s) : c.BW ≠ c.WB := by obtain ⟨C, hwb, _⟩ := h.wb; exact Blk.ne h.bw hwb (by decide)
theorem Inv.n_BW_TC (h : Inv w c s) : c.BW ≠ c.TC := Blk.ne h.bw h.tc (by decide)
theorem Inv.n_BW_C (h : Inv w c s) : c.BW ≠ c.C := Blk.ne h.bw h.cl (by decide)
theorem Inv.n_WB_TC (h : Inv w c s) : c.WB ≠ c.TC := by obtain ⟨C, hwb, _⟩ := h.wb; exact Blk.ne hwb h.tc (by decide)
theorem Inv.n_WB_C (h : Inv w c s) : c.WB ≠ c.C := by obtain ⟨C, hwb, _⟩ := h.wb; exact Blk.ne hwb h.cl (by decide)
theorem Inv.n_TC_C (h : Inv w c s) : c.TC ≠ c.C := Blk.ne h.tc h.cl (by decide)

/-- The writer's two blocks turn. -/
theorem Inv.out (h : Inv w c s) (ho : Only (fun k => k = c.BW ∨ k = c.WB) w w') (p : List UInt8) (hl : p.length ≤ 4096)
    (hbw : Blk w' c.BW #[.nilIface, .slice (some ⟨c.WB, 0, none⟩) 4096 4096, .int .i64 p.length, c.rwc] 259) (hwb : ∃ C, Blk w' c.WB C 5 ∧ C.size = 4096 ∧ Lies C 0 p) : Inv w' c { s with pnd := p } := by
  obtain ⟨k, hli, hk⟩ := h.lim
  obtain ⟨r, lb, lr, hbr, h1, h2, C, hrb, h3, h4⟩ := h.br
  exact { wire := ho.blk h.wire (fun e => e.elim h.n_W_BW h.n_W_WB), own := ho.own h.own (fun k hk hs => h.own_not k hk (by rcases hs with rfl | rfl <;> simp [Ids.all])),
          lim := ⟨k, ho.blk hli (fun e => e.elim h.n_L_BW h.n_L_WB), hk⟩,
          br := ⟨r, lb, lr, ho.blk hbr (fun e => e.elim h.n_BR_BW h.n_BR_WB), h1, h2, C, ho.blk hrb (fun e => e.elim h.n_RB_BW h.rbwb), h3, h4⟩,
          bw := hbw, wb := hwb, pl := hl, tc := ho.blk h.tc (fun e => e.elim h.n_BW_TC.symm h.n_WB_TC.symm),
          cl := ho.blk h.cl (fun e => e.elim h.n_BW_C.symm h.n_WB_C.symm), rbwb := h.rbwb, lt := h.lt, bs := Nat.le_trans h.bs ho.size }

/-- The wire's sent bytes grow. -/
theorem Inv.sent (h : Inv w c s) (ho : Only (fun k => k = c.W ∨ s.sv.ownBlock = some k) w w') (v : Value) (t : List UInt8)
    (hw : Blk w' c.W #[str s.inp, v, .bool false] 54) (hv : w'.ownsRow c.Bs 5 1 v t.length (cellsOf t)) : Inv w' c { s with sv := v, snt := t } := by
  obtain ⟨k, hli, hk⟩ := h.lim
  obtain ⟨r, lb, lr, hbr, h1, h2, C, hrb, h3, h4⟩ := h.br
  obtain ⟨C', hwb, h5, h6⟩ := h.wb
  have n (x : Nat) (hx : c.all x) (hW : c.W ≠ x) : ¬ (x = c.W ∨ s.sv.ownBlock = some x) := by
    rintro (e | e)
    · exact hW e.symm
    · exact h.own_not x e hx
  exact { wire := hw, own := hv,
          lim := ⟨k, ho.blk hli (n _ (by simp [Ids.all]) h.n_W_L), hk⟩,
          br := ⟨r, lb, lr, ho.blk hbr (n _ (by simp [Ids.all]) h.n_W_BR), h1, h2, C, ho.blk hrb (n _ (by simp [Ids.all]) h.n_W_RB), h3, h4⟩,
          bw := ho.blk h.bw (n _ (by simp [Ids.all]) h.n_W_BW), wb := ⟨C', ho.blk hwb (n _ (by simp [Ids.all]) h.n_W_WB), h5, h6⟩, pl := h.pl,
          tc := ho.blk h.tc (n _ (by simp [Ids.all]) h.n_W_TC), cl := ho.blk h.cl (n _ (by simp [Ids.all]) h.n_W_C), rbwb := h.rbwb, lt := h.lt, bs := Nat.le_trans h.bs ho.size }

/-- The reader's own block turns. -/
theorem Inv.read (h : Inv w c s) (ho : Only (fun k => k = c.BR) w w') (t : List UInt8) (hi : s.inp = [])
    (hbr : ∃ (r : Nat) (lb lr : Int), Blk w' c.BR #[.slice (some ⟨c.RB, 0, none⟩) 4096 4096, c.rwc, .int .i64 r, .int .i64 ((r + t.length : Nat) : Int), .nilIface, .int .i64 lb, .int .i64 lr] 255 ∧
      r + t.length ≤ 4096 ∧ ∃ C, Blk w c.RB C 5 ∧ C.size = 4096 ∧ Lies C r t) : Inv w' c { s with rest := t } := by
  obtain ⟨k, hli, hk⟩ := h.lim
  obtain ⟨C', hwb, h5, h6⟩ := h.wb
  obtain ⟨r, lb, lr, hbr, h1, C, hrb, h3, h4⟩ := hbr
  exact { wire := ho.blk h.wire h.n_W_BR, own := ho.own h.own (fun k hk hs => h.own_not k hk (by subst hs; simp [Ids.all])),
          lim := ⟨k, ho.blk hli h.n_L_BR, hk⟩,
          br := ⟨r, lb, lr, hbr, h1, fun hn => absurd hi hn, C, ho.blk hrb h.n_BR_RB.symm, h3, h4⟩,
          bw := ho.blk h.bw h.n_BR_BW.symm, wb := ⟨C', ho.blk hwb h.n_BR_WB.symm, h5, h6⟩, pl := h.pl,
          tc := ho.blk h.tc h.n_BR_TC.symm, cl := ho.blk h.cl h.n_BR_C.symm, rbwb := h.rbwb, lt := h.lt, bs := Nat.le_trans h.bs ho.size }

/-- The first read: wire, limit, reader and its array turn. -/
theorem Inv.fill (h : Inv w c s) (ho : Only (fun k => k = c.W ∨ k = c.L ∨ k = c.RB ∨ k = c.BR) w w') (t : List UInt8)
    (hw : Blk w' c.W #[str [], s.sv, .bool false] 54) (hli : ∃ k : Nat, Blk w' c.L #[.iface 51 (ptr c.W), .int .i64 2000, .int .i64 k] 118 ∧ k ≤ 2000)
    (hbr : ∃ (r : Nat) (lb lr : Int), Blk w' c.BR #[.slice (some ⟨c.RB, 0, none⟩) 4096 4096, c.rwc, .int .i64 r, .int .i64 ((r + t.length : Nat) : Int), .nilIface, .int .i64 lb, .int .i64 lr] 255 ∧
      r + t.length ≤ 4096 ∧ ∃ C, Blk w' c.RB C 5 ∧ C.size = 4096 ∧ Lies C r t) : Inv w' c { s with inp := [], rest := t } := by
  obtain ⟨k, hli, hk⟩ := hli
  obtain ⟨C', hwb, h5, h6⟩ := h.wb
  obtain ⟨r, lb, lr, hbr, h1, C, hrb, h3, h4⟩ := hbr
  exact { wire := hw, own := ho.own h.own (fun k hk hs => h.own_not k hk (by rcases hs with rfl | rfl | rfl | rfl <;> simp [Ids.all])),
          lim := ⟨k, hli, by simpa using hk, fun hn => absurd rfl hn⟩, br := ⟨r, lb, lr, hbr, h1, fun hn => absurd rfl hn, C, hrb, h3, h4⟩,
          bw := ho.blk h.bw (fun e => e.elim h.n_W_BW.symm (fun e => e.elim h.n_L_BW.symm (fun e => e.elim h.n_RB_BW.symm h.n_BR_BW.symm))),
          wb := ⟨C', ho.blk hwb (fun e => e.elim h.n_W_WB.symm (fun e => e.elim h.n_L_WB.symm (fun e => e.elim h.rbwb.symm h.n_BR_WB.symm))), h5, h6⟩, pl := h.pl,
          tc := ho.blk h.tc (fun e => e.elim h.n_W_TC.symm (fun e => e.elim h.n_L_TC.symm (fun e => e.elim h.n_RB_TC.symm h.n_BR_TC.symm))),
          cl := ho.blk h.cl (fun e => e.elim h.n_W_C.symm (fun e => e.elim h.n_L_C.symm (fun e => e.elim h.n_RB_C.symm h.n_BR_C.symm))), rbwb := h.rbwb, lt := h.lt, bs := Nat.le_trans h.bs ho.size }

/-- textproto's connection turns: its dot writer. -/
theorem Inv.dotted (h : Inv w c s) (ho : Only (fun k => k = c.TC) w w') (v : Value) (ht : Blk w' c.TC #[ptr c.BR, ptr c.BW, c.rwc, v] 176) : Inv w' c { s with dot := v } := by
  obtain ⟨k, hli, hk⟩ := h.lim
  obtain ⟨C', hwb, h5, h6⟩ := h.wb
  obtain ⟨r, lb, lr, hbr, h1, h2, C, hrb, h3, h4⟩ := h.br
  exact { wire := ho.blk h.wire h.n_W_TC, own := ho.own h.own (fun k hk hs => h.own_not k hk (by subst hs; simp [Ids.all])),
          lim := ⟨k, ho.blk hli h.n_L_TC, hk⟩, br := ⟨r, lb, lr, ho.blk hbr h.n_BR_TC, h1, h2, C, ho.blk hrb h.n_RB_TC, h3, h4⟩,
          bw := ho.blk h.bw h.n_BW_TC, wb := ⟨C', ho.blk hwb h.n_WB_TC, h5, h6⟩, pl := h.pl, tc := ht, cl := ho.blk h.cl h.n_TC_C.symm, rbwb := h.rbwb, lt := h.lt, bs := Nat.le_trans h.bs ho.size }

/-- The client's own block turns. -/
theorem Inv.client (h : Inv w c s) (ho : Only (fun k => k = c.C) w w') (ext : Value) (dg dh : Bool) (rc : Value)
    (hc : Blk w' c.C #[.iface 51 (ptr c.W), ptr c.TC, .bool false, ext, .string ⟨#[108, 111, 99, 97, 108, 104, 111, 115, 116]⟩, .bool dg, .nilIface, .bool dh, .nilIface, rc] 91) : Inv w' c { s with ext := ext, dg := dg, dh := dh, rc := rc } := by
  obtain ⟨k, hli, hk⟩ := h.lim
  obtain ⟨C', hwb, h5, h6⟩ := h.wb
  obtain ⟨r, lb, lr, hbr, h1, h2, C, hrb, h3, h4⟩ := h.br
  exact { wire := ho.blk h.wire h.n_W_C, own := ho.own h.own (fun k hk hs => h.own_not k hk (by subst hs; simp [Ids.all])),
          lim := ⟨k, ho.blk hli h.n_L_C, hk⟩, br := ⟨r, lb, lr, ho.blk hbr h.n_BR_C, h1, h2, C, ho.blk hrb h.n_RB_C, h3, h4⟩,
          bw := ho.blk h.bw h.n_BW_C, wb := ⟨C', ho.blk hwb h.n_WB_C, h5, h6⟩, pl := h.pl, tc := ho.blk h.tc h.n_TC_C, cl := hc, rbwb := h.rbwb, lt := h.lt, bs := Nat.le_trans h.bs ho.size }
end

/-- A call over a client: what it may turn; where the sent bytes lie behind it. -/
structure Step (c : Ids) (w : World) (v : Value) (w' : World) (v' : Value) : Prop where
  only : Only (May c v) w w'
  own : ∀ k, v'.ownBlock = some k → v.ownBlock = some k ∨ w.heap.size ≤ k

theorem Step.refl (c : Ids) (w : World) (v : Value) : Step c w v w v := ⟨Only.refl _ _, fun _ h => .inl h⟩
theorem Step.same {c : Ids} {w w' : World} {v : Value} (h : Only (May c v) w w') : Step c w v w' v := ⟨h, fun _ h => .inl h⟩
theorem Step.trans {c : Ids} {a b d : World} {v v' v'' : Value} (h : Step c a v b v') (k : Step c b v' d v'') : Step c a v d v'' where
  only := h.only.trans' k.only (fun i hi hm => by
    rcases hm with hm | hm
    · exact .inl hm
    · rcases h.own i hm with h1 | h1
      · exact .inr h1
      · omega)
  own := fun i hi => by
    rcases k.own i hi with h1 | h1
    · exact h.own i h1
    · exact .inr (Nat.le_trans h.only.size h1)
theorem Step.mono_left {c : Ids} {a b d : World} {v v' : Value} {S : Nat → Prop} (h : Only S a b) (hS : ∀ k, S k → May c v k) (k : Step c b v d v') : Step c a v d v' :=
  (Step.same (h.mono hS)).trans k
theorem Step.then {c : Ids} {a b d : World} {v v' : Value} (h : Step c a v b v') {S : Nat → Prop} (k : Only S b d) (hS : ∀ i, S i → May c v' i ∨ a.heap.size ≤ i) : Step c a v d v' where
  only := ⟨k.os.trans h.only.os, k.tape.trans h.only.tape, k.output.trans h.only.output, Nat.le_trans h.only.size k.size, fun i hi hn => by
    rw [k.block i (Nat.lt_of_lt_of_le hi h.only.size) (fun hs => by
      rcases hS i hs with h1 | h1
      · rcases h1 with h1 | h1
        · exact hn (.inl h1)
        · rcases h.own i h1 with h2 | h2
          · exact hn (.inr h2)
          · omega
      · omega)]
    exact h.only.block i hi hn⟩
  own := h.own
end Go.Proofs.YtejckkeahmpcmaaGreatDoor
