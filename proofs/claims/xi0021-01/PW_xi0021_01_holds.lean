import PyProof.Rows.All
import Wide.All
import OpenK.AllK
import Wide.FinOn
import Lean
import PySem.Challenge.RW_xi0021_01
set_option Elab.async false
set_option maxRecDepth 100000
set_option maxHeartbeats 8000000
open PySem PySem.W PyProof.Rows PySem.Calls
local macro_rules | `(tactic| walk_at $s:str) => `(tactic| k_extra $s)
local macro_rules | `(tactic| k_all) => `(tactic| k_extra "own all")

-- part B0
namespace Mine
open_top hd for PySem.Challenge.rw_xi0021_01

abbrev Led := List (Addr × Obj)
abbrev loose : List Str := [Str.ofString "_initial_missing", Str.ofString "reduce", Str.ofString "_NodeInfo"]

/-- a call of the def at address f with the values vs, from any frame of at most so many frames and units: what it answers (Ret) and how the ledger stands behind it -/
def Does (w : World) (dp un : Nat) (f : Addr) (vs : List Value) (news : Led) (Ret : Value → Led → Prop) : Prop :=
  ∀ (gd : Option (List Code)) (cn : Str) (cs : Scope) (a : Addr) (ccd : Value) (cl : List (Str × Addr)) (outer : List Env) (A₀ : Around) (base h₀ : Heap) (L : Addr) (m : Str → Option Value)
    (mean : ExcName → Option Value) (mg mb : Str → Option Value) (s : Shared) (Q E : Value → Shared → Prop),
    Below A₀ base outer h₀ → Fr h₀ L s.heap m → (hd.heap_39 w.params).In h₀ → News h₀ L s.heap news → Top hd.view_39 (looseW hd.view_39 loose) mean mg mb h₀ → cs.kind = .function →
    (∀ v news' h' tk', Fr h₀ L h' m → News h₀ L h' news' → Ret v news' → Q v { s with heap := h', toks := tk' }) →
    wpAny (model PySem.Challenge.rw_xi0021_01.row.prog w) (ktrTop dp un gd cn cs L a ccd cl outer) (call (.ref f) vs) Q E s

end Mine
-- part B1
namespace Mine
abbrev tupOf (its : Array Value) (n : Nat) : Obj := { cls := .type "tuple", data := .seq its n }
end Mine
local macro_rules | `(tactic| k_mem) => `(tactic| ((show (_ : Addr × Obj) ∈ (_ : List (Addr × Obj))); ktr_member))
-- part PL
section
namespace Mine
/-- what the third line's bit is -/
def bit (x l : Int) : Int := Builtin.bitAnd (x.fdiv (2 ^ l.toNat)) 1
/-- a gate's turn of a word, as the walk reads it off -/
def thr (kd l1 l2 l3 x : Int) : Int :=
  if kd = 0 then Builtin.bitXor x (Builtin.bitAnd (bit x l1) (bit x l2) * 2 ^ l3.toNat)
  else Builtin.bitXor x (Builtin.bitAnd (bit x l1) (Builtin.bitXor (bit x l2) (bit x l3)) * 2 ^ l2.toNat + Builtin.bitAnd (bit x l1) (Builtin.bitXor (bit x l2) (bit x l3)) * 2 ^ l3.toNat)
def word16 (x : Int) : Prop := 0 ≤ x ∧ x < 16
theorem bit01 {x l : Int} (hx0 : 0 ≤ x) (hx : x < 16) (h0 : 0 ≤ l) (h : l < 4) : bit x l = 0 ∨ bit x l = 1 := by
  have e1 : ∃ n : Fin 16, x = n.val := ⟨⟨x.toNat, by omega⟩, by simp; omega⟩
  have e2 : ∃ n : Fin 4, l = n.val := ⟨⟨l.toNat, by omega⟩, by simp; omega⟩
  obtain ⟨n, rfl⟩ := e1
  obtain ⟨k, rfl⟩ := e2
  revert n k
  decide +kernel
theorem and01 {a b : Int} (ha : a = 0 ∨ a = 1) (hb : b = 0 ∨ b = 1) : Builtin.bitAnd a b = 0 ∨ Builtin.bitAnd a b = 1 := by
  rcases ha with rfl | rfl <;> rcases hb with rfl | rfl <;> decide +kernel
theorem xor01 {a b : Int} (ha : a = 0 ∨ a = 1) (hb : b = 0 ∨ b = 1) : Builtin.bitXor a b = 0 ∨ Builtin.bitXor a b = 1 := by
  rcases ha with rfl | rfl <;> rcases hb with rfl | rfl <;> decide +kernel
theorem abs01 {a : Int} (ha : a = 0 ∨ a = 1) : a.natAbs < 2 ^ 64 := by
  rcases ha with rfl | rfl <;> decide
end Mine
namespace Mine
section
variable {h₀ h' : Heap} {L : Addr} {m : Str → Option Value} {news news' : List (Addr × Obj)} {s : Shared} {Q : Value → Shared → Prop} {tk' : Nat}
/-- the end of a contract that hands back an int and leaves the ledger -/
theorem ret_int {x r : Int} {t : Tok} (hret : ∀ (v : Value) (n' : List (Addr × Obj)) (h' : Heap) (tk' : Nat), Fr h₀ L h' m → News h₀ L h' n' → ((∃ t, v = .int r t) ∧ n' = news) → Q v { s with heap := h', toks := tk' })
    (F : Fr h₀ L h' m) (N : News h₀ L h' news') (hs : ∀ p ∈ news, p ∈ news') (e : x = r) : Q (.int x t) { s with heap := h', toks := tk' } :=
  hret _ news _ _ F (cb_drop N hs) ⟨⟨t, by rw [e]⟩, rfl⟩
end
theorem sub1 {α : Type} {a : α} {l : List α} : ∀ p ∈ l, p ∈ a :: l := fun _ h => .tail _ h
theorem sub2 {α : Type} {a b : α} {l : List α} : ∀ p ∈ l, p ∈ a :: b :: l := fun _ h => .tail _ (.tail _ h)
theorem sub3 {α : Type} {a b c : α} {l : List α} : ∀ p ∈ l, p ∈ a :: b :: c :: l := fun _ h => .tail _ (.tail _ (.tail _ h))
end Mine
namespace Mine
theorem allLt_iff {d : Addr} {l : List (Addr × Obj)} : AllLt d l ↔ ∀ p ∈ l, p.1 < d := by
  induction l with
  | nil => exact ⟨fun _ _ h => (nomatch h), fun _ => trivial⟩
  | cons q r ih =>
    refine ⟨fun h p hp => ?_, fun h => ⟨h _ (.head _), ih.mpr fun p hp => h p (.tail _ hp)⟩⟩
    have h1 : q.1 < d := And.left h
    have h2 : AllLt d r := And.right h
    cases hp with
    | head => exact h1
    | tail _ hp => exact ih.mp h2 p hp
theorem allNe {d : Addr} {l : List (Addr × Obj)} (h : AllLt d l) : ∀ p ∈ l, p.1 ≠ d := fun p hp => Nat.ne_of_lt (allLt_iff.mp h p hp)
theorem allLt_mono {d e : Addr} (h : d ≤ e) {l : List (Addr × Obj)} (x : AllLt d l) : AllLt e l := allLt_iff.mpr fun p hp => Nat.lt_of_lt_of_le (allLt_iff.mp x p hp) h
/-- the three lines that are left of four -/
def rm (a i : Int) : Int := if i < a then i else i + 1
def rmTok (a i : Int) (t u : Tok) : Tok := if i < a then t else u
section
variable {prog : Program} {w : World} {A : Around} {E : Value → Shared → Prop} {s : Shared} {h₀ : Heap} {L D : Addr} {m : Str → Option Value} {rest : List (Addr × Obj)}
theorem rm4 {a : Int} {t t0 t1 t2 t3 : Tok} {n : Nat} {Q : Value → Shared → Prop} (h0 : 0 ≤ a) (h4 : a < 4) (F : Fr h₀ L s.heap m)
    (N : News h₀ L s.heap ((D, listOf #[.int 0 t0, .int 1 t1, .int 2 t2, .int 3 t3] n) :: rest)) (hr : ∀ p ∈ rest, p.1 ≠ D)
    (h : ∀ h' u0 u1 u2, Fr h₀ L h' m → News h₀ L h' ((D, listOf #[.int (rm a 0) u0, .int (rm a 1) u1, .int (rm a 2) u2] (n + 1)) :: rest) → Q .none { s with heap := h' }) :
    wpAny (model prog w) A (call (.builtin "list.remove") [.ref D, .int a t]) Q E s := by
  have : a = 0 ∨ a = 1 ∨ a = 2 ∨ a = 3 := by omega
  rcases this with rfl | rfl | rfl | rfl
  · exact kf_remove (j := 0) (q := [.int 1 t1, .int 2 t2, .int 3 t3]) F N rfl rfl rfl (.head hr) (by rw [sizeLine_eq]; exact Nat.le_of_ble_eq_true rfl) fun h' F' N' => h h' t1 t2 t3 F' N'
  · exact kf_remove (j := 1) (q := [.int 0 t0, .int 2 t2, .int 3 t3]) F N rfl rfl rfl (.head hr) (by rw [sizeLine_eq]; exact Nat.le_of_ble_eq_true rfl) fun h' F' N' => h h' t0 t2 t3 F' N'
  · exact kf_remove (j := 2) (q := [.int 0 t0, .int 1 t1, .int 3 t3]) F N rfl rfl rfl (.head hr) (by rw [sizeLine_eq]; exact Nat.le_of_ble_eq_true rfl) fun h' F' N' => h h' t0 t1 t3 F' N'
  · exact kf_remove (j := 3) (q := [.int 0 t0, .int 1 t1, .int 2 t2]) F N rfl rfl rfl (.head hr) (by rw [sizeLine_eq]; exact Nat.le_of_ble_eq_true rfl) fun h' F' N' => h h' t0 t1 t2 F' N'
end
theorem fmod_bd (a : Int) {n : Int} (h : 0 < n) : 0 ≤ a.fmod n ∧ a.fmod n < n := ⟨Int.fmod_nonneg_of_pos a h, Int.fmod_lt_of_pos a h⟩
end Mine
namespace Mine
/-- a gate: its kind, its lines -/
structure Gt where
  kd : Int
  l1 : Int
  l2 : Int
  l3 : Int
def lineAt (a i : Int) : Int := [rm a 0, rm a 1, rm a 2].getD i.toNat 0
def gateOf (x : Int) : Gt :=
  ⟨x.fmod 2, lineAt ((x.fdiv 2).fmod 4) ((x.fdiv 8).fmod 3), lineAt ((x.fdiv 2).fmod 4) (((x.fdiv 8).fmod 3 + 1).fmod 3), lineAt ((x.fdiv 2).fmod 4) (((x.fdiv 8).fmod 3 + 2).fmod 3)⟩
def Gt.run (g : Gt) (x : Int) : Int := thr g.kd g.l1 g.l2 g.l3 x
/-- a tuple of the ledger that is the gate -/
def IsGate (o : Obj) (g : Gt) : Prop := ∃ t0 t1 t2 t3 n, o = tupOf #[.int g.kd t0, .int g.l1 t1, .int g.l2 t2, .int g.l3 t3] n
theorem ret_ref {h₀ h' : Heap} {L : Addr} {m : Str → Option Value} {news n1 n2 : List (Addr × Obj)} {s : Shared} {Q : Value → Shared → Prop} {tk' : Nat} {R : Value → List (Addr × Obj) → Prop} {v : Value}
    (hret : ∀ (v : Value) (n' : List (Addr × Obj)) (h' : Heap) (tk' : Nat), Fr h₀ L h' m → News h₀ L h' n' → R v n' → Q v { s with heap := h', toks := tk' })
    (F : Fr h₀ L h' m) (N : News h₀ L h' n1) (hs : ∀ p ∈ n2, p ∈ n1) (hR : R v n2) : Q v { s with heap := h', toks := tk' } := hret _ n2 _ _ F (cb_drop N hs) hR
theorem sub12 {α : Type} {d a : α} {l : List α} : ∀ p ∈ d :: l, p ∈ d :: a :: l := fun _ h => (List.mem_cons.mp h).elim (fun e => e ▸ .head _) fun h => .tail _ (.tail _ h)
end Mine
namespace Mine
theorem ret_gate {h₀ h' : Heap} {L D : Addr} {m : Str → Option Value} {news X : List (Addr × Obj)} {s : Shared} {Q : Value → Shared → Prop} {tk' : Nat} {g : Gt} {k a b c : Int} {t0 t1 t2 t3 : Tok} {n : Nat}
    (hret : ∀ (v : Value) (n' : List (Addr × Obj)) (h' : Heap) (tk' : Nat), Fr h₀ L h' m → News h₀ L h' n' → (∃ D o, v = .ref D ∧ IsGate o g ∧ n' = (D, o) :: news ∧ AllLt D news) → Q v { s with heap := h', toks := tk' })
    (F : Fr h₀ L h' m) (N : News h₀ L h' ((D, tupOf #[.int k t0, .int a t1, .int b t2, .int c t3] n) :: X)) (hs : ∀ p ∈ news, p ∈ X) (hl : AllLt D news) (e : Gt.mk k a b c = g) : Q (.ref D) { s with heap := h', toks := tk' } := by
  refine hret _ ((D, tupOf #[.int k t0, .int a t1, .int b t2, .int c t3] n) :: news) _ _ F (cb_drop N fun p hp => ?_) ⟨_, _, rfl, ⟨t0, t1, t2, t3, n, by rw [← e]⟩, rfl, hl⟩
  rcases List.mem_cons.mp hp with rfl | hp
  · exact .head _
  · exact .tail _ (hs p hp)
end Mine
end
-- part U0
section
namespace Mine
theorem ex1 {α1 : Type} {P : α1 → Prop} {R : Prop} (h : ∃ a1, P a1) (k : ∀ a1, P a1 → R) : R := by
  obtain ⟨a1, h⟩ := h
  exact k a1 h
theorem ex2 {α1 α2 : Type} {P : α1 → α2 → Prop} {R : Prop} (h : ∃ a1 a2, P a1 a2) (k : ∀ a1 a2, P a1 a2 → R) : R := by
  obtain ⟨a1, a2, h⟩ := h
  exact k a1 a2 h
theorem ex3 {α1 α2 α3 : Type} {P : α1 → α2 → α3 → Prop} {R : Prop} (h : ∃ a1 a2 a3, P a1 a2 a3) (k : ∀ a1 a2 a3, P a1 a2 a3 → R) : R := by
  obtain ⟨a1, a2, a3, h⟩ := h
  exact k a1 a2 a3 h
theorem ex4 {α1 α2 α3 α4 : Type} {P : α1 → α2 → α3 → α4 → Prop} {R : Prop} (h : ∃ a1 a2 a3 a4, P a1 a2 a3 a4) (k : ∀ a1 a2 a3 a4, P a1 a2 a3 a4 → R) : R := by
  obtain ⟨a1, a2, a3, a4, h⟩ := h
  exact k a1 a2 a3 a4 h
theorem ex5 {α1 α2 α3 α4 α5 : Type} {P : α1 → α2 → α3 → α4 → α5 → Prop} {R : Prop} (h : ∃ a1 a2 a3 a4 a5, P a1 a2 a3 a4 a5) (k : ∀ a1 a2 a3 a4 a5, P a1 a2 a3 a4 a5 → R) : R := by
  obtain ⟨a1, a2, a3, a4, a5, h⟩ := h
  exact k a1 a2 a3 a4 a5 h
theorem ex6 {α1 α2 α3 α4 α5 α6 : Type} {P : α1 → α2 → α3 → α4 → α5 → α6 → Prop} {R : Prop} (h : ∃ a1 a2 a3 a4 a5 a6, P a1 a2 a3 a4 a5 a6) (k : ∀ a1 a2 a3 a4 a5 a6, P a1 a2 a3 a4 a5 a6 → R) : R := by
  obtain ⟨a1, a2, a3, a4, a5, a6, h⟩ := h
  exact k a1 a2 a3 a4 a5 a6 h
theorem ex7 {α1 α2 α3 α4 α5 α6 α7 : Type} {P : α1 → α2 → α3 → α4 → α5 → α6 → α7 → Prop} {R : Prop} (h : ∃ a1 a2 a3 a4 a5 a6 a7, P a1 a2 a3 a4 a5 a6 a7) (k : ∀ a1 a2 a3 a4 a5 a6 a7, P a1 a2 a3 a4 a5 a6 a7 → R) : R := by
  obtain ⟨a1, a2, a3, a4, a5, a6, a7, h⟩ := h
  exact k a1 a2 a3 a4 a5 a6 a7 h
theorem ex8 {α1 α2 α3 α4 α5 α6 α7 α8 : Type} {P : α1 → α2 → α3 → α4 → α5 → α6 → α7 → α8 → Prop} {R : Prop} (h : ∃ a1 a2 a3 a4 a5 a6 a7 a8, P a1 a2 a3 a4 a5 a6 a7 a8) (k : ∀ a1 a2 a3 a4 a5 a6 a7 a8, P a1 a2 a3 a4 a5 a6 a7 a8 → R) : R := by
  obtain ⟨a1, a2, a3, a4, a5, a6, a7, a8, h⟩ := h
  exact k a1 a2 a3 a4 a5 a6 a7 a8 h
theorem ex9 {α1 α2 α3 α4 α5 α6 α7 α8 α9 : Type} {P : α1 → α2 → α3 → α4 → α5 → α6 → α7 → α8 → α9 → Prop} {R : Prop} (h : ∃ a1 a2 a3 a4 a5 a6 a7 a8 a9, P a1 a2 a3 a4 a5 a6 a7 a8 a9) (k : ∀ a1 a2 a3 a4 a5 a6 a7 a8 a9, P a1 a2 a3 a4 a5 a6 a7 a8 a9 → R) : R := by
  obtain ⟨a1, a2, a3, a4, a5, a6, a7, a8, a9, h⟩ := h
  exact k a1 a2 a3 a4 a5 a6 a7 a8 a9 h
theorem ex10 {α1 α2 α3 α4 α5 α6 α7 α8 α9 α10 : Type} {P : α1 → α2 → α3 → α4 → α5 → α6 → α7 → α8 → α9 → α10 → Prop} {R : Prop} (h : ∃ a1 a2 a3 a4 a5 a6 a7 a8 a9 a10, P a1 a2 a3 a4 a5 a6 a7 a8 a9 a10) (k : ∀ a1 a2 a3 a4 a5 a6 a7 a8 a9 a10, P a1 a2 a3 a4 a5 a6 a7 a8 a9 a10 → R) : R := by
  obtain ⟨a1, a2, a3, a4, a5, a6, a7, a8, a9, a10, h⟩ := h
  exact k a1 a2 a3 a4 a5 a6 a7 a8 a9 a10 h
theorem ex11 {α1 α2 α3 α4 α5 α6 α7 α8 α9 α10 α11 : Type} {P : α1 → α2 → α3 → α4 → α5 → α6 → α7 → α8 → α9 → α10 → α11 → Prop} {R : Prop} (h : ∃ a1 a2 a3 a4 a5 a6 a7 a8 a9 a10 a11, P a1 a2 a3 a4 a5 a6 a7 a8 a9 a10 a11) (k : ∀ a1 a2 a3 a4 a5 a6 a7 a8 a9 a10 a11, P a1 a2 a3 a4 a5 a6 a7 a8 a9 a10 a11 → R) : R := by
  obtain ⟨a1, a2, a3, a4, a5, a6, a7, a8, a9, a10, a11, h⟩ := h
  exact k a1 a2 a3 a4 a5 a6 a7 a8 a9 a10 a11 h
theorem ex12 {α1 α2 α3 α4 α5 α6 α7 α8 α9 α10 α11 α12 : Type} {P : α1 → α2 → α3 → α4 → α5 → α6 → α7 → α8 → α9 → α10 → α11 → α12 → Prop} {R : Prop} (h : ∃ a1 a2 a3 a4 a5 a6 a7 a8 a9 a10 a11 a12, P a1 a2 a3 a4 a5 a6 a7 a8 a9 a10 a11 a12) (k : ∀ a1 a2 a3 a4 a5 a6 a7 a8 a9 a10 a11 a12, P a1 a2 a3 a4 a5 a6 a7 a8 a9 a10 a11 a12 → R) : R := by
  obtain ⟨a1, a2, a3, a4, a5, a6, a7, a8, a9, a10, a11, a12, h⟩ := h
  exact k a1 a2 a3 a4 a5 a6 a7 a8 a9 a10 a11 a12 h
theorem an2 {P1 P2 R : Prop} (h : P1 ∧ P2) (k : P1 → P2 → R) : R := by
  obtain ⟨h1, h2⟩ := h
  exact k h1 h2
theorem an3 {P1 P2 P3 R : Prop} (h : P1 ∧ P2 ∧ P3) (k : P1 → P2 → P3 → R) : R := by
  obtain ⟨h1, h2, h3⟩ := h
  exact k h1 h2 h3
theorem an4 {P1 P2 P3 P4 R : Prop} (h : P1 ∧ P2 ∧ P3 ∧ P4) (k : P1 → P2 → P3 → P4 → R) : R := by
  obtain ⟨h1, h2, h3, h4⟩ := h
  exact k h1 h2 h3 h4
theorem an5 {P1 P2 P3 P4 P5 R : Prop} (h : P1 ∧ P2 ∧ P3 ∧ P4 ∧ P5) (k : P1 → P2 → P3 → P4 → P5 → R) : R := by
  obtain ⟨h1, h2, h3, h4, h5⟩ := h
  exact k h1 h2 h3 h4 h5
theorem an6 {P1 P2 P3 P4 P5 P6 R : Prop} (h : P1 ∧ P2 ∧ P3 ∧ P4 ∧ P5 ∧ P6) (k : P1 → P2 → P3 → P4 → P5 → P6 → R) : R := by
  obtain ⟨h1, h2, h3, h4, h5, h6⟩ := h
  exact k h1 h2 h3 h4 h5 h6
theorem an7 {P1 P2 P3 P4 P5 P6 P7 R : Prop} (h : P1 ∧ P2 ∧ P3 ∧ P4 ∧ P5 ∧ P6 ∧ P7) (k : P1 → P2 → P3 → P4 → P5 → P6 → P7 → R) : R := by
  obtain ⟨h1, h2, h3, h4, h5, h6, h7⟩ := h
  exact k h1 h2 h3 h4 h5 h6 h7
theorem an8 {P1 P2 P3 P4 P5 P6 P7 P8 R : Prop} (h : P1 ∧ P2 ∧ P3 ∧ P4 ∧ P5 ∧ P6 ∧ P7 ∧ P8) (k : P1 → P2 → P3 → P4 → P5 → P6 → P7 → P8 → R) : R := by
  obtain ⟨h1, h2, h3, h4, h5, h6, h7, h8⟩ := h
  exact k h1 h2 h3 h4 h5 h6 h7 h8
theorem an9 {P1 P2 P3 P4 P5 P6 P7 P8 P9 R : Prop} (h : P1 ∧ P2 ∧ P3 ∧ P4 ∧ P5 ∧ P6 ∧ P7 ∧ P8 ∧ P9) (k : P1 → P2 → P3 → P4 → P5 → P6 → P7 → P8 → P9 → R) : R := by
  obtain ⟨h1, h2, h3, h4, h5, h6, h7, h8, h9⟩ := h
  exact k h1 h2 h3 h4 h5 h6 h7 h8 h9
theorem an10 {P1 P2 P3 P4 P5 P6 P7 P8 P9 P10 R : Prop} (h : P1 ∧ P2 ∧ P3 ∧ P4 ∧ P5 ∧ P6 ∧ P7 ∧ P8 ∧ P9 ∧ P10) (k : P1 → P2 → P3 → P4 → P5 → P6 → P7 → P8 → P9 → P10 → R) : R := by
  obtain ⟨h1, h2, h3, h4, h5, h6, h7, h8, h9, h10⟩ := h
  exact k h1 h2 h3 h4 h5 h6 h7 h8 h9 h10
theorem an11 {P1 P2 P3 P4 P5 P6 P7 P8 P9 P10 P11 R : Prop} (h : P1 ∧ P2 ∧ P3 ∧ P4 ∧ P5 ∧ P6 ∧ P7 ∧ P8 ∧ P9 ∧ P10 ∧ P11) (k : P1 → P2 → P3 → P4 → P5 → P6 → P7 → P8 → P9 → P10 → P11 → R) : R := by
  obtain ⟨h1, h2, h3, h4, h5, h6, h7, h8, h9, h10, h11⟩ := h
  exact k h1 h2 h3 h4 h5 h6 h7 h8 h9 h10 h11
theorem an12 {P1 P2 P3 P4 P5 P6 P7 P8 P9 P10 P11 P12 R : Prop} (h : P1 ∧ P2 ∧ P3 ∧ P4 ∧ P5 ∧ P6 ∧ P7 ∧ P8 ∧ P9 ∧ P10 ∧ P11 ∧ P12) (k : P1 → P2 → P3 → P4 → P5 → P6 → P7 → P8 → P9 → P10 → P11 → P12 → R) : R := by
  obtain ⟨h1, h2, h3, h4, h5, h6, h7, h8, h9, h10, h11, h12⟩ := h
  exact k h1 h2 h3 h4 h5 h6 h7 h8 h9 h10 h11 h12
theorem an13 {P1 P2 P3 P4 P5 P6 P7 P8 P9 P10 P11 P12 P13 R : Prop} (h : P1 ∧ P2 ∧ P3 ∧ P4 ∧ P5 ∧ P6 ∧ P7 ∧ P8 ∧ P9 ∧ P10 ∧ P11 ∧ P12 ∧ P13) (k : P1 → P2 → P3 → P4 → P5 → P6 → P7 → P8 → P9 → P10 → P11 → P12 → P13 → R) : R := by
  obtain ⟨h1, h2, h3, h4, h5, h6, h7, h8, h9, h10, h11, h12, h13⟩ := h
  exact k h1 h2 h3 h4 h5 h6 h7 h8 h9 h10 h11 h12 h13
section
variable {α : Type}
theorem pm_ba {a b : α} {l : List α} : ∀ p ∈ b :: a :: l, p ∈ a :: b :: l := fun p hp => by
  rcases List.mem_cons.mp hp with rfl | hp
  · exact .tail _ (.head _)
  rcases List.mem_cons.mp hp with rfl | hp
  · exact .head _
  · exact .tail _ (.tail _ hp)
/-- the first of three goes to the end -/
theorem pm_bca {a b c : α} {l : List α} : ∀ p ∈ b :: c :: a :: l, p ∈ a :: b :: c :: l := fun p hp => by
  rcases List.mem_cons.mp hp with rfl | hp
  · exact .tail _ (.head _)
  rcases List.mem_cons.mp hp with rfl | hp
  · exact .tail _ (.tail _ (.head _))
  rcases List.mem_cons.mp hp with rfl | hp
  · exact .head _
  · exact .tail _ (.tail _ (.tail _ hp))
/-- the last of three goes to the front -/
theorem pm_cab {a b c : α} {l : List α} : ∀ p ∈ c :: a :: b :: l, p ∈ a :: b :: c :: l := fun p hp => by
  rcases List.mem_cons.mp hp with rfl | hp
  · exact .tail _ (.tail _ (.head _))
  rcases List.mem_cons.mp hp with rfl | hp
  · exact .head _
  rcases List.mem_cons.mp hp with rfl | hp
  · exact .tail _ (.head _)
  · exact .tail _ (.tail _ (.tail _ hp))
theorem pm_cba {a b c : α} {l : List α} : ∀ p ∈ c :: b :: a :: l, p ∈ a :: b :: c :: l := fun p hp => by
  rcases List.mem_cons.mp hp with rfl | hp
  · exact .tail _ (.tail _ (.head _))
  rcases List.mem_cons.mp hp with rfl | hp
  · exact .tail _ (.head _)
  rcases List.mem_cons.mp hp with rfl | hp
  · exact .head _
  · exact .tail _ (.tail _ (.tail _ hp))
theorem pm_x {x : α} {l l' : List α} (h : ∀ p ∈ l, p ∈ l') : ∀ p ∈ x :: l, p ∈ x :: l' := fun p hp => by
  rcases List.mem_cons.mp hp with rfl | hp
  · exact .head _
  · exact .tail _ (h p hp)
end
theorem oc {x : Addr} {q : Addr × Obj} {l : List (Addr × Obj)} (h : @Ne Nat q.1 x) (hl : ∀ p ∈ l, p.1 ≠ x) : ∀ p ∈ q :: l, p.1 ≠ x := fun p hp => by
  rcases List.mem_cons.mp hp with rfl | hp
  · exact h
  · exact hl p hp
end Mine
end
-- part R0
namespace Mine
def Stop (P : Prop) : Prop := P
theorem Stop.out {P : Prop} (h : Stop P) : P := h
def Ended (P : Prop) : Prop := P
theorem Stop.mk {P : Prop} (h : P) : Stop P := h

/-- a list iterator's object -/
def ItAt (o : Obj) (l : Addr) (i : Nat) : Prop := o.cls = .type "list_iterator" ∧ o.data = .fields #[.ref l, .int i 0]
/-- the addresses of a ledger are others than d -/
abbrev Off (d : Addr) (l : List (Addr × Obj)) : Prop := ∀ p ∈ l, p.1 ≠ d

section
variable {prog : Program} {w : World} {A : Around} {E : Value → Shared → Prop} {s : Shared} {h₀ : Heap} {L : Addr} {m : Str → Option Value} {news : List (Addr × Obj)}

theorem News.push' (F : Fr h₀ L s.heap m) (N : News h₀ L s.heap news) (o : Obj) (hfree : o.isFreed = false := by rfl) : News h₀ L (s.heap.push o) ((s.heap.objs.size, o) :: news) := N.push F o hfree

theorem iter_list {l : Addr} {its : Array Value} {n : Nat} {Q : Value → Shared → Prop} (F : Fr h₀ L s.heap m) (N : News h₀ L s.heap news) (hl : (l, listOf its n) ∈ news)
    (h : ∀ (I : Addr) h' o, Fr h₀ L h' m → News h₀ L h' ((I, o) :: news) → (∀ p ∈ news, p.1 < I) → ItAt o l 0 → Q (.ref I) { s with heap := h' }) :
    wpAny (model prog w) A (call (.builtin "iter") [.ref l]) Q E s := by
  refine call_function_entry (by decide +kernel) (by decide +kernel) kdk_entry_iter (kdk_args_iter _) ?_
  unfold Builtin.«iter»
  refine wpAny_bind (m := someArgs "iter" 1 2 _) (wpAny_of_eq (a := [Value.ref l]) (by first | rfl | kernel_rfl!) ?_)
  show wpAny _ _ (pyIter (.ref l) >>= _) _ _ _
  refine wpAny_bind (wpAny_pyIter_list ⟨_, (N _ hl).1, rfl, _, rfl⟩ ?_)
  exact wpAny_pure ⟨_, rfl, h _ _ _ (F.push _) (News.push F N _ rfl) (fun q hq => Heap.lt_size (N q hq).1) ⟨rfl, rfl⟩⟩

theorem next_list {I l : Addr} {i : Nat} {o : Obj} {its : Array Value} {n : Nat} {v : Value} {Q : Option Value → Shared → Prop} (F : Fr h₀ L s.heap m) (N : News h₀ L s.heap ((I, o) :: news)) (hO : Off I news) (ho : ItAt o l i)
    (hl : (l, listOf its n) ∈ news) (hx : its[i]? = some v)
    (h : ∀ h' o', Fr h₀ L h' m → News h₀ L h' ((I, o') :: news) → ItAt o' l (i + 1) → Q (some v) { s with heap := h' }) : wpAny (model prog w) A (pyNext (.ref I)) Q E s := by
  have hI := N _ (.head _)
  refine wpAny_pyNext_list_item ⟨o, hI.1, ho.1, ho.2⟩ ⟨_, (N _ (.tail _ hl)).1, rfl, _, rfl⟩ hx fun h' hit hs => ?_
  obtain ⟨o', ho', h1, h2⟩ := hit
  exact h h' o' (F.change hs hI.2.1 hI.2.2) (News.setIn (own := []) N (fun _ h => nomatch h) hO hs ho') ⟨h1, h2⟩

theorem next_list_end {I l : Addr} {i : Nat} {o : Obj} {its : Array Value} {n : Nat} {Q : Option Value → Shared → Prop} (hh : A.handled = none) (F : Fr h₀ L s.heap m) (N : News h₀ L s.heap ((I, o) :: news)) (hO : Off I news) (ho : ItAt o l i)
    (hl : (l, listOf its n) ∈ news) (hx : its[i]? = none) (h : ∀ h', Fr h₀ L h' m → News h₀ L h' news → Q none { s with heap := h' }) : wpAny (model prog w) A (pyNext (.ref I)) Q E s := by
  have hI := N _ (.head _)
  refine wpAny_pyNext_list_end hh ⟨o, hI.1, ho.1, ho.2⟩ ⟨_, (N _ (.tail _ hl)).1, rfl, _, rfl⟩ hx fun h' he => ?_
  refine h h' ⟨F.ns.extBut he hI.2.1.symm, fun b x e => he b x (fun q => ?_) (F.keep b x e), F.above⟩ fun p hp => ?_
  · rw [q, hI.2.2] at e; cases e
  · have hp' := N p (.tail _ hp)
    exact ⟨he _ _ (hO p hp) hp'.1, hp'.2⟩

/-- a for loop whose turns don't raise, over an iterator that the ledger bears, by an invariant over the turn's number, the frame and the ledger -/
theorem for_own {env : Env} {L : Addr} {x : Str} {px : Pos} {body : List Stmt} {R : Result → Shared → Prop} {I : Addr} {o : Obj} (c : Nat) (It : Nat → Obj → Prop) (val : Nat → Value → Prop) (J : Nat → (Str → Option Value) → List (Addr × Obj) → Prop)
    (hL : env.locals = L) (hx : env.kindOf x = some .local) (hp : (env.scope.kind == .class || (env.scope.kind == .module && env.locals != env.globals)) = false)
    (F : Fr h₀ L s.heap m) (N : News h₀ L s.heap ((I, o) :: news)) (hO : Off I news) (ho : It 0 o) (hJ : J 0 m news)
    (next : ∀ (i : Nat) m₁ led h tk o (Q : Option Value → Shared → Prop) (E : Value → Shared → Prop), i < c → J i m₁ led → It i o → Off I led → Fr h₀ L h m₁ → News h₀ L h ((I, o) :: led) →
      (∀ v h' tk' o', val i v → It (i + 1) o' → Fr h₀ L h' m₁ → News h₀ L h' ((I, o') :: led) → Q (some v) { s with heap := h', toks := tk' }) →
      wpAny (model prog w) A (pyNext (.ref I)) Q E { s with heap := h, toks := tk })
    (stop : ∀ m₁ led h tk o (Q : Option Value → Shared → Prop) (E : Value → Shared → Prop), J c m₁ led → It c o → Off I led → Fr h₀ L h m₁ → News h₀ L h ((I, o) :: led) →
      (∀ h' tk', Fr h₀ L h' m₁ → News h₀ L h' led → Q none { s with heap := h', toks := tk' }) →
      wpAny (model prog w) A (pyNext (.ref I)) Q E { s with heap := h, toks := tk })
    (turn : ∀ (i : Nat) v m₁ led h tk o, i < c → val i v → J i m₁ led → It (i + 1) o → Off I led → Fr h₀ L h (fun y => if y = x then some v else m₁ y) → News h₀ L h ((I, o) :: led) →
      wpAny (model prog w) A (execs body env) (fun f s₃ => match f with
        | .next | .cont => Ended (∃ h' tk' m₂ led₂, s₃ = { s with heap := h', toks := tk' } ∧ Fr h₀ L h' m₂ ∧ News h₀ L h' ((I, o) :: led₂) ∧ Off I led₂ ∧ J (i + 1) m₂ led₂)
        | .brk => R (.ok .next) s₃
        | .ret v => R (.ok (.ret v)) s₃) (fun _ _ => False) { s with heap := h, toks := tk })
    (done : ∀ m₁ led h tk, J c m₁ led → Fr h₀ L h m₁ → News h₀ L h led → R (.ok .next) { s with heap := h, toks := tk }) :
    codeAny (model prog w) A (.forLoop (.Name x px) (.ref I) body [] env) R s := by
  subst hL
  refine codeAny_forLoop (fun k s' => ∃ i h tk m₁ led o, k = c - i ∧ i ≤ c ∧ s' = { s with heap := h, toks := tk } ∧ J i m₁ led ∧ It i o ∧ Off I led ∧ Fr h₀ env.locals h m₁ ∧ News h₀ env.locals h ((I, o) :: led)) ?_ c
    ⟨0, s.heap, s.toks, m, news, o, rfl, Nat.zero_le _, rfl, hJ, ho, hO, F, N⟩
  rintro k s' ⟨i, h, tk, m₁, led, o, rfl, hi, rfl, hJ, hI, hO, F, N⟩
  rcases Nat.lt_or_eq_of_le hi with hlt | rfl
  · refine next i m₁ led h tk o _ _ hlt hJ hI hO F N fun v h' tk' o' hv hI' F' N' => ?_
    refine wpAny_assign_Name (wpAny_storeName_local hx F'.ns (fun h₂ hn₂ hs₂ => ?_) hp)
    refine wpAny_mono (turn i v m₁ led h₂ _ o' hlt hv hJ hI' hO (F'.set hn₂ hs₂) (N'.set hs₂)) (fun f s₃ hf => ?_) fun _ _ e => e.elim
    cases f with
    | next =>
      obtain ⟨h', tk', m₂, led₂, rfl, F₂, N₂, hO₂, hJ₂⟩ := hf
      exact ⟨c - (i + 1), by omega, i + 1, h', tk', m₂, led₂, o', rfl, hlt, rfl, hJ₂, hI', hO₂, F₂, N₂⟩
    | cont =>
      obtain ⟨h', tk', m₂, led₂, rfl, F₂, N₂, hO₂, hJ₂⟩ := hf
      exact ⟨c - (i + 1), by omega, i + 1, h', tk', m₂, led₂, o', rfl, hlt, rfl, hJ₂, hI', hO₂, F₂, N₂⟩
    | brk => exact hf
    | ret v => exact hf
  · exact stop m₁ led h tk o _ _ hJ hI hO F N fun h' tk' F' N' => wpAny_execs_nil (done m₁ led h' tk' hJ F' N')
end
end Mine
namespace Mine
theorem around_le {α : Type} {M : Model} {t : Sem α} {Q : α → Shared → Prop} {E : Value → Shared → Prop} {s : Shared} {hd : Option Value} {dp dp' un un' : Nat} {fr : Option (List Env)} {gd : Option (List Code)}
    (h : wpAny M { handled := hd, depth := dp, frames := fr, guards := gd, units := un } t Q E s) (h1 : dp' ≤ dp) (h2 : un' ≤ un) :
    wpAny M { handled := hd, depth := dp', frames := fr, guards := gd, units := un' } t Q E s :=
  fun Γ p hΓ => h Γ p ⟨hΓ.1, Nat.le_trans hΓ.2.1 h1, hΓ.2.2.1, hΓ.2.2.2.1, Nat.le_trans hΓ.2.2.2.2 h2⟩

theorem does_use {w : World} {dp un dp' un' : Nat} {f : Addr} {vs : List Value} {news : List (Addr × Obj)} {Ret : Value → List (Addr × Obj) → Prop} (D : Does w dp un f vs news Ret)
    {gd : Option (List Code)} {cn : Str} {cs : Scope} {a : Addr} {ccd : Value} {cl : List (Str × Addr)} {outer : List Env} {A₀ : Around} {base h₀ : Heap} {L : Addr} {m : Str → Option Value}
    {mean : ExcName → Option Value} {mg mb : Str → Option Value} {s : Shared} {Q E : Value → Shared → Prop}
    (B : Below A₀ base outer h₀) (F : Fr h₀ L s.heap m) (X : (hd.heap_39 w.params).In h₀) (N : News h₀ L s.heap news) (T : Top hd.view_39 (looseW hd.view_39 loose) mean mg mb h₀) (hk : cs.kind = .function)
    (h1 : dp' ≤ dp) (h2 : un' ≤ un)
    (ret : ∀ v news' h' tk', Fr h₀ L h' m → News h₀ L h' news' → Ret v news' → Q v { s with heap := h', toks := tk' }) :
    wpAny (model PySem.Challenge.rw_xi0021_01.row.prog w) (ktrTop dp' un' gd cn cs L a ccd cl outer) (call (.ref f) vs) Q E s :=
  around_le (D _ _ _ _ _ _ _ _ _ _ _ _ _ _ _ _ _ _ B F X N T hk ret) h1 h2
end Mine
namespace Mine
section
variable {prog : Program} {w : World} {A : Around} {E : Value → Shared → Prop} {s : Shared} {h₀ : Heap} {m : Str → Option Value} {news : List (Addr × Obj)}
/-- a loop over a list's iterator that stores one int's name -/
theorem for_fold1 {env : Env} {L : Addr} {x y : Str} {px : Pos} {body : List Stmt} {R : Result → Shared → Prop} {I l : Addr} {o : Obj} {its : Array Value} {n : Nat} {a₀ : Int} {t₀ : Tok} (acc : Nat → Int)
    (hL : env.locals = L) (hx : env.kindOf x = some .local) (hp : (env.scope.kind == .class || (env.scope.kind == .module && env.locals != env.globals)) = false) (hh : A.handled = none)
    (F : Fr h₀ L s.heap m) (N : News h₀ L s.heap ((I, o) :: news)) (hO : Off I news) (ho : ItAt o l 0) (hl : (l, listOf its n) ∈ news) (hy : m y = some (.int a₀ t₀)) (h0 : acc 0 = a₀)
    (turn : ∀ (i : Nat) v ta h tk o, its[i]? = some v → Fr h₀ L h (fun z => if z = x then some v else if z = y then some (.int (acc i) ta) else m z) → News h₀ L h ((I, o) :: news) →
      wpAny (model prog w) A (execs body env) (fun f s₃ => Ended (f = .next ∧ ∃ h' tk' m₂ t', s₃ = { s with heap := h', toks := tk' } ∧ Fr h₀ L h' m₂ ∧ News h₀ L h' ((I, o) :: news) ∧ m₂ y = some (.int (acc (i + 1)) t') ∧ ∀ z, z ≠ x → z ≠ y → m₂ z = m z))
        (fun _ _ => False) { s with heap := h, toks := tk })
    (done : ∀ (u : Option Value) t h tk, Fr h₀ L h (fun z => if z = x then u else if z = y then some (.int (acc its.size) t) else m z) → News h₀ L h news → R (.ok .next) { s with heap := h, toks := tk }) :
    codeAny (model prog w) A (.forLoop (.Name x px) (.ref I) body [] env) R s := by
  have norm : ∀ (m₁ : Str → Option Value) (a : Int) (t : Tok) (u : Option Value), m₁ y = some (.int a t) → (∀ z, z ≠ x → z ≠ y → m₁ z = m z) →
      (fun z => if z = x then u else m₁ z) = fun z => if z = x then u else if z = y then some (.int a t) else m z := by
    intro m₁ a t u h1 h2
    funext z
    by_cases hz : z = x
    · simp [hz]
    · simp only [if_neg hz]
      by_cases hz2 : z = y
      · simp [hz2, h1]
      · simp only [if_neg hz2]; exact h2 z hz hz2
  refine for_own its.size (fun i o => ItAt o l i) (fun i v => its[i]? = some v) (fun i m₁ led => led = news ∧ (∃ t, m₁ y = some (.int (acc i) t)) ∧ ∀ z, z ≠ x → z ≠ y → m₁ z = m z) hL hx hp F N hO ho ⟨rfl, ⟨t₀, by rw [h0]; exact hy⟩, fun _ _ _ => rfl⟩ ?_ ?_ ?_ ?_
  · rintro i m₁ led h tk o Q E hi ⟨rfl, _, _⟩ hI hO F N k
    refine next_list (s := { s with heap := h, toks := tk }) F N hO hI hl (v := its[i]) (by simp [hi]) fun h' o' F' N' ho' => ?_
    exact k _ h' tk o' (by simp [hi]) ho' F' N'
  · rintro m₁ led h tk o Q E ⟨rfl, _, _⟩ hI hO F N k
    exact next_list_end (s := { s with heap := h, toks := tk }) hh F N hO hI hl (by simp) fun h' F' N' => k h' tk F' N'
  · rintro i v m₁ led h tk o hi hv ⟨rfl, ⟨t, ht⟩, hm⟩ hI hO F N
    rw [norm m₁ _ t _ ht hm] at F
    refine wpAny_mono (turn i v t h tk o hv F N) (fun f s₃ hf => ?_) fun _ _ e => e
    obtain ⟨rfl, h', tk', m₂, t', rfl, F', N', h1, h2⟩ := hf
    exact ⟨h', tk', m₂, led, rfl, F', N', hO, rfl, ⟨t', h1⟩, h2⟩
  · rintro m₁ led h tk ⟨rfl, ⟨t, ht⟩, hm⟩ F N
    refine done (m₁ x) t h tk ?_ N
    rw [← norm m₁ _ t _ ht hm]
    have : (fun z => if z = x then m₁ x else m₁ z) = m₁ := by
      funext z
      by_cases hz : z = x
      · simp [hz]
      · simp [hz]
    rw [this]; exact F
end
/-- gates of the ledger -/
def IsRef (news : Led) (v : Value) (g : Gt) : Prop := ∃ a o, v = .ref a ∧ (a, o) ∈ news ∧ IsGate o g
def GatesIn (news : Led) (l : Addr) (gs : List Gt) : Prop := ∃ (refs : List Value) (n : Nat), (l, listOf refs.toArray n) ∈ news ∧ refs.length = gs.length ∧ ∀ (i : Nat) (h1 : i < refs.length) (h2 : i < gs.length), IsRef news refs[i] gs[i]
def Gt.Ok (g : Gt) : Prop := (0 ≤ g.l1 ∧ g.l1 < 4) ∧ (0 ≤ g.l2 ∧ g.l2 < 4) ∧ (0 ≤ g.l3 ∧ g.l3 < 4) ∧ ∀ x, 0 ≤ x → x < 16 → 0 ≤ g.run x ∧ g.run x < 16
def runAll (gs : List Gt) (x : Int) : Int := gs.foldl (fun x g => g.run x) x
theorem runAll_word {gs : List Gt} (hg : ∀ g ∈ gs, g.Ok) : ∀ {x : Int}, 0 ≤ x → x < 16 → 0 ≤ runAll gs x ∧ runAll gs x < 16 := by
  induction gs with
  | nil => exact fun h1 h2 => ⟨h1, h2⟩
  | cons g r ih =>
    intro x h1 h2
    have := (hg g (.head _)).2.2.2 x h1 h2
    exact ih (fun g hg' => hg g (.tail _ hg')) this.1 this.2
theorem runAll_take {gs : List Gt} {x : Int} {i : Nat} (h : i < gs.length) : runAll (gs.take (i + 1)) x = gs[i].run (runAll (gs.take i) x) := by
  unfold runAll
  rw [List.take_add_one, List.getElem?_eq_getElem h, List.foldl_append]
  rfl
end Mine
namespace Mine
section
variable {prog : Program} {w : World} {A : Around} {E : Value → Shared → Prop} {s : Shared} {h₀ : Heap} {L : Addr} {m : Str → Option Value} {news : List (Addr × Obj)}
theorem iter_self {I l : Addr} {o : Obj} {i : Nat} {Q : Value → Shared → Prop} (N : News h₀ L s.heap news) (hm : (I, o) ∈ news) (ho : ItAt o l i) (h : Q (.ref I) s) : wpAny (model prog w) A (pyIter (.ref I)) Q E s :=
  wpAny_pyIter_listiter ⟨_, (N _ hm).1, ho.1, ho.2⟩ h
end
end Mine
namespace Mine
theorem allNe' {d e : Addr} {l : List (Addr × Obj)} (x : AllLt d l) (h : @LE.le Nat _ d e) : ∀ p ∈ l, p.1 ≠ e := allNe (allLt_mono h x)
theorem allNe2 {d e : Addr} {l : List (Addr × Obj)} (x : ∀ p ∈ l, p.1 < d) (h : @LE.le Nat _ d e) : ∀ p ∈ l, p.1 ≠ e := fun p hp => Nat.ne_of_lt (Nat.lt_of_lt_of_le (x p hp) h)
end Mine
namespace Mine
section
variable {prog : Program} {w : World} {A : Around} {E : Value → Shared → Prop} {s : Shared} {h₀ : Heap} {L : Addr} {m : Str → Option Value} {led : List (Addr × Obj)}
/-- a loop over a tuple of one item -/
theorem for_one {env : Env} {x : Str} {px : Pos} {body : List Stmt} {R : Result → Shared → Prop} {t : Addr} {v : Value} {n : Nat} (Post : Addr → (Str → Option Value) → List (Addr × Obj) → Prop)
    (hL : env.locals = L) (hx : env.kindOf x = some .local) (hp : (env.scope.kind == .class || (env.scope.kind == .module && env.locals != env.globals)) = false) (hh : A.handled = none)
    (F : Fr h₀ L s.heap m) (N : News h₀ L s.heap led) (hT : (t, tupOf #[v] n) ∈ led)
    (turn : ∀ (I : Addr) h tk o, (∀ p ∈ led, @LT.lt Nat _ p.1 I) → Fr h₀ L h (fun z => if z = x then some v else m z) → News h₀ L h ((I, o) :: led) →
      wpAny (model prog w) A (execs body env) (fun f s₃ => Ended (f = .next ∧ ∃ h' tk' m₂ led₂, s₃ = { s with heap := h', toks := tk' } ∧ Fr h₀ L h' m₂ ∧ News h₀ L h' led₂ ∧ (I, o) ∈ led₂ ∧ (t, tupOf #[v] n) ∈ led₂ ∧ Post I m₂ led₂))
        (fun _ _ => False) { s with heap := h, toks := tk })
    (done : ∀ (I : Addr) m₂ led₂ led₃ h tk, (∀ p ∈ led, @LT.lt Nat _ p.1 I) → Post I m₂ led₂ → (∀ p ∈ led₂, p.1 ≠ I → p ∈ led₃) → Fr h₀ L h m₂ → News h₀ L h led₃ → R (.ok .next) { s with heap := h, toks := tk }) :
    wpAny (model prog w) A (pyIter (.ref t)) (fun it s₂ => codeAny (model prog w) A (.forLoop (.Name x px) it body [] env) R s₂) E s := by
  subst hL
  have hT0 := N _ hT
  refine wpAny_pyIter_tuple ⟨_, hT0.1, rfl, _, rfl⟩ ?_
  have hlow : ∀ p ∈ led, @LT.lt Nat _ p.1 s.heap.objs.size := fun p hp => Heap.lt_size (N p hp).1
  refine codeAny_forLoop (fun k s' => (k = 1 ∧ s' = { s with heap := s.heap.push { cls := .type "tuple_iterator", data := .fields #[.ref t, .int 0 0] } }) ∨
    (k = 0 ∧ ∃ h tk m₂ led₂ o, s' = { s with heap := h, toks := tk } ∧ Fr h₀ env.locals h m₂ ∧ News h₀ env.locals h led₂ ∧ (s.heap.objs.size, o) ∈ led₂ ∧ o.cls = .type "tuple_iterator" ∧ o.data = .fields #[.ref t, .int 1 0] ∧ (t, tupOf #[v] n) ∈ led₂ ∧ Post s.heap.objs.size m₂ led₂)) ?_ 1 (.inl ⟨rfl, rfl⟩)
  rintro k s' (⟨rfl, rfl⟩ | ⟨rfl, h, tk, m₂, led₂, o, rfl, F₂, N₂, hI, hc, hd, hT₂, hP⟩)
  · have N' := News.push F N { cls := .type "tuple_iterator", data := .fields #[.ref t, .int 0 0] }
    have F' := F.push { cls := .type "tuple_iterator", data := .fields #[.ref t, .int 0 0] }
    have hI' := N' _ (.head _)
    refine wpAny_pyNext_tuple_item ⟨_, hI'.1, rfl, rfl⟩ ⟨_, (N' _ (.tail _ hT)).1, rfl, _, rfl⟩ (i := 0) rfl fun h' hit hs => ?_
    obtain ⟨o', ho', h1, h2⟩ := hit
    have F1 := F'.change hs hI'.2.1 hI'.2.2
    have N1 : News h₀ env.locals h' ((s.heap.objs.size, o') :: led) := News.setIn (own := []) N' (fun _ h => nomatch h) (fun p hp => Nat.ne_of_lt (hlow p hp)) hs ho'
    refine wpAny_assign_Name (wpAny_storeName_local hx F1.ns (fun h₂ hn₂ hs₂ => ?_) hp)
    refine wpAny_mono (turn s.heap.objs.size h₂ _ o' hlow (F1.set hn₂ hs₂) (N1.set hs₂)) (fun f s₃ hf => ?_) fun _ _ e => e.elim
    obtain ⟨rfl, h', tk', m₂, led₂, rfl, F₂, N₂, hI2, hT2, hP⟩ := hf
    exact ⟨0, Nat.zero_lt_one, .inr ⟨rfl, h', tk', m₂, led₂, o', rfl, F₂, N₂, hI2, h1, h2, hT2, hP⟩⟩
  · have hI' := N₂ _ hI
    refine wpAny_pyNext_tuple_end hh ⟨_, hI'.1, hc, hd⟩ ⟨_, (N₂ _ hT₂).1, rfl, _, rfl⟩ (i := 1) rfl fun h' he => wpAny_execs_nil ?_
    refine done s.heap.objs.size m₂ led₂ (led₂.filter fun p => decide (p.1 ≠ s.heap.objs.size)) h' _ hlow hP (fun p hp hne => List.mem_filter.mpr ⟨hp, decide_eq_true hne⟩) ⟨F₂.ns.extBut he hI'.2.1.symm, fun b x e => he b x (fun q => ?_) (F₂.keep b x e), F₂.above⟩ fun p hp => ?_
    · rw [q, hI'.2.2] at e; cases e
    · obtain ⟨hp1, hp2⟩ := List.mem_filter.mp hp
      have hp' := N₂ p hp1
      exact ⟨he _ _ (of_decide_eq_true hp2) hp'.1, hp'.2⟩
end
end Mine
-- part S0
section
namespace Mine
/-- the four attributes of a sorter -/
abbrev attrs (q1 q2 q3 q4 : Int) (u1 u2 u3 u4 : Tok) (v1 v2 v3 v4 : Value) : List DictEntry :=
  [⟨q1, .str (Str.ofString "_node2info") u1, v1⟩, ⟨q2, .str (Str.ofString "_ready_nodes") u2, v2⟩, ⟨q3, .str (Str.ofString "_npassedout") u3, v3⟩, ⟨q4, .str (Str.ofString "_nfinished") u4, v4⟩]
abbrev nodeObj (k : Int) (tk : Tok) (np : Int) (tn : Tok) (sl dd : Addr) : Obj := { cls := .ref 70, dict := some dd, data := .plain, slots := #[some (.int k tk), some (.int np tn), some (.ref sl)] }
end Mine
end
-- part G0
section
namespace Mine
/-- a node of the sorter's graph, as the ledger bears it -/
structure Nd where
  key : Int
  tk : Tok
  a : Addr
  np : Int
  tn : Tok
  sl : Addr
  dd : Addr
  succ : List Value
  ep : Nat
def Nd.adrs (d : Nd) : List Addr := [d.a, d.sl, d.dd]
def InG (led : Led) (d : Nd) : Prop := (d.a, nodeObj d.key d.tk d.np d.tn d.sl d.dd) ∈ led ∧ (d.sl, listOf d.succ.toArray d.ep) ∈ led ∧ (d.dd, dictOf [] 0) ∈ led
def gaddrs (nodes : List Nd) : List Addr := nodes.flatMap Nd.adrs
def kvsOf (nodes : List Nd) : List (Int × Value) := nodes.map fun d => (d.key, .ref d.a)
structure Gr (w : World) (led : Led) (x dx D : Addr) (nodes : List Nd) (rdy : Value) : Prop where
  inst : (x, instObj 167 dx) ∈ led
  attr : ∃ q1 q2 q3 q4 u1 u2 u3 u4 v3 v4 n, (dx, dictOf (attrs q1 q2 q3 q4 u1 u2 u3 u4 (.ref D) rdy v3 v4) n) ∈ led
  dict : ∃ oD, (D, oD) ∈ led ∧ oD.IsDictOf (intKind PySem.Challenge.rw_xi0021_01.row.prog w) (kvsOf nodes)
  lo : (D == sysModules) = false
  each : ∀ d ∈ nodes, InG led d
  nodup : (x :: dx :: D :: gaddrs nodes).Nodup
  len : nodes.length ≤ 1000
def Kept (led led' : Led) (bad : List Addr) : Prop := ∀ p ∈ led, p.1 ∉ bad → p ∈ led'
def Newer (led : Led) (bad bad' : List Addr) : Prop := ∀ b ∈ bad', b ∈ bad ∨ ∀ p ∈ led, @LT.lt Nat _ p.1 b

theorem split_led (led : Led) (c : Addr) : ∃ rest : Led, (∀ p ∈ rest, p.1 ≠ c) ∧ (∀ p ∈ led, p.1 ≠ c → p ∈ rest) ∧ ∀ p ∈ rest, p ∈ led := by
  refine ⟨led.filter fun p => decide (p.1 ≠ c), fun p hp => ?_, fun p hp h => ?_, fun p hp => (List.mem_filter.mp hp).1⟩
  · exact of_decide_eq_true (List.mem_filter.mp hp).2
  · exact List.mem_filter.mpr ⟨hp, decide_eq_true h⟩
theorem front_led {h₀ h : Heap} {L c : Addr} {led rest : Led} {o : Obj} (N : News h₀ L h led) (hm : (c, o) ∈ led) (hr : ∀ p ∈ rest, p ∈ led) : News h₀ L h ((c, o) :: rest) := fun p hp => by
  rcases List.mem_cons.mp hp with rfl | hp
  · exact N _ hm
  · exact N p (hr p hp)

theorem mem_gaddrs {nodes : List Nd} {d : Nd} {c : Addr} (hd : d ∈ nodes) (hc : c ∈ d.adrs) : c ∈ gaddrs nodes := List.mem_flatMap.mpr ⟨d, hd, hc⟩
theorem same_node {nodes : List Nd} (hn : (gaddrs nodes).Nodup) : ∀ {d e : Nd} {c : Addr}, d ∈ nodes → e ∈ nodes → c ∈ d.adrs → c ∈ e.adrs → d = e := by
  induction nodes with
  | nil => intro d e c hd; cases hd
  | cons f r ih =>
    have hn' : (f.adrs ++ gaddrs r).Nodup := hn
    obtain ⟨h1, h2, h3⟩ := List.nodup_append.mp hn'
    intro d e c hd he hcd hce
    rcases List.mem_cons.mp hd with q1 | hd'
    · rcases List.mem_cons.mp he with q2 | he'
      · rw [q1, q2]
      · subst q1; exact absurd rfl (h3 c hcd c (mem_gaddrs he' hce))
    · rcases List.mem_cons.mp he with q2 | he'
      · subst q2; exact absurd rfl (h3 c hce c (mem_gaddrs hd' hcd))
      · exact ih h2 hd' he' hcd hce
theorem nodup_adrs {nodes : List Nd} (hn : (gaddrs nodes).Nodup) {d : Nd} (hd : d ∈ nodes) : d.adrs.Nodup := by
  induction nodes with
  | nil => cases hd
  | cons f r ih =>
    have hn' : (f.adrs ++ gaddrs r).Nodup := hn
    obtain ⟨h1, h2, _⟩ := List.nodup_append.mp hn'
    rcases List.mem_cons.mp hd with rfl | hd
    · exact h1
    · exact ih h2 hd
def setNd (a : Addr) (d' : Nd) (nodes : List Nd) : List Nd := nodes.map fun e => if e.a = a then d' else e
theorem gaddrs_set {nodes : List Nd} {d d' : Nd} (hs : ∀ e ∈ nodes, e.a = d.a → e.adrs = d'.adrs) : gaddrs (setNd d.a d' nodes) = gaddrs nodes := by
  induction nodes with
  | nil => rfl
  | cons f r ih =>
    have ih' := ih fun e he => hs e (.tail _ he)
    show (if f.a = d.a then d' else f).adrs ++ gaddrs (setNd d.a d' r) = f.adrs ++ gaddrs r
    rw [ih']
    by_cases h : f.a = d.a
    · rw [if_pos h, hs f (.head _) h]
    · rw [if_neg h]
theorem kvs_set {nodes : List Nd} {d d' : Nd} (hs : ∀ e ∈ nodes, e.a = d.a → e.key = d'.key ∧ e.a = d'.a) : kvsOf (setNd d.a d' nodes) = kvsOf nodes := by
  induction nodes with
  | nil => rfl
  | cons f r ih =>
    have ih' := ih fun e he => hs e (.tail _ he)
    show ((if f.a = d.a then d' else f).key, Value.ref (if f.a = d.a then d' else f).a) :: kvsOf (setNd d.a d' r) = (f.key, .ref f.a) :: kvsOf r
    rw [ih']
    by_cases h : f.a = d.a
    · obtain ⟨h1, h2⟩ := hs f (.head _) h
      rw [if_pos h, h1, h2]
    · rw [if_neg h]
theorem Gr.bad {w : World} {led : Led} {x dx D : Addr} {nodes : List Nd} {rdy : Value} (G : Gr w led x dx D nodes rdy) {c : Addr} (hc : c ∈ D :: gaddrs nodes) : x ≠ c ∧ dx ≠ c := by
  have h := G.nodup
  obtain ⟨h1, h2⟩ := List.nodup_cons.mp h
  obtain ⟨h3, _⟩ := List.nodup_cons.mp h2
  exact ⟨fun e => h1 (e ▸ .tail _ hc), fun e => h3 (e ▸ hc)⟩
theorem Gr.badD {w : World} {led : Led} {x dx D : Addr} {nodes : List Nd} {rdy : Value} (G : Gr w led x dx D nodes rdy) {c : Addr} (hc : c ∈ gaddrs nodes) : D ≠ c := by
  have h := G.nodup
  obtain ⟨h1, h2⟩ := List.nodup_cons.mp h
  obtain ⟨_, h4⟩ := List.nodup_cons.mp h2
  obtain ⟨h5, _⟩ := List.nodup_cons.mp h4
  exact fun e => h5 (e ▸ hc)
theorem Gr.nd {w : World} {led : Led} {x dx D : Addr} {nodes : List Nd} {rdy : Value} (G : Gr w led x dx D nodes rdy) : (gaddrs nodes).Nodup :=
  (List.nodup_cons.mp (List.nodup_cons.mp (List.nodup_cons.mp G.nodup).2).2).2
/-- a node's object or its list changed -/
theorem Gr.upd {w : World} {led rest : Led} {x dx D c : Addr} {nodes : List Nd} {rdy : Value} {d d' : Nd} {o' : Obj} (G : Gr w led x dx D nodes rdy) (hd : d ∈ nodes) (hc : c ∈ d.adrs)
    (e1 : d'.key = d.key) (e2 : d'.adrs = d.adrs) (hr : ∀ p ∈ led, p.1 ≠ c → p ∈ rest) (hI : InG ((c, o') :: rest) d') : Gr w ((c, o') :: rest) x dx D (setNd d.a d' nodes) rdy := by
  have hcg : c ∈ gaddrs nodes := mem_gaddrs hd hc
  have hb := G.bad (.tail _ hcg)
  have same : ∀ e ∈ nodes, e.a = d.a → e = d := fun e he h => same_node G.nd he hd (c := e.a) (.head _) (h ▸ .head _)
  have ea : d'.a = d.a := (List.cons.inj e2).1
  have hg : gaddrs (setNd d.a d' nodes) = gaddrs nodes := gaddrs_set fun e he h => by rw [same e he h, e2]
  have hk : kvsOf (setNd d.a d' nodes) = kvsOf nodes := kvs_set fun e he h => by rw [same e he h, e1, ea]; exact ⟨rfl, rfl⟩
  refine ⟨.tail _ (hr _ G.inst hb.1), ?_, ?_, G.lo, ?_, by rw [hg]; exact G.nodup, by rw [setNd, List.length_map]; exact G.len⟩
  · obtain ⟨q1, q2, q3, q4, u1, u2, u3, u4, v3, v4, n, h⟩ := G.attr
    exact ⟨q1, q2, q3, q4, u1, u2, u3, u4, v3, v4, n, .tail _ (hr _ h hb.2)⟩
  · obtain ⟨oD, h1, h2⟩ := G.dict
    exact ⟨oD, .tail _ (hr _ h1 (G.badD hcg)), by rw [hk]; exact h2⟩
  · intro e' he'
    obtain ⟨e, he, rfl⟩ := List.mem_map.mp he'
    by_cases h : e.a = d.a
    · rw [if_pos h]; exact hI
    · rw [if_neg h]
      obtain ⟨i1, i2, i3⟩ := G.each e he
      have ne : ∀ b ∈ e.adrs, b ≠ c := fun b hb q => h (by rw [same_node G.nd he hd hb (q ▸ hc)])
      exact ⟨.tail _ (hr _ i1 (ne _ (.head _))), .tail _ (hr _ i2 (ne _ (.tail _ (.head _)))), .tail _ (hr _ i3 (ne _ (.tail _ (.tail _ (.head _)))))⟩
theorem value_some {nodes : List Nd} {k : Int} {v : Value} (h : PySem.valueAt (kvsOf nodes) k = some v) : ∃ d ∈ nodes, d.key = k ∧ v = .ref d.a := by
  unfold PySem.valueAt kvsOf at h
  obtain ⟨kv, h1, h2⟩ := Option.map_eq_some_iff.mp h
  have hm := List.mem_of_find?_eq_some h1
  have hk := List.find?_some h1
  obtain ⟨d, hd, rfl⟩ := List.mem_map.mp hm
  exact ⟨d, hd, of_decide_eq_true hk, h2.symm⟩
theorem value_none {nodes : List Nd} {k : Int} (h : PySem.valueAt (kvsOf nodes) k = none) : ∀ d ∈ nodes, d.key ≠ k := by
  intro d hd e
  unfold PySem.valueAt kvsOf at h
  have h1 := Option.map_eq_none_iff.mp h
  have := List.find?_eq_none.mp h1 (d.key, .ref d.a) (List.mem_map.mpr ⟨d, hd, rfl⟩)
  exact this (decide_eq_true e)
theorem stored_new {nodes : List Nd} {k : Int} {v : Value} (h : ∀ d ∈ nodes, d.key ≠ k) : PySem.stored (kvsOf nodes) k v = kvsOf nodes ++ [(k, v)] := by
  unfold PySem.stored
  rw [if_neg]
  intro hc
  obtain ⟨kv, h1, h2⟩ := List.any_eq_true.mp hc
  obtain ⟨d, hd, rfl⟩ := List.mem_map.mp h1
  exact h d hd (of_decide_eq_true h2)
end Mine
namespace Mine
theorem Gr.mono {w : World} {led led' : Led} {x dx D : Addr} {nodes : List Nd} {rdy : Value} (G : Gr w led x dx D nodes rdy) (h : ∀ p ∈ led, p ∈ led') : Gr w led' x dx D nodes rdy := by
  obtain ⟨q1, q2, q3, q4, u1, u2, u3, u4, v3, v4, n, ha⟩ := G.attr
  obtain ⟨oD, hm, hd⟩ := G.dict
  exact ⟨h _ G.inst, ⟨q1, q2, q3, q4, u1, u2, u3, u4, v3, v4, n, h _ ha⟩, ⟨oD, h _ hm, hd⟩, G.lo, fun d hd => ⟨h _ (G.each d hd).1, h _ (G.each d hd).2.1, h _ (G.each d hd).2.2⟩, G.nodup, G.len⟩
/-- the graph as plain data -/
inductive Abs : List Nd → List (Int × List Int) → Prop
  | nil : Abs [] []
  | cons {d : Nd} {r : List Nd} {js : List Int} {g : List (Int × List Int)} : IntsAre d.succ js → Abs r g → Abs (d :: r) ((d.key, js) :: g)
def ensure (g : List (Int × List Int)) (k : Int) : List (Int × List Int) := if g.any (fun p => p.1 = k) then g else g ++ [(k, [])]
def bump (g : List (Int × List Int)) (b a : Int) : List (Int × List Int) := g.map fun p => if p.1 = b then (p.1, p.2 ++ [a]) else p
def addG (g : List (Int × List Int)) (a b : Int) : List (Int × List Int) := bump (ensure (ensure g a) b) b a
theorem Abs.keys {nodes : List Nd} {g : List (Int × List Int)} (h : Abs nodes g) : g.map (·.1) = nodes.map (·.key) := by
  induction h with
  | nil => rfl
  | cons _ _ ih => rw [List.map_cons, List.map_cons, ih]
theorem Abs.snoc {nodes : List Nd} {g : List (Int × List Int)} (h : Abs nodes g) {d : Nd} (hs : d.succ = []) : Abs (nodes ++ [d]) (g ++ [(d.key, [])]) := by
  induction h with
  | nil => exact .cons (by rw [hs]; exact .nil) .nil
  | cons hi _ ih => exact .cons hi ih
theorem Abs.any {nodes : List Nd} {g : List (Int × List Int)} (h : Abs nodes g) (k : Int) : g.any (fun p => p.1 = k) = nodes.any (fun d => d.key = k) := by
  induction h with
  | nil => rfl
  | cons _ _ ih => rw [List.any_cons, List.any_cons, ih]
theorem Abs.get {nodes nodes' : List Nd} {g : List (Int × List Int)} (h : Abs nodes g) {d : Nd} {k : Int} (hd : d ∈ nodes') (hk : d.key = k)
    (hn : nodes' = nodes ∨ ((∀ e ∈ nodes, e.key ≠ k) ∧ nodes' = nodes ++ [d] ∧ d.np = 0 ∧ d.succ = [])) : Abs nodes' (ensure g k) := by
  unfold ensure
  rw [h.any k]
  rcases hn with rfl | ⟨h1, rfl, _, h3⟩
  · rw [if_pos (List.any_eq_true.mpr ⟨d, hd, decide_eq_true hk⟩)]; exact h
  · rw [if_neg, ← hk]
    · exact h.snoc h3
    · intro hc
      obtain ⟨e, he, hek⟩ := List.any_eq_true.mp hc
      exact h1 e he (of_decide_eq_true hek)
theorem Abs.same {nodes : List Nd} {g : List (Int × List Int)} (h : Abs nodes g) {a : Addr} {d' : Nd} (hs : ∀ e ∈ nodes, e.a = a → e.key = d'.key ∧ e.succ = d'.succ) : Abs (setNd a d' nodes) g := by
  induction h with
  | nil => exact .nil
  | @cons e r js g hi hr ih =>
    show Abs ((if e.a = a then d' else e) :: setNd a d' r) _
    by_cases q : e.a = a
    · rw [if_pos q]
      obtain ⟨h1, h2⟩ := hs e (.head _) q
      rw [h1]
      exact .cons (h2 ▸ hi) (ih fun e he => hs e (.tail _ he))
    · rw [if_neg q]; exact .cons hi (ih fun e he => hs e (.tail _ he))
theorem Abs.bump {nodes : List Nd} {g : List (Int × List Int)} (h : Abs nodes g) {a : Addr} {d' : Nd} {b c : Int} {t : Tok} (hb : d'.key = b)
    (hs : ∀ e ∈ nodes, (e.a = a ↔ e.key = b)) (hs2 : ∀ e ∈ nodes, e.a = a → e.succ ++ [.int c t] = d'.succ) : Abs (setNd a d' nodes) (Mine.bump g b c) := by
  subst hb
  induction h with
  | nil => exact .nil
  | @cons e r js g hi hr ih =>
    have ih' := ih (fun e he => hs2 e (.tail _ he)) (fun e he => hs e (.tail _ he))
    show Abs ((if e.a = a then d' else e) :: setNd a d' r) ((if e.key = d'.key then (e.key, js ++ [c]) else (e.key, js)) :: Mine.bump g d'.key c)
    by_cases q : e.a = a
    · have q2 := (hs e (.head _)).mp q
      rw [if_pos q, if_pos q2, q2]
      refine .cons ?_ ih'
      rw [← hs2 e (.head _) q]
      exact hi.append (.cons c t .nil)
    · have q2 : e.key ≠ d'.key := fun z => q ((hs e (.head _)).mpr z)
      rw [if_neg q, if_neg q2]
      exact .cons hi ih'
theorem Gr.keysNodup {w : World} {led : Led} {x dx D : Addr} {nodes : List Nd} {rdy : Value} (G : Gr w led x dx D nodes rdy) : (nodes.map (·.key)).Nodup := by
  obtain ⟨oD, _, es, ep, _, _, _, _, h⟩ := G.dict
  unfold kvsOf at h
  rw [List.map_map] at h
  exact h
theorem key_inj {nodes : List Nd} (hn : (nodes.map (·.key)).Nodup) : ∀ {d e : Nd}, d ∈ nodes → e ∈ nodes → d.key = e.key → d = e := by
  induction nodes with
  | nil => intro d e hd; cases hd
  | cons f r ih =>
    obtain ⟨h1, h2⟩ := List.nodup_cons.mp hn
    intro d e hd he hk
    rcases List.mem_cons.mp hd with q1 | hd' <;> rcases List.mem_cons.mp he with q2 | he'
    · rw [q1, q2]
    · exact absurd (List.mem_map.mpr ⟨e, he', by rw [← hk, q1]⟩) h1
    · exact absurd (List.mem_map.mpr ⟨d, hd', by rw [hk, q2]⟩) h1
    · exact ih h2 hd' he' hk
theorem Kept.trans {a b c : Led} {B1 B2 : List Addr} (h1 : Kept a b B1) (h2 : Kept b c B2) (hs : ∀ p ∈ a, p.1 ∉ B1 → p.1 ∉ B2) : Kept a c B1 := fun p hp hb => h2 p (h1 p hp hb) (hs p hp hb)
end Mine
namespace Mine
theorem Gr.below {w : World} {led : Led} {x dx D c : Addr} {nodes : List Nd} {rdy : Value} (G : Gr w led x dx D nodes rdy) (h : ∀ p ∈ led, @LT.lt Nat _ p.1 c) : ∀ b ∈ D :: gaddrs nodes, @LT.lt Nat _ b c := by
  intro b hb
  rcases List.mem_cons.mp hb with rfl | hb
  · obtain ⟨oD, hm, _⟩ := G.dict
    exact h _ hm
  · obtain ⟨e, he, hbe⟩ := List.mem_flatMap.mp hb
    obtain ⟨i1, i2, i3⟩ := G.each e he
    simp only [Nd.adrs, List.mem_cons, List.not_mem_nil, or_false] at hbe
    rcases hbe with rfl | rfl | rfl
    · exact h _ i1
    · exact h _ i2
    · exact h _ i3
theorem Gr.off {w : World} {led : Led} {x dx D c : Addr} {nodes : List Nd} {rdy : Value} (G : Gr w led x dx D nodes rdy) (h : ∀ p ∈ led, @LT.lt Nat _ p.1 c) : c ∉ D :: gaddrs nodes := fun hc => Nat.lt_irrefl _ (G.below h c hc)
end Mine
namespace Mine
theorem Newer.off {led : Led} {bad bad' : List Addr} {c : Addr} {o : Obj} (h : Newer led bad bad') (hm : (c, o) ∈ led) (hc : c ∉ bad) : c ∉ bad' := fun hb => (h c hb).elim hc fun k => Nat.lt_irrefl _ (k _ hm)
end Mine
namespace Mine
theorem Gr.sub {w : World} {led led' : Led} {x dx D : Addr} {nodes : List Nd} {rdy : Value} (G : Gr w led x dx D nodes rdy) (h : ∀ p ∈ led, p.1 ∈ x :: dx :: D :: gaddrs nodes → p ∈ led') : Gr w led' x dx D nodes rdy := by
  obtain ⟨q1, q2, q3, q4, u1, u2, u3, u4, v3, v4, n, ha⟩ := G.attr
  obtain ⟨oD, hm, hd⟩ := G.dict
  refine ⟨h _ G.inst (.head _), ⟨q1, q2, q3, q4, u1, u2, u3, u4, v3, v4, n, h _ ha (.tail _ (.head _))⟩, ⟨oD, h _ hm (.tail _ (.tail _ (.head _))), hd⟩, G.lo, fun d hd => ?_, G.nodup, G.len⟩
  obtain ⟨i1, i2, i3⟩ := G.each d hd
  have up : ∀ b ∈ d.adrs, b ∈ x :: dx :: D :: gaddrs nodes := fun b hb => .tail _ (.tail _ (.tail _ (mem_gaddrs hd hb)))
  exact ⟨h _ i1 (up _ (.head _)), h _ i2 (up _ (.tail _ (.head _))), h _ i3 (up _ (.tail _ (.tail _ (.head _))))⟩
theorem Newer.mono {led led' : Led} {bad bad' : List Addr} (h : Newer led' bad bad') (hs : ∀ p ∈ led, p ∈ led') : Newer led bad bad' := fun b hb => (h b hb).imp id fun k p hp => k p (hs p hp)
end Mine
namespace Mine
theorem adr_a {d : Nd} {c : Addr} (e : c = d.a) : c ∈ d.adrs := e ▸ .head _
theorem adr_sl {d : Nd} {c : Addr} (e : c = d.sl) : c ∈ d.adrs := e ▸ .tail _ (.head _)
theorem adr_dd {d : Nd} {c : Addr} (e : c = d.dd) : c ∈ d.adrs := e ▸ .tail _ (.tail _ (.head _))
end Mine
namespace Mine
theorem Abs.mem {nodes : List Nd} {g : List (Int × List Int)} (h : Abs nodes g) {d : Nd} (hd : d ∈ nodes) : ∃ js, (d.key, js) ∈ g ∧ IntsAre d.succ js := by
  induction h with
  | nil => cases hd
  | cons hi _ ih =>
    rcases List.mem_cons.mp hd with rfl | hd'
    · exact ⟨_, .head _, hi⟩
    · obtain ⟨js, h1, h2⟩ := ih hd'
      exact ⟨js, .tail _ h1, h2⟩
def Short (g : List (Int × List Int)) : Prop := ∀ p ∈ g, p.2.length ≤ 900
theorem Short.ensure {g : List (Int × List Int)} (h : Short g) (k : Int) : Short (ensure g k) := by
  intro p hp
  unfold Mine.ensure at hp
  split at hp
  · exact h p hp
  · rcases List.mem_append.mp hp with hp | hp
    · exact h p hp
    · rw [List.mem_singleton.mp hp]; exact Nat.zero_le _
theorem Abs.size {nodes : List Nd} {g : List (Int × List Int)} (h : Abs nodes g) (hs : Short g) {d : Nd} (hd : d ∈ nodes) : d.succ.toArray.size ≤ sizeLine := by
  obtain ⟨js, h1, h2⟩ := h.mem hd
  have h3 := hs _ h1
  have h4 := h2.length
  have : sizeLine = 16777216 := by decide
  rw [List.size_toArray]
  simp only at h3
  omega
end Mine
end
-- part RG
section
namespace Mine
section
variable {prog : Program} {w : World} {A : Around} {E : Value → Shared → Prop} {s : Shared} {h₀ : Heap} {L : Addr} {m : Str → Option Value} {news : List (Addr × Obj)}
abbrev rgObj (i n : Nat) : Obj := { cls := .type "range_iterator", data := .fields #[rawInt (i : Int), rawInt ((n : Int) - i), rawInt 1] }
theorem next_rg {I : Addr} {i n : Nat} {Q : Option Value → Shared → Prop} (F : Fr h₀ L s.heap m) (N : News h₀ L s.heap ((I, rgObj i n) :: news)) (hO : Off I news) (hlt : i < n)
    (h : ∀ h' tk, Fr h₀ L h' m → News h₀ L h' ((I, rgObj (i + 1) n) :: news) → Q (some (.int i s.toks)) { s with heap := h', toks := tk }) : wpAny (model prog w) A (pyNext (.ref I)) Q E s := by
  have hI := N _ (.head _)
  refine wpAny_pyNext_range_item (x := i) (left := (n : Int) - i) (step := 1) hI.1 (by omega) fun h' hit hs => ?_
  have e1 : (i : Int) + 1 = ((i + 1 : Nat) : Int) := by omega
  have e2 : (n : Int) - i - 1 = (n : Int) - ((i + 1 : Nat) : Int) := by omega
  rw [e1, e2] at hit
  exact h h' _ (F.change hs hI.2.1 hI.2.2) (News.setIn (own := []) N (fun _ h => nomatch h) hO hs hit)
theorem end_rg {I : Addr} {n : Nat} {Q : Option Value → Shared → Prop} (hh : A.handled = none) (F : Fr h₀ L s.heap m) (N : News h₀ L s.heap ((I, rgObj n n) :: news)) (hO : Off I news)
    (h : ∀ h', Fr h₀ L h' m → News h₀ L h' news → Q none { s with heap := h' }) : wpAny (model prog w) A (pyNext (.ref I)) Q E s := by
  have hI := N _ (.head _)
  refine wpAny_pyNext_range_end (x := n) (left := (n : Int) - n) (step := 1) hh hI.1 (by omega) fun h' he => ?_
  refine h h' ⟨F.ns.extBut he hI.2.1.symm, fun b x e => he b x (fun q => ?_) (F.keep b x e), F.above⟩ fun p hp => ?_
  · rw [q, hI.2.2] at e; cases e
  · have hp' := N p (.tail _ hp)
    exact ⟨he _ _ (hO p hp) hp'.1, hp'.2⟩
theorem for_range {env : Env} {x : Str} {px : Pos} {body : List Stmt} {R : Result → Shared → Prop} {r : Addr} {b : Int} {t u v : Tok} (n : Nat) (J : Nat → (Str → Option Value) → List (Addr × Obj) → Prop)
    (hL : env.locals = L) (hx : env.kindOf x = some .local) (hp : (env.scope.kind == .class || (env.scope.kind == .module && env.locals != env.globals)) = false) (hh : A.handled = none)
    (hr : IsRange s.heap r 0 b 1 t u v) (hsm : Builtin.Range.small 0 b 1 = true) (hn : Builtin.Range.rangeSize 0 b 1 = (n : Int))
    (F : Fr h₀ L s.heap m) (N : News h₀ L s.heap news) (hJ : J 0 m news)
    (turn : ∀ (i : Nat) t m₁ led h tk I oI, i < n → J i m₁ led → Off I led → Fr h₀ L h (fun y => if y = x then some (.int i t) else m₁ y) → News h₀ L h ((I, oI) :: led) →
      wpAny (model prog w) A (execs body env) (fun f s₃ => match f with
        | .next | .cont => Ended (∃ h' tk' m₂ led₂, s₃ = { s with heap := h', toks := tk' } ∧ Fr h₀ L h' m₂ ∧ News h₀ L h' ((I, oI) :: led₂) ∧ Off I led₂ ∧ J (i + 1) m₂ led₂)
        | .brk => R (.ok .next) s₃
        | .ret v => R (.ok (.ret v)) s₃) (fun _ _ => False) { s with heap := h, toks := tk })
    (done : ∀ m₁ led h tk, J n m₁ led → Fr h₀ L h m₁ → News h₀ L h led → R (.ok .next) { s with heap := h, toks := tk }) :
    wpAny (model prog w) A (pyIter (.ref r)) (fun it s₂ => codeAny (model prog w) A (.forLoop (.Name x px) it body [] env) R s₂) E s := by
  refine wpAny_pyIter_range hr hsm ?_
  rw [hn]
  have e0 : ({ cls := .type "range_iterator", data := .fields #[rawInt 0, rawInt (n : Int), rawInt 1] } : Obj) = rgObj 0 n := by simp [rgObj]
  rw [e0]
  have hlow : ∀ p ∈ news, @LT.lt Nat _ p.1 s.heap.objs.size := fun p hp => Heap.lt_size (N p hp).1
  refine for_own (s := { s with heap := s.heap.push (rgObj 0 n) }) n (fun i o => o = rgObj i n) (fun i v => ∃ t, v = .int i t) J hL hx hp (F.push _) (News.push F N _ rfl) (fun p hp => Nat.ne_of_lt (hlow p hp)) rfl hJ ?_ ?_ ?_ ?_
  · rintro i m₁ led h tk o Q E hi hJ rfl hO F N k
    exact next_rg (s := { s with heap := h, toks := tk }) F N hO hi fun h' tk' F' N' => k _ h' tk' _ ⟨_, rfl⟩ rfl F' N'
  · rintro m₁ led h tk o Q E hJ rfl hO F N k
    exact end_rg (s := { s with heap := h, toks := tk }) hh F N hO fun h' F' N' => k h' tk F' N'
  · rintro i v m₁ led h tk o hi ⟨t, rfl⟩ hJ rfl hO F N
    exact turn i t m₁ led h tk _ _ hi hJ hO F N
  · exact done
/-- a loop over a range whose turns store no name but the loop's own -/
theorem for_range1 {env : Env} {x : Str} {px : Pos} {body : List Stmt} {R : Result → Shared → Prop} {r : Addr} {b : Int} {t u v : Tok} (n : Nat) (J : Nat → List (Addr × Obj) → Prop)
    (hL : env.locals = L) (hx : env.kindOf x = some .local) (hp : (env.scope.kind == .class || (env.scope.kind == .module && env.locals != env.globals)) = false) (hh : A.handled = none)
    (hr : IsRange s.heap r 0 b 1 t u v) (hsm : Builtin.Range.small 0 b 1 = true) (hn : Builtin.Range.rangeSize 0 b 1 = (n : Int))
    (F : Fr h₀ L s.heap m) (N : News h₀ L s.heap news) (hJ : J 0 news)
    (turn : ∀ (i : Nat) t led h tk I oI, i < n → J i led → Off I led → Fr h₀ L h (fun y => if y = x then some (.int i t) else m y) → News h₀ L h ((I, oI) :: led) →
      wpAny (model prog w) A (execs body env) (fun f s₃ => match f with
        | .next | .cont => Ended (∃ h' tk' m₂ led₂, s₃ = { s with heap := h', toks := tk' } ∧ Fr h₀ L h' m₂ ∧ News h₀ L h' ((I, oI) :: led₂) ∧ Off I led₂ ∧ J (i + 1) led₂ ∧ ∀ z, z ≠ x → m₂ z = m z)
        | .brk => R (.ok .next) s₃
        | .ret v => R (.ok (.ret v)) s₃) (fun _ _ => False) { s with heap := h, toks := tk })
    (done : ∀ u led h tk, J n led → Fr h₀ L h (fun y => if y = x then u else m y) → News h₀ L h led → R (.ok .next) { s with heap := h, toks := tk }) :
    wpAny (model prog w) A (pyIter (.ref r)) (fun it s₂ => codeAny (model prog w) A (.forLoop (.Name x px) it body [] env) R s₂) E s := by
  have norm : ∀ (m₁ : Str → Option Value) (u : Option Value), (∀ z, z ≠ x → m₁ z = m z) → (fun z => if z = x then u else m₁ z) = fun z => if z = x then u else m z := by
    intro m₁ u h
    funext z
    by_cases hz : z = x
    · simp [hz]
    · simp only [if_neg hz]; exact h z hz
  refine for_range n (fun i m₁ led => J i led ∧ ∀ z, z ≠ x → m₁ z = m z) hL hx hp hh hr hsm hn F N ⟨hJ, fun _ _ => rfl⟩ ?_ ?_
  · rintro i t m₁ led h tk I oI hi ⟨hJ, hm⟩ hO F N
    rw [norm m₁ _ hm] at F
    refine wpAny_mono (turn i t led h tk I oI hi hJ hO F N) (fun f s₃ hf => ?_) fun _ _ e => e
    cases f with
    | next => obtain ⟨h', tk', m₂, led₂, rfl, F₂, N₂, hO₂, hJ₂, hm₂⟩ := hf; exact ⟨h', tk', m₂, led₂, rfl, F₂, N₂, hO₂, hJ₂, hm₂⟩
    | cont => obtain ⟨h', tk', m₂, led₂, rfl, F₂, N₂, hO₂, hJ₂, hm₂⟩ := hf; exact ⟨h', tk', m₂, led₂, rfl, F₂, N₂, hO₂, hJ₂, hm₂⟩
    | brk => exact hf
    | ret v => exact hf
  · rintro m₁ led h tk ⟨hJ, hm⟩ F N
    refine done (m₁ x) led h tk hJ ?_ N
    rw [← norm m₁ _ hm]
    have : (fun z => if z = x then m₁ x else m₁ z) = m₁ := by
      funext z
      by_cases hz : z = x <;> simp [hz]
    rw [this]; exact F
end
end Mine
end
-- part GR
section
namespace Mine
/-- the graph of a table's links, word by word -/
def grw (t : Int → Int) : Nat → List (Int × List Int)
  | 0 => []
  | i + 1 => if t i ≠ i then addG (grw t i) (t i) i else grw t i
structure GOk (t : Int → Int) (i : Nat) (g : List (Int × List Int)) : Prop where
  each : ∀ p ∈ g, (0 ≤ p.1 ∧ p.1 < 16 ∧ t p.1 ≠ p.1) ∧ p.2 = if p.1 < i then [t p.1] else []
  has : ∀ k : Nat, k < i → t k ≠ k → (∃ p ∈ g, p.1 = k) ∧ ∃ p ∈ g, p.1 = t k
theorem mem_ensure {g : List (Int × List Int)} {k : Int} {p : Int × List Int} (h : p ∈ ensure g k) : p ∈ g ∨ ((∀ q ∈ g, q.1 ≠ k) ∧ p = (k, [])) := by
  unfold ensure at h
  split at h
  · exact .inl h
  · rename_i hn
    rcases List.mem_append.mp h with h | h
    · exact .inl h
    · refine .inr ⟨fun q hq e => hn (List.any_eq_true.mpr ⟨q, hq, decide_eq_true e⟩), List.mem_singleton.mp h⟩
theorem ensure_sub {g : List (Int × List Int)} {k : Int} {p : Int × List Int} (h : p ∈ g) : p ∈ ensure g k := by
  unfold ensure
  split
  · exact h
  · exact List.mem_append_left _ h
theorem ensure_has (g : List (Int × List Int)) (k : Int) : ∃ p ∈ ensure g k, p.1 = k := by
  unfold ensure
  split
  · rename_i h
    obtain ⟨p, hp, hk⟩ := List.any_eq_true.mp h
    exact ⟨p, hp, of_decide_eq_true hk⟩
  · exact ⟨(k, []), List.mem_append_right _ (List.mem_singleton.mpr rfl), rfl⟩
theorem bump_has {g : List (Int × List Int)} {b a k : Int} (h : ∃ p ∈ g, p.1 = k) : ∃ p ∈ bump g b a, p.1 = k := by
  obtain ⟨p, hp, hk⟩ := h
  refine ⟨_, List.mem_map.mpr ⟨p, hp, rfl⟩, ?_⟩
  split <;> exact hk
theorem GOk.ensure {t : Int → Int} {i : Nat} {g : List (Int × List Int)} (G : GOk t i g) {k : Int} (h0 : 0 ≤ k) (h1 : k < 16) (hm : t k ≠ k) : GOk t i (ensure g k) := by
  refine ⟨fun p hp => ?_, fun j hj hjm => ?_⟩
  · rcases mem_ensure hp with h | ⟨h, rfl⟩
    · exact G.each p h
    · refine ⟨⟨h0, h1, hm⟩, ?_⟩
      split
      · rename_i hk
        have hk' : k < (i : Int) := hk
        obtain ⟨⟨q, hq, e⟩, _⟩ := G.has k.toNat (by omega) (by rw [Int.toNat_of_nonneg h0]; exact hm)
        exact absurd (by rw [e]; exact Int.toNat_of_nonneg h0) (h q hq)
      · rfl
  · obtain ⟨⟨p, hp, e⟩, q, hq, e'⟩ := G.has j hj hjm
    exact ⟨⟨p, ensure_sub hp, e⟩, q, ensure_sub hq, e'⟩
theorem GOk.step {t : Int → Int} (ht : ∀ w, 0 ≤ w → w < 16 → 0 ≤ t w ∧ t w < 16) (hm : ∀ w, 0 ≤ w → w < 16 → t w ≠ w → t (t w) ≠ t w) {i : Nat} (hi : i < 16) {g : List (Int × List Int)} (G : GOk t i g) (h : t i ≠ i) : GOk t (i + 1) (addG g (t i) i) := by
  have hw := ht i (by omega) (by omega)
  have G1 := (G.ensure hw.1 hw.2 (hm i (by omega) (by omega) h)).ensure (k := (i : Int)) (by omega) (by omega) h
  refine ⟨fun p hp => ?_, fun j hj hjm => ?_⟩
  · obtain ⟨q, hq, rfl⟩ := List.mem_map.mp hp
    obtain ⟨h1, h2⟩ := G1.each q hq
    by_cases e : q.1 = (i : Int)
    · rw [if_pos e]
      refine ⟨h1, ?_⟩
      dsimp only
      rw [h2, if_neg (by omega), if_pos (by omega), e]; rfl
    · rw [if_neg e]
      refine ⟨h1, ?_⟩
      rw [h2]
      by_cases e2 : q.1 < (i : Int)
      · rw [if_pos e2, if_pos (by omega)]
      · rw [if_neg e2, if_neg (by omega)]
  · rcases Nat.lt_succ_iff_lt_or_eq.mp hj with hj' | rfl
    · exact ⟨bump_has (G1.has j hj' hjm).1, bump_has (G1.has j hj' hjm).2⟩
    · refine ⟨bump_has (ensure_has _ _), bump_has ?_⟩
      obtain ⟨p, hp, e⟩ := ensure_has g (t j)
      exact ⟨p, ensure_sub hp, e⟩
theorem grw_ok {t : Int → Int} (ht : ∀ w, 0 ≤ w → w < 16 → 0 ≤ t w ∧ t w < 16) (hm : ∀ w, 0 ≤ w → w < 16 → t w ≠ w → t (t w) ≠ t w) : ∀ i : Nat, i ≤ 16 → GOk t i (grw t i)
  | 0, _ => ⟨fun _ h => (nomatch h), fun _ h => absurd h (Nat.not_lt_zero _)⟩
  | i + 1, h => by
    have ih := grw_ok ht hm i (by omega)
    unfold grw
    split
    · rename_i hne
      exact ih.step ht hm (by omega) hne
    · rename_i hne
      have heq : t i = i := Decidable.not_not.mp hne
      refine ⟨fun p hp => ?_, fun j hj hjm => ?_⟩
      · obtain ⟨h1, h2⟩ := ih.each p hp
        refine ⟨h1, ?_⟩
        rw [h2]
        by_cases e2 : p.1 < (i : Int)
        · rw [if_pos e2, if_pos (by omega)]
        · have : p.1 ≠ (i : Int) := fun e => h1.2.2 (by rw [e]; exact heq)
          rw [if_neg e2, if_neg (by omega)]
      · rcases Nat.lt_succ_iff_lt_or_eq.mp hj with hj' | rfl
        · exact ih.has j hj' hjm
        · exact absurd heq hjm
theorem GOk.short {t : Int → Int} {i : Nat} {g : List (Int × List Int)} (G : GOk t i g) : Short g := fun p hp => by
  rw [(G.each p hp).2]; split <;> simp
theorem int16_len {l : List Int} (hn : l.Nodup) (h : ∀ b ∈ l, 0 ≤ b ∧ b < 16) : l.length ≤ 16 := by
  have : ∀ {st l : List Int}, st.Nodup → (∀ b ∈ st, b ∈ l) → st.length ≤ l.length := by
    intro st
    induction st with
    | nil => intro l _ _; exact Nat.zero_le _
    | cons a r ih =>
      intro l hn hs
      obtain ⟨h1, h2⟩ := List.nodup_cons.mp hn
      have ha := hs a (.head _)
      have := ih (l := l.erase a) h2 fun b hb => by
        have hne : b ≠ a := fun e => h1 (e ▸ hb)
        exact (List.mem_erase_of_ne hne).mpr (hs b (.tail _ hb))
      rw [List.length_erase_of_mem ha] at this
      have := List.length_pos_of_mem ha
      simp only [List.length_cons]; omega
  have h2 := this (l := (List.range 16).map Int.ofNat) hn fun b hb => by
    obtain ⟨h0, h1⟩ := h b hb
    refine List.mem_map.mpr ⟨b.toNat, List.mem_range.mpr (by omega), ?_⟩
    exact Int.toNat_of_nonneg h0
  simpa using h2
theorem Abs.key_mem {nodes : List Nd} {g : List (Int × List Int)} (h : Abs nodes g) {d : Nd} (hd : d ∈ nodes) : ∃ p ∈ g, p.1 = d.key := by
  obtain ⟨js, h1, _⟩ := h.mem hd
  exact ⟨_, h1, rfl⟩
theorem Abs.mem_key {nodes : List Nd} {g : List (Int × List Int)} (h : Abs nodes g) {k : Int} (hk : ∃ p ∈ g, p.1 = k) : ∃ d ∈ nodes, d.key = k := by
  obtain ⟨p, hp, e⟩ := hk
  have := h.keys
  have hm : k ∈ g.map (·.1) := List.mem_map.mpr ⟨p, hp, e⟩
  rw [this] at hm
  obtain ⟨d, hd, e⟩ := List.mem_map.mp hm
  exact ⟨d, hd, e⟩
theorem nodes_len {w : World} {led : Led} {x dx D : Addr} {nodes : List Nd} {rdy : Value} {t : Int → Int} {i : Nat} {g : List (Int × List Int)} (G : Gr w led x dx D nodes rdy) (hA : Abs nodes g) (hg : GOk t i g) : nodes.length ≤ 16 := by
  have := int16_len G.keysNodup fun b hb => by
    obtain ⟨d, hd, rfl⟩ := List.mem_map.mp hb
    obtain ⟨p, hp, e⟩ := hA.key_mem hd
    have := (hg.each p hp).1
    rw [e] at this
    exact ⟨this.1, this.2.1⟩
  rwa [List.length_map] at this
/-- what the ledger bears while the sorter is filled -/
structure Sst (w : World) (led₀ led : Led) (x dx D : Addr) (g : List (Int × List Int)) (nodes : List Nd) (rdy : Value) : Prop where
  gr : Gr w led x dx D nodes rdy
  abs : Abs nodes g
  keep : ∀ p ∈ led₀, p ∈ led
  off : ∀ p ∈ led₀, p.1 ∉ x :: dx :: D :: gaddrs nodes
theorem Sst.notI {w : World} {led₀ led : Led} {x dx D : Addr} {g : List (Int × List Int)} {nodes : List Nd} {rdy : Value} (S : Sst w led₀ led x dx D g nodes rdy) {I : Addr} (hO : ∀ p ∈ led, p.1 ≠ I) : I ∉ x :: dx :: D :: gaddrs nodes := by
  intro h
  rcases List.mem_cons.mp h with rfl | h
  · exact hO _ S.gr.inst rfl
  rcases List.mem_cons.mp h with rfl | h
  · obtain ⟨q1, q2, q3, q4, u1, u2, u3, u4, v3, v4, n, ha⟩ := S.gr.attr
    exact hO _ ha rfl
  rcases List.mem_cons.mp h with rfl | h
  · obtain ⟨oD, hm, _⟩ := S.gr.dict
    exact hO _ hm rfl
  · obtain ⟨e, he, hbe⟩ := List.mem_flatMap.mp h
    obtain ⟨i1, i2, i3⟩ := S.gr.each e he
    simp only [Nd.adrs, List.mem_cons, List.not_mem_nil, or_false] at hbe
    rcases hbe with rfl | rfl | rfl
    · exact hO _ i1 rfl
    · exact hO _ i2 rfl
    · exact hO _ i3 rfl
theorem Sst.turn {w : World} {led₀ led led' : Led} {x dx D I : Addr} {oI : Obj} {g g' : List (Int × List Int)} {nodes nodes' : List Nd} (S : Sst w led₀ led x dx D g nodes .none) (hO : ∀ p ∈ led, p.1 ≠ I)
    (G' : Gr w led' x dx D nodes' .none) (K : Kept ((I, oI) :: led) led' (D :: gaddrs nodes)) (W : Newer ((I, oI) :: led) (D :: gaddrs nodes) (D :: gaddrs nodes')) (hA : Abs nodes' g') :
    ∃ led₂, (∀ p ∈ (I, oI) :: led₂, p ∈ led') ∧ (∀ p ∈ led₂, p.1 ≠ I) ∧ Sst w led₀ led₂ x dx D g' nodes' .none := by
  have hI := S.notI hO
  have hI2 : I ∉ D :: gaddrs nodes := fun h => hI (.tail _ (.tail _ h))
  have hI3 : I ∉ D :: gaddrs nodes' := W.off (c := I) (o := oI) (.head _) hI2
  obtain ⟨led₂, r1, r2, r3⟩ := split_led led' I
  refine ⟨led₂, ?_, r1, ?_, hA, ?_, ?_⟩
  · intro p hp
    rcases List.mem_cons.mp hp with rfl | hp
    · exact K _ (.head _) hI2
    · exact r3 p hp
  · refine G'.sub fun p hp hb => r2 p hp fun e => ?_
    rw [e] at hb
    rcases List.mem_cons.mp hb with rfl | hb
    · exact hI (.head _)
    rcases List.mem_cons.mp hb with rfl | hb
    · exact hI (.tail _ (.head _))
    · exact hI3 hb
  · intro p hp
    refine r2 p (K p (.tail _ (S.keep p hp)) fun h => S.off p hp (.tail _ (.tail _ h))) (hO p (S.keep p hp))
  · intro p hp hb
    rcases List.mem_cons.mp hb with e | hb
    · exact S.off p hp (e ▸ .head _)
    rcases List.mem_cons.mp hb with e | hb
    · exact S.off p hp (e ▸ .tail _ (.head _))
    · exact W.off (c := p.1) (o := p.2) (.tail _ (S.keep p hp)) (fun h => S.off p hp (.tail _ (.tail _ h))) hb
theorem Sst.init {w : World} {led : Led} {x dx D : Addr} {oD : Obj} {q1 q2 q3 q4 : Int} {u1 u2 u3 u4 : Tok} {v3 v4 : Value} {n : Nat} (hD : oD.IsDictOf (intKind PySem.Challenge.rw_xi0021_01.row.prog w) []) (lo : (D == sysModules) = false) (l1 : ∀ p ∈ led, p.1 < dx) (l2 : @LT.lt Nat _ dx x) (l3 : @LT.lt Nat _ x D) :
    Sst w led ((D, oD) :: (x, instObj 167 dx) :: (dx, dictOf (attrs q1 q2 q3 q4 u1 u2 u3 u4 (.ref D) .none v3 v4) n) :: led) x dx D [] [] .none := by
  refine ⟨⟨.tail _ (.head _), ⟨q1, q2, q3, q4, u1, u2, u3, u4, v3, v4, n, .tail _ (.tail _ (.head _))⟩, ⟨oD, .head _, hD⟩, lo, fun _ h => (nomatch h), ?_, Nat.zero_le _⟩, .nil, fun p hp => .tail _ (.tail _ (.tail _ hp)), fun p hp h => ?_⟩
  · simp only [gaddrs, List.flatMap_nil, List.nodup_cons, List.mem_cons, List.not_mem_nil, or_false, not_or, not_false_eq_true, List.nodup_nil, and_true]
    exact ⟨⟨Nat.ne_of_gt l2, Nat.ne_of_lt l3⟩, Nat.ne_of_lt (Nat.lt_trans l2 l3)⟩
  · have hl := l1 p hp
    simp only [gaddrs, List.flatMap_nil, List.mem_cons, List.not_mem_nil, or_false] at h
    rcases h with h | h | h
    · exact Nat.ne_of_lt (Nat.lt_trans hl l2) h
    · exact Nat.ne_of_lt hl h
    · exact Nat.ne_of_lt (Nat.lt_trans hl (Nat.lt_trans l2 l3)) h
/-- an item of a list of ints -/
theorem getD_some {l : List Int} {i : Nat} (h : i < l.length) : l[i]? = some (l.getD i 0) := by
  rw [List.getD_eq_getElem?_getD, List.getElem?_eq_getElem h]; rfl
section
variable {prog : Program} {w : World} {A : Around} {E : Value → Shared → Prop} {s : Shared} {h₀ : Heap} {L : Addr} {led : List (Addr × Obj)}
theorem truth_list {l : Addr} {ws : Array Value} {n : Nat} {Q : Bool → Shared → Prop} (N : News h₀ L s.heap led) (hl : (l, listOf ws n) ∈ led) (h0 : 0 < ws.size) (hs : ws.size ≤ sizeLine) (h : ∀ tk, Q true { s with toks := tk }) :
    wpAny (model prog w) A (truthy (.ref l)) Q E s := by
  refine wpAny_truthy_list (items := ws) ⟨_, (N _ hl).1, rfl, _, rfl⟩ (by rw [sizeLine_eq] at hs; omega) ?_
  have e : (!ws.isEmpty) = true := by simp [Array.isEmpty]; intro q; rw [q] at h0; exact absurd h0 (by simp)
  rw [e]
  exact h _
theorem item_ints {value slice : PySem.Expr} {l : Addr} {vs : List Value} {ns : List Int} {n : Nat} {k : Int} {u : Tok} {Q : Value → Shared → Prop} (N : News h₀ L s.heap led) (hl : (l, listOf vs.toArray n) ∈ led) (hi : IntsAre vs ns) (h0 : 0 ≤ k) (h1 : k < ns.length) (hf : k < 2 ^ 63) (h : ∀ t, Q (.int (ns.getD k.toNat 0) t) s)
    (hs : subscripted slice false (.ref l) (.int k u) = operate [.ref l, .int k u] (getItem (.ref l) (.int k u)) := by with_unfolding_all rfl) :
    wpAny (model prog w) A (subscriptTail value slice (.ref l) (.int k u)) Q E s :=
  item_list_intsR ⟨_, (N _ hl).1, rfl, _, rfl⟩ hi h0 h1 hf h hs
end
theorem grw_pos {t : Int → Int} {i : Nat} (h : t i ≠ i) : grw t (i + 1) = addG (grw t i) (t i) i := if_pos h
theorem grw_neg {t : Int → Int} {i : Nat} (h : t i = i) : grw t (i + 1) = grw t i := if_neg fun h' => h' h
theorem front_sub {h₀ h : Heap} {L c : Addr} {led rest : Led} {o : Obj} (N : News h₀ L h led) (hm : (c, o) ∈ led) (hr : ∀ p ∈ led, p.1 ≠ c → p ∈ rest) : ∀ p ∈ led, p ∈ (c, o) :: rest := fun p hp => by
  by_cases e : p.1 = c
  · have h1 := (N p hp).1
    have h2 := (N _ hm).1
    obtain ⟨a, b⟩ := p
    simp only at e h1 h2
    subst e
    rw [h1] at h2
    cases h2
    exact .head _
  · exact .tail _ (hr p hp e)
theorem Gr.rdy {w : World} {led led' : Led} {x dx D : Addr} {nodes : List Nd} {r0 rdy' : Value} {q1 q2 q3 q4 : Int} {u1 u2 u3 u4 : Tok} {v3 v4 : Value} {n : Nat} (G : Gr w led x dx D nodes r0) (hr : ∀ p ∈ led, p.1 ≠ dx → p ∈ led')
    (hm : (dx, dictOf (attrs q1 q2 q3 q4 u1 u2 u3 u4 (.ref D) rdy' v3 v4) n) ∈ led') : Gr w led' x dx D nodes rdy' := by
  have hn := G.nodup
  obtain ⟨oD, h1, h2⟩ := G.dict
  obtain ⟨n1, n2⟩ := List.nodup_cons.mp hn
  obtain ⟨n3, n4⟩ := List.nodup_cons.mp n2
  have off : ∀ b ∈ D :: gaddrs nodes, b ≠ dx := fun b hb e => n3 (e ▸ hb)
  refine ⟨hr _ G.inst (fun e => n1 (by rw [show x = dx from e]; exact .head _)), ⟨q1, q2, q3, q4, u1, u2, u3, u4, v3, v4, n, hm⟩, ⟨oD, hr _ h1 (off _ (.head _)), h2⟩, G.lo, fun d hd => ?_, hn, G.len⟩
  obtain ⟨i1, i2, i3⟩ := G.each d hd
  have o2 : ∀ b ∈ d.adrs, b ≠ dx := fun b hb => off b (.tail _ (mem_gaddrs hd hb))
  exact ⟨hr _ i1 (o2 _ (.head _)), hr _ i2 (o2 _ (.tail _ (.head _))), hr _ i3 (o2 _ (.tail _ (.tail _ (.head _))))⟩
theorem Gr.xdx {w : World} {led : Led} {x dx D : Addr} {nodes : List Nd} {r0 : Value} (G : Gr w led x dx D nodes r0) : x ≠ dx := fun e => (List.nodup_cons.mp G.nodup).1 (e ▸ .head _)
theorem Gr.Ddx {w : World} {led : Led} {x dx D : Addr} {nodes : List Nd} {r0 : Value} (G : Gr w led x dx D nodes r0) : D ≠ dx := fun e => (List.nodup_cons.mp (List.nodup_cons.mp G.nodup).2).1 (e ▸ .head _)
theorem kvs_get {nodes : List Nd} {i : Nat} {k : Int} {v : Value} (h : (kvsOf nodes)[i]? = some (k, v)) : ∃ e ∈ nodes, v = .ref e.a := by
  unfold kvsOf at h
  rw [List.getElem?_map] at h
  cases hq : nodes[i]? with
  | none => rw [hq] at h; cases h
  | some e =>
    rw [hq] at h
    simp only [Option.map_some, Option.some.injEq, Prod.mk.injEq] at h
    exact ⟨e, List.mem_of_getElem? hq, h.2.symm⟩
theorem ints_one {vs : List Value} {n : Int} (h : IntsAre vs [n]) : ∃ t, vs = [.int n t] := by
  cases h with
  | cons n t h => cases h; exact ⟨t, rfl⟩
theorem succ_of {nodes : List Nd} {t : Int → Int} (hA : Abs nodes (grw t 16)) (hg : GOk t 16 (grw t 16)) {d : Nd} (hd : d ∈ nodes) : ∃ tk, d.succ[0]? = some (.int (t d.key) tk) ∧ ∃ e ∈ nodes, e.key = t d.key := by
  obtain ⟨js, hj, hi⟩ := hA.mem hd
  obtain ⟨⟨h0, h1, h2⟩, h3⟩ := hg.each _ hj
  simp only at h0 h1 h2 h3
  rw [if_pos (by omega)] at h3
  rw [h3] at hi
  obtain ⟨tk, e⟩ := ints_one hi
  refine ⟨tk, by rw [e]; rfl, ?_⟩
  have hk : ((d.key.toNat : Nat) : Int) = d.key := Int.toNat_of_nonneg h0
  have := (hg.has d.key.toNat (by omega) (by rw [hk]; exact h2)).2
  rw [hk] at this
  exact hA.mem_key this
theorem none_moved {t : Int → Int} (hA : Abs [] (grw t 16)) (hg : GOk t 16 (grw t 16)) : ∀ k : Nat, k < 16 → t k = k := by
  intro k hk
  refine Decidable.byContradiction fun h => ?_
  obtain ⟨d, hd, _⟩ := hA.mem_key (hg.has k hk h).1
  cases hd
theorem one_moved {nodes : List Nd} {t : Int → Int} (hA : Abs nodes (grw t 16)) (hg : GOk t 16 (grw t 16)) (hne : ¬ nodes = []) : ∃ k : Nat, k < 16 ∧ t k ≠ k := by
  cases nodes with
  | nil => exact absurd rfl hne
  | cons d r =>
    obtain ⟨p, hp, e⟩ := hA.key_mem (d := d) (.head _)
    obtain ⟨⟨h0, h1, h2⟩, _⟩ := hg.each _ hp
    have hk : ((p.1.toNat : Nat) : Int) = p.1 := Int.toNat_of_nonneg h0
    exact ⟨p.1.toNat, by omega, by rw [hk]; exact h2⟩
theorem key_word {nodes : List Nd} {t : Int → Int} (hA : Abs nodes (grw t 16)) (hg : GOk t 16 (grw t 16)) {d : Nd} (hd : d ∈ nodes) : 0 ≤ d.key ∧ d.key < 16 := by
  obtain ⟨p, hp, e⟩ := hA.key_mem hd
  obtain ⟨⟨h0, h1, _⟩, _⟩ := hg.each _ hp
  rw [← e]; exact ⟨h0, h1⟩
theorem Sst.offdx {w : World} {led₀ led : Led} {x dx D : Addr} {g : List (Int × List Int)} {nodes : List Nd} {rdy : Value} (S : Sst w led₀ led x dx D g nodes rdy) : ∀ p ∈ led₀, p.1 ≠ dx := fun p hp e => S.off p hp (e ▸ .tail _ (.head _))
end Mine
end
-- part NX
section
open Sem (wp)
namespace Mine
theorem slot_li_ga : Slot "list_iterator" "__getattribute__" "object.__getattribute__" :=
  .of (owner := "object") (n := "__getattribute__") (by rw [typeLookup_type, builtinLookup_eq_fast]; kernel_rfl) (by decide +kernel) (by decide +kernel) (by decide +kernel)
    (by first | exact .inl (by decide +kernel) | exact .inr (by decide +kernel)) (by rw [isSubtype_type]; kernel_rfl)
theorem slot_wd_get : Slot "wrapper_descriptor" "__get__" "wrapper_descriptor.__get__" :=
  .of (owner := "wrapper_descriptor") (n := "__get__") (by rw [typeLookup_type, builtinLookup_eq_fast]; kernel_rfl) (by decide +kernel) (by decide +kernel) (by decide +kernel)
    (by first | exact .inl (by decide +kernel) | exact .inr (by decide +kernel)) (by rw [isSubtype_type]; kernel_rfl)
theorem li_getattr_none : typeLookup (.type "list_iterator") "__getattr__" = pure none := by rw [typeLookup_type, builtinLookup_eq_fast]; kernel_rfl
theorem entry_wd_get : entryFor table "wrapper_descriptor.__get__" = some Builtin.«wrapper_descriptor.__get__» := entryFor_of_fast (by kernel_rfl)
theorem args_wd_get (a b c : Value) : argsOk "wrapper_descriptor.__get__" ⟨[a, b, c], []⟩ := by unfold argsOk; kernel_rfl
theorem typeOf_li_next : typeOf (.builtin "list_iterator.__next__") = pure (.type "wrapper_descriptor") := by show builtinType _ = _; rw [builtinType_eq_fast]; kernel_rfl
theorem wd_set_none : typeLookup (.type "wrapper_descriptor") "__set__" = pure none := by rw [typeLookup_type, builtinLookup_eq_fast]; kernel_rfl
theorem wd_delete_none : typeLookup (.type "wrapper_descriptor") "__delete__" = pure none := by rw [typeLookup_type, builtinLookup_eq_fast]; kernel_rfl
theorem li_sub : isSubtype (.type "list_iterator") (.type "list_iterator") = pure true := by rw [isSubtype_type]; kernel_rfl
theorem li_sub' : isSubtype (.type "list_iterator") (.type (".".intercalate ("list_iterator.__next__".cutAt '.').dropLast)) = pure true := by
  have e0 : (".".intercalate ("list_iterator.__next__".cutAt '.').dropLast) = "list_iterator" := by
    have e : "list_iterator.__next__".cutAt '.' = ["list_iterator", "__next__"] := by first | rfl | decide +kernel
    rw [e]; decide +kernel
  rw [e0]; exact li_sub
theorem args_li_next : ∀ a, argsOk "list_iterator.__next__" ⟨[a], []⟩ := args_listiter_next

theorem meets_li_ga (a l : Addr) (i : Int) (u : Tok) :
    Meets (Builtin.«object.__getattribute__» ⟨[.ref a, .str "__next__" u], []⟩) (fun A R s => s.heap.get? a = some { cls := .type "list_iterator", data := .fields #[.ref l, .int i 0] } ∧ R (.ok (.ret (.ref s.heap.objs.size))) { s with heap := s.heap.push { cls := .type "method-wrapper", data := .fields #[.builtin "list_iterator.__next__", .ref a] } }) :=
  Meets.of_wp fun prog w A R s hs => by
    obtain ⟨hp, g, d, tk, os⟩ := s
    obtain ⟨hx, hs⟩ := hs
    have hT : (⟨hp, g, d, tk, os⟩ : Shared).TypeIs (.ref a) "list_iterator" := ⟨_, hx, rfl⟩
    have f1 := slot_listiter_next.lookup
    have f2 := typeOf_li_next
    have f3 := slot_wd_get.lookup
    have f4 := wd_set_none
    have f5 := wd_delete_none
    unfold Builtin.«object.__getattribute__»
    repeat (any_goals (first | assumption | wp_step))
    refine codeAny_call_builtin slot_wd_get.plain entry_wd_get (slot_wd_get.check _ _ _ _ _ _ _ _ (show Shared.TypeIs _ (.builtin "list_iterator.__next__") "wrapper_descriptor" from typeOf_li_next) (args_wd_get _ _ _) ?_)
    unfold Builtin.«wrapper_descriptor.__get__»
    repeat (any_goals (first | assumption | wp_step))
    have f6 := li_sub'
    repeat (any_goals (first | assumption | wp_step))
    exact ⟨_, rfl, hs⟩
theorem getAttr_next {prog : Program} {w : World} {A : Around} {E : Value → Shared → Prop} {s : Shared} {a l : Addr} {i : Int} {Q : Value → Shared → Prop}
    (hx : s.heap.get? a = some { cls := .type "list_iterator", data := .fields #[.ref l, .int i 0] })
    (h : ∀ tk, Q (.ref s.heap.objs.size) { s with heap := s.heap.push { cls := .type "method-wrapper", data := .fields #[.builtin "list_iterator.__next__", .ref a] }, toks := tk }) :
    wpAny (model prog w) A (getAttr (.ref a) "__next__" true) Q E s := by
  obtain ⟨hp, g, d, tk, os⟩ := s
  have hT : ∀ tk', (⟨hp, g, d, tk', os⟩ : Shared).TypeIs (.ref a) "list_iterator" := fun _ => ⟨_, hx, rfl⟩
  have f3 := slot_li_ga.lookup
  have f4 := slot_li_ga.bind (.ref a)
  have f5 := li_getattr_none
  unfold getAttr getAttrBy
  repeat (any_goals (first | assumption | exact hT _ | ((with_reducible show wpAny _ _ (call (Value.builtin "object.__getattribute__") _ _) _ _ _); refine call_meets slot_li_ga (hT _) F.entry_object_getattribute (F.args_object_getattribute_2 _ _) (meets_li_ga a l i _) ⟨hx, ?_⟩) | wp_step))
  show wpAny _ _ (handedOut (.ref _)) _ _ _
  exact wpAny_pure (h _)
theorem call_mw {prog : Program} {w : World} {A : Around} {E : Value → Shared → Prop} {s : Shared} {b a l : Addr} {i : Nat} {its : Array Value} {v : Value} {Q : Value → Shared → Prop}
    (hb : s.heap.get? b = some { cls := .type "method-wrapper", data := .fields #[.builtin "list_iterator.__next__", .ref a] })
    (hit : s.heap.IsListIter a l i) (hl : s.heap.IsList l its) (hx : its[i]? = some v)
    (hQ : ∀ h', h'.IsListIter a l (i + 1) → Heap.SameBut a s.heap h' → Q v { s with heap := h' }) :
    wpAny (model prog w) A (call (.ref b) []) Q E s := by
  refine wpAny_call (codeAny_of_tree ?_)
  show wpAny _ A.in1 (callAny (.ref b) {}) _ _ s
  simp only [callAny]
  refine wpAny_bind (wpAny_load hb ?_)
  show wpAny _ _ (do checkBoundCall "list_iterator.__next__" ⟨[.ref a], []⟩; again (.builtin "list_iterator.__next__" ⟨[.ref a], []⟩)) _ _ _
  refine wpAny_bind (wpAny_of_eq (a := ()) ?_ (wpAny_pure (And.intro (plainId_quiet slot_listiter_next.plain _) (codeAny_builtin entry_listiter_next ?_))))
  · kernel_rfl
  · obtain ⟨o, ho, hc, hd⟩ := id hit
    obtain ⟨ol, hol, _, nl, hdl⟩ := hl
    show wpAny _ _ (field (.ref a) 0 >>= _) _ _ s
    refine wpAny_bind (wpAny_field ho hd (x := .ref l) rfl ?_)
    show wpAny _ _ (if (Value.ref l == Value.none) = true then _ else _) _ _ s
    rw [if_neg (show ¬ ((Value.ref l == Value.none) = true) from Bool.false_ne_true)]
    show wpAny _ _ (field (.ref a) 1 >>= _) _ _ s
    refine wpAny_bind (wpAny_field ho hd (x := .int i 0) rfl ?_)
    show wpAny _ _ (seqItems? (.ref l) >>= _) _ _ s
    refine wpAny_bind (wpAny_seqItems hol hdl ?_)
    simp only [Int.toNat_natCast, hx]
    refine wpAny_bind (wpAny_setField ho hd (by simp) (wpAny_pure (hQ _ ?_ (Heap.SameBut.update ..))))
    exact ⟨_, Heap.get?_update_self _ ho (Obj.isFreed_of_fields (Obj.data_mapFields hd _)), (Obj.cls_mapFields ..).trans hc, by
      rw [Obj.data_mapFields hd]; simp [rawInt]⟩
end Mine
end
-- part LC
section
open LCg LCt
namespace Mine
section
variable {prog : Program} {w : World} {A : Around} {E : Value → Shared → Prop} {s : Shared} {h₀ : Heap} {L : Addr} {m : Str → Option Value} {env : Env}
theorem CompEnd.weak {s₁ : Shared} {I C D : Addr} {oI oC oD : Obj} {S : Led → Prop} {r r' : Value → Led → Prop} {y : Value} {s₂ : Shared} (h : CompEnd h₀ L m s₁ I oI C oC D oD S r y s₂) (hr : ∀ news, S news → r y news → r' y news) : CompEnd h₀ L m s₁ I oI C oC D oD S r' y s₂ := by
  obtain ⟨h', tk, news', e, F, N, o, hS, h2⟩ := h
  exact ⟨h', tk, news', e, F, N, o, hS, hr _ hS h2⟩
/-- a comprehension of any length, by an invariant over the items taken, the list and the ledger -/
theorem comp_inv {elt : Expr} {x : Str} {scope : Scope} {cl : List (Str × Addr)} {S : Led → Prop} {P : Nat → Value → Prop} {Fin : List Value → Led → Prop} (J : Nat → List Value → Led → Prop) (n : Nat)
    (turn : ∀ i ys news v I oI C oC D m₂ h tk (E' : Value → Shared → Prop), i < n → J i ys news → P i v → NsObj oC m₂ → m₂ x = some v → Fr h₀ L h m → News h₀ L h ((I, oI) :: (C, oC) :: (D, lst ys) :: news) → Off3 I C D news → ((@Ne Nat I C) ∧ (@Ne Nat I D) ∧ (@Ne Nat C D)) →
      wpAny (model prog w) A (eval elt (compEnvC scope cl C env)) (CompEnd h₀ L m { s with heap := h, toks := tk } I oI C oC D (lst ys) S (fun y news' => J (i + 1) (ys ++ [y]) news')) E' { s with heap := h, toks := tk })
    (fin : ∀ ys news, J n ys news → Fin ys news) : ∀ (k i : Nat) (ys : List Value) (news : Led), i + k = n → J i ys news → CompRest prog w A h₀ L m env elt x scope cl s S P Fin k i ys news
  | 0, i, ys, news, e, hJ => CompRest.zero (fin ys news (by rw [← e]; exact hJ))
  | k + 1, i, ys, news, e, hJ => CompRest.succ fun v I oI C oC D m₂ h tk E' hP hC hx F N o ne =>
    wpAny_mono (turn i ys news v I oI C oC D m₂ h tk E' (by omega) hJ hP hC hx F N o ne) (fun y s₂ h₂ => CompEnd.weak h₂ fun news' _ h3 => comp_inv J n turn fin k (i + 1) (ys ++ [y]) news' (by omega) h3) fun _ _ e => e
theorem compT_inv {ct elt : Expr} {x : Str} {scope : Scope} {cl : List (Str × Addr)} {S : Led → Prop} {P : Nat → Value → Prop} {Fin : List Value → Led → Prop} (J : Nat → List Value → Led → Prop) (n : Nat)
    (turn : ∀ i ys news v I oI C oC D m₂ h tk (E' : Value → Shared → Prop), i < n → J i ys news → P i v → NsObj oC m₂ → m₂ x = some v → Fr h₀ L h m → News h₀ L h ((I, oI) :: (C, oC) :: (D, lst ys) :: news) → Off3 I C D news → ((@Ne Nat I C) ∧ (@Ne Nat I D) ∧ (@Ne Nat C D)) →
      wpAny (model prog w) A (isTrue ct (compEnvC scope cl C env) (eval ct (compEnvC scope cl C env))) (fun ok s' => if ok = true then
        wpAny (model prog w) A (eval elt (compEnvC scope cl C env)) (CompEnd h₀ L m { s with heap := h, toks := tk } I oI C oC D (lst ys) S (fun y news' => J (i + 1) (ys ++ [y]) news')) E' s'
        else CompEnd h₀ L m { s with heap := h, toks := tk } I oI C oC D (lst ys) S (fun _ news' => J (i + 1) ys news') Value.none s') E' { s with heap := h, toks := tk })
    (fin : ∀ ys news, J n ys news → Fin ys news) : ∀ (k i : Nat) (ys : List Value) (news : Led), i + k = n → J i ys news → CompRestT prog w A h₀ L m env ct elt x scope cl s S P Fin k i ys news
  | 0, i, ys, news, e, hJ => CompRestT.zero (fin ys news (by rw [← e]; exact hJ))
  | k + 1, i, ys, news, e, hJ => CompRestT.succ fun v I oI C oC D m₂ h tk E' hP hC hx F N o ne =>
    wpAny_mono (turn i ys news v I oI C oC D m₂ h tk E' (by omega) hJ hP hC hx F N o ne) (fun ok s₂ h₂ => by
      cases ok with
      | true =>
        simp only [if_true] at h₂ ⊢
        exact wpAny_mono h₂ (fun y s₃ h₃ => CompEnd.weak h₃ fun news' _ h4 => compT_inv J n turn fin k (i + 1) (ys ++ [y]) news' (by omega) h4) fun _ _ e => e
      | false =>
        simp only [Bool.false_eq_true, if_false] at h₂ ⊢
        exact CompEnd.weak h₂ fun news' _ h4 => compT_inv J n turn fin k (i + 1) ys news' (by omega) h4) fun _ _ e => e

abbrev viewObj (d : Addr) : Obj := { cls := .type "dict_values", data := .fields #[.ref d] }
def SrcV (prog : Program) (w : World) (A : Around) (h₀ : Heap) (L : Addr) (m : Str → Option Value) (env : Env) (ct elt : Expr) (x : Str) (scope : Scope) (cl : List (Str × Addr)) (Fin : Shared → List Value → Led → Prop) (xv : Value) (s₁ : Shared) : Prop :=
  ∃ v d oD kvs news, xv = .ref v ∧ A.handled = none ∧ Fr h₀ L s₁.heap m ∧ News h₀ L s₁.heap news ∧ (v, viewObj d) ∈ news ∧ (d, oD) ∈ news ∧ oD.IsDictOf (intKind prog w) kvs ∧ kvs.length ≤ sizeLine ∧
    ∀ s₂ : Shared, (∃ h, s₂ = { s₁ with heap := h }) → CompRestT prog w A h₀ L m env ct elt x scope cl s₂ (fun nw => (d, oD) ∈ nw) (fun i v => ∃ k, kvs[i]? = some (k, v)) (Fin s₂) kvs.length 0 [] news
/-- a comprehension with a test over a dict's values -/
theorem ListComp_V {ct elt iter : Expr} {x : Str} {px : Pos} {scope : Scope} {cl : List (Str × Addr)} {pos : Pos} {Q : Value → Shared → Prop} (F₀ : Fr h₀ L s.heap m)
    (hclos : closureFor scope env = pure cl) (hcell : ∀ y ∈ scope.names, y.2 ≠ .cell) (hkind : scope.kind = .function)
    (hnames : ∀ y ∈ scope.names, y.2 = .local → scope.names.lookup y.1 = some .local) (hx : scope.names.lookup x = some .local)
    (h : wpAny (model prog w) A (eval iter env) (SrcV prog w A h₀ L m env ct elt x scope cl (fun s₂ => FinE h₀ L m s₂ Q)) E s)
    (hs : ∀ x, foldedSetIterable iter env x = pure x := by intro _; rfl) :
    wpAny (model prog w) A (eval (.ListComp elt [⟨.Name x px, iter, [ct], 0⟩] scope pos) env) Q E s := by
  rw [eval_ListComp]
  refine wpAny_comprehension_free (use := none) rfl hs hclos hkind hnames (wpAny_mono h (fun xv s₁ h₁ => ?_) fun _ _ e => e)
  obtain ⟨v, d, oD, kvs, news, rfl, hh, F, N, hv, hd, hD, hsz, R⟩ := h₁
  obtain ⟨ep, ha⟩ := KdkAt.of hD
  have hvN := N _ hv
  have hdN := N _ hd
  refine wpAny_pyIter_values (knd := intKind prog w) ⟨_, hvN.1, rfl, rfl⟩ (ha.dictAt hdN.1) ?_
  have hlt : d < s₁.heap.objs.size := Heap.lt_size hdN.1
  have up : ∀ b o, s₁.heap.get? b = some o → (s₁.heap.push { cls := .type "dict_valueiterator", data := .fields #[.ref d, .int 0 0, .int kvs.length 0, .int ep 0] }).get? b = some o := fun b o e => Heap.get?_push_of_some _ e
  refine block_T (S := fun nw => (d, oD) ∈ nw) (Walks.dictValues (knd := intKind prog w) hh s₁.heap.objs.size d (Nat.ne_of_lt hlt) kvs ep) hsz (fun i h st => by obtain ⟨o, e, _⟩ := st.1; exact ⟨o, e⟩) ?_ hcell hkind hx ⟨⟨_, Heap.get?_push_size _ rfl, rfl, rfl⟩, (ha.dictAt hdN.1).push _⟩ (fun b hb => ?_)
    (F.keeps up) (N.grown up) (Nat.ne_of_lt F.ns.lt) (next_is_new F) (fun p hp => Nat.ne_of_lt (Heap.lt_size (N p hp).1)) hd (R _ ⟨_, rfl⟩) ?_
  · intro i h h' o nw st e e' _ N' hS
    refine ⟨?_, ha.dictAt (N' _ hS).1⟩
    obtain ⟨o', q, r⟩ := st.1
    rw [e] at q; cases q
    exact ⟨o, e', r⟩
  · show b < (s₁.heap.push _).objs.size
    rw [Heap.size_push]
    rcases List.mem_cons.mp hb with rfl | hb
    · exact Nat.lt_succ_self _
    · rw [List.mem_singleton.mp hb]; exact Nat.lt_succ_of_lt hlt
  · intro D C h tk m' ys news' F' N' o1 hn hC₀ hD₀ hCL hDL hCD offC fin
    refine ⟨m', hn, fun h'' hs'' => fin D h'' tk (F'.change hs'' hCL hC₀) (fun p hp => ?_) o1⟩
    refine ⟨hs''.extBut _ _ ?_ (N' p hp).1, (N' p hp).2⟩
    rcases List.mem_cons.mp hp with rfl | hp
    · exact Ne.symm hCD
    · exact offC p hp
/-- the turns leave the ledger as it is -/
theorem SrcV.intro {ct elt : Expr} {x : Str} {scope : Scope} {cl : List (Str × Addr)} {Fin : Shared → List Value → Led → Prop} {v d : Addr} {oD : Obj} {kvs : List (Int × Value)} {news : Led} {s₁ : Shared}
    (hh : A.handled = none) (F : Fr h₀ L s₁.heap m) (N : News h₀ L s₁.heap news) (hv : (v, viewObj d) ∈ news) (hd : (d, oD) ∈ news) (hD : oD.IsDictOf (intKind prog w) kvs) (hsz : kvs.length ≤ sizeLine)
    (turn : ∀ (i : Nat) ys k val I oI C oC D m₂ h tk (E' : Value → Shared → Prop), kvs[i]? = some (k, val) → NsObj oC m₂ → m₂ x = some val → Fr h₀ L h m → News h₀ L h ((I, oI) :: (C, oC) :: (D, lst ys) :: news) → Off3 I C D news →
      wpAny (model prog w) A (isTrue ct (compEnvC scope cl C env) (eval ct (compEnvC scope cl C env))) (fun ok s' => if ok = true then
        wpAny (model prog w) A (eval elt (compEnvC scope cl C env)) (CompEnd h₀ L m { s₁ with heap := h, toks := tk } I oI C oC D (lst ys) (fun nw => (d, oD) ∈ nw) (fun _ news' => news' = news)) E' s'
        else CompEnd h₀ L m { s₁ with heap := h, toks := tk } I oI C oC D (lst ys) (fun nw => (d, oD) ∈ nw) (fun _ news' => news' = news) Value.none s') E' { s₁ with heap := h, toks := tk })
    (fin : ∀ ys h, Fin { s₁ with heap := h } ys news) : SrcV prog w A h₀ L m env ct elt x scope cl Fin (.ref v) s₁ := by
  refine ⟨v, d, oD, kvs, news, rfl, hh, F, N, hv, hd, hD, hsz, ?_⟩
  rintro s₂ ⟨g, rfl⟩
  refine compT_inv (fun _ _ nw => nw = news) kvs.length ?_ ?_ _ 0 [] _ (Nat.zero_add _) rfl
  · rintro i ys nw val I oI C oC D m₂ h tk E' hi rfl ⟨k, hk⟩ hC hx F N o ne
    exact turn i ys k val I oI C oC D m₂ h tk E' hk hC hx F N o
  · rintro ys nw rfl
    exact fin ys g
end
end Mine
end
-- part FT
section
namespace Mine
/-- as Does, from the outermost frame: a raise inside may mark it -/
def DoesT (w : World) (dp un : Nat) (f : Addr) (vs : List Value) (news : Led) (Ret : Value → Led → Prop) : Prop :=
  ∀ (gd : Option (List Code)) (cn : Str) (cs : Scope) (a : Addr) (ccd : Value) (cl : List (Str × Addr)) (A₀ : Around) (h₀ : Heap) (L : Addr) (m : Str → Option Value)
    (mean : ExcName → Option Value) (mg mb : Str → Option Value) (s : Shared) (Q E : Value → Shared → Prop),
    Below A₀ h₀ [] h₀ → Fr h₀ L s.heap m → (hd.heap_39 w.params).In h₀ → News h₀ L s.heap news → Top hd.view_39 (looseW hd.view_39 loose) mean mg mb h₀ → cs.kind = .function →
    (∀ v news' h' tk', Fr h₀ L h' m → News h₀ L h' news' → Ret v news' → Q v { s with heap := h', toks := tk' }) →
    wpAny (model PySem.Challenge.rw_xi0021_01.row.prog w) (ktrTop dp un gd cn cs L a ccd cl []) (call (.ref f) vs) Q E s
section
variable {prog : Program} {w : World} {A₀ A : Around} {s : Shared} {base h₀ : Heap} {L : Addr} {m : Str → Option Value} {news : List (Addr × Obj)} {K : Frag} {p : Program} {loose : List Str} {mean : ExcName → Option Value} {mg mb : Str → Option Value}
    {R : Result → Shared → Prop} {name qual : Str} {params : Arguments} {body : List Stmt} {scope : Scope} {dV kV doc pm cdv ct oc : Value} {an od : Option Addr} {osl : Array (Option Value)} {f : Addr} {args : Args} {binds : List (Str × Value)}
/-- a def that catches what its callees raise, entered from the outermost frame, whatever cells that has -/
theorem code_defT {env : Env} (B : Below A₀ base [] h₀) (F : Fr h₀ L s.heap m) (X₀ : K.In h₀) (N : News h₀ L s.heap news) (T : Top p loose mean mg mb h₀) (hA : A.frames = some [env]) (hf : env.frame = some L) (hke : env.scope.kind = .function)
    (ho : K.lookup f = some ⟨oc, od, .func (fnOf name qual params body scope dV kV doc pm an cdv ct), osl⟩) (hcd : codeIn K cdv qual = true) (hroom : A.depth < recursionLimit)
    (hbind : BindsTo s (fnOf name qual params body scope dV kV doc pm an cdv ct) args binds) (hloc : ∀ y ∈ binds, scope.names.lookup y.1 = some .local)
    (h : ∀ g L' h₁, Fr h₀ L g m → Fr g L' h₁ (fun y => binds.reverse.lookup y) → News g L' h₁ news → Below A base [env] g → K.In g → Top p loose mean mg mb g → KtsDicts ([env].filterMap (·.frame)) g →
      wpAny (model prog w) (A.deeper (envOf qual scope L' f cdv)) (execs body (envOf qual scope L' f cdv))
        (fun fl s' => LeaveS0 ([env].filterMap (·.frame)) h₀ L m g R (match fl with | .ret v => v | _ => .none) s')
        (fun e s' => wpAny (model prog w) (A.deeper (envOf qual scope L' f cdv)) (leaving (envOf qual scope L' f cdv) e) (fun _ s'' => R (.error e) s'') (fun e' s'' => R (.error e') s'') s')
        { s with heap := h₁, toks := s.toks + binds.length })
    (hco : scope.isCoroutine = false) (hgen : scope.isGenerator = false) (hk : scope.kind = .function)
    (hcell : ∀ x ∈ scope.names, x.2 ≠ .cell) : codeAny (model prog w) A (.call (.ref f) args) R s := by
  have X := X₀.keeps F.keep
  have off : ∀ b o, h₀.get? b = some o → b ∉ news.map (·.1) := fun b o e hb => by
    obtain ⟨q, hq, rfl⟩ := List.mem_map.mp hb
    exact absurd ((N q hq).2.2.symm.trans e) (by simp)
  have offL : L ∉ news.map (·.1) := fun hb => by
    obtain ⟨q, hq, e⟩ := List.mem_map.mp hb
    exact (N q hq).2.1 e
  have hL0 : h₀.get? L = none := kts_self F
  obtain ⟨oL, es, ep, g1, g2, g3, g4⟩ := F.ns
  have at_ : (hideAll s.heap (news.map (·.1))).get? L = some oL := hideAll_get _ g1 offL
  have keep : ∀ b o, h₀.get? b = some o → (hideAll s.heap (news.map (·.1))).get? b = some o := fun b o e => hideAll_get _ (F.keep b o e) (off b o e)
  have fs : [env].filterMap (·.frame) = [L] := by simp [hf]
  have below : Below A base [env] (hideAll s.heap (news.map (·.1))) := by
    refine ⟨hA, fun b o e => keep b o (B.stays b o e), by rw [hke]; simp, ⟨L, oL, hf, ?_, at_, by intro vs e; rw [g2] at e; cases e⟩, trivial⟩
    cases q : base.get? L with
    | none => rfl
    | some o => exact absurd ((B.stays L o q).symm.trans hL0) (by simp)
  refine codeAny_call_def (fd := fnOf name qual params body scope dV kV doc pm an cdv ct) (body := body) (binds := binds) hroom (X _ _ ho) rfl (T.nolimit.keeps F.keep) (codeRec_of X hcd) rfl hbind hcell hloc (fun h₁ hns hk₁ => ?_) hco hgen hk
  refine wpAny_mono (h _ s.heap.objs.size h₁ ⟨⟨oL, es, ep, at_, g2, g3, g4⟩, keep, F.above⟩ ⟨hns, fun b o e => hk₁ b o (of_hideAll _ e), Nat.le_of_eq (hideAll_size _ _)⟩
    (fun q hq => ⟨hk₁ _ _ (N q hq).1, Nat.ne_of_lt (Heap.lt_size (N q hq).1), hideAll_none _ (List.mem_map_of_mem hq)⟩) below (X₀.keeps keep) (T.keeps keep) (by rw [fs]; intro b hb; rw [List.mem_singleton.mp hb]; exact ⟨oL, es, ep, at_, g2⟩)) (fun fl s' hl => ?_) fun _ _ y => y
  obtain ⟨g', L', m', news', T', F', N', k⟩ := hl
  obtain ⟨sl, hs⟩ := T'.up at_
  have new : ∀ q ∈ news', ∀ b o, (hideAll s.heap (news.map (·.1))).get? b = some o → q.1 ≠ b := fun q hq b o e hb => by
    obtain ⟨sl', h'⟩ := T'.up e
    have hn := (N' q hq).2.2
    rw [hb, h'] at hn
    cases hn
  refine k ⟨⟨_, es, ep, F'.keep _ _ hs, g2, g3, g4⟩, fun b o e => F'.keep b o (T'.other b o (keep b o e) ?_), F.above⟩ fun q hq => ⟨(N' q hq).1, new q hq L oL at_, ?_⟩
  · rw [fs, List.mem_singleton]
    rintro rfl
    rw [hL0] at e; cases e
  · cases z : h₀.get? q.1 with
    | none => rfl
    | some o => exact absurd rfl (new q hq _ o (keep _ o z))
end
end Mine
namespace Mine
section
variable {K : Frag} {h₀ h : Heap} {x nm q : Str} {C N : Addr} {bs bmB : List Value} {hdct : Bool} {sub : List Value} {ab : Bool} {col : Option Bool} {newId : String} {mg : Str → Option Value}
theorem ownQ_in {sn : List Str} {dd : Option Addr} {k0 k1 k2 k3 k5 : Option Value} (X : K.In h) (hb : mg x = some (.ref C)) (ho : K.lookup C = some (excClassObj nm q C N bs bmB hdct sn sub ab col dd k0 k1 k2 k3 k5 newId)) (hq : excIn K C bmB newId = true)
    (h1 : nsIn K N "__init__" = some none) (h2 : nsIn K N "__getattribute__" = some none) (h3 : nsIn K N "__getattr__" = some none) (h4 : nsIn K N "args" = some none) : OwnClsQ x C bmB newId mg h := by
  have hok : nsOkIn K N = true := by
    unfold excIn at hq
    rw [ho] at hq
    simp only [excClassObj, Bool.and_eq_true] at hq
    exact hq.1.2
  refine ⟨hb, bmB, N, nm, q, bs, hdct, sn, sub, ab, col, dd, k0, k1, k2, k3, k5, _, X _ _ ho, .of_isNs (isNs_of_in X hok), ?_, .base⟩
  intro n hn
  simp only [quietNames, List.mem_cons, List.not_mem_nil, or_false] at hn
  rcases hn with rfl | rfl | rfl | rfl
  · exact nsMap_none_of_in X hok h1
  · exact nsMap_none_of_in X hok h2
  · exact nsMap_none_of_in X hok h3
  · exact nsMap_none_of_in X hok h4
end
end Mine
namespace Mine
section
variable {prog : Program} {w : World} {A : Around} {E : Value → Shared → Prop} {s : Shared} {h₀ : Heap} {L : Addr} {n₂ : Led}
theorem item_got {value slice : PySem.Expr} {e t : Addr} {cls a b : Value} {u : Tok} {Q : Value → Shared → Prop} (N : News h₀ L s.heap n₂) (G : Got n₂ e t cls [a, b]) (h : Q b s)
    (hs : subscripted slice false (.ref t) (.int 1 u) = operate [.ref t, .int 1 u] (getItem (.ref t) (.int 1 u)) := by with_unfolding_all rfl) (hg : ∀ r, letTemporaryGo value (.ref t) r = pure () := by intro _; with_unfolding_all rfl) :
    wpAny (model prog w) A (subscriptTail value slice (.ref t) (.int 1 u)) Q E s := by
  obtain ⟨oe, ot, ws, nt, _, ht, _, _, _, hc, hd⟩ := G
  exact item_tupleL (l := [a, b]) (j := 1) ⟨ot, (N _ ht).1, hc, _, hd⟩ (by decide) (by decide) rfl rfl h hs hg
end
end Mine
namespace Mine
/-- what _law_ring answers for a table -/
def RingOk (t : Int → Int) (ring : List Int) : Prop :=
  (ring = [] ∧ ∀ k : Nat, k < 16 → t k = k) ∨ ((∃ k : Nat, k < 16 ∧ t k ≠ k) ∧ 2 ≤ ring.length ∧ ring.length ≤ 901 ∧ (∃ a, ring[0]? = some a ∧ ring[ring.length - 1]? = some a) ∧ (∀ (k : Nat) a b, ring[k]? = some a → ring[k + 1]? = some b → b = t a) ∧ ∀ b ∈ ring, 0 ≤ b ∧ b < 16)
end Mine
end
-- part FC0
section
namespace Mine
/-- each item is followed by what p makes of it -/
def Linked (p : Int → Int) (l : List Int) : Prop := ∀ (k : Nat) a b, l[k]? = some a → l[k + 1]? = some b → b = p a
theorem Linked.one {p : Int → Int} (c : Int) : Linked p [c] := by
  intro k a b h1 h2
  cases k <;> simp at h2
theorem Linked.snoc {p : Int → Int} {st : List Int} {c : Int} (h : Linked p (st ++ [c])) : Linked p (st ++ [c] ++ [p c]) := by
  intro k a b h1 h2
  rcases Nat.lt_or_ge (k + 1) (st ++ [c]).length with hk | hk
  · rw [List.getElem?_append_left hk] at h2
    rw [List.getElem?_append_left (by omega)] at h1
    exact h k a b h1 h2
  · rw [List.getElem?_append_right hk] at h2
    rw [List.length_append, List.length_singleton] at h2 hk
    have hz : k + 1 - (st.length + 1) = 0 := by
      rcases Nat.eq_zero_or_pos (k + 1 - (st.length + 1)) with h | h
      · exact h
      · rw [List.getElem?_eq_none (by simp; omega)] at h2; cases h2
    rw [hz] at h2
    have hk2 : k = st.length := by omega
    rw [hk2, List.getElem?_append_left (by simp), List.getElem?_append_right (Nat.le_refl _), Nat.sub_self] at h1
    simp at h1 h2
    rw [← h2, h1]
theorem Linked.drop {p : Int → Int} {l : List Int} (h : Linked p l) (i : Nat) : Linked p (l.drop i) := by
  intro k a b h1 h2
  rw [List.getElem?_drop] at h1 h2
  exact h (i + k) a b h1 h2

/-- the dict of places -/
def Places (kvs : List (Int × Value)) (st : List Int) : Prop := ∃ ts : List Tok, ts.length = st.length ∧ kvs = (List.range st.length).map fun i => (st.getD i 0, .int i (ts.getD i 0))
theorem Places.nil : Places [] [] := ⟨[], rfl, rfl⟩
theorem Places.length {kvs : List (Int × Value)} {st : List Int} (h : Places kvs st) : kvs.length = st.length := by
  obtain ⟨ts, _, rfl⟩ := h
  simp
theorem Places.keys {kvs : List (Int × Value)} {st : List Int} (h : Places kvs st) : kvs.map (·.1) = st := by
  obtain ⟨ts, _, rfl⟩ := h
  apply List.ext_getElem
  · simp
  · intro i h1 h2
    simp [List.getD_eq_getElem?_getD, List.getElem?_eq_getElem h2]
theorem Places.miss {kvs : List (Int × Value)} {st : List Int} (h : Places kvs st) {c : Int} (hc : c ∉ st) : PySem.valueAt kvs c = none :=
  valueAt_none_of_not_mem (by rw [h.keys]; exact hc)
theorem Places.hit {kvs : List (Int × Value)} {st : List Int} (h : Places kvs st) (hn : st.Nodup) {c : Int} (hc : c ∈ st) : ∃ (i : Nat) (t : Tok), st[i]? = some c ∧ PySem.valueAt kvs c = some (.int i t) := by
  obtain ⟨i, hi, rfl⟩ := List.getElem_of_mem hc
  have hk := h.keys
  obtain ⟨ts, h1, rfl⟩ := h
  refine ⟨i, ts.getD i 0, List.getElem?_eq_getElem hi, ?_⟩
  refine PySem.valueAt_of_get (by rw [hk]; exact hn) (i := i) ?_
  rw [List.getElem?_map, List.getElem?_range hi]
  simp [List.getD_eq_getElem?_getD, List.getElem?_eq_getElem hi]
theorem Places.snoc {kvs : List (Int × Value)} {st : List Int} (h : Places kvs st) {c : Int} (hc : c ∉ st) (t : Tok) : Places (PySem.stored kvs c (.int st.length t)) (st ++ [c]) := by
  rw [stored_absent (h.miss hc)]
  obtain ⟨ts, h1, rfl⟩ := h
  refine ⟨ts ++ [t], by simp [h1], ?_⟩
  rw [List.length_append, List.length_singleton, List.range_succ, List.map_append]
  congr 1
  · apply List.map_congr_left
    intro i hi
    have hi' := List.mem_range.mp hi
    simp only [List.getD_eq_getElem?_getD]
    rw [List.getElem?_append_left hi', List.getElem?_append_left (by omega)]
  · simp only [List.map_cons, List.map_nil, List.getD_eq_getElem?_getD]
    rw [List.getElem?_append_right (Nat.le_refl _), List.getElem?_append_right (by omega)]
    simp [h1]

section
variable {prog : Program} {w : World} {A : Around} {E : Value → Shared → Prop} {s : Shared} {h₀ : Heap} {L D : Addr} {m : Str → Option Value} {led : List (Addr × Obj)} {oD : Obj}
/-- a loop over a dict's keys that leaves in its first turn -/
theorem for_first {env : Env} {x : Str} {px : Pos} {body : List Stmt} {R : Result → Shared → Prop} {k : Int} {v : Value} {kvs : List (Int × Value)}
    (hL : env.locals = L) (hx : env.kindOf x = some .local) (hp : (env.scope.kind == .class || (env.scope.kind == .module && env.locals != env.globals)) = false)
    (F : Fr h₀ L s.heap m) (N : News h₀ L s.heap led) (hm : (D, oD) ∈ led) (hd : oD.IsDictOf (intKind prog w) ((k, v) :: kvs)) (lo : (D == sysModules) = false)
    (turn : ∀ t h tk, Fr h₀ L h (fun z => if z = x then some (.int k t) else m z) → News h₀ L h led →
      wpAny (model prog w) A (execs body env) (fun f s₃ => match f with
        | .ret v => R (.ok (.ret v)) s₃
        | _ => False) (fun _ _ => False) { s with heap := h, toks := tk }) :
    wpAny (model prog w) A (pyIter (.ref D)) (fun it s₂ => codeAny (model prog w) A (.forLoop (.Name x px) it body [] env) R s₂) E s := by
  subst hL
  obtain ⟨ep, ha⟩ := KdkAt.of hd
  refine wpAny_pyIter_dict lo (ha.dictAt (N _ hm).1) ?_
  have hlow : ∀ p ∈ led, @LT.lt Nat _ p.1 s.heap.objs.size := fun p hp => Heap.lt_size (N p hp).1
  refine codeAny_forLoop (fun k' s' => k' = 0 ∧ s' = { s with heap := s.heap.push { cls := .type "dict_keyiterator", data := .fields #[.ref D, .int 0 0, .int (((k, v) :: kvs).length : Nat) 0, .int ep 0] } }) ?_ 0 ⟨rfl, rfl⟩
  rintro k' s' ⟨rfl, rfl⟩
  have F' := F.push { cls := .type "dict_keyiterator", data := .fields #[.ref D, .int 0 0, .int (((k, v) :: kvs).length : Nat) 0, .int ep 0] }
  have N' := News.push F N { cls := .type "dict_keyiterator", data := .fields #[.ref D, .int 0 0, .int (((k, v) :: kvs).length : Nat) 0, .int ep 0] }
  have hI' := N' _ (.head _)
  refine wpAny_pyNext_dict_item (knd := intKind prog w) (i := 0) (k := k) (v := v) (kvs := (k, v) :: kvs) ⟨_, hI'.1, rfl, rfl⟩ (ha.dictAt (N' _ (.tail _ hm)).1) rfl fun key h' hkey hit hs => ?_
  obtain ⟨t, rfl⟩ := Value.isInt_shape (k := k) (v := key) hkey
  have F1 := F'.change hs hI'.2.1 hI'.2.2
  have N1 : News h₀ env.locals h' led := fun p hp => ⟨hs.extBut _ _ (Nat.ne_of_lt (hlow p hp)) (N' p (.tail _ hp)).1, (N p hp).2⟩
  refine wpAny_assign_Name (wpAny_storeName_local hx F1.ns (fun h₂ hn₂ hs₂ => ?_) hp)
  refine wpAny_mono (turn t h₂ _ (F1.set hn₂ hs₂) (N1.set hs₂)) (fun f s₃ hf => ?_) fun _ _ e => e.elim
  cases f with
  | ret v => exact hf
  | next => exact hf.elim
  | cont => exact hf.elim
  | brk => exact hf.elim
/-- a while whose test is true, that stores one int's name -/
theorem while_one {env : Env} {x : Str} {test : PySem.Expr} {body : List Stmt} {R : Result → Shared → Prop} {c : Int} {t : Tok} {k : Nat} (Inv : Nat → Int → List (Addr × Obj) → Prop)
    (htest : ∀ (s : Shared) (Q : Bool → Shared → Prop) (E : Value → Shared → Prop), Q true s → wpAny (model prog w) A (isTrue test env (eval test env)) Q E s)
    (F : Fr h₀ L s.heap (fun z => if z = x then some (.int c t) else m z)) (N : News h₀ L s.heap led) (hI : Inv k c led)
    (turn : ∀ k c t led h tk, Inv k c led → Fr h₀ L h (fun z => if z = x then some (.int c t) else m z) → News h₀ L h led →
      wpAny (model prog w) A (execs body env) (fun f s₃ => match f with
        | .next | .cont => Ended (∃ k' c' t' led' h' tk', k' < k ∧ s₃ = { s with heap := h', toks := tk' } ∧ Fr h₀ L h' (fun z => if z = x then some (.int c' t') else m z) ∧ News h₀ L h' led' ∧ Inv k' c' led')
        | .brk => R (.ok .next) s₃
        | .ret v => R (.ok (.ret v)) s₃) (fun _ _ => False) { s with heap := h, toks := tk }) :
    codeAny (model prog w) A (.whileLoop test body [] env) R s := by
  refine codeAny_whileLoop (fun k' s' => ∃ c t led h tk, s' = { s with heap := h, toks := tk } ∧ Inv k' c led ∧ Fr h₀ L h (fun z => if z = x then some (.int c t) else m z) ∧ News h₀ L h led) ?_ k ⟨c, t, led, s.heap, s.toks, rfl, hI, F, N⟩
  rintro k' s' ⟨c, t, led, h, tk, rfl, hI, F, N⟩
  refine htest _ _ _ ?_
  show wpAny _ _ _ _ _ _
  refine wpAny_mono (turn k' c t led h tk hI F N) (fun f s₃ hf => ?_) fun _ _ e => e.elim
  cases f with
  | next => obtain ⟨k'', c', t', led', h', tk', h1, rfl, h2, h3, h4⟩ := hf; exact ⟨k'', h1, c', t', led', h', tk', rfl, h4, h2, h3⟩
  | cont => obtain ⟨k'', c', t', led', h', tk', h1, rfl, h2, h3, h4⟩ := hf; exact ⟨k'', h1, c', t', led', h', tk', rfl, h4, h2, h3⟩
  | brk => exact hf
  | ret v => exact hf
theorem nodup_len {st : List Int} : ∀ {l : List Int}, st.Nodup → (∀ b ∈ st, b ∈ l) → st.length ≤ l.length := by
  induction st with
  | nil => intro l _ _; exact Nat.zero_le _
  | cons a r ih =>
    intro l hn hs
    obtain ⟨h1, h2⟩ := List.nodup_cons.mp hn
    have ha := hs a (.head _)
    have := ih (l := l.erase a) h2 fun b hb => by
      have hne : b ≠ a := fun e => h1 (e ▸ hb)
      exact (List.mem_erase_of_ne hne).mpr (hs b (.tail _ hb))
    rw [List.length_erase_of_mem ha] at this
    have := List.length_pos_of_mem ha
    simp only [List.length_cons]; omega
theorem set_in {sa : Addr} {so : Obj} {g : Obj → List (Addr × Obj)} {S : Int → Bool} {n : Nat} {k : Int} {t : Tok} (b : Bool) {Q : Value → Shared → Prop} (N : News h₀ L s.heap led) (U : UpdF sa so led g) (hso : so.SetObjOf (intKind prog w) S n) (hb : n < scanBound) (hS : S k = b) (h : Q (.bool b) { s with toks := s.toks + 1 }) :
    wpAny (model prog w) A (compareOp .In (.int k t) (.ref sa)) Q E s := by
  subst hS
  exact kse_in (knd := intKind prog w) N U hso hb (intKind_is _ _ _ _) rfl h
theorem iter_list' {l : Addr} {its : Array Value} {n : Nat} {Q : Value → Shared → Prop} (F : Fr h₀ L s.heap m) (N : News h₀ L s.heap led) (hl : (l, listOf its n) ∈ led)
    (h : ∀ I h', Fr h₀ L h' m → News h₀ L h' ((I, { cls := .type "list_iterator", data := .fields #[.ref l, .int 0 0] }) :: led) → (∀ p ∈ led, p.1 < I) → Q (.ref I) { s with heap := h' }) :
    wpAny (model prog w) A (call (.builtin "iter") [.ref l]) Q E s := by
  refine call_function_entry (by decide +kernel) (by decide +kernel) kdk_entry_iter (kdk_args_iter _) ?_
  unfold Builtin.«iter»
  refine wpAny_bind (m := someArgs "iter" 1 2 _) (wpAny_of_eq (a := [Value.ref l]) (by first | rfl | kernel_rfl!) ?_)
  show wpAny _ _ (pyIter (.ref l) >>= _) _ _ _
  refine wpAny_bind (wpAny_pyIter_list ⟨_, (N _ hl).1, rfl, _, rfl⟩ ?_)
  exact wpAny_pure ⟨_, rfl, h _ _ (F.push _) (News.push F N _ rfl) (fun q hq => Heap.lt_size (N q hq).1)⟩
theorem next_attr {a l : Addr} {i : Int} {Q : Value → Shared → Prop} (F : Fr h₀ L s.heap m) (N : News h₀ L s.heap led)
    (hx : (a, ({ cls := .type "list_iterator", data := .fields #[.ref l, .int i 0] } : Obj)) ∈ led)
    (h : ∀ W h' tk, Fr h₀ L h' m → News h₀ L h' ((W, { cls := .type "method-wrapper", data := .fields #[.builtin "list_iterator.__next__", .ref a] }) :: led) → (∀ p ∈ led, p.1 < W) → Q (.ref W) { s with heap := h', toks := tk }) :
    wpAny (model prog w) A (getAttr (.ref a) "__next__" true) Q E s :=
  getAttr_next (N _ hx).1 fun tk => h _ _ _ (F.push _) (News.push F N _ rfl) (fun q hq => Heap.lt_size (N q hq).1)
theorem next_call {b a l : Addr} {n : Nat} {its : Array Value} {v : Value} {Q : Value → Shared → Prop} (F : Fr h₀ L s.heap m) (N : News h₀ L s.heap led)
    (hb : (b, ({ cls := .type "method-wrapper", data := .fields #[.builtin "list_iterator.__next__", .ref a] } : Obj)) ∈ led)
    (hx : (a, ({ cls := .type "list_iterator", data := .fields #[.ref l, .int 0 0] } : Obj)) ∈ led) (hl : (l, listOf its n) ∈ led) (hv : its[0]? = some v)
    (h : ∀ h' rest, (∀ p ∈ led, p.1 ≠ a → p ∈ rest) → Fr h₀ L h' m → News h₀ L h' rest → Q v { s with heap := h' }) :
    wpAny (model prog w) A (call (.ref b) []) Q E s := by
  have hX := N _ hx
  refine call_mw (i := 0) (N _ hb).1 ⟨_, hX.1, rfl, rfl⟩ ⟨_, (N _ hl).1, rfl, _, rfl⟩ hv fun h' hit hs => ?_
  refine h h' (led.filter fun p => decide (p.1 ≠ a)) (fun p hp hne => List.mem_filter.mpr ⟨hp, decide_eq_true hne⟩) (F.change hs hX.2.1 hX.2.2) fun p hp => ?_
  obtain ⟨h1, h2⟩ := List.mem_filter.mp hp
  exact ⟨hs.extBut _ _ (of_decide_eq_true h2) (N p h1).1, (N p h1).2⟩
theorem item_last {value slice : PySem.Expr} {l : Addr} {its : Array Value} {n : Nat} {u : Tok} {v : Value} {Q : Value → Shared → Prop} (N : News h₀ L s.heap led) (hl : (l, listOf (its.push v) n) ∈ led) (h : Q v s)
    (hs : subscripted slice false (.ref l) (.int (-1) u) = operate [.ref l, .int (-1) u] (getItem (.ref l) (.int (-1) u)) := by with_unfolding_all rfl) (hg : ∀ r, letTemporaryGo value (.ref l) r = pure () := by intro _; with_unfolding_all rfl) :
    wpAny (model prog w) A (subscriptTail value slice (.ref l) (.int (-1) u)) Q E s := by
  have hL : s.heap.IsList l (its.push v) := ⟨_, (N _ hl).1, rfl, _, rfl⟩
  have hx : (its.push v)[(-1 + ((its.push v).size : Int)).toNat]? = some v := by
    have e : (-1 + ((its.push v).size : Int)).toNat = its.size := by rw [Array.size_push]; omega
    rw [e]; simp
  exact subscriptTail_builtin hL.typeIs slot_list_getitem.lookup (wpAny_getItem_list_neg hL (by decide) (by simp; omega) (by decide) hx h) hs hg
theorem callWith_next {pos pos' : Pos} {env : Env} {b a l : Addr} {n : Nat} {its : Array Value} {v : Value} {Q : Value → Shared → Prop} (F : Fr h₀ L s.heap m) (N : News h₀ L s.heap led)
    (hb : (b, ({ cls := .type "method-wrapper", data := .fields #[.builtin "list_iterator.__next__", .ref a] } : Obj)) ∈ led)
    (hx : (a, ({ cls := .type "list_iterator", data := .fields #[.ref l, .int 0 0] } : Obj)) ∈ led) (hl : (l, listOf its n) ∈ led) (hv : its[0]? = some v)
    (h : ∀ h' rest, (∀ p ∈ led, p.1 ≠ a → p ∈ rest) → Fr h₀ L h' m → News h₀ L h' rest → Q v { s with heap := h' }) :
    wpAny (model prog w) A (callWith pos (.ref b) [] (backTo pos' (starEach [] env)) []) Q E s := by
  show wpAny (model prog w) A (callWith pos (.ref b) [] [] []) Q E s
  unfold callWith
  refine wpAny_bind (wpAny_holding (PySem.evalArgs_none (wpAny_bind (wpAny_standAt ?_))))
  refine wpAny_bind (m := keeperOf (.ref b)) ?_
  unfold keeperOf
  refine wpAny_bind (wpAny_load (N _ hb).1 ?_)
  simp only [show (Value.type "method-wrapper" != Value.type "method") = true by decide, show (Value.type "method-wrapper" == Value.type "builtin_function_or_method" || Value.type "method-wrapper" == Value.type "method-wrapper") = true by decide, if_true]
  refine wpAny_pure ?_
  exact wpAny_bind (next_call F N hb hx hl hv fun h' rest hs F' N' => wpAny_bind (wpAny_holding (wpAny_point (wpAny_pure (h h' rest hs F' N')))))
theorem fr_over {h : Heap} {x : Str} {v u : Value} (F : Fr h₀ L h (fun y => if y = x then some v else if y = x then some u else m y)) : Fr h₀ L h (fun y => if y = x then some v else m y) := by
  have : (fun y => if y = x then some v else if y = x then some u else m y) = fun y => if y = x then some v else m y := by
    funext y; by_cases h : y = x <;> simp [h]
  rwa [this] at F
/-- a ring of keys, as a list of the ledger -/
def IsRing (p : Int → Int) (nodes : List Nd) (ring : List Int) : Prop := 2 ≤ ring.length ∧ (∃ a, ring[0]? = some a ∧ ring[ring.length - 1]? = some a) ∧ Linked p ring ∧ ∀ b ∈ ring, ∃ e ∈ nodes, e.key = b
theorem ring_of {p : Int → Int} {nodes : List Nd} {st : List Int} {c : Int} {i : Nat} (hi : st[i]? = some c) (hL : Linked p (st ++ [c])) (h1 : ∀ b ∈ st, ∃ e ∈ nodes, e.key = b) : IsRing p nodes (List.drop i st ++ [c]) := by
  have hlt : i < st.length := (List.getElem?_eq_some_iff.mp hi).1
  refine ⟨by simp; omega, ⟨c, ?_, ?_⟩, ?_, ?_⟩
  · rw [List.getElem?_append_left (by simp; omega), List.getElem?_drop]; exact hi
  · rw [List.getElem?_append_right (by simp)]; simp
  · have := hL.drop i
    rwa [List.drop_append_of_le_length (by omega)] at this
  · intro b hb
    rcases List.mem_append.mp hb with hb | hb
    · exact h1 b (List.mem_of_mem_drop hb)
    · rw [List.mem_singleton.mp hb]; exact h1 c (List.mem_of_getElem? hi)
theorem drop6 {h : Heap} {a b c d e f g : Addr × Obj} (N : News h₀ L h (a :: b :: c :: d :: e :: f :: g :: led)) : News h₀ L h (a :: led) := cb_drop N fun q hq => by
  rcases List.mem_cons.mp hq with rfl | hq
  · exact .head _
  · exact .tail _ (.tail _ (.tail _ (.tail _ (.tail _ (.tail _ (.tail _ hq))))))
theorem drop_next {h : Heap} {rest' : List (Addr × Obj)} {W I a b c d : Addr × Obj} (N : News h₀ L h rest') (hR : ∀ q ∈ W :: I :: a :: b :: c :: d :: led, q.1 ≠ I.1 → q ∈ rest') (la : a.1 < I.1) (lb : b.1 < I.1) (lc : c.1 < I.1) (ld : d.1 < I.1) (ll : ∀ q ∈ led, q.1 < I.1) :
    News h₀ L h (a :: b :: c :: d :: led) := cb_drop N fun q hq => by
  refine hR q (.tail _ (.tail _ hq)) (Nat.ne_of_lt ?_)
  rcases List.mem_cons.mp hq with rfl | hq
  · exact la
  rcases List.mem_cons.mp hq with rfl | hq
  · exact lb
  rcases List.mem_cons.mp hq with rfl | hq
  · exact lc
  rcases List.mem_cons.mp hq with rfl | hq
  · exact ld
  · exact ll q hq
/-- a loop over a dict that is empty -/
theorem for_none {env : Env} {x : Str} {px : Pos} {body : List Stmt} {R : Result → Shared → Prop} (hh : A.handled = none)
    (F : Fr h₀ L s.heap m) (N : News h₀ L s.heap led) (hm : (D, oD) ∈ led) (hd : oD.IsDictOf (intKind prog w) []) (lo : (D == sysModules) = false)
    (done : ∀ h tk, Fr h₀ L h m → News h₀ L h led → R (.ok .next) { s with heap := h, toks := tk }) :
    wpAny (model prog w) A (pyIter (.ref D)) (fun it s₂ => codeAny (model prog w) A (.forLoop (.Name x px) it body [] env) R s₂) E s := by
  obtain ⟨ep, ha⟩ := KdkAt.of hd
  refine wpAny_pyIter_dict lo (ha.dictAt (N _ hm).1) ?_
  have hlow : ∀ p ∈ led, @LT.lt Nat _ p.1 s.heap.objs.size := fun p hp => Heap.lt_size (N p hp).1
  refine codeAny_forLoop (fun k' s' => k' = 0 ∧ s' = { s with heap := s.heap.push { cls := .type "dict_keyiterator", data := .fields #[.ref D, .int 0 0, .int (([] : List (Int × Value)).length : Nat) 0, .int ep 0] } }) ?_ 0 ⟨rfl, rfl⟩
  rintro k' s' ⟨rfl, rfl⟩
  have F' := F.push { cls := .type "dict_keyiterator", data := .fields #[.ref D, .int 0 0, .int (([] : List (Int × Value)).length : Nat) 0, .int ep 0] }
  have N' := News.push F N { cls := .type "dict_keyiterator", data := .fields #[.ref D, .int 0 0, .int (([] : List (Int × Value)).length : Nat) 0, .int ep 0] }
  have hI' := N' _ (.head _)
  refine wpAny_pyNext_dict_end (knd := intKind prog w) hh (i := 0) (kvs := []) ⟨_, hI'.1, rfl, rfl⟩ (ha.dictAt (N' _ (.tail _ hm)).1) rfl fun h' he => wpAny_execs_nil ?_
  refine done h' _ ⟨F'.ns.extBut he hI'.2.1.symm, fun b x e => he b x (fun q => ?_) (F'.keep b x e), F'.above⟩ fun p hp => ⟨he _ _ (Nat.ne_of_lt (hlow p hp)) (N' p (.tail _ hp)).1, (N p hp).2⟩
  rw [q, hI'.2.2] at e; cases e
theorem ring_len {st : List Int} {c : Int} {i : Nat} (h : st.length ≤ 900) : (List.drop i st ++ [c]).length ≤ 901 := by
  rw [List.length_append, List.length_drop, List.length_singleton]; omega
end
end Mine
end
-- part C1
section
namespace Mine
theorem mem3 {k a b c : Int} (h : k ∈ [a, b, c]) (ha : 0 ≤ a) (hb : 0 ≤ b) (hc : 0 ≤ c) : 0 ≤ k := by
  simp only [List.mem_cons, List.not_mem_nil, or_false] at h
  omega
/-- a call by a contract that hands back an int and leaves the ledger -/
theorem does_int {w : World} {dp un dp' un' : Nat} {f : Addr} {vs : List Value} {news : List (Addr × Obj)} {r : Int} (D : Does w dp un f vs news (fun v news' => (∃ t, v = .int r t) ∧ news' = news))
    {gd : Option (List Code)} {cn : Str} {cs : Scope} {a : Addr} {ccd : Value} {cl : List (Str × Addr)} {outer : List Env} {A₀ : Around} {base h₀ : Heap} {L : Addr} {m : Str → Option Value}
    {mean : ExcName → Option Value} {mg mb : Str → Option Value} {s : Shared} {Q E : Value → Shared → Prop}
    (B : Below A₀ base outer h₀) (F : Fr h₀ L s.heap m) (X : (hd.heap_39 w.params).In h₀) (N : News h₀ L s.heap news) (T : Top hd.view_39 (looseW hd.view_39 loose) mean mg mb h₀) (hk : cs.kind = .function)
    (h1 : dp' ≤ dp) (h2 : un' ≤ un)
    (ret : ∀ t h' tk', Fr h₀ L h' m → News h₀ L h' news → Q (.int r t) { s with heap := h', toks := tk' }) :
    wpAny (model PySem.Challenge.rw_xi0021_01.row.prog w) (ktrTop dp' un' gd cn cs L a ccd cl outer) (call (.ref f) vs) Q E s :=
  does_use D B F X N T hk h1 h2 fun v news' h' tk' F' N' hR => by
    obtain ⟨⟨t, e1⟩, e2⟩ := hR
    rw [e2] at N'
    rw [e1]
    exact ret t h' tk' F' N'
theorem and_does (w : World) (news : Led) (x y : Int) (tx ty : Tok) : Does w 700 5900 28 [.int x tx, .int y ty] news (fun v news' => (∃ t, v = .int (Builtin.bitAnd x y) t) ∧ news' = news) := by
  w_top off
  k_with_none
  k_with "own enter" => (first | (refine' code_def ?k1w1c0 ?k2w1c0 ?k3w1c0 ?k4w1c0 ?k5w1c0 ?kAw1c0 ?kFw1c0 ?kKw1c0 ?k6w1c0 ?k7w1c0 ?k8w1c0 ?k9w1c0 ?kBw1c0 ?_ ?c2w1c0 ?c3w1c0 ?c4w1c0 ?c5w1c0; (case kAw1c0 => exact rfl); (case kFw1c0 => exact rfl); (case kKw1c0 => assumption); (case k1w1c0 => k_asm); (case k2w1c0 => k_asm); (case k3w1c0 => k_asm); (case k4w1c0 => k_asm); (case k5w1c0 => k_asm); (case k6w1c0 => k_is); (case k7w1c0 => k_is); (case k8w1c0 => ktr_room); (case k9w1c0 => first | exact BindsTo.of_eq rfl | exact binds_K (by k_in) rfl (by k_is) rfl rfl rfl); (case c5w1c0 => decide); (case kBw1c0 => exact locs rfl); (case c2w1c0 => exact rfl); (case c3w1c0 => exact rfl); (case c4w1c0 => exact rfl); k_whole; intro gqzw1c0 Lqzw1c0 hqzw1c0 FGqzw1c0 Fqzw1c0 Nqzw1c0 Bqzw1c0 Xqzw1c0 Tqzw1c0; (try dsimp only); (try k_lift Bqzw1c0); (try k_fold)) | (refine' code_defC ?k1w1c0 ?k2w1c0 ?k3w1c0 ?k4w1c0 ?k5w1c0 ?kAw1c0 ?kFw1c0 ?kKw1c0 ?k6w1c0 ?k7w1c0 ?k8w1c0 ?k9w1c0 ?kBw1c0 ?kDw1c0 ?_ ?c2w1c0 ?c3w1c0 ?c4w1c0; (case kAw1c0 => exact rfl); (case kFw1c0 => exact rfl); (case kKw1c0 => assumption); (case k1w1c0 => k_asm); (case k2w1c0 => k_asm); (case k3w1c0 => k_asm); (case k4w1c0 => k_asm); (case k5w1c0 => k_asm); (case k6w1c0 => k_is); (case k7w1c0 => k_is); (case k8w1c0 => ktr_room); (case k9w1c0 => first | exact BindsTo.of_eq rfl | exact binds_K (by k_in) rfl (by k_is) rfl rfl rfl); (case kBw1c0 => exact rfl); (case kDw1c0 => decide +kernel); (case c2w1c0 => exact rfl); (case c3w1c0 => exact rfl); (case c4w1c0 => exact rfl); k_whole; intro gqzw1c0 Lqzw1c0 hqzw1c0 tkqzw1c0 cellsqzw1c0 FGqzw1c0 Fqzw1c0 Nqzw1c0 Yqzw1c0 Bqzw1c0 Xqzw1c0 Tqzw1c0 l1qzw1c0; (try k_lt l1qzw1c0); k_cells Yqzw1c0; (try simp only [List.cons_append, List.nil_append] at Nqzw1c0); (try dsimp only); (try k_lift Bqzw1c0); (try k_fold)) | (refine' kp_rest ?k1w1c0 ?k2w1c0 ?k3w1c0 ?k4w1c0 ?k5w1c0 ?kAw1c0 ?kFw1c0 ?kKw1c0 ?k6w1c0 ?k7w1c0 ?k8w1c0 ?kVw1c0 ?kPw1c0 ?kGw1c0 ?kBw1c0 ?_ ?c2w1c0 ?c3w1c0 ?c4w1c0 ?c5w1c0; (case kAw1c0 => exact rfl); (case kFw1c0 => exact rfl); (case kKw1c0 => assumption); (case k1w1c0 => k_asm); (case k2w1c0 => k_asm); (case k3w1c0 => k_asm); (case k4w1c0 => k_asm); (case k5w1c0 => k_asm); (case k6w1c0 => k_is); (case k7w1c0 => k_is); (case k8w1c0 => ktr_room); (case kVw1c0 => kl_lit); (case kPw1c0 => exact rfl); (case kGw1c0 => exact fun _ => rfl); (case kBw1c0 => exact fun _ => locs rfl); (case c5w1c0 => decide); (case c2w1c0 => exact rfl); (case c3w1c0 => exact rfl); (case c4w1c0 => exact rfl); k_whole; intro Dqzw1c0 gqzw1c0 Lqzw1c0 hqzw1c0 l1qzw1c0 FGqzw1c0 Fqzw1c0 Nqzw1c0 Bqzw1c0 Xqzw1c0 Tqzw1c0; (try k_lt l1qzw1c0); (try dsimp only); (try k_lift Bqzw1c0); (try k_fold)))
  k_with "own all" => (first | assumption | exact Mine.allNe' (by assumption) (by omega) | exact Mine.allNe' (And.right (by assumption)) (by omega) | exact Mine.allNe' (And.right (And.right (by assumption))) (by omega) | exact Mine.allNe' (And.right (And.right (And.right (by assumption)))) (by omega) | exact Mine.allNe' (And.right (And.right (And.right (And.right (by assumption))))) (by omega) | exact Mine.allNe' (And.right (And.right (And.right (And.right (And.right (by assumption)))))) (by omega) | exact Mine.allNe2 (by assumption) (by omega) | fail "k_all: no bound of the rest")
  unfold Does
  k_fill
  intro gd cn cs a ccd cl outer A₀ base h₀ L m mean mg mb s Q E B F X N T hk hret
  refine wpAny_call ?_
  k_dflt (k_extra "own enter")
  k_steps
  all_goals (refine' ret_int hret ?F ?N ?s ?e; (case F => k_asm); (case N => k_asm); (case s => exact fun _ h => h); (case e => rfl))
theorem xor_does (w : World) (news : Led) (x y : Int) (tx ty : Tok) : Does w 700 5900 42 [.int x tx, .int y ty] news (fun v news' => (∃ t, v = .int (Builtin.bitXor x y) t) ∧ news' = news) := by
  w_top off
  k_with_none
  k_with "own enter" => (first | (refine' code_def ?k1w3c0 ?k2w3c0 ?k3w3c0 ?k4w3c0 ?k5w3c0 ?kAw3c0 ?kFw3c0 ?kKw3c0 ?k6w3c0 ?k7w3c0 ?k8w3c0 ?k9w3c0 ?kBw3c0 ?_ ?c2w3c0 ?c3w3c0 ?c4w3c0 ?c5w3c0; (case kAw3c0 => exact rfl); (case kFw3c0 => exact rfl); (case kKw3c0 => assumption); (case k1w3c0 => k_asm); (case k2w3c0 => k_asm); (case k3w3c0 => k_asm); (case k4w3c0 => k_asm); (case k5w3c0 => k_asm); (case k6w3c0 => k_is); (case k7w3c0 => k_is); (case k8w3c0 => ktr_room); (case k9w3c0 => first | exact BindsTo.of_eq rfl | exact binds_K (by k_in) rfl (by k_is) rfl rfl rfl); (case c5w3c0 => decide); (case kBw3c0 => exact locs rfl); (case c2w3c0 => exact rfl); (case c3w3c0 => exact rfl); (case c4w3c0 => exact rfl); k_whole; intro gqzw3c0 Lqzw3c0 hqzw3c0 FGqzw3c0 Fqzw3c0 Nqzw3c0 Bqzw3c0 Xqzw3c0 Tqzw3c0; (try dsimp only); (try k_lift Bqzw3c0); (try k_fold)) | (refine' code_defC ?k1w3c0 ?k2w3c0 ?k3w3c0 ?k4w3c0 ?k5w3c0 ?kAw3c0 ?kFw3c0 ?kKw3c0 ?k6w3c0 ?k7w3c0 ?k8w3c0 ?k9w3c0 ?kBw3c0 ?kDw3c0 ?_ ?c2w3c0 ?c3w3c0 ?c4w3c0; (case kAw3c0 => exact rfl); (case kFw3c0 => exact rfl); (case kKw3c0 => assumption); (case k1w3c0 => k_asm); (case k2w3c0 => k_asm); (case k3w3c0 => k_asm); (case k4w3c0 => k_asm); (case k5w3c0 => k_asm); (case k6w3c0 => k_is); (case k7w3c0 => k_is); (case k8w3c0 => ktr_room); (case k9w3c0 => first | exact BindsTo.of_eq rfl | exact binds_K (by k_in) rfl (by k_is) rfl rfl rfl); (case kBw3c0 => exact rfl); (case kDw3c0 => decide +kernel); (case c2w3c0 => exact rfl); (case c3w3c0 => exact rfl); (case c4w3c0 => exact rfl); k_whole; intro gqzw3c0 Lqzw3c0 hqzw3c0 tkqzw3c0 cellsqzw3c0 FGqzw3c0 Fqzw3c0 Nqzw3c0 Yqzw3c0 Bqzw3c0 Xqzw3c0 Tqzw3c0 l1qzw3c0; (try k_lt l1qzw3c0); k_cells Yqzw3c0; (try simp only [List.cons_append, List.nil_append] at Nqzw3c0); (try dsimp only); (try k_lift Bqzw3c0); (try k_fold)) | (refine' kp_rest ?k1w3c0 ?k2w3c0 ?k3w3c0 ?k4w3c0 ?k5w3c0 ?kAw3c0 ?kFw3c0 ?kKw3c0 ?k6w3c0 ?k7w3c0 ?k8w3c0 ?kVw3c0 ?kPw3c0 ?kGw3c0 ?kBw3c0 ?_ ?c2w3c0 ?c3w3c0 ?c4w3c0 ?c5w3c0; (case kAw3c0 => exact rfl); (case kFw3c0 => exact rfl); (case kKw3c0 => assumption); (case k1w3c0 => k_asm); (case k2w3c0 => k_asm); (case k3w3c0 => k_asm); (case k4w3c0 => k_asm); (case k5w3c0 => k_asm); (case k6w3c0 => k_is); (case k7w3c0 => k_is); (case k8w3c0 => ktr_room); (case kVw3c0 => kl_lit); (case kPw3c0 => exact rfl); (case kGw3c0 => exact fun _ => rfl); (case kBw3c0 => exact fun _ => locs rfl); (case c5w3c0 => decide); (case c2w3c0 => exact rfl); (case c3w3c0 => exact rfl); (case c4w3c0 => exact rfl); k_whole; intro Dqzw3c0 gqzw3c0 Lqzw3c0 hqzw3c0 l1qzw3c0 FGqzw3c0 Fqzw3c0 Nqzw3c0 Bqzw3c0 Xqzw3c0 Tqzw3c0; (try k_lt l1qzw3c0); (try dsimp only); (try k_lift Bqzw3c0); (try k_fold)))
  k_with "own all" => (first | assumption | exact Mine.allNe' (by assumption) (by omega) | exact Mine.allNe' (And.right (by assumption)) (by omega) | exact Mine.allNe' (And.right (And.right (by assumption))) (by omega) | exact Mine.allNe' (And.right (And.right (And.right (by assumption)))) (by omega) | exact Mine.allNe' (And.right (And.right (And.right (And.right (by assumption))))) (by omega) | exact Mine.allNe' (And.right (And.right (And.right (And.right (And.right (by assumption)))))) (by omega) | exact Mine.allNe2 (by assumption) (by omega) | fail "k_all: no bound of the rest")
  unfold Does
  k_fill
  intro gd cn cs a ccd cl outer A₀ base h₀ L m mean mg mb s Q E B F X N T hk hret
  refine wpAny_call ?_
  k_dflt (k_extra "own enter")
  k_steps
  all_goals (refine' ret_int hret ?F ?N ?s ?e; (case F => k_asm); (case N => k_asm); (case s => exact fun _ h => h); (case e => rfl))
theorem rshift_does (w : World) (news : Led) (x y : Int) (tx ty : Tok) (hy : 0 ≤ y) : Does w 700 5900 35 [.int x tx, .int y ty] news (fun v news' => (∃ t, v = .int (x.fdiv (2 ^ y.toNat)) t) ∧ news' = news) := by
  w_top off
  k_with_none
  k_with "own enter" => (first | (refine' code_def ?k1w5c0 ?k2w5c0 ?k3w5c0 ?k4w5c0 ?k5w5c0 ?kAw5c0 ?kFw5c0 ?kKw5c0 ?k6w5c0 ?k7w5c0 ?k8w5c0 ?k9w5c0 ?kBw5c0 ?_ ?c2w5c0 ?c3w5c0 ?c4w5c0 ?c5w5c0; (case kAw5c0 => exact rfl); (case kFw5c0 => exact rfl); (case kKw5c0 => assumption); (case k1w5c0 => k_asm); (case k2w5c0 => k_asm); (case k3w5c0 => k_asm); (case k4w5c0 => k_asm); (case k5w5c0 => k_asm); (case k6w5c0 => k_is); (case k7w5c0 => k_is); (case k8w5c0 => ktr_room); (case k9w5c0 => first | exact BindsTo.of_eq rfl | exact binds_K (by k_in) rfl (by k_is) rfl rfl rfl); (case c5w5c0 => decide); (case kBw5c0 => exact locs rfl); (case c2w5c0 => exact rfl); (case c3w5c0 => exact rfl); (case c4w5c0 => exact rfl); k_whole; intro gqzw5c0 Lqzw5c0 hqzw5c0 FGqzw5c0 Fqzw5c0 Nqzw5c0 Bqzw5c0 Xqzw5c0 Tqzw5c0; (try dsimp only); (try k_lift Bqzw5c0); (try k_fold)) | (refine' code_defC ?k1w5c0 ?k2w5c0 ?k3w5c0 ?k4w5c0 ?k5w5c0 ?kAw5c0 ?kFw5c0 ?kKw5c0 ?k6w5c0 ?k7w5c0 ?k8w5c0 ?k9w5c0 ?kBw5c0 ?kDw5c0 ?_ ?c2w5c0 ?c3w5c0 ?c4w5c0; (case kAw5c0 => exact rfl); (case kFw5c0 => exact rfl); (case kKw5c0 => assumption); (case k1w5c0 => k_asm); (case k2w5c0 => k_asm); (case k3w5c0 => k_asm); (case k4w5c0 => k_asm); (case k5w5c0 => k_asm); (case k6w5c0 => k_is); (case k7w5c0 => k_is); (case k8w5c0 => ktr_room); (case k9w5c0 => first | exact BindsTo.of_eq rfl | exact binds_K (by k_in) rfl (by k_is) rfl rfl rfl); (case kBw5c0 => exact rfl); (case kDw5c0 => decide +kernel); (case c2w5c0 => exact rfl); (case c3w5c0 => exact rfl); (case c4w5c0 => exact rfl); k_whole; intro gqzw5c0 Lqzw5c0 hqzw5c0 tkqzw5c0 cellsqzw5c0 FGqzw5c0 Fqzw5c0 Nqzw5c0 Yqzw5c0 Bqzw5c0 Xqzw5c0 Tqzw5c0 l1qzw5c0; (try k_lt l1qzw5c0); k_cells Yqzw5c0; (try simp only [List.cons_append, List.nil_append] at Nqzw5c0); (try dsimp only); (try k_lift Bqzw5c0); (try k_fold)) | (refine' kp_rest ?k1w5c0 ?k2w5c0 ?k3w5c0 ?k4w5c0 ?k5w5c0 ?kAw5c0 ?kFw5c0 ?kKw5c0 ?k6w5c0 ?k7w5c0 ?k8w5c0 ?kVw5c0 ?kPw5c0 ?kGw5c0 ?kBw5c0 ?_ ?c2w5c0 ?c3w5c0 ?c4w5c0 ?c5w5c0; (case kAw5c0 => exact rfl); (case kFw5c0 => exact rfl); (case kKw5c0 => assumption); (case k1w5c0 => k_asm); (case k2w5c0 => k_asm); (case k3w5c0 => k_asm); (case k4w5c0 => k_asm); (case k5w5c0 => k_asm); (case k6w5c0 => k_is); (case k7w5c0 => k_is); (case k8w5c0 => ktr_room); (case kVw5c0 => kl_lit); (case kPw5c0 => exact rfl); (case kGw5c0 => exact fun _ => rfl); (case kBw5c0 => exact fun _ => locs rfl); (case c5w5c0 => decide); (case c2w5c0 => exact rfl); (case c3w5c0 => exact rfl); (case c4w5c0 => exact rfl); k_whole; intro Dqzw5c0 gqzw5c0 Lqzw5c0 hqzw5c0 l1qzw5c0 FGqzw5c0 Fqzw5c0 Nqzw5c0 Bqzw5c0 Xqzw5c0 Tqzw5c0; (try k_lt l1qzw5c0); (try dsimp only); (try k_lift Bqzw5c0); (try k_fold)))
  k_with "own all" => (first | assumption | exact Mine.allNe' (by assumption) (by omega) | exact Mine.allNe' (And.right (by assumption)) (by omega) | exact Mine.allNe' (And.right (And.right (by assumption))) (by omega) | exact Mine.allNe' (And.right (And.right (And.right (by assumption)))) (by omega) | exact Mine.allNe' (And.right (And.right (And.right (And.right (by assumption))))) (by omega) | exact Mine.allNe' (And.right (And.right (And.right (And.right (And.right (by assumption)))))) (by omega) | exact Mine.allNe2 (by assumption) (by omega) | fail "k_all: no bound of the rest")
  k_with "binaryOp RShift int int" => (((with_reducible refine rshift_int ?kb1w7c0 ?_); (case kb1w7c0 => first | omega | exact mem3 (by assumption) (by assumption) (by assumption) (by assumption))))
  k_with "binaryOp RShift int int" => (((with_reducible refine rshift_int ?kb1w7c1 ?_); (case kb1w7c1 => first | omega | exact mem3 (by assumption) (by assumption) (by assumption) (by assumption))))
  k_with "binaryOp RShift int int" => (((with_reducible refine rshift_int ?kb1w7c2 ?_); (case kb1w7c2 => first | omega | exact mem3 (by assumption) (by assumption) (by assumption) (by assumption))))
  k_with "binaryOp RShift int int" => (((with_reducible refine rshift_int ?kb1w7c3 ?_); (case kb1w7c3 => first | omega | exact mem3 (by assumption) (by assumption) (by assumption) (by assumption))))
  k_with "binaryOp RShift int int" => (((with_reducible refine rshift_int ?kb1w7c4 ?_); (case kb1w7c4 => first | omega | exact mem3 (by assumption) (by assumption) (by assumption) (by assumption))))
  k_with "binaryOp RShift int int" => (((with_reducible refine rshift_int ?kb1w7c5 ?_); (case kb1w7c5 => first | omega | exact mem3 (by assumption) (by assumption) (by assumption) (by assumption))))
  unfold Does
  k_fill
  intro gd cn cs a ccd cl outer A₀ base h₀ L m mean mg mb s Q E B F X N T hk hret
  refine wpAny_call ?_
  k_dflt (k_extra "own enter")
  k_steps
  all_goals (refine' ret_int hret ?F ?N ?s ?e; (case F => k_asm); (case N => k_asm); (case s => exact fun _ h => h); (case e => rfl))
theorem through_does (w : World) (news : Led) (x : Int) (tx : Tok) (g : Addr) (kd l1 l2 l3 : Int) (t0 t1 t2 t3 : Tok) (n : Nat)
    (hg : (g, tupOf #[.int kd t0, .int l1 t1, .int l2 t2, .int l3 t3] n) ∈ news)
    (hx0 : 0 ≤ x) (hx : x < 16) (h10 : 0 ≤ l1) (h1 : l1 < 4) (h20 : 0 ≤ l2) (h2 : l2 < 4) (h30 : 0 ≤ l3) (h3 : l3 < 4) :
    Does w 600 5000 183 [.int x tx, .ref g] news (fun v news' => (∃ t, v = .int (thr kd l1 l2 l3 x) t) ∧ news' = news) := by
  w_top off
  k_with_none
  k_with "own enter" => (first | (refine' code_def ?k1w8c0 ?k2w8c0 ?k3w8c0 ?k4w8c0 ?k5w8c0 ?kAw8c0 ?kFw8c0 ?kKw8c0 ?k6w8c0 ?k7w8c0 ?k8w8c0 ?k9w8c0 ?kBw8c0 ?_ ?c2w8c0 ?c3w8c0 ?c4w8c0 ?c5w8c0; (case kAw8c0 => exact rfl); (case kFw8c0 => exact rfl); (case kKw8c0 => assumption); (case k1w8c0 => k_asm); (case k2w8c0 => k_asm); (case k3w8c0 => k_asm); (case k4w8c0 => k_asm); (case k5w8c0 => k_asm); (case k6w8c0 => k_is); (case k7w8c0 => k_is); (case k8w8c0 => ktr_room); (case k9w8c0 => first | exact BindsTo.of_eq rfl | exact binds_K (by k_in) rfl (by k_is) rfl rfl rfl); (case c5w8c0 => decide); (case kBw8c0 => exact locs rfl); (case c2w8c0 => exact rfl); (case c3w8c0 => exact rfl); (case c4w8c0 => exact rfl); k_whole; intro gqzw8c0 Lqzw8c0 hqzw8c0 FGqzw8c0 Fqzw8c0 Nqzw8c0 Bqzw8c0 Xqzw8c0 Tqzw8c0; (try dsimp only); (try k_lift Bqzw8c0); (try k_fold)) | (refine' code_defC ?k1w8c0 ?k2w8c0 ?k3w8c0 ?k4w8c0 ?k5w8c0 ?kAw8c0 ?kFw8c0 ?kKw8c0 ?k6w8c0 ?k7w8c0 ?k8w8c0 ?k9w8c0 ?kBw8c0 ?kDw8c0 ?_ ?c2w8c0 ?c3w8c0 ?c4w8c0; (case kAw8c0 => exact rfl); (case kFw8c0 => exact rfl); (case kKw8c0 => assumption); (case k1w8c0 => k_asm); (case k2w8c0 => k_asm); (case k3w8c0 => k_asm); (case k4w8c0 => k_asm); (case k5w8c0 => k_asm); (case k6w8c0 => k_is); (case k7w8c0 => k_is); (case k8w8c0 => ktr_room); (case k9w8c0 => first | exact BindsTo.of_eq rfl | exact binds_K (by k_in) rfl (by k_is) rfl rfl rfl); (case kBw8c0 => exact rfl); (case kDw8c0 => decide +kernel); (case c2w8c0 => exact rfl); (case c3w8c0 => exact rfl); (case c4w8c0 => exact rfl); k_whole; intro gqzw8c0 Lqzw8c0 hqzw8c0 tkqzw8c0 cellsqzw8c0 FGqzw8c0 Fqzw8c0 Nqzw8c0 Yqzw8c0 Bqzw8c0 Xqzw8c0 Tqzw8c0 l1qzw8c0; (try k_lt l1qzw8c0); k_cells Yqzw8c0; (try simp only [List.cons_append, List.nil_append] at Nqzw8c0); (try dsimp only); (try k_lift Bqzw8c0); (try k_fold)) | (refine' kp_rest ?k1w8c0 ?k2w8c0 ?k3w8c0 ?k4w8c0 ?k5w8c0 ?kAw8c0 ?kFw8c0 ?kKw8c0 ?k6w8c0 ?k7w8c0 ?k8w8c0 ?kVw8c0 ?kPw8c0 ?kGw8c0 ?kBw8c0 ?_ ?c2w8c0 ?c3w8c0 ?c4w8c0 ?c5w8c0; (case kAw8c0 => exact rfl); (case kFw8c0 => exact rfl); (case kKw8c0 => assumption); (case k1w8c0 => k_asm); (case k2w8c0 => k_asm); (case k3w8c0 => k_asm); (case k4w8c0 => k_asm); (case k5w8c0 => k_asm); (case k6w8c0 => k_is); (case k7w8c0 => k_is); (case k8w8c0 => ktr_room); (case kVw8c0 => kl_lit); (case kPw8c0 => exact rfl); (case kGw8c0 => exact fun _ => rfl); (case kBw8c0 => exact fun _ => locs rfl); (case c5w8c0 => decide); (case c2w8c0 => exact rfl); (case c3w8c0 => exact rfl); (case c4w8c0 => exact rfl); k_whole; intro Dqzw8c0 gqzw8c0 Lqzw8c0 hqzw8c0 l1qzw8c0 FGqzw8c0 Fqzw8c0 Nqzw8c0 Bqzw8c0 Xqzw8c0 Tqzw8c0; (try k_lt l1qzw8c0); (try dsimp only); (try k_lift Bqzw8c0); (try k_fold)))
  k_with "own all" => (first | assumption | exact Mine.allNe' (by assumption) (by omega) | exact Mine.allNe' (And.right (by assumption)) (by omega) | exact Mine.allNe' (And.right (And.right (by assumption))) (by omega) | exact Mine.allNe' (And.right (And.right (And.right (by assumption)))) (by omega) | exact Mine.allNe' (And.right (And.right (And.right (And.right (by assumption))))) (by omega) | exact Mine.allNe' (And.right (And.right (And.right (And.right (And.right (by assumption)))))) (by omega) | exact Mine.allNe2 (by assumption) (by omega) | fail "k_all: no bound of the rest")
  k_with "binaryOp RShift int int" => (((with_reducible refine rshift_int ?kb1w10c0 ?_); (case kb1w10c0 => first | omega | exact mem3 (by assumption) (by assumption) (by assumption) (by assumption))))
  k_with "binaryOp RShift int int" => (((with_reducible refine rshift_int ?kb1w10c1 ?_); (case kb1w10c1 => first | omega | exact mem3 (by assumption) (by assumption) (by assumption) (by assumption))))
  k_with "binaryOp RShift int int" => (((with_reducible refine rshift_int ?kb1w10c2 ?_); (case kb1w10c2 => first | omega | exact mem3 (by assumption) (by assumption) (by assumption) (by assumption))))
  k_with "binaryOp RShift int int" => (((with_reducible refine rshift_int ?kb1w10c3 ?_); (case kb1w10c3 => first | omega | exact mem3 (by assumption) (by assumption) (by assumption) (by assumption))))
  k_with "binaryOp RShift int int" => (((with_reducible refine rshift_int ?kb1w10c4 ?_); (case kb1w10c4 => first | omega | exact mem3 (by assumption) (by assumption) (by assumption) (by assumption))))
  k_with "binaryOp RShift int int" => (((with_reducible refine rshift_int ?kb1w10c5 ?_); (case kb1w10c5 => first | omega | exact mem3 (by assumption) (by assumption) (by assumption) (by assumption))))
  k_with "call ref" => ((k_here; (with_reducible show wpAny _ _ (call (Value.ref 28) _ _) _ _ _); k_dflt (refine' does_int (and_does _ _ _ _ _ _) ?Bw11c0 ?Fw11c0 ?Xw11c0 ?Nw11c0 ?Tw11c0 ?kw11c0 ?aw11c0 ?bw11c0 ?_; (case kw11c0 => rfl); (case aw11c0 => exact Nat.le_of_ble_eq_true rfl); (case bw11c0 => exact Nat.le_of_ble_eq_true rfl); (case Bw11c0 => k_asm); (case Fw11c0 => k_asm); (case Xw11c0 => k_asm); (case Nw11c0 => k_asm); (case Tw11c0 => k_asm); k_whole); intro tqzw11c0 hqzw11c0 tkqzw11c0 Fqzw11c0 Nqzw11c0))
  k_with "call ref" => ((k_here; (with_reducible show wpAny _ _ (call (Value.ref 28) _ _) _ _ _); k_dflt (refine' does_int (and_does _ _ _ _ _ _) ?Bw11c1 ?Fw11c1 ?Xw11c1 ?Nw11c1 ?Tw11c1 ?kw11c1 ?aw11c1 ?bw11c1 ?_; (case kw11c1 => rfl); (case aw11c1 => exact Nat.le_of_ble_eq_true rfl); (case bw11c1 => exact Nat.le_of_ble_eq_true rfl); (case Bw11c1 => k_asm); (case Fw11c1 => k_asm); (case Xw11c1 => k_asm); (case Nw11c1 => k_asm); (case Tw11c1 => k_asm); k_whole); intro tqzw11c1 hqzw11c1 tkqzw11c1 Fqzw11c1 Nqzw11c1))
  k_with "call ref" => ((k_here; (with_reducible show wpAny _ _ (call (Value.ref 28) _ _) _ _ _); k_dflt (refine' does_int (and_does _ _ _ _ _ _) ?Bw11c2 ?Fw11c2 ?Xw11c2 ?Nw11c2 ?Tw11c2 ?kw11c2 ?aw11c2 ?bw11c2 ?_; (case kw11c2 => rfl); (case aw11c2 => exact Nat.le_of_ble_eq_true rfl); (case bw11c2 => exact Nat.le_of_ble_eq_true rfl); (case Bw11c2 => k_asm); (case Fw11c2 => k_asm); (case Xw11c2 => k_asm); (case Nw11c2 => k_asm); (case Tw11c2 => k_asm); k_whole); intro tqzw11c2 hqzw11c2 tkqzw11c2 Fqzw11c2 Nqzw11c2))
  k_with "call ref" => ((k_here; (with_reducible show wpAny _ _ (call (Value.ref 28) _ _) _ _ _); k_dflt (refine' does_int (and_does _ _ _ _ _ _) ?Bw11c3 ?Fw11c3 ?Xw11c3 ?Nw11c3 ?Tw11c3 ?kw11c3 ?aw11c3 ?bw11c3 ?_; (case kw11c3 => rfl); (case aw11c3 => exact Nat.le_of_ble_eq_true rfl); (case bw11c3 => exact Nat.le_of_ble_eq_true rfl); (case Bw11c3 => k_asm); (case Fw11c3 => k_asm); (case Xw11c3 => k_asm); (case Nw11c3 => k_asm); (case Tw11c3 => k_asm); k_whole); intro tqzw11c3 hqzw11c3 tkqzw11c3 Fqzw11c3 Nqzw11c3))
  k_with "call ref" => ((k_here; (with_reducible show wpAny _ _ (call (Value.ref 28) _ _) _ _ _); k_dflt (refine' does_int (and_does _ _ _ _ _ _) ?Bw11c4 ?Fw11c4 ?Xw11c4 ?Nw11c4 ?Tw11c4 ?kw11c4 ?aw11c4 ?bw11c4 ?_; (case kw11c4 => rfl); (case aw11c4 => exact Nat.le_of_ble_eq_true rfl); (case bw11c4 => exact Nat.le_of_ble_eq_true rfl); (case Bw11c4 => k_asm); (case Fw11c4 => k_asm); (case Xw11c4 => k_asm); (case Nw11c4 => k_asm); (case Tw11c4 => k_asm); k_whole); intro tqzw11c4 hqzw11c4 tkqzw11c4 Fqzw11c4 Nqzw11c4))
  k_with "call ref" => ((k_here; (with_reducible show wpAny _ _ (call (Value.ref 28) _ _) _ _ _); k_dflt (refine' does_int (and_does _ _ _ _ _ _) ?Bw11c5 ?Fw11c5 ?Xw11c5 ?Nw11c5 ?Tw11c5 ?kw11c5 ?aw11c5 ?bw11c5 ?_; (case kw11c5 => rfl); (case aw11c5 => exact Nat.le_of_ble_eq_true rfl); (case bw11c5 => exact Nat.le_of_ble_eq_true rfl); (case Bw11c5 => k_asm); (case Fw11c5 => k_asm); (case Xw11c5 => k_asm); (case Nw11c5 => k_asm); (case Tw11c5 => k_asm); k_whole); intro tqzw11c5 hqzw11c5 tkqzw11c5 Fqzw11c5 Nqzw11c5))
  k_with "call ref" => ((k_here; (with_reducible show wpAny _ _ (call (Value.ref 42) _ _) _ _ _); k_dflt (refine' does_int (xor_does _ _ _ _ _ _) ?Bw12c0 ?Fw12c0 ?Xw12c0 ?Nw12c0 ?Tw12c0 ?kw12c0 ?aw12c0 ?bw12c0 ?_; (case kw12c0 => rfl); (case aw12c0 => exact Nat.le_of_ble_eq_true rfl); (case bw12c0 => exact Nat.le_of_ble_eq_true rfl); (case Bw12c0 => k_asm); (case Fw12c0 => k_asm); (case Xw12c0 => k_asm); (case Nw12c0 => k_asm); (case Tw12c0 => k_asm); k_whole); intro tqzw12c0 hqzw12c0 tkqzw12c0 Fqzw12c0 Nqzw12c0))
  k_with "call ref" => ((k_here; (with_reducible show wpAny _ _ (call (Value.ref 42) _ _) _ _ _); k_dflt (refine' does_int (xor_does _ _ _ _ _ _) ?Bw12c1 ?Fw12c1 ?Xw12c1 ?Nw12c1 ?Tw12c1 ?kw12c1 ?aw12c1 ?bw12c1 ?_; (case kw12c1 => rfl); (case aw12c1 => exact Nat.le_of_ble_eq_true rfl); (case bw12c1 => exact Nat.le_of_ble_eq_true rfl); (case Bw12c1 => k_asm); (case Fw12c1 => k_asm); (case Xw12c1 => k_asm); (case Nw12c1 => k_asm); (case Tw12c1 => k_asm); k_whole); intro tqzw12c1 hqzw12c1 tkqzw12c1 Fqzw12c1 Nqzw12c1))
  k_with "call ref" => ((k_here; (with_reducible show wpAny _ _ (call (Value.ref 42) _ _) _ _ _); k_dflt (refine' does_int (xor_does _ _ _ _ _ _) ?Bw12c2 ?Fw12c2 ?Xw12c2 ?Nw12c2 ?Tw12c2 ?kw12c2 ?aw12c2 ?bw12c2 ?_; (case kw12c2 => rfl); (case aw12c2 => exact Nat.le_of_ble_eq_true rfl); (case bw12c2 => exact Nat.le_of_ble_eq_true rfl); (case Bw12c2 => k_asm); (case Fw12c2 => k_asm); (case Xw12c2 => k_asm); (case Nw12c2 => k_asm); (case Tw12c2 => k_asm); k_whole); intro tqzw12c2 hqzw12c2 tkqzw12c2 Fqzw12c2 Nqzw12c2))
  k_with "call ref" => ((k_here; (with_reducible show wpAny _ _ (call (Value.ref 42) _ _) _ _ _); k_dflt (refine' does_int (xor_does _ _ _ _ _ _) ?Bw12c3 ?Fw12c3 ?Xw12c3 ?Nw12c3 ?Tw12c3 ?kw12c3 ?aw12c3 ?bw12c3 ?_; (case kw12c3 => rfl); (case aw12c3 => exact Nat.le_of_ble_eq_true rfl); (case bw12c3 => exact Nat.le_of_ble_eq_true rfl); (case Bw12c3 => k_asm); (case Fw12c3 => k_asm); (case Xw12c3 => k_asm); (case Nw12c3 => k_asm); (case Tw12c3 => k_asm); k_whole); intro tqzw12c3 hqzw12c3 tkqzw12c3 Fqzw12c3 Nqzw12c3))
  k_with "call ref" => ((k_here; (with_reducible show wpAny _ _ (call (Value.ref 42) _ _) _ _ _); k_dflt (refine' does_int (xor_does _ _ _ _ _ _) ?Bw12c4 ?Fw12c4 ?Xw12c4 ?Nw12c4 ?Tw12c4 ?kw12c4 ?aw12c4 ?bw12c4 ?_; (case kw12c4 => rfl); (case aw12c4 => exact Nat.le_of_ble_eq_true rfl); (case bw12c4 => exact Nat.le_of_ble_eq_true rfl); (case Bw12c4 => k_asm); (case Fw12c4 => k_asm); (case Xw12c4 => k_asm); (case Nw12c4 => k_asm); (case Tw12c4 => k_asm); k_whole); intro tqzw12c4 hqzw12c4 tkqzw12c4 Fqzw12c4 Nqzw12c4))
  k_with "call ref" => ((k_here; (with_reducible show wpAny _ _ (call (Value.ref 42) _ _) _ _ _); k_dflt (refine' does_int (xor_does _ _ _ _ _ _) ?Bw12c5 ?Fw12c5 ?Xw12c5 ?Nw12c5 ?Tw12c5 ?kw12c5 ?aw12c5 ?bw12c5 ?_; (case kw12c5 => rfl); (case aw12c5 => exact Nat.le_of_ble_eq_true rfl); (case bw12c5 => exact Nat.le_of_ble_eq_true rfl); (case Bw12c5 => k_asm); (case Fw12c5 => k_asm); (case Xw12c5 => k_asm); (case Nw12c5 => k_asm); (case Tw12c5 => k_asm); k_whole); intro tqzw12c5 hqzw12c5 tkqzw12c5 Fqzw12c5 Nqzw12c5))
  k_with "call ref" => ((k_here; (with_reducible show wpAny _ _ (call (Value.ref 35) _ _) _ _ _); k_dflt (refine' does_int (rshift_does _ _ _ _ _ _ ?yw13c0) ?Bw13c0 ?Fw13c0 ?Xw13c0 ?Nw13c0 ?Tw13c0 ?kw13c0 ?aw13c0 ?bw13c0 ?_; (case yw13c0 => first | assumption | omega | exact mem3 (by assumption) (by assumption) (by assumption) (by assumption)); (case kw13c0 => rfl); (case aw13c0 => exact Nat.le_of_ble_eq_true rfl); (case bw13c0 => exact Nat.le_of_ble_eq_true rfl); (case Bw13c0 => k_asm); (case Fw13c0 => k_asm); (case Xw13c0 => k_asm); (case Nw13c0 => k_asm); (case Tw13c0 => k_asm); k_whole); intro tqzw13c0 hqzw13c0 tkqzw13c0 Fqzw13c0 Nqzw13c0))
  k_with "call ref" => ((k_here; (with_reducible show wpAny _ _ (call (Value.ref 35) _ _) _ _ _); k_dflt (refine' does_int (rshift_does _ _ _ _ _ _ ?yw13c1) ?Bw13c1 ?Fw13c1 ?Xw13c1 ?Nw13c1 ?Tw13c1 ?kw13c1 ?aw13c1 ?bw13c1 ?_; (case yw13c1 => first | assumption | omega | exact mem3 (by assumption) (by assumption) (by assumption) (by assumption)); (case kw13c1 => rfl); (case aw13c1 => exact Nat.le_of_ble_eq_true rfl); (case bw13c1 => exact Nat.le_of_ble_eq_true rfl); (case Bw13c1 => k_asm); (case Fw13c1 => k_asm); (case Xw13c1 => k_asm); (case Nw13c1 => k_asm); (case Tw13c1 => k_asm); k_whole); intro tqzw13c1 hqzw13c1 tkqzw13c1 Fqzw13c1 Nqzw13c1))
  k_with "call ref" => ((k_here; (with_reducible show wpAny _ _ (call (Value.ref 35) _ _) _ _ _); k_dflt (refine' does_int (rshift_does _ _ _ _ _ _ ?yw13c2) ?Bw13c2 ?Fw13c2 ?Xw13c2 ?Nw13c2 ?Tw13c2 ?kw13c2 ?aw13c2 ?bw13c2 ?_; (case yw13c2 => first | assumption | omega | exact mem3 (by assumption) (by assumption) (by assumption) (by assumption)); (case kw13c2 => rfl); (case aw13c2 => exact Nat.le_of_ble_eq_true rfl); (case bw13c2 => exact Nat.le_of_ble_eq_true rfl); (case Bw13c2 => k_asm); (case Fw13c2 => k_asm); (case Xw13c2 => k_asm); (case Nw13c2 => k_asm); (case Tw13c2 => k_asm); k_whole); intro tqzw13c2 hqzw13c2 tkqzw13c2 Fqzw13c2 Nqzw13c2))
  k_with "call ref" => ((k_here; (with_reducible show wpAny _ _ (call (Value.ref 35) _ _) _ _ _); k_dflt (refine' does_int (rshift_does _ _ _ _ _ _ ?yw13c3) ?Bw13c3 ?Fw13c3 ?Xw13c3 ?Nw13c3 ?Tw13c3 ?kw13c3 ?aw13c3 ?bw13c3 ?_; (case yw13c3 => first | assumption | omega | exact mem3 (by assumption) (by assumption) (by assumption) (by assumption)); (case kw13c3 => rfl); (case aw13c3 => exact Nat.le_of_ble_eq_true rfl); (case bw13c3 => exact Nat.le_of_ble_eq_true rfl); (case Bw13c3 => k_asm); (case Fw13c3 => k_asm); (case Xw13c3 => k_asm); (case Nw13c3 => k_asm); (case Tw13c3 => k_asm); k_whole); intro tqzw13c3 hqzw13c3 tkqzw13c3 Fqzw13c3 Nqzw13c3))
  k_with "call ref" => ((k_here; (with_reducible show wpAny _ _ (call (Value.ref 35) _ _) _ _ _); k_dflt (refine' does_int (rshift_does _ _ _ _ _ _ ?yw13c4) ?Bw13c4 ?Fw13c4 ?Xw13c4 ?Nw13c4 ?Tw13c4 ?kw13c4 ?aw13c4 ?bw13c4 ?_; (case yw13c4 => first | assumption | omega | exact mem3 (by assumption) (by assumption) (by assumption) (by assumption)); (case kw13c4 => rfl); (case aw13c4 => exact Nat.le_of_ble_eq_true rfl); (case bw13c4 => exact Nat.le_of_ble_eq_true rfl); (case Bw13c4 => k_asm); (case Fw13c4 => k_asm); (case Xw13c4 => k_asm); (case Nw13c4 => k_asm); (case Tw13c4 => k_asm); k_whole); intro tqzw13c4 hqzw13c4 tkqzw13c4 Fqzw13c4 Nqzw13c4))
  k_with "call ref" => ((k_here; (with_reducible show wpAny _ _ (call (Value.ref 35) _ _) _ _ _); k_dflt (refine' does_int (rshift_does _ _ _ _ _ _ ?yw13c5) ?Bw13c5 ?Fw13c5 ?Xw13c5 ?Nw13c5 ?Tw13c5 ?kw13c5 ?aw13c5 ?bw13c5 ?_; (case yw13c5 => first | assumption | omega | exact mem3 (by assumption) (by assumption) (by assumption) (by assumption)); (case kw13c5 => rfl); (case aw13c5 => exact Nat.le_of_ble_eq_true rfl); (case bw13c5 => exact Nat.le_of_ble_eq_true rfl); (case Bw13c5 => k_asm); (case Fw13c5 => k_asm); (case Xw13c5 => k_asm); (case Nw13c5 => k_asm); (case Tw13c5 => k_asm); k_whole); intro tqzw13c5 hqzw13c5 tkqzw13c5 Fqzw13c5 Nqzw13c5))
  k_with "binaryOp LShift int int" => (((with_reducible refine lshift_int_small ?kb1w14c0 ?kb2w14c0 ?kb3w14c0 ?_); (case kb1w14c0 => omega); (case kb2w14c0 => omega); (case kb3w14c0 => k_dflt (first | exact abs01 (and01 (bit01 (by assumption) (by assumption) (by assumption) (by assumption)) (bit01 (by assumption) (by assumption) (by assumption) (by assumption))) | exact abs01 (and01 (bit01 (by assumption) (by assumption) (by assumption) (by assumption)) (xor01 (bit01 (by assumption) (by assumption) (by assumption) (by assumption)) (bit01 (by assumption) (by assumption) (by assumption) (by assumption))))))))
  k_with "binaryOp LShift int int" => (((with_reducible refine lshift_int_small ?kb1w14c1 ?kb2w14c1 ?kb3w14c1 ?_); (case kb1w14c1 => omega); (case kb2w14c1 => omega); (case kb3w14c1 => k_dflt (first | exact abs01 (and01 (bit01 (by assumption) (by assumption) (by assumption) (by assumption)) (bit01 (by assumption) (by assumption) (by assumption) (by assumption))) | exact abs01 (and01 (bit01 (by assumption) (by assumption) (by assumption) (by assumption)) (xor01 (bit01 (by assumption) (by assumption) (by assumption) (by assumption)) (bit01 (by assumption) (by assumption) (by assumption) (by assumption))))))))
  k_with "binaryOp LShift int int" => (((with_reducible refine lshift_int_small ?kb1w14c2 ?kb2w14c2 ?kb3w14c2 ?_); (case kb1w14c2 => omega); (case kb2w14c2 => omega); (case kb3w14c2 => k_dflt (first | exact abs01 (and01 (bit01 (by assumption) (by assumption) (by assumption) (by assumption)) (bit01 (by assumption) (by assumption) (by assumption) (by assumption))) | exact abs01 (and01 (bit01 (by assumption) (by assumption) (by assumption) (by assumption)) (xor01 (bit01 (by assumption) (by assumption) (by assumption) (by assumption)) (bit01 (by assumption) (by assumption) (by assumption) (by assumption))))))))
  k_with "binaryOp LShift int int" => (((with_reducible refine lshift_int_small ?kb1w14c3 ?kb2w14c3 ?kb3w14c3 ?_); (case kb1w14c3 => omega); (case kb2w14c3 => omega); (case kb3w14c3 => k_dflt (first | exact abs01 (and01 (bit01 (by assumption) (by assumption) (by assumption) (by assumption)) (bit01 (by assumption) (by assumption) (by assumption) (by assumption))) | exact abs01 (and01 (bit01 (by assumption) (by assumption) (by assumption) (by assumption)) (xor01 (bit01 (by assumption) (by assumption) (by assumption) (by assumption)) (bit01 (by assumption) (by assumption) (by assumption) (by assumption))))))))
  k_with "binaryOp LShift int int" => (((with_reducible refine lshift_int_small ?kb1w14c4 ?kb2w14c4 ?kb3w14c4 ?_); (case kb1w14c4 => omega); (case kb2w14c4 => omega); (case kb3w14c4 => k_dflt (first | exact abs01 (and01 (bit01 (by assumption) (by assumption) (by assumption) (by assumption)) (bit01 (by assumption) (by assumption) (by assumption) (by assumption))) | exact abs01 (and01 (bit01 (by assumption) (by assumption) (by assumption) (by assumption)) (xor01 (bit01 (by assumption) (by assumption) (by assumption) (by assumption)) (bit01 (by assumption) (by assumption) (by assumption) (by assumption))))))))
  k_with "binaryOp LShift int int" => (((with_reducible refine lshift_int_small ?kb1w14c5 ?kb2w14c5 ?kb3w14c5 ?_); (case kb1w14c5 => omega); (case kb2w14c5 => omega); (case kb3w14c5 => k_dflt (first | exact abs01 (and01 (bit01 (by assumption) (by assumption) (by assumption) (by assumption)) (bit01 (by assumption) (by assumption) (by assumption) (by assumption))) | exact abs01 (and01 (bit01 (by assumption) (by assumption) (by assumption) (by assumption)) (xor01 (bit01 (by assumption) (by assumption) (by assumption) (by assumption)) (bit01 (by assumption) (by assumption) (by assumption) (by assumption))))))))
  unfold Does
  k_fill
  intro gd cn cs a ccd cl outer A₀ base h₀ L m mean mg mb s Q E B F X N T hk hret
  refine wpAny_call ?_
  k_dflt (k_extra "own enter")
  k_steps
  all_goals (refine' ret_int hret ?F ?N ?s ?e; (case F => k_asm); (case N => k_asm); (case s => exact sub3); (case e => (unfold thr; first | (rw [if_pos (by first | assumption | exact of_decide_eq_true (by assumption) | simp_all)]; rfl) | (rw [if_neg (by first | assumption | exact of_decide_eq_false (by assumption) | simp_all)]; rfl))))
end Mine
end
-- part C2
section
namespace Mine
theorem gate_does (w : World) (news : Led) (x : Int) (tx : Tok) :
    Does w 600 5000 178 [.int x tx] news (fun v news' => ∃ D o, v = .ref D ∧ IsGate o (gateOf x) ∧ news' = (D, o) :: news ∧ AllLt D news) := by
  w_top off
  k_with_none
  k_with "own enter" => (first | (refine' code_def ?k1w15c0 ?k2w15c0 ?k3w15c0 ?k4w15c0 ?k5w15c0 ?kAw15c0 ?kFw15c0 ?kKw15c0 ?k6w15c0 ?k7w15c0 ?k8w15c0 ?k9w15c0 ?kBw15c0 ?_ ?c2w15c0 ?c3w15c0 ?c4w15c0 ?c5w15c0; (case kAw15c0 => exact rfl); (case kFw15c0 => exact rfl); (case kKw15c0 => assumption); (case k1w15c0 => k_asm); (case k2w15c0 => k_asm); (case k3w15c0 => k_asm); (case k4w15c0 => k_asm); (case k5w15c0 => k_asm); (case k6w15c0 => k_is); (case k7w15c0 => k_is); (case k8w15c0 => ktr_room); (case k9w15c0 => first | exact BindsTo.of_eq rfl | exact binds_K (by k_in) rfl (by k_is) rfl rfl rfl); (case c5w15c0 => decide); (case kBw15c0 => exact locs rfl); (case c2w15c0 => exact rfl); (case c3w15c0 => exact rfl); (case c4w15c0 => exact rfl); k_whole; intro gqzw15c0 Lqzw15c0 hqzw15c0 FGqzw15c0 Fqzw15c0 Nqzw15c0 Bqzw15c0 Xqzw15c0 Tqzw15c0; (try dsimp only); (try k_lift Bqzw15c0); (try k_fold)) | (refine' code_defC ?k1w15c0 ?k2w15c0 ?k3w15c0 ?k4w15c0 ?k5w15c0 ?kAw15c0 ?kFw15c0 ?kKw15c0 ?k6w15c0 ?k7w15c0 ?k8w15c0 ?k9w15c0 ?kBw15c0 ?kDw15c0 ?_ ?c2w15c0 ?c3w15c0 ?c4w15c0; (case kAw15c0 => exact rfl); (case kFw15c0 => exact rfl); (case kKw15c0 => assumption); (case k1w15c0 => k_asm); (case k2w15c0 => k_asm); (case k3w15c0 => k_asm); (case k4w15c0 => k_asm); (case k5w15c0 => k_asm); (case k6w15c0 => k_is); (case k7w15c0 => k_is); (case k8w15c0 => ktr_room); (case k9w15c0 => first | exact BindsTo.of_eq rfl | exact binds_K (by k_in) rfl (by k_is) rfl rfl rfl); (case kBw15c0 => exact rfl); (case kDw15c0 => decide +kernel); (case c2w15c0 => exact rfl); (case c3w15c0 => exact rfl); (case c4w15c0 => exact rfl); k_whole; intro gqzw15c0 Lqzw15c0 hqzw15c0 tkqzw15c0 cellsqzw15c0 FGqzw15c0 Fqzw15c0 Nqzw15c0 Yqzw15c0 Bqzw15c0 Xqzw15c0 Tqzw15c0 l1qzw15c0; (try k_lt l1qzw15c0); k_cells Yqzw15c0; (try simp only [List.cons_append, List.nil_append] at Nqzw15c0); (try dsimp only); (try k_lift Bqzw15c0); (try k_fold)) | (refine' kp_rest ?k1w15c0 ?k2w15c0 ?k3w15c0 ?k4w15c0 ?k5w15c0 ?kAw15c0 ?kFw15c0 ?kKw15c0 ?k6w15c0 ?k7w15c0 ?k8w15c0 ?kVw15c0 ?kPw15c0 ?kGw15c0 ?kBw15c0 ?_ ?c2w15c0 ?c3w15c0 ?c4w15c0 ?c5w15c0; (case kAw15c0 => exact rfl); (case kFw15c0 => exact rfl); (case kKw15c0 => assumption); (case k1w15c0 => k_asm); (case k2w15c0 => k_asm); (case k3w15c0 => k_asm); (case k4w15c0 => k_asm); (case k5w15c0 => k_asm); (case k6w15c0 => k_is); (case k7w15c0 => k_is); (case k8w15c0 => ktr_room); (case kVw15c0 => kl_lit); (case kPw15c0 => exact rfl); (case kGw15c0 => exact fun _ => rfl); (case kBw15c0 => exact fun _ => locs rfl); (case c5w15c0 => decide); (case c2w15c0 => exact rfl); (case c3w15c0 => exact rfl); (case c4w15c0 => exact rfl); k_whole; intro Dqzw15c0 gqzw15c0 Lqzw15c0 hqzw15c0 l1qzw15c0 FGqzw15c0 Fqzw15c0 Nqzw15c0 Bqzw15c0 Xqzw15c0 Tqzw15c0; (try k_lt l1qzw15c0); (try dsimp only); (try k_lift Bqzw15c0); (try k_fold)))
  k_with "own all" => (first | assumption | exact Mine.allNe' (by assumption) (by omega) | exact Mine.allNe' (And.right (by assumption)) (by omega) | exact Mine.allNe' (And.right (And.right (by assumption))) (by omega) | exact Mine.allNe' (And.right (And.right (And.right (by assumption)))) (by omega) | exact Mine.allNe' (And.right (And.right (And.right (And.right (by assumption))))) (by omega) | exact Mine.allNe' (And.right (And.right (And.right (And.right (And.right (by assumption)))))) (by omega) | exact Mine.allNe2 (by assumption) (by omega) | fail "k_all: no bound of the rest")
  k_with "call builtin:list.remove" => (((refine' rm4 ?h0w17c0 ?h4w17c0 ?Fw17c0 ?Nw17c0 ?hrw17c0 ?_; (case h0w17c0 => exact (fmod_bd _ (by decide)).1); (case h4w17c0 => exact (fmod_bd _ (by decide)).2); (case Fw17c0 => k_asm); (case Nw17c0 => k_asm); (case hrw17c0 => exact allNe (by first | assumption | exact allLt_iff.mpr (by assumption)))); intro hqzw17c0 u0qzw17c0 u1qzw17c0 u2qzw17c0 Fqzw17c0 Nqzw17c0))
  k_with "call builtin:list.remove" => (((refine' rm4 ?h0w17c1 ?h4w17c1 ?Fw17c1 ?Nw17c1 ?hrw17c1 ?_; (case h0w17c1 => exact (fmod_bd _ (by decide)).1); (case h4w17c1 => exact (fmod_bd _ (by decide)).2); (case Fw17c1 => k_asm); (case Nw17c1 => k_asm); (case hrw17c1 => exact allNe (by first | assumption | exact allLt_iff.mpr (by assumption)))); intro hqzw17c1 u0qzw17c1 u1qzw17c1 u2qzw17c1 Fqzw17c1 Nqzw17c1))
  k_with "call builtin:list.remove" => (((refine' rm4 ?h0w17c2 ?h4w17c2 ?Fw17c2 ?Nw17c2 ?hrw17c2 ?_; (case h0w17c2 => exact (fmod_bd _ (by decide)).1); (case h4w17c2 => exact (fmod_bd _ (by decide)).2); (case Fw17c2 => k_asm); (case Nw17c2 => k_asm); (case hrw17c2 => exact allNe (by first | assumption | exact allLt_iff.mpr (by assumption)))); intro hqzw17c2 u0qzw17c2 u1qzw17c2 u2qzw17c2 Fqzw17c2 Nqzw17c2))
  k_with "call builtin:list.remove" => (((refine' rm4 ?h0w17c3 ?h4w17c3 ?Fw17c3 ?Nw17c3 ?hrw17c3 ?_; (case h0w17c3 => exact (fmod_bd _ (by decide)).1); (case h4w17c3 => exact (fmod_bd _ (by decide)).2); (case Fw17c3 => k_asm); (case Nw17c3 => k_asm); (case hrw17c3 => exact allNe (by first | assumption | exact allLt_iff.mpr (by assumption)))); intro hqzw17c3 u0qzw17c3 u1qzw17c3 u2qzw17c3 Fqzw17c3 Nqzw17c3))
  k_with "call builtin:list.remove" => (((refine' rm4 ?h0w17c4 ?h4w17c4 ?Fw17c4 ?Nw17c4 ?hrw17c4 ?_; (case h0w17c4 => exact (fmod_bd _ (by decide)).1); (case h4w17c4 => exact (fmod_bd _ (by decide)).2); (case Fw17c4 => k_asm); (case Nw17c4 => k_asm); (case hrw17c4 => exact allNe (by first | assumption | exact allLt_iff.mpr (by assumption)))); intro hqzw17c4 u0qzw17c4 u1qzw17c4 u2qzw17c4 Fqzw17c4 Nqzw17c4))
  k_with "call builtin:list.remove" => (((refine' rm4 ?h0w17c5 ?h4w17c5 ?Fw17c5 ?Nw17c5 ?hrw17c5 ?_; (case h0w17c5 => exact (fmod_bd _ (by decide)).1); (case h4w17c5 => exact (fmod_bd _ (by decide)).2); (case Fw17c5 => k_asm); (case Nw17c5 => k_asm); (case hrw17c5 => exact allNe (by first | assumption | exact allLt_iff.mpr (by assumption)))); intro hqzw17c5 u0qzw17c5 u1qzw17c5 u2qzw17c5 Fqzw17c5 Nqzw17c5))
  unfold Does
  k_fill
  intro gd cn cs a ccd cl outer A₀ base h₀ L m mean mg mb s Q E B F X N T hk hret
  refine wpAny_call ?_
  k_dflt (k_extra "own enter")
  k_steps
  all_goals (refine' ret_gate hret ?F ?N ?hs ?hl ?e; (case F => k_asm); (case N => k_asm); (case hs => exact sub1); (case hl => exact (‹_ ∧ AllLt _ news›).2); (case e => rfl))
end Mine
end
-- part C3
section
namespace Mine
theorem reduce_does (w : World) (news : Led) (x : Int) (tx : Tok) (l : Addr) (gs : List Gt) (hg : GatesIn news l gs) (hok : ∀ g ∈ gs, g.Ok) (hx0 : 0 ≤ x) (hx : x < 16) :
    Does w 590 4900 51 [.ref 183, .ref l, .int x tx] news (fun v news' => (∃ t, v = .int (runAll gs x) t) ∧ news' = news) := by
  obtain ⟨refs, n, hl, hlen, hr⟩ := hg
  w_top off
  k_with_none
  k_with "own enter" => (first | (refine' code_def ?k1w18c0 ?k2w18c0 ?k3w18c0 ?k4w18c0 ?k5w18c0 ?kAw18c0 ?kFw18c0 ?kKw18c0 ?k6w18c0 ?k7w18c0 ?k8w18c0 ?k9w18c0 ?kBw18c0 ?_ ?c2w18c0 ?c3w18c0 ?c4w18c0 ?c5w18c0; (case kAw18c0 => exact rfl); (case kFw18c0 => exact rfl); (case kKw18c0 => assumption); (case k1w18c0 => k_asm); (case k2w18c0 => k_asm); (case k3w18c0 => k_asm); (case k4w18c0 => k_asm); (case k5w18c0 => k_asm); (case k6w18c0 => k_is); (case k7w18c0 => k_is); (case k8w18c0 => ktr_room); (case k9w18c0 => first | exact BindsTo.of_eq rfl | exact binds_K (by k_in) rfl (by k_is) rfl rfl rfl); (case c5w18c0 => decide); (case kBw18c0 => exact locs rfl); (case c2w18c0 => exact rfl); (case c3w18c0 => exact rfl); (case c4w18c0 => exact rfl); k_whole; intro gqzw18c0 Lqzw18c0 hqzw18c0 FGqzw18c0 Fqzw18c0 Nqzw18c0 Bqzw18c0 Xqzw18c0 Tqzw18c0; (try dsimp only); (try k_lift Bqzw18c0); (try k_fold)) | (refine' code_defC ?k1w18c0 ?k2w18c0 ?k3w18c0 ?k4w18c0 ?k5w18c0 ?kAw18c0 ?kFw18c0 ?kKw18c0 ?k6w18c0 ?k7w18c0 ?k8w18c0 ?k9w18c0 ?kBw18c0 ?kDw18c0 ?_ ?c2w18c0 ?c3w18c0 ?c4w18c0; (case kAw18c0 => exact rfl); (case kFw18c0 => exact rfl); (case kKw18c0 => assumption); (case k1w18c0 => k_asm); (case k2w18c0 => k_asm); (case k3w18c0 => k_asm); (case k4w18c0 => k_asm); (case k5w18c0 => k_asm); (case k6w18c0 => k_is); (case k7w18c0 => k_is); (case k8w18c0 => ktr_room); (case k9w18c0 => first | exact BindsTo.of_eq rfl | exact binds_K (by k_in) rfl (by k_is) rfl rfl rfl); (case kBw18c0 => exact rfl); (case kDw18c0 => decide +kernel); (case c2w18c0 => exact rfl); (case c3w18c0 => exact rfl); (case c4w18c0 => exact rfl); k_whole; intro gqzw18c0 Lqzw18c0 hqzw18c0 tkqzw18c0 cellsqzw18c0 FGqzw18c0 Fqzw18c0 Nqzw18c0 Yqzw18c0 Bqzw18c0 Xqzw18c0 Tqzw18c0 l1qzw18c0; (try k_lt l1qzw18c0); k_cells Yqzw18c0; (try simp only [List.cons_append, List.nil_append] at Nqzw18c0); (try dsimp only); (try k_lift Bqzw18c0); (try k_fold)) | (refine' kp_rest ?k1w18c0 ?k2w18c0 ?k3w18c0 ?k4w18c0 ?k5w18c0 ?kAw18c0 ?kFw18c0 ?kKw18c0 ?k6w18c0 ?k7w18c0 ?k8w18c0 ?kVw18c0 ?kPw18c0 ?kGw18c0 ?kBw18c0 ?_ ?c2w18c0 ?c3w18c0 ?c4w18c0 ?c5w18c0; (case kAw18c0 => exact rfl); (case kFw18c0 => exact rfl); (case kKw18c0 => assumption); (case k1w18c0 => k_asm); (case k2w18c0 => k_asm); (case k3w18c0 => k_asm); (case k4w18c0 => k_asm); (case k5w18c0 => k_asm); (case k6w18c0 => k_is); (case k7w18c0 => k_is); (case k8w18c0 => ktr_room); (case kVw18c0 => kl_lit); (case kPw18c0 => exact rfl); (case kGw18c0 => exact fun _ => rfl); (case kBw18c0 => exact fun _ => locs rfl); (case c5w18c0 => decide); (case c2w18c0 => exact rfl); (case c3w18c0 => exact rfl); (case c4w18c0 => exact rfl); k_whole; intro Dqzw18c0 gqzw18c0 Lqzw18c0 hqzw18c0 l1qzw18c0 FGqzw18c0 Fqzw18c0 Nqzw18c0 Bqzw18c0 Xqzw18c0 Tqzw18c0; (try k_lt l1qzw18c0); (try dsimp only); (try k_lift Bqzw18c0); (try k_fold)))
  k_with "own all" => (first | assumption | exact Mine.allNe' (by assumption) (by omega) | exact Mine.allNe' (And.right (by assumption)) (by omega) | exact Mine.allNe' (And.right (And.right (by assumption))) (by omega) | exact Mine.allNe' (And.right (And.right (And.right (by assumption)))) (by omega) | exact Mine.allNe' (And.right (And.right (And.right (And.right (by assumption))))) (by omega) | exact Mine.allNe' (And.right (And.right (And.right (And.right (And.right (by assumption)))))) (by omega) | exact Mine.allNe2 (by assumption) (by omega) | fail "k_all: no bound of the rest")
  k_with "call builtin:iter" => ((k_here; k_dflt (refine' iter_list ?Fw20c0 ?Nw20c0 ?lw20c0 ?_; (case Fw20c0 => k_asm); (case Nw20c0 => k_asm); (case lw20c0 => k_mem); k_whole); intro Iqzw20c0 hqzw20c0 oqzw20c0 Fqzw20c0 Nqzw20c0 lqzw20c0 hIqzw20c0))
  k_with "call builtin:iter" => ((k_here; k_dflt (refine' iter_list ?Fw20c1 ?Nw20c1 ?lw20c1 ?_; (case Fw20c1 => k_asm); (case Nw20c1 => k_asm); (case lw20c1 => k_mem); k_whole); intro Iqzw20c1 hqzw20c1 oqzw20c1 Fqzw20c1 Nqzw20c1 lqzw20c1 hIqzw20c1))
  k_with "call builtin:iter" => ((k_here; k_dflt (refine' iter_list ?Fw20c2 ?Nw20c2 ?lw20c2 ?_; (case Fw20c2 => k_asm); (case Nw20c2 => k_asm); (case lw20c2 => k_mem); k_whole); intro Iqzw20c2 hqzw20c2 oqzw20c2 Fqzw20c2 Nqzw20c2 lqzw20c2 hIqzw20c2))
  k_with "call builtin:iter" => ((k_here; k_dflt (refine' iter_list ?Fw20c3 ?Nw20c3 ?lw20c3 ?_; (case Fw20c3 => k_asm); (case Nw20c3 => k_asm); (case lw20c3 => k_mem); k_whole); intro Iqzw20c3 hqzw20c3 oqzw20c3 Fqzw20c3 Nqzw20c3 lqzw20c3 hIqzw20c3))
  k_with "call builtin:iter" => ((k_here; k_dflt (refine' iter_list ?Fw20c4 ?Nw20c4 ?lw20c4 ?_; (case Fw20c4 => k_asm); (case Nw20c4 => k_asm); (case lw20c4 => k_mem); k_whole); intro Iqzw20c4 hqzw20c4 oqzw20c4 Fqzw20c4 Nqzw20c4 lqzw20c4 hIqzw20c4))
  k_with "call builtin:iter" => ((k_here; k_dflt (refine' iter_list ?Fw20c5 ?Nw20c5 ?lw20c5 ?_; (case Fw20c5 => k_asm); (case Nw20c5 => k_asm); (case lw20c5 => k_mem); k_whole); intro Iqzw20c5 hqzw20c5 oqzw20c5 Fqzw20c5 Nqzw20c5 lqzw20c5 hIqzw20c5))
  k_with "exec For Name Name cons nil" => ((refine Stop.out ?_))
  k_with "compareOp Is int ref" => ((refine wpAny_is_other (by rfl) (by intro xqzw22c0; cases xqzw22c0) ?_))
  k_with "call ref" => ((refine Stop.out ?_))
  unfold Does
  k_fill
  intro gd cn cs a ccd cl outer A₀ base h₀ L m mean mg mb s Q E B F X N T hk hret
  refine wpAny_call ?_
  k_dflt (k_extra "own enter")
  k_steps
  refine Stop.mk ?_
  refine wpAny_For ?_
  walk1
  rename ItAt _ _ _ => hI
  rename Fr _ _ _ _ => FF
  rename News _ _ _ _ => NN
  rename ∀ p ∈ news, p.1 < _ => hO
  refine iter_self NN (.head _) hI ?_
  refine for_fold1 (y := Str.ofString "value") (fun i => runAll (gs.take i) x) rfl (by rfl) (by rfl) rfl FF NN (fun p hp => Nat.ne_of_lt (hO p hp)) hI hl rfl (by simp [runAll]) ?_ ?_
  · intro i v ta h tk o hi F' N'
    have hi' : i < refs.length := by have := (Array.getElem?_eq_some_iff.mp hi).1; simpa using this
    have hi2 : i < gs.length := by omega
    obtain ⟨ga, go, e, hm, hgo⟩ := hr i hi' hi2
    have hv : v = .ref ga := by
      have h3 : refs[i]? = some v := by simpa using hi
      rw [List.getElem?_eq_getElem hi', e] at h3
      exact (Option.some.inj h3).symm
    subst hv
    show wpAny _ _ _ _ _ _
    k_fold
    k_steps
    refine Stop.mk ?_
    have hw := runAll_word (gs := gs.take i) (fun g hg => hok g (List.mem_of_mem_take hg)) hx0 hx
    obtain ⟨t0, t1, t2, t3, n', rfl⟩ := hgo
    have hk0 := hok gs[i] (List.getElem_mem _)
    refine does_int (through_does w _ _ _ ga gs[i].kd gs[i].l1 gs[i].l2 gs[i].l3 t0 t1 t2 t3 n' (.tail _ hm) hw.1 hw.2 hk0.1.1 hk0.1.2 hk0.2.1.1 hk0.2.1.2 hk0.2.2.1.1 hk0.2.2.1.2) (by k_asm) F' (by k_asm) N' (by k_asm) rfl (Nat.le_of_ble_eq_true rfl) (Nat.le_of_ble_eq_true rfl) ?_
    intro t h' tk' F1 N1
    k_steps
    refine ⟨rfl, _, _, _, t, rfl, by k_asm, by k_asm, ?_, ?_⟩
    · show some (Value.int (gs[i].run (runAll (gs.take i) x)) t) = some (Value.int (runAll (gs.take (i + 1)) x) t)
      rw [runAll_take hi2]
    · intro z h1 h2
      simp only [if_neg h1, if_neg h2]
  · intro u t h tk F' N'
    dsimp only
    k_steps
    refine ret_int hret (by k_asm) (by k_asm) (fun _ h => h) ?_
    rw [List.size_toArray, hlen, List.take_length]
end Mine
end
-- part C5
section
namespace Mine
section
theorem getnode_old (w : World) (led : Led) (D x dx : Addr) (oD : Obj) (kvs : List (Int × Value)) (k : Int) (tk : Tok) (q1 q2 q3 q4 : Int) (u1 u2 u3 u4 : Tok) (v2 v3 v4 : Value) (n : Nat) (a : Addr)
    (hx : (x, instObj 167 dx) ∈ led) (hdx : (dx, dictOf (attrs q1 q2 q3 q4 u1 u2 u3 u4 (.ref D) v2 v3 v4) n) ∈ led) (hDm : (D, oD) ∈ led) (hD : oD.IsDictOf (intKind PySem.Challenge.rw_xi0021_01.row.prog w) kvs) (lo : (D == sysModules) = false)
    (hv : valueAt kvs k = some (.ref a)) :
    Does w 600 5000 110 [.ref x, .int k tk] led (fun v led' => v = .ref a ∧ led' = led) := by
  w_top off
  k_with_none
  k_with "own enter" => (first | (refine' code_def ?k1w24c0 ?k2w24c0 ?k3w24c0 ?k4w24c0 ?k5w24c0 ?kAw24c0 ?kFw24c0 ?kKw24c0 ?k6w24c0 ?k7w24c0 ?k8w24c0 ?k9w24c0 ?kBw24c0 ?_ ?c2w24c0 ?c3w24c0 ?c4w24c0 ?c5w24c0; (case kAw24c0 => exact rfl); (case kFw24c0 => exact rfl); (case kKw24c0 => assumption); (case k1w24c0 => k_asm); (case k2w24c0 => k_asm); (case k3w24c0 => k_asm); (case k4w24c0 => k_asm); (case k5w24c0 => k_asm); (case k6w24c0 => k_is); (case k7w24c0 => k_is); (case k8w24c0 => ktr_room); (case k9w24c0 => first | exact BindsTo.of_eq rfl | exact binds_K (by k_in) rfl (by k_is) rfl rfl rfl); (case c5w24c0 => decide); (case kBw24c0 => exact locs rfl); (case c2w24c0 => exact rfl); (case c3w24c0 => exact rfl); (case c4w24c0 => exact rfl); k_whole; intro gqzw24c0 Lqzw24c0 hqzw24c0 FGqzw24c0 Fqzw24c0 Nqzw24c0 Bqzw24c0 Xqzw24c0 Tqzw24c0; (try dsimp only); (try k_lift Bqzw24c0); (try k_fold)) | (refine' code_defC ?k1w24c0 ?k2w24c0 ?k3w24c0 ?k4w24c0 ?k5w24c0 ?kAw24c0 ?kFw24c0 ?kKw24c0 ?k6w24c0 ?k7w24c0 ?k8w24c0 ?k9w24c0 ?kBw24c0 ?kDw24c0 ?_ ?c2w24c0 ?c3w24c0 ?c4w24c0; (case kAw24c0 => exact rfl); (case kFw24c0 => exact rfl); (case kKw24c0 => assumption); (case k1w24c0 => k_asm); (case k2w24c0 => k_asm); (case k3w24c0 => k_asm); (case k4w24c0 => k_asm); (case k5w24c0 => k_asm); (case k6w24c0 => k_is); (case k7w24c0 => k_is); (case k8w24c0 => ktr_room); (case k9w24c0 => first | exact BindsTo.of_eq rfl | exact binds_K (by k_in) rfl (by k_is) rfl rfl rfl); (case kBw24c0 => exact rfl); (case kDw24c0 => decide +kernel); (case c2w24c0 => exact rfl); (case c3w24c0 => exact rfl); (case c4w24c0 => exact rfl); k_whole; intro gqzw24c0 Lqzw24c0 hqzw24c0 tkqzw24c0 cellsqzw24c0 FGqzw24c0 Fqzw24c0 Nqzw24c0 Yqzw24c0 Bqzw24c0 Xqzw24c0 Tqzw24c0 l1qzw24c0; (try k_lt l1qzw24c0); k_cells Yqzw24c0; (try simp only [List.cons_append, List.nil_append] at Nqzw24c0); (try dsimp only); (try k_lift Bqzw24c0); (try k_fold)) | (refine' kp_rest ?k1w24c0 ?k2w24c0 ?k3w24c0 ?k4w24c0 ?k5w24c0 ?kAw24c0 ?kFw24c0 ?kKw24c0 ?k6w24c0 ?k7w24c0 ?k8w24c0 ?kVw24c0 ?kPw24c0 ?kGw24c0 ?kBw24c0 ?_ ?c2w24c0 ?c3w24c0 ?c4w24c0 ?c5w24c0; (case kAw24c0 => exact rfl); (case kFw24c0 => exact rfl); (case kKw24c0 => assumption); (case k1w24c0 => k_asm); (case k2w24c0 => k_asm); (case k3w24c0 => k_asm); (case k4w24c0 => k_asm); (case k5w24c0 => k_asm); (case k6w24c0 => k_is); (case k7w24c0 => k_is); (case k8w24c0 => ktr_room); (case kVw24c0 => kl_lit); (case kPw24c0 => exact rfl); (case kGw24c0 => exact fun _ => rfl); (case kBw24c0 => exact fun _ => locs rfl); (case c5w24c0 => decide); (case c2w24c0 => exact rfl); (case c3w24c0 => exact rfl); (case c4w24c0 => exact rfl); k_whole; intro Dqzw24c0 gqzw24c0 Lqzw24c0 hqzw24c0 l1qzw24c0 FGqzw24c0 Fqzw24c0 Nqzw24c0 Bqzw24c0 Xqzw24c0 Tqzw24c0; (try k_lt l1qzw24c0); (try dsimp only); (try k_lift Bqzw24c0); (try k_fold)))
  k_with "own all" => (first | assumption | exact Mine.allNe' (by assumption) (by omega) | exact Mine.allNe' (And.right (by assumption)) (by omega) | exact Mine.allNe' (And.right (And.right (by assumption))) (by omega) | exact Mine.allNe' (And.right (And.right (And.right (by assumption)))) (by omega) | exact Mine.allNe' (And.right (And.right (And.right (And.right (by assumption))))) (by omega) | exact Mine.allNe' (And.right (And.right (And.right (And.right (And.right (by assumption)))))) (by omega) | exact Mine.allNe2 (by assumption) (by omega) | fail "k_all: no bound of the rest")
  k_with "call builtin:dict.get" => ((k_here; (refine' kdg_get1 (knd := intKind _ _) ?Nw26c0 ?mw26c0 ?dw26c0 ?low26c0 (intKind_is _ _ _ _) _ ?hlw26c0 ?_; (case Nw26c0 => k_asm); (case mw26c0 => k_mem); (case dw26c0 => k_asm); (case low26c0 => k_asm); (case hlw26c0 => k_asm)); dsimp only [Option.getD]))
  k_with "call builtin:dict.get" => ((k_here; (refine' kdg_get1 (knd := intKind _ _) ?Nw26c1 ?mw26c1 ?dw26c1 ?low26c1 (intKind_is _ _ _ _) _ ?hlw26c1 ?_; (case Nw26c1 => k_asm); (case mw26c1 => k_mem); (case dw26c1 => k_asm); (case low26c1 => k_asm); (case hlw26c1 => k_asm)); dsimp only [Option.getD]))
  k_with "call builtin:dict.get" => ((k_here; (refine' kdg_get1 (knd := intKind _ _) ?Nw26c2 ?mw26c2 ?dw26c2 ?low26c2 (intKind_is _ _ _ _) _ ?hlw26c2 ?_; (case Nw26c2 => k_asm); (case mw26c2 => k_mem); (case dw26c2 => k_asm); (case low26c2 => k_asm); (case hlw26c2 => k_asm)); dsimp only [Option.getD]))
  k_with "call builtin:dict.get" => ((k_here; (refine' kdg_get1 (knd := intKind _ _) ?Nw26c3 ?mw26c3 ?dw26c3 ?low26c3 (intKind_is _ _ _ _) _ ?hlw26c3 ?_; (case Nw26c3 => k_asm); (case mw26c3 => k_mem); (case dw26c3 => k_asm); (case low26c3 => k_asm); (case hlw26c3 => k_asm)); dsimp only [Option.getD]))
  k_with "call builtin:dict.get" => ((k_here; (refine' kdg_get1 (knd := intKind _ _) ?Nw26c4 ?mw26c4 ?dw26c4 ?low26c4 (intKind_is _ _ _ _) _ ?hlw26c4 ?_; (case Nw26c4 => k_asm); (case mw26c4 => k_mem); (case dw26c4 => k_asm); (case low26c4 => k_asm); (case hlw26c4 => k_asm)); dsimp only [Option.getD]))
  k_with "call builtin:dict.get" => ((k_here; (refine' kdg_get1 (knd := intKind _ _) ?Nw26c5 ?mw26c5 ?dw26c5 ?low26c5 (intKind_is _ _ _ _) _ ?hlw26c5 ?_; (case Nw26c5 => k_asm); (case mw26c5 => k_mem); (case dw26c5 => k_asm); (case low26c5 => k_asm); (case hlw26c5 => k_asm)); dsimp only [Option.getD]))
  k_with "getMethod ref" => ((k_here; (with_reducible show wpAny _ _ (getMethod (Value.ref _) (PySem.Str.ofString "get") _) _ _ _); (refine' kdg_method (knd := intKind _ _) ?Nw27c0 ?mw27c0 ?dw27c0 ?_; (case Nw27c0 => k_asm); (case mw27c0 => k_mem); (case dw27c0 => k_asm))))
  k_with "getMethod ref" => ((k_here; (with_reducible show wpAny _ _ (getMethod (Value.ref _) (PySem.Str.ofString "get") _) _ _ _); (refine' kdg_method (knd := intKind _ _) ?Nw27c1 ?mw27c1 ?dw27c1 ?_; (case Nw27c1 => k_asm); (case mw27c1 => k_mem); (case dw27c1 => k_asm))))
  k_with "getMethod ref" => ((k_here; (with_reducible show wpAny _ _ (getMethod (Value.ref _) (PySem.Str.ofString "get") _) _ _ _); (refine' kdg_method (knd := intKind _ _) ?Nw27c2 ?mw27c2 ?dw27c2 ?_; (case Nw27c2 => k_asm); (case mw27c2 => k_mem); (case dw27c2 => k_asm))))
  k_with "getMethod ref" => ((k_here; (with_reducible show wpAny _ _ (getMethod (Value.ref _) (PySem.Str.ofString "get") _) _ _ _); (refine' kdg_method (knd := intKind _ _) ?Nw27c3 ?mw27c3 ?dw27c3 ?_; (case Nw27c3 => k_asm); (case mw27c3 => k_mem); (case dw27c3 => k_asm))))
  k_with "getMethod ref" => ((k_here; (with_reducible show wpAny _ _ (getMethod (Value.ref _) (PySem.Str.ofString "get") _) _ _ _); (refine' kdg_method (knd := intKind _ _) ?Nw27c4 ?mw27c4 ?dw27c4 ?_; (case Nw27c4 => k_asm); (case mw27c4 => k_mem); (case dw27c4 => k_asm))))
  k_with "getMethod ref" => ((k_here; (with_reducible show wpAny _ _ (getMethod (Value.ref _) (PySem.Str.ofString "get") _) _ _ _); (refine' kdg_method (knd := intKind _ _) ?Nw27c5 ?mw27c5 ?dw27c5 ?_; (case Nw27c5 => k_asm); (case mw27c5 => k_mem); (case dw27c5 => k_asm))))
  k_with "setItem ref int" => ((k_here; (refine' kda_set (knd := intKind _ _) ?Fw28c0 ?Nw28c0 ?Uw28c0 ?dw28c0 (intKind_is _ _ _ _) ?zw28c0 ?_; (case Fw28c0 => k_asm); (case Nw28c0 => k_asm); (case Uw28c0 => k_updF); (case dw28c0 => k_asm); (case zw28c0 => k_asm)); intro hqzw28c0 oqzw28c0 Fqzw28c0 Nqzw28c0 hdqzw28c0; (try dsimp only at Nqzw28c0)))
  k_with "setItem ref int" => ((k_here; (refine' kda_set (knd := intKind _ _) ?Fw28c1 ?Nw28c1 ?Uw28c1 ?dw28c1 (intKind_is _ _ _ _) ?zw28c1 ?_; (case Fw28c1 => k_asm); (case Nw28c1 => k_asm); (case Uw28c1 => k_updF); (case dw28c1 => k_asm); (case zw28c1 => k_asm)); intro hqzw28c1 oqzw28c1 Fqzw28c1 Nqzw28c1 hdqzw28c1; (try dsimp only at Nqzw28c1)))
  k_with "setItem ref int" => ((k_here; (refine' kda_set (knd := intKind _ _) ?Fw28c2 ?Nw28c2 ?Uw28c2 ?dw28c2 (intKind_is _ _ _ _) ?zw28c2 ?_; (case Fw28c2 => k_asm); (case Nw28c2 => k_asm); (case Uw28c2 => k_updF); (case dw28c2 => k_asm); (case zw28c2 => k_asm)); intro hqzw28c2 oqzw28c2 Fqzw28c2 Nqzw28c2 hdqzw28c2; (try dsimp only at Nqzw28c2)))
  k_with "setItem ref int" => ((k_here; (refine' kda_set (knd := intKind _ _) ?Fw28c3 ?Nw28c3 ?Uw28c3 ?dw28c3 (intKind_is _ _ _ _) ?zw28c3 ?_; (case Fw28c3 => k_asm); (case Nw28c3 => k_asm); (case Uw28c3 => k_updF); (case dw28c3 => k_asm); (case zw28c3 => k_asm)); intro hqzw28c3 oqzw28c3 Fqzw28c3 Nqzw28c3 hdqzw28c3; (try dsimp only at Nqzw28c3)))
  k_with "setItem ref int" => ((k_here; (refine' kda_set (knd := intKind _ _) ?Fw28c4 ?Nw28c4 ?Uw28c4 ?dw28c4 (intKind_is _ _ _ _) ?zw28c4 ?_; (case Fw28c4 => k_asm); (case Nw28c4 => k_asm); (case Uw28c4 => k_updF); (case dw28c4 => k_asm); (case zw28c4 => k_asm)); intro hqzw28c4 oqzw28c4 Fqzw28c4 Nqzw28c4 hdqzw28c4; (try dsimp only at Nqzw28c4)))
  k_with "setItem ref int" => ((k_here; (refine' kda_set (knd := intKind _ _) ?Fw28c5 ?Nw28c5 ?Uw28c5 ?dw28c5 (intKind_is _ _ _ _) ?zw28c5 ?_; (case Fw28c5 => k_asm); (case Nw28c5 => k_asm); (case Uw28c5 => k_updF); (case dw28c5 => k_asm); (case zw28c5 => k_asm)); intro hqzw28c5 oqzw28c5 Fqzw28c5 Nqzw28c5 hdqzw28c5; (try dsimp only at Nqzw28c5)))
  unfold Does
  k_fill
  intro gd cn cs aa ccd cl outer A₀ base h₀ L m mean mg mb s Q E B F X N T hk hret
  refine wpAny_call ?_
  k_dflt (k_extra "own enter")
  k_steps
  exact hret _ _ _ _ (by k_asm) (by k_asm) ⟨rfl, rfl⟩
theorem ret_new {w : World} {prog : Program} {h₀ h' : Heap} {L D a sl dd : Addr} {m : Str → Option Value} {rest : Led} {oD' : Obj} {kvs : List (Int × Value)} {k : Int} {tk tn : Tok} {s : Shared} {Q : Value → Shared → Prop} {tk' : Nat}
    (hret : ∀ (v : Value) (n' : List (Addr × Obj)) (h' : Heap) (tk' : Nat), Fr h₀ L h' m → News h₀ L h' n' → (∃ a sl dd tn oD', v = .ref a ∧ n' = (sl, listOf #[] 0) :: (a, nodeObj k tk 0 tn sl dd) :: (dd, dictOf [] 0) :: (D, oD') :: rest ∧
      oD'.IsDictOf (intKind prog w) (stored kvs k (.ref a)) ∧ (@LT.lt Nat _ dd a ∧ @LT.lt Nat _ a sl ∧ @LT.lt Nat _ D dd) ∧ AllLt dd rest) → Q v { s with heap := h', toks := tk' })
    (F : Fr h₀ L h' m) (N : News h₀ L h' ((sl, listOf #[] 0) :: (a, nodeObj k tk 0 tn sl dd) :: (dd, dictOf [] 0) :: (D, oD') :: rest)) (hd : oD'.IsDictOf (intKind prog w) (stored kvs k (.ref a)))
    (h1 : @LT.lt Nat _ dd a) (h2 : @LT.lt Nat _ a sl) (h3 : @LT.lt Nat _ D dd) (h4 : AllLt dd rest) : Q (.ref a) { s with heap := h', toks := tk' } :=
  hret _ _ _ _ F N ⟨a, sl, dd, tn, oD', rfl, rfl, hd, ⟨h1, h2, h3⟩, h4⟩
theorem getnode_new (w : World) (rest : Led) (D x dx : Addr) (oD : Obj) (kvs : List (Int × Value)) (k : Int) (tk : Tok) (q1 q2 q3 q4 : Int) (u1 u2 u3 u4 : Tok) (v2 v3 v4 : Value) (n : Nat)
    (hx : (x, instObj 167 dx) ∈ rest) (hdx : (dx, dictOf (attrs q1 q2 q3 q4 u1 u2 u3 u4 (.ref D) v2 v3 v4) n) ∈ rest) (hD : oD.IsDictOf (intKind PySem.Challenge.rw_xi0021_01.row.prog w) kvs) (lo : (D == sysModules) = false) (hO : ∀ p ∈ rest, p.1 ≠ D)
    (hsz : kvs.length ≤ sizeLine) (hv : valueAt kvs k = none) :
    Does w 600 5000 110 [.ref x, .int k tk] ((D, oD) :: rest) (fun v n' => ∃ a sl dd tn oD', v = .ref a ∧ n' = (sl, listOf #[] 0) :: (a, nodeObj k tk 0 tn sl dd) :: (dd, dictOf [] 0) :: (D, oD') :: rest ∧
      oD'.IsDictOf (intKind PySem.Challenge.rw_xi0021_01.row.prog w) (stored kvs k (.ref a)) ∧ (@LT.lt Nat _ dd a ∧ @LT.lt Nat _ a sl ∧ @LT.lt Nat _ D dd) ∧ AllLt dd rest) := by
  w_top off
  k_with_none
  k_with "own enter" => (first | (refine' code_def ?k1w29c0 ?k2w29c0 ?k3w29c0 ?k4w29c0 ?k5w29c0 ?kAw29c0 ?kFw29c0 ?kKw29c0 ?k6w29c0 ?k7w29c0 ?k8w29c0 ?k9w29c0 ?kBw29c0 ?_ ?c2w29c0 ?c3w29c0 ?c4w29c0 ?c5w29c0; (case kAw29c0 => exact rfl); (case kFw29c0 => exact rfl); (case kKw29c0 => assumption); (case k1w29c0 => k_asm); (case k2w29c0 => k_asm); (case k3w29c0 => k_asm); (case k4w29c0 => k_asm); (case k5w29c0 => k_asm); (case k6w29c0 => k_is); (case k7w29c0 => k_is); (case k8w29c0 => ktr_room); (case k9w29c0 => first | exact BindsTo.of_eq rfl | exact binds_K (by k_in) rfl (by k_is) rfl rfl rfl); (case c5w29c0 => decide); (case kBw29c0 => exact locs rfl); (case c2w29c0 => exact rfl); (case c3w29c0 => exact rfl); (case c4w29c0 => exact rfl); k_whole; intro gqzw29c0 Lqzw29c0 hqzw29c0 FGqzw29c0 Fqzw29c0 Nqzw29c0 Bqzw29c0 Xqzw29c0 Tqzw29c0; (try dsimp only); (try k_lift Bqzw29c0); (try k_fold)) | (refine' code_defC ?k1w29c0 ?k2w29c0 ?k3w29c0 ?k4w29c0 ?k5w29c0 ?kAw29c0 ?kFw29c0 ?kKw29c0 ?k6w29c0 ?k7w29c0 ?k8w29c0 ?k9w29c0 ?kBw29c0 ?kDw29c0 ?_ ?c2w29c0 ?c3w29c0 ?c4w29c0; (case kAw29c0 => exact rfl); (case kFw29c0 => exact rfl); (case kKw29c0 => assumption); (case k1w29c0 => k_asm); (case k2w29c0 => k_asm); (case k3w29c0 => k_asm); (case k4w29c0 => k_asm); (case k5w29c0 => k_asm); (case k6w29c0 => k_is); (case k7w29c0 => k_is); (case k8w29c0 => ktr_room); (case k9w29c0 => first | exact BindsTo.of_eq rfl | exact binds_K (by k_in) rfl (by k_is) rfl rfl rfl); (case kBw29c0 => exact rfl); (case kDw29c0 => decide +kernel); (case c2w29c0 => exact rfl); (case c3w29c0 => exact rfl); (case c4w29c0 => exact rfl); k_whole; intro gqzw29c0 Lqzw29c0 hqzw29c0 tkqzw29c0 cellsqzw29c0 FGqzw29c0 Fqzw29c0 Nqzw29c0 Yqzw29c0 Bqzw29c0 Xqzw29c0 Tqzw29c0 l1qzw29c0; (try k_lt l1qzw29c0); k_cells Yqzw29c0; (try simp only [List.cons_append, List.nil_append] at Nqzw29c0); (try dsimp only); (try k_lift Bqzw29c0); (try k_fold)) | (refine' kp_rest ?k1w29c0 ?k2w29c0 ?k3w29c0 ?k4w29c0 ?k5w29c0 ?kAw29c0 ?kFw29c0 ?kKw29c0 ?k6w29c0 ?k7w29c0 ?k8w29c0 ?kVw29c0 ?kPw29c0 ?kGw29c0 ?kBw29c0 ?_ ?c2w29c0 ?c3w29c0 ?c4w29c0 ?c5w29c0; (case kAw29c0 => exact rfl); (case kFw29c0 => exact rfl); (case kKw29c0 => assumption); (case k1w29c0 => k_asm); (case k2w29c0 => k_asm); (case k3w29c0 => k_asm); (case k4w29c0 => k_asm); (case k5w29c0 => k_asm); (case k6w29c0 => k_is); (case k7w29c0 => k_is); (case k8w29c0 => ktr_room); (case kVw29c0 => kl_lit); (case kPw29c0 => exact rfl); (case kGw29c0 => exact fun _ => rfl); (case kBw29c0 => exact fun _ => locs rfl); (case c5w29c0 => decide); (case c2w29c0 => exact rfl); (case c3w29c0 => exact rfl); (case c4w29c0 => exact rfl); k_whole; intro Dqzw29c0 gqzw29c0 Lqzw29c0 hqzw29c0 l1qzw29c0 FGqzw29c0 Fqzw29c0 Nqzw29c0 Bqzw29c0 Xqzw29c0 Tqzw29c0; (try k_lt l1qzw29c0); (try dsimp only); (try k_lift Bqzw29c0); (try k_fold)))
  k_with "own all" => (first | assumption | exact Mine.allNe' (by assumption) (by omega) | exact Mine.allNe' (And.right (by assumption)) (by omega) | exact Mine.allNe' (And.right (And.right (by assumption))) (by omega) | exact Mine.allNe' (And.right (And.right (And.right (by assumption)))) (by omega) | exact Mine.allNe' (And.right (And.right (And.right (And.right (by assumption))))) (by omega) | exact Mine.allNe' (And.right (And.right (And.right (And.right (And.right (by assumption)))))) (by omega) | exact Mine.allNe2 (by assumption) (by omega) | fail "k_all: no bound of the rest")
  k_with "call builtin:dict.get" => ((k_here; (refine' kdg_get1 (knd := intKind _ _) ?Nw31c0 ?mw31c0 ?dw31c0 ?low31c0 (intKind_is _ _ _ _) _ ?hlw31c0 ?_; (case Nw31c0 => k_asm); (case mw31c0 => k_mem); (case dw31c0 => k_asm); (case low31c0 => k_asm); (case hlw31c0 => k_asm)); dsimp only [Option.getD]))
  k_with "call builtin:dict.get" => ((k_here; (refine' kdg_get1 (knd := intKind _ _) ?Nw31c1 ?mw31c1 ?dw31c1 ?low31c1 (intKind_is _ _ _ _) _ ?hlw31c1 ?_; (case Nw31c1 => k_asm); (case mw31c1 => k_mem); (case dw31c1 => k_asm); (case low31c1 => k_asm); (case hlw31c1 => k_asm)); dsimp only [Option.getD]))
  k_with "call builtin:dict.get" => ((k_here; (refine' kdg_get1 (knd := intKind _ _) ?Nw31c2 ?mw31c2 ?dw31c2 ?low31c2 (intKind_is _ _ _ _) _ ?hlw31c2 ?_; (case Nw31c2 => k_asm); (case mw31c2 => k_mem); (case dw31c2 => k_asm); (case low31c2 => k_asm); (case hlw31c2 => k_asm)); dsimp only [Option.getD]))
  k_with "call builtin:dict.get" => ((k_here; (refine' kdg_get1 (knd := intKind _ _) ?Nw31c3 ?mw31c3 ?dw31c3 ?low31c3 (intKind_is _ _ _ _) _ ?hlw31c3 ?_; (case Nw31c3 => k_asm); (case mw31c3 => k_mem); (case dw31c3 => k_asm); (case low31c3 => k_asm); (case hlw31c3 => k_asm)); dsimp only [Option.getD]))
  k_with "call builtin:dict.get" => ((k_here; (refine' kdg_get1 (knd := intKind _ _) ?Nw31c4 ?mw31c4 ?dw31c4 ?low31c4 (intKind_is _ _ _ _) _ ?hlw31c4 ?_; (case Nw31c4 => k_asm); (case mw31c4 => k_mem); (case dw31c4 => k_asm); (case low31c4 => k_asm); (case hlw31c4 => k_asm)); dsimp only [Option.getD]))
  k_with "call builtin:dict.get" => ((k_here; (refine' kdg_get1 (knd := intKind _ _) ?Nw31c5 ?mw31c5 ?dw31c5 ?low31c5 (intKind_is _ _ _ _) _ ?hlw31c5 ?_; (case Nw31c5 => k_asm); (case mw31c5 => k_mem); (case dw31c5 => k_asm); (case low31c5 => k_asm); (case hlw31c5 => k_asm)); dsimp only [Option.getD]))
  k_with "getMethod ref" => ((k_here; (with_reducible show wpAny _ _ (getMethod (Value.ref _) (PySem.Str.ofString "get") _) _ _ _); (refine' kdg_method (knd := intKind _ _) ?Nw32c0 ?mw32c0 ?dw32c0 ?_; (case Nw32c0 => k_asm); (case mw32c0 => k_mem); (case dw32c0 => k_asm))))
  k_with "getMethod ref" => ((k_here; (with_reducible show wpAny _ _ (getMethod (Value.ref _) (PySem.Str.ofString "get") _) _ _ _); (refine' kdg_method (knd := intKind _ _) ?Nw32c1 ?mw32c1 ?dw32c1 ?_; (case Nw32c1 => k_asm); (case mw32c1 => k_mem); (case dw32c1 => k_asm))))
  k_with "getMethod ref" => ((k_here; (with_reducible show wpAny _ _ (getMethod (Value.ref _) (PySem.Str.ofString "get") _) _ _ _); (refine' kdg_method (knd := intKind _ _) ?Nw32c2 ?mw32c2 ?dw32c2 ?_; (case Nw32c2 => k_asm); (case mw32c2 => k_mem); (case dw32c2 => k_asm))))
  k_with "getMethod ref" => ((k_here; (with_reducible show wpAny _ _ (getMethod (Value.ref _) (PySem.Str.ofString "get") _) _ _ _); (refine' kdg_method (knd := intKind _ _) ?Nw32c3 ?mw32c3 ?dw32c3 ?_; (case Nw32c3 => k_asm); (case mw32c3 => k_mem); (case dw32c3 => k_asm))))
  k_with "getMethod ref" => ((k_here; (with_reducible show wpAny _ _ (getMethod (Value.ref _) (PySem.Str.ofString "get") _) _ _ _); (refine' kdg_method (knd := intKind _ _) ?Nw32c4 ?mw32c4 ?dw32c4 ?_; (case Nw32c4 => k_asm); (case mw32c4 => k_mem); (case dw32c4 => k_asm))))
  k_with "getMethod ref" => ((k_here; (with_reducible show wpAny _ _ (getMethod (Value.ref _) (PySem.Str.ofString "get") _) _ _ _); (refine' kdg_method (knd := intKind _ _) ?Nw32c5 ?mw32c5 ?dw32c5 ?_; (case Nw32c5 => k_asm); (case mw32c5 => k_mem); (case dw32c5 => k_asm))))
  k_with "setItem ref int" => ((k_here; (refine' kda_set (knd := intKind _ _) ?Fw33c0 ?Nw33c0 ?Uw33c0 ?dw33c0 (intKind_is _ _ _ _) ?zw33c0 ?_; (case Fw33c0 => k_asm); (case Nw33c0 => k_asm); (case Uw33c0 => k_updF); (case dw33c0 => k_asm); (case zw33c0 => k_asm)); intro hqzw33c0 oqzw33c0 Fqzw33c0 Nqzw33c0 hdqzw33c0; (try dsimp only at Nqzw33c0)))
  k_with "setItem ref int" => ((k_here; (refine' kda_set (knd := intKind _ _) ?Fw33c1 ?Nw33c1 ?Uw33c1 ?dw33c1 (intKind_is _ _ _ _) ?zw33c1 ?_; (case Fw33c1 => k_asm); (case Nw33c1 => k_asm); (case Uw33c1 => k_updF); (case dw33c1 => k_asm); (case zw33c1 => k_asm)); intro hqzw33c1 oqzw33c1 Fqzw33c1 Nqzw33c1 hdqzw33c1; (try dsimp only at Nqzw33c1)))
  k_with "setItem ref int" => ((k_here; (refine' kda_set (knd := intKind _ _) ?Fw33c2 ?Nw33c2 ?Uw33c2 ?dw33c2 (intKind_is _ _ _ _) ?zw33c2 ?_; (case Fw33c2 => k_asm); (case Nw33c2 => k_asm); (case Uw33c2 => k_updF); (case dw33c2 => k_asm); (case zw33c2 => k_asm)); intro hqzw33c2 oqzw33c2 Fqzw33c2 Nqzw33c2 hdqzw33c2; (try dsimp only at Nqzw33c2)))
  k_with "setItem ref int" => ((k_here; (refine' kda_set (knd := intKind _ _) ?Fw33c3 ?Nw33c3 ?Uw33c3 ?dw33c3 (intKind_is _ _ _ _) ?zw33c3 ?_; (case Fw33c3 => k_asm); (case Nw33c3 => k_asm); (case Uw33c3 => k_updF); (case dw33c3 => k_asm); (case zw33c3 => k_asm)); intro hqzw33c3 oqzw33c3 Fqzw33c3 Nqzw33c3 hdqzw33c3; (try dsimp only at Nqzw33c3)))
  k_with "setItem ref int" => ((k_here; (refine' kda_set (knd := intKind _ _) ?Fw33c4 ?Nw33c4 ?Uw33c4 ?dw33c4 (intKind_is _ _ _ _) ?zw33c4 ?_; (case Fw33c4 => k_asm); (case Nw33c4 => k_asm); (case Uw33c4 => k_updF); (case dw33c4 => k_asm); (case zw33c4 => k_asm)); intro hqzw33c4 oqzw33c4 Fqzw33c4 Nqzw33c4 hdqzw33c4; (try dsimp only at Nqzw33c4)))
  k_with "setItem ref int" => ((k_here; (refine' kda_set (knd := intKind _ _) ?Fw33c5 ?Nw33c5 ?Uw33c5 ?dw33c5 (intKind_is _ _ _ _) ?zw33c5 ?_; (case Fw33c5 => k_asm); (case Nw33c5 => k_asm); (case Uw33c5 => k_updF); (case dw33c5 => k_asm); (case zw33c5 => k_asm)); intro hqzw33c5 oqzw33c5 Fqzw33c5 Nqzw33c5 hdqzw33c5; (try dsimp only at Nqzw33c5)))
  unfold Does
  k_fill
  intro gd cn cs aa ccd cl outer A₀ base h₀ L m mean mg mb s Q E B F X N T hk hret
  refine wpAny_call ?_
  k_dflt (k_extra "own enter")
  k_steps
  refine' ret_new hret ?F ?N ?d ?h1 ?h2 ?h3 ?h4
  (case F => k_asm)
  (case N => k_asm)
  (case d => assumption)
  (case h1 => assumption)
  (case h2 => exact (‹_ ∧ _ ∧ _ ∧ AllLt _ rest›).1)
  (case h3 => exact (‹@LT.lt Nat _ D _ ∧ AllLt _ rest›).1)
  (case h4 => exact (‹@LT.lt Nat _ D _ ∧ AllLt _ rest›).2)
end
end Mine
end
-- part C5g
section
namespace Mine
theorem does_mono {w : World} {dp un : Nat} {f : Addr} {vs : List Value} {led led' : Led} {R R' : Value → Led → Prop} (D : Does w dp un f vs led R) (hs : ∀ p ∈ led, p ∈ led') (hR : ∀ v l, R v l → R' v l) : Does w dp un f vs led' R' :=
  fun gd cn cs a ccd cl outer A₀ base h₀ L m mean mg mb s Q E B F X N T hk hret => D gd cn cs a ccd cl outer A₀ base h₀ L m mean mg mb s Q E B F X (cb_drop N hs) T hk fun v n h tk F N r => hret v n h tk F N (hR v n r)
theorem getnode_does (w : World) (led : Led) (x dx D : Addr) (nodes : List Nd) (rdy : Value) (k : Int) (tk : Tok) (G : Gr w led x dx D nodes rdy) (hl : nodes.length ≤ 999) :
    Does w 600 5000 110 [.ref x, .int k tk] led (fun v led' => ∃ d nodes', v = .ref d.a ∧ d ∈ nodes' ∧ d.key = k ∧ Gr w led' x dx D nodes' rdy ∧ Kept led led' (D :: gaddrs nodes) ∧ Newer led (D :: gaddrs nodes) (D :: gaddrs nodes') ∧
      (nodes' = nodes ∨ ((∀ e ∈ nodes, e.key ≠ k) ∧ nodes' = nodes ++ [d] ∧ d.np = 0 ∧ d.succ = []))) := by
  obtain ⟨q1, q2, q3, q4, u1, u2, u3, u4, v3, v4, n, ha⟩ := G.attr
  obtain ⟨oD, hm, hd⟩ := G.dict
  cases hv : PySem.valueAt (kvsOf nodes) k with
  | some v =>
    obtain ⟨d, hdm, hk, rfl⟩ := value_some hv
    refine does_mono (getnode_old w led D x dx oD (kvsOf nodes) k tk q1 q2 q3 q4 u1 u2 u3 u4 rdy v3 v4 n d.a G.inst ha hm hd G.lo hv) (fun _ h => h) ?_
    rintro v l ⟨rfl, rfl⟩
    exact ⟨d, nodes, rfl, hdm, hk, G, fun p hp _ => hp, fun b hb => .inl hb, .inl rfl⟩
  | none =>
    obtain ⟨rest, r1, r2, r3⟩ := split_led led D
    have hb := G.bad (c := D) (.head _)
    have hno := value_none hv
    have hsz : (kvsOf nodes).length ≤ sizeLine := by
      unfold kvsOf
      rw [List.length_map]
      have : sizeLine = 16777216 := by decide
      omega
    refine does_mono (getnode_new w rest D x dx oD (kvsOf nodes) k tk q1 q2 q3 q4 u1 u2 u3 u4 rdy v3 v4 n (r2 _ G.inst hb.1) (r2 _ ha hb.2) hd G.lo r1 hsz hv) ?_ ?_
    · intro p hp
      rcases List.mem_cons.mp hp with rfl | hp
      · exact hm
      · exact r3 p hp
    · rintro v l ⟨a, sl, dd, tn, oD', rfl, rfl, hd', ⟨l1, l2, l3⟩, l4⟩
      have l4' := allLt_iff.mp l4
      have low : ∀ p ∈ led, @LT.lt Nat _ p.1 dd := fun p hp => by
        by_cases e : p.1 = D
        · rw [e]; exact l3
        · exact l4' p (r2 p hp e)
      have lowA : ∀ b ∈ gaddrs nodes, @LT.lt Nat _ b dd := fun b hb => by
        obtain ⟨e, he, hbe⟩ := List.mem_flatMap.mp hb
        obtain ⟨i1, i2, i3⟩ := G.each e he
        simp only [Nd.adrs, List.mem_cons, List.not_mem_nil, or_false] at hbe
        rcases hbe with rfl | rfl | rfl
        · exact low _ i1
        · exact low _ i2
        · exact low _ i3
      let d : Nd := ⟨k, tk, a, 0, tn, sl, dd, [], 0⟩
      have hga : gaddrs (nodes ++ [d]) = gaddrs nodes ++ [a, sl, dd] := by simp [gaddrs, Nd.adrs, d]
      have lx : @LT.lt Nat _ x dd := low _ G.inst
      have ldx : @LT.lt Nat _ dx dd := low _ ha
      refine ⟨d, nodes ++ [d], rfl, by simp, rfl, ⟨?_, ⟨q1, q2, q3, q4, u1, u2, u3, u4, v3, v4, n, ?_⟩, ⟨oD', ?_, ?_⟩, G.lo, ?_, ?_, ?_⟩, ?_, ?_, .inr ⟨hno, rfl, rfl, rfl⟩⟩
      · exact .tail _ (.tail _ (.tail _ (.tail _ (r2 _ G.inst hb.1))))
      · exact .tail _ (.tail _ (.tail _ (.tail _ (r2 _ ha hb.2))))
      · exact .tail _ (.tail _ (.tail _ (.head _)))
      · rw [stored_new hno] at hd'
        have : kvsOf (nodes ++ [d]) = kvsOf nodes ++ [(k, .ref a)] := by simp [kvsOf, d]
        rw [this]; exact hd'
      · intro e he
        rcases List.mem_append.mp he with he | he
        · have ne : ∀ b ∈ e.adrs, b ≠ D := fun b hb q => G.badD (mem_gaddrs he hb) q.symm
          obtain ⟨i1, i2, i3⟩ := G.each e he
          have up : ∀ p : Addr × Obj, p ∈ led → p.1 ≠ D → p ∈ (sl, listOf #[] 0) :: (a, nodeObj k tk 0 tn sl dd) :: (dd, dictOf [] 0) :: (D, oD') :: rest := fun p hp h => .tail _ (.tail _ (.tail _ (.tail _ (r2 p hp h))))
          exact ⟨up _ i1 (ne _ (.head _)), up _ i2 (ne _ (.tail _ (.head _))), up _ i3 (ne _ (.tail _ (.tail _ (.head _))))⟩
        · rw [List.mem_singleton.mp he]
          exact ⟨.tail _ (.head _), .head _, .tail _ (.tail _ (.head _))⟩
      · rw [hga]
        have hnd : (x :: dx :: D :: gaddrs nodes).Nodup := G.nodup
        have hall : ∀ b ∈ x :: dx :: D :: gaddrs nodes, @LT.lt Nat _ b dd := by
          intro b hb
          rcases List.mem_cons.mp hb with rfl | hb
          · exact lx
          rcases List.mem_cons.mp hb with rfl | hb
          · exact ldx
          rcases List.mem_cons.mp hb with rfl | hb
          · exact l3
          · exact lowA b hb
        have h2 : ((x :: dx :: D :: gaddrs nodes) ++ [a, sl, dd]).Nodup := by
          refine List.nodup_append.mpr ⟨hnd, ?_, ?_⟩
          · simp only [List.nodup_cons, List.mem_cons, List.not_mem_nil, or_false, not_or, List.nodup_nil, not_false_eq_true, and_true]
            exact ⟨⟨Nat.ne_of_lt l2, Nat.ne_of_gt l1⟩, Nat.ne_of_gt (Nat.lt_trans l1 l2)⟩
          · intro b hb c hc
            have hlt := hall b hb
            simp only [List.mem_cons, List.not_mem_nil, or_false] at hc
            rcases hc with rfl | rfl | rfl
            · exact Nat.ne_of_lt (Nat.lt_trans hlt l1)
            · exact Nat.ne_of_lt (Nat.lt_trans hlt (Nat.lt_trans l1 l2))
            · exact Nat.ne_of_lt hlt
        exact h2
      · rw [List.length_append]; simp only [List.length_singleton]; omega
      · intro p hp hnb
        exact .tail _ (.tail _ (.tail _ (.tail _ (r2 p hp fun e => hnb (e ▸ .head _)))))
      · intro b hb
        rw [hga] at hb
        rcases List.mem_cons.mp hb with rfl | hb
        · exact .inl (.head _)
        · rcases List.mem_append.mp hb with hb | hb
          · exact .inl (.tail _ hb)
          · refine .inr fun p hp => ?_
            have h1 := low p hp
            simp only [List.mem_cons, List.not_mem_nil, or_false] at hb
            rcases hb with rfl | rfl | rfl
            · exact Nat.lt_trans h1 l1
            · exact Nat.lt_trans h1 (Nat.lt_trans l1 l2)
            · exact h1
end Mine
end
-- part C6
section
namespace Mine
section
theorem add_does (w : World) (led : Led) (x dx D : Addr) (nodes : List Nd) (g : List (Int × List Int)) (a b : Int) (ta tb : Tok) (G : Gr w led x dx D nodes .none) (hl : nodes.length ≤ 990) (hA : Abs nodes g) (hS : Short g) :
    Does w 590 4900 117 [.ref x, .int a ta, .int b tb] led (fun v led' => v = .none ∧ ∃ nodes', Gr w led' x dx D nodes' .none ∧ Kept led led' (D :: gaddrs nodes) ∧ Newer led (D :: gaddrs nodes) (D :: gaddrs nodes') ∧ Abs nodes' (addG g a b)) := by
  obtain ⟨q1, q2, q3, q4, u1, u2, u3, u4, v3, v4, n, ha⟩ := G.attr
  have hx := G.inst
  w_top off
  k_with_none
  k_with "own enter" => (first | (refine' code_def ?k1w34c0 ?k2w34c0 ?k3w34c0 ?k4w34c0 ?k5w34c0 ?kAw34c0 ?kFw34c0 ?kKw34c0 ?k6w34c0 ?k7w34c0 ?k8w34c0 ?k9w34c0 ?kBw34c0 ?_ ?c2w34c0 ?c3w34c0 ?c4w34c0 ?c5w34c0; (case kAw34c0 => exact rfl); (case kFw34c0 => exact rfl); (case kKw34c0 => assumption); (case k1w34c0 => k_asm); (case k2w34c0 => k_asm); (case k3w34c0 => k_asm); (case k4w34c0 => k_asm); (case k5w34c0 => k_asm); (case k6w34c0 => k_is); (case k7w34c0 => k_is); (case k8w34c0 => ktr_room); (case k9w34c0 => first | exact BindsTo.of_eq rfl | exact binds_K (by k_in) rfl (by k_is) rfl rfl rfl); (case c5w34c0 => decide); (case kBw34c0 => exact locs rfl); (case c2w34c0 => exact rfl); (case c3w34c0 => exact rfl); (case c4w34c0 => exact rfl); k_whole; intro gqzw34c0 Lqzw34c0 hqzw34c0 FGqzw34c0 Fqzw34c0 Nqzw34c0 Bqzw34c0 Xqzw34c0 Tqzw34c0; (try dsimp only); (try k_lift Bqzw34c0); (try k_fold)) | (refine' code_defC ?k1w34c0 ?k2w34c0 ?k3w34c0 ?k4w34c0 ?k5w34c0 ?kAw34c0 ?kFw34c0 ?kKw34c0 ?k6w34c0 ?k7w34c0 ?k8w34c0 ?k9w34c0 ?kBw34c0 ?kDw34c0 ?_ ?c2w34c0 ?c3w34c0 ?c4w34c0; (case kAw34c0 => exact rfl); (case kFw34c0 => exact rfl); (case kKw34c0 => assumption); (case k1w34c0 => k_asm); (case k2w34c0 => k_asm); (case k3w34c0 => k_asm); (case k4w34c0 => k_asm); (case k5w34c0 => k_asm); (case k6w34c0 => k_is); (case k7w34c0 => k_is); (case k8w34c0 => ktr_room); (case k9w34c0 => first | exact BindsTo.of_eq rfl | exact binds_K (by k_in) rfl (by k_is) rfl rfl rfl); (case kBw34c0 => exact rfl); (case kDw34c0 => decide +kernel); (case c2w34c0 => exact rfl); (case c3w34c0 => exact rfl); (case c4w34c0 => exact rfl); k_whole; intro gqzw34c0 Lqzw34c0 hqzw34c0 tkqzw34c0 cellsqzw34c0 FGqzw34c0 Fqzw34c0 Nqzw34c0 Yqzw34c0 Bqzw34c0 Xqzw34c0 Tqzw34c0 l1qzw34c0; (try k_lt l1qzw34c0); k_cells Yqzw34c0; (try simp only [List.cons_append, List.nil_append] at Nqzw34c0); (try dsimp only); (try k_lift Bqzw34c0); (try k_fold)) | (refine' kp_rest ?k1w34c0 ?k2w34c0 ?k3w34c0 ?k4w34c0 ?k5w34c0 ?kAw34c0 ?kFw34c0 ?kKw34c0 ?k6w34c0 ?k7w34c0 ?k8w34c0 ?kVw34c0 ?kPw34c0 ?kGw34c0 ?kBw34c0 ?_ ?c2w34c0 ?c3w34c0 ?c4w34c0 ?c5w34c0; (case kAw34c0 => exact rfl); (case kFw34c0 => exact rfl); (case kKw34c0 => assumption); (case k1w34c0 => k_asm); (case k2w34c0 => k_asm); (case k3w34c0 => k_asm); (case k4w34c0 => k_asm); (case k5w34c0 => k_asm); (case k6w34c0 => k_is); (case k7w34c0 => k_is); (case k8w34c0 => ktr_room); (case kVw34c0 => kl_lit); (case kPw34c0 => exact rfl); (case kGw34c0 => exact fun _ => rfl); (case kBw34c0 => exact fun _ => locs rfl); (case c5w34c0 => decide); (case c2w34c0 => exact rfl); (case c3w34c0 => exact rfl); (case c4w34c0 => exact rfl); k_whole; intro Dqzw34c0 gqzw34c0 Lqzw34c0 hqzw34c0 l1qzw34c0 FGqzw34c0 Fqzw34c0 Nqzw34c0 Bqzw34c0 Xqzw34c0 Tqzw34c0; (try k_lt l1qzw34c0); (try dsimp only); (try k_lift Bqzw34c0); (try k_fold)))
  k_with "own all" => (first | assumption | exact Mine.allNe' (by assumption) (by omega) | exact Mine.allNe' (And.right (by assumption)) (by omega) | exact Mine.allNe' (And.right (And.right (by assumption))) (by omega) | exact Mine.allNe' (And.right (And.right (And.right (by assumption)))) (by omega) | exact Mine.allNe' (And.right (And.right (And.right (And.right (by assumption))))) (by omega) | exact Mine.allNe' (And.right (And.right (And.right (And.right (And.right (by assumption)))))) (by omega) | exact Mine.allNe2 (by assumption) (by omega) | fail "k_all: no bound of the rest")
  k_with "call ref" => ((refine Stop.out ?_))
  k_with "exec For Name Name cons nil" => ((refine Stop.out ?_))
  k_with "call builtin:len" => ((k_here; refine' PyProof.Rows.len_tuple ?Tw38c0 ?zw38c0 ?_; (case Tw38c0 => exact News.isTup (by k_asm) (by k_mem)); (case zw38c0 => exact Int.lt_of_toNat_lt (by decide))))
  k_with "call builtin:len" => ((k_here; refine' PyProof.Rows.len_tuple ?Tw38c1 ?zw38c1 ?_; (case Tw38c1 => exact News.isTup (by k_asm) (by k_mem)); (case zw38c1 => exact Int.lt_of_toNat_lt (by decide))))
  k_with "call builtin:len" => ((k_here; refine' PyProof.Rows.len_tuple ?Tw38c2 ?zw38c2 ?_; (case Tw38c2 => exact News.isTup (by k_asm) (by k_mem)); (case zw38c2 => exact Int.lt_of_toNat_lt (by decide))))
  k_with "call builtin:len" => ((k_here; refine' PyProof.Rows.len_tuple ?Tw38c3 ?zw38c3 ?_; (case Tw38c3 => exact News.isTup (by k_asm) (by k_mem)); (case zw38c3 => exact Int.lt_of_toNat_lt (by decide))))
  k_with "call builtin:len" => ((k_here; refine' PyProof.Rows.len_tuple ?Tw38c4 ?zw38c4 ?_; (case Tw38c4 => exact News.isTup (by k_asm) (by k_mem)); (case zw38c4 => exact Int.lt_of_toNat_lt (by decide))))
  k_with "call builtin:len" => ((k_here; refine' PyProof.Rows.len_tuple ?Tw38c5 ?zw38c5 ?_; (case Tw38c5 => exact News.isTup (by k_asm) (by k_mem)); (case zw38c5 => exact Int.lt_of_toNat_lt (by decide))))
  k_with "call builtin:list.append" => ((k_here; k_dflt (refine' append_K ?k1w39c0 ?k2w39c0 ?k3w39c0 ?_ ?zw39c0; (case k1w39c0 => k_asm); (case k2w39c0 => k_asm); (case k3w39c0 => k_upd); (case zw39c0 => k_asm); k_whole); intro hqzw39c0 Fqzw39c0 Nqzw39c0; (try k_sweep)))
  k_with "call builtin:list.append" => ((k_here; k_dflt (refine' append_K ?k1w39c1 ?k2w39c1 ?k3w39c1 ?_ ?zw39c1; (case k1w39c1 => k_asm); (case k2w39c1 => k_asm); (case k3w39c1 => k_upd); (case zw39c1 => k_asm); k_whole); intro hqzw39c1 Fqzw39c1 Nqzw39c1; (try k_sweep)))
  k_with "call builtin:list.append" => ((k_here; k_dflt (refine' append_K ?k1w39c2 ?k2w39c2 ?k3w39c2 ?_ ?zw39c2; (case k1w39c2 => k_asm); (case k2w39c2 => k_asm); (case k3w39c2 => k_upd); (case zw39c2 => k_asm); k_whole); intro hqzw39c2 Fqzw39c2 Nqzw39c2; (try k_sweep)))
  k_with "call builtin:list.append" => ((k_here; k_dflt (refine' append_K ?k1w39c3 ?k2w39c3 ?k3w39c3 ?_ ?zw39c3; (case k1w39c3 => k_asm); (case k2w39c3 => k_asm); (case k3w39c3 => k_upd); (case zw39c3 => k_asm); k_whole); intro hqzw39c3 Fqzw39c3 Nqzw39c3; (try k_sweep)))
  k_with "call builtin:list.append" => ((k_here; k_dflt (refine' append_K ?k1w39c4 ?k2w39c4 ?k3w39c4 ?_ ?zw39c4; (case k1w39c4 => k_asm); (case k2w39c4 => k_asm); (case k3w39c4 => k_upd); (case zw39c4 => k_asm); k_whole); intro hqzw39c4 Fqzw39c4 Nqzw39c4; (try k_sweep)))
  k_with "call builtin:list.append" => ((k_here; k_dflt (refine' append_K ?k1w39c5 ?k2w39c5 ?k3w39c5 ?_ ?zw39c5; (case k1w39c5 => k_asm); (case k2w39c5 => k_asm); (case k3w39c5 => k_upd); (case zw39c5 => k_asm); k_whole); intro hqzw39c5 Fqzw39c5 Nqzw39c5; (try k_sweep)))
  unfold Does
  k_fill
  intro gd cn cs aa ccd cl outer A₀ base h₀ L m mean mg mb s Q E B F X N T hk hret
  refine wpAny_call ?_
  k_dflt (k_extra "own enter")
  k_steps
  refine Stop.mk ?_
  rename ∀ p ∈ led, p.1 < _ => hT
  rename Fr _ _ _ (fun y => _) => F1
  rename News _ _ _ _ => N1
  refine does_use (getnode_does w _ x dx D nodes .none a _ (G.mono fun p hp => .tail _ hp) (by omega)) (by k_asm) F1 (by k_asm) N1 (by k_asm) rfl (Nat.le_of_ble_eq_true rfl) (Nat.le_of_ble_eq_true rfl) ?_
  intro v led1 h1 tk1 F2 N2 hh
  refine ex2 hh fun d1 nodes1 hh2 => an7 hh2 fun ev hd1 hk1 G1 K1 W1 C1 => ?_
  clear hh hh2
  subst ev
  have hTm := K1 _ (List.mem_cons_self) (G.off hT)
  have hI1 := G1.each d1 hd1
  refine ex1 (split_led led1 d1.a) fun rest1 hh => an3 hh fun r1 r2 r3 => ?_
  clear hh
  have ne1 : ∀ q ∈ [d1.sl, d1.dd], q ≠ d1.a := fun q hq e => by
    have := nodup_adrs G1.nd hd1
    rw [Nd.adrs, List.nodup_cons] at this
    exact this.1 (e ▸ hq)
  have hdd1 := r2 _ hI1.2.2 (ne1 _ (.tail _ (.head _)))
  have hTo := W1.off List.mem_cons_self (G.off hT)
  have hTm2 := r2 _ hTm (fun e => hTo (.tail _ (mem_gaddrs hd1 (adr_a e))))
  have N3 := front_led N2 hI1.1 r3
  have hx1 := r2 _ G1.inst (G1.bad (.tail _ (mem_gaddrs hd1 (adr_a rfl)))).1
  refine ex11 G1.attr fun q1' q2' q3' q4' u1' u2' u3' u4' v3' v4' n' ha' => ?_
  have hdx1 := r2 _ ha' (G1.bad (.tail _ (mem_gaddrs hd1 (adr_a rfl)))).2
  k_steps
  refine Stop.mk ?_
  rename Fr _ _ _ (fun y => _) => F4
  rename News _ _ _ _ => N4
  obtain ⟨tn4, N4'⟩ : ∃ tn4, News _ _ _ ((d1.a, nodeObj d1.key d1.tk (d1.np + 1) tn4 d1.sl d1.dd) :: rest1) := ⟨_, N4⟩
  clear N4
  let d1' : Nd := { d1 with np := d1.np + 1, tn := tn4 }
  have G2 : Gr w ((d1.a, nodeObj d1.key d1.tk (d1.np + 1) tn4 d1.sl d1.dd) :: rest1) x dx D (setNd d1.a d1' nodes1) .none :=
    G1.upd hd1 (adr_a rfl) rfl rfl r2 ⟨.head _, .tail _ (r2 _ hI1.2.1 (ne1 _ (.head _))), .tail _ hdd1⟩
  have same1 : ∀ e ∈ nodes1, e.a = d1.a → e = d1 := fun e he h => same_node G1.nd he hd1 (c := e.a) (adr_a rfl) (adr_a h)
  have hga2 : gaddrs (setNd d1.a d1' nodes1) = gaddrs nodes1 := gaddrs_set fun e he h => by rw [same1 e he h]; rfl
  have A1 := hA.get hd1 hk1 C1
  have A2 : Abs (setNd d1.a d1' nodes1) (ensure g a) := A1.same fun e he h => by rw [same1 e he h]; exact ⟨rfl, rfl⟩
  have hl2 : (setNd d1.a d1' nodes1).length ≤ 999 := by
    rw [setNd, List.length_map]
    rcases C1 with rfl | ⟨_, rfl, _, _⟩
    · omega
    · rw [List.length_append, List.length_singleton]; omega
  refine wpAny_For ?_
  walk1
  refine for_one (n := 0) (fun I m led₂ => ∃ nodes', Gr w led₂ x dx D nodes' .none ∧ I ∉ x :: dx :: D :: gaddrs nodes' ∧ Kept led led₂ (D :: gaddrs nodes) ∧ Newer led (D :: gaddrs nodes) (D :: gaddrs nodes') ∧ Abs nodes' (addG g a b)) rfl (by rfl) (by rfl) rfl F4 N4' (.tail _ hTm2) ?_ ?_
  · intro I h5 tk5 oI hI F5 N5
    show wpAny _ _ _ _ _ _
    k_fold
    k_steps
    refine Stop.mk ?_
    refine does_use (getnode_does w _ x dx D (setNd d1.a d1' nodes1) .none b _ (G2.mono fun p hp => .tail _ hp) hl2) (by k_asm) F5 (by k_asm) N5 (by k_asm) rfl (Nat.le_of_ble_eq_true rfl) (Nat.le_of_ble_eq_true rfl) ?_
    intro v led3 h6 tk6 F6 N6 hh
    refine ex2 hh fun d2 nodes3 hh2 => an7 hh2 fun ev hd2 hk2 G3 K3 W3 C3 => ?_
    clear hh hh2
    subst ev
    have hI3 := G3.each d2 hd2
    refine ex1 (split_led led3 d2.sl) fun rest3 hh => an3 hh fun s1 s2 s3 => ?_
    clear hh
    have hdn := nodup_adrs G3.nd hd2
    simp only [Nd.adrs, List.nodup_cons, List.mem_cons, List.not_mem_nil, or_false, not_or] at hdn
    have hda2 := s2 _ hI3.1 hdn.1.1
    have hdd2 := s2 _ hI3.2.2 (fun e => hdn.2.1 e.symm)
    have A3 := A2.get hd2 hk2 C3
    have hsz3 := A3.size ((hS.ensure a).ensure b) hd2
    have N7 := front_led N6 hI3.2.1 s3
    k_steps
    rename News _ _ _ (_ :: rest3) => N8
    rename Fr _ _ _ (fun y => if y = Str.ofString "pred_info" then _ else _) => F8
    rw [List.push_toArray] at N8
    let d2' : Nd := { d2 with succ := d2.succ ++ [.int a ta], ep := d2.ep + 1 }
    have same3 : ∀ e ∈ nodes3, e.a = d2.a → e = d2 := fun e he h => same_node G3.nd he hd2 (c := e.a) (adr_a rfl) (adr_a h)
    have hga4 : gaddrs (setNd d2.a d2' nodes3) = gaddrs nodes3 := gaddrs_set fun e he h => by rw [same3 e he h]; rfl
    have G4 : Gr w ((d2.sl, listOf (d2.succ ++ [Value.int a ta]).toArray (d2.ep + 1)) :: rest3) x dx D (setNd d2.a d2' nodes3) .none :=
      G3.upd hd2 (adr_sl rfl) rfl rfl s2 ⟨.tail _ hda2, .head _, .tail _ hdd2⟩
    have A4 : Abs (setNd d2.a d2' nodes3) (addG g a b) := A3.bump hk2 (fun e he => ⟨fun h => by rw [same3 e he h]; exact hk2, fun h => by rw [key_inj G3.keysNodup he hd2 (h.trans hk2.symm)]⟩) (fun e he h => by rw [same3 e he h])
    have hIo : I ∉ D :: gaddrs (setNd d1.a d1' nodes1) := G2.off hI
    have hIo3 := W3.off List.mem_cons_self hIo
    have pass : ∀ p : Addr × Obj, p ∈ (I, oI) :: (d1.a, nodeObj d1.key d1.tk (d1.np + 1) tn4 d1.sl d1.dd) :: rest1 → p.1 ∉ D :: gaddrs (setNd d1.a d1' nodes1) → p ∈ (d2.sl, listOf (d2.succ ++ [Value.int a ta]).toArray (d2.ep + 1)) :: rest3 := fun p hp hb =>
      .tail _ (s2 p (K3 p hp hb) fun e => W3.off (c := p.1) (o := p.2) hp hb (.tail _ (mem_gaddrs hd2 (adr_sl e))))
    have hsub : ∀ c ∈ D :: gaddrs nodes, c ∈ D :: gaddrs nodes1 := fun c hc => by
      rcases C1 with rfl | ⟨_, rfl, _, _⟩
      · exact hc
      · rcases List.mem_cons.mp hc with rfl | hc
        · exact .head _
        · refine .tail _ ?_
          unfold gaddrs at hc ⊢
          rw [List.flatMap_append]
          exact List.mem_append_left _ hc
    have pass0 : ∀ p ∈ led, p.1 ∉ D :: gaddrs nodes → p ∈ (I, oI) :: (d1.a, nodeObj d1.key d1.tk (d1.np + 1) tn4 d1.sl d1.dd) :: rest1 ∧ p.1 ∉ D :: gaddrs (setNd d1.a d1' nodes1) := fun p hp hb => by
      have h1 := W1.off (c := p.1) (o := p.2) (.tail _ hp) hb
      refine ⟨.tail _ (.tail _ (r2 p (K1 p (.tail _ hp) hb) fun e => h1 (.tail _ (mem_gaddrs hd1 (adr_a e))))), ?_⟩
      rw [hga2]; exact h1
    refine ⟨rfl, _, _, _, _, rfl, F8, N8, pass _ List.mem_cons_self hIo, pass _ (.tail _ (.tail _ hTm2)) (by rw [hga2]; exact hTo), setNd d2.a d2' nodes3, G4, ?_, fun p hp hb => pass p (pass0 p hp hb).1 (pass0 p hp hb).2, ?_, A4⟩
    · rw [hga4]
      refine fun hc => ?_
      rcases List.mem_cons.mp hc with e | hc
      · have := hI _ (.tail _ hx1); rw [← e] at this; exact Nat.lt_irrefl _ this
      rcases List.mem_cons.mp hc with e | hc
      · have := hI _ (.tail _ hdx1); rw [← e] at this; exact Nat.lt_irrefl _ this
      exact hIo3 hc
    · rw [hga4]
      intro c hc
      rcases W3 c hc with h | h
      · rw [hga2] at h
        exact (W1.mono fun p hp => .tail _ hp) c h
      · refine .inr fun p hp => ?_
        by_cases hb : p.1 ∈ D :: gaddrs nodes
        · refine (G2.mono fun p hp => .tail _ hp).below h p.1 ?_
          rw [hga2]; exact hsub _ hb
        · exact h p (pass0 p hp hb).1
  · intro I m₂ led₂ led₃ h tk hI hh hk FF NN
    refine ex1 hh fun nodes4 hh2 => an5 hh2 fun G4 hI4 K4 W4 A4 => ?_
    clear hh hh2
    dsimp only
    k_steps
    refine hret _ _ _ _ (by k_asm) (by k_asm) ⟨rfl, nodes4, G4.sub fun p hp hb => hk p hp fun e => hI4 (e ▸ hb), ?_, W4, A4⟩
    intro p hp hb
    refine hk p (K4 p hp hb) fun e => ?_
    have h1 := W1.off (c := p.1) (o := p.2) (.tail _ hp) hb
    have := hI _ (.tail _ (r2 p (K1 p (.tail _ hp) hb) fun e => h1 (.tail _ (mem_gaddrs hd1 (adr_a e)))))
    rw [e] at this
    exact Nat.lt_irrefl _ this
end
end Mine
end
-- part C9
section
namespace Mine
section
theorem find_none (w : World) (led : Led) (x dx D : Addr) (rdy : Value) (G : Gr w led x dx D [] rdy) :
    Does w 590 4900 157 [.ref x] led (fun v led' => v = .none ∧ led' = led) := by
  obtain ⟨q1, q2, q3, q4, u1, u2, u3, u4, v3, v4, n, ha⟩ := G.attr
  have hx := G.inst
  obtain ⟨oD, hDm, hD⟩ := G.dict
  w_top off
  k_with_none
  k_with "own enter" => (first | (refine' code_def ?k1w40c0 ?k2w40c0 ?k3w40c0 ?k4w40c0 ?k5w40c0 ?kAw40c0 ?kFw40c0 ?kKw40c0 ?k6w40c0 ?k7w40c0 ?k8w40c0 ?k9w40c0 ?kBw40c0 ?_ ?c2w40c0 ?c3w40c0 ?c4w40c0 ?c5w40c0; (case kAw40c0 => exact rfl); (case kFw40c0 => exact rfl); (case kKw40c0 => assumption); (case k1w40c0 => k_asm); (case k2w40c0 => k_asm); (case k3w40c0 => k_asm); (case k4w40c0 => k_asm); (case k5w40c0 => k_asm); (case k6w40c0 => k_is); (case k7w40c0 => k_is); (case k8w40c0 => ktr_room); (case k9w40c0 => first | exact BindsTo.of_eq rfl | exact binds_K (by k_in) rfl (by k_is) rfl rfl rfl); (case c5w40c0 => decide); (case kBw40c0 => exact locs rfl); (case c2w40c0 => exact rfl); (case c3w40c0 => exact rfl); (case c4w40c0 => exact rfl); k_whole; intro gqzw40c0 Lqzw40c0 hqzw40c0 FGqzw40c0 Fqzw40c0 Nqzw40c0 Bqzw40c0 Xqzw40c0 Tqzw40c0; (try dsimp only); (try k_lift Bqzw40c0); (try k_fold)) | (refine' code_defC ?k1w40c0 ?k2w40c0 ?k3w40c0 ?k4w40c0 ?k5w40c0 ?kAw40c0 ?kFw40c0 ?kKw40c0 ?k6w40c0 ?k7w40c0 ?k8w40c0 ?k9w40c0 ?kBw40c0 ?kDw40c0 ?_ ?c2w40c0 ?c3w40c0 ?c4w40c0; (case kAw40c0 => exact rfl); (case kFw40c0 => exact rfl); (case kKw40c0 => assumption); (case k1w40c0 => k_asm); (case k2w40c0 => k_asm); (case k3w40c0 => k_asm); (case k4w40c0 => k_asm); (case k5w40c0 => k_asm); (case k6w40c0 => k_is); (case k7w40c0 => k_is); (case k8w40c0 => ktr_room); (case k9w40c0 => first | exact BindsTo.of_eq rfl | exact binds_K (by k_in) rfl (by k_is) rfl rfl rfl); (case kBw40c0 => exact rfl); (case kDw40c0 => decide +kernel); (case c2w40c0 => exact rfl); (case c3w40c0 => exact rfl); (case c4w40c0 => exact rfl); k_whole; intro gqzw40c0 Lqzw40c0 hqzw40c0 tkqzw40c0 cellsqzw40c0 FGqzw40c0 Fqzw40c0 Nqzw40c0 Yqzw40c0 Bqzw40c0 Xqzw40c0 Tqzw40c0 l1qzw40c0; (try k_lt l1qzw40c0); k_cells Yqzw40c0; (try simp only [List.cons_append, List.nil_append] at Nqzw40c0); (try dsimp only); (try k_lift Bqzw40c0); (try k_fold)) | (refine' kp_rest ?k1w40c0 ?k2w40c0 ?k3w40c0 ?k4w40c0 ?k5w40c0 ?kAw40c0 ?kFw40c0 ?kKw40c0 ?k6w40c0 ?k7w40c0 ?k8w40c0 ?kVw40c0 ?kPw40c0 ?kGw40c0 ?kBw40c0 ?_ ?c2w40c0 ?c3w40c0 ?c4w40c0 ?c5w40c0; (case kAw40c0 => exact rfl); (case kFw40c0 => exact rfl); (case kKw40c0 => assumption); (case k1w40c0 => k_asm); (case k2w40c0 => k_asm); (case k3w40c0 => k_asm); (case k4w40c0 => k_asm); (case k5w40c0 => k_asm); (case k6w40c0 => k_is); (case k7w40c0 => k_is); (case k8w40c0 => ktr_room); (case kVw40c0 => kl_lit); (case kPw40c0 => exact rfl); (case kGw40c0 => exact fun _ => rfl); (case kBw40c0 => exact fun _ => locs rfl); (case c5w40c0 => decide); (case c2w40c0 => exact rfl); (case c3w40c0 => exact rfl); (case c4w40c0 => exact rfl); k_whole; intro Dqzw40c0 gqzw40c0 Lqzw40c0 hqzw40c0 l1qzw40c0 FGqzw40c0 Fqzw40c0 Nqzw40c0 Bqzw40c0 Xqzw40c0 Tqzw40c0; (try k_lt l1qzw40c0); (try dsimp only); (try k_lift Bqzw40c0); (try k_fold)))
  k_with "own all" => (first | assumption | exact Mine.allNe' (by assumption) (by omega) | exact Mine.allNe' (And.right (by assumption)) (by omega) | exact Mine.allNe' (And.right (And.right (by assumption))) (by omega) | exact Mine.allNe' (And.right (And.right (And.right (by assumption)))) (by omega) | exact Mine.allNe' (And.right (And.right (And.right (And.right (by assumption))))) (by omega) | exact Mine.allNe' (And.right (And.right (And.right (And.right (And.right (by assumption)))))) (by omega) | exact Mine.allNe2 (by assumption) (by omega) | fail "k_all: no bound of the rest")
  k_with "exec For Name Name cons nil" => ((refine Stop.out ?_))
  unfold Does
  k_fill
  intro gd cn cs aa ccd cl outer A₀ base h₀ L m mean mg mb s Q E B F X N T hk hret
  refine wpAny_call ?_
  k_dflt (k_extra "own enter")
  k_steps
  refine Stop.mk ?_
  rename News _ _ _ _ => N1
  rename Fr _ _ _ (fun y => _) => F1
  refine wpAny_For ?_
  walk1
  refine for_none rfl F1 N1 (.tail _ (.tail _ (.tail _ (.tail _ hDm)))) hD G.lo ?_
  intro h2 tk2 F2 N2
  dsimp only
  k_steps
  rename Fr h₀ L _ _ => FF
  rename News h₀ L _ _ => NN
  exact hret _ _ _ _ FF (cb_drop NN fun p hp => .tail _ (.tail _ (.tail _ (.tail _ hp)))) ⟨rfl, rfl⟩
end
end Mine
end
-- part C8
section
namespace Mine
section
theorem find_does (w : World) (led : Led) (x dx D : Addr) (nodes : List Nd) (rdy : Value) (p : Int → Int) (G : Gr w led x dx D nodes rdy) (hne : nodes ≠ []) (hl : nodes.length ≤ 900)
    (hp : ∀ d ∈ nodes, ∃ t, d.succ[0]? = some (.int (p d.key) t) ∧ ∃ e ∈ nodes, e.key = p d.key) :
    Does w 590 4900 157 [.ref x] led (fun v led' => ∃ l ws n ring, v = .ref l ∧ led' = (l, listOf ws n) :: led ∧ (∀ p ∈ led, p.1 < l) ∧ IntsAre ws.toList ring ∧ IsRing p nodes ring ∧ ring.length ≤ 901) := by
  obtain ⟨q1, q2, q3, q4, u1, u2, u3, u4, v3, v4, n, ha⟩ := G.attr
  have hx := G.inst
  obtain ⟨d0, nodes', rfl⟩ : ∃ d0 r, nodes = d0 :: r := by cases nodes with | nil => exact absurd rfl hne | cons a r => exact ⟨a, r, rfl⟩
  obtain ⟨oD, hDm, hD⟩ := G.dict
  w_top off
  k_with_none
  k_with "own enter" => (first | (refine' code_def ?k1w43c0 ?k2w43c0 ?k3w43c0 ?k4w43c0 ?k5w43c0 ?kAw43c0 ?kFw43c0 ?kKw43c0 ?k6w43c0 ?k7w43c0 ?k8w43c0 ?k9w43c0 ?kBw43c0 ?_ ?c2w43c0 ?c3w43c0 ?c4w43c0 ?c5w43c0; (case kAw43c0 => exact rfl); (case kFw43c0 => exact rfl); (case kKw43c0 => assumption); (case k1w43c0 => k_asm); (case k2w43c0 => k_asm); (case k3w43c0 => k_asm); (case k4w43c0 => k_asm); (case k5w43c0 => k_asm); (case k6w43c0 => k_is); (case k7w43c0 => k_is); (case k8w43c0 => ktr_room); (case k9w43c0 => first | exact BindsTo.of_eq rfl | exact binds_K (by k_in) rfl (by k_is) rfl rfl rfl); (case c5w43c0 => decide); (case kBw43c0 => exact locs rfl); (case c2w43c0 => exact rfl); (case c3w43c0 => exact rfl); (case c4w43c0 => exact rfl); k_whole; intro gqzw43c0 Lqzw43c0 hqzw43c0 FGqzw43c0 Fqzw43c0 Nqzw43c0 Bqzw43c0 Xqzw43c0 Tqzw43c0; (try dsimp only); (try k_lift Bqzw43c0); (try k_fold)) | (refine' code_defC ?k1w43c0 ?k2w43c0 ?k3w43c0 ?k4w43c0 ?k5w43c0 ?kAw43c0 ?kFw43c0 ?kKw43c0 ?k6w43c0 ?k7w43c0 ?k8w43c0 ?k9w43c0 ?kBw43c0 ?kDw43c0 ?_ ?c2w43c0 ?c3w43c0 ?c4w43c0; (case kAw43c0 => exact rfl); (case kFw43c0 => exact rfl); (case kKw43c0 => assumption); (case k1w43c0 => k_asm); (case k2w43c0 => k_asm); (case k3w43c0 => k_asm); (case k4w43c0 => k_asm); (case k5w43c0 => k_asm); (case k6w43c0 => k_is); (case k7w43c0 => k_is); (case k8w43c0 => ktr_room); (case k9w43c0 => first | exact BindsTo.of_eq rfl | exact binds_K (by k_in) rfl (by k_is) rfl rfl rfl); (case kBw43c0 => exact rfl); (case kDw43c0 => decide +kernel); (case c2w43c0 => exact rfl); (case c3w43c0 => exact rfl); (case c4w43c0 => exact rfl); k_whole; intro gqzw43c0 Lqzw43c0 hqzw43c0 tkqzw43c0 cellsqzw43c0 FGqzw43c0 Fqzw43c0 Nqzw43c0 Yqzw43c0 Bqzw43c0 Xqzw43c0 Tqzw43c0 l1qzw43c0; (try k_lt l1qzw43c0); k_cells Yqzw43c0; (try simp only [List.cons_append, List.nil_append] at Nqzw43c0); (try dsimp only); (try k_lift Bqzw43c0); (try k_fold)) | (refine' kp_rest ?k1w43c0 ?k2w43c0 ?k3w43c0 ?k4w43c0 ?k5w43c0 ?kAw43c0 ?kFw43c0 ?kKw43c0 ?k6w43c0 ?k7w43c0 ?k8w43c0 ?kVw43c0 ?kPw43c0 ?kGw43c0 ?kBw43c0 ?_ ?c2w43c0 ?c3w43c0 ?c4w43c0 ?c5w43c0; (case kAw43c0 => exact rfl); (case kFw43c0 => exact rfl); (case kKw43c0 => assumption); (case k1w43c0 => k_asm); (case k2w43c0 => k_asm); (case k3w43c0 => k_asm); (case k4w43c0 => k_asm); (case k5w43c0 => k_asm); (case k6w43c0 => k_is); (case k7w43c0 => k_is); (case k8w43c0 => ktr_room); (case kVw43c0 => kl_lit); (case kPw43c0 => exact rfl); (case kGw43c0 => exact fun _ => rfl); (case kBw43c0 => exact fun _ => locs rfl); (case c5w43c0 => decide); (case c2w43c0 => exact rfl); (case c3w43c0 => exact rfl); (case c4w43c0 => exact rfl); k_whole; intro Dqzw43c0 gqzw43c0 Lqzw43c0 hqzw43c0 l1qzw43c0 FGqzw43c0 Fqzw43c0 Nqzw43c0 Bqzw43c0 Xqzw43c0 Tqzw43c0; (try k_lt l1qzw43c0); (try dsimp only); (try k_lift Bqzw43c0); (try k_fold)))
  k_with "own all" => (first | assumption | exact Mine.allNe' (by assumption) (by omega) | exact Mine.allNe' (And.right (by assumption)) (by omega) | exact Mine.allNe' (And.right (And.right (by assumption))) (by omega) | exact Mine.allNe' (And.right (And.right (And.right (by assumption)))) (by omega) | exact Mine.allNe' (And.right (And.right (And.right (And.right (by assumption))))) (by omega) | exact Mine.allNe' (And.right (And.right (And.right (And.right (And.right (by assumption)))))) (by omega) | exact Mine.allNe2 (by assumption) (by omega) | fail "k_all: no bound of the rest")
  k_with "exec For Name Name cons nil" => ((refine Stop.out ?_))
  k_with "exec While Constant cons nil" => ((refine Stop.out ?_))
  k_with "setItem ref int" => ((k_here; (refine' kda_set (knd := intKind _ _) ?Fw47c0 ?Nw47c0 ?Uw47c0 ?dw47c0 (intKind_is _ _ _ _) ?zw47c0 ?_; (case Fw47c0 => k_asm); (case Nw47c0 => k_asm); (case Uw47c0 => k_updF); (case dw47c0 => k_asm); (case zw47c0 => assumption)); intro hqzw47c0 oqzw47c0 Fqzw47c0 Nqzw47c0 hdqzw47c0; (try dsimp only at Nqzw47c0)))
  k_with "setItem ref int" => ((k_here; (refine' kda_set (knd := intKind _ _) ?Fw47c1 ?Nw47c1 ?Uw47c1 ?dw47c1 (intKind_is _ _ _ _) ?zw47c1 ?_; (case Fw47c1 => k_asm); (case Nw47c1 => k_asm); (case Uw47c1 => k_updF); (case dw47c1 => k_asm); (case zw47c1 => assumption)); intro hqzw47c1 oqzw47c1 Fqzw47c1 Nqzw47c1 hdqzw47c1; (try dsimp only at Nqzw47c1)))
  k_with "setItem ref int" => ((k_here; (refine' kda_set (knd := intKind _ _) ?Fw47c2 ?Nw47c2 ?Uw47c2 ?dw47c2 (intKind_is _ _ _ _) ?zw47c2 ?_; (case Fw47c2 => k_asm); (case Nw47c2 => k_asm); (case Uw47c2 => k_updF); (case dw47c2 => k_asm); (case zw47c2 => assumption)); intro hqzw47c2 oqzw47c2 Fqzw47c2 Nqzw47c2 hdqzw47c2; (try dsimp only at Nqzw47c2)))
  k_with "setItem ref int" => ((k_here; (refine' kda_set (knd := intKind _ _) ?Fw47c3 ?Nw47c3 ?Uw47c3 ?dw47c3 (intKind_is _ _ _ _) ?zw47c3 ?_; (case Fw47c3 => k_asm); (case Nw47c3 => k_asm); (case Uw47c3 => k_updF); (case dw47c3 => k_asm); (case zw47c3 => assumption)); intro hqzw47c3 oqzw47c3 Fqzw47c3 Nqzw47c3 hdqzw47c3; (try dsimp only at Nqzw47c3)))
  k_with "setItem ref int" => ((k_here; (refine' kda_set (knd := intKind _ _) ?Fw47c4 ?Nw47c4 ?Uw47c4 ?dw47c4 (intKind_is _ _ _ _) ?zw47c4 ?_; (case Fw47c4 => k_asm); (case Nw47c4 => k_asm); (case Uw47c4 => k_updF); (case dw47c4 => k_asm); (case zw47c4 => assumption)); intro hqzw47c4 oqzw47c4 Fqzw47c4 Nqzw47c4 hdqzw47c4; (try dsimp only at Nqzw47c4)))
  k_with "setItem ref int" => ((k_here; (refine' kda_set (knd := intKind _ _) ?Fw47c5 ?Nw47c5 ?Uw47c5 ?dw47c5 (intKind_is _ _ _ _) ?zw47c5 ?_; (case Fw47c5 => k_asm); (case Nw47c5 => k_asm); (case Uw47c5 => k_updF); (case dw47c5 => k_asm); (case zw47c5 => assumption)); intro hqzw47c5 oqzw47c5 Fqzw47c5 Nqzw47c5 hdqzw47c5; (try dsimp only at Nqzw47c5)))
  k_with "compareOp In int ref" => ((k_here; first | (refine' set_in true ?Nw48c0 ?Uw48c0 ?dw48c0 ?zw48c0 ?bw48c0 ?_; (case Nw48c0 => k_asm); (case Uw48c0 => k_updF); (case dw48c0 => k_asm); (case zw48c0 => kse_small); (case bw48c0 => assumption)) | (refine' set_in false ?Nw48c0 ?Uw48c0 ?dw48c0 ?zw48c0 ?bw48c0 ?_; (case Nw48c0 => k_asm); (case Uw48c0 => k_updF); (case dw48c0 => k_asm); (case zw48c0 => kse_small); (case bw48c0 => assumption)) | (refine' kda_in (knd := intKind _ _) ?Nw48c0 ?mw48c0 ?dw48c0 ?low48c0 (intKind_is _ _ _ _) true ?bw48c0 ?_; (case Nw48c0 => k_asm); (case mw48c0 => k_mem); (case dw48c0 => k_asm); (case low48c0 => k_asm); (case bw48c0 => assumption))))
  k_with "compareOp In int ref" => ((k_here; first | (refine' set_in true ?Nw48c1 ?Uw48c1 ?dw48c1 ?zw48c1 ?bw48c1 ?_; (case Nw48c1 => k_asm); (case Uw48c1 => k_updF); (case dw48c1 => k_asm); (case zw48c1 => kse_small); (case bw48c1 => assumption)) | (refine' set_in false ?Nw48c1 ?Uw48c1 ?dw48c1 ?zw48c1 ?bw48c1 ?_; (case Nw48c1 => k_asm); (case Uw48c1 => k_updF); (case dw48c1 => k_asm); (case zw48c1 => kse_small); (case bw48c1 => assumption)) | (refine' kda_in (knd := intKind _ _) ?Nw48c1 ?mw48c1 ?dw48c1 ?low48c1 (intKind_is _ _ _ _) true ?bw48c1 ?_; (case Nw48c1 => k_asm); (case mw48c1 => k_mem); (case dw48c1 => k_asm); (case low48c1 => k_asm); (case bw48c1 => assumption))))
  k_with "compareOp In int ref" => ((k_here; first | (refine' set_in true ?Nw48c2 ?Uw48c2 ?dw48c2 ?zw48c2 ?bw48c2 ?_; (case Nw48c2 => k_asm); (case Uw48c2 => k_updF); (case dw48c2 => k_asm); (case zw48c2 => kse_small); (case bw48c2 => assumption)) | (refine' set_in false ?Nw48c2 ?Uw48c2 ?dw48c2 ?zw48c2 ?bw48c2 ?_; (case Nw48c2 => k_asm); (case Uw48c2 => k_updF); (case dw48c2 => k_asm); (case zw48c2 => kse_small); (case bw48c2 => assumption)) | (refine' kda_in (knd := intKind _ _) ?Nw48c2 ?mw48c2 ?dw48c2 ?low48c2 (intKind_is _ _ _ _) true ?bw48c2 ?_; (case Nw48c2 => k_asm); (case mw48c2 => k_mem); (case dw48c2 => k_asm); (case low48c2 => k_asm); (case bw48c2 => assumption))))
  k_with "compareOp In int ref" => ((k_here; first | (refine' set_in true ?Nw48c3 ?Uw48c3 ?dw48c3 ?zw48c3 ?bw48c3 ?_; (case Nw48c3 => k_asm); (case Uw48c3 => k_updF); (case dw48c3 => k_asm); (case zw48c3 => kse_small); (case bw48c3 => assumption)) | (refine' set_in false ?Nw48c3 ?Uw48c3 ?dw48c3 ?zw48c3 ?bw48c3 ?_; (case Nw48c3 => k_asm); (case Uw48c3 => k_updF); (case dw48c3 => k_asm); (case zw48c3 => kse_small); (case bw48c3 => assumption)) | (refine' kda_in (knd := intKind _ _) ?Nw48c3 ?mw48c3 ?dw48c3 ?low48c3 (intKind_is _ _ _ _) true ?bw48c3 ?_; (case Nw48c3 => k_asm); (case mw48c3 => k_mem); (case dw48c3 => k_asm); (case low48c3 => k_asm); (case bw48c3 => assumption))))
  k_with "compareOp In int ref" => ((k_here; first | (refine' set_in true ?Nw48c4 ?Uw48c4 ?dw48c4 ?zw48c4 ?bw48c4 ?_; (case Nw48c4 => k_asm); (case Uw48c4 => k_updF); (case dw48c4 => k_asm); (case zw48c4 => kse_small); (case bw48c4 => assumption)) | (refine' set_in false ?Nw48c4 ?Uw48c4 ?dw48c4 ?zw48c4 ?bw48c4 ?_; (case Nw48c4 => k_asm); (case Uw48c4 => k_updF); (case dw48c4 => k_asm); (case zw48c4 => kse_small); (case bw48c4 => assumption)) | (refine' kda_in (knd := intKind _ _) ?Nw48c4 ?mw48c4 ?dw48c4 ?low48c4 (intKind_is _ _ _ _) true ?bw48c4 ?_; (case Nw48c4 => k_asm); (case mw48c4 => k_mem); (case dw48c4 => k_asm); (case low48c4 => k_asm); (case bw48c4 => assumption))))
  k_with "compareOp In int ref" => ((k_here; first | (refine' set_in true ?Nw48c5 ?Uw48c5 ?dw48c5 ?zw48c5 ?bw48c5 ?_; (case Nw48c5 => k_asm); (case Uw48c5 => k_updF); (case dw48c5 => k_asm); (case zw48c5 => kse_small); (case bw48c5 => assumption)) | (refine' set_in false ?Nw48c5 ?Uw48c5 ?dw48c5 ?zw48c5 ?bw48c5 ?_; (case Nw48c5 => k_asm); (case Uw48c5 => k_updF); (case dw48c5 => k_asm); (case zw48c5 => kse_small); (case bw48c5 => assumption)) | (refine' kda_in (knd := intKind _ _) ?Nw48c5 ?mw48c5 ?dw48c5 ?low48c5 (intKind_is _ _ _ _) true ?bw48c5 ?_; (case Nw48c5 => k_asm); (case mw48c5 => k_mem); (case dw48c5 => k_asm); (case low48c5 => k_asm); (case bw48c5 => assumption))))
  k_with "subscriptTail Name Name ref int" => ((k_here; refine' kda_item (knd := intKind _ _) ?Nw49c0 ?mw49c0 ?dw49c0 (intKind_is _ _ _ _) ?hlw49c0 ?_; (case Nw49c0 => k_asm); (case mw49c0 => k_mem); (case dw49c0 => k_asm); (case hlw49c0 => assumption)))
  k_with "subscriptTail Name Name ref int" => ((k_here; refine' kda_item (knd := intKind _ _) ?Nw49c1 ?mw49c1 ?dw49c1 (intKind_is _ _ _ _) ?hlw49c1 ?_; (case Nw49c1 => k_asm); (case mw49c1 => k_mem); (case dw49c1 => k_asm); (case hlw49c1 => assumption)))
  k_with "subscriptTail Name Name ref int" => ((k_here; refine' kda_item (knd := intKind _ _) ?Nw49c2 ?mw49c2 ?dw49c2 (intKind_is _ _ _ _) ?hlw49c2 ?_; (case Nw49c2 => k_asm); (case mw49c2 => k_mem); (case dw49c2 => k_asm); (case hlw49c2 => assumption)))
  k_with "subscriptTail Name Name ref int" => ((k_here; refine' kda_item (knd := intKind _ _) ?Nw49c3 ?mw49c3 ?dw49c3 (intKind_is _ _ _ _) ?hlw49c3 ?_; (case Nw49c3 => k_asm); (case mw49c3 => k_mem); (case dw49c3 => k_asm); (case hlw49c3 => assumption)))
  k_with "subscriptTail Name Name ref int" => ((k_here; refine' kda_item (knd := intKind _ _) ?Nw49c4 ?mw49c4 ?dw49c4 (intKind_is _ _ _ _) ?hlw49c4 ?_; (case Nw49c4 => k_asm); (case mw49c4 => k_mem); (case dw49c4 => k_asm); (case hlw49c4 => assumption)))
  k_with "subscriptTail Name Name ref int" => ((k_here; refine' kda_item (knd := intKind _ _) ?Nw49c5 ?mw49c5 ?dw49c5 (intKind_is _ _ _ _) ?hlw49c5 ?_; (case Nw49c5 => k_asm); (case mw49c5 => k_mem); (case dw49c5 => k_asm); (case hlw49c5 => assumption)))
  k_with "call builtin:iter" => ((k_here; k_dflt (refine' iter_list' ?Fw50c0 ?Nw50c0 ?lw50c0 ?_; (case Fw50c0 => k_asm); (case Nw50c0 => k_asm); (case lw50c0 => k_mem); k_whole); intro Iqzw50c0 hqzw50c0 Fqzw50c0 Nqzw50c0 l1qzw50c0; have l2 := l1qzw50c0; (try k_lt l1qzw50c0)))
  k_with "call builtin:iter" => ((k_here; k_dflt (refine' iter_list' ?Fw50c1 ?Nw50c1 ?lw50c1 ?_; (case Fw50c1 => k_asm); (case Nw50c1 => k_asm); (case lw50c1 => k_mem); k_whole); intro Iqzw50c1 hqzw50c1 Fqzw50c1 Nqzw50c1 l1qzw50c1; have l2 := l1qzw50c1; (try k_lt l1qzw50c1)))
  k_with "call builtin:iter" => ((k_here; k_dflt (refine' iter_list' ?Fw50c2 ?Nw50c2 ?lw50c2 ?_; (case Fw50c2 => k_asm); (case Nw50c2 => k_asm); (case lw50c2 => k_mem); k_whole); intro Iqzw50c2 hqzw50c2 Fqzw50c2 Nqzw50c2 l1qzw50c2; have l2 := l1qzw50c2; (try k_lt l1qzw50c2)))
  k_with "call builtin:iter" => ((k_here; k_dflt (refine' iter_list' ?Fw50c3 ?Nw50c3 ?lw50c3 ?_; (case Fw50c3 => k_asm); (case Nw50c3 => k_asm); (case lw50c3 => k_mem); k_whole); intro Iqzw50c3 hqzw50c3 Fqzw50c3 Nqzw50c3 l1qzw50c3; have l2 := l1qzw50c3; (try k_lt l1qzw50c3)))
  k_with "call builtin:iter" => ((k_here; k_dflt (refine' iter_list' ?Fw50c4 ?Nw50c4 ?lw50c4 ?_; (case Fw50c4 => k_asm); (case Nw50c4 => k_asm); (case lw50c4 => k_mem); k_whole); intro Iqzw50c4 hqzw50c4 Fqzw50c4 Nqzw50c4 l1qzw50c4; have l2 := l1qzw50c4; (try k_lt l1qzw50c4)))
  k_with "call builtin:iter" => ((k_here; k_dflt (refine' iter_list' ?Fw50c5 ?Nw50c5 ?lw50c5 ?_; (case Fw50c5 => k_asm); (case Nw50c5 => k_asm); (case lw50c5 => k_mem); k_whole); intro Iqzw50c5 hqzw50c5 Fqzw50c5 Nqzw50c5 l1qzw50c5; have l2 := l1qzw50c5; (try k_lt l1qzw50c5)))
  k_with "getAttr ref" => ((k_here; (with_reducible show wpAny _ _ (getAttr (Value.ref _) (Str.ofString "__next__") true) _ _ _); k_dflt (refine' next_attr ?Fw51c0 ?Nw51c0 ?lw51c0 ?_; (case Fw51c0 => k_asm); (case Nw51c0 => k_asm); (case lw51c0 => k_mem); k_whole); intro Wqzw51c0 hqzw51c0 tkqzw51c0 Fqzw51c0 Nqzw51c0 l1qzw51c0; (try k_lt l1qzw51c0)))
  k_with "getAttr ref" => ((k_here; (with_reducible show wpAny _ _ (getAttr (Value.ref _) (Str.ofString "__next__") true) _ _ _); k_dflt (refine' next_attr ?Fw51c1 ?Nw51c1 ?lw51c1 ?_; (case Fw51c1 => k_asm); (case Nw51c1 => k_asm); (case lw51c1 => k_mem); k_whole); intro Wqzw51c1 hqzw51c1 tkqzw51c1 Fqzw51c1 Nqzw51c1 l1qzw51c1; (try k_lt l1qzw51c1)))
  k_with "getAttr ref" => ((k_here; (with_reducible show wpAny _ _ (getAttr (Value.ref _) (Str.ofString "__next__") true) _ _ _); k_dflt (refine' next_attr ?Fw51c2 ?Nw51c2 ?lw51c2 ?_; (case Fw51c2 => k_asm); (case Nw51c2 => k_asm); (case lw51c2 => k_mem); k_whole); intro Wqzw51c2 hqzw51c2 tkqzw51c2 Fqzw51c2 Nqzw51c2 l1qzw51c2; (try k_lt l1qzw51c2)))
  k_with "getAttr ref" => ((k_here; (with_reducible show wpAny _ _ (getAttr (Value.ref _) (Str.ofString "__next__") true) _ _ _); k_dflt (refine' next_attr ?Fw51c3 ?Nw51c3 ?lw51c3 ?_; (case Fw51c3 => k_asm); (case Nw51c3 => k_asm); (case lw51c3 => k_mem); k_whole); intro Wqzw51c3 hqzw51c3 tkqzw51c3 Fqzw51c3 Nqzw51c3 l1qzw51c3; (try k_lt l1qzw51c3)))
  k_with "getAttr ref" => ((k_here; (with_reducible show wpAny _ _ (getAttr (Value.ref _) (Str.ofString "__next__") true) _ _ _); k_dflt (refine' next_attr ?Fw51c4 ?Nw51c4 ?lw51c4 ?_; (case Fw51c4 => k_asm); (case Nw51c4 => k_asm); (case lw51c4 => k_mem); k_whole); intro Wqzw51c4 hqzw51c4 tkqzw51c4 Fqzw51c4 Nqzw51c4 l1qzw51c4; (try k_lt l1qzw51c4)))
  k_with "getAttr ref" => ((k_here; (with_reducible show wpAny _ _ (getAttr (Value.ref _) (Str.ofString "__next__") true) _ _ _); k_dflt (refine' next_attr ?Fw51c5 ?Nw51c5 ?lw51c5 ?_; (case Fw51c5 => k_asm); (case Nw51c5 => k_asm); (case lw51c5 => k_mem); k_whole); intro Wqzw51c5 hqzw51c5 tkqzw51c5 Fqzw51c5 Nqzw51c5 l1qzw51c5; (try k_lt l1qzw51c5)))
  k_with "call builtin:list.append" => ((k_here; k_dflt (refine' append_K ?k1w52c0 ?k2w52c0 ?k3w52c0 ?_ ?zw52c0; (case k1w52c0 => k_asm); (case k2w52c0 => k_asm); (case k3w52c0 => k_upd); (case zw52c0 => (first | assumption | (rw [i9, sizeLine_eq]; omega) | (rw [sizeLine_eq]; omega))); k_whole); intro hqzw52c0 Fqzw52c0 Nqzw52c0; (try k_sweep)))
  k_with "call builtin:list.append" => ((k_here; k_dflt (refine' append_K ?k1w52c1 ?k2w52c1 ?k3w52c1 ?_ ?zw52c1; (case k1w52c1 => k_asm); (case k2w52c1 => k_asm); (case k3w52c1 => k_upd); (case zw52c1 => (first | assumption | (rw [i9, sizeLine_eq]; omega) | (rw [sizeLine_eq]; omega))); k_whole); intro hqzw52c1 Fqzw52c1 Nqzw52c1; (try k_sweep)))
  k_with "call builtin:list.append" => ((k_here; k_dflt (refine' append_K ?k1w52c2 ?k2w52c2 ?k3w52c2 ?_ ?zw52c2; (case k1w52c2 => k_asm); (case k2w52c2 => k_asm); (case k3w52c2 => k_upd); (case zw52c2 => (first | assumption | (rw [i9, sizeLine_eq]; omega) | (rw [sizeLine_eq]; omega))); k_whole); intro hqzw52c2 Fqzw52c2 Nqzw52c2; (try k_sweep)))
  k_with "call builtin:list.append" => ((k_here; k_dflt (refine' append_K ?k1w52c3 ?k2w52c3 ?k3w52c3 ?_ ?zw52c3; (case k1w52c3 => k_asm); (case k2w52c3 => k_asm); (case k3w52c3 => k_upd); (case zw52c3 => (first | assumption | (rw [i9, sizeLine_eq]; omega) | (rw [sizeLine_eq]; omega))); k_whole); intro hqzw52c3 Fqzw52c3 Nqzw52c3; (try k_sweep)))
  k_with "call builtin:list.append" => ((k_here; k_dflt (refine' append_K ?k1w52c4 ?k2w52c4 ?k3w52c4 ?_ ?zw52c4; (case k1w52c4 => k_asm); (case k2w52c4 => k_asm); (case k3w52c4 => k_upd); (case zw52c4 => (first | assumption | (rw [i9, sizeLine_eq]; omega) | (rw [sizeLine_eq]; omega))); k_whole); intro hqzw52c4 Fqzw52c4 Nqzw52c4; (try k_sweep)))
  k_with "call builtin:list.append" => ((k_here; k_dflt (refine' append_K ?k1w52c5 ?k2w52c5 ?k3w52c5 ?_ ?zw52c5; (case k1w52c5 => k_asm); (case k2w52c5 => k_asm); (case k3w52c5 => k_upd); (case zw52c5 => (first | assumption | (rw [i9, sizeLine_eq]; omega) | (rw [sizeLine_eq]; omega))); k_whole); intro hqzw52c5 Fqzw52c5 Nqzw52c5; (try k_sweep)))
  k_with "subscriptTail Name UnaryOp ref int" => ((k_here; k_dflt (refine' item_last ?Nw53c0 ?lw53c0 ?_; (case Nw53c0 => k_asm); (case lw53c0 => k_mem); k_whole)))
  k_with "subscriptTail Name UnaryOp ref int" => ((k_here; k_dflt (refine' item_last ?Nw53c1 ?lw53c1 ?_; (case Nw53c1 => k_asm); (case lw53c1 => k_mem); k_whole)))
  k_with "subscriptTail Name UnaryOp ref int" => ((k_here; k_dflt (refine' item_last ?Nw53c2 ?lw53c2 ?_; (case Nw53c2 => k_asm); (case lw53c2 => k_mem); k_whole)))
  k_with "subscriptTail Name UnaryOp ref int" => ((k_here; k_dflt (refine' item_last ?Nw53c3 ?lw53c3 ?_; (case Nw53c3 => k_asm); (case lw53c3 => k_mem); k_whole)))
  k_with "subscriptTail Name UnaryOp ref int" => ((k_here; k_dflt (refine' item_last ?Nw53c4 ?lw53c4 ?_; (case Nw53c4 => k_asm); (case lw53c4 => k_mem); k_whole)))
  k_with "subscriptTail Name UnaryOp ref int" => ((k_here; k_dflt (refine' item_last ?Nw53c5 ?lw53c5 ?_; (case Nw53c5 => k_asm); (case lw53c5 => k_mem); k_whole)))
  k_with "callWith ref" => ((k_here; (with_reducible show wpAny _ _ (callWith _ (Value.ref _) [] (backTo _ (starEach [] _)) []) _ _ _); k_dflt (refine' callWith_next ?Fw54c0 ?Nw54c0 ?bw54c0 ?aw54c0 ?lw54c0 ?vw54c0 ?_; (case Fw54c0 => k_asm); (case Nw54c0 => k_asm); (case bw54c0 => k_mem); (case aw54c0 => k_mem); (case lw54c0 => k_mem); (case vw54c0 => assumption); k_whole); intro hqzw54c0 restqzw54c0 hsqzw54c0 Fqzw54c0 Nqzw54c0))
  k_with "callWith ref" => ((k_here; (with_reducible show wpAny _ _ (callWith _ (Value.ref _) [] (backTo _ (starEach [] _)) []) _ _ _); k_dflt (refine' callWith_next ?Fw54c1 ?Nw54c1 ?bw54c1 ?aw54c1 ?lw54c1 ?vw54c1 ?_; (case Fw54c1 => k_asm); (case Nw54c1 => k_asm); (case bw54c1 => k_mem); (case aw54c1 => k_mem); (case lw54c1 => k_mem); (case vw54c1 => assumption); k_whole); intro hqzw54c1 restqzw54c1 hsqzw54c1 Fqzw54c1 Nqzw54c1))
  k_with "callWith ref" => ((k_here; (with_reducible show wpAny _ _ (callWith _ (Value.ref _) [] (backTo _ (starEach [] _)) []) _ _ _); k_dflt (refine' callWith_next ?Fw54c2 ?Nw54c2 ?bw54c2 ?aw54c2 ?lw54c2 ?vw54c2 ?_; (case Fw54c2 => k_asm); (case Nw54c2 => k_asm); (case bw54c2 => k_mem); (case aw54c2 => k_mem); (case lw54c2 => k_mem); (case vw54c2 => assumption); k_whole); intro hqzw54c2 restqzw54c2 hsqzw54c2 Fqzw54c2 Nqzw54c2))
  k_with "callWith ref" => ((k_here; (with_reducible show wpAny _ _ (callWith _ (Value.ref _) [] (backTo _ (starEach [] _)) []) _ _ _); k_dflt (refine' callWith_next ?Fw54c3 ?Nw54c3 ?bw54c3 ?aw54c3 ?lw54c3 ?vw54c3 ?_; (case Fw54c3 => k_asm); (case Nw54c3 => k_asm); (case bw54c3 => k_mem); (case aw54c3 => k_mem); (case lw54c3 => k_mem); (case vw54c3 => assumption); k_whole); intro hqzw54c3 restqzw54c3 hsqzw54c3 Fqzw54c3 Nqzw54c3))
  k_with "callWith ref" => ((k_here; (with_reducible show wpAny _ _ (callWith _ (Value.ref _) [] (backTo _ (starEach [] _)) []) _ _ _); k_dflt (refine' callWith_next ?Fw54c4 ?Nw54c4 ?bw54c4 ?aw54c4 ?lw54c4 ?vw54c4 ?_; (case Fw54c4 => k_asm); (case Nw54c4 => k_asm); (case bw54c4 => k_mem); (case aw54c4 => k_mem); (case lw54c4 => k_mem); (case vw54c4 => assumption); k_whole); intro hqzw54c4 restqzw54c4 hsqzw54c4 Fqzw54c4 Nqzw54c4))
  k_with "callWith ref" => ((k_here; (with_reducible show wpAny _ _ (callWith _ (Value.ref _) [] (backTo _ (starEach [] _)) []) _ _ _); k_dflt (refine' callWith_next ?Fw54c5 ?Nw54c5 ?bw54c5 ?aw54c5 ?lw54c5 ?vw54c5 ?_; (case Fw54c5 => k_asm); (case Nw54c5 => k_asm); (case bw54c5 => k_mem); (case aw54c5 => k_mem); (case lw54c5 => k_mem); (case vw54c5 => assumption); k_whole); intro hqzw54c5 restqzw54c5 hsqzw54c5 Fqzw54c5 Nqzw54c5))
  unfold Does
  k_fill
  intro gd cn cs aa ccd cl outer A₀ base h₀ L m mean mg mb s Q E B F X N T hk hret
  refine wpAny_call ?_
  k_dflt (k_extra "own enter")
  k_steps
  refine Stop.mk ?_
  rename News _ _ _ _ => N1
  rename Fr _ _ _ (fun y => _) => F1
  refine wpAny_For ?_
  walk1
  refine for_first (k := d0.key) (v := .ref d0.a) (kvs := kvsOf nodes') rfl (by rfl) (by rfl) F1 N1 (.tail _ (.tail _ (.tail _ (.tail _ hDm)))) hD G.lo ?_
  intro t h2 tk2 F2 N2
  show wpAny _ _ _ _ _ _
  k_fold
  k_steps
  refine Stop.mk ?_
  rename Fr _ _ h2 _ => F2
  rename News _ _ h2 _ => N2
  refine wpAny_While ?_
  refine while_one (k := nodes'.length + 1 - 0) (fun k c l => ∃ (st : List Int) (S : Int → Bool) (oS : Obj) (kvs : List (Int × Value)) (oK : Obj) (its : Array Value) (n1 : Nat) (vs : Array Value) (n2 : Nat), k = nodes'.length + 1 - st.length ∧ l = (_, oK) :: (_, oS) :: (_, listOf its n1) :: (_, listOf vs n2) :: led ∧
    st.Nodup ∧ (∀ b ∈ st, ∃ e ∈ d0 :: nodes', e.key = b) ∧ (∃ e ∈ d0 :: nodes', e.key = c) ∧ Linked p (st ++ [c]) ∧ oS.SetObjOf (intKind PySem.Challenge.rw_xi0021_01.row.prog w) S st.length ∧ (∀ b, S b = decide (b ∈ st)) ∧
    oK.IsDictOf (intKind PySem.Challenge.rw_xi0021_01.row.prog w) kvs ∧ Places kvs st ∧ its.size = st.length ∧ IntsAre vs.toList st) ?_ F2 N2 ⟨[], _, _, [], _, _, _, _, _, rfl, rfl, by simp, by simp, ⟨d0, by simp, rfl⟩, Linked.one _, by assumption, by simp, by assumption, Places.nil, rfl, .nil⟩ ?_
  · intro s Q E h
    walk1
    walk1
    walk1
    exact h
  intro k c t led3 h3 tk3 hh F3 N3
  refine ex9 hh fun st S oS kvs oK its n1 vs n2 hh2 => an12 hh2 fun ek el i1 i2 i3 i4 i5 i6 i7 i8 i9 i10 => ?_
  clear hh hh2
  subst ek el
  have hsl : st.length ≤ 900 := by
    have := nodup_len i1 (l := (d0 :: nodes').map Nd.key) fun b hb => by obtain ⟨e, he, hk⟩ := i2 b hb; exact List.mem_map.mpr ⟨e, he, hk⟩
    rw [List.length_map] at this
    omega
  have hz1 : its.size ≤ sizeLine := by rw [i9, sizeLine_eq]; omega
  have hz3 : kvs.length ≤ sizeLine := by rw [i8.length, sizeLine_eq]; omega
  have hvl : vs.size = st.length := by have := i10.length; simpa using this
  have hz2 : vs.size ≤ sizeLine := by rw [hvl, sizeLine_eq]; omega
  by_cases hc : c ∈ st
  · have hS : S c = true := by rw [i6]; exact decide_eq_true hc
    refine ex2 (i8.hit i1 hc) fun i ti hh => an2 hh fun hi hv => ?_
    clear hh
    have hv' : (PySem.valueAt kvs c).isSome = true := by rw [hv]; rfl
    show wpAny _ _ _ _ _ _
    k_fold
    k_steps
    rename Fr h₀ L _ _ => FF
    rename News h₀ L _ _ => NN
    rename IntsAre _ (List.drop _ st ++ [c]) => hI
    rename _ ∧ _ ∧ _ ∧ _ ∧ _ ∧ _ ∧ AllLt _ led => lD
    exact hret _ _ _ _ FF (drop6 NN) ⟨_, _, _, _, rfl, rfl, allLt_iff.mp lD.2.2.2.2.2.2, by simpa using hI, ring_of (by simpa using hi) i4 i2, ring_len hsl⟩
  · have hS : S c = false := by rw [i6]; exact decide_eq_false hc
    obtain ⟨e, he, rfl⟩ := i3
    refine ex1 (hp e he) fun te hh => an2 hh fun hse hh2 => ex1 hh2 fun e' hh3 => an2 hh3 fun he' hke => ?_
    clear hh hh2 hh3
    have hse' : e.succ.toArray[0]? = some (.int (p e.key) te) := by simpa using hse
    have hIe := G.each e he
    have hve : PySem.valueAt (kvsOf (d0 :: nodes')) e.key = some (.ref e.a) := by
      cases hq : PySem.valueAt (kvsOf (d0 :: nodes')) e.key with
      | none => exact absurd rfl (value_none hq e he)
      | some v =>
        obtain ⟨d, hd, hk, rfl⟩ := value_some hq
        rw [key_inj G.keysNodup hd he hk]
    have ve1 := hIe.1
    have ve2 := hIe.2.1
    have ve3 := hIe.2.2
    show wpAny _ _ _ _ _ _
    k_fold
    k_steps
    rename Fr _ _ _ _ => FF
    rename News _ _ _ _ => NN
    rename ∀ q ∈ (_ : Led), q.1 ≠ _ → q ∈ _ => hR
    rename ∀ q ∈ (_ : Led), q.1 < _ => lI
    rename Obj.SetObjOf _ _ _ _ => hSet
    rename Obj.IsDictOf _ _ _ => hDict
    have hstn : (st ++ [e.key]).Nodup := List.nodup_append.mpr ⟨i1, by simp, fun b hb c' hc' q => hc (by rw [List.mem_singleton] at hc'; rw [← hc', ← q]; exact hb)⟩
    have hsub : ∀ b ∈ st ++ [e.key], ∃ e ∈ d0 :: nodes', e.key = b := fun b hb => by
      rcases List.mem_append.mp hb with hb | hb
      · exact i2 b hb
      · rw [List.mem_singleton.mp hb]; exact ⟨e, he, rfl⟩
    have hlen : (st ++ [e.key]).length ≤ nodes'.length + 1 := by
      have := nodup_len hstn (l := (d0 :: nodes').map Nd.key) fun b hb => by obtain ⟨e, he, hk⟩ := hsub b hb; exact List.mem_map.mpr ⟨e, he, hk⟩
      rw [List.length_map] at this
      exact this
    have hl1 : (st ++ [e.key]).length = st.length + 1 := by rw [List.length_append, List.length_singleton]
    rw [hS, if_neg Bool.false_ne_true, ← hl1] at hSet
    have lI1 := lI _ (.head _)
    have lI2 := lI _ (.tail _ (.head _))
    have lI3 := lI _ (.tail _ (.tail _ (.head _)))
    have lI4 := lI _ (.tail _ (.tail _ (.tail _ (.head _))))
    refine' ⟨nodes'.length + 1 - (st ++ [e.key]).length, p e.key, te, _, _, _, ?g1, rfl, fr_over FF, drop_next NN hR lI1 lI2 lI3 lI4 fun q hq => lI q (.tail _ (.tail _ (.tail _ (.tail _ hq)))), st ++ [e.key], _, _, _, _, its.push _, n1 + 1, vs.push (.int e.key t), n2 + 1, rfl, rfl, hstn, hsub, ⟨e', he', hke⟩, i4.snoc, hSet, ?g3, hDict, i8.snoc hc _, ?g4, ?g5⟩
    case g1 => omega
    case g3 =>
      intro b
      rw [i6]
      simp
    case g4 => rw [Array.size_push, i9, List.length_append, List.length_singleton]
    case g5 =>
      rw [Array.toList_push]
      exact i10.append (.cons _ _ .nil)
end
end Mine
end
-- part C10
section
namespace Mine
section
theorem split_mem {led : Led} {c : Addr} {o : Obj} (_ : (c, o) ∈ led) : ∃ rest : Led, (∀ p ∈ rest, p.1 ≠ c) ∧ (∀ p ∈ led, p.1 ≠ c → p ∈ rest) ∧ ∀ p ∈ rest, p ∈ led := split_led led c
theorem ring_does (w : World) (led : Led) (ta : Addr) (vs : List Value) (n : Nat) (table : List Int) (hta : (ta, listOf vs.toArray n) ∈ led) (hv : IntsAre vs table) (h16 : table.length = 16) (hr : ∀ w : Int, 0 ≤ w → w < 16 → 0 ≤ table.getD w.toNat 0 ∧ table.getD w.toNat 0 < 16)
    (hmv : ∀ w : Int, 0 ≤ w → w < 16 → table.getD w.toNat 0 ≠ w → table.getD (table.getD w.toNat 0).toNat 0 ≠ table.getD w.toNat 0) :
    DoesT w 580 4800 190 [.ref ta] led (fun v led' => ∃ l ws n ring, v = .ref l ∧ led' = (l, listOf ws n) :: led ∧ (∀ p ∈ led, p.1 < l) ∧ IntsAre ws.toList ring ∧ RingOk (fun k => table.getD k.toNat 0) ring) := by
  w_top off
  k_with_none
  k_with "own enter" => (first | (refine' code_def ?k1w55c0 ?k2w55c0 ?k3w55c0 ?k4w55c0 ?k5w55c0 ?kAw55c0 ?kFw55c0 ?kKw55c0 ?k6w55c0 ?k7w55c0 ?k8w55c0 ?k9w55c0 ?kBw55c0 ?_ ?c2w55c0 ?c3w55c0 ?c4w55c0 ?c5w55c0; (case kAw55c0 => exact rfl); (case kFw55c0 => exact rfl); (case kKw55c0 => assumption); (case k1w55c0 => k_asm); (case k2w55c0 => k_asm); (case k3w55c0 => k_asm); (case k4w55c0 => k_asm); (case k5w55c0 => k_asm); (case k6w55c0 => k_is); (case k7w55c0 => k_is); (case k8w55c0 => ktr_room); (case k9w55c0 => first | exact BindsTo.of_eq rfl | exact binds_K (by k_in) rfl (by k_is) rfl rfl rfl); (case c5w55c0 => decide); (case kBw55c0 => exact locs rfl); (case c2w55c0 => exact rfl); (case c3w55c0 => exact rfl); (case c4w55c0 => exact rfl); k_whole; intro gqzw55c0 Lqzw55c0 hqzw55c0 FGqzw55c0 Fqzw55c0 Nqzw55c0 Bqzw55c0 Xqzw55c0 Tqzw55c0; (try dsimp only); (try k_lift Bqzw55c0); (try k_fold)) | (refine' code_defC ?k1w55c0 ?k2w55c0 ?k3w55c0 ?k4w55c0 ?k5w55c0 ?kAw55c0 ?kFw55c0 ?kKw55c0 ?k6w55c0 ?k7w55c0 ?k8w55c0 ?k9w55c0 ?kBw55c0 ?kDw55c0 ?_ ?c2w55c0 ?c3w55c0 ?c4w55c0; (case kAw55c0 => exact rfl); (case kFw55c0 => exact rfl); (case kKw55c0 => assumption); (case k1w55c0 => k_asm); (case k2w55c0 => k_asm); (case k3w55c0 => k_asm); (case k4w55c0 => k_asm); (case k5w55c0 => k_asm); (case k6w55c0 => k_is); (case k7w55c0 => k_is); (case k8w55c0 => ktr_room); (case k9w55c0 => first | exact BindsTo.of_eq rfl | exact binds_K (by k_in) rfl (by k_is) rfl rfl rfl); (case kBw55c0 => exact rfl); (case kDw55c0 => decide +kernel); (case c2w55c0 => exact rfl); (case c3w55c0 => exact rfl); (case c4w55c0 => exact rfl); k_whole; intro gqzw55c0 Lqzw55c0 hqzw55c0 tkqzw55c0 cellsqzw55c0 FGqzw55c0 Fqzw55c0 Nqzw55c0 Yqzw55c0 Bqzw55c0 Xqzw55c0 Tqzw55c0 l1qzw55c0; (try k_lt l1qzw55c0); k_cells Yqzw55c0; (try simp only [List.cons_append, List.nil_append] at Nqzw55c0); (try dsimp only); (try k_lift Bqzw55c0); (try k_fold)) | (refine' kp_rest ?k1w55c0 ?k2w55c0 ?k3w55c0 ?k4w55c0 ?k5w55c0 ?kAw55c0 ?kFw55c0 ?kKw55c0 ?k6w55c0 ?k7w55c0 ?k8w55c0 ?kVw55c0 ?kPw55c0 ?kGw55c0 ?kBw55c0 ?_ ?c2w55c0 ?c3w55c0 ?c4w55c0 ?c5w55c0; (case kAw55c0 => exact rfl); (case kFw55c0 => exact rfl); (case kKw55c0 => assumption); (case k1w55c0 => k_asm); (case k2w55c0 => k_asm); (case k3w55c0 => k_asm); (case k4w55c0 => k_asm); (case k5w55c0 => k_asm); (case k6w55c0 => k_is); (case k7w55c0 => k_is); (case k8w55c0 => ktr_room); (case kVw55c0 => kl_lit); (case kPw55c0 => exact rfl); (case kGw55c0 => exact fun _ => rfl); (case kBw55c0 => exact fun _ => locs rfl); (case c5w55c0 => decide); (case c2w55c0 => exact rfl); (case c3w55c0 => exact rfl); (case c4w55c0 => exact rfl); k_whole; intro Dqzw55c0 gqzw55c0 Lqzw55c0 hqzw55c0 l1qzw55c0 FGqzw55c0 Fqzw55c0 Nqzw55c0 Bqzw55c0 Xqzw55c0 Tqzw55c0; (try k_lt l1qzw55c0); (try dsimp only); (try k_lift Bqzw55c0); (try k_fold)))
  k_with "own all" => (first | assumption | exact Mine.allNe' (by assumption) (by omega) | exact Mine.allNe' (And.right (by assumption)) (by omega) | exact Mine.allNe' (And.right (And.right (by assumption))) (by omega) | exact Mine.allNe' (And.right (And.right (And.right (by assumption)))) (by omega) | exact Mine.allNe' (And.right (And.right (And.right (And.right (by assumption))))) (by omega) | exact Mine.allNe' (And.right (And.right (And.right (And.right (And.right (by assumption)))))) (by omega) | exact Mine.allNe2 (by assumption) (by omega) | fail "k_all: no bound of the rest")
  k_with "exec For Name Call cons nil" => ((refine Stop.out ?_))
  k_with "pyIter ref" => ((refine Stop.out ?_))
  k_with "call ref" => ((k_here; (with_reducible show wpAny _ _ (call (Value.ref 117) _ _) _ _ _); refine Stop.out ?_))
  k_with "call ref" => ((k_here; (with_reducible show wpAny _ _ (call (Value.ref 157) _ _) _ _ _); refine Stop.out ?_))
  k_with "exec Try" => ((refine Stop.out ?_))
  k_with "CompEnd" => ((refine Stop.out ?_))
  k_with "SrcV" => ((refine Stop.out ?_))
  k_with "eval ListComp" => ((k_here; k_dflt (refine ListComp_V (F₀ := by k_asm) (by rfl) (by decide) (by rfl) (by decide) (by rfl) ?_)))
  k_with "subscriptTail Name Name ref int" => ((k_here; k_dflt (refine' item_ints ?Nw65c0 ?mw65c0 ?iw65c0 ?h0w65c0 ?h1w65c0 ?hfw65c0 ?_; (case Nw65c0 => k_asm); (case mw65c0 => k_mem); (case iw65c0 => assumption); (case h0w65c0 => omega); (case h1w65c0 => omega); (case hfw65c0 => omega); k_whole); intro tqzw65c0))
  k_with "subscriptTail Name Name ref int" => ((k_here; k_dflt (refine' item_ints ?Nw65c1 ?mw65c1 ?iw65c1 ?h0w65c1 ?h1w65c1 ?hfw65c1 ?_; (case Nw65c1 => k_asm); (case mw65c1 => k_mem); (case iw65c1 => assumption); (case h0w65c1 => omega); (case h1w65c1 => omega); (case hfw65c1 => omega); k_whole); intro tqzw65c1))
  k_with "subscriptTail Name Name ref int" => ((k_here; k_dflt (refine' item_ints ?Nw65c2 ?mw65c2 ?iw65c2 ?h0w65c2 ?h1w65c2 ?hfw65c2 ?_; (case Nw65c2 => k_asm); (case mw65c2 => k_mem); (case iw65c2 => assumption); (case h0w65c2 => omega); (case h1w65c2 => omega); (case hfw65c2 => omega); k_whole); intro tqzw65c2))
  k_with "subscriptTail Name Name ref int" => ((k_here; k_dflt (refine' item_ints ?Nw65c3 ?mw65c3 ?iw65c3 ?h0w65c3 ?h1w65c3 ?hfw65c3 ?_; (case Nw65c3 => k_asm); (case mw65c3 => k_mem); (case iw65c3 => assumption); (case h0w65c3 => omega); (case h1w65c3 => omega); (case hfw65c3 => omega); k_whole); intro tqzw65c3))
  k_with "subscriptTail Name Name ref int" => ((k_here; k_dflt (refine' item_ints ?Nw65c4 ?mw65c4 ?iw65c4 ?h0w65c4 ?h1w65c4 ?hfw65c4 ?_; (case Nw65c4 => k_asm); (case mw65c4 => k_mem); (case iw65c4 => assumption); (case h0w65c4 => omega); (case h1w65c4 => omega); (case hfw65c4 => omega); k_whole); intro tqzw65c4))
  k_with "subscriptTail Name Name ref int" => ((k_here; k_dflt (refine' item_ints ?Nw65c5 ?mw65c5 ?iw65c5 ?h0w65c5 ?h1w65c5 ?hfw65c5 ?_; (case Nw65c5 => k_asm); (case mw65c5 => k_mem); (case iw65c5 => assumption); (case h0w65c5 => omega); (case h1w65c5 => omega); (case hfw65c5 => omega); k_whole); intro tqzw65c5))
  k_with "getMethod ref" => ((k_here; (with_reducible show wpAny _ _ (getMethod (Value.ref _) (Str.ofString "values") _) _ _ _); refine kdl_method (knd := PySem.intKind _ _) PySem.F.slot_dict_values PySem.F.type_dict_values (by k_asm) (by k_mem) (by k_asm) ?_))
  k_with "call builtin:dict.values" => ((k_here; k_dflt (refine kdl_view_values (knd := PySem.intKind _ _) (by k_asm) (by k_asm) (by k_mem) (by k_asm) (by k_asm) ?_); intro Dqzw67c0 hqzw67c0 Fqzw67c0 Nqzw67c0 l1qzw67c0; (try k_lt l1qzw67c0)))
  k_with "truthy ref" => ((k_here; k_dflt (refine' truth_list ?Nw68c0 ?mw68c0 ?aw68c0 ?bw68c0 ?_; (case Nw68c0 => k_asm); (case mw68c0 => k_mem); (case aw68c0 => assumption); (case bw68c0 => assumption); k_whole); intro tkqzw68c0))
  k_with "truthy ref" => ((k_here; k_dflt (refine' truth_list ?Nw68c1 ?mw68c1 ?aw68c1 ?bw68c1 ?_; (case Nw68c1 => k_asm); (case mw68c1 => k_mem); (case aw68c1 => assumption); (case bw68c1 => assumption); k_whole); intro tkqzw68c1))
  k_with "truthy ref" => ((k_here; k_dflt (refine' truth_list ?Nw68c2 ?mw68c2 ?aw68c2 ?bw68c2 ?_; (case Nw68c2 => k_asm); (case mw68c2 => k_mem); (case aw68c2 => assumption); (case bw68c2 => assumption); k_whole); intro tkqzw68c2))
  k_with "truthy ref" => ((k_here; k_dflt (refine' truth_list ?Nw68c3 ?mw68c3 ?aw68c3 ?bw68c3 ?_; (case Nw68c3 => k_asm); (case mw68c3 => k_mem); (case aw68c3 => assumption); (case bw68c3 => assumption); k_whole); intro tkqzw68c3))
  k_with "truthy ref" => ((k_here; k_dflt (refine' truth_list ?Nw68c4 ?mw68c4 ?aw68c4 ?bw68c4 ?_; (case Nw68c4 => k_asm); (case mw68c4 => k_mem); (case aw68c4 => assumption); (case bw68c4 => assumption); k_whole); intro tkqzw68c4))
  k_with "truthy ref" => ((k_here; k_dflt (refine' truth_list ?Nw68c5 ?mw68c5 ?aw68c5 ?bw68c5 ?_; (case Nw68c5 => k_asm); (case mw68c5 => k_mem); (case aw68c5 => assumption); (case bw68c5 => assumption); k_whole); intro tkqzw68c5))
  k_with "getAttr ref" => ((k_here; (with_reducible show wpAny _ _ (getAttr (Value.ref _) (Str.ofString "args") _) _ _ _); refine Stop.out ?_))
  k_with "subscriptTail Name Constant ref int" => ((k_here; k_dflt (refine' item_got ?Nw70c0 ?Gw70c0 ?_; (case Gw70c0 => assumption); (case Nw70c0 => assumption); k_whole)))
  k_with "subscriptTail Name Constant ref int" => ((k_here; k_dflt (refine' item_got ?Nw70c1 ?Gw70c1 ?_; (case Gw70c1 => assumption); (case Nw70c1 => assumption); k_whole)))
  k_with "subscriptTail Name Constant ref int" => ((k_here; k_dflt (refine' item_got ?Nw70c2 ?Gw70c2 ?_; (case Gw70c2 => assumption); (case Nw70c2 => assumption); k_whole)))
  k_with "subscriptTail Name Constant ref int" => ((k_here; k_dflt (refine' item_got ?Nw70c3 ?Gw70c3 ?_; (case Gw70c3 => assumption); (case Nw70c3 => assumption); k_whole)))
  k_with "subscriptTail Name Constant ref int" => ((k_here; k_dflt (refine' item_got ?Nw70c4 ?Gw70c4 ?_; (case Gw70c4 => assumption); (case Nw70c4 => assumption); k_whole)))
  k_with "subscriptTail Name Constant ref int" => ((k_here; k_dflt (refine' item_got ?Nw70c5 ?Gw70c5 ?_; (case Gw70c5 => assumption); (case Nw70c5 => assumption); k_whole)))
  unfold DoesT
  k_fill
  intro gd cn cs aa ccd cl A₀ h₀ L m mean mg mb s Q E B F X N T hk hret
  refine wpAny_call ?_
  k_dflt ((refine' code_defT ?k1 ?k2 ?k3 ?k4 ?k5 ?kA ?kF ?kK ?k6 ?k7 ?k8 ?k9 ?kB ?_ ?c2 ?c3 ?c4 ?c5; (case kA => exact rfl); (case kF => exact rfl); (case kK => assumption); (case k1 => k_asm); (case k2 => k_asm); (case k3 => k_asm); (case k4 => k_asm); (case k5 => k_asm); (case k6 => k_is); (case k7 => k_is); (case k8 => ktr_room); (case k9 => exact BindsTo.of_eq rfl); (case c5 => decide); (case kB => exact locs rfl); (case c2 => exact rfl); (case c3 => exact rfl); (case c4 => exact rfl); k_whole; intro g' L' h' FG' F' N' B' X' T' D'; (try dsimp only); (try k_lift B'); (try k_fold)))
  k_steps
  refine Stop.mk ?_
  rename Fr _ _ _ (fun y => _) => F1
  rename News _ _ _ ((_, _) :: (_, instObj 167 _) :: (_, _) :: _) => N1
  rename _ ∧ _ ∧ AllLt _ led => lD
  refine wpAny_For ?_
  k_steps
  refine Stop.mk ?_
  rename IsRange _ _ _ _ _ _ _ _ => hR
  rename Fr _ _ _ (fun y => if y = Str.ofString "sorter" then _ else _) => F2
  rename News _ _ _ ((_, _) :: (_, instObj 167 _) :: (_, _) :: _) => N2
  rename _ < _ => lX
  rename ∀ p ∈ led, p.1 < _ => lV
  rename Obj.IsDictOf (intKind _ _) _ [] => hDi
  rename (_ == sysModules) = false => hLo
  refine for_range1 16 (fun i l => ∃ nodes, Sst w led l _ _ _ (grw (fun k => table.getD k.toNat 0) i) nodes .none) rfl (by rfl) (by rfl) rfl hR (by decide) (by decide) F2 N2 ⟨[], Sst.init hDi hLo lV lX lD.1⟩ ?_ ?_
  · intro i t led1 h1 tk1 I oI hi hh hO F3 N3
    refine ex1 hh fun nodes S1 => ?_
    clear hh
    have hx1 := S1.gr.inst
    have hta1 := S1.keep _ hta
    refine ex11 S1.gr.attr fun q1 q2 q3 q4 u1 u2 u3 u4 v3 v4 n' ha1 => ?_
    show wpAny _ _ _ _ _ _
    k_fold
    k_steps
    · refine Stop.mk ?_
      rename Fr _ _ _ _ => F4
      rename News _ _ _ _ => N4
      have hg := grw_ok (t := fun k => table.getD k.toNat 0) hr hmv i (by omega)
      have hln := nodes_len S1.gr S1.abs hg
      refine does_use (add_does w _ _ _ _ nodes _ _ _ _ _ (S1.gr.mono fun p hp => .tail _ hp) (by omega) S1.abs hg.short) (by k_asm) F4 (by k_asm) N4 (by k_asm) rfl (Nat.le_of_ble_eq_true rfl) (Nat.le_of_ble_eq_true rfl) ?_
      intro v led2 h2 tk2 F5 N5 hh
      refine an2 hh fun ev hh1 => ex1 hh1 fun nodes' hh2 => an4 hh2 fun G' K W hA' => ?_
      clear hh hh1 hh2
      subst ev
      refine ex1 (S1.turn hO G' K W hA') fun led₂ hh => an3 hh fun s1 s2 s3 => ?_
      clear hh
      k_steps
      rename ¬ (table.getD _ _ = _) => hne
      exact ⟨_, _, _, led₂, rfl, F5, cb_drop N5 s1, s2, ⟨nodes', by rw [grw_pos (t := fun k => table.getD k.toNat 0) hne]; exact s3⟩, fun z hz => if_neg hz⟩
    · rename table.getD _ _ = _ => heq
      exact ⟨_, _, _, led1, rfl, by assumption, by assumption, hO, ⟨nodes, by rw [grw_neg (t := fun k => table.getD k.toNat 0) heq]; exact S1⟩, fun z hz => if_neg hz⟩
  · intro u led1 h1 tk1 hh F3 N3
    refine ex1 hh fun nodes S1 => ?_
    clear hh
    dsimp only
    k_steps
    refine Stop.mk ?_
    refine ex11 S1.gr.attr fun q1 q2 q3 q4 u1 u2 u3 u4 v3 v4 n' ha1 => ?_
    refine ex1 (split_mem ha1) fun rest1 hh => an3 hh fun r1 r2 r3 => ?_
    clear hh
    have N4 := front_led N3 ha1 r3
    have hfs := front_sub N3 ha1 r2
    have G1 := S1.gr.mono hfs
    have hx1 := r2 _ S1.gr.inst S1.gr.xdx
    refine ex1 S1.gr.dict fun oD hh => an2 hh fun hDm hD => ?_
    clear hh
    have hDm1 := r2 _ hDm S1.gr.Ddx
    clear N3 hfs
    refine wpAny_Try_except ?_
    k_steps
    refine Stop.mk ?_
    have hg := grw_ok (t := fun k => table.getD k.toNat 0) hr hmv 16 (by omega)
    have hln := nodes_len S1.gr S1.abs hg
    rename News _ _ _ ((_, viewObj _) :: _) => NV
    rename Fr _ _ _ _ => FV
    refine SrcV.intro rfl FV NV (.head _) (.tail _ (.tail _ hDm1)) hD (by rw [kvsOf, List.length_map, sizeLine_eq]; omega) ?_ ?_
    · intro i ys k val I oI C oC D3 m3 h3 tk3 E3 hk hC hx F3 N3 o3
      refine ex1 (kvs_get hk) fun e hh => an2 hh fun he ee => ?_
      clear hh
      subst ee
      refine an3 (G1.each e he) fun ve1 ve2 ve3 => ?_
      k_steps
      all_goals (refine Stop.mk ?_; exact ⟨_, _, _, rfl, F3, N3, o3, .tail _ (.tail _ hDm1), rfl⟩)
    · intro ys h3 D4 h4 tk4 F4 N4' o4
      have N5 : News _ _ _ (_ :: rest1) := cb_drop N4' fun p hp => .tail _ (.tail _ hp)
      clear N4' o4
      k_steps
      k_dflt (refine' set_dict ?k1 ?k2 ?k3 ?k4 ?k5 ?k6 ?k7 ?k8 ?k9 ?k10 ?k11 ?k12 ?k13 ?_)
      (case k1 => k_asm)
      (case k2 => k_asm)
      (case k3 => k_asm)
      (case k4 => k_inst)
      (case k5 => exact rfl)
      (case k6 => k_dflt k_is)
      (case k7 => k_dflt k_is)
      (case k8 => k_dflt k_is)
      (case k9 => k_dflt k_is)
      (case k10 => k_dflt k_get)
      (case k11 => exact (show _ = (attrs q1 q2 q3 q4 u1 u2 u3 u4 (.ref _) (.ref D4) v3 v4, n') from by first | rfl | kernel_rfl))
      (case k12 => k_dflt k_upd)
      (case k13 => exact Nat.le_of_ble_eq_true rfl)
      k_whole
      intro h5 F5 N6
      have G5 := S1.gr.rdy (led' := (_, dictOf (attrs q1 q2 q3 q4 u1 u2 u3 u4 (.ref _) (.ref D4) v3 v4) n') :: rest1) (fun p hp he => .tail _ (r2 p hp he)) (.head _)
      dsimp only
      k_steps
      refine Stop.mk ?_
      rename Fr _ _ h5 _ => F6
      by_cases hne : nodes = []
      · subst hne
        refine does_use (find_none w _ _ _ _ _ G5) (by k_asm) F6 (by k_asm) N6 (by k_asm) rfl (Nat.le_of_ble_eq_true rfl) (Nat.le_of_ble_eq_true rfl) ?_
        rintro v led2 h2 tk2 F7 N7 ⟨rfl, rfl⟩
        k_steps
        rename Fr h₀ L _ _ => FF
        rename News h₀ L _ ((_, listOf #[] 0) :: _) => NN
        rename _ ∧ AllLt _ rest1 => lR
        refine hret _ ((_, listOf #[] 0) :: led) _ _ FF (cb_drop NN fun p hp => ?_) ⟨_, _, _, [], rfl, rfl, fun p hp => allLt_iff.mp lR.2 _ (r2 p (S1.keep p hp) (S1.offdx p hp)), .nil, .inl ⟨rfl, none_moved S1.abs hg⟩⟩
        rcases List.mem_cons.mp hp with rfl | hp
        · exact .head _
        · exact .tail _ (.tail _ (r2 p (S1.keep p hp) (S1.offdx p hp)))
      · refine does_use (find_does w _ _ _ _ _ _ (fun k => table.getD k.toNat 0) G5 hne (by omega) fun d hd => succ_of S1.abs hg hd) (by k_asm) F6 (by k_asm) N6 (by k_asm) rfl (Nat.le_of_ble_eq_true rfl) (Nat.le_of_ble_eq_true rfl) ?_
        intro v led2 h2 tk2 F7 N7 hh
        refine ex4 hh fun l ws nn ring hh2 => an6 hh2 fun ev el hl hI hRing hrl => ?_
        clear hh hh2
        subst ev el
        have hI2 : ws.size = ring.length := by have := hI.length; simpa using this
        have hp0 : 0 < ws.size := by have := hRing.1; omega
        have hp1 : ws.size ≤ sizeLine := by rw [hI2, sizeLine_eq]; omega
        k_steps
        refine Stop.mk ?_
        k_dflt (refine' args_got_own PySem.F.attrBase_ValueError ?F (ownQ_in (C := 85) (x := "CycleError") ?X (mg_of ?X2 (TopRead.g ?T) ?b) ?o ?k ?n1 ?n2 ?n3 ?n4) ?N ?G ?_)
        (case F => k_asm)
        (case X => k_asm)
        (case X2 => k_asm)
        (case T => k_asm)
        (case b => k_dflt k_is)
        (case o => k_dflt k_is)
        (case k => k_dflt k_exc)
        (case n1 => k_dflt k_is)
        (case n2 => k_dflt k_is)
        (case n3 => k_dflt k_is)
        (case n4 => k_dflt k_is)
        (case G => assumption)
        (case N => assumption)
        k_whole
        k_steps
        rename Fr h₀ L _ _ => FF
        rename News h₀ L _ ((_, listOf ws _) :: (_, listOf ws _) :: _) => NN
        rename _ ∧ _ ∧ AllLt _ rest1 => lR
        refine' hret _ ((_, listOf ws _) :: led) _ _ FF (cb_drop NN fun p hp => ?g1) ⟨_, _, _, ring, rfl, rfl, fun p hp => allLt_iff.mp lR.2.2 _ (r2 p (S1.keep p hp) (S1.offdx p hp)), hI, .inr ⟨one_moved S1.abs hg hne, hRing.1, hrl, hRing.2.1, hRing.2.2.1, fun b hb => ?g2⟩⟩
        case g1 =>
          rcases List.mem_cons.mp hp with rfl | hp
          · exact .head _
          · exact .tail _ (.tail _ (.tail _ (r2 p (S1.keep p hp) (S1.offdx p hp))))
        case g2 =>
          obtain ⟨e, he, rfl⟩ := hRing.2.2.2 b hb
          exact key_word S1.abs hg he
end
end Mine
end
-- part PW0
section
namespace Mine
/-- the gates there are: kind, line left out, turn -/
def gf (k a t : Nat) : Gt := ⟨k, lineAt a t, lineAt a (((t : Int) + 1).fmod 3), lineAt a (((t : Int) + 2).fmod 3)⟩
theorem gate_is (x : Int) : ∃ (k : Fin 2) (a : Fin 4) (t : Fin 3), gateOf x = gf k a t := by
  have h1 := fmod_bd x (n := 2) (by decide)
  have h2 := fmod_bd (x.fdiv 2) (n := 4) (by decide)
  have h3 := fmod_bd (x.fdiv 8) (n := 3) (by decide)
  refine ⟨⟨(x.fmod 2).toNat, by omega⟩, ⟨((x.fdiv 2).fmod 4).toNat, by omega⟩, ⟨((x.fdiv 8).fmod 3).toNat, by omega⟩, ?_⟩
  unfold gateOf gf
  simp only [Int.toNat_of_nonneg h1.1, Int.toNat_of_nonneg h2.1, Int.toNat_of_nonneg h3.1]
theorem word_is {x : Int} (h0 : 0 ≤ x) (h1 : x < 16) : ∃ n : Fin 16, x = (n.val : Int) := ⟨⟨x.toNat, by omega⟩, by simp; omega⟩
theorem gf_lines : ∀ (k : Fin 2) (a : Fin 4) (t : Fin 3), (0 ≤ (gf k a t).l1 ∧ (gf k a t).l1 < 4) ∧ (0 ≤ (gf k a t).l2 ∧ (gf k a t).l2 < 4) ∧ (0 ≤ (gf k a t).l3 ∧ (gf k a t).l3 < 4) := by decide +kernel
theorem gf_run : ∀ (k : Fin 2) (a : Fin 4) (t : Fin 3) (n : Fin 16), 0 ≤ (gf k a t).run (n.val : Int) ∧ (gf k a t).run (n.val : Int) < 16 ∧ (gf k a t).run ((gf k a t).run (n.val : Int)) = (n.val : Int) := by decide +kernel
theorem gate_ok (x : Int) : (gateOf x).Ok := by
  obtain ⟨k, a, t, e⟩ := gate_is x
  rw [e]
  obtain ⟨h1, h2, h3⟩ := gf_lines k a t
  refine ⟨h1, h2, h3, fun x h0 h1 => ?_⟩
  obtain ⟨n, rfl⟩ := word_is h0 h1
  exact ⟨(gf_run k a t n).1, (gf_run k a t n).2.1⟩
end Mine
end
-- part LH
section
open LCg LCt
namespace Mine
section
variable {h₀ h : Heap} {L I C D D' : Addr} {m : Str → Option Value} {s₁ : Shared} {oI oC oD o : Obj} {S : Led → Prop} {r : Value → Led → Prop} {y : Value} {tk : Nat} {news : Led}
theorem compEnd_new (F : Fr h₀ L h m) (N : News h₀ L h ((D', o) :: (I, oI) :: (C, oC) :: (D, oD) :: news)) (hl : AllLt D' ((I, oI) :: (C, oC) :: (D, oD) :: news)) (off : Off3 I C D news) (hS : S ((D', o) :: news)) (hr : r y ((D', o) :: news)) :
    CompEnd h₀ L m s₁ I oI C oC D oD S r y { s₁ with heap := h, toks := tk } := by
  obtain ⟨h1, h2, h3, _⟩ := hl
  refine ⟨h, tk, (D', o) :: news, rfl, F, cb_drop N fun p hp => ?_, ⟨⟨Nat.ne_of_gt h1, Nat.ne_of_gt h2, Nat.ne_of_gt h3⟩, off⟩, hS, hr⟩
  rcases List.mem_cons.mp hp with rfl | hp
  · exact .tail _ (.head _)
  rcases List.mem_cons.mp hp with rfl | hp
  · exact .tail _ (.tail _ (.head _))
  rcases List.mem_cons.mp hp with rfl | hp
  · exact .tail _ (.tail _ (.tail _ (.head _)))
  rcases List.mem_cons.mp hp with rfl | hp
  · exact .head _
  · exact .tail _ (.tail _ (.tail _ (.tail _ hp)))
theorem compEnd_same (F : Fr h₀ L h m) (N : News h₀ L h ((I, oI) :: (C, oC) :: (D, oD) :: news)) (off : Off3 I C D news) (hS : S news) (hr : r y news) :
    CompEnd h₀ L m s₁ I oI C oC D oD S r y { s₁ with heap := h, toks := tk } := ⟨h, tk, news, rfl, F, N, off, hS, hr⟩
end
/-- the refs of some gates -/
def GatesAt (news : Led) (ys : List Value) (gs : List Gt) : Prop := ys.length = gs.length ∧ ∀ (i : Nat) (h1 : i < ys.length) (h2 : i < gs.length), IsRef news ys[i] gs[i]
theorem IsRef.mono {news news' : Led} {v : Value} {g : Gt} (h : IsRef news v g) (hs : ∀ p ∈ news, p ∈ news') : IsRef news' v g := by
  obtain ⟨a, o, e, hm, hg⟩ := h
  exact ⟨a, o, e, hs _ hm, hg⟩
theorem GatesAt.mono {news news' : Led} {ys : List Value} {gs : List Gt} (h : GatesAt news ys gs) (hs : ∀ p ∈ news, p ∈ news') : GatesAt news' ys gs := ⟨h.1, fun i h1 h2 => (h.2 i h1 h2).mono hs⟩
theorem GatesAt.nil {news : Led} : GatesAt news [] [] := ⟨rfl, fun i h => absurd h (Nat.not_lt_zero _)⟩
theorem GatesAt.snoc {news : Led} {ys : List Value} {gs : List Gt} {y : Value} {g : Gt} (h : GatesAt news ys gs) (hy : IsRef news y g) : GatesAt news (ys ++ [y]) (gs ++ [g]) := by
  refine ⟨by simp [h.1], fun i h1 h2 => ?_⟩
  have hlen := h.1
  by_cases hi : i < ys.length
  · rw [List.getElem_append_left hi, List.getElem_append_left (by omega)]
    exact h.2 i hi (by omega)
  · have : i = ys.length := by simp at h1; omega
    subst this
    have e1 : (ys ++ [y])[ys.length] = y := by simp
    have e2 : (gs ++ [g])[ys.length]'h2 = g := by simp [hlen]
    rw [e1, e2]; exact hy
theorem GatesAt.gatesIn {news : Led} {ys : List Value} {gs : List Gt} {l : Addr} {n : Nat} (h : GatesAt news ys gs) (hl : (l, listOf ys.toArray n) ∈ news) : GatesIn news l gs := ⟨ys, n, hl, h.1, h.2⟩
section
variable {w : World} {dp un dp' un' : Nat} {f : Addr} {vs : List Value} {news : List (Addr × Obj)} {Ret : Value → List (Addr × Obj) → Prop}
theorem doesT_use (D : DoesT w dp un f vs news Ret)
    {gd : Option (List Code)} {cn : Str} {cs : Scope} {a : Addr} {ccd : Value} {cl : List (Str × Addr)} {A₀ : Around} {h₀ : Heap} {L : Addr} {m : Str → Option Value}
    {mean : ExcName → Option Value} {mg mb : Str → Option Value} {s : Shared} {Q E : Value → Shared → Prop}
    (B : Below A₀ h₀ [] h₀) (F : Fr h₀ L s.heap m) (X : (hd.heap_39 w.params).In h₀) (N : News h₀ L s.heap news) (T : Top hd.view_39 (looseW hd.view_39 loose) mean mg mb h₀) (hk : cs.kind = .function)
    (h1 : dp' ≤ dp) (h2 : un' ≤ un)
    (ret : ∀ v news' h' tk', Fr h₀ L h' m → News h₀ L h' news' → Ret v news' → Q v { s with heap := h', toks := tk' }) :
    wpAny (model PySem.Challenge.rw_xi0021_01.row.prog w) (ktrTop dp' un' gd cn cs L a ccd cl []) (call (.ref f) vs) Q E s :=
  around_le (D _ _ _ _ _ _ _ _ _ _ _ _ _ _ _ _ B F X N T hk ret) h1 h2
end
end Mine
namespace Mine
section
variable {prog : Program} {w : World} {A : Around} {E : Value → Shared → Prop} {s : Shared} {h₀ : Heap} {L : Addr} {m : Str → Option Value} {env : Env}
def gatesOf (ns : List Int) : List Gt := ns.map gateOf
theorem gatesOf_snoc {ns : List Int} {i : Nat} (h : i < ns.length) : gatesOf (ns.take (i + 1)) = gatesOf (ns.take i) ++ [gateOf ns[i]] := by
  unfold gatesOf
  rw [List.take_add_one, List.getElem?_eq_getElem h, List.map_append]; rfl
end
end Mine
namespace Mine
section
variable {h₀ h : Heap} {L : Addr}
/-- the cells ahead, the rest opaque -/
theorem cells_front {gl : Led} {D D1 a b c d : Addr} {oD oS oa ob oc od : Obj} (N : News h₀ L h ((D, oD) :: (gl ++ [(D1, oS), (a, oa), (b, ob), (c, oc), (d, od)]))) (o : LCg.Off1 D (gl ++ [(D1, oS), (a, oa), (b, ob), (c, oc), (d, od)])) (hg : ∀ p ∈ gl, @LT.lt Nat _ D1 p.1)
    (ha : @LT.lt Nat _ a D1) (hb : @LT.lt Nat _ b D1) (hc : @LT.lt Nat _ c D1) (hd : @LT.lt Nat _ d D1) :
    News h₀ L h ((a, oa) :: (b, ob) :: (c, oc) :: (d, od) :: ((D, oD) :: gl)) ∧ (∀ p ∈ (D, oD) :: gl, p.1 ≠ a) ∧ (∀ p ∈ (D, oD) :: gl, p.1 ≠ b) ∧ (∀ p ∈ (D, oD) :: gl, p.1 ≠ c) ∧ (∀ p ∈ (D, oD) :: gl, p.1 ≠ d) := by
  have hoff : ∀ p ∈ gl ++ [(D1, oS), (a, oa), (b, ob), (c, oc), (d, od)], p.1 ≠ D := by
    generalize gl ++ [(D1, oS), (a, oa), (b, ob), (c, oc), (d, od)] = l at o
    induction l with
    | nil => exact fun p hp => (nomatch hp)
    | cons q r ih =>
      intro p hp
      rcases List.mem_cons.mp hp with rfl | hp
      · exact o.1
      · exact ih o.2 p hp
  have mem : ∀ p ∈ [(D1, oS), (a, oa), (b, ob), (c, oc), (d, od)], p ∈ (D, oD) :: (gl ++ [(D1, oS), (a, oa), (b, ob), (c, oc), (d, od)]) := fun p hp => .tail _ (List.mem_append_right _ hp)
  have ne : ∀ x ox, (x, ox) ∈ [(D1, oS), (a, oa), (b, ob), (c, oc), (d, od)] → @LT.lt Nat _ x D1 → ∀ p ∈ (D, oD) :: gl, p.1 ≠ x := by
    intro x ox hx hlt p hp
    rcases List.mem_cons.mp hp with rfl | hp
    · exact fun e => hoff _ (List.mem_append_right _ hx) e.symm
    · exact Nat.ne_of_gt (Nat.lt_trans hlt (hg p hp))
  refine ⟨cb_drop N fun p hp => ?_, ne a oa (by simp) ha, ne b ob (by simp) hb, ne c oc (by simp) hc, ne d od (by simp) hd⟩
  rcases List.mem_cons.mp hp with rfl | hp
  · exact mem _ (by simp)
  rcases List.mem_cons.mp hp with rfl | hp
  · exact mem _ (by simp)
  rcases List.mem_cons.mp hp with rfl | hp
  · exact mem _ (by simp)
  rcases List.mem_cons.mp hp with rfl | hp
  · exact mem _ (by simp)
  rcases List.mem_cons.mp hp with rfl | hp
  · exact .head _
  · exact .tail _ (List.mem_append_left _ hp)
end
end Mine
namespace Mine
section
variable {prog : Program} {w : World} {A : Around} {E : Value → Shared → Prop} {s : Shared} {h₀ : Heap} {L : Addr} {led : List (Addr × Obj)}
theorem len_led {l : Addr} {its : Array Value} {n : Nat} {Q : Value → Shared → Prop} (N : News h₀ L s.heap led) (hl : (l, listOf its n) ∈ led) (hs : its.size ≤ sizeLine) (h : ∀ t tk, Q (.int its.size t) { s with toks := tk }) :
    wpAny (model prog w) A (call (.builtin "len") [.ref l]) Q E s :=
  len_list (items := its) ⟨_, (N _ hl).1, rfl, _, rfl⟩ (by rw [sizeLine_eq] at hs; omega) (h _ _)
/-- an item of a list, whatever it holds -/
theorem item_led {value slice : PySem.Expr} {l : Addr} {its : Array Value} {n : Nat} {k : Int} {u : Tok} {v : Value} {Q : Value → Shared → Prop} (N : News h₀ L s.heap led) (hl : (l, listOf its n) ∈ led) (h0 : 0 ≤ k) (hf : k < 2 ^ 63) (hx : its[k.toNat]? = some v) (h : Q v s)
    (hs : subscripted slice false (.ref l) (.int k u) = operate [.ref l, .int k u] (getItem (.ref l) (.int k u)) := by with_unfolding_all rfl) :
    wpAny (model prog w) A (subscriptTail value slice (.ref l) (.int k u)) Q E s :=
  item_listR ⟨_, (N _ hl).1, rfl, _, rfl⟩ h0 hf hx h hs
end
end Mine
namespace Mine
theorem GatesAt.back {news : Led} {ys zs : List Value} {gs : List Gt} {i : Nat} (h : GatesAt news ys gs) (hz : GatesAt news zs (gs.reverse.take i)) (hi : i < gs.length) :
    ∃ v, ys.toArray[((ys.length : Int) - 1 - (0 + (i : Int))).toNat]? = some v ∧ GatesAt news (zs ++ [v]) (gs.reverse.take (i + 1)) := by
  have hl := h.1
  have hlt : gs.length - 1 - i < ys.length := by omega
  have e : ((ys.length : Int) - 1 - (0 + (i : Int))).toNat = gs.length - 1 - i := by rw [hl]; omega
  refine ⟨ys[gs.length - 1 - i], by rw [e]; simp [hlt], ?_⟩
  rw [List.take_add_one, List.getElem?_eq_getElem (by simpa using hi)]
  refine hz.snoc ?_
  have := h.2 (gs.length - 1 - i) hlt (by omega)
  rw [List.getElem_reverse]
  exact this
end Mine
namespace Mine
section
variable {h₀ h : Heap} {L : Addr}
theorem off1_mem {D : Addr} : ∀ {l : Led}, LCg.Off1 D l → ∀ p ∈ l, p.1 ≠ D
  | [], _, _, hp => (nomatch hp)
  | q :: r, o, p, hp => by
    rcases List.mem_cons.mp hp with rfl | hp
    · exact o.1
    · exact off1_mem o.2 p hp
/-- a list that was made goes behind the cells -/
theorem to_rest {R : Led} {D a b c d : Addr} {oD oa ob oc od : Obj} (N : News h₀ L h ((D, oD) :: (a, oa) :: (b, ob) :: (c, oc) :: (d, od) :: R)) (o : LCg.Off1 D ((a, oa) :: (b, ob) :: (c, oc) :: (d, od) :: R))
    (ca : ∀ p ∈ R, p.1 ≠ a) (cb : ∀ p ∈ R, p.1 ≠ b) (cc : ∀ p ∈ R, p.1 ≠ c) (cd : ∀ p ∈ R, p.1 ≠ d) :
    ∃ R' : Led, (∀ p ∈ R, p ∈ R') ∧ (D, oD) ∈ R' ∧ News h₀ L h ((a, oa) :: (b, ob) :: (c, oc) :: (d, od) :: R') ∧ (∀ p ∈ R', p.1 ≠ a) ∧ (∀ p ∈ R', p.1 ≠ b) ∧ (∀ p ∈ R', p.1 ≠ c) ∧ (∀ p ∈ R', p.1 ≠ d) := by
  have hm := off1_mem o
  have ne : ∀ x ox, (x, ox) ∈ ((a, oa) :: (b, ob) :: (c, oc) :: (d, od) :: R) → (∀ p ∈ R, p.1 ≠ x) → ∀ p ∈ (D, oD) :: R, p.1 ≠ x := fun x ox hx hR p hp => by
    rcases List.mem_cons.mp hp with rfl | hp
    · exact fun e => hm _ hx e.symm
    · exact hR p hp
  refine ⟨(D, oD) :: R, fun p hp => .tail _ hp, .head _, cb_drop N fun p hp => ?_, ne a oa (.head _) ca, ne b ob (.tail _ (.head _)) cb, ne c oc (.tail _ (.tail _ (.head _))) cc, ne d od (.tail _ (.tail _ (.tail _ (.head _)))) cd⟩
  rcases List.mem_cons.mp hp with rfl | hp
  · exact .tail _ (.head _)
  rcases List.mem_cons.mp hp with rfl | hp
  · exact .tail _ (.tail _ (.head _))
  rcases List.mem_cons.mp hp with rfl | hp
  · exact .tail _ (.tail _ (.tail _ (.head _)))
  rcases List.mem_cons.mp hp with rfl | hp
  · exact .tail _ (.tail _ (.tail _ (.tail _ (.head _))))
  rcases List.mem_cons.mp hp with rfl | hp
  · exact .head _
  · exact .tail _ (.tail _ (.tail _ (.tail _ (.tail _ hp))))
end
end Mine
namespace Mine
theorem gates_ok {ns : List Int} : ∀ g ∈ gatesOf ns, g.Ok := fun g hg => by
  obtain ⟨x, _, rfl⟩ := List.mem_map.mp hg
  exact gate_ok x
/-- the table of a row of gates -/
def tbl (gs : List Gt) : List Int := (List.range 16).map fun k => runAll gs (k : Nat)
theorem tbl_take_snoc {gs : List Gt} {i : Nat} (h : i < 16) : (tbl gs).take (i + 1) = (tbl gs).take i ++ [runAll gs (i : Nat)] := by
  rw [List.take_add_one, List.getElem?_eq_getElem (by simpa [tbl] using h)]
  simp [tbl]
theorem tbl_len (gs : List Gt) : (tbl gs).length = 16 := by simp [tbl]
theorem tbl_getD {gs : List Gt} {k : Int} (h0 : 0 ≤ k) (h : k < 16) : (tbl gs).getD k.toNat 0 = runAll gs k := by
  have : k.toNat < 16 := by omega
  unfold tbl
  rw [List.getD_eq_getElem?_getD, List.getElem?_map, List.getElem?_range this]
  simp [Int.toNat_of_nonneg h0]
end Mine
namespace Mine
theorem idx_ge {n i : Nat} (h : i < n) : (0 : Int) ≤ (n : Int) - 1 - (0 + (i : Int)) := by omega
theorem idx_fit {n i : Nat} (h : n ≤ 40) : (n : Int) - 1 - (0 + (i : Int)) < 2 ^ 63 := by omega
end Mine
namespace Mine
theorem reduce_use {w : World} {R led : Led} {D : Addr} {n : Nat} {ys : List Value} {gs : List Gt} {x : Int} {tx : Tok} (hG : GatesAt R ys gs) (hD : (D, listOf ys.toArray n) ∈ R) (hs : ∀ p ∈ R, p ∈ led) (hok : ∀ g ∈ gs, g.Ok) (hx0 : 0 ≤ x) (hx : x < 16) :
    Does w 590 4900 51 [.ref 183, .ref D, .int x tx] led (fun v news' => (∃ t, v = .int (runAll gs x) t) ∧ news' = led) :=
  reduce_does w led x tx D gs ((hG.mono hs).gatesIn (hs _ hD)) hok hx0 hx
theorem sub7 {α : Type} {a b c d e f g : α} {l : List α} : ∀ p ∈ l, p ∈ a :: b :: c :: d :: e :: f :: g :: l := fun _ h => .tail _ (.tail _ (.tail _ (.tail _ (.tail _ (.tail _ (.tail _ h))))))
end Mine
namespace Mine
def iota : List Int := (List.range 16).map fun k => ((k : Nat) : Int)
section
variable {prog : Program} {w : World} {A : Around} {E : Value → Shared → Prop} {s : Shared} {h₀ : Heap} {L : Addr} {m : Str → Option Value} {led : List (Addr × Obj)}
theorem sorted_led {l : Addr} {vs : List Value} {ns r : List Int} {n : Nat} {Q : Value → Shared → Prop} (F : Fr h₀ L s.heap m) (N : News h₀ L s.heap led) (hl : (l, listOf vs.toArray n) ∈ led) (hI : IntsAre vs ns) (h64 : vs.length < 64) (hp : ns.Perm r) (hr : r.Pairwise (· ≤ ·))
    (h : ∀ a h' vs' e, Fr h₀ L h' m → News h₀ L h' ((a, listOf vs'.toArray e) :: led) → (∀ p ∈ led, @LT.lt Nat _ p.1 a) → IntsAre vs' r → Q (.ref a) { s with heap := h' }) :
    wpAny (model prog w) A (call (.builtin "sorted") [.ref l]) Q E s := by
  refine sorted_N F N ⟨_, (N _ hl).1, rfl, _, rfl⟩ hI h64 fun h' vs' ns' e F' N' hI' hp' hs => ?_
  have : ns' = r := List.Perm.eq_of_pairwise (fun a b _ _ h1 h2 => Int.le_antisymm h1 h2) hs hr (hp'.trans hp)
  subst this
  exact h _ h' vs' e F' N' (fun p hp => Nat.lt_succ_of_lt (Heap.lt_size (N p hp).1)) hI'
end
end Mine
namespace Mine
section
variable {prog : Program} {w : World} {A : Around} {E : Value → Shared → Prop} {s : Shared} {h₀ : Heap} {L : Addr} {m : Str → Option Value} {led : List (Addr × Obj)}
theorem ints_of_get {p : Nat → Int} : ∀ {n : Nat} {vs : List Value}, vs.length = n → (∀ (i : Nat) v, vs[i]? = some v → ∃ t, v = .int (p i) t) → IntsAre vs ((List.range n).map p)
  | 0, [], _, _ => .nil
  | n + 1, vs, hl, h => by
    obtain ⟨v, vs', rfl⟩ : ∃ v vs', vs = v :: vs' := by cases vs with | nil => simp at hl | cons a r => exact ⟨a, r, rfl⟩
    obtain ⟨t, rfl⟩ := h 0 v rfl
    rw [List.range_succ_eq_map, List.map_cons, List.map_map]
    exact .cons _ _ (ints_of_get (p := p ∘ Nat.succ) (by simpa using hl) fun i u hu => h (i + 1) u (by simpa using hu))
theorem list_range_led {r : Addr} {t u v : Tok} {Q : Value → Shared → Prop} (hh : A.handled = none) (F : Fr h₀ L s.heap m) (N : News h₀ L s.heap led) (hr : IsRange s.heap r 0 16 1 t u v)
    (h : ∀ a h' tk vs e, Fr h₀ L h' m → News h₀ L h' ((a, listOf vs.toArray e) :: led) → (∀ p ∈ led, @LT.lt Nat _ p.1 a) → IntsAre vs iota → Q (.ref a) { s with heap := h', toks := tk }) :
    wpAny (model prog w) A (call (.type "list") [.ref r]) Q E s := by
  refine call_list_range (n := 16) hh hr (by decide) (by decide) (by decide) fun h' tk acc c hk hS hacc => ?_
  have hlow : ∀ p ∈ led, @LT.lt Nat _ p.1 s.heap.objs.size := fun p hp => Heap.lt_size (N p hp).1
  refine h _ h' tk acc.toList c (F.keeps hk) (fun p hp => ?_) hlow (ints_of_get (by simpa using hacc.1) fun i v hv => ?_)
  · rcases List.mem_cons.mp hp with rfl | hp
    · exact ⟨by simpa using hS, Nat.ne_of_gt F.ns.lt, next_is_new F⟩
    · exact ⟨hk _ _ (N p hp).1, (N p hp).2⟩
  · obtain ⟨t', e⟩ := hacc.2 i v (by simpa using hv)
    exact ⟨t', by rw [e]; simp⟩
theorem eq_led {a b : Addr} {vs us : List Value} {ns ms : List Int} {n1 n2 : Nat} {Q : Value → Shared → Prop} (N : News h₀ L s.heap led) (ha : (a, listOf vs.toArray n1) ∈ led) (hb : (b, listOf us.toArray n2) ∈ led) (hi : IntsAre vs ns) (hi' : IntsAre us ms) (hu : A.units + 64 < cLine)
    (h : Q (.bool (decide (ns = ms))) s) : wpAny (model prog w) A (compareOp .Eq (.ref a) (.ref b)) Q E s := by
  refine eq_intsK ⟨_, (N _ ha).1, rfl, _, rfl⟩ hi ⟨_, (N _ hb).1, rfl, _, rfl⟩ hi' hu ?_
  exact h
theorem ne_led {a b : Addr} {vs us : List Value} {ns ms : List Int} {n1 n2 : Nat} {Q : Value → Shared → Prop} (N : News h₀ L s.heap led) (ha : (a, listOf vs.toArray n1) ∈ led) (hb : (b, listOf us.toArray n2) ∈ led) (hi : IntsAre vs ns) (hi' : IntsAre us ms) (hu : A.units + 64 < cLine)
    (h : Q (.bool (!decide (ns = ms))) s) : wpAny (model prog w) A (compareOp .NotEq (.ref a) (.ref b)) Q E s := by
  refine ne_intsK ⟨_, (N _ ha).1, rfl, _, rfl⟩ hi ⟨_, (N _ hb).1, rfl, _, rfl⟩ hi' hu ?_
  exact h
end
end Mine
namespace Mine
section
variable {prog : Program} {w : World} {A : Around} {E : Value → Shared → Prop} {s : Shared} {h₀ : Heap} {L : Addr} {m : Str → Option Value} {led : List (Addr × Obj)}
theorem ne_same {a b : Addr} {vs us : List Value} {ns : List Int} {n1 n2 : Nat} {Q : Value → Shared → Prop} (N : News h₀ L s.heap led) (ha : (a, listOf vs.toArray n1) ∈ led) (hb : (b, listOf us.toArray n2) ∈ led) (hi : IntsAre vs ns) (hi' : IntsAre us ns) (hu : A.units + 64 < cLine)
    (h : Q (.bool false) s) : wpAny (model prog w) A (compareOp .NotEq (.ref a) (.ref b)) Q E s :=
  ne_led N ha hb hi hi' hu (by simpa using h)
end
end Mine
namespace Mine
theorem iota_take_snoc {i : Nat} (h : i < 16) : iota.take (i + 1) = iota.take i ++ [(i : Int)] := by
  rw [List.take_add_one, List.getElem?_eq_getElem (by simpa [iota] using h)]
  simp [iota]
theorem iota_len : iota.length = 16 := by decide
end Mine
end
-- part U1
section
open LCg LCt
namespace Mine
section
variable {prog : Program} {w : World} {A : Around} {E : Value → Shared → Prop} {s : Shared} {h₀ : Heap} {L : Addr} {m : Str → Option Value} {env : Env}
/-- a comprehension over a range whose turns leave the ledger -/
theorem comp_range {elt : PySem.Expr} {x : Str} {scope : Scope} {cl : List (Str × Addr)} {S : Led → Prop} {a0 : Int} {Fin : List Value → Led → Prop} {led : Led} (J : Nat → List Value → Prop) (n : Nat) (h0 : J 0 [])
    (turn : ∀ i ys t I oI C oC D m₂ h tk (E' : Value → Shared → Prop), i < n → J i ys → NsObj oC m₂ → m₂ x = some (.int (a0 + (i : Int)) t) → Fr h₀ L h m → News h₀ L h ((I, oI) :: (C, oC) :: (D, lst ys) :: led) → Off3 I C D led → ((@Ne Nat I C) ∧ (@Ne Nat I D) ∧ (@Ne Nat C D)) →
      wpAny (model prog w) A (eval elt (compEnvC scope cl C env)) (CompEnd h₀ L m { s with heap := h, toks := tk } I oI C oC D (lst ys) S (fun y news' => J (i + 1) (ys ++ [y]) ∧ news' = led)) E' { s with heap := h, toks := tk })
    (fin : ∀ ys, J n ys → Fin ys led) : CompRest prog w A h₀ L m env elt x scope cl s S (fun i v => ∃ t, v = .int (a0 + (i : Int)) t) Fin n 0 [] led := by
  refine comp_inv (fun i ys news => J i ys ∧ news = led) n ?_ ?_ n 0 [] led (Nat.zero_add _) ⟨h0, rfl⟩
  · rintro i ys news v I oI C oC D m₂ h tk E' hi ⟨hJ, rfl⟩ ⟨t, rfl⟩ hC hx F N o ne
    exact turn i ys t I oI C oC D m₂ h tk E' hi hJ hC hx F N o ne
  · rintro ys news ⟨hJ, rfl⟩
    exact fin ys hJ
/-- a comprehension with a test whose turns leave the ledger -/
theorem compT_const {ct elt : PySem.Expr} {x : Str} {scope : Scope} {cl : List (Str × Addr)} {S : Led → Prop} {P : Nat → Value → Prop} {Fin : List Value → Led → Prop} {led : Led} (J : Nat → List Value → Prop) (n : Nat) (h0 : J 0 [])
    (turn : ∀ i ys v I oI C oC D m₂ h tk (E' : Value → Shared → Prop), i < n → J i ys → P i v → NsObj oC m₂ → m₂ x = some v → Fr h₀ L h m → News h₀ L h ((I, oI) :: (C, oC) :: (D, lst ys) :: led) → Off3 I C D led → ((@Ne Nat I C) ∧ (@Ne Nat I D) ∧ (@Ne Nat C D)) →
      wpAny (model prog w) A (isTrue ct (compEnvC scope cl C env) (eval ct (compEnvC scope cl C env))) (fun ok s' => if ok = true then
        wpAny (model prog w) A (eval elt (compEnvC scope cl C env)) (CompEnd h₀ L m { s with heap := h, toks := tk } I oI C oC D (lst ys) S (fun y news' => J (i + 1) (ys ++ [y]) ∧ news' = led)) E' s'
        else CompEnd h₀ L m { s with heap := h, toks := tk } I oI C oC D (lst ys) S (fun _ news' => J (i + 1) ys ∧ news' = led) Value.none s') E' { s with heap := h, toks := tk })
    (fin : ∀ ys, J n ys → Fin ys led) : CompRestT prog w A h₀ L m env ct elt x scope cl s S P Fin n 0 [] led := by
  refine compT_inv (fun i ys news => J i ys ∧ news = led) n ?_ ?_ n 0 [] led (Nat.zero_add _) ⟨h0, rfl⟩
  · rintro i ys news v I oI C oC D m₂ h tk E' hi ⟨hJ, rfl⟩ hP hC hx F N o ne
    exact turn i ys v I oI C oC D m₂ h tk E' hi hJ hP hC hx F N o ne
  · rintro ys news ⟨hJ, rfl⟩
    exact fin ys hJ
theorem fr_map {h : Heap} {m' : Str → Option Value} (F : Fr h₀ L h m) (e : ∀ z, m z = m' z) : Fr h₀ L h m' := by rw [← funext e]; exact F
end
section
variable {h₀ h : Heap} {L : Addr}
/-- a list that was made goes behind the cells -/
theorem to_rest_k {R : Led} {D a b c d : Addr} {oD oa ob oc od : Obj} {P : Prop} (N : News h₀ L h ((D, oD) :: (a, oa) :: (b, ob) :: (c, oc) :: (d, od) :: R)) (o : LCg.Off1 D ((a, oa) :: (b, ob) :: (c, oc) :: (d, od) :: R))
    (ca : ∀ p ∈ R, p.1 ≠ a) (cb : ∀ p ∈ R, p.1 ≠ b) (cc : ∀ p ∈ R, p.1 ≠ c) (cd : ∀ p ∈ R, p.1 ≠ d)
    (k : ∀ R' : Led, (∀ p ∈ R, p ∈ R') → (D, oD) ∈ R' → News h₀ L h ((a, oa) :: (b, ob) :: (c, oc) :: (d, od) :: R') → (∀ p ∈ R', p.1 ≠ a) → (∀ p ∈ R', p.1 ≠ b) → (∀ p ∈ R', p.1 ≠ c) → (∀ p ∈ R', p.1 ≠ d) → P) : P := by
  obtain ⟨R', h1, h2, h3, h4, h5, h6, h7⟩ := to_rest N o ca cb cc cd
  exact k R' h1 h2 h3 h4 h5 h6 h7
end
end Mine
end
-- part NS
section
open LCg LCt
namespace Mine
theorem nestTurn0 (elt t0 i0 t1 i1 : PySem.Expr) (ifs : List PySem.Expr) (scope : Scope) (pos : Pos) (it acc : Value) (env : Env) :
    compTurn (.ListComp elt [⟨t0, i0, [], 0⟩, ⟨t1, i1, ifs, 0⟩] scope pos) 0 it acc env = (standAt i0.pos >>= fun _ => pyNext it >>= fun r => match r with
      | none => pure (.done .next)
      | some v => letOwnedTupleGo t0 it v >>= fun _ => assign t0 env v >>= fun _ =>
        (eval i1 env >>= fun x => standAt i1.pos >>= fun _ => foldedSetIterable i1 env x >>= fun x => holding [x] (pyIter x) >>= fun it1 => runOwn (.compStart (.ListComp elt [⟨t0, i0, [], 0⟩, ⟨t1, i1, ifs, 0⟩] scope pos) 1 it1 acc env) env >>= fun _ =>
          again (.compLoop (.ListComp elt [⟨t0, i0, [], 0⟩, ⟨t1, i1, ifs, 0⟩] scope pos) 0 it acc env))) := by rfl
theorem nestTurn1 (elt t0 i0 t1 i1 ct : PySem.Expr) (scope : Scope) (pos : Pos) (it acc : Value) (env : Env) :
    compTurn (.ListComp elt [⟨t0, i0, [], 0⟩, ⟨t1, i1, [ct], 0⟩] scope pos) 1 it acc env = (standAt i1.pos >>= fun _ => pyNext it >>= fun r => match r with
      | none => pure (.done .next)
      | some v => letOwnedTupleGo t1 it v >>= fun _ => assign t1 env v >>= fun _ =>
        (forIn [ct] true fun c r => if r = true then do let ok ← isTrue c env (eval c env); pure (ForInStep.yield ok) else pure (ForInStep.yield r)) >>= fun ok =>
        if ok = true then (eval elt env >>= fun x => call (.builtin "list.append") [acc, x] >>= fun _ => pure ()) >>= fun _ =>
          again (.compLoop (.ListComp elt [⟨t0, i0, [], 0⟩, ⟨t1, i1, [ct], 0⟩] scope pos) 1 it acc env)
        else again (.compLoop (.ListComp elt [⟨t0, i0, [], 0⟩, ⟨t1, i1, [ct], 0⟩] scope pos) 1 it acc env)) := by rfl
end Mine
namespace Mine
section
variable {prog : Program} {w : World} {A : Around} {R : Result → Shared → Prop} {s : Shared} {elt t0 i0 t1 i1 ct : PySem.Expr} {scope : Scope} {pos : Pos} {it acc : Value} {env : Env}
abbrev noE : Value → Shared → Prop := fun _ _ => False
theorem noE_mono {α : Type} {M : Model} {t : Sem α} {Q Q' : α → Shared → Prop} {E : Value → Shared → Prop} (h : wpAny M A t Q noE s) (hq : ∀ a s, Q a s → Q' a s) : wpAny M A t Q' E s := wpAny_mono h hq fun _ _ e => e.elim
theorem nest_inner (I : Nat → Shared → Prop)
    (turn : ∀ n s, I n s → wpAny (model prog w) A (pyNext it) (fun r s₁ => match r with
      | none => R (.ok .next) s₁
      | some v => wpAny (model prog w) A (assign t1 env v) (fun _ s₂ => wpAny (model prog w) A (isTrue ct env (eval ct env)) (fun ok s₃ =>
          if ok = true then wpAny (model prog w) A (eval elt env) (fun x s₄ => wpAny (model prog w) A (call (.builtin "list.append") [acc, x]) (fun _ s₅ => ∃ m, m < n ∧ I m s₅) noE s₄) noE s₃
          else ∃ m, m < n ∧ I m s₃) noE s₂) noE s₁) noE s)
    (n : Nat) (h : I n s) (ht : ∀ v, letOwnedTupleGo t1 it v = pure () := by intro _; rfl) :
    codeAny (model prog w) A (.compLoop (.ListComp elt [⟨t0, i0, [], 0⟩, ⟨t1, i1, [ct], 0⟩] scope pos) 1 it acc env) R s := by
  refine codeAny_loop rfl I (fun n s hI => ?_) n h
  show wpAny _ A ((compTurn (.ListComp elt [⟨t0, i0, [], 0⟩, ⟨t1, i1, [ct], 0⟩] scope pos) 1 it acc env).onRaise (fun x => do noteFrame x env; theTreesLotGoes x)) _ _ s
  refine wpAny_noted ?_
  rw [nestTurn1]
  refine wpAny_bind (wpAny_standAt (wpAny_bind (noE_mono (turn n s hI) fun r s₁ h₁ => ?_)))
  cases r with
  | none => exact wpAny_pure h₁
  | some v =>
    refine wpAny_bind (wpAny_of_eq (ht v) (wpAny_bind (noE_mono h₁ fun _ s₂ h₂ => wpAny_bind (wpAny_tests_one (noE_mono h₂ fun ok s₃ h₃ => ?_)))))
    cases ok with
    | false => exact wpAny_pure ⟨rfl, h₃⟩
    | true => exact wpAny_bind (wpAny_bind (noE_mono h₃ fun x s₄ h₄ => wpAny_bind (noE_mono h₄ fun _ s₅ h₅ => wpAny_pure (wpAny_pure ⟨rfl, h₅⟩))))
theorem nest_start {ifs : List PySem.Expr}
    (h0 : codeAny (model prog w) A (.compLoop (.ListComp elt [⟨t0, i0, [], 0⟩, ⟨t1, i1, ifs, 0⟩] scope pos) 1 it acc env) R s)
    (h : wpAny (model prog w) A (pyIter it) (fun it' s' => codeAny (model prog w) A (.compLoop (.ListComp elt [⟨t0, i0, [], 0⟩, ⟨t1, i1, ifs, 0⟩] scope pos) 1 it' acc env) R s') noE s) :
    codeAny (model prog w) A (.compStart (.ListComp elt [⟨t0, i0, [], 0⟩, ⟨t1, i1, ifs, 0⟩] scope pos) 1 it acc env) R s := by
  refine codeAny_of_tree ?_
  show wpAny _ _ ((compStart (.ListComp elt [⟨t0, i0, [], 0⟩, ⟨t1, i1, ifs, 0⟩] scope pos) 1 it acc env).onRaise (fun x => do noteFrame x env; standAt theWindowsPlace)) _ _ s
  refine wpAny_notedAt ?_
  unfold compStart
  show wpAny _ _ (ask >>= _) _ _ s
  refine wpAny_bind (wpAny_askSetting (wpAny_ite ?_))
  split
  · first
      | exact wpAny_bind (wpAny_pure (wpAny_pure (And.intro rfl h0)))
      | exact wpAny_pure (And.intro rfl h0)
  · refine wpAny_bind (wpAny_rule ?_)
    show wpAny _ _ (standAt i1.pos >>= _) _ _ s
    exact wpAny_bind (wpAny_standAt (wpAny_bind (noE_mono h fun it' s' h' => wpAny_pure (And.intro rfl h'))))
theorem nest_outer {ifs : List PySem.Expr} (I : Nat → Shared → Prop)
    (turn : ∀ n s, I n s → wpAny (model prog w) A (pyNext it) (fun r s₁ => match r with
      | none => R (.ok .next) s₁
      | some v => wpAny (model prog w) A (assign t0 env v) (fun _ s₂ => wpAny (model prog w) A (eval i1 env) (fun x s₃ => wpAny (model prog w) A (pyIter x) (fun it1 s₄ =>
          codeAny (model prog w) A (.compStart (.ListComp elt [⟨t0, i0, [], 0⟩, ⟨t1, i1, ifs, 0⟩] scope pos) 1 it1 acc env) (fun r s₅ => match r with | .ok _ => ∃ m, m < n ∧ I m s₅ | .error _ => False) s₄) noE s₃) noE s₂) noE s₁) noE s)
    (n : Nat) (h : I n s) (hs : ∀ x, foldedSetIterable i1 env x = pure x := by intro _; rfl) (ht : ∀ v, letOwnedTupleGo t0 it v = pure () := by intro _; rfl) :
    codeAny (model prog w) A (.compLoop (.ListComp elt [⟨t0, i0, [], 0⟩, ⟨t1, i1, ifs, 0⟩] scope pos) 0 it acc env) R s := by
  refine codeAny_loop rfl I (fun n s hI => ?_) n h
  show wpAny _ A ((compTurn (.ListComp elt [⟨t0, i0, [], 0⟩, ⟨t1, i1, ifs, 0⟩] scope pos) 0 it acc env).onRaise (fun x => do noteFrame x env; theTreesLotGoes x)) _ _ s
  refine wpAny_noted ?_
  rw [nestTurn0]
  refine wpAny_bind (wpAny_standAt (wpAny_bind (noE_mono (turn n s hI) fun r s₁ h₁ => ?_)))
  cases r with
  | none => exact wpAny_pure h₁
  | some v =>
    refine wpAny_bind (wpAny_of_eq (ht v) (wpAny_bind (noE_mono h₁ fun _ s₂ h₂ => wpAny_bind (noE_mono h₂ fun x s₃ h₃ => wpAny_bind (wpAny_standAt (wpAny_bind (wpAny_of_eq (hs x) ?_)))))))
    refine wpAny_bind (wpAny_holding (noE_mono h₃ fun it1 s₄ h₄ => wpAny_bind (wpAny_runOwn (codeAny_mono h₄ fun r s₅ h₅ => ?_))))
    cases r with
    | ok f => exact wpAny_pure ⟨rfl, h₅⟩
    | error e => exact h₅.elim
end
end Mine
end
-- part NS2
section
open LCg LCt
namespace Mine
def cnt (t : Int → Int) (j : Nat) : Nat → Nat
  | 0 => 0
  | i + 1 => cnt t j i + if t j < t i then 1 else 0
def tot (t : Int → Int) : Nat → Nat
  | 0 => 0
  | j + 1 => tot t j + cnt t j j
theorem cnt_le (t : Int → Int) (j : Nat) : ∀ i, cnt t j i ≤ i
  | 0 => Nat.le_refl _
  | i + 1 => by have := cnt_le t j i; unfold cnt; split <;> omega
theorem tot_le (t : Int → Int) : ∀ j, j ≤ 16 → tot t j ≤ 16 * j
  | 0, _ => Nat.le_refl _
  | j + 1, h => by have := tot_le t j (by omega); have := cnt_le t j j; unfold tot; omega
section
variable {prog : Program} {w : World} {A : Around} {E : Value → Shared → Prop} {s : Shared} {h₀ : Heap} {L : Addr} {m : Str → Option Value} {env : Env}
theorem assign_comp {C : Addr} {oC : Obj} {mC : Str → Option Value} {rest : Led} {x : Str} {px : Pos} {v : Value} {scope : Scope} {cl : List (Str × Addr)} {Q : Unit → Shared → Prop} (hx : scope.names.lookup x = some .local) (hkind : scope.kind = .function)
    (F : Fr h₀ L s.heap m) (N : News h₀ L s.heap ((C, oC) :: rest)) (hC : NsObj oC mC) (off : ∀ p ∈ rest, p.1 ≠ C)
    (k : ∀ h' oC' tk, Fr h₀ L h' m → News h₀ L h' ((C, oC') :: rest) → NsObj oC' (fun z => if z = x then some v else mC z) → Q () { s with heap := h', toks := tk }) :
    wpAny (model prog w) A (assign (.Name x px) (compEnvC scope cl C env) v) Q E s := by
  have hCN := N _ (.head _)
  refine wpAny_assign_Name (wpAny_storeName_local (lookup_relabel_local hx) (hC.ns hCN.1) (fun h₃ hn₃ hs₃ => ?_) (by simp [compEnvC, relabel, hkind]))
  obtain ⟨oC', heC, hoC⟩ := ns_obj hn₃
  refine k h₃ oC' _ (F.change hs₃ hCN.2.1 hCN.2.2) (fun p hp => ?_) hoC
  rcases List.mem_cons.mp hp with rfl | hp
  · exact ⟨heC, hCN.2⟩
  · exact ⟨hs₃.extBut _ _ (off p hp) (N p (.tail _ hp)).1, (N p (.tail _ hp)).2⟩
/-- the list that is made has an item more -/
theorem append_comp {D : Addr} {ys : List Value} {rest : Led} {y : Value} {Q : Value → Shared → Prop} (F : Fr h₀ L s.heap m) (N : News h₀ L s.heap ((D, lst ys) :: rest)) (off : ∀ p ∈ rest, p.1 ≠ D) (hsz : ys.length ≤ sizeLine)
    (k : ∀ h', Fr h₀ L h' m → News h₀ L h' ((D, lst (ys ++ [y])) :: rest) → Q .none { s with heap := h' }) : wpAny (model prog w) A (call (.builtin "list.append") [.ref D, y]) Q E s := by
  have hD := N _ (.head _)
  refine append_at (hsz := by show ys.toArray.size ≤ sizeLine; rw [List.size_toArray]; exact hsz) hD.1 fun h₅ hs₅ hD₅ => ?_
  refine k h₅ (F.change hs₅ hD.2.1 hD.2.2) fun p hp => ?_
  rcases List.mem_cons.mp hp with rfl | hp
  · exact ⟨hD₅.trans (congrArg some (lst_snoc ys y)), hD.2⟩
  · exact ⟨hs₅.extBut _ _ (off p hp) (N p (.tail _ hp)).1, (N p (.tail _ hp)).2⟩
theorem news_sub {h : Heap} {l l' : Led} (N : News h₀ L h l) (hs : ∀ p ∈ l', p ∈ l) : News h₀ L h l' := fun p hp => N p (hs p hp)
end
end Mine
end
-- part NS3
section
open LCg LCt
namespace Mine
section
variable {prog : Program} {w : World} {A : Around} {s : Shared} {h₀ : Heap} {L : Addr} {m : Str → Option Value} {env : Env}
theorem nest_loops {R : Result → Shared → Prop} {elt i0 i1 ct : PySem.Expr} {xj xi : Str} {pj pi : Pos} {scope : Scope} {cl : List (Str × Addr)} {pos : Pos} {I0 C D : Addr} {oC : Obj} {mC : Str → Option Value} {news : Led} (t : Int → Int)
    (hs1 : ∀ x, foldedSetIterable i1 (compEnvC scope cl C env) x = pure x) (hh : A.handled = none) (hxj : scope.names.lookup xj = some .local) (hxi : scope.names.lookup xi = some .local) (hkind : scope.kind = .function) (hne : xj ≠ xi)
    (hn : ∀ p ∈ news, p.1 ≠ I0 ∧ p.1 ≠ C ∧ p.1 ≠ D) (d1 : @Ne Nat I0 C) (d2 : @Ne Nat I0 D) (d3 : @Ne Nat C D)
    (src1 : ∀ (j : Nat) tj oC mC ys led h tk, j < 16 → NsObj oC mC → mC xj = some (.int j tj) → (∀ p ∈ news, p ∈ led) → (C, oC) ∈ led → Fr h₀ L h m → News h₀ L h led → led = (I0, rgObj (j + 1) 16) :: (C, oC) :: (D, lst ys) :: news →
      wpAny (model prog w) A (eval i1 (compEnvC scope cl C env)) (fun xv s' => ∃ r a b c h' tk', xv = .ref r ∧ s' = { s with heap := h', toks := tk' } ∧ IsRange h' r 0 j 1 a b c ∧ Fr h₀ L h' m ∧ News h₀ L h' led) noE { s with heap := h, toks := tk })
    (test : ∀ (j i : Nat) tj ti oC mC led h tk, i < j → j < 16 → NsObj oC mC → mC xj = some (.int j tj) → mC xi = some (.int i ti) → (∀ p ∈ news, p ∈ led) → (C, oC) ∈ led → Fr h₀ L h m → News h₀ L h led →
      wpAny (model prog w) A (isTrue ct (compEnvC scope cl C env) (eval ct (compEnvC scope cl C env))) (fun ok s' => ok = decide (t j < t i) ∧ ∃ h' tk', s' = { s with heap := h', toks := tk' } ∧ Fr h₀ L h' m ∧ News h₀ L h' led) noE { s with heap := h, toks := tk })
    (el : ∀ led h tk, Fr h₀ L h m → News h₀ L h led → wpAny (model prog w) A (eval elt (compEnvC scope cl C env)) (fun _ s' => ∃ h' tk', s' = { s with heap := h', toks := tk' } ∧ Fr h₀ L h' m ∧ News h₀ L h' led) noE { s with heap := h, toks := tk })
    (F : Fr h₀ L s.heap m) (N : News h₀ L s.heap ((I0, rgObj 0 16) :: (C, oC) :: (D, lst []) :: news)) (hC : NsObj oC mC)
    (fin : ∀ h tk ys oC mC, ys.length = tot t 16 → Fr h₀ L h m → News h₀ L h ((C, oC) :: (D, lst ys) :: news) → NsObj oC mC → R (.ok .next) { s with heap := h, toks := tk }) :
    codeAny (model prog w) A (.compLoop (.ListComp elt [⟨.Name xj pj, i0, [], 0⟩, ⟨.Name xi pi, i1, [ct], 0⟩] scope pos) 0 (.ref I0) (.ref D) (compEnvC scope cl C env)) R s := by
  have offI0 : ∀ (oC : Obj) (ys : List Value), Off I0 ((C, oC) :: (D, lst ys) :: news) := fun oC ys => oc (Ne.symm d1) (oc (Ne.symm d2) fun p hp => (hn p hp).1)
  refine nest_outer (fun k s' => ∃ h tk j ys oC mC, s' = { s with heap := h, toks := tk } ∧ j ≤ 16 ∧ k = 17 - j ∧ Fr h₀ L h m ∧ News h₀ L h ((I0, rgObj j 16) :: (C, oC) :: (D, lst ys) :: news) ∧ NsObj oC mC ∧ ys.length = tot t j) ?_ 17
    ⟨s.heap, s.toks, 0, [], oC, mC, rfl, Nat.zero_le _, rfl, F, N, hC, rfl⟩ hs1
  intro k s' hh
  refine ex6 hh fun h tk j ys oC mC hh2 => an7 hh2 fun es hj ek F N hC hy => ?_
  clear hh hh2
  subst es ek
  rcases Nat.lt_or_eq_of_le hj with hlt | rfl
  · refine next_rg (s := { s with heap := h, toks := tk }) F N (offI0 _ _) hlt fun h1 tk1 F1 N1 => ?_
    refine assign_comp (s := { s with heap := h1, toks := tk1 }) hxj hkind F1 (news_sub N1 (l' := (C, oC) :: (I0, rgObj (j + 1) 16) :: (D, lst ys) :: news) pm_ba) hC (oc d1 (oc (Ne.symm d3) fun p hp => (hn p hp).2.1)) fun h2 oC2 tk2 F2 N2 hC2 => ?_
    have N2' : News h₀ L h2 ((I0, rgObj (j + 1) 16) :: (C, oC2) :: (D, lst ys) :: news) := news_sub N2 pm_ba
    refine wpAny_mono (src1 j _ oC2 _ ys _ h2 tk2 hlt hC2 (if_pos rfl) (fun p hp => .tail _ (.tail _ (.tail _ hp))) (.tail _ (.head _)) F2 N2' rfl) ?_ fun _ _ e => e
    intro xv s3 hh
    refine ex6 hh fun r a b c h3 tk3 hh2 => an5 hh2 fun ex es hR F3 N3 => ?_
    clear hh hh2
    subst ex es
    refine wpAny_pyIter_range hR (small_one (by decide) (by decide) (by omega) (by omega)) ?_
    have hsize : Builtin.Range.rangeSize 0 (j : Int) 1 = ((j : Nat) : Int) := by rw [rangeSize_nat]; omega
    rw [hsize]
    have e0 : ({ cls := .type "range_iterator", data := .fields #[rawInt 0, rawInt (j : Int), rawInt 1] } : Obj) = rgObj 0 j := by simp [rgObj]
    rw [e0]
    have hlow : ∀ p ∈ (I0, rgObj (j + 1) 16) :: (C, oC2) :: (D, lst ys) :: news, @LT.lt Nat _ p.1 h3.objs.size := fun p hp => Heap.lt_size (N3 p hp).1
    have F4 := F3.push (rgObj 0 j)
    have N4 := News.push F3 N3 (rgObj 0 j)
    have nI1 : ∀ p ∈ news, p.1 ≠ h3.objs.size := fun p hp => Nat.ne_of_lt (hlow p (.tail _ (.tail _ (.tail _ hp))))
    have nI0 : @Ne Nat I0 h3.objs.size := Nat.ne_of_lt (hlow _ (.head _))
    have nC : @Ne Nat C h3.objs.size := Nat.ne_of_lt (hlow _ (.tail _ (.head _)))
    have nD : @Ne Nat D h3.objs.size := Nat.ne_of_lt (hlow _ (.tail _ (.tail _ (.head _))))
    have loop : ∀ s5 : Shared, s5 = { s with heap := h3.push (rgObj 0 j), toks := tk3 } → codeAny (model prog w) A (.compLoop (.ListComp elt [⟨.Name xj pj, i0, [], 0⟩, ⟨.Name xi pi, i1, [ct], 0⟩] scope pos) 1 (.ref h3.objs.size) (.ref D) (compEnvC scope cl C env))
        (fun r s₅ => match r with | .ok _ => ∃ m', m' < 17 - j ∧ ∃ h tk j ys oC mC, s₅ = { s with heap := h, toks := tk } ∧ j ≤ 16 ∧ m' = 17 - j ∧ Fr h₀ L h m ∧ News h₀ L h ((I0, rgObj j 16) :: (C, oC) :: (D, lst ys) :: news) ∧ NsObj oC mC ∧ ys.length = tot t j | .error _ => False) s5 := by
      rintro s5 rfl
      refine nest_inner (fun k s' => ∃ h tk i ys oC mC tj, s' = { s with heap := h, toks := tk } ∧ i ≤ j ∧ k = j + 1 - i ∧ Fr h₀ L h m ∧ News h₀ L h ((h3.objs.size, rgObj i j) :: (C, oC) :: (D, lst ys) :: (I0, rgObj (j + 1) 16) :: news) ∧ NsObj oC mC ∧ mC xj = some (.int j tj) ∧ ys.length = tot t j + cnt t j i) ?_ (j + 1)
        ⟨_, _, 0, ys, oC2, _, _, rfl, Nat.zero_le _, rfl, F4, news_sub N4 (pm_x pm_bca), hC2, if_pos rfl, hy⟩
      intro k s' hh
      refine ex7 hh fun h5 tk5 i ys5 oC5 mC5 tj5 hh2 => an8 hh2 fun es hi ek F5 N5 hC5 hm5 hy5 => ?_
      clear hh hh2
      subst es ek
      have offI1 : Off h3.objs.size ((C, oC5) :: (D, lst ys5) :: (I0, rgObj (j + 1) 16) :: news) := oc nC (oc nD (oc nI0 nI1))
      rcases Nat.lt_or_eq_of_le hi with hlt2 | rfl
      · refine next_rg (s := { s with heap := h5, toks := tk5 }) F5 N5 offI1 hlt2 fun h6 tk6 F6 N6 => ?_
        refine assign_comp (s := { s with heap := h6, toks := tk6 }) hxi hkind F6 (news_sub N6 (l' := (C, oC5) :: (h3.objs.size, rgObj (i + 1) j) :: (D, lst ys5) :: (I0, rgObj (j + 1) 16) :: news) pm_ba) hC5 (oc (Ne.symm nC) (oc (Ne.symm d3) (oc d1 fun p hp => (hn p hp).2.1))) fun h7 oC7 tk7 F7 N7 hC7 => ?_
        have hm7 : (fun z => if z = xi then some (Value.int i tk5) else mC5 z) xj = some (.int j tj5) := by simp only [if_neg hne]; exact hm5
        refine wpAny_mono (test j i tj5 _ oC7 _ _ h7 tk7 hlt2 hlt hC7 hm7 (if_pos rfl) (fun p hp => .tail _ (.tail _ (.tail _ (.tail _ hp)))) (.head _) F7 N7) ?_ fun _ _ e => e
        intro ok s8 hh
        refine an2 hh fun hok hh1 => ex2 hh1 fun h8 tk8 hh2 => an3 hh2 fun es F8 N8 => ?_
        clear hh hh1 hh2
        subst es
        by_cases hd : t j < t i
        · rw [decide_eq_true hd] at hok
          subst hok
          rw [if_pos rfl]
          refine wpAny_mono (el _ h8 tk8 F8 N8) ?_ fun _ _ e => e
          intro y s9 hh
          refine ex2 hh fun h9 tk9 hh2 => an3 hh2 fun es F9 N9 => ?_
          clear hh hh2
          subst es
          refine append_comp (s := { s with heap := h9, toks := tk9 }) F9 (news_sub N9 (l' := (D, lst ys5) :: (C, oC7) :: (h3.objs.size, rgObj (i + 1) j) :: (I0, rgObj (j + 1) 16) :: news) pm_cab) (oc d3 (oc (Ne.symm nD) (oc d2 fun p hp => (hn p hp).2.2))) ?_ fun hA FA NA => ?_
          · have := tot_le t j (by omega)
            have := cnt_le t j i
            rw [hy5, sizeLine_eq]; omega
          · refine ⟨j + 1 - (i + 1), by omega, hA, tk9, i + 1, ys5 ++ [y], oC7, _, tj5, rfl, hlt2, rfl, FA, news_sub NA pm_cba, hC7, hm7, ?_⟩
            · rw [List.length_append, List.length_singleton, hy5, cnt, if_pos hd]; omega
        · rw [decide_eq_false hd] at hok
          subst hok
          rw [if_neg Bool.false_ne_true]
          refine ⟨j + 1 - (i + 1), by omega, h8, tk8, i + 1, ys5, oC7, _, tj5, rfl, hlt2, rfl, F8, news_sub N8 pm_ba, hC7, hm7, ?_⟩
          · rw [hy5, cnt, if_neg hd, Nat.add_zero]
      · refine end_rg (s := { s with heap := h5, toks := tk5 }) hh F5 N5 offI1 fun h6 F6 N6 => ?_
        refine ⟨17 - (i + 1), by omega, h6, tk5, i + 1, ys5, oC5, mC5, rfl, by omega, rfl, F6, news_sub N6 pm_cab, hC5, ?_⟩
        · rw [hy5, tot]
    refine nest_start (loop _ rfl) ?_
    have hI1 := N4 _ (.head _)
    refine Walks.self (range_walks (prog := prog) (w := w) hh 0 j) 0 _ _ _ ?_ (loop _ rfl)
    have := hI1.1
    simpa [rgObj, IsRangeIter] using this
  · refine end_rg (s := { s with heap := h, toks := tk }) hh F N (offI0 _ _) fun h1 F1 N1 => ?_
    exact fin h1 tk ys oC mC hy F1 N1 hC
theorem ListComp_nest {E : Value → Shared → Prop} {elt i0 i1 ct : PySem.Expr} {xj xi : Str} {pj pi : Pos} {scope : Scope} {cl : List (Str × Addr)} {pos : Pos} {Q : Value → Shared → Prop} (t : Int → Int)
    (hclos : closureFor scope env = pure cl) (hcell : ∀ y ∈ scope.names, y.2 ≠ .cell) (hkind : scope.kind = .function) (hnames : ∀ y ∈ scope.names, y.2 = .local → scope.names.lookup y.1 = some .local)
    (hxj : scope.names.lookup xj = some .local) (hxi : scope.names.lookup xi = some .local) (hne : xj ≠ xi)
    (h : wpAny (model prog w) A (eval i0 env) (fun xv s₁ => ∃ r a b c news, xv = .ref r ∧ A.handled = none ∧ IsRange s₁.heap r 0 16 1 a b c ∧ Fr h₀ L s₁.heap m ∧ News h₀ L s₁.heap news ∧
      (∀ (C : Addr) (j : Nat) tj oC mC led h tk, j < 16 → NsObj oC mC → mC xj = some (.int j tj) → (∀ p ∈ news, p ∈ led) → (C, oC) ∈ led → Fr h₀ L h m → News h₀ L h led →
        wpAny (model prog w) A (eval i1 (compEnvC scope cl C env)) (fun xv s' => ∃ r a b c h' tk', xv = .ref r ∧ s' = { s₁ with heap := h', toks := tk' } ∧ IsRange h' r 0 j 1 a b c ∧ Fr h₀ L h' m ∧ News h₀ L h' led) noE { s₁ with heap := h, toks := tk }) ∧
      (∀ (C : Addr) (j i : Nat) tj ti oC mC led h tk, i < j → j < 16 → NsObj oC mC → mC xj = some (.int j tj) → mC xi = some (.int i ti) → (∀ p ∈ news, p ∈ led) → (C, oC) ∈ led → Fr h₀ L h m → News h₀ L h led →
        wpAny (model prog w) A (isTrue ct (compEnvC scope cl C env) (eval ct (compEnvC scope cl C env))) (fun ok s' => ok = decide (t j < t i) ∧ ∃ h' tk', s' = { s₁ with heap := h', toks := tk' } ∧ Fr h₀ L h' m ∧ News h₀ L h' led) noE { s₁ with heap := h, toks := tk }) ∧
      (∀ (C : Addr) led h tk, Fr h₀ L h m → News h₀ L h led → wpAny (model prog w) A (eval elt (compEnvC scope cl C env)) (fun _ s' => ∃ h' tk', s' = { s₁ with heap := h', toks := tk' } ∧ Fr h₀ L h' m ∧ News h₀ L h' led) noE { s₁ with heap := h, toks := tk }) ∧
      (∀ D h tk ys, ys.length = tot t 16 → Fr h₀ L h m → News h₀ L h ((D, lst ys) :: news) → (∀ p ∈ news, p.1 ≠ D) → Q (.ref D) { s₁ with heap := h, toks := tk })) E s)
    (hs : ∀ x, foldedSetIterable i0 env x = pure x := by intro _; rfl) (hs1 : ∀ C x, foldedSetIterable i1 (compEnvC scope cl C env) x = pure x := by intro _ _; rfl) :
    wpAny (model prog w) A (eval (.ListComp elt [⟨.Name xj pj, i0, [], 0⟩, ⟨.Name xi pi, i1, [ct], 0⟩] scope pos) env) Q E s := by
  rw [eval_ListComp]
  refine wpAny_comprehension_free (use := none) rfl hs hclos hkind hnames (wpAny_mono h (fun xv s₁ h₁ => ?_) fun _ _ e => e)
  refine ex5 h₁ fun r a b c news hh2 => an9 hh2 fun ex hh hR F N src1 test el fin => ?_
  clear h₁ hh2
  subst ex
  refine wpAny_pyIter_range hR (by decide) ?_
  have hsize : Builtin.Range.rangeSize 0 16 1 = ((16 : Nat) : Int) := by decide
  rw [hsize]
  have e0 : ({ cls := .type "range_iterator", data := .fields #[rawInt 0, rawInt ((16 : Nat) : Int), rawInt 1] } : Obj) = rgObj 0 16 := by simp [rgObj]
  rw [e0]
  have low : ∀ p ∈ news, @LT.lt Nat _ p.1 s₁.heap.objs.size := fun p hp => Heap.lt_size (N p hp).1
  have F1 := F.push (rgObj 0 16)
  have N1 := News.push F N (rgObj 0 16)
  have F2 := F1.push (lst [])
  have N2 := News.push F1 N1 (lst [])
  refine wpAny_newObj_type (wpAny_newFunctionEnv hcell (by intro y hy; simp at hy) (fun h₁ hns₁ hsb₁ => ?_) hkind)
  have hD : (s₁.heap.push (rgObj 0 16)).objs.size = s₁.heap.objs.size + 1 := Heap.size_push ..
  have hCs : ((s₁.heap.push (rgObj 0 16)).push (lst [])).objs.size = s₁.heap.objs.size + 2 := by rw [Heap.size_push, hD]
  dsimp only at hns₁ hsb₁ ⊢
  have old : ∀ b o, ((s₁.heap.push (rgObj 0 16)).push (lst [])).get? b = some o → h₁.get? b = some o := fun b o e => hsb₁.extBut b o (Nat.ne_of_lt (Heap.lt_size e)) (Heap.get?_push_of_some _ e)
  have F3 : Fr h₀ L h₁ m := F2.keeps old
  have N3 : News h₀ L h₁ _ := N2.grown old
  obtain ⟨oC, heC, hoC⟩ := ns_obj hns₁
  have hC0 : h₀.get? ((s₁.heap.push (rgObj 0 16)).push (lst [])).objs.size = none := next_is_new F2
  have hCL : ((s₁.heap.push (rgObj 0 16)).push (lst [])).objs.size ≠ L := Nat.ne_of_gt F2.ns.lt
  have loop : ∀ s₃ : Shared, s₃ = { s₁ with heap := h₁, toks := s₁.toks + ([] : List (Str × Value)).length } →
      codeAny (model prog w) A (.compLoop (.ListComp elt [⟨.Name xj pj, i0, [], 0⟩, ⟨.Name xi pi, i1, [ct], 0⟩] scope pos) 0 (.ref s₁.heap.objs.size) (.ref (s₁.heap.push (rgObj 0 16)).objs.size) (compEnvC scope cl ((s₁.heap.push (rgObj 0 16)).push (lst [])).objs.size env))
        (compPost (model prog w) A E none Q (.ref (s₁.heap.push (rgObj 0 16)).objs.size) ((s₁.heap.push (rgObj 0 16)).push (lst [])).objs.size) s₃ := by
    rintro s₃ rfl
    have d1 : @Ne Nat s₁.heap.objs.size ((s₁.heap.push (rgObj 0 16)).push (lst [])).objs.size := by rw [hCs]; exact Nat.ne_of_lt (by omega)
    have d2 : @Ne Nat s₁.heap.objs.size (s₁.heap.push (rgObj 0 16)).objs.size := by rw [hD]; exact Nat.ne_of_lt (by omega)
    have d3 : @Ne Nat ((s₁.heap.push (rgObj 0 16)).push (lst [])).objs.size (s₁.heap.push (rgObj 0 16)).objs.size := by rw [hCs, hD]; exact Nat.ne_of_gt (by omega)
    refine nest_loops (s := { s₁ with heap := h₁, toks := s₁.toks + ([] : List (Str × Value)).length }) (oC := oC) (news := news) t (hs1 _) hh hxj hxi hkind hne ?_ d1 d2 d3 ?_ ?_ ?_ F3 ?_ hoC ?_
    · intro p hp
      have := low p hp
      exact ⟨Nat.ne_of_lt this, by rw [hCs]; exact Nat.ne_of_lt (by omega), by rw [hD]; exact Nat.ne_of_lt (by omega)⟩
    · intro j tj oC mC ys led h tk hj hC hm hs hc F N _
      exact src1 _ j tj oC mC led h tk hj hC hm hs hc F N
    · intro j i tj ti oC mC led h tk hi hj hC hm hm' hs hc F N
      exact test _ j i tj ti oC mC led h tk hi hj hC hm hm' hs hc F N
    · exact el _
    · intro p hp
      rcases List.mem_cons.mp hp with rfl | hp
      · exact N3 _ (.tail _ (.head _))
      rcases List.mem_cons.mp hp with rfl | hp
      · exact ⟨heC, hCL, hC0⟩
      rcases List.mem_cons.mp hp with rfl | hp
      · exact N3 _ (.head _)
      · exact N3 _ (.tail _ (.tail _ hp))
    · intro h4 tk4 ys oC4 mC4 hy F4 N4 hC4
      have hCN := N4 _ (.head _)
      refine ⟨mC4, hC4.ns hCN.1, fun h' hs' => fin _ h' tk4 ys hy (F4.change hs' hCN.2.1 hCN.2.2) (fun p hp => ?_) fun p hp => ?_⟩
      · refine ⟨hs'.extBut _ _ ?_ (N4 p (.tail _ hp)).1, (N4 p (.tail _ hp)).2⟩
        rcases List.mem_cons.mp hp with rfl | hp
        · exact fun e => d3 e.symm
        · rw [hCs]; exact Nat.ne_of_lt (Nat.lt_trans (low p hp) (by omega))
      · rw [hD]; exact Nat.ne_of_lt (Nat.lt_trans (low p hp) (by omega))
  refine codeAny_compStart_list (loop _ rfl) ?_
  have hI := N3 _ (.tail _ (.head _))
  refine Walks.self (range_walks (prog := prog) (w := w) hh 0 16) 0 _ _ _ ?_ (loop _ rfl)
  have := hI.1
  simpa [rgObj, IsRangeIter] using this
end
end Mine
end
-- part NS4
section
open LCg LCt
namespace Mine
section
def NestR (h₀ : Heap) (L : Addr) (m : Str → Option Value) (s₁ : Shared) (j : Nat) (led : Led) (xv : Value) (s' : Shared) : Prop :=
  ∃ r a b c h' tk', xv = .ref r ∧ s' = { s₁ with heap := h', toks := tk' } ∧ IsRange h' r 0 j 1 a b c ∧ Fr h₀ L h' m ∧ News h₀ L h' led
def NestT (h₀ : Heap) (L : Addr) (m : Str → Option Value) (s₁ : Shared) (want : Bool) (led : Led) (ok : Bool) (s' : Shared) : Prop :=
  ok = want ∧ ∃ h' tk', s' = { s₁ with heap := h', toks := tk' } ∧ Fr h₀ L h' m ∧ News h₀ L h' led
def NestE (h₀ : Heap) (L : Addr) (m : Str → Option Value) (s₁ : Shared) (led : Led) (_ : Value) (s' : Shared) : Prop :=
  ∃ h' tk', s' = { s₁ with heap := h', toks := tk' } ∧ Fr h₀ L h' m ∧ News h₀ L h' led
def NestSrc (prog : Program) (w : World) (A : Around) (h₀ : Heap) (L : Addr) (m : Str → Option Value) (env : Env) (elt i1 ct : PySem.Expr) (xj xi : Str) (scope : Scope) (cl : List (Str × Addr)) (t : Int → Int) (Q : Value → Shared → Prop) (xv : Value) (s₁ : Shared) : Prop :=
  ∃ r a b c news, xv = .ref r ∧ A.handled = none ∧ IsRange s₁.heap r 0 16 1 a b c ∧ Fr h₀ L s₁.heap m ∧ News h₀ L s₁.heap news ∧
      (∀ (C : Addr) (j : Nat) tj oC mC led h tk, j < 16 → NsObj oC mC → mC xj = some (.int j tj) → (∀ p ∈ news, p ∈ led) → (C, oC) ∈ led → Fr h₀ L h m → News h₀ L h led →
        wpAny (model prog w) A (eval i1 (compEnvC scope cl C env)) (NestR h₀ L m s₁ j led) noE { s₁ with heap := h, toks := tk }) ∧
      (∀ (C : Addr) (j i : Nat) tj ti oC mC led h tk, i < j → j < 16 → NsObj oC mC → mC xj = some (.int j tj) → mC xi = some (.int i ti) → (∀ p ∈ news, p ∈ led) → (C, oC) ∈ led → Fr h₀ L h m → News h₀ L h led →
        wpAny (model prog w) A (isTrue ct (compEnvC scope cl C env) (eval ct (compEnvC scope cl C env))) (NestT h₀ L m s₁ (decide (t j < t i)) led) noE { s₁ with heap := h, toks := tk }) ∧
      (∀ (C : Addr) led h tk, Fr h₀ L h m → News h₀ L h led → wpAny (model prog w) A (eval elt (compEnvC scope cl C env)) (NestE h₀ L m s₁ led) noE { s₁ with heap := h, toks := tk }) ∧
      (∀ D h tk ys, ys.length = tot t 16 → Fr h₀ L h m → News h₀ L h ((D, lst ys) :: news) → (∀ p ∈ news, p.1 ≠ D) → Q (.ref D) { s₁ with heap := h, toks := tk })
variable {prog : Program} {w : World} {A : Around} {s : Shared} {h₀ hh : Heap} {L : Addr} {m : Str → Option Value} {env : Env}
theorem ListComp_nestU {E : Value → Shared → Prop} {elt i0 i1 ct : PySem.Expr} {xj xi : Str} {pj pi : Pos} {scope : Scope} {cl : List (Str × Addr)} {pos : Pos} {Q : Value → Shared → Prop} (t : Int → Int) (F₀ : Fr h₀ L hh m)
    (hclos : closureFor scope env = pure cl) (hcell : ∀ y ∈ scope.names, y.2 ≠ .cell) (hkind : scope.kind = .function) (hnames : ∀ y ∈ scope.names, y.2 = .local → scope.names.lookup y.1 = some .local)
    (hxj : scope.names.lookup xj = some .local) (hxi : scope.names.lookup xi = some .local) (hne : xj ≠ xi)
    (h : wpAny (model prog w) A (eval i0 env) (NestSrc prog w A h₀ L m env elt i1 ct xj xi scope cl t Q) E s)
    (hs : ∀ x, foldedSetIterable i0 env x = pure x := by intro _; rfl) (hs1 : ∀ C x, foldedSetIterable i1 (compEnvC scope cl C env) x = pure x := by intro _ _; rfl) :
    wpAny (model prog w) A (eval (.ListComp elt [⟨.Name xj pj, i0, [], 0⟩, ⟨.Name xi pi, i1, [ct], 0⟩] scope pos) env) Q E s :=
  ListComp_nest t hclos hcell hkind hnames hxj hxi hne h hs hs1
theorem NestR.mk {s₁ : Shared} {j : Nat} {led : Led} {r : Addr} {a b c : Tok} {h' : Heap} {tk' : Nat} (hR : IsRange h' r 0 j 1 a b c) (F : Fr h₀ L h' m) (N : News h₀ L h' led) : NestR h₀ L m s₁ j led (.ref r) { s₁ with heap := h', toks := tk' } :=
  ⟨r, a, b, c, h', tk', rfl, rfl, hR, F, N⟩
theorem NestT.mk {s₁ : Shared} {want ok : Bool} {led : Led} {h' : Heap} {tk' : Nat} (e : ok = want) (F : Fr h₀ L h' m) (N : News h₀ L h' led) : NestT h₀ L m s₁ want led ok { s₁ with heap := h', toks := tk' } :=
  ⟨e, h', tk', rfl, F, N⟩
theorem NestE.mk {s₁ : Shared} {led : Led} {v : Value} {h' : Heap} {tk' : Nat} (F : Fr h₀ L h' m) (N : News h₀ L h' led) : NestE h₀ L m s₁ led v { s₁ with heap := h', toks := tk' } :=
  ⟨h', tk', rfl, F, N⟩
end
end Mine
end
-- part NS5
section
open LCg LCt
namespace Mine
theorem swaps_ok {elt : PySem.Expr} {gens : List Comprehension} {scope : Scope} {pos : Pos} {t : Str} {p : Pos} {line : Nat} {env : Env}
    (h1 : env.blockKind = .function) (h2 : env.kindOf t = some .local) (h3 : p.line = pos.line) (h4 : (scope.names.any fun (n, k) => n == t && (k == .local || k == .cell)) = false) :
    swapsWith (.ListComp elt gens scope pos) (some (.Name t p)) line env = pure true := by
  show pure (env.blockKind == .function && env.kindOf t == some .local && p.line == pos.line && !(scope.names.any fun (n, k) => n == t && (k == .local || k == .cell))) = _
  rw [h1, h2, h3, h4]
  have : (NameKind.local == NameKind.local) = true := by decide
  simp
section
variable {prog : Program} {w : World} {A : Around} {E : Value → Shared → Prop} {s : Shared} {h₀ : Heap} {L : Addr} {m : Str → Option Value} {news : List (Addr × Obj)}
/-- a loop over a range whose turns store the loop's own name and one more -/
theorem for_range2 {env : Env} {x y : Str} {px : Pos} {body : List Stmt} {R : Result → Shared → Prop} {r : Addr} {b : Int} {t u v : Tok} (n : Nat) (J : Nat → List (Addr × Obj) → Prop)
    (hL : env.locals = L) (hx : env.kindOf x = some .local) (hp : (env.scope.kind == .class || (env.scope.kind == .module && env.locals != env.globals)) = false) (hh : A.handled = none)
    (hr : IsRange s.heap r 0 b 1 t u v) (hsm : Builtin.Range.small 0 b 1 = true) (hn : Builtin.Range.rangeSize 0 b 1 = (n : Int))
    (F : Fr h₀ L s.heap m) (N : News h₀ L s.heap news) (hJ : J 0 news)
    (turn : ∀ (i : Nat) t u led h tk I oI, i < n → J i led → Off I led → Fr h₀ L h (fun z => if z = x then some (.int i t) else if z = y then u else m z) → News h₀ L h ((I, oI) :: led) →
      wpAny (model prog w) A (execs body env) (fun f s₃ => match f with
        | .next | .cont => Ended (∃ h' tk' m₂ led₂, s₃ = { s with heap := h', toks := tk' } ∧ Fr h₀ L h' m₂ ∧ News h₀ L h' ((I, oI) :: led₂) ∧ Off I led₂ ∧ J (i + 1) led₂ ∧ ∀ z, z ≠ x → z ≠ y → m₂ z = m z)
        | .brk => R (.ok .next) s₃
        | .ret v => R (.ok (.ret v)) s₃) (fun _ _ => False) { s with heap := h, toks := tk })
    (done : ∀ u u' led h tk, J n led → Fr h₀ L h (fun z => if z = x then u else if z = y then u' else m z) → News h₀ L h led → R (.ok .next) { s with heap := h, toks := tk }) :
    wpAny (model prog w) A (pyIter (.ref r)) (fun it s₂ => codeAny (model prog w) A (.forLoop (.Name x px) it body [] env) R s₂) E s := by
  have norm : ∀ (m₁ : Str → Option Value) (u : Option Value), (∀ z, z ≠ x → z ≠ y → m₁ z = m z) → (fun z => if z = x then u else m₁ z) = fun z => if z = x then u else if z = y then m₁ y else m z := by
    intro m₁ u h
    funext z
    by_cases hz : z = x
    · simp [hz]
    · by_cases hy : z = y
      · subst hy; simp [hz]
      · simp only [if_neg hz, if_neg hy]; exact h z hz hy
  refine for_range n (fun i m₁ led => J i led ∧ ∀ z, z ≠ x → z ≠ y → m₁ z = m z) hL hx hp hh hr hsm hn F N ⟨hJ, fun _ _ _ => rfl⟩ ?_ ?_
  · rintro i t m₁ led h tk I oI hi ⟨hJ, hm⟩ hO F N
    rw [norm m₁ _ hm] at F
    refine wpAny_mono (turn i t _ led h tk I oI hi hJ hO F N) (fun f s₃ hf => ?_) fun _ _ e => e
    cases f with
    | next => obtain ⟨h', tk', m₂, led₂, rfl, F₂, N₂, hO₂, hJ₂, hm₂⟩ := hf; exact ⟨h', tk', m₂, led₂, rfl, F₂, N₂, hO₂, hJ₂, hm₂⟩
    | cont => obtain ⟨h', tk', m₂, led₂, rfl, F₂, N₂, hO₂, hJ₂, hm₂⟩ := hf; exact ⟨h', tk', m₂, led₂, rfl, F₂, N₂, hO₂, hJ₂, hm₂⟩
    | brk => exact hf
    | ret v => exact hf
  · rintro m₁ led h tk ⟨hJ, hm⟩ F N
    refine done (m₁ x) (m₁ y) led h tk hJ ?_ N
    have := norm m₁ (m₁ x) hm
    rw [← this]
    have : (fun z => if z = x then m₁ x else m₁ z) = m₁ := by
      funext z
      by_cases hz : z = x <;> simp [hz]
    rw [this]; exact F
end
end Mine
end
-- part P1
section
namespace Mine
/-- one of the 24 gates -/
def Is24 (g : Gt) : Prop := ∃ (k : Fin 2) (a : Fin 4) (t : Fin 3), g = gf k a t
theorem gatesOf_24 {ns : List Int} : ∀ g ∈ gatesOf ns, Is24 g := fun g hg => by
  obtain ⟨x, _, rfl⟩ := List.mem_map.mp hg
  exact gate_is x
theorem run_24 {g : Gt} (hg : Is24 g) {x : Int} (h0 : 0 ≤ x) (h : x < 16) : 0 ≤ g.run x ∧ g.run x < 16 ∧ g.run (g.run x) = x := by
  obtain ⟨k, a, t, rfl⟩ := hg
  obtain ⟨n, rfl⟩ := word_is h0 h
  exact gf_run k a t n
theorem runAll_24 {gs : List Gt} (hg : ∀ g ∈ gs, Is24 g) : ∀ {x : Int}, 0 ≤ x → x < 16 → 0 ≤ runAll gs x ∧ runAll gs x < 16 := by
  induction gs with
  | nil => exact fun h0 h => ⟨h0, h⟩
  | cons g r ih =>
    intro x h0 h
    obtain ⟨a, b, _⟩ := run_24 (hg g (.head _)) h0 h
    exact ih (fun g' h' => hg g' (.tail _ h')) a b
theorem runAll_back {gs : List Gt} (hg : ∀ g ∈ gs, Is24 g) : ∀ {x : Int}, 0 ≤ x → x < 16 → runAll gs.reverse (runAll gs x) = x := by
  induction gs with
  | nil => exact fun _ _ => rfl
  | cons g r ih =>
    intro x h0 h
    obtain ⟨a, b, c⟩ := run_24 (hg g (.head _)) h0 h
    have := ih (fun g' h' => hg g' (.tail _ h')) a b
    show runAll (g :: r).reverse (runAll r (g.run x)) = x
    have e : runAll (g :: r).reverse (runAll r (g.run x)) = g.run (runAll r.reverse (runAll r (g.run x))) := by
      rw [List.reverse_cons]; unfold runAll; rw [List.foldl_append]; rfl
    rw [e, this, c]
theorem runAll_inj {gs : List Gt} (hg : ∀ g ∈ gs, Is24 g) {x y : Int} (hx0 : 0 ≤ x) (hx : x < 16) (hy0 : 0 ≤ y) (hy : y < 16) (e : runAll gs x = runAll gs y) : x = y := by
  have h1 := runAll_back hg hx0 hx
  have h2 := runAll_back hg hy0 hy
  rw [← h1, e, h2]
/-- pairs of a list -/
def psum (f : Int → Int → Nat) : List Int → Nat
  | [] => 0
  | a :: r => (r.map (f a)).sum + psum f r
theorem psum_perm {f : Int → Int → Nat} (hs : ∀ a b, f a b = f b a) {l l' : List Int} (h : l.Perm l') : psum f l = psum f l' := by
  induction h with
  | nil => rfl
  | cons a h ih =>
    unfold psum
    rw [ih, (h.map (f a)).sum_nat]
  | swap a b l =>
    simp only [psum, List.map_cons, List.sum_cons]
    have := hs a b
    omega
  | trans _ _ h1 h2 => exact h1.trans h2
def iv (a b : Int) : Nat := if a < b then 1 else 0
def dv (g : Int → Int) (a b : Int) : Nat := if (a < b ∧ g b < g a) ∨ (b < a ∧ g a < g b) then 1 else 0
theorem dv_symm (g : Int → Int) (a b : Int) : dv g a b = dv g b a := by
  unfold dv
  simp only [Or.comm]
theorem iv_step {g : Int → Int} {a b : Int} (h : a ≠ b) (hg : g a ≠ g b) : iv (g a) (g b) % 2 = (iv a b + dv g a b) % 2 := by
  unfold iv dv
  by_cases h1 : a < b <;> by_cases h2 : g a < g b
  · have : ¬ g b < g a := by omega
    have : ¬ b < a := by omega
    simp [*]
  · have : g b < g a := by omega
    simp [*]
  · have : b < a := by omega
    simp [*]
  · have : ¬ g a < g b := by omega
    simp [*]
theorem psum_step {g : Int → Int} : ∀ {l : List Int}, l.Nodup → (∀ a ∈ l, ∀ b ∈ l, g a = g b → a = b) → psum iv (l.map g) % 2 = (psum iv l + psum (dv g) l) % 2
  | [], _, _ => rfl
  | a :: r, hn, hi => by
    obtain ⟨h1, h2⟩ := List.nodup_cons.mp hn
    have ih := psum_step h2 fun x hx y hy => hi x (.tail _ hx) y (.tail _ hy)
    have row : ∀ {q : List Int}, (∀ b ∈ q, b ∈ r) → ((q.map g).map (iv (g a))).sum % 2 = ((q.map (iv a)).sum + (q.map (dv g a)).sum) % 2 := by
      intro q
      induction q with
      | nil => intro _; rfl
      | cons b q ihq =>
        intro hq
        have hb := hq b (.head _)
        have hne : a ≠ b := fun e => h1 (e ▸ hb)
        have := iv_step (g := g) hne fun e => hne (hi a (.head _) b (.tail _ hb) e)
        have := ihq fun c hc => hq c (.tail _ hc)
        simp only [List.map_cons, List.sum_cons]
        omega
    have := row (q := r) fun _ h => h
    simp only [psum, List.map_cons]
    omega
def Even16 (l : List Int) : Prop := l.Perm iota ∧ psum iv l % 2 = 0
theorem iota_nodup : iota.Nodup := by decide
theorem iota_mem {x : Int} (h : x ∈ iota) : 0 ≤ x ∧ x < 16 := by
  obtain ⟨k, hk, rfl⟩ := List.mem_map.mp h
  have := List.mem_range.mp hk
  omega
theorem gf_perm : ∀ (k : Fin 2) (a : Fin 4) (t : Fin 3), (iota.map (gf k a t).run).isPerm iota = true ∧ psum (dv (gf k a t).run) iota % 2 = 0 := by decide +kernel
theorem perm_24 {g : Gt} (hg : Is24 g) : (iota.map g.run).Perm iota ∧ psum (dv g.run) iota % 2 = 0 := by
  obtain ⟨k, a, t, rfl⟩ := hg
  have := gf_perm k a t
  exact ⟨List.isPerm_iff.mp this.1, this.2⟩
theorem even_step {g : Gt} (hg : Is24 g) {l : List Int} (h : Even16 l) : Even16 (l.map g.run) := by
  obtain ⟨hp, hs⟩ := h
  obtain ⟨h1, h2⟩ := perm_24 hg
  refine ⟨(hp.map _).trans h1, ?_⟩
  rw [psum_step (hp.nodup_iff.mpr iota_nodup), psum_perm (dv_symm _) hp]
  · omega
  · intro a ha b hb e
    obtain ⟨a0, a1⟩ := iota_mem (hp.mem_iff.mp ha)
    obtain ⟨b0, b1⟩ := iota_mem (hp.mem_iff.mp hb)
    rw [← (run_24 hg a0 a1).2.2, e, (run_24 hg b0 b1).2.2]
theorem even_all : ∀ {gs : List Gt}, (∀ g ∈ gs, Is24 g) → ∀ {l : List Int}, Even16 l → Even16 (l.map (runAll gs))
  | [], _, l, h => by
    have : l.map (runAll []) = l := by
      have e : runAll [] = id := rfl
      rw [e, List.map_id]
    rw [this]; exact h
  | g :: r, hg, l, h => by
    have := even_all (gs := r) (fun g' h' => hg g' (.tail _ h')) (even_step (hg g (.head _)) h)
    rw [List.map_map] at this
    exact this
theorem even_iota : Even16 iota.reverse := ⟨List.reverse_perm _, by decide +kernel⟩
theorem tbl_map (gs : List Gt) : tbl gs = iota.map (runAll gs) := by
  unfold tbl iota
  rw [List.map_map]; rfl
theorem tbl_perm (ns : List Int) : (tbl (gatesOf ns)).Perm iota := by
  have h := (even_all (gs := gatesOf ns) gatesOf_24 even_iota).1
  rw [tbl_map]
  exact ((List.reverse_perm iota).symm.map _).trans h
theorem cnt_psum (t : Int → Int) (j : Nat) : ∀ i : Nat, cnt t j i = (((List.range i).map fun k : Nat => t (k : Int)).reverse.map (iv (t j))).sum
  | 0 => rfl
  | i + 1 => by
    rw [List.range_succ, List.map_append, List.reverse_append, List.map_append, List.sum_append, ← cnt_psum t j i]
    show cnt t j i + (if t j < t i then 1 else 0) = _
    simp [iv, Nat.add_comm]
theorem tot_psum (t : Int → Int) : ∀ j : Nat, tot t j = psum iv ((List.range j).map fun k : Nat => t (k : Int)).reverse
  | 0 => rfl
  | j + 1 => by
    rw [List.range_succ, List.map_append, List.reverse_append]
    show tot t j + cnt t j j = psum iv (t j :: ((List.range j).map fun k : Nat => t (k : Int)).reverse)
    unfold psum
    rw [← tot_psum t j, ← cnt_psum t j j]
    omega
theorem tot_even (ns : List Int) : tot (fun k => (tbl (gatesOf ns)).getD k.toNat 0) 16 % 2 = 0 := by
  have h := (even_all (gs := gatesOf ns) gatesOf_24 even_iota).2
  rw [tot_psum]
  have e : (List.range 16).map (fun k : Nat => (tbl (gatesOf ns)).getD ((k : Int)).toNat 0) = tbl (gatesOf ns) := by
    conv => rhs; unfold tbl
    refine List.map_congr_left fun k hk => ?_
    have := List.mem_range.mp hk
    exact tbl_getD (by omega) (by omega)
  rw [e, tbl_map, ← List.map_reverse]
  exact h
theorem tbl_word (ns : List Int) : ∀ w : Int, 0 ≤ w → w < 16 → 0 ≤ (tbl (gatesOf ns)).getD w.toNat 0 ∧ (tbl (gatesOf ns)).getD w.toNat 0 < 16 := fun w h0 h => by
  rw [tbl_getD h0 h]
  exact runAll_24 gatesOf_24 h0 h
theorem tbl_at (ns : List Int) {i : Nat} (h : i < 16) : 0 ≤ (tbl (gatesOf ns)).getD ((0 : Int) + (i : Int)).toNat 0 ∧ (tbl (gatesOf ns)).getD ((0 : Int) + (i : Int)).toNat 0 < 16 ∧ runAll (gatesOf ns).reverse ((tbl (gatesOf ns)).getD ((0 : Int) + (i : Int)).toNat 0) = i := by
  have hw := tbl_word ns ((0 : Int) + (i : Int)) (by omega) (by omega)
  refine ⟨hw.1, hw.2, ?_⟩
  rw [tbl_getD (by omega) (by omega), Int.zero_add]
  exact runAll_back gatesOf_24 (by omega) (by omega)
theorem tbl_mv (ns : List Int) : ∀ w : Int, 0 ≤ w → w < 16 → (tbl (gatesOf ns)).getD w.toNat 0 ≠ w → (tbl (gatesOf ns)).getD ((tbl (gatesOf ns)).getD w.toNat 0).toNat 0 ≠ (tbl (gatesOf ns)).getD w.toNat 0 := fun w h0 h hne e => by
  have hw := tbl_word ns w h0 h
  rw [tbl_getD hw.1 hw.2] at e
  rw [tbl_getD h0 h] at e hne hw
  exact hne (runAll_inj gatesOf_24 hw.1 hw.2 h0 h e)
theorem tbl_iota {ns : List Int} (h : ∀ k : Nat, k < 16 → (fun k : Int => (tbl (gatesOf ns)).getD k.toNat 0) k = k) : tbl (gatesOf ns) = iota := by
  rw [tbl_map]
  have e : iota = iota.map id := (List.map_id _).symm
  conv => rhs; rw [e]
  refine List.map_congr_left fun x hx => ?_
  obtain ⟨h0, h1⟩ := iota_mem hx
  have := h x.toNat (by omega)
  simp only [Int.toNat_of_nonneg h0] at this
  rw [tbl_getD h0 h1] at this
  exact this
theorem tbl_not_iota {ns : List Int} (h : ∃ k : Nat, k < 16 ∧ (fun k : Int => (tbl (gatesOf ns)).getD k.toNat 0) k ≠ k) : ¬ tbl (gatesOf ns) = iota := fun e => by
  obtain ⟨k, hk, hne⟩ := h
  refine hne ?_
  show (tbl (gatesOf ns)).getD ((k : Int)).toNat 0 = k
  rw [e]
  revert hk
  have : ∀ k : Fin 16, iota.getD ((k.val : Int)).toNat 0 = k.val := by decide
  exact fun hk => this ⟨k, hk⟩
abbrev swapsOf (ns : List Int) : List Gt := (gatesOf ns).filter fun g => g.kd == 1
theorem gf_pop : ∀ (a : Fin 4) (t : Fin 3) (n : Fin 16), Txt.count (baseText "0b" 2 ((gf 1 a t).run (n.val : Int))) (Str.ofString "1") = Txt.count (baseText "0b" 2 (n.val : Int)) (Str.ofString "1") ∧ ((n.val = 0 ∨ n.val = 15) → (gf 1 a t).run (n.val : Int) = (n.val : Int)) := by decide +kernel
theorem swap_24 {ns : List Int} : ∀ g ∈ swapsOf ns, ∃ (a : Fin 4) (t : Fin 3), g = gf 1 a t := fun g hg => by
  obtain ⟨h1, h2⟩ := List.mem_filter.mp hg
  obtain ⟨k, a, t, rfl⟩ := gatesOf_24 g h1
  refine ⟨a, t, ?_⟩
  have : ((k.val : Nat) : Int) = 1 := eq_of_beq h2
  have : k.val = 1 := by omega
  rw [this]
theorem pop_all : ∀ {gs : List Gt}, (∀ g ∈ gs, ∃ (a : Fin 4) (t : Fin 3), g = gf 1 a t) → ∀ {x : Int}, 0 ≤ x → x < 16 → Txt.count (baseText "0b" 2 (runAll gs x)) (Str.ofString "1") = Txt.count (baseText "0b" 2 x) (Str.ofString "1") ∧ (x = 0 ∨ x = 15 → runAll gs x = x)
  | [], _, x, _, _ => ⟨rfl, fun _ => rfl⟩
  | g :: r, hg, x, h0, h => by
    obtain ⟨a, t, rfl⟩ := hg g (.head _)
    obtain ⟨n, rfl⟩ := word_is h0 h
    have hw : 0 ≤ (gf 1 a t).run (n.val : Int) ∧ (gf 1 a t).run (n.val : Int) < 16 ∧ (gf 1 a t).run ((gf 1 a t).run (n.val : Int)) = (n.val : Int) := gf_run 1 a t n
    have hp := gf_pop a t n
    have ih := pop_all (gs := r) (fun g' h' => hg g' (.tail _ h')) hw.1 hw.2.1
    refine ⟨ih.1.trans hp.1, fun hx => ?_⟩
    have e : (gf 1 a t).run (n.val : Int) = (n.val : Int) := hp.2 (by omega)
    show runAll r ((gf 1 a t).run (n.val : Int)) = _
    rw [e] at ih ⊢
    exact ih.2 hx
theorem swap_pop (ns : List Int) {i : Nat} (h : i < 16) : Txt.count (baseText "0b" 2 (runAll (swapsOf ns) (i : Int))) (Str.ofString "1") = Txt.count (baseText "0b" 2 (i : Int)) (Str.ofString "1") ∧ (i = 0 ∨ i = 15 → runAll (swapsOf ns) (i : Int) = i) ∧ 0 ≤ runAll (swapsOf ns) (i : Int) ∧ runAll (swapsOf ns) (i : Int) < 16 := by
  have h1 := pop_all (swap_24 (ns := ns)) (x := (i : Int)) (by omega) (by omega)
  have h2 := runAll_24 (gs := swapsOf ns) (fun g hg => gatesOf_24 g (List.mem_filter.mp hg).1) (x := (i : Int)) (by omega) (by omega)
  exact ⟨h1.1, fun hx => h1.2 (by omega), h2.1, h2.2⟩
end Mine
end
-- part L0
section
open LCg LCt
namespace Mine
theorem eq_t {prog : Program} {w : World} {A : Around} {E : Value → Shared → Prop} {s : Shared} {h₀ : Heap} {L : Addr} {led : List (Addr × Obj)} {a b : Addr} {vs us : List Value} {ns ms : List Int} {n1 n2 : Nat} {Q : Value → Shared → Prop} (N : News h₀ L s.heap led) (ha : (a, listOf vs.toArray n1) ∈ led) (hb : (b, listOf us.toArray n2) ∈ led) (hi : IntsAre vs ns) (hi' : IntsAre us ms) (hu : A.units + 64 < cLine) (he : ns = ms)
    (h : Q (.bool true) s) : wpAny (model prog w) A (compareOp .Eq (.ref a) (.ref b)) Q E s := eq_led N ha hb hi hi' hu (by rw [decide_eq_true he]; exact h)
theorem eq_f {prog : Program} {w : World} {A : Around} {E : Value → Shared → Prop} {s : Shared} {h₀ : Heap} {L : Addr} {led : List (Addr × Obj)} {a b : Addr} {vs us : List Value} {ns ms : List Int} {n1 n2 : Nat} {Q : Value → Shared → Prop} (N : News h₀ L s.heap led) (ha : (a, listOf vs.toArray n1) ∈ led) (hb : (b, listOf us.toArray n2) ∈ led) (hi : IntsAre vs ns) (hi' : IntsAre us ms) (hu : A.units + 64 < cLine) (he : ¬ ns = ms)
    (h : Q (.bool false) s) : wpAny (model prog w) A (compareOp .Eq (.ref a) (.ref b)) Q E s := eq_led N ha hb hi hi' hu (by rw [decide_eq_false he]; exact h)
theorem back_ok (ns : List Int) : ∀ g ∈ (gatesOf ns).reverse, g.Ok := fun g hg => gates_ok g (List.mem_reverse.mp hg)
theorem swaps_gates_ok {ns : List Int} : ∀ g ∈ swapsOf ns, g.Ok := fun g hg => gates_ok g (List.mem_filter.mp hg).1
theorem sub5 {α : Type} {a b c d e : α} {l : List α} : ∀ p ∈ l, p ∈ a :: b :: c :: d :: e :: l := fun _ h => .tail _ (.tail _ (.tail _ (.tail _ (.tail _ h))))
theorem filter_snoc {gs : List Gt} {i : Nat} (h : i < gs.length) : ((gs.take (i + 1)).filter fun g => g.kd == 1) = ((gs.take i).filter fun g => g.kd == 1) ++ (if gs[i].kd = 1 then [gs[i]] else []) := by
  rw [List.take_add_one, List.getElem?_eq_getElem h, List.filter_append]
  congr 1
  by_cases hk : gs[i].kd = 1 <;> simp [hk]
theorem bin_fits {i : Int} (h0 : 0 ≤ i) (h : i < 16) : (baseText "0b" 2 i).length ≤ sizeLine := by
  obtain ⟨n, rfl⟩ := word_is h0 h
  revert n
  decide +kernel
theorem off1_lt {D : Addr} : ∀ {l : Led}, (∀ p ∈ l, @LT.lt Nat _ p.1 D) → LCg.Off1 D l
  | [], _ => trivial
  | _ :: _, h => ⟨Nat.ne_of_lt (h _ (.head _)), off1_lt fun p hp => h p (.tail _ hp)⟩
theorem iota_sorted : iota.Pairwise (· ≤ ·) := by decide
theorem fr_script {h₀ h h' : Heap} {L a : Addr} {its : Array Value} {m : Str → Option Value} (_ : h'.IsList a its) (F : Fr h₀ L h m) (e : ∀ z, m z = if z = Str.ofString "script" then some (.ref a) else none) : Fr h₀ L h (fun z => if z = Str.ofString "script" then some (.ref a) else none) := fr_map F e
theorem holds : PySem.Challenge.rw_xi0021_01.Holds := hd (by
  w_top off
  k_with_none
  k_with "own enter" => (first | (refine' code_def ?k1w71c0 ?k2w71c0 ?k3w71c0 ?k4w71c0 ?k5w71c0 ?kAw71c0 ?kFw71c0 ?kKw71c0 ?k6w71c0 ?k7w71c0 ?k8w71c0 ?k9w71c0 ?kBw71c0 ?_ ?c2w71c0 ?c3w71c0 ?c4w71c0 ?c5w71c0; (case kAw71c0 => exact rfl); (case kFw71c0 => exact rfl); (case kKw71c0 => assumption); (case k1w71c0 => k_asm); (case k2w71c0 => k_asm); (case k3w71c0 => k_asm); (case k4w71c0 => k_asm); (case k5w71c0 => k_asm); (case k6w71c0 => k_is); (case k7w71c0 => k_is); (case k8w71c0 => ktr_room); (case k9w71c0 => first | exact BindsTo.of_eq rfl | exact binds_K (by k_in) rfl (by k_is) rfl rfl rfl); (case c5w71c0 => decide); (case kBw71c0 => exact locs rfl); (case c2w71c0 => exact rfl); (case c3w71c0 => exact rfl); (case c4w71c0 => exact rfl); k_whole; intro gqzw71c0 Lqzw71c0 hqzw71c0 FGqzw71c0 Fqzw71c0 Nqzw71c0 Bqzw71c0 Xqzw71c0 Tqzw71c0; (try dsimp only); (try k_lift Bqzw71c0); (try k_fold)) | (refine' code_defC ?k1w71c0 ?k2w71c0 ?k3w71c0 ?k4w71c0 ?k5w71c0 ?kAw71c0 ?kFw71c0 ?kKw71c0 ?k6w71c0 ?k7w71c0 ?k8w71c0 ?k9w71c0 ?kBw71c0 ?kDw71c0 ?_ ?c2w71c0 ?c3w71c0 ?c4w71c0; (case kAw71c0 => exact rfl); (case kFw71c0 => exact rfl); (case kKw71c0 => assumption); (case k1w71c0 => k_asm); (case k2w71c0 => k_asm); (case k3w71c0 => k_asm); (case k4w71c0 => k_asm); (case k5w71c0 => k_asm); (case k6w71c0 => k_is); (case k7w71c0 => k_is); (case k8w71c0 => ktr_room); (case k9w71c0 => first | exact BindsTo.of_eq rfl | exact binds_K (by k_in) rfl (by k_is) rfl rfl rfl); (case kBw71c0 => exact rfl); (case kDw71c0 => decide +kernel); (case c2w71c0 => exact rfl); (case c3w71c0 => exact rfl); (case c4w71c0 => exact rfl); k_whole; intro gqzw71c0 Lqzw71c0 hqzw71c0 tkqzw71c0 cellsqzw71c0 FGqzw71c0 Fqzw71c0 Nqzw71c0 Yqzw71c0 Bqzw71c0 Xqzw71c0 Tqzw71c0 l1qzw71c0; (try k_lt l1qzw71c0); k_cells Yqzw71c0; (try simp only [List.cons_append, List.nil_append] at Nqzw71c0); (try dsimp only); (try k_lift Bqzw71c0); (try k_fold)) | (refine' kp_rest ?k1w71c0 ?k2w71c0 ?k3w71c0 ?k4w71c0 ?k5w71c0 ?kAw71c0 ?kFw71c0 ?kKw71c0 ?k6w71c0 ?k7w71c0 ?k8w71c0 ?kVw71c0 ?kPw71c0 ?kGw71c0 ?kBw71c0 ?_ ?c2w71c0 ?c3w71c0 ?c4w71c0 ?c5w71c0; (case kAw71c0 => exact rfl); (case kFw71c0 => exact rfl); (case kKw71c0 => assumption); (case k1w71c0 => k_asm); (case k2w71c0 => k_asm); (case k3w71c0 => k_asm); (case k4w71c0 => k_asm); (case k5w71c0 => k_asm); (case k6w71c0 => k_is); (case k7w71c0 => k_is); (case k8w71c0 => ktr_room); (case kVw71c0 => kl_lit); (case kPw71c0 => exact rfl); (case kGw71c0 => exact fun _ => rfl); (case kBw71c0 => exact fun _ => locs rfl); (case c5w71c0 => decide); (case c2w71c0 => exact rfl); (case c3w71c0 => exact rfl); (case c4w71c0 => exact rfl); k_whole; intro Dqzw71c0 gqzw71c0 Lqzw71c0 hqzw71c0 l1qzw71c0 FGqzw71c0 Fqzw71c0 Nqzw71c0 Bqzw71c0 Xqzw71c0 Tqzw71c0; (try k_lt l1qzw71c0); (try dsimp only); (try k_lift Bqzw71c0); (try k_fold)))
  k_with "own all" => (first | assumption | exact Mine.allNe' (by assumption) (by omega) | exact Mine.allNe' (And.right (by assumption)) (by omega) | exact Mine.allNe' (And.right (And.right (by assumption))) (by omega) | exact Mine.allNe' (And.right (And.right (And.right (by assumption)))) (by omega) | exact Mine.allNe' (And.right (And.right (And.right (And.right (by assumption))))) (by omega) | exact Mine.allNe' (And.right (And.right (And.right (And.right (And.right (by assumption)))))) (by omega) | exact Mine.allNe2 (by assumption) (by omega) | fail "k_all: no bound of the rest")
  k_with "CompSrc" => ((refine Stop.out ?_))
  k_with "CompEnd" => ((refine Stop.out ?_))
  k_with "call ref" => ((k_here; (with_reducible show wpAny _ _ (call (Value.ref 178) _ _) _ _ _); refine Stop.out ?_))
  k_with "eval ListComp" => ((k_here; (with_reducible show wpAny _ _ (eval (PySem.Expr.ListComp _ [⟨_, _, [], _⟩] _ _) _) _ _ _); k_dflt (refine LCg.ListComp_U (F₀ := by k_asm) (by with_unfolding_all rfl) (by decide) (by rfl) (by decide) (by rfl) ?_)))
  k_with "eval ListComp" => ((k_here; (with_reducible show wpAny _ _ (eval (PySem.Expr.ListComp _ [⟨_, _, [_], _⟩] _ _) _) _ _ _); k_dflt (refine LCt.ListComp_T (F₀ := by k_asm) (by with_unfolding_all rfl) (by decide) (by rfl) (by decide) (by rfl) ?_)))
  k_with "call builtin:len" => ((k_here; k_dflt (refine' len_led ?Nw78c0 ?mw78c0 ?zw78c0 ?_; (case Nw78c0 => k_asm); (case mw78c0 => k_mem); (case zw78c0 => assumption); k_whole); intro tqzw78c0 tkqzw78c0))
  k_with "call builtin:len" => ((k_here; k_dflt (refine' len_led ?Nw78c1 ?mw78c1 ?zw78c1 ?_; (case Nw78c1 => k_asm); (case mw78c1 => k_mem); (case zw78c1 => assumption); k_whole); intro tqzw78c1 tkqzw78c1))
  k_with "call builtin:len" => ((k_here; k_dflt (refine' len_led ?Nw78c2 ?mw78c2 ?zw78c2 ?_; (case Nw78c2 => k_asm); (case mw78c2 => k_mem); (case zw78c2 => assumption); k_whole); intro tqzw78c2 tkqzw78c2))
  k_with "call builtin:len" => ((k_here; k_dflt (refine' len_led ?Nw78c3 ?mw78c3 ?zw78c3 ?_; (case Nw78c3 => k_asm); (case mw78c3 => k_mem); (case zw78c3 => assumption); k_whole); intro tqzw78c3 tkqzw78c3))
  k_with "call builtin:len" => ((k_here; k_dflt (refine' len_led ?Nw78c4 ?mw78c4 ?zw78c4 ?_; (case Nw78c4 => k_asm); (case mw78c4 => k_mem); (case zw78c4 => assumption); k_whole); intro tqzw78c4 tkqzw78c4))
  k_with "call builtin:len" => ((k_here; k_dflt (refine' len_led ?Nw78c5 ?mw78c5 ?zw78c5 ?_; (case Nw78c5 => k_asm); (case mw78c5 => k_mem); (case zw78c5 => assumption); k_whole); intro tqzw78c5 tkqzw78c5))
  k_with "subscriptTail Name BinOp ref int" => ((refine Stop.out ?_))
  k_with "call ref" => ((k_here; (with_reducible show wpAny _ _ (call (Value.ref 51) _ _) _ _ _); refine Stop.out ?_))
  k_with "call type:list" => ((k_here; k_dflt (refine' list_range_led ?hw81c0 ?Fw81c0 ?Nw81c0 ?rw81c0 ?_; (case hw81c0 => rfl); (case Fw81c0 => k_asm); (case Nw81c0 => k_asm); (case rw81c0 => assumption); k_whole); intro aqzw81c0 hqzw81c0 tkqzw81c0 vsqzw81c0 eqzw81c0 Fqzw81c0 Nqzw81c0 l1qzw81c0 hIqzw81c0; (try k_lt l1qzw81c0)))
  k_with "call type:list" => ((k_here; k_dflt (refine' list_range_led ?hw81c1 ?Fw81c1 ?Nw81c1 ?rw81c1 ?_; (case hw81c1 => rfl); (case Fw81c1 => k_asm); (case Nw81c1 => k_asm); (case rw81c1 => assumption); k_whole); intro aqzw81c1 hqzw81c1 tkqzw81c1 vsqzw81c1 eqzw81c1 Fqzw81c1 Nqzw81c1 l1qzw81c1 hIqzw81c1; (try k_lt l1qzw81c1)))
  k_with "call type:list" => ((k_here; k_dflt (refine' list_range_led ?hw81c2 ?Fw81c2 ?Nw81c2 ?rw81c2 ?_; (case hw81c2 => rfl); (case Fw81c2 => k_asm); (case Nw81c2 => k_asm); (case rw81c2 => assumption); k_whole); intro aqzw81c2 hqzw81c2 tkqzw81c2 vsqzw81c2 eqzw81c2 Fqzw81c2 Nqzw81c2 l1qzw81c2 hIqzw81c2; (try k_lt l1qzw81c2)))
  k_with "call type:list" => ((k_here; k_dflt (refine' list_range_led ?hw81c3 ?Fw81c3 ?Nw81c3 ?rw81c3 ?_; (case hw81c3 => rfl); (case Fw81c3 => k_asm); (case Nw81c3 => k_asm); (case rw81c3 => assumption); k_whole); intro aqzw81c3 hqzw81c3 tkqzw81c3 vsqzw81c3 eqzw81c3 Fqzw81c3 Nqzw81c3 l1qzw81c3 hIqzw81c3; (try k_lt l1qzw81c3)))
  k_with "call type:list" => ((k_here; k_dflt (refine' list_range_led ?hw81c4 ?Fw81c4 ?Nw81c4 ?rw81c4 ?_; (case hw81c4 => rfl); (case Fw81c4 => k_asm); (case Nw81c4 => k_asm); (case rw81c4 => assumption); k_whole); intro aqzw81c4 hqzw81c4 tkqzw81c4 vsqzw81c4 eqzw81c4 Fqzw81c4 Nqzw81c4 l1qzw81c4 hIqzw81c4; (try k_lt l1qzw81c4)))
  k_with "call type:list" => ((k_here; k_dflt (refine' list_range_led ?hw81c5 ?Fw81c5 ?Nw81c5 ?rw81c5 ?_; (case hw81c5 => rfl); (case Fw81c5 => k_asm); (case Nw81c5 => k_asm); (case rw81c5 => assumption); k_whole); intro aqzw81c5 hqzw81c5 tkqzw81c5 vsqzw81c5 eqzw81c5 Fqzw81c5 Nqzw81c5 l1qzw81c5 hIqzw81c5; (try k_lt l1qzw81c5)))
  k_with "compareOp NotEq ref ref" => ((k_here; k_dflt (refine' ne_same (ns := iota) ?Nw82c0 ?aw82c0 ?bw82c0 ?iw82c0 ?jw82c0 ?uw82c0 ?_; (case Nw82c0 => k_asm); (case aw82c0 => k_mem); (case bw82c0 => k_mem); (case iw82c0 => assumption); (case jw82c0 => assumption); (case uw82c0 => exact Nat.le_of_ble_eq_true rfl); k_whole)))
  k_with "compareOp NotEq ref ref" => ((k_here; k_dflt (refine' ne_same (ns := iota) ?Nw82c1 ?aw82c1 ?bw82c1 ?iw82c1 ?jw82c1 ?uw82c1 ?_; (case Nw82c1 => k_asm); (case aw82c1 => k_mem); (case bw82c1 => k_mem); (case iw82c1 => assumption); (case jw82c1 => assumption); (case uw82c1 => exact Nat.le_of_ble_eq_true rfl); k_whole)))
  k_with "compareOp NotEq ref ref" => ((k_here; k_dflt (refine' ne_same (ns := iota) ?Nw82c2 ?aw82c2 ?bw82c2 ?iw82c2 ?jw82c2 ?uw82c2 ?_; (case Nw82c2 => k_asm); (case aw82c2 => k_mem); (case bw82c2 => k_mem); (case iw82c2 => assumption); (case jw82c2 => assumption); (case uw82c2 => exact Nat.le_of_ble_eq_true rfl); k_whole)))
  k_with "compareOp NotEq ref ref" => ((k_here; k_dflt (refine' ne_same (ns := iota) ?Nw82c3 ?aw82c3 ?bw82c3 ?iw82c3 ?jw82c3 ?uw82c3 ?_; (case Nw82c3 => k_asm); (case aw82c3 => k_mem); (case bw82c3 => k_mem); (case iw82c3 => assumption); (case jw82c3 => assumption); (case uw82c3 => exact Nat.le_of_ble_eq_true rfl); k_whole)))
  k_with "compareOp NotEq ref ref" => ((k_here; k_dflt (refine' ne_same (ns := iota) ?Nw82c4 ?aw82c4 ?bw82c4 ?iw82c4 ?jw82c4 ?uw82c4 ?_; (case Nw82c4 => k_asm); (case aw82c4 => k_mem); (case bw82c4 => k_mem); (case iw82c4 => assumption); (case jw82c4 => assumption); (case uw82c4 => exact Nat.le_of_ble_eq_true rfl); k_whole)))
  k_with "compareOp NotEq ref ref" => ((k_here; k_dflt (refine' ne_same (ns := iota) ?Nw82c5 ?aw82c5 ?bw82c5 ?iw82c5 ?jw82c5 ?uw82c5 ?_; (case Nw82c5 => k_asm); (case aw82c5 => k_mem); (case bw82c5 => k_mem); (case iw82c5 => assumption); (case jw82c5 => assumption); (case uw82c5 => exact Nat.le_of_ble_eq_true rfl); k_whole)))
  k_with "subscriptTail Name Name ref int" => ((k_here; k_dflt (refine' item_ints ?Nw83c0 ?mw83c0 ?iw83c0 ?h0w83c0 ?h1w83c0 ?hfw83c0 ?_; (case Nw83c0 => k_asm); (case mw83c0 => k_mem); (case iw83c0 => assumption); (case h0w83c0 => omega); (case h1w83c0 => (first | omega | (rw [tbl_len]; omega))); (case hfw83c0 => omega); k_whole); intro tqzw83c0))
  k_with "subscriptTail Name Name ref int" => ((k_here; k_dflt (refine' item_ints ?Nw83c1 ?mw83c1 ?iw83c1 ?h0w83c1 ?h1w83c1 ?hfw83c1 ?_; (case Nw83c1 => k_asm); (case mw83c1 => k_mem); (case iw83c1 => assumption); (case h0w83c1 => omega); (case h1w83c1 => (first | omega | (rw [tbl_len]; omega))); (case hfw83c1 => omega); k_whole); intro tqzw83c1))
  k_with "subscriptTail Name Name ref int" => ((k_here; k_dflt (refine' item_ints ?Nw83c2 ?mw83c2 ?iw83c2 ?h0w83c2 ?h1w83c2 ?hfw83c2 ?_; (case Nw83c2 => k_asm); (case mw83c2 => k_mem); (case iw83c2 => assumption); (case h0w83c2 => omega); (case h1w83c2 => (first | omega | (rw [tbl_len]; omega))); (case hfw83c2 => omega); k_whole); intro tqzw83c2))
  k_with "subscriptTail Name Name ref int" => ((k_here; k_dflt (refine' item_ints ?Nw83c3 ?mw83c3 ?iw83c3 ?h0w83c3 ?h1w83c3 ?hfw83c3 ?_; (case Nw83c3 => k_asm); (case mw83c3 => k_mem); (case iw83c3 => assumption); (case h0w83c3 => omega); (case h1w83c3 => (first | omega | (rw [tbl_len]; omega))); (case hfw83c3 => omega); k_whole); intro tqzw83c3))
  k_with "subscriptTail Name Name ref int" => ((k_here; k_dflt (refine' item_ints ?Nw83c4 ?mw83c4 ?iw83c4 ?h0w83c4 ?h1w83c4 ?hfw83c4 ?_; (case Nw83c4 => k_asm); (case mw83c4 => k_mem); (case iw83c4 => assumption); (case h0w83c4 => omega); (case h1w83c4 => (first | omega | (rw [tbl_len]; omega))); (case hfw83c4 => omega); k_whole); intro tqzw83c4))
  k_with "subscriptTail Name Name ref int" => ((k_here; k_dflt (refine' item_ints ?Nw83c5 ?mw83c5 ?iw83c5 ?h0w83c5 ?h1w83c5 ?hfw83c5 ?_; (case Nw83c5 => k_asm); (case mw83c5 => k_mem); (case iw83c5 => assumption); (case h0w83c5 => omega); (case h1w83c5 => (first | omega | (rw [tbl_len]; omega))); (case hfw83c5 => omega); k_whole); intro tqzw83c5))
  k_with "subscriptTail Name Subscript ref int" => ((k_here; k_dflt (refine' item_ints ?Nw84c0 ?mw84c0 ?iw84c0 ?h0w84c0 ?h1w84c0 ?hfw84c0 ?_; (case Nw84c0 => k_asm); (case mw84c0 => k_mem); (case iw84c0 => assumption); (case h0w84c0 => omega); (case h1w84c0 => (first | omega | (rw [tbl_len]; omega))); (case hfw84c0 => omega); k_whole); intro tqzw84c0))
  k_with "subscriptTail Name Subscript ref int" => ((k_here; k_dflt (refine' item_ints ?Nw84c1 ?mw84c1 ?iw84c1 ?h0w84c1 ?h1w84c1 ?hfw84c1 ?_; (case Nw84c1 => k_asm); (case mw84c1 => k_mem); (case iw84c1 => assumption); (case h0w84c1 => omega); (case h1w84c1 => (first | omega | (rw [tbl_len]; omega))); (case hfw84c1 => omega); k_whole); intro tqzw84c1))
  k_with "subscriptTail Name Subscript ref int" => ((k_here; k_dflt (refine' item_ints ?Nw84c2 ?mw84c2 ?iw84c2 ?h0w84c2 ?h1w84c2 ?hfw84c2 ?_; (case Nw84c2 => k_asm); (case mw84c2 => k_mem); (case iw84c2 => assumption); (case h0w84c2 => omega); (case h1w84c2 => (first | omega | (rw [tbl_len]; omega))); (case hfw84c2 => omega); k_whole); intro tqzw84c2))
  k_with "subscriptTail Name Subscript ref int" => ((k_here; k_dflt (refine' item_ints ?Nw84c3 ?mw84c3 ?iw84c3 ?h0w84c3 ?h1w84c3 ?hfw84c3 ?_; (case Nw84c3 => k_asm); (case mw84c3 => k_mem); (case iw84c3 => assumption); (case h0w84c3 => omega); (case h1w84c3 => (first | omega | (rw [tbl_len]; omega))); (case hfw84c3 => omega); k_whole); intro tqzw84c3))
  k_with "subscriptTail Name Subscript ref int" => ((k_here; k_dflt (refine' item_ints ?Nw84c4 ?mw84c4 ?iw84c4 ?h0w84c4 ?h1w84c4 ?hfw84c4 ?_; (case Nw84c4 => k_asm); (case mw84c4 => k_mem); (case iw84c4 => assumption); (case h0w84c4 => omega); (case h1w84c4 => (first | omega | (rw [tbl_len]; omega))); (case hfw84c4 => omega); k_whole); intro tqzw84c4))
  k_with "subscriptTail Name Subscript ref int" => ((k_here; k_dflt (refine' item_ints ?Nw84c5 ?mw84c5 ?iw84c5 ?h0w84c5 ?h1w84c5 ?hfw84c5 ?_; (case Nw84c5 => k_asm); (case mw84c5 => k_mem); (case iw84c5 => assumption); (case h0w84c5 => omega); (case h1w84c5 => (first | omega | (rw [tbl_len]; omega))); (case hfw84c5 => omega); k_whole); intro tqzw84c5))
  k_with "eval ListComp" => ((k_here; (with_reducible show wpAny _ _ (eval (PySem.Expr.ListComp _ [_, _] _ _) _) _ _ _); refine Stop.out ?_))
  k_with "NestSrc" => ((refine Stop.out ?_))
  k_with "NestR" => ((refine Stop.out ?_))
  k_with "NestT" => ((refine Stop.out ?_))
  k_with "NestE" => ((refine Stop.out ?_))
  k_with "exec Assign cons ListComp" => ((k_here; (with_reducible show wpAny _ _ (exec (Stmt.Assign [_] (PySem.Expr.ListComp _ [⟨_, _, [_], _⟩] _ _) _) _) _ _ _); k_dflt (refine' LCt.Assign_ListComp_T (F₀ := ?qFw90c0) ?qLw90c0 ?q1w90c0 ?q2w90c0 ?q3w90c0 ?q4w90c0 ?q5w90c0 ?q6w90c0 ?q7w90c0 ?q8w90c0 ?q9w90c0 ?qsw90c0; (case qFw90c0 => k_asm); (case qLw90c0 => rfl); (case q1w90c0 => exact swaps_ok rfl rfl rfl (by decide)); (case q2w90c0 => with_unfolding_all rfl); (case q3w90c0 => decide); (case q4w90c0 => rfl); (case q5w90c0 => decide); (case q6w90c0 => rfl); (case q7w90c0 => rfl); (case q8w90c0 => rfl); (case qsw90c0 => intro _; rfl))))
  k_with "exec Assign cons ListComp" => ((k_here; (with_reducible show wpAny _ _ (exec (Stmt.Assign [_] (PySem.Expr.ListComp _ [⟨_, _, [_], _⟩] _ _) _) _) _ _ _); k_dflt (refine' LCt.Assign_ListComp_T (F₀ := ?qFw90c1) ?qLw90c1 ?q1w90c1 ?q2w90c1 ?q3w90c1 ?q4w90c1 ?q5w90c1 ?q6w90c1 ?q7w90c1 ?q8w90c1 ?q9w90c1 ?qsw90c1; (case qFw90c1 => k_asm); (case qLw90c1 => rfl); (case q1w90c1 => exact swaps_ok rfl rfl rfl (by decide)); (case q2w90c1 => with_unfolding_all rfl); (case q3w90c1 => decide); (case q4w90c1 => rfl); (case q5w90c1 => decide); (case q6w90c1 => rfl); (case q7w90c1 => rfl); (case q8w90c1 => rfl); (case qsw90c1 => intro _; rfl))))
  k_with "exec Assign cons ListComp" => ((k_here; (with_reducible show wpAny _ _ (exec (Stmt.Assign [_] (PySem.Expr.ListComp _ [⟨_, _, [_], _⟩] _ _) _) _) _ _ _); k_dflt (refine' LCt.Assign_ListComp_T (F₀ := ?qFw90c2) ?qLw90c2 ?q1w90c2 ?q2w90c2 ?q3w90c2 ?q4w90c2 ?q5w90c2 ?q6w90c2 ?q7w90c2 ?q8w90c2 ?q9w90c2 ?qsw90c2; (case qFw90c2 => k_asm); (case qLw90c2 => rfl); (case q1w90c2 => exact swaps_ok rfl rfl rfl (by decide)); (case q2w90c2 => with_unfolding_all rfl); (case q3w90c2 => decide); (case q4w90c2 => rfl); (case q5w90c2 => decide); (case q6w90c2 => rfl); (case q7w90c2 => rfl); (case q8w90c2 => rfl); (case qsw90c2 => intro _; rfl))))
  k_with "exec Assign cons ListComp" => ((k_here; (with_reducible show wpAny _ _ (exec (Stmt.Assign [_] (PySem.Expr.ListComp _ [⟨_, _, [_], _⟩] _ _) _) _) _ _ _); k_dflt (refine' LCt.Assign_ListComp_T (F₀ := ?qFw90c3) ?qLw90c3 ?q1w90c3 ?q2w90c3 ?q3w90c3 ?q4w90c3 ?q5w90c3 ?q6w90c3 ?q7w90c3 ?q8w90c3 ?q9w90c3 ?qsw90c3; (case qFw90c3 => k_asm); (case qLw90c3 => rfl); (case q1w90c3 => exact swaps_ok rfl rfl rfl (by decide)); (case q2w90c3 => with_unfolding_all rfl); (case q3w90c3 => decide); (case q4w90c3 => rfl); (case q5w90c3 => decide); (case q6w90c3 => rfl); (case q7w90c3 => rfl); (case q8w90c3 => rfl); (case qsw90c3 => intro _; rfl))))
  k_with "exec Assign cons ListComp" => ((k_here; (with_reducible show wpAny _ _ (exec (Stmt.Assign [_] (PySem.Expr.ListComp _ [⟨_, _, [_], _⟩] _ _) _) _) _ _ _); k_dflt (refine' LCt.Assign_ListComp_T (F₀ := ?qFw90c4) ?qLw90c4 ?q1w90c4 ?q2w90c4 ?q3w90c4 ?q4w90c4 ?q5w90c4 ?q6w90c4 ?q7w90c4 ?q8w90c4 ?q9w90c4 ?qsw90c4; (case qFw90c4 => k_asm); (case qLw90c4 => rfl); (case q1w90c4 => exact swaps_ok rfl rfl rfl (by decide)); (case q2w90c4 => with_unfolding_all rfl); (case q3w90c4 => decide); (case q4w90c4 => rfl); (case q5w90c4 => decide); (case q6w90c4 => rfl); (case q7w90c4 => rfl); (case q8w90c4 => rfl); (case qsw90c4 => intro _; rfl))))
  k_with "exec Assign cons ListComp" => ((k_here; (with_reducible show wpAny _ _ (exec (Stmt.Assign [_] (PySem.Expr.ListComp _ [⟨_, _, [_], _⟩] _ _) _) _) _ _ _); k_dflt (refine' LCt.Assign_ListComp_T (F₀ := ?qFw90c5) ?qLw90c5 ?q1w90c5 ?q2w90c5 ?q3w90c5 ?q4w90c5 ?q5w90c5 ?q6w90c5 ?q7w90c5 ?q8w90c5 ?q9w90c5 ?qsw90c5; (case qFw90c5 => k_asm); (case qLw90c5 => rfl); (case q1w90c5 => exact swaps_ok rfl rfl rfl (by decide)); (case q2w90c5 => with_unfolding_all rfl); (case q3w90c5 => decide); (case q4w90c5 => rfl); (case q5w90c5 => decide); (case q6w90c5 => rfl); (case q7w90c5 => rfl); (case q8w90c5 => rfl); (case qsw90c5 => intro _; rfl))))
  k_with "CompSrcT" => ((refine Stop.out ?_))
  k_with "exec For Name Call cons nil" => ((refine Stop.out ?_))
  k_with "pyIter ref" => ((refine Stop.out ?_))
  k_with "call ref" => ((k_here; (with_reducible show wpAny _ _ (call (Value.ref 190) _ _) _ _ _); refine Stop.out ?_))
  k_with "compareOp Eq ref ref" => ((k_here; k_dflt (first | (refine' eq_t ?qNw95c0 ?qaw95c0 ?qbw95c0 ?qiw95c0 ?qjw95c0 ?quw95c0 ?qew95c0 ?_; (case qNw95c0 => k_asm); (case qaw95c0 => k_mem); (case qbw95c0 => k_mem); (case qiw95c0 => assumption); (case qjw95c0 => assumption); (case quw95c0 => exact Nat.le_of_ble_eq_true rfl); (case qew95c0 => first | rfl | assumption); k_whole) | (refine' eq_f ?qNw95c0 ?qaw95c0 ?qbw95c0 ?qiw95c0 ?qjw95c0 ?quw95c0 ?qew95c0 ?_; (case qNw95c0 => k_asm); (case qaw95c0 => k_mem); (case qbw95c0 => k_mem); (case qiw95c0 => assumption); (case qjw95c0 => assumption); (case quw95c0 => exact Nat.le_of_ble_eq_true rfl); (case qew95c0 => assumption); k_whole))))
  k_with "compareOp Eq ref ref" => ((k_here; k_dflt (first | (refine' eq_t ?qNw95c1 ?qaw95c1 ?qbw95c1 ?qiw95c1 ?qjw95c1 ?quw95c1 ?qew95c1 ?_; (case qNw95c1 => k_asm); (case qaw95c1 => k_mem); (case qbw95c1 => k_mem); (case qiw95c1 => assumption); (case qjw95c1 => assumption); (case quw95c1 => exact Nat.le_of_ble_eq_true rfl); (case qew95c1 => first | rfl | assumption); k_whole) | (refine' eq_f ?qNw95c1 ?qaw95c1 ?qbw95c1 ?qiw95c1 ?qjw95c1 ?quw95c1 ?qew95c1 ?_; (case qNw95c1 => k_asm); (case qaw95c1 => k_mem); (case qbw95c1 => k_mem); (case qiw95c1 => assumption); (case qjw95c1 => assumption); (case quw95c1 => exact Nat.le_of_ble_eq_true rfl); (case qew95c1 => assumption); k_whole))))
  k_with "compareOp Eq ref ref" => ((k_here; k_dflt (first | (refine' eq_t ?qNw95c2 ?qaw95c2 ?qbw95c2 ?qiw95c2 ?qjw95c2 ?quw95c2 ?qew95c2 ?_; (case qNw95c2 => k_asm); (case qaw95c2 => k_mem); (case qbw95c2 => k_mem); (case qiw95c2 => assumption); (case qjw95c2 => assumption); (case quw95c2 => exact Nat.le_of_ble_eq_true rfl); (case qew95c2 => first | rfl | assumption); k_whole) | (refine' eq_f ?qNw95c2 ?qaw95c2 ?qbw95c2 ?qiw95c2 ?qjw95c2 ?quw95c2 ?qew95c2 ?_; (case qNw95c2 => k_asm); (case qaw95c2 => k_mem); (case qbw95c2 => k_mem); (case qiw95c2 => assumption); (case qjw95c2 => assumption); (case quw95c2 => exact Nat.le_of_ble_eq_true rfl); (case qew95c2 => assumption); k_whole))))
  k_with "compareOp Eq ref ref" => ((k_here; k_dflt (first | (refine' eq_t ?qNw95c3 ?qaw95c3 ?qbw95c3 ?qiw95c3 ?qjw95c3 ?quw95c3 ?qew95c3 ?_; (case qNw95c3 => k_asm); (case qaw95c3 => k_mem); (case qbw95c3 => k_mem); (case qiw95c3 => assumption); (case qjw95c3 => assumption); (case quw95c3 => exact Nat.le_of_ble_eq_true rfl); (case qew95c3 => first | rfl | assumption); k_whole) | (refine' eq_f ?qNw95c3 ?qaw95c3 ?qbw95c3 ?qiw95c3 ?qjw95c3 ?quw95c3 ?qew95c3 ?_; (case qNw95c3 => k_asm); (case qaw95c3 => k_mem); (case qbw95c3 => k_mem); (case qiw95c3 => assumption); (case qjw95c3 => assumption); (case quw95c3 => exact Nat.le_of_ble_eq_true rfl); (case qew95c3 => assumption); k_whole))))
  k_with "compareOp Eq ref ref" => ((k_here; k_dflt (first | (refine' eq_t ?qNw95c4 ?qaw95c4 ?qbw95c4 ?qiw95c4 ?qjw95c4 ?quw95c4 ?qew95c4 ?_; (case qNw95c4 => k_asm); (case qaw95c4 => k_mem); (case qbw95c4 => k_mem); (case qiw95c4 => assumption); (case qjw95c4 => assumption); (case quw95c4 => exact Nat.le_of_ble_eq_true rfl); (case qew95c4 => first | rfl | assumption); k_whole) | (refine' eq_f ?qNw95c4 ?qaw95c4 ?qbw95c4 ?qiw95c4 ?qjw95c4 ?quw95c4 ?qew95c4 ?_; (case qNw95c4 => k_asm); (case qaw95c4 => k_mem); (case qbw95c4 => k_mem); (case qiw95c4 => assumption); (case qjw95c4 => assumption); (case quw95c4 => exact Nat.le_of_ble_eq_true rfl); (case qew95c4 => assumption); k_whole))))
  k_with "compareOp Eq ref ref" => ((k_here; k_dflt (first | (refine' eq_t ?qNw95c5 ?qaw95c5 ?qbw95c5 ?qiw95c5 ?qjw95c5 ?quw95c5 ?qew95c5 ?_; (case qNw95c5 => k_asm); (case qaw95c5 => k_mem); (case qbw95c5 => k_mem); (case qiw95c5 => assumption); (case qjw95c5 => assumption); (case quw95c5 => exact Nat.le_of_ble_eq_true rfl); (case qew95c5 => first | rfl | assumption); k_whole) | (refine' eq_f ?qNw95c5 ?qaw95c5 ?qbw95c5 ?qiw95c5 ?qjw95c5 ?quw95c5 ?qew95c5 ?_; (case qNw95c5 => k_asm); (case qaw95c5 => k_mem); (case qbw95c5 => k_mem); (case qiw95c5 => assumption); (case qjw95c5 => assumption); (case quw95c5 => exact Nat.le_of_ble_eq_true rfl); (case qew95c5 => assumption); k_whole))))
  k_with "call builtin:bin" => ((k_here; (with_reducible refine P.bin_of_int ?_ ?qzw96c0); (case qzw96c0 => exact bin_fits (by omega) (by omega))))
  k_with "call builtin:bin" => ((k_here; (with_reducible refine P.bin_of_int ?_ ?qzw96c1); (case qzw96c1 => exact bin_fits (by omega) (by omega))))
  k_with "call builtin:bin" => ((k_here; (with_reducible refine P.bin_of_int ?_ ?qzw96c2); (case qzw96c2 => exact bin_fits (by omega) (by omega))))
  k_with "call builtin:bin" => ((k_here; (with_reducible refine P.bin_of_int ?_ ?qzw96c3); (case qzw96c3 => exact bin_fits (by omega) (by omega))))
  k_with "call builtin:bin" => ((k_here; (with_reducible refine P.bin_of_int ?_ ?qzw96c4); (case qzw96c4 => exact bin_fits (by omega) (by omega))))
  k_with "call builtin:bin" => ((k_here; (with_reducible refine P.bin_of_int ?_ ?qzw96c5); (case qzw96c5 => exact bin_fits (by omega) (by omega))))
  k_with "call builtin:sorted" => ((k_here; k_dflt (refine' sorted_led ?Fw97c0 ?Nw97c0 ?mw97c0 ?iw97c0 ?zw97c0 ?pw97c0 iota_sorted ?_; (case Fw97c0 => k_asm); (case Nw97c0 => k_asm); (case mw97c0 => k_mem); (case iw97c0 => assumption); (case zw97c0 => assumption); (case pw97c0 => assumption); k_whole); intro aqzw97c0 hqzw97c0 vsqzw97c0 eqzw97c0 Fqzw97c0 Nqzw97c0 l1qzw97c0 hIqzw97c0; (try k_lt l1qzw97c0)))
  k_with "call builtin:sorted" => ((k_here; k_dflt (refine' sorted_led ?Fw97c1 ?Nw97c1 ?mw97c1 ?iw97c1 ?zw97c1 ?pw97c1 iota_sorted ?_; (case Fw97c1 => k_asm); (case Nw97c1 => k_asm); (case mw97c1 => k_mem); (case iw97c1 => assumption); (case zw97c1 => assumption); (case pw97c1 => assumption); k_whole); intro aqzw97c1 hqzw97c1 vsqzw97c1 eqzw97c1 Fqzw97c1 Nqzw97c1 l1qzw97c1 hIqzw97c1; (try k_lt l1qzw97c1)))
  k_with "call builtin:sorted" => ((k_here; k_dflt (refine' sorted_led ?Fw97c2 ?Nw97c2 ?mw97c2 ?iw97c2 ?zw97c2 ?pw97c2 iota_sorted ?_; (case Fw97c2 => k_asm); (case Nw97c2 => k_asm); (case mw97c2 => k_mem); (case iw97c2 => assumption); (case zw97c2 => assumption); (case pw97c2 => assumption); k_whole); intro aqzw97c2 hqzw97c2 vsqzw97c2 eqzw97c2 Fqzw97c2 Nqzw97c2 l1qzw97c2 hIqzw97c2; (try k_lt l1qzw97c2)))
  k_with "call builtin:sorted" => ((k_here; k_dflt (refine' sorted_led ?Fw97c3 ?Nw97c3 ?mw97c3 ?iw97c3 ?zw97c3 ?pw97c3 iota_sorted ?_; (case Fw97c3 => k_asm); (case Nw97c3 => k_asm); (case mw97c3 => k_mem); (case iw97c3 => assumption); (case zw97c3 => assumption); (case pw97c3 => assumption); k_whole); intro aqzw97c3 hqzw97c3 vsqzw97c3 eqzw97c3 Fqzw97c3 Nqzw97c3 l1qzw97c3 hIqzw97c3; (try k_lt l1qzw97c3)))
  k_with "call builtin:sorted" => ((k_here; k_dflt (refine' sorted_led ?Fw97c4 ?Nw97c4 ?mw97c4 ?iw97c4 ?zw97c4 ?pw97c4 iota_sorted ?_; (case Fw97c4 => k_asm); (case Nw97c4 => k_asm); (case mw97c4 => k_mem); (case iw97c4 => assumption); (case zw97c4 => assumption); (case pw97c4 => assumption); k_whole); intro aqzw97c4 hqzw97c4 vsqzw97c4 eqzw97c4 Fqzw97c4 Nqzw97c4 l1qzw97c4 hIqzw97c4; (try k_lt l1qzw97c4)))
  k_with "call builtin:sorted" => ((k_here; k_dflt (refine' sorted_led ?Fw97c5 ?Nw97c5 ?mw97c5 ?iw97c5 ?zw97c5 ?pw97c5 iota_sorted ?_; (case Fw97c5 => k_asm); (case Nw97c5 => k_asm); (case mw97c5 => k_mem); (case iw97c5 => assumption); (case zw97c5 => assumption); (case pw97c5 => assumption); k_whole); intro aqzw97c5 hqzw97c5 vsqzw97c5 eqzw97c5 Fqzw97c5 Nqzw97c5 l1qzw97c5 hIqzw97c5; (try k_lt l1qzw97c5)))
  k_go0
  all_goals try k_fold
  rename Fr _ _ _ _ => FS0
  have FS1 := fr_script (by assumption) FS0 (fun z => by rfl)
  clear FS0
  k_steps
  refine Stop.mk ?_
  rename Addr => D1
  rename List Value => ws1
  rename Shared => s1
  rename World => w
  rename IntsAre _ (List.take 40 _) => hTk
  rename (List.take 40 _).length = _ => hTl
  rename News _ _ _ ((_, listOf _ 0) :: _) => NS
  rename Fr _ _ _ _ => FS
  rename _ ∧ _ ∧ _ ∧ _ => lS
  rename Below callerA _ [] _ => KB
  rename Top _ _ _ _ _ _ => TT
  rename Frag.In _ _ => KX
  generalize hns : List.take 40 _ = ns at hTk hTl
  have hsz : ns.length ≤ 40 := by omega
  have hwl := hTk.length
  refine CompSrc.ledger rfl FS NS (.head _) (by rw [List.size_toArray, hwl, sizeLine_eq]; omega) ?_
  intro g
  refine comp_inv (fun i ys news => ∃ gl : Led, GatesAt gl ys (gatesOf (ns.take i)) ∧ news = gl ++ (D1, _) :: _ ∧ ∀ p ∈ gl, @LT.lt Nat _ D1 p.1) _ ?_ ?_ _ 0 [] _ (Nat.zero_add _) ⟨[], GatesAt.nil, rfl, fun _ h => (nomatch h)⟩
  · intro i ys news v I oI C oC D3 m3 h3 tk3 E3 hi hh hv hC hx F3 N3 o3 ne3
    refine ex1 hh fun gl hh2 => an3 hh2 fun hG en hgl => ?_
    clear hh hh2
    subst en
    have hi2 : i < ns.length := by rw [← hwl]; simpa using hi
    have hh : ∃ tv, v = .int ns[i] tv := by
      obtain ⟨tv, hvv⟩ := hTk.get i ns[i] (List.getElem?_eq_getElem hi2)
      have h3 : ws1[i]? = some v := by simpa using hv
      rw [hvv] at h3; exact ⟨tv, (Option.some.inj h3).symm⟩
    refine ex1 hh fun tv ev => ?_
    clear hh
    subst ev
    k_steps
    refine Stop.mk ?_
    refine does_use (gate_does w _ ns[i] _) KB F3 KX N3 TT rfl (Nat.le_of_ble_eq_true rfl) (Nat.le_of_ble_eq_true rfl) ?_
    intro v led' h' tk' F4 N4 hh
    refine ex2 hh fun D5 o5 hh2 => an4 hh2 fun ev hgo el hlt => ?_
    clear hh hh2
    subst ev el
    k_steps
    refine Stop.mk ?_
    refine compEnd_new F4 N4 hlt o3 ?_ ?_
    · exact .inr ⟨_, .tail _ (List.mem_append_right _ (.head _)), rfl, _, rfl⟩
    · have hlt' := allLt_iff.mp hlt
      refine ⟨(D5, o5) :: gl, ?_, rfl, ?_⟩
      · rw [gatesOf_snoc hi2]
        exact (hG.mono fun p hp => .tail _ hp).snoc ⟨D5, o5, rfl, .head _, hgo⟩
      · intro p hp
        rcases List.mem_cons.mp hp with rfl | hp
        · exact hlt' _ (.tail _ (.tail _ (.tail _ (List.mem_append_right _ (.head _)))))
        · exact hgl p hp
  · intro ys news hh
    refine ex1 hh fun gl hh2 => an3 hh2 fun hG en hgl => ?_
    clear hh hh2
    subst en
    have e1 : ws1.toArray.size = ns.length := by rw [List.size_toArray, hwl]
    rw [e1, List.take_length] at hG
    intro D3 h3 tk3 F3 N3 o3
    have N4 := cells_front N3 o3 hgl lS.1 lS.2.1 lS.2.2.1 lS.2.2.2
    have hh : ∃ R : Led, (D3, listOf ys.toArray ys.length) ∈ R ∧ GatesAt R ys (gatesOf ns) ∧ News _ _ h3 (_ :: _ :: _ :: _ :: R) ∧ (∀ p ∈ R, p.1 ≠ _) ∧ (∀ p ∈ R, p.1 ≠ _) ∧ (∀ p ∈ R, p.1 ≠ _) ∧ (∀ p ∈ R, p.1 ≠ _) := ⟨_, .head _, hG.mono fun p hp => .tail _ hp, N4⟩
    refine ex1 hh fun R hh2 => an7 hh2 fun hD3 hGR N5 c1 c2 c3 c4 => ?_
    clear hh hh2
    clear N4 N3 NS hG hgl o3
    have hyl : ys.length = ns.length := by rw [hGR.1]; simp [gatesOf]
    have hyz : ys.toArray.size ≤ sizeLine := by rw [sizeLine_eq]; simp; omega
    k_steps
    refine Stop.mk ?_
    rename IsRange _ _ _ _ _ _ _ _ => hR
    rename Fr _ _ _ _ => FB
    rename News _ _ _ _ => NB
    rename _ = Data.cell (some (Value.ref D3)) => hcG
    have hgl : (gatesOf ns).length = ns.length := by simp [gatesOf]
    refine CompSrc.range rfl FB NB hR (small_one (by decide) (by decide) (by omega) (by omega)) (rangeSize_nat _ _) (by rw [sizeLine_eq]; omega) ?_
    intro g2
    refine comp_range (fun i zs => GatesAt R zs ((gatesOf ns).reverse.take i)) _ GatesAt.nil ?_ ?_
    · intro i zs tv I oI C oC D4 m4 h4 tk4 E4 hi hZ hC hx F4 N4 o4 ne4
      k_steps
      refine Stop.mk ?_
      have hil : i < (gatesOf ns).length := by omega
      refine ex1 (hGR.back hZ hil) fun v hh => an2 hh fun hvx hZ' => ?_
      clear hh
      refine' item_led N4 ?m ?h0 ?hf hvx ?_
      (case m => k_mem)
      (case h0 => exact idx_ge (by show i < ys.length; rw [hyl, ← hgl]; exact hil))
      (case hf => exact idx_fit (by show ys.length ≤ 40; rw [hyl]; exact hsz))
      refine compEnd_same F4 N4 o4 ?_ ⟨hZ', rfl⟩
      trivial
    · intro zs hZ
      have hZl : (gatesOf ns).reverse.take ((ys.length : Int) - 0).toNat = (gatesOf ns).reverse := List.take_of_length_le (by rw [List.length_reverse]; omega)
      rw [hZl] at hZ
      intro D4 h4 tk4 F4 N4 o4
      refine to_rest_k N4 o4 c1 c2 c3 c4 fun R1 hs1 hD4 N5 e1 e2 e3 e4 => ?_
      have hD3' := hs1 _ hD3
      have hGR1 := hGR.mono hs1
      have hZR1 := hZ.mono hs1
      clear N4 NB o4 c1 c2 c3 c4 hs1 hD3 hGR hZ hZl
      k_steps
      refine Stop.mk ?_
      rename IsRange _ _ _ _ _ _ _ _ => hR
      rename Fr _ _ _ _ => FB
      rename News _ _ _ _ => NB
      refine CompSrc.range (n := 16) rfl FB NB hR (by decide) (by decide) (by rw [sizeLine_eq]; omega) ?_
      intro g2
      refine comp_range (fun i ts => IntsAre ts ((tbl (gatesOf ns)).take i)) _ .nil ?_ ?_
      · intro i ts tv I oI C oC D5 m5 h5 tk5 E5 hi hT hC hx F5 N5 o5 ne5
        k_steps
        refine Stop.mk ?_
        refine does_int (reduce_use hGR1 hD3' sub7 gates_ok (by omega) (by omega)) KB F5 KX N5 TT rfl (Nat.le_of_ble_eq_true rfl) (Nat.le_of_ble_eq_true rfl) ?_
        intro tr h' tk' F6 N6
        k_steps
        refine Stop.mk ?_
        refine compEnd_same F6 N6 o5 trivial ⟨?_, rfl⟩
        rw [tbl_take_snoc hi, Int.zero_add]
        exact hT.append (.cons _ _ .nil)
      · intro ts hT
        rw [List.take_of_length_le (by rw [tbl_len]; omega)] at hT
        intro D5 h5 tk5 F5 N5 o5
        refine to_rest_k N5 o5 e1 e2 e3 e4 fun R2 hs2 hD5 N6 f1 f2 f3 f4 => ?_
        have hD3'' := hs2 _ hD3'
        have hD4'' := hs2 _ hD4
        have hGR2 := hGR1.mono hs2
        have hZR2 := hZR1.mono hs2
        clear N5 NB o5 e1 e2 e3 e4 hs2 hD3' hD4 hGR1 hZR1
        have htp := tbl_perm ns
        have htl : ts.length < 64 := by rw [hT.length, tbl_len]; decide
        k_steps
        refine Stop.mk ?_
        rename IsRange _ _ _ _ _ _ _ _ => hR
        rename Fr _ _ _ _ => FB
        rename News _ _ _ _ => NB
        refine CompSrc.range (n := 16) (news := _ :: _ :: _ :: _ :: R2) rfl FB (cb_drop NB sub2) hR (by decide) (by decide) (by rw [sizeLine_eq]; omega) ?_
        intro g3
        refine comp_range (fun i us => IntsAre us (iota.take i)) _ .nil ?_ ?_
        · intro i us tv I oI C oC D6 m6 h6 tk6 E6 hi hU hC hx F6 N6 o6 ne6
          have ht16 := tbl_len (gatesOf ns)
          k_steps
          refine Stop.mk ?_
          refine an3 (tbl_at ns hi) fun b0 b1 b2 => ?_
          refine does_int (reduce_use hZR2 hD4'' sub7 (back_ok ns) b0 b1) KB F6 KX N6 TT rfl (Nat.le_of_ble_eq_true rfl) (Nat.le_of_ble_eq_true rfl) ?_
          intro tr h' tk' F7 N7
          k_steps
          refine Stop.mk ?_
          refine compEnd_same F7 N7 o6 trivial ⟨?_, rfl⟩
          rw [iota_take_snoc hi, b2]
          exact hU.append (.cons _ _ .nil)
        · intro us hU
          rw [List.take_of_length_le (by rw [iota_len]; omega)] at hU
          intro D6 h6 tk6 F6 N6 o6
          clear NB o6
          k_steps
          refine Stop.mk ?_
          rename Fr _ _ _ _ => FB
          rename News _ _ _ _ => NB
          refine ListComp_nestU (fun k => (tbl (gatesOf ns)).getD k.toNat 0) FB (by with_unfolding_all rfl) (by decide) (by rfl) (by decide) (by rfl) (by rfl) (by decide) ?_
          k_steps
          refine Stop.mk ?_
          rename IsRange _ _ _ _ _ _ _ _ => hR
          rename Fr _ _ _ _ => FB
          rename News _ _ _ _ => NB
          refine ⟨_, _, _, _, _, rfl, rfl, hR, FB, NB, ?_, ?_, ?_, ?_⟩
          · intro C j tj oC mC led h7 tk7 hj hC hx hs hc F7 N7
            have N8 : News _ _ h7 ((C, oC) :: _ :: _ :: _ :: _ :: _ :: _ :: (R2 ++ led)) := cb_drop N7 fun p hp => (List.mem_cons.mp hp).elim (fun e => e ▸ hc) fun hp => (List.mem_append.mp hp).elim (hs p) id
            clear N7
            k_steps
            refine Stop.mk ?_
            refine' NestR.mk ?qa ?qb ?qc
            (case qa => assumption)
            (case qb => k_asm)
            (case qc => exact cb_drop (by k_asm) fun p hp => .tail _ (.tail _ (.tail _ (.tail _ (.tail _ (.tail _ (.tail _ (List.mem_append_right _ hp))))))))
          · intro C j i tj ti oC mC led h7 tk7 hi hj hC hxj hxi hs hc F7 N7
            have N8 : News _ _ h7 ((C, oC) :: _ :: _ :: _ :: _ :: _ :: _ :: (R2 ++ led)) := cb_drop N7 fun p hp => (List.mem_cons.mp hp).elim (fun e => e ▸ hc) fun hp => (List.mem_append.mp hp).elim (hs p) id
            have hD7 := List.mem_append_left led hD5
            have ht16 := tbl_len (gatesOf ns)
            clear N7 hR
            k_steps
            refine Stop.mk ?_
            refine NestT.mk ?qd ?qe ?qf
            (case qe => k_asm)
            (case qf => exact cb_drop (by k_asm) fun p hp => .tail _ (.tail _ (.tail _ (.tail _ (.tail _ (.tail _ (.tail _ (List.mem_append_right _ hp))))))))
            (case qd => rfl)
          · intro C led h7 tk7 F7 N7
            k_steps
            refine Stop.mk ?_
            exact NestE.mk F7 N7
          · intro D7 h7 tk7 ns1 hn1 F7 N7 o7
            clear NB hR
            have hev := tot_even ns
            have htb := tot_le (fun k => (tbl (gatesOf ns)).getD k.toNat 0) 16 (by omega)
            rw [← hn1] at hev htb
            have hz7 : ns1.toArray.size ≤ sizeLine := by rw [sizeLine_eq]; simp; omega
            k_steps
            refine Stop.mk ?_
            rename Fr _ _ _ _ => FB
            rename News _ _ _ _ => NB
            have hysz : ys.toArray.size ≤ sizeLine := hyz
            refine CompSrcT.ledger (news := _ :: _ :: _ :: _ :: R2) rfl FB (cb_drop NB sub3) (.tail _ (.tail _ (.tail _ (.tail _ hD3'')))) hysz ?_
            intro g4
            refine compT_const (fun i zs => GatesAt R2 zs (((gatesOf ns).take i).filter fun g => g.kd == 1)) _ GatesAt.nil ?_ ?_
            · --keep
              intro i zs v I oI C oC D8 m8 h8 tk8 E8 hi hZ hv hC hx F8 N8 o8 ne8
              have hil : i < ys.length := by simpa using hi
              have hil2 : i < (gatesOf ns).length := by rw [hgl, ← hyl]; exact hil
              have hve : v = ys[i] := by
                have h3 : ys[i]? = some v := by simpa using hv
                rw [List.getElem?_eq_getElem hil] at h3; exact (Option.some.inj h3).symm
              have hir := hGR2.2 i hil hil2
              subst hve
              have hir2 := hir
              refine ex2 hir fun ga go hh => an3 hh fun hve hgm hh3 => ex5 hh3 fun t0 t1 t2 t3 gn eg => ?_
              clear hh hh3
              subst eg
              rw [hve] at hx hir2
              k_steps
              · refine Stop.mk ?_
                rename (gatesOf ns)[i].kd = 1 => hk1
                refine compEnd_same (by assumption) (by assumption) o8 (.inr ⟨_, .tail _ (.tail _ (.tail _ (.tail _ hD3''))), rfl, _, rfl⟩) ⟨?_, rfl⟩
                rw [filter_snoc hil2, if_pos hk1]
                exact hZ.snoc hir2
              · refine Stop.mk ?_
                rename ¬ (gatesOf ns)[i].kd = 1 => hk1
                refine compEnd_same (by assumption) (by assumption) o8 (.inr ⟨_, .tail _ (.tail _ (.tail _ (.tail _ hD3''))), rfl, _, rfl⟩) ⟨?_, rfl⟩
                rw [filter_snoc hil2, if_neg hk1, List.append_nil]
                exact hZ
            · intro zs hZ
              rw [List.take_of_length_le (by rw [List.size_toArray]; omega)] at hZ
              intro D8 h8 tk8 F8 N8 o8
              refine to_rest_k N8 o8 f1 f2 f3 f4 fun R3 hs3 hD8 N9 g1 g2 g3' g4' => ?_
              have hZ3 := hZ.mono hs3
              have hD5' := hs3 _ hD5
              clear N8 o8 NB
              k_steps
              refine Stop.mk ?_
              refine wpAny_For ?_
              k_steps
              refine Stop.mk ?_
              rename IsRange _ _ _ _ _ _ _ _ => hR
              rename Fr _ _ _ _ => FB
              rename News _ _ _ _ => NB
              refine for_range2 (y := Str.ofString "kept") 16 (fun _ led => led = _ :: _ :: _ :: _ :: R3) rfl (by rfl) (by rfl) rfl hR (by decide) (by decide) FB NB rfl ?_ ?_
              · --keep
                rintro i t u led h9 tk9 I oI hi rfl hO FC NC
                k_steps
                refine Stop.mk ?_
                refine does_int (reduce_use hZ3 hD8 sub5 swaps_gates_ok (by omega) (by omega)) KB FC KX NC TT rfl (Nat.le_of_ble_eq_true rfl) (Nat.le_of_ble_eq_true rfl) ?_
                intro tr h' tk' F10 N10
                refine an4 (swap_pop ns hi) fun hp1 hp2 hp3 hp4 => ?_
                k_steps
                all_goals try ((with_reducible refine P.bin_of_int ?_ (bin_fits hp3 hp4)); k_steps)
                all_goals (rename Fr _ _ _ (fun y => if y = Str.ofString "kept" then _ else _) => FX)
                all_goals (rename News _ _ _ ((_, listOf #[_, _] _) :: _) => NX)
                all_goals exact ⟨_, _, _, _, rfl, FX, cb_drop NX fun p hp => .tail _ hp, hO, rfl, fun z hz hy => by
                  show (if z = _ then _ else if z = _ then _ else if z = _ then _ else _) = _
                  rw [if_neg hy, if_neg hz, if_neg hy]⟩
              · rintro u u' led h9 tk9 rfl FC NC
                clear NB
                dsimp only
                k_steps
                refine Stop.mk ?_
                refine doesT_use (ring_does w _ _ ts _ (tbl (gatesOf ns)) (.tail _ (.tail _ (.tail _ (.tail _ hD5')))) hT (tbl_len _) (tbl_word ns) (tbl_mv ns)) KB FC KX NC TT rfl (Nat.le_of_ble_eq_true rfl) (Nat.le_of_ble_eq_true rfl) ?_
                intro v led' h10 tk10 F11 N11 hh
                refine ex4 hh fun l wla n' ring hh2 => an5 hh2 fun ev el hll hring hrok => ?_
                clear hh hh2
                subst ev el
                obtain ⟨wl⟩ := wla
                refine to_rest_k N11 (off1_lt hll) g1 g2 g3' g4' fun R4 hs4 hl4 N12 i1 i2 i3 i4 => ?_
                have hD5'' := hs4 _ hD5'
                clear N11 NC
                have hnil : IntsAre ([] : List Value) [] := .nil
                rcases hrok with ⟨rfl, hid⟩ | hh
                · have hti : tbl (gatesOf ns) = iota := tbl_iota hid
                  k_steps
                · refine an6 hh fun hmoved hl2 hl9 hends hlinks hall => ?_
                  clear hh
                  have hti : ¬ tbl (gatesOf ns) = iota := tbl_not_iota hmoved
                  have hrn : ¬ ring = [] := by rintro rfl; simp at hl2
                  refine ex1 hends fun e0 hh => an2 hh fun he0 he1 => ?_
                  clear hh
                  have hwl2 : wl.length = ring.length := hring.length
                  have hwz : (Array.mk wl).size ≤ sizeLine := by rw [sizeLine_eq]; simp; omega
                  have hsz2 : (Array.mk wl).size = ring.length := hwl2
                  have hee : ring.getD (0 : Int).toNat 0 = ring.getD (((Array.mk wl).size : Int) - 1).toNat 0 := by
                    have e9 : (((Array.mk wl).size : Int) - 1).toNat = ring.length - 1 := by omega
                    rw [e9, List.getD_eq_getElem?_getD, List.getD_eq_getElem?_getD, he1]
                    show (ring[0]?).getD 0 = _
                    rw [he0]
                  k_steps
                  refine Stop.mk ?_
                  refine' item_ints ?qN ?qm hring ?qh0 ?qh1 ?qhf ?_
                  (case qN => k_asm)
                  (case qm => k_mem)
                  (case qh0 => omega)
                  (case qh1 => omega)
                  (case qhf => omega)
                  intro t5
                  k_steps
                  refine Stop.mk ?_
                  rename IsRange _ _ _ _ _ _ _ _ => hR
                  rename Fr _ _ _ _ => FB
                  rename News _ _ _ _ => NB
                  refine CompSrcT.range (n := ring.length - 1) rfl FB NB hR (small_one (by decide) (by decide) (by omega) (by omega)) ?qsz (by rw [sizeLine_eq]; omega) ?_
                  case qsz =>
                    rw [rangeSize_nat]
                    show (((wl.length : Int) - 1).toNat : Int) = _
                    omega
                  intro g5
                  refine compT_const (fun i zs => zs = []) _ rfl ?_ ?_
                  · --keep
                    intro i zs v I oI C oC D8 m8 h8 tk8 E8 hi hzs hh hC hx F8 N8 o8 ne8
                    refine ex1 hh fun tv ev => ?_
                    clear hh
                    subst hzs ev
                    have hi2 : i + 1 < ring.length := by omega
                    have ej : ((1 : Int) + (i : Int) - 1).toNat = i := by omega
                    have ek : ((1 : Int) + (i : Int)).toNat = i + 1 := by omega
                    have hgi : ring[i]? = some (ring.getD i 0) := getD_some (by omega)
                    have hgj : ring[i + 1]? = some (ring.getD (i + 1) 0) := getD_some hi2
                    have hbd := hall _ (List.mem_of_getElem? hgi)
                    have hlk : ring.getD (i + 1) 0 = (tbl (gatesOf ns)).getD (ring.getD i 0).toNat 0 := hlinks i _ _ hgi hgj
                    rw [← ej] at hbd
                    have hlk2 : (tbl (gatesOf ns)).getD (ring.getD ((1 : Int) + (i : Int) - 1).toNat 0).toNat 0 = ring.getD ((1 : Int) + (i : Int)).toNat 0 := by rw [ej, ek]; exact hlk.symm
                    have ht16 := tbl_len (gatesOf ns)
                    k_steps
                    refine Stop.mk ?_
                    refine' item_ints ?qN ?qm hring ?qh0 ?qh1 ?qhf ?_
                    (case qN => k_asm)
                    (case qm => k_mem)
                    (case qh0 => omega)
                    (case qh1 => omega)
                    (case qhf => omega)
                    intro t6
                    k_steps
                    · exact absurd hlk2 (by assumption)
                    · refine Stop.mk ?_
                      exact compEnd_same (by assumption) (by assumption) o8 trivial ⟨rfl, rfl⟩
                  · --keep
                    rintro zs rfl
                    intro D8 h8 tk8 F8 N8 o8
                    k_steps
  )
end Mine
end
-- the claim
theorem PySem.Challenge.cw_xi0021_01_holds : PySem.Challenge.rw_xi0021_01.Holds :=
  Mine.holds
