import PyProof.Rows.All
import Wide.All
import OpenK.AllK
import Wide.FinOn
import PySem.Challenge.RW_xl0013_01
set_option Elab.async false
set_option linter.all false
set_option compiler.extract_closed false
set_option maxRecDepth 100000
set_option maxHeartbeats 8000000
namespace Mine
section
open PySem PySem.W PyProof.Rows
open_top hd for PySem.Challenge.rw_xl0013_01
end
section
open PySem PySem.W PySem.Calls PyProof.Rows
theorem reg : hd.heap_39 = hd.heap_39 ∧ PySem.Challenge.rw_xl0013_01 = PySem.Challenge.rw_xl0013_01 := by
  k_fill
  exact ⟨rfl, rfl⟩
end

section
open PySem PySem.W PySem.Calls PyProof.Rows
noncomputable def heapT (P : Params) : Frag := hd.heap_39 P ++ [(157, X.tableObj #[]), (164, X.tableObj #[])]
noncomputable def hookT : Hook := (kHook heapT [2, 3, 32, 34, 35, 37, 38, 46, 48, 49, 51, 52, 53, 55, 56, 58, 59, 60, 62, 63, 65, 66, 67, 69, 70, 72, 73, 74, 76, 77, 79, 80, 81, 83, 84, 86, 87, 88, 90, 91, 93, 94, 95, 97, 98, 100, 101, 102, 104, 105, 107, 108, 109, 110, 111, 112, 113, 116, 119, 124, 125, 126, 128, 129, 131, 132, 133, 135, 136, 138, 139, 140, 141, 143, 144, 146, 147, 148, 149, 151, 152, 154, 155, 156, 158, 159, 161, 162, 163, 165, 166, 168, 169, 170, 171, 173, 174, 176, 177, 178, 180, 181, 183, 184, 185, 186, 188, 189, 191, 192, 193, 194, 195, 196, 197, 200, 202, 203, 205, 206, 210, 211, 215, 216, 217, 219, 220, 222, 223, 224, 227, 228, 229, 232, 233, 234, 237, 238, 239, 242, 243, 157, 164] (fun _ => by kernel_rfl))
def WalkWith (YP' : World → Heap → Prop) {q : Program} {loose : List Str} {XP : (Str → Option Value) → Heap → Prop} {YP : World → Heap → Prop} {r : RowW} {d : DefRec} {kwd : List (Str × Expr)} {f : Value → List Value → Sem Value} {C : Prop} (_ : WalkO q loose XP YP r d kwd f → C) : Prop :=
  WalkO q loose XP YP' r d kwd f
theorem leftT : LeftO PySem.Challenge.rw_xl0013_01.row.prog hd.view_39 ["_Accumulator", "_twin_re_1", "_twin_re_2"] (fun s => xlAt hd.view_39 [] s && recOk (RowW.records (OpenRow.toRowW PySem.Challenge.rw_xl0013_01.row)) s) (Hook.obs hookT) (Hook.val hookT) 2922 := by
  intro w
  kernel_rfl
theorem hdT (h : WalkWith hookT.says hd) : PySem.Challenge.rw_xl0013_01.Holds := by
  w_on
  o_law
  refine holds_open (q := hd.view_39) (loose := ["_Accumulator", "_twin_re_1", "_twin_re_2"]) (Xt := fun s => xlAt hd.view_39 [] s && recOk (RowW.records (OpenRow.toRowW PySem.Challenge.rw_xl0013_01.row)) s) (XP := XL hd.view_39 []) (Yf := Hook.obs hookT) (Ya := Hook.val hookT) (YP := Hook.says hookT) (N := 2922) leftT (Hook.of hookT) (Hook.keeps hookT) (fun s e => xl_of s (Bool.and_eq_true_iff.mp e).1) XL.keeps (by rfl) (by rfl) (by rfl) (fun s e => recFacts_of (Bool.and_eq_true_iff.mp e).2) (by rfl) (by first | assumption | decide +kernel) (by decide +kernel) ⟨rfl, rfl, rfl, rfl, rfl, by decide +kernel⟩ ?hw h
  case hw => w_witness2
end

section
theorem ex2 {α0 α1 : Type} {P : α0 → α1 → Prop} {R : Prop} (h : ∃ a0, ∃ a1, P a0 a1) (k : ∀ a0 a1, P a0 a1 → R) : R :=
  h.elim fun a0 h => h.elim fun a1 h => k a0 a1 h
theorem xi2 {α0 α1 : Type} {P : α0 → α1 → Prop} (a0 : α0) (a1 : α1) (h : P a0 a1) : ∃ a0, ∃ a1, P a0 a1 := ⟨a0, a1, h⟩
theorem ex3 {α0 α1 α2 : Type} {P : α0 → α1 → α2 → Prop} {R : Prop} (h : ∃ a0, ∃ a1, ∃ a2, P a0 a1 a2) (k : ∀ a0 a1 a2, P a0 a1 a2 → R) : R :=
  h.elim fun a0 h => h.elim fun a1 h => h.elim fun a2 h => k a0 a1 a2 h
theorem xi3 {α0 α1 α2 : Type} {P : α0 → α1 → α2 → Prop} (a0 : α0) (a1 : α1) (a2 : α2) (h : P a0 a1 a2) : ∃ a0, ∃ a1, ∃ a2, P a0 a1 a2 := ⟨a0, a1, a2, h⟩
theorem ex4 {α0 α1 α2 α3 : Type} {P : α0 → α1 → α2 → α3 → Prop} {R : Prop} (h : ∃ a0, ∃ a1, ∃ a2, ∃ a3, P a0 a1 a2 a3) (k : ∀ a0 a1 a2 a3, P a0 a1 a2 a3 → R) : R :=
  h.elim fun a0 h => h.elim fun a1 h => h.elim fun a2 h => h.elim fun a3 h => k a0 a1 a2 a3 h
theorem xi4 {α0 α1 α2 α3 : Type} {P : α0 → α1 → α2 → α3 → Prop} (a0 : α0) (a1 : α1) (a2 : α2) (a3 : α3) (h : P a0 a1 a2 a3) : ∃ a0, ∃ a1, ∃ a2, ∃ a3, P a0 a1 a2 a3 := ⟨a0, a1, a2, a3, h⟩
theorem ex5 {α0 α1 α2 α3 α4 : Type} {P : α0 → α1 → α2 → α3 → α4 → Prop} {R : Prop} (h : ∃ a0, ∃ a1, ∃ a2, ∃ a3, ∃ a4, P a0 a1 a2 a3 a4) (k : ∀ a0 a1 a2 a3 a4, P a0 a1 a2 a3 a4 → R) : R :=
  h.elim fun a0 h => h.elim fun a1 h => h.elim fun a2 h => h.elim fun a3 h => h.elim fun a4 h => k a0 a1 a2 a3 a4 h
theorem xi5 {α0 α1 α2 α3 α4 : Type} {P : α0 → α1 → α2 → α3 → α4 → Prop} (a0 : α0) (a1 : α1) (a2 : α2) (a3 : α3) (a4 : α4) (h : P a0 a1 a2 a3 a4) : ∃ a0, ∃ a1, ∃ a2, ∃ a3, ∃ a4, P a0 a1 a2 a3 a4 := ⟨a0, a1, a2, a3, a4, h⟩
theorem ex6 {α0 α1 α2 α3 α4 α5 : Type} {P : α0 → α1 → α2 → α3 → α4 → α5 → Prop} {R : Prop} (h : ∃ a0, ∃ a1, ∃ a2, ∃ a3, ∃ a4, ∃ a5, P a0 a1 a2 a3 a4 a5) (k : ∀ a0 a1 a2 a3 a4 a5, P a0 a1 a2 a3 a4 a5 → R) : R :=
  h.elim fun a0 h => h.elim fun a1 h => h.elim fun a2 h => h.elim fun a3 h => h.elim fun a4 h => h.elim fun a5 h => k a0 a1 a2 a3 a4 a5 h
theorem xi6 {α0 α1 α2 α3 α4 α5 : Type} {P : α0 → α1 → α2 → α3 → α4 → α5 → Prop} (a0 : α0) (a1 : α1) (a2 : α2) (a3 : α3) (a4 : α4) (a5 : α5) (h : P a0 a1 a2 a3 a4 a5) : ∃ a0, ∃ a1, ∃ a2, ∃ a3, ∃ a4, ∃ a5, P a0 a1 a2 a3 a4 a5 := ⟨a0, a1, a2, a3, a4, a5, h⟩
theorem ex7 {α0 α1 α2 α3 α4 α5 α6 : Type} {P : α0 → α1 → α2 → α3 → α4 → α5 → α6 → Prop} {R : Prop} (h : ∃ a0, ∃ a1, ∃ a2, ∃ a3, ∃ a4, ∃ a5, ∃ a6, P a0 a1 a2 a3 a4 a5 a6) (k : ∀ a0 a1 a2 a3 a4 a5 a6, P a0 a1 a2 a3 a4 a5 a6 → R) : R :=
  h.elim fun a0 h => h.elim fun a1 h => h.elim fun a2 h => h.elim fun a3 h => h.elim fun a4 h => h.elim fun a5 h => h.elim fun a6 h => k a0 a1 a2 a3 a4 a5 a6 h
theorem xi7 {α0 α1 α2 α3 α4 α5 α6 : Type} {P : α0 → α1 → α2 → α3 → α4 → α5 → α6 → Prop} (a0 : α0) (a1 : α1) (a2 : α2) (a3 : α3) (a4 : α4) (a5 : α5) (a6 : α6) (h : P a0 a1 a2 a3 a4 a5 a6) : ∃ a0, ∃ a1, ∃ a2, ∃ a3, ∃ a4, ∃ a5, ∃ a6, P a0 a1 a2 a3 a4 a5 a6 := ⟨a0, a1, a2, a3, a4, a5, a6, h⟩
theorem ex9 {α0 α1 α2 α3 α4 α5 α6 α7 α8 : Type} {P : α0 → α1 → α2 → α3 → α4 → α5 → α6 → α7 → α8 → Prop} {R : Prop} (h : ∃ a0, ∃ a1, ∃ a2, ∃ a3, ∃ a4, ∃ a5, ∃ a6, ∃ a7, ∃ a8, P a0 a1 a2 a3 a4 a5 a6 a7 a8) (k : ∀ a0 a1 a2 a3 a4 a5 a6 a7 a8, P a0 a1 a2 a3 a4 a5 a6 a7 a8 → R) : R :=
  h.elim fun a0 h => h.elim fun a1 h => h.elim fun a2 h => h.elim fun a3 h => h.elim fun a4 h => h.elim fun a5 h => h.elim fun a6 h => h.elim fun a7 h => h.elim fun a8 h => k a0 a1 a2 a3 a4 a5 a6 a7 a8 h
theorem xi9 {α0 α1 α2 α3 α4 α5 α6 α7 α8 : Type} {P : α0 → α1 → α2 → α3 → α4 → α5 → α6 → α7 → α8 → Prop} (a0 : α0) (a1 : α1) (a2 : α2) (a3 : α3) (a4 : α4) (a5 : α5) (a6 : α6) (a7 : α7) (a8 : α8) (h : P a0 a1 a2 a3 a4 a5 a6 a7 a8) : ∃ a0, ∃ a1, ∃ a2, ∃ a3, ∃ a4, ∃ a5, ∃ a6, ∃ a7, ∃ a8, P a0 a1 a2 a3 a4 a5 a6 a7 a8 := ⟨a0, a1, a2, a3, a4, a5, a6, a7, a8, h⟩
theorem an2 {P0 P1 R : Prop} (h : P0 ∧ P1) (k : P0 → P1 → R) : R :=
  k h.1 h.2
theorem an3 {P0 P1 P2 R : Prop} (h : P0 ∧ P1 ∧ P2) (k : P0 → P1 → P2 → R) : R :=
  k h.1 h.2.1 h.2.2
theorem an4 {P0 P1 P2 P3 R : Prop} (h : P0 ∧ P1 ∧ P2 ∧ P3) (k : P0 → P1 → P2 → P3 → R) : R :=
  k h.1 h.2.1 h.2.2.1 h.2.2.2
theorem an5 {P0 P1 P2 P3 P4 R : Prop} (h : P0 ∧ P1 ∧ P2 ∧ P3 ∧ P4) (k : P0 → P1 → P2 → P3 → P4 → R) : R :=
  k h.1 h.2.1 h.2.2.1 h.2.2.2.1 h.2.2.2.2
theorem an6 {P0 P1 P2 P3 P4 P5 R : Prop} (h : P0 ∧ P1 ∧ P2 ∧ P3 ∧ P4 ∧ P5) (k : P0 → P1 → P2 → P3 → P4 → P5 → R) : R :=
  k h.1 h.2.1 h.2.2.1 h.2.2.2.1 h.2.2.2.2.1 h.2.2.2.2.2
theorem an7 {P0 P1 P2 P3 P4 P5 P6 R : Prop} (h : P0 ∧ P1 ∧ P2 ∧ P3 ∧ P4 ∧ P5 ∧ P6) (k : P0 → P1 → P2 → P3 → P4 → P5 → P6 → R) : R :=
  k h.1 h.2.1 h.2.2.1 h.2.2.2.1 h.2.2.2.2.1 h.2.2.2.2.2.1 h.2.2.2.2.2.2
theorem an10 {P0 P1 P2 P3 P4 P5 P6 P7 P8 P9 R : Prop} (h : P0 ∧ P1 ∧ P2 ∧ P3 ∧ P4 ∧ P5 ∧ P6 ∧ P7 ∧ P8 ∧ P9) (k : P0 → P1 → P2 → P3 → P4 → P5 → P6 → P7 → P8 → P9 → R) : R :=
  k h.1 h.2.1 h.2.2.1 h.2.2.2.1 h.2.2.2.2.1 h.2.2.2.2.2.1 h.2.2.2.2.2.2.1 h.2.2.2.2.2.2.2.1 h.2.2.2.2.2.2.2.2.1 h.2.2.2.2.2.2.2.2.2
theorem all_nil {α : Type} {P : α → Prop} : ∀ q ∈ ([] : List α), P q := fun q hq => by cases hq
theorem all_cons {α : Type} {P : α → Prop} {a : α} {l : List α} (h : P a) (t : ∀ q ∈ l, P q) : ∀ q ∈ a :: l, P q := fun q hq => by
  rcases List.mem_cons.mp hq with rfl | hq
  · exact h
  · exact t q hq
theorem sub_s {n i k : Nat} (h : n - i = k + 1) : n - (i + 1) = k := by rw [Nat.sub_succ, h]; rfl
theorem lt_s {n i k : Nat} (h : n - i = k + 1) : i < n := Nat.lt_of_sub_pos (by rw [h]; exact Nat.succ_pos k)
theorem eq_0 {n i : Nat} (h : n - i = 0) (hi : i ≤ n) : i = n := Nat.le_antisymm hi (Nat.le_of_sub_eq_zero h)
theorem snoc_at {α : Type} {ys : List α} {x z : α} {j : Nat} (h : (ys ++ [x])[j]? = some z) : ys[j]? = some z ∨ (j = ys.length ∧ z = x) := by
  rcases Nat.lt_or_ge j ys.length with q | q
  · left; rwa [List.getElem?_append_left q] at h
  · right
    rw [List.getElem?_append_right q] at h
    cases e : j - ys.length with
    | zero => rw [e] at h; exact ⟨Nat.le_antisymm (Nat.le_of_sub_eq_zero e) q, (Option.some.inj h).symm⟩
    | succ k => rw [e] at h; cases h
theorem pm1 (i : Nat) : ((i + 1 : Nat) : Int) - 1 = (i : Int) := Int.add_sub_cancel (i : Int) 1
theorem pm1_nat (i : Nat) : (((i + 1 : Nat) : Int) - 1).toNat = i := by rw [pm1]; rfl
theorem pm1_nn (i : Nat) : 0 ≤ ((i + 1 : Nat) : Int) - 1 := by rw [pm1]; exact Int.natCast_nonneg i
theorem pm1_le {i k : Nat} (h : i ≤ k) : ((i + 1 : Nat) : Int) - 1 ≤ (k : Int) := by rw [pm1]; exact Int.ofNat_le.mpr h
theorem flip_lt {n k i : Nat} (h1 : n - k < i) (h2 : i ≤ n) : n - i < k := Nat.lt_of_not_le fun h => absurd h1 (Nat.not_lt_of_le (Nat.le_sub_of_add_le (by rw [Nat.add_comm]; exact Nat.add_le_of_le_sub h2 h)))
theorem m1_nat (k : Nat) : ((-1 : Int) + (k : Int)).toNat = k - 1 := by rw [Int.add_comm]; exact Int.toNat_sub k 1
theorem max_nat {k l : Nat} (h : k ≤ l) : (max (k : Int) (l : Int)).toNat = l := by rw [Int.max_eq_right (Int.ofNat_le.mpr h)]; rfl
theorem d1_nat (d : Nat) : (1 + (d : Int)).toNat = 1 + d := rfl
theorem d4_nat (d : Nat) : (4 - (d : Int)).toNat = 5 - (1 + d) := (Int.toNat_sub 4 d).trans (Nat.sub_add_eq 5 1 d).symm
theorem d5_nat (d : Nat) : (5 - (d : Int)).toNat = 5 - d := Int.toNat_sub 5 d
theorem sgn_abs {sg : Int} {n k : Nat} (h : sg = 1 ∨ sg = -1) : (sg * ((n : Int) + (k : Int))).natAbs = n + k := by
  rw [Int.natAbs_mul]
  rcases h with rfl | rfl
  · exact Nat.one_mul (n + k)
  · exact Nat.one_mul (n + k)
theorem down7 {i : Nat} (h : i < 8) : (7 : Int) + (i : Int) * -1 = ((7 - i : Nat) : Int) := by
  rw [Int.mul_neg, Int.mul_one, Int.ofNat_sub (Nat.le_of_lt_succ h)]
  rfl
end

section
open PySem PySem.W PySem.Calls PyProof.Rows
noncomputable def Sealed (K : Flow → Shared → Prop) (f : Flow) (s : Shared) : Prop := K f s
noncomputable def SealedB (K : Flow → Shared → Prop) (f : Flow) (s : Shared) : Prop := K f s
noncomputable def Cont (M : Model) (A : Around) (rest : List Stmt) (env : Env) (Q : Flow → Shared → Prop) (E : Value → Shared → Prop) (f : Flow) (s' : Shared) : Prop :=
  match f with
  | .next => wpAny M A (execs rest env) Q E s'
  | f => Q f s'
theorem body_seal {M : Model} {A : Around} {b : List Stmt} {env : Env} {Q : Flow → Shared → Prop} {E : Value → Shared → Prop} {s : Shared}
    (h : ∀ (K : Flow → Shared → Prop) (E' : Value → Shared → Prop), (∀ f s', Q f s' → K f s') → (∀ e s', E e s' → E' e s') → wpAny M A (execs b env) (SealedB K) E' s) :
    wpAny M A (execs b env) Q E s :=
  h Q E (fun _ _ x => x) (fun _ _ x => x)
theorem unsealB {Q K : Flow → Shared → Prop} {f : Flow} {s : Shared} (hB : ∀ f s', Q f s' → K f s') (h : Q f s) : SealedB K f s := hB _ _ h
theorem execs_seal {M : Model} {A : Around} {st : Stmt} {rest : List Stmt} {env : Env} {Q : Flow → Shared → Prop} {E : Value → Shared → Prop} {s : Shared}
    (h : ∀ (K : Flow → Shared → Prop), (∀ f s', Cont M A rest env Q E f s' → K f s') → wpAny M A (exec st env) (Sealed K) E s) :
    wpAny M A (execs (st :: rest) env) Q E s :=
  wpAny_execs_cons (h (Cont M A rest env Q E) (fun _ _ x => x))
theorem unseal_next {M : Model} {A : Around} {rest : List Stmt} {env : Env} {Q K : Flow → Shared → Prop} {E : Value → Shared → Prop} {s : Shared}
    (hK : ∀ f s', Cont M A rest env Q E f s' → K f s') (h : wpAny M A (execs rest env) Q E s) : Sealed K .next s := hK _ _ h
theorem unseal_ret {M : Model} {A : Around} {rest : List Stmt} {env : Env} {Q K : Flow → Shared → Prop} {E : Value → Shared → Prop} {s : Shared} {v : Value}
    (hK : ∀ f s', Cont M A rest env Q E f s' → K f s') (h : Q (.ret v) s) : Sealed K (.ret v) s := hK _ _ h
theorem unseal_brk {M : Model} {A : Around} {rest : List Stmt} {env : Env} {Q K : Flow → Shared → Prop} {E : Value → Shared → Prop} {s : Shared}
    (hK : ∀ f s', Cont M A rest env Q E f s' → K f s') (h : Q .brk s) : Sealed K .brk s := hK _ _ h
theorem unseal_cont {M : Model} {A : Around} {rest : List Stmt} {env : Env} {Q K : Flow → Shared → Prop} {E : Value → Shared → Prop} {s : Shared}
    (hK : ∀ f s', Cont M A rest env Q E f s' → K f s') (h : Q .cont s) : Sealed K .cont s := hK _ _ h
theorem two_parts {M : Model} {A : Around} {st : Stmt} {rest : List Stmt} {env : Env} {Q : Flow → Shared → Prop} {E : Value → Shared → Prop} {s : Shared} {P : Shared → Prop}
    (h2 : ∀ s', P s' → wpAny M A (execs rest env) Q E s')
    (h1 : ∀ (K : Flow → Shared → Prop), (∀ s', P s' → Sealed K .next s') → (∀ s', Q .brk s' → Sealed K .brk s') → wpAny M A (exec st env) (Sealed K) E s) :
    wpAny M A (execs (st :: rest) env) Q E s :=
  execs_seal fun K hK => h1 K (fun s' p => hK _ _ (h2 s' p)) fun s' q => hK _ _ q
theorem seal_env {M : Model} {A : Around} {b : List Stmt} {q : Str} {sc : Scope} {L f : Addr} {c : Value} {cl : List (Str × Addr)} {Q : Flow → Shared → Prop} {E : Value → Shared → Prop} {s : Shared}
    (h : let e := envX q sc L f c cl; wpAny M A (execs b e) Q E s) : wpAny M A (execs b (envX q sc L f c cl)) Q E s := h
theorem seal_envA {M : Model} {A : Around} {b : List Stmt} {q : Str} {sc : Scope} {L f : Addr} {c : Value} {cl : List (Str × Addr)} {Q : Flow → Shared → Prop} {E : Value → Shared → Prop} {s : Shared}
    (h : let e := envX q sc L f c cl; let A' := A.deeper e; wpAny M A' (execs b e) Q E s) : wpAny M (A.deeper (envX q sc L f c cl)) (execs b (envX q sc L f c cl)) Q E s := h
end

section
open PySem PySem.W PySem.Calls PyProof.Rows

theorem ground {s : Shared} {h₀ : Heap} {L : Addr} {m : Str → Option Value} {news : List (Addr × Obj)} {R : Result → Shared → Prop}
    (F : Fr h₀ L s.heap m) (N : News h₀ L s.heap news) :
    h₀.StaysIn (hideAll s.heap (news.map (·.1))) ∧
      ∀ v s', LeaveK h₀ L m (hideAll s.heap (news.map (·.1))) R v s' → R (.ok (.ret v)) s' := by
  have nm : ∀ b o, h₀.get? b = some o → b ∉ news.map (·.1) := fun b o e q => by
    refine Exists.elim (List.mem_map.mp q) fun p hx => an2 hx fun hp zr1 => ?_
    subst zr1
    rw [(N p hp).2.2] at e; cases e
  have st : h₀.StaysIn (hideAll s.heap (news.map (·.1))) := fun b o e => hideAll_get _ (F.keep b o e) (nm b o e)
  refine ex3 F.ns fun oL es ep hx => an4 hx fun hL hLd hLk hLf => ?_
  have nL : L ∉ news.map (·.1) := fun q => by
    refine Exists.elim (List.mem_map.mp q) fun p hx => an2 hx fun hp e => ?_
    exact (N p hp).2.1 e
  have hLg := hideAll_get (news.map (·.1)) hL nL
  refine ⟨st, fun v s' hl => ?_⟩
  refine ex3 hl fun L' m' news' hx => an3 hx fun F' N' k => ?_
  (try clear hl)
  refine k ⟨⟨oL, es, ep, F'.keep L oL hLg, hLd, hLk, hLf⟩, fun b o e => F'.keep b o (st b o e), F.above⟩ fun p hp => ⟨(N' p hp).1, fun q => ?_, ?_⟩
  · have := (N' p hp).2.2; rw [q, hLg] at this; cases this
  · cases q : h₀.get? p.1 with
    | none => rfl
    | some o => have := (N' p hp).2.2; rw [st _ _ q] at this; cases this

theorem enter {prog : Program} {w : World} {A : Around} {s : Shared} {h₀ : Heap} {L : Addr} {m : Str → Option Value} {news : List (Addr × Obj)} {R : Result → Shared → Prop}
    {K : Frag} {p : Program} {loose : List Str} {mg mb : Str → Option Value}
    {name qual : Str} {params : Arguments} {body : List Stmt} {scope : Scope} {cl : List (Str × Addr)} {dV kV doc pm cdv ct oc : Value} {an od : Option Addr} {osl : Array (Option Value)} {f : Addr} {args : Args} {binds : List (Str × Value)}
    (X₀ : K.In h₀) (T : TopRead p loose mg mb h₀) (F : Fr h₀ L s.heap m) (N : News h₀ L s.heap news)
    (hroom : A.depth < recursionLimit)
    (h : ∀ g L' h₁, Fr g L' h₁ (fun y => binds.reverse.lookup y) → News g L' h₁ news → K.In g → TopRead p loose mg mb g → (∀ p ∈ news, p.1 < L') →
      wpAny (model prog w) (A.deeper (envX qual scope L' f cdv cl)) (execs body (envX qual scope L' f cdv cl))
        (fun fl s' => LeaveK h₀ L m g R (match fl with | .ret v => v | _ => .none) s') (fun _ _ => False)
        { s with heap := h₁, toks := s.toks + binds.length })
    (ho : K.lookup f = some ⟨oc, od, .func (fnX name qual params body scope cl dV kV doc pm an cdv ct), osl⟩ := by k_is) (hcd : codeIn K cdv qual = true := by k_is)
    (hbind : BindsTo s (fnX name qual params body scope cl dV kV doc pm an cdv ct) args binds := by first | exact BindsTo.of_eq rfl | exact binds_K (by k_in) rfl (by k_is) rfl rfl rfl) (hloc : ∀ y ∈ binds, scope.names.lookup y.1 = some .local := by exact locs rfl)
    (hcell : ∀ x ∈ scope.names, x.2 ≠ .cell := by decide) (hco : scope.isCoroutine = false := by rfl) (hgen : scope.isGenerator = false := by rfl) (hk : scope.kind = .function := by rfl) :
    codeAny (model prog w) A (.call (.ref f) args) R s := by
  refine an2 (ground (R := R) F N) fun st lv => ?_
  have X : K.In s.heap := X₀.keeps F.keep
  refine codeAny_call_def (fd := fnX name qual params body scope cl dV kV doc pm an cdv ct) (body := body) (binds := binds) hroom (X _ _ ho) rfl (T.nolimit.keeps F.keep) (codeRec_of X hcd) rfl hbind hcell hloc (fun h₁ hns hk₁ => ?_) hco hgen hk
  refine wpAny_mono (h _ s.heap.objs.size h₁ ⟨hns, fun b o e => hk₁ b o (of_hideAll _ e), Nat.le_of_eq (hideAll_size _ _)⟩
    (fun p hp => ⟨hk₁ _ _ (N p hp).1, Nat.ne_of_lt (Heap.lt_size (N p hp).1), hideAll_none _ (List.mem_map_of_mem hp)⟩) (X₀.keeps st) (T.keeps st) (fun p hp => Heap.lt_size (N p hp).1)) (fun fl s' hl => lv _ _ hl) fun _ _ y => y.elim
end

section
open PySem PySem.W PySem.Calls PyProof.Rows

theorem canon_lga : (Manifest.canonical "list.__getattribute__" != "object.__getattribute__") = false := by decide +kernel

section
variable {prog : Program} {w : World} {A : Around} {E : Value → Shared → Prop} {s : Shared} {K : Frag} {x C : Addr} {ox : Obj} {od : Option Obj}

theorem meth_sub {name : Str} {pl : Sem Bool} {Q : Value × List Value → Shared → Prop} {f t : Value} (X : K.In s.heap) (I : InstAt s.heap x ox C od)
    (hga : findIn K (.ref C) "__getattribute__" = some (some (.builtin "list.__getattribute__"))) (hk : findIn K (.ref C) "__getattr__" = some none)
    (hf : findIn K (.ref C) name = some (some f)) (ht : Looks (model prog w) s.heap (typeOf f) t) (hok : (t != .type "function" && t != .type "method_descriptor" && t != .type "wrapper_descriptor") = false)
    (hs : shadowIn od name = some false) (h : Q (f, [.ref x]) s) :
    wpAny (model prog w) A (getMethod (.ref x) name pl) Q E s := by
  unfold getMethod specialOf
  refine wpAny_bind (wpAny_bind (I.type.here ((looks_findIn X hga).here ?_)))
  dsimp only
  rw [canon_lga, if_neg (by decide)]
  refine wpAny_bind (wpAny_bind (I.type.here ((looks_findIn X hk).here ?_)))
  refine wpAny_bind (wpAny_bind (I.type.here ((looks_findIn X hf).here (wpAny_bind (ht.here ?_)))))
  rw [hok, if_neg (by decide)]
  refine wpAny_bind (wpAny_loadPart I.at_ ?_)
  have hd := I.dict
  cases e : ox.dict with
  | none => exact wpAny_bind (wpAny_rule (wpAny_pure h))
  | some dx =>
    cases od with
    | none => rw [e] at hd; exact hd.elim
    | some o =>
      rw [e] at hd
      refine Exists.elim (Option.map_eq_some_iff.mp hs) fun r hx => an2 hx fun a b => ?_
      refine wpAny_bind (wpAny_bind (wpAny_loadPart hd ?_))
      rw [nsLook_of a]
      refine wpAny_pure ?_
      rw [b]
      exact wpAny_bind (wpAny_rule (wpAny_pure h))

theorem check_of {M : Model} {i owner n : String} {self : Value} {rest : List Value} {kw : List (Str × Value)} {Q : Unit → Shared → Prop}
    (hk : builtinKind i = some .slot ∨ builtinKind i = some .method) (hs : splitId i = some (owner, n)) (hi : Looks M s.heap (isInstance self (.type owner)) true) (ha : argsOk i ⟨self :: rest, kw⟩) (q : Q () s) :
    wpAny M A (checkBuiltinCall i ⟨self :: rest, kw⟩) Q E s := by
  rcases hk with hk | hk <;>
  · simp only [checkBuiltinCall, hk, hs]
    refine wpAny_bind (hi.here ?_)
    simp only [Bool.not_true, Bool.false_eq_true, if_false]
    cases hsig : Manifest.signature? i with
    | none => exact wpAny_pure q
    | some sig =>
      simp only [argsOk, hsig] at ha
      have h2 : Bind.checkArgs i sig ⟨self :: rest, kw⟩ = pure () := ha
      show wpAny M A (Bind.checkArgs i sig ⟨self :: rest, kw⟩) Q E s
      rw [h2]; exact wpAny_pure q

theorem call_sub {i owner n : String} {b : Builtin} {self : Value} {rest : List Value} {Q : Value → Shared → Prop}
    (hk : builtinKind i = some .slot ∨ builtinKind i = some .method) (hs : splitId i = some (owner, n)) (hi : Looks (model prog w) s.heap (isInstance self (.type owner)) true)
    (ha : argsOk i ⟨self :: rest, []⟩) (hq : plainId i = true) (hb : entryFor table i = some b)
    (hc : wpAny (model prog w) A.in1 (b ⟨self :: rest, []⟩) (fun fin s' => ∃ v, fin = .done (.ret v) ∧ Q v s') E s) :
    wpAny (model prog w) A (call (.builtin i) (self :: rest)) Q E s := by
  refine wpAny_call (codeAny_call_builtin hq hb (check_of hk hs hi ha (wpAny_mono hc (fun fin s' h' => ?_) fun _ _ h' => h')))
  obtain ⟨v, rfl, hv⟩ := h'; exact hv

theorem inst_sub {M : Model} {T : String} (X : K.In s.heap) (I : InstAt s.heap x ox C od) (hm : mroIn K C (.type T) = some true) : Looks M s.heap (isInstance (.ref x) (.type T)) true :=
  I.type.andThen (looks_mroIn X hm)
end

theorem kind_append : builtinKind "list.append" = some .method := by decide +kernel
theorem split_append : splitId "list.append" = some ("list", "append") := by decide +kernel
theorem type_append : typeOf (.builtin "list.append") = pure (.type "method_descriptor") := by show builtinType _ = _; rw [builtinType_eq_fast]; kernel_rfl

noncomputable def ep (a b : List Value) (n : Nat) : Nat := if b.length == a.length then n else n + 1
theorem mapSeq_at (f : Array Value → Array Value) (c : Value) (d : Option Addr) (xs : Array Value) (n : Nat) (sl : Array (Option Value)) :
    Obj.mapSeq f ⟨c, d, .seq xs n, sl⟩ = ⟨c, d, .seq (f xs) (if (f xs).size == xs.size then n else n + 1), sl⟩ := rfl
theorem mapSeq_to {f : Array Value → Array Value} {c : Value} {d : Option Addr} {a b : List Value} {n : Nat} {sl : Array (Option Value)} (e : f a.toArray = b.toArray) :
    Obj.mapSeq f ⟨c, d, .seq a.toArray n, sl⟩ = ⟨c, d, .seq b.toArray (ep a b n), sl⟩ := by
  rw [mapSeq_at, e]; simp [ep]
noncomputable abbrev accO (items : List Value) (n : Nat) (ad : Addr) : Obj := ⟨.ref 195, some ad, .seq items.toArray n, #[]⟩

section
variable {prog : Program} {w : World} {A : Around} {E : Value → Shared → Prop} {s : Shared} {h₀ : Heap} {L acc ad : Addr} {m : Str → Option Value} {news news' : List (Addr × Obj)} {items : List Value} {n : Nat} {od : Obj}

end
end

section
open PySem PySem.W PySem.Calls PyProof.Rows
noncomputable abbrev tupO (vs : List Value) : Obj := { cls := .type "tuple", data := .seq vs.toArray }
noncomputable abbrev kh (P : Params) (n : Str) : Int := PyData.keyHash P n
noncomputable abbrev ent (P : Params) (n : Str) (t : Tok) (v : Value) : DictEntry := ⟨kh P n, .str n t, v⟩

structure PG where
  page : Addr
  pd : Addr
  acc : Addr
  ad : Addr
  lns : Addr
  maxlen : Int
  cws : Str
  cwl : Int
  sch : Str
  t : Nat → Tok
structure PT where
  a : Addr
  f : Str
  tf : Tok
  s : Str
  ts : Tok
structure Tb where
  arr : Array Value
  ok : TriplesOk arr.toList
structure ST where
  parts : List PT
  ne : Nat
  init : Int
  ti : Tok
  lines : List (Str × Tok)
  le : Nat
  t1 : Tb
  t2 : Tb

noncomputable abbrev txts (l : List (Str × Tok)) : List Value := l.map fun x => Value.str x.1 x.2
noncomputable abbrev its (l : List PT) : List Value := l.map fun x => Value.ref x.a
noncomputable abbrev tup (x : PT) : Addr × Obj := (x.a, tupO [.str x.f x.tf, .str x.s x.ts])
noncomputable abbrev adO (P : Params) (pg : PG) (st : ST) : Obj := dictOf [ent P "_initial_size" (pg.t 0) (.int st.init st.ti)] 1
noncomputable abbrev pdO (P : Params) (pg : PG) : Obj := dictOf [ent P "_maxlen" (pg.t 1) (.int pg.maxlen (pg.t 2)), ent P "_continuation_ws" (pg.t 3) (.str pg.cws (pg.t 4)),
  ent P "_continuation_ws_len" (pg.t 5) (.int pg.cwl (pg.t 6)), ent P "_splitchars" (pg.t 7) (.str pg.sch (pg.t 8)), ent P "_lines" (pg.t 9) (.ref pg.lns), ent P "_current_line" (pg.t 10) (.ref pg.acc)] 6
noncomputable abbrev pageO (pg : PG) : Obj := ⟨.ref 111, some pg.pd, .plain, #[]⟩

noncomputable def PL (P : Params) (pg : PG) (st : ST) : List (Addr × Obj) :=
  (157, X.tableObj st.t1.arr) :: (164, X.tableObj st.t2.arr) :: (pg.acc, accO (its st.parts) st.ne pg.ad) :: (pg.ad, adO P pg st) :: (pg.lns, listOf (txts st.lines).toArray st.le) ::
  (pg.page, pageO pg) :: (pg.pd, pdO P pg) :: st.parts.map tup

noncomputable def muts (pg : PG) : List Addr := [157, 164, pg.acc, pg.ad, pg.lns]
noncomputable def Off (pg : PG) (rest : List (Addr × Obj)) : Prop := ∀ q ∈ rest, q.1 ∉ muts pg

section
variable {P : Params} {pg : PG} {st : ST} {rest : List (Addr × Obj)} {h₀ h : Heap} {L : Addr}

theorem mem_t1 : (157, X.tableObj st.t1.arr) ∈ PL P pg st ++ rest := by simp [PL]
theorem mem_t2 : (164, X.tableObj st.t2.arr) ∈ PL P pg st ++ rest := by simp [PL]
theorem mem_acc : (pg.acc, accO (its st.parts) st.ne pg.ad) ∈ PL P pg st ++ rest := by simp [PL]
theorem mem_ad : (pg.ad, adO P pg st) ∈ PL P pg st ++ rest := by simp [PL]
theorem mem_lns : (pg.lns, listOf (txts st.lines).toArray st.le) ∈ PL P pg st ++ rest := by simp [PL]
theorem mem_page : (pg.page, pageO pg) ∈ PL P pg st ++ rest := by simp [PL]
theorem mem_pd : (pg.pd, pdO P pg) ∈ PL P pg st ++ rest := by simp [PL]
theorem mem_tup {x : PT} (h : x ∈ st.parts) : tup x ∈ PL P pg st ++ rest := by
  have : tup x ∈ st.parts.map tup := List.mem_map_of_mem h
  simp only [PL, List.cons_append, List.mem_cons, List.mem_append]; simp [this]
theorem mem_rest {q : Addr × Obj} (h : q ∈ rest) : q ∈ PL P pg st ++ rest := List.mem_append_right _ h

theorem News.ne {news : List (Addr × Obj)} {a b : Addr} {o o' : Obj} (N : News h₀ L h news) (h1 : (a, o) ∈ news) (h2 : (b, o') ∈ news) (hne : o ≠ o') : a ≠ b := by
  rintro rfl
  exact hne (Option.some.inj ((N _ h1).1.symm.trans (N _ h2).1))

structure Apart (pg : PG) (st : ST) : Prop where
  acc1 : pg.acc ≠ 157
  acc2 : pg.acc ≠ 164
  ad1 : pg.ad ≠ 157
  ad2 : pg.ad ≠ 164
  lns1 : pg.lns ≠ 157
  lns2 : pg.lns ≠ 164
  accad : pg.acc ≠ pg.ad
  acclns : pg.acc ≠ pg.lns
  adlns : pg.ad ≠ pg.lns
  page : pg.page ∉ muts pg
  pd : pg.pd ∉ muts pg
  tups : ∀ x ∈ st.parts, x.a ∉ muts pg

theorem apart (N : News h₀ L h (PL P pg st ++ rest)) : Apart pg st := by
  have n1 := fun {a b o o'} => @News.ne h₀ h L (PL P pg st ++ rest) a b o o' N
  have c1 : pg.acc ≠ 157 := n1 mem_acc mem_t1 (by intro e; first | (have e1 := congrArg Obj.cls e; simp at e1; done) | cases e)
  have c2 : pg.acc ≠ 164 := n1 mem_acc mem_t2 (by intro e; first | (have e1 := congrArg Obj.cls e; simp at e1; done) | cases e)
  have c3 : pg.ad ≠ 157 := n1 mem_ad mem_t1 (by intro e; first | (have e1 := congrArg Obj.cls e; simp at e1; done) | cases e)
  have c4 : pg.ad ≠ 164 := n1 mem_ad mem_t2 (by intro e; first | (have e1 := congrArg Obj.cls e; simp at e1; done) | cases e)
  have c5 : pg.lns ≠ 157 := n1 mem_lns mem_t1 (by intro e; first | (have e1 := congrArg Obj.cls e; simp at e1; done) | cases e)
  have c6 : pg.lns ≠ 164 := n1 mem_lns mem_t2 (by intro e; first | (have e1 := congrArg Obj.cls e; simp at e1; done) | cases e)
  have c7 : pg.acc ≠ pg.ad := n1 mem_acc mem_ad (by intro e; first | (have e1 := congrArg Obj.cls e; simp at e1; done) | cases e)
  have c8 : pg.acc ≠ pg.lns := n1 mem_acc mem_lns (by intro e; first | (have e1 := congrArg Obj.cls e; simp at e1; done) | cases e)
  have c9 : pg.ad ≠ pg.lns := n1 mem_ad mem_lns (by intro e; first | (have e1 := congrArg Obj.cls e; simp at e1; done) | cases e)
  refine ⟨c1, c2, c3, c4, c5, c6, c7, c8, c9, ?_, ?_, fun x hx => ?_⟩
  · have a1 := n1 mem_page mem_t1 (by intro e; first | (have e1 := congrArg Obj.cls e; simp at e1; done) | cases e)
    have a2 := n1 mem_page mem_t2 (by intro e; first | (have e1 := congrArg Obj.cls e; simp at e1; done) | cases e)
    have a3 := n1 mem_page mem_acc (by intro e; first | (have e1 := congrArg Obj.cls e; simp at e1; done) | cases e)
    have a4 := n1 mem_page mem_ad (by intro e; first | (have e1 := congrArg Obj.cls e; simp at e1; done) | cases e)
    have a5 := n1 mem_page mem_lns (by intro e; first | (have e1 := congrArg Obj.cls e; simp at e1; done) | cases e)
    simp [muts, a1, a2, a3, a4, a5]
  · have a1 := n1 mem_pd mem_t1 (by intro e; first | (have e1 := congrArg Obj.cls e; simp at e1; done) | cases e)
    have a2 := n1 mem_pd mem_t2 (by intro e; first | (have e1 := congrArg Obj.cls e; simp at e1; done) | cases e)
    have a3 := n1 mem_pd mem_acc (by intro e; first | (have e1 := congrArg Obj.cls e; simp at e1; done) | cases e)
    have a4 := n1 mem_pd mem_ad (by intro e; have e := congrArg Obj.data e; simp at e)
    have a5 := n1 mem_pd mem_lns (by intro e; first | (have e1 := congrArg Obj.cls e; simp at e1; done) | cases e)
    simp [muts, a1, a2, a3, a4, a5]
  · have m := mem_tup (P := P) (pg := pg) (rest := rest) hx
    have a1 := n1 m mem_t1 (by intro e; first | (have e1 := congrArg Obj.cls e; simp at e1; done) | cases e)
    have a2 := n1 m mem_t2 (by intro e; first | (have e1 := congrArg Obj.cls e; simp at e1; done) | cases e)
    have a3 := n1 m mem_acc (by intro e; first | (have e1 := congrArg Obj.cls e; simp at e1; done) | cases e)
    have a4 := n1 m mem_ad (by intro e; first | (have e1 := congrArg Obj.cls e; simp at e1; done) | cases e)
    have a5 := n1 m mem_lns (by intro e; first | (have e1 := congrArg Obj.cls e; simp at e1; done) | cases e)
    simp [muts, a1, a2, a3, a4, a5]

theorem News.sub {news news' : List (Addr × Obj)} (N : News h₀ L h news) (hs : ∀ q ∈ news', q ∈ news) : News h₀ L h news' := fun q hq => N q (hs q hq)

theorem PL_step {h' : Heap} {d : Addr} {st' : ST} (N : News h₀ L h (PL P pg st ++ rest)) (hr : Off pg rest) (hd : d ∈ muts pg) (hs : Heap.SameBut d h h')
    (o : Obj) (ho : h'.get? d = some o)
    (hm : ∀ q ∈ PL P pg st', (q.1 = d ∧ q.2 = o) ∨ (q.1 ≠ d ∧ q ∈ PL P pg st ++ rest)) : News h₀ L h' (PL P pg st' ++ rest) := by
  have hL : d ≠ L ∧ h₀.get? d = none := by
    simp only [muts, List.mem_cons, List.not_mem_nil, or_false] at hd
    rcases hd with rfl | rfl | rfl | rfl | rfl
    · exact (N _ mem_t1).2
    · exact (N _ mem_t2).2
    · exact (N _ mem_acc).2
    · exact (N _ mem_ad).2
    · exact (N _ mem_lns).2
  intro q hq
  rcases List.mem_append.mp hq with hq | hq
  · rcases hm q hq with ⟨rfl, e⟩ | ⟨hne, hmem⟩
    · exact ⟨e ▸ ho, hL⟩
    · exact ⟨(hs.2 _ hne).trans (N q hmem).1, (N q hmem).2⟩
  · have : q.1 ≠ d := fun e => hr q hq (e ▸ hd)
    exact ⟨(hs.2 _ this).trans (N q (mem_rest hq)).1, (N q (mem_rest hq)).2⟩
end
end

section
open PySem PySem.W PySem.Calls PyProof.Rows
theorem four {t : Nat} (h : t < 4) : t = 0 ∨ t = 1 ∨ t = 2 ∨ t = 3 := (by decide : ∀ t : Fin 4, t.val = 0 ∨ t.val = 1 ∨ t.val = 2 ∨ t.val = 3) ⟨t, h⟩
theorem four' {t : Nat} (h : t < 4) : t = 0 ∨ t = 1 ∨ t = 3 ∨ t = 2 := (by decide : ∀ t : Fin 4, t.val = 0 ∨ t.val = 1 ∨ t.val = 3 ∨ t.val = 2) ⟨t, h⟩
theorem mem_at {α : Type} {l : List α} {a : α} (n : Nat) (h : l[n]? = some a) : a ∈ l := List.mem_of_getElem? h
theorem News.pick {g h : Heap} {L : Addr} {big small : List (Addr × Obj)} (N : News g L h big) (is : List Nat) (e : is.filterMap (fun i => big[i]?) = small) : News g L h small :=
  News.sub N fun q hq => by
    rw [← e] at hq
    refine Exists.elim (List.mem_filterMap.mp hq) fun i hx => an2 hx fun _ hi => ?_
    exact List.mem_of_getElem? hi
theorem cons_of {α : Type} {l : List α} {n : Nat} (h : l.length = n + 1) : ∃ a t, l = a :: t ∧ t.length = n := by
  cases l with
  | nil => exact absurd h.symm (Nat.succ_ne_zero n)
  | cons a t => exact xi2 a t ⟨rfl, Nat.succ.inj h⟩
theorem one_of {α : Type} {l : List α} (h : l.length = 1) : ∃ a, l = [a] := by
  refine ex2 (cons_of h) fun a t hx => an2 hx fun e k => ?_
  exact ⟨a, by rw [e, List.eq_nil_of_length_eq_zero k]⟩
theorem two_of {α : Type} {l : List α} (h : l.length = 2) : ∃ a b, l = [a, b] := by
  refine ex2 (cons_of h) fun a t hx => an2 hx fun e k => ?_
  refine Exists.elim (one_of k) fun b e2 => ?_
  exact xi2 a b (by rw [e, e2])
theorem four_of {α : Type} {l : List α} (h : l.length = 4) : ∃ a b c d, l = [a, b, c, d] := by
  refine ex2 (cons_of h) fun a t hx => an2 hx fun e k => ?_
  refine ex2 (cons_of k) fun b t2 hx => an2 hx fun e2 k2 => ?_
  refine ex2 (two_of k2) fun c d e3 => ?_
  exact xi4 a b c d (by rw [e, e2, e3])
theorem six_of {α : Type} {l : List α} (h : l.length = 6) : ∃ a b c d e f, l = [a, b, c, d, e, f] := by
  refine ex2 (cons_of h) fun a t hx => an2 hx fun e k => ?_
  refine ex2 (cons_of k) fun b t2 hx => an2 hx fun e2 k2 => ?_
  refine ex4 (four_of k2) fun c d x y e3 => ?_
  exact xi6 a b c d x y (by rw [e, e2, e3])
theorem nc_seq {vs : Array Value} {n : Nat} {v : Option Value} : (W.listOf vs n).data ≠ .cell v := fun e => by cases e
theorem nt_seq {vs ws : Array Value} {n : Nat} : (W.listOf vs n).data ≠ (X.tableObj ws).data := fun e => by cases e
end

section
open PySem PySem.W PySem.Calls PyProof.Rows

section
variable {prog : Program} {w : World} {A : Around} {E : Value → Shared → Prop} {s : Shared} {h₀ : Heap} {L : Addr} {m : Str → Option Value} {pg : PG} {st : ST} {rest : List (Addr × Obj)}

theorem instAcc {P : Params} {h : Heap} (N : News h₀ L h (PL P pg st ++ rest)) : W.InstAt h pg.acc (accO (its st.parts) st.ne pg.ad) 195 (some (adO P pg st)) := ⟨(N _ mem_acc).1, rfl, rfl, (N _ mem_ad).1⟩
theorem instPage {P : Params} {h : Heap} (N : News h₀ L h (PL P pg st ++ rest)) : W.InstAt h pg.page (pageO pg) 111 (some (pdO P pg)) := ⟨(N _ mem_page).1, rfl, rfl, (N _ mem_pd).1⟩

theorem Kat {w : World} {h : Heap} (F : Fr h₀ L h m) (X₀ : (hd.heap_39 w.params).In h₀) : (hd.heap_39 w.params).In h := X₀.keeps F.keep

theorem accMeth {name : Str} {f : Addr} {pl : Sem Bool} {Q : Value × List Value → Shared → Prop} (F : Fr h₀ L s.heap m) (X₀ : (hd.heap_39 w.params).In h₀) (N : News h₀ L s.heap (PL w.params pg st ++ rest))
    (hf : findIn (hd.heap_39 w.params) (.ref 195) name = some (some (.ref f))) (ht : isFn (hd.heap_39 w.params) (.ref f) = true) (hs : shadowIn (some (adO w.params pg st)) name = some false)
    (h : Q (.ref f, [.ref pg.acc]) s) : wpAny (model prog w) A (getMethod (.ref pg.acc) name pl) Q E s :=
  meth_sub (C := 195) (t := .type "function") (Kat F X₀) (instAcc N) (by k_is) (by k_is) hf (looks_typeIn (Kat F X₀) (beq_iff_eq.mp ht)) (by rfl) hs h
theorem accMethB {name : Str} {i : String} {pl : Sem Bool} {Q : Value × List Value → Shared → Prop} (F : Fr h₀ L s.heap m) (X₀ : (hd.heap_39 w.params).In h₀) (N : News h₀ L s.heap (PL w.params pg st ++ rest))
    (hf : findIn (hd.heap_39 w.params) (.ref 195) name = some (some (.builtin i))) (ht : typeOf (.builtin i) = pure (.type "method_descriptor")) (hs : shadowIn (some (adO w.params pg st)) name = some false)
    (h : Q (.builtin i, [.ref pg.acc]) s) : wpAny (model prog w) A (getMethod (.ref pg.acc) name pl) Q E s :=
  meth_sub (C := 195) (t := .type "method_descriptor") (Kat F X₀) (instAcc N) (by k_is) (by k_is) hf (Looks.of_pure ht) (by rfl) hs h
theorem pageMeth {name : Str} {f : Addr} {pl : Sem Bool} {Q : Value × List Value → Shared → Prop} (F : Fr h₀ L s.heap m) (X₀ : (hd.heap_39 w.params).In h₀) (N : News h₀ L s.heap (PL w.params pg st ++ rest))
    (hg : plainGet (hd.heap_39 w.params) 111 name = true) (hf : findIn (hd.heap_39 w.params) (.ref 111) name = some (some (.ref f))) (ht : isFn (hd.heap_39 w.params) (.ref f) = true)
    (hl : getL name [ent w.params "_maxlen" (pg.t 1) (.int pg.maxlen (pg.t 2)), ent w.params "_continuation_ws" (pg.t 3) (.str pg.cws (pg.t 4)),
      ent w.params "_continuation_ws_len" (pg.t 5) (.int pg.cwl (pg.t 6)), ent w.params "_splitchars" (pg.t 7) (.str pg.sch (pg.t 8)), ent w.params "_lines" (pg.t 9) (.ref pg.lns), ent w.params "_current_line" (pg.t 10) (.ref pg.acc)] = some none)
    (h : Q (.ref f, [.ref pg.page]) s) : wpAny (model prog w) A (getMethod (.ref pg.page) name pl) Q E s :=
  method_inst F X₀ (instPage N) hg hf ht hl h
theorem pageField {name : Str} {v : Value} {expr : Bool} {Q : Value → Shared → Prop} (F : Fr h₀ L s.heap m) (X₀ : (hd.heap_39 w.params).In h₀) (N : News h₀ L s.heap (PL w.params pg st ++ rest))
    (hg : plainGet (hd.heap_39 w.params) 111 name = true) (ha : findIn (hd.heap_39 w.params) (.ref 111) name = some none)
    (hl : getL name [ent w.params "_maxlen" (pg.t 1) (.int pg.maxlen (pg.t 2)), ent w.params "_continuation_ws" (pg.t 3) (.str pg.cws (pg.t 4)),
      ent w.params "_continuation_ws_len" (pg.t 5) (.int pg.cwl (pg.t 6)), ent w.params "_splitchars" (pg.t 7) (.str pg.sch (pg.t 8)), ent w.params "_lines" (pg.t 9) (.ref pg.lns), ent w.params "_current_line" (pg.t 10) (.ref pg.acc)] = some (some v))
    (hv : handedIn v = true) (h : Q v { s with toks := s.toks + 1 }) : wpAny (model prog w) A (getAttr (.ref pg.page) name expr) Q E s :=
  get_own F X₀ (instPage N) hg (by k_is) ha (by rfl) hl hv h

theorem page_line {expr : Bool} {Q : Value → Shared → Prop} (F : Fr h₀ L s.heap m) (X₀ : (hd.heap_39 w.params).In h₀) (N : News h₀ L s.heap (PL w.params pg st ++ rest))
    (h : Q (.ref pg.acc) { s with toks := s.toks + 1 }) : wpAny (model prog w) A (getAttr (.ref pg.page) "_current_line" expr) Q E s := pageField F X₀ N (by k_is) (by k_is) (by rfl) (by rfl) h
theorem page_lines {expr : Bool} {Q : Value → Shared → Prop} (F : Fr h₀ L s.heap m) (X₀ : (hd.heap_39 w.params).In h₀) (N : News h₀ L s.heap (PL w.params pg st ++ rest))
    (h : Q (.ref pg.lns) { s with toks := s.toks + 1 }) : wpAny (model prog w) A (getAttr (.ref pg.page) "_lines" expr) Q E s := pageField F X₀ N (by k_is) (by k_is) (by rfl) (by rfl) h
theorem page_maxlen {expr : Bool} {Q : Value → Shared → Prop} (F : Fr h₀ L s.heap m) (X₀ : (hd.heap_39 w.params).In h₀) (N : News h₀ L s.heap (PL w.params pg st ++ rest))
    (h : Q (.int pg.maxlen (pg.t 2)) { s with toks := s.toks + 1 }) : wpAny (model prog w) A (getAttr (.ref pg.page) "_maxlen" expr) Q E s := pageField F X₀ N (by k_is) (by k_is) (by rfl) (by rfl) h
theorem page_splitchars {expr : Bool} {Q : Value → Shared → Prop} (F : Fr h₀ L s.heap m) (X₀ : (hd.heap_39 w.params).In h₀) (N : News h₀ L s.heap (PL w.params pg st ++ rest))
    (h : Q (.str pg.sch (pg.t 8)) { s with toks := s.toks + 1 }) : wpAny (model prog w) A (getAttr (.ref pg.page) "_splitchars" expr) Q E s := pageField F X₀ N (by k_is) (by k_is) (by rfl) (by rfl) h
end
end

section
open PySem PySem.W PySem.Calls PyProof.Rows

theorem kind_lga : builtinKind "list.__getattribute__" = some .slot := by decide +kernel
theorem split_lga : splitId "list.__getattribute__" = some ("list", "__getattribute__") := by decide +kernel
theorem bind_lga (self : Value) : bindSpecial (.builtin "list.__getattribute__") self = pure (.builtin "list.__getattribute__", [self]) :=
  (Slot.of (T := "list") (name := "__getattribute__") (owner := "list") (n := "__getattribute__") (by rw [typeLookup_type, builtinLookup_eq_fast]; kernel_rfl) (by decide +kernel) (by decide +kernel) (by decide +kernel)
    (by first | exact .inl (by decide +kernel) | exact .inr (by decide +kernel)) (by rw [isSubtype_type]; kernel_rfl)).bind self
theorem args_lga (a b : Value) : argsOk "list.__getattribute__" ⟨[a, b], []⟩ := by unfold argsOk; kernel_rfl

section
variable {prog : Program} {w : World} {A : Around} {E : Value → Shared → Prop} {s : Shared} {h₀ : Heap} {L : Addr} {m : Str → Option Value} {pg : PG} {st : ST} {rest : List (Addr × Obj)}

theorem acc_get {name : Str} {v : Value} {expr : Bool} {Q : Value → Shared → Prop} (F : Fr h₀ L s.heap m) (X₀ : (hd.heap_39 w.params).In h₀) (N : News h₀ L s.heap (PL w.params pg st ++ rest))
    (hf : findObj (hd.heap_39 w.params) 195 (some (adO w.params pg st)) name = some (.value v)) (hv : handedIn v = true)
    (h : Q v { s with toks := s.toks + 1 }) : wpAny (model prog w) A (getAttr (.ref pg.acc) name expr) Q E s := by
  have X := Kat F X₀
  have I := instAcc N
  obtain ⟨hh, g, d, t, os⟩ := s
  have L0 := I.type (M := model prog w)
  have L1 := looks_findIn (M := model prog w) X (t := .ref 195) (name := "__getattribute__") (r := some (.builtin "list.__getattribute__")) (by k_is)
  have L2 := looks_findIn (M := model prog w) X (t := .ref 195) (name := "__getattr__") (r := none) (by k_is)
  have L3 := looks_find (M := model prog w) X I hf
  have L4 : Looks (model prog w) hh (isInstance (.ref pg.acc) (.type "list")) true := inst_sub X I (by rfl)
  unfold getAttr getAttrBy
  refine wpAny_bind (wpAny_mkText (wpAny_holding (wpAny_bind (L0.at (wpAny_bind (L1.at ?_))))))
  show wpAny _ _ (getAttrByItsOwn _ _ _ _ _ _) _ _ _
  unfold getAttrByItsOwn
  refine wpAny_bind (L2.at ?_)
  refine wpAny_bind (wpAny_attempt (wpAny_holding ?_))
  have e : callGetattribute (.ref pg.acc) (.str name t) (.builtin "list.__getattribute__") expr = boundAndCalled (.builtin "list.__getattribute__") (.ref pg.acc) (.str name t) := by
    unfold callGetattribute; cases expr <;> rfl
  rw [e]
  unfold boundAndCalled
  rw [bind_lga]
  refine wpAny_bind (wpAny_pure ?_)
  refine call_sub (.inl kind_lga) split_lga L4 (args_lga _ _) (by decide +kernel) am_entry_list_getattribute ?_
  unfold Builtin.«object.__getattribute__»
  refine wpAny_bind (wpAny_pure (a := (Value.ref pg.acc, [Value.str name t])) ?_)
  refine wpAny_bind (wpAny_pure (a := name) (wpAny_bind (L0.at (wpAny_bind (L3.at ?_)))))
  refine wpAny_pure ⟨v, rfl, ?_⟩
  show wpAny _ _ (handedOut v) _ _ _
  rw [handedOut_of hv]
  exact wpAny_pure h
theorem acc_size {expr : Bool} {Q : Value → Shared → Prop} (F : Fr h₀ L s.heap m) (X₀ : (hd.heap_39 w.params).In h₀) (N : News h₀ L s.heap (PL w.params pg st ++ rest))
    (h : Q (.int st.init st.ti) { s with toks := s.toks + 1 }) : wpAny (model prog w) A (getAttr (.ref pg.acc) "_initial_size" expr) Q E s :=
  acc_get F X₀ N (findObj_own (attr := none) (by k_is) (by k_is) (by rfl) (by rfl)) rfl h
end
end

section
open PySem PySem.W PySem.Calls PyProof.Rows
open Builtin Builtin.ObjectAttr in
theorem refuse195 (self : Value) : refuseLoop self "__setattr__" [.ref 195, .type "list", .type "object"] = pure () := by rw [refuseLoop_ref]; kernel_rfl

section
variable {prog : Program} {w : World} {A : Around} {E : Value → Shared → Prop} {s : Shared} {h₀ : Heap} {L : Addr} {m : Str → Option Value} {pg : PG} {st : ST} {rest : List (Addr × Obj)}
open Builtin Builtin.ObjectAttr in
theorem set195 {x dx : Addr} {ox : Obj} {name : Str} {v : Value} {es es' : List DictEntry} {n n' : Nat} {Q : Unit → Shared → Prop} (X : (hd.heap_39 w.params).In s.heap) (I : W.InstAt s.heap x ox 195 (some (dictOf es n))) (hdx : ox.dict = some dx)
    (ht : takerIn (hd.heap_39 w.params) 195 name = some none) (hl : (getL name es).isSome = true)
    (e : (putL name (PyData.keyHash w.params name) (.str name (s.toks + 1)) v es, putN name es n) = (es', n')) (hz : es'.length ≤ 1000)
    (h : ∀ h', Heap.SameBut dx s.heap h' → h'.get? dx = some (dictOf es' n') → Q () { s with heap := h', toks := s.toks + 2 }) :
    wpAny (model prog w) A (setAttr (.ref x) name v) Q E s := by
  refine an2 (Prod.mk.inj e) fun e1 e2 => ?_
  refine set_plain X I (by k_is) ?_
  have X1 : (hd.heap_39 w.params).In { s with toks := s.toks + 1 }.heap := X
  have I1 : W.InstAt { s with toks := s.toks + 1 }.heap x ox 195 (some (dictOf es n)) := I
  have SF := PySem.F.store_object
  have hob : ∃ cd, clsIn (hd.heap_39 w.params) 195 = some cd ∧ cd.mro = [.ref 195, .type "list", .type "object"] ∧ cd.hasDict = true := ⟨_, by k_is, rfl, rfl⟩
  refine Exists.elim hob fun cd hx => an2 hx fun hc hm => ?_
  clear hob
  have sub : Looks (model prog w) { s with toks := s.toks + 1 }.heap (isInstance (.ref x) (.type "object")) true := inst_sub X1 I1 (by rfl)
  refine codeAny_call_builtin SF.slot.plain SF.entry (@check_slot (model prog w) _ _ { s with toks := s.toks + 1 } "object.__setattr__" "object" "__setattr__" (.ref x) [.str name s.toks, v] [] _ SF.kind SF.split sub (SF.args (.ref x) (.str name s.toks) v) ?_)
  refine Exists.elim (Option.bind_eq_some_iff.mp ht) fun attr hx => an2 hx fun ha hr => ?_
  have hmr : Looks (model prog w) { s with toks := s.toks + 1 }.heap (mroOf (.ref 195)) cd.mro := (looks_clsIn X1 hc).andThen .now
  have L3 : Looks (model prog w) { s with toks := s.toks + 1 }.heap (storeTaker? attr) none := by
    cases attr with
    | none => exact .now
    | some a =>
      refine Exists.elim (Option.map_eq_some_iff.mp hr) fun b hx => an2 hx fun hb q => ?_
      refine (looks_takesIn X1 hb).andThen ?_
      cases b <;> first | exact .now | cases q
  rw [osa_eq, refuse_eq]
  refine wpAny_bind (wpAny_bind (I1.type.here (wpAny_bind (hmr.here ?_))))
  rw [hm.1, refuse195]
  refine wpAny_pure (wpAny_bind (I1.type.here (wpAny_bind ((looks_findIn X1 ha).here (wpAny_bind (L3.here ?_))))))
  obtain ⟨hx, hcl, hn, hdd⟩ := I1
  obtain ⟨oc, odi, oda, osl⟩ := ox
  dsimp only at hcl hdx hdd
  subst hcl hdx
  dsimp only at hdd
  refine wpAny_bind (wpAny_pure (wpAny_bind (wpAny_bind (wpAny_loadPart hx (wpAny_bind ((looks_clsIn X1 hc).here ?_))))))
  rw [hm.2]
  refine wpAny_pure (a := some dx) (wpAny_bind (wpAny_pure (wpAny_bind ?_)))
  unfold nsSet
  refine wpAny_bind (wpAny_bind (wpAny_askSetting (wpAny_pure (wpAny_bind (wpAny_mkText (wpAny_bind (wpAny_loadPart hdd ?_)))))))
  dsimp only
  have c : (!es.toArray.any (·.key.isStr name) && es.toArray.any (·.refKey)) = false := by
    unfold getL at hl
    rw [← Array.any_toList, ← Array.any_toList]
    split at hl
    · rename_i en he
      rw [List.any_eq_true.mpr ⟨en, List.mem_of_find?_eq_some he, List.find?_some he⟩]; rfl
    · split at hl
      · cases hl
      · rename_i z; rw [Bool.not_eq_true] at z; rw [z, Bool.and_false]
  rw [aRefKeyMayBeTheName_at, c]
  have pe : Obj.putName name (PyData.keyHash w.params name) (.str name (s.toks + 1)) v (dictOf es n) = dictOf es' n' := by rw [putName_dict, e1, e2]
  have D' : (s.heap.update dx (Obj.putName name (PyData.keyHash w.params name) (.str name (s.toks + 1)) v)).get? dx = some (dictOf es' n') := by
    rw [← pe]; exact Heap.get?_update_self _ hdd (by rw [pe]; rfl)
  refine wpAny_updatePart hdd ?_
  refine wpAny_bind (wpAny_lookBehind D' (pastItsLine_dict (by rw [List.size_toArray, sizeLine_eq]; lia)) ?_)
  exact wpAny_pure (h _ (Heap.SameBut.update ..) D')
end
end

section
open PySem PySem.W PySem.Calls PyProof.Rows
structure Room (A : Around) (n : Nat) : Prop where
  handled : A.handled = none
  depth : A.depth + n ≤ 900
  units : A.units + 50 * n ≤ 9000
theorem Room.lt {A : Around} {n : Nat} (r : Room A n) (h : 0 < n) : A.depth < recursionLimit := by
  have := r.depth; show A.depth < 1000; lia
theorem Room.deeper {A : Around} {n : Nat} (r : Room A (n + 1)) (e : Env) : Room (A.deeper e) n :=
  ⟨r.handled, by have := r.depth; simp only [Around.deeper]; lia, by have := r.units; simp only [Around.deeper]; lia⟩
theorem Room.deep {A : Around} {n k : Nat} {e : Env} (r : Room A n) (h : k + 1 ≤ n) : Room (A.deeper e) k :=
  ⟨r.handled, by have := r.depth; simp only [Around.deeper]; lia, by have := r.units; simp only [Around.deeper]; lia⟩
theorem Room.less {A : Around} {n k : Nat} (r : Room A n) (h : k ≤ n) : Room A k := ⟨r.handled, by have := r.depth; lia, by have := r.units; lia⟩

section
variable {prog : Program} {w : World} {A : Around} {E : Value → Shared → Prop} {s : Shared} {h₀ : Heap} {L : Addr} {m : Str → Option Value} {pg : PG} {st : ST} {rest : List (Addr × Obj)} {P : Params}

theorem PL_new {h : Heap} {t : Addr} {o : Obj} (N : News h₀ L h ((t, o) :: (PL P pg st ++ rest))) (l : ∀ p ∈ PL P pg st ++ rest, p.1 < t) (hr : Off pg rest) :
    News h₀ L h (PL P pg st ++ ((t, o) :: rest)) ∧ Off pg ((t, o) :: rest) := by
  refine ⟨News.sub N fun q hq => ?_, fun q hq => ?_⟩
  · rcases List.mem_append.mp hq with hq | hq
    · exact List.mem_cons_of_mem _ (List.mem_append_left _ hq)
    · rcases List.mem_cons.mp hq with rfl | hq
      · exact .head _
      · exact List.mem_cons_of_mem _ (List.mem_append_right _ hq)
  · rcases List.mem_cons.mp hq with rfl | hq
    · have a1 := l _ mem_t1
      have a2 := l _ mem_t2
      have a3 := l _ mem_acc
      have a4 := l _ mem_ad
      have a5 := l _ mem_lns
      simp only [muts, List.mem_cons, List.not_mem_nil, or_false, not_or]
      dsimp only at *
      refine ⟨?_, ?_, ?_, ?_, ?_⟩ <;> exact Nat.ne_of_gt (by assumption)
    · exact hr q hq

theorem PL_change {h h' : Heap} {d : Addr} {st' : ST} (F : Fr h₀ L h m) (N : News h₀ L h (PL P pg st ++ rest)) (hr : Off pg rest) (hd : d ∈ muts pg) (hs : Heap.SameBut d h h')
    (o : Obj) (ho : h'.get? d = some o) (hm : ∀ q ∈ PL P pg st', (q.1 = d ∧ q.2 = o) ∨ (q.1 ≠ d ∧ q ∈ PL P pg st ++ rest)) : Fr h₀ L h' m ∧ News h₀ L h' (PL P pg st' ++ rest) := by
  refine ⟨?_, PL_step N hr hd hs o ho hm⟩
  have hL : d ≠ L ∧ h₀.get? d = none := by
    simp only [muts, List.mem_cons, List.not_mem_nil, or_false] at hd
    rcases hd with rfl | rfl | rfl | rfl | rfl
    · exact (N _ mem_t1).2
    · exact (N _ mem_t2).2
    · exact (N _ mem_acc).2
    · exact (N _ mem_ad).2
    · exact (N _ mem_lns).2
  exact F.change hs hL.1 hL.2

theorem newTupleP {vs : List Value} {M : Model} {Q : Value → Shared → Prop} (F : Fr h₀ L s.heap m) (N : News h₀ L s.heap (PL P pg st ++ rest)) (hr : Off pg rest)
    (h : ∀ t h', Fr h₀ L h' m → News h₀ L h' (PL P pg st ++ ((t, tupO vs) :: rest)) → Off pg ((t, tupO vs) :: rest) → Q (.ref t) { s with heap := h' }) (hz : vs.length ≤ 100) :
    wpAny M A (newTuple vs) Q E s :=
  newTuple_N F N (fun h' F' N' => let ⟨a, b⟩ := PL_new N' (fun p hp => Heap.lt_size (N p hp).1) hr; h _ h' F' a b) (by rw [sizeLine_eq]; lia)

theorem newListP {vs : List Value} {M : Model} {Q : Value → Shared → Prop} (F : Fr h₀ L s.heap m) (N : News h₀ L s.heap (PL P pg st ++ rest)) (hr : Off pg rest)
    (h : ∀ t h', Fr h₀ L h' m → News h₀ L h' (PL P pg st ++ ((t, listOf vs.toArray 0) :: rest)) → Off pg ((t, listOf vs.toArray 0) :: rest) → Q (.ref t) { s with heap := h' }) (hz : vs.length ≤ 100) :
    wpAny M A (newList vs) Q E s :=
  newList_N F N (fun h' F' N' => let ⟨a, b⟩ := PL_new N' (fun p hp => Heap.lt_size (N p hp).1) hr; h _ h' F' a b) (by rw [sizeLine_eq]; lia)

theorem accCall {i n : String} {b : Builtin} {rest' : List Value} {Q : Value → Shared → Prop} (F : Fr h₀ L s.heap m) (X₀ : (hd.heap_39 w.params).In h₀) (N : News h₀ L s.heap (PL w.params pg st ++ rest))
    (hk : builtinKind i = some .slot ∨ builtinKind i = some .method) (hs : splitId i = some ("list", n)) (ha : argsOk i ⟨.ref pg.acc :: rest', []⟩) (hq : plainId i = true) (hb : entryFor table i = some b)
    (hc : wpAny (model prog w) A.in1 (b ⟨.ref pg.acc :: rest', []⟩) (fun fin s' => ∃ v, fin = .done (.ret v) ∧ Q v s') E s) :
    wpAny (model prog w) A (call (.builtin i) (.ref pg.acc :: rest')) Q E s :=
  call_sub hk hs (inst_sub (T := "list") (Kat F X₀) (instAcc N) (by rfl)) ha hq hb hc

theorem accSeq {f : Array Value → Array Value} {ps : List PT} {Q : Unit → Shared → Prop} (F : Fr h₀ L s.heap m) (N : News h₀ L s.heap (PL w.params pg st ++ rest)) (hr : Off pg rest)
    (hf : f (its st.parts).toArray = (its ps).toArray) (hp : ∀ x ∈ ps, x ∈ st.parts ∨ tup x ∈ rest) (hz : st.parts.length ≤ 1000) (hz' : ps.length ≤ 1000)
    (h : ∀ h' ne', Fr h₀ L h' m → News h₀ L h' (PL w.params pg { st with parts := ps, ne := ne' } ++ rest) → Q () { s with heap := h' }) :
    wpAny (model prog w) A (updateSeq pg.acc f) Q E s := by
  have ap := apart N
  have ho := (N _ mem_acc).1
  have e : Obj.mapSeq f (accO (its st.parts) st.ne pg.ad) = accO (its ps) (ep (its st.parts) (its ps) st.ne) pg.ad := mapSeq_to hf
  have D' : (s.heap.update pg.acc (Obj.mapSeq f)).get? pg.acc = some (accO (its ps) (ep (its st.parts) (its ps) st.ne) pg.ad) := by
    rw [← e]; exact Heap.get?_update_self _ ho (by rw [e]; rfl)
  have hm : ∀ q ∈ PL w.params pg { st with parts := ps, ne := ep (its st.parts) (its ps) st.ne }, (q.1 = pg.acc ∧ q.2 = accO (its ps) (ep (its st.parts) (its ps) st.ne) pg.ad) ∨ (q.1 ≠ pg.acc ∧ q ∈ PL w.params pg st ++ rest) := by
    intro q hq
    simp only [PL, List.mem_cons] at hq
    rcases hq with rfl | rfl | rfl | rfl | rfl | rfl | rfl | hq
    · exact .inr ⟨ap.acc1.symm, mem_t1⟩
    · exact .inr ⟨ap.acc2.symm, mem_t2⟩
    · exact .inl ⟨rfl, rfl⟩
    · exact .inr ⟨ap.accad.symm, mem_ad⟩
    · exact .inr ⟨ap.acclns.symm, mem_lns⟩
    · exact .inr ⟨fun e => ap.page (by simp [muts, show pg.page = pg.acc from e]), mem_page⟩
    · exact .inr ⟨fun e => ap.pd (by simp [muts, show pg.pd = pg.acc from e]), mem_pd⟩
    · refine Exists.elim (List.mem_map.mp hq) fun x hx_q => an2 hx_q fun hx zr1 => ?_
      subst zr1
      rcases hp x hx with hx | hx
      · exact .inr ⟨fun e => ap.tups x hx (by simp [muts, show x.a = pg.acc from e]), mem_tup hx⟩
      · exact .inr ⟨fun e => hr _ hx (by simp [muts, show x.a = pg.acc from e]), mem_rest hx⟩
  refine an2 (PL_change F N hr (by simp [muts]) (Heap.SameBut.update ..) _ D' hm) fun F' N' => ?_
  refine wpAny_updateSeq ho rfl (h _ _ F' N') ?_ ?_
  · simp only [List.size_toArray, List.length_map]; rw [sizeLine_eq]; lia
  · rw [hf]; simp only [List.size_toArray, List.length_map]; rw [sizeLine_eq]; lia

theorem accAppend {x : PT} {Q : Value → Shared → Prop} (F : Fr h₀ L s.heap m) (X₀ : (hd.heap_39 w.params).In h₀) (N : News h₀ L s.heap (PL w.params pg st ++ rest)) (hr : Off pg rest)
    (hx : tup x ∈ rest) (hz : st.parts.length < 1000)
    (h : ∀ h' ne', Fr h₀ L h' m → News h₀ L h' (PL w.params pg { st with parts := st.parts ++ [x], ne := ne' } ++ rest) → Q .none { s with heap := h' }) :
    wpAny (model prog w) A (call (.builtin "list.append") [.ref pg.acc, .ref x.a]) Q E s := by
  refine accCall F X₀ N (.inr kind_append) split_append (args_list_append _ _) (by decide +kernel) entry_list_append ?_
  show wpAny _ _ (updateSeq pg.acc (·.push (.ref x.a)) >>= fun _ => ret .none) _ _ s
  refine wpAny_bind (accSeq F N hr (ps := st.parts ++ [x]) (by simp) (fun y hy => ?_) (by lia) (by simp; lia) fun h' ne' F' N' => wpAny_pure ⟨.none, rfl, h h' ne' F' N'⟩)
  rcases List.mem_append.mp hy with hy | hy
  · exact .inl hy
  · rw [List.mem_singleton.mp hy]; exact .inr hx
end
end

section
open PySem PySem.W PySem.Calls PyProof.Rows

theorem enterS {prog : Program} {w : World} {A : Around} {s : Shared} {h₀ : Heap} {L : Addr} {m : Str → Option Value} {news : List (Addr × Obj)} {R : Result → Shared → Prop}
    {K : Frag} {p : Program} {loose : List Str} {mg mb : Str → Option Value}
    {name qual : Str} {params : Arguments} {body : List Stmt} {scope : Scope} {dV kV doc pm cdv ct oc : Value} {an od : Option Addr} {osl : Array (Option Value)} {f cc : Addr} {args : Args} {binds : List (Str × Value)}
    (X₀ : K.In h₀) (T : TopRead p loose mg mb h₀) (F : Fr h₀ L s.heap m) (N : News h₀ L s.heap news)
    (hroom : A.depth < recursionLimit)
    (h : ∀ g L' h₁, Fr g L' h₁ (fun y => binds.reverse.lookup y) → News g L' h₁ news → K.In g → TopRead p loose mg mb g → (∀ p ∈ news, p.1 < L') →
      _root_.PySem.wpAt (model prog w) (A.deeper (ksEnv qual scope L' f cdv cc)) (.func body (ksEnv qual scope L' f cdv cc)) (execs body (ksEnv qual scope L' f cdv cc))
        (fun fl s' => LeaveK h₀ L m g R (match fl with | .ret v => v | _ => .none) s') (fun _ _ => False)
        { s with heap := h₁, toks := s.toks + binds.length })
    (ho : K.lookup f = some ⟨oc, od, .func (ksFn name qual params body scope dV kV doc pm an cdv ct cc), osl⟩ := by k_is) (hcd : codeIn K cdv qual = true := by k_is)
    (hbind : BindsTo s (ksFn name qual params body scope dV kV doc pm an cdv ct cc) args binds := by exact BindsTo.of_eq rfl) (hloc : ∀ y ∈ binds, scope.names.lookup y.1 = some .local := by exact locs rfl)
    (hcell : ∀ x ∈ scope.names, x.2 ≠ .cell := by decide) (hco : scope.isCoroutine = false := by rfl) (hgen : scope.isGenerator = false := by rfl) (hk : scope.kind = .function := by rfl) :
    codeAny (model prog w) A (.call (.ref f) args) R s := by
  refine an2 (ground (R := R) F N) fun st lv => ?_
  have X : K.In s.heap := X₀.keeps F.keep
  refine ks_codeAny_call_defAt (fd := ksFn name qual params body scope dV kV doc pm an cdv ct cc) (body := body) (binds := binds) hroom (X _ _ ho) rfl (T.nolimit.keeps F.keep) (codeRec_of X hcd) rfl hbind hcell hloc (fun h₁ hns hk₁ => ?_) hco hgen hk
  refine ks_wpAt_mono (h _ s.heap.objs.size h₁ ⟨hns, fun b o e => hk₁ b o (of_hideAll _ e), Nat.le_of_eq (hideAll_size _ _)⟩
    (fun p hp => ⟨hk₁ _ _ (N p hp).1, Nat.ne_of_lt (Heap.lt_size (N p hp).1), hideAll_none _ (List.mem_map_of_mem hp)⟩) (X₀.keeps st) (T.keeps st) (fun p hp => Heap.lt_size (N p hp).1)) (fun fl s' hl => lv _ _ hl) fun _ _ y => y.elim

section
variable {prog : Program} {w : World} {A : Around} {E : Value → Shared → Prop} {s : Shared} {h₀ : Heap} {L : Addr} {m : Str → Option Value} {pg : PG} {st : ST} {rest : List (Addr × Obj)} {news : List (Addr × Obj)} {p : Program} {loose : List Str} {mg mb : Str → Option Value}

theorem superNode {K : Frag} {x C D f cc cda : Addr} {ox : Obj} {odx : Option Obj} {body : List Stmt} {q : Str} {scope : Scope} {p0 p1 : Pos} {attr : Str} {whole : Sem Value} {fd : FuncData} {ar : Arg} {vs : Array Value} {file : Str} {tf : Tok} {oc ccl cl : Value} {od cdd cld : Option Addr} {osl ccs csl : Array (Option Value)} {cdD : ClassData} {Q : Value → Shared → Prop}
    (F : Fr h₀ L s.heap m) (X₀ : K.In h₀) (N : News h₀ L s.heap news) (T : TopRead p loose mg mb h₀)
    (hv : m ar.arg = some (.ref x)) (I : W.InstAt s.heap x ox C odx)
    (h : ∀ so h', Fr h₀ L h' m → News h₀ L h' ((so, ks_superObj D x C) :: news) → (∀ p ∈ news, p.1 < so) → Q (.ref so) { s with heap := h' })
    (hf : K.lookup f = some ⟨oc, od, .func fd, osl⟩) (hp : (fd.params.posonlyargs ++ fd.params.args).head? = some ar)
    (hcode : K.lookup cda = some ⟨ccl, cdd, .fields vs, ccs⟩) (hvs : vs[2]? = some (.str file tf)) (hfile : ((prog.main.file : Str) == file) = true)
    (hcell : K.lookup cc = some ⟨cl, cld, .cell (some (.ref D)), csl⟩) (hD : clsIn K D = some cdD) (hsub : mroIn K C (.ref D) = some true) (hsuper : nsIn K mainGlobals "super" = some none)
    (hat : (attr == ("__class__" : Str)) = false) (hks : scope.names.lookup ("super" : Str) = some .globalImplicit) (hkc : scope.names.lookup ("__class__" : Str) = some .free) (hka : scope.names.lookup ar.arg = some .local) (hk : scope.kind = .function)
    (htop : (prog.main.scope.names.lookup ("super" : Str)).isSome = false) (hboot : bootBuiltins "super" = some (.type "super")) :
    _root_.PySem.wpAt (model prog w) A (.func body (ksEnv q scope L f (.ref cda) cc)) (attributeBase (.Call (.Name "super" p0) [] [] p1) attr (ksEnv q scope L f (.ref cda) cc) whole) Q E s := by
  have X : K.In s.heap := X₀.keeps F.keep
  obtain ⟨hh, g, d, t, os⟩ := s
  have hob : ∃ oD, hh.get? D = some oD ∧ oD.data = .cls cdD := by
    unfold clsIn at hD
    split at hD
    · rename_i c d cd' sl ho
      cases hD
      exact ⟨_, X _ _ ho, rfl⟩
    · cases hD
  refine Exists.elim hob fun oD hx => an2 hx fun hD1 hD2 => ?_
  clear hob
  refine ks_wpAt_super_base (env := ksEnv q scope L f (.ref cda) cc) hks hkc hat rfl (X _ _ hf) rfl hp rfl (X _ _ hcode) rfl hvs hfile htop ?_
  refine ks_loadName_global hk hks (loadGlobal_builtin (env := ksEnv q scope L f (.ref cda) cc) (T.g.keeps F.keep) (mg_none_of X₀ T.g hsuper) (T.b.keeps F.keep) ((T.builtins _ (by decide +kernel)).trans hboot) ⟨rfl, ?_⟩)
  refine wpAny_loadName_free hk hkc rfl ⟨_, X _ _ hcell, rfl⟩ ?_
  refine wpAny_loadName_local hk hka F.ns hv ?_
  refine ks_wpAny_isType_cls hD1 hD2 ⟨rfl, ?_⟩
  refine ks_wpAny_call_super hD1 hD2 I.at_ I.cls (fun c e => ?_) (looks_mroIn X hsub) (fun h' e k => ?_)
  · have := I.no
    unfold notCls at this
    rw [e] at this
    exact Bool.noConfusion this
  · refine an3 (ks_newsPush (s := ⟨hh, g, d, t, os⟩) F N rfl e k) fun F' N' l' => ?_
    exact h _ _ F' N' l'
end
end

section
open PySem PySem.W PySem.Calls PyProof.Rows

noncomputable abbrev boundO (T i : String) (x : Addr) : Obj := { cls := .type T, data := .fields #[.builtin i, .ref x] }

theorem slot_mdget : Slot "method_descriptor" "__get__" "method_descriptor.__get__" :=
  .of (owner := "method_descriptor") (n := "__get__") (by rw [typeLookup_type, builtinLookup_eq_fast]; kernel_rfl) (by decide +kernel) (by decide +kernel) (by decide +kernel)
    (by first | exact .inl (by decide +kernel) | exact .inr (by decide +kernel)) (by rw [isSubtype_type]; kernel_rfl)
theorem slot_wdget : Slot "wrapper_descriptor" "__get__" "wrapper_descriptor.__get__" :=
  .of (owner := "wrapper_descriptor") (n := "__get__") (by rw [typeLookup_type, builtinLookup_eq_fast]; kernel_rfl) (by decide +kernel) (by decide +kernel) (by decide +kernel)
    (by first | exact .inl (by decide +kernel) | exact .inr (by decide +kernel)) (by rw [isSubtype_type]; kernel_rfl)
theorem entry_mdget : entryFor table "method_descriptor.__get__" = some Builtin.«method_descriptor.__get__» := entryFor_of_tree (by kernel_rfl)
theorem entry_wdget : entryFor table "wrapper_descriptor.__get__" = some Builtin.«wrapper_descriptor.__get__» := entryFor_of_tree (by kernel_rfl)
theorem args_mdget (a b c : Value) : argsOk "method_descriptor.__get__" ⟨[a, b, c], []⟩ := by unfold argsOk; kernel_rfl
theorem args_wdget (a b c : Value) : argsOk "wrapper_descriptor.__get__" ⟨[a, b, c], []⟩ := by unfold argsOk; kernel_rfl
theorem type_pop : typeOf (.builtin "list.pop") = pure (.type "method_descriptor") := by show builtinType _ = _; rw [builtinType_eq_fast]; kernel_rfl
theorem type_len : typeOf (.builtin "list.__len__") = pure (.type "wrapper_descriptor") := by show builtinType _ = _; rw [builtinType_eq_fast]; kernel_rfl
theorem type_init : typeOf (.builtin "list.__init__") = pure (.type "wrapper_descriptor") := by show builtinType _ = _; rw [builtinType_eq_fast]; kernel_rfl

theorem own_pop : ".".intercalate ("list.pop".cutAt '.').dropLast = "list" := by decide +kernel
theorem own_len : ".".intercalate ("list.__len__".cutAt '.').dropLast = "list" := by decide +kernel
theorem own_init : ".".intercalate ("list.__init__".cutAt '.').dropLast = "list" := by decide +kernel
theorem told_pop : Manifest.toldItsClass.contains "list.pop" = false := by decide +kernel

section
variable {prog : Program} {w : World} {A : Around} {E : Value → Shared → Prop} {h : Heap} {g : Array GenState} {d : Drawn} {t : Nat} {os : OsState} {x C : Addr} {ox : Obj} {od : Option Obj} {K : Frag}

theorem get_pop {Q : Value → Shared → Prop} (hi : Looks (model prog w) h (isInstance (.ref x) (.type "list")) true)
    (hq : Q (.ref h.objs.size) ⟨h.push (boundO "builtin_function_or_method" "list.pop" x), g, d, t, os⟩) :
    wpAny (model prog w) A (call (.builtin "method_descriptor.__get__") [.builtin "list.pop", .ref x, .ref C]) Q E ⟨h, g, d, t, os⟩ := by
  refine wpAny_call_entry slot_mdget (show typeOf (.builtin "list.pop") = _ from type_pop) entry_mdget ?_ (args_mdget _ _ _)
  rw [← own_pop] at hi
  unfold Builtin.«method_descriptor.__get__»
  refine wpAny_bind (wpAny_pure (a := (Value.builtin "list.pop", some (Value.ref x), some (Value.ref C))) ?_)
  dsimp only
  rw [told_pop]
  simp only [Bool.false_eq_true, if_false]
  refine wpAny_bind (wpAny_bind (wpAny_pure (a := ((((("list.pop".cutAt '.').getLastD "" : String) : Str)), Value.type (".".intercalate ("list.pop".cutAt '.').dropLast))) ?_))
  dsimp only
  refine wpAny_bind (Looks.at hi ?_)
  simp only [Bool.not_true, Bool.false_eq_true, if_false]
  exact wpAny_pure (wpAny_bind (wpAny_newObj_type (wpAny_pure ⟨_, rfl, hq⟩) (by size_fits)))
theorem get_wd {i : String} {Q : Value → Shared → Prop} (ht : typeOf (.builtin i) = pure (.type "wrapper_descriptor")) (hw : ".".intercalate (i.cutAt '.').dropLast = "list") (hi : Looks (model prog w) h (isInstance (.ref x) (.type "list")) true)
    (hq : Q (.ref h.objs.size) ⟨h.push (boundO "method-wrapper" i x), g, d, t, os⟩) :
    wpAny (model prog w) A (call (.builtin "wrapper_descriptor.__get__") [.builtin i, .ref x, .ref C]) Q E ⟨h, g, d, t, os⟩ := by
  refine wpAny_call_entry slot_wdget (show typeOf (.builtin i) = _ from ht) entry_wdget ?_ (args_wdget _ _ _)
  rw [← hw] at hi
  unfold Builtin.«wrapper_descriptor.__get__»
  refine wpAny_bind (wpAny_pure (a := (Value.builtin i, some (Value.ref x), some (Value.ref C))) ?_)
  dsimp only
  refine wpAny_bind (wpAny_bind (wpAny_pure (a := (((((i.cutAt '.').getLastD "" : String) : Str)), Value.type (".".intercalate (i.cutAt '.').dropLast))) ?_))
  dsimp only
  refine wpAny_bind (Looks.at hi ?_)
  simp only [Bool.not_true, Bool.false_eq_true, if_false]
  exact wpAny_pure (wpAny_bind (wpAny_newObj_type (wpAny_pure ⟨_, rfl, hq⟩) (by size_fits)))
end
end

section
open PySem PySem.W PySem.Calls PyProof.Rows
section
variable {prog : Program} {w : World} {A : Around} {E : Value → Shared → Prop} {h : Heap} {g : Array GenState} {d : Drawn} {t : Nat} {os : OsState} {x so C D : Addr} {K : Frag}

theorem super_ga {name : Str} {tk : Tok} {Q : Fin → Shared → Prop} {T i gi bo : String} {l₀ l : List Value}
    (hso : h.get? so = some (ks_superObj D x C)) (hno : Looks (model prog w) h (opaqueClassAbove (.ref C)) none)
    (hC : Looks (model prog w) h (mroOf (.ref C)) l₀) (hl : (l₀.dropWhile (· != .ref D)).drop 1 = l) (X : K.In h)
    (hf : alongIn K name l = some (some (.builtin i))) (hT : typeOf (.builtin i) = pure (.type T)) (hg : typeLookup (.type T) "__get__" = pure (some (.builtin gi))) (hxC : x ≠ C) (hn : (name == ("__class__" : Str)) = false)
    (hget : ∀ {Q' : Value → Shared → Prop}, Q' (.ref h.objs.size) ⟨h.push (boundO bo i x), g, d, t, os⟩ → wpAny (model prog w) A (call (.builtin gi) [.builtin i, .ref x, .ref C]) Q' E ⟨h, g, d, t, os⟩)
    (hq : Q (.done (.ret (.ref h.objs.size))) ⟨h.push (boundO bo i x), g, d, t, os⟩) :
    wpAny (model prog w) A (Builtin.«super.__getattribute__» ⟨[.ref so, .str name tk], []⟩) Q E ⟨h, g, d, t, os⟩ := by
  have hne : (Value.ref x == Value.ref C) = false := by simp [hxC]
  have hdt : (ks_superObj D x C).data = .fields #[.ref D, .ref x, .ref C] := rfl
  unfold Builtin.«super.__getattribute__»
  refine wpAny_bind (wpAny_pure (a := some name) ?_)
  simp only [Option.isNone_some, Bool.false_eq_true, if_false]
  refine wpAny_bind (wpAny_pure (a := some name) ?_)
  simp only [hn, Bool.or_false]
  refine wpAny_bind (wpAny_field hso hdt (show (#[.ref D, .ref x, .ref C] : Array Value)[0]? = some (.ref D) from rfl) ?_)
  refine wpAny_bind (wpAny_field hso hdt (show (#[.ref D, .ref x, .ref C] : Array Value)[1]? = some (.ref x) from rfl) ?_)
  refine wpAny_bind (wpAny_field hso hdt (show (#[.ref D, .ref x, .ref C] : Array Value)[2]? = some (.ref C) from rfl) ?_)
  rw [if_neg (show ¬ ((Value.ref C == Value.none) = true) from Bool.false_ne_true)]
  refine wpAny_bind (ks_wpAny_notOpaque hno ?_)
  rw [if_neg (show ¬ ((Value.ref C == Value.type "module") = true) from Bool.false_ne_true)]
  refine wpAny_bind (Looks.at hC ?_)
  rw [hl]
  refine wpAny_bind (ks_forIn_along X (fun _ _ => rfl) rfl ?_ hf)
  dsimp only
  refine wpAny_bind (wpAny_of_eq hT (wpAny_bind (wpAny_of_eq hg ?_)))
  dsimp only
  refine wpAny_bind (wpAny_holding ?_)
  rw [if_neg (show ¬ ((Value.ref x == Value.ref C) = true) from by rw [hne]; exact Bool.false_ne_true)]
  refine hget ?_
  exact wpAny_bind (wpAny_pure (wpAny_pure (wpAny_pure hq)))

theorem super_method {name : Str} {pl : Sem Bool} {Q : Value × List Value → Shared → Prop} {T i gi bo : String} {l₀ l : List Value}
    (hso : h.get? so = some (ks_superObj D x C)) (hno : Looks (model prog w) h (opaqueClassAbove (.ref C)) none)
    (hC : Looks (model prog w) h (mroOf (.ref C)) l₀) (hl : (l₀.dropWhile (· != .ref D)).drop 1 = l) (X : K.In h)
    (hf : alongIn K name l = some (some (.builtin i))) (hT : typeOf (.builtin i) = pure (.type T)) (hg : typeLookup (.type T) "__get__" = pure (some (.builtin gi))) (hxC : x ≠ C) (hn : (name == ("__class__" : Str)) = false)
    (hget : ∀ {A : Around} {E : Value → Shared → Prop} {t : Nat} {Q' : Value → Shared → Prop}, Q' (.ref h.objs.size) ⟨h.push (boundO bo i x), g, d, t, os⟩ → wpAny (model prog w) A (call (.builtin gi) [.builtin i, .ref x, .ref C]) Q' E ⟨h, g, d, t, os⟩)
    (hq : Q (.ref h.objs.size, []) ⟨h.push (boundO bo i x), g, d, t + 1, os⟩) :
    wpAny (model prog w) A (getMethod (.ref so) name pl) Q E ⟨h, g, d, t, os⟩ := by
  have hlk := F.ks_slot_super_ga.lookup
  have hcan := F.ks_canon_super_ga
  have hT2 : ∀ t', (⟨h, g, d, t', os⟩ : Shared).TypeIs (.ref so) "super" := fun _ => ⟨_, hso, rfl⟩
  unfold getMethod
  refine wpAny_bind (wpAny_specialOf (hT2 _) hlk ?_)
  show wpAny _ _ (if (Manifest.canonical "super.__getattribute__" != "object.__getattribute__") = true then _ else _) _ _ _
  rw [if_pos hcan]
  unfold getAttr getAttrBy
  refine wpAny_bind (wpAny_bind (wpAny_mkText (wpAny_holding (wpAny_bind (wpAny_typeOf (hT2 _) (wpAny_bind (wpAny_of_eq hlk ?_)))))))
  show wpAny _ _ (getAttrByItsOwn (.ref so) (.str name t) (.type "super") (.builtin "super.__getattribute__") true false) _ _ _
  unfold getAttrByItsOwn hookBefore callGetattribute boundAndCalled
  refine wpAny_bind (wpAny_of_eq (show (if onTheHeap (.type "super") then typeLookup (.type "super") "__getattr__" else pure none) = pure none from rfl) ?_)
  refine wpAny_bind (wpAny_attempt (wpAny_holding ?_))
  show wpAny _ _ (bindSpecial (.builtin "super.__getattribute__") (.ref so) >>= _) _ _ _
  refine wpAny_bind (wpAny_of_eq (F.ks_slot_super_ga.bind _) ?_)
  refine wpAny_mono (Q := fun v s' => v = .ref h.objs.size ∧ s' = ⟨h.push (boundO bo i x), g, d, t + 1, os⟩) (E := fun _ _ => False)
    (wpAny_call_entry F.ks_slot_super_ga (hT2 _) F.ks_entry_super_ga (super_ga hso hno hC hl X hf hT hg hxC hn hget ⟨_, rfl, rfl, rfl⟩) (F.ks_gaArgs_super _ _)) (fun v s' hv => ?_) fun _ _ z => z.elim
  refine an2 hv fun zr1 zr2 => ?_
  (try clear hv)
  subst zr1
  subst zr2
  exact wpAny_pure (wpAny_pure hq)
end
end

section
open PySem PySem.W PySem.Calls PyProof.Rows
theorem kind_pop : builtinKind "list.pop" = some .method := by decide +kernel
theorem kind_len : builtinKind "list.__len__" = some .slot := by decide +kernel
theorem kind_init : builtinKind "list.__init__" = some .slot := by decide +kernel
theorem sig_pop (x : Addr) : (match Manifest.signature? "list.pop" with | some sig => Bind.checkArgs "list.pop" { sig with full := s!"{("_Accumulator" : Str).toString}.{Bind.lastOf "list.pop"}" } ⟨[.ref x], []⟩ | none => pure ()) = pure () := by kernel_rfl
theorem sig_len (x : Addr) : argsOk "list.__len__" ⟨[.ref x], []⟩ := by unfold argsOk; kernel_rfl
theorem sig_init (x : Addr) : argsOk "list.__init__" ⟨[.ref x], []⟩ := by unfold argsOk; kernel_rfl
theorem var_pop : Manifest.varargsMethods.contains "list.pop" = false := by decide +kernel

section
variable {prog : Program} {w : World} {A : Around} {E : Value → Shared → Prop} {s : Shared} {x q : Addr} {ox : Obj} {od : Option Obj}

theorem check_pop {Q : Unit → Shared → Prop} (X : (hd.heap_39 w.params).In s.heap) (I : W.InstAt s.heap x ox 195 od) (hq : Q () s) : wpAny (model prog w) A (checkBoundCall "list.pop" ⟨[.ref x], []⟩) Q E s := by
  have k := sig_pop x
  unfold checkBoundCall
  cases hs : Manifest.signature? "list.pop" with
  | none => exact wpAny_pure hq
  | some sig =>
    rw [hs] at k
    dsimp only at k
    simp only [kind_pop]
    rw [if_neg (by decide)]
    have hm : Looks (model prog w) s.heap (isInstance (.ref x) (.type "module")) false := I.type.andThen (looks_mroIn X (by k_is))
    refine wpAny_bind (hm.here ?_)
    rw [var_pop]
    simp only [Bool.or_self, Bool.false_eq_true, if_false]
    have ht : Looks (model prog w) s.heap (isType (.ref x)) false := by
      intro A Q E s' kk qq
      exact ks_wpAny_isType_inst (h := s'.heap) (g := s'.gens) (d := s'.drawn) (t := s'.toks) (os := s'.os) (kk _ _ I.at_) (fun c e => by have := I.no; unfold notCls at this; rw [e] at this; exact Bool.noConfusion this) qq
    refine wpAny_bind (ht.here ?_)
    simp only [Bool.false_eq_true, if_false]
    refine wpAny_bind (I.type.here ?_)
    dsimp only
    have hob : ∃ cd, clsIn (hd.heap_39 w.params) 195 = some cd ∧ cd.qualname = ("_Accumulator" : Str) := ⟨_, by k_is, rfl⟩
    refine Exists.elim hob fun cd hx => an2 hx fun hc hqn => ?_
    clear hob
    refine wpAny_bind ((looks_clsIn X hc).here ?_)
    have hty : Looks (model prog w) s.heap (typeOf (.ref 195)) (.type "type") := looks_typeIn X (by k_is)
    refine wpAny_bind (hty.here ?_)
    rw [if_pos (by decide), hqn, k]
    exact wpAny_pure hq

theorem call_bound {T i : String} {b : Builtin} {Q : Value → Shared → Prop} (ho : s.heap.get? q = some (boundO T i x)) (hT : T = "builtin_function_or_method" ∨ T = "method-wrapper") (hp : plainId i = true) (hb : entryFor table i = some b)
    (hc : ∀ {Q' : Unit → Shared → Prop}, Q' () s → wpAny (model prog w) A.in1 (checkBoundCall i ⟨[.ref x], []⟩) Q' E s)
    (h : wpAny (model prog w) A.in1 (b ⟨[.ref x], []⟩) (fun fin s' => ∃ v, fin = .done (.ret v) ∧ Q v s') E s) :
    wpAny (model prog w) A (call (.ref q) []) Q E s := by
  refine wpAny_call (codeAny_of_tree ?_)
  show wpAny _ A.in1 (callAny (.ref q) ⟨[], []⟩) _ _ s
  unfold callAny
  refine wpAny_bind (wpAny_load ho ?_)
  dsimp only
  rcases hT with rfl | rfl
  · rw [if_pos (by decide)]
    show wpAny _ _ (checkBoundCall i ⟨[.ref x], []⟩ >>= fun _ => again (.builtin i ⟨[.ref x], []⟩)) _ _ _
    refine wpAny_bind (hc (wpAny_pure ⟨plainId_quiet hp _, ?_⟩))
    refine codeAny_of_tree ?_
    show wpAny _ _ (match entryFor table i with | some b => b _ | none => _) _ _ s
    rw [hb, Around.under_plainId hp]
    refine wpAny_mono h (fun fin s' z => ?_) fun _ _ z => z
    obtain ⟨v, rfl, hv⟩ := z; exact hv
  · rw [if_pos (by decide)]
    show wpAny _ _ (checkBoundCall i ⟨[.ref x], []⟩ >>= fun _ => again (.builtin i ⟨[.ref x], []⟩)) _ _ _
    refine wpAny_bind (hc (wpAny_pure ⟨plainId_quiet hp _, ?_⟩))
    refine codeAny_of_tree ?_
    show wpAny _ _ (match entryFor table i with | some b => b _ | none => _) _ _ s
    rw [hb, Around.under_plainId hp]
    refine wpAny_mono h (fun fin s' z => ?_) fun _ _ z => z
    obtain ⟨v, rfl, hv⟩ := z; exact hv

theorem check_slotB {i : String} {Q : Unit → Shared → Prop} (hk : builtinKind i = some .slot) (hs : argsOk i ⟨[.ref x], []⟩) (hq : Q () s) :
    wpAny (model prog w) A (checkBoundCall i ⟨[.ref x], []⟩) Q E s := by
  unfold checkBoundCall
  cases h : Manifest.signature? i with
  | none => exact wpAny_pure hq
  | some sig =>
    simp only [argsOk, h] at hs
    simp only [hk]
    rw [if_pos (by decide), hs]
    exact wpAny_pure hq
end
end

section
open PySem PySem.W PySem.Calls PyProof.Rows

theorem entry_len : entryFor table "list.__len__" = some Builtin.«list.__len__» := entryFor_of_tree (by kernel_rfl)
theorem plain_len : plainId "list.__len__" = true := by decide +kernel
theorem along_len (P : Params) : alongIn (hd.heap_39 P) "__len__" [.type "list", .type "object"] = some (some (.builtin "list.__len__")) := by kernel_rfl
theorem along_pop (P : Params) : alongIn (hd.heap_39 P) "pop" [.type "list", .type "object"] = some (some (.builtin "list.pop")) := by kernel_rfl
theorem along_init (P : Params) : alongIn (hd.heap_39 P) "__init__" [.type "list", .type "object"] = some (some (.builtin "list.__init__")) := by kernel_rfl
structure PO (prog : Program) : Prop where
  file : ((prog.main.file : Str) == ("/claim/cut.py" : Str)) = true
  sup : (prog.main.scope.names.lookup ("super" : Str)).isSome = false

section
variable {prog : Program} {w : World} {A : Around} {E : Value → Shared → Prop} {s : Shared} {h₀ : Heap} {L : Addr} {m : Str → Option Value} {pg : PG} {st : ST} {rest : List (Addr × Obj)} {p : Program} {loose : List Str} {mg mb : Str → Option Value}

theorem PL_drop {P : Params} {h : Heap} {q : Addr × Obj} (N : News h₀ L h (PL P pg st ++ (q :: rest))) : News h₀ L h (PL P pg st ++ rest) :=
  News.sub N fun r hr => by
    rcases List.mem_append.mp hr with hr | hr
    · exact List.mem_append_left _ hr
    · exact List.mem_append_right _ (List.mem_cons_of_mem _ hr)

theorem callWith_bound {T i : String} {q x : Addr} {pos : Pos} {env : Env} {Q : Value → Shared → Prop} (ho : s.heap.get? q = some (boundO T i x)) (hT : T = "builtin_function_or_method" ∨ T = "method-wrapper")
    (h : wpAny (model prog w) A (call (.ref q) []) Q E s) : wpAny (model prog w) A (callWith pos (.ref q) [] (backTo pos (starEach [] env)) []) Q E s := by
  refine callWith_of (P := fun h => h.get? q = some (boundO T i x)) rfl (fun h ho => ⟨.machine, .inr (.inl rfl), ?_⟩) (evalArgs_nil3 ⟨ho, h⟩)
  refine (Looks.ld (part := none) ho).andThen ?_
  rcases hT with rfl | rfl <;> exact .now

theorem wpAny_seqSize {M : Model} {a : Addr} {o : Obj} {xs : Array Value} {n : Nat} {Q : Nat → Shared → Prop} (ho : s.heap.get? a = some o) (hd : o.data = .seq xs n) (h : Q xs.size s) : wpAny M A (seqSize a) Q E s := by
  unfold seqSize
  refine wpAny_bind (wpAny_loadPart ho ?_)
  rw [hd]; exact wpAny_pure h

theorem superAcc {D : Addr} {name : Str} {T gi bo i : String} {pl : Sem Bool} {Q : Value × List Value → Shared → Prop}
    (F : Fr h₀ L s.heap m) (X₀ : (hd.heap_39 w.params).In h₀) (N : News h₀ L s.heap (PL w.params pg st ++ rest)) (hso : (D, ks_superObj 195 pg.acc 195) ∈ rest)
    (hf : alongIn (hd.heap_39 w.params) name [.type "list", .type "object"] = some (some (.builtin i))) (hT : typeOf (.builtin i) = pure (.type T)) (hg : typeLookup (.type T) "__get__" = pure (some (.builtin gi))) (hn : (name == ("__class__" : Str)) = false)
    (hget : ∀ {A : Around} {E : Value → Shared → Prop} {t : Nat} {Q' : Value → Shared → Prop}, Q' (.ref s.heap.objs.size) ⟨s.heap.push (boundO bo i pg.acc), s.gens, s.drawn, t, s.os⟩ → wpAny (model prog w) A (call (.builtin gi) [.builtin i, .ref pg.acc, .ref 195]) Q' E ⟨s.heap, s.gens, s.drawn, t, s.os⟩)
    (hr : Off pg rest)
    (h : ∀ q h', Fr h₀ L h' m → News h₀ L h' (PL w.params pg st ++ ((q, boundO bo i pg.acc) :: rest)) → Off pg ((q, boundO bo i pg.acc) :: rest) → Q (.ref q, []) { s with heap := h', toks := s.toks + 1 }) :
    wpAny (model prog w) A (getMethod (.ref D) name pl) Q E s := by
  have X := Kat F X₀
  have I := instAcc N
  obtain ⟨hh, g, d, t, os⟩ := s
  have hob : ∃ cd, clsIn (hd.heap_39 w.params) 195 = some cd ∧ cd.mro = [.ref 195, .type "list", .type "object"] := ⟨_, by k_is, rfl⟩
  refine Exists.elim hob fun cd hx => an2 hx fun hc hm => ?_
  clear hob
  have hne : pg.acc ≠ 195 := ks_ne X I hc
  have hm2 : Looks (model prog w) hh (mroOf (.ref 195)) [.ref 195, .type "list", .type "object"] := hm ▸ ((looks_clsIn X hc).andThen .now)
  refine super_method (N _ (mem_rest hso)).1 (looks_opaque X (by k_is)) hm2 (by rfl) X hf hT hg hne hn hget ?_
  refine an3 (ks_newsPush (s := ⟨hh, g, d, t, os⟩) (o := boundO bo i pg.acc) F N rfl (Heap.get?_push_at rfl rfl) (fun b o e => Heap.get?_push_of_some _ e)) fun F' N' l' => ?_
  refine an2 (PL_new N' l' hr) fun N2 hr2 => ?_
  exact h _ _ F' N2 hr2

theorem count_C {Q : Value → Shared → Prop} (hP : PO prog)
   (X₀ : (hd.heap_39 w.params).In h₀) (T : TopRead p loose mg mb h₀) (F : Fr h₀ L s.heap m) (N : News h₀ L s.heap (PL w.params pg st ++ rest)) (hr : Off pg rest) (hA : Room A 3)
   (h : ∀ h' t tk, Fr h₀ L h' m → News h₀ L h' (PL w.params pg st ++ rest) → Q (.int st.parts.length t) { s with heap := h', toks := tk }) :
   wpAny (model prog w) A (call (.ref 192) [.ref pg.acc]) Q E s := by
  refine wpAny_call ?_
  refine' enterS (binds := [("self", .ref pg.acc)]) X₀ T F N (hA.lt (by decide)) ?_
  clear X₀ T F N
  intro g L' h' F' N' X' T' l1
  refine ks_wpAt_execs_cons (ks_wpAt_Return_some (ks_wpAt_MethodCall ?_))
  refine' superNode (x := pg.acc) F' X' N' T' ?hv (instAcc N') ?_ ?hf ?hp ?hcode ?hvs hP.file ?hcell ?hD ?hsub ?hsuper ?hat ?c1 ?c2 ?c3 ?c4 hP.sup ?hboot
  case hf => k_is
  case hp => exact rfl
  case hv => exact rfl
  case hcode => k_is
  case hvs => exact rfl
  case c1 => exact rfl
  case c2 => exact rfl
  case c3 => exact rfl
  case c4 => exact rfl
  case hcell => k_is
  case hD => k_is
  case hsub => k_is
  case hsuper => k_is
  case hat => rfl
  case hboot => boot_by_name
  intro so h1 F1 N1 l2
  refine an2 (PL_new N1 l2 hr) fun N2 hr2 => ?_
  clear F' N' N1
  refine superAcc F1 X' N2 (.head _) (T := "wrapper_descriptor") (gi := "wrapper_descriptor.__get__") (bo := "method-wrapper") (i := "list.__len__") (along_len _) type_len slot_wdget.lookup (by rfl) (fun hq => get_wd type_len own_len (inst_sub (T := "list") (Kat F1 X') (instAcc N2) (by rfl)) hq) hr2 ?_
  intro q h2 F2 N3 hr3
  refine callWith_bound (N3 _ (mem_rest (.head _))).1 (.inr rfl) ?_
  refine call_bound (b := Builtin.«list.__len__») (N3 _ (mem_rest (.head _))).1 (.inr rfl) plain_len entry_len (fun hq => check_slotB (i := "list.__len__") (x := pg.acc) kind_len (sig_len pg.acc) hq) ?_
  show wpAny _ _ (seqSize pg.acc >>= fun n => retInt n) _ _ _
  refine wpAny_bind (wpAny_seqSize (N3 _ mem_acc).1 rfl ?_)
  refine wpAny_bind (wpAny_mkInt (wpAny_pure ⟨_, rfl, ?_⟩))
  refine leaveK_ F2 (PL_drop (PL_drop N3)) fun F3 N4 => ?_
  have e : ((its st.parts).toArray.size : Int) = (st.parts.length : Int) := by simp
  rw [e]
  exact h _ _ _ F3 N4
end
end

section
open PySem PySem.W PySem.Calls PyProof.Rows
theorem kind_liter : builtinKind "list.__iter__" = some .slot := by decide +kernel
theorem split_liter : splitId "list.__iter__" = some ("list", "__iter__") := by decide +kernel
noncomputable def HasSeq (h : Heap) (a : Addr) (items : Array Value) : Prop := ∃ o n, h.get? a = some o ∧ o.data = .seq items n
section
variable {prog : Program} {w : World} {A : Around} {E : Value → Shared → Prop} {s : Shared} {h₀ : Heap} {L : Addr} {m : Str → Option Value} {pg : PG} {st : ST} {rest : List (Addr × Obj)}
theorem acc_iter {Q : Value → Shared → Prop} (F : Fr h₀ L s.heap m) (X₀ : (hd.heap_39 w.params).In h₀) (N : News h₀ L s.heap (PL w.params pg st ++ rest))
    (hQ : Q (.ref s.heap.objs.size) { s with heap := s.heap.push { cls := .type "list_iterator", data := .fields #[.ref pg.acc, .int 0 0] } }) :
    wpAny (model prog w) A (pyIter (.ref pg.acc)) Q E s := by
  have X := Kat F X₀
  have I := instAcc N
  have L0 := I.type (M := model prog w)
  have L1 := looks_findIn (M := model prog w) X (t := .ref 195) (name := "__iter__") (r := some (.builtin "list.__iter__")) (by k_is)
  have hb : bindSpecial (.builtin "list.__iter__") (.ref pg.acc) = pure (.builtin "list.__iter__", [.ref pg.acc]) := slot_list_iter.bind _
  unfold pyIter specialOf
  refine wpAny_bind (wpAny_bind (L0.here (L1.here ?_)))
  show wpAny _ _ (callSpecialIfBoundUnlessNone? (.ref pg.acc) "__iter__" _ >>= _) _ _ _
  have fin : ∀ (refuse : Sem Value), wpAny (model prog w) A (if (Value.builtin "list.__iter__" == Value.none) = true then (refuse >>= fun v => pure (some v)) else (call (.builtin "list.__iter__") [.ref pg.acc] >>= fun v => pure (some v)))
      (fun (r : Option Value) (s' : Shared) => r = some (.ref s.heap.objs.size) ∧ s' = { s with heap := s.heap.push { cls := .type "list_iterator", data := .fields #[.ref pg.acc, .int 0 0] } }) E s := fun refuse => by
    rw [if_neg (by decide)]
    refine wpAny_bind (call_sub (.inl kind_liter) split_liter (inst_sub (T := "list") X I (by rfl)) (args_list_iter _) (by decide +kernel) entry_list_iter ?_)
    show wpAny _ _ (do ret (← newFields "list_iterator" [.ref pg.acc, rawInt 0])) _ _ s
    exact wpAny_bind (wpAny_newObj_type (wpAny_pure ⟨_, rfl, wpAny_pure ⟨rfl, rfl⟩⟩))
  unfold callSpecialIfBoundUnlessNone? bindSpecialIfBound? specialOf
  have fin2 : ∀ (r : Option Value) (s' : Shared), (r = some (.ref s.heap.objs.size) ∧ s' = { s with heap := s.heap.push { cls := .type "list_iterator", data := .fields #[.ref pg.acc, .int 0 0] } }) →
      wpAny (model prog w) A (do
        let it ← specialOf (Value.ref s.heap.objs.size) "__next__"
        match it with
        | none => (do rule "iter.non-iterator"; raiseError "TypeError" s!"iter() returned non-iterator of type '{← typeNameOf (Value.ref s.heap.objs.size)}'")
        | some _ => pure (Value.ref s.heap.objs.size)) Q E s' := fun r s' ⟨_, h2⟩ => by
    subst h2
    exact wpAny_bind (wpAny_specialOf (T := "list_iterator") ⟨_, Heap.get?_push_size _ rfl, rfl⟩ slot_listiter_next.lookup (wpAny_pure hQ))
  refine wpAny_bind (wpAny_holding (wpAny_bind (wpAny_bind (wpAny_bind (L0.here (L1.here ?_))))))
  dsimp only
  rw [hb]
  refine wpAny_bind (wpAny_askSetting (wpAny_ite ?_))
  split
  · refine wpAny_bind (wpAny_pure (wpAny_pure ?_))
    refine wpAny_mono (fin _) (fun r s' h' => ?_) fun _ _ h' => h'
    have h2 := fin2 r s' h'
    refine an2 h' fun zr2 _ => ?_
    (try clear h')
    subst zr2
    exact h2
  · refine wpAny_tryCatch (wpAny_bind (wpAny_pure (wpAny_pure ?_)))
    refine wpAny_mono (fin _) (fun r s' h' => ?_) fun _ _ h' => h'
    have h2 := fin2 r s' h'
    refine an2 h' fun zr1 _ => ?_
    (try clear h')
    subst zr1
    exact h2

theorem next_item {it l : Addr} {i : Nat} {items} {x : Value} {Q : Option Value → Shared → Prop} (hit : s.heap.IsListIter it l i)
    (hl : HasSeq s.heap l items) (hx : items[i]? = some x)
    (hQ : ∀ h', h'.IsListIter it l (i + 1) → Heap.SameBut it s.heap h' → Q (some x) { s with heap := h' }) :
    wpAny (model prog w) A (pyNext (.ref it)) Q E s := by
  refine Exists.elim (id hit) fun o hx_q => an3 hx_q fun ho hc hd => ?_
  refine ex2 hl fun ol nl hx_q => an2 hx_q fun hol hdl => ?_
  (try clear hl)
  unfold pyNext
  refine wpAny_bind (wpAny_attempt (wpAny_callSpecial?_slot (name := Str.ofString "__next__") hit.typeIs slot_listiter_next
    (wpAny_call_entry slot_listiter_next hit.typeIs entry_listiter_next ?_ (args_listiter_next _))))
  show wpAny _ _ (field (.ref it) 0 >>= _) _ _ s
  refine wpAny_bind (wpAny_field ho hd (x := .ref l) rfl ?_)
  show wpAny _ _ (if (Value.ref l == Value.none) = true then _ else _) _ _ s
  rw [if_neg (show ¬ ((Value.ref l == Value.none) = true) from Bool.false_ne_true)]
  show wpAny _ _ (field (.ref it) 1 >>= _) _ _ s
  refine wpAny_bind (wpAny_field ho hd (x := .int i 0) rfl ?_)
  show wpAny _ _ (seqItems? (.ref l) >>= _) _ _ s
  refine wpAny_bind (wpAny_seqItems hol hdl ?_)
  simp only [Int.toNat_natCast, hx]
  refine wpAny_bind (wpAny_setField ho hd (by simp) (wpAny_pure ⟨x, rfl, wpAny_pure (hQ _ ?_ (Heap.SameBut.update ..))⟩))
  exact ⟨_, Heap.get?_update_self _ ho (Obj.isFreed_of_fields (Obj.data_mapFields hd _)), (Obj.cls_mapFields ..).trans hc, by
    rw [Obj.data_mapFields hd]; simp -iota [rawInt]⟩

theorem next_end {it l : Addr} {i : Nat} {items} {Q : Option Value → Shared → Prop} (hh : A.handled = none)
    (hit : s.heap.IsListIter it l i) (hl : HasSeq s.heap l items) (hx : items[i]? = none)
    (hQ : ∀ h', Heap.ExtBut it s.heap h' → Q none { s with heap := h' }) : wpAny (model prog w) A (pyNext (.ref it)) Q E s := by
  refine Exists.elim (id hit) fun o hx_q => an3 hx_q fun ho hc hd => ?_
  refine ex2 hl fun ol nl hx_q => an2 hx_q fun hol hdl => ?_
  (try clear hl)
  unfold pyNext
  refine wpAny_bind (wpAny_attempt (wpAny_callSpecial?_slot (name := Str.ofString "__next__") hit.typeIs slot_listiter_next
    (wpAny_call_entry slot_listiter_next hit.typeIs entry_listiter_next ?_ (args_listiter_next _))))
  show wpAny _ _ (field (.ref it) 0 >>= _) _ _ s
  refine wpAny_bind (wpAny_field ho hd (x := .ref l) rfl ?_)
  show wpAny _ _ (if (Value.ref l == Value.none) = true then _ else _) _ _ s
  rw [if_neg (show ¬ ((Value.ref l == Value.none) = true) from Bool.false_ne_true)]
  show wpAny _ _ (field (.ref it) 1 >>= _) _ _ s
  refine wpAny_bind (wpAny_field ho hd (x := .int i 0) rfl ?_)
  show wpAny _ _ (seqItems? (.ref l) >>= _) _ _ s
  refine wpAny_bind (wpAny_seqItems hol hdl ?_)
  simp only [Int.toNat_natCast, hx]
  refine wpAny_bind (wpAny_rule (wpAny_bind (wpAny_setField ho hd (by simp) ?_)))
  show wpAny _ _ (newExc (.type "StopIteration") [] >>= _) _ _ _
  refine wpAny_bind ?_
  simp -iota only [newExc, newTuple]
  refine wpAny_bind (wpAny_newObj_type ?_ (by size_fits))
  refine wpAny_bind (m := firstArgMember _ _) (wpAny_of_eq (a := Value.none) (by first | rfl | (simp -iota only [firstArgMember]; rfl)) ?_)
  refine wpAny_newObj_type ?_ (by size_fits)
  simp -iota only [raiseNew]
  refine wpAny_bind (wpAny_handled ?_)
  rw [show A.in1.handled = none from hh]
  refine wpAny_bind (wpAny_pure (wpAny_throw ?_))
  refine wpAny_bind (wpAny_isInstance (T := "StopIteration") (b := true) ⟨_, Heap.get?_push_size _ rfl, rfl⟩ isSubtype_stop ?_)
  exact wpAny_pure (hQ _ (((Heap.SameBut.update ..).extBut.push _).push _))

theorem HasSeq.at {h h' : Heap} {a : Addr} {items : Array Value} (x : HasSeq h a items) (hk : ∀ o, h.get? a = some o → h'.get? a = some o) : HasSeq h' a items := let ⟨o, n, e, d⟩ := x; ⟨o, n, hk o e, d⟩

theorem walksAcc (hh : A.handled = none) (I ax : Addr) (hne : ax ≠ I) (items : Array Value) (Ts : Nat → Addr) (vals : Nat → Array Value)
    (hit : ∀ j, j < items.size → items[j]? = some (.ref (Ts j))) (hTI : ∀ j, j < items.size → Ts j ≠ I) :
    WalksU prog w A I (I :: ax :: (List.range items.size).map Ts) [I] items.size (fun j v => v = vals j)
      (fun j h => h.IsListIter I ax j ∧ HasSeq h ax items ∧ ∀ k, k < items.size → h.IsTuple (Ts k) (vals k))
      (fun j T h => (j < items.size ∧ T = Ts j) ∧ h.IsListIter I ax (j + 1) ∧ HasSeq h ax items ∧ ∀ k, k < items.size → h.IsTuple (Ts k) (vals k)) where
  sub := fun b hb => by simp -iota at hb; simp -iota [hb]
  frame := fun _ _ _ st hk => ⟨st.1.at fun o e => hk I (by simp -iota) o e, st.2.1.at fun o e => hk ax (by simp -iota) o e,
    fun k hk' => (st.2.2 k hk').at fun o e => hk (Ts k) (List.mem_cons_of_mem _ (List.mem_cons_of_mem _ (List.mem_map.mpr ⟨k, List.mem_range.mpr hk', rfl⟩))) o e⟩
  item := fun i s Q E hi st hQ => by
    refine next_item st.1 st.2.1 (x := .ref (Ts i)) (hit i hi) fun h' hit' hs' => ?_
    have tup : ∀ k, k < items.size → h'.IsTuple (Ts k) (vals k) := fun k hk' => (st.2.2 k hk').extBut hs'.extBut (hTI k hk')
    exact hQ (Ts i) (vals i) h' s.toks rfl (tup i hi) ⟨⟨hi, rfl⟩, hit', st.2.1.at fun o e => hs'.extBut _ o hne e, tup⟩ fun b o hb e => hs'.extBut b o (fun h => hb (by simp -iota [h])) e
  go := fun _ _ _ _ _ s Q _ hm hQ => wpAny_letOwnedTupleGo_listiter hm.2.1 (hQ s.heap hm.2 fun _ _ _ e => e)
  apart := fun j T _ hm hmem => by
    rcases List.mem_cons.mp hmem with e | e
    · exact hTI j hm.1.1 (hm.1.2 ▸ e)
    · cases e
  done := fun s Q E st hQ => next_end hh st.1 st.2.1 (by simp -iota) fun h' he' => hQ h' s.toks fun b o hb e => he' b o (fun h => hb (by simp -iota [h])) e
  self := fun _ _ _ _ st hQ => wpAny_pyIter_listiter st.1 hQ
end
end

section
open PySem PySem.W PySem.Calls PyProof.Rows
theorem passing_all (n : Nat) : passing (fun _ => true) n 0 = List.range n := by unfold passing; simp
noncomputable def CodeAt (K : Frag) (c P : Addr) : Prop :=
  ∃ o vs file tf flags tg inF text tt, K.lookup c = some o ∧ o.cls = .type "code" ∧ o.data = .fields vs ∧ vs[11]? = some (.ref P) ∧ vs.getD 11 .none = .ref P ∧ vs.getD 18 .none = .str file tf ∧
    vs.getD 7 .none = .int flags tg ∧ vs.getD 9 .none = .bool inF ∧ vs.getD 10 .none = .int text tt ∧ c ≠ P
theorem code161 (P : Params) : CodeAt (hd.heap_39 P) 161 157 := ⟨_, _, _, _, _, _, _, _, _, by k_is, rfl, rfl, rfl, rfl, rfl, rfl, rfl, rfl, by decide⟩
theorem code168 (P : Params) : CodeAt (hd.heap_39 P) 168 164 := ⟨_, _, _, _, _, _, _, _, _, by k_is, rfl, rfl, rfl, rfl, rfl, rfl, rfl, rfl, by decide⟩
theorem CodeAt.code {K : Frag} {h : Heap} {c P : Addr} {t : Tb} (C : CodeAt K c P) (Xk : K.In h) (ho : h.get? P = some (X.tableObj t.arr)) : h.IsCode c P t.arr ∧ h.TableAt c P t.arr := by
  refine ex9 C fun o vs file tf flags tg inF text tt hx => an10 hx fun a1 a2 a3 a4 a5 a6 a7 a8 a9 a10 => ?_
  (try clear C)
  exact ⟨⟨o, vs, file, tf, flags, tg, inF, text, tt, _, Xk _ _ a1, a3, a5, a6, a7, a8, a9, ho, rfl, t.ok, a10⟩, ⟨⟨o, vs, Xk _ _ a1, a2, a3, a4⟩, ho⟩⟩
section
variable {M : Model} {A : Around} {E : Value → Shared → Prop} {s : Shared}
theorem genexprCodeT {K : Frag} {env : Env} {c P : Addr} {t : Tb} {pos : Pos} {qualname : Str} {scope : Scope} {Q : Value → Shared → Prop} (hc : env.code = .ref c) (C : CodeAt K c P) (Xk : K.In s.heap) (ho : s.heap.get? P = some (X.tableObj t.arr))
    (hQ : ∀ code h' tk (t' : Tb), Heap.ExtBut P s.heap h' → s.heap.objs.size ≤ h'.objs.size → h'.get? P = some (X.tableObj t'.arr) → Q code { s with heap := h', toks := tk }) :
    wpAny M A (genexprCode env pos qualname scope) Q E s := by
  refine an2 (C.code Xk ho) fun a b => ?_
  cases hnf : codeAmong pos t.arr.toList with
  | some cv => exact wpAny_genexprCode_hit hc a hnf (hQ _ _ s.toks t (Heap.ExtBut.refl _ _) (Nat.le_refl _) ho)
  | none =>
    refine wpAny_genexprCodeX hc a b hnf fun c' h' tk hx hge hlt _ _ ht _ => ?_
    refine hQ _ _ tk ⟨t.arr ++ #[rawInt pos.line, rawInt pos.col, .ref c'], ?_⟩ hx (Nat.le_of_lt (Nat.lt_of_le_of_lt hge hlt)) ht.2
    simp only [Array.toList_append]
    exact TriplesOk_snoc _ _ _ _ t.ok
end

section
variable {prog : Program} {w : World} {A : Around} {E : Value → Shared → Prop} {s : Shared} {h₀ : Heap} {L : Addr} {m : Str → Option Value} {pg : PG} {st : ST} {rest : List (Addr × Obj)} {p : Program} {loose : List Str} {mg mb : Str → Option Value}

noncomputable def BM (h : Heap) (mg : Str → Option Value) : Prop := ∃ bm ob, BMod h mainGlobals mg bm ob
theorem BM.keeps {h h' : Heap} (x : BM h mg) (hk : ∀ b o, h.get? b = some o → h'.get? b = some o) : BM h' mg := let ⟨bm, ob, y⟩ := x; ⟨bm, ob, y.keeps hk⟩
noncomputable def GenN (prog : Program) (w : World) (A : Around) (B a : Addr) (n : Nat) (F : Nat → Value → Prop) (s : Shared) : Prop :=
  ∃ fp wr g St, WalksS prog w A.in4 a fp wr (GenOnlyQ g) n F St ∧ St 0 s ∧ (∀ i s', St i s' → s'.TypeIs (.ref a) "generator") ∧ a ∈ fp ∧ (∀ b ∈ fp, b < s.heap.objs.size) ∧ ∀ b ∈ wr, B ≤ b

theorem walks_map {I : Addr} {fp wr : List Addr} {G : Array GenState → Array GenState → Prop} {n : Nat} {P P' : Nat → Value → Prop} {St : Nat → Shared → Prop} (W : WalksS prog w A I fp wr G n P St)
    (hp : ∀ i v, i < n → P i v → P' i v) : WalksS prog w A I fp wr G n P' St where
  sub := W.sub
  grefl := W.grefl
  gtrans := W.gtrans
  frame := W.frame
  item := fun i s Q E hi hst hQ => W.item i s Q E hi hst fun v s' hv => hQ v s' (hp i v hi hv)
  done := W.done
  self := W.self

noncomputable abbrev vals (ps : List PT) (j : Nat) : Array Value := match ps[j]? with | some x => #[.str x.f x.tf, .str x.s x.ts] | none => #[.none, .none]
noncomputable abbrev adrs (ps : List PT) (j : Nat) : Addr := match ps[j]? with | some x => x.a | none => 0

theorem genNode {env : Env} {elt iter : Expr} {xa xb : Str} {pa pb pt : Pos} {kt : Nat} {scope : Scope} {cl : List (Str × Addr)} {pos : Pos} {Q : Value → Shared → Prop} {c P : Addr} {t : Tb} {G : PT → Value → Prop}
    (X₀ : (hd.heap_39 w.params).In h₀) (T : TopRead p loose mg mb h₀) (B : BM h₀ mg) (F : Fr h₀ L s.heap m) (N : News h₀ L s.heap (PL w.params pg st ++ rest)) (hB : AllBare s.gens)
    (hP : (P, X.tableObj t.arr) ∈ PL w.params pg st ++ rest) (hPm : P ∉ pg.acc :: st.parts.map PT.a) (hC : CodeAt (hd.heap_39 w.params) c P) (hcode : env.code = .ref c) (hglob : env.globals = mainGlobals)
    (hh : A.handled = none) (hco : scope.isCoroutine = false) (hclos : closureFor scope env = pure cl) (hcell : ∀ y ∈ scope.names, y.2 ≠ .cell) (h0 : scope.names.lookup (".0" : Str) = some NameKind.local)
    (hxa : scope.names.lookup xa = some .local) (hxb : scope.names.lookup xb = some .local) (hab : xa ≠ xb) (hkind : scope.kind = .function) (hroom : A.depth < recursionLimit)
    (hs : ∀ x, genFold iter env x = pure x)
    (hiter : ∀ {Q' : Value → Shared → Prop}, Q' (.ref pg.acc) s → wpAny (model prog w) A (eval iter env) Q' E s)
    (he : ∀ (A' : Around) E' code C x (s₂ : Shared) m₂, x ∈ st.parts → A'.handled = none → Fr h₀ C s₂.heap m₂ → m₂ xa = some (.str x.f x.tf) → m₂ xb = some (.str x.s x.ts) →
      wpAny (model prog w) A' (eval elt (genEnv scope cl C code builtinsNs env)) (fun y s₃ => G x y ∧ Keeps s₂ s₃) E' s₂)
    (h : ∀ a s₅ (t' : Tb), Fr h₀ L s₅.heap m → (∀ q ∈ PL w.params pg st ++ rest, q.1 ≠ P → s₅.heap.get? q.1 = some q.2) → s₅.heap.get? P = some (X.tableObj t'.arr) → AllBare s₅.gens → s₅.os = s.os → s₅.drawn = s.drawn →
      GenN prog w A s.heap.objs.size a st.parts.length (fun j y => ∃ x, st.parts[j]? = some x ∧ G x y) s₅ → Q (.ref a) s₅) :
    wpAny (model prog w) A (eval (.GeneratorExp elt [⟨.Tuple [.Name xa pa, .Name xb pb] kt pt, iter, [], 0⟩] scope pos) env) Q E s := by
  have nP := (N _ hP).2
  have hPs : s.heap.get? P = some (X.tableObj t.arr) := (N _ hP).1
  have hPlt : P < s.heap.objs.size := Heap.lt_size hPs
  refine wpAny_GeneratorExp_walksQT hh hco hclos hcell h0 hxa hxb hab hkind hroom (hiter (acc_iter F X₀ N ?_)) hs
  have k1 : ∀ b o, s.heap.get? b = some o → (s.heap.push { cls := .type "list_iterator", data := .fields #[.ref pg.acc, .int 0 0] }).get? b = some o := fun b o e => Heap.get?_push_of_some _ e
  have X1 : (hd.heap_39 w.params).In s.heap := X₀.keeps F.keep
  refine ⟨(T.nolimit.keeps F.keep).keeps k1, genexprCodeT (K := hd.heap_39 w.params) (t := t) hcode hC (X1.keeps k1) (k1 _ _ hPs) fun code h₃ tk₃ t' hx hsz htab => ?_⟩
  dsimp only at hx hsz
  have hx3 : ∀ b o, b ≠ P → s.heap.get? b = some o → h₃.get? b = some o := fun b o hb e => hx b o hb (k1 b o e)
  have k3 : ∀ b o, h₀.get? b = some o → h₃.get? b = some o := fun b o e => hx3 b o (fun hq => by rw [hq, nP.2] at e; cases e) (F.keep b o e)
  have X3 := X₀.keeps k3
  have T3 := T.keeps k3
  have hsz3 : s.heap.objs.size < h₃.objs.size := by
    rw [Heap.size_push] at hsz; exact hsz
  rw [hglob]
  refine ex2 (B.keeps k3) fun bm ob M3 => ?_
  refine wpAny_builtinsFor M3.ns M3.name M3.ne M3.obj M3.cls M3.dict M3.data ?_
  have hI : h₃.IsListIter s.heap.objs.size pg.acc 0 := ⟨_, hx _ _ (Nat.ne_of_gt hPlt) (Heap.get?_push_size _ rfl), rfl, rfl⟩
  have hacc := N _ mem_acc
  have haP : pg.acc ≠ P := fun e => hPm (by simp [e])
  have hS : HasSeq h₃ pg.acc (its st.parts).toArray := ⟨_, _, hx3 _ _ haP hacc.1, rfl⟩
  have hal : pg.acc < s.heap.objs.size := Heap.lt_size hacc.1
  have sz : (its st.parts).toArray.size = st.parts.length := by simp
  have hget : ∀ j, j < st.parts.length → ∃ x, st.parts[j]? = some x ∧ x ∈ st.parts := fun j hj => ⟨_, List.getElem?_eq_getElem hj, List.getElem_mem hj⟩
  have htl : ∀ x ∈ st.parts, x.a < s.heap.objs.size := fun x hx => Heap.lt_size (N _ (mem_tup (P := w.params) (pg := pg) (rest := rest) hx)).1
  have W₀ : ∀ A' : Around, A'.handled = none → WalksU prog w A' s.heap.objs.size (s.heap.objs.size :: pg.acc :: (List.range (its st.parts).toArray.size).map (adrs st.parts)) [s.heap.objs.size] (its st.parts).toArray.size
      (fun j v => j < (its st.parts).toArray.size ∧ v = vals st.parts j) _ _ := fun A' hA' => (walksAcc hA' s.heap.objs.size pg.acc (Nat.ne_of_lt hal) (its st.parts).toArray (adrs st.parts) (vals st.parts)
        (fun j hj => by rw [sz] at hj; obtain ⟨x, h1, _⟩ := hget j hj; simp [adrs, h1])
        (fun j hj => by rw [sz] at hj; obtain ⟨x, h1, h2⟩ := hget j hj; have := htl x h2; simp only [adrs, h1]; exact Nat.ne_of_lt this)).bound
  have hcs : cStatics ≠ s.heap.objs.size := by
    refine Exists.elim (T.nolimit.keeps F.keep) fun _ hx => an2 hx fun hn _ => ?_
    exact Nat.ne_of_lt hn.lt
  refine xi9 s.heap.objs.size _ _ _ _ _ _ (fun _ => true) (fun i y => ∃ x, st.parts[i]? = some x ∧ G x y) ⟨rfl, W₀, ?_, ⟨hI, hS, ?_⟩, ?_, T3.nolimit, ?_, ?_, ?_⟩
  · rintro i v ⟨hi, rfl⟩
    rw [sz] at hi; obtain ⟨x, h1, _⟩ := hget i hi
    exact xi2 (.str x.f x.tf) (.str x.s x.ts) (by simp only [vals, h1])
  · intro k hk
    rw [sz] at hk; obtain ⟨x, h1, h2⟩ := hget k hk
    have := (N _ (mem_tup (P := w.params) (pg := pg) (rest := rest) h2)).1
    simp only [adrs, vals, h1]
    exact ⟨_, hx3 _ _ (fun e => hPm (List.mem_cons_of_mem _ (List.mem_map.mpr ⟨x, h2, e⟩))) this, rfl, _, rfl⟩
  · intro b hb
    revert b hb
    refine all_cons ?_ fun b hb => ?_
    · exact hsz3
    · revert b hb
      refine all_cons ?_ fun b hb => ?_
      · exact Nat.lt_trans hal hsz3
      · refine Exists.elim (List.mem_map.mp hb) fun j hx => an2 hx fun hj zr3 => ?_
        subst zr3
        rw [List.mem_range, sz] at hj
        refine Exists.elim (hget j hj) fun x hx => an2 hx fun h1 h2 => ?_
        have := htl x h2
        simp only [adrs, h1]; exact Nat.lt_trans this hsz3
  · simpa using hcs
  · intro href hk
    have k5 : ∀ (s₂ : Shared), (∀ b ∈ List.range h₃.objs.size, b ∉ [s.heap.objs.size] → ∀ o, href.get? b = some o → s₂.heap.get? b = some o) → ∀ b o, h₀.get? b = some o → s₂.heap.get? b = some o := fun s₂ hk2 b o e => by
      refine hk2 b (List.mem_range.mpr (Heap.lt_size (k3 b o e))) ?_ o (hk b o (k3 b o e))
      have := Heap.lt_size (F.keep b o e)
      rw [List.mem_singleton]; exact Nat.ne_of_lt this
    refine ⟨fun A' E' i va vb s₂ m₂ hA' hPt hn h1 h2 hk2 => wpAny_pure ⟨rfl, s₂.heap, s₂.toks, rfl, fun _ _ e => e⟩, fun A' E' i va vb s₂ m₂ hA' hPt _ hn h1 h2 hk2 => ?_⟩
    refine an2 hPt fun hi hv => ?_
    (try clear hPt)
    rw [sz] at hi
    refine Exists.elim (hget i hi) fun x hx => an2 hx fun e1 e2 => ?_
    simp only [vals, e1] at hv
    have e3 : va = .str x.f x.tf ∧ vb = .str x.s x.ts := by
      have := congrArg Array.toList hv
      simpa using this
    refine an2 e3 fun zr1 zr2 => ?_
    (try clear e3)
    subst zr1
    subst zr2
    refine wpAny_mono (he A' E' code _ x s₂ m₂ e2 hA' ⟨hn, k5 s₂ hk2, Nat.le_of_lt (Nat.lt_of_le_of_lt F.above (Nat.lt_trans F.ns.lt hsz3))⟩ h1 h2) (fun y s₃ hy => ⟨⟨x, e1, hy.1⟩, hy.2⟩) fun _ _ z => z
  · intro a h₅ tk gs hgb hag hsz₅ hk₅ W hat
    have hLs : L < s.heap.objs.size := F.ns.lt
    have hL3 : ∀ o, s.heap.get? L = some o → h₅.get? L = some o := fun o e => hk₅ L o (hx3 L o (Ne.symm nP.1) e)
    refine h a _ t' ⟨F.ns.at fun o e => hL3 o e, fun b o e => hk₅ b o (k3 b o e), F.above⟩ (fun q hq hqP => hk₅ _ _ (hx3 _ _ hqP (N q hq).1)) (hk₅ _ _ htab) (hB.push hgb) rfl rfl ?_
    have e : (passing (fun _ => true) (its st.parts).toArray.size 0).length = st.parts.length := by rw [passing_all, List.length_range, sz]
    have W2 := walks_map (P' := fun j y => ∃ x, st.parts[j]? = some x ∧ G x y) W fun i v hi hv => by
      refine Exists.elim hv fun i' hx => an2 hx fun hi' hv' => ?_
      (try clear hv)
      rw [passing_all, List.getElem?_range (by rw [e] at hi; rw [sz]; exact hi)] at hi'
      cases hi'
      exact hv'
    rw [e] at W2
    refine xi4 _ _ _ _ ⟨W2, hat, fun i s' st => st.1.typeIs, List.mem_cons_self, ?_, ?_⟩
    · intro b hb
      show b < h₅.objs.size
      rw [hsz₅]
      revert b hb
      refine all_cons ?_ fun b hb => ?_
      · exact Nat.lt_succ_self _
      · revert b hb
        refine all_cons ?_ fun b hb => ?_
        · exact Nat.lt_succ_of_lt hag
        · exact Nat.lt_succ_of_lt (Nat.lt_trans (List.mem_range.mp hb) hag)
    · intro b hb
      revert b hb
      refine all_cons ?_ fun b hb => ?_
      · exact Nat.le_of_lt hsz3
      · rw [List.mem_singleton.mp hb]; exact Nat.le_refl _
end
end

section
open PySem PySem.W PySem.Calls PyProof.Rows
theorem args_sum2 (a b : Value) : argsOk "sum" ⟨[a, b], []⟩ := by unfold argsOk; kernel_rfl
section
variable {prog : Program} {w : World} {A : Around} {E : Value → Shared → Prop} {s : Shared}
theorem walks_shift {I : Addr} {fp wr : List Addr} {G : Array GenState → Array GenState → Prop} {n : Nat} {P : Nat → Value → Prop} {St : Nat → Shared → Prop} (W : WalksS prog w A I fp wr G n P St) :
    WalksS prog w A I fp wr G (n + 1) (fun i y => 1 ≤ i ∧ P (i - 1) y) (fun i s => 1 ≤ i ∧ St (i - 1) s) where
  sub := W.sub
  grefl := W.grefl
  gtrans := W.gtrans
  frame := fun i s h' tk st h1 h2 => ⟨st.1, W.frame _ s h' tk st.2 h1 h2⟩
  item := fun i s Q E hi hst hQ => W.item (i - 1) s Q E (by omega) hst.2 fun v s' hv hst' hm => hQ v s' ⟨hst.1, hv⟩ ⟨by lia, by
    have : i + 1 - 1 = i - 1 + 1 := by lia
    rw [this]; exact hst'⟩ hm
  done := fun s Q E hst hQ => W.done s Q E hst.2 hQ
  self := fun i s Q E hst hQ => W.self _ s Q E hst.2 hQ

theorem preSum_shift (v : Int) (val : Nat → Int) : ∀ n, preSum (fun i => if i = 0 then v else val (i - 1)) (n + 1) = v + preSum val n
  | 0 => by simp [preSum]
  | n + 1 => by
    rw [preSum, preSum_shift v val n]
    simp [preSum, Int.add_assoc]

theorem call_sum2 {I : Addr} {fp wr : List Addr} {G : Array GenState → Array GenState → Prop} {n : Nat} {P : Nat → Value → Prop} {St : Nat → Shared → Prop} {val : Nat → Int} {v : Int} {tv : Tok} {Q : Value → Shared → Prop}
    (W : WalksS prog w A.in1 I fp wr G n P St) (hst : St 0 s) (hfp : ∀ b ∈ fp, b < s.heap.objs.size) (hval : ∀ i v, P i v → ∃ t, v = .int (val i) t)
    (hQ : ∀ s' t', Moved wr G s s' → Q (.int (v + preSum val n) t') s') :
    wpAny (model prog w) A (call (.builtin "sum") [.ref I, .int v tv]) Q E s := by
  refine call_function_tree F.kind_sum F.plain_sum F.entry_sum (args_sum2 _ _) ?_
  unfold Builtin.«sum»
  simp -iota only [List.length_cons, List.length_nil]
  rw [if_neg (by decide)]
  refine wpAny_bind (wpAny_of_eq (show Builtin.Builtins.bindParams "sum" ["start"] 0 { pos := [Value.int v tv] } = pure [some (Value.int v tv)] from rfl) ?_)
  refine wpAny_bind (W.self 0 s _ _ hst ?_)
  have key : ∀ (sg : Int) (t : Tok) (k : Nat), (sg = 0 ∨ sg = 2) → s.toks ≤ k → wpAny (model prog w) A.in1 (do
      for (ty, what, hint) in [("str", "strings", "''"), ("bytes", "bytes", "b''"), ("bytearray", "bytearray", "b''")] do
        if ← isInstance (Value.int v t) (.type ty) then
          rule "sum.start-refused"; raiseError "TypeError" s!"sum() can't sum {what} [use {hint}.join(seq) instead]"
      again (.builtin "sum.loop" ⟨[.ref I, ← newList [Value.int v t], rawInt sg, rawInt 0], []⟩))
      (fun fin s' => match fin with
        | .done f => (match (Except.ok f : Result) with | .ok (.ret v) => Q v s' | .ok _ => False | .error e => E e s')
        | .again c' => c'.quiet = true ∧ codeAny (model prog w) A c' (fun r s' => match r with | .ok (.ret v) => Q v s' | .ok _ => False | .error e => E e s') s') E { s with toks := k } := by
    intro sg t k hsg hk
    simp -iota only [List.forIn_cons, List.forIn_nil]
    refine wpAny_bind (wpAny_bind (wpAny_bind (wpAny_isInstance (T := "int") (b := false) (typeIs_int _ _ _) PySem.sub_int_str ?_)))
    simp -iota only [Bool.false_eq_true, if_false]
    refine wpAny_pure (wpAny_bind (wpAny_bind (wpAny_isInstance (T := "int") (b := false) (typeIs_int _ _ _) PySem.sub_int_bytes ?_)))
    simp -iota only [Bool.false_eq_true, if_false]
    refine wpAny_pure (wpAny_bind (wpAny_bind (wpAny_isInstance (T := "int") (b := false) (typeIs_int _ _ _) PySem.sub_int_bytearray ?_)))
    simp -iota only [Bool.false_eq_true, if_false]
    refine wpAny_pure (wpAny_pure ?_)
    refine wpAny_bind (wpAny_newObj_type ?_)
    have hSf : s.heap.objs.size ∉ fp := fun hm => Nat.lt_irrefl _ (hfp _ hm)
    have W' := walks_shift W
    refine wpAny_pure ⟨plainId_quiet F.plain_sum_loop _, codeAny_sum_loopAnyS W' (fun i => if i = 0 then v else val (i - 1)) (fun i y hy => ?_) s.heap.objs.size hSf n 1 _ t 0 sg hsg (by lia) (by lia)
      ⟨Nat.le_refl _, W.frame 0 s _ _ hst hk fun b _ o e => Heap.get?_push_of_some _ e⟩ ?_ fun s' t' hm => ?_⟩
    · refine an2 hy fun h1 h2 => ?_
      (try clear hy)
      rw [if_neg (by lia)]
      exact hval _ _ h2
    · have : preSum (fun i => if i = 0 then v else val (i - 1)) 1 = v := by simp [preSum]
      rw [this]
      exact Heap.get?_push_size _ rfl
    · have hm2 : Moved (s.heap.objs.size :: wr) G s s' := ⟨fun b o hb e => hm.heap b o hb (Heap.get?_push_of_some _ e), hm.gens, hm.drawn, hm.os, Nat.le_trans hk hm.toks⟩
      rw [preSum_shift]
      refine hQ s' t' ⟨fun b o hb e => hm2.heap b o (fun hb2 => ?_) e, hm2.gens, hm2.drawn, hm2.os, hm2.toks⟩
      rcases List.mem_cons.mp hb2 with rfl | hb2
      · exact Nat.lt_irrefl _ (Heap.lt_size e)
      · exact hb hb2
  dsimp only
  split
  · refine wpAny_bind (wpAny_rule (wpAny_bind (wpAny_mkInt (wpAny_bind (wpAny_pure ?_)))))
    exact key 0 _ _ (.inl rfl) (Nat.le_succ _)
  · exact wpAny_bind (wpAny_pure <| key 2 tv s.toks (.inr rfl) (Nat.le_refl _))
end
end

section
open PySem PySem.W PySem.Calls PyProof.Rows
noncomputable def hitAt (c : Nat) (l : List (Str × Str)) (i : Nat) : Bool :=
  (Txt.isspace ⟨#[c]⟩ && (match l[i]? with | some x => !x.1.cps.isEmpty && x.1.cps[0]? == some c | none => false)) ||
    (match l[i - 1]? with | some x => !x.2.cps.isEmpty && x.2.cps[x.2.cps.size - 1]? == some c | none => false)
noncomputable def innerFind (c : Nat) (l : List (Str × Str)) : Nat → Option Nat
  | 0 => none
  | x + 1 => if hitAt c l (x + 1) then some (x + 1) else innerFind c l x
noncomputable def outerFind (l : List (Str × Str)) : List Nat → Option Nat
  | [] => none
  | c :: r => match innerFind c l (l.length - 1) with
    | some k => some k
    | none => outerFind l r
theorem innerFind_of {c : Nat} {l : List (Str × Str)} : ∀ {x v : Nat}, 1 ≤ v → v ≤ x → hitAt c l v = true → (∀ i, v < i → i ≤ x → hitAt c l i = false) → innerFind c l x = some v
  | 0, v, h1, h2, _, _ => by lia
  | x + 1, v, h1, h2, h3, h4 => by
    unfold innerFind
    by_cases e : v = x + 1
    · subst e; rw [h3]; rfl
    · rw [h4 (x + 1) (by lia) (Nat.le_refl _)]
      exact innerFind_of h1 (by lia) h3 fun i hi hx => h4 i hi (by lia)
theorem innerFind_none {c : Nat} {l : List (Str × Str)} : ∀ {x : Nat}, (∀ i, 1 ≤ i → i ≤ x → hitAt c l i = false) → innerFind c l x = none
  | 0, _ => rfl
  | x + 1, h => by
    unfold innerFind
    rw [h (x + 1) (by lia) (Nat.le_refl _)]
    exact innerFind_none fun i h1 h2 => h i h1 (by lia)
theorem innerFind_le {c : Nat} {l : List (Str × Str)} : ∀ {x v : Nat}, innerFind c l x = some v → 1 ≤ v ∧ v ≤ x
  | 0, v, h => by cases h
  | x + 1, v, h => by
    unfold innerFind at h
    split at h
    · cases h; lia
    · have := innerFind_le h; lia
theorem outerFind_le {l : List (Str × Str)} : ∀ {cs : List Nat} {v : Nat}, outerFind l cs = some v → 1 ≤ v ∧ v ≤ l.length - 1
  | [], v, h => by cases h
  | c :: r, v, h => by
    unfold outerFind at h
    split at h
    · rename_i e; cases h; exact innerFind_le e
    · exact outerFind_le h
theorem outerFind_of {l : List (Str × Str)} : ∀ {cs : List Nat} {j c v : Nat}, cs[j]? = some c → innerFind c l (l.length - 1) = some v → (∀ i, i < j → ∀ d, cs[i]? = some d → innerFind d l (l.length - 1) = none) → outerFind l cs = some v
  | [], j, c, v, h, _, _ => by simp at h
  | d :: r, 0, c, v, h, hv, _ => by
    simp at h; subst h
    unfold outerFind; rw [hv]
  | d :: r, j + 1, c, v, h, hv, hno => by
    unfold outerFind
    rw [hno 0 (by lia) d (by simp)]
    exact outerFind_of (by simpa using h) hv fun i hi e he => hno (i + 1) (Nat.succ_lt_succ hi) e (by simpa using he)
theorem outerFind_none {l : List (Str × Str)} : ∀ {cs : List Nat}, (∀ (i d : Nat), cs[i]? = some d → innerFind d l (l.length - 1) = none) → outerFind l cs = none
  | [], _ => rfl
  | d :: r, h => by
    unfold outerFind
    rw [h 0 d (by simp)]
    exact outerFind_none fun i e he => h (i + 1) e (by simpa using he)
structure Sh where
  parts : List (Str × Str)
  init : Int
  lines : List Str
noncomputable def lenF (l : List (Str × Str)) : Nat := (l.map fun x => x.1.length + x.2.length).sum
noncomputable def strF (l : List (Str × Str)) : Str := Txt.join ("" : Str) (l.map fun x => Txt.join ("" : Str) [x.1, x.2])
noncomputable def stepA (sch : Str) (maxlen : Int) (sh : Sh) (f str : Str) : Sh :=
  if maxlen < sh.init + lenF (sh.parts ++ [(f, str)]) then
    match outerFind (sh.parts ++ [(f, str)]) sch.cps.toList with
    | some k => ⟨(sh.parts ++ [(f, str)]).drop k, 0, sh.lines ++ [strF ((sh.parts ++ [(f, str)]).take k)]⟩
    | none => sh
  else ⟨sh.parts ++ [(f, str)], sh.init, sh.lines⟩
end

section
open PySem PySem.W PySem.Calls PyProof.Rows
theorem join_fold (g : Array Nat) (hg : g = #[]) : ∀ (r : List Str) (a : Array Nat), (r.foldl (fun acc p => acc ++ g ++ p.cps) a).toList = a.toList ++ (r.map (·.cps.toList)).flatten
  | [], a => by simp
  | p :: r, a => by
    subst hg
    rw [List.foldl_cons, join_fold #[] rfl r]
    simp
theorem join_list (l : List Str) : (Txt.join ("" : Str) l).cps.toList = (l.map (·.cps.toList)).flatten := by
  cases l with
  | nil => rfl
  | cons x r => exact join_fold ("" : Str).cps rfl r x.cps
theorem str_ext {a b : Str} (h : a.cps.toList = b.cps.toList) : a = b := by
  cases a; cases b
  simp only at h
  rw [Array.toList_inj.mp h]
theorem join_chars (cs : List Nat) : Txt.join ("" : Str) (cs.map fun c => (⟨#[c]⟩ : Str)) = ⟨cs.toArray⟩ := by
  refine str_ext ?_
  rw [join_list]
  simp only [List.map_map]
  induction cs with
  | nil => rfl
  | cons c r ih => simpa using ih

theorem rep_fold (c : Nat) : ∀ (n : Nat) (a : Array Nat), ((List.replicate n (#[c] : Array Nat)).foldl (· ++ ·) a).toList = a.toList ++ List.replicate n c
  | 0, a => by simp
  | n + 1, a => by
    rw [List.replicate_succ, List.foldl_cons, rep_fold c n, List.replicate_succ]
    simp
theorem mul_list (c : Nat) (n : Int) : (Txt.mul (⟨#[c]⟩ : Str) n).cps.toList = List.replicate n.toNat c := by
  unfold Txt.mul
  split
  · rename_i h
    rw [show n.toNat = 0 from by lia]; rfl
  · split
    · rename_i h1 h2
      have : n = 1 := by
        have h3 : ((⟨#[c]⟩ : Str).length == 0) = false := rfl
        rw [h3, Bool.or_false] at h2
        simpa using h2
      subst this; rfl
    · exact (rep_fold c _ #[]).trans (by simp)
theorem mul_ok (c : Nat) {n : Int} (h1 : -200000 ≤ n) (h2 : n ≤ 200000) : MulOk (⟨#[c]⟩ : Str) n := by
  have e : (⟨#[c]⟩ : Str).length = 1 := rfl
  refine ⟨?_, fun h3 _ => ?_, fun h3 _ => ?_⟩
  · rw [decide_eq_false (by lia), decide_eq_false (by lia)]; rfl
  · rw [e]
    have : 1 ≤ (2 ^ 63 - 1 : Int) / n := (Int.le_ediv_iff_mul_le (by omega)).mpr (by lia)
    lia
  · rw [e]
    unfold PySem.Builtin.Str.tooLong
    rw [sizeLine_eq]
    exact decide_eq_false (by lia)
theorem mul_len (c : Nat) {n : Int} (h : n ≤ 200000) : (Txt.mul (⟨#[c]⟩ : Str) n).length ≤ 200000 := by
  have := congrArg List.length (mul_list c n)
  rw [Array.length_toList, List.length_replicate] at this
  show (Txt.mul (⟨#[c]⟩ : Str) n).cps.size ≤ _
  lia
end

section
open PySem PySem.W PySem.Calls PyProof.Rows
structure Body (sz : Nat) (solo : Prop) (b : Str) : Prop where
  len : b.length = sz
  pos : 1 ≤ sz
  last : ∃ c, b.cps[b.cps.size - 1]? = some c ∧ c ≠ 59 ∧ c ≠ 32 ∧ (c = 45 → solo)
  first : b.cps[0]? = some 46
noncomputable abbrev card (b : Str) : Str := b ++ (" ;" : Str)
noncomputable def chunk : Nat → Str → List (Str × Str)
  | 0, b => [(("" : Str), card b)]
  | 1, b => [(("" : Str), b), ((" " : Str), (";" : Str))]
  | 2, b => [((" \t" : Str), b)]
  | _, b => [(("" : Str), b), (("" : Str), ("; " : Str))]
noncomputable def parts (t : Nat) (bs : List Str) : List (Str × Str) := bs.flatMap (chunk t)
noncomputable def sch : Nat → Str
  | 0 => (";" : Str)
  | 1 => ("; " : Str)
  | 2 => (" ;" : Str)
  | _ => ("-; " : Str)
structure Ab where
  i0 : Nat
  cur : List Str
  rows : List (List Str)
noncomputable def Ab.step (n : Nat) (a : Ab) (b : Str) : Ab := if a.i0 + a.cur.length = n then ⟨0, [b], a.rows ++ [a.cur]⟩ else ⟨a.i0, a.cur ++ [b], a.rows⟩
noncomputable def shAb (t size : Nat) (a : Ab) : Sh := ⟨parts t a.cur, ((a.i0 * size : Nat) : Int), a.rows.map fun r => strF (parts t r)⟩
structure AbOk (n sz : Nat) (solo : Prop) (a : Ab) : Prop where
  lt : a.i0 < n
  le : a.i0 + a.cur.length ≤ n
  body : ∀ b ∈ a.cur, Body sz solo b
theorem lenF_append (a b : List (Str × Str)) : lenF (a ++ b) = lenF a + lenF b := by simp [lenF]
theorem lenF_chunk (t : Nat) {sz : Nat} {solo : Prop} {b : Str} (h : Body sz solo b) : lenF (chunk t b) = sz + 2 := by
  have e : b.length = sz := h.len
  have e1 : ("" : Str).length = 0 := rfl
  have e2 : (card b).length = b.length + 2 := by
    show (b.cps ++ (" ;" : Str).cps).size = _
    rw [Array.size_append]; rfl
  match t with
  | 0 => simp only [chunk, lenF, List.map_cons, List.map_nil, List.sum_cons, List.sum_nil]; rw [e1, e2, e]; lia
  | 1 =>
    have e3 : (" " : Str).length = 1 := rfl
    have e4 : (";" : Str).length = 1 := rfl
    simp only [chunk, lenF, List.map_cons, List.map_nil, List.sum_cons, List.sum_nil]; rw [e1, e, e3, e4]; lia
  | 2 =>
    have e3 : (" \t" : Str).length = 2 := rfl
    simp only [chunk, lenF, List.map_cons, List.map_nil, List.sum_cons, List.sum_nil]; rw [e, e3]; lia
  | t + 3 =>
    have e4 : ("; " : Str).length = 2 := rfl
    simp only [chunk, lenF, List.map_cons, List.map_nil, List.sum_cons, List.sum_nil]; rw [e1, e, e4]; lia
theorem lenF_parts (t : Nat) {sz : Nat} {solo : Prop} : ∀ {bs : List Str}, (∀ b ∈ bs, Body sz solo b) → lenF (parts t bs) = bs.length * (sz + 2)
  | [], _ => by simp [parts, lenF]
  | b :: r, h => by
    have ih := lenF_parts t (bs := r) fun x hx => h x (.tail _ hx)
    have e : parts t (b :: r) = chunk t b ++ parts t r := rfl
    rw [e, lenF_append, lenF_chunk t (h b (.head _)), ih, List.length_cons, Nat.add_mul]; lia
theorem parts_snoc (t : Nat) (bs : List Str) (b : Str) : parts t (bs ++ [b]) = parts t bs ++ chunk t b := by simp [parts]
theorem parts_one (t : Nat) (b : Str) : parts t [b] = chunk t b := by simp [parts]
theorem sp59 : Txt.isspace ⟨#[59]⟩ = false := by decide +kernel
theorem sp45 : Txt.isspace ⟨#[45]⟩ = false := by decide +kernel
theorem sp32 : Txt.isspace ⟨#[32]⟩ = true := by decide +kernel
theorem hit_last {c d : Nat} {l : List (Str × Str)} {i : Nat} {x : Str × Str} (hx : l[i - 1]? = some x) (hd : x.2.cps[x.2.cps.size - 1]? = some d) (hne : x.2.cps.isEmpty = false) (e : d = c) : hitAt c l i = true := by
  unfold hitAt
  rw [hx]
  simp [hne, hd, e]
theorem hit_not {c : Nat} {l : List (Str × Str)} {i : Nat} (hs : Txt.isspace ⟨#[c]⟩ = false ∨ ∃ x, l[i]? = some x ∧ x.1.cps.isEmpty = true) (h : ∃ x d, l[i - 1]? = some x ∧ x.2.cps[x.2.cps.size - 1]? = some d ∧ d ≠ c) : hitAt c l i = false := by
  refine ex2 h fun x d hx => an3 hx fun hx hd hne => ?_
  (try clear h)
  unfold hitAt
  rw [hx]
  have e2 : (!x.2.cps.isEmpty && x.2.cps[x.2.cps.size - 1]? == some c) = false := by rw [hd]; simp [hne]
  rcases hs with hs | ⟨y, hy, hye⟩
  · rw [hs]; simp only [Bool.false_and, Bool.false_or]; exact e2
  · rw [hy]; simp only [hye]; simp only [Bool.not_true, Bool.false_and, Bool.and_false, Bool.false_or]; exact e2
theorem nonempty_of {b : Str} {k : Nat} {c : Nat} (h : b.cps[k]? = some c) : b.cps.isEmpty = false := by
  have : 0 < b.cps.size := by
    rcases Nat.eq_zero_or_pos b.cps.size with e | e
    · rw [Array.getElem?_eq_none (by lia)] at h; cases h
    · exact e
  show decide (b.cps.size = 0) = false
  exact decide_eq_false (by lia)
theorem last_card (b : Str) : (card b).cps[(card b).cps.size - 1]? = some 59 := by
  show (b.cps ++ (" ;" : Str).cps)[(b.cps ++ (" ;" : Str).cps).size - 1]? = some 59
  have e : (" ;" : Str).cps = #[32, 59] := rfl
  rw [e, Array.size_append, Array.getElem?_append_right (by simp)]
  simp

theorem stepA_no {sc : Str} {mx : Int} {sh : Sh} {f s : Str} (h : ¬ mx < sh.init + lenF (sh.parts ++ [(f, s)])) : stepA sc mx sh f s = ⟨sh.parts ++ [(f, s)], sh.init, sh.lines⟩ := by rw [stepA, if_neg h]
theorem stepA_cut {sc : Str} {mx : Int} {sh : Sh} {f s : Str} {k : Nat} (h : mx < sh.init + lenF (sh.parts ++ [(f, s)])) (hk : outerFind (sh.parts ++ [(f, s)]) sc.cps.toList = some k) :
    stepA sc mx sh f s = ⟨(sh.parts ++ [(f, s)]).drop k, 0, sh.lines ++ [strF ((sh.parts ++ [(f, s)]).take k)]⟩ := by rw [stepA, if_pos h, hk]
theorem find1 {l : List (Str × Str)} {c v : Nat} {r : List Nat} (h1 : 1 ≤ v) (h2 : v ≤ l.length - 1) (h3 : hitAt c l v = true) (h4 : ∀ i, v < i → i ≤ l.length - 1 → hitAt c l i = false) : outerFind l (c :: r) = some v := by
  unfold outerFind; rw [innerFind_of h1 h2 h3 h4]
theorem find2 {l : List (Str × Str)} {c : Nat} {r : List Nat} (h : ∀ i, 1 ≤ i → i ≤ l.length - 1 → hitAt c l i = false) : outerFind l (c :: r) = outerFind l r := by
  rw [outerFind, innerFind_none h]
theorem last_of {α : Type} {l : List α} (h : l ≠ []) : ∃ i x, l = i ++ [x] := ⟨l.dropLast, l.getLast h, (List.dropLast_concat_getLast h).symm⟩
theorem cut0 {bs : List Str} {b : Str} (hne : bs ≠ []) : outerFind (parts 0 bs ++ chunk 0 b) (sch 0).cps.toList = some (parts 0 bs).length := by
  refine ex2 (last_of hne) fun i x zr4 => ?_
  subst zr4
  have e : parts 0 (i ++ [x]) = parts 0 i ++ [(("" : Str), card x)] := by rw [parts_snoc]; rfl
  rw [e]
  generalize parts 0 i = P
  show outerFind ((P ++ [(("" : Str), card x)]) ++ [(("" : Str), card b)]) [59] = _
  refine find1 (by simp) (by simp) (hit_last (x := (("" : Str), card x)) (d := 59) ?_ (last_card x) (nonempty_of (last_card x)) rfl) fun j h1 h2 => by simp at h1 h2; lia
  simp only [List.length_append, List.length_cons, List.length_nil]
  rw [List.append_assoc, List.getElem?_append_right (by lia), show P.length + (0 + 1) - 1 - P.length = 0 from by lia]; rfl
theorem cut2 {bs : List Str} {b : Str} (hne : bs ≠ []) : outerFind (parts 2 bs ++ chunk 2 b) (sch 2).cps.toList = some (parts 2 bs).length := by
  refine ex2 (last_of hne) fun i x zr3 => ?_
  subst zr3
  have hl : 1 ≤ (parts 2 (i ++ [x])).length := by rw [parts_snoc]; simp [chunk]
  show outerFind (parts 2 (i ++ [x]) ++ [((" \t" : Str), b)]) [32, 59] = _
  refine find1 hl (by simp) ?_ fun j h1 h2 => by simp at h2; lia
  unfold hitAt
  rw [List.getElem?_append_right (Nat.le_refl _), Nat.sub_self]
  rw [sp32]; rfl
theorem cut1 {sz : Nat} {solo : Prop} {bs : List Str} {b : Str} (hne : bs ≠ []) (hb : Body sz solo b) : outerFind (parts 1 bs ++ [(("" : Str), b)] ++ [((" " : Str), (";" : Str))]) (sch 1).cps.toList = some (parts 1 bs).length := by
  refine ex2 (last_of hne) fun i x zr2 => ?_
  subst zr2
  refine Exists.elim hb.last fun lc hx => an4 hx fun h1 h2 h3 h4 => ?_
  have e : parts 1 (i ++ [x]) = parts 1 i ++ [(("" : Str), x), ((" " : Str), (";" : Str))] := by rw [parts_snoc]; rfl
  rw [e]
  generalize parts 1 i = P
  show outerFind _ [59, 32] = _
  refine find1 (by simp) (by simp) (hit_last (x := ((" " : Str), (";" : Str))) (d := 59) ?_ rfl (by decide) rfl) fun j g1 g2 => ?_
  · simp only [List.length_append, List.length_cons, List.length_nil]
    rw [List.append_assoc, List.getElem?_append_left (by simp), List.getElem?_append_right (by lia)]
    rw [show P.length + (0 + 1 + 1) - 1 - P.length = 1 from by lia]; rfl
  · simp only [List.length_append, List.length_cons, List.length_nil] at g1 g2
    have : j = P.length + 3 := by lia
    subst this
    refine hit_not (.inl sp59) ⟨(("" : Str), b), lc, ?_, h1, h2⟩
    rw [List.append_assoc, List.getElem?_append_right (by simp)]
    rw [show P.length + 3 - 1 - (P ++ [(("" : Str), x), ((" " : Str), (";" : Str))]).length = 0 from by simp]; rfl
theorem all3 {sz : Nat} {solo : Prop} : ∀ {bs : List Str}, (∀ b ∈ bs, Body sz solo b) → ¬ solo → ∀ p ∈ parts 3 bs, ∃ d, p.2.cps[p.2.cps.size - 1]? = some d ∧ d ≠ 45 ∧ d ≠ 59
  | [], _, _, p, hp => by simp [parts] at hp
  | b :: r, h, hs, p, hp => by
    have e : parts 3 (b :: r) = chunk 3 b ++ parts 3 r := rfl
    rw [e] at hp
    rcases List.mem_append.mp hp with hp | hp
    · refine Exists.elim ((h b (.head _)).last) fun lc hx => an4 hx fun h1 h2 h3 h4 => ?_
      have hp2 : p = (("" : Str), b) ∨ p = (("" : Str), ("; " : Str)) := by simpa [chunk] using hp
      rcases hp2 with rfl | rfl
      · exact ⟨lc, h1, fun q => hs (h4 q), h2⟩
      · exact ⟨32, rfl, by decide, by decide⟩
    · exact all3 (fun x hx => h x (.tail _ hx)) hs p hp
theorem cut3 {sz : Nat} {solo : Prop} {bs : List Str} {b : Str} (hne : bs ≠ []) (hbs : ∀ x ∈ bs, Body sz solo x) (hb : Body sz solo b) (hs : ¬ solo) : outerFind (parts 3 bs ++ [(("" : Str), b)] ++ [(("" : Str), ("; " : Str))]) (sch 3).cps.toList = some (parts 3 bs).length := by
  refine Exists.elim hb.last fun lc hx => an4 hx fun h1 h2 h3 h4 => ?_
  have hall : ∀ p ∈ parts 3 bs ++ [(("" : Str), b)] ++ [(("" : Str), ("; " : Str))], ∃ d, p.2.cps[p.2.cps.size - 1]? = some d ∧ d ≠ 45 ∧ d ≠ 59 := by
    intro p hp
    simp only [List.mem_append, List.mem_singleton] at hp
    rcases hp with (hp | rfl) | rfl
    · exact all3 hbs hs p hp
    · exact ⟨lc, h1, fun q => hs (h4 q), h2⟩
    · exact ⟨32, rfl, by decide, by decide⟩
  have hno : ∀ c, (c = 45 ∨ c = 59) → ∀ i, 1 ≤ i → i ≤ (parts 3 bs ++ [(("" : Str), b)] ++ [(("" : Str), ("; " : Str))]).length - 1 → hitAt c (parts 3 bs ++ [(("" : Str), b)] ++ [(("" : Str), ("; " : Str))]) i = false := by
    intro c hc i g1 g2
    obtain ⟨d, e1, e2, e3⟩ := hall _ (List.getElem_mem (l := parts 3 bs ++ [(("" : Str), b)] ++ [(("" : Str), ("; " : Str))]) (n := i - 1) (Nat.lt_of_lt_of_le (Nat.sub_lt g1 Nat.one_pos) (Nat.le_trans g2 (Nat.sub_le _ 1))))
    refine hit_not (.inl (by rcases hc with rfl | rfl; exact sp45; exact sp59)) ⟨_, d, List.getElem?_eq_getElem (Nat.lt_of_lt_of_le (Nat.sub_lt g1 Nat.one_pos) (Nat.le_trans g2 (Nat.sub_le _ 1))), e1, ?_⟩
    rcases hc with rfl | rfl
    · exact e2
    · exact e3
  show outerFind _ [45, 59, 32] = _
  rw [find2 (hno 45 (.inl rfl)), find2 (hno 59 (.inr rfl))]
  refine ex2 (last_of hne) fun i x zr1 => ?_
  subst zr1
  have e : parts 3 (i ++ [x]) = parts 3 i ++ [(("" : Str), x), (("" : Str), ("; " : Str))] := by rw [parts_snoc]; rfl
  rw [e]
  generalize parts 3 i = P
  refine find1 (by simp) (by simp) (hit_last (x := (("" : Str), ("; " : Str))) (d := 32) ?_ rfl (by decide) rfl) fun j g1 g2 => ?_
  · simp only [List.length_append, List.length_cons, List.length_nil]
    rw [List.append_assoc, List.getElem?_append_left (by simp), List.getElem?_append_right (by lia)]
    rw [show P.length + (0 + 1 + 1) - 1 - P.length = 1 from by lia]; rfl
  · simp only [List.length_append, List.length_cons, List.length_nil] at g1 g2
    have : j = P.length + 3 := by lia
    subst this
    refine hit_not (.inr ⟨(("" : Str), ("; " : Str)), ?_, rfl⟩) ⟨(("" : Str), b), lc, ?_, h1, h3⟩
    · rw [List.getElem?_append_right (by simp)]
      rw [show P.length + 3 - (P ++ [(("" : Str), x), (("" : Str), ("; " : Str))] ++ [(("" : Str), b)]).length = 0 from by simp]; rfl
    · rw [List.append_assoc, List.getElem?_append_right (by simp)]
      rw [show P.length + 3 - 1 - (P ++ [(("" : Str), x), (("" : Str), ("; " : Str))]).length = 0 from by simp]; rfl

noncomputable def wid (t n size : Nat) : Int := ((n * size + t % 2 * (size - 1) : Nat) : Int)
theorem AbOk.step {n sz : Nat} {solo : Prop} {a : Ab} {b : Str} (x : AbOk n sz solo a) (hb : Body sz solo b) : AbOk n sz solo (a.step n b) := by
  have := x.lt
  have h2 := x.le
  unfold Ab.step
  split
  · exact ⟨by show 0 < n; lia, by show 0 + 1 ≤ n; lia, fun y hy => by rw [List.mem_singleton.mp hy]; exact hb⟩
  · exact ⟨x.lt, by show a.i0 + (a.cur ++ [b]).length ≤ n; rw [List.length_append, List.length_singleton]; lia, fun y hy => by
      rcases List.mem_append.mp hy with hy | hy
      · exact x.body y hy
      · rw [List.mem_singleton.mp hy]; exact hb⟩
theorem full_ne {n sz : Nat} {solo : Prop} {a : Ab} (x : AbOk n sz solo a) (h : a.i0 + a.cur.length = n) : a.cur ≠ [] := fun e => by
  have := x.lt; rw [e] at h; simp at h; lia
theorem tot {n sz : Nat} {solo : Prop} {a : Ab} {b : Str} (t : Nat) (x : AbOk n sz solo a) (hb : Body sz solo b) : ((a.i0 * (sz + 2) : Nat) : Int) + (lenF (parts t a.cur ++ chunk t b) : Int) = (((a.i0 + a.cur.length + 1) * (sz + 2) : Nat) : Int) := by
  rw [lenF_append, lenF_parts t x.body, lenF_chunk t hb, Nat.add_mul, Nat.add_mul]; lia
theorem over_full {n sz t : Nat} {solo : Prop} {a : Ab} {b : Str} (x : AbOk n sz solo a) (hb : Body sz solo b) (h : a.i0 + a.cur.length = n) : wid t n (sz + 2) < ((a.i0 * (sz + 2) : Nat) : Int) + (lenF (parts t a.cur ++ chunk t b) : Int) := by
  rw [tot t x hb, h, Nat.add_mul]
  unfold wid
  have : t % 2 * (sz + 2 - 1) ≤ sz + 1 := by
    rcases Nat.mod_two_eq_zero_or_one t with e | e <;> rw [e] <;> lia
  omega
theorem not_over {n sz t : Nat} {solo : Prop} {a : Ab} {b : Str} (x : AbOk n sz solo a) (hb : Body sz solo b) (h : ¬ a.i0 + a.cur.length = n) : ¬ wid t n (sz + 2) < ((a.i0 * (sz + 2) : Nat) : Int) + (lenF (parts t a.cur ++ chunk t b) : Int) := by
  rw [tot t x hb]
  have h2 := x.le
  have : (a.i0 + a.cur.length + 1) * (sz + 2) ≤ n * (sz + 2) := Nat.mul_le_mul_right _ (by lia)
  unfold wid
  omega
theorem take_app {α : Type} (P l : List α) : (P ++ l).take P.length = P := by simp
theorem drop_app {α : Type} (P l : List α) : (P ++ l).drop P.length = l := by simp
theorem lay02 {t n sz : Nat} {solo : Prop} {a : Ab} {b f s : Str} (ht : (t = 0 ∧ f = ("" : Str) ∧ s = card b) ∨ (t = 2 ∧ f = (" \t" : Str) ∧ s = b)) (x : AbOk n sz solo a) (hb : Body sz solo b) :
    stepA (sch t) (wid t n (sz + 2)) (shAb t (sz + 2) a) f s = shAb t (sz + 2) (a.step n b) ∧
    (wid t n (sz + 2) < (shAb t (sz + 2) a).init + lenF ((shAb t (sz + 2) a).parts ++ [(f, s)]) → (outerFind ((shAb t (sz + 2) a).parts ++ [(f, s)]) (sch t).cps.toList).isSome = true) := by
  have ec : [(f, s)] = chunk t b := by rcases ht with ⟨rfl, rfl, rfl⟩ | ⟨rfl, rfl, rfl⟩ <;> rfl
  show stepA (sch t) (wid t n (sz + 2)) ⟨parts t a.cur, ((a.i0 * (sz + 2) : Nat) : Int), a.rows.map fun r => strF (parts t r)⟩ f s = _ ∧ (wid t n (sz + 2) < ((a.i0 * (sz + 2) : Nat) : Int) + (lenF (parts t a.cur ++ [(f, s)]) : Int) → (outerFind (parts t a.cur ++ [(f, s)]) (sch t).cps.toList).isSome = true)
  rw [ec]
  by_cases h : a.i0 + a.cur.length = n
  · have hne := full_ne x h
    have hov := over_full (t := t) x hb h
    have hk : outerFind (parts t a.cur ++ chunk t b) (sch t).cps.toList = some (parts t a.cur).length := by
      rcases ht with ⟨rfl, _, _⟩ | ⟨rfl, _, _⟩
      · exact cut0 hne
      · exact cut2 hne
    refine ⟨?_, fun _ => by rw [hk]; rfl⟩
    rw [stepA_cut (k := (parts t a.cur).length) (by rw [ec]; exact hov) (by rw [ec]; exact hk), ec]
    simp only [take_app, drop_app]
    unfold Ab.step shAb
    rw [if_pos h]
    simp [parts_one]
  · have hov := not_over (t := t) x hb h
    refine ⟨?_, fun g => absurd g hov⟩
    rw [stepA_no (by rw [ec]; exact hov), ec]
    unfold Ab.step shAb
    rw [if_neg h]
    simp [parts_snoc]
noncomputable def mid (t size : Nat) (a : Ab) (b : Str) : Sh := ⟨parts t a.cur ++ [(("" : Str), b)], ((a.i0 * size : Nat) : Int), a.rows.map fun r => strF (parts t r)⟩
theorem lay13a {t n sz : Nat} {solo : Prop} {a : Ab} {b : Str} (ht : t = 1 ∨ t = 3) (x : AbOk n sz solo a) (hb : Body sz solo b) :
    stepA (sch t) (wid t n (sz + 2)) (shAb t (sz + 2) a) ("" : Str) b = mid t (sz + 2) a b ∧ ¬ (wid t n (sz + 2) < (shAb t (sz + 2) a).init + lenF ((shAb t (sz + 2) a).parts ++ [(("" : Str), b)])) := by
  have hl : lenF (parts t a.cur ++ [(("" : Str), b)]) = a.cur.length * (sz + 2) + sz := by
    rw [lenF_append, lenF_parts t x.body]
    have e1 : ("" : Str).length = 0 := rfl
    simp only [lenF, List.map_cons, List.map_nil, List.sum_cons, List.sum_nil]
    rw [e1, hb.len]; lia
  have hno : ¬ (wid t n (sz + 2) < (shAb t (sz + 2) a).init + lenF ((shAb t (sz + 2) a).parts ++ [(("" : Str), b)])) := by
    show ¬ (wid t n (sz + 2) < ((a.i0 * (sz + 2) : Nat) : Int) + (lenF (parts t a.cur ++ [(("" : Str), b)]) : Int))
    rw [hl]
    have h2 := x.le
    have h3 : (a.i0 + a.cur.length) * (sz + 2) ≤ n * (sz + 2) := Nat.mul_le_mul_right _ h2
    rw [Nat.add_mul] at h3
    unfold wid
    have : t % 2 = 1 := by rcases ht with rfl | rfl <;> rfl
    rw [this]
    lia
  exact ⟨by rw [stepA_no hno]; rfl, hno⟩
theorem lay13b {t n sz : Nat} {solo : Prop} {a : Ab} {b f s : Str} (ht : (t = 1 ∧ f = (" " : Str) ∧ s = (";" : Str)) ∨ (t = 3 ∧ f = ("" : Str) ∧ s = ("; " : Str))) (x : AbOk n sz solo a) (hb : Body sz solo b) (hs : a.cur ≠ [] → ¬ solo) :
    stepA (sch t) (wid t n (sz + 2)) (mid t (sz + 2) a b) f s = shAb t (sz + 2) (a.step n b) ∧
    (wid t n (sz + 2) < (mid t (sz + 2) a b).init + lenF ((mid t (sz + 2) a b).parts ++ [(f, s)]) → (outerFind ((mid t (sz + 2) a b).parts ++ [(f, s)]) (sch t).cps.toList).isSome = true) := by
  have ec : parts t a.cur ++ [(("" : Str), b)] ++ [(f, s)] = parts t a.cur ++ chunk t b := by rcases ht with ⟨rfl, rfl, rfl⟩ | ⟨rfl, rfl, rfl⟩ <;> simp [chunk]
  show stepA (sch t) (wid t n (sz + 2)) ⟨parts t a.cur ++ [(("" : Str), b)], ((a.i0 * (sz + 2) : Nat) : Int), a.rows.map fun r => strF (parts t r)⟩ f s = _ ∧ (wid t n (sz + 2) < ((a.i0 * (sz + 2) : Nat) : Int) + (lenF (parts t a.cur ++ [(("" : Str), b)] ++ [(f, s)]) : Int) → (outerFind (parts t a.cur ++ [(("" : Str), b)] ++ [(f, s)]) (sch t).cps.toList).isSome = true)
  by_cases h : a.i0 + a.cur.length = n
  · have hne := full_ne x h
    have hov := over_full (t := t) x hb h
    have hk : outerFind (parts t a.cur ++ [(("" : Str), b)] ++ [(f, s)]) (sch t).cps.toList = some (parts t a.cur).length := by
      rcases ht with ⟨rfl, rfl, rfl⟩ | ⟨rfl, rfl, rfl⟩
      · exact cut1 hne hb
      · exact cut3 hne x.body hb (hs hne)
    refine ⟨?_, fun _ => by rw [hk]; rfl⟩
    rw [stepA_cut (k := (parts t a.cur).length) (by rw [ec]; exact hov) hk, ec]
    simp only [take_app, drop_app]
    unfold Ab.step shAb
    rw [if_pos h]
    simp [parts_one]
  · have hov := not_over (t := t) x hb h
    refine ⟨?_, fun g => absurd (by rw [← ec]; exact g) hov⟩
    rw [stepA_no (by rw [ec]; exact hov), ec]
    unfold Ab.step shAb
    rw [if_neg h]
    simp [parts_snoc]

theorem slice_card (b : Str) : Txt.slice (card b) none (some (-2)) = b := by
  have hl : (card b).length = b.length + 2 := by
    show (b.cps ++ (" ;" : Str).cps).size = _
    rw [Array.size_append]; rfl
  show StrLaws.sliceText (card b) none (some (-2)) = b
  rw [StrLaws.sliceText_neg_hi _ _ (by decide) (by lia), StrLaws.sliceText_to (by
    have e : (card b).cps.toList.length = (card b).length := by rw [Array.length_toList]; rfl
    lia)]
  refine str_ext ?_
  have e1 : ((-2 : Int) + ((card b).length : Int) - 0).toNat = b.cps.toList.length := by
    rw [Array.length_toList, hl]
    show _ = b.length
    lia
  rw [e1]
  show List.take b.cps.toList.length (List.drop 0 (b.cps ++ (" ;" : Str).cps).toList) = b.cps.toList
  rw [List.drop_zero, Array.toList_append, List.take_left]
end

section
open PySem PySem.W PySem.Calls PyProof.Rows
noncomputable def abRun (n : Nat) (a : Ab) (bs : List Str) : Ab := bs.foldl (Ab.step n) a
noncomputable def rowsOf (n r : Nat) (bs : List Str) : List (List Str) := (abRun n ⟨r, [], []⟩ bs).rows ++ [(abRun n ⟨r, [], []⟩ bs).cur]
theorem join_len0 (l : List Str) : (Txt.join ("" : Str) l).length = (l.map (·.length)).sum := by
  have h := congrArg List.length (join_list l)
  rw [Array.length_toList, List.length_flatten, List.map_map] at h
  show (Txt.join ("" : Str) l).cps.size = _
  rw [h]
  congr 1
theorem strF_len (l : List (Str × Str)) : (strF l).length = lenF l := by
  unfold strF lenF
  rw [join_len0, List.map_map]
  congr 1
  refine List.map_congr_left fun x _ => ?_
  show (Txt.join ("" : Str) [x.1, x.2]).length = _
  rw [join_len0]; simp
theorem strF_list (l : List (Str × Str)) : (strF l).cps.toList = (l.map fun x => x.1.cps.toList ++ x.2.cps.toList).flatten := by
  unfold strF
  rw [join_list, List.map_map]
  congr 1
  refine List.map_congr_left fun x _ => ?_
  show (Txt.join ("" : Str) [x.1, x.2]).cps.toList = _
  rw [join_list]; simp
theorem parts_ne {t : Nat} {bs : List Str} (h : bs ≠ []) : parts t bs ≠ [] := by
  cases bs with
  | nil => exact absurd rfl h
  | cons b r =>
    have e : parts t (b :: r) = chunk t b ++ parts t r := rfl
    rw [e]
    match t with
    | 0 => simp [chunk]
    | 1 => simp [chunk]
    | 2 => simp [chunk]
    | t + 3 => simp [chunk]
theorem parts_snd {t sz : Nat} {solo : Prop} : ∀ {bs : List Str}, (∀ b ∈ bs, Body sz solo b) → ∀ p ∈ parts t bs, p.2 ≠ ("" : Str)
  | [], _, p, hp => by simp [parts] at hp
  | b :: r, h, p, hp => by
    have e : parts t (b :: r) = chunk t b ++ parts t r := rfl
    rw [e] at hp
    rcases List.mem_append.mp hp with hp | hp
    · have hb := h b (.head _)
      have h1 : b ≠ ("" : Str) := fun q => by
        have h2 := hb.first
        rw [q] at h2
        exact absurd h2 (by decide)
      have h2 : card b ≠ ("" : Str) := fun q => by
        have := congrArg Str.length q
        have e2 : (card b).length = b.length + 2 := by
          show (b.cps ++ (" ;" : Str).cps).size = _
          rw [Array.size_append]; rfl
        rw [e2] at this
        have e3 : ("" : Str).length = 0 := rfl
        lia
      match t with
      | 0 =>
        have : p = (("" : Str), card b) := by simpa [chunk] using hp
        subst this; exact h2
      | 1 =>
        have : p = (("" : Str), b) ∨ p = ((" " : Str), (";" : Str)) := by simpa [chunk] using hp
        rcases this with rfl | rfl
        · exact h1
        · decide
      | 2 =>
        have : p = ((" \t" : Str), b) := by simpa [chunk] using hp
        subst this; exact h1
      | t + 3 =>
        have : p = (("" : Str), b) ∨ p = (("" : Str), ("; " : Str)) := by simpa [chunk] using hp
        rcases this with rfl | rfl
        · exact h1
        · decide
    · exact parts_snd (fun x hx => h x (.tail _ hx)) p hp
theorem not_space {t sz : Nat} {solo : Prop} {bs : List Str} (h : ∀ b ∈ bs, Body sz solo b) (hne : bs ≠ []) : Txt.isspace (strF (parts t bs)) = false := by
  have hm : 46 ∈ (strF (parts t bs)).cps.toList := by
    rw [strF_list]
    cases bs with
    | nil => exact absurd rfl hne
    | cons b r =>
      have hb : 46 ∈ b.cps.toList := by
        have := (h b (.head _)).first
        rw [← Array.getElem?_toList] at this
        exact List.mem_of_getElem? this
      have e : parts t (b :: r) = chunk t b ++ parts t r := rfl
      rw [e, List.map_append, List.flatten_append]
      refine List.mem_append_left _ ?_
      match t with
      | 0 =>
        have e2 : (card b).cps.toList = b.cps.toList ++ [32, 59] := by show (b.cps ++ (" ;" : Str).cps).toList = _; rw [Array.toList_append]; rfl
        simp [chunk, e2, hb]
      | 1 => simp [chunk, hb]
      | 2 => simp [chunk, hb]
      | t + 3 => simp [chunk, hb]
  have hall : (strF (parts t bs)).cps.all Unicode.isSpace = false := by
    rw [Bool.eq_false_iff]
    intro q
    rw [← Array.all_toList, List.all_eq_true] at q
    have := q 46 hm
    revert this
    decide +kernel
  unfold Txt.isspace
  rw [hall, Bool.and_false]

theorem run_flat (n : Nat) : ∀ (bs : List Str) (a : Ab), (abRun n a bs).rows.flatten ++ (abRun n a bs).cur = a.rows.flatten ++ a.cur ++ bs
  | [], a => by simp [abRun]
  | b :: r, a => by
    have e : abRun n a (b :: r) = abRun n (a.step n b) r := rfl
    rw [e, run_flat n r (a.step n b)]
    unfold Ab.step
    split <;> simp
theorem rows_flat (n r : Nat) (bs : List Str) : (rowsOf n r bs).flatten = bs := by
  have := run_flat n bs ⟨r, [], []⟩
  unfold rowsOf
  rw [List.flatten_append]
  simpa using this
theorem run_snoc (n : Nat) (a : Ab) (bs : List Str) (b : Str) : abRun n a (bs ++ [b]) = (abRun n a bs).step n b := by simp [abRun]
theorem run_cur (n : Nat) {a : Ab} {bs : List Str} (h : bs ≠ []) : (abRun n a bs).cur ≠ [] := by
  refine ex2 (last_of h) fun i x zr1 => ?_
  subst zr1
  rw [run_snoc]
  unfold Ab.step
  split <;> simp
theorem run_rows (n : Nat) : ∀ (bs : List Str) (a : Ab), (abRun n a bs).rows.length ≤ a.rows.length + bs.length
  | [], a => by simp [abRun]
  | b :: r, a => by
    have e : abRun n a (b :: r) = abRun n (a.step n b) r := rfl
    rw [e]
    refine Nat.le_trans (run_rows n r _) ?_
    rw [List.length_cons]
    unfold Ab.step
    split
    · show (a.rows ++ [a.cur]).length + _ ≤ _; rw [List.length_append, List.length_singleton]; lia
    · show a.rows.length + _ ≤ _; lia
theorem rows_len (t : Nat) {sz : Nat} {solo : Prop} : ∀ {rws : List (List Str)}, (∀ b ∈ rws.flatten, Body sz solo b) → ((rws.map fun r => strF (parts t r)).map (·.length)).sum = rws.flatten.length * (sz + 2)
  | [], _ => by simp
  | r :: rs, h => by
    have ih := rows_len t (rws := rs) fun x hx => h x (by rw [List.flatten_cons]; exact List.mem_append_right _ hx)
    rw [List.map_cons, List.map_cons, List.sum_cons, ih, strF_len, lenF_parts t fun x hx => h x (by rw [List.flatten_cons]; exact List.mem_append_left _ hx), List.flatten_cons, List.length_append, Nat.add_mul]
noncomputable def sep : Nat → Str
  | 0 => ("\n" : Str)
  | 2 => ("\r\n" : Str)
  | _ => ("\r" : Str)
noncomputable def text0 (t : Nat) (rws : List (List Str)) : Str := Txt.join (sep t) (rws.map fun r => strF (parts t r))
noncomputable def textT (t : Nat) (x : Str) : Str := if t = 2 then Txt.slice (Txt.replace (Txt.replace x ("\r\n \t" : Str) (" ;\r\n" : Str)) (" \t" : Str) (" ;" : Str)) (some 2) none ++ (" ;" : Str) else x
theorem sep_len (t : Nat) : (sep t).length ≤ 2 := by
  unfold sep; split <;> exact Nat.le_of_ble_eq_true rfl
theorem text0_len {t sz : Nat} {solo : Prop} {rws : List (List Str)} (h : ∀ b ∈ rws.flatten, Body sz solo b) : (text0 t rws).length ≤ rws.flatten.length * (sz + 2) + rws.length * 2 := by
  have g : text0 t rws = Str.join (sep t) (rws.map fun r => strF (parts t r)) := StrLaws.glued_eq_join _ _
  rw [g]
  refine Nat.le_trans (StrLaws.join_length_le _ _) ?_
  rw [rows_len t h, List.length_map]
  have := Nat.mul_le_mul_left rws.length (sep_len t)
  lia
end

section
open PySem PySem.W PySem.Calls PyProof.Rows
noncomputable def ahead (s : List Nat) : List (List Nat) → List (List Nat)
  | [] => [s]
  | h :: t => (s ++ h) :: t
theorem ahead_ahead (a b : List Nat) (l : List (List Nat)) : ahead a (ahead b l) = ahead (a ++ b) l := by
  cases l <;> simp [ahead]
theorem ahead_nil {l : List (List Nat)} (h : l ≠ []) : ahead [] l = l := by
  cases l with
  | nil => exact absurd rfl h
  | cons a t => rfl
noncomputable def spl (y : List Nat) : Nat → List Nat → List (List Nat)
  | _, [] => [[]]
  | k + 1, _ :: r => spl y k r
  | 0, c :: r => if (c :: r).take y.length = y then [] :: spl y (y.length - 1) r else ahead [c] (spl y 0 r)
noncomputable def jn (z : List Nat) : List (List Nat) → List Nat
  | [] => []
  | [x] => x
  | x :: y :: r => x ++ z ++ jn z (y :: r)
noncomputable def repl (y z x : List Nat) : List Nat := jn z (spl y 0 x)
theorem spl_ne (y : List Nat) : ∀ (k : Nat) (x : List Nat), spl y k x ≠ []
  | _, [] => by simp [spl]
  | k + 1, _ :: r => by unfold spl; exact spl_ne y k r
  | 0, c :: r => by
    unfold spl
    split
    · simp
    · cases h : spl y 0 r <;> simp [ahead]
theorem spl_skip (y : List Nat) : ∀ (k : Nat) (x : List Nat), spl y k x = spl y 0 (x.drop k)
  | 0, x => rfl
  | k + 1, [] => by simp [spl]
  | k + 1, c :: r => by
    rw [List.drop_succ_cons, ← spl_skip y k r]
    rfl
theorem spl_miss {y r : List Nat} {c : Nat} (h : (c :: r).take y.length ≠ y) : spl y 0 (c :: r) = ahead [c] (spl y 0 r) := by
  rw [spl, if_neg h]
theorem spl_hit {y : List Nat} (r : List Nat) (h : y ≠ []) : spl y 0 (y ++ r) = [] :: spl y 0 r := by
  cases y with
  | nil => exact absurd rfl h
  | cons a t =>
    rw [List.cons_append, spl, if_pos (by simp)]
    rw [spl_skip]
    simp
theorem spl_pass {y : List Nat} {a : Nat} {t : List Nat} (e : y = a :: t) : ∀ (s r : List Nat), a ∉ s → spl y 0 (s ++ r) = ahead s (spl y 0 r)
  | [], r, _ => by rw [List.nil_append, ahead_nil (spl_ne y 0 r)]
  | c :: s, r, h => by
    rw [List.cons_append, spl_miss (by
      subst e
      intro q
      rw [List.length_cons, List.take_succ_cons] at q
      injection q with q1 _
      exact h (by rw [q1]; exact .head _)), spl_pass e s r (fun hm => h (.tail _ hm)), ahead_ahead]
    rfl
theorem jn_ahead (z s : List Nat) : ∀ (l : List (List Nat)), l ≠ [] → jn z (ahead s l) = s ++ jn z l
  | [], h => absurd rfl h
  | [x], _ => rfl
  | x :: y :: r, _ => by simp [ahead, jn]
theorem jn_nil_cons (z : List Nat) {l : List (List Nat)} (h : l ≠ []) : jn z ([] :: l) = z ++ jn z l := by
  cases l with
  | nil => exact absurd rfl h
  | cons a t => simp [jn]
theorem repl_nil (y z : List Nat) : repl y z [] = [] := by simp [repl, spl, jn]
theorem repl_pass {y z : List Nat} {a : Nat} {t : List Nat} (e : y = a :: t) (s r : List Nat) (h : a ∉ s) : repl y z (s ++ r) = s ++ repl y z r := by
  unfold repl; rw [spl_pass e s r h, jn_ahead _ _ _ (spl_ne _ _ _)]
theorem repl_hit {y z : List Nat} (r : List Nat) (h : y ≠ []) : repl y z (y ++ r) = z ++ repl y z r := by
  unfold repl; rw [spl_hit r h, jn_nil_cons _ (spl_ne _ _ _)]
theorem repl_miss {y z r : List Nat} {c : Nat} (h : (c :: r).take y.length ≠ y) : repl y z (c :: r) = c :: repl y z r := by
  unfold repl; rw [spl_miss h, jn_ahead _ _ _ (spl_ne _ _ _)]; rfl
open StrLaws PySem.Builtin.Str in
theorem at_iff {x y : Str} (i : Nat) (hy : 1 ≤ y.length) : At x y x.length i ↔ (x.cps.toList.drop i).take y.cps.toList.length = y.cps.toList := by
  have hl : y.cps.toList.length = y.length := by rw [Array.length_toList]; rfl
  have hx : x.cps.toList.length = x.length := by rw [Array.length_toList]; rfl
  unfold At
  rw [subAt_eq, hl]
  constructor
  · rintro ⟨_, h⟩; exact eq_of_beq h
  · intro h
    refine ⟨?_, beq_iff_eq.mpr h⟩
    have := congrArg List.length h
    rw [List.length_take, List.length_drop, hl, hx] at this
    have h9 := Nat.le_trans (Nat.le_of_eq this.symm) (Nat.min_le_right _ _)
    have h8 := Nat.add_le_of_le_sub (Nat.le_of_lt (Nat.lt_of_sub_pos (Nat.lt_of_lt_of_le hy h9))) h9
    first | exact h8 | (rw [Nat.add_comm]; exact h8)
theorem spl_gap (y x : List Nat) : ∀ (d a : Nat), (∀ k, a ≤ k → k < a + d → (x.drop k).take y.length ≠ y) → a + d ≤ x.length → spl y 0 (x.drop a) = ahead ((x.drop a).take d) (spl y 0 (x.drop (a + d)))
  | 0, a, _, _ => by simp [ahead_nil (spl_ne _ _ _)]
  | d + 1, a, h, hl => by
    have ha1 : a < a + (d + 1) := Nat.lt_add_of_pos_right (Nat.succ_pos d)
    have hlt : a < x.length := Nat.lt_of_lt_of_le ha1 hl
    rw [List.drop_eq_getElem_cons hlt, spl_miss (by rw [← List.drop_eq_getElem_cons hlt]; exact h a (Nat.le_refl _) ha1), spl_gap y x d (a + 1) (fun k h1 h2 => h k (Nat.le_of_succ_le h1) (by rw [Nat.add_right_comm] at h2; exact h2)) (by rw [Nat.add_right_comm]; exact hl), ahead_ahead]
    rw [show a + 1 + d = a + (d + 1) from Nat.add_right_comm a 1 d]
    rfl
open StrLaws PySem.Builtin.Str in
theorem parts_spl {x y : Str} (hy : 1 ≤ y.length) : ∀ (cuts : List Nat) (a f : Nat), a ≤ x.length → ChainG x y x.length a cuts f → (∀ k, f ≤ k → ¬ At x y x.length k) →
    (partsFrom x y.length a cuts).map (·.cps.toList) = spl y.cps.toList 0 (x.cps.toList.drop a)
  | [], a, f, ha, h, hn => by
    have e : f = a := h
    subst e
    have hx : x.cps.toList.length = x.length := by rw [Array.length_toList]; rfl
    have := spl_gap y.cps.toList x.cps.toList (x.length - f) f (fun k h1 _ => fun q => hn k h1 ((at_iff k hy).mpr q)) (by rw [hx, Nat.add_sub_cancel' ha]; exact Nat.le_refl _)
    rw [this, show f + (x.length - f) = x.cps.toList.length from by rw [hx, Nat.add_sub_cancel' ha], List.drop_length]
    show [(strSub x f x.length).cps.toList] = _
    rw [strSub_toList]
    simp [spl, ahead]
  | c :: r, a, f, ha, h, hn => by
    have hx : x.cps.toList.length = x.length := by rw [Array.length_toList]; rfl
    have hc := h.2.1.1
    have ih := parts_spl hy r (c + y.length) f hc h.2.2.2 hn
    have h1 := h.1
    have := spl_gap y.cps.toList x.cps.toList (c - a) a (fun k g1 g2 => fun q => h.2.2.1 k g1 (by rw [Nat.add_sub_cancel' h1] at g2; exact g2) ((at_iff k hy).mpr q)) (by rw [Nat.add_sub_cancel' h1, hx]; exact Nat.le_trans (Nat.le_add_right c y.length) hc)
    rw [this, Nat.add_sub_cancel' h1]
    show (strSub x a c).cps.toList :: (partsFrom x y.length (c + y.length) r).map (·.cps.toList) = _
    rw [ih, strSub_toList]
    have hy2 : y.cps.toList ≠ [] := by
      intro q
      have := congrArg List.length q
      rw [Array.length_toList] at this
      have e : y.cps.size = y.length := rfl
      have e0 : ([] : List Nat).length = 0 := rfl
      lia
    have e2 : x.cps.toList.drop c = y.cps.toList ++ x.cps.toList.drop (c + y.length) := by
      have := (at_iff c hy).mp h.2.1
      rw [← List.take_append_drop y.cps.toList.length (x.cps.toList.drop c), this, List.drop_drop]
      congr 2
    rw [e2, spl_hit _ hy2]
    simp [ahead]
open StrLaws PySem.Builtin.Str in
theorem occ_spl {x y : Str} (hy : 1 ≤ y.length) : (partsBetween x (occurrences x y 0 x.length (x.length + 1)) y.length).map (·.cps.toList) = spl y.cps.toList 0 x.cps.toList := by
  refine Exists.elim (occ_tight x y hy) fun f hx => an2 hx fun h1 h2 => ?_
  rw [partsBetween_eq]
  have := parts_spl hy _ 0 f (Nat.zero_le _) h1 h2
  simpa using this

open StrLaws PySem.Builtin.Str in
theorem occ_none {x y : Str} (hy : 1 ≤ y.length) (h : (occurrences x y 0 x.length (x.length + 1)).isEmpty = true) : spl y.cps.toList 0 x.cps.toList = [x.cps.toList] := by
  rw [← occ_spl hy, List.isEmpty_iff.mp h, partsBetween_eq]
  show [(strSub x 0 x.length).cps.toList] = _
  rw [sub_whole]
theorem join_jn (z : Str) : ∀ ps : List Str, (Str.join z ps).cps.toList = jn z.cps.toList (ps.map (·.cps.toList))
  | [] => rfl
  | [x] => rfl
  | x :: y :: r => by
    have ih := join_jn z (y :: r)
    show (x.cps ++ z.cps ++ (Str.join z (y :: r)).cps).toList = _
    rw [Array.toList_append, Array.toList_append, ih]
    rfl
open StrLaws PySem.Builtin.Str in
theorem replace_list {x y z : Str} (hy : 1 ≤ y.length) : (Txt.replace x y z).cps.toList = repl y.cps.toList z.cps.toList x.cps.toList := by
  unfold Txt.replace
  split
  · rename_i h
    have h2 : (occurrences x y 0 x.length (x.length + 1)).isEmpty = true := by
      cases h3 : (occurrences x y 0 x.length (x.length + 1)).isEmpty
      · rw [h3] at h
        simp at h
        have e : y.length = y.cps.size := rfl
        lia
      · rfl
    unfold repl
    rw [occ_none hy h2]; rfl
  · rw [glued_eq_join, join_jn]
    unfold repl
    rw [occ_spl hy]
open StrLaws PySem.Builtin.Str in
theorem split_list {x y : Str} (hy : 1 ≤ y.length) (hk : PySem.Builtin.Str.strKind y = 1) : (Txt.split x y).map (·.cps.toList) = spl y.cps.toList 0 x.cps.toList := by
  unfold Txt.split
  split
  · rename_i h
    have hlt : x.length < y.length := by
      rw [hk] at h
      have : 1 ≤ PySem.Builtin.Str.strKind x := by unfold PySem.Builtin.Str.strKind; split; decide; split <;> decide
      simp at h
      lia
    have hx : x.cps.toList.length = x.length := by rw [Array.length_toList]; rfl
    have := spl_gap y.cps.toList x.cps.toList x.length 0 (fun k _ _ q => by
      have := congrArg List.length q
      rw [List.length_take, List.length_drop, Array.length_toList (xs := y.cps)] at this
      have e : y.cps.size = y.length := rfl
      lia) (by lia)
    rw [List.drop_zero, Nat.zero_add, ← hx, List.drop_length, List.take_length] at this
    rw [this]
    simp [spl, ahead]
  · split
    · rename_i h
      rw [occ_none hy h]; rfl
    · exact occ_spl hy
theorem jn_len (z : List Nat) : ∀ l : List (List Nat), (jn z l).length ≤ (l.map List.length).sum + l.length * z.length
  | [] => Nat.zero_le _
  | [x] => by simp [jn]
  | x :: y :: r => by
    have ih := jn_len z (y :: r)
    simp only [jn, List.length_append, List.map_cons, List.sum_cons, List.length_cons] at ih ⊢
    rw [Nat.add_mul (r.length + 1) 1] 
    lia
theorem ahead_sum (s : List Nat) : ∀ l : List (List Nat), ((ahead s l).map List.length).sum = s.length + (l.map List.length).sum
  | [] => by simp [ahead]
  | h :: t => by simp [ahead]; lia
theorem ahead_len (s : List Nat) : ∀ l : List (List Nat), l ≠ [] → (ahead s l).length = l.length
  | [], h => absurd rfl h
  | h :: t, _ => by simp [ahead]
theorem spl_sum (y : List Nat) : ∀ (k : Nat) (x : List Nat), ((spl y k x).map List.length).sum ≤ x.length ∧ (spl y k x).length ≤ x.length + 1
  | _, [] => by simp [spl]
  | k + 1, _ :: r => by
    have ih := spl_sum y k r
    unfold spl
    simp only [List.length_cons]; lia
  | 0, c :: r => by
    unfold spl
    split
    · have ih := spl_sum y (y.length - 1) r
      simp only [List.map_cons, List.sum_cons, List.length_cons, List.length_nil]; lia
    · have ih := spl_sum y 0 r
      rw [ahead_sum, ahead_len _ _ (spl_ne _ _ _)]
      simp only [List.length_cons, List.length_nil]; lia
theorem repl_len (y z x : List Nat) : (repl y z x).length ≤ x.length + (x.length + 1) * z.length := by
  have h1 := jn_len z (spl y 0 x)
  have h2 := spl_sum y 0 x
  have h3 := Nat.mul_le_mul_right z.length h2.2
  unfold repl
  lia
theorem replace_len {x y z : Str} (hy : 1 ≤ y.length) : (Txt.replace x y z).length ≤ x.length + (x.length + 1) * z.length := by
  have h := repl_len y.cps.toList z.cps.toList x.cps.toList
  rw [← replace_list hy, Array.length_toList, Array.length_toList, Array.length_toList] at h
  exact h
end

section
open PySem PySem.W PySem.Calls PyProof.Rows
theorem repl_same {y z : List Nat} (hy : 1 ≤ y.length) (hz : z.length ≤ y.length) : ∀ (n : Nat) (x : List Nat), x.length ≤ n → (repl y z x).length ≤ x.length
  | _, [], _ => by simp [repl, spl, jn]
  | 0, _ :: _, h => absurd h (by simp)
  | n + 1, c :: r, h => by
    rw [List.length_cons] at h
    by_cases e : (c :: r).take y.length = y
    · have e2 : c :: r = y ++ (c :: r).drop y.length := by
        conv => lhs; rw [← List.take_append_drop y.length (c :: r), e]
      have h3 := congrArg List.length e2
      rw [List.length_append, List.length_cons] at h3
      have ih := repl_same hy hz n ((c :: r).drop y.length) (by lia)
      rw [e2, repl_hit _ (by intro e; rw [e] at hy; exact absurd hy (by decide)), List.length_append, List.length_append]
      lia
    · have ih := repl_same hy hz n r (by lia)
      rw [repl_miss e, List.length_cons, List.length_cons]
      lia
theorem replace_len1 {x y z : Str} (hy : 1 ≤ y.length) (hz : z.length ≤ y.length) : (Txt.replace x y z).length ≤ x.length := by
  have h := repl_same (y := y.cps.toList) (z := z.cps.toList) (by rw [Array.length_toList]; exact hy) (by rw [Array.length_toList, Array.length_toList]; exact hz) _ x.cps.toList (Nat.le_refl _)
  rw [← replace_list hy, Array.length_toList, Array.length_toList] at h
  exact h
end

section
open PySem PySem.W PySem.Calls PyProof.Rows
open PySem.Sre
noncomputable def code1 : Array Nat := #[14, 4, 0, 1, 1, 6, 1, 16, 46, 1]
noncomputable def code2 : Array Nat := #[14, 9, 4, 1, 2, 16, 10, 16, 13, 0, 7, 7, 16, 13, 16, 10, 15, 18, 5, 16, 10, 15, 13, 11, 16, 13, 5, 5, 0, 16, 10, 1, 15, 2, 0, 1]

noncomputable def Ev (P : Sre.M → Prop) (k : Nat) (m : Sre.M) : Prop := P (M.runFor k m)
theorem runFor_done {m : Sre.M} (h : m.outcome.isSome = true) : ∀ k, M.runFor k m = m
  | 0 => rfl
  | k + 1 => by unfold M.runFor; rw [if_pos h]
theorem runFor_succ (k : Nat) (m : Sre.M) : M.runFor (k + 1) m = if m.outcome.isSome then m else M.runFor k m.step := rfl
theorem runFor_add : ∀ (a b : Nat) (m : Sre.M), M.runFor (a + b) m = M.runFor b (M.runFor a m)
  | 0, b, m => by rw [Nat.zero_add]; rfl
  | a + 1, b, m => by
    rw [Nat.succ_add, Nat.succ_eq_add_one, runFor_succ, runFor_succ]
    by_cases h : m.outcome.isSome = true
    · rw [if_pos h, if_pos h, runFor_done h]
    · rw [if_neg h, if_neg h, runFor_add a b m.step]
theorem Ev.zero {P : Sre.M → Prop} {m : Sre.M} (h : P m) : Ev P 0 m := h
theorem Ev.step {P : Sre.M → Prop} {k : Nat} {m m' : Sre.M} (h0 : m.outcome = none) (e : m.step = m') (h : Ev P k m') : Ev P (k + 1) m := by
  subst e
  unfold Ev M.runFor
  rw [h0]; exact h
theorem Ev.le {P : Sre.M → Prop} {a b : Nat} {m : Sre.M} (h : Ev (fun m => P m ∧ m.outcome.isSome = true) a m) (hab : a ≤ b) : Ev (fun m => P m ∧ m.outcome.isSome = true) b m := by
  refine Exists.elim (Nat.exists_eq_add_of_le hab) fun c zr2 => ?_
  subst zr2
  unfold Ev; rw [runFor_add, runFor_done h.2]; exact h

section
variable {m : Sre.M}
theorem st_exec (h0 : m.outcome = none) (h1 : m.answer = none) (h2 : m.pc < m.code.size) : m.step = m.exec := by
  unfold M.step
  rw [h0, h1]
  simp only [Option.isSome, Bool.false_eq_true, if_false]
  rw [if_pos h2]
theorem st_lit (c : Nat) (h0 : m.outcome = none) (h1 : m.answer = none) (h2 : m.pc < m.code.size) (ho : m.code.getD m.pc 0 = 16) (hw : m.code.getD (m.pc + 1) 0 = c) :
    m.step = if m.pos < m.lim ∧ m.text.getD m.pos 0 = c then { m with seen := m.seen.add 16, pc := m.pc + 2, pos := m.pos + 1 } else { m with seen := m.seen.add 16, answer := some false } := by
  subst hw
  rw [st_exec h0 h1 h2]
  unfold M.exec M.word
  rw [Nat.add_zero, ho]
  simp only [show ops[16]? = some Op.LITERAL from rfl, M.say]
  by_cases hp : m.pos ≥ m.lim
  · rw [if_pos hp, if_neg (by omega)]
  · rw [if_neg hp]
    unfold accepts itemWidth
    rw [ho]
    simp only [show ops[16]? = some Op.LITERAL from rfl]
    by_cases hc : m.text.getD m.pos 0 = m.code.getD (m.pc + 1) 0
    · rw [if_pos ⟨by lia, hc⟩, beq_iff_eq.mpr hc]
    · rw [if_neg (fun x => hc x.2), beq_eq_false_iff_ne.mpr hc]
theorem st_jump (j : Nat) (h0 : m.outcome = none) (h1 : m.answer = none) (h2 : m.pc < m.code.size) (ho : m.code.getD m.pc 0 = 15) (hw : m.code.getD (m.pc + 1) 0 = j) :
    m.step = { m with seen := m.seen.add 15, pc := m.pc + 1 + j } := by
  subst hw
  rw [st_exec h0 h1 h2]
  unfold M.exec M.word
  rw [Nat.add_zero, ho]
  rfl
theorem st_success (h0 : m.outcome = none) (h1 : m.answer = none) (h2 : m.pc < m.code.size) (ho : m.code.getD m.pc 0 = 1) (hw : m.wholeText = false) (hp : m.pos ≠ m.start) :
    m.step = { m with seen := m.seen.add 1, handed := m.pos, answer := some true } := by
  rw [st_exec h0 h1 h2]
  unfold M.exec M.word
  rw [Nat.add_zero, ho]
  simp only [show ops[1]? = some Op.SUCCESS from rfl, M.say, hw, Bool.false_and, Bool.false_or, beq_eq_false_iff_ne.mpr hp, Bool.and_false, Bool.false_eq_true, if_false]
theorem st_at (h0 : m.outcome = none) (h1 : m.answer = none) (h2 : m.pc < m.code.size) (ho : m.code.getD m.pc 0 = 6) (hw : m.code.getD (m.pc + 1) 0 = 1) :
    m.step = if m.pos = 0 ∨ m.text.getD (m.pos - 1) 0 = 10 then { m with seen := (m.seen.add 6).add 44, pc := m.pc + 2 } else { m with seen := (m.seen.add 6).add 44, answer := some false } := by
  rw [st_exec h0 h1 h2]
  unfold M.exec M.word
  rw [Nat.add_zero, ho]
  have e : ∀ q : Sre.M, q.isAt 1 = .ok (q.pos == 0 || q.text.getD (q.pos - 1) 0 == 10) := fun _ => rfl
  simp only [show ops[6]? = some Op.AT from rfl, e, M.say, hw]
  by_cases hc : m.pos = 0 ∨ m.text.getD (m.pos - 1) 0 = 10
  · rw [if_pos hc, if_pos (by simpa using hc)]
  · rw [if_neg hc, if_neg (by simpa using hc)]
theorem st_branch (h0 : m.outcome = none) (h1 : m.answer = none) (h2 : m.pc < m.code.size) (ho : m.code.getD m.pc 0 = 7) (hi : m.inner = none) (hz : m.code.getD (m.pc + 1) 0 ≠ 0) (hw : m.weight ≤ 1000) :
    m.step = { m with seen := m.seen.add 7, frames := { wait := .nextBranch, pc := m.pc + 1, pos := m.pos, outermost := m.outermost, kept := { lastmark := m.lastmark, lastindex := m.lastindex } } :: m.frames, weight := m.weight + 1, pc := m.pc + 2, handed := m.pos } := by
  rw [st_exec h0 h1 h2]
  unfold M.exec M.word
  rw [Nat.add_zero, ho]
  simp only [show ops[7]? = some Op.BRANCH from rfl, M.alternative, M.keep, hi, Option.isSome, M.attempt, M.frame, beq_eq_false_iff_ne.mpr hz, Bool.false_eq_true, if_false]
  rw [if_neg (by simp; lia)]
  rfl
theorem st_resume {y : Bool} {f : Sre.Frame} {r : List Sre.Frame} (h0 : m.outcome = none) (h1 : m.answer = some y) (hf : m.frames = f :: r) :
    m.step = M.resume { m with answer := none, frames := r, weight := m.weight - (1 + f.kept.marks.size), pc := f.pc, pos := f.pos, outermost := f.outermost } f y := by
  unfold M.step
  rw [h0, h1, hf]
  rfl
theorem st_end {y : Bool} (h0 : m.outcome = none) (h1 : m.answer = some y) (hf : m.frames = []) :
    m.step = { m with outcome := some (if y then .matched else .failed) } := by
  unfold M.step
  rw [h0, h1, hf]
  rfl
end

noncomputable def mk1 (t : Array Nat) (s : Nat) (b : Bool) (sn : Sre.Seen) (must : Bool) : Sre.M :=
  { code := code1, text := t, lim := t.size, start := s, lastStart := t.size, mustAdvance := must, pc := 5, pos := s, handed := s, outermost := b, marks := #[], seen := sn, weight := 1, frames := [{ wait := .nextStart, pc := 5, pos := s, outermost := b }] }
noncomputable def hit1 (t : Array Nat) (s : Nat) : Bool := (s == 0 || t.getD (s - 1) 0 == 10) && (decide (s < t.size) && t.getD s 0 == 46)
noncomputable def findH (hit : Nat → Bool) : Nat → Nat → Option Nat
  | 0, _ => none
  | k + 1, s => if hit s then some s else findH hit k (s + 1)
noncomputable def Res (w : Nat → Nat) : Option Nat → Sre.M → Prop
  | some p, m => m.outcome = some .matched ∧ m.start = p ∧ m.handed = p + w p
  | none, m => m.outcome = some .failed
noncomputable def ResD (w : Nat → Nat) (r : Option Nat) (m : Sre.M) : Prop := Res w r m ∧ m.outcome.isSome = true
theorem ResD.of {w : Nat → Nat} {r : Option Nat} {m : Sre.M} (h : Res w r m) : ResD w r m := by
  refine ⟨h, ?_⟩
  cases r with
  | none => unfold Res at h; rw [h]; rfl
  | some p => unfold Res at h; rw [h.1]; rfl
theorem resume1 (t : Array Nat) (s p h : Nat) (b b2 must : Bool) (sn : Sre.Seen) :
    M.resume { code := code1, text := t, lim := t.size, start := s, lastStart := t.size, mustAdvance := must, pc := 5, pos := s, handed := h, outermost := b2, marks := #[], seen := sn, weight := 1 - (1 + 0) } { wait := .nextStart, pc := 5, pos := s, outermost := b } false =
      if s < t.size then mk1 t (s + 1) false sn false else { code := code1, text := t, lim := t.size, start := s, lastStart := t.size, mustAdvance := must, pc := 5, pos := s, handed := h, outermost := b2, marks := #[], seen := sn, answer := some false } := by
  unfold M.resume
  simp only [Bool.false_eq_true, if_false]
  by_cases h : s < t.size
  · rw [if_pos h, if_pos h]
    rfl
  · rw [if_neg h, if_neg h]
    rfl
theorem fail1 {t : Array Nat} {s h p pc : Nat} {b b2 must : Bool} {sn : Sre.Seen} {d : Nat} {r : Option Nat}
    (hr : findH (hit1 t) (d + 1) s = r) (hn : hit1 t s = false) (hd : t.size - s = d) (hs : s ≤ t.size)
    (ih : s < t.size → ∀ sn, Ev (ResD (fun _ => 1) (findH (hit1 t) (t.size - (s + 1) + 1) (s + 1))) (3 * (t.size - (s + 1)) + 6) (mk1 t (s + 1) false sn false)) :
    Ev (ResD (fun _ => 1) r) (3 * d + 4)
      { code := code1, text := t, lim := t.size, start := s, lastStart := t.size, mustAdvance := must, pc := pc, pos := p, handed := h, outermost := b2, marks := #[], seen := sn, weight := 1, frames := [{ wait := .nextStart, pc := 5, pos := s, outermost := b }], answer := some false } := by
  have e1 : r = findH (hit1 t) d (s + 1) := by rw [← hr, findH, hn]; rfl
  have g : 3 * d + 4 = (3 * d + 3) + 1 := rfl
  rw [g]
  refine Ev.step rfl ((st_resume rfl rfl rfl).trans (resume1 t s p h b b must sn)) ?_
  by_cases hlt : s < t.size
  · rw [if_pos hlt, e1]
    have hob : ∃ d', d = d' + 1 := Nat.exists_eq_succ_of_ne_zero (hd ▸ Nat.sub_ne_zero_of_lt hlt)
    refine Exists.elim hob fun d' zr1 => ?_
    clear hob
    subst zr1
    have := ih hlt sn
    rw [show t.size - (s + 1) = d' from sub_s hd] at this
    exact this
  · rw [if_neg hlt]
    have : d = 0 := hd.symm.trans (Nat.sub_eq_zero_of_le (Nat.not_lt.mp hlt))
    subst this
    refine Ev.le (a := 1) (Ev.step rfl (st_end rfl rfl rfl) (Ev.zero (ResD.of ?_))) (by lia)
    rw [e1]; rfl
theorem search1_go (t : Array Nat) (d s : Nat) (b : Bool) (sn : Sre.Seen) (must : Bool) (hd : t.size - s = d) (hs : s ≤ t.size)
    (ih : s < t.size → ∀ sn, Ev (ResD (fun _ => 1) (findH (hit1 t) (t.size - (s + 1) + 1) (s + 1))) (3 * (t.size - (s + 1)) + 6) (mk1 t (s + 1) false sn false)) :
    Ev (ResD (fun _ => 1) (findH (hit1 t) (d + 1) s)) (3 * d + 6) (mk1 t s b sn must) := by
  have g : 3 * d + 6 = (3 * d + 5) + 1 := rfl
  rw [g]
  unfold mk1
  refine Ev.step rfl (st_at rfl rfl (by dsimp only; decide) rfl rfl) ?_
  dsimp only
  by_cases hA : s = 0 ∨ t.getD (s - 1) 0 = 10
  · rw [if_pos hA]
    have g : 3 * d + 5 = (3 * d + 4) + 1 := rfl
    rw [g]
    refine Ev.step rfl (st_lit 46 rfl rfl (by dsimp only; decide) rfl rfl) ?_
    dsimp only
    by_cases hB : s < t.size ∧ t.getD s 0 = 46
    · have hh : hit1 t s = true := by
        unfold hit1
        rw [decide_eq_true hB.1, beq_iff_eq.mpr hB.2]
        simpa using hA
      have hf : findH (hit1 t) (d + 1) s = some s := by unfold findH; rw [hh]; rfl
      rw [hf, if_pos hB]
      refine Ev.le (a := 3) (Ev.step rfl (st_success rfl rfl (by dsimp only; decide) rfl rfl (Nat.succ_ne_self s)) ?_) (by lia)
      refine Ev.step rfl (st_resume rfl rfl rfl) ?_
      refine Ev.step rfl (st_end rfl rfl rfl) (Ev.zero (ResD.of ⟨rfl, rfl, rfl⟩))
    · rw [if_neg hB]
      refine fail1 rfl ?_ hd hs ih
      unfold hit1
      cases e : (decide (s < t.size) && t.getD s 0 == 46)
      · simp
      · exact absurd (by simpa using e) hB
  · rw [if_neg hA]
    refine Ev.le (fail1 rfl ?_ hd hs ih) (by lia)
    unfold hit1
    cases e : (s == 0 || t.getD (s - 1) 0 == 10)
    · simp
    · exact absurd (by simpa using e) hA
theorem search1 (t : Array Nat) : ∀ (d s : Nat) (b : Bool) (sn : Sre.Seen) (must : Bool), t.size - s = d → s ≤ t.size → Ev (ResD (fun _ => 1) (findH (hit1 t) (d + 1) s)) (3 * d + 6) (mk1 t s b sn must) := by
  intro d
  induction d with
  | zero => exact fun s b sn must hd hs => search1_go t _ s b sn must hd hs (fun h => absurd h (by lia))
  | succ d ih => exact fun s b sn must hd hs => search1_go t _ s b sn must hd hs (fun h sn' => by
      have := ih (s + 1) false sn' false (sub_s hd) h
      rw [show t.size - (s + 1) = d from sub_s hd]; exact this)
theorem none_at {hit : Nat → Bool} {s : Nat} (h : hit s = false) : findH hit 1 s = none := by unfold findH; rw [h]; rfl
theorem ev_say {m : Sre.M} {w : Nat → Nat} (h0 : m.outcome = none) (hf : m.frames = []) : Ev (ResD w none) 1 (m.say false) := by
  refine Ev.step (m' := { m with answer := some false, outcome := some .failed }) h0 ?_ (Ev.zero (ResD.of rfl))
  unfold M.step M.say
  rw [h0, hf]
  rfl
theorem next1 (t : Array Nat) (s : Nat) (must : Bool) (hs : s ≤ t.size) : Ev (ResD (fun _ => 1) (findH (hit1 t) (t.size - s + 1) s)) (3 * (t.size - s) + 6) (forSearch code1 t 0 s t.size must) := by
  by_cases hlt : s < t.size
  · have e : forSearch code1 t 0 s t.size must = mk1 t s true (({} : Sre.Seen).add 14) must := by
      show (if _ then _ else _) = _
      rw [if_neg]
      · rfl
      · show ¬ ((decide (s > t.size) || decide (t.size - s < 1)) = true)
        simp; lia
    rw [e]
    exact search1 t _ s true _ must rfl hs
  · have e0 : s = t.size := by lia
    subst e0
    rw [Nat.sub_self, none_at (by unfold hit1; simp)]
    refine Ev.le (a := 1) ?_ (by lia)
    show Ev _ 1 (if _ then _ else _)
    rw [if_pos]
    · exact ev_say rfl rfl
    · show (decide (t.size > t.size) || decide (t.size - t.size < 1)) = true
      simp

noncomputable def mk2 (t : Array Nat) (s : Nat) (b : Bool) (sn : Sre.Seen) (must : Bool) : Sre.M :=
  { code := code2, text := t, lim := t.size, start := s, lastStart := t.size, mustAdvance := must, pc := 10, pos := s, handed := s, outermost := b, marks := #[], seen := sn, weight := 1, frames := [{ wait := .nextStart, pc := 10, pos := s, outermost := b }] }
noncomputable def hit2 (t : Array Nat) (s : Nat) : Bool := decide (s < t.size) && (t.getD s 0 == 10 || t.getD s 0 == 13)
noncomputable def w2 (t : Array Nat) (s : Nat) : Nat := if t.getD s 0 = 13 ∧ s + 1 < t.size ∧ t.getD (s + 1) 0 = 10 then 2 else 1
theorem inSet2 (c : Nat) (sn : Sre.Seen) : ∃ sn', inSet code2 c code2.size 5 true sn = .ok (c == 10 || c == 13, sn') := by
  have e : inSet code2 c code2.size 5 true sn = if c == 10 then .ok (true, sn.add 16) else if c == 13 then .ok (true, (sn.add 16).add 16) else .ok (false, ((sn.add 16).add 16).add 0) := rfl
  rw [e]
  cases c == 10
  · cases c == 13
    · exact ⟨_, rfl⟩
    · exact ⟨_, rfl⟩
  · exact ⟨_, rfl⟩
theorem admitted2 {m : Sre.M} {t : Array Nat} (hc : m.code = code2) (ht : m.text = t) (hl : m.lim = t.size) : ∀ (k s : Nat) (sn : Sre.Seen), ∃ sn', M.admitted m k s sn = .ok (findH (hit2 t) k s, sn')
  | 0, s, sn => ⟨sn, rfl⟩
  | k + 1, s, sn => by
    unfold M.admitted
    rw [hc, ht, hl]
    by_cases h : s ≥ t.size
    · rw [if_pos h]
      have : ∀ k s, s ≥ t.size → findH (hit2 t) k s = none := by
        intro k
        induction k with
        | zero => exact fun _ _ => rfl
        | succ k ih => intro s hs; unfold findH; rw [show hit2 t s = false by unfold hit2; rw [decide_eq_false (by lia)]; rfl]; exact ih _ (by lia)
      exact ⟨sn, by rw [this _ _ h]⟩
    · rw [if_neg h]
      refine Exists.elim (inSet2 (t.getD s 0) sn) fun sn' e => ?_
      rw [e]
      cases hb : (t.getD s 0 == 10 || t.getD s 0 == 13)
      · refine Exists.elim (admitted2 hc ht hl k (s + 1) sn') fun sn2 e2 => ?_
        refine ⟨sn2, ?_⟩
        dsimp only
        rw [e2, findH, show hit2 t s = false by unfold hit2; rw [hb]; simp]
        rfl
      · refine ⟨sn', ?_⟩
        dsimp only
        rw [findH, show hit2 t s = true by unfold hit2; rw [hb, decide_eq_true (by lia)]; rfl]
        rfl
noncomputable def stB (t : Array Nat) (s a pc p : Nat) (o : Bool) (h : Nat) (fr : List Sre.Frame) (wt : Nat) (sn : Sre.Seen) (an : Option Bool) : Sre.M :=
  { code := code2, text := t, lim := t.size, start := s, lastStart := t.size, mustAdvance := false, pc := pc, pos := p, handed := h, outermost := o, marks := #[], seen := sn, weight := wt + 2,
    frames := fr ++ [{ wait := .nextBranch, pc := a, pos := s, outermost := true }, { wait := .nextStart, pc := 10, pos := s, outermost := true }], answer := an }
theorem branch2 (t : Array Nat) (s : Nat) (sn : Sre.Seen) : (mk2 t s true sn false).step = stB t s 11 12 s true s [] 0 (sn.add 7) none :=
  (st_branch rfl rfl (by unfold mk2; dsimp only; decide) rfl rfl (by unfold mk2; dsimp only; decide) (by unfold mk2; dsimp only; lia)).trans rfl
theorem next_alt (t : Array Nat) (s pc p h : Nat) (sn : Sre.Seen) : (stB t s 11 pc p true h [] 0 sn (some false)).step = stB t s 18 19 s true s [] 0 sn none :=
  (st_resume rfl rfl rfl).trans rfl
theorem next_alt2 (t : Array Nat) (s pc p h : Nat) (sn : Sre.Seen) : (stB t s 18 pc p true h [] 0 sn (some false)).step = stB t s 23 24 s true s [] 0 sn none :=
  (st_resume rfl rfl rfl).trans rfl
theorem lit2 (t : Array Nat) (s a pc p c : Nat) (o : Bool) (h : Nat) (fr : List Sre.Frame) (wt : Nat) (sn : Sre.Seen) (h2 : pc < 36) (ho : code2.getD pc 0 = 16) (hw : code2.getD (pc + 1) 0 = c) :
    (stB t s a pc p o h fr wt sn none).step = if p < t.size ∧ t.getD p 0 = c then stB t s a (pc + 2) (p + 1) o h fr wt (sn.add 16) none else stB t s a pc p o h fr wt (sn.add 16) (some false) :=
  (st_lit c rfl rfl h2 ho hw).trans rfl
theorem jump2 (t : Array Nat) (s a pc p j : Nat) (o : Bool) (h : Nat) (fr : List Sre.Frame) (wt : Nat) (sn : Sre.Seen) (h2 : pc < 36) (ho : code2.getD pc 0 = 15) (hw : code2.getD (pc + 1) 0 = j) :
    (stB t s a pc p o h fr wt sn none).step = stB t s a (pc + 1 + j) p o h fr wt (sn.add 15) none :=
  (st_jump j rfl rfl h2 ho hw).trans rfl
theorem succ2 {t : Array Nat} {s a p h : Nat} {sn : Sre.Seen} {w : Nat → Nat} (hp : p = s + w s) (hw : w s ≠ 0) :
    Ev (ResD w (some s)) 4 (stB t s a 35 p true h [] 0 sn none) := by
  refine Ev.step (m' := stB t s a 35 p true p [] 0 (sn.add 1) (some true)) rfl ((st_success rfl rfl (by unfold stB; dsimp only; decide) rfl rfl (by unfold stB; dsimp only; lia)).trans rfl) ?_
  refine Ev.step rfl (st_resume rfl rfl rfl) ?_
  refine Ev.step rfl (st_resume rfl rfl rfl) ?_
  exact Ev.step (k := 0) rfl (st_end rfl rfl rfl) (Ev.zero (ResD.of ⟨rfl, rfl, hp⟩))
theorem assert2 (t : Array Nat) (s p h : Nat) (sn : Sre.Seen) : (stB t s 23 26 p true h [] 0 sn none).step =
    stB t s 23 29 p false p [{ wait := .lookNot, pc := 26, pos := p, outermost := true }] 1 (sn.add 5) none := by
  refine (st_exec rfl rfl (by unfold stB; dsimp only; decide)).trans ?_
  unfold M.exec M.word stB
  dsimp only [List.nil_append]
  simp only [show ops[code2.getD (26 + 0) 0]? = some Op.ASSERT_NOT from rfl, show code2.getD (26 + 2) 0 = 0 from rfl]
  rw [if_neg (by lia)]
  rfl
theorem look2 (t : Array Nat) (s pc p q h : Nat) (sn : Sre.Seen) (o : Bool) : (stB t s 23 pc q o h [{ wait := .lookNot, pc := 26, pos := p, outermost := true }] 1 sn (some false)).step =
    stB t s 23 32 p true h [] 0 sn none := (st_resume rfl rfl rfl).trans rfl
theorem at2 (t : Array Nat) (s : Nat) (sn : Sre.Seen) (hh : hit2 t s = true) : Ev (ResD (w2 t) (some s)) 30 (mk2 t s true sn false) := by
  have hh2 : s < t.size ∧ (t.getD s 0 = 10 ∨ t.getD s 0 = 13) := by unfold hit2 at hh; simpa using hh
  refine an2 hh2 fun hs hh => ?_
  (try clear hh2)
  refine Ev.step rfl (branch2 t s sn) ?_
  refine Ev.step rfl (lit2 t s 11 12 s 13 true s [] 0 _ (by decide) rfl rfl) ?_
  by_cases h13 : t.getD s 0 = 13
  · rw [if_pos ⟨hs, h13⟩]
    refine Ev.step rfl (lit2 t s 11 14 (s + 1) 10 true s [] 0 _ (by decide) rfl rfl) ?_
    by_cases h10 : s + 1 < t.size ∧ t.getD (s + 1) 0 = 10
    · rw [if_pos h10]
      refine Ev.step rfl (jump2 t s 11 16 (s + 2) 18 true s [] 0 _ (by decide) rfl rfl) ?_
      have ew : w2 t s = 2 := by unfold w2; rw [if_pos ⟨h13, h10⟩]
      exact Ev.le (succ2 (by rw [ew]) (by rw [ew]; decide)) (by decide)
    · rw [if_neg h10]
      have ew : w2 t s = 1 := by unfold w2; rw [if_neg fun x => h10 x.2]
      refine Ev.step rfl (next_alt t s _ _ _ _) ?_
      refine Ev.step rfl (lit2 t s 18 19 s 10 true s [] 0 _ (by decide) rfl rfl) ?_
      rw [if_neg (fun x => by rw [h13] at x; exact absurd x.2 (by decide))]
      refine Ev.step rfl (next_alt2 t s _ _ _ _) ?_
      refine Ev.step rfl (lit2 t s 23 24 s 13 true s [] 0 _ (by decide) rfl rfl) ?_
      rw [if_pos ⟨hs, h13⟩]
      refine Ev.step rfl (assert2 t s _ _ _) ?_
      refine Ev.step rfl (lit2 t s 23 29 (s + 1) 10 false _ _ 1 _ (by decide) rfl rfl) ?_
      rw [if_neg h10]
      refine Ev.step rfl (look2 t s _ _ _ _ _ _) ?_
      refine Ev.step rfl (jump2 t s 23 32 (s + 1) 2 true _ [] 0 _ (by decide) rfl rfl) ?_
      exact Ev.le (succ2 (by rw [ew]) (by rw [ew]; decide)) (by decide)
  · rw [if_neg (fun x => h13 x.2)]
    have h10 : t.getD s 0 = 10 := hh.resolve_right h13
    have ew : w2 t s = 1 := by unfold w2; rw [if_neg fun x => h13 x.1]
    refine Ev.step rfl (next_alt t s _ _ _ _) ?_
    refine Ev.step rfl (lit2 t s 18 19 s 10 true s [] 0 _ (by decide) rfl rfl) ?_
    rw [if_pos ⟨hs, h10⟩]
    refine Ev.step rfl (jump2 t s 18 21 (s + 1) 13 true _ [] 0 _ (by decide) rfl rfl) ?_
    exact Ev.le (succ2 (by rw [ew]) (by rw [ew]; decide)) (by decide)
theorem next2 (t : Array Nat) (s : Nat) (must : Bool) (hs : s ≤ t.size) : Ev (ResD (w2 t) (findH (hit2 t) (t.size - s + 1) s)) 30 (forSearch code2 t 0 s t.size must) := by
  by_cases hlt : s < t.size
  · have e : forSearch code2 t 0 s t.size must = M.attemptFrom { code := code2, text := t, lim := t.size, start := s, pc := 10, pos := s, handed := s, marks := #[], mustAdvance := must, seen := ({} : Sre.Seen).add 14, lastStart := t.size } s true := by
      show (if _ then _ else _) = _
      rw [if_neg]
      · rfl
      · show ¬ ((decide (s > t.size) || decide (t.size - s < 1)) = true)
        simp; lia
    rw [e]
    unfold M.attemptFrom
    rw [if_neg (by show ¬ ((!true) = true); decide)]
    dsimp only
    refine Exists.elim (admitted2 (m := { code := code2, text := t, lim := t.size, start := s, pc := 10, pos := s, handed := s, marks := #[], mustAdvance := must, seen := ({} : Sre.Seen).add 14, lastStart := t.size }) rfl rfl rfl (t.size + 1 - s) s (({} : Sre.Seen).add 14)) fun sn e2 => ?_
    rw [e2, show t.size - s + 1 = t.size + 1 - s from (Nat.succ_sub hs).symm]
    cases hf : findH (hit2 t) (t.size + 1 - s) s with
    | none => exact Ev.le (ev_say rfl rfl) (by decide)
    | some p =>
      have hp : ∀ k s, findH (hit2 t) k s = some p → hit2 t p = true := by
        intro k
        induction k with
        | zero => exact fun s h => by cases h
        | succ k ih =>
          intro s h
          unfold findH at h
          split at h
          · cases h; assumption
          · exact ih _ h
      exact at2 t p sn (hp _ _ hf)
  · have e0 : s = t.size := by lia
    subst e0
    rw [Nat.sub_self, none_at (by unfold hit2; simp)]
    refine Ev.le (a := 1) ?_ (by lia)
    show Ev _ 1 (if _ then _ else _)
    rw [if_pos]
    · exact ev_say rfl rfl
    · show (decide (t.size > t.size) || decide (t.size - t.size < 1)) = true
      simp
end

section
noncomputable def Spn : List Nat → (Nat → Int) → Prop
  | [], f => ∀ x, (13 : Int) ∣ f x
  | t :: T, f => ∃ c : Int, Spn T fun x => f x - c * 2 ^ (t * x)
theorem Spn.cong : ∀ {T : List Nat} {f g : Nat → Int}, (∀ x, (13 : Int) ∣ f x - g x) → Spn T f → Spn T g
  | [], f, g, h, hf => fun x => by have := Int.dvd_sub (hf x) (h x); rwa [Int.sub_sub_self] at this
  | t :: T, f, g, h, ⟨c, hf⟩ => ⟨c, Spn.cong (fun x => by rw [Int.sub_sub, Int.add_comm _ (_ - _), Int.sub_add_cancel]; exact h x) hf⟩
theorem Spn.same {T : List Nat} {f g : Nat → Int} (h : ∀ x, f x = g x) (hf : Spn T f) : Spn T g := hf.cong fun x => by rw [h x, Int.sub_self]; exact Int.dvd_zero _
theorem Spn.add : ∀ {T : List Nat} {f g : Nat → Int}, Spn T f → Spn T g → Spn T fun x => f x + g x
  | [], f, g, hf, hg => fun x => Int.dvd_add (hf x) (hg x)
  | t :: T, f, g, ⟨c, hf⟩, ⟨d, hg⟩ => ⟨c + d, (Spn.add hf hg).same fun x => by show _ = f x + g x - _; rw [Int.add_mul]; lia⟩
theorem Spn.zero : ∀ {T : List Nat}, Spn T fun _ => 0
  | [] => fun _ => Int.dvd_zero _
  | t :: T => ⟨0, Spn.zero.same fun x => by rw [Int.zero_mul]; rfl⟩
theorem Spn.mul (d : Int) : ∀ {T : List Nat} {f : Nat → Int}, Spn T f → Spn T fun x => d * f x
  | [], f, hf => fun x => Int.dvd_mul_of_dvd_right (hf x)
  | t :: T, f, ⟨c, hf⟩ => ⟨d * c, (Spn.mul d hf).same fun x => by rw [Int.mul_sub, Int.mul_assoc]⟩
theorem Spn.one (c : Int) {t : Nat} : ∀ {T : List Nat}, t ∈ T → Spn T fun x => c * 2 ^ (t * x)
  | u :: T, h => by
    by_cases e : t = u
    · subst e; exact ⟨c, Spn.zero.same fun x => by show 0 = c * 2 ^ (t * x) - c * 2 ^ (t * x); lia⟩
    · refine ⟨0, (Spn.one c (t := t) (T := T) ?_).same fun x => by show _ = c * 2 ^ (t * x) - _; rw [Int.zero_mul]; lia⟩
      rcases List.mem_cons.mp h with h | h
      · exact absurd h e
      · exact h
theorem Spn.mono : ∀ {S T : List Nat} {f : Nat → Int}, (∀ t ∈ S, t ∈ T) → Spn S f → Spn T f
  | [], T, f, _, hf => Spn.zero.cong fun x => by rw [Int.zero_sub]; exact Int.dvd_neg.mpr (hf x)
  | t :: S, T, f, h, ⟨c, hf⟩ => ((Spn.mono (fun u hu => h u (.tail _ hu)) hf).add (Spn.one c (h t (.head _)))).same fun x => by lia
theorem two12 (x : Nat) : (13 : Int) ∣ 2 ^ (12 * x) - 1 := by
  induction x with
  | zero => exact ⟨0, rfl⟩
  | succ n ih =>
    have e : (2 : Int) ^ (12 * (n + 1)) = 4096 * 2 ^ (12 * n) := by
      rw [Nat.mul_succ, Int.pow_add, Int.mul_comm]; rfl
    rw [e]; omega
theorem two_mod (a x : Nat) : (13 : Int) ∣ 2 ^ (a * x) - 2 ^ (a % 12 * x) := by
  have e : a * x = 12 * (a / 12 * x) + a % 12 * x := by
    rw [← Nat.mul_assoc, ← Nat.add_mul]
    congr 1
    lia
  rw [e, Int.pow_add]
  have := two12 (a / 12 * x)
  generalize (2 : Int) ^ (12 * (a / 12 * x)) = y at *
  generalize (2 : Int) ^ (a % 12 * x) = z
  have e2 : y * z - z = (y - 1) * z := by rw [Int.sub_mul, Int.one_mul]
  rw [e2]
  exact Int.dvd_mul_of_dvd_left this
theorem Spn.turn (k : Nat) : ∀ {S T : List Nat} {f : Nat → Int}, (∀ t ∈ S, (t + k) % 12 ∈ T) → Spn S f → Spn T fun x => 2 ^ (k * x) * f x
  | [], T, f, _, hf => Spn.zero.cong fun x => by
    rw [Int.zero_sub]
    exact Int.dvd_neg.mpr (Int.dvd_mul_of_dvd_right (b := 2 ^ (k * x)) (hf x))
  | t :: S, T, f, h, ⟨c, hf⟩ => by
    refine ((Spn.turn k (fun u hu => h u (.tail _ hu)) hf).add (Spn.one c (h t (.head _)))).cong fun x => ?_
    have h1 := two_mod (t + k) x
    rw [Nat.add_mul, Int.pow_add] at h1
    generalize (2 : Int) ^ ((t + k) % 12 * x) = z at *
    generalize (2 : Int) ^ (k * x) = y at *
    generalize (2 : Int) ^ (t * x) = u at *
    have e : y * (f x - c * u) + c * z - y * f x = - (c * (u * y - z)) := by
      rw [Int.mul_sub, Int.mul_sub, Int.mul_comm u y, ← Int.mul_assoc, Int.mul_comm y c, Int.mul_assoc]; lia
    rw [e]
    exact (Int.dvd_neg).mpr (Int.dvd_mul_of_dvd_right h1)
theorem Spn.next : ∀ {T : List Nat} {f : Nat → Int} {a : Nat}, Spn T f → (∀ i, i < T.length → (13 : Int) ∣ f (a + i)) → (13 : Int) ∣ f (a + T.length)
  | [], f, a, hf, _ => hf _
  | t :: T, f, a, ⟨c, hf⟩, hz => by
    have hg : Spn T fun x => f (x + 1) - 2 ^ t * f x := by
      have h1 : Spn T fun x => f (x + 1) - c * 2 ^ (t * (x + 1)) := by
        clear hz
        suffices H : ∀ (T : List Nat) (g : Nat → Int), Spn T g → Spn T fun x => g (x + 1) from H T _ hf
        intro T
        induction T with
        | nil => exact fun g hg x => hg (x + 1)
        | cons u T ih =>
          rintro g ⟨d, hg⟩
          exact ⟨d * 2 ^ u, (ih _ hg).same fun x => by rw [Nat.mul_succ, Int.pow_add, Int.mul_assoc, Int.mul_comm (2 ^ u)]⟩
      refine (h1.add (hf.mul (-(2 ^ t)))).same fun x => ?_
      have e : (2 : Int) ^ (t * (x + 1)) = 2 ^ t * 2 ^ (t * x) := by rw [Nat.mul_succ, Int.pow_add, Int.mul_comm]
      rw [e]
      generalize (2 : Int) ^ t = z
      generalize (2 : Int) ^ (t * x) = y
      rw [Int.mul_sub, Int.neg_mul, Int.neg_mul]
      have e2 : c * (z * y) = z * (c * y) := by rw [← Int.mul_assoc, Int.mul_comm c z, Int.mul_assoc]
      rw [e2]; lia
    have h2 := hg.next (a := a) fun i hi => by
      have h3 := hz (i + 1) (Nat.succ_lt_succ hi)
      have h4 := hz i (Nat.lt_succ_of_lt hi)
      have h5 := Int.dvd_mul_of_dvd_right (b := 2 ^ t) h4
      have e : a + (i + 1) = a + i + 1 := rfl
      rw [e] at h3
      exact Int.dvd_sub h3 h5
    have h4 := hz T.length (Nat.lt_succ_self _)
    have h5 := Int.dvd_mul_of_dvd_right (b := 2 ^ t) h4
    show (13 : Int) ∣ f (a + (T.length + 1))
    have e : a + (T.length + 1) = a + T.length + 1 := rfl
    rw [e]
    have h6 := Int.dvd_add h2 h5
    rwa [Int.sub_add_cancel] at h6
theorem Spn.all {T : List Nat} {f : Nat → Int} {a : Nat} (h : Spn T f) (hz : ∀ i, i < T.length → (13 : Int) ∣ f (a + i)) : ∀ y, a ≤ y → (13 : Int) ∣ f y := by
  suffices H : ∀ n i, i < T.length + n → (13 : Int) ∣ f (a + i) from fun y hy => by
    have := H (y + 1) (y - a) (by omega)
    rwa [show a + (y - a) = y from by lia] at this
  intro n
  induction n with
  | zero => exact hz
  | succ n ih =>
    intro i hi
    by_cases e : i < T.length + n
    · exact ih i e
    · have h1 := h.next (a := a + n) fun j hj => by rw [Nat.add_assoc]; exact ih (n + j) (by lia)
      rwa [show a + n + T.length = a + i from by lia] at h1
theorem dvd13 (a b : Int) (h : (13 : Int) ∣ a * b) : (13 : Int) ∣ a ∨ (13 : Int) ∣ b := by
  have h1 : (a * b) % 13 = 0 := by omega
  rw [Int.mul_emod] at h1
  have ha : 0 ≤ a % 13 ∧ a % 13 < 13 := by lia
  have hb : 0 ≤ b % 13 ∧ b % 13 < 13 := by lia
  have : a % 13 = 0 ∨ b % 13 = 0 := by
    generalize a % 13 = p at *
    generalize b % 13 = q at *
    clear h
    refine Exists.elim (Int.eq_ofNat_of_zero_le ha.1) fun p zr2 => ?_
    subst zr2
    refine Exists.elim (Int.eq_ofNat_of_zero_le hb.1) fun q zr1 => ?_
    subst zr1
    have hp : p < 13 := by lia
    have hq : q < 13 := by lia
    have key : ∀ p, p < 13 → ∀ q, q < 13 → p * q % 13 = 0 → p = 0 ∨ q = 0 := by decide +kernel
    have := key p hp q hq (by lia)
    lia
  lia

theorem Spn.wish {S T : List Nat} {f : Nat → Int} (k b : Nat) (h1 : ∀ t ∈ S, t ∈ T) (h2 : ∀ t ∈ S, (t + k) % 12 ∈ T) (hf : Spn S f) : Spn T fun x => f x * (1 - 2 ^ (k * (x + b))) := by
  refine ((hf.mono h1).add ((hf.turn k h2).mul (-(2 ^ (k * b))))).same fun x => ?_
  show f x + -(2 ^ (k * b)) * (2 ^ (k * x) * f x) = f x * (1 - 2 ^ (k * (x + b)))
  rw [Nat.mul_add, Int.pow_add]
  generalize (2 : Int) ^ (k * b) = y
  generalize (2 : Int) ^ (k * x) = z
  generalize f x = u
  rw [Int.mul_sub, Int.mul_one, Int.neg_mul, Int.mul_comm u (z * y), Int.mul_comm z y, Int.mul_assoc]
  lia
theorem pow13 (e : Nat) : (13 : Int) ∣ 1 - 2 ^ e ↔ e % 12 = 0 := by
  have h := two_mod e 1
  rw [Nat.mul_one, Nat.mul_one] at h
  have key : ∀ r, r < 12 → ((1 - (2 : Int) ^ r) % 13 = 0 ↔ r = 0) := by decide +kernel
  have := key (e % 12) (Nat.mod_lt _ (by decide))
  rw [← this]
  generalize (2 : Int) ^ (e % 12) = z at *
  generalize (2 : Int) ^ e = y at *
  omega
noncomputable def met (n r x : Int) : Bool := (x - r).fmod n == 0
noncomputable def IsStep (n : Nat) : Prop := n = 1 ∨ n = 2 ∨ n = 3 ∨ n = 4 ∨ n = 6
theorem step12 {n : Nat} (hn : IsStep n) : 12 / n * n = 12 ∧ 0 < n := by rcases hn with rfl | rfl | rfl | rfl | rfl <;> decide
theorem int12 {n : Nat} (hn : IsStep n) (z : Int) (k : Int) : (z + 12 * k) % (n : Int) = z % (n : Int) := by
  have e : (12 : Int) = (n : Int) * ((12 / n : Nat) : Int) := by rw [← Int.natCast_mul, Nat.mul_comm, (step12 hn).1]; rfl
  rw [e, Int.mul_assoc, Int.add_mul_emod_self_left]
theorem met_iff {n : Nat} (hn : IsStep n) (r : Nat) (x : Nat) : (13 : Int) ∣ 1 - 2 ^ (12 / n * (x + 11 * r)) ↔ met n r x = true := by
  rw [pow13]
  unfold met
  rw [beq_iff_eq, Int.fmod_eq_emod_of_nonneg _ (Int.natCast_nonneg n)]
  have h := step12 hn
  have e1 : 12 / n * (x + 11 * r) % 12 = 12 / n * ((x + 11 * r) % n) := by
    have := Nat.mul_mod_mul_left (12 / n) (x + 11 * r) n
    rwa [h.1] at this
  have e2 : ((x : Int) - r) % (n : Int) = (((x + 11 * r) % n : Nat) : Int) := by
    rw [Int.natCast_emod, ← int12 hn ((x : Int) - r) r]
    congr 1
    rw [Int.natCast_add, Int.natCast_mul]
    lia
  rw [e1, e2]
  have hm : 12 / n ≠ 0 := fun z => by rw [z, Nat.zero_mul] at h; exact absurd h.1 (by decide)
  constructor
  · intro z
    rcases Nat.mul_eq_zero.mp z with z | z
    · exact absurd z hm
    · rw [z]; rfl
  · intro z
    rw [Int.natCast_eq_zero.mp z, Nat.mul_zero]
noncomputable def Grow (S T : List Nat) (n : Nat) : Prop := (∀ t ∈ S, t ∈ T) ∧ ∀ t ∈ S, (t + 12 / n) % 12 ∈ T
noncomputable def fac (q : Bool) (n r x : Nat) : Int := if q then 1 - 2 ^ (12 / n * (x + 11 * r)) else 1
theorem Grow.spn {S T : List Nat} {n : Nat} {f : Nat → Int} (h : Grow S T n) (q : Bool) (r : Nat) (hf : Spn S f) : Spn T fun x => f x * fac q n r x := by
  cases q with
  | false => exact (hf.mono h.1).same fun x => (Int.mul_one _).symm
  | true => exact hf.wish (12 / n) (11 * r) h.1 h.2
theorem fac_iff {n : Nat} (hn : IsStep n) (q : Bool) (r x : Nat) : (13 : Int) ∣ fac q n r x ↔ (q && met n r x) = true := by
  cases q with
  | false => show (13 : Int) ∣ 1 ↔ _; simp
  | true => show (13 : Int) ∣ 1 - _ ↔ _; rw [met_iff hn]; simp
noncomputable def marks (n r : Nat → Nat) (x : Nat) : Nat := (met (n 0) (r 0) x).toNat + (met (n 1) (r 1) x).toNat + (met (n 2) (r 2) x).toNat + (met (n 3) (r 3) x).toNat
theorem bool_le {b c : Bool} (h : ¬ (!c && b) = true) : b.toNat ≤ c.toNat := by
  cases b
  · exact Nat.zero_le _
  · cases c
    · exact absurd rfl h
    · exact Nat.le_refl _
theorem marks_min {n r : Nat → Nat} {T1 T2 T3 T4 : List Nat} (hn : ∀ i, i < 4 → IsStep (n i)) (h0 : Grow [0] T1 (n 0)) (h1 : Grow T1 T2 (n 1)) (h2 : Grow T2 T3 (n 2)) (h3 : Grow T3 T4 (n 3)) (a y : Nat) (hy : a ≤ y) :
    ∃ i, i < T4.length ∧ marks n r (a + i) ≤ marks n r y := by
  have s0 : Spn [0] fun _ => 1 := ⟨1, fun x => by show (13 : Int) ∣ 1 - 1 * 2 ^ (0 * x); rw [Nat.zero_mul]; exact ⟨0, rfl⟩⟩
  have s := h3.spn (!met (n 3) (r 3) y) (r 3) (h2.spn (!met (n 2) (r 2) y) (r 2) (h1.spn (!met (n 1) (r 1) y) (r 1) (h0.spn (!met (n 0) (r 0) y) (r 0) s0)))
  refine Decidable.byContradiction fun hno => ?_
  have hz : ∀ x, (13 : Int) ∣ 1 * fac (!met (n 0) (r 0) y) (n 0) (r 0) x * fac (!met (n 1) (r 1) y) (n 1) (r 1) x * fac (!met (n 2) (r 2) y) (n 2) (r 2) x * fac (!met (n 3) (r 3) y) (n 3) (r 3) x ↔
      (!met (n 0) (r 0) y && met (n 0) (r 0) x) = true ∨ (!met (n 1) (r 1) y && met (n 1) (r 1) x) = true ∨ (!met (n 2) (r 2) y && met (n 2) (r 2) x) = true ∨ (!met (n 3) (r 3) y && met (n 3) (r 3) x) = true := by
    intro x
    rw [← fac_iff (hn 0 (by decide)), ← fac_iff (hn 1 (by decide)), ← fac_iff (hn 2 (by decide)), ← fac_iff (hn 3 (by decide)), Int.one_mul]
    constructor
    · intro h
      rcases dvd13 _ _ h with h | h
      · rcases dvd13 _ _ h with h | h
        · rcases dvd13 _ _ h with h | h
          · exact .inl h
          · exact .inr (.inl h)
        · exact .inr (.inr (.inl h))
      · exact .inr (.inr (.inr h))
    · rintro (h | h | h | h)
      · exact Int.dvd_mul_of_dvd_left (Int.dvd_mul_of_dvd_left (Int.dvd_mul_of_dvd_left h))
      · exact Int.dvd_mul_of_dvd_left (Int.dvd_mul_of_dvd_left (Int.dvd_mul_of_dvd_right h))
      · exact Int.dvd_mul_of_dvd_left (Int.dvd_mul_of_dvd_right h)
      · exact Int.dvd_mul_of_dvd_right h
  have hy2 := (hz y).mp (s.all (a := a) (fun i hi => (hz (a + i)).mpr (Decidable.byContradiction fun hc => hno ⟨i, hi, ?_⟩)) y hy)
  · simp at hy2
  · unfold marks
    exact Nat.add_le_add (Nat.add_le_add (Nat.add_le_add (bool_le fun z => hc (.inl z)) (bool_le fun z => hc (.inr (.inl z)))) (bool_le fun z => hc (.inr (.inr (.inl z))))) (bool_le fun z => hc (.inr (.inr (.inr z))))
theorem met_per {n : Nat} (hn : IsStep n) (r x k : Nat) : met n r (x + 12 * k : Nat) = met n r x := by
  unfold met
  rw [Int.fmod_eq_emod_of_nonneg _ (Int.natCast_nonneg n), Int.fmod_eq_emod_of_nonneg _ (Int.natCast_nonneg n), ← int12 hn ((x : Int) - r) k]
  congr 2
  rw [Int.natCast_add, Int.natCast_mul]
  lia
theorem marks_per {n r : Nat → Nat} (hn : ∀ i, i < 4 → IsStep (n i)) (x k : Nat) : marks n r (x + 12 * k) = marks n r x := by
  unfold marks
  rw [met_per (hn 0 (by decide)), met_per (hn 1 (by decide)), met_per (hn 2 (by decide)), met_per (hn 3 (by decide))]
theorem marks_any {n r : Nat → Nat} {T1 T2 T3 T4 : List Nat} (hn : ∀ i, i < 4 → IsStep (n i)) (h0 : Grow [0] T1 (n 0)) (h1 : Grow T1 T2 (n 1)) (h2 : Grow T2 T3 (n 2)) (h3 : Grow T3 T4 (n 3)) (a y : Nat) :
    ∃ i, i < T4.length ∧ marks n r (a + i) ≤ marks n r y := by
  refine Exists.elim (marks_min hn h0 h1 h2 h3 (r := r) a (y + 12 * a) (by lia)) fun i hx => an2 hx fun hi h => ?_
  exact ⟨i, hi, by rw [marks_per hn] at h; exact h⟩
theorem met_div {n : Nat} (hn : 1 ≤ n) (z : Int) : (z.fdiv n) - (z - 1).fdiv n = if z.fmod n = 0 then 1 else 0 := by
  rw [Int.fdiv_eq_ediv_of_nonneg _ (by lia), Int.fdiv_eq_ediv_of_nonneg _ (by lia), Int.fmod_eq_emod_of_nonneg _ (by lia)]
  have hn2 : (0 : Int) < n := by lia
  have e1 := Int.mul_ediv_add_emod z n
  have e2 := Int.mul_ediv_add_emod (z - 1) n
  have a1 := Int.emod_nonneg z (b := n) (by lia)
  have a2 := Int.emod_lt_of_pos z hn2
  have a3 := Int.emod_nonneg (z - 1) (b := n) (by lia)
  have a4 := Int.emod_lt_of_pos (z - 1) hn2
  generalize (z - 1) % (n : Int) = r2 at *
  generalize z % (n : Int) = r1 at *
  generalize (z - 1) / (n : Int) = q2 at *
  generalize z / (n : Int) = q1 at *
  have e3 : (n : Int) * (q1 - q2) = 1 + r2 - r1 := by rw [Int.mul_sub]; lia
  generalize q1 - q2 = d at *
  have d1 : -1 < d := Int.lt_of_mul_lt_mul_left (a := (n : Int)) (by rw [e3]; lia) (by lia)
  have d2 : d < 2 := Int.lt_of_mul_lt_mul_left (a := (n : Int)) (by rw [e3]; lia) (by lia)
  have : d = 0 ∨ d = 1 := by lia
  rcases this with rfl | rfl
  · rw [Int.mul_zero] at e3
    split <;> lia
  · rw [Int.mul_one] at e3
    split <;> lia
theorem met_sum {n : Nat} (hn : 1 ≤ n) (r f : Nat) : ∀ c, ((((List.range c).map fun k => (met n r (f + k : Nat)).toNat).sum : Nat) : Int) = ((f : Int) + c - 1 - r).fdiv n - ((f : Int) - 1 - r).fdiv n
  | 0 => by simp
  | c + 1 => by
    rw [List.range_succ, List.map_append, List.sum_append, Int.natCast_add, met_sum hn r f c]
    have h := met_div hn ((f : Int) + c - r)
    have e1 : (f : Int) + c - r - 1 = (f : Int) + c - 1 - r := by lia
    have e2 : (f : Int) + (c + 1 : Nat) - 1 - r = (f : Int) + c - r := by lia
    rw [e1] at h
    rw [e2]
    have e3 : (((List.map (fun k => (met n r (f + k : Nat)).toNat) [c]).sum : Nat) : Int) = if ((f : Int) + c - r).fmod n = 0 then 1 else 0 := by
      show (((met n r (f + c : Nat)).toNat + 0 : Nat) : Int) = _
      unfold met
      have e4 : ((f + c : Nat) : Int) - r = (f : Int) + c - r := by lia
      rw [e4]
      by_cases h : ((f : Int) + c - r).fmod n = 0
      · rw [if_pos h, h]; rfl
      · rw [if_neg h, beq_eq_false_iff_ne.mpr h]; rfl
    rw [e3]
    omega
end

section
noncomputable def crlfL : Bool → List Nat → List Nat
  | _, [] => []
  | p, c :: r => if c = 13 then 13 :: 10 :: crlfL true r else if c = 10 then (if p then crlfL false r else 13 :: 10 :: crlfL false r) else c :: crlfL false r
noncomputable def dotL : Bool → List Nat → List Nat
  | _, [] => []
  | q, c :: r => if q = true ∧ c = 46 then 46 :: 46 :: dotL false r else c :: dotL (c == 10) r
theorem crlf_pass : ∀ (x r : List Nat), (∀ c ∈ x, c ≠ 10 ∧ c ≠ 13) → crlfL false (x ++ r) = x ++ crlfL false r
  | [], _, _ => rfl
  | c :: x, r, h => by
    have h1 := h c (.head _)
    rw [List.cons_append, crlfL, if_neg h1.2, if_neg h1.1, crlf_pass x r fun d hd => h d (.tail _ hd)]
    rfl
theorem crlf_flag : ∀ (x : List Nat), x.head? ≠ some 10 → crlfL true x = crlfL false x
  | [], _ => rfl
  | c :: r, h => by
    have h1 : c ≠ 10 := fun e => h (by rw [e]; rfl)
    simp only [crlfL, if_neg h1]
theorem head_jn {z : List Nat} {rows : List (List Nat)} (hz : ∀ r ∈ rows, ∀ c ∈ r, c ≠ 10) (hz2 : z.head? ≠ some 10) : (jn z rows).head? ≠ some 10 := by
  have hr : ∀ r ∈ rows, r.head? ≠ some 10 := fun r h e => by
    cases r with
    | nil => simp at e
    | cons c t => simp at e; exact hz _ h c (.head _) e
  match rows with
  | [] => simp [jn]
  | [x] => exact hr x (.head _)
  | x :: y :: r =>
    have := hr x (.head _)
    cases x with
    | cons c t => simpa [jn] using this
    | nil =>
      cases z with
      | cons c t => simpa [jn] using hz2
      | nil =>
        show (jn [] (y :: r)).head? ≠ some 10
        exact head_jn (fun q hq => hz q (.tail _ hq)) hz2
theorem crlf_rows (z : List Nat) (hz : z = [10] ∨ z = [13] ∨ z = [13, 10]) : ∀ (rows : List (List Nat)), (∀ r ∈ rows, ∀ c ∈ r, c ≠ 10 ∧ c ≠ 13) → crlfL false (jn z rows) = jn [13, 10] rows
  | [], _ => rfl
  | [x], h => by
    have := crlf_pass x [] (h x (.head _))
    rw [List.append_nil] at this
    simpa [jn, crlfL] using this
  | x :: y :: r, h => by
    have ih := crlf_rows z hz (y :: r) fun q hq => h q (.tail _ hq)
    rw [jn, jn, List.append_assoc, crlf_pass x _ (h x (.head _)), List.append_assoc]
    congr 1
    rcases hz with rfl | rfl | rfl
    · show crlfL false (10 :: jn [10] (y :: r)) = _
      rw [crlfL, if_neg (by decide), if_pos rfl, ih]; rfl
    · show crlfL false (13 :: jn [13] (y :: r)) = _
      rw [crlfL, if_pos rfl, crlf_flag _ (head_jn (fun q hq c hc => (h q (.tail _ hq) c hc).1) (by decide)), ih]; rfl
    · show crlfL false (13 :: 10 :: jn [13, 10] (y :: r)) = _
      rw [crlfL, if_pos rfl, crlfL, if_neg (by decide), if_pos rfl, if_pos rfl, ih]; rfl
noncomputable def dotRow : List Nat → List Nat
  | [] => []
  | c :: r => if c = 46 then 46 :: 46 :: r else c :: r
theorem dot_pass : ∀ (x r : List Nat), (∀ c ∈ x, c ≠ 10) → dotL false (x ++ r) = x ++ dotL false r
  | [], _, _ => rfl
  | c :: x, r, h => by
    have h1 := h c (.head _)
    rw [List.cons_append, dotL, if_neg (by simp), beq_eq_false_iff_ne.mpr h1, dot_pass x r fun d hd => h d (.tail _ hd)]
    rfl
theorem dot_row (x r : List Nat) (h : ∀ c ∈ x, c ≠ 10) (hr : r = [] ∨ ∃ t, r = 13 :: t) : dotL true (x ++ r) = dotRow x ++ dotL false r := by
  cases x with
  | nil =>
    rcases hr with rfl | ⟨t, rfl⟩
    · rfl
    · show dotL true (13 :: t) = dotL false (13 :: t)
      simp [dotL]
  | cons c x =>
    rw [List.cons_append, dotL]
    have hx := dot_pass x r fun d hd => h d (.tail _ hd)
    by_cases e : c = 46
    · rw [if_pos ⟨rfl, e⟩, hx, dotRow, if_pos e]; rfl
    · rw [if_neg (fun g => e g.2), beq_eq_false_iff_ne.mpr (h c (.head _)), hx, dotRow, if_neg e]; rfl
theorem dot_rows : ∀ (rows : List (List Nat)), (∀ r ∈ rows, ∀ c ∈ r, c ≠ 10) → dotL true (jn [13, 10] rows) = jn [13, 10] (rows.map dotRow)
  | [], _ => rfl
  | [x], h => by
    have := dot_row x [] (h x (.head _)) (.inl rfl)
    rw [List.append_nil] at this
    simpa [jn, dotL] using this
  | x :: y :: r, h => by
    have ih := dot_rows (y :: r) fun q hq => h q (.tail _ hq)
    rw [jn, List.append_assoc, dot_row x ([13, 10] ++ jn [13, 10] (y :: r)) (h x (.head _)) (.inr ⟨10 :: jn [13, 10] (y :: r), rfl⟩)]
    show dotRow x ++ dotL false (13 :: 10 :: jn [13, 10] (y :: r)) = _
    have e : dotL false (13 :: 10 :: jn [13, 10] (y :: r)) = 13 :: 10 :: dotL true (jn [13, 10] (y :: r)) := by simp [dotL]
    rw [e, ih]
    simp [jn]
theorem repl_jn {y z : List Nat} {a : Nat} {t : List Nat} (e : y = a :: t) : ∀ (rows : List (List Nat)), (∀ r ∈ rows, a ∉ r) → repl y z (jn y rows) = jn z rows
  | [], _ => repl_nil _ _
  | [x], h => by
    have := repl_pass (z := z) e x [] (h x (.head _))
    rw [List.append_nil, repl_nil, List.append_nil] at this
    exact this
  | x :: u :: r, h => by
    have ih := repl_jn (z := z) e (u :: r) fun q hq => h q (.tail _ hq)
    rw [jn, List.append_assoc, repl_pass e x _ (h x (.head _)), repl_hit _ (by rw [e]; simp), ih, jn, List.append_assoc]
theorem jn_flat : ∀ (rows : List (List Nat)), jn [] rows = rows.flatten
  | [] => rfl
  | [x] => by simp [jn]
  | x :: u :: r => by rw [jn, jn_flat (u :: r)]; simp
noncomputable def Bd (b : List Nat) : Prop := (∃ t, b = 46 :: t) ∧ ∀ c ∈ b, 33 ≤ c ∧ c ≠ 59
noncomputable abbrev cell (e b : List Nat) : List Nat := b ++ e
noncomputable def rowT (e : List Nat) (row : List (List Nat)) : List Nat := (row.map (cell e)).flatten
noncomputable def tagRow : Bool → List (List Nat) → List (Bool × List Nat)
  | _, [] => []
  | q, b :: r => (q, b) :: r.map fun b => (false, b)
noncomputable def tags : Bool → List (List (List Nat)) → List (Bool × List Nat)
  | _, [] => []
  | q, row :: rs => tagRow q row ++ tags true rs
noncomputable def dcell (e : List Nat) (x : Bool × List Nat) : List Nat := (if x.1 then [46] else []) ++ x.2 ++ e
theorem rowT_ch {e : List Nat} {row : List (List Nat)} (h : ∀ b ∈ row, Bd b) (he : e = [32, 59] ∨ e = [59, 32]) : ∀ c ∈ rowT e row, c ≠ 10 ∧ c ≠ 13 := fun c hc => by
  unfold rowT at hc
  refine Exists.elim (List.mem_flatten.mp hc) fun l hx => an2 hx fun hl hc => ?_
  refine Exists.elim (List.mem_map.mp hl) fun b hx => an2 hx fun hb zr3 => ?_
  subst zr3
  rcases List.mem_append.mp hc with hc | hc
  · have := ((h b hb).2 c hc).1; lia
  · rcases he with rfl | rfl <;> simp at hc <;> lia
theorem flat_false (e : List Nat) : ∀ (r : List (List Nat)), ((r.map fun b => (false, b)).map (dcell e)).flatten = rowT e r
  | [] => rfl
  | b :: r => by
    have ih := flat_false e r
    rw [List.map_cons, List.map_cons, List.flatten_cons, ih]
    rfl
theorem dotRow_T (e : List Nat) {row : List (List Nat)} (h : ∀ b ∈ row, Bd b) : dotRow (rowT e row) = ((tagRow true row).map (dcell e)).flatten := by
  cases row with
  | nil => rfl
  | cons b r =>
    obtain ⟨⟨t, rfl⟩, _⟩ := h b (.head _)
    show dotRow (46 :: (t ++ e ++ rowT e r)) = dcell e (true, 46 :: t) ++ ((r.map fun b => (false, b)).map (dcell e)).flatten
    rw [flat_false, dotRow, if_pos rfl]
    rfl
theorem plain_T (e : List Nat) (row : List (List Nat)) : rowT e row = ((tagRow false row).map (dcell e)).flatten := by
  cases row with
  | nil => rfl
  | cons b r =>
    show _ = dcell e (false, b) ++ ((r.map fun b => (false, b)).map (dcell e)).flatten
    rw [flat_false]
    rfl
theorem dotRows_T (e : List Nat) : ∀ {rows : List (List (List Nat))}, (∀ row ∈ rows, ∀ b ∈ row, Bd b) → ((rows.map (rowT e)).map dotRow).flatten = ((tags true rows).map (dcell e)).flatten
  | [], _ => rfl
  | row :: rs, h => by
    have ih := dotRows_T e (rows := rs) fun r hr => h r (.tail _ hr)
    rw [List.map_cons, List.map_cons, List.flatten_cons, ih, dotRow_T e (h row (.head _)), tags, List.map_append, List.flatten_append]
noncomputable def gone (room : Nat) (e : List Nat) (rows : List (List (List Nat))) : List (List Nat) :=
  match rows with
  | [] => []
  | row :: rs => (if room = 0 then dotRow (rowT e row) else rowT e row) :: (rs.map (rowT e)).map dotRow
theorem sent_rows {room : Nat} {e z : List Nat} {row : List (List Nat)} {rs : List (List (List Nat))} (he : e = [32, 59] ∨ e = [59, 32]) (hz : z = [10] ∨ z = [13] ∨ z = [13, 10]) (h : ∀ r ∈ row :: rs, ∀ b ∈ r, Bd b) :
    dotL true (crlfL false (List.replicate room 110 ++ jn z ((row :: rs).map (rowT e)))) = List.replicate room 110 ++ jn [13, 10] (gone room e (row :: rs)) := by
  have hch : ∀ r ∈ (row :: rs).map (rowT e), ∀ c ∈ r, c ≠ 10 ∧ c ≠ 13 := fun r hr c hc => by
    refine Exists.elim (List.mem_map.mp hr) fun l hx => an2 hx fun hl zr2 => ?_
    subst zr2
    exact rowT_ch (h l hl) he c hc
  have hrep : ∀ c ∈ List.replicate room 110, c ≠ 10 ∧ c ≠ 13 := fun c hc => by
    rw [List.eq_of_mem_replicate hc]; decide
  rw [← jn_ahead z _ _ (by simp)]
  have hch2 : ∀ r ∈ ahead (List.replicate room 110) ((row :: rs).map (rowT e)), ∀ c ∈ r, c ≠ 10 ∧ c ≠ 13 := fun r hr c hc => by
    rw [List.map_cons, ahead] at hr
    rcases List.mem_cons.mp hr with rfl | hr
    · rcases List.mem_append.mp hc with hc | hc
      · exact hrep c hc
      · exact hch _ (.head _) c hc
    · exact hch r (.tail _ hr) c hc
  rw [crlf_rows z hz _ hch2, dot_rows _ (fun r hr c hc => (hch2 r hr c hc).1), ← jn_ahead [13, 10] _ _ (by simp [gone])]
  congr 1
  rw [List.map_cons, ahead, List.map_cons, gone, ahead]
  congr 1
  cases room with
  | zero => rfl
  | succ k => rfl
theorem gone_flat {room : Nat} {e : List Nat} {row : List (List Nat)} {rs : List (List (List Nat))} (h : ∀ r ∈ row :: rs, ∀ b ∈ r, Bd b) : (gone room e (row :: rs)).flatten = ((tags (room == 0) (row :: rs)).map (dcell e)).flatten := by
  unfold gone
  dsimp only
  rw [List.flatten_cons, dotRows_T e fun r hr => h r (.tail _ hr), tags, List.map_append, List.flatten_append]
  congr 1
  by_cases e0 : room = 0
  · rw [if_pos e0, e0]; exact dotRow_T e (h row (.head _))
  · rw [if_neg e0, beq_eq_false_iff_ne.mpr e0]; exact plain_T e row
theorem dcell_ch {e : List Nat} {x : Bool × List Nat} (h : Bd x.2) : ∀ c ∈ (if x.1 then [46] else []) ++ x.2, 33 ≤ c ∧ c ≠ 59 := fun c hc => by
  rcases List.mem_append.mp hc with hc | hc
  · split at hc
    · rw [List.mem_singleton.mp hc]; decide
    · simp at hc
  · exact h.2 c hc
theorem back3 : ∀ (l : List (Bool × List Nat)), (∀ x ∈ l, Bd x.2) → repl [59, 32] [32, 59] (l.map (dcell [59, 32])).flatten = (l.map (dcell [32, 59])).flatten
  | [], _ => repl_nil _ _
  | x :: l, h => by
    have ih := back3 l fun y hy => h y (.tail _ hy)
    rw [List.map_cons, List.flatten_cons, dcell, List.append_assoc, repl_pass rfl _ _ (fun hm => (dcell_ch (e := []) (h x (.head _)) 59 hm).2 rfl), repl_hit _ (by simp), ih, List.map_cons, List.flatten_cons, dcell, List.append_assoc, List.append_assoc, List.append_assoc]
theorem back0 : ∀ (l : List (Bool × List Nat)), (∀ x ∈ l, Bd x.2) → repl [59, 32] [32, 59] (l.map (dcell [32, 59])).flatten = (l.map (dcell [32, 59])).flatten
  | [], _ => repl_nil _ _
  | x :: l, h => by
    have ih := back0 l fun y hy => h y (.tail _ hy)
    rw [List.map_cons, List.flatten_cons, dcell, List.append_assoc, repl_pass rfl _ _ (fun hm => (dcell_ch (e := []) (h x (.head _)) 59 hm).2 rfl)]
    congr 1
    show repl [59, 32] [32, 59] (32 :: 59 :: (l.map (dcell [32, 59])).flatten) = _
    rw [repl_miss (by simp), repl_miss, ih]
    · rfl
    · intro q
      cases l with
      | nil => simp at q
      | cons y l =>
        obtain ⟨⟨t, e⟩, _⟩ := h y (.tail _ (.head _))
        rw [List.map_cons, List.flatten_cons, dcell, e] at q
        cases hb : y.1 <;> rw [hb] at q <;> simp at q
theorem cut_cells : ∀ (l : List (Bool × List Nat)), (∀ x ∈ l, Bd x.2) → spl [59] 0 (l.map (dcell [32, 59])).flatten = l.map (dcell [32]) ++ [[]]
  | [], _ => rfl
  | x :: l, h => by
    have ih := cut_cells l fun y hy => h y (.tail _ hy)
    have e : dcell [32, 59] x = dcell [32] x ++ [59] := by simp [dcell]
    rw [List.map_cons, List.flatten_cons, e, List.append_assoc, spl_pass rfl _ _ (fun hm => ?_), spl_hit _ (by simp), ih]
    · simp [ahead]
    · rw [dcell] at hm
      rcases List.mem_append.mp hm with hm | hm
      · exact (dcell_ch (e := []) (h x (.head _)) 59 hm).2 rfl
      · simp at hm

noncomputable def rowB (row : List (List Nat)) : List Nat := (row.map fun b => [32, 9] ++ b).flatten
noncomputable def rowC (row : List (List Nat)) : List Nat := (row.map fun b => [32, 59] ++ b).flatten
theorem rowB_no13 : ∀ {row : List (List Nat)}, (∀ b ∈ row, Bd b) → 13 ∉ rowB row
  | [], _, h => by simp [rowB] at h
  | b :: r, h, hm => by
    rw [rowB, List.map_cons, List.flatten_cons] at hm
    rcases List.mem_append.mp hm with hm | hm
    · rcases List.mem_append.mp hm with hm | hm
      · simp at hm
      · have := (h b (.head _)).2 13 hm; lia
    · exact rowB_no13 (fun c hc => h c (.tail _ hc)) hm
theorem rowBC (x : List Nat) : ∀ {row : List (List Nat)}, (∀ b ∈ row, Bd b) → repl [32, 9] [32, 59] (rowB row ++ x) = rowC row ++ repl [32, 9] [32, 59] x
  | [], _ => rfl
  | b :: r, h => by
    have ih := rowBC x (row := r) fun c hc => h c (.tail _ hc)
    have hb : 32 ∉ b := fun hm => by have := (h b (.head _)).2 32 hm; lia
    rw [rowB, List.map_cons, List.flatten_cons, List.append_assoc, List.append_assoc, repl_hit _ (by simp), repl_pass rfl _ _ hb]
    rw [show repl [32, 9] [32, 59] (((r.map fun b => [32, 9] ++ b).flatten) ++ x) = _ from ih]
    simp [rowC]
theorem rowC_T (b : List Nat) : ∀ (r : List (List Nat)), b ++ rowC r ++ [32, 59] = rowT [32, 59] (b :: r)
  | [] => by simp [rowC, rowT]
  | c :: r => by
    have ih := rowC_T c r
    simp only [rowC, rowT, List.map_cons, List.flatten_cons] at ih ⊢
    rw [← ih]
    simp
noncomputable def tailB (rs : List (List (List Nat))) : List Nat := (rs.map fun row => [13, 10] ++ rowB row).flatten
theorem jn_tail (z x : List Nat) : ∀ (rs : List (List Nat)), jn z (x :: rs) = x ++ (rs.map fun r => z ++ r).flatten
  | [] => by simp [jn]
  | y :: rs => by rw [jn, jn_tail z y rs]; simp
theorem tail1 : ∀ {rs : List (List (List Nat))}, (∀ r ∈ rs, r ≠ [] ∧ ∀ b ∈ r, Bd b) → repl [13, 10, 32, 9] [32, 59, 13, 10] (tailB rs) = (rs.map fun row => [32, 59, 13, 10] ++ (rowB row).drop 2).flatten
  | [], _ => repl_nil _ _
  | row :: rs, h => by
    have ih := tail1 (rs := rs) fun r hr => h r (.tail _ hr)
    refine an2 (h row (.head _)) fun hne hb => ?_
    cases row with
    | nil => exact absurd rfl hne
    | cons b r =>
      have e : tailB ((b :: r) :: rs) = [13, 10, 32, 9] ++ (b ++ rowB r ++ tailB rs) := by simp [tailB, rowB]
      rw [e, repl_hit _ (by simp), repl_pass rfl (b ++ rowB r) _ (fun hm => ?_), ih]
      · simp [rowB]
      · rcases List.mem_append.mp hm with hm | hm
        · have := (hb b (.head _)).2 13 hm; lia
        · exact rowB_no13 (fun c hc => hb c (.tail _ hc)) hm
theorem tail2 : ∀ {rs : List (List (List Nat))}, (∀ r ∈ rs, r ≠ [] ∧ ∀ b ∈ r, Bd b) → repl [32, 9] [32, 59] ((rs.map fun row => [32, 59, 13, 10] ++ (rowB row).drop 2).flatten) ++ [32, 59] = [32, 59] ++ ((rs.map (rowT [32, 59])).map fun r => [13, 10] ++ r).flatten
  | [], _ => by rw [List.map_nil, List.flatten_nil, repl_nil]; rfl
  | row :: rs, h => by
    have ih := tail2 (rs := rs) fun r hr => h r (.tail _ hr)
    refine an2 (h row (.head _)) fun hne hb => ?_
    cases row with
    | nil => exact absurd rfl hne
    | cons b r =>
      have hb32 : 32 ∉ b := fun hm => by have := (hb b (.head _)).2 32 hm; lia
      have e : (rowB (b :: r)).drop 2 = b ++ rowB r := by simp [rowB]
      rw [List.map_cons, List.flatten_cons, e]
      show repl [32, 9] [32, 59] (32 :: ([59, 13, 10] ++ (b ++ rowB r) ++ _)) ++ [32, 59] = _
      rw [repl_miss (by simp), List.append_assoc, repl_pass rfl [59, 13, 10] _ (by simp), List.append_assoc, repl_pass rfl b _ hb32, rowBC _ fun c hc => hb c (.tail _ hc)]
      rw [List.map_cons, List.map_cons, List.flatten_cons, ← rowC_T b r]
      simp only [List.cons_append, List.append_assoc, List.nil_append] at ih ⊢
      rw [ih]
theorem text2 {row : List (List Nat)} {rs : List (List (List Nat))} (h : ∀ r ∈ row :: rs, r ≠ [] ∧ ∀ b ∈ r, Bd b) :
    (repl [32, 9] [32, 59] (repl [13, 10, 32, 9] [32, 59, 13, 10] (jn [13, 10] ((row :: rs).map rowB)))).drop 2 ++ [32, 59] = jn [13, 10] ((row :: rs).map (rowT [32, 59])) := by
  refine an2 (h row (.head _)) fun hne hb => ?_
  have e1 : jn [13, 10] ((row :: rs).map rowB) = rowB row ++ tailB rs := by
    rw [List.map_cons, jn_tail]; congr 1; rw [tailB, List.map_map]; rfl
  rw [e1, repl_pass rfl _ _ (rowB_no13 hb), tail1 (fun r hr => h r (.tail _ hr)), rowBC _ hb]
  cases row with
  | nil => exact absurd rfl hne
  | cons b r =>
    have e2 : rowC (b :: r) = [32, 59] ++ (b ++ rowC r) := by simp [rowC]
    rw [e2, List.append_assoc]
    show (b ++ rowC r ++ _) ++ [32, 59] = _
    rw [List.append_assoc, tail2 (fun r hr => h r (.tail _ hr)), List.map_cons, jn_tail, ← rowC_T]
    simp
noncomputable def tagFrom (n : Nat) : Nat → List (List Nat) → List (Bool × List Nat)
  | _, [] => []
  | k, b :: r => (k % n == 0, b) :: tagFrom n (k + 1) r
theorem tagFrom_n (n : Nat) : ∀ (bs : List (List Nat)) (k : Nat), tagFrom n (n + k) bs = tagFrom n k bs
  | [], _ => rfl
  | b :: r, k => by
    rw [tagFrom, tagFrom, Nat.add_assoc, tagFrom_n n r (k + 1), Nat.add_mod_left]
end

section
open PySem PySem.W PySem.Calls PyProof.Rows
noncomputable def addE (st : Array (Int × Value) × SetTable) (h : Int) (x : Value) : Array (Int × Value) × SetTable :=
  if st.1.toList.any (fun e => e.1 == h) then st else
    if !(layNew st.2 st.1 h x).2.2.1 && (layNew st.2 st.1 h x).2.1.tooFull then
      ((relayAll (layNew st.2 st.1 h x).2.1 (layNew st.2 st.1 h x).1 (SetTable.grown (layNew st.2 st.1 h x).1.size)).1, (relayAll (layNew st.2 st.1 h x).2.1 (layNew st.2 st.1 h x).1 (SetTable.grown (layNew st.2 st.1 h x).1.size)).2.1)
    else ((layNew st.2 st.1 h x).1, (layNew st.2 st.1 h x).2.1)
noncomputable def strip (e : Int × Value) : Int × Value := (e.1, .int e.1 0)
noncomputable def buildE (led : Bool) (ns : List Int) : Array (Int × Value) × SetTable := ns.foldl (fun st v => addE st v (.int v 0)) (#[], SetTable.fresh 0 0 led)
theorem insertAt_map {α β : Type} (f : α → β) (xs : Array α) (p : Nat) (x : α) : SetTable.insertAt (xs.map f) p (f x) = (SetTable.insertAt xs p x).map f := by
  simp [SetTable.insertAt]
theorem layNew_strip (t : SetTable) (es : Array (Int × Value)) (h : Int) (x : Value) :
    layNew t (es.map strip) h (.int h 0) = ((layNew t es h x).1.map strip, (layNew t es h x).2.1, (layNew t es h x).2.2.1, (layNew t es h x).2.2.2) := by
  have e : ((h, Value.int h 0) : Int × Value) = strip (h, x) := rfl
  unfold layNew
  cases t.freeSlot h with
  | none =>
    dsimp only
    rw [e, Array.size_map, ← Array.map_push]
  | some q =>
    obtain ⟨slot, wd⟩ := q
    dsimp only
    rw [e, insertAt_map, Array.size_map]
theorem relayAll_strip (t : SetTable) (es : Array (Int × Value)) (n : Nat) :
    relayAll t (es.map strip) n = ((relayAll t es n).1.map strip, (relayAll t es n).2.1, (relayAll t es n).2.2) := by
  have e : (es.map strip).map (·.1) = es.map (·.1) := by rw [Array.map_map]; rfl
  unfold relayAll
  rw [e]
  cases t.relaid (es.map (·.1)) n with
  | none => dsimp only; rw [Array.size_map]
  | some q =>
    obtain ⟨t', order⟩ := q
    dsimp only
    have e2 : order.filterMap ((es.map strip)[·]?) = (order.filterMap (es[·]?)).map strip := by
      rw [Array.map_filterMap]
      congr 1
      funext i
      rw [Array.getElem?_map]
    rw [e2, Array.size_map, Array.size_map]
    split <;> rfl
theorem addE_strip (es : Array (Int × Value)) (t : SetTable) (h : Int) (x : Value) : addE (es.map strip, t) h (.int h 0) = ((addE (es, t) h x).1.map strip, (addE (es, t) h x).2) := by
  have e : (es.map strip).toList.any (fun e => e.1 == h) = es.toList.any (fun e => e.1 == h) := by
    rw [Array.toList_map, List.any_map]; rfl
  unfold addE
  dsimp only
  rw [e, layNew_strip t es h x]
  dsimp only
  split
  · rfl
  · rw [Array.size_map, relayAll_strip]
    split <;> rfl
noncomputable def EInt (es : Array (Int × Value)) : Prop := ∀ e ∈ es.toList, ∃ v tk, e = (v, .int v tk) ∧ 0 ≤ v ∧ v < 12
theorem EInt.perm {es es' : Array (Int × Value)} (h : EInt es) (p : es'.toList.Perm es.toList) : EInt es' := fun e he => h e (p.mem_iff.mp he)
theorem addE_perm (es : Array (Int × Value)) (t : SetTable) (h : Int) (x : Value) : (es.toList.any (fun e => e.1 == h) = true ∧ addE (es, t) h x = (es, t)) ∨
    (es.toList.any (fun e => e.1 == h) = false ∧ (addE (es, t) h x).1.toList.Perm (es.push (h, x)).toList) := by
  unfold addE
  cases e : es.toList.any (fun e => e.1 == h) with
  | true => exact .inl ⟨rfl, if_pos rfl⟩
  | false =>
    refine .inr ⟨rfl, ?_⟩
    rw [if_neg (by simp)]
    have p1 := layNew_perm t es h x
    split
    · exact (relayAll_perm _ _ _).trans p1
    · exact p1
theorem addE_fits {es : Array (Int × Value)} {t : SetTable} (hf : t.fits es.size = true) (h : Int) (x : Value) : (addE (es, t) h x).2.fits (addE (es, t) h x).1.size = true := by
  unfold addE
  split
  · exact hf
  · split
    · exact relayAll_fits _ _ _
    · exact layNew_fits _ _ _ _
theorem addE_EInt {es : Array (Int × Value)} (t : SetTable) (h : EInt es) {v : Int} (tk : Tok) (h0 : 0 ≤ v) (h1 : v < 12) : EInt (addE (es, t) v (.int v tk)).1 := by
  rcases addE_perm es t v (.int v tk) with ⟨_, e⟩ | ⟨_, p⟩
  · rw [e]; exact h
  · refine EInt.perm (es := es.push (v, .int v tk)) (fun e he => ?_) p
    rw [Array.toList_push] at he
    rcases List.mem_append.mp he with he | he
    · exact h e he
    · exact xi2 v tk ⟨List.mem_singleton.mp he, h0, h1⟩
theorem addE_size (es : Array (Int × Value)) (t : SetTable) (h : Int) (x : Value) : (addE (es, t) h x).1.size ≤ es.size + 1 := by
  rcases addE_perm es t h x with ⟨_, e⟩ | ⟨_, p⟩
  · rw [e]; exact Nat.le_succ _
  · have := p.length_eq
    simp at this; lia
noncomputable abbrev hs (es : Array (Int × Value)) : List Int := es.toList.map (·.1)
theorem addE_same {es es' : Array (Int × Value)} (t t' : SetTable) (h : Int) (x x' : Value) (p : (hs es).Perm (hs es')) : (hs (addE (es, t) h x).1).Perm (hs (addE (es', t') h x').1) := by
  have key : ∀ es : Array (Int × Value), es.toList.any (fun e => e.1 == h) = (hs es).contains h := fun es => by
    rw [Bool.eq_iff_iff]
    simp only [List.any_eq_true, List.contains_iff_mem, List.mem_map, beq_iff_eq]
  have e : es.toList.any (fun e => e.1 == h) = es'.toList.any (fun e => e.1 == h) := by
    rw [key, key, Bool.eq_iff_iff]
    simp only [List.contains_iff_mem]
    exact p.mem_iff
  rcases addE_perm es t h x with ⟨a, b⟩ | ⟨a, b⟩ <;> rcases addE_perm es' t' h x' with ⟨c, d⟩ | ⟨c, d⟩
  · rw [b, d]; exact p
  · rw [a, c] at e; cases e
  · rw [a, c] at e; cases e
  · have b' := b.map (·.1)
    have d' := d.map (·.1)
    rw [Array.toList_push, List.map_append] at b' d'
    exact b'.trans ((p.append_right _).trans d'.symm)
theorem build_same (led led' : Bool) (ns : List Int) : (hs (buildE led ns).1).Perm (hs (buildE led' ns).1) := by
  unfold buildE
  suffices H : ∀ (ns : List Int) (st st' : Array (Int × Value) × SetTable), (hs st.1).Perm (hs st'.1) → (hs (ns.foldl (fun st v => addE st v (.int v 0)) st).1).Perm (hs (ns.foldl (fun st v => addE st v (.int v 0)) st').1) from H ns _ _ .rfl
  intro ns
  induction ns with
  | nil => exact fun _ _ h => h
  | cons v r ih => exact fun st st' h => ih _ _ (addE_same st.2 st'.2 v _ _ h)
noncomputable def inp (S : List Nat) (n : Nat) : List Nat := S ++ S.map fun p => (p + 12 / n) % 12
noncomputable def nextT (S : List Nat) (n : Nat) : List Nat := (List.range 12).filter fun v => (inp S n).contains v
noncomputable def chain (place : Array Nat) : Nat → Nat → Bool
  | 0, _ => true
  | k + 1, i => SetTable.below place (if i = 0 then 0 else place.getD (i - 1) 0 + 1) == i && chain place k (i + 1)
noncomputable def okE (S : List Nat) (n : Nat) : Bool :=
  let st := buildE true ((inp S n).map Int.ofNat)
  st.2.plain && st.2.led && chain st.2.place (st.1.size + 1) 0 && (st.1.toList.map (·.1)).isPerm ((nextT S n).map Int.ofNat)
noncomputable def clos : Nat → List (List Nat)
  | 0 => [[0]]
  | k + 1 => ((clos k).flatMap fun S => ([1, 2, 3, 4, 6] : List Nat).map (nextT S)).eraseDups
theorem allOk : ((clos 3).all fun S => ([1, 2, 3, 4, 6] : List Nat).all fun n => okE S n) = true := by decide +kernel
theorem clos_up : ((clos 0 ++ clos 1 ++ clos 2).all fun S => (clos 3).contains S) = true := by decide +kernel
theorem clos_in {i : Nat} (hi : i < 4) {S : List Nat} (h : S ∈ clos i) : S ∈ clos 3 := by
  have := List.all_eq_true.mp clos_up S
  rcases (by lia : i = 0 ∨ i = 1 ∨ i = 2 ∨ i = 3) with rfl | rfl | rfl | rfl
  · exact List.contains_iff_mem.mp (this (List.mem_append_left _ (List.mem_append_left _ h)))
  · exact List.contains_iff_mem.mp (this (List.mem_append_left _ (List.mem_append_right _ h)))
  · exact List.contains_iff_mem.mp (this (List.mem_append_right _ h))
  · exact h
theorem step_mem {n : Nat} (hn : IsStep n) : n ∈ ([1, 2, 3, 4, 6] : List Nat) := by
  rcases hn with rfl | rfl | rfl | rfl | rfl <;> decide
theorem clos_next {i n : Nat} (hn : IsStep n) {S : List Nat} (h : S ∈ clos i) : nextT S n ∈ clos (i + 1) := by
  rw [clos, List.mem_eraseDups]
  exact List.mem_flatMap.mpr ⟨S, h, List.mem_map.mpr ⟨n, step_mem hn, rfl⟩⟩
theorem chain_at {place : Array Nat} : ∀ {k i j : Nat}, chain place k i = true → i ≤ j → j < i + k → SetTable.below place (if j = 0 then 0 else place.getD (j - 1) 0 + 1) = j
  | 0, i, j, _, h1, h2 => by omega
  | k + 1, i, j, h, h1, h2 => by
    rw [chain, Bool.and_eq_true, beq_iff_eq] at h
    by_cases e : j = i
    · subst e; exact h.1
    · exact chain_at h.2 (by lia) (by lia)
structure Laid (S : List Nat) (n : Nat) (st : Array (Int × Value) × SetTable) : Prop where
  plain : st.2.plain = true
  led : st.2.led = true
  at' : ∀ j, j ≤ st.1.size → SetTable.below st.2.place (if j = 0 then 0 else st.2.place.getD (j - 1) 0 + 1) = j
theorem build_ok {i n : Nat} (hi : i < 4) (hn : IsStep n) {S : List Nat} (h : S ∈ clos i) : Laid S n (buildE true ((inp S n).map Int.ofNat)) ∧ ∀ led, (hs (buildE led ((inp S n).map Int.ofNat)).1).Perm ((nextT S n).map Int.ofNat) := by
  have h1 := List.all_eq_true.mp allOk S (clos_in hi h)
  have h2 := List.all_eq_true.mp h1 n (step_mem hn)
  unfold okE at h2
  dsimp only at h2
  rw [Bool.and_eq_true, Bool.and_eq_true, Bool.and_eq_true] at h2
  obtain ⟨⟨⟨a, b⟩, c⟩, d⟩ := h2
  exact ⟨⟨a, b, fun j hj => chain_at c (Nat.zero_le _) (by lia)⟩, fun led => (build_same led true _).trans (List.isPerm_iff.mp d)⟩
theorem nextT_grow (S : List Nat) {n : Nat} (hS : ∀ t ∈ S, t < 12) : Grow S (nextT S n) n := by
  have : ∀ v, v < 12 → v ∈ inp S n → v ∈ nextT S n := fun v h1 h2 => List.mem_filter.mpr ⟨List.mem_range.mpr h1, List.contains_iff_mem.mpr h2⟩
  exact ⟨fun t ht => this t (hS t ht) (List.mem_append_left _ ht), fun t ht => this _ (Nat.mod_lt _ (by decide)) (List.mem_append_right _ (List.mem_map.mpr ⟨t, ht, rfl⟩))⟩
theorem nextT_lt (S : List Nat) (n : Nat) : ∀ t ∈ nextT S n, t < 12 := fun t ht => List.mem_range.mp (List.mem_filter.mp ht).1
theorem nextT_len (S : List Nat) (n : Nat) : (nextT S n).length ≤ 12 := Nat.le_trans (List.length_filter_le _ _) (by rw [List.length_range]; exact Nat.le_refl _)
theorem clos_lt {i : Nat} {S : List Nat} (h : S ∈ clos i) : (∀ t ∈ S, t < 12) ∧ 1 ≤ S.length ∧ S.length ≤ 12 ∧ 0 ∈ S := by
  induction i generalizing S with
  | zero =>
    rw [clos, List.mem_singleton] at h
    subst h; decide
  | succ i ih =>
    rw [clos, List.mem_eraseDups] at h
    refine Exists.elim (List.mem_flatMap.mp h) fun S' hx => an2 hx fun h1 h2 => ?_
    refine Exists.elim (List.mem_map.mp h2) fun n hx => an2 hx fun _ zr1 => ?_
    subst zr1
    refine an4 (ih h1) fun a b c d => ?_
    have z : 0 ∈ nextT S' n := (nextT_grow S' a).1 0 d
    refine ⟨nextT_lt _ _, ?_, nextT_len _ _, z⟩
    cases e : nextT S' n with
    | nil => rw [e] at z; cases z
    | cons x r => simp
theorem sorted_eq : ∀ {a b : List Int}, a.Perm b → a.Pairwise (· ≤ ·) → b.Pairwise (· ≤ ·) → a = b
  | [], b, p, _, _ => (List.nil_perm.mp p).symm
  | x :: a, [], p, _, _ => absurd p.length_eq (by simp)
  | x :: a, y :: b, p, h1, h2 => by
    have e : x = y := by
      have hx : x ∈ y :: b := p.mem_iff.mp (.head _)
      have hy : y ∈ x :: a := p.mem_iff.mpr (.head _)
      have l1 : y ≤ x := by
        rcases List.mem_cons.mp hx with e | h
        · lia
        · exact (List.pairwise_cons.mp h2).1 x h
      have l2 : x ≤ y := by
        rcases List.mem_cons.mp hy with e | h
        · lia
        · exact (List.pairwise_cons.mp h1).1 y h
      lia
    subst e
    rw [sorted_eq (List.Perm.cons_inv p) (List.pairwise_cons.mp h1).2 (List.pairwise_cons.mp h2).2]
theorem nextT_sorted (S : List Nat) (n : Nat) : ((nextT S n).map Int.ofNat).Pairwise (· ≤ ·) := by
  rw [List.pairwise_map]
  refine List.Pairwise.imp (R := fun a b : Nat => a ≤ b) (fun h => Int.ofNat_le.mpr h) ?_
  unfold nextT
  refine List.Pairwise.filter _ ?_
  exact (List.pairwise_lt_range (n := 12)).imp fun h => Nat.le_of_lt h
end

section
open PySem PySem.W PySem.Calls PyProof.Rows
noncomputable abbrev setObj (es : Array (Int × Value)) (ep : Nat) (t : SetTable) : Obj := { cls := .type "set", dict := none, data := .set es ep t }
theorem hash_small {v : Int} (h0 : 0 ≤ v) (h1 : v < 12) : hashInt v = v := by
  have : ∀ n : Nat, n < 12 → hashInt (n : Int) = n := by decide +kernel
  refine Exists.elim (Int.eq_ofNat_of_zero_le h0) fun n zr4 => ?_
  subst zr4
  exact this n (by lia)
theorem EInt.elems {prog : Program} {w : World} {es : Array (Int × Value)} (h : EInt es) : ElemsOf (intKind prog w) es.toList := fun e he => by
  refine ex2 (h e he) fun v tk hx => an3 hx fun zr3 h0 h1 => ?_
  subst zr3
  exact ⟨⟨v, intKind_is _ _ _ _, (hash_small h0 h1).symm⟩, rfl⟩
theorem any_find {prog : Program} {w : World} {es : Array (Int × Value)} (h : EInt es) (v : Int) : es.toList.any (fun e => e.1 == v) = (es.toList.findIdx? (fun e => (intKind prog w).is v e.2)).isSome := by
  rw [List.findIdx?_isSome, Bool.eq_iff_iff]
  simp -iota only [List.any_eq_true, beq_iff_eq]
  constructor
  · rintro ⟨e, he, rfl⟩
    refine ex2 (h e he) fun u tk hx => an3 hx fun zr2 _ _ => ?_
    subst zr2
    exact ⟨_, he, intKind_is _ _ _ _⟩
  · rintro ⟨e, he, hp⟩
    refine ex2 (h e he) fun u tk hx => an3 hx fun zr1 _ _ => ?_
    subst zr1
    exact ⟨_, he, (intKind prog w).inj _ _ _ (intKind_is _ _ _ _) hp⟩
section
variable {prog : Program} {w : World} {A : Around} {E : Value → Shared → Prop} {s : Shared}
theorem store_at {h : Heap} {a : Addr} {es : Array (Int × Value)} {ep : Nat} {t : SetTable} (es' : Array (Int × Value)) (t' : SetTable) (ho : h.get? a = some (setObj es ep t)) :
    (h.update a (Obj.putSet es' t')).get? a = some (setObj es' (ep + 1) t') := by
  have := Heap.get?_update_self (Obj.putSet es' t') ho (by rw [putSet_of es' t' rfl]; rfl)
  rw [putSet_of es' t' rfl] at this; exact this
theorem addX {a : Addr} {es : Array (Int × Value)} {ep : Nat} {t : SetTable} {v : Int} {tk : Tok} {Q : Bool → Shared → Prop} (ho : s.heap.get? a = some (setObj es ep t)) (hE : EInt es) (hf : t.fits es.size = true) (hz : es.size ≤ 200) (h0 : 0 ≤ v) (h1 : v < 12)
    (h : ∀ h' ep' tk' b, Heap.SameBut a s.heap h' → h'.get? a = some (setObj (addE (es, t) v (.int v tk)).1 ep' (addE (es, t) v (.int v tk)).2) → Q b { s with heap := h', toks := tk' }) :
    wpAny (model prog w) A (setAdd a (.int v tk)) Q E s := by
  unfold setAdd
  refine wpAny_holding ?_
  refine wpAny_bind ((intKind prog w).pyHash (k := v) (intKind_is _ _ _ _) ?_)
  have hel : ElemsOf (intKind prog w) es.toList := hE.elems
  unfold setAddHashed setAddHashedIn
  refine wpAny_holding (wpAny_bind (wpAny_setState_of ho rfl hf ?_))
  dsimp only
  rw [byScan_of (knd := intKind prog w) rfl (by unfold scanBound; lia) hel]
  simp -iota only [↓reduceIte]
  unfold setAddByScan
  refine wpAny_bind ?_
  refine wpAny_bind (wpAny_rule ?_)
  refine wpAny_bind (wpAny_setScan_of (knd := intKind prog w) (intKind_is _ _ _ _) ho rfl hf hel ?_)
  have ha := any_find (prog := prog) (w := w) hE v
  rw [show (intKind prog w).hash v = v from hash_small h0 h1]
  cases hr : es.toList.findIdx? (fun e => (intKind prog w).is v e.2) with
  | some j =>
    rw [hr] at ha
    have e : addE (es, t) v (.int v tk) = (es, t) := if_pos ha
    dsimp only
    refine wpAny_pure (wpAny_pure ?_)
    exact h s.heap ep _ false (Heap.SameBut.refl a s.heap) (by rw [e]; exact ho)
  | none =>
    rw [hr] at ha
    have e : addE (es, t) v (.int v tk) = if !(layNew t es v (.int v tk)).2.2.1 && (layNew t es v (.int v tk)).2.1.tooFull then
        ((relayAll (layNew t es v (.int v tk)).2.1 (layNew t es v (.int v tk)).1 (SetTable.grown (layNew t es v (.int v tk)).1.size)).1, (relayAll (layNew t es v (.int v tk)).2.1 (layNew t es v (.int v tk)).1 (SetTable.grown (layNew t es v (.int v tk)).1.size)).2.1)
      else ((layNew t es v (.int v tk)).1, (layNew t es v (.int v tk)).2.1) := if_neg (by dsimp only; rw [ha]; simp -iota)
    have hp := (layNew_perm t es v (.int v tk)).length_eq
    dsimp only
    rw [e] at h
    clear e
    generalize hL : layNew t es v (.int v tk) = L at h hp ⊢
    obtain ⟨es1, t1, wd, gave⟩ := L
    dsimp only at h hp ⊢
    have hz1 : es1.size ≤ 201 := by simp -iota at hp; lia
    have hg : ∀ (b : Bool) {s₁ : Shared} {Q' : Unit → Shared → Prop}, Q' () s₁ → wpAny (model prog w) A (match b with | true => rule "set.scan.the-table-gave-way" | false => pure ()) Q' E s₁ :=
      fun b s₁ Q' hq => by cases b <;> first | exact wpAny_pure hq | exact wpAny_rule hq
    refine wpAny_bind (hg _ ?_)
    have tail : ∀ (R : Option Bool → Shared → Prop), (∀ h' ep', Heap.SameBut a s.heap h' → h'.get? a = some (setObj (if (!wd && t1.tooFull) = true then ((relayAll t1 es1 (SetTable.grown es1.size)).1, (relayAll t1 es1 (SetTable.grown es1.size)).2.1) else (es1, t1)).1 ep' (if (!wd && t1.tooFull) = true then ((relayAll t1 es1 (SetTable.grown es1.size)).1, (relayAll t1 es1 (SetTable.grown es1.size)).2.1) else (es1, t1)).2) → R (some true) { s with heap := h', toks := s.toks + 1 }) →
        wpAny (model prog w) A (do
          storeSet a es1 t1
          if (!wd && t1.tooFull) = true then do
              (match (relayAll t1 es1 (SetTable.grown es1.size)).2.2 with | true => rule "set.scan.the-table-gave-way" | false => pure ())
              storeSet a (relayAll t1 es1 (SetTable.grown es1.size)).1 (relayAll t1 es1 (SetTable.grown es1.size)).2.1
              pure (some true)
            else pure (some true)) R E { s with toks := s.toks + 1 } := by
      intro R hR
      refine wpAny_bind (wpAny_storeSet_of ho rfl ?_ (by rw [sizeLine_eq]; lia))
      have ho1 := store_at es1 t1 ho
      have hs1 := Heap.SameBut.update s.heap a (Obj.putSet es1 t1)
      by_cases hc : (!wd && t1.tooFull) = true
      · rw [if_pos hc] at hR ⊢
        refine wpAny_bind (hg _ ?_)
        have hp2 := (relayAll_perm t1 es1 (SetTable.grown es1.size)).length_eq
        refine wpAny_bind (wpAny_storeSet_of ho1 rfl ?_ (by rw [sizeLine_eq]; simp -iota at hp2; lia))
        exact wpAny_pure (hR _ _ (hs1.trans (Heap.SameBut.update _ a _)) (store_at _ _ ho1))
      · rw [if_neg hc] at hR ⊢
        exact wpAny_pure (hR _ _ hs1 ho1)
    have fin : ∀ h' ep', Heap.SameBut a s.heap h' → h'.get? a = some (setObj (if (!wd && t1.tooFull) = true then ((relayAll t1 es1 (SetTable.grown es1.size)).1, (relayAll t1 es1 (SetTable.grown es1.size)).2.1) else (es1, t1)).1 ep' (if (!wd && t1.tooFull) = true then ((relayAll t1 es1 (SetTable.grown es1.size)).1, (relayAll t1 es1 (SetTable.grown es1.size)).2.1) else (es1, t1)).2) →
        wpAny (model prog w) A (pure true) Q E { s with heap := h', toks := s.toks + 1 } := fun h' ep' hs' ho' => wpAny_pure (h h' ep' _ true hs' ho')
    split
    · refine wpAny_bind ?_
      rw [hashByValue_scannable 8 (x := .int v tk) rfl]
      refine wpAny_pure ?_
      simp -iota only [plainKind, ↓reduceIte]
      exact tail _ fun h' ep' hs' ho' => fin h' ep' hs' ho'
    · refine wpAny_bind (wpAny_pure ?_)
      simp -iota only [↓reduceIte]
      exact tail _ fun h' ep' hs' ho' => fin h' ep' hs' ho'
end
end

section
open PySem PySem.W PySem.Calls PyProof.Rows
section
variable {prog : Program} {w : World} {A : Around} {E : Value → Shared → Prop} {s : Shared}
theorem build_snoc (led : Bool) (ns : List Int) {i : Nat} (h : i < ns.length) : buildE led (ns.take (i + 1)) = addE (buildE led (ns.take i)) ns[i] (.int ns[i] 0) := by
  unfold buildE
  rw [List.take_add_one, List.getElem?_eq_getElem h, List.foldl_append]
  rfl
theorem build0 (led : Bool) (ns : List Int) : ((#[] : Array (Int × Value)).map strip, SetTable.fresh 0 0 led) = buildE led (ns.take 0) := by
  rw [List.take_zero]; simp [buildE]
theorem setLoop {I S : Addr} {fp : List Addr} {n : Nat} {P : Nat → Value → Prop} {St : Nat → Heap → Prop} {R : Result → Shared → Prop} {ns : List Int} {led : Bool}
    (W : Walks prog w A.in1 I fp [I] n P St) (hSf : S ∉ fp) (hn : n = ns.length) (hz : n ≤ 100) (hval : ∀ i v, P i v → ∃ t, v = .int (ns.getD i 0) t) (h12 : ∀ v ∈ ns, 0 ≤ v ∧ v < 12) :
    ∀ (k i : Nat) (s : Shared) (es : Array (Int × Value)) (t : SetTable) (ep : Nat), n - i = k → i ≤ n → St i s.heap → s.heap.get? S = some (setObj es ep t) → EInt es → t.fits es.size = true → es.size ≤ i → (es.map strip, t) = buildE led (ns.take i) →
      (∀ h' tk es' t' ep', (∀ b o, b ≠ S → b ≠ I → s.heap.get? b = some o → h'.get? b = some o) → h'.get? S = some (setObj es' ep' t') → EInt es' → t'.fits es'.size = true → es'.size ≤ n → (es'.map strip, t') = buildE led ns → R (.ok (.ret .none)) { s with heap := h', toks := tk }) →
      codeAny (model prog w) A (.builtin "set.update.loop" ⟨[.ref S, .ref I], []⟩) R s := by
  have hSI : S ≠ I := fun e => hSf (W.sub S (by rw [e]; exact .head _))
  intro k
  induction k with
  | zero =>
    intro i s es t ep hk hi hst hS hE hf hsz hb hR
    have hin : i = n := eq_0 hk hi
    subst hin
    refine codeAny_builtin F.entry_set_update_loop ?_
    rw [Around.under_plainId F.plain_set_update_loop _]
    show wpAny _ A.in1 (pyNext (.ref I) >>= _) _ _ s
    refine wpAny_bind (W.done s _ _ hst fun h' tk hk' => ?_)
    show wpAny _ A.in1 (ret Value.none) _ _ _
    rw [hn, List.take_length] at hb
    exact wpAny_pure (hR h' tk es t ep (fun b o _ hbI e => hk' b o (by simpa using hbI) e) (hk' S _ (by simpa using hSI) hS) hE hf hsz hb)
  | succ k ih =>
    intro i s es t ep hk hi hst hS hE hf hsz hb hR
    have hlt : i < n := lt_s hk
    refine codeAny_builtin F.entry_set_update_loop ?_
    rw [Around.under_plainId F.plain_set_update_loop _]
    show wpAny _ A.in1 (pyNext (.ref I) >>= _) _ _ s
    refine wpAny_bind (W.item i s _ _ hlt hst fun v h1 tk1 hP hst1 hk1 => ?_)
    refine Exists.elim (hval i v hP) fun tv zr5 => ?_
    subst zr5
    have hlt2 : i < ns.length := by lia
    have eg : ns.getD i 0 = ns[i] := by simp [List.getD, hlt2]
    rw [eg]
    refine an2 (h12 ns[i] (List.getElem_mem hlt2)) fun a0 a1 => ?_
    show wpAny _ A.in1 (holding [Value.int ns[i] tv] (setAdd S (.int ns[i] tv)) >>= _) _ _ _
    refine wpAny_bind (wpAny_holding ?_)
    refine addX (es := es) (ep := ep) (t := t) (hk1 S _ (by simpa using hSI) hS) hE hf (by lia) a0 a1 fun h2 ep2 tk2 b hs2 hS2 => ?_
    have hk2 : ∀ b o, b ≠ S → h1.get? b = some o → h2.get? b = some o := fun b o hb e => hs2.extBut b o hb e
    refine wpAny_pure ⟨plainId_quiet F.plain_set_update_loop _, ih (i + 1) _ _ _ ep2 (sub_s hk) hlt (W.frame _ _ _ hst1 fun b hb o e => hk2 b o (fun q => hSf (q ▸ hb)) e) hS2 (addE_EInt t hE tv a0 a1) (addE_fits hf _ _) (Nat.le_trans (addE_size _ _ _ _) (by lia)) ?_ fun h' tk es' t' ep' hk' hS' => ?_⟩
    · rw [build_snoc led ns hlt2, ← hb, addE_strip es t ns[i] (.int ns[i] tv)]
    · exact hR h' tk es' t' ep' (fun b o hbS hbI e => hk' b o hbS hbI (hk2 b o hbS (hk1 b o (by simpa using hbI) e))) hS'
theorem newX (a : Value) {Q₁ : Value → Shared → Prop}
    (h : Q₁ (.ref s.heap.objs.size) { s with heap := s.heap.push (setObj #[] 0 (.fresh 0 0 (!w.params.followText "set-order"))) }) :
    codeAny (model prog w) A (.call (.builtin "set.__new__") ⟨[.type "set", a], []⟩) (wants Q₁ E) s := by
  refine codeAny_of_tree ?_
  show wpAny _ A.in1 (do checkBuiltinCall "set.__new__" ⟨[.type "set", a], []⟩; again (.builtin "set.__new__" ⟨[.type "set", a], []⟩)) _ _ s
  refine wpAny_bind (wpAny_of_eq (F.newCall_set_1 a) (wpAny_pure ⟨plainId_quiet F.plain_set_new _, codeAny_builtin F.entry_set_new ?_⟩))
  rw [Around.under_plainId F.plain_set_new _]
  unfold Builtin.«set.__new__» Builtin.Frozenset.newClass
  have hsub := sub_set_self
  obtain ⟨hp, g, d, tk, os⟩ := s
  dsimp only
  repeat (first | with_reducible (first | refine wpAny_pure ?_ | refine wpAny_bind ?_ | refine wpAny_holding ?_) | ((with_reducible refine wpAny_ite_false ?_ ?_); focus (rfl; done)) | ((with_reducible refine wpAny_ite_true ?_ ?_); focus (rfl; done)) | with_reducible (first | refine wpAny_of_eq (by assumption) ?_ | refine wpAny_typeOf (by assumption) ?_ | refine wpAny_specialOf_val (by assumption) (by assumption) ?_ | refine wpAny_specialOf (by assumption) (by assumption) ?_ | refine wpAny_isInstance_val (by assumption) (by assumption) ?_ | refine wpAny_isInstance (by assumption) (by assumption) ?_ | refine wpAny_call ?_ | refine wpAny_runValue ?_) | ((with_reducible refine wpAny_load' ?_ ?_); focus (heap_get; done)) | ((with_reducible refine wpAny_loadPart' ?_ ?_); focus (heap_get; done)) | ((with_reducible refine wpAny_ite_false ?_ ?_); focus (simp [*]; done)) | wp_delta | wp_step)
  refine wpAny_askSetting (wpAny_pure ?_)
  dsimp only
  simp only [newObj]
  refine wpAny_bind (wpAny_alloc (wpAny_pure ?_))
  exact wpAny_pure h
theorem set_of_list {l : Addr} {vs : List Value} {ns : List Int} {Q : Value → Shared → Prop} (hh : A.handled = none) (hl : s.heap.IsList l vs.toArray) (hi : IntsAre vs ns) (hz : ns.length ≤ 100) (h12 : ∀ v ∈ ns, 0 ≤ v ∧ v < 12)
    (h : ∀ h' tk es t ep, (∀ b o, s.heap.get? b = some o → h'.get? b = some o) → h'.get? s.heap.objs.size = some (setObj es ep t) → EInt es → t.fits es.size = true → es.size ≤ ns.length → (es.map strip, t) = buildE (!w.params.followText "set-order") ns →
      Q (.ref s.heap.objs.size) { s with heap := h', toks := tk }) :
    wpAny (model prog w) A (call (.type "set") [.ref l]) Q E s := by
  have hob : ∃ led, (!w.params.followText "set-order") = led := ⟨_, rfl⟩
  refine Exists.elim hob fun led hled => ?_
  clear hob
  have hnew := newX (w := w) (prog := prog) (A := A.in1) (s := s) (.ref l) (E := E) (Q₁ := fun obj s₁ => obj = .ref s.heap.objs.size ∧ s₁ = { s with heap := s.heap.push (setObj #[] 0 (.fresh 0 0 (!w.params.followText "set-order"))) }) ⟨rfl, rfl⟩
  rw [hled] at h hnew
  refine ex2 F.called_set.mro fun c tl hmro => ?_
  have hmade := F.called_set.made
  have hsub := F.called_set.sub
  refine wpAny_call (codeAny_of_tree ?_)
  show wpAny _ _ (callAny (.type "set") _) _ _ _
  refine wpAny_pure ⟨Code.quiet_builtin _ (by decide +kernel), codeAny_builtin F.entry_type_call ?_⟩
  rw [Around.under_plain (weight_type_call_type "set" [.ref l] []) rfl]
  have h1 := F.called_set.notType
  have h2 := F.called_set.canCreate
  have hct := F.typeCall_set_1 (.ref l)
  repeat (any_goals (first | assumption | with_reducible (first | refine wpAny_pure ?_ | refine wpAny_bind ?_ | refine wpAny_holding ?_) | ((with_reducible refine wpAny_ite_false ?_ ?_); focus (rfl; done)) | ((with_reducible refine wpAny_ite_true ?_ ?_); focus (rfl; done)) | with_reducible (first | refine wpAny_of_eq (by assumption) ?_ | refine wpAny_typeOf (by assumption) ?_ | refine wpAny_specialOf_val (by assumption) (by assumption) ?_ | refine wpAny_specialOf (by assumption) (by assumption) ?_ | refine wpAny_isInstance_val (by assumption) (by assumption) ?_ | refine wpAny_isInstance (by assumption) (by assumption) ?_ | refine wpAny_call ?_ | refine wpAny_runValue ?_) | ((with_reducible refine wpAny_load' ?_ ?_); focus (heap_get; done)) | ((with_reducible refine wpAny_loadPart' ?_ ?_); focus (heap_get; done)) | ((with_reducible refine wpAny_ite_false ?_ ?_); focus (simp [*]; done)) | wp_delta | wp_step))
  refine codeAny_mono hnew fun r s₁ hr => ?_
  cases r with
  | error e => exact hr
  | ok fl =>
    cases fl with
    | ret obj =>
      refine an2 hr fun zr3 zr4 => ?_
      (try clear hr)
      subst zr3
      subst zr4
      generalize hO : setObj #[] 0 (.fresh 0 0 led) = O
      have hS : (s.heap.push O).get? s.heap.objs.size = some O := Heap.get?_push_size _ (by rw [← hO]; rfl)
      have hT : Shared.TypeIs { s with heap := s.heap.push O } (.ref s.heap.objs.size) "set" := ⟨_, hS, by rw [← hO]⟩
      clear h1 h2 hct hmro hnew
      have hli := F.called_set.init.lookup
      have hbi := F.called_set.init.bind (.ref s.heap.objs.size)
      repeat (any_goals (first | assumption | with_reducible (first | refine wpAny_pure ?_ | refine wpAny_bind ?_ | refine wpAny_holding ?_) | ((with_reducible refine wpAny_ite_false ?_ ?_); focus (rfl; done)) | ((with_reducible refine wpAny_ite_true ?_ ?_); focus (rfl; done)) | with_reducible (first | refine wpAny_of_eq (by assumption) ?_ | refine wpAny_typeOf (by assumption) ?_ | refine wpAny_specialOf_val (by assumption) (by assumption) ?_ | refine wpAny_specialOf (by assumption) (by assumption) ?_ | refine wpAny_isInstance_val (by assumption) (by assumption) ?_ | refine wpAny_isInstance (by assumption) (by assumption) ?_ | refine wpAny_call ?_ | refine wpAny_runValue ?_) | ((with_reducible refine wpAny_load' ?_ ?_); focus (heap_get; done)) | ((with_reducible refine wpAny_loadPart' ?_ ?_); focus (heap_get; done)) | ((with_reducible refine wpAny_ite_false ?_ ?_); focus (simp [*]; done)) | wp_delta | wp_step))
      refine codeAny_mono (codeAny_call_builtin (R := wants (fun r s₂ => r = .none ∧ ∃ h' tk es t ep, s₂ = { s with heap := h', toks := tk } ∧ (∀ b o, s.heap.get? b = some o → h'.get? b = some o) ∧ h'.get? s.heap.objs.size = some (setObj es ep t) ∧ EInt es ∧ t.fits es.size = true ∧ es.size ≤ ns.length ∧ (es.map strip, t) = buildE led ns) E) F.called_set.init.plain F.entry_set_init (check_set_init_1 hT ?_)) fun r₂ s₂ hr₂ => ?_
      · refine Exists.elim hl fun ol hx => an3 hx fun hol hcl hx => Exists.elim hx fun nl hdl => ?_
        (try clear hl)
        obtain ⟨ocls, odict, odata, oslots⟩ := ol
        simp only at hcl hdl
        subst hcl; subst hdl
        subst hO
        have hol' : (s.heap.push (setObj #[] 0 (.fresh 0 0 led))).get? l = some { cls := .type "list", dict := odict, data := .seq vs.toArray nl, slots := oslots } := Heap.get?_push_of_some _ hol
        have hsls := F.sub_list_set
        have hslf := F.sub_list_frozenset
        have hne : (Value.type "list" == Value.type "dict") = false := by decide
        have hl1 : (s.heap.push (setObj #[] 0 (.fresh 0 0 led))).IsList l vs.toArray := ⟨_, hol', rfl, nl, rfl⟩
        have hpush : ∀ b o, s.heap.get? b = some o → (s.heap.push (setObj #[] 0 (.fresh 0 0 led))).get? b = some o := fun b o e => Heap.get?_push_of_some _ e
        have hsz0 : (s.heap.push (setObj #[] 0 (.fresh 0 0 led))).objs.size = s.heap.objs.size + 1 := Heap.size_push _ _
        have hlS : l < s.heap.objs.size := Heap.lt_size hol
        have hold := fun b o (e : s.heap.get? b = some o) => Heap.lt_size e
        clear h hmade hsub hli hbi hol
        generalize s.heap.push (setObj #[] 0 (.fresh 0 0 led)) = H at *
        generalize s.heap.objs.size = S0 at *
        unfold Builtin.«set.__init__» noKeywords Builtin.Frozenset.updateFrom
        generalize hPI : pyIter = PI
        repeat (first | with_reducible (first | refine wpAny_pure ?_ | refine wpAny_bind ?_ | refine wpAny_holding ?_) | ((with_reducible refine wpAny_ite_false ?_ ?_); focus (rfl; done)) | ((with_reducible refine wpAny_ite_true ?_ ?_); focus (rfl; done)) | with_reducible (first | refine wpAny_of_eq (by assumption) ?_ | refine wpAny_typeOf (by assumption) ?_ | refine wpAny_specialOf_val (by assumption) (by assumption) ?_ | refine wpAny_specialOf (by assumption) (by assumption) ?_ | refine wpAny_isInstance_val (by assumption) (by assumption) ?_ | refine wpAny_isInstance (by assumption) (by assumption) ?_ | refine wpAny_call ?_ | refine wpAny_runValue ?_) | ((with_reducible refine wpAny_load' ?_ ?_); focus (heap_get; done)) | ((with_reducible refine wpAny_loadPart' ?_ ?_); focus (heap_get; done)) | ((with_reducible refine wpAny_ite_false ?_ ?_); focus (simp [*]; done)) | wp_delta | wp_step)
        subst hPI
        refine wpAny_pyIter_list hl1 ?_
        refine wpAny_bind (wpAny_runValue ?_)
        have hh3 : A.in1.in1.in1.handled = none := by simp [hh]
        have hneI : l ≠ H.objs.size := by
          rw [hsz0]; exact Nat.ne_of_lt (Nat.lt_succ_of_lt hlS)
        have hSf : S0 ∉ [H.objs.size, l] := by
          rw [hsz0]; simp only [List.mem_cons, List.not_mem_nil, or_false, not_or]
          exact ⟨Nat.ne_of_lt (Nat.lt_succ_self _), Nat.ne_of_gt hlS⟩
        have hlen := hi.length
        have hval : ∀ (i : Nat) (v : Value), vs.toArray[i]? = some v → ∃ t, v = .int (ns.getD i 0) t := fun i v hv => IntsAre.int_at hi i v (by rw [← hv]; simp)
        refine setLoop (Walks.list hh3 _ l hneI vs.toArray) hSf (by rw [List.size_toArray, hlen]) (by rw [List.size_toArray, hlen]; exact hz) hval h12 _ 0 _ #[] (.fresh 0 0 led) 0 rfl (Nat.zero_le _) ⟨⟨_, Heap.get?_push_size _ rfl, rfl, rfl⟩, hl1.push _⟩ (Heap.get?_push_of_some _ hS) (fun e he => by simp at he) rfl (Nat.le_refl _) (build0 _ ns) fun h' tk es' t' ep' hk' hS' hE' hf' hsz' hb' => ?_
        show wpAny _ _ _ _ _ _
        refine wpAny_pure ?_
        show wpAny _ _ (ret Value.none) _ _ _
        refine wpAny_pure ⟨rfl, h', tk, es', t', ep', rfl, fun b o e => hk' b o ?_ ?_ (Heap.get?_push_of_some _ (hpush b o e)), hS', hE', hf', Nat.le_trans hsz' (by rw [List.size_toArray, hlen]; exact Nat.le_refl _), hb'⟩
        · exact Nat.ne_of_lt (hold b o e)
        · rw [hsz0]; exact Nat.ne_of_lt (Nat.lt_succ_of_lt (hold b o e))
      · cases r₂ with
        | error e => exact hr₂
        | ok fl₂ =>
          cases fl₂ with
          | ret r =>
            refine an2 hr₂ fun zr1 hx => ex5 hx fun h' tk es' t' ep' hx => an7 hx fun zr2 hk' hS' hE' hf' hsz' hb' => ?_
            (try clear hr₂)
            subst zr1
            subst zr2
            repeat (any_goals (first | assumption | with_reducible (first | refine wpAny_pure ?_ | refine wpAny_bind ?_ | refine wpAny_holding ?_) | ((with_reducible refine wpAny_ite_false ?_ ?_); focus (rfl; done)) | ((with_reducible refine wpAny_ite_true ?_ ?_); focus (rfl; done)) | with_reducible (first | refine wpAny_of_eq (by assumption) ?_ | refine wpAny_typeOf (by assumption) ?_ | refine wpAny_specialOf_val (by assumption) (by assumption) ?_ | refine wpAny_specialOf (by assumption) (by assumption) ?_ | refine wpAny_isInstance_val (by assumption) (by assumption) ?_ | refine wpAny_isInstance (by assumption) (by assumption) ?_ | refine wpAny_call ?_ | refine wpAny_runValue ?_) | ((with_reducible refine wpAny_load' ?_ ?_); focus (heap_get; done)) | ((with_reducible refine wpAny_loadPart' ?_ ?_); focus (heap_get; done)) | ((with_reducible refine wpAny_ite_false ?_ ?_); focus (simp [*]; done)) | wp_delta | wp_step))
            exact h _ _ _ _ _ hk' hS' hE' hf' hsz' hb'
          | _ => exact hr₂.elim
    | _ => exact hr.elim
end
end

section
open PySem PySem.W PySem.Calls PyProof.Rows
theorem si_next : Slot "set_iterator" "__next__" "set_iterator.__next__" :=
  .of (owner := "set_iterator") (n := "__next__") (by rw [typeLookup_type, builtinLookup_eq_fast]; kernel_rfl) (by decide +kernel) (by decide +kernel) (by decide +kernel)
    (by first | exact .inl (by decide +kernel) | exact .inr (by decide +kernel)) (by rw [isSubtype_type]; kernel_rfl)
theorem si_iter : Slot "set_iterator" "__iter__" "set_iterator.__iter__" :=
  .of (owner := "set_iterator") (n := "__iter__") (by rw [typeLookup_type, builtinLookup_eq_fast]; kernel_rfl) (by decide +kernel) (by decide +kernel) (by decide +kernel)
    (by first | exact .inl (by decide +kernel) | exact .inr (by decide +kernel)) (by rw [isSubtype_type]; kernel_rfl)
theorem si_entry_next : entryFor table "set_iterator.__next__" = some Builtin.«set_iterator.__next__» := entryFor_of_tree (by kernel_rfl)
theorem si_entry_iter : entryFor table "set_iterator.__iter__" = some Builtin.«dict_keyiterator.__iter__» :=
  entryFor_alias (id' := "dict_keyiterator.__iter__") (by kernel_rfl) rfl (by decide +kernel) (by kernel_rfl)
theorem set_entry_iter : entryFor table "set.__iter__" = some Builtin.«frozenset.__iter__» :=
  entryFor_alias (id' := "frozenset.__iter__") (by kernel_rfl) rfl (by decide +kernel) (by kernel_rfl)
theorem si_owner : Manifest.owners.lookup (String.ofList ['r', 'o', 't', 'a', 'r', 'e', 't', 'i', '_', 't', 'e', 's'].reverse) = some Manifest.sig_set_iterator := by kernel_rfl
theorem si_args_next (a : Value) : argsOk "set_iterator.__next__" ⟨[a], []⟩ := by
  unfold argsOk; rw [signature?_of (id := "set_iterator.__next__") (n := ['_', '_', 't', 'x', 'e', 'n', '_', '_']) (o := ['r', 'o', 't', 'a', 'r', 'e', 't', 'i', '_', 't', 'e', 's']) (by kernel_rfl) si_owner]; kernel_rfl
theorem si_args_iter (a : Value) : argsOk "set_iterator.__iter__" ⟨[a], []⟩ := by
  unfold argsOk; rw [signature?_of (id := "set_iterator.__iter__") (n := ['_', '_', 'r', 'e', 't', 'i', '_', '_']) (o := ['r', 'o', 't', 'a', 'r', 'e', 't', 'i', '_', 't', 'e', 's']) (by kernel_rfl) si_owner]; kernel_rfl
noncomputable def ordE (w : World) (a : Addr) (ep : Nat) (es : Array (Int × Value)) : Array (Int × Value) := if w.params.followText "set-order" then pickOrder (w.params.setOrder a ep) es else es
theorem pick_go {α : Type} (next : Nat → Nat) : ∀ (fuel k : Nat) (left : List α) (out : Array α), left.length = fuel → (pickOrder.go next fuel k left out).toList.Perm (out.toList ++ left)
  | 0, k, left, out, h => by
    have : left = [] := List.length_eq_zero_iff.mp h
    subst this
    simp -iota [pickOrder.go]
  | f + 1, k, left, out, h => by
    unfold pickOrder.go
    have hlt : next k % left.length < left.length := Nat.mod_lt _ (by lia)
    rw [List.getElem?_eq_getElem hlt]
    dsimp only
    refine (pick_go next f (k + 1) _ _ (by rw [List.length_eraseIdx, if_pos hlt]; lia)).trans ?_
    rw [Array.toList_push, List.append_assoc]
    refine List.Perm.append_left _ ?_
    generalize next k % left.length = j at hlt
    rw [List.eraseIdx_eq_take_drop_succ]
    have e : left = left.take j ++ left[j] :: left.drop (j + 1) := by
      conv => lhs; rw [← List.take_append_drop j left, List.drop_eq_getElem_cons hlt]
    conv => rhs; rw [e]
    show (left[j] :: (List.take j left ++ List.drop (j + 1) left)).Perm _
    exact List.perm_middle.symm
theorem ordE_perm (w : World) (a : Addr) (ep : Nat) (es : Array (Int × Value)) : (ordE w a ep es).toList.Perm es.toList := by
  unfold ordE
  split
  · unfold pickOrder
    simpa -iota using pick_go (w.params.setOrder a ep) es.size 0 es.toList #[] (Array.length_toList ..)
  · exact .rfl
theorem ordE_size (w : World) (a : Addr) (ep : Nat) (es : Array (Int × Value)) : (ordE w a ep es).size = es.size := by
  have := (ordE_perm w a ep es).length_eq
  simpa -iota using this
structure Seen (w : World) (es : Array (Int × Value)) (t : SetTable) : Prop where
  fits : t.fits es.size = true
  at' : w.params.followText "set-order" = false → t.plain = true ∧ t.led = true ∧ ∀ j, j ≤ es.size → SetTable.below t.place (if j = 0 then 0 else t.place.getD (j - 1) 0 + 1) = j
noncomputable def IsSetIter (w : World) (h : Heap) (I a : Addr) (i n ep : Nat) (t : SetTable) : Prop :=
  ∃ slot : Nat, h.get? I = some { cls := .type "set_iterator", data := .fields #[.int slot 0, .int i 0, .ref a, .int n 0, .int ep 0] } ∧ (w.params.followText "set-order" = false → slot = if i = 0 then 0 else t.place.getD (i - 1) 0 + 1)
section
variable {prog : Program} {w : World} {A : Around} {E : Value → Shared → Prop} {s : Shared} {a I : Addr} {es : Array (Int × Value)} {t : SetTable} {ep i : Nat}
theorem byText_wp {Q : Bool → Shared → Prop} (h : Q (w.params.followText "set-order") s) : wpAny (model prog w) A setsByText Q E s := by
  unfold setsByText
  exact wpAny_bind (wpAny_askSetting (wpAny_pure h))
theorem size_wp {Q : Nat → Shared → Prop} (ho : s.heap.get? a = some (setObj es ep t)) (S : Seen w es t) (h : Q es.size s) : wpAny (model prog w) A (Builtin.Frozenset.sizeOf a) Q E s := by
  unfold Builtin.Frozenset.sizeOf setEntries
  exact wpAny_bind (wpAny_bind (wpAny_setState_of ho rfl S.fits (wpAny_pure (wpAny_pure h))))
theorem drawn_wp {Q : Bool → Shared → Prop} (ho : s.heap.get? a = some (setObj es ep t)) (S : Seen w es t) (h : Q false s) : wpAny (model prog w) A (setDrawn a) Q E s := by
  unfold setDrawn
  refine wpAny_bind (wpAny_setState_of ho rfl S.fits ?_)
  dsimp only
  refine wpAny_bind (byText_wp ?_)
  refine wpAny_pure ?_
  show Q (!(w.params.followText "set-order") && (!t.plain && decide (es.size > 1))) s
  cases hb : w.params.followText "set-order" with
  | true => exact h
  | false => rw [(S.at' hb).1]; exact h
theorem set_iterA {Q : Value → Shared → Prop} (ho : s.heap.get? a = some (setObj es ep t)) (S : Seen w es t)
    (h : Q (.ref s.heap.objs.size) { s with heap := s.heap.push { cls := .type "set_iterator", data := .fields #[.int 0 0, .int 0 0, .ref a, .int es.size 0, .int ep 0] } }) : wpAny (model prog w) A (pyIter (.ref a)) Q E s := by
  have hT : s.TypeIs (.ref a) "set" := ⟨_, ho, rfl⟩
  refine wpAny_pyIter_slot hT F.slot_set_iter (wpAny_call_entry F.slot_set_iter hT set_entry_iter ?_ (F.args_set_iter_1 _))
  unfold Builtin.«frozenset.__iter__»
  refine wpAny_bind (wpAny_pure ?_)
  refine wpAny_bind (size_wp ho S ?_)
  refine wpAny_bind (drawn_wp ho S ?_)
  show wpAny _ _ (pure (rawInt 0) >>= _) _ _ s
  refine wpAny_bind (wpAny_pure ?_)
  refine wpAny_bind (wpAny_setEpoch_of ho rfl S.fits ?_)
  refine wpAny_bind (wpAny_newObj_type ?_)
  refine wpAny_pure ⟨_, rfl, "set_iterator", _, ⟨_, Heap.get?_push_size _ rfl, rfl⟩, si_next.lookup, ?_⟩
  exact h
theorem iter_self {Q : Value → Shared → Prop} {n : Nat} (x : IsSetIter w s.heap I a i n ep t) (h : Q (.ref I) s) : wpAny (model prog w) A (pyIter (.ref I)) Q E s := by
  refine Exists.elim x fun slot hx => an2 hx fun ho _ => ?_
  (try clear x)
  have hT : s.TypeIs (.ref I) "set_iterator" := ⟨_, ho, rfl⟩
  refine wpAny_pyIter_slot hT si_iter (wpAny_call_entry si_iter hT si_entry_iter ?_ (si_args_iter _))
  show wpAny _ _ (ret (.ref I)) _ _ s
  exact wpAny_pure ⟨_, rfl, "set_iterator", _, hT, si_next.lookup, h⟩
theorem walk_wp {Q : Array (Int × Value) → Shared → Prop} (ho : s.heap.get? a = some (setObj es ep t)) (S : Seen w es t) (hb : w.params.followText "set-order" = true) (h : Q (ordE w a ep es) s) : wpAny (model prog w) A (setWalk a) Q E s := by
  unfold setWalk
  refine wpAny_bind (wpAny_setState_of ho rfl S.fits ?_)
  dsimp only
  refine wpAny_bind (byText_wp ?_)
  rw [if_pos hb]
  refine wpAny_bind (wpAny_askSetting (wpAny_pure ?_))
  have e : ordE w a ep es = pickOrder (w.params.setOrder a ep) es := if_pos hb
  rw [e] at h
  exact h
theorem next_wp {Q : Option (Value × Nat) → Shared → Prop} {slot : Nat} (ho : s.heap.get? a = some (setObj es ep t)) (S : Seen w es t) (hi : i ≤ es.size) (hs : w.params.followText "set-order" = false → slot = if i = 0 then 0 else t.place.getD (i - 1) 0 + 1)
    (h : ∀ slot', (w.params.followText "set-order" = false → i < es.size → slot' = t.place.getD i 0 + 1) → Q (((ordE w a ep es)[i]?).map fun e => (e.2, slot')) s) : wpAny (model prog w) A (setNext a slot i ep) Q E s := by
  unfold setNext
  refine wpAny_bind (wpAny_setState_of ho rfl S.fits ?_)
  dsimp only
  refine wpAny_bind (byText_wp ?_)
  cases hb : w.params.followText "set-order" with
  | true =>
    rw [if_pos rfl, if_neg (by simp -iota)]
    refine wpAny_bind (walk_wp ho S hb ?_)
    exact wpAny_pure (h slot fun e => by rw [hb] at e; cases e)
  | false =>
    refine an3 (S.at' hb) fun p1 p2 p3 => ?_
    have eo : ordE w a ep es = es := if_neg (by rw [hb]; simp -iota)
    rw [eo] at h
    rw [if_neg (by simp -iota)]
    rw [if_neg (by intro e; change (!t.plain && decide (es.size > 1)) = true at e; rw [p1] at e; simp -iota at e)]
    refine wpAny_bind ?_
    show wpAny _ _ (if (!t.led && !es.isEmpty) = true then _ else _) _ _ s
    rw [if_neg (by rw [p2]; simp -iota)]
    refine wpAny_pure ?_
    rw [hs hb, p3 i hi]
    have hf := S.fits
    simp -iota only [SetTable.fits, Bool.and_eq_true, beq_iff_eq] at hf
    by_cases hlt : i < es.size
    · have hlp : i < t.place.size := by rw [hf.1]; exact hlt
      have h1 := h (t.place[i] + 1) fun _ _ => by simp -iota [Array.getD, hlp]
      rw [Array.getElem?_eq_getElem hlt] at h1
      rw [Array.getElem?_eq_getElem hlt, Array.getElem?_eq_getElem hlp]
      exact wpAny_pure h1
    · have h1 := h 0 fun _ q => absurd q hlt
      rw [Array.getElem?_eq_none (by lia)] at h1
      rw [Array.getElem?_eq_none (by lia)]
      exact wpAny_pure h1
theorem iter_item {Q : Option Value → Shared → Prop} (ho : s.heap.get? a = some (setObj es ep t)) (S : Seen w es t) (hi : i < es.size) (x : IsSetIter w s.heap I a i es.size ep t) (hne : a ≠ I)
    (h : ∀ h' e, (ordE w a ep es)[i]? = some e → IsSetIter w h' I a (i + 1) es.size ep t → Heap.SameBut I s.heap h' → Q (some e.2) { s with heap := h' }) : wpAny (model prog w) A (pyNext (.ref I)) Q E s := by
  refine Exists.elim x fun slot hx => an2 hx fun hI hs => ?_
  (try clear x)
  have hT : s.TypeIs (.ref I) "set_iterator" := ⟨_, hI, rfl⟩
  unfold pyNext
  refine wpAny_bind (wpAny_attempt (wpAny_callSpecial?_slot (name := Str.ofString "__next__") hT si_next (wpAny_call_entry si_next hT si_entry_next ?_ (si_args_next _))))
  unfold Builtin.«set_iterator.__next__»
  refine wpAny_bind (wpAny_pure ?_)
  refine wpAny_bind (wpAny_fieldsOf hI rfl ?_)
  dsimp only
  refine wpAny_bind (wpAny_bind (wpAny_setState_of ho rfl S.fits (wpAny_pure ?_)))
  rw [if_neg (by simp -iota)]
  rw [Int.toNat_natCast, Int.toNat_natCast, Int.toNat_natCast]
  refine wpAny_bind (next_wp ho S (Nat.le_of_lt hi) hs fun slot' hs' => ?_)
  have hob : ∃ e, (ordE w a ep es)[i]? = some e := ⟨_, Array.getElem?_eq_getElem (by rw [ordE_size]; exact hi)⟩
  refine Exists.elim hob fun e he => ?_
  clear hob
  rw [he]
  dsimp only [Option.map]
  refine wpAny_bind (wpAny_setField hI rfl (by simp -iota) ?_)
  have hI1 := Heap.get?_update_self (Obj.mapFields (·.setIfInBounds 0 (rawInt (slot' : Int)))) hI rfl
  refine wpAny_bind (wpAny_setField hI1 rfl (by simp -iota) ?_)
  have hI2 := Heap.get?_update_self (Obj.mapFields (·.setIfInBounds 1 (rawInt ((i : Int) + 1)))) hI1 rfl
  refine wpAny_pure ⟨_, rfl, wpAny_pure (h _ e he ⟨slot', ?_, fun hb => ?_⟩ ((Heap.SameBut.update ..).trans (Heap.SameBut.update ..)))⟩
  · exact hI2
  · rw [hs' hb hi, if_neg (by lia)]; rfl
theorem iter_end {Q : Option Value → Shared → Prop} (hh : A.handled = none) (ho : s.heap.get? a = some (setObj es ep t)) (S : Seen w es t) (x : IsSetIter w s.heap I a es.size es.size ep t) (hne : a ≠ I)
    (h : ∀ h', Heap.ExtBut I s.heap h' → Q none { s with heap := h' }) : wpAny (model prog w) A (pyNext (.ref I)) Q E s := by
  refine Exists.elim x fun slot hx => an2 hx fun hI hs => ?_
  (try clear x)
  have hT : s.TypeIs (.ref I) "set_iterator" := ⟨_, hI, rfl⟩
  unfold pyNext
  refine wpAny_bind (wpAny_attempt (wpAny_callSpecial?_slot (name := Str.ofString "__next__") hT si_next (wpAny_call_entry si_next hT si_entry_next ?_ (si_args_next _))))
  unfold Builtin.«set_iterator.__next__»
  refine wpAny_bind (wpAny_pure ?_)
  refine wpAny_bind (wpAny_fieldsOf hI rfl ?_)
  dsimp only
  refine wpAny_bind (wpAny_bind (wpAny_setState_of ho rfl S.fits (wpAny_pure ?_)))
  rw [if_neg (by simp -iota)]
  rw [Int.toNat_natCast, Int.toNat_natCast, Int.toNat_natCast]
  refine wpAny_bind (next_wp ho S (Nat.le_refl _) hs fun slot' hs' => ?_)
  rw [Array.getElem?_eq_none (by rw [ordE_size]; exact Nat.le_refl _)]
  dsimp only [Option.map]
  refine wpAny_bind (wpAny_setField hI rfl (by simp -iota) ?_)
  show wpAny _ _ (newExc (.type "StopIteration") [] >>= _) _ _ _
  refine wpAny_bind ?_
  simp -iota only [newExc, newTuple]
  refine wpAny_bind (wpAny_newObj_type ?_ (by size_fits))
  refine wpAny_bind (m := firstArgMember _ _) (wpAny_of_eq (a := Value.none) (by first | rfl | (simp -iota only [firstArgMember]; rfl)) ?_)
  refine wpAny_newObj_type ?_ (by size_fits)
  simp -iota only [raiseNew]
  refine wpAny_bind (wpAny_handled ?_)
  rw [show A.in1.handled = none from hh]
  refine wpAny_bind (wpAny_pure (wpAny_throw ?_))
  refine wpAny_bind (wpAny_isInstance (T := "StopIteration") (b := true) ⟨_, Heap.get?_push_size _ rfl, rfl⟩ isSubtype_stop ?_)
  exact wpAny_pure (h _ (((Heap.SameBut.update ..).extBut.push _).push _))
theorem set_hint {Q : Bool → Shared → Prop} (hT : s.TypeIs (.ref a) "set") (h : Q false s) : wpAny (model prog w) A (Builtin.List.listLengthHint (.ref a)) Q E s := by
  unfold Builtin.List.listLengthHint
  refine wpAny_bind (wpAny_specialOf hT F.slot_set_len.lookup ?_)
  generalize hid : ("set.__len__" : String) = id0
  wp_delta
  rw [show splitId id0 = some ("set", "__len__") from by subst hid; decide +kernel]
  subst hid
  refine wpAny_bind (wpAny_isInstance (T := "set") (b := true) hT (by rw [isSubtype_type]; kernel_rfl) ?_)
  refine wpAny_ite_split (fun hab => absurd hab (by decide)) (fun _ => ?_)
  refine wpAny_ite_split (fun _ => ?_) (fun hab => absurd (by decide +kernel) hab)
  refine wpAny_bind (wpAny_typeOf hT ?_)
  exact wpAny_pure h
theorem set_src (S : Seen w es t) : KdlSrc prog w "set" a a es.size (fun i v => ∃ e, (ordE w a ep es)[i]? = some e ∧ v = e.2) (fun h => h.get? a = some (setObj es ep t)) where
  type := fun _ ho => ⟨_, ho, rfl⟩
  there := fun _ ho => ⟨Heap.lt_size ho, Heap.lt_size ho⟩
  keep := fun _ _ ho hk => hk a (.inl rfl) _ ho
  notList := by decide
  notTuple := by decide
  hint := fun _ _ _ _ ho hq => set_hint ⟨_, ho, rfl⟩ hq
  iter := fun A s hh ho => by
    have key : ∃ oI : Obj, (∀ I H, H.get? I = some oI → IsSetIter w H I a 0 es.size ep t) ∧ oI.isFreed = false ∧ (∀ (E : Value → Shared → Prop) (Q : Value → Shared → Prop), Q (.ref s.heap.objs.size) { s with heap := s.heap.push oI } → wpAny (model prog w) A (pyIter (.ref a)) Q E s) :=
      ⟨{ cls := .type "set_iterator", data := .fields #[.int 0 0, .int 0 0, .ref a, .int es.size 0, .int ep 0] }, fun I H e => ⟨0, e, fun _ => rfl⟩, rfl, fun E Q hQ => set_iterA ho S hQ⟩
    refine Exists.elim key fun oI hx => an3 hx fun k1 k2 k3 => ?_
    (try clear key)
    have hne : a ≠ s.heap.objs.size := Nat.ne_of_lt (Heap.lt_size ho)
    refine xi2 oI (fun i h => IsSetIter w h s.heap.objs.size a i es.size ep t ∧ h.get? a = some (setObj es ep t)) ⟨k3, ?_, k1 _ _ (Heap.get?_push_size _ k2), Heap.get?_push_of_some _ ho⟩
    exact {
      sub := fun b hb => by simp -iota at hb; simp -iota [hb]
      frame := fun _ _ _ st hk => by
        obtain ⟨⟨slot, e, x⟩, y⟩ := st
        exact ⟨⟨slot, hk _ (by simp -iota) _ e, x⟩, hk a (by simp -iota) _ y⟩
      item := fun i s' Q E hi st hQ => iter_item st.2 S hi st.1 hne fun h' e he hi' hs' => hQ _ h' s'.toks ⟨e, he, rfl⟩ ⟨hi', hs'.extBut _ _ hne st.2⟩ fun b o hb e => hs'.extBut b o (fun h => hb (by simp -iota [h])) e
      done := fun s' Q E st hQ => iter_end hh st.2 S st.1 hne fun h' he' => hQ h' s'.toks fun b o hb e => he' b o (fun h => hb (by simp -iota [h])) e
      self := fun _ _ _ _ st hQ => iter_self st.1 hQ }
end
end

section
open PySem PySem.W PySem.Calls PyProof.Rows
theorem hs_strip (es : Array (Int × Value)) : hs (es.map strip) = hs es := by
  unfold hs
  rw [Array.toList_map, List.map_map]; rfl
theorem ints_at {vs : List Value} {l : List (Int × Value)} (hl : vs.length = l.length) (hE : ∀ e ∈ l, ∃ v tk, e = (v, .int v tk) ∧ 0 ≤ v ∧ v < 12) (h : ∀ (j : Nat) (v : Value), vs[j]? = some v → ∃ e : Int × Value, l[j]? = some e ∧ v = e.2) : IntsAre vs (l.map (·.1)) := by
  induction vs generalizing l with
  | nil => cases l with
    | nil => exact .nil
    | cons e r => cases hl
  | cons v r ih => cases l with
    | nil => cases hl
    | cons e l =>
      refine Exists.elim (h 0 v (by simp)) fun e' hx => an2 hx fun h1 h2 => ?_
      simp at h1; subst h1
      refine ex2 (hE e (.head _)) fun u tk hx => an3 hx fun zr3 _ _ => ?_
      subst zr3
      subst h2
      exact .cons u tk (ih (by simpa using hl) (fun e he => hE e (.tail _ he)) fun j v hj => by simpa using h (j + 1) v (by simpa using hj))
section
variable {prog : Program} {w : World} {A : Around} {E : Value → Shared → Prop} {s : Shared} {h₀ : Heap} {L l a : Addr} {m : Str → Option Value} {news : List (Addr × Obj)} {vs : List Value} {es : Array (Int × Value)} {t : SetTable} {ep i n : Nat} {S : List Nat} {Q : Value → Shared → Prop}
theorem setN (hh : A.handled = none) (F : Fr h₀ L s.heap m) (N : News h₀ L s.heap news) (hl : s.heap.IsList l vs.toArray) (hi4 : i < 4) (hn : IsStep n) (hS : S ∈ clos i) (hi : IntsAre vs ((inp S n).map Int.ofNat))
    (h : ∀ D h' tk es t ep, Fr h₀ L h' m → News h₀ L h' ((D, setObj es ep t) :: news) → (∀ q ∈ news, q.1 < D) → Seen w es t → EInt es → (hs es).Perm ((nextT S n).map Int.ofNat) → Q (.ref D) { s with heap := h', toks := tk }) :
    wpAny (model prog w) A (call (.type "set") [.ref l]) Q E s := by
  refine an4 (clos_lt hS) fun c1 c2 c3 c4 => ?_
  have hlen : ((inp S n).map Int.ofNat).length ≤ 100 := by
    rw [List.length_map]; unfold inp; rw [List.length_append, List.length_map]; lia
  refine an2 (build_ok hi4 hn hS) fun b1 b2 => ?_
  refine set_of_list hh hl hi hlen (fun v hv => ?_) fun h' tk es t ep hk ho hE hf hsz hb => ?_
  · refine Exists.elim (List.mem_map.mp hv) fun u hx => an2 hx fun hu zr2 => ?_
    subst zr2
    have : u < 12 := by
      rcases List.mem_append.mp hu with hu | hu
      · exact c1 u hu
      · refine Exists.elim (List.mem_map.mp hu) fun p hx => an2 hx fun _ zr1 => ?_
        subst zr1
        exact Nat.mod_lt _ (by decide)
    exact ⟨Int.natCast_nonneg _, by show (u : Int) < 12; lia⟩
  · have e1 : es.map strip = (buildE (!w.params.followText "set-order") ((inp S n).map Int.ofNat)).1 := congrArg Prod.fst hb
    have e2 : t = (buildE (!w.params.followText "set-order") ((inp S n).map Int.ofNat)).2 := congrArg Prod.snd hb
    refine h _ h' tk es t ep (F.keeps hk) (news_pushed F N hk ho rfl) (fun q hq => Heap.lt_size (N q hq).1) ⟨hf, fun hq => ?_⟩ hE ?_
    · rw [hq] at e1 e2
      have ez : es.size = (buildE true ((inp S n).map Int.ofNat)).1.size := by
        have := congrArg Array.size e1
        simpa using this
      rw [e2, ez]
      exact ⟨b1.plain, b1.led, b1.at'⟩
    · rw [← hs_strip, e1]; exact b2 _
theorem sortedN (hh : A.handled = none) (F : Fr h₀ L s.heap m) (N : News h₀ L s.heap news) (hm : (a, setObj es ep t) ∈ news) (hs' : Seen w es t) (hE : EInt es) (hp : (hs es).Perm ((nextT S n).map Int.ofNat))
    (h : ∀ D h' tk vs c, Fr h₀ L h' m → News h₀ L h' ((D, listOf vs.toArray c) :: news) → (∀ q ∈ news, q.1 < D) → IntsAre vs ((nextT S n).map Int.ofNat) → Q (.ref D) { s with heap := h', toks := tk }) :
    wpAny (model prog w) A (call (.builtin "sorted") [.ref a]) Q E s := by
  have hz : es.size ≤ 12 := by
    have h1 := hp.length_eq
    unfold hs at h1
    rw [List.length_map, Array.length_toList, List.length_map] at h1
    have := nextT_len S n
    lia
  refine kdu_sorted (set_src (prog := prog) (ep := ep) hs') hh F N (N _ hm).1 (by rw [sizeLine_eq]; lia) fun D h' tk vs F' N' l1 hlen hv => ?_
  have hpo := ordE_perm w a ep es
  have hI : IntsAre vs ((ordE w a ep es).toList.map (·.1)) := ints_at (by rw [hlen, Array.length_toList, ordE_size]) (fun e he => hE e (hpo.mem_iff.mp he)) fun j v hj => by
    refine Exists.elim (hv j v hj) fun e hx => an2 hx fun h1 h2 => ?_
    exact ⟨e, by rw [Array.getElem?_toList]; exact h1, h2⟩
  have hD := (N' _ (.head _)).1
  refine wpAny_call_entry slot_list_sort ⟨_, hD, rfl⟩ entry_list_sort (list_sort_tree hD hI (by lia) fun out ns' a1 a2 a3 => ⟨_, rfl, ?_⟩) (args_list_sort _)
  have e : ns' = (nextT S n).map Int.ofNat := sorted_eq (a2.trans ((hpo.map _).trans hp)) a3 (nextT_sorted S n)
  rw [e] at a1
  refine Exists.elim (sortedHeap_at (out := out) hD) fun c hc => ?_
  have old : ∀ b o, b ≠ D → h'.get? b = some o → (sortedHeap h' D vs out).get? b = some o := fun b o hb e => (sortedHeap_old hb (Heap.lt_size e)).trans e
  refine an2 ((N' _ (.head _)).2) fun hD1 hD2 => ?_
  refine h D (sortedHeap h' D vs out) tk out.toList c ⟨?_, fun b o e => old b o (fun q => by rw [q] at e; rw [hD2] at e; cases e) (F'.keep b o e), F'.above⟩ (fun q hq => ?_) l1 a1
  · refine ex3 F'.ns fun oL es' ep' hx => an2 hx fun hL r => ?_
    exact xi3 oL es' ep' ⟨old _ _ (Ne.symm hD1) hL, r⟩
  · revert q hq
    refine all_cons ?_ fun q hq => ?_
    · exact ⟨by simpa using hc, hD1, hD2⟩
    · exact ⟨old _ _ (Nat.ne_of_lt (l1 q hq)) (N' q (.tail _ hq)).1, (N' q (.tail _ hq)).2⟩
end
end

open PySem PySem.W PySem.Calls PyProof.Rows
local macro_rules | `(tactic| walk_at $s:str) => `(tactic| k_extra $s)
theorem regK1_J : True := by
  k_with "getMethod ref" => (k_dflt (first | ((with_reducible apply accMethB); (case F => assumption); (case X₀ => assumption); (case N => assumption); (case hf => k_is); (case ht => exact type_append); (case hs => rfl)) | ((with_reducible apply accMeth); (case F => assumption); (case X₀ => assumption); (case N => assumption); (case hf => k_is); (case ht => k_is); (case hs => rfl)) | ((with_reducible apply pageMeth); (case F => assumption); (case X₀ => assumption); (case N => assumption); (case hg => k_is); (case hf => k_is); (case ht => k_is); (case hl => rfl))))
  k_with "getAttr ref" => (first
    | ((with_reducible apply page_line); (case F => assumption); (case X₀ => assumption); (case N => assumption))
    | ((with_reducible apply page_lines); (case F => assumption); (case X₀ => assumption); (case N => assumption))
    | ((with_reducible apply page_maxlen); (case F => assumption); (case X₀ => assumption); (case N => assumption))
    | ((with_reducible apply page_splitchars); (case F => assumption); (case X₀ => assumption); (case N => assumption))
    | ((with_reducible apply acc_size); (case F => assumption); (case X₀ => assumption); (case N => assumption)))
  k_with "newTuple" => ((with_reducible apply newTupleP); (case hz => exact Nat.le_of_ble_eq_true rfl); (case F => assumption); (case N => assumption); (case hr => assumption); intro _ _ _ _ _; k_sweep)
  k_with "LeaveK" => (apply leaveK_; (case F' => assumption); (case N' => assumption); intro _ _)
  k_with "super" => (apply superNode; (case F => assumption); (case X₀ => assumption); (case N => assumption); (case T => assumption); (case hf => k_is); (case hp => exact rfl); (case hv => exact rfl); (case I => exact instAcc (by assumption)); (case hcode => k_is); (case hvs => exact rfl); (case hfile => exact PO.file (by assumption)); (case hcell => k_is); (case hD => k_is); (case hsub => k_is); (case hsuper => k_is); (case hat => rfl); (case hks => exact rfl); (case hkc => exact rfl); (case hka => exact rfl); (case hk => exact rfl); (case htop => exact PO.sup (by assumption)); (case hboot => boot_by_name))
  k_with "newList" => ((with_reducible apply newListP); (case hz => exact Nat.le_of_ble_eq_true rfl); (case F => assumption); (case N => assumption); (case hr => assumption); intro _ _ _ _ _; k_sweep)
  k_with "us" => ((first | (goal_lacks PySem.wpAny) | (fail_if_success (fail_if_success (with_reducible show Sealed _ _ _)))); (first | ((first | ((with_reducible apply unseal_next); (case hK => assumption)) | ((with_reducible apply unseal_ret); (case hK => assumption)) | ((with_reducible apply unseal_brk); (case hK => assumption)) | ((with_reducible apply unseal_cont); (case hK => assumption))); (try clear hK_q K_q)) | ((with_reducible apply unsealB); (case hB => assumption); (try clear hB_q hE_q KB_q EB_q))); (try walk_at "us"))
  k_with "Sealed" => (plain_pass; (walk_at "us"); walk1)
  k_with "SealedB" => (plain_pass; (walk_at "us"); walk1)
  k_with "execs cons" => (try (k_here; k_gentoks)); (try ((fail_if_success (goal_lacks PySem.W.envX)); first | ((with_reducible refine seal_envA ?_); intro e_q A_q) | ((with_reducible refine seal_env ?_); intro e_q))); first | ((goal_lacks Mine.Sealed); (with_reducible refine execs_seal ?_); intro K_q hK_q; (try dsimp only)) | ((with_reducible refine wpAny_execs_cons ?_); (try dsimp only))
  k_with "execs nil" => (try (k_here; k_gentoks)); refine wpAny_execs_nil ?_
  trivial

section
open PySem PySem.W PySem.Calls PyProof.Rows
theorem entry_pop : entryFor table "list.pop" = some Builtin.«list.pop» := entryFor_of_tree (by kernel_rfl)
theorem plain_pop : plainId "list.pop" = true := by decide +kernel
section
variable {prog : Program} {w : World} {A : Around} {E : Value → Shared → Prop} {s : Shared} {h₀ : Heap} {L : Addr} {m : Str → Option Value} {pg : PG} {st : ST} {rest : List (Addr × Obj)} {p : Program} {loose : List Str} {mg mb : Str → Option Value}
theorem regL_B11 : True := by
  k_with "call ref" => (try dsimp only [List.append_nil, List.nil_append, List.cons_append]); ((with_reducible apply count_C); (case hP => assumption); (case X₀ => assumption); (case T => assumption); (case F => assumption); (case N => assumption); (case hr => assumption); (case hA => exact Room.deep (by assumption) (by decide)); intro _ _ _ _ _; k_sweep)
  trivial

theorem PL_keep {P : Params} {h : Heap} {rest' : List (Addr × Obj)} (hs : ∀ q ∈ rest', q ∈ rest) (N : News h₀ L h (PL P pg st ++ rest)) : News h₀ L h (PL P pg st ++ rest') :=
  News.sub N fun r hr => by
    rcases List.mem_append.mp hr with hr | hr
    · exact List.mem_append_left _ hr
    · exact List.mem_append_right _ (hs r hr)
theorem Off.sub {rest' : List (Addr × Obj)} (hs : ∀ q ∈ rest', q ∈ rest) (hr : Off pg rest) : Off pg rest' := fun q hq => hr q (hs q hq)

open Builtin.List in
theorem accPop {Q : PySem.Fin → Shared → Prop} {ps : List PT} {x : PT} (F : Fr h₀ L s.heap m) (N : News h₀ L s.heap (PL w.params pg st ++ rest)) (hr : Off pg rest) (hps : st.parts = ps ++ [x]) (hz : st.parts.length ≤ 1000)
   (h : ∀ h' ne', Fr h₀ L h' m → News h₀ L h' (PL w.params pg { st with parts := ps, ne := ne' } ++ (tup x :: rest)) → Off pg (tup x :: rest) → Q (.done (.ret (.ref x.a))) { s with heap := h' }) :
   wpAny (model prog w) A (Builtin.«list.pop» ⟨[.ref pg.acc], []⟩) Q E s := by
  have ap := apart N
  have N2 : News h₀ L s.heap (PL w.params pg st ++ (tup x :: rest)) := News.sub N fun q hq => by
    rcases List.mem_append.mp hq with hq | hq
    · exact List.mem_append_left _ hq
    · rcases List.mem_cons.mp hq with rfl | hq
      · exact mem_tup (by rw [hps]; simp -iota)
      · exact mem_rest hq
  have hr2 : Off pg (tup x :: rest) := fun q hq => by
    rcases List.mem_cons.mp hq with rfl | hq
    · exact ap.tups x (by rw [hps]; simp -iota)
    · exact hr q hq
  have hl : st.parts.length = ps.length + 1 := by rw [hps]; simp -iota
  have hsz : (its st.parts).toArray.size = ps.length + 1 := by simp -iota [hl]
  have hi : seqIndex? (-1) (its st.parts).toArray.size = some ps.length := by
    rw [hsz]; unfold seqIndex?
    have h1 : (0 ≤ (-1 : Int) + ((ps.length + 1 : Nat) : Int)) ∧ (-1 : Int) + ((ps.length + 1 : Nat) : Int) < ((ps.length + 1 : Nat) : Int) := by lia
    have h2 : ((-1 : Int) + ((ps.length + 1 : Nat) : Int)).toNat = ps.length := by lia
    rw [if_pos (by decide : (-1 : Int) < 0)]
    simp -iota only [h1.1, h1.2, decide_true, Bool.and_self, if_true, h2]
  have hx : (its st.parts).toArray[ps.length]? = some (.ref x.a) := by
    rw [hps]; simp -iota
  unfold Builtin.«list.pop»
  refine wpAny_bind (wpAny_pure (a := (Value.ref pg.acc, [])) ?_)
  refine wpAny_bind (wpAny_pure (a := (-1 : Int)) ?_)
  dsimp only
  rw [if_neg (by decide)]
  have ho := (N _ mem_acc).1
  unfold listItems
  refine wpAny_bind (wpAny_bind (wpAny_seqItems ho rfl (wpAny_pure ?_)))
  have hne : (its st.parts).toArray.isEmpty = false := by rw [hps]; simp -iota
  rw [hne]
  simp -iota only [Bool.false_eq_true, if_false]
  rw [hi, Option.bind_some, hx, Option.map_some]
  dsimp only
  refine wpAny_bind ?_
  show wpAny _ _ (updateSeq pg.acc fun a => a.eraseIdxIfInBounds ps.length) _ _ _
  refine accSeq F N2 hr2 (ps := ps) ?_ (fun y hy => .inl (by rw [hps]; exact List.mem_append_left _ hy)) hz (by lia) fun h' ne' F' N' => wpAny_pure (h h' ne' F' N' hr2)
  rw [hps]
  simp -iota only [List.map_append, List.map_cons, List.map_nil, List.eraseIdxIfInBounds_toArray]
  rw [List.eraseIdx_append_of_length_le (by simp -iota)]
  simp -iota

theorem pop_C {Q : Value → Shared → Prop} {ps : List PT} {x : PT} (hP : PO prog)
   (X₀ : (hd.heap_39 w.params).In h₀) (T : TopRead p loose mg mb h₀) (F : Fr h₀ L s.heap m) (N : News h₀ L s.heap (PL w.params pg st ++ rest)) (hr : Off pg rest) (hA : Room A 6) (hps : st.parts = ps ++ [x]) (hz : st.parts.length ≤ 1000)
   (h : ∀ h' ne' tk, Fr h₀ L h' m → News h₀ L h' (PL w.params pg { st with parts := ps, ne := ne' } ++ (tup x :: rest)) → Off pg (tup x :: rest) → Q (.ref x.a) { s with heap := h', toks := tk }) :
   wpAny (model prog w) A (call (.ref 155) [.ref pg.acc]) Q E s := by
  refine wpAny_call ?_
  refine' enterS (binds := [("self", .ref pg.acc)]) X₀ T F N (hA.lt (by decide)) ?_
  clear X₀ T F N
  intro g L' h' F' N' X' T' l1
  refine ks_wpAt_execs_cons (ks_wpAt_If (wpAt_of_wpAny ?_))
  iterate 9 walk1
  all_goals (try walk_at "us")
  rw [if_neg (by rw [hps]; simp -iota; lia)]
  refine wpAt_of_wpAny (wpAny_execs_nil ?_)
  refine ks_wpAt_execs_cons (ks_wpAt_Return_some (ks_wpAt_MethodCall ?_))
  rename_i h1 t1 tk1 F1 N1
  walk_at "super"
  intro so h2 F2 N2 l2
  refine an2 (PL_new N2 l2 hr) fun N3 hr3 => ?_
  clear F1 N1 N2
  refine superAcc F2 X' N3 (.head _) (T := "method_descriptor") (gi := "method_descriptor.__get__") (bo := "builtin_function_or_method") (i := "list.pop") (along_pop _) type_pop slot_mdget.lookup (by rfl) (fun hq => get_pop (inst_sub (T := "list") (Kat F2 X') (instAcc N3) (by rfl)) hq) hr3 ?_
  intro q h3 F3 N4 hr4
  refine callWith_bound (N4 _ (mem_rest (.head _))).1 (.inl rfl) ?_
  refine call_bound (b := Builtin.«list.pop») (N4 _ (mem_rest (.head _))).1 (.inl rfl) plain_pop entry_pop (fun hq => check_pop (Kat F3 X') (instAcc N4) hq) ?_
  refine accPop F3 N4 hr4 hps hz fun h4 ne4 F4 N5 hr5 => ⟨_, rfl, ?_⟩
  have sub : ∀ q' ∈ tup x :: rest, q' ∈ tup x :: (q, boundO "builtin_function_or_method" "list.pop" pg.acc) :: (so, ks_superObj 195 pg.acc 195) :: rest := by
    intro q' hq; simp -iota only [List.mem_cons] at hq ⊢; rcases hq with hq | hq <;> simp -iota [hq]
  exact leaveK_ F4 (PL_keep sub N5) fun F5 N6 => h _ _ _ F5 N6 (Off.sub sub hr5)
end
end

theorem regR_B11 : True := by
  k_with_none
  k_with "getMethod ref" => (k_dflt (first | ((with_reducible apply accMethB); (case F => assumption); (case X₀ => assumption); (case N => assumption); (case hf => k_is); (case ht => exact type_append); (case hs => rfl)) | ((with_reducible apply accMeth); (case F => assumption); (case X₀ => assumption); (case N => assumption); (case hf => k_is); (case ht => k_is); (case hs => rfl)) | ((with_reducible apply pageMeth); (case F => assumption); (case X₀ => assumption); (case N => assumption); (case hg => k_is); (case hf => k_is); (case ht => k_is); (case hl => rfl))))
  k_with "getAttr ref" => (first
    | ((with_reducible apply page_line); (case F => assumption); (case X₀ => assumption); (case N => assumption))
    | ((with_reducible apply page_lines); (case F => assumption); (case X₀ => assumption); (case N => assumption))
    | ((with_reducible apply page_maxlen); (case F => assumption); (case X₀ => assumption); (case N => assumption))
    | ((with_reducible apply page_splitchars); (case F => assumption); (case X₀ => assumption); (case N => assumption))
    | ((with_reducible apply acc_size); (case F => assumption); (case X₀ => assumption); (case N => assumption)))
  k_with "newTuple" => ((with_reducible apply newTupleP); (case hz => exact Nat.le_of_ble_eq_true rfl); (case F => assumption); (case N => assumption); (case hr => assumption); intro _ _ _ _ _; k_sweep)
  k_with "LeaveK" => (apply leaveK_; (case F' => assumption); (case N' => assumption); intro _ _)
  k_with "super" => (apply superNode; (case F => assumption); (case X₀ => assumption); (case N => assumption); (case T => assumption); (case hf => k_is); (case hp => exact rfl); (case hv => exact rfl); (case I => exact instAcc (by assumption)); (case hcode => k_is); (case hvs => exact rfl); (case hfile => exact PO.file (by assumption)); (case hcell => k_is); (case hD => k_is); (case hsub => k_is); (case hsuper => k_is); (case hat => rfl); (case hks => exact rfl); (case hkc => exact rfl); (case hka => exact rfl); (case hk => exact rfl); (case htop => exact PO.sup (by assumption)); (case hboot => boot_by_name))
  k_with "newList" => ((with_reducible apply newListP); (case hz => exact Nat.le_of_ble_eq_true rfl); (case F => assumption); (case N => assumption); (case hr => assumption); intro _ _ _ _ _; k_sweep)
  k_with "us" => ((first | (goal_lacks PySem.wpAny) | (fail_if_success (fail_if_success (with_reducible show Sealed _ _ _)))); (first | ((first | ((with_reducible apply unseal_next); (case hK => assumption)) | ((with_reducible apply unseal_ret); (case hK => assumption)) | ((with_reducible apply unseal_brk); (case hK => assumption)) | ((with_reducible apply unseal_cont); (case hK => assumption))); (try clear hK_q K_q)) | ((with_reducible apply unsealB); (case hB => assumption); (try clear hB_q hE_q KB_q EB_q))); (try walk_at "us"))
  k_with "Sealed" => (plain_pass; (walk_at "us"); walk1)
  k_with "SealedB" => (plain_pass; (walk_at "us"); walk1)
  k_with "execs cons" => (try (k_here; k_gentoks)); (try ((fail_if_success (goal_lacks PySem.W.envX)); first | ((with_reducible refine seal_envA ?_); intro e_q A_q) | ((with_reducible refine seal_env ?_); intro e_q))); first | ((goal_lacks Mine.Sealed); (with_reducible refine execs_seal ?_); intro K_q hK_q; (try dsimp only)) | ((with_reducible refine wpAny_execs_cons ?_); (try dsimp only))
  k_with "execs nil" => (try (k_here; k_gentoks)); refine wpAny_execs_nil ?_
  trivial

section
open PySem PySem.W PySem.Calls PyProof.Rows
section
variable {prog : Program} {w : World} {A : Around} {E : Value → Shared → Prop} {s : Shared} {h₀ : Heap} {L : Addr} {m : Str → Option Value} {pg : PG} {st : ST} {rest : List (Addr × Obj)} {p : Program} {loose : List Str} {mg mb : Str → Option Value}
theorem regL_B5 : True := by
  k_with "call builtin:list.append" => ((with_reducible apply accAppend (x := ⟨_, _, _, _, _⟩)); (case F => assumption); (case X₀ => assumption); (case N => assumption); (case hr => assumption); (case hx => exact .head _); (case hz => assumption); intro _ _ _ _; k_sweep)
  trivial
theorem push_D {f str : Str} {tf ts : Tok} {R : Result → Shared → Prop}
   (X₀ : (hd.heap_39 w.params).In h₀) (T : TopRead p loose mg mb h₀) (F : Fr h₀ L s.heap m) (N : News h₀ L s.heap (PL w.params pg st ++ rest)) (hr : Off pg rest) (hA : Room A 3) (hz : st.parts.length < 1000)
   (h : ∀ a h' ne' tk, Fr h₀ L h' m → News h₀ L h' (PL w.params pg { st with parts := st.parts ++ [⟨a, f, tf, str, ts⟩], ne := ne' } ++ rest) → R (.ok (.ret .none)) { s with heap := h', toks := tk }) :
   codeAny (model prog w) A (.call (.ref 139) ⟨[.ref pg.acc, .str f tf, .str str ts], []⟩) R s := by
  refine' enter (binds := [("self", .ref pg.acc), ("fws", .str f tf), ("string", .str str ts)]) X₀ T F N (hA.lt (by decide)) ?_
  clear X₀ T F N
  intro g L' h' F' N' X' T' l1
  repeat' walk1
  all_goals (try walk_at "us")
  rename_i F1 N1
  (try walk_at "us")
  exact h _ _ _ _ F1 (PL_drop N1)
theorem push_C {f str : Str} {tf ts : Tok} {Q : Value → Shared → Prop}
   (X₀ : (hd.heap_39 w.params).In h₀) (T : TopRead p loose mg mb h₀) (F : Fr h₀ L s.heap m) (N : News h₀ L s.heap (PL w.params pg st ++ rest)) (hr : Off pg rest) (hA : Room A 3) (hz : st.parts.length < 1000)
   (h : ∀ a h' ne' tk, Fr h₀ L h' m → News h₀ L h' (PL w.params pg { st with parts := st.parts ++ [⟨a, f, tf, str, ts⟩], ne := ne' } ++ rest) → Q .none { s with heap := h', toks := tk }) :
   wpAny (model prog w) A (call (.ref 139) [.ref pg.acc, .str f tf, .str str ts]) Q E s :=
  wpAny_call (push_D X₀ T F N hr hA hz h)

end
end

theorem regR_B5 : True := by
  k_with_none
  k_with "getMethod ref" => (k_dflt (first | ((with_reducible apply accMethB); (case F => assumption); (case X₀ => assumption); (case N => assumption); (case hf => k_is); (case ht => exact type_append); (case hs => rfl)) | ((with_reducible apply accMeth); (case F => assumption); (case X₀ => assumption); (case N => assumption); (case hf => k_is); (case ht => k_is); (case hs => rfl)) | ((with_reducible apply pageMeth); (case F => assumption); (case X₀ => assumption); (case N => assumption); (case hg => k_is); (case hf => k_is); (case ht => k_is); (case hl => rfl))))
  k_with "getAttr ref" => (first
    | ((with_reducible apply page_line); (case F => assumption); (case X₀ => assumption); (case N => assumption))
    | ((with_reducible apply page_lines); (case F => assumption); (case X₀ => assumption); (case N => assumption))
    | ((with_reducible apply page_maxlen); (case F => assumption); (case X₀ => assumption); (case N => assumption))
    | ((with_reducible apply page_splitchars); (case F => assumption); (case X₀ => assumption); (case N => assumption))
    | ((with_reducible apply acc_size); (case F => assumption); (case X₀ => assumption); (case N => assumption)))
  k_with "newTuple" => ((with_reducible apply newTupleP); (case hz => exact Nat.le_of_ble_eq_true rfl); (case F => assumption); (case N => assumption); (case hr => assumption); intro _ _ _ _ _; k_sweep)
  k_with "LeaveK" => (apply leaveK_; (case F' => assumption); (case N' => assumption); intro _ _)
  k_with "super" => (apply superNode; (case F => assumption); (case X₀ => assumption); (case N => assumption); (case T => assumption); (case hf => k_is); (case hp => exact rfl); (case hv => exact rfl); (case I => exact instAcc (by assumption)); (case hcode => k_is); (case hvs => exact rfl); (case hfile => exact PO.file (by assumption)); (case hcell => k_is); (case hD => k_is); (case hsub => k_is); (case hsuper => k_is); (case hat => rfl); (case hks => exact rfl); (case hkc => exact rfl); (case hka => exact rfl); (case hk => exact rfl); (case htop => exact PO.sup (by assumption)); (case hboot => boot_by_name))
  k_with "newList" => ((with_reducible apply newListP); (case hz => exact Nat.le_of_ble_eq_true rfl); (case F => assumption); (case N => assumption); (case hr => assumption); intro _ _ _ _ _; k_sweep)
  k_with "us" => ((first | (goal_lacks PySem.wpAny) | (fail_if_success (fail_if_success (with_reducible show Sealed _ _ _)))); (first | ((first | ((with_reducible apply unseal_next); (case hK => assumption)) | ((with_reducible apply unseal_ret); (case hK => assumption)) | ((with_reducible apply unseal_brk); (case hK => assumption)) | ((with_reducible apply unseal_cont); (case hK => assumption))); (try clear hK_q K_q)) | ((with_reducible apply unsealB); (case hB => assumption); (try clear hB_q hE_q KB_q EB_q))); (try walk_at "us"))
  k_with "Sealed" => (plain_pass; (walk_at "us"); walk1)
  k_with "SealedB" => (plain_pass; (walk_at "us"); walk1)
  k_with "execs cons" => (try (k_here; k_gentoks)); (try ((fail_if_success (goal_lacks PySem.W.envX)); first | ((with_reducible refine seal_envA ?_); intro e_q A_q) | ((with_reducible refine seal_env ?_); intro e_q))); first | ((goal_lacks Mine.Sealed); (with_reducible refine execs_seal ?_); intro K_q hK_q; (try dsimp only)) | ((with_reducible refine wpAny_execs_cons ?_); (try dsimp only))
  k_with "execs nil" => (try (k_here; k_gentoks)); refine wpAny_execs_nil ?_
  trivial

section
open PySem PySem.W PySem.Calls PyProof.Rows
section
variable {prog : Program} {w : World} {A : Around} {E : Value → Shared → Prop} {s : Shared} {h₀ : Heap} {L : Addr} {m : Str → Option Value} {pg : PG} {st : ST} {rest : List (Addr × Obj)} {p : Program} {loose : List Str} {mg mb : Str → Option Value}
open Builtin.List in
theorem slicePart {M : Model} {sl : Addr} {vl : Value} {lo : Option Int} {os : Obj} {Q : Value × Value × Value → Shared → Prop} (hos : s.heap.get? sl = some os) (hds : os.data = .fields #[vl, .none, .none]) (pl : IsPart vl lo)
    (h : Q (rawPart lo, .none, .none) s) : wpAny M A (listSliceParts (.ref sl)) Q E s := by
  rw [listSliceParts_eq]
  refine wpAny_bind (wpAny_field hos hds (x := .none) rfl (wpAny_bind (wpAny_listPart .none ?_)))
  rw [if_neg (by exact Bool.false_ne_true)]
  exact wpAny_bind (wpAny_field hos hds (x := vl) rfl (wpAny_bind (wpAny_listPart pl (wpAny_bind (wpAny_field hos hds (x := .none) rfl (wpAny_bind (wpAny_listPart .none (wpAny_pure h))))))))

theorem seqKey195 {x : Addr} {ox : Obj} {od : Option Obj} {k : Value} {name : Str} {Q : Value → Shared → Prop} (X : (hd.heap_39 w.params).In s.heap) (I : W.InstAt s.heap x ox 195 od) (h : Q k s) : wpAny (model prog w) A (sequenceKey (.ref x) k name) Q E s := by
  unfold sequenceKey
  refine wpAny_bind (I.type.here ?_)
  dsimp only
  refine wpAny_bind ((anyM_none (C := 195) X (show noSeq (hd.heap_39 w.params) 195 = true by k_is)).here ?_)
  exact wpAny_pure h

theorem bind_getitem (self : Value) : bindSpecial (.builtin "list.__getitem__") self = pure (.builtin "list.__getitem__", [self]) := slot_list_getitem.bind self
theorem bind_setitem (self : Value) : bindSpecial (.builtin "list.__setitem__") self = pure (.builtin "list.__setitem__", [self]) := slot_list_setitem.bind self
theorem kind_getitem : builtinKind "list.__getitem__" = some .slot ∨ builtinKind "list.__getitem__" = some .method := by decide +kernel
theorem split_getitem : splitId "list.__getitem__" = some ("list", "__getitem__") := by decide +kernel
theorem kind_setitem : builtinKind "list.__setitem__" = some .slot ∨ builtinKind "list.__setitem__" = some .method := by decide +kernel
theorem split_setitem : splitId "list.__setitem__" = some ("list", "__setitem__") := by decide +kernel
theorem plain_getitem : plainId "list.__getitem__" = true := by decide +kernel
theorem plain_setitem : plainId "list.__setitem__" = true := by decide +kernel
theorem args_getitem (a b : Value) : argsOk "list.__getitem__" ⟨[a, b], []⟩ := args_list_getitem a b
theorem args_setitem (a b c : Value) : argsOk "list.__setitem__" ⟨[a, b, c], []⟩ := by unfold argsOk; kernel_rfl

theorem accGetItem {i : Value} {Q : Value → Shared → Prop} (F : Fr h₀ L s.heap m) (X₀ : (hd.heap_39 w.params).In h₀) (N : News h₀ L s.heap (PL w.params pg st ++ rest))
    (h : wpAny (model prog w) A.in1 (Builtin.«list.__getitem__» ⟨[.ref pg.acc, i], []⟩) (fun fin s' => ∃ v, fin = .done (.ret v) ∧ Q v s') E s) : wpAny (model prog w) A (getItem (.ref pg.acc) i) Q E s := by
  unfold getItem
  refine wpAny_holding (wpAny_bind (seqKey195 (Kat F X₀) (instAcc N) ?_))
  refine wpAny_bind ?_
  unfold callSpecial? specialOf
  refine wpAny_bind (wpAny_bind ((instAcc N).type.here ((looks_findIn (Kat F X₀) (r := some (.builtin "list.__getitem__")) (by k_is)).here ?_)))
  dsimp only
  refine wpAny_holding ?_
  rw [bind_getitem]
  refine wpAny_bind (wpAny_pure (wpAny_bind ?_))
  exact accCall F X₀ N kind_getitem split_getitem (args_getitem _ _) plain_getitem entry_list_getitem (wpAny_mono h (fun fin s' z => let ⟨v, e, q⟩ := z; ⟨v, e, wpAny_pure (wpAny_pure q)⟩) fun _ _ z => z)

theorem accSetItem {i v : Value} {Q : Unit → Shared → Prop} (F : Fr h₀ L s.heap m) (X₀ : (hd.heap_39 w.params).In h₀) (N : News h₀ L s.heap (PL w.params pg st ++ rest))
    (h : wpAny (model prog w) A.in1 (Builtin.«list.__setitem__» ⟨[.ref pg.acc, i, v], []⟩) (fun fin s' => ∃ v, fin = .done (.ret v) ∧ Q () s') E s) : wpAny (model prog w) A (setItem (.ref pg.acc) i v) Q E s := by
  unfold setItem
  refine wpAny_holding (wpAny_bind (seqKey195 (Kat F X₀) (instAcc N) ?_))
  refine wpAny_bind ?_
  unfold callSpecial? specialOf
  refine wpAny_bind (wpAny_bind ((instAcc N).type.here ((looks_findIn (Kat F X₀) (r := some (.builtin "list.__setitem__")) (by k_is)).here ?_)))
  dsimp only
  refine wpAny_holding ?_
  rw [bind_setitem]
  refine wpAny_bind (wpAny_pure (wpAny_bind ?_))
  exact accCall F X₀ N kind_setitem split_setitem (args_setitem _ _ _) plain_setitem entry_list_setitem (wpAny_mono h (fun fin s' z => let ⟨v, e, q⟩ := z; ⟨v, e, wpAny_pure (wpAny_pure q)⟩) fun _ _ z => z)

open Builtin.List in
theorem accGetFrom {sl : Addr} {i : Int} {ti : Tok} {os : Obj} {Q : Value → Shared → Prop} (F : Fr h₀ L s.heap m) (X₀ : (hd.heap_39 w.params).In h₀) (N : News h₀ L s.heap (PL w.params pg st ++ rest)) (hr : Off pg rest)
    (hos : s.heap.get? sl = some os) (hcs : os.cls = .type "slice") (hds : os.data = .fields #[.int i ti, .none, .none]) (h0 : 0 ≤ i) (hi : i ≤ st.parts.length) (hz : st.parts.length ≤ 1000)
    (h : ∀ l h', Fr h₀ L h' m → News h₀ L h' (PL w.params pg st ++ ((l, listOf (its (st.parts.drop i.toNat)).toArray 0) :: rest)) → Off pg ((l, listOf (its (st.parts.drop i.toNat)).toArray 0) :: rest) → Q (.ref l) { s with heap := h' }) :
    wpAny (model prog w) A (getItem (.ref pg.acc) (.ref sl)) Q E s := by
  refine accGetItem F X₀ N ?_
  have ho := (N _ mem_acc).1
  have hTs : s.TypeIs (.ref sl) "slice" := ⟨os, hos, hcs⟩
  show wpAny _ _ (listSubscript? (.ref sl) >>= _) _ _ s
  unfold listSubscript?
  refine wpAny_bind (wpAny_bind (wpAny_specialOf hTs slice_no_index ?_))
  simp -iota only [Option.isNone_none, if_true]
  refine wpAny_pure ?_
  show wpAny _ _ (typeOf (.ref sl) >>= _) _ _ s
  refine wpAny_bind (wpAny_typeOf hTs ?_)
  rw [if_neg (by decide)]
  refine wpAny_bind (slicePart hos hds (.int i ti) ?_)
  dsimp only
  refine wpAny_bind (m := listItems (.ref pg.acc)) ?_
  unfold listItems
  refine wpAny_bind (wpAny_seqItems ho rfl (wpAny_pure ?_))
  refine wpAny_bind (wpAny_of_eq (sliceIndices_raw (some i) none none (its st.parts).toArray.size (by simp -iota)) ?_)
  have hk : ((i.toNat : Nat) : Int) = i := Int.toNat_of_nonneg h0
  have e : (slicePick (its st.parts).toArray (some i) none none) = (its (st.parts.drop i.toNat)).toArray := by
    have e0 := slicePick_from (its st.parts).toArray i.toNat (by simp -iota; omega)
    rw [hk] at e0
    rw [e0]
    simp -iota [List.map_drop]
  have e2 : ((sliceRange (sliceBounds (some i) none none (its st.parts).toArray.size).1 (sliceBounds (some i) none none (its st.parts).toArray.size).2.1 (sliceBounds (some i) none none (its st.parts).toArray.size).2.2).filterMap ((its st.parts).toArray[·]?)).toArray = (its (st.parts.drop i.toNat)).toArray := e
  rw [e2]
  have N' := News.push F N { cls := .type "list", data := .seq (its (st.parts.drop i.toNat)).toArray }
  refine an2 (PL_new N' (fun p hp => Heap.lt_size (N p hp).1) hr) fun N2 hr2 => ?_
  refine wpAny_bind (wpAny_newObj_type (wpAny_pure ⟨_, rfl, h _ _ (F.push _) N2 hr2⟩) ?_)
  show (its (st.parts.drop i.toNat)).toArray.size ≤ sizeLine
  simp -iota only [List.size_toArray, List.length_map, List.length_drop]; rw [sizeLine_eq]; lia

theorem self1 (a b : Value) : selfAndOne "list.__getitem__" ⟨[a, b], []⟩ = pure (a, b) := rfl
theorem accGetInt {i : Int} {ti : Tok} {x : PT} {Q : Value → Shared → Prop} (F : Fr h₀ L s.heap m) (X₀ : (hd.heap_39 w.params).In h₀) (N : News h₀ L s.heap (PL w.params pg st ++ rest))
    (h0 : 0 ≤ i) (hi : i ≤ 100000) (hx : st.parts[i.toNat]? = some x) (h : Q (.ref x.a) s) :
    wpAny (model prog w) A (getItem (.ref pg.acc) (.int i ti)) Q E s := by
  refine accGetItem F X₀ N ?_
  have ho := (N _ mem_acc).1
  unfold Builtin.«list.__getitem__»
  refine wpAny_bind ?_
  rw [self1]
  refine wpAny_pure ?_
  dsimp only
  unfold Builtin.List.listSubscript?
  refine wpAny_bind (wpAny_bind (wpAny_specialOf (T := "int") (typeIs_int s _ ti) int_index ?_))
  simp -iota only [Option.isNone_some, Bool.false_eq_true, if_false]
  refine wpAny_bind (wpAny_of_eq (a := i) rfl ?_)
  have hf : Builtin.List.listFitsIndex i = true := by
    unfold Builtin.List.listFitsIndex
    have a1 : -(2 ^ 63 : Int) ≤ i := Int.le_trans (by decide) h0
    have a2 : i < 2 ^ 63 := Int.lt_of_le_of_lt hi (by decide)
    simp -iota only [decide_eq_true a1, decide_eq_true a2, Bool.and_self]
  rw [hf]
  simp -iota only [Bool.not_true, Bool.false_eq_true, if_false]
  refine wpAny_pure ?_
  dsimp only
  cases i with
  | negSucc n => cases h0
  | ofNat n =>
  show wpAny _ _ ((do return (← seqItemAt pg.acc n).map (n, ·)) >>= _) _ _ s
  unfold seqItemAt
  refine wpAny_bind (wpAny_bind (wpAny_bind (wpAny_loadPart ho ?_)))
  refine wpAny_pure ?_
  have e : (its st.parts).toArray[n]? = some (.ref x.a) := by
    have : st.parts[n]? = some x := by simpa -iota using hx
    simp -iota [this]
  rw [e]
  exact wpAny_pure (wpAny_pure ⟨_, rfl, h⟩)

open Builtin.List in
theorem accSetSlice {sl l : Addr} {vl : Value} {lo : Option Int} {os : Obj} {ps new : List PT} {n' : Nat} {Q : Unit → Shared → Prop} (F : Fr h₀ L s.heap m) (X₀ : (hd.heap_39 w.params).In h₀) (N : News h₀ L s.heap (PL w.params pg st ++ rest)) (hr : Off pg rest)
    (hos : s.heap.get? sl = some os) (hcs : os.cls = .type "slice") (hds : os.data = .fields #[vl, .none, .none]) (pl : IsPart vl lo) (hl : (l, listOf (its new).toArray n') ∈ rest)
    (hlo : ∃ k : Nat, k ≤ st.parts.length ∧ sliceBounds lo none none st.parts.length = ((k : Int), (st.parts.length : Int), 1) ∧ ps = st.parts.take k ++ new) (hp : ∀ x ∈ ps, x ∈ st.parts ∨ tup x ∈ rest)
    (hz : st.parts.length ≤ 1000) (hz' : new.length ≤ 1000) (hz2 : ps.length ≤ 1000)
    (h : ∀ h' ne', Fr h₀ L h' m → News h₀ L h' (PL w.params pg { st with parts := ps, ne := ne' } ++ rest) → Q () { s with heap := h' }) :
    wpAny (model prog w) A (setItem (.ref pg.acc) (.ref sl) (.ref l)) Q E s := by
  refine accSetItem F X₀ N ?_
  have ho := (N _ mem_acc).1
  have hol := (N _ (mem_rest hl)).1
  have hTs : s.TypeIs (.ref sl) "slice" := ⟨os, hos, hcs⟩
  refine Exists.elim hlo fun k hx => an3 hx fun hk hb zr1 => ?_
  (try clear hlo)
  subst zr1
  have hne : pg.acc ≠ l := fun e => hr _ hl (by simp -iota [muts, ← e])
  unfold Builtin.«list.__setitem__»
  refine wpAny_bind (wpAny_pure (a := (Value.ref pg.acc, [Value.ref sl, Value.ref l])) ?_)
  dsimp only
  unfold listSubscript?
  refine wpAny_bind (wpAny_bind (wpAny_specialOf hTs slice_no_index ?_))
  simp -iota only [Option.isNone_none, if_true]
  refine wpAny_pure ?_
  dsimp only
  refine wpAny_bind (wpAny_typeOf hTs ?_)
  rw [if_neg (by decide)]
  refine wpAny_bind (slicePart hos hds pl ?_)
  dsimp only
  have hs : listSameRef (.ref pg.acc) (.ref l) = false := by simp [listSameRef, hne]
  rw [hs]
  simp -iota only [Bool.false_eq_true, if_false]
  unfold listAllItems listItems
  refine wpAny_bind (wpAny_bind (wpAny_typeOf (T := "list") ⟨_, hol, rfl⟩ ?_))
  rw [if_pos (by decide)]
  refine wpAny_bind (wpAny_seqItems hol rfl (wpAny_pure ?_))
  refine wpAny_bind (wpAny_bind (wpAny_seqItems ho rfl (wpAny_pure ?_)))
  have hsz : (its st.parts).toArray.size = st.parts.length := by simp -iota
  refine wpAny_bind (wpAny_of_eq (sliceIndices_raw lo none none (its st.parts).toArray.size (by simp -iota)) ?_)
  rw [hsz, hb]
  dsimp only
  rw [if_pos (by decide)]
  refine wpAny_bind (wpAny_rule ?_)
  have ht : listTooLong (st.parts.length + (its new).toArray.size) = false := by
    unfold listTooLong; simp -iota only [List.size_toArray, List.length_map]; rw [decide_eq_false]; rw [sizeLine_eq]; lia
  rw [ht]
  simp -iota only [Bool.false_eq_true, if_false]
  refine wpAny_bind ?_
  show wpAny _ _ (updateSeq pg.acc _) _ _ _
  refine accSeq F N hr (ps := st.parts.take k ++ new) ?_ hp hz hz2 fun h' ne' F' N' => wpAny_bind (wpAny_letGo (wpAny_pure ⟨_, rfl, h h' ne' F' N'⟩))
  have m1 : (max (k : Int) (st.parts.length : Int)).toNat = st.parts.length := max_nat hk
  rw [m1]
  simp -iota

end
end

section
open PySem PySem.W PySem.Calls PyProof.Rows
section
variable {prog : Program} {w : World} {A : Around} {E : Value → Shared → Prop} {s : Shared} {h₀ : Heap} {L : Addr} {m : Str → Option Value} {pg : PG} {st : ST} {rest : List (Addr × Obj)} {p : Program} {loose : List Str} {mg mb : Str → Option Value}
theorem Off.keep {rest' : List (Addr × Obj)} (h1 : Off pg rest) (h2 : Off pg rest') : Off pg (rest' ++ rest) := fun q hq => (List.mem_append.mp hq).elim (h2 q) (h1 q)
theorem accSliceTail {value : Expr} {lower : Option Expr} {p' : Pos} {i : Int} {ti : Tok} {Q : Value → Shared → Prop} (F : Fr h₀ L s.heap m) (X₀ : (hd.heap_39 w.params).In h₀) (N : News h₀ L s.heap (PL w.params pg st ++ rest)) (hr : Off pg rest)
    (h0 : 0 ≤ i) (hi : i ≤ st.parts.length) (hz : st.parts.length ≤ 1000) (hv : ∀ r, letTemporaryGo value (.ref pg.acc) r = pure ())
    (h : ∀ l h', Fr h₀ L h' m → News h₀ L h' (PL w.params pg st ++ ((l, listOf (its (st.parts.drop i.toNat)).toArray 0) :: rest)) → Off pg ((l, listOf (its (st.parts.drop i.toNat)).toArray 0) :: rest) → Q (.ref l) { s with heap := h' }) :
    wpAny (model prog w) A (subscriptTail value (.Slice lower none none p') (.ref pg.acc) (.ref s.heap.objs.size)) Q E { s with heap := s.heap.push { cls := .type "slice", data := .fields #[.int i ti, .none, .none] } } := by
  have F1 := F.push { cls := .type "slice", data := .fields #[.int i ti, .none, .none] }
  have N1 : News h₀ L (s.heap.push { cls := .type "slice", data := .fields #[.int i ti, .none, .none] }) (PL w.params pg st ++ rest) := N.grown fun _ _ e => Heap.get?_push_of_some _ e
  unfold subscriptTail getitemInPython specialOf
  have F2 : Fr h₀ L ({ s with heap := s.heap.push { cls := .type "slice", data := .fields #[.int i ti, .none, .none] } } : Shared).heap m := F1
  have I2 : W.InstAt ({ s with heap := s.heap.push { cls := .type "slice", data := .fields #[.int i ti, .none, .none] } } : Shared).heap _ _ _ _ := instAcc N1
  refine wpAny_bind (wpAny_bind (wpAny_bind (I2.type.here ((looks_findIn (Kat F2 X₀) (r := some (.builtin "list.__getitem__")) (by k_is)).here ?_))))
  dsimp only
  refine wpAny_pure ?_
  show wpAny _ _ (operate [.ref s.heap.objs.size, .ref pg.acc] (getItem (.ref pg.acc) (.ref s.heap.objs.size)) >>= _) _ _ _
  refine wpAny_bind (wpAny_operateT (accGetFrom (s := { s with heap := s.heap.push { cls := .type "slice", data := .fields #[.int i ti, .none, .none] } }) F2 X₀ N1 hr (Heap.get?_push_size _ rfl) rfl rfl h0 hi hz fun l h' F' N' hr' => ?_))
  rw [hv]
  exact wpAny_bind (wpAny_pure (wpAny_pure (h l h' F' N' hr')))
theorem accStore {l : Addr} {vl : Value} {lo : Option Int} {ps new : List PT} {n' : Nat} {Q : Unit → Shared → Prop} (F : Fr h₀ L s.heap m) (X₀ : (hd.heap_39 w.params).In h₀) (N : News h₀ L s.heap (PL w.params pg st ++ rest)) (hr : Off pg rest)
    (pl : IsPart vl lo) (hl : (l, listOf (its new).toArray n') ∈ rest)
    (hlo : ∃ k : Nat, k ≤ st.parts.length ∧ sliceBounds lo none none st.parts.length = ((k : Int), (st.parts.length : Int), 1) ∧ ps = st.parts.take k ++ new) (hp : ∀ x ∈ ps, x ∈ st.parts ∨ tup x ∈ rest)
    (hz : st.parts.length ≤ 1000) (hz' : new.length ≤ 1000) (hz2 : ps.length ≤ 1000)
    (h : ∀ h' ne', Fr h₀ L h' m → News h₀ L h' (PL w.params pg { st with parts := ps, ne := ne' } ++ rest) → Q () { s with heap := h' }) :
    wpAny (model prog w) A (setItem (.ref pg.acc) (.ref s.heap.objs.size) (.ref l)) Q E { s with heap := s.heap.push { cls := .type "slice", data := .fields #[vl, .none, .none] } } := by
  have F1 : Fr h₀ L ({ s with heap := s.heap.push { cls := .type "slice", data := .fields #[vl, .none, .none] } } : Shared).heap m := F.push _
  have N1 : News h₀ L ({ s with heap := s.heap.push { cls := .type "slice", data := .fields #[vl, .none, .none] } } : Shared).heap (PL w.params pg st ++ rest) := N.grown fun _ _ e => Heap.get?_push_of_some _ e
  exact accSetSlice F1 X₀ N1 hr (Heap.get?_push_size _ rfl) rfl rfl pl hl hlo hp hz hz' hz2 h
theorem bounds_from (n k : Nat) (h : k ≤ n) : sliceBounds (some (k : Int)) none none n = ((k : Int), (n : Int), 1) := by
  simp only [sliceBounds, Option.getD_none]
  have h1 : ¬ ((k : Int) < 0) := by lia
  simp only [h1, if_false, show (1 : Int) > 0 by decide, if_true]
  congr 1
  lia
theorem bounds_all (n : Nat) : sliceBounds none none none n = (((0 : Nat) : Int), (n : Int), 1) := by simp [sliceBounds]
theorem regL_B13 : True := by
  k_with "subscriptTail Name Slice ref ref" => (k_dflt ((apply accSliceTail; (case F => assumption); (case X₀ => assumption); (case N => assumption); (case hr => assumption); (case h0 => assumption); (case hi => assumption); (case hz => assumption); (case hv => (intro _; rfl)); intro _ _ _ _ _; k_sweep)))
  trivial
theorem popFrom_C {i : Int} {ti : Tok} {Q : Value → Shared → Prop}
   (X₀ : (hd.heap_39 w.params).In h₀) (T : TopRead p loose mg mb h₀) (F : Fr h₀ L s.heap m) (N : News h₀ L s.heap (PL w.params pg st ++ rest)) (hr : Off pg rest) (hA : Room A 6) (hz : st.parts.length ≤ 1000)
   (h0 : 0 ≤ i) (hi : i ≤ st.parts.length)
   (h : ∀ l h' ne' tk, Fr h₀ L h' m → News h₀ L h' (PL w.params pg { st with parts := st.parts.take i.toNat, ne := ne' } ++ ((l, listOf (its (st.parts.drop i.toNat)).toArray 0) :: ((st.parts.drop i.toNat).map tup ++ rest))) → Off pg ((l, listOf (its (st.parts.drop i.toNat)).toArray 0) :: ((st.parts.drop i.toNat).map tup ++ rest)) → Q (.ref l) { s with heap := h', toks := tk }) :
   wpAny (model prog w) A (call (.ref 147) [.ref pg.acc, .int i ti]) Q E s := by
  refine wpAny_call ?_
  refine' enter (binds := [("self", .ref pg.acc), ("i", .int i ti)]) X₀ T F N (hA.lt (by decide)) ?_
  clear X₀ T F N
  intro g L' h' F' N' X' T' l1
  have ap := apart N'
  have hr1 : Off pg ((st.parts.drop i.toNat).map tup ++ rest) := Off.keep hr fun q hq => by
    refine Exists.elim (List.mem_map.mp hq) fun x hx_q => an2 hx_q fun hx zr3 => ?_
    subst zr3
    exact ap.tups x (List.mem_of_mem_drop hx)
  have N1 : News g L' h' (PL w.params pg st ++ ((st.parts.drop i.toNat).map tup ++ rest)) := News.sub N' fun q hq => by
    rcases List.mem_append.mp hq with hq | hq
    · exact List.mem_append_left _ hq
    · rcases List.mem_append.mp hq with hq | hq
      · refine Exists.elim (List.mem_map.mp hq) fun x hx_q => an2 hx_q fun hx zr2 => ?_
        subst zr2
        exact mem_tup (List.mem_of_mem_drop hx)
      · exact mem_rest hq
  clear N' hr
  have hk : ((i.toNat : Nat) : Int) = i := Int.toNat_of_nonneg h0
  have hkl : i.toNat ≤ st.parts.length := by lia
  iterate 22 walk1
  all_goals (try walk_at "us")
  rename News _ _ _ _ => N2
  rename Fr _ _ _ _ => F2
  rename Off _ _ => hr2
  refine accStore (lo := some i) (new := []) (ps := st.parts.take i.toNat) F2 X' N2 hr2 (.int i ti) (.head _) ⟨i.toNat, hkl, ?_, (List.append_nil _).symm⟩ (fun x hx => .inl (List.mem_of_mem_take hx)) hz (by simp) (by simp; lia) fun h1 ne1 F3 N3 => ?_
  · rw [← hk]; exact bounds_from _ _ (by simpa using hkl)
  iterate 4 walk1
  all_goals (try walk_at "us")
  rename_i F5 N5
  (try walk_at "us")
  exact h _ _ _ _ F5 (PL_keep (fun q hq => .tail _ hq) N5) (Off.sub (fun q hq => .tail _ hq) hr2)

theorem accSetSize {v : Int} {tv : Tok} {Q : Unit → Shared → Prop} (F : Fr h₀ L s.heap m) (X₀ : (hd.heap_39 w.params).In h₀) (N : News h₀ L s.heap (PL w.params pg st ++ rest)) (hr : Off pg rest)
    (h : ∀ h', Fr h₀ L h' m → News h₀ L h' (PL w.params pg { st with init := v, ti := tv } ++ rest) → Q () { s with heap := h', toks := s.toks + 2 }) :
    wpAny (model prog w) A (setAttr (.ref pg.acc) "_initial_size" (.int v tv)) Q E s := by
  have ap := apart N
  refine set195 (Kat F X₀) (instAcc N) rfl (by k_is) (by rfl) (es' := [ent w.params "_initial_size" (pg.t 0) (.int v tv)]) (n' := 1) (by rfl) (Nat.le_of_ble_eq_true rfl) fun h' hs ho => ?_
  have hm : ∀ q ∈ PL w.params pg { st with init := v, ti := tv }, (q.1 = pg.ad ∧ q.2 = adO w.params pg { st with init := v, ti := tv }) ∨ (q.1 ≠ pg.ad ∧ q ∈ PL w.params pg st ++ rest) := by
    intro q hq
    simp only [PL, List.mem_cons] at hq
    rcases hq with rfl | rfl | rfl | rfl | rfl | rfl | rfl | hq
    · exact .inr ⟨ap.ad1.symm, mem_t1⟩
    · exact .inr ⟨ap.ad2.symm, mem_t2⟩
    · exact .inr ⟨ap.accad, mem_acc⟩
    · exact .inl ⟨rfl, rfl⟩
    · exact .inr ⟨ap.adlns.symm, mem_lns⟩
    · exact .inr ⟨fun e => ap.page (by simp [muts, show pg.page = pg.ad from e]), mem_page⟩
    · exact .inr ⟨fun e => ap.pd (by simp [muts, show pg.pd = pg.ad from e]), mem_pd⟩
    · refine Exists.elim (List.mem_map.mp hq) fun x hx_q => an2 hx_q fun hx zr1 => ?_
      subst zr1
      exact .inr ⟨fun e => ap.tups x hx (by simp [muts, show x.a = pg.ad from e]), mem_tup hx⟩
  refine an2 (PL_change F N hr (by simp [muts]) hs _ ho hm) fun F' N' => ?_
  (try walk_at "us")
  exact h h' F' N'
theorem regM_B13 : True := by
  k_with "setAttr ref" => (k_dflt (((with_reducible apply accSetSize); (case F => assumption); (case X₀ => assumption); (case N => assumption); (case hr => assumption); intro _ _ _; k_sweep)))
  trivial

theorem reset_C {l : Addr} {new : List PT} {n' : Nat} {Q : Value → Shared → Prop}
   (X₀ : (hd.heap_39 w.params).In h₀) (T : TopRead p loose mg mb h₀) (F : Fr h₀ L s.heap m) (N : News h₀ L s.heap (PL w.params pg st ++ rest)) (hr : Off pg rest) (hA : Room A 6) (hz : st.parts.length ≤ 1000)
   (hl : (l, listOf (its new).toArray n') ∈ rest) (hn : ∀ x ∈ new, tup x ∈ rest) (hz' : new.length ≤ 1000)
   (h : ∀ h' ne' ti' tk, Fr h₀ L h' m → News h₀ L h' (PL w.params pg { st with parts := new, ne := ne', init := 0, ti := ti' } ++ rest) → Q .none { s with heap := h', toks := tk }) :
   wpAny (model prog w) A (call (.ref 177) [.ref pg.acc, .ref l]) Q E s := by
  refine wpAny_call ?_
  refine' enter (binds := [("self", .ref pg.acc), ("startval", .ref l)]) X₀ T F N (hA.lt (by decide)) ?_
  clear X₀ T F N
  intro g L' h' F' N' X' T' l1
  iterate 17 walk1
  all_goals (try walk_at "us")
  rename News _ _ _ _ => N2
  rename Fr _ _ _ _ => F2
  refine accStore (lo := none) (new := new) (ps := new) F2 X' N2 hr .none hl ⟨0, Nat.zero_le _, bounds_all _, by simp⟩ (fun x hx => .inr (hn x hx)) hz hz' hz' fun h1 ne1 F3 N3 => ?_
  clear F2 N2
  iterate 7 walk1
  all_goals (try walk_at "us")
  rename_i F5 N5
  (try walk_at "us")
  exact h _ _ _ _ F5 N5

theorem reset0_C {Q : Value → Shared → Prop}
   (X₀ : (hd.heap_39 w.params).In h₀) (T : TopRead p loose mg mb h₀) (F : Fr h₀ L s.heap m) (N : News h₀ L s.heap (PL w.params pg st ++ rest)) (hr : Off pg rest) (hA : Room A 6) (hz : st.parts.length ≤ 1000)
   (h : ∀ h' ne' ti' tk, Fr h₀ L h' m → News h₀ L h' (PL w.params pg { st with parts := [], ne := ne', init := 0, ti := ti' } ++ rest) → Q .none { s with heap := h', toks := tk }) :
   wpAny (model prog w) A (call (.ref 177) [.ref pg.acc]) Q E s := by
  refine wpAny_call ?_
  refine' enter (binds := [("self", .ref pg.acc), ("startval", .none)]) X₀ T F N (hA.lt (by decide)) ?_
  clear X₀ T F N
  intro g L' h' F' N' X' T' l1
  iterate 23 walk1
  all_goals (try walk_at "us")
  rename News _ _ _ _ => N2
  rename Fr _ _ _ _ => F2
  rename Off _ _ => hr2
  refine accStore (lo := none) (new := []) (ps := []) F2 X' N2 hr2 .none (.head _) ⟨0, Nat.zero_le _, bounds_all _, by simp⟩ (fun x hx => nomatch hx) hz (Nat.zero_le _) (Nat.zero_le _) fun h1 ne1 F3 N3 => ?_
  clear F2 N2
  iterate 7 walk1
  all_goals (try walk_at "us")
  rename_i F5 N5
  (try walk_at "us")
  exact h _ _ _ _ F5 (PL_drop N5)

end
end

theorem regR_B13 : True := by
  k_with_none
  k_with "getMethod ref" => (k_dflt (first | ((with_reducible apply accMethB); (case F => assumption); (case X₀ => assumption); (case N => assumption); (case hf => k_is); (case ht => exact type_append); (case hs => rfl)) | ((with_reducible apply accMeth); (case F => assumption); (case X₀ => assumption); (case N => assumption); (case hf => k_is); (case ht => k_is); (case hs => rfl)) | ((with_reducible apply pageMeth); (case F => assumption); (case X₀ => assumption); (case N => assumption); (case hg => k_is); (case hf => k_is); (case ht => k_is); (case hl => rfl))))
  k_with "getAttr ref" => (first
    | ((with_reducible apply page_line); (case F => assumption); (case X₀ => assumption); (case N => assumption))
    | ((with_reducible apply page_lines); (case F => assumption); (case X₀ => assumption); (case N => assumption))
    | ((with_reducible apply page_maxlen); (case F => assumption); (case X₀ => assumption); (case N => assumption))
    | ((with_reducible apply page_splitchars); (case F => assumption); (case X₀ => assumption); (case N => assumption))
    | ((with_reducible apply acc_size); (case F => assumption); (case X₀ => assumption); (case N => assumption)))
  k_with "newTuple" => ((with_reducible apply newTupleP); (case hz => exact Nat.le_of_ble_eq_true rfl); (case F => assumption); (case N => assumption); (case hr => assumption); intro _ _ _ _ _; k_sweep)
  k_with "LeaveK" => (apply leaveK_; (case F' => assumption); (case N' => assumption); intro _ _)
  k_with "super" => (apply superNode; (case F => assumption); (case X₀ => assumption); (case N => assumption); (case T => assumption); (case hf => k_is); (case hp => exact rfl); (case hv => exact rfl); (case I => exact instAcc (by assumption)); (case hcode => k_is); (case hvs => exact rfl); (case hfile => exact PO.file (by assumption)); (case hcell => k_is); (case hD => k_is); (case hsub => k_is); (case hsuper => k_is); (case hat => rfl); (case hks => exact rfl); (case hkc => exact rfl); (case hka => exact rfl); (case hk => exact rfl); (case htop => exact PO.sup (by assumption)); (case hboot => boot_by_name))
  k_with "newList" => ((with_reducible apply newListP); (case hz => exact Nat.le_of_ble_eq_true rfl); (case F => assumption); (case N => assumption); (case hr => assumption); intro _ _ _ _ _; k_sweep)
  k_with "us" => ((first | (goal_lacks PySem.wpAny) | (fail_if_success (fail_if_success (with_reducible show Sealed _ _ _)))); (first | ((first | ((with_reducible apply unseal_next); (case hK => assumption)) | ((with_reducible apply unseal_ret); (case hK => assumption)) | ((with_reducible apply unseal_brk); (case hK => assumption)) | ((with_reducible apply unseal_cont); (case hK => assumption))); (try clear hK_q K_q)) | ((with_reducible apply unsealB); (case hB => assumption); (try clear hB_q hE_q KB_q EB_q))); (try walk_at "us"))
  k_with "Sealed" => (plain_pass; (walk_at "us"); walk1)
  k_with "SealedB" => (plain_pass; (walk_at "us"); walk1)
  k_with "execs cons" => (try (k_here; k_gentoks)); (try ((fail_if_success (goal_lacks PySem.W.envX)); first | ((with_reducible refine seal_envA ?_); intro e_q A_q) | ((with_reducible refine seal_env ?_); intro e_q))); first | ((goal_lacks Mine.Sealed); (with_reducible refine execs_seal ?_); intro K_q hK_q; (try dsimp only)) | ((with_reducible refine wpAny_execs_cons ?_); (try dsimp only))
  k_with "execs nil" => (try (k_here; k_gentoks)); refine wpAny_execs_nil ?_
  trivial

section
open PySem PySem.W PySem.Calls PyProof.Rows
section
variable {prog : Program} {w : World} {A : Around} {E : Value → Shared → Prop} {s : Shared} {h₀ : Heap} {L : Addr} {m : Str → Option Value} {pg : PG} {st : ST} {rest : List (Addr × Obj)} {p : Program} {loose : List Str} {mg mb : Str → Option Value}
theorem enter2 {news : List (Addr × Obj)} {R : Result → Shared → Prop}
    {K : Frag} {name qual : Str} {params : Arguments} {body : List Stmt} {scope : Scope} {cl : List (Str × Addr)} {dV kV doc pm cdv ct oc : Value} {an od : Option Addr} {osl : Array (Option Value)} {f : Addr} {args : Args} {binds : List (Str × Value)}
    (X₀ : K.In h₀) (T : TopRead p loose mg mb h₀) (B : BM h₀ mg) (F : Fr h₀ L s.heap m) (N : News h₀ L s.heap news)
    (hroom : A.depth < recursionLimit)
    (h : ∀ g L' h₁, Fr g L' h₁ (fun y => binds.reverse.lookup y) → News g L' h₁ news → K.In g → TopRead p loose mg mb g → BM g mg → (∀ p ∈ news, p.1 < L') →
      wpAny (model prog w) (A.deeper (envX qual scope L' f cdv cl)) (execs body (envX qual scope L' f cdv cl))
        (fun fl s' => LeaveK h₀ L m g R (match fl with | .ret v => v | _ => .none) s') (fun _ _ => False)
        { s with heap := h₁, toks := s.toks + binds.length })
    (ho : K.lookup f = some ⟨oc, od, .func (fnX name qual params body scope cl dV kV doc pm an cdv ct), osl⟩ := by k_is) (hcd : codeIn K cdv qual = true := by k_is)
    (hbind : BindsTo s (fnX name qual params body scope cl dV kV doc pm an cdv ct) args binds := by first | exact BindsTo.of_eq rfl | exact binds_K (by k_in) rfl (by k_is) rfl rfl rfl) (hloc : ∀ y ∈ binds, scope.names.lookup y.1 = some .local := by exact locs rfl)
    (hcell : ∀ x ∈ scope.names, x.2 ≠ .cell := by decide) (hco : scope.isCoroutine = false := by rfl) (hgen : scope.isGenerator = false := by rfl) (hk : scope.kind = .function := by rfl) :
    codeAny (model prog w) A (.call (.ref f) args) R s := by
  refine an2 (ground (R := R) F N) fun st lv => ?_
  have X : K.In s.heap := X₀.keeps F.keep
  refine codeAny_call_def (fd := fnX name qual params body scope cl dV kV doc pm an cdv ct) (body := body) (binds := binds) hroom (X _ _ ho) rfl (T.nolimit.keeps F.keep) (codeRec_of X hcd) rfl hbind hcell hloc (fun h₁ hns hk₁ => ?_) hco hgen hk
  refine wpAny_mono (h _ s.heap.objs.size h₁ ⟨hns, fun b o e => hk₁ b o (of_hideAll _ e), Nat.le_of_eq (hideAll_size _ _)⟩
    (fun p hp => ⟨hk₁ _ _ (N p hp).1, Nat.ne_of_lt (Heap.lt_size (N p hp).1), hideAll_none _ (List.mem_map_of_mem hp)⟩) (X₀.keeps st) (T.keeps st) (B.keeps st) (fun p hp => Heap.lt_size (N p hp).1)) (fun fl s' hl => lv _ _ hl) fun _ _ y => y.elim

theorem nameG_L {scope : Scope} {cl : List (Str × Addr)} {C : Addr} {code : Value} {bi : Addr} {env : Env} {x : Str} {pos : Pos} {v : Value} {M : Model} {Q : Value → Shared → Prop} (F : Fr h₀ C s.heap m) (hv : m x = some v) (h : Q v s)
    (hk : scope.kind = .function := by rfl) (hx : (genEnv scope cl C code bi env).kindOf x = some .local := by rfl) (hd : (x == ("__debug__" : Str)) = false := by decide) :
    wpAny M A (eval (.Name x pos) (genEnv scope cl C code bi env)) Q E s := wpAny_Name (wpAny_loadName_local (env := genEnv scope cl C code bi env) hk hx F.ns hv h) hd
theorem nameG_B {K : Frag} {scope : Scope} {cl : List (Str × Addr)} {C : Addr} {code : Value} {env : Env} {x : Str} {pos : Pos} {v : Value} {M : Model} {Q : Value → Shared → Prop} (F : Fr h₀ C s.heap m) (Xk : K.In h₀) (T : TopRead p loose mg mb h₀) (hg : env.globals = mainGlobals)
    (e : nsIn K mainGlobals x = some none) (hv : bootBuiltins x = some v) (hn : x ≠ "__name__") (h : Q v s)
    (hk : scope.kind = .function := by rfl) (hx : (genEnv scope cl C code builtinsNs env).kindOf x = some .globalImplicit := by rfl) (hd : (x == ("__debug__" : Str)) = false := by decide) :
    wpAny M A (eval (.Name x pos) (genEnv scope cl C code builtinsNs env)) Q E s :=
  Name_function_global (env := genEnv scope cl C code builtinsNs env) hk hx (loadGlobal_builtin (env := genEnv scope cl C code builtinsNs env) (by rw [show (genEnv scope cl C code builtinsNs env).globals = mainGlobals from hg]; exact T.g.keeps F.keep) (mg_none_of Xk T.g e) (T.b.keeps F.keep) ((T.builtins _ hn).trans hv) h) hd
theorem nameG_G {K : Frag} {scope : Scope} {cl : List (Str × Addr)} {C : Addr} {code : Value} {env : Env} {x : Str} {pos : Pos} {v : Value} {M : Model} {Q : Value → Shared → Prop} (F : Fr h₀ C s.heap m) (Xk : K.In h₀) (T : TopRead p loose mg mb h₀) (hg : env.globals = mainGlobals)
    (e : nsIn K mainGlobals x = some (some v)) (h : Q v s)
    (hk : scope.kind = .function := by rfl) (hx : (genEnv scope cl C code builtinsNs env).kindOf x = some .globalImplicit := by rfl) (hd : (x == ("__debug__" : Str)) = false := by decide) :
    wpAny M A (eval (.Name x pos) (genEnv scope cl C code builtinsNs env)) Q E s :=
  Name_function_global (env := genEnv scope cl C code builtinsNs env) hk hx (loadGlobal_global (env := genEnv scope cl C code builtinsNs env) (by rw [show (genEnv scope cl C code builtinsNs env).globals = mainGlobals from hg]; exact T.g.keeps F.keep) (mg_of Xk T.g e) h) hd

theorem PL_t1 {P : Params} {h h' : Heap} {t' : Tb} (N : News h₀ L h (PL P pg st ++ rest)) (hr : Off pg rest) (k : ∀ q ∈ PL P pg st ++ rest, q.1 ≠ 157 → h'.get? q.1 = some q.2) (kP : h'.get? 157 = some (X.tableObj t'.arr)) :
    News h₀ L h' (PL P pg { st with t1 := t' } ++ rest) := by
  have ap := apart N
  have nP := (N _ mem_t1).2
  intro q hq
  rcases List.mem_append.mp hq with hq | hq
  · simp only [PL, List.mem_cons] at hq
    rcases hq with rfl | rfl | rfl | rfl | rfl | rfl | rfl | hq
    · exact ⟨kP, nP⟩
    · exact ⟨k _ mem_t2 (by show (164 : Nat) ≠ 157; decide), (N _ mem_t2).2⟩
    · exact ⟨k _ mem_acc ap.acc1, (N _ mem_acc).2⟩
    · exact ⟨k _ mem_ad ap.ad1, (N _ mem_ad).2⟩
    · exact ⟨k _ mem_lns ap.lns1, (N _ mem_lns).2⟩
    · exact ⟨k _ mem_page (fun e => ap.page (by simp [muts, show pg.page = 157 from e])), (N _ mem_page).2⟩
    · exact ⟨k _ mem_pd (fun e => ap.pd (by simp [muts, show pg.pd = 157 from e])), (N _ mem_pd).2⟩
    · refine Exists.elim (List.mem_map.mp hq) fun x hx_q => an2 hx_q fun hx zr2 => ?_
      subst zr2
      exact ⟨k _ (mem_tup hx) (fun e => ap.tups x hx (by simp [muts, show x.a = 157 from e])), (N _ (mem_tup hx)).2⟩
  · exact ⟨k _ (mem_rest hq) (fun e => hr _ hq (by simp [muts, e])), (N _ (mem_rest hq)).2⟩
theorem PL_t2 {P : Params} {h h' : Heap} {t' : Tb} (N : News h₀ L h (PL P pg st ++ rest)) (hr : Off pg rest) (k : ∀ q ∈ PL P pg st ++ rest, q.1 ≠ 164 → h'.get? q.1 = some q.2) (kP : h'.get? 164 = some (X.tableObj t'.arr)) :
    News h₀ L h' (PL P pg { st with t2 := t' } ++ rest) := by
  have ap := apart N
  have nP := (N _ mem_t2).2
  intro q hq
  rcases List.mem_append.mp hq with hq | hq
  · simp only [PL, List.mem_cons] at hq
    rcases hq with rfl | rfl | rfl | rfl | rfl | rfl | rfl | hq
    · exact ⟨k _ mem_t1 (by show (157 : Nat) ≠ 164; decide), (N _ mem_t1).2⟩
    · exact ⟨kP, nP⟩
    · exact ⟨k _ mem_acc ap.acc2, (N _ mem_acc).2⟩
    · exact ⟨k _ mem_ad ap.ad2, (N _ mem_ad).2⟩
    · exact ⟨k _ mem_lns ap.lns2, (N _ mem_lns).2⟩
    · exact ⟨k _ mem_page (fun e => ap.page (by simp [muts, show pg.page = 164 from e])), (N _ mem_page).2⟩
    · exact ⟨k _ mem_pd (fun e => ap.pd (by simp [muts, show pg.pd = 164 from e])), (N _ mem_pd).2⟩
    · refine Exists.elim (List.mem_map.mp hq) fun x hx_q => an2 hx_q fun hx zr1 => ?_
      subst zr1
      exact ⟨k _ (mem_tup hx) (fun e => ap.tups x hx (by simp [muts, show x.a = 164 from e])), (N _ (mem_tup hx)).2⟩
  · exact ⟨k _ (mem_rest hq) (fun e => hr _ hq (by simp [muts, e])), (N _ (mem_rest hq)).2⟩
theorem movedLed {news : List (Addr × Obj)} {s' : Shared} {wr : List Addr} {G : Array GenState → Array GenState → Prop} {n0 : Nat} (F : Fr h₀ L s.heap m) (N : News h₀ L s.heap news) (hm : Moved wr G s s') (hwr : ∀ b ∈ wr, n0 ≤ b) (hL : L < n0) (hn : ∀ q ∈ news, q.1 < n0) :
    Fr h₀ L s'.heap m ∧ News h₀ L s'.heap news :=
  ⟨F.moved hm fun b hb => Nat.lt_of_lt_of_le hL (hwr b hb), fun q hq => ⟨hm.heap _ _ (fun hb => Nat.lt_irrefl _ (Nat.lt_of_lt_of_le (hn q hq) (hwr _ hb))) (N q hq).1, (N q hq).2⟩⟩

theorem PL_lt {P : Params} {n : Nat} {t1 t2 : Tb} (l : ∀ p ∈ PL P pg st ++ rest, p.1 < n) : ∀ p ∈ PL P pg { st with t1 := t1, t2 := t2 } ++ rest, p.1 < n := by
  intro q hq
  rcases List.mem_append.mp hq with hq | hq
  · simp only [PL, List.mem_cons] at hq
    rcases hq with rfl | rfl | hq
    · exact l (157, X.tableObj st.t1.arr) mem_t1
    · exact l (164, X.tableObj st.t2.arr) mem_t2
    · refine l q (List.mem_append_left _ ?_)
      simp only [PL, List.mem_cons]
      exact .inr (.inr hq)
  · exact l q (mem_rest hq)

noncomputable def Small (ps : List PT) : Prop := ∀ x ∈ ps, x.f.length ≤ 1000 ∧ x.s.length ≤ 1000
noncomputable def lenOf (ps : List PT) : Int := preSum (fun j => match ps[j]? with | some x => (x.f.length : Int) + x.s.length | none => 0) ps.length
theorem len_C {Q : Value → Shared → Prop}
   (X₀ : (hd.heap_39 w.params).In h₀) (T : TopRead p loose mg mb h₀) (B : BM h₀ mg) (F : Fr h₀ L s.heap m) (N : News h₀ L s.heap (PL w.params pg st ++ rest)) (hr : Off pg rest) (hA : Room A 6) (hB : AllBare s.gens) (hS : Small st.parts)
   (h : ∀ h' g' t1' t tk, Fr h₀ L h' m → News h₀ L h' (PL w.params pg { st with t1 := t1' } ++ rest) → AllBare g' → Q (.int (st.init + lenOf st.parts) t) { s with heap := h', gens := g', toks := tk }) :
   wpAny (model prog w) A (call (.ref 162) [.ref pg.acc]) Q E s := by
  refine wpAny_call ?_
  refine' enter2 (binds := [("self", .ref pg.acc)]) X₀ T B F N (hA.lt (by decide)) ?_
  clear X₀ T B F N
  intro g L' h' F' N' X' T' B' l1
  iterate 6 walk1
  all_goals (try walk_at "us")
  refine genNode (t := st.t1) (c := 161) (P := 157) (G := fun x y => ∃ t, y = .int ((x.f.length : Int) + x.s.length) t) X' T' B' F' N' hB mem_t1 ?_ (code161 _) rfl rfl hA.handled rfl rfl ?_ rfl rfl rfl ?_ rfl (Room.lt (Room.deep (k := 4) hA (by decide)) (by decide)) (fun _ => rfl) (fun {Q'} h => ?_) ?_ ?_
  · have ap := apart N'
    intro hm
    rcases List.mem_cons.mp hm with e | e
    · exact ap.acc1 e.symm
    · refine Exists.elim (List.mem_map.mp e) fun x hx_q => an2 hx_q fun hx e2 => ?_
      exact ap.tups x hx (by simp [muts, e2])
  · decide
  · decide
  · walk1
    all_goals (try walk_at "us")
    assumption
  · intro A' E' code C x s₂ m₂ hx hh F2 e1 e2
    iterate 2 walk1
    all_goals (try walk_at "us")
    refine nameG_B (v := .builtin "len") F2 X' T' rfl (by k_is) (by boot_by_name) (by decide) ?_
    iterate 2 walk1
    all_goals (try walk_at "us")
    refine nameG_L F2 e1 ?_
    walk1
    all_goals (try walk_at "us")
    have z := hS x hx
    refine P.len_str (by lia) ?_
    walk1
    all_goals (try walk_at "us")
    refine nameG_B (v := .builtin "len") F2 X' T' rfl (by k_is) (by boot_by_name) (by decide) ?_
    iterate 2 walk1
    all_goals (try walk_at "us")
    refine nameG_L F2 e2 ?_
    walk1
    all_goals (try walk_at "us")
    refine P.len_str (by lia) ?_
    walk1
    all_goals (try walk_at "us")
    exact ⟨⟨_, rfl⟩, _, _, rfl, fun _ _ e => e⟩
  · intro a s₅ t' F5 k5 kP G5 os5 d5 gn
    have N5 := PL_t1 N' hr k5 kP
    have hL := F'.ns.lt
    have hlt : ∀ q ∈ PL w.params pg { st with t1 := t' } ++ rest, q.1 < h'.objs.size := fun q hq => Nat.lt_trans (PL_lt l1 q hq) hL
    clear k5 kP F' N' hB
    iterate 5 walk1
    all_goals (try walk_at "us")
    refine ex4 gn fun fp wr gi St hx_q => an6 hx_q fun W hst hty ha hfp hwr => ?_
    (try clear gn)
    refine call_sum2 (val := fun j => match st.parts[j]? with | some x => (x.f.length : Int) + x.s.length | none => 0) W.in4_1 (W.frame _ _ _ _ hst (Nat.le_succ _) fun _ _ _ e => e) hfp ?_ fun s6 t6 hm => ?_
    · rintro i v ⟨x, e, t, rfl⟩
      exact ⟨t, by rw [e]⟩
    · have G6 : AllBare s6.gens := G5.moved hm.gens
      refine an2 (movedLed (s := { heap := s₅.heap, gens := s₅.gens, drawn := s₅.drawn, toks := s₅.toks + 1, os := s₅.os }) F5 N5 hm hwr hL hlt) fun F6 N6 => ?_
      have os6 : s6.os = s.os := hm.os.trans os5
      have d6 : s6.drawn = s.drawn := hm.drawn.trans d5
      clear F5 N5
      obtain ⟨h6, g6, d6', tk6, os6'⟩ := s6
      dsimp only at os6 d6 F6 N6 G6
      subst os6 d6
      (try walk_at "us")
      exact leaveK_ F6 N6 fun F7 N7 => h _ _ _ _ _ F7 N7 G6

end
end

section
open PySem PySem.W PySem.Calls PyProof.Rows
section
variable {prog : Program} {w : World} {A : Around} {E : Value → Shared → Prop} {s : Shared} {h₀ : Heap} {L : Addr} {m : Str → Option Value} {pg : PG} {st : ST} {rest : List (Addr × Obj)} {p : Program} {loose : List Str} {mg mb : Str → Option Value}
theorem join_tuple {x : Str} {t : Tok} {D : Addr} {l : List (Str × Tok)} {Q : Value → Shared → Prop} (hl : s.heap.IsTuple D (strValues l).toArray) (hok : JoinOk x (l.map (·.1)) = true)
    (hq : ∀ t' k, Q (.str (Txt.join x (l.map (·.1))) t') { s with toks := k }) : wpAny (model prog w) A (call (.builtin "str.join") [.str x t, .ref D]) Q E s := by
  refine Exists.elim (id hl) fun o hx_q => an3 hx_q fun ho hc hx_q => Exists.elim hx_q fun n hd => ?_
  refine Exists.elim (join_tree x t D) fun other ht => ?_
  refine wpAny_call (codeAny_call_builtin F.slot_str_join.plain F.entry_str_join (F.slot_str_join.check _ _ _ _ _ _ _ _ (typeIs_str _ _ _) (F.args_str_join_2 _ _) ?_))
  rw [ht]
  refine wpAny_bind (wpAny_typeOf (T := "tuple") ⟨o, ho, hc⟩ ?_)
  rw [if_pos (by decide)]
  refine wpAny_bind (wpAny_seqItems ho hd ?_)
  unfold JoinOk at hok
  rw [Bool.not_eq_true'] at hok
  have g : Gives (joinTail x (strValues l)) (joinMade x l) := by
    have g0 := gives_joinTail x l hok
    cases l with
    | nil => exact g0
    | cons p r => cases r with
      | nil => exact g0
      | cons q r' => exact g0
  exact g prog w A (wants Q E) s (post_join l ⟨joinFit_length hok, hq⟩)

theorem joinOk2 {a b : Str} (ha : a.length ≤ 1000) (hb : b.length ≤ 1000) : JoinOk ("" : Str) [a, b] = true := by
  have e : ("" : Str).length = 0 := rfl
  refine joinOk_of ?_
  simp only [List.map_cons, List.map_nil, List.sum_cons, List.sum_nil, List.length_cons, List.length_nil]
  rw [e]; lia
theorem len2 {a b : Str} (ha : a.length ≤ 1000) (hb : b.length ≤ 1000) : (Txt.join ("" : Str) [a, b]).length ≤ 2000 := by
  have e : ("" : Str).length = 0 := rfl
  have h := StrLaws.join_length_le ("" : Str) [a, b]
  have g : Txt.join ("" : Str) [a, b] = Str.join ("" : Str) [a, b] := StrLaws.glued_eq_join _ _
  rw [g]
  simp only [List.map_cons, List.map_nil, List.sum_cons, List.sum_nil, List.length_cons, List.length_nil] at h
  rw [e] at h; lia
theorem joinOkAll : ∀ {ps : List PT}, Small ps → ((ps.map fun x => Txt.join ("" : Str) [x.f, x.s]).map (·.length)).sum ≤ 2000 * ps.length
  | [], _ => Nat.le_refl _
  | x :: r, h => by
    have z := h x (.head _)
    have := len2 z.1 z.2
    have ih := joinOkAll (ps := r) fun y hy => h y (.tail _ hy)
    simp only [List.map_cons, List.sum_cons, List.length_cons]
    lia
noncomputable def strOf (ps : List PT) : Str := Txt.join ("" : Str) (ps.map fun x => Txt.join ("" : Str) [x.f, x.s])
theorem textsOf {ps : List PT} {l : List (Str × Tok)} (hit : ItemsOf (fun j y => ∃ x, ps[j]? = some x ∧ ∃ t, y = .str (Txt.join ("" : Str) [x.f, x.s]) t) (strValues l).toArray ps.length) :
    l.map (·.1) = ps.map fun x => Txt.join ("" : Str) [x.f, x.s] := by
  refine an2 hit fun hz hi => ?_
  (try clear hit)
  have hz2 : l.length = ps.length := by simpa [strValues] using hz
  refine List.ext_getElem? fun j => ?_
  rw [List.getElem?_map, List.getElem?_map]
  by_cases hj : j < l.length
  · refine Exists.elim (hi j _ (show (strValues l).toArray[j]? = some (.str l[j].1 l[j].2) by simp [strValues, List.getElem?_eq_getElem hj])) fun x hx_q => an2 hx_q fun hx hx_q => Exists.elim hx_q fun t e => ?_
    rw [hx, List.getElem?_eq_getElem hj]
    have e2 := (Value.str.injEq .. ▸ e).1
    simp [e2]
  · rw [List.getElem?_eq_none (by lia), List.getElem?_eq_none (by lia)]; rfl
theorem str_C {Q : Value → Shared → Prop}
   (X₀ : (hd.heap_39 w.params).In h₀) (T : TopRead p loose mg mb h₀) (B : BM h₀ mg) (F : Fr h₀ L s.heap m) (N : News h₀ L s.heap (PL w.params pg st ++ rest)) (hr : Off pg rest) (hA : Room A 6) (hB : AllBare s.gens) (hS : Small st.parts) (hz : st.parts.length ≤ 1000)
   (h : ∀ h' g' t2' t tk, Fr h₀ L h' m → News h₀ L h' (PL w.params pg { st with t2 := t2' } ++ rest) → AllBare g' → Q (.str (strOf st.parts) t) { s with heap := h', gens := g', toks := tk }) :
   wpAny (model prog w) A (call (.ref 169) [.ref pg.acc]) Q E s := by
  refine wpAny_call ?_
  refine' enter2 (binds := [("self", .ref pg.acc)]) X₀ T B F N (hA.lt (by decide)) ?_
  clear X₀ T B F N
  intro g L' h' F' N' X' T' B' l1
  iterate 7 walk1
  all_goals (try walk_at "us")
  refine genNode (t := st.t2) (c := 168) (P := 164) (G := fun x y => ∃ t, y = .str (Txt.join ("" : Str) [x.f, x.s]) t) X' T' B' F' N' hB mem_t2 ?_ (code168 _) rfl rfl hA.handled rfl rfl ?_ rfl rfl rfl ?_ rfl (Room.lt (Room.deep (k := 4) hA (by decide)) (by decide)) (fun _ => rfl) (fun {Q'} h => ?_) ?_ ?_
  · have ap := apart N'
    intro hm
    rcases List.mem_cons.mp hm with e | e
    · exact ap.acc2 e.symm
    · refine Exists.elim (List.mem_map.mp e) fun x hx_q => an2 hx_q fun hx e2 => ?_
      exact ap.tups x hx (by simp [muts, e2])
  · decide
  · decide
  · walk1
    all_goals (try walk_at "us")
    assumption
  · intro A' E' code C x s₂ m₂ hx hh F2 e1 e2
    walk1
    all_goals (try walk_at "us")
    refine nameG_G F2 X' T' rfl (by k_is) ?_
    iterate 5 walk1
    all_goals (try walk_at "us")
    refine nameG_L F2 e1 ?_
    walk1
    all_goals (try walk_at "us")
    refine nameG_L F2 e2 ?_
    walk1
    all_goals (try walk_at "us")
    refine wpAny_newObj_type ?_ (by size_fits)
    walk1
    all_goals (try walk_at "us")
    have z := hS x hx
    refine join_tuple (l := [(x.f, x.tf), (x.s, x.ts)]) ⟨_, Heap.get?_push_size _ rfl, rfl, _, rfl⟩ (joinOk2 z.1 z.2) fun t' k => ?_
    exact ⟨⟨_, rfl⟩, _, _, rfl, fun b o e => Heap.get?_push_of_some _ e⟩
  · intro a s₅ t' F5 k5 kP G5 os5 d5 gn
    have N5 := PL_t2 N' hr k5 kP
    have hL := F'.ns.lt
    have hlt : ∀ q ∈ PL w.params pg { st with t2 := t' } ++ rest, q.1 < h'.objs.size := fun q hq => Nat.lt_trans (PL_lt l1 q hq) hL
    clear k5 kP F' N' hB
    walk1
    all_goals (try walk_at "us")
    refine ex4 gn fun fp wr gi St hx_q => an6 hx_q fun W hst hty ha hfp hwr => ?_
    (try clear gn)
    refine SC.joinGen W.in4_2 hty hst hfp ha (fun i v hv => ?_) (fun s6 l hm hit => ⟨?_, fun t6 k => ?_⟩) (by rw [sizeLine_eq]; lia)
    · refine Exists.elim hv fun x hx_q => an2 hx_q fun _ hx_q => Exists.elim hx_q fun t zr1 => ?_
      (try clear hv)
      subst zr1
      exact xi2 _ _ rfl
    · have hl := textsOf hit
      rw [hl]
      refine joinOk_of ?_
      have z := joinOkAll hS
      have e : ("" : Str).length = 0 := rfl
      rw [e, Nat.mul_zero]; lia
    · have G6 : AllBare s6.gens := G5.moved hm.gens
      refine an2 (movedLed F5 N5 hm hwr hL hlt) fun F6 N6 => ?_
      have os6 : s6.os = s.os := hm.os.trans os5
      have d6 : s6.drawn = s.drawn := hm.drawn.trans d5
      clear F5 N5
      obtain ⟨h6, g6, d6', tk6, os6'⟩ := s6
      dsimp only at os6 d6 F6 N6 G6
      subst os6 d6
      rw [textsOf hit]
      (try walk_at "us")
      exact leaveK_ F6 N6 fun F7 N7 => h _ _ _ _ _ F7 N7 G6

end
end

section
open PySem PySem.W PySem.Calls PyProof.Rows
section
variable {prog : Program} {w : World} {A : Around} {E : Value → Shared → Prop} {s : Shared} {h₀ : Heap} {L : Addr} {m : Str → Option Value} {pg : PG} {st : ST} {rest : List (Addr × Obj)} {p : Program} {loose : List Str} {mg mb : Str → Option Value}
noncomputable def lenN (ps : List PT) : Nat := (ps.map fun x => x.f.length + x.s.length).sum
theorem lenOf_take (ps : List PT) : ∀ k, k ≤ ps.length → preSum (fun j => match ps[j]? with | some x => (x.f.length : Int) + x.s.length | none => 0) k = (lenN (ps.take k) : Int)
  | 0, _ => by simp [preSum, lenN]
  | k + 1, h => by
    rw [preSum, lenOf_take ps k (by lia), List.take_succ, List.getElem?_eq_getElem (by lia)]
    simp only [lenN, List.map_append, List.sum_append, Option.toList, List.map_cons, List.map_nil, List.sum_cons, List.sum_nil]
    lia
theorem lenOf_eq (ps : List PT) : lenOf ps = (lenN ps : Int) := by
  have := lenOf_take ps ps.length (Nat.le_refl _)
  rw [List.take_length] at this
  exact this
theorem lenN_le : ∀ {ps : List PT}, Small ps → lenN ps ≤ 2000 * ps.length
  | [], _ => Nat.le_refl _
  | x :: r, h => by
    have z := h x (.head _)
    have ih := lenN_le (ps := r) fun y hy => h y (.tail _ hy)
    simp only [lenN, List.map_cons, List.sum_cons, List.length_cons] at ih ⊢
    lia
structure Ok (st : ST) : Prop where
  small : Small st.parts
  few : st.parts.length ≤ 1000
  i0 : 0 ≤ st.init
  i1 : st.init ≤ 1000000
  lns : st.lines.length ≤ 1000
theorem Room.in1 {n : Nat} (r : Room A (n + 1)) : Room A.in1 n := ⟨r.handled, by have := r.depth; show A.depth + n ≤ 900; lia, by have := r.units; show A.units + 1 + 50 * n ≤ 9000; lia⟩
theorem accLen {Q : Value → Shared → Prop}
   (X₀ : (hd.heap_39 w.params).In h₀) (T : TopRead p loose mg mb h₀) (B : BM h₀ mg) (F : Fr h₀ L s.heap m) (N : News h₀ L s.heap (PL w.params pg st ++ rest)) (hr : Off pg rest) (hA : Room A 7) (hB : AllBare s.gens) (hO : Ok st)
   (h : ∀ h' g' t1' t tk, Fr h₀ L h' m → News h₀ L h' (PL w.params pg { st with t1 := t1' } ++ rest) → AllBare g' → Q (.int (st.init + lenN st.parts) t) { s with heap := h', gens := g', toks := tk }) :
   wpAny (model prog w) A (call (.builtin "len") [.ref pg.acc]) Q E s := by
  refine W.len_K F X₀ (instAcc N) (f := 162) (by k_is) (by k_is) (len_C X₀ T B F N hr hA.in1 hB hO.small fun h' g' t1' t tk F' N' G' => ⟨?_, ?_⟩)
  · have a1 := lenN_le hO.small
    have a2 := hO.few
    have a3 := hO.i0
    have a4 := hO.i1
    rw [lenOf_eq]
    lia
  · rw [lenOf_eq]
    exact h h' g' t1' tk (tk + 1) F' N' G'
theorem accStr {Q : Value → Shared → Prop}
   (X₀ : (hd.heap_39 w.params).In h₀) (T : TopRead p loose mg mb h₀) (B : BM h₀ mg) (F : Fr h₀ L s.heap m) (N : News h₀ L s.heap (PL w.params pg st ++ rest)) (hr : Off pg rest) (hA : Room A 8) (hB : AllBare s.gens) (hO : Ok st)
   (h : ∀ h' g' t2' t tk, Fr h₀ L h' m → News h₀ L h' (PL w.params pg { st with t2 := t2' } ++ rest) → AllBare g' → Q (.str (strOf st.parts) t) { s with heap := h', gens := g', toks := tk }) :
   wpAny (model prog w) A (call (.type "str") [.ref pg.acc]) Q E s :=
  kso_call (f := 169) (Nat.lt_of_le_of_lt (Nat.le_trans (Nat.le_add_right _ _) hA.in1.in1.units) (by decide)) (Kat F X₀) (instAcc N) (by k_is) (by k_is) (str_C X₀ T B F N hr hA.in1.in1 hB hO.small hO.few fun h' g' t2' t tk F' N' G' => h h' g' t2' t tk F' N' G')
theorem accTruthy {Q : Bool → Shared → Prop}
   (X₀ : (hd.heap_39 w.params).In h₀) (T : TopRead p loose mg mb h₀) (B : BM h₀ mg) (F : Fr h₀ L s.heap m) (N : News h₀ L s.heap (PL w.params pg st ++ rest)) (hr : Off pg rest) (hA : Room A 8) (hB : AllBare s.gens) (hO : Ok st)
   (h : ∀ h' g' t1' tk, Fr h₀ L h' m → News h₀ L h' (PL w.params pg { st with t1 := t1' } ++ rest) → AllBare g' → Q (decide (st.init + lenN st.parts ≠ 0)) { s with heap := h', gens := g', toks := tk }) :
   wpAny (model prog w) A (truthy (.ref pg.acc)) Q E s := by
  have X := Kat F X₀
  have I := instAcc N
  have key : wpAny (model prog w) A (runValue (.builtin "len" ⟨[.ref pg.acc], []⟩)) (fun r s' => ∃ n t, r = .int n t ∧ Q (decide (n ≠ 0)) s') E s := by
    refine wpAny_runValue (codeAny_builtin PySem.entry_len ?_)
    rw [Around.under_plainId PySem.plain_len _]
    unfold Builtin.«len»
    refine wpAny_bind (m := oneArg "len" _) (wpAny_pure ?_)
    refine wpAny_bind (m := callSpecial? (.ref pg.acc) (Str.ofString "__len__")) (special_fn (f := 162) X I (by k_is) (beq_iff_eq.mp (show isFn (hd.heap_39 w.params) (.ref 162) = true by k_is)) (len_C X₀ T B F N hr (Room.in1 (Room.less hA (by decide))) hB hO.small fun h' g' t1' t tk F' N' G' => ?_))
    have a1 := lenN_le hO.small
    have a2 := hO.few
    have a3 := hO.i0
    have a4 := hO.i1
    rw [lenOf_eq]
    refine wpAny_bind (wpAny_holding (wpAny_pure ?_))
    refine wpAny_bind (wpAny_letGo ?_)
    show wpAny _ _ (if st.init + (lenN st.parts : Int) < 0 then _ else _) _ _ _
    rw [if_neg (by lia)]
    show wpAny _ _ (if st.init + (lenN st.parts : Int) ≥ 2 ^ 63 then _ else _) _ _ _
    rw [if_neg (by lia)]
    exact wpAny_bind (wpAny_mkInt (wpAny_pure ⟨_, _, rfl, h h' g' t1' _ F' N' G'⟩))
  unfold truthy
  refine wpAny_bind (m := callSpecial? (.ref pg.acc) (Str.ofString "__bool__")) (wpAny_bind (wpAny_bind (I.type.here ((looks_findIn X (r := none) (by k_is)).here (wpAny_pure ?_)))))
  refine wpAny_bind (wpAny_bind (I.type.here ((looks_findIn X (r := some (.ref 162)) (by k_is)).here ?_)))
  show wpAny _ _ (runValue (.builtin "len" ⟨[.ref pg.acc], []⟩) >>= _) _ _ _
  refine wpAny_bind (wpAny_mono key (fun r s' hr => ?_) fun _ _ y => y)
  refine ex2 hr fun n t hx_q => an2 hx_q fun zr2 hq => ?_
  (try clear hr)
  subst zr2
  refine wpAny_pure ?_
  have e : (n != 0) = decide (n ≠ 0) := by by_cases hn : n = 0 <;> simp [hn]
  rw [e]; exact hq
theorem Ok.cast {st st' : ST} (h : Ok st) (e : st'.parts = st.parts) (e2 : st'.init = st.init) (e3 : st'.lines = st.lines) : Ok st' := ⟨e ▸ h.small, e ▸ h.few, e2 ▸ h.i0, e2 ▸ h.i1, e3 ▸ h.lns⟩

theorem lnsMeth {pl : Sem Bool} {Q : Value × List Value → Shared → Prop} (N : News h₀ L s.heap (PL w.params pg st ++ rest)) (h : Q (.builtin "list.append", [.ref pg.lns]) s) : wpAny (model prog w) A (getMethod (.ref pg.lns) "append" pl) Q E s :=
  Calls.getMethod_list_append (N _ mem_lns).1 rfl rfl h
theorem lnsAppend {x : Str} {t : Tok} {Q : Value → Shared → Prop} (F : Fr h₀ L s.heap m) (N : News h₀ L s.heap (PL w.params pg st ++ rest)) (hr : Off pg rest) (hz : st.lines.length ≤ 1000)
    (h : ∀ h', Fr h₀ L h' m → News h₀ L h' (PL w.params pg { st with lines := st.lines ++ [(x, t)], le := st.le + 1 } ++ rest) → Q .none { s with heap := h' }) :
    wpAny (model prog w) A (call (.builtin "list.append") [.ref pg.lns, .str x t]) Q E s := by
  have ap := apart N
  refine append_at (N _ mem_lns).1 (fun h' hs ho => ?_) (by simp only [List.size_toArray, List.length_map]; rw [sizeLine_eq]; lia)
  have e : (txts st.lines).toArray.push (.str x t) = (txts (st.lines ++ [(x, t)])).toArray := by simp
  rw [e] at ho
  have hm : ∀ q ∈ PL w.params pg { st with lines := st.lines ++ [(x, t)], le := st.le + 1 }, (q.1 = pg.lns ∧ q.2 = listOf (txts (st.lines ++ [(x, t)])).toArray (st.le + 1)) ∨ (q.1 ≠ pg.lns ∧ q ∈ PL w.params pg st ++ rest) := by
    intro q hq
    simp only [PL, List.mem_cons] at hq
    rcases hq with rfl | rfl | rfl | rfl | rfl | rfl | rfl | hq
    · exact .inr ⟨ap.lns1.symm, mem_t1⟩
    · exact .inr ⟨ap.lns2.symm, mem_t2⟩
    · exact .inr ⟨ap.acclns, mem_acc⟩
    · exact .inr ⟨ap.adlns, mem_ad⟩
    · exact .inl ⟨rfl, rfl⟩
    · exact .inr ⟨fun e => ap.page (by simp [muts, show pg.page = pg.lns from e]), mem_page⟩
    · exact .inr ⟨fun e => ap.pd (by simp [muts, show pg.pd = pg.lns from e]), mem_pd⟩
    · refine Exists.elim (List.mem_map.mp hq) fun x hx_q => an2 hx_q fun hx zr1 => ?_
      subst zr1
      exact .inr ⟨fun e => ap.tups x hx (by simp [muts, show x.a = pg.lns from e]), mem_tup hx⟩
  refine an2 (PL_change F N hr (by simp [muts]) hs _ ho hm) fun F' N' => ?_
  exact h h' F' N'

end
end

theorem regK2_J : True := by
  k_with "call builtin:len" => ((with_reducible apply accLen); (case X₀ => assumption); (case T => assumption); (case B => assumption); (case F => assumption); (case N => assumption); (case hr => assumption); (case hA => exact Room.deep (by assumption) (by decide)); (case hB => assumption); (case hO => first | assumption | (rename Ok _ => hO_q; exact Ok.cast hO_q rfl rfl rfl)); intro _ _ _ _ _ _ _ _; k_sweep)
  k_with "call type:str" => ((with_reducible apply accStr); (case X₀ => assumption); (case T => assumption); (case B => assumption); (case F => assumption); (case N => assumption); (case hr => assumption); (case hA => exact Room.deep (by assumption) (by decide)); (case hB => assumption); (case hO => first | assumption | (rename Ok _ => hO_q; exact Ok.cast hO_q rfl rfl rfl)); intro _ _ _ _ _ _ _ _; k_sweep)
  k_with "truthy ref" => ((with_reducible apply accTruthy); (case X₀ => assumption); (case T => assumption); (case B => assumption); (case F => assumption); (case N => assumption); (case hr => assumption); (case hA => exact Room.deep (by assumption) (by decide)); (case hB => assumption); (case hO => first | assumption | (rename Ok _ => hO_q; exact Ok.cast hO_q rfl rfl rfl)); intro _ _ _ _ _ _ _; k_sweep)
  k_with "getMethod ref" => (k_dflt (((with_reducible apply lnsMeth); (case N => assumption))))
  k_with "call builtin:list.append" => ((with_reducible apply lnsAppend); (case F => assumption); (case N => assumption); (case hr => assumption); (case hz => first | assumption | (rename Ok _ => hO_q; exact hO_q.lns)); intro _ _ _; k_sweep)
  trivial

section
open PySem PySem.W PySem.Calls PyProof.Rows
section
variable {prog : Program} {w : World} {A : Around} {E : Value → Shared → Prop} {s : Shared} {h₀ : Heap} {L : Addr} {m : Str → Option Value} {pg : PG} {st : ST} {rest : List (Addr × Obj)} {p : Program} {loose : List Str} {mg mb : Str → Option Value}
theorem only_C {Q : Value → Shared → Prop}
   (X₀ : (hd.heap_39 w.params).In h₀) (T : TopRead p loose mg mb h₀) (B : BM h₀ mg) (F : Fr h₀ L s.heap m) (N : News h₀ L s.heap (PL w.params pg st ++ rest)) (hr : Off pg rest) (hA : Room A 10) (hB : AllBare s.gens) (hO : Ok st)
   (hl : 0 < lenN st.parts) (hs : Txt.isspace (strOf st.parts) = false)
   (h : ∀ h' g' t1' t2' tk, Fr h₀ L h' m → News h₀ L h' (PL w.params pg { st with t1 := t1', t2 := t2' } ++ rest) → AllBare g' → Q (.bool false) { s with heap := h', gens := g', toks := tk }) :
   wpAny (model prog w) A (call (.ref 184) [.ref pg.acc]) Q E s := by
  refine wpAny_call ?_
  refine' enter2 (binds := [("self", .ref pg.acc)]) X₀ T B F N (hA.lt (by decide)) ?_
  clear X₀ T B F N
  intro g L' h' F' N' X' T' B' l1
  iterate 11 walk1
  all_goals (try walk_at "us")
  · rename_i hc
    iterate 6 walk1
    all_goals (try walk_at "us")
    have e1 : decide (st.init + (lenN st.parts : Int) ≠ 0) = true := decide_eq_true (by lia)
    rw [e1]
    iterate 10 walk1
    iterate 4 walk1
    all_goals (try walk_at "us")
    rename Fr _ _ _ _ => F6
    rename News _ _ _ _ => N6
    rename AllBare _ => G6
    have e2 : Txt.isspace (strOf st.parts) = false := hs
    dsimp only
    rw [e2]
    (try walk_at "us")
    exact leaveK_ F6 N6 fun F7 N7 => h _ _ _ _ _ F7 N7 G6
  · rename_i hc
    have e : (st.init == 0) = false := by simpa using hc
    rw [e]
    (try walk_at "us")
    exact leaveK_ F' N' fun F7 N7 => h _ _ st.t1 st.t2 _ F7 N7 hB

end
end

section
open PySem PySem.W PySem.Calls PyProof.Rows
section
variable {prog : Program} {w : World} {A : Around} {E : Value → Shared → Prop} {s : Shared} {h₀ : Heap} {L : Addr} {m : Str → Option Value} {pg : PG} {st : ST} {rest : List (Addr × Obj)} {p : Program} {loose : List Str} {mg mb : Str → Option Value}
theorem ne_tup {a b c d : Str} {ta tb tc td : Tok} {x y : Addr} {Q : Value → Shared → Prop} (hx : s.heap.get? x = some (tupO [.str a ta, .str b tb])) (hy : s.heap.get? y = some (tupO [.str c tc, .str d td])) (hne : b ≠ d) (hu : A.units < cLine)
    (h : Q (.bool true) s) : wpAny (model prog w) A (compareOp .NotEq (.ref x) (.ref y)) Q E s := by
  show wpAny (model prog w) A (richCompare .NotEq (.ref x) (.ref y)) Q E s
  have hTx : s.TypeIs (.ref x) "tuple" := ⟨_, hx, rfl⟩
  have hTy : s.TypeIs (.ref y) "tuple" := ⟨_, hy, rfl⟩
  refine wpAny_richCompare_same_room hTx hTy F.slot_tuple_ne (wpAny_call_entry F.slot_tuple_ne hTx F.entry_tuple_ne ?_ (F.args_tuple_ne_2 _ _)) hu
  show wpAny _ _ (isInstance (.ref y) (.type "tuple") >>= _) _ _ s
  refine wpAny_bind (wpAny_isInstance hTy isSubtype_tuple_tuple ?_)
  simp only [Bool.not_true, Bool.false_eq_true, if_false]
  refine wpAny_bind (wpAny_tupleItemsOf hx rfl ?_)
  refine wpAny_bind (wpAny_tupleItemsOf hy rfl ?_)
  refine wpAny_bind ?_
  show wpAny _ _ (forIn [((Value.str a ta), (Value.str c tc)), ((Value.str b tb), (Value.str d td))] _ _) _ _ _
  rw [List.forIn_cons]
  have two : ∀ {Q' : Bool → Shared → Prop}, Q' false s → wpAny (model prog w) A.in1 (eqBool (.str b tb) (.str d td)) Q' E s := fun hq => by
    refine (PySem.strKind prog w).eqBool (a := b) (b := d) (by simp [PySem.strKind, Value.isStrOf]) (by simp [PySem.strKind, Value.isStrOf]) ?_
    rw [decide_eq_false hne]; exact hq
  refine wpAny_bind ((wpAny_bind ((PySem.strKind prog w).eqBool (a := a) (b := c) (by simp [PySem.strKind, Value.isStrOf]) (by simp [PySem.strKind, Value.isStrOf]) ?_)))
  by_cases hk : a = c
  · rw [decide_eq_true hk]
    simp only [Bool.not_true, Bool.false_eq_true, if_false]
    refine wpAny_pure ?_
    dsimp only
    rw [List.forIn_cons]
    refine wpAny_bind (wpAny_bind (two ?_))
    simp only [Bool.not_false, if_true]
    exact wpAny_bind (wpAny_pure (wpAny_pure (wpAny_pure (wpAny_pure ⟨_, rfl, nofun, h⟩))))
  · rw [decide_eq_false hk]
    simp only [Bool.not_false, if_true]
    exact wpAny_bind (wpAny_pure (wpAny_pure (wpAny_pure (wpAny_pure ⟨_, rfl, nofun, h⟩))))

end
end

section
open PySem PySem.W PySem.Calls PyProof.Rows
section
variable {prog : Program} {w : World} {A : Around} {E : Value → Shared → Prop} {s : Shared} {h₀ : Heap} {L : Addr} {m : Str → Option Value} {pg : PG} {st : ST} {rest : List (Addr × Obj)} {p : Program} {loose : List Str} {mg mb : Str → Option Value}
theorem acc_bound {name : Str} {f : Addr} {expr : Bool} {Q : Value → Shared → Prop} (F : Fr h₀ L s.heap m) (X₀ : (hd.heap_39 w.params).In h₀) (N : News h₀ L s.heap (PL w.params pg st ++ rest)) (hr : Off pg rest)
    (hf : findObj (hd.heap_39 w.params) 195 (some (adO w.params pg st)) name = some (.bind (.builtin "function.__get__") (.ref f))) (ht : isFn (hd.heap_39 w.params) (.ref f) = true)
    (h : ∀ q h', Fr h₀ L h' m → News h₀ L h' (PL w.params pg st ++ ((q, methodObj (.ref f) (.ref pg.acc)) :: rest)) → Off pg ((q, methodObj (.ref f) (.ref pg.acc)) :: rest) → Q (.ref q) { s with heap := h', toks := s.toks + 1 }) : wpAny (model prog w) A (getAttr (.ref pg.acc) name expr) Q E s := by
  have Xh := Kat F X₀
  have I := instAcc N
  have hq : Q (.ref s.heap.objs.size) { s with heap := s.heap.push (methodObj (.ref f) (.ref pg.acc)), toks := s.toks + 1 } := by
    refine an2 (PL_new (N.push F (methodObj (.ref f) (.ref pg.acc))) (fun p hp => Heap.lt_size (N p hp).1) hr) fun N2 hr2 => ?_
    exact h _ _ (F.push _) N2 hr2
  clear h
  obtain ⟨hh, g, d, t, os⟩ := s
  have L0 := I.type (M := model prog w)
  have L1 := looks_findIn (M := model prog w) Xh (t := .ref 195) (name := "__getattribute__") (r := some (.builtin "list.__getattribute__")) (by k_is)
  have L2 := looks_findIn (M := model prog w) Xh (t := .ref 195) (name := "__getattr__") (r := none) (by k_is)
  have L3 := looks_find (M := model prog w) Xh I hf
  have L4 : Looks (model prog w) hh (isInstance (.ref pg.acc) (.type "list")) true := inst_sub Xh I (by rfl)
  unfold getAttr getAttrBy
  refine wpAny_bind (wpAny_mkText (wpAny_holding (wpAny_bind (L0.at (wpAny_bind (L1.at ?_))))))
  show wpAny _ _ (getAttrByItsOwn _ _ _ _ _ _) _ _ _
  unfold getAttrByItsOwn
  refine wpAny_bind (L2.at ?_)
  refine wpAny_bind (wpAny_attempt (wpAny_holding ?_))
  have e : callGetattribute (.ref pg.acc) (.str name t) (.builtin "list.__getattribute__") expr = boundAndCalled (.builtin "list.__getattribute__") (.ref pg.acc) (.str name t) := by
    unfold callGetattribute; cases expr <;> rfl
  rw [e]
  unfold boundAndCalled
  rw [bind_lga]
  refine wpAny_bind (wpAny_pure ?_)
  refine call_sub (.inl kind_lga) split_lga L4 (args_lga _ _) (by decide +kernel) am_entry_list_getattribute ?_
  unfold Builtin.«object.__getattribute__»
  refine wpAny_bind (wpAny_pure (a := (Value.ref pg.acc, [Value.str name t])) ?_)
  refine wpAny_bind (wpAny_pure (a := name) (wpAny_bind (L0.at (wpAny_bind (L3.at ?_)))))
  show wpAny _ _ (holding [Value.ref f] (call (.builtin "function.__get__") [.ref f, .ref pg.acc, .ref 195]) >>= ret) _ _ _
  refine wpAny_bind (wpAny_holding (wpAny_call (fn_get (s := ⟨hh, g, d, t + 1, os⟩) Xh (beq_iff_eq.mp ht) ?_)))
  refine wpAny_pure ⟨_, rfl, ?_⟩
  exact handed_on rfl hq

theorem callWith_SM {M : Model} {K : Frag} {env : Env} {pos p' : Pos} {first : List Value} {e : Expr} {q g : Addr} {self : Value} {Q : Value → Shared → Prop} (hf : fnIn K g = true)
    (h : wpAny M A (eval e env) (fun v s₁ => StarOf M A E v (fun vs s₂ => MethP K q g self s₂.heap ∧ wpAny M A (call (.ref q) (first ++ vs)) Q E s₂) s₁) E s) (he : starEach [.Starred e p'] env = [(true, eval e env)] := by rfl) :
    wpAny M A (callWith pos (.ref q) first (backTo pos (starEach [.Starred e p'] env)) []) Q E s := by
  rw [he]
  exact ks_call rfl (keeps_M hf) (ks_lone h)
theorem methodCallS {M : Model} {env : Env} {o e : Expr} {name : Str} {apos pos p' : Pos} {Q : Value → Shared → Prop}
    (h : wpAny M A (eval o env) (fun ov s₁ => wpAny M A (getAttr ov name true) (fun f s₂ => wpAny M A (callWith pos f [] (backTo pos (starEach [.Starred e p'] env)) []) Q E s₂) E s₁) E s)
    (he : eval (.Call (.Attribute o name apos) [.Starred e p'] [] pos) env = (do
      let ov ← eval o env
      standAt apos.atName
      let (f, first) ← holding [ov] (do pure (← getAttr ov name true, []))
      callWith pos f first (backTo pos (starEach [.Starred e p'] env)) []) := by rfl) :
    wpAny M A (eval (.Call (.Attribute o name apos) [.Starred e p'] [] pos) env) Q E s := by
  rw [he]
  refine wpAny_bind (wpAny_mono h (fun ov s₁ h₁ => wpAny_bind (wpAny_standAt (wpAny_bind (wpAny_holding (wpAny_bind (wpAny_mono h₁ (fun f s₂ h₂ => wpAny_pure ?_) fun _ _ x => x)))))) fun _ _ x => x)
  exact h₂

end
end

section
open PySem PySem.W PySem.Calls PyProof.Rows
section
variable {prog : Program} {w : World} {A : Around} {E : Value → Shared → Prop} {s : Shared} {h₀ : Heap} {L : Addr} {m : Str → Option Value} {pg : PG} {st : ST} {rest : List (Addr × Obj)} {p : Program} {loose : List Str} {mg mb : Str → Option Value}
theorem regL_B21 : True := by
  k_with "call ref" => (try dsimp only [List.append_nil, List.nil_append, List.cons_append]); (first
    | ((with_reducible apply only_C); (case X₀ => assumption); (case T => assumption); (case B => assumption); (case F => assumption); (case N => assumption); (case hr => assumption); (case hA => exact Room.deep (by assumption) (by decide)); (case hB => assumption); (case hO => first | assumption | (rename Ok _ => hO_q; exact Ok.cast hO_q rfl rfl rfl)); (case hl => assumption); (case hs => assumption); intro _ _ _ _ _ _ _ _; k_sweep)
    | ((with_reducible apply reset0_C); (case X₀ => assumption); (case T => assumption); (case F => assumption); (case N => assumption); (case hr => assumption); (case hA => exact Room.deep (by assumption) (by decide)); (case hz => rename Ok _ => hO_q; exact hO_q.few); intro _ _ _ _ _ _; k_sweep))
  trivial
theorem newline_C {Q : Value → Shared → Prop} {ps : List PT} {x : PT} (hP : PO prog)
   (X₀ : (hd.heap_39 w.params).In h₀) (T : TopRead p loose mg mb h₀) (B : BM h₀ mg) (F : Fr h₀ L s.heap m) (N : News h₀ L s.heap (PL w.params pg st ++ rest)) (hr : Off pg rest) (hA : Room A 12) (hB : AllBare s.gens) (hO : Ok st)
   (hps : st.parts = ps ++ [x]) (hx : x.s ≠ ("" : Str)) (hs : Txt.isspace (strOf st.parts) = false) (hl : 0 < lenN st.parts)
   (h : ∀ h' g' t1' t2' ne' ti' le' tl tk, Fr h₀ L h' m → News h₀ L h' (PL w.params pg { parts := [], ne := ne', init := 0, ti := ti', lines := st.lines ++ [(strOf st.parts, tl)], le := le', t1 := t1', t2 := t2' } ++ rest) → AllBare g' → Q .none { s with heap := h', gens := g', toks := tk }) :
   wpAny (model prog w) A (call (.ref 73) [.ref pg.page]) Q E s := by
  refine wpAny_call ?_
  refine' enter2 (binds := [("self", .ref pg.page)]) X₀ T B F N (hA.lt (by decide)) ?_
  clear X₀ T B F N
  intro g L' h' F' N' X' T' B' l1
  iterate 8 walk1
  all_goals (try walk_at "us")
  dsimp only [List.append_nil]
  refine pop_C hP X' T' F' N' hr (Room.deep hA (by decide)) hps hO.few fun h1 ne1 tk1 F1 N1 hr1 => ?_
  clear F' N'
  iterate 12 walk1
  all_goals (try walk_at "us")
  rename News _ _ _ _ => N2
  refine ne_tup (N2 _ (mem_rest (.tail _ (.head _)))).1 (N2 _ (mem_rest (.head _))).1 hx (Nat.lt_of_le_of_lt (Nat.le_trans (Nat.le_add_right _ _) (Room.deep (k := 2) hA (by decide)).units) (by decide)) ?_
  iterate 4 walk1
  all_goals (try walk_at "us")
  refine methodCallS ?_
  iterate 3 walk1
  all_goals (try walk_at "us")
  rename Fr _ _ _ _ => F2
  rename Off _ _ => hr2
  refine acc_bound (f := 139) F2 X' N2 hr2 (findObj_fn (by k_is) (by k_is) (by k_is) (by k_is) (by decide +kernel) (by rfl)) (by k_is) fun q h2 F3 N3 hr3 => ?_
  clear F2 N2 hr2
  refine callWith_SM (K := hd.heap_39 w.params) (g := 139) (self := .ref pg.acc) (by k_is) ?_
  walk1
  all_goals (try walk_at "us")
  refine star_seq (ws := [.str x.f x.tf, .str x.s x.ts]) F3 N3 (mem_rest (.tail _ (.tail _ (.head _)))) rfl rfl (.inr rfl) rfl (Nat.le_of_ble_eq_true rfl) fun h3 F4 N4 => ?_
  clear F3 N3
  refine ⟨methP N4 (mem_rest (.head _)) (Kat F4 X'), ?_⟩
  refine call_meth N4 (mem_rest (.head _)) (push_D X' T' F4 N4 hr3 (Room.deep hA (by decide)) (by have := hO.few; rw [hps, List.length_append, List.length_singleton] at this; exact this) fun a h4 ne4 tk4 F5 N5 => ?_)
  clear F4 N4
  have N6 := PL_keep (rest' := rest) (fun q hq => .tail _ (.tail _ (.tail _ hq))) N5
  clear N5 hr3
  have e1 : lenN (ps ++ [⟨a, x.f, x.tf, x.s, x.ts⟩]) = lenN st.parts := by rw [hps]; simp [lenN]
  have e2 : strOf (ps ++ [⟨a, x.f, x.tf, x.s, x.ts⟩]) = strOf st.parts := by rw [hps]; simp [strOf]
  have hO2 : Ok { st with parts := ps ++ [⟨a, x.f, x.tf, x.s, x.ts⟩], ne := ne4 } := ⟨fun y hy => by
    rcases List.mem_append.mp hy with hy | hy
    · exact hO.small y (by rw [hps]; exact List.mem_append_left _ hy)
    · rw [List.mem_singleton.mp hy]; exact hO.small x (by rw [hps]; simp), by have := hO.few; rw [hps] at this; simpa using this, hO.i0, hO.i1, hO.lns⟩
  dsimp only at N6
  have hl2 : 0 < lenN (ps ++ [⟨a, x.f, x.tf, x.s, x.ts⟩]) := by rw [e1]; exact hl
  have hs2 : Txt.isspace (strOf (ps ++ [⟨a, x.f, x.tf, x.s, x.ts⟩])) = false := by rw [e2]; exact hs
  iterate 17 walk1
  all_goals (try walk_at "us")
  rotate_left
  · rename_i hc
    dsimp only at hc
    have := hO.i0
    exact absurd (by lia) hc
  iterate 47 walk1
  all_goals (try walk_at "us")
  rename Fr _ _ _ _ => F8
  rename News _ _ _ _ => N8
  rename AllBare _ => G8
  dsimp only at N8
  rw [e2] at N8
  (try walk_at "us")
  exact h _ _ _ _ _ _ _ _ _ F8 N8 G8

end
end

theorem regR_B21 : True := by
  k_with_none
  k_with "getMethod ref" => (k_dflt (first | ((with_reducible apply accMethB); (case F => assumption); (case X₀ => assumption); (case N => assumption); (case hf => k_is); (case ht => exact type_append); (case hs => rfl)) | ((with_reducible apply accMeth); (case F => assumption); (case X₀ => assumption); (case N => assumption); (case hf => k_is); (case ht => k_is); (case hs => rfl)) | ((with_reducible apply pageMeth); (case F => assumption); (case X₀ => assumption); (case N => assumption); (case hg => k_is); (case hf => k_is); (case ht => k_is); (case hl => rfl))))
  k_with "getAttr ref" => (first
    | ((with_reducible apply page_line); (case F => assumption); (case X₀ => assumption); (case N => assumption))
    | ((with_reducible apply page_lines); (case F => assumption); (case X₀ => assumption); (case N => assumption))
    | ((with_reducible apply page_maxlen); (case F => assumption); (case X₀ => assumption); (case N => assumption))
    | ((with_reducible apply page_splitchars); (case F => assumption); (case X₀ => assumption); (case N => assumption))
    | ((with_reducible apply acc_size); (case F => assumption); (case X₀ => assumption); (case N => assumption)))
  k_with "newTuple" => ((with_reducible apply newTupleP); (case hz => exact Nat.le_of_ble_eq_true rfl); (case F => assumption); (case N => assumption); (case hr => assumption); intro _ _ _ _ _; k_sweep)
  k_with "LeaveK" => (apply leaveK_; (case F' => assumption); (case N' => assumption); intro _ _)
  k_with "super" => (apply superNode; (case F => assumption); (case X₀ => assumption); (case N => assumption); (case T => assumption); (case hf => k_is); (case hp => exact rfl); (case hv => exact rfl); (case I => exact instAcc (by assumption)); (case hcode => k_is); (case hvs => exact rfl); (case hfile => exact PO.file (by assumption)); (case hcell => k_is); (case hD => k_is); (case hsub => k_is); (case hsuper => k_is); (case hat => rfl); (case hks => exact rfl); (case hkc => exact rfl); (case hka => exact rfl); (case hk => exact rfl); (case htop => exact PO.sup (by assumption)); (case hboot => boot_by_name))
  k_with "newList" => ((with_reducible apply newListP); (case hz => exact Nat.le_of_ble_eq_true rfl); (case F => assumption); (case N => assumption); (case hr => assumption); intro _ _ _ _ _; k_sweep)
  k_with "us" => ((first | (goal_lacks PySem.wpAny) | (fail_if_success (fail_if_success (with_reducible show Sealed _ _ _)))); (first | ((first | ((with_reducible apply unseal_next); (case hK => assumption)) | ((with_reducible apply unseal_ret); (case hK => assumption)) | ((with_reducible apply unseal_brk); (case hK => assumption)) | ((with_reducible apply unseal_cont); (case hK => assumption))); (try clear hK_q K_q)) | ((with_reducible apply unsealB); (case hB => assumption); (try clear hB_q hE_q KB_q EB_q))); (try walk_at "us"))
  k_with "Sealed" => (plain_pass; (walk_at "us"); walk1)
  k_with "SealedB" => (plain_pass; (walk_at "us"); walk1)
  k_with "execs cons" => (try (k_here; k_gentoks)); (try ((fail_if_success (goal_lacks PySem.W.envX)); first | ((with_reducible refine seal_envA ?_); intro e_q A_q) | ((with_reducible refine seal_env ?_); intro e_q))); first | ((goal_lacks Mine.Sealed); (with_reducible refine execs_seal ?_); intro K_q hK_q; (try dsimp only)) | ((with_reducible refine wpAny_execs_cons ?_); (try dsimp only))
  k_with "execs nil" => (try (k_here; k_gentoks)); refine wpAny_execs_nil ?_
  k_with "call builtin:len" => ((with_reducible apply accLen); (case X₀ => assumption); (case T => assumption); (case B => assumption); (case F => assumption); (case N => assumption); (case hr => assumption); (case hA => exact Room.deep (by assumption) (by decide)); (case hB => assumption); (case hO => first | assumption | (rename Ok _ => hO_q; exact Ok.cast hO_q rfl rfl rfl)); intro _ _ _ _ _ _ _ _; k_sweep)
  k_with "call type:str" => ((with_reducible apply accStr); (case X₀ => assumption); (case T => assumption); (case B => assumption); (case F => assumption); (case N => assumption); (case hr => assumption); (case hA => exact Room.deep (by assumption) (by decide)); (case hB => assumption); (case hO => first | assumption | (rename Ok _ => hO_q; exact Ok.cast hO_q rfl rfl rfl)); intro _ _ _ _ _ _ _ _; k_sweep)
  k_with "truthy ref" => ((with_reducible apply accTruthy); (case X₀ => assumption); (case T => assumption); (case B => assumption); (case F => assumption); (case N => assumption); (case hr => assumption); (case hA => exact Room.deep (by assumption) (by decide)); (case hB => assumption); (case hO => first | assumption | (rename Ok _ => hO_q; exact Ok.cast hO_q rfl rfl rfl)); intro _ _ _ _ _ _ _; k_sweep)
  k_with "getMethod ref" => (k_dflt (((with_reducible apply lnsMeth); (case N => assumption))))
  k_with "call builtin:list.append" => ((with_reducible apply lnsAppend); (case F => assumption); (case N => assumption); (case hr => assumption); (case hz => first | assumption | (rename Ok _ => hO_q; exact hO_q.lns)); intro _ _ _; k_sweep)
  trivial

section
open PySem PySem.W PySem.Calls PyProof.Rows
section
variable {prog : Program} {w : World} {A : Around} {E : Value → Shared → Prop} {s : Shared} {h₀ : Heap} {L : Addr} {m : Str → Option Value} {pg : PG} {st : ST} {rest : List (Addr × Obj)} {p : Program} {loose : List Str} {mg mb : Str → Option Value}
theorem lnsJoin {sep : Str} {t : Tok} {Q : Value → Shared → Prop} (N : News h₀ L s.heap (PL w.params pg st ++ rest)) (hok : JoinOk sep (st.lines.map (·.1)) = true)
    (hq : ∀ t' k, Q (.str (Txt.join sep (st.lines.map (·.1))) t') { s with toks := k }) : wpAny (model prog w) A (call (.builtin "str.join") [.str sep t, .ref pg.lns]) Q E s :=
  SC.join (l := st.lines) ⟨_, (N _ mem_lns).1, rfl, _, rfl⟩ rfl hok hq
theorem pstr_C {Q : Value → Shared → Prop} {ps : List PT} {x : PT} {sep : Str} {ts : Tok} (hP : PO prog)
   (X₀ : (hd.heap_39 w.params).In h₀) (T : TopRead p loose mg mb h₀) (B : BM h₀ mg) (F : Fr h₀ L s.heap m) (N : News h₀ L s.heap (PL w.params pg st ++ rest)) (hr : Off pg rest) (hA : Room A 14) (hB : AllBare s.gens) (hO : Ok st)
   (hps : st.parts = ps ++ [x]) (hx : x.s ≠ ("" : Str)) (hs : Txt.isspace (strOf st.parts) = false) (hl : 0 < lenN st.parts) (hj : JoinOk sep ((st.lines.map (·.1)) ++ [strOf st.parts]) = true)
   (h : ∀ h' g' st' t' tk, Fr h₀ L h' m → News h₀ L h' (PL w.params pg st' ++ rest) → AllBare g' → Q (.str (Txt.join sep ((st.lines.map (·.1)) ++ [strOf st.parts])) t') { s with heap := h', gens := g', toks := tk }) :
   wpAny (model prog w) A (call (.ref 59) [.ref pg.page, .str sep ts]) Q E s := by
  refine wpAny_call ?_
  refine' enter2 (binds := [("self", .ref pg.page), ("linesep", .str sep ts)]) X₀ T B F N (hA.lt (by decide)) ?_
  clear X₀ T B F N
  intro g L' h' F' N' X' T' B' l1
  iterate 6 walk1
  all_goals (try walk_at "us")
  dsimp only [List.append_nil]
  refine newline_C hP X' T' B' F' N' hr (Room.deep hA (by decide)) hB hO hps hx hs hl fun h1 g1 a1 a2 ne1 ti1 le1 tl1 tk1 F1 N1 G1 => ?_
  clear F' N'
  iterate 11 walk1
  all_goals (try walk_at "us")
  rename Fr _ _ _ _ => F2
  have e : ((st.lines ++ [(strOf st.parts, tl1)]).map (·.1)) = (st.lines.map (·.1)) ++ [strOf st.parts] := by simp
  refine lnsJoin N1 (by show JoinOk sep ((st.lines ++ [(strOf st.parts, tl1)]).map (·.1)) = true; rw [e]; exact hj) fun t' k => ?_
  walk_at "us"
  show LeaveK _ _ _ _ _ (.str (Txt.join sep ((st.lines ++ [(strOf st.parts, tl1)]).map (·.1))) t') _
  rw [e]
  exact leaveK_ F2 N1 fun F7 N7 => h _ _ _ _ _ F7 N7 G1

end
end

section
open PySem PySem.W PySem.Calls PyProof.Rows
section
variable {prog : Program} {w : World} {A : Around} {E : Value → Shared → Prop} {s : Shared} {h₀ : Heap} {L : Addr} {m : Str → Option Value} {pg : PG} {st : ST} {rest : List (Addr × Obj)} {p : Program} {loose : List Str} {mg mb : Str → Option Value}
theorem forOnce {R : Result → Shared → Prop} {target : Expr} {it : Value} {body orelse : List Stmt} {env : Env}
    (h : wpAny (model prog w) A (pyNext it) (fun r s₁ => match r with
      | none => wpAny (model prog w) A (execs orelse env) (fun f s₃ => R (.ok f) s₃) (notedBy (model prog w) A env fun e s' => R (.error e) s') s₁
      | some v => wpAny (model prog w) A (assign target env v) (fun _ s₂ => wpAny (model prog w) A (execs body env) (fun f s₃ => match f with
          | .next | .cont => codeAny (model prog w) A (.forLoop target it body orelse env) R s₃
          | .brk => R (.ok .next) s₃
          | .ret v => R (.ok (.ret v)) s₃) (notedBy (model prog w) A env fun e s' => R (.error e) s') s₂) (notedBy (model prog w) A env fun e s' => R (.error e) s') s₁) (notedBy (model prog w) A env fun e s' => R (.error e) s') s)
    (ht : ∀ v, letOwnedTupleGo target it v = pure ()) : codeAny (model prog w) A (.forLoop target it body orelse env) R s := by
  refine codeAny_of_tree ?_
  show wpAny _ _ ((forTurn target it body orelse env).onRaise (fun x => do noteFrame x env; theTreesLotGoes x)) _ _ s
  refine wpAny_noted ?_
  simp -iota only [forTurn]
  refine wpAny_bind (wpAny_standAt (wpAny_bind (wpAny_onRaise (wpAny_mono h (fun r s₁ h₁ => ?_) fun _ _ h' => wpAny_standAt h'))))
  cases r with
  | none => exact wpAny_pure ⟨rfl, codeAny_block h₁⟩
  | some v =>
    refine wpAny_bind (wpAny_of_eq (ht v) ?_)
    refine wpAny_bind (wpAny_mono h₁ (fun _ s₂ h₂ => wpAny_bind (wpAny_mono h₂ (fun f s₃ h₃ => ?_) fun _ _ h' => h')) fun _ _ h' => h')
    cases f with
    | next => exact wpAny_pure ⟨rfl, h₃⟩
    | cont => exact wpAny_pure ⟨rfl, h₃⟩
    | brk => exact wpAny_pure h₃
    | ret v => exact wpAny_pure h₃

noncomputable def Turn (P : Params) (h₀ : Heap) (L : Addr) (pg : PG) (st : ST) (rest : List (Addr × Obj)) (Inv : (Str → Option Value) → Prop) (hit : Bool) (Post : (Str → Option Value) → Prop) (s₁ : Shared) (f : Flow) (s₂ : Shared) : Prop :=
  ∃ h' tk m', s₂ = { s₁ with heap := h', toks := tk } ∧ Fr h₀ L h' m' ∧ News h₀ L h' (PL P pg st ++ rest) ∧ Inv m' ∧ ((hit = false ∧ (f = .next ∨ f = .cont)) ∨ (hit = true ∧ f = .brk ∧ Post m'))

theorem loopW {x : Str} {px : Pos} {I : Addr} {n : Nat} {Pv : Nat → Value → Prop} {St : Nat → Heap → Prop} {body orelse : List Stmt} {env : Env} {R : Result → Shared → Prop}
    (Inv : (Str → Option Value) → Prop) (hit : Nat → Bool) (Post : Nat → (Str → Option Value) → Prop)
    (W : Walks prog w A I [I] [I] n Pv St) (hlive : ∀ i h, St i h → ∃ o, h.get? I = some o) (hx : env.kindOf x = some .local)
    (hp : (env.scope.kind == .class || (env.scope.kind == .module && env.locals != env.globals)) = false)
    (hI : ∀ q ∈ PL w.params pg st ++ rest, q.1 ≠ I) (hIm : I ∉ muts pg) (hIL : I ≠ env.locals) (hI0 : h₀.get? I = none) (hr : Off pg rest)
    (hset : ∀ m v, Inv m → Inv (fun y => if y = x then some v else m y))
    (step : ∀ (i : Nat) (v : Value) (s₁ : Shared) (m₁ : Str → Option Value) (o : Obj), i < n → Pv i v → Fr h₀ env.locals s₁.heap (fun y => if y = x then some v else m₁ y) → Inv (fun y => if y = x then some v else m₁ y) → News h₀ env.locals s₁.heap (PL w.params pg st ++ ((I, o) :: rest)) → Off pg ((I, o) :: rest) → s₁.gens = s.gens →
      wpAny (model prog w) A (execs body env) (Turn w.params h₀ env.locals pg st ((I, o) :: rest) Inv (hit i) (Post i) s₁) (notedBy (model prog w) A env fun e s' => R (.error e) s') s₁)
    (hB : ∀ i h' tk m', i < n → hit i = true → (∀ j, j < i → hit j = false) → Fr h₀ env.locals h' m' → News h₀ env.locals h' (PL w.params pg st ++ rest) → Inv m' → Post i m' → R (.ok .next) { s with heap := h', toks := tk })
    (hE : (∀ j, j < n → hit j = false) → ∀ h' tk m', Fr h₀ env.locals h' m' → News h₀ env.locals h' (PL w.params pg st ++ rest) → Inv m' →
      wpAny (model prog w) A (execs orelse env) (fun f s₃ => R (.ok f) s₃) (notedBy (model prog w) A env fun e s' => R (.error e) s') { s with heap := h', toks := tk }) :
    ∀ (k i : Nat) (h' : Heap) (tk : Nat) (m : Str → Option Value), n - i = k → i ≤ n → (∀ j, j < i → hit j = false) → St i h' → Fr h₀ env.locals h' m → News h₀ env.locals h' (PL w.params pg st ++ rest) → Inv m →
      codeAny (model prog w) A (.forLoop (.Name x px) (.ref I) body orelse env) R { s with heap := h', toks := tk } := by
  intro k
  induction k with
  | zero =>
    intro i h' tk m hk hi hno hst F N hm
    have hin : i = n := eq_0 hk hi
    subst hin
    refine forOnce (W.done _ _ _ hst fun h₁ tk₁ hk₁ => ?_) (fun _ => rfl)
    have keep : ∀ b o, b ≠ I → h'.get? b = some o → h₁.get? b = some o := fun b o hb e => hk₁ b o (by simpa -iota using hb) e
    exact hE hno h₁ tk₁ m ⟨F.ns.at' fun o e => keep _ o hIL.symm e, fun b o e => keep b o (fun q => by rw [q, hI0] at e; cases e) (F.keep b o e), F.above⟩ (fun q hq => ⟨keep _ _ (hI q hq) (N q hq).1, (N q hq).2⟩) hm
  | succ k ih =>
    intro i h' tk m hk hi hno hst F N hm
    have hlt : i < n := lt_s hk
    refine forOnce (W.item i _ _ _ hlt hst fun v h₁ tk₁ hP hst₁ hk₁ => ?_) (fun _ => rfl)
    have keep : ∀ b o, b ≠ I → h'.get? b = some o → h₁.get? b = some o := fun b o hb e => hk₁ b o (by simpa -iota using hb) e
    have F₁ : Fr h₀ env.locals h₁ m := ⟨F.ns.at' fun o e => keep _ o hIL.symm e, fun b o e => keep b o (fun q => by rw [q, hI0] at e; cases e) (F.keep b o e), F.above⟩
    have N₁ : News h₀ env.locals h₁ (PL w.params pg st ++ rest) := fun q hq => ⟨keep _ _ (hI q hq) (N q hq).1, (N q hq).2⟩
    refine wpAny_assign_Name (wpAny_storeName_local hx F₁.ns (fun h₂ hn₂ hs₂ => ?_) hp)
    have F₂ := F₁.set hn₂ hs₂
    have hst₂ : St (i + 1) h₂ := W.frame _ _ _ hst₁ fun b hb o e => (hs₂.2 b fun q => hIL ((List.mem_singleton.mp hb).symm.trans q)).trans e
    refine Exists.elim (hlive _ _ hst₂) fun o ho => ?_
    have N₂ : News h₀ env.locals h₂ (PL w.params pg st ++ ((I, o) :: rest)) := fun q hq => by
      rcases List.mem_append.mp hq with hq | hq
      · have := N₁ q (List.mem_append_left _ hq)
        exact ⟨(hs₂.2 _ this.2.1).trans this.1, this.2⟩
      · rcases List.mem_cons.mp hq with rfl | hq
        · exact ⟨ho, hIL, hI0⟩
        · have := N₁ q (List.mem_append_right _ hq)
          exact ⟨(hs₂.2 _ this.2.1).trans this.1, this.2⟩
    have hr₂ : Off pg ((I, o) :: rest) := fun q hq => by
      rcases List.mem_cons.mp hq with rfl | hq
      · exact hIm
      · exact hr q hq
    refine wpAny_mono (step i v _ m o hlt hP F₂ (hset _ _ hm) N₂ hr₂ rfl) (fun f s₃ h₃ => ?_) fun _ _ e => e
    refine ex3 h₃ fun h₃' tk₃ m₃ hx => an5 hx fun zr1 F₃ N₃ hm₃ ho₃ => ?_
    (try clear h₃)
    subst zr1
    have N₄ : News h₀ env.locals h₃' (PL w.params pg st ++ rest) := PL_drop N₃
    have hst₃ : St (i + 1) h₃' := W.frame _ _ _ hst₂ fun b hb o' e => by
      have hbI := List.mem_singleton.mp hb
      subst hbI
      rw [ho] at e; cases e
      exact (N₃ _ (mem_rest (.head _))).1
    rcases ho₃ with ⟨hf, rfl | rfl⟩ | ⟨hf, rfl, hpost⟩
    · exact ih (i + 1) h₃' tk₃ m₃ (sub_s hk) hlt (fun j hj => by rcases Nat.lt_succ_iff_lt_or_eq.mp hj with h | rfl; exact hno j h; exact hf) hst₃ F₃ N₄ hm₃
    · exact ih (i + 1) h₃' tk₃ m₃ (sub_s hk) hlt (fun j hj => by rcases Nat.lt_succ_iff_lt_or_eq.mp hj with h | rfl; exact hno j h; exact hf) hst₃ F₃ N₄ hm₃
    · exact hB i h₃' tk₃ m₃ hlt hf hno F₃ N₄ hm₃ hpost

end
end

section
open PySem PySem.W PySem.Calls PyProof.Rows
section
variable {prog : Program} {w : World} {A : Around} {E : Value → Shared → Prop} {s : Shared} {h₀ : Heap} {L : Addr} {m : Str → Option Value} {pg : PG} {st : ST} {rest : List (Addr × Obj)} {p : Program} {loose : List Str} {mg mb : Str → Option Value}
theorem nameE_L {M : Model} {cn : Str} {cs : Scope} {a : Addr} {ccd : Value} {cl : List (Str × Addr)} {x : Str} {pos : Pos} {v : Value} {Q : Value → Shared → Prop} (F : Fr h₀ L s.heap m) (hx : (envX cn cs L a ccd cl).kindOf x = some .local) (hv : m x = some v) (hk : cs.kind = .function) (hd : (x == ("__debug__" : Str)) = false) (h : Q v s) :
    wpAny M A (eval (.Name x pos) (envX cn cs L a ccd cl)) Q E s := wpAny_Name (wpAny_loadName_local (env := envX cn cs L a ccd cl) hk hx F.ns hv h) hd
theorem rangeDown (n : Nat) : Builtin.Range.rangeSize (n : Int) 0 (-1) = (n : Int) := by
  unfold Builtin.Range.rangeSize
  rw [if_neg (by decide)]
  by_cases h : (n : Int) > 0
  · rw [if_pos h, show (-(-1) : Int) = 1 from rfl, Int.ediv_one]; lia
  · rw [if_neg h]; lia
theorem smallDown (n : Nat) (h : n ≤ 1000) : Builtin.Range.small (n : Int) 0 (-1) = true := by
  unfold Builtin.Range.small
  rw [rangeDown]
  have e : Builtin.Range.rangeFitsLong (n : Int) = true := by
    unfold Builtin.Range.rangeFitsLong
    rw [decide_eq_true (by lia), decide_eq_true (by lia)]; rfl
  rw [e]
  rw [show Builtin.Range.rangeFitsLong 0 = true from by decide, show Builtin.Range.rangeFitsLong (-1) = true from by decide, if_neg (by decide), show Builtin.Range.rangeFitsLong (0 + (-1 + 1)) = true from by decide]
  simp
theorem tupGet0 {x : PT} {tk : Tok} {Q : Value → Shared → Prop} (ho : s.heap.get? x.a = some (tupO [.str x.f x.tf, .str x.s x.ts])) (h : Q (.str x.f x.tf) s) : wpAny (model prog w) A (getItem (.ref x.a) (.int 0 tk)) Q E s :=
  PyProof.Rows.getItem_tuple (j := 0) ⟨_, ho, rfl, _, rfl⟩ (by decide) (by decide) (by simp [seqIndex?]) rfl h
theorem tupGet1 {x : PT} {tk : Tok} {Q : Value → Shared → Prop} (ho : s.heap.get? x.a = some (tupO [.str x.f x.tf, .str x.s x.ts])) (h : Q (.str x.s x.ts) s) : wpAny (model prog w) A (getItem (.ref x.a) (.int 1 tk)) Q E s :=
  PyProof.Rows.getItem_tuple (j := 1) ⟨_, ho, rfl, _, rfl⟩ (by decide) (by decide) (by simp [seqIndex?]) rfl h
noncomputable abbrev fs (ps : List PT) : List (Str × Str) := ps.map fun x => (x.f, x.s)

theorem freshI {P : Params} {h : Heap} (F : Fr h₀ L h m) (N : News h₀ L h (PL P pg st ++ rest)) :
    (∀ q ∈ PL P pg st ++ rest, q.1 ≠ h.objs.size) ∧ h.objs.size ∉ muts pg ∧ h.objs.size ≠ L ∧ h₀.get? h.objs.size = none := by
  have l : ∀ q ∈ PL P pg st ++ rest, q.1 < h.objs.size := fun q hq => Heap.lt_size (N q hq).1
  refine ⟨fun q hq => Nat.ne_of_lt (l q hq), ?_, Nat.ne_of_gt F.ns.lt, ?_⟩
  · intro hm
    simp only [muts, List.mem_cons, List.not_mem_nil, or_false] at hm
    rcases hm with e | e | e | e | e
    · exact Nat.lt_irrefl _ (Nat.lt_of_lt_of_le (l _ mem_t1) (Nat.le_of_eq e))
    · exact Nat.lt_irrefl _ (Nat.lt_of_lt_of_le (l _ mem_t2) (Nat.le_of_eq e))
    · exact Nat.lt_irrefl _ (Nat.lt_of_lt_of_le (l _ mem_acc) (Nat.le_of_eq e))
    · exact Nat.lt_irrefl _ (Nat.lt_of_lt_of_le (l _ mem_ad) (Nat.le_of_eq e))
    · exact Nat.lt_irrefl _ (Nat.lt_of_lt_of_le (l _ mem_lns) (Nat.le_of_eq e))
  · cases e : h₀.get? h.objs.size with
    | none => rfl
    | some o => exact absurd (Heap.lt_size (F.keep _ _ e)) (Nat.lt_irrefl _)
theorem pushLed {P : Params} {h : Heap} (o : Obj) (F : Fr h₀ L h m) (N : News h₀ L h (PL P pg st ++ rest)) : Fr h₀ L (h.push o) m ∧ News h₀ L (h.push o) (PL P pg st ++ rest) :=
  ⟨F.push o, N.grown fun _ _ e => Heap.get?_push_of_some _ e⟩

theorem accItem {value slice : Expr} {i : Int} {ti : Tok} {x : PT} {Q : Value → Shared → Prop} (F : Fr h₀ L s.heap m) (X₀ : (hd.heap_39 w.params).In h₀) (N : News h₀ L s.heap (PL w.params pg st ++ rest))
    (h0 : 0 ≤ i) (hi : i ≤ 100000) (hx : st.parts[i.toNat]? = some x) (hs : subscripted slice false (.ref pg.acc) (.int i ti) = operate [.ref pg.acc, .int i ti] (getItem (.ref pg.acc) (.int i ti))) (h : Q (.ref x.a) s) :
    wpAny (model prog w) A (subscriptTail value slice (.ref pg.acc) (.int i ti)) Q E s := by
  have I := instAcc N
  unfold subscriptTail getitemInPython specialOf
  refine wpAny_bind (wpAny_bind (wpAny_bind (I.type.here ((looks_findIn (Kat F X₀) (r := some (.builtin "list.__getitem__")) (by k_is)).here ?_))))
  dsimp only
  refine wpAny_pure ?_
  rw [hs]
  refine wpAny_bind (wpAny_operating (accGetInt F X₀ N h0 hi hx ?_))
  exact wpAny_bind (wpAny_letTemporaryGo (wpAny_pure h))
theorem tupItem {value slice : Expr} {k : Int} {tk : Tok} {x : PT} {v : Value} {Q : Value → Shared → Prop} (ho : s.heap.get? x.a = some (tupO [.str x.f x.tf, .str x.s x.ts]))
    (hk : (k = 0 ∧ v = .str x.f x.tf) ∨ (k = 1 ∧ v = .str x.s x.ts)) (hs : subscripted slice false (.ref x.a) (.int k tk) = operate [.ref x.a, .int k tk] (getItem (.ref x.a) (.int k tk))) (h : Q v s) :
    wpAny (model prog w) A (subscriptTail value slice (.ref x.a) (.int k tk)) Q E s := by
  refine subscriptTail_builtinR (x := v) (T := "tuple") ⟨_, ho, rfl⟩ slot_tuple_getitem.lookup ?_ hs
  rcases hk with ⟨rfl, rfl⟩ | ⟨rfl, rfl⟩
  · exact tupGet0 ho ⟨rfl, h⟩
  · exact tupGet1 ho ⟨rfl, h⟩

theorem lenBne (a : Str) : ((a.length : Int) != 0) = !a.cps.isEmpty := by
  have e : a.length = a.cps.size := rfl
  rw [e]
  cases h : a.cps.isEmpty
  · have : a.cps.size ≠ 0 := by
      intro h2; rw [Array.isEmpty, h2] at h; simp at h
    rw [Bool.not_false, bne_iff_ne]; lia
  · have : a.cps.size = 0 := by simpa [Array.isEmpty] using h
    simp [this]
theorem firstOf {a : Str} (h : a.cps.isEmpty = false) : ∃ c, a.cps[0]? = some c ∧ (seqIndex? 0 a.length).bind (a.cps[·]?) = some c := by
  have hs : 0 < a.cps.size := by
    rcases Nat.eq_zero_or_pos a.cps.size with h2 | h2
    · rw [Array.isEmpty, h2] at h; simp at h
    · exact h2
  refine ⟨a.cps[0], Array.getElem?_eq_getElem hs, ?_⟩
  have e : a.length = a.cps.size := rfl
  have : seqIndex? 0 a.length = some 0 := by
    unfold seqIndex?
    rw [e, if_neg (by decide : ¬ (0 : Int) < 0)]
    have h3 : (0 : Int) < (a.cps.size : Int) := by lia
    simp only [Int.le_refl, h3, decide_true, Bool.and_self, if_true, Int.toNat_zero]
  rw [this]
  exact Array.getElem?_eq_getElem hs
theorem lastOf {a : Str} (h : a.cps.isEmpty = false) : ∃ c, a.cps[a.cps.size - 1]? = some c ∧ (seqIndex? (-1) a.length).bind (a.cps[·]?) = some c := by
  have hs : 0 < a.cps.size := by
    rcases Nat.eq_zero_or_pos a.cps.size with h2 | h2
    · rw [Array.isEmpty, h2] at h; simp at h
    · exact h2
  refine ⟨a.cps[a.cps.size - 1], Array.getElem?_eq_getElem (by omega), ?_⟩
  have e : a.length = a.cps.size := rfl
  have h1 : (0 ≤ (-1 : Int) + (a.cps.size : Int)) ∧ (-1 : Int) + (a.cps.size : Int) < (a.cps.size : Int) := by lia
  have h2 : ((-1 : Int) + (a.cps.size : Int)).toNat = a.cps.size - 1 := m1_nat _
  have : seqIndex? (-1) a.length = some (a.cps.size - 1) := by
    unfold seqIndex?
    rw [e, if_pos (by decide : (-1 : Int) < 0)]
    simp only [h1.1, h1.2, decide_true, Bool.and_self, if_true, h2]
  rw [this]
  exact Array.getElem?_eq_getElem (by omega)

theorem strItem {value slice : Expr} {a : Str} {ta tk : Tok} {k : Int} {c : Nat} {Q : Value → Shared → Prop} (hk : k = 0 ∨ k = -1) (hc : (seqIndex? k a.length).bind (a.cps[·]?) = some c)
    (hs : subscripted slice false (.str a ta) (.int k tk) = operate [.str a ta, .int k tk] (getItem (.str a ta) (.int k tk))) (hl : ∀ r, letTemporaryGo value (.str a ta) r = pure ())
    (h : Q (.str ⟨#[c]⟩ s.toks) { s with toks := s.toks + 1 }) : wpAny (model prog w) A (subscriptTail value slice (.str a ta) (.int k tk)) Q E s := by
  refine subscriptTail_builtin (T := "str") (typeIs_str _ _ _) F.slot_str_getitem.lookup (P.getItem_str ?_ hc h) hs hl
  rcases hk with rfl | rfl <;> decide

theorem strBeq (a b : Nat) : ((⟨#[a]⟩ : Str) == ⟨#[b]⟩) = (a == b) := by
  rw [Bool.eq_iff_iff, beq_iff_eq, beq_iff_eq]
  constructor
  · intro h
    have := congrArg Str.cps h
    simpa using this
  · rintro rfl; rfl

theorem nameIf1 {x y : Str} {u v : Value} {r : Option Value} (hne : y ≠ x) (h : r = some v) : (if y = x then some u else r) = some v := (if_neg hne).trans h

theorem lenN_fs (ps : List PT) : lenN ps = lenF (fs ps) := by simp [lenN, lenF, fs]; rfl
theorem strOf_fs (ps : List PT) : strOf ps = strF (fs ps) := by simp [strOf, strF, fs]; rfl
noncomputable def shOf (st : ST) : Sh := ⟨fs st.parts, st.init, st.lines.map (·.1)⟩

end
end

section
open PySem PySem.W PySem.Calls PyProof.Rows
section
variable {prog : Program} {w : World} {A : Around} {E : Value → Shared → Prop} {s : Shared} {h₀ : Heap} {L : Addr} {m : Str → Option Value} {pg : PG} {st : ST} {rest : List (Addr × Obj)} {p : Program} {loose : List Str} {mg mb : Str → Option Value}
theorem regL_B26 : True := by
  k_with "eval Name" => (k_dflt (((with_reducible apply nameE_L); (case hx => rfl); (case hk => rfl); (case hd => decide); (case F => assumption); (case hv => (try dsimp only); repeat' first | (with_reducible assumption) | (with_reducible exact if_pos rfl) | (refine' nameIf1 (by decide) ?_)))))
  k_with "call ref" => (try dsimp only [List.append_nil, List.nil_append, List.cons_append]); ((with_reducible apply count_C); (case hP => assumption); (case X₀ => assumption); (case T => assumption); (case F => assumption); (case N => assumption); (case hr => assumption); (case hA => exact Room.deep (by assumption) (by decide)); intro _ _ _ _ _; k_sweep)
  k_with "execs cons" => (try (k_here; k_gentoks)); (try ((fail_if_success (goal_lacks PySem.W.envX)); first | ((with_reducible refine seal_envA ?_); intro e_q A_q) | ((with_reducible refine seal_env ?_); intro e_q))); first | ((goal_lacks Mine.Sealed); (try ((goal_lacks Mine.SealedB); (with_reducible refine body_seal ?_); intro KB_q EB_q hB_q hE_q)); (with_reducible refine execs_seal ?_); intro K_q hK_q; (try dsimp only)) | ((with_reducible refine wpAny_execs_cons ?_); (try dsimp only))
  k_with "nm" => (try dsimp only); repeat' first | (with_reducible assumption) | (with_reducible exact if_pos rfl) | (refine' nameIf1 (by decide) ?_)
  trivial
noncomputable def cutAt (pg : PG) (ps : List PT) : Option Nat := outerFind (fs ps) pg.sch.cps.toList
theorem append_C {Q : Value → Shared → Prop} {f str : Str} {tf ts : Tok} (hP : PO prog)
   (X₀ : (hd.heap_39 w.params).In h₀) (T : TopRead p loose mg mb h₀) (B : BM h₀ mg) (F : Fr h₀ L s.heap m) (N : News h₀ L s.heap (PL w.params pg st ++ rest)) (hr : Off pg rest) (hA : Room A 14) (hB : AllBare s.gens) (hO : Ok st) (hz : st.parts.length < 1000)
   (hf : f.length ≤ 1000) (hs : str.length ≤ 1000)
   (hasc : pg.sch.cps.all (· < 128) = true) (hcut : pg.maxlen < st.init + lenF (fs st.parts ++ [(f, str)]) → (outerFind (fs st.parts ++ [(f, str)]) pg.sch.cps.toList).isSome = true)
   (h : ∀ h' g' st' tk, Fr h₀ L h' m → News h₀ L h' (PL w.params pg st' ++ rest) → AllBare g' → shOf st' = stepA pg.sch pg.maxlen (shOf st) f str → Q .none { s with heap := h', gens := g', toks := tk }) :
   wpAny (model prog w) A (call (.ref 108) [.ref pg.page, .str f tf, .str str ts]) Q E s := by
  refine wpAny_call ?_
  refine' enter2 (binds := [("self", .ref pg.page), ("fws", .str f tf), ("string", .str str ts)]) X₀ T B F N (hA.lt (by decide)) ?_
  clear X₀ T B F N
  intro g L' h' F' N' X' T' B' l1
  have hself : (fun y => List.lookup y ([("self", .ref pg.page), ("fws", .str f tf), ("string", .str str ts)] : List (Str × Value)).reverse) ("self" : Str) = some (.ref pg.page) := rfl
  have hfws : (fun y => List.lookup y ([("self", .ref pg.page), ("fws", .str f tf), ("string", .str str ts)] : List (Str × Value)).reverse) ("fws" : Str) = some (.str f tf) := rfl
  have hstr : (fun y => List.lookup y ([("self", .ref pg.page), ("fws", .str f tf), ("string", .str str ts)] : List (Str × Value)).reverse) ("string" : Str) = some (.str str ts) := rfl
  generalize (fun y => List.lookup y ([("self", .ref pg.page), ("fws", .str f tf), ("string", .str str ts)] : List (Str × Value)).reverse) = m0 at F' hself hfws hstr
  iterate 14 walk1
  all_goals (try walk_at "us")
  refine push_C X' T' F' N' hr (Room.deep hA (by decide)) hz fun a h1 ne1 tk1 F1 N1 => ?_
  clear F' N'
  have hO2 : Ok { st with parts := st.parts ++ [⟨a, f, tf, str, ts⟩], ne := ne1 } := ⟨fun y hy => by
    rcases List.mem_append.mp hy with hy | hy
    · exact hO.small y hy
    · rw [List.mem_singleton.mp hy]; exact ⟨hf, hs⟩, by rw [List.length_append, List.length_singleton]; exact hz, hO.i0, hO.i1, hO.lns⟩
  generalize hps : st.parts ++ [⟨a, f, tf, str, ts⟩] = ps at N1 hO2
  have efs : fs ps = fs st.parts ++ [(f, str)] := by rw [← hps]; simp [fs]
  clear hO
  have hob : ∃ n, ps.length = n + 1 := ⟨st.parts.length, by rw [← hps]; simp⟩
  refine Exists.elim hob fun n hn => ?_
  clear hob
  have en : (ps.length : Int) - 1 = (n : Int) := by lia
  have hn1 : n ≤ 1000 := by have := hO2.few; dsimp only at this; lia
  iterate 18 walk1
  all_goals (try walk_at "us")
  · rename_i h2 g2 t12 t2 tk2 F2 N2 G2 hov
    dsimp only at N2 hov
    walk1
    all_goals (try walk_at "us")
    refine wpAny_For ?_
    iterate 3 walk1
    all_goals (try walk_at "us")
    refine an4 (freshI F2 N2) fun i1 i2 i3 i4 => ?_
    refine an2 (pushLed { cls := .type "str_ascii_iterator", data := .fields #[.str pg.sch (pg.t 8), .int 0 0] } F2 N2) fun F3 N3 => ?_
    refine wpAny_pyIter_ascii hasc ?_
    refine loopW (x := "ch") (h₀ := g) (st := ⟨ps, ne1, st.init, st.ti, st.lines, st.le, t12, st.t2⟩) (s := { heap := h2, gens := g2, drawn := s.drawn, toks := tk, os := s.os }) (fun m' => m' "self" = some (.ref pg.page))
      (fun j => match pg.sch.cps[j]? with | some c => (innerFind c (fs ps) ((fs ps).length - 1)).isSome | none => false)
      (fun j m' => ∃ c k tt, pg.sch.cps[j]? = some c ∧ innerFind c (fs ps) ((fs ps).length - 1) = some k ∧ m' "i" = some (.int k tt))
      (Walks.strAscii ?hh _ pg.sch (pg.t 8)) ?live ?k1 ?k2 ?i1 ?i2 ?i3 ?i4 hr ?set ?step ?hB ?hE _ 0 _ _ m0 rfl (Nat.zero_le _) (fun j hj => absurd hj (Nat.not_lt_zero _)) ?st ?F ?N ?inv
    case hh => exact hA.handled
    case live => rintro i h ⟨o, ho, _⟩; exact ⟨o, ho⟩
    case k1 => rfl
    case k2 => rfl
    case i1 => exact i1
    case i2 => exact i2
    case i3 => exact i3
    case i4 => exact i4
    case st => exact ⟨_, Heap.get?_push_size _ rfl, rfl, rfl⟩
    case F => exact F3
    case N => exact N3
    case inv => exact hself
    case set => intro m' v hm; exact (if_neg (by decide)).trans hm
    · intro j v s1 m1 o hj hv F4 hm N4 hr4 hg
      refine ex2 hv fun c u hx => an2 hx fun hc zr1 => ?_
      (try clear hv)
      subst zr1
      have hch : (fun y => if y = ("ch" : Str) then some (Value.str ⟨#[c]⟩ u) else m1 y) ("ch" : Str) = some (.str ⟨#[c]⟩ u) := if_pos rfl
      replace F4 : Fr g L' s1.heap (fun y => if y = ("ch" : Str) then some (Value.str ⟨#[c]⟩ u) else m1 y) := F4
      replace N4 : News g L' s1.heap (PL w.params pg ⟨ps, ne1, st.init, st.ti, st.lines, st.le, t12, st.t2⟩ ++ (h2.objs.size, o) :: rest) := N4
      generalize (fun y => if y = ("ch" : Str) then some (Value.str ⟨#[c]⟩ u) else m1 y) = m2 at F4 hm hch
      clear F2 N2 F3 N3 hself hfws hstr
      walk1
      all_goals (try walk_at "us")
      refine wpAny_For ?_
      iterate 21 walk1
      all_goals (try walk_at "us")
      rename_i h5 t5 tk5 F5 N5
      rw [show ((({ parts := ps, ne := ne1, init := st.init, ti := st.ti, lines := st.lines, le := st.le, t1 := t12, t2 := st.t2 } : ST).parts.length : Nat) : Int) - 1 = (n : Int) from en]
      refine call_range_3 (by decide) ?_ (Or.inl (PyProof.noPylong_small (by decide)))
      have P6 := fun o => pushLed o F5 N5
      refine wpAny_pyIter_range (Heap.get?_push_size _ rfl) (smallDown n hn1) ?_
      have P7 := fun o o' => pushLed o' (P6 o).1 (P6 o).2
      have P8 := fun o => freshI (P6 o).1 (P6 o).2
      refine loopW (x := "i") (h₀ := g) (st := ⟨ps, ne1, st.init, st.ti, st.lines, st.le, t12, st.t2⟩) (rest := (h2.objs.size, o) :: rest) (s := s1) (fun m' => m' "self" = some (.ref pg.page) ∧ m' "ch" = some (.str ⟨#[c]⟩ u))
        (fun k => hitAt c (fs ps) (n - k)) (fun k m' => ∃ tt, m' "i" = some (.int ((n - k : Nat) : Int) tt))
        (Walks.range ?hh2 _ (n : Int) (-1) n) ?live2 ?k12 ?k22 ?i12 ?i22 ?i32 ?i42 hr4 ?set2 ?step2 ?hB2 ?hE2 _ 0 _ _ m2 rfl (Nat.zero_le _) (fun j hj => absurd hj (Nat.not_lt_zero _)) ?st2 ?F2 ?N2 ?inv2
      case hh2 => exact hA.handled
      case live2 => exact fun i h st => ⟨_, st⟩
      case k12 => rfl
      case k22 => rfl
      case i12 => exact (P8 _).1
      case i22 => exact (P8 _).2.1
      case i32 => exact (P8 _).2.2.1
      case i42 => exact (P8 _).2.2.2
      case st2 => 
        show Heap.get? _ _ = some _
        rw [rangeDown n, show ((n : Int) + ((0 : Nat) : Int) * -1) = n from by lia, show ((n : Int) - ((0 : Nat) : Int)) = n from by lia]
        exact Heap.get?_push_size _ rfl
      case F2 => exact (P7 _ _).1
      case N2 => exact (P7 _ _).2
      case inv2 => exact ⟨hm, hch⟩
      case set2 => exact fun m' v hm => ⟨(if_neg (by decide)).trans hm.1, (if_neg (by decide)).trans hm.2⟩
      case step2 =>
        rintro k v s3 m3 o3 hk ⟨tt, rfl⟩ F9 hm9 N9 hr9 hg9
        generalize (_, o3) :: (_, o) :: rest = R2 at N9 hr9 ⊢
        rw [show (n : Int) + (k : Int) * (-1) = ((n - k : Nat) : Int) from by lia] at F9 hm9
        have hob : ∃ i, n - k = i + 1 := Nat.exists_eq_succ_of_ne_zero (Nat.sub_ne_zero_of_lt hk)
        refine Exists.elim hob fun i hi => ?_
        clear hob
        rw [hi] at F9 hm9 ⊢
        have hip : i + 1 < ps.length := by rw [hn, ← hi]; exact Nat.lt_succ_of_le (Nat.sub_le n k)
        have hob : ∃ y, ps[i + 1]? = some y := ⟨_, List.getElem?_eq_getElem hip⟩
        refine Exists.elim hob fun y hy => ?_
        clear hob
        have hob : ∃ z, ps[i]? = some z := ⟨_, List.getElem?_eq_getElem (Nat.lt_of_succ_lt hip)⟩
        refine Exists.elim hob fun z hz' => ?_
        clear hob
        have hit : hitAt c (fs ps) (i + 1) = ((Txt.isspace ⟨#[c]⟩ && (!y.f.cps.isEmpty && y.f.cps[0]? == some c)) || (!z.s.cps.isEmpty && z.s.cps[z.s.cps.size - 1]? == some c)) := by
          unfold hitAt fs
          rw [List.getElem?_map, hy, Nat.add_sub_cancel, List.getElem?_map, hz']
          rfl
        have hiv : (fun y => if y = ("i" : Str) then some (Value.int ((i + 1 : Nat) : Int) tt) else m3 y) ("i" : Str) = some (.int ((i + 1 : Nat) : Int) tt) := if_pos rfl
        generalize (fun y => if y = ("i" : Str) then some (Value.int ((i + 1 : Nat) : Int) tt) else m3 y) = m4 at F9 hm9 hiv
        refine an2 hm9 fun hm4 hch4 => ?_
        (try clear hm9)
        replace F9 : Fr g L' s3.heap m4 := F9
        clear F5 N5 P6 P7 P8
        replace N9 : News g L' s3.heap (PL w.params pg ⟨ps, ne1, st.init, st.ti, st.lines, st.le, t12, st.t2⟩ ++ R2) := N9
        have hyl := hO2.small y (List.mem_of_getElem? hy)
        have hzl := hO2.small z (List.mem_of_getElem? hz')
        have hyt : tup y ∈ PL w.params pg ⟨ps, ne1, st.init, st.ti, st.lines, st.le, t12, st.t2⟩ ++ R2 := mem_tup (List.mem_of_getElem? hy)
        have hzt : tup z ∈ PL w.params pg ⟨ps, ne1, st.init, st.ti, st.lines, st.le, t12, st.t2⟩ ++ R2 := mem_tup (List.mem_of_getElem? hz')
        refine body_seal ?_
        intro KB_q EB_q hB_q hE_q
        refine two_parts (P := fun s' => (Txt.isspace ⟨#[c]⟩ && (!y.f.cps.isEmpty && y.f.cps[0]? == some c)) = false ∧ ∃ hh tk mm, s' = { s3 with heap := hh, toks := tk } ∧ Fr g L' hh mm ∧ News g L' hh (PL w.params pg ⟨ps, ne1, st.init, st.ti, st.lines, st.le, t12, st.t2⟩ ++ R2) ∧ mm ("self" : Str) = some (.ref pg.page) ∧ mm ("ch" : Str) = some (.str ⟨#[c]⟩ u) ∧ mm ("i" : Str) = some (.int ((i + 1 : Nat) : Int) tt)) ?_ ?_
        · intro s' hs'
          refine an2 hs' fun hb hx => ex3 hx fun hh tk mm hx => an6 hx fun es Ft0 Nt0 i1 i2 i3 => ?_
          clear hs' hx F9 N9 hiv hm4 hch4 hyt hyl
          subst es
          iterate 11 walk1
          all_goals (try walk_at "us")
          rename Fr _ _ _ _ => Ft
          rename News _ _ _ _ => Nt
          refine accItem Ft X' Nt (pm1_nn i) (pm1_le (k := 100000) (Nat.le_trans (Nat.le_of_lt (Nat.lt_of_succ_lt hip)) (by rw [hn]; exact Nat.le_trans (Nat.succ_le_succ hn1) (by decide)))) (by rw [pm1_nat]; exact hz') (by with_unfolding_all rfl) ?_
          walk1
          all_goals (try walk_at "us")
          refine tupItem (Nt _ hzt).1 (.inr ⟨rfl, rfl⟩) (by with_unfolding_all rfl) ?_
          iterate 6 walk1
          all_goals (try walk_at "us")
          refine P.truthy_str (by lia) ?_
          rw [lenBne]
          cases hze : z.s.cps.isEmpty
          · refine Exists.elim (lastOf hze) fun c2 hx => an2 hx fun hc2 hc3 => ?_
            iterate 8 walk1
            all_goals (try walk_at "us")
            refine strItem (.inr rfl) hc3 (by with_unfolding_all rfl) (fun _ => by with_unfolding_all rfl) ?_
            iterate 2 walk1
            all_goals (try walk_at "us")
            rw [strBeq]
            cases hcc2 : (c2 == c)
            · repeat walk1
              all_goals (try walk_at "us")
              try dsimp only
              rename Fr _ _ _ _ => Fe
              rename News _ _ _ _ => Ne
              refine xi3 _ _ _ ⟨rfl, Fe, Ne, ⟨(by dsimp only; repeat' first | (with_reducible assumption) | (with_reducible exact if_pos rfl) | (refine' nameIf1 (by decide) ?_)), (by dsimp only; repeat' first | (with_reducible assumption) | (with_reducible exact if_pos rfl) | (refine' nameIf1 (by decide) ?_))⟩, .inl ⟨?_, .inl rfl⟩⟩
              rw [hit, hb, hze, hc2]; exact hcc2
            · repeat walk1
              all_goals (try walk_at "us")
              try dsimp only
              rename Fr _ _ _ _ => Fe
              rename News _ _ _ _ => Ne
              refine xi3 _ _ _ ⟨rfl, Fe, Ne, ⟨(by dsimp only; repeat' first | (with_reducible assumption) | (with_reducible exact if_pos rfl) | (refine' nameIf1 (by decide) ?_)), (by dsimp only; repeat' first | (with_reducible assumption) | (with_reducible exact if_pos rfl) | (refine' nameIf1 (by decide) ?_))⟩, .inr ⟨?_, rfl, ⟨tt, (by dsimp only; repeat' first | (with_reducible assumption) | (with_reducible exact if_pos rfl) | (refine' nameIf1 (by decide) ?_))⟩⟩⟩
              rw [hit, hb, hze, hc2]; exact hcc2
          · repeat walk1
            all_goals (try walk_at "us")
            try dsimp only
            rename Fr _ _ _ _ => Fe
            rename News _ _ _ _ => Ne
            refine xi3 _ _ _ ⟨rfl, Fe, Ne, ⟨(by dsimp only; repeat' first | (with_reducible assumption) | (with_reducible exact if_pos rfl) | (refine' nameIf1 (by decide) ?_)), (by dsimp only; repeat' first | (with_reducible assumption) | (with_reducible exact if_pos rfl) | (refine' nameIf1 (by decide) ?_))⟩, .inl ⟨?_, .inl rfl⟩⟩
            rw [hit, hb, hze]; rfl
        · intro K hnx hbk
          iterate 9 walk1
          all_goals (try walk_at "us")
          · iterate 8 walk1
            all_goals (try walk_at "us")
            refine accItem F9 X' N9 (Int.natCast_nonneg _) (Int.ofNat_le.mpr (Nat.le_trans (Nat.le_of_lt hip) (by rw [hn]; exact Nat.le_trans (Nat.succ_le_succ hn1) (by decide)))) (by rw [Int.toNat_natCast]; exact hy) (by with_unfolding_all rfl) ?_
            walk1
            all_goals (try walk_at "us")
            refine tupItem (N9 _ hyt).1 (.inl ⟨rfl, rfl⟩) (by with_unfolding_all rfl) ?_
            iterate 6 walk1
            all_goals (try walk_at "us")
            refine P.truthy_str (by lia) ?_
            rw [lenBne]
            cases hye : y.f.cps.isEmpty
            · refine Exists.elim (firstOf hye) fun c0 hx => an2 hx fun hc0 hc1 => ?_
              iterate 6 walk1
              all_goals (try walk_at "us")
              refine strItem (.inl rfl) hc1 (by with_unfolding_all rfl) (fun _ => by with_unfolding_all rfl) ?_
              iterate 2 walk1
              all_goals (try walk_at "us")
              rw [strBeq]
              cases hcc : (c0 == c)
              · have hb : (Txt.isspace ⟨#[c]⟩ && (!y.f.cps.isEmpty && y.f.cps[0]? == some c)) = false := by rw [hye, hc0]; simpa using fun _ => hcc
                repeat walk1
                rename Fr _ _ _ _ => Ft
                rename News _ _ _ _ => Nt
                exact hnx _ ⟨hb, xi3 _ _ _ ⟨rfl, Ft, Nt, by walk_at "nm", by walk_at "nm", by walk_at "nm"⟩⟩
              · have hb : (Txt.isspace ⟨#[c]⟩ && (!y.f.cps.isEmpty && y.f.cps[0]? == some c)) = true := by rw [hye, hc0]; simp only [beq_iff_eq] at hcc; subst hcc; simp; assumption
                repeat walk1
                refine hbk _ ?_
                walk_at "us"
                try dsimp only
                rename Fr _ _ _ _ => Fe
                rename News _ _ _ _ => Ne
                refine xi3 _ _ _ ⟨rfl, Fe, Ne, ⟨(by dsimp only; repeat' first | (with_reducible assumption) | (with_reducible exact if_pos rfl) | (refine' nameIf1 (by decide) ?_)), (by dsimp only; repeat' first | (with_reducible assumption) | (with_reducible exact if_pos rfl) | (refine' nameIf1 (by decide) ?_))⟩, .inr ⟨?_, rfl, ⟨tt, (by dsimp only; repeat' first | (with_reducible assumption) | (with_reducible exact if_pos rfl) | (refine' nameIf1 (by decide) ?_))⟩⟩⟩
                rw [hit, hb]; rfl
            · have hb : (Txt.isspace ⟨#[c]⟩ && (!y.f.cps.isEmpty && y.f.cps[0]? == some c)) = false := by rw [hye]; simp
              repeat walk1
              rename Fr _ _ _ _ => Ft
              rename News _ _ _ _ => Nt
              exact hnx _ ⟨hb, xi3 _ _ _ ⟨rfl, Ft, Nt, by walk_at "nm", by walk_at "nm", by walk_at "nm"⟩⟩
          · have hb : (Txt.isspace ⟨#[c]⟩ && (!y.f.cps.isEmpty && y.f.cps[0]? == some c)) = false := by
              rename_i hsp
              rw [hsp]; rfl
            walk1
            exact hnx _ ⟨hb, xi3 _ _ _ ⟨rfl, F9, N9, hm4, hch4, hiv⟩⟩
      case hB2 =>
        rintro k h9 tk9 m9 hk hhit hno F9 N9 ⟨hm9, hc9⟩ ⟨tt, hi9⟩
        have fl : (fs ps).length - 1 = n := by rw [List.length_map, hn]; rfl
        have hfd : innerFind c (fs ps) ((fs ps).length - 1) = some (n - k) := innerFind_of (Nat.sub_pos_of_lt hk) (by rw [fl]; exact Nat.sub_le n k) hhit fun i hi1 hi2 => by
          have := hno (n - i) (flip_lt hi1 (fl ▸ hi2))
          rwa [Nat.sub_sub_self (fl ▸ hi2)] at this
        try dsimp only
        repeat walk1
        all_goals (try walk_at "us")
        try dsimp only
        refine xi3 _ _ _ ⟨rfl, F9, N9, hm9, .inr ⟨?_, rfl, c, n - k, tt, hc, hfd, hi9⟩⟩
        try dsimp only
        rw [hc]
        try dsimp only
        rw [hfd]; rfl
      case hE2 =>
        rintro hno h9 tk9 m9 F9 N9 ⟨hm9, hc9⟩
        have fl : (fs ps).length - 1 = n := by rw [List.length_map, hn]; rfl
        have hfd : innerFind c (fs ps) ((fs ps).length - 1) = none := innerFind_none fun i hi1 hi2 => by
          have := hno (n - i) (Nat.sub_lt (Nat.lt_of_lt_of_le hi1 (fl ▸ hi2)) hi1)
          rwa [Nat.sub_sub_self (fl ▸ hi2)] at this
        repeat walk1
        all_goals (try walk_at "us")
        try dsimp only
        refine xi3 _ _ _ ⟨rfl, F9, N9, hm9, .inl ⟨?_, .inr rfl⟩⟩
        try dsimp only
        rw [hc]
        try dsimp only
        rw [hfd]; rfl
    · rintro j h9 tk9 m9 hj hhit hno F9 N9 hm9 ⟨c, k, tt, hc, hfd, hi9⟩
      have hof : outerFind (fs ps) pg.sch.cps.toList = some k := outerFind_of (j := j) (c := c) (by rw [← hc]; simp) hfd fun i hi d hd => by
        have := hno i hi
        try dsimp only at this
        rw [show pg.sch.cps[i]? = some d from by rw [← hd]; simp] at this
        try dsimp only at this
        cases e : innerFind d (fs ps) ((fs ps).length - 1) with
        | none => rfl
        | some v => rw [e] at this; cases this
      have hkl := outerFind_le hof
      have fl : (fs ps).length - 1 = n := by rw [List.length_map, hn]; rfl
      replace F9 : Fr g L' h9 m9 := F9
      replace N9 : News g L' h9 (PL w.params pg ⟨ps, ne1, st.init, st.ti, st.lines, st.le, t12, st.t2⟩ ++ rest) := N9
      clear F2 N2 F3 N3
      dsimp only
      iterate 12 walk1
      all_goals (try walk_at "us")
      try dsimp only [List.append_nil, List.nil_append, List.cons_append]
      refine popFrom_C (st := ⟨ps, ne1, st.init, st.ti, st.lines, st.le, t12, st.t2⟩) (i := (k : Int)) X' T' F9 N9 hr (Room.deep hA (by decide)) hO2.few (by lia) (by show (k : Int) ≤ (ps.length : Int); lia) fun l h10 ne10 tk10 F10 N10 hr10 => ?_
      clear F9 N9
      rw [Int.toNat_natCast] at N10 hr10
      dsimp only at N10 hr10
      have hO3 : Ok ⟨ps.take k, ne10, st.init, st.ti, st.lines, st.le, t12, st.t2⟩ := ⟨fun y hy => hO2.small y (List.mem_of_mem_take hy), by
        show (ps.take k).length ≤ 1000; rw [List.length_take]; exact Nat.le_trans (Nat.min_le_right _ _) hO2.few, hO2.i0, hO2.i1, hO2.lns⟩
      clear hO2
      iterate 33 walk1
      all_goals (try walk_at "us")
      rename Fr _ _ _ _ => F11
      rename News _ _ _ _ => N11
      rename AllBare _ => G11
      dsimp only at N11
      refine reset_C (new := ps.drop k) X' T' F11 N11 hr10 (Room.deep hA (by decide)) hO3.few (.head _) (fun y hy => .tail _ (List.mem_append_left _ (List.mem_map_of_mem hy))) (by rw [List.length_drop]; lia) fun h12 ne12 ti12 tk12 F12 N12 => ?_
      clear F11 N11
      repeat walk1
      all_goals (try walk_at "us")
      rename Fr _ _ _ _ => F13
      rename News _ _ _ _ => N13
      (try walk_at "us")
      refine h _ _ _ _ F13 (PL_keep (fun q hq => .tail _ (List.mem_append_right _ hq)) N13) G11 ?_
      rw [stepA, if_pos (by show pg.maxlen < st.init + (lenF (fs st.parts ++ [(f, str)]) : Int); rw [← efs, ← lenN_fs]; exact hov)]
      show _ = (match outerFind (fs st.parts ++ [(f, str)]) pg.sch.cps.toList with | some k => _ | none => _)
      rw [← efs, hof]
      have e1 : fs (ps.drop k) = (fs ps).drop k := by rw [fs, fs, List.map_drop]
      have e2 : strOf (ps.take k) = strF ((fs ps).take k) := by rw [strOf_fs, fs, fs, List.map_take]
      dsimp only [shOf]
      rw [List.map_append, List.map_cons, List.map_nil, e2, e1, efs]
    · intro hno h9 tk9 m9 F9 N9 hm9
      exfalso
      have h1 := hcut (by rw [← efs, ← lenN_fs]; exact hov)
      rw [← efs, outerFind_none fun i d hd => by
        have hd2 : pg.sch.cps[i]? = some d := by rw [← hd]; simp
        have := hno i (by
          rcases Nat.lt_or_ge i pg.sch.cps.size with h | h
          · exact h
          · rw [Array.getElem?_eq_none h] at hd2; cases hd2)
        try dsimp only at this
        rw [hd2] at this
        try dsimp only at this
        cases e : innerFind d (fs ps) ((fs ps).length - 1) with
        | none => rfl
        | some v => rw [e] at this; cases this] at h1
      cases h1
  · rename_i h2 g2 t12 t2 tk2 F2 N2 G2 hov
    dsimp only at N2 hov
    repeat walk1
    all_goals (try walk_at "us")
    rename Fr _ _ _ _ => F9
    rename News _ _ _ _ => N9
    (try walk_at "us")
    refine h _ _ _ _ F9 N9 G2 ?_
    rw [stepA, if_neg (by show ¬ pg.maxlen < st.init + (lenF (fs st.parts ++ [(f, str)]) : Int); rw [← efs, ← lenN_fs]; exact hov)]
    show (⟨fs ps, st.init, st.lines.map (·.1)⟩ : Sh) = ⟨fs st.parts ++ [(f, str)], st.init, st.lines.map (·.1)⟩
    rw [efs]

end
end

theorem regR_B26 : True := by
  k_with_none
  k_with "getMethod ref" => (k_dflt (first | ((with_reducible apply accMethB); (case F => assumption); (case X₀ => assumption); (case N => assumption); (case hf => k_is); (case ht => exact type_append); (case hs => rfl)) | ((with_reducible apply accMeth); (case F => assumption); (case X₀ => assumption); (case N => assumption); (case hf => k_is); (case ht => k_is); (case hs => rfl)) | ((with_reducible apply pageMeth); (case F => assumption); (case X₀ => assumption); (case N => assumption); (case hg => k_is); (case hf => k_is); (case ht => k_is); (case hl => rfl))))
  k_with "getAttr ref" => (first
    | ((with_reducible apply page_line); (case F => assumption); (case X₀ => assumption); (case N => assumption))
    | ((with_reducible apply page_lines); (case F => assumption); (case X₀ => assumption); (case N => assumption))
    | ((with_reducible apply page_maxlen); (case F => assumption); (case X₀ => assumption); (case N => assumption))
    | ((with_reducible apply page_splitchars); (case F => assumption); (case X₀ => assumption); (case N => assumption))
    | ((with_reducible apply acc_size); (case F => assumption); (case X₀ => assumption); (case N => assumption)))
  k_with "newTuple" => ((with_reducible apply newTupleP); (case hz => exact Nat.le_of_ble_eq_true rfl); (case F => assumption); (case N => assumption); (case hr => assumption); intro _ _ _ _ _; k_sweep)
  k_with "LeaveK" => (apply leaveK_; (case F' => assumption); (case N' => assumption); intro _ _)
  k_with "super" => (apply superNode; (case F => assumption); (case X₀ => assumption); (case N => assumption); (case T => assumption); (case hf => k_is); (case hp => exact rfl); (case hv => exact rfl); (case I => exact instAcc (by assumption)); (case hcode => k_is); (case hvs => exact rfl); (case hfile => exact PO.file (by assumption)); (case hcell => k_is); (case hD => k_is); (case hsub => k_is); (case hsuper => k_is); (case hat => rfl); (case hks => exact rfl); (case hkc => exact rfl); (case hka => exact rfl); (case hk => exact rfl); (case htop => exact PO.sup (by assumption)); (case hboot => boot_by_name))
  k_with "newList" => ((with_reducible apply newListP); (case hz => exact Nat.le_of_ble_eq_true rfl); (case F => assumption); (case N => assumption); (case hr => assumption); intro _ _ _ _ _; k_sweep)
  k_with "us" => ((first | (goal_lacks PySem.wpAny) | (fail_if_success (fail_if_success (with_reducible show Sealed _ _ _)))); (first | ((first | ((with_reducible apply unseal_next); (case hK => assumption)) | ((with_reducible apply unseal_ret); (case hK => assumption)) | ((with_reducible apply unseal_brk); (case hK => assumption)) | ((with_reducible apply unseal_cont); (case hK => assumption))); (try clear hK_q K_q)) | ((with_reducible apply unsealB); (case hB => assumption); (try clear hB_q hE_q KB_q EB_q))); (try walk_at "us"))
  k_with "Sealed" => (plain_pass; (walk_at "us"); walk1)
  k_with "SealedB" => (plain_pass; (walk_at "us"); walk1)
  k_with "execs cons" => (try (k_here; k_gentoks)); (try ((fail_if_success (goal_lacks PySem.W.envX)); first | ((with_reducible refine seal_envA ?_); intro e_q A_q) | ((with_reducible refine seal_env ?_); intro e_q))); first | ((goal_lacks Mine.Sealed); (with_reducible refine execs_seal ?_); intro K_q hK_q; (try dsimp only)) | ((with_reducible refine wpAny_execs_cons ?_); (try dsimp only))
  k_with "execs nil" => (try (k_here; k_gentoks)); refine wpAny_execs_nil ?_
  k_with "call builtin:len" => ((with_reducible apply accLen); (case X₀ => assumption); (case T => assumption); (case B => assumption); (case F => assumption); (case N => assumption); (case hr => assumption); (case hA => exact Room.deep (by assumption) (by decide)); (case hB => assumption); (case hO => first | assumption | (rename Ok _ => hO_q; exact Ok.cast hO_q rfl rfl rfl)); intro _ _ _ _ _ _ _ _; k_sweep)
  k_with "call type:str" => ((with_reducible apply accStr); (case X₀ => assumption); (case T => assumption); (case B => assumption); (case F => assumption); (case N => assumption); (case hr => assumption); (case hA => exact Room.deep (by assumption) (by decide)); (case hB => assumption); (case hO => first | assumption | (rename Ok _ => hO_q; exact Ok.cast hO_q rfl rfl rfl)); intro _ _ _ _ _ _ _ _; k_sweep)
  k_with "truthy ref" => ((with_reducible apply accTruthy); (case X₀ => assumption); (case T => assumption); (case B => assumption); (case F => assumption); (case N => assumption); (case hr => assumption); (case hA => exact Room.deep (by assumption) (by decide)); (case hB => assumption); (case hO => first | assumption | (rename Ok _ => hO_q; exact Ok.cast hO_q rfl rfl rfl)); intro _ _ _ _ _ _ _; k_sweep)
  k_with "getMethod ref" => (k_dflt (((with_reducible apply lnsMeth); (case N => assumption))))
  k_with "call builtin:list.append" => ((with_reducible apply lnsAppend); (case F => assumption); (case N => assumption); (case hr => assumption); (case hz => first | assumption | (rename Ok _ => hO_q; exact hO_q.lns)); intro _ _ _; k_sweep)
  trivial

section
open PySem PySem.W PySem.Calls PyProof.Rows
section
variable {prog : Program} {w : World} {A : Around} {E : Value → Shared → Prop} {s : Shared} {h₀ : Heap} {L : Addr} {m : Str → Option Value} {pg : PG} {st : ST} {rest : List (Addr × Obj)} {p : Program} {loose : List Str} {mg mb : Str → Option Value}
theorem lnew_kind : builtinKind "list.__new__" = some .builtinFn := by decide +kernel
theorem lnew_split : splitId "list.__new__" = some ("list", "__new__") := by decide +kernel
theorem lnew_args (a : Value) : argsOk "list.__new__" ⟨[.ref 195, a], []⟩ := by unfold argsOk; kernel_rfl
noncomputable abbrev listInst (dx : Addr) : Obj := { cls := .ref 195, dict := some dx, data := .seq #[] }
theorem made195 {M : Model} {h : Heap} (Xk : (hd.heap_39 w.params).In h) : Looks M h (Bind.madeBy (.ref 195)) (some "list.__new__") := by
  have hob : ∃ o, (hd.heap_39 w.params).lookup 195 = some o ∧ ∃ cd, o.data = .cls cd ∧ cd.mro = [.ref 195, .type "list", .type "object"] ∧ (o.slots.toList[4]?).join = some (.builtin "list.__new__") := ⟨_, by k_is, _, rfl, rfl, rfl⟩
  refine Exists.elim hob fun o hx => an2 hx fun ho hx => Exists.elim hx fun cd hx => an3 hx fun hd1 hm hs => ?_
  clear hob
  have hc : clsIn (hd.heap_39 w.params) 195 = some cd := by
    obtain ⟨oc, od, da, sl⟩ := o
    dsimp only at hd1; subst hd1
    unfold clsIn; rw [ho]
  have hmr : Looks M h (mroOf (.ref 195)) cd.mro := (looks_clsIn Xk hc).andThen .now
  intro A Q E s k q
  unfold Bind.madeBy
  refine wpAny_bind (hmr A _ E s k ?_)
  rw [hm, List.forIn_cons]
  refine wpAny_bind (wpAny_bind (wpAny_bind (wpAny_bind (wpAny_loadPart (k _ _ (Xk _ _ ho)) (wpAny_pure ?_)))))
  rw [← Array.getElem?_toList, hs]
  exact wpAny_pure (wpAny_pure (wpAny_pure q))
theorem base195 {M : Model} {h : Heap} (Xk : (hd.heap_39 w.params).In h) : Looks M h (Bind.staticBase (.ref 195)) (.ref 195) := by
  have hob : ∃ cd, clsIn (hd.heap_39 w.params) 195 = some cd ∧ cd.mro = [.ref 195, .type "list", .type "object"] := ⟨_, by k_is, rfl⟩
  refine Exists.elim hob fun cd hx => an2 hx fun hc hm => ?_
  clear hob
  have hmr : Looks M h (mroOf (.ref 195)) cd.mro := (looks_clsIn Xk hc).andThen .now
  intro A Q E s k q
  unfold Bind.staticBase
  refine wpAny_bind (hmr A _ E s k ?_)
  rw [hm, List.forIn_cons]
  exact wpAny_bind (wpAny_bind (wpAny_bind (made195 Xk A _ E s k (wpAny_pure (wpAny_pure (wpAny_pure q))))))
theorem isType195 {M : Model} {h : Heap} (Xk : (hd.heap_39 w.params).In h) : Looks M h (isType (.ref 195)) true := by
  have hob : ∃ o, (hd.heap_39 w.params).lookup 195 = some o ∧ ∃ cd, o.data = .cls cd := ⟨_, by k_is, _, rfl⟩
  refine Exists.elim hob fun o hx => an2 hx fun ho hx => Exists.elim hx fun cd hd1 => ?_
  clear hob
  intro A Q E s k q
  obtain ⟨hh, g, d, t, os⟩ := s
  exact ks_wpAny_isType_cls (k _ _ (Xk _ _ ho)) hd1 q

end
end

section
open PySem PySem.W PySem.Calls PyProof.Rows
section
variable {prog : Program} {w : World} {A : Around} {E : Value → Shared → Prop} {s : Shared} {h₀ : Heap} {L : Addr} {m : Str → Option Value} {pg : PG} {st : ST} {rest : List (Addr × Obj)} {p : Program} {loose : List Str} {mg mb : Str → Option Value}
theorem new195 {R : Result → Shared → Prop} {hh : Heap} {g : Array GenState} {d : Drawn} {t : Nat} {os : OsState} {a : Value} (Xk : (hd.heap_39 w.params).In hh)
    (hq : R (.ok (.ret (.ref (hh.objs.size + 1)))) ⟨(hh.push emptyDict).push (listInst hh.objs.size), g, d, t, os⟩) :
    codeAny (model prog w) A (.call (.builtin "list.__new__") ⟨[.ref 195, a], []⟩) R ⟨hh, g, d, t, os⟩ := by
  have L1 := isType195 (w := w) (M := model prog w) Xk
  have L2 : Looks (model prog w) hh (isSubtype (.ref 195) (.type "list")) true := looks_mroIn Xk (by rfl)
  have L3 := base195 (w := w) (M := model prog w) Xk
  have L4 := made195 (w := w) (M := model prog w) Xk
  have hob : ∃ o, (hd.heap_39 w.params).lookup 195 = some o ∧ ∃ cd, o.data = .cls cd ∧ cd.hasDel = false := ⟨_, by k_is, _, rfl, rfl⟩
  refine Exists.elim hob fun o hx => an2 hx fun ho hx => Exists.elim hx fun cd hx => an2 hx fun hd1 hdel => ?_
  clear hob
  refine codeAny_call_builtin_code (Code.quiet_builtin _ (by decide +kernel)) ?_
  have ha := lnew_args a
  unfold checkBuiltinCall
  rw [lnew_kind, lnew_split]
  dsimp only
  rw [if_pos (by decide)]
  refine wpAny_bind (L1.at ?_)
  simp only [Bool.not_true, Bool.false_eq_true, if_false]
  refine wpAny_bind (L2.at ?_)
  simp only [Bool.not_true, Bool.false_eq_true, if_false]
  refine wpAny_bind (L3.at ?_)
  refine wpAny_bind (L4.at ?_)
  simp only [bne_self_eq_false, Bool.false_eq_true, if_false]
  have fin : codeAny (model prog w) A (.builtin "list.__new__" ⟨[.ref 195, a], []⟩) R ⟨hh, g, d, t, os⟩ := by
    refine codeAny_builtin_stack F.entry_list_new rfl fun p st => ?_
    rw [Around.under_plainId F.plain_list_new _]
    simp only [owner_list_new]
    refine wpAny_bind (L1.at ?_)
    simp only [Bool.not_true, Bool.false_eq_true, if_false]
    refine wpAny_bind (L2.at ?_)
    simp only [Bool.not_true, Bool.false_eq_true, if_false]
    refine wpAny_bind (wpAny_pure ?_)
    rw [show typeHasDict (.ref 195) = true from rfl]
    simp only [Bool.not_true, Bool.false_eq_true, if_false]
    refine wpAny_bind (wpAny_newObj_type ?_)
    have hC := Xk _ _ ho
    show wpAny _ _ (newObj (.ref 195) (.seq #[]) (some hh.objs.size) >>= _) _ _ _
    unfold newObj
    refine wpAny_bind ?_
    dsimp only
    rw [if_neg (by decide)]
    unfold newObjAsIs classHasDel
    refine wpAny_bind (wpAny_alloc (wpAny_bind (wpAny_bind (wpAny_load (Heap.get?_push_of_some _ (Heap.get?_push_of_some _ hC)) ?_))))
    rw [hd1]
    refine wpAny_pure ?_
    rw [hdel]
    refine wpAny_pure (wpAny_pure ?_)
    show R _ _
    rw [Heap.size_push]
    exact hq
  cases hsig : Manifest.signature? "list.__new__" with
  | none => exact wpAny_pure fin
  | some sig =>
    simp only [argsOk, hsig] at ha
    show wpAny _ _ (Bind.checkArgs "list.__new__" sig ⟨[.ref 195, a], []⟩) _ _ _
    rw [show Bind.checkArgs "list.__new__" sig ⟨[.ref 195, a], []⟩ = pure () from ha]
    exact wpAny_pure fin

end
end

section
open PySem PySem.W PySem.Calls PyProof.Rows
section
variable {prog : Program} {w : World} {A : Around} {E : Value → Shared → Prop} {s : Shared} {h₀ : Heap} {L : Addr} {m : Str → Option Value} {pg : PG} {st : ST} {rest : List (Addr × Obj)} {p : Program} {loose : List Str} {mg mb : Str → Option Value}
theorem make195 {R : Result → Shared → Prop} {h : Heap} {g : Array GenState} {d : Drawn} {t : Nat} {os : OsState} {a : Value} (Xk : (hd.heap_39 w.params).In h)
    (hq : codeAny (model prog w) (A.under (.builtin "type.__call__" ⟨[.ref 195, a], []⟩)) (.call (.ref 132) ⟨[.ref (h.objs.size + 1), a], []⟩) (InitBack (h.objs.size + 1) R) ⟨(h.push emptyDict).push (listInst h.objs.size), g, d, t, os⟩) :
    codeAny (model prog w) A (.call (.ref 195) ⟨[a], []⟩) R ⟨h, g, d, t, os⟩ := by
  have call : Looks (model prog w) h (specialOf (.ref 195) "__call__") (some (.builtin "type.__call__")) := looks_specialIn Xk (by k_is)
  have typ : Looks (model prog w) h (isInstance (.ref 195) (.type "type")) true := looks_instIn Xk (by k_is)
  have self : Looks (model prog w) h (isSubtype (.ref 195) (.ref 195)) true := looks_mroIn Xk (by rfl)
  have hi : Looks (model prog w) h (typeLookup (.ref 195) "__init__") (some (.ref 132)) := looks_findIn Xk (by k_is)
  have hb : ∀ self, Looks (model prog w) h (bindSpecial (.ref 132) self) (.ref 132, [self]) := fun self => bind_fn Xk self (beq_iff_eq.mp (show isFn (hd.heap_39 w.params) (.ref 132) = true by k_is))
  have made := made195 (w := w) (M := model prog w) Xk
  have base := base195 (w := w) (M := model prog w) Xk
  have hob : ∃ oc od cd sl, (hd.heap_39 w.params).lookup 195 = some ⟨oc, od, .cls cd, sl⟩ ∧ cd.abstract = false ∧ cd.hasDel = false ∧ cd.mro.isEmpty = false := ⟨_, _, _, _, by k_is, rfl, rfl, rfl⟩
  refine ex4 hob fun oc od cd sl hx_q => an4 hx_q fun ho e1 e2 e4 => ?_
  clear hob
  have hC := Xk _ _ ho
  have hnew : Looks (model prog w) h (typeLookup (.ref 195) "__new__") (some (.builtin "list.__new__")) := looks_findIn Xk (by k_is)
  refine codeAny_of_tree ?_
  show wpAny _ _ (callAny (.ref 195) _) _ _ _
  refine nd_load hC ?_
  show wpAny _ _ (callAny.viaDunder (.ref 195) _) _ _ _
  unfold callAny.viaDunder
  refine wpAny_bind (call.at ?_)
  dsimp only
  rw [tc_bind]
  refine wpAny_bind (wpAny_pure (wpAny_bind (wpAny_pure ?_)))
  refine wpAny_pure (a := Fin.again (.call (.builtin "type.__call__") ⟨[.ref 195, a], []⟩)) (And.intro rfl ?_)
  refine codeAny_call_builtin_at (Code.quiet_builtin _ (by decide +kernel)) entry_typeCall (check_slot tc_kind tc_split typ (tc_args _ _ _) ?_)
  unfold Builtin.«type.__call__»
  have hm : Looks (model prog w) h (mroOf (.ref 195)) cd.mro := ((Looks.ld (part := none) hC).andThen .now).andThen .now
  repeat (first | simp only [e4, Bool.false_eq_true, if_false] | with_reducible refine wpAny_call ?_ | lk)
  refine new195 Xk ?_
  have k : ∀ b o, h.get? b = some o → ((h.push emptyDict).push (listInst h.objs.size)).get? b = some o := fun b o e => Heap.get?_push_of_some _ (Heap.get?_push_of_some _ e)
  have hx : ((h.push emptyDict).push (listInst h.objs.size)).get? (h.objs.size + 1) = some (listInst h.objs.size) := by heap_get
  have t1 : Looks (model prog w) ((h.push emptyDict).push (listInst h.objs.size)) (typeOf (.ref (h.objs.size + 1))) (.ref 195) := (Looks.ld hx).andThen .now
  have s1 := self.keeps k
  have i1 := hi.keeps k
  have b1 := (hb (.ref (h.objs.size + 1))).keeps k
  unfold isInstance callSpecial? specialOf
  repeat (first | with_reducible refine wpAny_call ?_ | lk)
  refine codeAny_mono hq fun r s' z => ?_
  rcases r with e | (v | _ | _ | _) <;> first | exact z | exact z.elim | skip
  obtain ⟨rfl, z⟩ := z
  exact wpAny_pure (wpAny_pure z)

end
end

section
open PySem PySem.W PySem.Calls PyProof.Rows
section
variable {prog : Program} {w : World} {A : Around} {E : Value → Shared → Prop} {s : Shared} {h₀ : Heap} {L : Addr} {m : Str → Option Value} {pg : PG} {st : ST} {rest : List (Addr × Obj)} {p : Program} {loose : List Str} {mg mb : Str → Option Value}
open Builtin Builtin.ObjectAttr in
theorem set195N {x dx : Addr} {ox : Obj} {name : Str} {v : Value} {es' : List DictEntry} {n' : Nat} {Q : Unit → Shared → Prop} (X : (hd.heap_39 w.params).In s.heap) (I : W.InstAt s.heap x ox 195 (some (dictOf [] 0))) (hdx : ox.dict = some dx)
    (ht : takerIn (hd.heap_39 w.params) 195 name = some none) 
    (e : (putL name (PyData.keyHash w.params name) (.str name (s.toks + 1)) v [], putN name [] 0) = (es', n')) (hz : es'.length ≤ 1000)
    (h : ∀ h', Heap.SameBut dx s.heap h' → h'.get? dx = some (dictOf es' n') → Q () { s with heap := h', toks := s.toks + 2 }) :
    wpAny (model prog w) A (setAttr (.ref x) name v) Q E s := by
  refine an2 (Prod.mk.inj e) fun e1 e2 => ?_
  refine set_plain X I (by k_is) ?_
  have X1 : (hd.heap_39 w.params).In { s with toks := s.toks + 1 }.heap := X
  have I1 : W.InstAt { s with toks := s.toks + 1 }.heap x ox 195 (some (dictOf [] 0)) := I
  have SF := PySem.F.store_object
  have hob : ∃ cd, clsIn (hd.heap_39 w.params) 195 = some cd ∧ cd.mro = [.ref 195, .type "list", .type "object"] ∧ cd.hasDict = true := ⟨_, by k_is, rfl, rfl⟩
  refine Exists.elim hob fun cd hx => an2 hx fun hc hm => ?_
  clear hob
  have sub : Looks (model prog w) { s with toks := s.toks + 1 }.heap (isInstance (.ref x) (.type "object")) true := inst_sub X1 I1 (by rfl)
  refine codeAny_call_builtin SF.slot.plain SF.entry (@check_slot (model prog w) _ _ { s with toks := s.toks + 1 } "object.__setattr__" "object" "__setattr__" (.ref x) [.str name s.toks, v] [] _ SF.kind SF.split sub (SF.args (.ref x) (.str name s.toks) v) ?_)
  refine Exists.elim (Option.bind_eq_some_iff.mp ht) fun attr hx => an2 hx fun ha hr => ?_
  have hmr : Looks (model prog w) { s with toks := s.toks + 1 }.heap (mroOf (.ref 195)) cd.mro := (looks_clsIn X1 hc).andThen .now
  have L3 : Looks (model prog w) { s with toks := s.toks + 1 }.heap (storeTaker? attr) none := by
    cases attr with
    | none => exact .now
    | some a =>
      refine Exists.elim (Option.map_eq_some_iff.mp hr) fun b hx => an2 hx fun hb q => ?_
      refine (looks_takesIn X1 hb).andThen ?_
      cases b <;> first | exact .now | cases q
  rw [osa_eq, refuse_eq]
  refine wpAny_bind (wpAny_bind (I1.type.here (wpAny_bind (hmr.here ?_))))
  rw [hm.1, refuse195]
  refine wpAny_pure (wpAny_bind (I1.type.here (wpAny_bind ((looks_findIn X1 ha).here (wpAny_bind (L3.here ?_))))))
  obtain ⟨hx, hcl, hn, hdd⟩ := I1
  obtain ⟨oc, odi, oda, osl⟩ := ox
  dsimp only at hcl hdx hdd
  subst hcl hdx
  dsimp only at hdd
  refine wpAny_bind (wpAny_pure (wpAny_bind (wpAny_bind (wpAny_loadPart hx (wpAny_bind ((looks_clsIn X1 hc).here ?_))))))
  rw [hm.2]
  refine wpAny_pure (a := some dx) (wpAny_bind (wpAny_pure (wpAny_bind ?_)))
  unfold nsSet
  refine wpAny_bind (wpAny_bind (wpAny_askSetting (wpAny_pure (wpAny_bind (wpAny_mkText (wpAny_bind (wpAny_loadPart hdd ?_)))))))
  dsimp only
  have c : (!([] : List DictEntry).toArray.any (·.key.isStr name) && ([] : List DictEntry).toArray.any (·.refKey)) = false := by simp
  rw [aRefKeyMayBeTheName_at, c]
  have pe : Obj.putName name (PyData.keyHash w.params name) (.str name (s.toks + 1)) v (dictOf [] 0) = dictOf es' n' := by rw [putName_dict, e1, e2]
  have D' : (s.heap.update dx (Obj.putName name (PyData.keyHash w.params name) (.str name (s.toks + 1)) v)).get? dx = some (dictOf es' n') := by
    rw [← pe]; exact Heap.get?_update_self _ hdd (by rw [pe]; rfl)
  refine wpAny_updatePart hdd ?_
  refine wpAny_bind (wpAny_lookBehind D' (pastItsLine_dict (by rw [List.size_toArray, sizeLine_eq]; lia)) ?_)
  exact wpAny_pure (h _ (Heap.SameBut.update ..) D')

end
end

section
open PySem PySem.W PySem.Calls PyProof.Rows
section
variable {prog : Program} {w : World} {A : Around} {E : Value → Shared → Prop} {s : Shared} {h₀ : Heap} {L : Addr} {m : Str → Option Value} {pg : PG} {st : ST} {rest : List (Addr × Obj)} {p : Program} {loose : List Str} {mg mb : Str → Option Value}
theorem entry_linit : entryFor table "list.__init__" = some Builtin.«list.__init__» := entryFor_of_tree (by kernel_rfl)
theorem plain_linit : plainId "list.__init__" = true := by decide +kernel
theorem accInit {x dx : Addr} {n : Int} {tn : Tok} {news : List (Addr × Obj)} {R : Result → Shared → Prop} (hP : PO prog)
   (X₀ : (hd.heap_39 w.params).In h₀) (T : TopRead p loose mg mb h₀) (F : Fr h₀ L s.heap m) (N : News h₀ L s.heap ((x, listInst dx) :: (dx, dictOf [] 0) :: news)) (hl : ∀ q ∈ news, q.1 < dx) (hx : dx < x) (hA : Room A 6)
   (h : ∀ h' t0 ne' tk, Fr h₀ L h' m → News h₀ L h' ((x, accO [] ne' dx) :: (dx, dictOf [ent w.params "_initial_size" t0 (.int n tn)] 1) :: news) → R (.ok (.ret .none)) { s with heap := h', toks := tk }) :
   codeAny (model prog w) A (.call (.ref 132) ⟨[.ref x, .int n tn], []⟩) R s := by
  refine' enterS (binds := [("self", .ref x), ("initial_size", .int n tn)]) X₀ T F N (hA.lt (by decide)) ?_ (hbind := by first | exact BindsTo.of_eq rfl | exact binds_K (by k_in) rfl (by k_is) rfl rfl rfl)
  clear X₀ T F N
  intro g L' h' F' N' X' T' l1
  refine ks_wpAt_execs_cons (wpAt_of_wpAny ?_)
  iterate 3 walk1
  all_goals (try walk_at "us")
  refine set195N (Kat F' X') ⟨(N' _ (.head _)).1, rfl, rfl, (N' _ (.tail _ (.head _))).1⟩ rfl (by k_is) (es' := [ent w.params "_initial_size" _ (.int n tn)]) (n' := 1) (by rfl) (Nat.le_of_ble_eq_true rfl) fun h1 hs ho => ?_
  have nx := (N' _ (.tail _ (.head _))).2
  have ap : ∀ q ∈ (x, listInst dx) :: news, q.1 ≠ dx := fun q hq => by
    revert q hq
    refine all_cons ?_ fun q hq => ?_
    · exact Nat.ne_of_gt hx
    · exact Nat.ne_of_lt (hl q hq)
  have F1 : Fr g L' h1 _ := F'.change hs nx.1 nx.2
  have N1 : News g L' h1 ((x, listInst dx) :: (dx, _) :: news) := fun q hq => by
    revert q hq
    refine all_cons ?_ fun q hq => ?_
    · exact ⟨(hs.2 _ (ap _ (.head _))).trans (N' _ (.head _)).1, (N' _ (.head _)).2⟩
    · revert q hq
      refine all_cons ?_ fun q hq => ?_
      · exact ⟨ho, nx⟩
      · have := N' q (.tail _ (.tail _ hq))
        exact ⟨(hs.2 _ (ap _ (.tail _ hq))).trans this.1, this.2⟩
  clear F' N' hs ho
  dsimp only
  refine ks_wpAt_execs_cons (ks_wpAt_Expr_any (ks_wpAt_MethodCall ?_))
  have I1 : W.InstAt h1 x (listInst dx) 195 (some (dictOf [ent w.params "_initial_size" _ (.int n tn)] 1)) := ⟨(N1 _ (.head _)).1, rfl, rfl, (N1 _ (.tail _ (.head _))).1⟩
  refine' superNode (x := x) F1 X' N1 T' ?hv I1 ?_ ?hf ?hp ?hcode ?hvs hP.file ?hcell ?hD ?hsub ?hsuper ?hat ?c1 ?c2 ?c3 ?c4 hP.sup ?hboot
  case hf => k_is
  case hp => exact rfl
  case hv => exact rfl
  case hcode => k_is
  case hvs => exact rfl
  case c1 => exact rfl
  case c2 => exact rfl
  case c3 => exact rfl
  case c4 => exact rfl
  case hcell => k_is
  case hD => k_is
  case hsub => k_is
  case hsuper => k_is
  case hat => rfl
  case hboot => boot_by_name
  intro so h2 F2 N2 l2
  have Xh := Kat F2 X'
  have I2 : W.InstAt h2 x (listInst dx) 195 (some (dictOf [ent w.params "_initial_size" _ (.int n tn)] 1)) := ⟨(N2 _ (.tail _ (.head _))).1, rfl, rfl, (N2 _ (.tail _ (.tail _ (.head _)))).1⟩
  have hob : ∃ cd, clsIn (hd.heap_39 w.params) 195 = some cd ∧ cd.mro = [.ref 195, .type "list", .type "object"] := ⟨_, by k_is, rfl⟩
  refine Exists.elim hob fun cd hx_q => an2 hx_q fun hc hm => ?_
  clear hob
  have hne : x ≠ 195 := ks_ne Xh I2 hc
  have hm2 : Looks (model prog w) h2 (mroOf (.ref 195)) [.ref 195, .type "list", .type "object"] := hm ▸ ((looks_clsIn Xh hc).andThen .now)
  have hsub : Looks (model prog w) h2 (isInstance (.ref x) (.type "list")) true := inst_sub (s := ⟨h2, s.gens, s.drawn, 0, s.os⟩) (K := hd.heap_39 w.params) (C := 195) (T := "list") Xh I2 (by rfl)
  refine super_method (N2 _ (.head _)).1 (looks_opaque Xh (by k_is)) hm2 (by rfl) Xh (along_init _) type_init slot_wdget.lookup hne (by rfl) (fun hq => get_wd type_init own_init hsub hq) ?_
  have F3 := F2.push (boundO "method-wrapper" "list.__init__" x)
  have N3 := N2.push F2 (boundO "method-wrapper" "list.__init__" x)
  refine callWith_bound (N3 _ (.head _)).1 (.inr rfl) ?_
  refine call_bound (b := Builtin.«list.__init__») (N3 _ (.head _)).1 (.inr rfl) plain_linit entry_linit (fun hq => check_slotB (i := "list.__init__") (x := x) kind_init (sig_init x) hq) ?_
  have ho := (N3 _ (.tail _ (.tail _ (.head _)))).1
  unfold Builtin.«list.__init__»
  dsimp only
  rw [if_neg (by decide)]
  rw [if_neg (by decide)]
  unfold Builtin.List.listItems Builtin.List.listUpdate
  refine wpAny_bind (wpAny_bind (wpAny_seqItems ho rfl (wpAny_pure ?_)))
  refine wpAny_bind ?_
  show wpAny _ _ (updateSeq x fun _ => #[]) _ _ _
  have hd3 : x ≠ L' ∧ g.get? x = none := (N1 _ (.head _)).2
  have e : Obj.mapSeq (fun _ => #[]) (listInst dx) = accO [] (ep [] [] 0) dx := mapSeq_to (a := []) (b := []) rfl
  have hs4 := Heap.SameBut.update (h2.push (boundO "method-wrapper" "list.__init__" x)) x (Obj.mapSeq fun _ => #[])
  refine wpAny_updateSeq ho rfl ?_ (by simp) (by simp)
  have ho4 := Heap.get?_update_self (h := h2.push (boundO "method-wrapper" "list.__init__" x)) (Obj.mapSeq fun _ => #[]) ho (by rw [e]; rfl)
  rw [e] at ho4
  refine wpAny_bind (wpAny_letGo (wpAny_pure ⟨_, rfl, ?_⟩))
  have F4 := F3.change hs4 hd3.1 hd3.2
  have N4 : News g L' ((h2.push (boundO "method-wrapper" "list.__init__" x)).update x (Obj.mapSeq fun _ => #[])) ((x, accO [] (ep [] [] 0) dx) :: (dx, dictOf [ent w.params "_initial_size" _ (.int n tn)] 1) :: news) := fun q hq => by
    revert q hq
    refine all_cons ?_ fun q hq => ?_
    · exact ⟨ho4, hd3⟩
    · revert q hq
      refine all_cons ?_ fun q hq => ?_
      · have := N3 _ (.tail _ (.tail _ (.tail _ (.head _))))
        exact ⟨(hs4.2 _ (Nat.ne_of_lt hx)).trans this.1, this.2⟩
      · have := N3 q (.tail _ (.tail _ (.tail _ (.tail _ hq))))
        exact ⟨(hs4.2 _ (Nat.ne_of_lt (Nat.lt_trans (hl q hq) hx))).trans this.1, this.2⟩
  refine wpAt_of_wpAny (wpAny_execs_nil ?_)
  (try walk_at "us")
  exact leaveK_ F4 N4 fun F5 N5 => h _ _ _ _ F5 N5
theorem acc_new {n : Int} {tn : Tok} {news : List (Addr × Obj)} {Q : Value → Shared → Prop} (hP : PO prog)
   (X₀ : (hd.heap_39 w.params).In h₀) (T : TopRead p loose mg mb h₀) (F : Fr h₀ L s.heap m) (N : News h₀ L s.heap news) (hA : Room A 8)
   (h : ∀ x dx h' t0 ne' tk, Fr h₀ L h' m → News h₀ L h' ((x, accO [] ne' dx) :: (dx, dictOf [ent w.params "_initial_size" t0 (.int n tn)] 1) :: news) → (∀ q ∈ news, q.1 < dx) → dx < x → Q (.ref x) { s with heap := h', toks := tk }) :
   wpAny (model prog w) A (call (.ref 195) [.int n tn]) Q E s := by
  obtain ⟨hh, g, d, t, os⟩ := s
  refine wpAny_call (make195 (Kat F X₀) ?_)
  have hl : ∀ q ∈ news, q.1 < hh.objs.size := fun q hq => Heap.lt_size (N q hq).1
  have N1 := (N.push F emptyDict).push (F.push _) (listInst hh.objs.size)
  rw [Heap.size_push] at N1
  refine accInit (dx := hh.objs.size) hP X₀ T ((F.push _).push _) N1 hl (Nat.lt_succ_self _) ⟨hA.handled, ?_, ?_⟩ fun h' t0 ne' tk F' N' => ⟨rfl, h _ _ h' t0 ne' tk F' N' hl (Nat.lt_succ_self _)⟩
  · have := hA.depth
    show A.depth + 1 + 6 ≤ 900
    lia
  · have := hA.units
    show A.units + 1 + 50 * 6 ≤ 9000
    lia

end
end

section
open PySem PySem.W PySem.Calls PyProof.Rows
section
variable {prog : Program} {w : World} {A : Around} {E : Value → Shared → Prop} {s : Shared} {h₀ : Heap} {L : Addr} {m : Str → Option Value} {pg : PG} {st : ST} {rest : List (Addr × Obj)} {p : Program} {loose : List Str} {mg mb : Str → Option Value}
noncomputable def tokOf (a : List Tok) (k : Nat) : Tok := a.getD k 0
theorem to_PL {P : Params} {h : Heap} {x dx acc ad l : Addr} {ne le : Nat} {room width cwl : Int} {cws sch : Str} {t0 tr a1 a2 a3 a4 a5 a6 a7 a8 a9 a10 : Tok} {t1 t2 : Tb}
    (N : News h₀ L h ((acc, accO [] ne ad) :: (ad, dictOf [ent P "_initial_size" t0 (.int room tr)] 1) :: (l, listOf #[] le) :: (x, instObj 111 dx) :: (dx, dictOf [ent P "_maxlen" a1 (.int width a2), ent P "_continuation_ws" a3 (.str cws a4),
      ent P "_continuation_ws_len" a5 (.int cwl a6), ent P "_splitchars" a7 (.str sch a8), ent P "_lines" a9 (.ref l), ent P "_current_line" a10 (.ref acc)] 6) :: (157, X.tableObj t1.arr) :: (164, X.tableObj t2.arr) :: rest)) :
    News h₀ L h (PL P ⟨x, dx, acc, ad, l, width, cws, cwl, sch, tokOf [t0, a1, a2, a3, a4, a5, a6, a7, a8, a9, a10]⟩ ⟨[], ne, room, tr, [], le, t1, t2⟩ ++ rest) := News.sub N fun q hq => by
  rcases List.mem_append.mp hq with hq | hq
  · simp only [PL, List.mem_cons, List.map_nil, List.not_mem_nil, or_false] at hq
    rcases hq with rfl | rfl | rfl | rfl | rfl | rfl | rfl
    · exact .tail _ (.tail _ (.tail _ (.tail _ (.tail _ (.head _)))))
    · exact .tail _ (.tail _ (.tail _ (.tail _ (.tail _ (.tail _ (.head _))))))
    · exact .head _
    · exact .tail _ (.head _)
    · exact .tail _ (.tail _ (.head _))
    · exact .tail _ (.tail _ (.tail _ (.head _)))
    · exact .tail _ (.tail _ (.tail _ (.tail _ (.head _))))
  · exact .tail _ (.tail _ (.tail _ (.tail _ (.tail _ (.tail _ (.tail _ hq))))))
theorem regL_B32 : True := by
  k_with "call ref" => (try dsimp only [List.append_nil, List.nil_append, List.cons_append]); ((with_reducible apply acc_new); (case hP => assumption); (case X₀ => assumption); (case T => assumption); (case F => assumption); (case N => assumption); (case hA => exact Room.deep (by assumption) (by decide)); intro _ _ _ _ _ _ _ _ _ _; k_sweep)
  k_with "setAttr ref" => (k_dflt (((with_reducible apply set_dict); (case F => assumption); (case X₀ => assumption); (case N => assumption); (case I => k_inst); (case hd => exact rfl); (case hs => k_is); (case hp => k_is); (case ht => k_is); (case hh => k_is); (case hl => k_get); (case e => k_put); (case U => first | exact Upd.tail (by (first | (with_reducible assumption) | exact Nat.ne_of_gt (by assumption) | exact Nat.ne_of_gt (Nat.lt_trans (by assumption) (by assumption)))) (Upd.head (by assumption)) | exact Upd.tail (by (first | (with_reducible assumption) | exact Nat.ne_of_gt (by assumption) | exact Nat.ne_of_gt (Nat.lt_trans (by assumption) (by assumption)))) (Upd.tail (by (first | (with_reducible assumption) | exact Nat.ne_of_gt (by assumption) | exact Nat.ne_of_gt (Nat.lt_trans (by assumption) (by assumption)))) (Upd.head (by assumption))) | exact Upd.tail (by (first | (with_reducible assumption) | exact Nat.ne_of_gt (by assumption) | exact Nat.ne_of_gt (Nat.lt_trans (by assumption) (by assumption)))) (Upd.tail (by (first | (with_reducible assumption) | exact Nat.ne_of_gt (by assumption) | exact Nat.ne_of_gt (Nat.lt_trans (by assumption) (by assumption)))) (Upd.tail (by (first | (with_reducible assumption) | exact Nat.ne_of_gt (by assumption) | exact Nat.ne_of_gt (Nat.lt_trans (by assumption) (by assumption)))) (Upd.tail (by (first | (with_reducible assumption) | exact Nat.ne_of_gt (by assumption) | exact Nat.ne_of_gt (Nat.lt_trans (by assumption) (by assumption)))) (Upd.head (by assumption)))))); (case hz => exact Nat.le_of_ble_eq_true rfl); intro _ _ _; k_sweep)))
  k_with "execs cons" => (try (k_here; k_gentoks)); (try ((fail_if_success (goal_lacks PySem.W.envX)); first | ((with_reducible refine seal_envA ?_); intro e_q A_q) | ((with_reducible refine seal_env ?_); intro e_q))); first | ((goal_lacks Mine.Sealed); (try ((goal_lacks Mine.SealedB); (with_reducible refine body_seal ?_); intro KB_q EB_q hB_q hE_q)); (with_reducible refine execs_seal ?_); intro K_q hK_q; (try dsimp only)) | ((with_reducible refine wpAny_execs_cons ?_); (try dsimp only))
  trivial
theorem page_new {room width : Int} {tr tw tc tsch : Tok} {sch : Str} {t1 t2 : Tb} {Q : Value → Shared → Prop} (hP : PO prog)
   (X₀ : (hd.heap_39 w.params).In h₀) (T : TopRead p loose mg mb h₀) (F : Fr h₀ L s.heap m) (N : News h₀ L s.heap ((157, X.tableObj t1.arr) :: (164, X.tableObj t2.arr) :: rest)) (hA : Room A 14)
   (hoff : ∀ q ∈ rest, q.1 ≠ 157 ∧ q.1 ≠ 164)
   (h : ∀ pg st h' tk, Fr h₀ L h' m → News h₀ L h' (PL w.params pg st ++ rest) → Off pg rest → shOf st = ⟨[], room, []⟩ → pg.maxlen = width → pg.sch = sch → Q (.ref pg.page) { s with heap := h', toks := tk }) :
   wpAny (model prog w) A (call (.ref 111) [.int room tr, .int width tw, .str ("\t" : Str) tc, .str sch tsch]) Q E s := by
  refine W.call_cls F X₀ N (by k_is) (by k_is) (by k_is) fun x dx h1 F1 N1 l lt => ?_
  clear F N
  have hA2 : Room (A.under (.builtin "type.__call__" ⟨[.ref 111, .int room tr, .int width tw, .str ("\t" : Str) tc, .str sch tsch], []⟩)) 12 := ⟨hA.handled, by have := hA.depth; show A.depth + 1 + 12 ≤ 900; lia, by have := hA.units; show A.units + 1 + 50 * 12 ≤ 9000; lia⟩
  refine' enter (binds := [("self", .ref x), ("headerlen", .int room tr), ("maxlen", .int width tw), ("continuation_ws", .str ("\t" : Str) tc), ("splitchars", .str sch tsch)]) X₀ T F1 N1 (hA2.lt (by decide)) ?_
  clear X₀ T F1 N1
  intro g L' h' F' N' X' T' l1
  have hxd : x ≠ dx := Nat.ne_of_gt lt
  have hBd : ∀ p ∈ (157, X.tableObj t1.arr) :: (164, X.tableObj t2.arr) :: rest, p.1 ≠ dx := fun p hp => Nat.ne_of_lt (l p hp)
  iterate 30 walk1
  all_goals (try walk_at "us")
  rename News _ _ _ _ => Nn
  rename Fr _ _ _ _ => Fn
  have lnn := fun p hp => Heap.lt_size (Nn p hp).1
  refine newList_N Fn Nn (fun h2 F2 N2 => ?_) (by rw [sizeLine_eq]; exact Nat.le_of_ble_eq_true rfl)
  dsimp only at N2 lnn ⊢
  generalize hl2e : Array.size _ = l2 at N2 lnn ⊢
  clear Fn Nn
  walk1
  all_goals (try walk_at "us")
  have hl2 : l2 ≠ dx := News.ne N2 (.head _) (.tail _ (.tail _ (.head _))) (by intro e; have e1 := congrArg Obj.cls e; simp at e1)
  refine' set_dict ?k1 ?k2 ?k3 ?k4 ?k5 ?k6 ?k7 ?k8 ?k9 ?k10 ?k11 ?k12 ?k13 ?_
  case k1 => assumption
  case k2 => assumption
  case k3 => assumption
  case k4 => k_inst
  case k5 => exact rfl
  case k6 => k_is
  case k7 => k_is
  case k8 => k_is
  case k9 => k_is
  case k10 => k_get
  case k11 => k_put
  case k12 => exact Upd.tail hl2 (Upd.tail hxd (Upd.head hBd))
  case k13 => exact Nat.le_of_ble_eq_true rfl
  intro h3 F3 N3
  clear F2 N2
  iterate 9 walk1
  all_goals (try walk_at "us")
  refine acc_new hP X' T' F3 N3 (hA2.deep (by decide)) fun acc ad h4 t0 ne4 tk4 F4 N4 l4 lt4 => ?_
  have had : ad ≠ dx := Nat.ne_of_gt (l4 _ (.tail _ (.tail _ (.head _))))
  have hacc : acc ≠ dx := Nat.ne_of_gt (Nat.lt_trans (l4 _ (.tail _ (.tail _ (.head _)))) lt4)
  clear F3 N3
  walk1
  all_goals (try walk_at "us")
  refine' set_dict ?k1 ?k2 ?k3 ?k4 ?k5 ?k6 ?k7 ?k8 ?k9 ?k10 ?k11 ?k12 ?k13 ?_
  case k1 => assumption
  case k2 => assumption
  case k3 => assumption
  case k4 => k_inst
  case k5 => exact rfl
  case k6 => k_is
  case k7 => k_is
  case k8 => k_is
  case k9 => k_is
  case k10 => k_get
  case k11 => k_put
  case k12 => exact Upd.tail hacc (Upd.tail had (Upd.tail hl2 (Upd.tail hxd (Upd.head hBd))))
  case k13 => exact Nat.le_of_ble_eq_true rfl
  intro h5 F5 N5
  clear F4 N4
  repeat walk1
  all_goals (try walk_at "us")
  rename News _ _ _ _ => N9
  rename Fr _ _ _ _ => F9
  refine ⟨rfl, h _ _ _ _ F9 (to_PL N9) (fun q hq hm => ?_) rfl rfl rfl⟩
  have b1 := l4 q (.tail _ (.tail _ (.tail _ (.tail _ (.tail _ hq)))))
  have b2 := lnn q (.tail _ (.tail _ (.tail _ (.tail _ hq))))
  have b3 := hoff q hq
  simp only [muts, List.mem_cons, List.not_mem_nil, or_false] at hm
  rcases hm with e | e | e | e | e
  · exact b3.1 e
  · exact b3.2 e
  · exact Nat.lt_irrefl _ (Nat.lt_of_lt_of_le (Nat.lt_trans b1 lt4) (Nat.le_of_eq e.symm))
  · exact Nat.lt_irrefl _ (Nat.lt_of_lt_of_le b1 (Nat.le_of_eq e.symm))
  · exact Nat.lt_irrefl _ (Nat.lt_of_lt_of_le b2 (Nat.le_of_eq e.symm))

end
end

theorem regR_B32 : True := by
  k_with_none
  k_with "getMethod ref" => (k_dflt (first | ((with_reducible apply accMethB); (case F => assumption); (case X₀ => assumption); (case N => assumption); (case hf => k_is); (case ht => exact type_append); (case hs => rfl)) | ((with_reducible apply accMeth); (case F => assumption); (case X₀ => assumption); (case N => assumption); (case hf => k_is); (case ht => k_is); (case hs => rfl)) | ((with_reducible apply pageMeth); (case F => assumption); (case X₀ => assumption); (case N => assumption); (case hg => k_is); (case hf => k_is); (case ht => k_is); (case hl => rfl))))
  k_with "getAttr ref" => (first
    | ((with_reducible apply page_line); (case F => assumption); (case X₀ => assumption); (case N => assumption))
    | ((with_reducible apply page_lines); (case F => assumption); (case X₀ => assumption); (case N => assumption))
    | ((with_reducible apply page_maxlen); (case F => assumption); (case X₀ => assumption); (case N => assumption))
    | ((with_reducible apply page_splitchars); (case F => assumption); (case X₀ => assumption); (case N => assumption))
    | ((with_reducible apply acc_size); (case F => assumption); (case X₀ => assumption); (case N => assumption)))
  k_with "newTuple" => ((with_reducible apply newTupleP); (case hz => exact Nat.le_of_ble_eq_true rfl); (case F => assumption); (case N => assumption); (case hr => assumption); intro _ _ _ _ _; k_sweep)
  k_with "LeaveK" => (apply leaveK_; (case F' => assumption); (case N' => assumption); intro _ _)
  k_with "super" => (apply superNode; (case F => assumption); (case X₀ => assumption); (case N => assumption); (case T => assumption); (case hf => k_is); (case hp => exact rfl); (case hv => exact rfl); (case I => exact instAcc (by assumption)); (case hcode => k_is); (case hvs => exact rfl); (case hfile => exact PO.file (by assumption)); (case hcell => k_is); (case hD => k_is); (case hsub => k_is); (case hsuper => k_is); (case hat => rfl); (case hks => exact rfl); (case hkc => exact rfl); (case hka => exact rfl); (case hk => exact rfl); (case htop => exact PO.sup (by assumption)); (case hboot => boot_by_name))
  k_with "newList" => ((with_reducible apply newListP); (case hz => exact Nat.le_of_ble_eq_true rfl); (case F => assumption); (case N => assumption); (case hr => assumption); intro _ _ _ _ _; k_sweep)
  k_with "us" => ((first | (goal_lacks PySem.wpAny) | (fail_if_success (fail_if_success (with_reducible show Sealed _ _ _)))); (first | ((first | ((with_reducible apply unseal_next); (case hK => assumption)) | ((with_reducible apply unseal_ret); (case hK => assumption)) | ((with_reducible apply unseal_brk); (case hK => assumption)) | ((with_reducible apply unseal_cont); (case hK => assumption))); (try clear hK_q K_q)) | ((with_reducible apply unsealB); (case hB => assumption); (try clear hB_q hE_q KB_q EB_q))); (try walk_at "us"))
  k_with "Sealed" => (plain_pass; (walk_at "us"); walk1)
  k_with "SealedB" => (plain_pass; (walk_at "us"); walk1)
  k_with "execs cons" => (try (k_here; k_gentoks)); (try ((fail_if_success (goal_lacks PySem.W.envX)); first | ((with_reducible refine seal_envA ?_); intro e_q A_q) | ((with_reducible refine seal_env ?_); intro e_q))); first | ((goal_lacks Mine.Sealed); (with_reducible refine execs_seal ?_); intro K_q hK_q; (try dsimp only)) | ((with_reducible refine wpAny_execs_cons ?_); (try dsimp only))
  k_with "execs nil" => (try (k_here; k_gentoks)); refine wpAny_execs_nil ?_
  k_with "call builtin:len" => ((with_reducible apply accLen); (case X₀ => assumption); (case T => assumption); (case B => assumption); (case F => assumption); (case N => assumption); (case hr => assumption); (case hA => exact Room.deep (by assumption) (by decide)); (case hB => assumption); (case hO => first | assumption | (rename Ok _ => hO_q; exact Ok.cast hO_q rfl rfl rfl)); intro _ _ _ _ _ _ _ _; k_sweep)
  k_with "call type:str" => ((with_reducible apply accStr); (case X₀ => assumption); (case T => assumption); (case B => assumption); (case F => assumption); (case N => assumption); (case hr => assumption); (case hA => exact Room.deep (by assumption) (by decide)); (case hB => assumption); (case hO => first | assumption | (rename Ok _ => hO_q; exact Ok.cast hO_q rfl rfl rfl)); intro _ _ _ _ _ _ _ _; k_sweep)
  k_with "truthy ref" => ((with_reducible apply accTruthy); (case X₀ => assumption); (case T => assumption); (case B => assumption); (case F => assumption); (case N => assumption); (case hr => assumption); (case hA => exact Room.deep (by assumption) (by decide)); (case hB => assumption); (case hO => first | assumption | (rename Ok _ => hO_q; exact Ok.cast hO_q rfl rfl rfl)); intro _ _ _ _ _ _ _; k_sweep)
  k_with "getMethod ref" => (k_dflt (((with_reducible apply lnsMeth); (case N => assumption))))
  k_with "call builtin:list.append" => ((with_reducible apply lnsAppend); (case F => assumption); (case N => assumption); (case hr => assumption); (case hz => first | assumption | (rename Ok _ => hO_q; exact hO_q.lns)); intro _ _ _; k_sweep)
  trivial

section
open PySem PySem.W PySem.Calls PyProof.Rows
section
variable {prog : Program} {w : World} {A : Around} {E : Value → Shared → Prop} {s : Shared} {h₀ : Heap} {L : Addr} {m : Str → Option Value} {pg : PG} {st : ST} {rest : List (Addr × Obj)} {p : Program} {loose : List Str} {mg mb : Str → Option Value}
noncomputable def hexF (f n : Nat) : List UInt8 := Nat.rec (motive := fun _ => Nat → List UInt8) (fun _ => []) (fun _ r n => if n = 0 then [] else r (n / 16) ++ [(65 + n % 16).toUInt8]) f n
noncomputable def hexB (n : Nat) : List UInt8 := hexF n n
theorem hexF_s (f n : Nat) : hexF (f + 1) n = if n = 0 then [] else hexF f (n / 16) ++ [(65 + n % 16).toUInt8] := rfl
theorem hexF_0 (f : Nat) : hexF f 0 = [] := by cases f <;> rfl
theorem hexF_ge (f : Nat) : ∀ n g, n ≤ f → n ≤ g → hexF f n = hexF g n := by
  induction f with
  | zero => intro n g h _; rw [Nat.le_zero.mp h, hexF_0, hexF_0]
  | succ f ih =>
    intro n g h k
    cases g with
    | zero => rw [Nat.le_zero.mp k, hexF_0, hexF_0]
    | succ g =>
      rw [hexF_s, hexF_s]
      by_cases hn : n = 0
      · rw [if_pos hn, if_pos hn]
      · have hlt := Nat.div_lt_self (Nat.pos_of_ne_zero hn) (by decide : 1 < 16)
        rw [if_neg hn, if_neg hn, ih (n / 16) g (Nat.le_of_lt_succ (Nat.lt_of_lt_of_le hlt h)) (Nat.le_of_lt_succ (Nat.lt_of_lt_of_le hlt k))]
theorem hexB_eq (n : Nat) : hexB n = if n = 0 then [] else hexB (n / 16) ++ [(65 + n % 16).toUInt8] := by
  show hexF n n = if n = 0 then [] else hexF (n / 16) (n / 16) ++ _
  rw [hexF_ge n n (n + 1) (Nat.le_refl n) (Nat.le_succ n), hexF_s, hexF_ge n (n / 16) (n / 16) (Nat.div_le_self n 16) (Nat.le_refl _)]
theorem hexB_0 : hexB 0 = [] := rfl
theorem regL_B33 : True := by
  k_with "eval Name" => (k_dflt (((with_reducible apply nameE_L); (case hx => rfl); (case hk => rfl); (case hd => decide); (case F => assumption); (case hv => (try dsimp only); repeat' first | (with_reducible assumption) | (with_reducible exact if_pos rfl) | (refine' nameIf1 (by decide) ?_)))))
  trivial
theorem hexB_len : ∀ j n, n < 16 ^ j → (hexB n).length ≤ j
  | 0, n, h => by
    have : n = 0 := by simpa using h
    subst this; exact Nat.le_refl 0
  | j + 1, n, h => by
    rw [hexB_eq]
    split
    · simp
    · have := hexB_len j (n / 16) (by rw [Nat.pow_succ] at h; lia)
      simp; omega
theorem pick16 (k : Nat) : KBy.picked #[65, 66, 67, 68, 69, 70, 71, 72, 73, 74, 75, 76, 77, 78, 79, 80] (some ((k : Int).fmod 16)) (some ((k : Int).fmod 16 + 1)) = #[(65 + k % 16).toUInt8] := by
  have e : (k : Int).fmod 16 = ((k % 16 : Nat) : Int) := by rw [Int.fmod_eq_emod_of_nonneg _ (by decide)]; rfl
  rw [e]
  have h : ∀ d : Fin 16, KBy.picked #[65, 66, 67, 68, 69, 70, 71, 72, 73, 74, 75, 76, 77, 78, 79, 80] (some ((d.val : Nat) : Int)) (some (((d.val : Nat) : Int) + 1)) = #[(65 + d.val).toUInt8] := by decide +kernel
  (try walk_at "us")
  exact h ⟨k % 16, Nat.mod_lt _ (by decide)⟩
theorem int2ap_C {news : List (Addr × Obj)} {n : Int} {tn : Tok} {Q : Value → Shared → Prop}
   (X₀ : (hd.heap_39 w.params).In h₀) (T : TopRead p loose mg mb h₀) (F : Fr h₀ L s.heap m) (N : News h₀ L s.heap news) (hA : Room A 6) (hn : n.natAbs < 2 ^ 32)
   (h : ∀ h' t tk, Fr h₀ L h' m → News h₀ L h' news → Q (.bytes (hexB n.natAbs).toArray t) { s with heap := h', toks := tk }) :
   wpAny (model prog w) A (call (.ref 206) [.int n tn]) Q E s := by
  refine wpAny_call ?_
  refine' enter (binds := [("num", .int n tn)]) X₀ T F N (hA.lt (by decide)) ?_
  clear X₀ T F N
  intro g L' h' F' N' X' T' l1
  iterate 25 walk1
  all_goals (try walk_at "us")
  rename_i tk1 h1 F1 N1
  have ez : (if n < 0 then -n else n) = (n.natAbs : Int) := by split <;> omega
  rw [ez] at F1
  refine wpAny_While (codeAny_whileLoop (fun k s' => ∃ h' tk m' tnum bs tb ta, s' = { s with heap := h', toks := tk } ∧ Fr g L' h' m' ∧ News g L' h' news ∧ m' "num" = some (.int (k : Int) tnum) ∧ m' "val" = some (.bytes bs tb) ∧
    m' "AP" = some (.bytes #[65, 66, 67, 68, 69, 70, 71, 72, 73, 74, 75, 76, 77, 78, 79, 80] ta) ∧ k ≤ n.natAbs ∧ hexB n.natAbs = hexB k ++ bs.toList ∧ bs.size ≤ 1000) ?_ n.natAbs ?_)
  · rintro k s' ⟨h', tk, m', tnum, bs, tb, ta, rfl, F2, N2, e1, e2, e3, hk, hx, hz⟩
    iterate 3 walk1
    all_goals (try walk_at "us")
    by_cases hk0 : k = 0
    · subst hk0
      rw [if_neg (by simp)]
      repeat walk1
      all_goals (try walk_at "us")
      rename Fr _ _ _ _ => F9
      rename News _ _ _ _ => N9
      have eb : bs = (hexB n.natAbs).toArray := by rw [hx, hexB_0]; rfl
      rw [eb]
      (try walk_at "us")
      exact h _ _ _ F9 N9
    · rw [if_pos (by simpa using hk0)]
      iterate 10 walk1
      all_goals (try walk_at "us")
      refine divmod_N (b := 16) F2 N2 (by decide) (fun h4 F4 N4 => ?_) (Or.inl (PyProof.noPylong_small (by decide)))
      refine unpackN_ F4 N4 ⟨_, (N4 _ (.head _)).1, rfl, _, rfl⟩ hA.handled rfl rfl fun h5 F5 N5 => ?_
      iterate 21 walk1
      all_goals (try walk_at "us")
      rename Fr _ _ _ _ => F6
      rename News _ _ _ _ => N6
      refine KBc.slice_K F6 N6 rfl (.int _ _) (.int _ _) ?_ (fun h7 t7 k7 F7 N7 hp => ?_) (by with_unfolding_all rfl) (fun _ => by with_unfolding_all rfl)
      · decide
      clear F6 N6
      rw [pick16] at *
      walk1
      all_goals (try walk_at "us")
      refine KBa.add_K rfl rfl ?_ (fun t8 k8 _ => ?_)
      · have hz2 : bs.toList.length ≤ (hexB n.natAbs).length := by rw [hx, List.length_append]; lia
        have := hexB_len 8 n.natAbs (by omega)
        rw [KBw.ints_length, KBw.ints_length]
        show 1 + bs.size ≤ 16777216
        lia
      iterate 2 walk1
      all_goals (try walk_at "us")
      rename Fr _ _ _ _ => F9
      rename News _ _ _ _ => N9
      dsimp only
      have eq1 : (k : Int).fdiv 16 = ((k / 16 : Nat) : Int) := by rw [Int.fdiv_eq_ediv_of_nonneg _ (by decide)]; rfl
      rw [eq1] at F9
      refine ⟨k / 16, by lia, _, _, _, _, #[(65 + k % 16).toUInt8] ++ bs, _, _, rfl, F9, News.sub N9 (fun q hq => .tail _ hq), (if_neg (by decide)).trans ((if_neg (by decide)).trans (if_pos rfl)), if_pos rfl, (if_neg (by decide)).trans ((if_neg (by decide)).trans ((if_neg (by decide)).trans e3)), by lia, ?_, ?_⟩
      · rw [hx, hexB_eq k, if_neg hk0]; simp
      · have hz2 : bs.toList.length ≤ (hexB n.natAbs).length := by rw [hx, List.length_append]; lia
        have := hexB_len 8 n.natAbs (by omega)
        rw [Array.size_append]
        show 1 + bs.size ≤ 1000
        rw [Array.length_toList] at hz2
        lia
  · exact xi7 h1 _ _ _ (#[]) _ _ ⟨rfl, F1, N1, if_pos rfl, (if_neg (by decide)).trans ((if_neg (by decide)).trans (if_pos rfl)), (if_neg (by decide)).trans (if_pos rfl), Nat.le_refl _, by simp, by simp⟩

end
end

theorem regR_B33 : True := by
  k_with_none
  k_with "getMethod ref" => (k_dflt (first | ((with_reducible apply accMethB); (case F => assumption); (case X₀ => assumption); (case N => assumption); (case hf => k_is); (case ht => exact type_append); (case hs => rfl)) | ((with_reducible apply accMeth); (case F => assumption); (case X₀ => assumption); (case N => assumption); (case hf => k_is); (case ht => k_is); (case hs => rfl)) | ((with_reducible apply pageMeth); (case F => assumption); (case X₀ => assumption); (case N => assumption); (case hg => k_is); (case hf => k_is); (case ht => k_is); (case hl => rfl))))
  k_with "getAttr ref" => (first
    | ((with_reducible apply page_line); (case F => assumption); (case X₀ => assumption); (case N => assumption))
    | ((with_reducible apply page_lines); (case F => assumption); (case X₀ => assumption); (case N => assumption))
    | ((with_reducible apply page_maxlen); (case F => assumption); (case X₀ => assumption); (case N => assumption))
    | ((with_reducible apply page_splitchars); (case F => assumption); (case X₀ => assumption); (case N => assumption))
    | ((with_reducible apply acc_size); (case F => assumption); (case X₀ => assumption); (case N => assumption)))
  k_with "newTuple" => ((with_reducible apply newTupleP); (case hz => exact Nat.le_of_ble_eq_true rfl); (case F => assumption); (case N => assumption); (case hr => assumption); intro _ _ _ _ _; k_sweep)
  k_with "LeaveK" => (apply leaveK_; (case F' => assumption); (case N' => assumption); intro _ _)
  k_with "super" => (apply superNode; (case F => assumption); (case X₀ => assumption); (case N => assumption); (case T => assumption); (case hf => k_is); (case hp => exact rfl); (case hv => exact rfl); (case I => exact instAcc (by assumption)); (case hcode => k_is); (case hvs => exact rfl); (case hfile => exact PO.file (by assumption)); (case hcell => k_is); (case hD => k_is); (case hsub => k_is); (case hsuper => k_is); (case hat => rfl); (case hks => exact rfl); (case hkc => exact rfl); (case hka => exact rfl); (case hk => exact rfl); (case htop => exact PO.sup (by assumption)); (case hboot => boot_by_name))
  k_with "newList" => ((with_reducible apply newListP); (case hz => exact Nat.le_of_ble_eq_true rfl); (case F => assumption); (case N => assumption); (case hr => assumption); intro _ _ _ _ _; k_sweep)
  k_with "us" => ((first | (goal_lacks PySem.wpAny) | (fail_if_success (fail_if_success (with_reducible show Sealed _ _ _)))); (first | ((first | ((with_reducible apply unseal_next); (case hK => assumption)) | ((with_reducible apply unseal_ret); (case hK => assumption)) | ((with_reducible apply unseal_brk); (case hK => assumption)) | ((with_reducible apply unseal_cont); (case hK => assumption))); (try clear hK_q K_q)) | ((with_reducible apply unsealB); (case hB => assumption); (try clear hB_q hE_q KB_q EB_q))); (try walk_at "us"))
  k_with "Sealed" => (plain_pass; (walk_at "us"); walk1)
  k_with "SealedB" => (plain_pass; (walk_at "us"); walk1)
  k_with "execs cons" => (try (k_here; k_gentoks)); (try ((fail_if_success (goal_lacks PySem.W.envX)); first | ((with_reducible refine seal_envA ?_); intro e_q A_q) | ((with_reducible refine seal_env ?_); intro e_q))); first | ((goal_lacks Mine.Sealed); (with_reducible refine execs_seal ?_); intro K_q hK_q; (try dsimp only)) | ((with_reducible refine wpAny_execs_cons ?_); (try dsimp only))
  k_with "execs nil" => (try (k_here; k_gentoks)); refine wpAny_execs_nil ?_
  k_with "call builtin:len" => ((with_reducible apply accLen); (case X₀ => assumption); (case T => assumption); (case B => assumption); (case F => assumption); (case N => assumption); (case hr => assumption); (case hA => exact Room.deep (by assumption) (by decide)); (case hB => assumption); (case hO => first | assumption | (rename Ok _ => hO_q; exact Ok.cast hO_q rfl rfl rfl)); intro _ _ _ _ _ _ _ _; k_sweep)
  k_with "call type:str" => ((with_reducible apply accStr); (case X₀ => assumption); (case T => assumption); (case B => assumption); (case F => assumption); (case N => assumption); (case hr => assumption); (case hA => exact Room.deep (by assumption) (by decide)); (case hB => assumption); (case hO => first | assumption | (rename Ok _ => hO_q; exact Ok.cast hO_q rfl rfl rfl)); intro _ _ _ _ _ _ _ _; k_sweep)
  k_with "truthy ref" => ((with_reducible apply accTruthy); (case X₀ => assumption); (case T => assumption); (case B => assumption); (case F => assumption); (case N => assumption); (case hr => assumption); (case hA => exact Room.deep (by assumption) (by decide)); (case hB => assumption); (case hO => first | assumption | (rename Ok _ => hO_q; exact Ok.cast hO_q rfl rfl rfl)); intro _ _ _ _ _ _ _; k_sweep)
  k_with "getMethod ref" => (k_dflt (((with_reducible apply lnsMeth); (case N => assumption))))
  k_with "call builtin:list.append" => ((with_reducible apply lnsAppend); (case F => assumption); (case N => assumption); (case hr => assumption); (case hz => first | assumption | (rename Ok _ => hO_q; exact hO_q.lns)); intro _ _ _; k_sweep)
  trivial

section
open PySem PySem.W PySem.Calls PyProof.Rows
section
variable {prog : Program} {w : World} {A : Around} {E : Value → Shared → Prop} {s : Shared} {h₀ : Heap} {L : Addr} {m : Str → Option Value} {pg : PG} {st : ST} {rest : List (Addr × Obj)} {p : Program} {loose : List Str} {mg mb : Str → Option Value}
open PySem.Builtin.Re
theorem drive {M₀ : Model} {Q : Sre.M → Shared → Prop} : ∀ (n k : Nat) (m : Sre.M), (Sre.M.runFor k m).outcome.isSome = true → k ≤ 4 * n → 0 < n → Q (Sre.M.runFor k m) s → wpAny M₀ A (reDrive n m) Q E s
  | 0, _, _, _, _, h, _ => absurd h (by decide)
  | n + 1, k, m, ho, hk, _, hQ => by
    unfold reDrive
    show wpAny _ _ (if (Sre.M.runFor 4 m).outcome.isSome = true then pure (Sre.M.runFor 4 m) else _) _ _ _
    by_cases h4 : k ≤ 4
    · have e : Sre.M.runFor 4 m = Sre.M.runFor k m := by
        refine Exists.elim (Nat.exists_eq_add_of_le h4) fun j hj => ?_
        have := runFor_add k j m
        rw [runFor_done ho, ← hj] at this
        exact this
      rw [e, if_pos ho]
      exact wpAny_pure hQ
    · refine Exists.elim (Nat.exists_eq_add_of_le (show 4 ≤ k by lia)) fun j zr2 => ?_
      subst zr2
      rw [runFor_add] at ho hQ
      by_cases h : (Sre.M.runFor 4 m).outcome.isSome = true
      · rw [if_pos h]
        rw [runFor_done h] at hQ
        exact wpAny_pure hQ
      · rw [if_neg h]
        exact wpAny_bind (wpAny_rule (drive n j _ ho (by lia) (by lia) hQ))
theorem drive64 {M₀ : Model} {Q : Sre.M → Shared → Prop} {k : Nat} {m : Sre.M} (ho : (Sre.M.runFor k m).outcome.isSome = true) (hk : k ≤ 1000000) (hQ : Q (Sre.M.runFor k m) s) : wpAny M₀ A (reDrive (2 ^ 64) m) Q E s := by
  have h : ∀ n, 1000000 ≤ n → wpAny M₀ A (reDrive n m) Q E s := fun n hn => drive n k m ho (by lia) (by lia) hQ
  exact h _ (by decide)
theorem runEnd {M₀ : Model} {w : Nat → Nat} {r : Option Nat} {k : Nat} {m : Sre.M} {Q : Option Sre.M → Shared → Prop} (h : Ev (ResD w r) k m) (hk : k ≤ 1000000)
    (hQ : ∀ x, (match r with | some p => ∃ m', x = some m' ∧ m'.start = p ∧ m'.handed = p + w p | none => x = none) → Q x s) : wpAny M₀ A (reRunToEnd m) Q E s := by
  unfold Ev at h
  unfold reRunToEnd
  refine wpAny_bind (drive64 h.2 hk (wpAny_bind ?_))
  refine wpAny_forIn_list _ (fun _ _ s' => s' = s) _ (fun i rest b s' e => ?_) (fun _ s' e => ?_) _ _ rfl
  · subst e
    by_cases hb : (Sre.M.runFor k m).seen.has i = true
    · rw [if_pos hb]
      exact wpAny_bind (wpAny_rule (wpAny_pure rfl))
    · rw [if_neg hb]
      exact wpAny_pure rfl
  · subst e
    refine an2 h fun h _ => ?_
    cases r with
    | some p =>
      refine an3 h fun h1 h2 h3 => ?_
      (try clear h)
      rw [h1]
      exact wpAny_pure (hQ _ ⟨_, rfl, h2, h3⟩)
    | none =>
      have h1 : (Sre.M.runFor k m).outcome = some .failed := h
      rw [h1]
      exact wpAny_pure (hQ _ rfl)

noncomputable def pieces (hit : Nat → Bool) (w : Nat → Nat) (t : Array Nat) (rep : Str) : Nat → Nat → List Str
  | 0, _ => []
  | k + 1, d => match findH hit (t.size - d + 1) d with
    | some p => (if d < p then [⟨t.extract d p⟩] else []) ++ rep :: pieces hit w t rep k (p + w p)
    | none => if d < t.size then [⟨t.extract d t.size⟩] else []
theorem entry_sub : entryFor table "re.Pattern.sub" = some Builtin.«re.Pattern.sub» := entryFor_of_tree (by kernel_rfl)
theorem entry_subloop : entryFor table "re.Pattern.sub.loop" = some Builtin.«re.Pattern.sub.loop» := entryFor_of_tree (by kernel_rfl)
theorem plain_subloop : plainId "re.Pattern.sub.loop" = true := by decide +kernel
theorem slot_sub : Slot "re.Pattern" "sub" "re.Pattern.sub" :=
  .of (owner := "re.Pattern") (n := "sub") (by rw [typeLookup_type, builtinLookup_eq_fast]; kernel_rfl) (by decide +kernel) (by decide +kernel) (by decide +kernel)
    (by first | exact .inl (by decide +kernel) | exact .inr (by decide +kernel)) (by rw [isSubtype_type]; kernel_rfl)
theorem args_sub (a b c : Value) : argsOk "re.Pattern.sub" ⟨[a, b, c], []⟩ := by unfold argsOk; kernel_rfl
theorem kind_sub : typeOf (.builtin "re.Pattern.sub") = pure (.type "method_descriptor") := by show builtinType _ = _; rw [builtinType_eq_fast]; kernel_rfl

structure RePat (h : Heap) (p ct : Addr) (cv : Array Value) (code : Array Nat) : Prop where
  pat : ∃ a b, h.get? p = some ⟨.type "re.Pattern", none, .fields #[a, b, .int 0 0, .none, .none, .ref ct, .int 0 0], #[]⟩
  cod : h.get? ct = some ⟨.type "tuple", none, .seq cv 0, #[]⟩
  eq : (cv.map reRawOf).map (·.toNat) = code
theorem RePat.keeps {h h' : Heap} {p ct : Addr} {cv : Array Value} {code : Array Nat} (x : RePat h p ct cv code) (k : ∀ b o, h.get? b = some o → h'.get? b = some o) : RePat h' p ct cv code :=
  let ⟨⟨a, b, e⟩, c, d⟩ := x; ⟨⟨a, b, k _ _ e⟩, k _ _ c, d⟩
theorem RePat.but {h h' : Heap} {p ct l : Addr} {o : Obj} {cv : Array Value} {code : Array Nat} (x : RePat h p ct cv code) (hl : h.get? l = some o) (ho : o.cls = .type "list") (k : Heap.SameBut l h h') : RePat h' p ct cv code := by
  obtain ⟨⟨a, b, e⟩, c, d⟩ := x
  refine ⟨⟨a, b, (k.2 _ fun q => ?_).trans e⟩, (k.2 _ fun q => ?_).trans c, d⟩
  · rw [q, hl] at e; exact absurd (ho.symm.trans (congrArg Obj.cls (Option.some.inj e))) (by intro h; injection h with h; exact absurd h (by decide))
  · rw [q, hl] at c; exact absurd (ho.symm.trans (congrArg Obj.cls (Option.some.inj c))) (by intro h; injection h with h; exact absurd h (by decide))
theorem target {M₀ : Model} {p ct : Addr} {cv : Array Value} {code : Array Nat} {x : Str} {tx : Tok} {Q : ReTarget → Shared → Prop} (hp : RePat s.heap p ct cv code)
    (h : Q { pattern := .ref p, string := .str x tx, code := code, text := x.cps, kind := 0, groups := 0, pos := 0, lim := x.cps.size } s) : wpAny M₀ A (reWholeTarget (.ref p) (.str x tx)) Q E s := by
  obtain ⟨⟨a, b, e⟩, c, d⟩ := hp
  unfold reWholeTarget
  refine wpAny_bind (wpAny_fieldsOf e rfl ?_)
  show wpAny _ _ (reTextOf (.str x tx) >>= _) _ _ _
  unfold reTextOf
  refine wpAny_bind (m := (asStr? (.str x tx) >>= _)) (wpAny_bind (wpAny_pure (wpAny_pure ?_)))
  dsimp only
  refine wpAny_bind (m := reNoCollectionInside _ 0) (wpAny_pure ?_)
  show wpAny _ _ (reRawItems (.ref ct) >>= _) _ _ _
  unfold reRawItems
  refine wpAny_bind (wpAny_bind (wpAny_seqItems c rfl (wpAny_pure ?_)))
  refine wpAny_pure ?_
  show Q { pattern := .ref p, string := .str x tx, code := (cv.map reRawOf).map (·.toNat), text := x.cps, kind := 0, groups := reRawNat (.int 0 0), pos := 0, lim := x.cps.size } s
  rw [d]; exact h

theorem findH_some {hit : Nat → Bool} {p : Nat} : ∀ {k d : Nat}, findH hit k d = some p → d ≤ p ∧ hit p = true
  | 0, d, h => by cases h
  | k + 1, d, h => by
    unfold findH at h
    split at h
    · cases h; exact ⟨Nat.le_refl _, by assumption⟩
    · have := findH_some h; exact ⟨by lia, this.2⟩
theorem pushTxt {M₀ : Model} {l : Addr} {y : Str} {ty : Tok} {txs : List (Str × Tok)} {c : Nat} {Q : Unit → Shared → Prop} (hl : s.heap.get? l = some (listOf (txts txs).toArray c)) (hz : txs.length ≤ 300000)
    (hQ : ∀ h', Heap.SameBut l s.heap h' → h'.get? l = some (listOf (txts (txs ++ [(y, ty)])).toArray (c + 1)) → Q () { s with heap := h' }) : wpAny M₀ A (updateSeq l (·.push (.str y ty))) Q E s := by
  refine wpAny_updateSeq hl rfl (hQ _ (Heap.SameBut.update ..) ?_) (by simp only [List.size_toArray, List.length_map]; rw [sizeLine_eq]; lia) (by simp only [Array.size_push, List.size_toArray, List.length_map]; rw [sizeLine_eq]; lia)
  refine (Heap.get?_update_self _ hl rfl).trans (congrArg some ?_)
  have e : (txts txs).toArray.push (.str y ty) = (txts (txs ++ [(y, ty)])).toArray := by simp
  rw [mapSeq_at, e, if_neg (by simp)]
theorem sliceStr {M₀ : Model} {t : Array Nat} {a b : Nat} {Q : Value → Shared → Prop} (hz : t.size ≤ 100000) (h : Q (.str ⟨t.extract a b⟩ s.toks) { s with toks := s.toks + 1 }) : wpAny M₀ A (reSlice t 0 a b) Q E s := by
  show wpAny _ _ (mkStr ⟨t.extract a b⟩) _ _ _
  exact wpAny_mkStr h (by show (t.extract a b).size ≤ sizeLine; rw [sizeLine_eq, Array.size_extract]; exact Nat.le_trans (Nat.sub_le _ _) (Nat.le_trans (Nat.min_le_right _ _) (Nat.le_trans hz (by decide))))
theorem sameBut_toks {a : Addr} {h h' h'' : Heap} (x : Heap.SameBut a h h') (y : Heap.SameBut a h' h'') : Heap.SameBut a h h'' := ⟨y.1.trans x.1, fun b hb => (y.2 b hb).trans (x.2 b hb)⟩
theorem subLoop {p ct l : Addr} {cv : Array Value} {code : Array Nat} {x rep : Str} {tx tr : Tok} {hit : Nat → Bool} {wd : Nat → Nat} {R : Result → Shared → Prop}
    (next : ∀ d must, d ≤ x.cps.size → Ev (ResD wd (findH hit (x.cps.size - d + 1) d)) (3 * (x.cps.size - d) + 30) (Sre.forSearch code x.cps 0 d x.cps.size must))
    (hw : ∀ q, 0 < wd q) (hz : x.cps.size ≤ 100000) (hrep : rep.length ≤ 1000) (hpl : ∀ q, hit q = true → q + wd q ≤ x.cps.size) :
    ∀ (k d : Nat) (n : Nat) (must : Bool) (s : Shared) (txs : List (Str × Tok)) (c : Nat), x.cps.size - d < k → d ≤ x.cps.size → RePat s.heap p ct cv code → s.heap.get? l = some (listOf (txts txs).toArray c) → txs.length + 2 * k ≤ 300000 →
    JoinOk ("" : Str) (txs.map (·.1) ++ pieces hit wd x.cps rep k d) = true →
    (∀ h' tk t', Heap.SameBut l s.heap h' → R (.ok (.ret (.str (Txt.join ("" : Str) (txs.map (·.1) ++ pieces hit wd x.cps rep k d)) t'))) { s with heap := h', toks := tk }) →
    codeAny (model prog w) A (.builtin "re.Pattern.sub.loop" ⟨[.ref p, .str x tx, .str rep tr, rawInt 0, rawInt 0, rawInt n, rawInt d, rawInt d, .bool must, .ref l, .bool false], []⟩) R s := by
  intro k
  induction k with
  | zero => intro d n must s txs c hk; lia
  | succ k ih =>
    intro d n must s txs c hk hd hp hl hn hj hR
    refine codeAny_builtin entry_subloop ?_
    rw [Around.under_plainId plain_subloop _]
    show wpAny _ A.in1 (reWholeTarget (.ref p) (.str x tx) >>= _) _ _ s
    refine wpAny_bind (target hp ?_)
    show wpAny _ _ (reNextFound _ (Int.toNat (d : Int)) must >>= _) _ _ _
    rw [Int.toNat_natCast]
    unfold reNextFound
    refine wpAny_bind (runEnd (next d must hd) (by lia) fun r hr => ?_)
    unfold pieces at hj hR
    cases hf : findH hit (x.cps.size - d + 1) d with
    | none =>
      rw [hf] at hr hj hR
      dsimp only at hr
      subst hr
      dsimp only at hj hR ⊢
      have fin : ∀ (txs2 : List (Str × Tok)) (c2 : Nat) (h2 : Heap) (tk2 : Nat), Heap.SameBut l s.heap h2 → h2.get? l = some (listOf (txts txs2).toArray c2) → txs2.map (·.1) = txs.map (·.1) ++ (if d < x.cps.size then [⟨x.cps.extract d x.cps.size⟩] else []) →
          wpAny (model prog w) A.in1 (do
            let joiner ← reSlice x.cps 0 0 0
            let __do_lift ← seqItems? (Value.ref l)
            if (__do_lift.getD #[]).isEmpty = true then ret joiner else do
              let text ← call (.builtin "str.join") [joiner, .ref l]
              ret text) (fun fin s' => match fin with | .done f => R (.ok f) s' | .again c' => c'.quiet = true ∧ codeAny (model prog w) A c' R s') (fun e s' => R (.error e) s') { s with heap := h2, toks := tk2 } := by
        intro txs2 c2 h2 tk2 hs2 hl2 et
        refine wpAny_bind (sliceStr hz ?_)
        refine wpAny_bind (wpAny_seqItems hl2 rfl ?_)
        rw [← et] at hj hR
        have e0 : (⟨x.cps.extract 0 0⟩ : Str) = ("" : Str) := by rw [Array.extract_eq_empty_of_le (by simp)]; rfl
        rw [e0]
        cases txs2 with
        | nil =>
          rw [if_pos (show ((some (txts ([] : List (Str × Tok))).toArray).getD #[]).isEmpty = true from rfl)]
          exact wpAny_pure (hR _ _ _ hs2)
        | cons y r =>
          rw [if_neg (by simp [txts])]
          refine wpAny_bind (SC.join (l := y :: r) ⟨_, hl2, rfl, _, rfl⟩ rfl hj fun t' k' => ?_)
          exact wpAny_pure (hR _ _ _ hs2)
      by_cases hds : d < x.cps.size
      · rw [if_pos (by simpa using hds)]
        refine wpAny_bind (sliceStr hz ?_)
        refine wpAny_bind (pushTxt (txs := txs) hl (by lia) fun h2 hs2 hl2 => ?_)
        exact fin _ _ _ _ hs2 hl2 (by rw [if_pos hds]; simp)
      · rw [if_neg (by simpa using hds)]
        exact fin txs c s.heap s.toks ⟨rfl, fun _ _ => rfl⟩ hl (by rw [if_neg hds]; simp)
    | some q =>
      rw [hf] at hr hj hR
      refine Exists.elim hr fun m' hx => an3 hx fun zr1 hm1 hm2 => ?_
      (try clear hr)
      subst zr1
      refine an2 (findH_some hf) fun hdq hhit => ?_
      have hq2 := hpl q hhit
      have hw2 := hw q
      dsimp only at hj hR ⊢
      have fin : ∀ (txs2 : List (Str × Tok)) (c2 : Nat) (h2 : Heap) (tk2 : Nat), Heap.SameBut l s.heap h2 → h2.get? l = some (listOf (txts txs2).toArray c2) → txs2.length ≤ txs.length + 1 → txs2.map (·.1) = txs.map (·.1) ++ (if d < q then [⟨x.cps.extract d q⟩] else []) →
          wpAny (model prog w) A.in1 (do
            let item ← pure (Value.str rep tr)
            if (item != Value.none) = true then do
              updateSeq l fun x => x.push item
              again (Code.builtin "re.Pattern.sub.loop" ⟨[Value.ref p, Value.str x tx, Value.str rep tr, rawInt 0, rawInt 0, rawInt (n + 1), rawInt m'.handed, rawInt m'.handed, Value.bool (m'.handed == m'.start), Value.ref l, Value.bool false], []⟩)
            else again (Code.builtin "re.Pattern.sub.loop" ⟨[Value.ref p, Value.str x tx, Value.str rep tr, rawInt 0, rawInt 0, rawInt (n + 1), rawInt m'.handed, rawInt m'.handed, Value.bool (m'.handed == m'.start), Value.ref l, Value.bool false], []⟩)
            ) (fun fin s' => match fin with | .done f => R (.ok f) s' | .again c' => c'.quiet = true ∧ codeAny (model prog w) A c' R s') (fun e s' => R (.error e) s') { s with heap := h2, toks := tk2 } := by
        intro txs2 c2 h2 tk2 hs2 hl2 hn2 et
        refine wpAny_bind (wpAny_pure ?_)
        rw [if_pos (show (Value.str rep tr != Value.none) = true from rfl)]
        refine wpAny_bind (pushTxt (txs := txs2) hl2 (by lia) fun h3 hs3 hl3 => ?_)
        have hs4 := sameBut_toks hs2 hs3
        have et3 : (txs2 ++ [(rep, tr)]).map (·.1) ++ pieces hit wd x.cps rep k (q + wd q) = txs.map (·.1) ++ ((if d < q then [⟨x.cps.extract d q⟩] else []) ++ rep :: pieces hit wd x.cps rep k (q + wd q)) := by
          rw [List.map_append, et]; simp
        rw [hm2]
        refine wpAny_pure ⟨plainId_quiet plain_subloop _, ?_⟩
        refine ih (q + wd q) (n + 1) _ _ (txs2 ++ [(rep, tr)]) _ (by omega) hq2 (hp.but hl rfl hs4) hl3 (by rw [List.length_append, List.length_singleton]; lia) (by rw [et3]; exact hj) fun h' tk t' hs' => ?_
        rw [et3]
        exact hR _ _ _ (sameBut_toks hs4 hs')
      rw [hm1]
      by_cases hds : d < q
      · rw [if_pos hds]
        refine wpAny_bind (sliceStr hz ?_)
        refine wpAny_bind (pushTxt (txs := txs) hl (by lia) fun h2 hs2 hl2 => ?_)
        have := fin _ _ _ (s.toks + 1) hs2 hl2 (by simp) (by rw [if_pos hds]; simp)
        rw [hm1] at this
        exact this
      · rw [if_neg hds]
        have := fin txs c s.heap s.toks ⟨rfl, fun _ _ => rfl⟩ hl (by lia) (by rw [if_neg hds]; simp)
        rw [hm1] at this
        exact this
theorem re_ga : typeLookup (.type "re.Pattern") "__getattribute__" = pure (some (.builtin "object.__getattribute__")) := by rw [typeLookup_type, builtinLookup_eq_fast]; kernel_rfl
theorem re_gn : typeLookup (.type "re.Pattern") "__getattr__" = pure none := by rw [typeLookup_type, builtinLookup_eq_fast]; kernel_rfl
theorem str_nocall : typeLookup (.type "str") "__call__" = pure none := by rw [typeLookup_type, builtinLookup_eq_fast]; kernel_rfl
theorem canon_oga : (Manifest.canonical "object.__getattribute__" != "object.__getattribute__") = false := by decide +kernel
theorem subMeth {M₀ : Model} {p ct : Addr} {cv : Array Value} {code : Array Nat} {pl : Sem Bool} {Q : Value × List Value → Shared → Prop} (hp : RePat s.heap p ct cv code) (h : Q (.builtin "re.Pattern.sub", [.ref p]) s) : wpAny M₀ A (getMethod (.ref p) "sub" pl) Q E s := by
  obtain ⟨⟨a, b, e⟩, _, _⟩ := hp
  have hT : s.TypeIs (.ref p) "re.Pattern" := ⟨_, e, rfl⟩
  unfold getMethod
  refine wpAny_bind (wpAny_specialOf hT re_ga ?_)
  show wpAny M₀ A (if (Manifest.canonical "object.__getattribute__" != "object.__getattribute__") = true then _ else _) Q E s
  rw [canon_oga, if_neg Bool.false_ne_true]
  refine wpAny_bind (wpAny_specialOf hT re_gn ?_)
  refine wpAny_bind (wpAny_specialOf hT slot_sub.lookup ?_)
  refine wpAny_bind (wpAny_of_eq kind_sub ?_)
  refine wpAny_bind (wpAny_load e ?_)
  exact wpAny_bind (wpAny_rule (wpAny_pure h))
theorem subCall {p ct : Addr} {cv : Array Value} {code : Array Nat} {x rep : Str} {tx tr : Tok} {hit : Nat → Bool} {wd : Nat → Nat} {Q : Value → Shared → Prop}
    (next : ∀ d must, d ≤ x.cps.size → Ev (ResD wd (findH hit (x.cps.size - d + 1) d)) (3 * (x.cps.size - d) + 30) (Sre.forSearch code x.cps 0 d x.cps.size must))
    (hw : ∀ q, 0 < wd q) (hz : x.cps.size ≤ 100000) (hrep : rep.length ≤ 1000) (hpl : ∀ q, hit q = true → q + wd q ≤ x.cps.size) (h92 : rep.cps.contains 92 = false)
    (hp : RePat s.heap p ct cv code) (hj : JoinOk ("" : Str) (pieces hit wd x.cps rep (x.cps.size + 1) 0) = true)
    (hQ : ∀ h' tk t', (∀ b o, s.heap.get? b = some o → h'.get? b = some o) → Q (.str (Txt.join ("" : Str) (pieces hit wd x.cps rep (x.cps.size + 1) 0)) t') { s with heap := h', toks := tk }) :
    wpAny (model prog w) A (call (.builtin "re.Pattern.sub") [.ref p, .str rep tr, .str x tx]) Q E s := by
  have hT : s.TypeIs (.ref p) "re.Pattern" := by obtain ⟨⟨a, b, e⟩, _, _⟩ := hp; exact ⟨_, e, rfl⟩
  refine wpAny_call (codeAny_call_builtin slot_sub.plain entry_sub (slot_sub.check _ _ _ _ _ _ _ _ hT (args_sub _ _ _) ?_))
  show wpAny _ A.in1 (reSubstitute "re.Pattern.sub" "sub" false ⟨[.ref p, .str rep tr, .str x tx], []⟩) _ _ s
  unfold reSubstitute
  dsimp only
  refine wpAny_bind (wpAny_of_eq (a := [some (.str rep tr), some (.str x tx), none]) rfl ?_)
  dsimp only
  refine wpAny_bind (wpAny_pure ?_)
  refine wpAny_bind (wpAny_specialOf (T := "str") (typeIs_str _ _ _) str_nocall ?_)
  rw [if_neg (show ¬ ((none : Option Value).isSome = true) from Bool.false_ne_true)]
  refine wpAny_bind (wpAny_of_eq (a := some rep) rfl ?_)
  dsimp only
  refine wpAny_bind (wpAny_pure ?_)
  rw [h92]
  rw [if_neg (show ¬ ((none : Option Value).isSome = true) from Bool.false_ne_true)]
  rw [if_pos (show (!false) = true from rfl)]
  refine wpAny_bind (wpAny_pure ?_)
  refine wpAny_bind (wpAny_holding (target hp ?_))
  dsimp only
  rw [if_neg (show ¬ (((0 : Int) == 1) = true) from Bool.false_ne_true)]
  refine wpAny_bind (wpAny_newList ?_ (by rw [sizeLine_eq]; exact Nat.le_of_ble_eq_true rfl))
  refine wpAny_pure ⟨plainId_quiet plain_subloop _, ?_⟩
  have up : ∀ b o, s.heap.get? b = some o → (s.heap.push { cls := .type "list", data := .seq ([] : List Value).toArray }).get? b = some o := fun _ _ e => Heap.get?_push_of_some _ e
  refine subLoop (l := s.heap.objs.size) next hw hz hrep hpl (x.cps.size + 1) 0 0 false _ [] 0 (by lia) (Nat.zero_le _) (hp.keeps up) (Heap.get?_push_size _ rfl) (by simp; lia) hj fun h' tk t' hs => ?_
  refine hQ h' tk t' fun b o e => (hs.2 b fun q => ?_).trans (up b o e)
  rw [q] at e
  exact absurd (Heap.lt_size e) (Nat.lt_irrefl _)

end
end

section
open PySem PySem.W PySem.Calls PyProof.Rows
section
variable {prog : Program} {w : World} {A : Around} {E : Value → Shared → Prop} {s : Shared} {h₀ : Heap} {L : Addr} {m : Str → Option Value} {pg : PG} {st : ST} {rest : List (Addr × Obj)} {p : Program} {loose : List Str} {mg mb : Str → Option Value}
noncomputable def vals1 : Array Value := #[.int 14 0, .int 4 0, .int 0 0, .int 1 0, .int 1 0, .int 6 0, .int 1 0, .int 16 0, .int 46 0, .int 1 0]
theorem pat1 {h : Heap} (X : (hd.heap_39 w.params).In h) : ∃ cv, RePat h 211 210 cv code1 :=
  ⟨_, ⟨⟨_, _, X 211 _ (by k_is)⟩, X 210 _ (by k_is), by simp [Builtin.Re.reRawOf, code1]⟩⟩
theorem pat2 {h : Heap} (X : (hd.heap_39 w.params).In h) : ∃ cv, RePat h 216 215 cv code2 :=
  ⟨_, ⟨⟨_, _, X 216 _ (by k_is)⟩, X 215 _ (by k_is), by simp [Builtin.Re.reRawOf, code2]⟩⟩
theorem pieces_sum {hit : Nat → Bool} {wd : Nat → Nat} {t : Array Nat} {rep : Str} (hw : ∀ q, 0 < wd q) (hpl : ∀ q, hit q = true → q + wd q ≤ t.size) :
    ∀ k d, d ≤ t.size → ((pieces hit wd t rep k d).map (·.length)).sum ≤ (t.size - d) * (1 + rep.length)
  | 0, d, hd => Nat.zero_le _
  | k + 1, d, hd => by
    unfold pieces
    cases hf : findH hit (t.size - d + 1) d with
    | none =>
      dsimp only
      split
      · simp only [List.map_cons, List.map_nil, List.sum_cons, List.sum_nil, Nat.add_zero]
        show (t.extract d t.size).size ≤ _
        rw [Array.size_extract]
        exact Nat.le_trans (Nat.sub_le_sub_right (Nat.min_le_left _ _) d) (Nat.le_mul_of_pos_right _ (Nat.le_add_right 1 _))
      · exact Nat.zero_le _
    | some q =>
      refine an2 (findH_some hf) fun h1 h2 => ?_
      have h3 := hpl q h2
      have h4 := hw q
      have ih := pieces_sum hw hpl (rep := rep) k (q + wd q) h3
      dsimp only
      rw [List.map_append, List.sum_append, List.map_cons, List.sum_cons]
      have e1 : ((if d < q then [(⟨t.extract d q⟩ : Str)] else []).map (·.length)).sum ≤ q - d := by
        split
        · simp only [List.map_cons, List.map_nil, List.sum_cons, List.sum_nil, Nat.add_zero]
          show (t.extract d q).size ≤ _
          rw [Array.size_extract]; exact Nat.sub_le_sub_right (Nat.min_le_left _ _) d
        · exact Nat.zero_le _
      have e2 : (t.size - d) = (t.size - (q + wd q)) + ((q - d) + wd q) := (Nat.sub_add_sub_cancel h3 (Nat.le_trans h1 (Nat.le_add_right q _))).symm.trans (by rw [Nat.sub_add_comm h1])
      rw [e2, Nat.add_mul]
      have e3 : (q - d) + wd q ≤ ((q - d) + wd q) * (1 + rep.length) := Nat.le_mul_of_pos_right _ (Nat.le_add_right 1 _)
      have e4 : ((q - d) + wd q) * (1 + rep.length) = ((q - d) + wd q) + ((q - d) + wd q) * rep.length := by rw [Nat.mul_add, Nat.mul_one]
      have e5 : 1 * rep.length ≤ ((q - d) + wd q) * rep.length := Nat.mul_le_mul_right _ (Nat.le_trans h4 (Nat.le_add_left _ _))
      lia
theorem pieces_ok {hit : Nat → Bool} {wd : Nat → Nat} {t : Array Nat} {rep : Str} (hw : ∀ q, 0 < wd q) (hpl : ∀ q, hit q = true → q + wd q ≤ t.size) (hz : t.size ≤ 100000) (hr : rep.length ≤ 10) (k : Nat) :
    JoinOk ("" : Str) (pieces hit wd t rep k 0) = true := by
  refine joinOk_of ?_
  have := pieces_sum hw hpl (rep := rep) k 0 (Nat.zero_le _)
  have e : ("" : Str).length = 0 := rfl
  have h2 : (t.size - 0) * (1 + rep.length) ≤ 100000 * 11 := Nat.mul_le_mul (by omega) (by lia)
  rw [e]; lia
noncomputable def crlfS (x : Str) : Str := Txt.join ("" : Str) (pieces (hit2 x.cps) (w2 x.cps) x.cps ("\r\n" : Str) (x.cps.size + 1) 0)
noncomputable def dotS (x : Str) : Str := Txt.join ("" : Str) (pieces (hit1 x.cps) (fun _ => 1) x.cps (".." : Str) (x.cps.size + 1) 0)
theorem join_len (l : List Str) : (Txt.join ("" : Str) l).length ≤ (l.map (·.length)).sum := by
  have e : ("" : Str).length = 0 := rfl
  have h := StrLaws.join_length_le ("" : Str) l
  have g : Txt.join ("" : Str) l = Str.join ("" : Str) l := StrLaws.glued_eq_join _ _
  rw [g]; rw [e] at h; omega
theorem hpl1 (t : Array Nat) : ∀ q, hit1 t q = true → q + 1 ≤ t.size := fun q h => by
  unfold hit1 at h; simp at h; lia
theorem hpl2 (t : Array Nat) : ∀ q, hit2 t q = true → q + w2 t q ≤ t.size := fun q h => by
  unfold hit2 at h; simp at h
  unfold w2
  split
  · rename_i g; omega
  · lia
theorem hw2 (t : Array Nat) : ∀ q, 0 < w2 t q := fun q => by unfold w2; split <;> decide
theorem crlf_len (x : Str) : (crlfS x).cps.size ≤ 3 * x.cps.size := by
  refine Nat.le_trans (join_len _) (Nat.le_trans (pieces_sum (hw2 _) (hpl2 _) _ 0 (Nat.zero_le _)) ?_)
  show (x.cps.size - 0) * (1 + 2) ≤ _
  lia
theorem quote_C {news : List (Addr × Obj)} {x : Str} {tx : Tok} {Q : Value → Shared → Prop}
   (X₀ : (hd.heap_39 w.params).In h₀) (T : TopRead p loose mg mb h₀) (F : Fr h₀ L s.heap m) (N : News h₀ L s.heap news) (hA : Room A 6) (hz : x.cps.size ≤ 30000)
   (h : ∀ h' t tk, Fr h₀ L h' m → News h₀ L h' news → Q (.str (dotS (crlfS x)) t) { s with heap := h', toks := tk }) :
   wpAny (model prog w) A (call (.ref 223) [.str x tx]) Q E s := by
  refine wpAny_call ?_
  refine' enter (binds := [("data", .str x tx)]) X₀ T F N (hA.lt (by decide)) ?_
  clear X₀ T F N
  intro g L' h' F' N' X' T' l1
  refine Exists.elim (pat1 X') fun cv1 P1 => ?_
  refine Exists.elim (pat2 X') fun cv2 P2 => ?_
  iterate 4 walk1
  all_goals (try walk_at "us")
  refine subMeth (P1.keeps F'.keep) ?_
  iterate 6 walk1
  all_goals (try walk_at "us")
  refine subMeth (P2.keeps F'.keep) ?_
  iterate 6 walk1
  all_goals (try walk_at "us")
  try dsimp only [List.cons_append, List.nil_append]
  refine subCall (fun d must hd => Ev.le (next2 x.cps d must hd) (by lia)) (hw2 _) (by lia) (by decide) (hpl2 _) (by decide +kernel) (P2.keeps F'.keep) (pieces_ok (hw2 _) (hpl2 _) (by lia) (by decide) _) fun h1 tk1 t1 k1 => ?_
  have F1 := F'.keeps k1
  have N1 := N'.grown k1
  clear F' N'
  have hz2 : (crlfS x).cps.size ≤ 90000 := Nat.le_trans (crlf_len x) (by lia)
  generalize hy : crlfS x = y at hz2 h
  rw [show Txt.join (Str.ofString "") (pieces (hit2 x.cps) (w2 x.cps) x.cps ("\r\n" : Str) (x.cps.size + 1) 0) = y from hy]
  walk1
  all_goals (try walk_at "us")
  try dsimp only [List.cons_append, List.nil_append]
  refine subCall (fun d must hd => Ev.le (next1 y.cps d must hd) (by lia)) (fun _ => by decide) (by lia) (by decide) (hpl1 _) (by decide +kernel) (P1.keeps F1.keep) (pieces_ok (fun _ => by decide) (hpl1 _) (by lia) (by decide) _) fun h2 tk2 t2 k2 => ?_
  have F2 := F1.keeps k2
  have N2 := N1.grown k2
  clear F1 N1
  (try walk_at "us")
  exact leaveK_ F2 N2 fun F7 N7 => h _ _ _ F7 N7

end
end

section
open PySem PySem.W PySem.Calls PyProof.Rows
theorem findH_spec (hit : Nat → Bool) : ∀ (n d : Nat), (∀ p, findH hit n d = some p → d ≤ p ∧ hit p = true ∧ ∀ i, d ≤ i → i < p → hit i = false) ∧ (findH hit n d = none → ∀ i, d ≤ i → i < d + n → hit i = false)
  | 0, d => ⟨fun p h => by simp [findH] at h, fun _ i h1 h2 => by lia⟩
  | n + 1, d => by
    refine an2 (findH_spec hit n (d + 1)) fun h1 h2 => ?_
    unfold findH
    by_cases hd : hit d = true
    · rw [if_pos hd]
      refine ⟨fun p h => ?_, fun h => by cases h⟩
      cases h
      exact ⟨Nat.le_refl _, hd, fun i a b => by lia⟩
    · rw [if_neg hd]
      have hd2 : hit d = false := by simpa using hd
      refine ⟨fun p h => ?_, fun h i a b => ?_⟩
      · refine an3 (h1 p h) fun a b c => ?_
        refine ⟨by lia, b, fun i hi hi2 => ?_⟩
        by_cases e : i = d
        · rw [e]; exact hd2
        · exact c i (by lia) hi2
      · by_cases e : i = d
        · rw [e]; exact hd2
        · exact h2 h i (by lia) (by lia)
theorem run_gap {t : Array Nat} {hit : Nat → Bool} {G : Nat → List Nat} (h2 : ∀ d (h : d < t.size), hit d = false → G d = t[d] :: G (d + 1)) :
    ∀ (n d : Nat), d + n ≤ t.size → (∀ i, d ≤ i → i < d + n → hit i = false) → G d = (t.extract d (d + n)).toList ++ G (d + n)
  | 0, d, _, _ => by simp
  | n + 1, d, hl, hh => by
    have hd1 : d < d + (n + 1) := Nat.lt_add_of_pos_right (Nat.succ_pos n)
    have hd : d < t.size := Nat.lt_of_lt_of_le hd1 hl
    rw [h2 d hd (hh d (Nat.le_refl _) hd1), run_gap h2 n (d + 1) (by rw [Nat.add_right_comm]; exact hl) fun i a b => hh i (Nat.le_of_succ_le a) (by rw [Nat.add_right_comm] at b; exact b)]
    have e : (t.extract d (d + (n + 1))).toList = t[d] :: (t.extract (d + 1) (d + 1 + n)).toList := by
      rw [Array.toList_extract, Array.toList_extract, List.extract_eq_take_drop, List.extract_eq_take_drop]
      rw [List.drop_eq_getElem_cons (by rw [Array.length_toList]; exact hd), Nat.add_sub_cancel_left, List.take_succ_cons, Nat.add_sub_cancel_left]
      simp
    rw [e, show d + 1 + n = d + (n + 1) from Nat.add_right_comm d 1 n]
    rfl
theorem pieces_list {t : Array Nat} {hit : Nat → Bool} {w : Nat → Nat} {rep : Str} {G : Nat → List Nat} (hw : ∀ q, 0 < w q) (hpl : ∀ q, hit q = true → q + w q ≤ t.size)
    (h1 : ∀ d, hit d = true → G d = rep.cps.toList ++ G (d + w d)) (h2 : ∀ d (h : d < t.size), hit d = false → G d = t[d] :: G (d + 1)) (h3 : G t.size = []) :
    ∀ (k d : Nat), d ≤ t.size → t.size - d < k → ((pieces hit w t rep k d).map (·.cps.toList)).flatten = G d
  | 0, d, _, h => by lia
  | k + 1, d, hd, hk => by
    refine an2 (findH_spec hit (t.size - d + 1) d) fun f1 f2 => ?_
    unfold pieces
    cases hf : findH hit (t.size - d + 1) d with
    | none =>
      have hn := f2 hf
      have hg := run_gap h2 (t.size - d) d (Nat.le_of_eq (Nat.add_sub_cancel' hd)) fun i a b => hn i a (Nat.lt_succ_of_lt b)
      rw [Nat.add_sub_cancel' hd, h3, List.append_nil] at hg
      dsimp only
      rw [hg]
      by_cases e : d < t.size
      · rw [if_pos e]; simp
      · rw [if_neg e]
        have : d = t.size := by lia
        subst this; simp
    | some p =>
      refine an3 (f1 p hf) fun a b c => ?_
      have hp := hpl p b
      have hwp := hw p
      have hg := run_gap h2 (p - d) d (by rw [Nat.add_sub_cancel' a]; exact Nat.le_trans (Nat.le_add_right _ _) hp) fun i x y => c i x (by rw [Nat.add_sub_cancel' a] at y; exact y)
      rw [Nat.add_sub_cancel' a] at hg
      have ih := pieces_list hw hpl h1 h2 h3 k (p + w p) hp (Nat.lt_of_lt_of_le (Nat.sub_lt_sub_left (Nat.lt_of_lt_of_le (Nat.lt_of_le_of_lt a (Nat.lt_add_of_pos_right hwp)) hp) (Nat.lt_of_le_of_lt a (Nat.lt_add_of_pos_right hwp))) (Nat.le_of_lt_succ hk))
      dsimp only
      rw [List.map_append, List.map_cons, List.flatten_append, List.flatten_cons, ih, hg, h1 p b]
      congr 1
      by_cases e : d < p
      · rw [if_pos e]; simp
      · rw [if_neg e]
        have : p = d := by lia
        subst this; simp
theorem getD_get {t : Array Nat} {d : Nat} (h : d < t.size) : t.getD d 0 = t[d] := by simp [Array.getD, h]
theorem drop_cons {t : Array Nat} {d : Nat} (h : d < t.size) : t.toList.drop d = t[d] :: t.toList.drop (d + 1) := by
  rw [List.drop_eq_getElem_cons (by rw [Array.length_toList]; exact h)]; simp
theorem crlfS_list (x : Str) : (crlfS x).cps.toList = crlfL false x.cps.toList := by
  unfold crlfS
  rw [join_list]
  refine (pieces_list (G := fun d => crlfL false (x.cps.toList.drop d)) (hw2 _) (hpl2 _) (fun d hd => ?_) (fun d hd hh => ?_) ?_ _ 0 (Nat.zero_le _) (by lia)).trans rfl
  · have hd' := hd
    unfold hit2 at hd
    simp only [Bool.and_eq_true, decide_eq_true_eq, Bool.or_eq_true, beq_iff_eq] at hd
    refine an2 hd fun hlt hc => ?_
    (try clear hd)
    have e0 : ("\r\n" : Str).cps.toList = [13, 10] := rfl
    have eg := getD_get hlt
    rw [e0]
    show crlfL false (x.cps.toList.drop d) = [13, 10] ++ crlfL false (x.cps.toList.drop (d + w2 x.cps d))
    rw [drop_cons hlt]
    unfold w2
    rw [eg] at hc ⊢
    generalize x.cps[d] = c at hc
    by_cases e13 : c = 13
    · rw [crlfL, if_pos e13]
      by_cases h2 : c = 13 ∧ d + 1 < x.cps.size ∧ x.cps.getD (d + 1) 0 = 10
      · rw [if_pos h2]
        refine an3 h2 fun _ hl2 h10 => ?_
        (try clear h2)
        rw [drop_cons hl2]
        rw [getD_get hl2] at h10
        rw [h10, crlfL, if_neg (by decide), if_pos rfl, if_pos rfl]
        rfl
      · rw [if_neg h2, crlf_flag]
        · rfl
        · intro e
          by_cases hl2 : d + 1 < x.cps.size
          · rw [drop_cons hl2] at e
            have : x.cps[d + 1] = 10 := by simpa using e
            exact h2 ⟨e13, hl2, by rw [getD_get hl2]; exact this⟩
          · rw [List.drop_eq_nil_of_le (by rw [Array.length_toList]; lia)] at e
            simp at e
    · have e10 : c = 10 := by lia
      rw [if_neg (fun q => e13 q.1), crlfL, if_neg e13, if_pos e10]
      rfl
  · unfold hit2 at hh
    rw [decide_eq_true hd, Bool.true_and] at hh
    simp only [Bool.or_eq_false_iff, beq_eq_false_iff_ne] at hh
    rw [getD_get hd] at hh
    show crlfL false (x.cps.toList.drop d) = _
    rw [drop_cons hd, crlfL, if_neg hh.2, if_neg hh.1]
  · show crlfL false (x.cps.toList.drop x.cps.size) = []
    rw [List.drop_eq_nil_of_le (by rw [Array.length_toList]; exact Nat.le_refl _)]; rfl
theorem dotS_list (x : Str) : (dotS x).cps.toList = dotL true x.cps.toList := by
  unfold dotS
  rw [join_list]
  refine (pieces_list (G := fun d => dotL (d == 0 || x.cps.getD (d - 1) 0 == 10) (x.cps.toList.drop d)) (fun _ => Nat.one_pos) (hpl1 _) (fun d hd => ?_) (fun d hd hh => ?_) ?_ _ 0 (Nat.zero_le _) (by lia)).trans rfl
  · unfold hit1 at hd
    simp only [Bool.and_eq_true, decide_eq_true_eq, beq_iff_eq] at hd
    refine an3 hd fun hb hlt hc => ?_
    (try clear hd)
    have e0 : (".." : Str).cps.toList = [46, 46] := rfl
    rw [getD_get hlt] at hc
    rw [e0]
    show dotL (d == 0 || x.cps.getD (d - 1) 0 == 10) (x.cps.toList.drop d) = [46, 46] ++ dotL (d + 1 == 0 || x.cps.getD d 0 == 10) (x.cps.toList.drop (d + 1))
    rw [drop_cons hlt, hb, hc, dotL, if_pos ⟨rfl, rfl⟩, getD_get hlt, hc]
    rfl
  · unfold hit1 at hh
    rw [decide_eq_true hd, Bool.true_and, getD_get hd] at hh
    show dotL (d == 0 || x.cps.getD (d - 1) 0 == 10) (x.cps.toList.drop d) = x.cps[d] :: dotL (d + 1 == 0 || x.cps.getD d 0 == 10) (x.cps.toList.drop (d + 1))
    rw [drop_cons hd, dotL, if_neg (fun q => by rw [q.1, q.2] at hh; simp at hh), getD_get hd]
    have : (d + 1 == 0) = false := rfl
    rw [this, Bool.false_or]
  · show dotL _ (x.cps.toList.drop x.cps.size) = []
    rw [List.drop_eq_nil_of_le (by rw [Array.length_toList]; exact Nat.le_refl _)]
    simp [dotL]
open StrLaws PySem.Builtin.Str in
theorem lstrip_list (x y : Str) : (Txt.lstripChars x y).cps.toList = x.cps.toList.dropWhile y.cps.contains := by
  unfold Txt.lstripChars
  rw [PyProof.Rows.stripBy_eq, strSub_toList]
  have e : stripHi y.cps.contains false x (stripLo y.cps.contains true x) = x.length := rfl
  rw [e]
  have e2 : stripLo y.cps.contains true x = (x.cps.toList.takeWhile y.cps.contains).length := rfl
  rw [e2]
  have e3 : ∀ (p : Nat → Bool) (l : List Nat), l.drop (l.takeWhile p).length = l.dropWhile p := fun p l => by
    induction l with
    | nil => rfl
    | cons a r ih =>
      by_cases h : p a = true
      · simpa [h] using ih
      · simp [h]
  rw [List.take_of_length_le (by rw [List.length_drop, Array.length_toList]; exact Nat.le_refl _), e3]
end

section
open PySem PySem.W PySem.Calls PyProof.Rows
section
variable {prog : Program} {w : World} {A : Around} {E : Value → Shared → Prop} {s : Shared} {h₀ : Heap} {L : Addr} {m : Str → Option Value} {pg : PG} {st : ST} {rest : List (Addr × Obj)} {p : Program} {loose : List Str} {mg mb : Str → Option Value}
theorem enterC {news : List (Addr × Obj)} {R : Result → Shared → Prop}
    {K : Frag} {name qual : Str} {params : Arguments} {body : List Stmt} {scope : Scope} {dV kV doc pm cdv ct oc : Value} {an od : Option Addr} {osl : Array (Option Value)} {f : Addr} {args : Args} {binds : List (Str × Value)}
    (X₀ : K.In h₀) (T : TopRead p loose mg mb h₀) (B : BM h₀ mg) (F : Fr h₀ L s.heap m) (N : News h₀ L s.heap news)
    (hroom : A.depth < recursionLimit)
    (h : ∀ g L' h₁ tk cells, (∀ b o, h₀.get? b = some o → g.get? b = some o) → Fr g L' h₁ (bindL (envOfC qual scope L' f cdv).kindOf binds fun _ => none) → News g L' h₁ (cells ++ news) →
      CellsAre (bindC (envOfC qual scope L' f cdv).kindOf binds fun _ => none) (cellsFrom (L' + 1) scope.names []) cells → K.In g → TopRead p loose mg mb g → BM g mg → (∀ p ∈ news, p.1 < L') →
      wpAny (model prog w) (A.deeper (envX qual scope L' f cdv (cellsFrom (L' + 1) scope.names []))) (execs body (envX qual scope L' f cdv (cellsFrom (L' + 1) scope.names [])))
        (fun fl s' => LeaveK h₀ L m g R (match fl with | .ret v => v | _ => .none) s') (fun _ _ => False)
        { s with heap := h₁, toks := tk })
    (ho : K.lookup f = some ⟨oc, od, .func (fnX name qual params body scope [] dV kV doc pm an cdv ct), osl⟩ := by k_is) (hcd : codeIn K cdv qual = true := by k_is)
    (hbind : BindsTo s (fnX name qual params body scope [] dV kV doc pm an cdv ct) args binds := by first | exact BindsTo.of_eq rfl | exact binds_K (by k_in) rfl (by k_is) rfl rfl rfl)
    (hkind : (binds.all fun y => scope.names.lookup y.1 == some .local || scope.names.lookup y.1 == some .cell) = true := by rfl)
    (hnd : ((cellsFrom 0 scope.names []).map (·.1)).Nodup := by decide)
    (hco : scope.isCoroutine = false := by rfl) (hgen : scope.isGenerator = false := by rfl) (hk : scope.kind = .function := by rfl) :
    codeAny (model prog w) A (.call (.ref f) args) R s := by
  refine an2 (ground (R := R) F N) fun st lv => ?_
  have X : K.In s.heap := X₀.keeps F.keep
  refine codeAny_call_function hroom (X _ _ ho) rfl hco hgen rfl (codeRec_of X hcd) (hbind _ _ _ _ ?_)
  refine wpAny_newFunctionEnv_cells hk (kindsX hkind _) fun env' he s' x => ?_
  subst he
  refine ⟨(T.nolimit.keeps F.keep).keeps x.toInCall.keep, codeAny_func ?_⟩
  refine ex2 x.done fun h₁ tk hx => an2 hx fun zr1 _ => ?_
  subst zr1
  have hk₁ := x.toInCall.keep
  refine Exists.elim (Cl.news (h₀ := s.heap) (Nat.le_refl _) fun n c hm => ⟨x.cell n c (lookup_of_mem_nodup (cellsFrom_names scope.names 0 (s.heap.objs.size + 1) [] [] rfl ▸ hnd) hm), x.above n c hm⟩) fun cells hx => an2 hx fun NC Y => ?_
  refine wpAny_mono (h _ s.heap.objs.size h₁ tk cells st ⟨x.toInCall.ns, fun b o e => hk₁ b o (of_hideAll _ e), Nat.le_of_eq (hideAll_size _ _)⟩ (fun p hp => ?_) Y (X₀.keeps st) (T.keeps st) (B.keeps st) (fun p hp => Heap.lt_size (N p hp).1)) (fun fl s' hl => lv _ _ hl) fun _ _ y => y.elim
  rcases List.mem_append.mp hp with hp | hp
  · refine ⟨(NC p hp).1, (NC p hp).2.1, ?_⟩
    cases q : (hideAll s.heap (news.map (·.1))).get? p.1 with
    | none => rfl
    | some o => have := of_hideAll _ q; rw [(NC p hp).2.2] at this; cases this
  · exact ⟨hk₁ _ _ (N p hp).1, Nat.ne_of_lt (Heap.lt_size (N p hp).1), hideAll_none _ (List.mem_map_of_mem hp)⟩

end
end

section
open PySem PySem.W PySem.Calls PyProof.Rows
section
variable {prog : Program} {w : World} {A : Around} {E : Value → Shared → Prop} {s : Shared} {h₀ : Heap} {L : Addr} {m : Str → Option Value} {pg : PG} {st : ST} {rest : List (Addr × Obj)} {p : Program} {loose : List Str} {mg mb : Str → Option Value}
section
variable {M₀ : Model} {C : Addr} {m₂ : Str → Option Value} {news : List (Addr × Obj)} {scope : Scope} {cl : List (Str × Addr)} {env : Env} {x : Str} {pos : Pos} {v : Value} {oC : Obj} {Q : Value → Shared → Prop} {K : Frag}
theorem nameQ_G (F : Fr h₀ L s.heap m) (X : K.In h₀) (T : TopRead p loose mg mb h₀) (e : nsIn K mainGlobals x = some (some v)) (h : Q v s) (hg : env.globals = mainGlobals := by rfl)
    (hk : (compEnvC scope cl C env).scope.kind = .function := by rfl) (hx : (compEnvC scope cl C env).kindOf x = some .globalImplicit := by rfl) (hd : (x == ("__debug__" : Str)) = false := by decide) :
    wpAny M₀ A (eval (.Name x pos) (compEnvC scope cl C env)) Q E s :=
  Name_function_global hk hx (loadGlobal_global (env := compEnvC scope cl C env) (show s.heap.Ns env.globals mg from hg ▸ T.g.keeps F.keep) (mg_of X T.g e) h) hd
theorem nameQ_B (F : Fr h₀ L s.heap m) (X : K.In h₀) (T : TopRead p loose mg mb h₀) (e : nsIn K mainGlobals x = some none) (hv : bootBuiltins x = some v) (hn : x ≠ "__name__") (h : Q v s) (hg : env.globals = mainGlobals := by rfl) (hb : env.builtins = builtinsNs := by rfl)
    (hk : (compEnvC scope cl C env).scope.kind = .function := by rfl) (hx : (compEnvC scope cl C env).kindOf x = some .globalImplicit := by rfl) (hd : (x == ("__debug__" : Str)) = false := by decide) :
    wpAny M₀ A (eval (.Name x pos) (compEnvC scope cl C env)) Q E s :=
  Name_function_global hk hx (loadGlobal_builtin (env := compEnvC scope cl C env) (show s.heap.Ns env.globals mg from hg ▸ T.g.keeps F.keep) (mg_none_of X T.g e) (show s.heap.Ns env.builtins mb from hb ▸ T.b.keeps F.keep) ((T.builtins x hn).trans hv) h) hd
end

open LCg in
theorem rest_J {env : Env} {elt : Expr} {x : Str} {scope : Scope} {cl : List (Str × Addr)} {S : List (Addr × Obj) → Prop} {P : Nat → Value → Prop} {Fin : List Value → List (Addr × Obj) → Prop} {n : Nat}
    (J : Nat → List Value → List (Addr × Obj) → Prop)
    (helt : ∀ (i : Nat) (ys : List Value) (news : List (Addr × Obj)) (v : Value) (I : Addr) (oI : Obj) (C : Addr) (oC : Obj) (D : Addr) (m₂ : Str → Option Value) (h : Heap) (tk : Nat) (E' : Value → Shared → Prop), i < n → P i v → J i ys news → NsObj oC m₂ → m₂ x = some v → Fr h₀ L h m → News h₀ L h ((I, oI) :: (C, oC) :: (D, lst ys) :: news) → Off3 I C D news → S news →
      wpAny (model prog w) A (eval elt (compEnvC scope cl C env)) (fun y s₂ => ∃ h' tk' news', s₂ = { s with heap := h', toks := tk' } ∧ Fr h₀ L h' m ∧ News h₀ L h' ((I, oI) :: (C, oC) :: (D, lst ys) :: news') ∧ Off3 I C D news' ∧ S news' ∧ J (i + 1) (ys ++ [y]) news') E' { s with heap := h, toks := tk })
    (hfin : ∀ ys news, J n ys news → S news → Fin ys news) :
    ∀ (k i : Nat) (ys : List Value) (news : List (Addr × Obj)), n - i = k → i ≤ n → J i ys news → S news → CompRest prog w A h₀ L m env elt x scope cl s S P Fin k i ys news := by
  intro k
  induction k with
  | zero =>
    intro i ys news hk hi hJ hS
    have : i = n := by lia
    subst this
    exact CompRest.zero (hfin _ _ hJ hS)
  | succ k ih =>
    intro i ys news hk hi hJ hS
    refine CompRest.succ fun v I oI C oC D m₂ h tk E' hP hC hx F N off ne => ?_
    refine wpAny_mono (helt i ys news v I oI C oC D m₂ h tk E' (lt_s hk) hP hJ hC hx F N off hS) (fun y s₂ hy => ?_) fun _ _ e => e
    refine ex3 hy fun h' tk' news' hx => an6 hx fun zr3 F' N' off' hS' hJ' => ?_
    (try clear hy)
    subst zr3
    exact xi3 h' tk' news' ⟨rfl, F', N', off', hS', ih (i + 1) _ _ (sub_s hk) (lt_s hk) hJ' hS'⟩

noncomputable def Each (V : Nat → Value → Prop) (news₀ : List (Addr × Obj)) (i : Nat) (ys : List Value) (news : List (Addr × Obj)) : Prop := news = news₀ ∧ ys.length = i ∧ ∀ j y, ys[j]? = some y → V j y
theorem Each.nil {V : Nat → Value → Prop} {news : List (Addr × Obj)} : Each V news 0 [] news := ⟨rfl, rfl, fun j y h => by simp at h⟩
theorem Each.snoc {V : Nat → Value → Prop} {news₀ news : List (Addr × Obj)} {i : Nat} {ys : List Value} {y : Value} (x : Each V news₀ i ys news) (h : V i y) : Each V news₀ (i + 1) (ys ++ [y]) news := by
  refine an3 x fun a b c => ?_
  (try clear x)
  refine ⟨a, by rw [List.length_append, List.length_singleton, b], fun j z hz => ?_⟩
  refine (snoc_at hz).elim (fun hz => c j z hz) fun hq => ?_
  rw [hq.1, hq.2, b]
  exact h

open LCg in
theorem rest_E {env : Env} {elt : Expr} {x : Str} {scope : Scope} {cl : List (Str × Addr)} {S : List (Addr × Obj) → Prop} {P : Nat → Value → Prop} {Fin : List Value → List (Addr × Obj) → Prop} {n : Nat} {news : List (Addr × Obj)}
    (V : Nat → Value → Prop)
    (helt : ∀ (i : Nat) (ys : List Value) (v : Value) (I : Addr) (oI : Obj) (C : Addr) (oC : Obj) (D : Addr) (m₂ : Str → Option Value) (h : Heap) (tk : Nat) (E' : Value → Shared → Prop), i < n → P i v → NsObj oC m₂ → m₂ x = some v → Fr h₀ L h m → News h₀ L h ((I, oI) :: (C, oC) :: (D, lst ys) :: news) → Off3 I C D news →
      wpAny (model prog w) A (eval elt (compEnvC scope cl C env)) (fun y s₂ => ∃ h' tk', s₂ = { s with heap := h', toks := tk' } ∧ Fr h₀ L h' m ∧ News h₀ L h' ((I, oI) :: (C, oC) :: (D, lst ys) :: news) ∧ V i y) E' { s with heap := h, toks := tk })
    (hS : S news) (hfin : ∀ ys, ys.length = n → (∀ j y, ys[j]? = some y → V j y) → Fin ys news) :
    CompRest prog w A h₀ L m env elt x scope cl s S P Fin n 0 [] news :=
  rest_J (Each V news) (fun i ys nw v I oI C oC D m₂ h tk E' hi hP hJ hC hx F N off hS => by
      refine an3 hJ fun zr2 hl hv => ?_
      (try clear hJ)
      subst zr2
      refine wpAny_mono (helt i ys v I oI C oC D m₂ h tk E' hi hP hC hx F N off) (fun y s₂ hy => ?_) fun _ _ e => e
      refine ex2 hy fun h' tk' hx => an4 hx fun zr1 F' N' hV => ?_
      (try clear hy)
      subst zr1
      exact xi3 h' tk' nw ⟨rfl, F', N', off, hS, Each.snoc ⟨rfl, hl, hv⟩ hV⟩)
    (fun ys nw hJ _ => by obtain ⟨rfl, hl, hv⟩ := hJ; exact hfin ys hl hv) n 0 [] news (by lia) (Nat.zero_le _) Each.nil hS

end
end

section
open PySem PySem.W PySem.Calls PyProof.Rows
section
variable {prog : Program} {w : World} {A : Around} {E : Value → Shared → Prop} {s : Shared} {h₀ : Heap} {L : Addr} {m : Str → Option Value} {pg : PG} {st : ST} {rest : List (Addr × Obj)} {p : Program} {loose : List Str} {mg mb : Str → Option Value}
theorem forOnceG {R : Result → Shared → Prop} {target : Expr} {it : Value} {body orelse : List Stmt} {env : Env}
    (h : wpAny (model prog w) A (pyNext it) (fun r s₁ => match r with
      | none => wpAny (model prog w) A (execs orelse env) (fun f s₃ => R (.ok f) s₃) (notedBy (model prog w) A env fun e s' => R (.error e) s') s₁
      | some v => wpAny (model prog w) A (letOwnedTupleGo target it v) (fun _ s₁' => wpAny (model prog w) A (assign target env v) (fun _ s₂ => wpAny (model prog w) A (execs body env) (fun f s₃ => match f with
          | .next | .cont => codeAny (model prog w) A (.forLoop target it body orelse env) R s₃
          | .brk => R (.ok .next) s₃
          | .ret v => R (.ok (.ret v)) s₃) (notedBy (model prog w) A env fun e s' => R (.error e) s') s₂) (notedBy (model prog w) A env fun e s' => R (.error e) s') s₁') (notedBy (model prog w) A env fun e s' => R (.error e) s') s₁) (notedBy (model prog w) A env fun e s' => R (.error e) s') s) :
    codeAny (model prog w) A (.forLoop target it body orelse env) R s := by
  refine codeAny_of_tree ?_
  show wpAny _ _ ((forTurn target it body orelse env).onRaise (fun x => do noteFrame x env; theTreesLotGoes x)) _ _ s
  refine wpAny_noted ?_
  simp -iota only [forTurn]
  refine wpAny_bind (wpAny_standAt (wpAny_bind (wpAny_onRaise (wpAny_mono h (fun r s₁ h₁ => ?_) fun _ _ h' => wpAny_standAt h'))))
  cases r with
  | none => exact wpAny_pure ⟨rfl, codeAny_block h₁⟩
  | some v =>
    refine wpAny_bind (wpAny_mono h₁ (fun _ s₁' h₁' => ?_) fun _ _ h' => h')
    refine wpAny_bind (wpAny_mono h₁' (fun _ s₂ h₂ => wpAny_bind (wpAny_mono h₂ (fun f s₃ h₃ => ?_) fun _ _ h' => h')) fun _ _ h' => h')
    cases f with
    | next => exact wpAny_pure ⟨rfl, h₃⟩
    | cont => exact wpAny_pure ⟨rfl, h₃⟩
    | brk => exact wpAny_pure h₃
    | ret v => exact wpAny_pure h₃

noncomputable def Goes (h₀ : Heap) (L I : Addr) (oI : Obj) (S : List (Addr × Obj) → Prop) (s₀ : Shared) (J : Array GenState → (Str → Option Value) → List (Addr × Obj) → Prop) (f : Flow) (s₃ : Shared) : Prop :=
  (f = .next ∨ f = .cont) ∧ ∃ h' tk' g' m' news', s₃ = { s₀ with heap := h', toks := tk', gens := g' } ∧ Fr h₀ L h' m' ∧ News h₀ L h' ((I, oI) :: news') ∧ (∀ q ∈ news', q.1 ≠ I) ∧ S news' ∧ J g' m' news'

open LCg in
theorem forJ {target : Expr} {I : Addr} {fp : List Addr} {n : Nat} {P : Nat → Value → Prop} {St : Nat → Heap → Prop} {S : List (Addr × Obj) → Prop} {body : List Stmt} {env : Env} {R : Result → Shared → Prop}
    (J : Nat → Array GenState → (Str → Option Value) → List (Addr × Obj) → Prop)
    (W : Walks prog w A I fp [I] n P St) (hIo : ∀ i h, St i h → ∃ o, h.get? I = some o)
    (hSt : ∀ i h h' o nw, St i h → h.get? I = some o → h'.get? I = some o → (∀ b o, h₀.get? b = some o → h'.get? b = some o) → News h₀ L h' nw → S nw → St i h')
    (hIL : L ≠ I) (hI0 : h₀.get? I = none)
    (step : ∀ (i : Nat) (v : Value) (g : Array GenState) (h : Heap) (tk : Nat) (m : Str → Option Value) (news : List (Addr × Obj)) (oI : Obj) (E' : Value → Shared → Prop), i < n → P i v → J i g m news → S news → Fr h₀ L h m → News h₀ L h ((I, oI) :: news) → (∀ q ∈ news, q.1 ≠ I) → St (i + 1) h →
      wpAny (model prog w) A (letOwnedTupleGo target (.ref I) v) (fun _ s₁ => wpAny (model prog w) A (assign target env v) (fun _ s₂ => wpAny (model prog w) A (execs body env)
        (Goes h₀ L I oI S s (J (i + 1))) E' s₂) E' s₁) E' { s with heap := h, toks := tk, gens := g })
    (hE : ∀ h tk g m news, Fr h₀ L h m → News h₀ L h news → S news → J n g m news → R (.ok .next) { s with heap := h, toks := tk, gens := g }) :
    ∀ (k i : Nat) (h : Heap) (tk : Nat) (g : Array GenState) (m : Str → Option Value) (news : List (Addr × Obj)), n - i = k → i ≤ n → St i h → Fr h₀ L h m → News h₀ L h news → (∀ q ∈ news, q.1 ≠ I) → S news → J i g m news →
      codeAny (model prog w) A (.forLoop target (.ref I) body [] env) R { s with heap := h, toks := tk, gens := g } := by
  intro k
  induction k with
  | zero =>
    intro i h tk g m news hk hi st F N off hS hJ
    have : i = n := eq_0 hk hi
    subst this
    refine forOnceG (W.done _ _ _ st fun h₁ tk₁ hk₁ => ?_)
    exact wpAny_execs_nil (hE _ _ _ _ _ (fr_but F hk₁ hIL hI0) (news_but N hk₁ off) hS hJ)
  | succ k ih =>
    intro i h tk g m news hk hi st F N off hS hJ
    have hlt : i < n := lt_s hk
    refine forOnceG (W.item i _ _ _ hlt st fun v h₁ tk₁ hP st₁ hk₁ => ?_)
    refine Exists.elim (hIo _ _ st₁) fun oI heI => ?_
    have N₁ : News h₀ L h₁ ((I, oI) :: news) := fun q hq => by
      revert q hq
      refine all_cons ?_ fun q hq => ?_
      · exact ⟨heI, Ne.symm hIL, hI0⟩
      · exact news_but N hk₁ off q hq
    refine wpAny_mono (step i v g h₁ tk₁ m news oI _ hlt hP hJ hS (fr_but F hk₁ hIL hI0) N₁ off st₁) (fun _ s₁ h₁ => wpAny_mono h₁ (fun _ s₂ h₂ => wpAny_mono h₂ (fun f s₃ h₃ => ?_) fun _ _ e => e) fun _ _ e => e) fun _ _ e => e
    refine an2 h₃ fun hf hx => ex5 hx fun h' tk' g' m' news' hx => an6 hx fun zr1 F' N' off' hS' hJ' => ?_
    (try clear h₃)
    subst zr1
    have N'' : News h₀ L h' news' := fun q hq => N' q (.tail _ hq)
    have := ih (i + 1) h' tk' g' m' news' (sub_s hk) hlt (hSt _ _ _ _ _ st₁ heI (N' _ (.head _)).1 F'.keep N'' hS') F' N'' off' hS' hJ'
    rcases hf with rfl | rfl <;> exact this

end
end

section
open PySem PySem.W PySem.Calls PyProof.Rows
section
variable {prog : Program} {w : World} {A : Around} {E : Value → Shared → Prop} {s : Shared} {h₀ : Heap} {L : Addr} {m : Str → Option Value} {pg : PG} {st : ST} {rest : List (Addr × Obj)} {p : Program} {loose : List Str} {mg mb : Str → Option Value}
open LCg
theorem compLoopG {elt target iter : Expr} {ifs : List Expr} {scope : Scope} {pos : Pos} {it acc : Value} {env : Env} {R : Result → Shared → Prop} (I : Nat → Shared → Prop)
    (turn : ∀ n s, I n s → wpAny (model prog w) A (pyNext it) (fun r s₁ => match r with
      | none => R (.ok .next) s₁
      | some v => wpAny (model prog w) A (letOwnedTupleGo target it v) (fun _ s₁' => wpAny (model prog w) A (assign target env v) (fun _ s₂ =>
          wpAny (model prog w) A (forIn ifs true fun c r => if r = true then do let ok ← isTrue c env (eval c env); pure (ForInStep.yield ok) else pure (ForInStep.yield r)) (fun ok s₃ =>
            if ok = true then wpAny (model prog w) A (eval elt env) (fun x s₄ =>
              wpAny (model prog w) A (call (.builtin "list.append") [acc, x]) (fun _ s₅ => ∃ m, m < n ∧ I m s₅) (notedBy (model prog w) A env fun e s' => R (.error e) s') s₄) (notedBy (model prog w) A env fun e s' => R (.error e) s') s₃
            else ∃ m, m < n ∧ I m s₃) (notedBy (model prog w) A env fun e s' => R (.error e) s') s₂)
          (notedBy (model prog w) A env fun e s' => R (.error e) s') s₁') (notedBy (model prog w) A env fun e s' => R (.error e) s') s₁) (notedBy (model prog w) A env fun e s' => R (.error e) s') s)
    (n : Nat) (h : I n s) : codeAny (model prog w) A (.compLoop (.ListComp elt [⟨target, iter, ifs, 0⟩] scope pos) 0 it acc env) R s := by
  refine codeAny_loop rfl I (fun n s hI => ?_) n h
  show wpAny _ A ((compTurn (.ListComp elt [⟨target, iter, ifs, 0⟩] scope pos) 0 it acc env).onRaise (fun x => do noteFrame x env; theTreesLotGoes x)) _ _ s
  refine wpAny_noted ?_
  rw [compTurn_list]
  refine wpAny_bind (wpAny_standAt (wpAny_bind (wpAny_mono (turn n s hI) (fun r s₁ h₁ => ?_) fun _ _ h' => h')))
  cases r with
  | none => exact wpAny_pure h₁
  | some v =>
    refine wpAny_bind (wpAny_mono h₁ (fun _ s₁' h₁' => ?_) fun _ _ h' => h')
    refine wpAny_bind (wpAny_mono h₁' (fun _ s₂ h₂ => wpAny_bind (wpAny_mono h₂ (fun ok s₃ h₃ => ?_) fun _ _ h' => h')) fun _ _ h' => h')
    cases ok with
    | false => exact wpAny_pure ⟨rfl, h₃⟩
    | true => exact wpAny_bind (wpAny_bind (wpAny_mono h₃ (fun x s₄ h₄ => wpAny_bind (wpAny_mono h₄ (fun _ s₅ h₅ => wpAny_pure (wpAny_pure ⟨rfl, h₅⟩)) fun _ _ h' => h')) fun _ _ h' => h'))

noncomputable def EndJ (h₀ : Heap) (L : Addr) (m : Str → Option Value) (s : Shared) (I : Addr) (oI : Obj) (C D : Addr) (ys : List Value) (S : List (Addr × Obj) → Prop) (J : Value → List (Addr × Obj) → Prop) (y : Value) (s₂ : Shared) : Prop :=
  ∃ h' tk' oC' m' news', s₂ = { s with heap := h', toks := tk' } ∧ Fr h₀ L h' m ∧ News h₀ L h' ((I, oI) :: (C, oC') :: (D, lst ys) :: news') ∧ NsObj oC' m' ∧ Off3 I C D news' ∧ S news' ∧ J y news'

noncomputable def TurnsJ (prog : Program) (w : World) (A : Around) (h₀ : Heap) (L : Addr) (m : Str → Option Value) (env : Env) (target : Expr) (ifs : List Expr) (elt : Expr) (scope : Scope) (cl : List (Str × Addr)) (s : Shared) (I C D : Addr) (n : Nat) (P : Nat → Value → Prop) (St : Nat → Heap → Prop)
    (S : List (Addr × Obj) → Prop) (J : Nat → List Value → List (Addr × Obj) → Prop) : Prop :=
  ∀ (i : Nat) (v : Value) (ys : List Value) (news : List (Addr × Obj)) (h : Heap) (tk : Nat) (oI oC : Obj) (m₂ : Str → Option Value) (E' : Value → Shared → Prop), i < n → P i v → J i ys news → S news → Fr h₀ L h m → News h₀ L h ((I, oI) :: (C, oC) :: (D, lst ys) :: news) → Off3 I C D news → (I ≠ C ∧ I ≠ D ∧ C ≠ D) → NsObj oC m₂ → St (i + 1) h →
    wpAny (model prog w) A (letOwnedTupleGo target (.ref I) v) (fun _ s₁' => wpAny (model prog w) A (assign target (compEnvC scope cl C env) v) (fun _ s₂ =>
      wpAny (model prog w) A (forIn ifs true fun c r => if r = true then do let ok ← isTrue c (compEnvC scope cl C env) (eval c (compEnvC scope cl C env)); pure (ForInStep.yield ok) else pure (ForInStep.yield r)) (fun ok s₃ =>
        if ok = true then wpAny (model prog w) A (eval elt (compEnvC scope cl C env)) (EndJ h₀ L m s I oI C D ys S (fun y nw => J (i + 1) (ys ++ [y]) nw)) E' s₃
        else EndJ h₀ L m s I oI C D ys S (fun _ nw => J (i + 1) ys nw) .none s₃) E' s₂) E' s₁') E' { s with heap := h, toks := tk }

theorem compCore {target elt iter : Expr} {ifs : List Expr} {scope : Scope} {cl : List (Str × Addr)} {pos : Pos} {env : Env} {I C D : Addr} {fp : List Addr} {n : Nat} {P : Nat → Value → Prop} {St : Nat → Heap → Prop} {S : List (Addr × Obj) → Prop} {R : Result → Shared → Prop}
    (J : Nat → List Value → List (Addr × Obj) → Prop)
    (W : Walks prog w A I fp [I] n P St) (hsz : n ≤ sizeLine) (hIo : ∀ i h, St i h → ∃ o, h.get? I = some o)
    (hSt : ∀ i h h' o nw, St i h → h.get? I = some o → h'.get? I = some o → (∀ b o, h₀.get? b = some o → h'.get? b = some o) → News h₀ L h' nw → S nw → St i h')
    (hfp : D ∉ fp) (hCI : I ≠ C) (hDI : I ≠ D) (hCD : C ≠ D) (hIL : L ≠ I) (hCL : C ≠ L) (hDL : D ≠ L) (hI0 : h₀.get? I = none) (hC0 : h₀.get? C = none) (hD0 : h₀.get? D = none) (hlen : ∀ i ys news, J i ys news → ys.length ≤ i)
    (turn : TurnsJ prog w A h₀ L m env target ifs elt scope cl s I C D n P St S J)
    (fin : ∀ h tk ys m' news, Fr h₀ L h m → News h₀ L h ((D, lst ys) :: news) → Off3 I C D news → h.Ns C m' → S news → J n ys news → R (.ok .next) { s with heap := h, toks := tk })
    (h₁ : Heap) (tk₁ : Nat) (news : List (Addr × Obj)) (m₁ : Str → Option Value) (hst : St 0 h₁) (F : Fr h₀ L h₁ m) (hn : h₁.Ns C m₁) (N : News h₀ L h₁ ((D, lst []) :: news)) (off : Off3 I C D news) (hS : S news) (hJ : J 0 [] news) :
    codeAny (model prog w) A (.compLoop (.ListComp elt [⟨target, iter, ifs, 0⟩] scope pos) 0 (.ref I) (.ref D) (compEnvC scope cl C env)) R { s with heap := h₁, toks := tk₁ } := by
  refine compLoopG
    (fun k s' => ∃ h' tk i ys m' news', s' = { s with heap := h', toks := tk } ∧ i ≤ n ∧ k = n + 1 - i ∧ St i h' ∧ Fr h₀ L h' m ∧ h'.Ns C m' ∧ News h₀ L h' ((D, lst ys) :: news') ∧
      Off3 I C D news' ∧ S news' ∧ J i ys news') ?_ (n + 1)
    ⟨h₁, tk₁, 0, [], m₁, news, rfl, Nat.zero_le _, rfl, hst, F, hn, N, off, hS, hJ⟩
  rintro k s' ⟨h', tk, i, ys, m', news', rfl, hi, rfl, hst', F', hn', N', off', hS', hJ'⟩
  by_cases hlt : i < n
  · refine W.item i _ _ _ hlt hst' fun v h₂ tk₂ hPv hst₂ hk₂ => ?_
    refine Exists.elim (hIo _ _ hst₂) fun oI heI => ?_
    have off3 := off'.mem
    have N₂ : News h₀ L h₂ ((D, lst ys) :: news') := news_but N' hk₂ fun p hp => by
      revert p hp
      refine all_cons ?_ fun p hp => ?_
      · exact Ne.symm hDI
      · exact (off3 p hp).1
    have hn₂ : h₂.Ns C m' := hn'.at' fun o e => hk₂ _ o (by simpa using Ne.symm hCI) e
    refine Exists.elim (ns_obj hn₂) fun oC hx => an2 hx fun heC hoC => ?_
    have N₃ : News h₀ L h₂ ((I, oI) :: (C, oC) :: (D, lst ys) :: news') := fun p hp => by
      revert p hp
      refine all_cons ?_ fun p hp => ?_
      · exact ⟨heI, Ne.symm hIL, hI0⟩
      · revert p hp
        refine all_cons ?_ fun p hp => ?_
        · exact ⟨heC, hCL, hC0⟩
        · exact N₂ p hp
    refine wpAny_mono (turn i v ys news' h₂ tk₂ oI oC m' _ hlt hPv hJ' hS' (fr_but F' hk₂ hIL hI0) N₃ off' ⟨hCI, hDI, hCD⟩ hoC hst₂) (fun _ s₁ g₁ => wpAny_mono g₁ (fun _ s₂ g₂ => wpAny_mono g₂ (fun ok s₃ g₃ => ?_) fun _ _ e => e) fun _ _ e => e) fun _ _ e => e
    cases ok with
    | true =>
      simp only [if_true] at g₃ ⊢
      refine wpAny_mono g₃ (fun y s₄ g₄ => ?_) fun _ _ e => e
      refine ex5 g₄ fun h₄ tk₄ oC' m₄ news₄ hx => an7 hx fun zr2 F₄ N₄ hoC' off₄ hS₄ hJ₄ => ?_
      (try clear g₄)
      subst zr2
      have zI := (N₄ (I, oI) List.mem_cons_self).1
      have zC := (N₄ (C, oC') (List.mem_cons_of_mem _ List.mem_cons_self)).1
      have zD := (N₄ (D, lst ys) (List.mem_cons_of_mem _ (List.mem_cons_of_mem _ List.mem_cons_self))).1
      have N₄' : News h₀ L h₄ news₄ := fun p hp => N₄ p (List.mem_cons_of_mem _ (List.mem_cons_of_mem _ (List.mem_cons_of_mem _ hp)))
      have hst₄ : St (i + 1) h₄ := hSt _ _ _ _ _ hst₂ heI zI F₄.keep N₄' hS₄
      have hyl := hlen _ _ _ hJ'
      refine append_at (hsz := by show ys.toArray.size ≤ sizeLine; rw [List.size_toArray]; exact Nat.le_trans (Nat.le_trans hyl hi) hsz) zD fun h₅ hs₅ hD₅ => ?_
      have off4 := off₄.mem
      refine ⟨n + 1 - (i + 1), Nat.sub_lt_sub_left (Nat.lt_succ_of_lt hlt) (Nat.lt_succ_self i), h₅, tk₄, i + 1, ys ++ [y], m₄, news₄, rfl, hlt, rfl, W.frame _ _ _ hst₄ fun b hb o e => hs₅.extBut b o (fun q => hfp (q ▸ hb)) e, F₄.change hs₅ hDL hD0,
        (hoC'.ns zC).sameBut hs₅ hCD, fun p hp => ?_, off₄, hS₄, hJ₄⟩
      revert p hp
      refine all_cons ?_ fun p hp => ?_
      · exact ⟨hD₅.trans (congrArg some (lst_snoc ys y)), hDL, hD0⟩
      · exact ⟨hs₅.extBut _ _ (off4 p hp).2.2 (N₄' p hp).1, (N₄' p hp).2⟩
    | false =>
      simp only [Bool.false_eq_true, if_false] at g₃ ⊢
      refine ex5 g₃ fun h₄ tk₄ oC' m₄ news₄ hx => an7 hx fun zr1 F₄ N₄ hoC' off₄ hS₄ hJ₄ => ?_
      (try clear g₃)
      subst zr1
      have zI := (N₄ (I, oI) List.mem_cons_self).1
      have zC := (N₄ (C, oC') (List.mem_cons_of_mem _ List.mem_cons_self)).1
      have N₄' : News h₀ L h₄ news₄ := fun p hp => N₄ p (List.mem_cons_of_mem _ (List.mem_cons_of_mem _ (List.mem_cons_of_mem _ hp)))
      have hst₄ : St (i + 1) h₄ := hSt _ _ _ _ _ hst₂ heI zI F₄.keep N₄' hS₄
      refine ⟨n + 1 - (i + 1), Nat.sub_lt_sub_left (Nat.lt_succ_of_lt hlt) (Nat.lt_succ_self i), h₄, tk₄, i + 1, ys, m₄, news₄, rfl, hlt, rfl, hst₄, F₄, hoC'.ns zC, fun p hp => ?_, off₄, hS₄, hJ₄⟩
      revert p hp
      refine all_cons ?_ fun p hp => ?_
      · exact N₄ _ (List.mem_cons_of_mem _ (List.mem_cons_of_mem _ List.mem_cons_self))
      · exact N₄' p hp
  · obtain rfl : i = n := Nat.le_antisymm hi (Nat.not_lt.mp hlt)
    refine W.done _ _ _ hst' fun h₂ tk₂ hk₂ => ?_
    have off3 := off'.mem
    exact fin h₂ tk₂ ys m' news' (fr_but F' hk₂ hIL hI0) (news_but N' hk₂ fun p hp => by
      revert p hp
      refine all_cons ?_ fun p hp => ?_
      · exact Ne.symm hDI
      · exact (off3 p hp).1) off' (hn'.at' fun o e => hk₂ _ o (by simpa using Ne.symm hCI) e) hS' hJ'

end
end

section
open PySem PySem.W PySem.Calls PyProof.Rows
section
variable {prog : Program} {w : World} {A : Around} {E : Value → Shared → Prop} {s : Shared} {h₀ : Heap} {L : Addr} {m : Str → Option Value} {pg : PG} {st : ST} {rest : List (Addr × Obj)} {p : Program} {loose : List Str} {mg mb : Str → Option Value}
open LCg
theorem newEnv_around {M₀ : Model} {scope : Scope} {globals : Addr} {cl : List (Str × Addr)} {qual : Str} {env : Env} {Q : Env → Shared → Prop} (hk : scope.kind = .function)
    (h : Q { scope, locals := s.heap.objs.size, globals, cells := cellsFrom (s.heap.objs.size + 1) scope.names cl, qual, func := none, code := env.code, frame := env.frame, builtins := env.builtins }
      { s with heap := pushCells (s.heap.push { cls := .type "dict", data := .dict #[] }) scope.names }) :
    wpAny M₀ A (newFunctionEnv scope globals cl [] qual none .none (some env)) Q E s := by
  simp only [newFunctionEnv, Option.isSome_some, if_true]
  refine wpAny_bind (wpAny_alloc ?_)
  refine wpAny_bind (wpAny_layCells _ (fun name kind cells => by cases hkc : kind == NameKind.cell <;> simp [hkc]) _ _ _ _ ?_)
  rw [show ({ s with heap := s.heap.push { cls := .type "dict", data := .dict #[] } } : Shared).heap.objs.size = s.heap.objs.size + 1 from Heap.size_push ..]
  exact wpAny_bind (by rw [List.forIn_nil]; exact wpAny_pure (wpAny_pure h))

structure SrcJ (prog : Program) (w : World) (A : Around) (h₀ : Heap) (L : Addr) (m : Str → Option Value) (I : Addr) (fp : List Addr) (n : Nat) (P : Nat → Value → Prop) (St : Nat → Heap → Prop) (S : List (Addr × Obj) → Prop) (news : List (Addr × Obj)) (s : Shared) : Prop where
  W : Walks prog w A I fp [I] n P St
  hsz : n ≤ sizeLine
  hIo : ∀ i h, St i h → ∃ o, h.get? I = some o
  hSt : ∀ i h h' o nw, St i h → h.get? I = some o → h'.get? I = some o → (∀ b o, h₀.get? b = some o → h'.get? b = some o) → News h₀ L h' nw → S nw → St i h'
  hfp : ∀ b ∈ fp, b < s.heap.objs.size
  hIL : L ≠ I
  hI0 : h₀.get? I = none
  off : ∀ q ∈ news, q.1 ≠ I
  hst : St 0 s.heap
  F : Fr h₀ L s.heap m
  N : News h₀ L s.heap news
  hS : S news

theorem next_new {h₁ : Heap} (F : Fr h₀ L h₁ m) : ∀ a, h₁.objs.size ≤ a → h₁.get? a = none ∧ h₀.get? a = none := fun a ha => by
  have e1 : h₁.get? a = none := by
    cases e : h₁.get? a with
    | none => rfl
    | some o' => exact absurd (Heap.lt_size e) (Nat.not_lt.mpr ha)
  refine ⟨e1, ?_⟩
  cases e : h₀.get? a with
  | none => rfl
  | some o' => have := F.keep a o' e; rw [e1] at this; cases this

theorem compJ0 {target elt iter : Expr} {ifs : List Expr} {scope : Scope} {cl : List (Str × Addr)} {pos : Pos} {env : Env} {Q : Value → Shared → Prop}
    (hclos : closureFor scope env = pure cl) (hcell : ∀ n acc, cellsFrom n scope.names acc = acc) (hpush : ∀ h, pushCells h scope.names = h) (hkind : scope.kind = .function)
    (hnames : ∀ y ∈ scope.names, y.2 = .local → scope.names.lookup y.1 = some .local)
    (h : wpAny (model prog w) A (eval iter env) (fun xv s₁ => wpAny (model prog w) A (pyIter xv) (fun it s₂ => ∃ I fp n P St S news, it = .ref I ∧ SrcJ prog w A h₀ L m I fp n P St S news s₂ ∧ ∃ J : Nat → List Value → List (Addr × Obj) → Prop, J 0 [] news ∧ (∀ i ys nw, J i ys nw → ys.length ≤ i) ∧
      (∀ C D, TurnsJ prog w A h₀ L m env target ifs elt scope cl s₂ I C D n P St S J) ∧ (∀ D ys nw, J n ys nw → S nw → ∀ h tk, Fr h₀ L h m → News h₀ L h ((D, lst ys) :: nw) → Off1 D nw → Q (.ref D) { s₂ with heap := h, toks := tk })) E s₁) E s)
    (hs : ∀ x, foldedSetIterable iter env x = pure x := by intro _; rfl) :
    wpAny (model prog w) A (eval (.ListComp elt [⟨target, iter, ifs, 0⟩] scope pos) env) Q E s := by
  rw [eval_ListComp]
  refine wpAny_comprehension_free (use := none) rfl hs hclos hkind hnames (wpAny_mono h (fun xv s₁ h₁ => wpAny_mono h₁ (fun it s₂ h₂ => ?_) fun _ _ e => e) fun _ _ e => e)
  refine ex7 h₂ fun I fp n P St S news hx => an3 hx fun zr2 X hx => Exists.elim hx fun J hx => an4 hx fun hJ0 hlen turn fin => ?_
  (try clear h₂)
  subst zr2
  have nn := next_new X.F
  refine wpAny_newObj_type (newEnv_around hkind ?_)
  dsimp only
  rw [hcell, hpush]
  rw [Heap.size_push]
  have hLlt : L < s₂.heap.objs.size := X.F.ns.lt
  have hIlt : I < s₂.heap.objs.size := X.hfp _ (X.W.sub I (List.mem_singleton.mpr rfl))
  have hlt : ∀ p ∈ news, p.1 < s₂.heap.objs.size := fun p hp => Heap.lt_size (X.N p hp).1
  generalize hH2 : s₂.heap.push { cls := .type "list", dict := none, data := .seq ([] : List Value).toArray } = H2
  have z2 : H2.objs.size = s₂.heap.objs.size + 1 := by rw [← hH2, Heap.size_push]
  have old : ∀ b o, s₂.heap.get? b = some o → (H2.push { cls := .type "dict", data := .dict #[] }).get? b = some o := fun b o e => Heap.get?_push_of_some _ (by rw [← hH2]; exact Heap.get?_push_of_some _ e)
  have hD : (H2.push { cls := .type "dict", data := .dict #[] }).get? s₂.heap.objs.size = some (lst []) := Heap.get?_push_of_some _ (by rw [← hH2]; exact Heap.get?_push_size _ rfl)
  have hC : (H2.push { cls := .type "dict", data := .dict #[] }).Ns (s₂.heap.objs.size + 1) (fun _ => none) := by
    rw [← z2]
    exact xi3 _ (#[]) _ ⟨Heap.get?_push_size _ rfl, rfl, by intro e he; simp at he, fun _ => rfl⟩
  have b1 := nn s₂.heap.objs.size (Nat.le_refl _)
  have b2 := nn (s₂.heap.objs.size + 1) (Nat.le_succ _)
  have loop : codeAny (model prog w) A (.compLoop (.ListComp elt [⟨target, iter, ifs, 0⟩] scope pos) 0 (.ref I) (.ref s₂.heap.objs.size) (compEnvC scope cl (s₂.heap.objs.size + 1) env))
      (compPost (model prog w) A E none Q (.ref s₂.heap.objs.size) (s₂.heap.objs.size + 1)) { s₂ with heap := H2.push { cls := .type "dict", data := .dict #[] }, toks := s₂.toks } := by
    refine compCore (h₀ := h₀) (L := L) (m := m) J X.W X.hsz X.hIo X.hSt (fun hm => Nat.lt_irrefl _ (X.hfp _ hm)) (Nat.ne_of_lt (Nat.lt_succ_of_lt hIlt)) (Nat.ne_of_lt hIlt) (Nat.ne_of_gt (Nat.lt_succ_self _)) X.hIL (Nat.ne_of_gt (Nat.lt_succ_of_lt hLlt)) (Nat.ne_of_gt hLlt) X.hI0 b2.2 b1.2 hlen
      (turn _ _) (fun h tk ys m' nw F' N' off' hn' hS' hJ' => ?_) _ _ news _ (X.W.frame _ _ _ X.hst fun b _ o e => old b o e) (X.F.keeps old) hC (fun p hp => ?_) (Off3.of fun p hp => ⟨X.off p hp, Nat.ne_of_lt (Nat.lt_succ_of_lt (hlt p hp)), Nat.ne_of_lt (hlt p hp)⟩) X.hS hJ0
    · refine ⟨m', hn', fun h'' hs'' => ?_⟩
      have off3 := off'.mem
      refine fin _ ys nw hJ' hS' h'' tk (F'.change hs'' (Nat.ne_of_gt (Nat.lt_succ_of_lt hLlt)) b2.2) (fun p hp => ?_) off'.one
      refine ⟨hs''.extBut _ _ ?_ (N' p hp).1, (N' p hp).2⟩
      revert p hp
      refine all_cons ?_ fun p hp => ?_
      · exact Nat.ne_of_lt (Nat.lt_succ_self _)
      · exact (off3 p hp).2.1
    · revert p hp
      refine all_cons ?_ fun p hp => ?_
      · exact ⟨hD, Nat.ne_of_gt hLlt, b1.2⟩
      · exact ⟨old _ _ (X.N p hp).1, (X.N p hp).2⟩
  exact codeAny_compStart_list loop (X.W.self 0 _ _ _ (X.W.frame _ _ _ X.hst fun b _ o e => old b o e) loop)
noncomputable abbrev cell0 : Obj := { cls := .type "cell", data := .cell none }
theorem compJ1 {kc : Str} {target elt iter : Expr} {ifs : List Expr} {scope : Scope} {cl : List (Str × Addr)} {pos : Pos} {env : Env} {Q : Value → Shared → Prop}
    (hclos : closureFor scope env = pure cl) (hcell : ∀ n acc, cellsFrom n scope.names acc = (kc, n) :: acc) (hpush : ∀ h, pushCells h scope.names = h.push cell0) (hkind : scope.kind = .function)
    (hnames : ∀ y ∈ scope.names, y.2 = .local → scope.names.lookup y.1 = some .local)
    (h : wpAny (model prog w) A (eval iter env) (fun xv s₁ => wpAny (model prog w) A (pyIter xv) (fun it s₂ => ∃ I fp n P St S news, it = .ref I ∧ SrcJ prog w A h₀ L m I fp n P St S news s₂ ∧ (∀ c, S ((c, cell0) :: news)) ∧ ∃ J : Addr → Nat → List Value → List (Addr × Obj) → Prop, (∀ c, (∀ q ∈ news, q.1 ≠ c) → J c 0 [] ((c, cell0) :: news)) ∧ (∀ c i ys nw, J c i ys nw → ys.length ≤ i) ∧
      (∀ c C D, TurnsJ prog w A h₀ L m env target ifs elt scope ((kc, c) :: cl) s₂ I C D n P St S (J c)) ∧ (∀ c D ys nw, J c n ys nw → S nw → ∀ h tk, Fr h₀ L h m → News h₀ L h ((D, lst ys) :: nw) → Off1 D nw → Q (.ref D) { s₂ with heap := h, toks := tk })) E s₁) E s)
    (hs : ∀ x, foldedSetIterable iter env x = pure x := by intro _; rfl) :
    wpAny (model prog w) A (eval (.ListComp elt [⟨target, iter, ifs, 0⟩] scope pos) env) Q E s := by
  rw [eval_ListComp]
  refine wpAny_comprehension_free (use := none) rfl hs hclos hkind hnames (wpAny_mono h (fun xv s₁ h₁ => wpAny_mono h₁ (fun it s₂ h₂ => ?_) fun _ _ e => e) fun _ _ e => e)
  refine ex7 h₂ fun I fp n P St S news hx => an4 hx fun zr1 X hSc hx => Exists.elim hx fun J hx => an4 hx fun hJ0 hlen turn fin => ?_
  (try clear h₂)
  subst zr1
  have nn := next_new X.F
  refine wpAny_newObj_type (newEnv_around hkind ?_)
  dsimp only
  rw [hcell, hpush]
  rw [Heap.size_push]
  have hLlt : L < s₂.heap.objs.size := X.F.ns.lt
  have hIlt : I < s₂.heap.objs.size := X.hfp _ (X.W.sub I (List.mem_singleton.mpr rfl))
  have hlt : ∀ p ∈ news, p.1 < s₂.heap.objs.size := fun p hp => Heap.lt_size (X.N p hp).1
  generalize hH2 : s₂.heap.push { cls := .type "list", dict := none, data := .seq ([] : List Value).toArray } = H2
  have z2 : H2.objs.size = s₂.heap.objs.size + 1 := by rw [← hH2, Heap.size_push]
  have old : ∀ b o, s₂.heap.get? b = some o → ((H2.push { cls := .type "dict", data := .dict #[] }).push cell0).get? b = some o := fun b o e => Heap.get?_push_of_some _ (Heap.get?_push_of_some _ (by rw [← hH2]; exact Heap.get?_push_of_some _ e))
  have hD : ((H2.push { cls := .type "dict", data := .dict #[] }).push cell0).get? s₂.heap.objs.size = some (lst []) := Heap.get?_push_of_some _ (Heap.get?_push_of_some _ (by rw [← hH2]; exact Heap.get?_push_size _ rfl))
  have hC : ((H2.push { cls := .type "dict", data := .dict #[] }).push cell0).Ns (s₂.heap.objs.size + 1) (fun _ => none) := by
    rw [← z2]
    exact xi3 _ (#[]) _ ⟨Heap.get?_push_of_some _ (Heap.get?_push_size _ rfl), rfl, by intro e he; simp at he, fun _ => rfl⟩
  have b1 := nn s₂.heap.objs.size (Nat.le_refl _)
  have b2 := nn (s₂.heap.objs.size + 1) (Nat.le_succ _)
  have b3 := nn (s₂.heap.objs.size + 1 + 1) (by lia)
  have hK : ((H2.push { cls := .type "dict", data := .dict #[] }).push cell0).get? (s₂.heap.objs.size + 1 + 1) = some cell0 := by
    rw [← z2, ← Heap.size_push H2 { cls := .type "dict", data := .dict #[] }]
    exact Heap.get?_push_size _ rfl
  have loop : codeAny (model prog w) A (.compLoop (.ListComp elt [⟨target, iter, ifs, 0⟩] scope pos) 0 (.ref I) (.ref s₂.heap.objs.size) (compEnvC scope ((kc, s₂.heap.objs.size + 1 + 1) :: cl) (s₂.heap.objs.size + 1) env))
      (compPost (model prog w) A E none Q (.ref s₂.heap.objs.size) (s₂.heap.objs.size + 1)) { s₂ with heap := (H2.push { cls := .type "dict", data := .dict #[] }).push cell0, toks := s₂.toks } := by
    refine compCore (h₀ := h₀) (L := L) (m := m) (J (s₂.heap.objs.size + 1 + 1)) X.W X.hsz X.hIo X.hSt (fun hm => Nat.lt_irrefl _ (X.hfp _ hm)) (Nat.ne_of_lt (Nat.lt_succ_of_lt hIlt)) (Nat.ne_of_lt hIlt) (Nat.ne_of_gt (Nat.lt_succ_self _)) X.hIL (Nat.ne_of_gt (Nat.lt_succ_of_lt hLlt)) (Nat.ne_of_gt hLlt) X.hI0 b2.2 b1.2 (hlen _)
      (turn _ _ _) (fun h tk ys m' nw F' N' off' hn' hS' hJ' => ?_) _ _ ((s₂.heap.objs.size + 1 + 1, cell0) :: news) _ (X.W.frame _ _ _ X.hst fun b _ o e => old b o e) (X.F.keeps old) hC (fun p hp => ?_) (Off3.of fun p hp => ?_) (hSc _) (hJ0 _ fun q hq => Nat.ne_of_lt (Nat.lt_succ_of_lt (Nat.lt_succ_of_lt (hlt q hq))))
    · refine ⟨m', hn', fun h'' hs'' => ?_⟩
      have off3 := off'.mem
      refine fin _ _ ys nw hJ' hS' h'' tk (F'.change hs'' (Nat.ne_of_gt (Nat.lt_succ_of_lt hLlt)) b2.2) (fun p hp => ?_) off'.one
      refine ⟨hs''.extBut _ _ ?_ (N' p hp).1, (N' p hp).2⟩
      revert p hp
      refine all_cons ?_ fun p hp => ?_
      · exact Nat.ne_of_lt (Nat.lt_succ_self _)
      · exact (off3 p hp).2.1
    · revert p hp
      refine all_cons ?_ fun p hp => ?_
      · exact ⟨hD, Nat.ne_of_gt hLlt, b1.2⟩
      · revert p hp
        refine all_cons ?_ fun p hp => ?_
        · exact ⟨hK, Nat.ne_of_gt (Nat.lt_succ_of_lt (Nat.lt_succ_of_lt hLlt)), b3.2⟩
        · exact ⟨old _ _ (X.N p hp).1, (X.N p hp).2⟩
    · revert p hp
      refine all_cons ?_ fun p hp => ?_
      · exact ⟨Nat.ne_of_gt (Nat.lt_succ_of_lt (Nat.lt_succ_of_lt hIlt)), Nat.ne_of_gt (Nat.lt_succ_self _), Nat.ne_of_gt (Nat.lt_succ_of_lt (Nat.lt_succ_self _))⟩
      · exact ⟨X.off p hp, Nat.ne_of_lt (Nat.lt_succ_of_lt (hlt p hp)), Nat.ne_of_lt (hlt p hp)⟩
  exact codeAny_compStart_list loop (X.W.self 0 _ _ _ (X.W.frame _ _ _ X.hst fun b _ o e => old b o e) loop)

end
end

section
open PySem PySem.W PySem.Calls PyProof.Rows
section
variable {prog : Program} {w : World} {A : Around} {E : Value → Shared → Prop} {s : Shared} {h₀ : Heap} {L : Addr} {m : Str → Option Value} {pg : PG} {st : ST} {rest : List (Addr × Obj)} {p : Program} {loose : List Str} {mg mb : Str → Option Value}
open LCg
theorem preSum_getD (ns : List Int) : ∀ k, k ≤ ns.length → preSum (fun i => ns.getD i 0) k = (ns.take k).sum
  | 0, _ => by simp [preSum]
  | k + 1, h => by
    rw [preSum, preSum_getD ns k (by lia), List.take_succ, List.getElem?_eq_getElem (by lia)]
    simp only [List.sum_append, Option.toList, List.sum_cons, List.sum_nil, List.getD_eq_getElem?_getD]
    rw [List.getElem?_eq_getElem (by lia)]
    simp
theorem sumL {D : Addr} {vs : List Value} {ns : List Int} {n : Nat} {news : List (Addr × Obj)} {Q : Value → Shared → Prop} (hh : A.handled = none) (F : Fr h₀ L s.heap m) (N : News h₀ L s.heap news) (hm : (D, listOf vs.toArray n) ∈ news) (hi : IntsAre vs ns)
    (h : ∀ h' tk t, Fr h₀ L h' m → News h₀ L h' news → Q (.int ns.sum t) { s with heap := h', toks := tk }) : wpAny (model prog w) A (call (.builtin "sum") [.ref D]) Q E s := by
  have hl : s.heap.IsList D vs.toArray := ⟨_, (N _ hm).1, rfl, _, rfl⟩
  have hlt : D < s.heap.objs.size := Heap.lt_size (N _ hm).1
  refine call_sum_walkG (wpAny_pyIter_list hl ?_)
  refine xi7 s.heap.objs.size ([s.heap.objs.size, D]) ([s.heap.objs.size]) vs.toArray.size _ _ (fun i => ns.getD i 0) ⟨rfl, Walks.list (A := A.in1) hh _ D (Nat.ne_of_lt hlt) vs.toArray, ⟨⟨_, Heap.get?_push_size _ rfl, rfl, rfl⟩, hl.push _⟩, ?_, ?_, ?_⟩
  · intro b hb
    show b < (s.heap.push _).objs.size
    rw [Heap.size_push]
    revert b hb
    refine all_cons ?_ fun b hb => ?_
    · exact Nat.lt_succ_self _
    · rw [List.mem_singleton.mp hb]; exact Nat.lt_succ_of_lt hlt
  · intro i v hv
    have hv' : vs[i]? = some v := by simpa using hv
    have hlen := hi.length
    have hi' : i < ns.length := by
      rw [← hlen]
      rcases Nat.lt_or_ge i vs.length with h | h
      · exact h
      · rw [List.getElem?_eq_none h] at hv'; cases hv'
    refine Exists.elim (hi.get i _ (List.getElem?_eq_getElem hi')) fun t ht => ?_
    rw [ht] at hv'
    cases hv'
    refine ⟨t, ?_⟩
    dsimp only
    rw [List.getD_eq_getElem?_getD, List.getElem?_eq_getElem hi']; rfl
  · intro h' tk t' hk
    have e : preSum (fun i => ns.getD i 0) vs.toArray.size = ns.sum := by
      rw [preSum_getD _ _ (by rw [List.size_toArray, hi.length]; exact Nat.le_refl _), List.size_toArray, hi.length, List.take_length]
    rw [e]
    have keep : ∀ b o, s.heap.get? b = some o → h'.get? b = some o := fun b o e => hk b o (by rw [List.mem_singleton]; exact Nat.ne_of_lt (Heap.lt_size e)) (Heap.get?_push_of_some _ e)
    exact h h' tk t' (F.keeps keep) (N.grown keep)
theorem ints_of_each {ys : List Value} {P : Nat → Int → Prop} (h : ∀ j y, ys[j]? = some y → ∃ z t, y = .int z t ∧ P j z) : ∃ ns, IntsAre ys ns ∧ ∀ j z, ns[j]? = some z → P j z := by
  induction ys generalizing P with
  | nil => exact ⟨[], .nil, fun j z h => by simp at h⟩
  | cons y r ih =>
    refine ex2 (h 0 y rfl) fun z t hx => an2 hx fun zr1 hp => ?_
    subst zr1
    refine Exists.elim (ih (P := fun j z => P (j + 1) z) fun j y hj => h (j + 1) y (by simpa using hj)) fun ns hx => an2 hx fun h1 h2 => ?_
    refine ⟨z :: ns, .cons z t h1, fun j z' hj => ?_⟩
    cases j with
    | zero => simp at hj; subst hj; exact hp
    | succ j => exact h2 j z' (by simpa using hj)

end
end

section
open PySem PySem.W PySem.Calls PyProof.Rows
section
variable {prog : Program} {w : World} {A : Around} {E : Value → Shared → Prop} {s : Shared} {h₀ : Heap} {L : Addr} {m : Str → Option Value} {pg : PG} {st : ST} {rest : List (Addr × Obj)} {p : Program} {loose : List Str} {mg mb : Str → Option Value}
open LCg
theorem compJ0A {target elt iter : Expr} {y : Str} {py : Pos} {spos : Pos} {ifs : List Expr} {scope : Scope} {cl : List (Str × Addr)} {pos : Pos} {env : Env} {Q : Flow → Shared → Prop} (hLe : env.locals = L)
    (hsw : swapsWith (.ListComp elt [⟨target, iter, ifs, 0⟩] scope pos) (some (.Name y py)) spos.line env = pure true) (hy : env.kindOf y = some .local) (hp : (env.scope.kind == .class || (env.scope.kind == .module && env.locals != env.globals)) = false)
    (hclos : closureFor scope env = pure cl) (hcell : ∀ n acc, cellsFrom n scope.names acc = acc) (hpush : ∀ h, pushCells h scope.names = h) (hkind : scope.kind = .function)
    (hnames : ∀ y ∈ scope.names, y.2 = .local → scope.names.lookup y.1 = some .local)
    (h : wpAny (model prog w) A (eval iter env) (fun xv s₁ => wpAny (model prog w) A (pyIter xv) (fun it s₂ => ∃ I fp n P St S news, it = .ref I ∧ SrcJ prog w A h₀ L m I fp n P St S news s₂ ∧ ∃ J : Nat → List Value → List (Addr × Obj) → Prop, J 0 [] news ∧ (∀ i ys nw, J i ys nw → ys.length ≤ i) ∧
      (∀ C D, TurnsJ prog w A h₀ L m env target ifs elt scope cl s₂ I C D n P St S J) ∧ (∀ D ys nw, J n ys nw → S nw → ∀ h tk, Fr h₀ L h (fun z => if z = y then some (.ref D) else m z) → News h₀ L h ((D, lst ys) :: nw) → Off1 D nw → Q .next { s₂ with heap := h, toks := tk })) E s₁) E s)
    (hs : ∀ x, foldedSetIterable iter env x = pure x := by intro _; rfl) :
    wpAny (model prog w) A (exec (.Assign [.Name y py] (.ListComp elt [⟨target, iter, ifs, 0⟩] scope pos) spos) env) Q E s := by
  subst hLe
  rw [exec_Assign_Name_used _ _ _ _ hsw]
  refine wpAny_bind (wpAny_standAt (wpAny_bind ?_))
  show wpAny _ A (do let _ ← comprehension (.ListComp elt [⟨target, iter, ifs, 0⟩] scope pos) scope env _ (newList []) false (eval iter env) (some (assign (.Name y py) env))) _ _ s
  refine wpAny_bind (wpAny_mono (wpAny_comprehension_free (use := some (assign (.Name y py) env)) (Q := fun _ s' => Q .next s') rfl hs hclos hkind hnames (wpAny_mono h (fun xv s₁ h₁ => wpAny_mono h₁ (fun it s₂ h₂ => ?_) fun _ _ e => e) fun _ _ e => e)) (fun _ s' hq => wpAny_pure (wpAny_pure hq)) fun _ _ e => e)
  refine ex7 h₂ fun I fp n P St S news hx => an3 hx fun zr2 X hx => Exists.elim hx fun J hx => an4 hx fun hJ0 hlen turn fin => ?_
  (try clear h₂)
  subst zr2
  have nn := next_new X.F
  refine wpAny_newObj_type (newEnv_around hkind ?_)
  dsimp only
  rw [hcell, hpush]
  rw [Heap.size_push]
  have hLlt : env.locals < s₂.heap.objs.size := X.F.ns.lt
  have hIlt : I < s₂.heap.objs.size := X.hfp _ (X.W.sub I (List.mem_singleton.mpr rfl))
  have hlt : ∀ p ∈ news, p.1 < s₂.heap.objs.size := fun p hp => Heap.lt_size (X.N p hp).1
  generalize hH2 : s₂.heap.push { cls := .type "list", dict := none, data := .seq ([] : List Value).toArray } = H2
  have z2 : H2.objs.size = s₂.heap.objs.size + 1 := by rw [← hH2, Heap.size_push]
  have old : ∀ b o, s₂.heap.get? b = some o → (H2.push { cls := .type "dict", data := .dict #[] }).get? b = some o := fun b o e => Heap.get?_push_of_some _ (by rw [← hH2]; exact Heap.get?_push_of_some _ e)
  have hD : (H2.push { cls := .type "dict", data := .dict #[] }).get? s₂.heap.objs.size = some (lst []) := Heap.get?_push_of_some _ (by rw [← hH2]; exact Heap.get?_push_size _ rfl)
  have hC : (H2.push { cls := .type "dict", data := .dict #[] }).Ns (s₂.heap.objs.size + 1) (fun _ => none) := by
    rw [← z2]
    exact xi3 _ (#[]) _ ⟨Heap.get?_push_size _ rfl, rfl, by intro e he; simp at he, fun _ => rfl⟩
  have b1 := nn s₂.heap.objs.size (Nat.le_refl _)
  have b2 := nn (s₂.heap.objs.size + 1) (Nat.le_succ _)
  have loop : codeAny (model prog w) A (.compLoop (.ListComp elt [⟨target, iter, ifs, 0⟩] scope pos) 0 (.ref I) (.ref s₂.heap.objs.size) (compEnvC scope cl (s₂.heap.objs.size + 1) env))
      (compPost (model prog w) A E (some (assign (.Name y py) env)) (fun _ s' => Q .next s') (.ref s₂.heap.objs.size) (s₂.heap.objs.size + 1)) { s₂ with heap := H2.push { cls := .type "dict", data := .dict #[] }, toks := s₂.toks } := by
    refine compCore (h₀ := h₀) (L := env.locals) (m := m) J X.W X.hsz X.hIo X.hSt (fun hm => Nat.lt_irrefl _ (X.hfp _ hm)) (Nat.ne_of_lt (Nat.lt_succ_of_lt hIlt)) (Nat.ne_of_lt hIlt) (Nat.ne_of_gt (Nat.lt_succ_self _)) X.hIL (Nat.ne_of_gt (Nat.lt_succ_of_lt hLlt)) (Nat.ne_of_gt hLlt) X.hI0 b2.2 b1.2 hlen
      (turn _ _) (fun h tk ys m' nw F' N' off' hn' hS' hJ' => ?_) _ _ news _ (X.W.frame _ _ _ X.hst fun b _ o e => old b o e) (X.F.keeps old) hC (fun p hp => ?_) (Off3.of fun p hp => ⟨X.off p hp, Nat.ne_of_lt (Nat.lt_succ_of_lt (hlt p hp)), Nat.ne_of_lt (hlt p hp)⟩) X.hS hJ0
    · show wpAny _ A (assign (.Name y py) env (.ref _)) _ _ _
      refine wpAny_assign_Name (wpAny_storeName_local hy F'.ns (fun h₂ hn₂ hs₂ => ?_) hp)
      have hL₀ : h₀.get? env.locals = none := Heap.get?_none_of_le F'.above
      have F₂ : Fr h₀ env.locals h₂ (fun z => if z = y then some (.ref s₂.heap.objs.size) else m z) := ⟨hn₂, fun b o e => hs₂.extBut b o (fun q => by rw [q, hL₀] at e; cases e) (F'.keep b o e), F'.above⟩
      refine ⟨m', hn'.sameBut hs₂ (Nat.ne_of_gt (Nat.lt_succ_of_lt hLlt)), fun h'' hs'' => ?_⟩
      have off3 := off'.mem
      refine fin _ ys nw hJ' hS' h'' _ (F₂.change hs'' (Nat.ne_of_gt (Nat.lt_succ_of_lt hLlt)) b2.2) (fun p hp => ?_) off'.one
      refine ⟨hs''.extBut _ _ ?_ (hs₂.extBut _ _ (N' p hp).2.1 (N' p hp).1), (N' p hp).2⟩
      revert p hp
      refine all_cons ?_ fun p hp => ?_
      · exact Nat.ne_of_lt (Nat.lt_succ_self _)
      · exact (off3 p hp).2.1
    · revert p hp
      refine all_cons ?_ fun p hp => ?_
      · exact ⟨hD, Nat.ne_of_gt hLlt, b1.2⟩
      · exact ⟨old _ _ (X.N p hp).1, (X.N p hp).2⟩
  exact codeAny_compStart_list loop (X.W.self 0 _ _ _ (X.W.frame _ _ _ X.hst fun b _ o e => old b o e) loop)

theorem assignC {scope : Scope} {cl : List (Str × Addr)} {env : Env} {x : Str} {px : Pos} {v : Value} {I C D : Addr} {oI oC : Obj} {ys : List Value} {news : List (Addr × Obj)} {m₂ : Str → Option Value} {Q : Unit → Shared → Prop} {M₀ : Model}
    (hx : scope.names.lookup x = some .local) (hkind : scope.kind = .function) (F : Fr h₀ L s.heap m) (N : News h₀ L s.heap ((I, oI) :: (C, oC) :: (D, lst ys) :: news)) (hC : NsObj oC m₂) (off : Off3 I C D news) (ne : I ≠ C ∧ I ≠ D ∧ C ≠ D)
    (h : ∀ h' oC', Fr h₀ L h' m → News h₀ L h' ((I, oI) :: (C, oC') :: (D, lst ys) :: news) → NsObj oC' (fun z => if z = x then some v else m₂ z) → (∀ b o, b ≠ C → s.heap.get? b = some o → h'.get? b = some o) → Q () { s with heap := h', toks := s.toks + 1 }) :
    wpAny M₀ A (assign (.Name x px) (compEnvC scope cl C env) v) Q E s := by
  have zC := N (C, oC) (.tail _ (.head _))
  refine wpAny_assign_Name (wpAny_storeName_local (lookup_relabel_local hx) (hC.ns zC.1) (fun h₃ hn₃ hs₃ => ?_) (by simp [compEnvC, relabel, hkind]))
  refine Exists.elim (ns_obj hn₃) fun oC' hx => an2 hx fun heC hoC => ?_
  have off3 := off.mem
  refine h h₃ oC' (F.change hs₃ zC.2.1 zC.2.2) (fun p hp => ?_) hoC fun b o hb e => hs₃.extBut b o hb e
  revert p hp
  refine all_cons ?_ fun p hp => ?_
  · have z := N _ (.head _)
    exact ⟨hs₃.extBut _ _ ne.1 z.1, z.2⟩
  · revert p hp
    refine all_cons ?_ fun p hp => ?_
    · exact ⟨heC, zC.2⟩
    · revert p hp
      refine all_cons ?_ fun p hp => ?_
      · have z := N _ (.tail _ (.tail _ (.head _)))
        exact ⟨hs₃.extBut _ _ (Ne.symm ne.2.2) z.1, z.2⟩
      · have z := N _ (.tail _ (.tail _ (.tail _ hp)))
        exact ⟨hs₃.extBut _ _ (off3 p hp).2.1 z.1, z.2⟩
theorem News.neD {news : List (Addr × Obj)} {h : Heap} {a b : Addr} {o o' : Obj} (N : News h₀ L h news) (h1 : (a, o) ∈ news) (h2 : (b, o') ∈ news) (hne : o.data ≠ o'.data) : a ≠ b :=
  News.ne N h1 h2 fun e => hne (congrArg Obj.data e)
theorem News.neC {news : List (Addr × Obj)} {h : Heap} {a b : Addr} {o o' : Obj} (N : News h₀ L h news) (h1 : (a, o) ∈ news) (h2 : (b, o') ∈ news) (hne : o.cls ≠ o'.cls) : a ≠ b :=
  News.ne N h1 h2 fun e => hne (congrArg Obj.cls e)
theorem ledSet {h h' : Heap} {d : Addr} {o o' : Obj} {pre post : List (Addr × Obj)} (F : Fr h₀ L h m) (N : News h₀ L h (pre ++ (d, o) :: post)) (h1 : ∀ p ∈ pre, p.1 ≠ d) (h2 : ∀ p ∈ post, p.1 ≠ d) (hs : Heap.SameBut d h h') (ho : h'.get? d = some o') :
    Fr h₀ L h' m ∧ News h₀ L h' (pre ++ (d, o') :: post) := by
  have z := N (d, o) (List.mem_append_right _ (.head _))
  exact ⟨F.change hs z.2.1 z.2.2, N.setAt h1 h2 hs ho⟩
theorem appendL {D : Addr} {its : Array Value} {n : Nat} {x : Value} {pre post : List (Addr × Obj)} {Q : Value → Shared → Prop} (F : Fr h₀ L s.heap m) (N : News h₀ L s.heap (pre ++ (D, listOf its n) :: post)) (h1 : ∀ p ∈ pre, p.1 ≠ D) (h2 : ∀ p ∈ post, p.1 ≠ D) (hz : its.size ≤ 100000)
    (h : ∀ h', Fr h₀ L h' m → News h₀ L h' (pre ++ (D, listOf (its.push x) (n + 1)) :: post) → Q .none { s with heap := h' }) : wpAny (model prog w) A (call (.builtin "list.append") [.ref D, x]) Q E s := by
  refine append_at (N (D, _) (List.mem_append_right _ (.head _))).1 (fun h' hs ho => ?_) (by rw [sizeLine_eq]; lia)
  refine an2 (ledSet F N h1 h2 hs ho) fun F' N' => ?_
  exact h h' F' N'
theorem strs_of_each {ys : List Value} {P : Nat → Str → Prop} (h : ∀ j y, ys[j]? = some y → ∃ z t, y = .str z t ∧ P j z) : ∃ l : List (Str × Tok), ys = txts l ∧ ∀ j z, (l.map (·.1))[j]? = some z → P j z := by
  induction ys generalizing P with
  | nil => exact ⟨[], rfl, fun j z h => by simp at h⟩
  | cons y r ih =>
    refine ex2 (h 0 y rfl) fun z t hx => an2 hx fun zr1 hp => ?_
    subst zr1
    refine Exists.elim (ih (P := fun j z => P (j + 1) z) fun j y hj => h (j + 1) y (by simpa using hj)) fun l hx => an2 hx fun h1 h2 => ?_
    refine ⟨(z, t) :: l, by rw [h1]; rfl, fun j z' hj => ?_⟩
    cases j with
    | zero => simp at hj; subst hj; exact hp
    | succ j => exact h2 j z' (by simpa using hj)

theorem rangeUp (a : Int) (n : Nat) : Builtin.Range.rangeSize a (a + n) 1 = (n : Int) := by
  unfold Builtin.Range.rangeSize
  rw [if_pos (by decide)]
  by_cases h : a < a + (n : Int)
  · rw [if_pos h, Int.ediv_one]; lia
  · rw [if_neg h]; lia
theorem smallUp (a : Int) (n : Nat) (h0 : 0 ≤ a) (h1 : a ≤ 4000000000) (hn : n ≤ 1000) : Builtin.Range.small a (a + n) 1 = true := by
  unfold Builtin.Range.small
  rw [rangeUp]
  have e : ∀ z : Int, 0 ≤ z → z ≤ 5000000000 → Builtin.Range.rangeFitsLong z = true := fun z h2 h3 => by
    unfold Builtin.Range.rangeFitsLong
    rw [decide_eq_true (by lia), decide_eq_true (by lia)]; rfl
  rw [e a h0 (by lia), e (a + n) (by lia) (by lia), show Builtin.Range.rangeFitsLong 1 = true from by decide]
  have e3 : Builtin.Range.rangeFitsLong (n : Int) = true := e _ (by lia) (by lia)
  have e4 : Builtin.Range.rangeFitsLong (a + (n : Int)) = true := e _ (by lia) (by lia)
  by_cases h : (n : Int) = 0
  · simp [h]; decide
  · simp [e3, e4]

end
end

theorem regK3_J : True := by
  k_with "eval Name" => (with_reducible show wpAny _ _ (eval (Expr.Name _ _) (compEnvC _ _ _ _)) _ _ _); (k_dflt (first | ((with_reducible apply LCgL.ld_own); (case hk => rfl); (case hl => rfl); (case hd => decide); (case N => assumption); (case hC => assumption); (case hm => k_mem); (case hx => (try dsimp only); repeat' first | (with_reducible assumption) | (with_reducible exact if_pos rfl) | (refine' nameIf1 (by decide) ?_))) | ((with_reducible apply lcf_cell); (case hk => rfl); (case hx => rfl); (case hb => decide); (case N => assumption); (case hc => rfl); (case hm => k_mem); (case hd => (with_reducible assumption))) | ((with_reducible apply lcf_free); (case hk => rfl); (case hx => rfl); (case hb => decide); (case hn => decide); (case N => assumption); (case hc => rfl); (case hm => k_mem); (case hd => (with_reducible assumption))) | ((with_reducible apply nameQ_G); (case hg => rfl); (case hk => rfl); (case hx => rfl); (case hd => decide); (case F => assumption); (case X => assumption); (case T => assumption); (case e => k_is)) | ((with_reducible apply nameQ_B); (case hg => rfl); (case hb => rfl); (case hk => rfl); (case hx => rfl); (case hd => decide); (case F => assumption); (case X => assumption); (case T => assumption); (case e => k_is); (case hv => boot_by_name); (case hn => decide))))
  k_with "eval Name" => (k_dflt (((with_reducible apply nameE_L); (case hx => rfl); (case hk => rfl); (case hd => decide); (case F => assumption); (case hv => (try dsimp only); repeat' first | (with_reducible assumption) | (with_reducible exact if_pos rfl) | (refine' nameIf1 (by decide) ?_)))))
  k_with "nm" => (try dsimp only); repeat' first | (with_reducible assumption) | (with_reducible exact if_pos rfl) | (refine' nameIf1 (by decide) ?_)
  trivial

section
open PySem PySem.W PySem.Calls PyProof.Rows
section
variable {prog : Program} {w : World} {A : Around} {E : Value → Shared → Prop} {s : Shared} {h₀ : Heap} {L : Addr} {m : Str → Option Value} {pg : PG} {st : ST} {rest : List (Addr × Obj)} {p : Program} {loose : List Str} {mg mb : Str → Option Value}
open LCg
theorem sum_between {b : Int} : ∀ {ns : List Int}, (∀ (j : Nat) (z : Int), ns[j]? = some z → 0 ≤ z ∧ z < b) → 0 ≤ ns.sum ∧ ns.sum ≤ b * ns.length
  | [], _ => by simp
  | x :: r, h => by
    have h0 := h 0 x rfl
    have ih := sum_between (ns := r) fun j z hj => h (j + 1) z (by simpa using hj)
    rw [List.sum_cons, List.length_cons]
    have e : b * ((r.length + 1 : Nat) : Int) = b * r.length + b := by rw [Int.natCast_add, Int.mul_add]; simp
    rw [e]
    exact ⟨Int.add_nonneg h0.1 ih.1, by rw [Int.add_comm x]; exact Int.add_le_add ih.2 (Int.le_of_lt h0.2)⟩
theorem sums_C {news : List (Addr × Obj)} {a b : Addr} {vs : List Value} {ns : List Int} {t0 t1 t2 t3 t4 t5 : Tok} {nb : Nat} {Q : Value → Shared → Prop}
   (X₀ : (hd.heap_39 w.params).In h₀) (T : TopRead p loose mg mb h₀) (B : BM h₀ mg) (F : Fr h₀ L s.heap m) (N : News h₀ L s.heap ((b, listOf #[.int 1 t0, .int 7 t1, .int 8 t2, .int 13 t3, .int 4 t4, .int 701 t5] nb) :: news)) (hA : Room A 10)
   (hl : h₀.IsList a vs.toArray) (hi : IntsAre vs ns) (hn : ns.length ≤ 63)
   (h : ∀ h' D (x0 x1 x2 x3 x4 x5 : Int) (u0 u1 u2 u3 u4 u5 : Tok) e tk, Fr h₀ L h' m → News h₀ L h' ((D, listOf #[.int x0 u0, .int x1 u1, .int x2 u2, .int x3 u3, .int x4 u4, .int x5 u5] e) :: news) →
     (1 ≤ x0 ∧ x0 ≤ 1000000000) → (7 ≤ x1 ∧ x1 ≤ 1000000000) → (8 ≤ x2 ∧ x2 ≤ 1000000000) → (13 ≤ x3 ∧ x3 ≤ 1000000000) → (4 ≤ x4 ∧ x4 ≤ 1000000000) → (701 ≤ x5 ∧ x5 ≤ 1000000000) → Q (.ref D) { s with heap := h', toks := tk }) :
   wpAny (model prog w) A (call (.ref 228) [.ref a, .ref b]) Q E s := by
  refine wpAny_call ?_
  refine' enterC (binds := [("script", .ref a), ("bases", .ref b)]) X₀ T B F N (hA.lt (by decide)) ?_
  clear X₀ T B F N
  intro g L' h' tk cells kg F' N' Y X' T' B' l1
  refine ex2 (CellsAre.two (show CellsAre _ [(("bases" : Str), L' + 1 + 1), (("script" : Str), L' + 1)] cells from Y)) fun o2 o1 hx => an3 hx fun zr9 c2 c1 => ?_
  subst zr9
  replace c1 : o1.data = .cell (some (.ref a)) := c1
  replace c2 : o2.data = .cell (some (.ref b)) := c2
  clear Y
  have hl' := hl.at (kg _)
  generalize (bindL _ _ _) = m0 at F'
  iterate 3 walk1
  iterate 7 walk1
  all_goals (try walk_at "us")
  rename_i N0 F0 h1 tk1 u1 u2 u3 R1 F1 N1 k1
  clear N0 F0
  refine LCg.CompSrc.range hA.handled F1 N1 R1 (by decide) (n := 6) rfl (by rw [sizeLine_eq]; decide) fun gg => ?_
  refine rest_E (fun i y => ∃ z t, y = .int z t ∧ [1, 7, 8, 13, 4, 701].getD i 0 ≤ z ∧ z ≤ 1000000000) (fun i ys v I oI C oC D m₂ h tk2 E' hi6 hP hC hx F N off => ?_) trivial (fun ys hlen hys => ?_)
  · refine Exists.elim hP fun tv zr8 => ?_
    (try clear hP)
    subst zr8
    clear F1 N1 R1
    rw [show (0 : Int) + (i : Int) = (i : Int) from by lia] at hx
    iterate 4 walk1
    all_goals (try walk_at "us")
    refine ksa_sub (vs := [.int 1 t0, .int 7 t1, .int 8 t2, .int 13 t3, .int 4 t4, .int 701 t5]) (ns := [1, 7, 8, 13, 4, 701]) N (by k_mem) (.cons _ _ (.cons _ _ (.cons _ _ (.cons _ _ (.cons _ _ (.cons _ _ .nil)))))) (by lia) (by simp; lia) (by lia) (fun tb => ?_)
    iterate 4 walk1
    all_goals (try walk_at "us")
    refine LCg.ListComp_U (F₀ := F) (by with_unfolding_all rfl) (by decide) (by rfl) (by decide) (by rfl) ?_
    iterate 8 walk1
    all_goals (try walk_at "us")
    have hvl := hi.length
    refine slice_list3 F N (hl'.at (F.keep _)) (.int _ _) .none (.int _ _) (by decide) (fun h3 F3 N3 => ?_) (by with_unfolding_all rfl) (fun _ => by with_unfolding_all rfl) (by rw [sizeLine_eq, List.size_toArray]; lia)
    clear F N
    dsimp only at N3 ⊢
    have hi3 := hi.pick (some (i : Int)) none (some 6)
    have hn3 := length_pickNums_le hi (some (i : Int)) none (some 6)
    generalize hvs3 : slicePick vs.toArray (some (i : Int)) none (some 6) = vs3 at N3 hi3
    generalize pickNums ns (some (i : Int)) none (some 6) = ns3 at hi3 hn3
    refine LCg.CompSrc.ledger (its := vs3) hA.handled F3 N3 (List.Mem.head _) (by rw [sizeLine_eq]; have := hi3.length; rw [Array.length_toList] at this; lia) fun gg3 => ?_
    refine rest_E (fun i y => ∃ z t, y = .int z t ∧ 0 ≤ z ∧ z < 1000000) (fun i2 ys2 v2 I2 oI2 C2 oC2 D2 m3 h4 tk4 E4 hi4 hP4 hC4 hx4 F4 N4 off4 => ?_) (.inr ⟨_, .head _, rfl, _, rfl⟩) (fun ys2 hlen2 hys2 => ?_)
    · have hP5 : vs3.toList[i2]? = some v2 := by rw [← hP4]; simp
      have hi5 : i2 < ns3.length := by
        rw [← hi3.length]
        rcases Nat.lt_or_ge i2 vs3.toList.length with q | q
        · exact q
        · rw [List.getElem?_eq_none q] at hP5; cases hP5
      refine Exists.elim (hi3.get i2 _ (List.getElem?_eq_getElem hi5)) fun t5 e5 => ?_
      rw [e5] at hP5
      cases hP5
      generalize ns3[i2] = z5 at hx4
      clear F3 N3
      iterate 7 walk1
      all_goals (try walk_at "us")
      refine xi2 _ _ ⟨rfl, F4, N4, _, _, rfl, ?_, ?_⟩
      · rw [show ((10 : Int) ^ Int.toNat 6) = 1000000 from rfl, Int.fmod_eq_emod_of_nonneg _ (by decide)]
        exact Int.emod_nonneg _ (by decide)
      · rw [show ((10 : Int) ^ Int.toNat 6) = 1000000 from rfl, Int.fmod_eq_emod_of_nonneg _ (by decide)]
        exact Int.emod_lt_of_pos _ (by decide)
    · refine Exists.elim (ints_of_each (P := fun _ z => 0 ≤ z ∧ z < 1000000) hys2) fun zs hx => an2 hx fun hz1 hz2 => ?_
      intro D3 h5 tk5 F5 N5 off5
      clear F3 N3
      walk1
      all_goals (try walk_at "us")
      refine sumL hA.handled F5 N5 (List.Mem.head _) hz1 fun h6 tk6 t6 F6 N6 => ?_
      have hb := sum_between hz2
      have hb2 : zs.length ≤ 63 := by
        rw [← hz1.length, hlen2]
        have := hi3.length
        rw [Array.length_toList] at this; lia
      have hb3 : 0 ≤ ([1, 7, 8, 13, 4, 701] : List Int).getD i 0 ∧ ([1, 7, 8, 13, 4, 701] : List Int).getD i 0 ≤ 701 := by
        have : ∀ j : Fin 6, 0 ≤ ([1, 7, 8, 13, 4, 701] : List Int).getD j.val 0 ∧ ([1, 7, 8, 13, 4, 701] : List Int).getD j.val 0 ≤ 701 := by decide
        exact this ⟨i, hi6⟩
      iterate 1 walk1
      all_goals (try walk_at "us")
      refine xi2 _ _ ⟨rfl, F6, News.sub N6 (fun q hq => .tail _ (.tail _ hq)), _, _, rfl, ?_, ?_⟩
      · rw [show (i : Int).toNat = i from Int.toNat_natCast i]; lia
      · rw [show (i : Int).toNat = i from Int.toNat_natCast i]; lia
  · have hob : ∃ y0 y1 y2 y3 y4 y5, ys = [y0, y1, y2, y3, y4, y5] := by
      exact six_of hlen
    refine ex6 hob fun y0 y1 y2 y3 y4 y5 zr7 => ?_
    clear hob
    subst zr7
    refine ex2 (hys 0 y0 rfl) fun z0 v0 hx => an2 hx fun zr6 p0 => ?_
    subst zr6
    refine ex2 (hys 1 y1 rfl) fun z1 v1 hx => an2 hx fun zr5 p1 => ?_
    subst zr5
    refine ex2 (hys 2 y2 rfl) fun z2 v2 hx => an2 hx fun zr4 p2 => ?_
    subst zr4
    refine ex2 (hys 3 y3 rfl) fun z3 v3 hx => an2 hx fun zr3 p3 => ?_
    subst zr3
    refine ex2 (hys 4 y4 rfl) fun z4 v4 hx => an2 hx fun zr2 p4 => ?_
    subst zr2
    refine ex2 (hys 5 y5 rfl) fun z5 v5 hx => an2 hx fun zr1 p5 => ?_
    subst zr1
    intro D3 h5 tk5 F5 N5 off5
    clear F1 N1
    have N6 : News g L' h5 ((D3, lst [.int z0 v0, .int z1 v1, .int z2 v2, .int z3 v3, .int z4 v4, .int z5 v5]) :: news) := News.sub N5 fun q hq => by
      revert q hq
      refine all_cons ?_ fun q hq => ?_
      · exact .head _
      · exact .tail _ (.tail _ (.tail _ (.tail _ hq)))
    (try walk_at "us")
    exact leaveK_ F5 N6 fun F7 N7 => h _ _ _ _ _ _ _ _ _ _ _ _ _ _ _ _ F7 N7 p0 p1 p2 p3 p4 p5

end
end

section
open PySem PySem.W PySem.Calls PyProof.Rows
section
variable {prog : Program} {w : World} {A : Around} {E : Value → Shared → Prop} {s : Shared} {h₀ : Heap} {L : Addr} {m : Str → Option Value} {pg : PG} {st : ST} {rest : List (Addr × Obj)} {p : Program} {loose : List Str} {mg mb : Str → Option Value}
open LCg
noncomputable def worthsOf (n : Nat) : List Nat := (([7, 6, 5, 4, 3, 2, 1, 0] : List Nat).map (16 ^ ·)).filter (· < n)
noncomputable def nameOf (n x : Nat) : List Nat := (worthsOf n).map fun wo => if wo ≤ x then 65 + x / wo % 16 else 61
noncomputable def wl (n i : Nat) : List Nat := ((([7, 6, 5, 4, 3, 2, 1, 0] : List Nat).take i).map (16 ^ ·)).filter (· < n)
theorem wl_len (n i : Nat) : (wl n i).length ≤ i := by
  unfold wl
  refine Nat.le_trans (List.length_filter_le _ _) ?_
  rw [List.length_map, List.length_take]; exact Nat.min_le_left _ _
theorem wl_succ (n i : Nat) (hi : i < 8) : wl n (i + 1) = wl n i ++ (if 16 ^ (7 - i) < n then [16 ^ (7 - i)] else []) := by
  have e : ([7, 6, 5, 4, 3, 2, 1, 0] : List Nat).take (i + 1) = ([7, 6, 5, 4, 3, 2, 1, 0] : List Nat).take i ++ [7 - i] := by
    have : ∀ j : Fin 8, ([7, 6, 5, 4, 3, 2, 1, 0] : List Nat).take (j.val + 1) = ([7, 6, 5, 4, 3, 2, 1, 0] : List Nat).take j.val ++ [7 - j.val] := by decide
    exact this ⟨i, hi⟩
  unfold wl
  rw [e, List.map_append, List.filter_append]
  congr 1
  by_cases h : 16 ^ (7 - i) < n <;> simp [h]
theorem worthsOf_pos {n wo : Nat} (h : wo ∈ worthsOf n) : 1 ≤ wo ∧ wo < n ∧ wo ≤ 268435456 := by
  unfold worthsOf at h
  refine an2 (List.mem_filter.mp h) fun h1 h2 => ?_
  refine Exists.elim (List.mem_map.mp h1) fun j hx_q => an2 hx_q fun hj zr13 => ?_
  subst zr13
  have hj7 : j ≤ 7 := (by decide : ∀ x ∈ ([7, 6, 5, 4, 3, 2, 1, 0] : List Nat), x ≤ 7) j hj
  exact ⟨Nat.pow_pos (by decide), by simpa using h2, Nat.pow_le_pow_right (n := 16) (by decide) hj7⟩
theorem digit (x wo : Nat) : (65 : Int) + ((x : Int).fdiv wo).fmod 16 = ((65 + x / wo % 16 : Nat) : Int) := by
  have e1 : (x : Int).fdiv wo = ((x / wo : Nat) : Int) := by rw [Int.fdiv_eq_ediv_of_nonneg _ (Int.natCast_nonneg wo)]; rfl
  have e2 : ((x / wo : Nat) : Int).fmod 16 = ((x / wo % 16 : Nat) : Int) := by rw [Int.fmod_eq_emod_of_nonneg _ (by decide)]; rfl
  rw [e1, e2]; rfl
theorem names_K {news : List (Addr × Obj)} {f c : Nat} {tf tc : Tok} {R : Result → Shared → Prop}
   (X₀ : (hd.heap_39 w.params).In h₀) (T : TopRead p loose mg mb h₀) (B : BM h₀ mg) (F : Fr h₀ L s.heap m) (N : News h₀ L s.heap news) (hA : Room A 10)
   (hf : f ≤ 2000000000) (hc : c ≤ 100)
   (h : ∀ h' D (l : List (Str × Tok)) e tk, Fr h₀ L h' m → News h₀ L h' ((D, listOf (txts l).toArray e) :: news) → l.map (·.1) = (List.range c).map (fun k => (⟨(nameOf (f + c) (f + k)).toArray⟩ : Str)) → R (.ok (.ret (.ref D))) { s with heap := h', toks := tk }) :
   codeAny (model prog w) A (.call (.ref 233) ⟨[.int f tf, .int c tc], []⟩) R s := by
  refine' enterC (binds := [("first", .int f tf), ("count", .int c tc)]) X₀ T B F N (hA.lt (by decide)) ?_
  clear X₀ T B F N
  intro g L' h' tk cells kg F' N' Y X' T' B' l1
  refine ex3 (CellsAre.three (show CellsAre _ [(("number" : Str), L' + 1 + 1 + 1), (("count" : Str), L' + 1 + 1), (("first" : Str), L' + 1)] cells from Y)) fun o3 o2 o1 hx_q => an4 hx_q fun zr12 c3 c2 c1 => ?_
  subst zr12
  replace c1 : o1.data = .cell (some (.int f tf)) := c1
  replace c2 : o2.data = .cell (some (.int c tc)) := c2
  replace c3 : o3.data = .cell none := c3
  clear Y
  generalize (bindL _ _ _) = m0 at F'
  walk1
  all_goals (try walk_at "us")
  refine compJ0A (h₀ := g) (L := L') (m := m0) rfl (by with_unfolding_all rfl) (by rfl) (by rfl) (by with_unfolding_all rfl) (fun _ _ => rfl) (fun _ => rfl) (by rfl) (by decide) ?_
  iterate 14 walk1
  all_goals (try walk_at "us")
  try dsimp only
  refine call_range_3 (by decide) ?_ (Or.inl (PyProof.noPylong_small (by decide)))
  refine wpAny_pyIter_range (Heap.get?_push_size _ rfl) (by decide) ?_
  dsimp only
  have up1 : ∀ (o o' : Obj) b ob, h'.get? b = some ob → ((h'.push o).push o').get? b = some ob := fun o o' b ob e => Heap.get?_push_of_some _ (Heap.get?_push_of_some _ e)
  have F1 := fun o o' => F'.keeps (up1 o o')
  have N1 := fun o o' => N'.grown (up1 o o')
  have nn := fun o => next_new (F'.keeps fun b ob e => Heap.get?_push_of_some o e) _ (Nat.le_refl _)
  have hLt := F'.ns.lt
  refine xi7 _ ([_]) 8 _ _ (fun _ => True) _ ⟨rfl, ⟨Walks.range (by exact hA.handled) _ (7) (-1) 8, by rw [sizeLine_eq]; decide, fun i h st => ⟨_, st⟩, fun i h h' o nw st e e' _ _ _ => (e'.trans (e.symm.trans st)), fun b hb => ?_, ?_, (nn _).2, fun q hq => ?_, ?_, F1 _ _, N1 _ _, trivial⟩,
    fun i ys nw => nw = _ ∧ IntsAre ys ((wl (f + c) i).map Int.ofNat), ⟨rfl, ?_⟩, fun i ys nw hJ => ?_, fun C D => ?_, fun D ys nw hJ hS h2 tk2 F2 N2 off2 => ?_⟩
  · rw [List.mem_singleton.mp hb]
    show _ < ((h'.push _).push _).objs.size
    exact Nat.lt_of_lt_of_eq (Nat.lt_succ_self _) (Heap.size_push _ _).symm
  · exact Nat.ne_of_lt (Nat.lt_of_lt_of_eq (Nat.lt_succ_of_lt hLt) (Heap.size_push _ _).symm)
  · exact Nat.ne_of_lt (by rw [Heap.size_push]; exact Nat.lt_succ_of_lt (Heap.lt_size (N' q hq).1))
  · exact Heap.get?_push_size _ rfl
  · exact .nil
  · rw [hJ.2.length, List.length_map]; exact wl_len _ _
  · intro i v ys nw h3 tk3 oI oC m₂ E' hi hP hJ hS F3 N3 off3 ne3 hC3 hst3
    refine Exists.elim hP fun t3 zr11 => ?_
    (try clear hP)
    subst zr11
    obtain ⟨rfl, hJ⟩ := hJ
    clear F1 N1 nn
    refine wpAny_of_eq rfl (assignC (by rfl) (by rfl) F3 N3 hC3 off3 ne3 fun h4 oC4 F4 N4 hC4 _ => ?_)
    clear F3 N3 hC3
    refine wpAny_tests_one ?_
    have hx4 : (fun z => if z = ("k" : Str) then some (Value.int (7 + (i : Int) * -1) t3) else m₂ z) ("k" : Str) = some (.int ((7 - i : Nat) : Int) t3) := by
      dsimp only
      rw [if_pos rfl, down7 hi]
    generalize (fun z => if z = ("k" : Str) then some (Value.int (7 + (i : Int) * -1) t3) else m₂ z) = m4 at hC4 hx4
    have key := wl_succ (f + c) i hi
    generalize hj : 7 - i = j at hx4 key
    have hj8 : j < 8 := hj ▸ Nat.lt_succ_of_le (Nat.sub_le 7 i)
    dsimp only
    have ep : (16 : Int) ^ ((j : Nat) : Int).toNat = ((16 ^ j : Nat) : Int) := by rw [Int.toNat_natCast, Int.natCast_pow]; rfl
    iterate 12 walk1
    all_goals (try walk_at "us")
    · rename_i hlt
      iterate 4 walk1
      all_goals (try walk_at "us")
      refine xi5 _ _ oC4 m4 _ ⟨rfl, F4, N4, hC4, off3, trivial, rfl, ?_⟩
      rw [ep] at hlt
      rw [key, if_pos (by revert hlt; generalize 16 ^ j = y; intro hlt; (try simp at hlt); lia), List.map_append, ep]
      exact hJ.append (.cons _ _ .nil)
    · rename_i hlt
      refine xi5 _ _ oC4 m4 _ ⟨rfl, F4, N4, hC4, off3, trivial, rfl, ?_⟩
      rw [ep] at hlt
      rw [key, if_neg (by revert hlt; generalize 16 ^ j = y; intro hlt; (try simp at hlt); lia), List.append_nil]
      exact hJ
  · obtain ⟨rfl, hJ⟩ := hJ
    rw [show wl (f + c) 8 = worthsOf (f + c) from rfl] at hJ
    clear F1 N1 nn hS
    try dsimp only
    have hyl : ys.length ≤ 8 := by rw [hJ.length, List.length_map]; exact wl_len (f + c) 8
    iterate 4 walk1
    all_goals (try walk_at "us")
    refine newList_N F2 N2 (fun h5 F5 N5 => ?_) (by rw [sizeLine_eq]; exact Nat.le_of_ble_eq_true rfl)
    have lt5 := fun p hp => Heap.lt_size (N2 p hp).1
    clear F2 N2
    dsimp only at N5 lt5 ⊢
    generalize Array.size _ = D2 at N5 lt5 ⊢
    walk1
    all_goals (try walk_at "us")
    rename_i h6 F6 N6
    have hmn : (fun y => if y = ("names" : Str) then some (Value.ref D2) else if y = ("worths" : Str) then some (Value.ref D) else m0 y) ("names" : Str) = some (.ref D2) := if_pos rfl
    have hmw : (fun y => if y = ("names" : Str) then some (Value.ref D2) else if y = ("worths" : Str) then some (Value.ref D) else m0 y) ("worths" : Str) = some (.ref D) := (if_neg (by decide)).trans (if_pos rfl)
    generalize (fun y => if y = ("names" : Str) then some (Value.ref D2) else if y = ("worths" : Str) then some (Value.ref D) else m0 y) = m1 at F6 hmn hmw
    walk1
    all_goals (try walk_at "us")
    refine wpAny_For ?_
    iterate 11 walk1
    all_goals (try walk_at "us")
    refine call_range_2 ?_
    refine wpAny_pyIter_range (Heap.get?_push_size _ rfl) (smallUp f c (by lia) (by lia) (by lia)) ?_
    dsimp only
    have up2 : ∀ (o o' : Obj) b ob, h6.get? b = some ob → ((h6.push o).push o').get? b = some ob := fun o o' b ob e => Heap.get?_push_of_some _ (Heap.get?_push_of_some _ e)
    have F7 := fun o o' => F6.keeps (up2 o o')
    have N7 := fun o o' => N6.grown (up2 o o')
    have nn7 := fun o => next_new (F6.keeps fun b ob e => Heap.get?_push_of_some o e) _ (Nat.le_refl _)
    have hLt7 := F6.ns.lt
    refine forJ (h₀ := g) (L := L') (s := s) (n := c) (fun i gg m' nw => gg = s.gens ∧ m' = m1 ∧ ∃ (l : List (Str × Tok)) (e : Nat) (oc : Obj) (v0 : Option Value), nw = (D2, listOf (txts l).toArray e) :: (D, lst ys) :: (L' + 1 + 1 + 1, oc) :: (L' + 1 + 1, o2) :: (L' + 1, o1) :: news ∧ oc.data = .cell v0 ∧
        l.map (·.1) = (List.range i).map (fun k => (⟨(nameOf (f + c) (f + k)).toArray⟩ : Str))) (range_walks (by exact hA.handled) (f : Int) c) (fun i h st => ⟨_, st⟩) range_st (S := fun _ => True) ?_ (nn7 _).2 ?_ ?_ _ 0 _ _ _ m1 _ rfl (Nat.zero_le _) ?_ (F7 _ _) (N7 _ _) (fun q hq => ?_) trivial ⟨rfl, rfl, [], 0, o3, _, rfl, c3, rfl⟩
    · exact Nat.ne_of_lt (Nat.lt_of_lt_of_eq (Nat.lt_succ_of_lt hLt7) (Heap.size_push _ _).symm)
    · clear F7 N7 nn7
      intro i v gg h7 tk7 m7 nw oI E7 hi hP hJ7 _ F7 N7 off7 st7
      refine an3 hJ7 fun zr6 zr7 hx_q => ex4 hx_q fun l e oc v0 hx_q => an3 hx_q fun zr8 hoc hl => ?_
      (try clear hJ7)
      subst zr6
      subst zr7
      subst zr8
      refine Exists.elim hP fun t7 zr5 => ?_
      (try clear hP)
      subst zr5
      refine wpAny_of_eq rfl ?_
      have q1 : D2 ≠ L' + 1 + 1 + 1 := News.neD N7 (.tail _ (.head _)) (.tail _ (.tail _ (.tail _ (.head _)))) (by rw [hoc]; intro e; cases e)
      have q2 : D ≠ L' + 1 + 1 + 1 := News.neD N7 (.tail _ (.tail _ (.head _))) (.tail _ (.tail _ (.tail _ (.head _)))) (by rw [hoc]; intro e; cases e)
      have q3 := off7 _ (.tail _ (.tail _ (.head _)))
      refine wpAny_assign_Name (storeX_C F7 N7 rfl (UpdF.tail (Ne.symm q3) (UpdF.tail q1 (UpdF.tail q2 (UpdF.head fun q hq => ?_)))) hoc (fun h8 o8 F8 N8 ho8 => ?_) (by rfl) (by rfl))
      · revert q hq
        refine all_cons ?_ fun q hq => ?_
        · exact Nat.ne_of_lt (Nat.lt_succ_self _)
        · revert q hq
          refine all_cons ?_ fun q hq => ?_
          · exact Nat.ne_of_lt (Nat.lt_succ_of_lt (Nat.lt_succ_self _))
          · exact Nat.ne_of_lt (Nat.lt_succ_of_lt (Nat.lt_succ_of_lt (Nat.lt_succ_of_lt (l1 q hq))))
      clear F7 N7
      have hfi : (f : Int) + (i : Int) = ((f + i : Nat) : Int) := by lia
      rw [hfi] at ho8
      dsimp only
      iterate 12 walk1
      all_goals (try walk_at "us")
      refine LCg.ListComp_U (F₀ := F8) (by with_unfolding_all rfl) (by decide) (by rfl) (by decide) (by rfl) ?_
      walk1
      all_goals (try walk_at "us")
      refine LCg.CompSrc.ledger (its := ys.toArray) hA.handled F8 N8 (.tail _ (.tail _ (.head _))) (by rw [sizeLine_eq, List.size_toArray]; lia) fun gg3 => ?_
      refine rest_E (fun j y => ∃ z t, y = .str z t ∧ ∃ wo, (worthsOf (f + c))[j]? = some wo ∧ z = ⟨#[if wo ≤ f + i then 65 + (f + i) / wo % 16 else 61]⟩) (fun j zs2 v2 I2 oI2 C2 oC2 D2' m3 h9 tk9 E9 hj hPj hC9 hx9 F9 N9 off9 => ?_) (.inr ⟨_, .tail _ (.tail _ (.head _)), rfl, _, rfl⟩) (fun zs2 hlen2 hzs2 => ?_)
      · clear F8 N8
        have hPj2 : ys[j]? = some v2 := by rw [← hPj]; simp
        have hjl : j < (worthsOf (f + c)).length := by have := hJ.length; rw [List.length_map] at this; rw [← this]; simpa using hj
        have hob : ∃ wo, (worthsOf (f + c))[j]? = some wo := ⟨_, List.getElem?_eq_getElem hjl⟩
        refine Exists.elim hob fun wo hwo => ?_
        clear hob
        obtain ⟨t10, ht10⟩ := hJ.get j (wo : Int) (by rw [List.getElem?_map, hwo]; rfl)
        rw [ht10] at hPj2
        cases hPj2
        have hwo1 := worthsOf_pos (List.mem_of_getElem? hwo)
        iterate 8 walk1
        all_goals (try walk_at "us")
        · rename_i hge
          iterate 10 walk1
          all_goals (try walk_at "us")
          refine floordiv_int (by lia) ?_ (Or.inl (PyProof.noPylong_small (by omega)))
          iterate 3 walk1
          all_goals (try walk_at "us")
          rw [digit]
          walk1
          all_goals (try walk_at "us")
          refine chr_of_range (by lia) (by lia) ?_
          refine xi2 _ _ ⟨rfl, F9, N9, _, _, rfl, wo, hwo, ?_⟩
          rw [if_pos (by lia), Int.toNat_natCast]
        · rename_i hge
          walk1
          all_goals (try walk_at "us")
          refine xi2 _ _ ⟨rfl, F9, N9, _, _, rfl, wo, hwo, ?_⟩
          rw [if_neg (by lia)]; rfl
      · refine Exists.elim (strs_of_each hzs2) fun lz hx_q => an2 hx_q fun zr4 hlz => ?_
        subst zr4
        intro D5 h10 tk10 F10 N10 off10
        clear F8 N8
        have elz : lz.map (·.1) = (nameOf (f + c) (f + i)).map fun ch => (⟨#[ch]⟩ : Str) := by
          have hlen3 : lz.length = (worthsOf (f + c)).length := by
            have h1 := hJ.length
            rw [List.length_map] at h1
            have h2 := hlen2
            simp only [List.length_map, List.size_toArray] at h2
            lia
          refine List.ext_getElem? fun j => ?_
          cases e1 : (lz.map (·.1))[j]? with
          | none =>
            rw [List.getElem?_eq_none_iff, List.length_map] at e1
            rw [List.getElem?_eq_none (by rw [List.length_map, nameOf, List.length_map]; lia)]
          | some z =>
            refine Exists.elim (hlz j z e1) fun wo hx_q => an2 hx_q fun h1 h2 => ?_
            rw [h2, nameOf, List.getElem?_map, List.getElem?_map, h1]; rfl
        have hzl : lz.length ≤ 8 := by
          have h1 := hJ.length
          rw [List.length_map] at h1
          have h2 := congrArg List.length elz
          simp only [List.length_map, nameOf] at h2
          lia
        walk1
        all_goals (try walk_at "us")
        try dsimp only [List.cons_append, List.nil_append]
        refine SC.join (l := lz) ⟨_, (N10 (D5, _) (.head _)).1, rfl, _, rfl⟩ elz (joinOk_of ?_) fun t11 k11 => ?_
        · rw [← elz]
          have e0 : ("" : Str).length = 0 := rfl
          rw [e0]
          have : ((lz.map (·.1)).map (·.length)).sum = lz.length := by
            rw [elz, List.map_map]
            have h2 := congrArg List.length elz
            simp only [List.length_map] at h2
            rw [h2]
            generalize nameOf (f + c) (f + i) = cs
            clear h2 elz
            induction cs with
            | nil => rfl
            | cons a r ih => simp only [List.map_cons, List.sum_cons, List.length_cons]; rw [ih]; show 1 + _ = _; lia
          lia
        rw [join_chars]
        walk1
        all_goals (try walk_at "us")
        try dsimp only [List.cons_append, List.nil_append]
        have q4 : ∀ q ∈ (D, lst ys) :: (L' + 1 + 1 + 1, o8) :: (L' + 1 + 1, o2) :: (L' + 1, o1) :: news, q.1 ≠ D2 := fun q hq => by
          revert q hq
          refine all_cons ?_ fun q hq => ?_
          · exact Nat.ne_of_lt (lt5 (D, lst ys) (.head _))
          · revert q hq
            refine all_cons ?_ fun q hq => ?_
            · exact Nat.ne_of_lt (lt5 (L' + 1 + 1 + 1, o3) (.tail _ (.head _)))
            · exact Nat.ne_of_lt (lt5 q (.tail _ (.tail _ hq)))
        have off8 : ∀ (o : Obj), ∀ q ∈ (D2, o) :: (D, lst ys) :: (L' + 1 + 1 + 1, o8) :: (L' + 1 + 1, o2) :: (L' + 1, o1) :: news, q.1 ≠ _ := fun o q hq => by
          revert q hq
          refine all_cons ?_ fun q hq => ?_
          · exact (show D2 ≠ _ from off7 (D2, _) (.head _))
          · revert q hq
            refine all_cons ?_ fun q hq => ?_
            · exact (show D ≠ _ from off7 (D, _) (.tail _ (.head _)))
            · revert q hq
              refine all_cons ?_ fun q hq => ?_
              · exact q3
              · exact off7 q (.tail _ (.tail _ (.tail _ hq)))
        have hle : l.length ≤ c := by
          have := congrArg List.length hl
          simp only [List.length_map, List.length_range] at this
          lia
        refine appendL (D := D2) (pre := [(_, oI)]) F10 (News.sub N10 (fun q hq => .tail _ hq)) (fun q hq => ?_) q4 (by simp; lia) fun h12 F12 N12 => ?_
        · rw [List.mem_singleton.mp hq]
          exact Ne.symm (off7 (D2, _) (.head _))
        clear F10 N10
        walk1
        all_goals (try walk_at "us")
        refine ⟨.inl rfl, h12, _, s.gens, m7, _, rfl, F12, N12, off8 _, trivial, rfl, rfl, l ++ [(⟨(nameOf (f + c) (f + i)).toArray⟩, t11)], e + 1, o8, _, ?_, ho8, ?_⟩
        · show _ :: _ = _
          rw [List.push_toArray]; simp [txts]
        · rw [List.map_append, hl, List.range_succ, List.map_append]; rfl
    · intro h7 tk7 gg m7 nw F8 N8 _ hJ8
      refine an3 hJ8 fun zr1 zr2 hx_q => ex4 hx_q fun l e oc v0 hx_q => an3 hx_q fun zr3 hoc hl => ?_
      (try clear hJ8)
      subst zr1
      subst zr2
      subst zr3
      clear F7 N7 nn7
      try dsimp only
      iterate 3 walk1
      all_goals (try walk_at "us")
      exact leaveK_ F8 (News.sub N8 fun q hq => by
        revert q hq
        refine all_cons ?_ fun q hq => ?_
        · exact .head _
        · exact .tail _ (.tail _ (.tail _ (.tail _ (.tail _ hq))))) fun F9 N9 => h _ _ _ _ _ F9 N9 hl
    · rw [rangeUp]
      exact Heap.get?_push_size _ rfl
    · exact Nat.ne_of_lt (Nat.lt_of_lt_of_eq (Nat.lt_succ_of_lt (Heap.lt_size (N6 q hq).1)) (Heap.size_push _ _).symm)

end
end

section
open PySem PySem.W PySem.Calls PyProof.Rows
section
variable {prog : Program} {w : World} {A : Around} {E : Value → Shared → Prop} {s : Shared} {h₀ : Heap} {L : Addr} {m : Str → Option Value} {pg : PG} {st : ST} {rest : List (Addr × Obj)} {p : Program} {loose : List Str} {mg mb : Str → Option Value}

open LCg
theorem Ok_of {st : ST} {l : List (Str × Str)} {i : Nat} {ls : List Str} (h : shOf st = ⟨l, (i : Int), ls⟩) (h1 : ∀ p ∈ l, p.1.length ≤ 1000 ∧ p.2.length ≤ 1000) (h2 : l.length ≤ 1000) (h3 : i ≤ 1000000) (h4 : ls.length ≤ 1000) : Ok st := by
  have e1 : fs st.parts = l := congrArg Sh.parts h
  have e2 : st.init = (i : Int) := congrArg Sh.init h
  have e3 : st.lines.map (·.1) = ls := congrArg Sh.lines h
  refine ⟨fun x hx => ?_, ?_, by lia, by lia, ?_⟩
  · exact h1 (x.f, x.s) (by rw [← e1]; exact List.mem_map.mpr ⟨x, hx, rfl⟩)
  · have := congrArg List.length e1; rw [fs, List.length_map] at this; lia
  · have := congrArg List.length e3; rw [List.length_map] at this; lia
theorem chunk_small {t sz : Nat} {solo : Prop} {b : Str} (hb : Body sz solo b) (hz : sz ≤ 900) : ∀ p ∈ chunk t b, p.1.length ≤ 1000 ∧ p.2.length ≤ 1000 := by
  have e1 : ("" : Str).length = 0 := rfl
  have e2 : (card b).length = b.length + 2 := by
    show (b.cps ++ (" ;" : Str).cps).size = _
    rw [Array.size_append]; rfl
  have e3 : (" " : Str).length = 1 := rfl
  have e4 : (";" : Str).length = 1 := rfl
  have e5 : (" \t" : Str).length = 2 := rfl
  have e6 : ("; " : Str).length = 2 := rfl
  have e := hb.len
  intro p hp
  match t with
  | 0 =>
    have : p = (("" : Str), card b) := by simpa [chunk] using hp
    subst this; dsimp only; lia
  | 1 =>
    have : p = (("" : Str), b) ∨ p = ((" " : Str), (";" : Str)) := by simpa [chunk] using hp
    rcases this with rfl | rfl <;> dsimp only <;> lia
  | 2 =>
    have : p = ((" \t" : Str), b) := by simpa [chunk] using hp
    subst this; dsimp only; lia
  | t + 3 =>
    have : p = (("" : Str), b) ∨ p = (("" : Str), ("; " : Str)) := by simpa [chunk] using hp
    rcases this with rfl | rfl <;> dsimp only <;> lia
theorem chunk_two (t : Nat) (b : Str) : (chunk t b).length ≤ 2 := by
  match t with
  | 0 => exact Nat.le_of_ble_eq_true rfl
  | 1 => exact Nat.le_of_ble_eq_true rfl
  | 2 => exact Nat.le_of_ble_eq_true rfl
  | t + 3 => exact Nat.le_of_ble_eq_true rfl
theorem parts_small {t sz : Nat} {solo : Prop} (hz : sz ≤ 900) : ∀ {bs : List Str}, (∀ b ∈ bs, Body sz solo b) → ∀ p ∈ parts t bs, p.1.length ≤ 1000 ∧ p.2.length ≤ 1000
  | [], _, p, hp => by simp [parts] at hp
  | b :: r, h, p, hp => by
    have e : parts t (b :: r) = chunk t b ++ parts t r := rfl
    rw [e] at hp
    rcases List.mem_append.mp hp with hp | hp
    · exact chunk_small (h b (.head _)) hz p hp
    · exact parts_small hz (fun x hx => h x (.tail _ hx)) p hp
theorem parts_len (t : Nat) : ∀ bs : List Str, (parts t bs).length ≤ 2 * bs.length
  | [] => by simp [parts]
  | b :: r => by
    have e : parts t (b :: r) = chunk t b ++ parts t r := rfl
    rw [e, List.length_append, List.length_cons]
    have := chunk_two t b
    have := parts_len t r
    lia
structure PgOk (n sz : Nat) (solo : Prop) (k : Nat) (a : Ab) : Prop where
  ok : AbOk n sz solo a
  cur : a.cur.length ≤ k
  rows : a.rows.length ≤ k
  hk : k ≤ 100
  hsz : sz ≤ 900
  hn : n ≤ 12
  solo : 2 ≤ k → ¬ solo
  one : a.cur ≠ [] → 1 ≤ k
theorem PgOk.okSt {n sz t k : Nat} {solo : Prop} {a : Ab} {st : ST} (x : PgOk n sz solo k a) (h : shOf st = shAb t (sz + 2) a) : Ok st ∧ st.parts.length < 1000 := by
  have h1 := x.cur
  have h2 := parts_len t a.cur
  have h3 := x.hk
  have h5 := x.ok.lt
  have h6 := x.hn
  have h7 := x.hsz
  have h8 : a.i0 * (sz + 2) ≤ 12 * 902 := Nat.mul_le_mul (by lia) (by lia)
  refine ⟨Ok_of h (parts_small x.hsz x.ok.body) (by lia) (by lia) (by rw [List.length_map]; have := x.rows; lia), ?_⟩
  have e1 : fs st.parts = parts t a.cur := congrArg Sh.parts h
  have := congrArg List.length e1; rw [fs, List.length_map] at this; lia
theorem PgOk.okMid {n sz t k : Nat} {solo : Prop} {a : Ab} {b : Str} {st : ST} (x : PgOk n sz solo k a) (hb : Body sz solo b) (h : shOf st = mid t (sz + 2) a b) : Ok st ∧ st.parts.length < 1000 := by
  have h1 := x.cur
  have h2 := parts_len t a.cur
  have h3 := x.hk
  have h5 := x.ok.lt
  have h6 := x.hn
  have h7 := x.hsz
  have h8 : a.i0 * (sz + 2) ≤ 12 * 902 := Nat.mul_le_mul (by lia) (by lia)
  have e0 : ("" : Str).length = 0 := rfl
  refine ⟨Ok_of h (fun p hp => ?_) (by rw [List.length_append, List.length_singleton]; lia) (by lia) (by rw [List.length_map]; have := x.rows; lia), ?_⟩
  · rcases List.mem_append.mp hp with hp | hp
    · exact parts_small x.hsz x.ok.body p hp
    · rw [List.mem_singleton.mp hp]; have := hb.len; dsimp only; lia
  · have e1 : fs st.parts = parts t a.cur ++ [(("" : Str), b)] := congrArg Sh.parts h
    have := congrArg List.length e1; rw [fs, List.length_map, List.length_append, List.length_singleton] at this; lia
theorem PgOk.step {n sz k : Nat} {solo : Prop} {a : Ab} {b : Str} (x : PgOk n sz solo k a) (hb : Body sz solo b) (hk : k + 1 ≤ 100) (hs : 1 ≤ k → ¬ solo) : PgOk n sz solo (k + 1) (a.step n b) := by
  refine ⟨x.ok.step hb, ?_, ?_, hk, x.hsz, x.hn, fun h => hs (by lia), fun _ => by lia⟩
  · have := x.cur
    unfold Ab.step; split
    · show 1 ≤ k + 1; lia
    · show (a.cur ++ [b]).length ≤ k + 1; rw [List.length_append, List.length_singleton]; lia
  · have := x.rows
    unfold Ab.step; split
    · show (a.rows ++ [a.cur]).length ≤ k + 1; rw [List.length_append, List.length_singleton]; lia
    · show a.rows.length ≤ k + 1; lia
theorem sch_ascii (t : Nat) : (sch t).cps.all (· < 128) = true := by
  match t with
  | 0 => decide +kernel
  | 1 => decide +kernel
  | 2 => decide +kernel
  | t + 3 => show (("-; " : Str).cps.all (· < 128)) = true; decide +kernel

end
end

section
open PySem PySem.W PySem.Calls PyProof.Rows
section
variable {prog : Program} {w : World} {A : Around} {E : Value → Shared → Prop} {s : Shared} {h₀ : Heap} {L : Addr} {m : Str → Option Value} {pg : PG} {st : ST} {rest : List (Addr × Obj)} {p : Program} {loose : List Str} {mg mb : Str → Option Value}
theorem look_inj {K : Frag} {x : Addr} {o o' : Obj} (h1 : K.lookup x = some o) (h2 : K.lookup x = some o') : o = o' := Option.some.inj (h1.symm.trans h2)
theorem look_pair {K : Frag} {x : Addr} {o o' : Obj} (h1 : K.lookup x = some o) (h2 : K.lookup x = some o') : K.lookup x = some o' ∧ o = o' := ⟨h2, Option.some.inj (h1.symm.trans h2)⟩
theorem fnE {oc od an cdv ct oc' od' an' cdv' ct' name qual name' qual' params params' body body' scope scope' dV kV doc pm dV' kV' doc' pm' osl osl'}
    (e : (⟨oc, od, .func (fnX name qual params body scope [] dV kV doc pm an cdv ct), osl⟩ : Obj) = ⟨oc', od', .func (fnX name' qual' params' body' scope' [] dV' kV' doc' pm' an' cdv' ct'), osl'⟩) :
    body = body' ∧ qual = qual' ∧ scope = scope' ∧ cdv = cdv' := by
  injection e with _ _ e _
  injection e with e
  injection e with _ h2 _ h4 h5 _ _ _ _ _ _ _ h13
  injection h4 with h4
  exact ⟨h4, h2, h5, h13⟩
theorem envE {qual qual' : Str} {scope scope' : Scope} {cdv cdv' : Value} {tb tb' : List Stmt} {L a : Addr} (h2 : qual = qual') (h3 : scope = scope') (h4 : cdv = cdv') (h1 : tb = tb') :
    execs tb (envX qual scope L a cdv (cellsFrom (L + 1) scope.names [])) = execs tb' (envX qual' scope' L a cdv' (cellsFrom (L + 1) scope'.names [])) := by
  subst h1; subst h2; subst h3; subst h4; rfl
noncomputable def forBody : List Stmt → List Stmt
  | .For _ _ tb _ _ :: _ => tb
  | _ => []
open LCg
theorem card_len (b : Str) : (card b).length = b.length + 2 := by
  show (b.cps ++ (" ;" : Str).cps).size = _
  rw [Array.size_append]; rfl
theorem sh_cut {st : ST} {sh : Sh} {mx : Int} {f s : Str} {cs : List Nat} (h : shOf st = sh) (hc : mx < sh.init + lenF (sh.parts ++ [(f, s)]) → (outerFind (sh.parts ++ [(f, s)]) cs).isSome = true) :
    mx < st.init + lenF (fs st.parts ++ [(f, s)]) → (outerFind (fs st.parts ++ [(f, s)]) cs).isSome = true := by
  subst h; exact hc
theorem itemAt {value slice : PySem.Expr} {l : Addr} {vs : Array Value} {k : Int} {u : Tok} {v : Value} {Q : Value → Shared → Prop} (hl : s.heap.IsList l vs) (h0 : 0 ≤ k) (hhi : k < 2 ^ 63) (hx : vs[k.toNat]? = some v) (h : Q v s)
    (hs : subscripted slice false (.ref l) (.int k u) = operate [.ref l, .int k u] (getItem (.ref l) (.int k u)) := by with_unfolding_all rfl) :
    wpAny (model prog w) A (subscriptTail value slice (.ref l) (.int k u)) Q E s :=
  tail_any hl.typeIs slot_list_getitem.lookup (wpAny_getItem_list hl h0 hhi (by simpa using hx) h) hs
theorem pick2 {t : Nat} {f a b : Str} {u v : Tok} (h : (t = 1 ∧ f = a) ∨ (t = 3 ∧ f = b)) : ∃ x, (#[Value.str a u, Value.str b v])[((t : Int).fdiv 2).toNat]? = some (.str f x) := by
  rcases h with ⟨rfl, rfl⟩ | ⟨rfl, rfl⟩
  · exact ⟨u, rfl⟩
  · exact ⟨v, rfl⟩
theorem cardBody {name qual : Str} {params : Arguments} {body tb cb e1 e2 rs rs2 : List Stmt} {s1 s2 s3 b1 b2 b3 b4 : Stmt} {t1 i1 t2 i2 : Expr} {p1 p2 : Pos} {scope : Scope} {dV kV doc pm cdv ct oc : Value} {an od : Option Addr} {osl : Array (Option Value)} {L' : Addr}
   {g : Heap} {m' : Str → Option Value} {a : Ab} {b : Str} {tt tc : Tok} {t n sz k : Nat} {solo : Prop} {E' : Value → Shared → Prop} {Q : Flow → Shared → Prop}
   (ho : (hd.heap_39 w.params).lookup 238 = some ⟨oc, od, .func (fnX name qual params body scope [] dV kV doc pm an cdv ct), osl⟩)
   (hb : body = s1 :: s2 :: s3 :: .For t1 i1 tb e1 p1 :: rs) (hb2 : tb = b1 :: b2 :: b3 :: b4 :: .For t2 i2 cb e2 p2 :: rs2)
   (hP : PO prog) (X' : (hd.heap_39 w.params).In g) (T' : TopRead p loose mg mb g) (B' : BM g mg) (F : Fr g L' s.heap m') (N : News g L' s.heap (PL w.params pg st ++ rest)) (hr : Off pg rest) (hA : Room A 15) (hG : AllBare s.gens)
   (ht : t < 4) (hm1 : m' ("turn" : Str) = some (.int (t : Int) tt)) (hm2 : m' ("card" : Str) = some (.str (card b) tc)) (hm3 : m' ("page" : Str) = some (.ref pg.page))
   (hsch : pg.sch = sch t) (hmax : pg.maxlen = wid t n (sz + 2)) (hsh : shOf st = shAb t (sz + 2) a) (hk : PgOk n sz solo k a) (hbb : Body sz solo b) (hs1 : a.cur ≠ [] → ¬ solo)
   (h : ∀ h' g' st' tk, Fr g L' h' m' → News g L' h' (PL w.params pg st' ++ rest) → AllBare g' → shOf st' = shAb t (sz + 2) (a.step n b) → Q .next { s with heap := h', gens := g', toks := tk }) :
   wpAny (model prog w) A (execs cb (envX qual scope L' 238 cdv (cellsFrom (L' + 1) scope.names []))) Q E' s := by
  have hh := look_pair ho (by k_is)
  have e := fnE hh.2
  have E0 := envE (L := L') (a := 238) e.2.1 e.2.2.1 e.2.2.2 (congrArg (fun b : List Stmt => forBody (b.drop 4)) (hb2.symm.trans (congrArg (fun b : List Stmt => forBody (b.drop 3)) (hb.symm.trans e.1))))
  dsimp only [List.drop, forBody] at E0
  rw [E0]
  clear E0 e hh ho hb hb2
  have hO := hk.okSt hsh
  rcases (by lia : t = 0 ∨ t = 2 ∨ (t = 1 ∨ t = 3)) with rfl | rfl | hodd
  · replace hm1 : m' ("turn" : Str) = some (.int 0 tt) := hm1
    iterate 19 walk1
    all_goals (try walk_at "us")
    refine ⟨Kat F X', ?_⟩
    try dsimp only [List.append_nil, List.nil_append, List.cons_append]
    have hl := lay02 (t := 0) (f := ("" : Str)) (s := card b) (.inl ⟨rfl, rfl, rfl⟩) hk.ok hbb
    refine append_C (f := ("" : Str)) (str := card b) hP X' T' B' F N hr (hA.less (by decide)) hG hO.1 hO.2 (by decide) (by have := hbb.len; have := hk.hsz; rw [card_len]; lia) (by rw [hsch]; exact sch_ascii 0) (by rw [hsch, hmax]; exact sh_cut hsh hl.2) fun h1 g1 st1 tk1 F1 N1 G1 e1 => ?_
    rw [hsch, hmax, hsh, hl.1] at e1
    clear F N
    repeat walk1
    all_goals (try walk_at "us")
    exact h _ _ _ _ F1 N1 G1 e1
  · replace hm1 : m' ("turn" : Str) = some (.int 2 tt) := hm1
    iterate 34 walk1
    all_goals (try walk_at "us")
    refine slice_strN_ns F N (fun h1 t1 k1 F1 N1 => ?_) (by with_unfolding_all rfl) (fun _ => by with_unfolding_all rfl) (by rw [sizeLine_eq]; have := card_len b; have := hbb.len; have := hk.hsz; lia)
    rw [slice_card]
    clear F N
    walk1
    all_goals (try walk_at "us")
    refine ⟨Kat F1 X', ?_⟩
    try dsimp only [List.append_nil, List.nil_append, List.cons_append]
    have hl := lay02 (t := 2) (f := (" \t" : Str)) (s := b) (.inr ⟨rfl, rfl, rfl⟩) hk.ok hbb
    refine append_C (f := (" \t" : Str)) (str := b) hP X' T' B' F1 N1 hr (hA.less (by decide)) hG hO.1 hO.2 (by decide) (by have := hbb.len; have := hk.hsz; lia) (by rw [hsch]; exact sch_ascii 2) (by rw [hsch, hmax]; exact sh_cut hsh hl.2) fun h2 g2 st2 tk2 F2 N2 G2 e2 => ?_
    rw [hsch, hmax, hsh, hl.1] at e2
    clear F1 N1
    repeat walk1
    all_goals (try walk_at "us")
    exact h _ _ _ _ F2 N2 G2 e2
  · have hc0 : ∃ fo so : Str, (t = 1 ∧ fo = (" " : Str) ∧ so = (";" : Str)) ∨ (t = 3 ∧ fo = ("" : Str) ∧ so = ("; " : Str)) := hodd.elim (fun z => ⟨_, _, .inl ⟨z, rfl, rfl⟩⟩) fun z => ⟨_, _, .inr ⟨z, rfl, rfl⟩⟩
    clear hodd
    refine ex2 hc0 fun fo so hc => ?_
    clear hc0
    have hodd : t = 1 ∨ t = 3 := hc.elim (fun z => .inl z.1) fun z => .inr z.1
    have z0 : ((t : Int) == 0) = false := by rcases hodd with rfl | rfl <;> rfl
    have z2 : ((t : Int) == 2) = false := by rcases hodd with rfl | rfl <;> rfl
    have zd : (0 : Int) ≤ (t : Int).fdiv 2 ∧ (t : Int).fdiv 2 < 2 ^ 63 := by rcases hodd with rfl | rfl <;> decide
    iterate 6 walk1
    rw [z0]
    iterate 8 walk1
    rw [z2]
    iterate 20 walk1
    all_goals (try walk_at "us")
    refine slice_strN_ns F N (fun h1 t1 k1 F1 N1 => ?_) (by with_unfolding_all rfl) (fun _ => by with_unfolding_all rfl) (by rw [sizeLine_eq]; have := card_len b; have := hbb.len; have := hk.hsz; lia)
    rw [slice_card]
    clear F N
    walk1
    all_goals (try walk_at "us")
    refine ⟨Kat F1 X', ?_⟩
    try dsimp only [List.append_nil, List.nil_append, List.cons_append]
    have hl := lay13a (t := t) hodd hk.ok hbb
    refine append_C (f := ("" : Str)) (str := b) hP X' T' B' F1 N1 hr (hA.less (by decide)) hG hO.1 hO.2 (by decide) (by have := hbb.len; have := hk.hsz; lia) (by rw [hsch]; exact sch_ascii t) (by rw [hsch, hmax]; exact sh_cut hsh fun z => absurd z hl.2) fun h2 g2 st2 tk2 F2 N2 G2 e2 => ?_
    rw [hsch, hmax, hsh, hl.1] at e2
    clear F1 N1
    have hO2 := hk.okMid hbb e2
    iterate 19 walk1
    all_goals (try walk_at "us")
    rename_i t3 h3 F3 N3 hr3
    refine Exists.elim (pick2 (hc.imp (fun z => ⟨z.1, z.2.1⟩) fun z => ⟨z.1, z.2.1⟩)) fun x3 hx3 => itemAt (k := (t : Int).fdiv 2) ⟨_, (N3 _ (mem_rest (.head _))).1, rfl, _, rfl⟩ zd.1 zd.2 hx3 ?_
    iterate 13 walk1
    all_goals (try walk_at "us")
    rename_i t4 h4 F4 N4 hr4
    refine Exists.elim (pick2 (hc.imp (fun z => ⟨z.1, z.2.2⟩) fun z => ⟨z.1, z.2.2⟩)) fun x4 hx4 => itemAt (k := (t : Int).fdiv 2) ⟨_, (N4 _ (mem_rest (.head _))).1, rfl, _, rfl⟩ zd.1 zd.2 hx4 ?_
    walk1
    all_goals (try walk_at "us")
    refine ⟨Kat F4 X', ?_⟩
    try dsimp only [List.append_nil, List.nil_append, List.cons_append]
    have hl2 := lay13b (t := t) (f := fo) (s := so) hc hk.ok hbb (fun hne => hs1 hne)
    refine append_C (f := fo) (str := so) hP X' T' B' F4 N4 hr4 (hA.less (by decide)) G2 hO2.1 hO2.2 (by rcases hc with ⟨_, rfl, _⟩ | ⟨_, rfl, _⟩ <;> decide) (by rcases hc with ⟨_, _, rfl⟩ | ⟨_, _, rfl⟩ <;> decide) (by rw [hsch]; exact sch_ascii t) (by rw [hsch, hmax]; exact sh_cut e2 hl2.2) fun h5 g5 st5 tk5 F5 N5 G5 e5 => ?_
    rw [hsch, hmax, e2, hl2.1] at e5
    clear F4 N4
    repeat walk1
    all_goals (try walk_at "us")
    exact h _ _ _ _ F5 (PL_keep (fun q hq => .tail _ (.tail _ hq)) N5) G5 e5

end
end

section
open PySem PySem.W PySem.Calls PyProof.Rows
section
variable {prog : Program} {w : World} {A : Around} {E : Value → Shared → Prop} {s : Shared} {h₀ : Heap} {L : Addr} {m : Str → Option Value} {pg : PG} {st : ST} {rest : List (Addr × Obj)} {p : Program} {loose : List Str} {mg mb : Str → Option Value}
open LCg
noncomputable def finC (q : Str) : Str :=
  Txt.mul ("." : Str) ((q.length : Int) - (Txt.lstripChars q ("." : Str)).length) ++ Txt.mul ("-" : Str) (5 - ((q.length : Int) - (Txt.lstripChars q ("." : Str)).length)) ++ Txt.lstripChars (Txt.lstripChars q ("." : Str)) ("-" : Str) ++ (";" : Str)
theorem partBody {name qual : Str} {params : Arguments} {body tb pb e1 e2 rs rs2 : List Stmt} {s1 s2 s3 b1 b2 b3 b4 b5 b6 b7 b8 b9 : Stmt} {t1 i1 t2 i2 : Expr} {p1 p2 : Pos} {scope : Scope} {dV kV doc pm cdv ct oc : Value} {an od : Option Addr} {osl : Array (Option Value)} {L' : Addr}
   {g : Heap} {m' : Str → Option Value} {q : Str} {tq : Tok} {D : Addr} {l : List (Str × Tok)} {e : Nat} {pre post : List (Addr × Obj)} {E' : Value → Shared → Prop} {Q : Flow → Shared → Prop}
   (ho : (hd.heap_39 w.params).lookup 238 = some ⟨oc, od, .func (fnX name qual params body scope [] dV kV doc pm an cdv ct), osl⟩)
   (hb : body = s1 :: s2 :: s3 :: .For t1 i1 tb e1 p1 :: rs) (hb2 : tb = b1 :: b2 :: b3 :: b4 :: b5 :: b6 :: b7 :: b8 :: b9 :: .For t2 i2 pb e2 p2 :: rs2)
   (X' : (hd.heap_39 w.params).In g) (T' : TopRead p loose mg mb g) (F : Fr g L' s.heap m') (N : News g L' s.heap (pre ++ (D, listOf (txts l).toArray e) :: post)) (hpre : ∀ q ∈ pre, q.1 ≠ D) (hpost : ∀ q ∈ post, q.1 ≠ D) (hA : Room A 5)
   (hm1 : m' ("part" : Str) = some (.str q tq)) (hm2 : m' ("cards" : Str) = some (.ref D)) (hq : q.length ≤ 100000) (hl : l.length ≤ 1000)
   (h : ∀ h' tk tq' v1 v2, Fr g L' h' (fun y => if y = ("dots" : Str) then some v1 else if y = ("tail" : Str) then some v2 else m' y) → News g L' h' (pre ++ (D, listOf (txts (l ++ [(finC q, tq')])).toArray (e + 1)) :: post) → Q .next { s with heap := h', toks := tk }) :
   wpAny (model prog w) A (execs pb (envX qual scope L' 238 cdv (cellsFrom (L' + 1) scope.names []))) Q E' s := by
  have hh := look_pair ho (by k_is)
  have e := fnE hh.2
  have E0 := envE (L := L') (a := 238) e.2.1 e.2.2.1 e.2.2.2 (congrArg (fun b : List Stmt => forBody (b.drop 9)) (hb2.symm.trans (congrArg (fun b : List Stmt => forBody (b.drop 3)) (hb.symm.trans e.1))))
  dsimp only [List.drop, forBody] at E0
  rw [E0]
  clear E0 e hh ho hb hb2 oc dV kV doc pm cdv ct
  iterate 9 walk1
  all_goals (try walk_at "us")
  refine SC.lstripChars (fun t1 k1 => ?_) (by rw [sizeLine_eq]; lia)
  have hq2 : (Txt.lstripChars q ("." : Str)).length ≤ 100000 := Nat.le_trans (len_lstripChars q _) hq
  generalize htl : Txt.lstripChars q ("." : Str) = tl at hq2
  iterate 24 walk1
  all_goals (try walk_at "us")
  rename_i h3 _ h4 F4 N4
  refine Calls.getMethod_list_append (N4 (D, _) (List.mem_append_right _ (.head _))).1 rfl rfl ?_
  iterate 8 walk1
  all_goals (try walk_at "us")
  refine SB.mul (x := (⟨#[46]⟩ : Str)) (mul_ok 46 (by lia) (by lia)) fun t5 k5 => ?_
  have z1 := mul_len 46 (n := (q.length : Int) - tl.length) (by lia)
  iterate 6 walk1
  all_goals (try walk_at "us")
  refine SB.mul (x := (⟨#[45]⟩ : Str)) (mul_ok 45 (by lia) (by lia)) fun t6 k6 => ?_
  have z2 := mul_len 45 (n := 5 - ((q.length : Int) - tl.length)) (by lia)
  refine SB.add (fun t7 k7 => ?_) (by rw [sizeLine_eq]; omega)
  iterate 7 walk1
  all_goals (try walk_at "us")
  refine SC.lstripChars (fun t8 k8 => ?_) (by rw [sizeLine_eq]; lia)
  have z3 : (Txt.lstripChars tl ("-" : Str)).length ≤ 100000 := Nat.le_trans (len_lstripChars tl _) hq2
  refine SB.add (fun t9 k9 => ?_) (by rw [sizeLine_eq, Str.length_append]; lia)
  walk1
  all_goals (try walk_at "us")
  refine SB.add (fun t10 k10 => ?_) (by rw [sizeLine_eq, Str.length_append, Str.length_append]; have : (";" : Str).length = 1 := rfl; lia)
  walk1
  all_goals (try walk_at "us")
  try dsimp only [List.append_nil, List.nil_append, List.cons_append]
  refine appendL F4 N4 hpre hpost (by simp; lia) fun h5 F5 N5 => ?_
  walk1
  all_goals (try walk_at "us")
  refine h h5 _ t10 _ _ F5 ?_
  have ef : finC q = Txt.mul ("." : Str) ((q.length : Int) - tl.length) ++ Txt.mul ("-" : Str) (5 - ((q.length : Int) - tl.length)) ++ Txt.lstripChars tl ("-" : Str) ++ (";" : Str) := by rw [← htl]; rfl
  rw [ef]
  have e9 : ∀ (z : Str) (tz : Tok), (txts l).toArray.push (.str z tz) = (txts (l ++ [(z, tz)])).toArray := fun z tz => by simp
  rw [← e9]
  exact N5

end
end

section
open PySem PySem.W PySem.Calls PyProof.Rows
section
variable {prog : Program} {w : World} {A : Around} {E : Value → Shared → Prop} {s : Shared} {h₀ : Heap} {L : Addr} {m : Str → Option Value} {pg : PG} {st : ST} {rest : List (Addr × Obj)} {p : Program} {loose : List Str} {mg mb : Str → Option Value}
open LCg
noncomputable def sentT (room : Int) (x : Str) : Str := dotS (crlfS (Txt.mul ("n" : Str) room ++ x))
noncomputable def cutT (room : Int) (y : Str) : List Str := Txt.split (Txt.replace (Txt.replace (Txt.slice y (some room) none) ("\r\n" : Str) ("" : Str)) ("; " : Str) (" ;" : Str)) (";" : Str)
theorem last_off (l : List (Str × Tok)) : slicePick (strValues l).toArray none (some (-1)) none = (strValues l.dropLast).toArray := by
  have e : sliceBounds none (some (-1)) none (strValues l).toArray.size = (((0 : Nat) : Int), (((strValues l).length - 1 : Nat) : Int), 1) := by
    simp only [sliceBounds, Option.getD_none, List.size_toArray]
    simp only [show (-1 : Int) < 0 by decide, if_true, show (1 : Int) > 0 by decide]
    congr 2
    lia
  rw [kmk_pick_nat _ e]
  simp only [List.drop_zero, Nat.sub_zero, strValues, List.length_map, List.dropLast_eq_take, List.map_take]
theorem gen_toks {α : Type} {M₀ : Model} {tr : Sem α} {Q : α → Shared → Prop} (h0 : 1 ≤ s.toks) (h : ∀ tk, 1 ≤ tk → wpAny M₀ A tr Q E { s with toks := tk }) : wpAny M₀ A tr Q E s := h s.toks h0
theorem dot_len (x : Str) : (dotS x).cps.size ≤ 3 * x.cps.size := by
  refine Nat.le_trans (join_len _) (Nat.le_trans (pieces_sum (fun _ => by decide) (hpl1 _) _ 0 (Nat.zero_le _)) ?_)
  show (x.cps.size - 0) * (1 + 2) ≤ _
  lia
theorem sent_len {room : Int} {x : Str} (h : (Txt.mul (⟨#[110]⟩ : Str) room ++ x).cps.size ≤ 3000) : (sentT room x).length ≤ 27000 := by
  have h1 := crlf_len (Txt.mul (⟨#[110]⟩ : Str) room ++ x)
  have h2 := dot_len (crlfS (Txt.mul (⟨#[110]⟩ : Str) room ++ x))
  show (dotS (crlfS (Txt.mul (⟨#[110]⟩ : Str) room ++ x))).cps.size ≤ _
  lia
theorem tailBody {name qual : Str} {params : Arguments} {body tb pb e1 e2 rs : List Stmt} {s1 s2 s3 b1 b2 b3 b4 b5 b6 b7 b8 b9 : Stmt} {t1 i1 t2 i2 : Expr} {p1 p2 : Pos} {scope : Scope} {dV kV doc pm cdv ct oc : Value} {an od : Option Addr} {osl : Array (Option Value)} {L' : Addr}
   {g : Heap} {m' : Str → Option Value} {x : Str} {tx tr : Tok} {room : Int} {news : List (Addr × Obj)} {E' : Value → Shared → Prop} {Q : Flow → Shared → Prop}
   (ho : (hd.heap_39 w.params).lookup 238 = some ⟨oc, od, .func (fnX name qual params body scope [] dV kV doc pm an cdv ct), osl⟩)
   (hb : body = s1 :: s2 :: s3 :: .For t1 i1 tb e1 p1 :: rs) (hb2 : tb = b1 :: b2 :: b3 :: b4 :: b5 :: b6 :: b7 :: b8 :: b9 :: .For t2 i2 pb e2 p2 :: [])
   (X' : (hd.heap_39 w.params).In g) (T' : TopRead p loose mg mb g) (F : Fr g L' s.heap m') (N : News g L' s.heap news) (hA : Room A 10)
   (hm1 : m' ("text" : Str) = some (.str x tx)) (hm2 : m' ("room" : Str) = some (.int room tr)) (hx : x.length ≤ 2000) (hr0 : 0 ≤ room) (hr1 : room ≤ 1000)
   (hcut : (cutT room (sentT room x)).length ≤ 900)
   (h : ∀ h' tk D (l : List (Str × Tok)) e m'', Fr g L' h' m'' → News g L' h' ((D, listOf (txts l).toArray e) :: news) → l.map (·.1) = (cutT room (sentT room x)).dropLast.map finC → m'' ("cards" : Str) = some (.ref D) → (∀ y, y ≠ ("cards" : Str) → y ≠ ("sent" : Str) → y ≠ ("part" : Str) → y ≠ ("dots" : Str) → y ≠ ("tail" : Str) → m'' y = m' y) → Q .next { s with heap := h', toks := tk }) :
   wpAny (model prog w) A (execs (b8 :: b9 :: .For t2 i2 pb e2 p2 :: []) (envX qual scope L' 238 cdv (cellsFrom (L' + 1) scope.names []))) Q E' s := by
  have hh := look_pair ho (by k_is)
  have e := fnE hh.2
  have ho' := hh.1
  have E0 := envE (L := L') (a := 238) e.2.1 e.2.2.1 e.2.2.2 (congrArg (List.drop 7) (hb2.symm.trans (congrArg (fun b : List Stmt => forBody (b.drop 3)) (hb.symm.trans e.1))))
  dsimp only [List.drop, forBody] at E0
  rw [E0]
  clear E0 e hh ho hb hb2 oc dV kV doc pm cdv ct
  iterate 10 walk1
  all_goals (try walk_at "us")
  refine SB.mul (x := (⟨#[110]⟩ : Str)) (mul_ok 110 (by lia) (by lia)) fun t3 k3 => ?_
  have z1 : (Txt.mul (⟨#[110]⟩ : Str) room).length ≤ 1000 := by
    have := congrArg List.length (mul_list 110 room)
    rw [Array.length_toList, List.length_replicate] at this
    show (Txt.mul (⟨#[110]⟩ : Str) room).cps.size ≤ _
    lia
  walk1
  all_goals (try walk_at "us")
  refine SB.add (fun t4 k4 => ?_) (by rw [sizeLine_eq]; lia)
  walk1
  all_goals (try walk_at "us")
  refine ⟨Kat F X', ?_⟩
  have z2 : (Txt.mul (⟨#[110]⟩ : Str) room ++ x).cps.size ≤ 3000 := by
    have := Str.length_append (Txt.mul (⟨#[110]⟩ : Str) room) x
    show (Txt.mul (⟨#[110]⟩ : Str) room ++ x).length ≤ _
    lia
  try dsimp only [List.append_nil, List.nil_append, List.cons_append]
  refine quote_C X' T' F N (hA.less (by decide)) (by lia) fun h5 t5 k5 F5 N5 => ?_
  have z3 : (sentT room x).length ≤ 27000 := sent_len z2
  replace hcut : (cutT room (dotS (crlfS (Txt.mul (⟨#[110]⟩ : Str) room ++ x)))).length ≤ 900 := hcut
  have ey : sentT room x = dotS (crlfS (Txt.mul (⟨#[110]⟩ : Str) room ++ x)) := rfl
  rw [ey] at z3
  have h' := h
  rw [ey] at h'
  generalize dotS (crlfS (Txt.mul (⟨#[110]⟩ : Str) room ++ x)) = y at hcut z3 h' ⊢
  clear ey h F N
  iterate 5 walk1
  all_goals (try walk_at "us")
  rename_i h6 F6 N6
  refine newList_N F6 N6 (fun h7 F7 N7 => ?_) (by rw [sizeLine_eq]; exact Nat.le_of_ble_eq_true rfl)
  have lt7 := fun p hp => Heap.lt_size (N6 p hp).1
  dsimp only at N7 lt7 ⊢
  generalize Array.size _ = D at N7 lt7 ⊢
  walk1
  all_goals (try walk_at "us")
  refine gen_toks (Nat.succ_pos _) fun tk8 hz8 => ?_
  try dsimp only
  walk1
  all_goals (try walk_at "us")
  refine wpAny_For ?_
  iterate 11 walk1
  all_goals (try walk_at "us")
  rename_i h8 F8 N8
  refine wpAny_with_toks (n := 1) hz8 (slice_strN_sn F8 N8 (fun h9 t9 k9 F9 N9 hz9 => ?_) (by with_unfolding_all rfl) (fun _ => by with_unfolding_all rfl) (by rw [sizeLine_eq]; lia))
  have y1 : (Txt.slice y (some room) none).length ≤ 27000 := Nat.le_trans (PyProof.Txt.length_slice_le y _ _) z3
  clear F8 N8
  iterate 7 walk1
  all_goals (try walk_at "us")
  try dsimp only [List.append_nil, List.nil_append, List.cons_append]
  have y2 : (Txt.replace (Txt.slice y (some room) none) ("\r\n" : Str) ("" : Str)).length ≤ 27000 := by
    refine Nat.le_trans (replace_len (by decide)) ?_
    have e : ("" : Str).length = 0 := rfl
    rw [e]; omega
  have hz9' : 1 ≤ k9 := hz9
  refine wpAny_with_toks (n := 1) (Nat.succ_pos _) (SC.replace (u := k9) (v := k9 + 1) (Nat.ne_of_gt hz9') (Nat.succ_ne_zero _) (Nat.ne_of_lt (Nat.lt_succ_self _)) (by decide +kernel) (by have e : ("" : Str).length = 0 := rfl; rw [e]; lia) fun t10 k10 hz10 => ?_)
  have hz10' : 1 ≤ k10 := hz10
  generalize hw1 : Txt.replace (Txt.slice y (some room) none) ("\r\n" : Str) ("" : Str) = w1 at y2
  iterate 7 walk1
  all_goals (try walk_at "us")
  try dsimp only [List.append_nil, List.nil_append, List.cons_append]
  have e5 : (" ;" : Str).length = 2 := rfl
  have y3 : (Txt.replace w1 ("; " : Str) (" ;" : Str)).length ≤ 90000 := by
    refine Nat.le_trans (replace_len (by decide)) ?_
    rw [e5]; lia
  refine SC.replace (u := k10) (v := k10 + 1) (Nat.ne_of_gt hz10') (Nat.succ_ne_zero _) (Nat.ne_of_lt (Nat.lt_succ_self _)) (by decide +kernel) (by rw [e5]; lia) fun t11 k11 => ?_
  have ec : cutT room y = Txt.split (Txt.replace w1 ("; " : Str) (" ;" : Str)) (";" : Str) := by rw [← hw1]; rfl
  rw [ec] at hcut h'
  generalize Txt.replace w1 ("; " : Str) (" ;" : Str) = w2 at y3 hcut h' ⊢
  iterate 5 walk1
  all_goals (try walk_at "us")
  try dsimp only [List.append_nil, List.nil_append, List.cons_append]
  refine splitN1 F9 N9 (by decide) (fun l12 h12 k12 el12 F12 N12 => ?_) (by rw [sizeLine_eq]; lia)
  clear F9 N9
  iterate 7 walk1
  all_goals (try walk_at "us")
  have hl12 : l12.length ≤ 900 := by
    have := congrArg List.length el12
    rw [List.length_map] at this; lia
  have hz12 : (strValues l12).toArray.size = l12.length := by rw [List.size_toArray]; simp [strValues]
  refine kba_turn (value' := PySem.Expr.Name (PySem.Str.ofString "_") ⟨0, 0, 0, 0⟩) (fun _ => rfl) ?_
  refine slice_list F12 N12 ⟨_, (N12 _ (.head _)).1, rfl, _, rfl⟩ .none (.int _ _) (fun h13 F13 N13 => ?_) (by with_unfolding_all rfl) (fun _ => by with_unfolding_all rfl) (by rw [sizeLine_eq, hz12]; lia)
  rw [last_off] at N13
  try dsimp only at N13 ⊢
  have lt13 := fun p hp => Heap.lt_size (N13 p hp).1
  have ax1 : ∀ q ∈ news, q.1 ≠ D := fun q hq => Nat.ne_of_lt (lt7 q hq)
  have ax2 : h12.objs.size + 1 ≠ D := fun q => by
    have z := Heap.lt_size (N12 _ (.tail _ (.head _))).1
    exact Nat.ne_of_gt (Nat.lt_succ_of_lt z) q
  generalize h12.objs.size + 1 = ax at N13 lt13 ax2 ⊢
  have hlx : h13.IsList ax (strValues l12.dropLast).toArray := ⟨_, (N13 _ (.head _)).1, rfl, _, rfl⟩
  refine wpAny_pyIter_list hlx ?_
  dsimp only
  have up : ∀ (o : Obj) b ob, h13.get? b = some ob → (h13.push o).get? b = some ob := fun o b ob e => Heap.get?_push_of_some _ e
  have nn := next_new F13 h13.objs.size (Nat.le_refl _)
  have hLt := F13.ns.lt
  have hzd : (strValues l12.dropLast).toArray.size = l12.dropLast.length := by rw [List.size_toArray]; simp [strValues]
  have hld : l12.dropLast.length ≤ 900 := by rw [List.length_dropLast]; exact Nat.le_trans (Nat.sub_le _ 1) hl12
  refine forJ (h₀ := g) (L := L') (s := s) (n := (strValues l12.dropLast).toArray.size) (fun i gg mm nw => gg = s.gens ∧ (mm ("cards" : Str) = some (.ref D) ∧ ∀ y, y ≠ ("cards" : Str) → y ≠ ("sent" : Str) → y ≠ ("part" : Str) → y ≠ ("dots" : Str) → y ≠ ("tail" : Str) → mm y = m' y) ∧
      ∃ (l : List (Str × Tok)) (e : Nat), nw = (D, listOf (txts l).toArray e) :: (ax, { cls := .type "list", data := .seq (strValues l12.dropLast).toArray }) :: news ∧ l.map (·.1) = ((l12.dropLast.map (·.1)).take i).map finC)
    (Walks.list (by exact hA.handled) h13.objs.size ax (Nat.ne_of_lt (lt13 _ (.head _))) (strValues l12.dropLast).toArray) (fun i h st => by obtain ⟨o, e, _⟩ := st.1; exact ⟨o, e⟩) list_st (S := SrcAt g ax (strValues l12.dropLast).toArray) ?_ nn.2 ?_ ?_ _ 0 _ _ _ _ ((D, listOf (txts []).toArray 0) :: (ax, { cls := .type "list", data := .seq (strValues l12.dropLast).toArray }) :: news) rfl (Nat.zero_le _) ?_ (F13.keeps (up _)) (News.sub (N13.grown (up _)) ?_) (fun q hq => ?_) (.inr ⟨_, .tail _ (.head _), rfl, _, rfl⟩) ⟨rfl, ⟨?_, ?_⟩, [], 0, rfl, rfl⟩
  · exact Nat.ne_of_lt hLt
  · intro i v gg h14 tk14 mm nw oI E7 hi hP hJ _ F14 N14 off14 st14
    obtain ⟨rfl, ⟨hmc, hmo⟩, l, e, rfl, hl⟩ := hJ
    have hob : ∃ q : Str × Tok, l12.dropLast[i]? = some q ∧ v = .str q.1 q.2 := by
      simp only [strValues, List.getElem?_toArray, List.getElem?_map, Option.map_eq_some_iff] at hP
      refine Exists.elim hP fun q hx => an2 hx fun h1 h2 => ?_
      (try clear hP)
      exact ⟨q, h1, h2.symm⟩
    refine Exists.elim hob fun q hx => an2 hx fun hq1 zr1 => ?_
    clear hob
    subst zr1
    have hq2 : q.1.length ≤ 100000 := by
      have h1 : q ∈ l12.dropLast := List.mem_of_getElem? hq1
      have h2 : q.1 ∈ l12.map (·.1) := List.mem_map_of_mem ((List.dropLast_subset l12) h1)
      rw [el12] at h2
      exact Nat.le_trans (part_short h2) (by lia)
    have hll : l.length ≤ 900 := by
      have := congrArg List.length hl
      simp only [List.length_map, List.length_take] at this
      lia
    refine wpAny_of_eq rfl ?_
    refine wpAny_assign_Name (storeX_L F14 N14 (fun h15 F15 N15 => ?_) rfl rfl)
    dsimp only
    refine partBody (l := l) (pre := [(h13.objs.size, oI)]) (post := (ax, { cls := .type "list", data := .seq (strValues l12.dropLast).toArray }) :: news) ho' rfl rfl X' T' F15 N15 (fun z hz => ?_) (fun z hz => ?_) (hA.less (by decide)) (if_pos rfl) ((if_neg (by decide)).trans hmc) hq2 (by lia) fun h16 tk16 tq16 v1 v2 F16 N16 => ?_
    · rw [List.mem_singleton.mp hz]
      exact Ne.symm (show D ≠ _ from off14 (D, _) (.head _))
    · revert z hz
      refine all_cons ?_ fun z hz => ?_
      · exact ax2
      · exact ax1 z hz
    · refine ⟨.inl rfl, h16, tk16, s.gens, _, _, rfl, F16, N16, fun z hz => ?_, .inr ⟨_, .tail _ (.head _), rfl, _, rfl⟩, rfl, ⟨(if_neg (by decide)).trans ((if_neg (by decide)).trans ((if_neg (by decide)).trans hmc)), fun z a1 a2 a3 a4 a5 => (if_neg a4).trans ((if_neg a5).trans ((if_neg a3).trans (hmo z a1 a2 a3 a4 a5)))⟩, l ++ [(finC q.1, tq16)], e + 1, rfl, ?_⟩
      · revert z hz
        refine all_cons ?_ fun z hz => ?_
        · exact (show D ≠ _ from off14 (D, _) (.head _))
        · exact off14 z (.tail _ hz)
      · rw [List.map_append, hl, List.take_succ, List.getElem?_map, hq1, List.map_append]; rfl
  · intro h14 tk14 gg mm nw F14 N14 _ hJ
    obtain ⟨rfl, ⟨hmc, hmo⟩, l, e, rfl, hl⟩ := hJ
    try dsimp only
    walk1
    all_goals (try walk_at "us")
    refine h' h14 _ D l e mm F14 (News.sub N14 fun z hz => ?_) ?_ hmc hmo
    · revert z hz
      refine all_cons ?_ fun z hz => ?_
      · exact .head _
      · exact .tail _ (.tail _ hz)
    · rw [hl, ← el12, hzd]
      rw [show l12.dropLast.length = (l12.dropLast.map (·.1)).length from (List.length_map _).symm, List.take_length, List.map_dropLast]
  · exact ⟨⟨_, Heap.get?_push_size _ rfl, rfl, rfl⟩, hlx.push _⟩
  · intro q hq
    revert q hq
    refine all_cons ?_ fun q hq => ?_
    · exact .tail _ (.tail _ (.head _))
    · revert q hq
      refine all_cons ?_ fun q hq => ?_
      · exact .head _
      · exact .tail _ (.tail _ (.tail _ hq))
  · revert q hq
    refine all_cons ?_ fun q hq => ?_
    · exact Nat.ne_of_lt (lt13 _ (.tail _ (.tail _ (.head _))))
    · revert q hq
      refine all_cons ?_ fun q hq => ?_
      · exact Nat.ne_of_lt (lt13 _ (.head _))
      · exact Nat.ne_of_lt (lt13 q (.tail _ (.tail _ (.tail _ hq))))
  · exact if_pos rfl
  · exact fun z a1 a2 a3 a4 a5 => (if_neg a1).trans (if_neg a2)

end
end

section
open PySem PySem.W PySem.Calls PyProof.Rows
section
variable {prog : Program} {w : World} {A : Around} {E : Value → Shared → Prop} {s : Shared} {h₀ : Heap} {L : Addr} {m : Str → Option Value} {pg : PG} {st : ST} {rest : List (Addr × Obj)} {p : Program} {loose : List Str} {mg mb : Str → Option Value}
open LCg
noncomputable def turnOut (t n r sz : Nat) (bs : List Str) : List Str := (cutT ((r * (sz + 2) : Nat) : Int) (sentT ((r * (sz + 2) : Nat) : Int) (textT t (text0 t (rowsOf n r bs))))).dropLast.map finC
theorem smallMul {a b : Int} (h : a.natAbs < 1099511627776) : IntMulOk a b := .of_left (PySem.intBits_le_64 (by omega) (by omega))
theorem itemSch {value slice : PySem.Expr} {l : Addr} {t : Nat} {u t0 t1 t2 t3 : Tok} {Q : Value → Shared → Prop} (ht : t < 4)
    (hl : s.heap.IsList l #[.str (";" : Str) t0, .str ("; " : Str) t1, .str (" ;" : Str) t2, .str ("-; " : Str) t3]) (h : ∀ t', Q (.str (sch t) t') s)
    (hs : subscripted slice false (.ref l) (.int t u) = operate [.ref l, .int t u] (getItem (.ref l) (.int t u)) := by with_unfolding_all rfl) :
    wpAny (model prog w) A (subscriptTail value slice (.ref l) (.int t u)) Q E s := by
  refine tail_any hl.typeIs slot_list_getitem.lookup ?_ hs
  rcases four ‹t < 4› with rfl | rfl | rfl | rfl
  · exact wpAny_getItem_list hl (by decide) (by decide) rfl (h _)
  · exact wpAny_getItem_list hl (by decide) (by decide) rfl (h _)
  · exact wpAny_getItem_list hl (by decide) (by decide) rfl (h _)
  · exact wpAny_getItem_list hl (by decide) (by decide) rfl (h _)
theorem itemSep {value slice : PySem.Expr} {l : Addr} {t : Nat} {u t0 t1 t2 t3 : Tok} {Q : Value → Shared → Prop} (ht : t < 4)
    (hl : s.heap.IsList l #[.str ("\n" : Str) t0, .str ("\r" : Str) t1, .str ("\r\n" : Str) t2, .str ("\r" : Str) t3]) (h : ∀ t', Q (.str (sep t) t') s)
    (hs : subscripted slice false (.ref l) (.int t u) = operate [.ref l, .int t u] (getItem (.ref l) (.int t u)) := by with_unfolding_all rfl) :
    wpAny (model prog w) A (subscriptTail value slice (.ref l) (.int t u)) Q E s := by
  refine tail_any hl.typeIs slot_list_getitem.lookup ?_ hs
  rcases four ‹t < 4› with rfl | rfl | rfl | rfl
  · exact wpAny_getItem_list hl (by decide) (by decide) rfl (h _)
  · exact wpAny_getItem_list hl (by decide) (by decide) rfl (h _)
  · exact wpAny_getItem_list hl (by decide) (by decide) rfl (h _)
  · exact wpAny_getItem_list hl (by decide) (by decide) rfl (h _)
theorem turnBody {name qual : Str} {params : Arguments} {body tb cb pb e1 e2 e3 rs : List Stmt} {s1 s2 s3 b1 b2 b3 b4 b6 b7 b8 b9 : Stmt} {t1 i1 t2 i2 t3 i3 : Expr} {p1 p2 p3 : Pos} {scope : Scope} {dV kV doc pm cdv ct oc : Value} {an od : Option Addr} {osl : Array (Option Value)} {L' : Addr}
   {g : Heap} {m' : Str → Option Value} {base : List (Addr × Obj)} {E' : Value → Shared → Prop} {Q : Flow → Shared → Prop} {tb1 tb2 : Tb}
   {o1 : Obj} {f : Nat} {tf tt tsz tsp trs : Tok} {wl at' D : Addr} {wv : Array Value} {ew e : Nat} {sp r sz t : Nat} {rst : Int} {l : List (Str × Tok)} {bs : List Str} {solo : Prop}
   (ho : (hd.heap_39 w.params).lookup 238 = some ⟨oc, od, .func (fnX name qual params body scope [] dV kV doc pm an cdv ct), osl⟩)
   (hb : body = s1 :: s2 :: s3 :: .For t1 i1 tb e1 p1 :: rs) (hb2 : tb = b1 :: b2 :: b3 :: b4 :: .For t2 i2 cb e2 p2 :: b6 :: b7 :: b8 :: b9 :: .For t3 i3 pb e3 p3 :: [])
   (hP : PO prog) (X' : (hd.heap_39 w.params).In g) (T' : TopRead p loose mg mb g) (B' : BM g mg) (F : Fr g L' s.heap m') (N : News g L' s.heap ((157, X.tableObj tb1.arr) :: (164, X.tableObj tb2.arr) :: (D, listOf (txts l).toArray e) :: base))
   (hoff : ∀ q ∈ base, q.1 ≠ 157 ∧ q.1 ≠ 164) (hA : Room A 16) (hG : AllBare s.gens)
   (hc1 : (L' + 1, o1) ∈ base) (ho1 : o1.data = .cell (some (.int f tf))) (hw1 : (wl, listOf wv ew) ∈ base) (hw2 : wv[t]? = some (.ref at')) (hw3 : (at', tupO [.int sp tsp, .int rst trs]) ∈ base)
   (hm1 : m' ("turn" : Str) = some (.int t tt)) (hm2 : m' ("wishes" : Str) = some (.ref wl)) (hm3 : m' ("size" : Str) = some (.int ((sz + 2 : Nat) : Int) tsz)) (hm4 : m' ("cards" : Str) = some (.ref D))
   (ht : t < 4) (hf : f ≤ 2000000000) (hr : 0 ≤ rst ∧ rst ≤ 2000000000) (hsp : 1 ≤ sp ∧ sp ≤ 6) (hrr : r < sp) (her : ((f : Int) - rst).fmod sp = r) (hsz : sz ≤ 20)
   (hl : l.map (·.1) = bs.map card) (hbs : ∀ b ∈ bs, Body sz solo b) (hbl : 1 ≤ bs.length ∧ bs.length ≤ 12) (hsolo : 2 ≤ bs.length → ¬ solo)
   (hcut : (cutT ((r * (sz + 2) : Nat) : Int) (sentT ((r * (sz + 2) : Nat) : Int) (textT t (text0 t (rowsOf sp r bs))))).length ≤ 900)
   (h : ∀ h' g' tk D' (l' : List (Str × Tok)) e' m'' (tb1' tb2' : Tb), Fr g L' h' m'' → News g L' h' ((157, X.tableObj tb1'.arr) :: (164, X.tableObj tb2'.arr) :: (D', listOf (txts l').toArray e') :: base) → AllBare g' → l'.map (·.1) = turnOut t sp r sz bs → m'' ("cards" : Str) = some (.ref D') → m'' ("wishes" : Str) = some (.ref wl) → m'' ("size" : Str) = some (.int ((sz + 2 : Nat) : Int) tsz) → Q .next { s with heap := h', gens := g', toks := tk }) :
   wpAny (model prog w) A (execs tb (envX qual scope L' 238 cdv (cellsFrom (L' + 1) scope.names []))) Q E' s := by
  have hh := look_pair ho (by k_is)
  have e := fnE hh.2
  have ho' := hh.1
  have E0 := envE (L := L') (a := 238) e.2.1 e.2.2.1 e.2.2.2 (congrArg (fun b : List Stmt => forBody (b.drop 3)) (hb.symm.trans e.1))
  dsimp only [List.drop, forBody] at E0
  rw [E0]
  clear E0 e hh ho hb hb2 oc dV kV doc pm cdv ct
  iterate 5 walk1
  all_goals (try walk_at "us")
  refine itemAt (k := (t : Int)) ⟨_, (N (wl, listOf wv ew) (.tail _ (.tail _ (.tail _ hw1)))).1, rfl, _, rfl⟩ (Int.natCast_nonneg _) (by lia) (by rw [Int.toNat_natCast]; exact hw2) ?_
  (try dsimp only)
  refine unpackN_ F N ⟨_, (N (at', _) (.tail _ (.tail _ (.tail _ hw3)))).1, rfl, _, rfl⟩ hA.handled rfl rfl fun h5 F5 N5 => ?_
  clear F N
  iterate 12 walk1
  all_goals (try walk_at "us")
  rename News _ _ _ _ => N6
  refine nameX_C N6 rfl (.tail _ (.tail _ (.tail _ hc1))) ho1 ?_
  iterate 3 walk1
  all_goals (try walk_at "us")
  refine mod_int' (by lia) ?_
  dsimp only
  rw [her]
  walk1
  all_goals (try walk_at "us")
  have erm : (r : Int) * ((sz + 2 : Nat) : Int) = ((r * (sz + 2) : Nat) : Int) := by rw [Int.natCast_mul]
  refine mul_int ?_ (smallMul (Nat.lt_of_lt_of_le hrr (Nat.le_trans hsp.2 (by decide))))
  rw [erm]
  dsimp only
  iterate 4 walk1
  iterate 3 walk1
  all_goals (try walk_at "us")
  refine mul_int ?_ (smallMul (Nat.lt_of_le_of_lt hsp.2 (by decide)))
  dsimp only
  have etw : (t : Int).fmod 2 = ((t % 2 : Nat) : Int) := by rw [Int.fmod_eq_emod_of_nonneg _ (by decide)]; rfl
  iterate 9 walk1
  all_goals (try walk_at "us")
  refine mul_int ?_ (smallMul (by rw [etw]; exact Nat.lt_of_lt_of_le (Nat.mod_lt t (by decide : 0 < 2)) (by decide)))
  rw [etw]
  dsimp only
  walk1
  all_goals (try walk_at "us")
  have ewd : (sp : Int) * ((sz + 2 : Nat) : Int) + ((t % 2 : Nat) : Int) * (((sz + 2 : Nat) : Int) - 1) = wid t sp (sz + 2) := by
    unfold wid
    have e1 : ((sz + 2 : Nat) : Int) - 1 = ((sz + 2 - 1 : Nat) : Int) := by lia
    rw [e1]
    generalize sz + 2 = z
    rw [Int.natCast_add, Int.natCast_mul, Int.natCast_mul]
  rw [ewd]
  iterate 19 walk1
  iterate 7 walk1
  all_goals (try walk_at "us")
  rename News _ _ _ _ => N7
  rename Fr _ _ _ _ => F7
  refine itemSch (t := t) ht ⟨_, (N7 _ (.head _)).1, rfl, _, rfl⟩ fun t8 => ?_
  walk1
  all_goals (try walk_at "us")
  refine ⟨Kat F7 X', ?_⟩
  try dsimp only [List.append_nil, List.nil_append, List.cons_append]

  have D157 : D ≠ 157 := News.neC N7 (.tail _ (.tail _ (.tail _ (.head _)))) (.tail _ (.head _)) (by intro e; cases e)
  have D164 : D ≠ 164 := News.neC N7 (.tail _ (.tail _ (.tail _ (.head _)))) (.tail _ (.tail _ (.head _))) (by intro e; cases e)
  refine page_new (rest := (D, listOf (txts l).toArray e) :: base) hP X' T' F7 (News.sub N7 fun q hq => .tail _ hq) (hA.less (by decide)) (fun q hq => ?_) fun pg st8 h8 tk8 F8 N8 hr8 e8 emx esch => ?_
  · revert q hq
    refine all_cons ?_ fun q hq => ?_
    · exact ⟨D157, D164⟩
    · exact hoff q hq
  clear N7 F7
  walk1
  all_goals (try walk_at "us")
  rename News _ _ _ _ => N9
  rename Fr _ _ _ _ => F9
  rename Heap => h9
  have hob : ∃ (mq : Str → Option Value) (troom : Tok), Fr g L' h9 mq ∧ mq ("page" : Str) = some (.ref pg.page) ∧ mq ("turn" : Str) = some (.int (t : Int) tt) ∧ mq ("wishes" : Str) = some (.ref wl) ∧ mq ("size" : Str) = some (.int ((sz + 2 : Nat) : Int) tsz) ∧ mq ("cards" : Str) = some (.ref D) ∧ mq ("room" : Str) = some (.int ((r * (sz + 2) : Nat) : Int) troom) :=
    ⟨_, _, F9, by walk_at "nm", by walk_at "nm", by walk_at "nm", by walk_at "nm", by walk_at "nm", by walk_at "nm"⟩
  refine ex2 hob fun mq troom hx_q => an7 hx_q fun F9 q1 q2 q3 q4 q5 q6 => ?_
  clear hob
  walk1
  all_goals (try walk_at "us")
  refine wpAny_For ?_
  walk1
  all_goals (try walk_at "us")
  have hlD : h9.IsList D (txts l).toArray := ⟨_, (N9 _ (List.mem_append_right _ (.head _))).1, rfl, _, rfl⟩
  refine wpAny_pyIter_list hlD ?_
  dsimp only
  have up : ∀ (o : Obj) b ob, h9.get? b = some ob → (h9.push o).get? b = some ob := fun o b ob e => Heap.get?_push_of_some _ e
  have nn := next_new F9 h9.objs.size (Nat.le_refl _)
  have hLt := F9.ns.lt
  have lt9 := fun p hp => Heap.lt_size (N9 p hp).1
  have hlen : l.length = bs.length := by have := congrArg List.length hl; simpa using this
  have hzl : (txts l).toArray.size = l.length := by simp
  refine forJ (h₀ := g) (L := L') (s := s) (n := (txts l).toArray.size) (fun i gg mm nw => AllBare gg ∧ (∀ y, y ≠ ("card" : Str) → mm y = mq y) ∧ ∃ st, nw = PL w.params pg st ++ (D, listOf (txts l).toArray e) :: base ∧ shOf st = shAb t (sz + 2) (abRun sp ⟨r, [], []⟩ (bs.take i)) ∧ PgOk sp sz solo i (abRun sp ⟨r, [], []⟩ (bs.take i)))
    (Walks.list (by exact hA.handled) h9.objs.size D (Nat.ne_of_lt (lt9 _ (List.mem_append_right _ (.head _)))) (txts l).toArray) (fun i h st => by obtain ⟨o, e, _⟩ := st.1; exact ⟨o, e⟩) list_st (S := SrcAt g D (txts l).toArray) ?_ nn.2 ?_ ?_ _ 0 _ _ _ _ (PL w.params pg st8 ++ (D, listOf (txts l).toArray e) :: base) rfl (Nat.zero_le _) ?_ (F9.keeps (up _)) (News.grown N9 (up _)) (fun q hq => ?_) (.inr ⟨_, List.mem_append_right _ (.head _), rfl, _, rfl⟩) ⟨hG, fun _ _ => rfl, st8, rfl, ?_, ?_⟩
  · exact Nat.ne_of_lt hLt
  · intro i v gg h14 tk14 mm nw oI E7 hi hP' hJ _ F14 N14 off14 st14
    refine an3 hJ fun hGG hmo hx_q => Exists.elim hx_q fun st hx_q => an3 hx_q fun zr4 hsh hk => ?_
    (try clear hJ)
    subst zr4
    have hob : ∃ q : Str × Tok, l[i]? = some q ∧ v = .str q.1 q.2 := by
      simp only [txts, List.getElem?_toArray, List.getElem?_map, Option.map_eq_some_iff] at hP'
      refine Exists.elim hP' fun q hx_q => an2 hx_q fun h1 h2 => ?_
      (try clear hP')
      exact ⟨q, h1, h2.symm⟩
    refine Exists.elim hob fun q hx_q => an2 hx_q fun hq1 zr3 => ?_
    clear hob
    subst zr3
    have hob : ∃ b, bs[i]? = some b ∧ q.1 = card b := by
      have h1 : (l.map (·.1))[i]? = some q.1 := by rw [List.getElem?_map, hq1]; rfl
      rw [hl, List.getElem?_map, Option.map_eq_some_iff] at h1
      refine Exists.elim h1 fun b hx_q => an2 hx_q fun h2 h3 => ?_
      (try clear h1)
      exact ⟨b, h2, h3.symm⟩
    refine Exists.elim hob fun b hx_q => an2 hx_q fun hb1 hqb => ?_
    clear hob
    rw [hqb]
    have hib : i < bs.length := by rw [hzl, hlen] at hi; exact hi
    have hIc : oI.cls = .type "list_iterator" := by
      obtain ⟨⟨o, z1, z2, _⟩, _⟩ := st14
      have z3 := (N14 _ (.head _)).1
      rw [z1] at z3
      rw [← show o = oI from Option.some.inj z3]; exact z2
    have hbb := hbs b (List.mem_of_getElem? hb1)
    refine wpAny_of_eq rfl ?_
    refine wpAny_assign_Name (storeX_L F14 N14 (fun h15 F15 N15 => ?_) rfl rfl)
    dsimp only
    have pi : ∀ (st : ST) (q : Addr × Obj), q ∈ PL w.params pg st ++ (h9.objs.size, oI) :: (D, listOf (txts l).toArray e) :: base ↔ q ∈ (h9.objs.size, oI) :: (PL w.params pg st ++ (D, listOf (txts l).toArray e) :: base) := fun st q => by
      simp only [List.mem_append, List.mem_cons]
      constructor
      · rintro (h | h | h)
        · exact .inr (.inl h)
        · exact .inl h
        · exact .inr (.inr h)
      · rintro (h | h | h)
        · exact .inr (.inl h)
        · exact .inl h
        · exact .inr (.inr h)
    refine cardBody (st := st) (b := b) (a := abRun sp ⟨r, [], []⟩ (bs.take i)) (n := sp) (sz := sz) (k := i) (solo := solo) (rest := (h9.objs.size, oI) :: (D, listOf (txts l).toArray e) :: base) ho' rfl rfl hP X' T' B' F15 (News.sub N15 fun q hq => (pi st q).mp hq) (fun q hq => ?_) (hA.less (by decide)) hGG ht ((if_neg (by decide)).trans ((hmo _ (by decide)).trans q2)) (if_pos rfl) ((if_neg (by decide)).trans ((hmo _ (by decide)).trans q1)) esch emx hsh hk hbb (fun hne => ?_) fun h16 g16 st16 tk16 F16 N16 G16 e16 => ?_
    · revert q hq
      refine all_cons ?_ fun q hq => ?_
      · intro hm
        exact (all_cons (fun z => off14 (157, _) (.head _) z.symm) (all_cons (fun z => off14 (164, _) (.tail _ (.head _)) z.symm) (all_cons (fun z => off14 (pg.acc, _) (.tail _ (.tail _ (.head _))) z.symm) (all_cons (fun z => off14 (pg.ad, _) (.tail _ (.tail _ (.tail _ (.head _)))) z.symm) (all_cons (fun z => off14 (pg.lns, _) (.tail _ (.tail _ (.tail _ (.tail _ (.head _))))) z.symm) all_nil)))) : ∀ z ∈ muts pg, h9.objs.size ≠ z) _ hm rfl
      · exact hr8 q hq
    · refine hsolo ?_
      rcases Nat.eq_zero_or_pos i with rfl | hpos
      · exact absurd rfl hne
      · lia
    · have N17 : News g L' h16 ((h9.objs.size, oI) :: (PL w.params pg st16 ++ (D, listOf (txts l).toArray e) :: base)) := News.sub N16 fun q hq => (pi st16 q).mpr hq
      have etk : bs.take (i + 1) = bs.take i ++ [b] := by rw [List.take_succ, hb1]; rfl
      refine ⟨.inl rfl, h16, tk16, g16, _, _, rfl, F16, N17, fun z hz => ?_, .inr ⟨_, List.mem_append_right _ (.head _), rfl, _, rfl⟩, G16, fun y hy => (if_neg hy).trans (hmo y hy), st16, rfl, ?_, ?_⟩
      · rcases List.mem_append.mp hz with hz | hz
        · exact (all_cons (show 157 ≠ _ from off14 (157, _) (.head _)) (all_cons (show 164 ≠ _ from off14 (164, _) (.tail _ (.head _))) (all_cons (show pg.acc ≠ _ from off14 (pg.acc, _) (.tail _ (.tail _ (.head _)))) (all_cons (show pg.ad ≠ _ from off14 (pg.ad, _) (.tail _ (.tail _ (.tail _ (.head _))))) (all_cons (show pg.lns ≠ _ from off14 (pg.lns, _) (.tail _ (.tail _ (.tail _ (.tail _ (.head _)))))) (all_cons (show pg.page ≠ _ from off14 (pg.page, _) (.tail _ (.tail _ (.tail _ (.tail _ (.tail _ (.head _))))))) (all_cons (show pg.pd ≠ _ from off14 (pg.pd, _) (.tail _ (.tail _ (.tail _ (.tail _ (.tail _ (.tail _ (.head _)))))))) (fun z hz => by
            refine Exists.elim (List.mem_map.mp hz) fun x hx_q => an2 hx_q fun hx zr2 => ?_
            rw [← zr2]
            refine News.neC N17 (.tail _ (mem_tup hx)) (.head _) ?_
            rw [hIc]
            intro z; have z2 : Value.type "tuple" = Value.type "list_iterator" := z; injection z2 with z3; exact absurd z3 (by decide)))))))) : ∀ z ∈ PL w.params pg st16, z.1 ≠ h9.objs.size) z hz
        · exact off14 z (List.mem_append_right _ hz)
      · rw [etk, run_snoc]; exact e16
      · rw [etk, run_snoc]
        exact hk.step hbb (by lia) fun h1 => hsolo (by lia)
  · intro h14 tk14 gg mm nw F14 N14 _ hJ
    refine an3 hJ fun hGG hmo hx_q => Exists.elim hx_q fun st hx_q => an3 hx_q fun zr1 hsh hk => ?_
    (try clear hJ)
    subst zr1
    try dsimp only
    have r1 := (hmo _ (by decide)).trans q1
    have r2 := (hmo _ (by decide)).trans q2
    have r3 := (hmo _ (by decide)).trans q3
    have r4 := (hmo _ (by decide)).trans q4
    have r6 := (hmo _ (by decide)).trans q6
    iterate 20 walk1
    all_goals (try walk_at "us")
    rename News _ _ _ _ => N15
    rename Fr _ _ _ _ => F15
    rename Off _ _ => hr15
    refine itemSep (t := t) ht ⟨_, (N15 _ (mem_rest (.head _))).1, rfl, _, rfl⟩ fun t15 => ?_
    walk1
    all_goals (try walk_at "us")
    refine ⟨Kat F15 X', ?_⟩
    try dsimp only [List.append_nil, List.nil_append, List.cons_append]
    rw [hzl, hlen, List.take_length] at hsh hk
    generalize hra : abRun sp ⟨r, [], []⟩ bs = ra at hsh hk
    have hO := hk.okSt hsh
    have x1 : fs st.parts = parts t ra.cur := congrArg Sh.parts hsh
    have x2 : st.lines.map (·.1) = ra.rows.map fun r => strF (parts t r) := congrArg Sh.lines hsh
    have x3 : ra.cur ≠ [] := by rw [← hra]; exact run_cur sp fun z => by rw [z] at hbl; exact absurd hbl.1 (by decide)
    have x4 : strOf st.parts = strF (parts t ra.cur) := by rw [strOf_fs, x1]
    have hob : ∃ ps x, st.parts = ps ++ [x] := last_of fun z => parts_ne x3 (by rw [← x1, z]; rfl)
    refine ex2 hob fun ps x hps => ?_
    clear hob
    have x5 : Txt.join (sep t) (st.lines.map (·.1) ++ [strOf st.parts]) = text0 t (rowsOf sp r bs) := by
      unfold text0 rowsOf
      rw [hra, x2, x4, List.map_append]; rfl
    have x6 : ∀ b ∈ (rowsOf sp r bs).flatten, Body sz solo b := by rw [rows_flat]; exact hbs
    have x7 : st.lines.map (·.1) ++ [strOf st.parts] = (rowsOf sp r bs).map fun r => strF (parts t r) := by
      unfold rowsOf
      rw [hra, x2, x4, List.map_append]; rfl
    have x8 := rows_len t x6
    rw [rows_flat] at x8
    have x9 : (rowsOf sp r bs).length ≤ 13 := by
      have := run_rows sp bs ⟨r, [], []⟩
      unfold rowsOf
      rw [List.length_append, List.length_singleton]
      have z : (⟨r, [], []⟩ : Ab).rows.length = 0 := rfl
      lia
    have x10 : bs.length * (sz + 2) ≤ 12 * 22 := Nat.mul_le_mul hbl.2 (by lia)
    refine pstr_C (sep := sep t) hP X' T' B' F15 N15 hr15 (hA.less (by decide)) hGG hO.1 hps ?_ ?_ ?_ ?_ fun h16 g16 st16 t16 tk16 F16 N16 G16 => ?_
    · have z : (x.f, x.s) ∈ parts t ra.cur := by rw [← x1, hps]; simp [fs]
      exact parts_snd hk.ok.body _ z
    · rw [x4]; exact not_space hk.ok.body x3
    · rw [lenN_fs, x1, lenF_parts t hk.ok.body]
      exact Nat.mul_pos (List.length_pos_iff.mpr x3) (by lia)
    · rw [x7]
      refine joinOk_of ?_
      rw [x8, List.length_map]
      have := Nat.mul_le_mul x9 (sep_len t)
      lia
    rw [x5]
    have hx0 := text0_len (t := t) x6
    rw [rows_flat] at hx0
    have h' := h
    unfold turnOut at h'
    clear h x7 x5
    generalize text0 t (rowsOf sp r bs) = x0 at hx0 hcut h'
    have hx2 : x0.length ≤ 400 := by
      have := Nat.mul_le_mul_right 2 x9
      lia
    iterate 2 walk1
    all_goals (try walk_at "us")
    rename Heap => h18
    rename News _ _ _ _ => N17
    rename Fr _ _ _ _ => F17
    have N18 : News g L' h18 ((157, X.tableObj st16.t1.arr) :: (164, X.tableObj st16.t2.arr) :: base) := News.sub N17 fun q hq => by
      revert q hq
      exact all_cons (.head _) (all_cons (.tail _ (.head _)) fun q hq => mem_rest (.tail _ (.tail _ hq)))
    have hob : ∃ m8 : Str → Option Value, Fr g L' h18 m8 ∧ m8 ("text" : Str) = some (.str x0 t16) ∧ m8 ("turn" : Str) = some (.int (t : Int) tt) ∧ m8 ("wishes" : Str) = some (.ref wl) ∧ m8 ("size" : Str) = some (.int ((sz + 2 : Nat) : Int) tsz) ∧ m8 ("room" : Str) = some (.int ((r * (sz + 2) : Nat) : Int) troom) :=
      ⟨_, F17, by walk_at "nm", by walk_at "nm", by walk_at "nm", by walk_at "nm", by walk_at "nm"⟩
    refine Exists.elim hob fun m8 hx_q => an6 hx_q fun F18 u1 u2 u3 u4 u5 => ?_
    clear hob
    clear F17 N17 hra
    have z5 : r * (sz + 2) ≤ 6 * 22 := Nat.mul_le_mul (by lia) (by lia)
    have swp : ∀ {D19 : Addr} {l19 : List (Str × Tok)} {e19 : Nat} (q : Addr × Obj), q ∈ (157, X.tableObj st16.t1.arr) :: (164, X.tableObj st16.t2.arr) :: (D19, listOf (txts l19).toArray e19) :: base → q ∈ (D19, listOf (txts l19).toArray e19) :: (157, X.tableObj st16.t1.arr) :: (164, X.tableObj st16.t2.arr) :: base := fun q hq => by
      revert q hq
      exact all_cons (.tail _ (.head _)) (all_cons (mem_at 2 rfl) (all_cons (.head _) fun q hq => .tail _ (.tail _ (.tail _ hq))))
    rcases four' ‹t < 4› with rfl | rfl | rfl | rfl
    · replace u2 : m8 ("turn" : Str) = some (.int 0 tt) := u2
      iterate 8 walk1
      all_goals (try walk_at "us")
      have et : textT 0 x0 = x0 := if_neg (by decide)
      rw [et] at hcut h'
      refine tailBody ho' rfl rfl X' T' F18 N18 (hA.less (by decide)) u1 u5 (Nat.le_trans hx2 (by decide)) (Int.natCast_nonneg _) (Int.ofNat_le.mpr (Nat.le_trans z5 (by decide))) hcut fun h19 tk19 D19 l19 e19 m19 F19 N19 el19 c19 o19 => ?_
      exact h' h19 g16 tk19 D19 l19 e19 m19 st16.t1 st16.t2 F19 (News.sub N19 swp) G16 el19 c19 ((o19 _ (by decide) (by decide) (by decide) (by decide) (by decide)).trans u3) ((o19 _ (by decide) (by decide) (by decide) (by decide) (by decide)).trans u4)
    · replace u2 : m8 ("turn" : Str) = some (.int 1 tt) := u2
      iterate 8 walk1
      all_goals (try walk_at "us")
      have et : textT 1 x0 = x0 := if_neg (by decide)
      rw [et] at hcut h'
      refine tailBody ho' rfl rfl X' T' F18 N18 (hA.less (by decide)) u1 u5 (Nat.le_trans hx2 (by decide)) (Int.natCast_nonneg _) (Int.ofNat_le.mpr (Nat.le_trans z5 (by decide))) hcut fun h19 tk19 D19 l19 e19 m19 F19 N19 el19 c19 o19 => ?_
      exact h' h19 g16 tk19 D19 l19 e19 m19 st16.t1 st16.t2 F19 (News.sub N19 swp) G16 el19 c19 ((o19 _ (by decide) (by decide) (by decide) (by decide) (by decide)).trans u3) ((o19 _ (by decide) (by decide) (by decide) (by decide) (by decide)).trans u4)
    · replace u2 : m8 ("turn" : Str) = some (.int 3 tt) := u2
      iterate 8 walk1
      all_goals (try walk_at "us")
      have et : textT 3 x0 = x0 := if_neg (by decide)
      rw [et] at hcut h'
      refine tailBody ho' rfl rfl X' T' F18 N18 (hA.less (by decide)) u1 u5 (Nat.le_trans hx2 (by decide)) (Int.natCast_nonneg _) (Int.ofNat_le.mpr (Nat.le_trans z5 (by decide))) hcut fun h19 tk19 D19 l19 e19 m19 F19 N19 el19 c19 o19 => ?_
      exact h' h19 g16 tk19 D19 l19 e19 m19 st16.t1 st16.t2 F19 (News.sub N19 swp) G16 el19 c19 ((o19 _ (by decide) (by decide) (by decide) (by decide) (by decide)).trans u3) ((o19 _ (by decide) (by decide) (by decide) (by decide) (by decide)).trans u4)
    · replace u2 : m8 ("turn" : Str) = some (.int 2 tt) := u2
      iterate 7 walk1
      all_goals (try walk_at "us")
      refine gen_toks (Nat.succ_pos _) fun tk8 hz8 => ?_
      iterate 14 walk1
      all_goals (try walk_at "us")
      try dsimp only [List.append_nil, List.nil_append, List.cons_append]
      have e5 : (" ;\r\n" : Str).length = 4 := rfl
      have e6 : (" ;" : Str).length = 2 := rfl
      have y1 : (Txt.replace x0 ("\r\n \t" : Str) (" ;\r\n" : Str)).length ≤ 400 := Nat.le_trans (replace_len1 (by decide) (by decide)) hx2
      refine wpAny_with_toks (n := 1) (Nat.succ_pos _) (SC.replace (u := tk8) (v := tk8 + 1) (Nat.ne_of_gt hz8) (Nat.succ_ne_zero _) (Nat.ne_of_lt (Nat.lt_succ_self _)) (by decide +kernel) (by rw [e5]; lia) fun t9 k9 hz9 => ?_)
      have hz9' : 1 ≤ k9 := hz9
      iterate 7 walk1
      all_goals (try walk_at "us")
      try dsimp only [List.append_nil, List.nil_append, List.cons_append]
      have y2 : (Txt.replace (Txt.replace x0 ("\r\n \t" : Str) (" ;\r\n" : Str)) (" \t" : Str) (" ;" : Str)).length ≤ 400 := Nat.le_trans (replace_len1 (by decide) (by decide)) y1
      refine SC.replace (u := k9) (v := k9 + 1) (Nat.ne_of_gt hz9') (Nat.succ_ne_zero _) (Nat.ne_of_lt (Nat.lt_succ_self _)) (by decide +kernel) (by rw [e6]; lia) fun t10 k10 => ?_
      iterate 7 walk1
      all_goals (try walk_at "us")
      have y3 : (Txt.slice (Txt.replace (Txt.replace x0 ("\r\n \t" : Str) (" ;\r\n" : Str)) (" \t" : Str) (" ;" : Str)) (some 2) none).length ≤ 400 := Nat.le_trans (PyProof.Txt.length_slice_le _ _ _) y2
      refine SB.add (fun t11 k11 => ?_) (by rw [sizeLine_eq]; lia)
      iterate 2 walk1
      all_goals (try walk_at "us")
      rename Heap => h19
      rename News _ _ _ _ => N19
      rename Fr _ _ _ _ => F19
      have et : textT 2 x0 = Txt.slice (Txt.replace (Txt.replace x0 ("\r\n \t" : Str) (" ;\r\n" : Str)) (" \t" : Str) (" ;" : Str)) (some 2) none ++ (" ;" : Str) := if_pos rfl
      rw [et] at hcut h'
      refine tailBody ho' rfl rfl X' T' F19 N19 (hA.less (by decide)) (by walk_at "nm") (by walk_at "nm") (by rw [Str.length_append, e6]; exact Nat.le_trans (Nat.add_le_add_right y3 2) (by decide)) (Int.natCast_nonneg _) (Int.ofNat_le.mpr (Nat.le_trans z5 (by decide))) hcut fun h20 tk20 D20 l20 e20 m20 F20 N20 el20 c20 o20 => ?_
      exact h' h20 g16 tk20 D20 l20 e20 m20 st16.t1 st16.t2 F20 (News.sub N20 swp) G16 el20 c20 ((o20 _ (by decide) (by decide) (by decide) (by decide) (by decide)).trans (by walk_at "nm")) ((o20 _ (by decide) (by decide) (by decide) (by decide) (by decide)).trans (by walk_at "nm"))
  · exact ⟨⟨_, Heap.get?_push_size _ rfl, rfl, rfl⟩, hlD.push _⟩
  · exact Nat.ne_of_lt (lt9 _ hq)
  · rw [e8]; rfl
  · exact ⟨⟨hrr, by show r + 0 ≤ sp; lia, fun b hb => nomatch hb⟩, Nat.le_refl _, Nat.le_refl _, by lia, by lia, by lia, fun h => by lia, fun h => absurd rfl h⟩

end
end

section
open PySem PySem.W PySem.Calls PyProof.Rows
section
variable {prog : Program} {w : World} {A : Around} {E : Value → Shared → Prop} {s : Shared} {h₀ : Heap} {L : Addr} {m : Str → Option Value} {pg : PG} {st : ST} {rest : List (Addr × Obj)} {p : Program} {loose : List Str} {mg mb : Str → Option Value}
open LCg
theorem compBytes {elt iter : Expr} {x : Str} {px : Pos} {scope : Scope} {cl : List (Str × Addr)} {pos : Pos} {env : Env} {Q : Value → Shared → Prop}
    (hclos : closureFor scope env = pure cl) (hcell : ∀ n acc, cellsFrom n scope.names acc = acc) (hpush : ∀ h, pushCells h scope.names = h) (hkind : scope.kind = .function)
    (hnames : ∀ y ∈ scope.names, y.2 = .local → scope.names.lookup y.1 = some .local) (hx : scope.names.lookup x = some .local) (hA : A.handled = none)
    (h : wpAny (model prog w) A (eval iter env) (fun xv s₁ => ∃ b t news, xv = .bytes b t ∧ Fr h₀ L s₁.heap m ∧ News h₀ L s₁.heap news ∧ b.size ≤ 100 ∧ ∃ V : Nat → Value → Prop,
      (∀ i c tv ys I oI C oC D m₂ h tk (E' : Value → Shared → Prop), b[i]? = some c → NsObj oC m₂ → m₂ x = some (.int (c.toNat : Int) tv) → Fr h₀ L h m → News h₀ L h ((I, oI) :: (C, oC) :: (D, lst ys) :: news) →
        wpAny (model prog w) A (eval elt (compEnvC scope cl C env)) (fun y s₂ => ∃ h' tk', s₂ = { s₁ with heap := h', toks := tk' } ∧ Fr h₀ L h' m ∧ News h₀ L h' ((I, oI) :: (C, oC) :: (D, lst ys) :: news) ∧ V i y) E' { s₁ with heap := h, toks := tk }) ∧
      (∀ ys, ys.length = b.size → (∀ j y, ys[j]? = some y → V j y) → ∀ D h tk, Fr h₀ L h m → News h₀ L h ((D, lst ys) :: news) → Q (.ref D) { s₁ with heap := h, toks := tk })) E s)
    (hs : ∀ z, foldedSetIterable iter env z = pure z := by intro _; rfl) :
    wpAny (model prog w) A (eval (.ListComp elt [⟨.Name x px, iter, [], 0⟩] scope pos) env) Q E s := by
  refine compJ0 (h₀ := h₀) (L := L) (m := m) hclos hcell hpush hkind hnames (wpAny_mono h (fun xv s₁ h₁ => ?_) fun _ _ e => e) hs
  refine ex3 h₁ fun b t news hx_q => an5 hx_q fun zr5 F N hz hx_q => Exists.elim hx_q fun V hx_q => an2 hx_q fun turn fin => ?_
  (try clear h₁)
  subst zr5
  refine KBw.pyIter_bytes ?_
  have up : ∀ (o : Obj) c ob, s₁.heap.get? c = some ob → (s₁.heap.push o).get? c = some ob := fun o c ob e => Heap.get?_push_of_some _ e
  have nn := next_new F s₁.heap.objs.size (Nat.le_refl _)
  have hLt := F.ns.lt
  refine xi7 _ ([_]) b.size _ _ (fun _ => True) news ⟨rfl, ⟨KBw.walks hA s₁.heap.objs.size b t, by rw [sizeLine_eq]; lia, fun i h st => by obtain ⟨o, e, _⟩ := st; exact ⟨o, e⟩, fun i h h' o nw st e e' _ _ _ => by obtain ⟨o', q, r⟩ := st; rw [e] at q; cases q; exact ⟨o, e', r⟩, fun c hc => ?_, Nat.ne_of_lt hLt, nn.2, fun q hq => ?_, ⟨_, Heap.get?_push_size _ rfl, rfl, rfl⟩, F.keeps (up _), N.grown (up _), trivial⟩,
    Each V news, Each.nil, fun i ys nw hJ => Nat.le_of_eq hJ.2.1, fun C D => ?_, fun D ys nw hJ _ h2 tk2 F2 N2 _ => ?_⟩
  · rw [List.mem_singleton.mp hc, Heap.size_push]
    exact Nat.lt_succ_self _
  · exact Nat.ne_of_lt (Heap.lt_size (N q hq).1)
  · intro i v ys nw h3 tk3 oI oC m₂ E' hi hP hJ hS F3 N3 off3 ne3 hC3 hst3
    refine ex2 hP fun c u hx_q => an2 hx_q fun hc zr4 => ?_
    (try clear hP)
    subst zr4
    refine an3 hJ fun zr3 hl hv => ?_
    (try clear hJ)
    subst zr3
    refine wpAny_of_eq rfl (assignC hx hkind F3 N3 hC3 off3 ne3 fun h4 oC4 F4 N4 hC4 _ => ?_)
    refine wpAny_tests_nil ?_
    simp only [if_true]
    refine wpAny_mono (turn i c u ys _ oI C oC4 D _ h4 _ E' hc hC4 (if_pos rfl) F4 N4) (fun y s₂ hy => ?_) fun _ _ e => e
    refine ex2 hy fun h' tk' hx_q => an4 hx_q fun zr2 F' N' hV => ?_
    (try clear hy)
    subst zr2
    exact xi5 h' tk' oC4 _ _ ⟨rfl, F', N', hC4, off3, trivial, Each.snoc ⟨rfl, hl, hv⟩ hV⟩
  · refine an3 hJ fun zr1 hl hv => ?_
    (try clear hJ)
    subst zr1
    exact fin ys hl hv D h2 tk2 F2 N2

end
end

section
open PySem PySem.W PySem.Calls PyProof.Rows
section
variable {prog : Program} {w : World} {A : Around} {E : Value → Shared → Prop} {s : Shared} {h₀ : Heap} {L : Addr} {m : Str → Option Value} {pg : PG} {st : ST} {rest : List (Addr × Obj)} {p : Program} {loose : List Str} {mg mb : Str → Option Value}
open LCg
noncomputable def wordS (n : Nat) : Str := ⟨((hexB n).map UInt8.toNat).toArray⟩
noncomputable def cardW (f c k : Nat) : Str := (".----" : Str) ++ Txt.mul ("=" : Str) (((wordS (f + (c - 1))).length : Int) - (wordS (f + k)).length) ++ wordS (f + k) ++ (" ;" : Str)
theorem wordS_length (n : Nat) : (wordS n).length = (hexB n).length := by
  show ((hexB n).map UInt8.toNat).toArray.size = _
  rw [List.size_toArray, List.length_map]
theorem wordS_len {n : Nat} (h : n < 4294967296) : (wordS n).length ≤ 8 := by
  rw [wordS_length]; exact hexB_len 8 n h
theorem hexB_ge : ∀ j n, 16 ^ j ≤ n → j < (hexB n).length
  | 0, n, h => by
    rw [hexB_eq, if_neg (by have : 16 ^ 0 = 1 := rfl; lia)]
    simp
  | j + 1, n, h => by
    have h1 : 16 ^ j ≤ n / 16 := by rw [Nat.le_div_iff_mul_le (by decide)]; rw [Nat.pow_succ] at h; exact h
    have h2 := hexB_ge j (n / 16) h1
    rw [hexB_eq, if_neg (by have : 0 < 16 ^ (j + 1) := Nat.pow_pos (by decide); lia), List.length_append, List.length_singleton]
    lia
noncomputable def dig (W x : Nat) : List Nat := (List.range W).reverse.map fun j => if 16 ^ j ≤ x then 65 + x / 16 ^ j % 16 else 61
theorem dig_succ (W x : Nat) : dig (W + 1) x = dig W (x / 16) ++ [if 1 ≤ x then 65 + x % 16 else 61] := by
  unfold dig
  rw [List.range_succ_eq_map, List.reverse_cons, List.map_append, ← List.map_reverse, List.map_map]
  congr 1
  · refine List.map_congr_left fun j _ => ?_
    show (if 16 ^ (j + 1) ≤ x then 65 + x / 16 ^ (j + 1) % 16 else 61) = _
    have e : 16 ^ (j + 1) = 16 * 16 ^ j := by rw [Nat.pow_succ, Nat.mul_comm]
    rw [e, ← Nat.div_div_eq_div_mul]
    have e2 : 16 * 16 ^ j ≤ x ↔ 16 ^ j ≤ x / 16 := by rw [Nat.le_div_iff_mul_le (by decide), Nat.mul_comm]
    by_cases h : 16 ^ j ≤ x / 16
    · rw [if_pos h, if_pos (e2.mpr h)]
    · rw [if_neg h, if_neg fun z => h (e2.mp z)]
  · simp
theorem hexB_last {x : Nat} (h : x ≠ 0) : (hexB x).map UInt8.toNat = (hexB (x / 16)).map UInt8.toNat ++ [65 + x % 16] := by
  rw [hexB_eq x, if_neg h, List.map_append]
  congr 1
  show [((65 + x % 16).toUInt8).toNat] = _
  have : (65 + x % 16) < 256 := by lia
  simp [Nat.toUInt8, Nat.mod_eq_of_lt this]
theorem dig_hex : ∀ W x, x < 16 ^ W → dig W x = List.replicate (W - (hexB x).length) 61 ++ (hexB x).map UInt8.toNat
  | 0, x, h => by
    have : x = 0 := by have e : 16 ^ 0 = 1 := rfl; lia
    subst this
    have e : hexB 0 = [] := hexB_0
    rw [e]; rfl
  | W + 1, x, h => by
    have ih := dig_hex W (x / 16) (by rw [Nat.pow_succ] at h; lia)
    rw [dig_succ, ih]
    by_cases hx : x = 0
    · subst hx
      have e : hexB 0 = [] := hexB_0
      have e2 : hexB (0 / 16) = [] := e
      rw [e2]
      try rw [e]
      simp [List.replicate_succ']
    · have e1 : (hexB x).length = (hexB (x / 16)).length + 1 := by
        have := congrArg List.length (hexB_last hx)
        simpa using this
      rw [if_pos (by lia), hexB_last hx, e1, List.append_assoc]
      congr 2
      lia
theorem worths_range {n W : Nat} (hW : W ≤ 8) (h1 : n ≤ 16 ^ W) (h2 : W ≠ 0 → 16 ^ (W - 1) < n) : worthsOf n = (List.range W).reverse.map (16 ^ ·) := by
  unfold worthsOf
  have key : ∀ k, decide (16 ^ k < n) = decide (k < W) := fun k => by
    refine decide_eq_decide.mpr ⟨fun h => Nat.lt_of_not_le fun hk => ?_, fun h => ?_⟩
    · exact absurd (Nat.le_trans h1 (Nat.pow_le_pow_right (by decide) hk)) (Nat.not_le_of_lt h)
    · exact Nat.lt_of_le_of_lt (Nat.pow_le_pow_right (by decide) (Nat.le_sub_one_of_lt h)) (h2 (Nat.ne_of_gt (Nat.lt_of_le_of_lt (Nat.zero_le _) h)))
  rw [List.filter_map]
  congr 1
  rw [show ((fun x => decide (x < n)) ∘ fun x => 16 ^ x) = fun k => decide (k < W) from funext key]
  have : ∀ W : Fin 9, [7, 6, 5, 4, 3, 2, 1, 0].filter (fun k => decide (k < W.val)) = (List.range W.val).reverse := by decide
  exact this ⟨W, Nat.lt_succ_of_le hW⟩
theorem pow_len (n : Nat) : n < 16 ^ (hexB n).length := by
  rcases Nat.lt_or_ge n (16 ^ (hexB n).length) with h | h
  · exact h
  · exact absurd (hexB_ge _ _ h) (Nat.lt_irrefl _)
theorem pow_len2 (n : Nat) (h : (hexB n).length ≠ 0) : 16 ^ ((hexB n).length - 1) ≤ n := by
  rcases Nat.lt_or_ge n (16 ^ ((hexB n).length - 1)) with h2 | h2
  · exact absurd (hexB_len _ _ h2) (Nat.not_le_of_lt (Nat.sub_lt (Nat.pos_of_ne_zero h) Nat.one_pos))
  · exact h2
theorem nameOf_hex {n x : Nat} (hx : x < n) (hn : n ≤ 4294967296) : nameOf n x = List.replicate ((hexB (n - 1)).length - (hexB x).length) 61 ++ (hexB x).map UInt8.toNat := by
  have hW : (hexB (n - 1)).length ≤ 8 := hexB_len 8 (n - 1) (by show n - 1 < 4294967296; exact Nat.lt_of_lt_of_le (Nat.sub_lt (Nat.lt_of_le_of_lt (Nat.zero_le x) hx) Nat.one_pos) hn)
  have w := worths_range (n := n) hW (Nat.le_of_pred_lt (pow_len (n - 1))) (fun h => Nat.lt_of_le_pred (Nat.lt_of_le_of_lt (Nat.zero_le x) hx) (pow_len2 (n - 1) h))
  unfold nameOf
  rw [w, List.map_map]
  have := pow_len (n - 1)
  exact dig_hex (hexB (n - 1)).length x (Nat.lt_of_le_of_lt (Nat.le_sub_one_of_lt hx) this)
theorem nameOf_len {n x : Nat} : (nameOf n x).length = (worthsOf n).length := by unfold nameOf; rw [List.length_map]
theorem worths_len {n : Nat} (h0 : 1 ≤ n) (hn : n ≤ 4294967296) : (worthsOf n).length = (hexB (n - 1)).length := by
  have hW : (hexB (n - 1)).length ≤ 8 := hexB_len 8 (n - 1) (by show n - 1 < 4294967296; exact Nat.lt_of_lt_of_le (Nat.sub_lt h0 Nat.one_pos) hn)
  have w := worths_range (n := n) hW (Nat.le_of_pred_lt (pow_len (n - 1))) (fun h => Nat.lt_of_le_pred h0 (pow_len2 (n - 1) h))
  rw [w]; simp
noncomputable def bod (d : Nat) (nm : List Nat) : Str := ⟨(List.replicate d 46 ++ (List.replicate (5 - d) 45 ++ nm)).toArray⟩
theorem cardW_eq {f c k : Nat} (hk : k < c) (h : f + c ≤ 4294967296) : cardW f c k = card (bod 1 (nameOf (f + c) (f + k))) := by
  refine str_ext ?_
  have e1 : ((wordS (f + (c - 1))).length : Int) - (wordS (f + k)).length = (((hexB (f + c - 1)).length - (hexB (f + k)).length : Nat) : Int) := by
    rw [wordS_length, wordS_length, show f + (c - 1) = f + c - 1 from (Nat.add_sub_assoc (Nat.lt_of_le_of_lt (Nat.zero_le k) hk) f).symm]
    have h1 : (hexB (f + k)).length ≤ (hexB (f + c - 1)).length := hexB_len _ _ (Nat.lt_of_le_of_lt (Nat.le_sub_one_of_lt (Nat.add_lt_add_left hk f)) (pow_len (f + c - 1)))
    exact (Int.ofNat_sub h1).symm
  unfold cardW
  rw [e1, nameOf_hex (by lia) h]
  have e2 := mul_list 61 ((((hexB (f + c - 1)).length - (hexB (f + k)).length : Nat) : Int))
  rw [Int.toNat_natCast] at e2
  show (((".----" : Str).cps ++ (Txt.mul (⟨#[61]⟩ : Str) _).cps) ++ (wordS (f + k)).cps ++ (" ;" : Str).cps).toList = ((bod 1 _).cps ++ (" ;" : Str).cps).toList
  rw [Array.toList_append, Array.toList_append, Array.toList_append, e2, Array.toList_append]
  show [46, 45, 45, 45, 45] ++ _ ++ ((hexB (f + k)).map UInt8.toNat) ++ [32, 59] = (List.replicate 1 46 ++ (List.replicate (5 - 1) 45 ++ _)) ++ [32, 59]
  simp [List.replicate]
theorem bod_len {d : Nat} {nm : List Nat} (h5 : d ≤ 5) : (bod d nm).length = 5 + nm.length := by
  show (List.replicate d 46 ++ (List.replicate (5 - d) 45 ++ nm)).toArray.size = _
  rw [List.size_toArray, List.length_append, List.length_append, List.length_replicate, List.length_replicate, ← Nat.add_assoc, Nat.add_sub_cancel' h5]
theorem bod_body {d sz : Nat} {nm : List Nat} {solo : Prop} (h1 : 1 ≤ d) (h5 : d ≤ 5) (hz : sz = 5 + nm.length) (hn : ∀ ch ∈ nm, ch = 61 ∨ (65 ≤ ch ∧ ch ≤ 80)) (hs : nm = [] → solo) : Body sz solo (bod d nm) where
  len := by rw [bod_len h5, hz]
  pos := by lia
  last := by
    have e : (bod d nm).cps.size = 5 + nm.length := bod_len h5
    rw [e]
    show ∃ c, (List.replicate d 46 ++ (List.replicate (5 - d) 45 ++ nm)).toArray[5 + nm.length - 1]? = some c ∧ _
    rw [List.getElem?_toArray]
    rcases List.eq_nil_or_concat nm with rfl | ⟨i, x, rfl⟩
    · by_cases hd : d = 5
      · subst hd
        exact ⟨46, rfl, by decide, by decide, fun h => absurd h (by decide)⟩
      · refine ⟨45, ?_, by decide, by decide, fun _ => hs rfl⟩
        have hd4 : d ≤ 4 := Nat.le_of_lt_succ (Nat.lt_of_le_of_ne h5 hd)
        rw [List.append_nil, List.getElem?_append_right (by rw [List.length_replicate]; exact hd4), List.getElem?_replicate, if_pos (by rw [List.length_replicate]; exact Nat.sub_lt_sub_right hd4 (by decide))]
    · have hx := hn x (by simp)
      refine ⟨x, ?_, by lia, by lia, fun h => absurd h (by lia)⟩
      have e3 : 5 + (i ++ [x]).length - 1 = (List.replicate d 46 ++ (List.replicate (5 - d) 45 ++ i)).length := by
        rw [List.length_append, List.length_append, List.length_append, List.length_replicate, List.length_replicate, ← Nat.add_assoc d, Nat.add_sub_cancel' h5]; rfl
      rw [List.concat_eq_append, e3, ← List.append_assoc (List.replicate (5 - d) 45), ← List.append_assoc, List.getElem?_concat_length]
  first := by
    have hob : ∃ e, d = e + 1 := Nat.exists_eq_succ_of_ne_zero (Nat.ne_of_gt h1)
    refine Exists.elim hob fun e zr2 => ?_
    clear hob
    subst zr2
    rfl
theorem nameOf_ch {n x : Nat} : ∀ ch ∈ nameOf n x, ch = 61 ∨ (65 ≤ ch ∧ ch ≤ 80) := fun ch h => by
  unfold nameOf at h
  refine Exists.elim (List.mem_map.mp h) fun wo hx => an2 hx fun _ zr1 => ?_
  subst zr1
  split
  · right; have := Nat.mod_lt (x / wo) (show 16 > 0 by decide); lia
  · left; rfl

end
end

section
open PySem PySem.W PySem.Calls PyProof.Rows
noncomputable abbrev tl (b : Str) : List Nat := b.cps.toList
noncomputable def eT (t : Nat) : List Nat := if t = 3 then [59, 32] else [32, 59]
noncomputable def zT (t : Nat) : List Nat := if t = 0 then [10] else if t = 2 then [13, 10] else [13]
theorem strF_parts (t : Nat) (ht : t < 4) : ∀ row : List Str, (strF (parts t row)).cps.toList = if t = 2 then rowB (row.map tl) else rowT (eT t) (row.map tl)
  | [] => by
    have : parts t [] = [] := rfl
    rw [this, strF_list]
    split <;> rfl
  | b :: r => by
    have ih := strF_parts t ht r
    have e : parts t (b :: r) = chunk t b ++ parts t r := rfl
    rw [strF_list] at ih
    rw [e, strF_list, List.map_append, List.flatten_append, ih]
    have e2 : (card b).cps.toList = b.cps.toList ++ [32, 59] := by show (b.cps ++ (" ;" : Str).cps).toList = _; rw [Array.toList_append]; rfl
    have c0 : ("" : Str).cps.toList = [] := rfl
    have c1 : (" " : Str).cps.toList = [32] := rfl
    have c2 : (";" : Str).cps.toList = [59] := rfl
    have c3 : (" \t" : Str).cps.toList = [32, 9] := rfl
    have c4 : ("; " : Str).cps.toList = [59, 32] := rfl
    rcases four ‹t < 4› with rfl | rfl | rfl | rfl
    · simp only [chunk, List.map_cons, List.map_nil, c0, e2]; simp [rowT, eT]
    · simp only [chunk, List.map_cons, List.map_nil, c0, c1, c2]; simp [rowT, eT]
    · simp only [chunk, List.map_cons, List.map_nil, c3]; simp [rowB]
    · simp only [chunk, List.map_cons, List.map_nil, c0, c4]; simp [rowT, eT]
theorem mul_n (k : Nat) : (Txt.mul ("n" : Str) ((k : Nat) : Int)).cps.toList = List.replicate k 110 := by
  have := mul_list 110 (k : Int)
  rw [Int.toNat_natCast] at this
  exact this
theorem app_list (x y : Str) : (x ++ y).cps.toList = x.cps.toList ++ y.cps.toList := by
  show (x.cps ++ y.cps).toList = _
  rw [Array.toList_append]
theorem slice_drop (x : Str) (k : Nat) (h : k ≤ x.cps.toList.length) : (Txt.slice x (some ((k : Nat) : Int)) none).cps.toList = x.cps.toList.drop k := by
  show (StrLaws.sliceText x (some ((k : Nat) : Int)) none).cps.toList = _
  rw [StrLaws.sliceText_from ⟨by lia, by lia⟩]
  show List.take _ (List.drop _ _) = _
  rw [Int.toNat_natCast, List.take_of_length_le (by rw [List.length_drop]; omega)]
theorem text0_list (t : Nat) (ht : t < 4) (rows : List (List Str)) : (text0 t rows).cps.toList = jn (zT t) ((rows.map (·.map tl)).map fun row => if t = 2 then rowB row else rowT (eT t) row) := by
  unfold text0
  have g : Txt.join (sep t) (rows.map fun r => strF (parts t r)) = Str.join (sep t) (rows.map fun r => strF (parts t r)) := StrLaws.glued_eq_join _ _
  rw [g, join_jn, List.map_map, List.map_map]
  have e : (sep t).cps.toList = zT t := by
    rcases four ‹t < 4› with rfl | rfl | rfl | rfl <;> rfl
  rw [e]
  congr 1
  refine List.map_congr_left fun row _ => ?_
  exact strF_parts t ht row
theorem textT_list (t : Nat) (ht : t < 4) {rows : List (List Str)} (hr : rows ≠ []) (h : ∀ r ∈ rows, r ≠ [] ∧ ∀ b ∈ r, Bd (tl b)) : (textT t (text0 t rows)).cps.toList = jn (zT t) ((rows.map (·.map tl)).map (rowT (eT t))) := by
  have h0 := text0_list t ht rows
  unfold textT
  by_cases e : t = 2
  · subst e
    rw [if_pos rfl, app_list]
    have h0' : (text0 2 rows).cps.toList = jn [13, 10] ((rows.map (·.map tl)).map rowB) := h0
    have h1 := replace_list (x := text0 2 rows) (y := ("\r\n \t" : Str)) (z := (" ;\r\n" : Str)) (by decide)
    have h2 := replace_list (x := Txt.replace (text0 2 rows) ("\r\n \t" : Str) (" ;\r\n" : Str)) (y := (" \t" : Str)) (z := (" ;" : Str)) (by decide)
    rw [h1] at h2
    have c1 : ("\r\n \t" : Str).cps.toList = [13, 10, 32, 9] := rfl
    have c2 : (" ;\r\n" : Str).cps.toList = [32, 59, 13, 10] := rfl
    have c3 : (" \t" : Str).cps.toList = [32, 9] := rfl
    have c4 : (" ;" : Str).cps.toList = [32, 59] := rfl
    rw [c1, c2, c3, c4, h0'] at h2
    cases hrows : rows with
    | nil => exact absurd hrows hr
    | cons row rs =>
      rw [hrows] at h2
      have hh : ∀ r ∈ row.map tl :: rs.map (·.map tl), r ≠ [] ∧ ∀ b ∈ r, Bd b := fun r hm => by
        have hm2 : r ∈ rows.map (·.map tl) := by rw [hrows]; exact hm
        refine Exists.elim (List.mem_map.mp hm2) fun q hx => an2 hx fun hq zr2 => ?_
        subst zr2
        refine an2 (h q hq) fun a b => ?_
        refine ⟨fun z => a (List.map_eq_nil_iff.mp z), fun c hc => ?_⟩
        refine Exists.elim (List.mem_map.mp hc) fun d hx => an2 hx fun hd zr1 => ?_
        subst zr1
        exact b d hd
      have h3 := text2 hh
      rw [List.map_cons] at h2
      have hlen : 2 ≤ (Txt.replace (Txt.replace (text0 2 (row :: rs)) ("\r\n \t" : Str) (" ;\r\n" : Str)) (" \t" : Str) (" ;" : Str)).cps.toList.length := by
        rw [h2]
        refine Decidable.byContradiction fun hlt => ?_
        rw [List.drop_eq_nil_of_le (by lia), List.nil_append, List.map_cons, jn_tail] at h3
        refine an2 (hh _ (.head _)) fun hne hb => ?_
        cases hrow : row.map tl with
        | nil => exact absurd hrow hne
        | cons b r =>
          rw [hrow] at h3 hb
          obtain ⟨⟨q, hq⟩, _⟩ := hb b (.head _)
          rw [rowT, List.map_cons, List.flatten_cons, hq] at h3
          simp at h3
      have h4 := slice_drop (Txt.replace (Txt.replace (text0 2 (row :: rs)) ("\r\n \t" : Str) (" ;\r\n" : Str)) (" \t" : Str) (" ;" : Str)) 2 hlen
      rw [h2] at h4
      rw [c4]
      show (Txt.slice _ (some ((2 : Nat) : Int)) none).cps.toList ++ _ = _
      rw [h4, h3]
      rfl
  · rw [if_neg e, h0]
    congr 1
    refine List.map_congr_left fun row _ => if_neg e
theorem tags_snoc (row : List (List Nat)) : ∀ {rows : List (List (List Nat))} {q : Bool}, rows ≠ [] → tags q (rows ++ [row]) = tags q rows ++ tagRow true row
  | [], _, h => absurd rfl h
  | [x], q, _ => by simp [tags]
  | x :: y :: r, q, _ => by
    have ih := tags_snoc row (rows := y :: r) (q := true) (by simp)
    rw [List.cons_append, tags, ih]
    show _ = (tagRow q x ++ tags true (y :: r)) ++ _
    rw [List.append_assoc]
theorem tagRow_snoc (q : Bool) (b : List Nat) {row : List (List Nat)} (h : row ≠ []) : tagRow q (row ++ [b]) = tagRow q row ++ [(false, b)] := by
  cases row with
  | nil => exact absurd rfl h
  | cons c r => simp [tagRow]
theorem tags_snoc2 (b : List Nat) {row : List (List Nat)} (h : row ≠ []) : ∀ {rows : List (List (List Nat))} {q : Bool}, tags q (rows ++ [row ++ [b]]) = tags q (rows ++ [row]) ++ [(false, b)]
  | [], q => by
    show tagRow q (row ++ [b]) ++ [] = tagRow q row ++ [] ++ [(false, b)]
    rw [tagRow_snoc q b h, List.append_nil, List.append_nil]
  | x :: r, q => by
    have ih := tags_snoc2 b h (rows := r) (q := true)
    rw [List.cons_append, List.cons_append, tags, tags, ih, List.append_assoc]
noncomputable abbrev LL (rows : List (List Str)) : List (List (List Nat)) := rows.map (·.map tl)
theorem run_tags {n : Nat} : ∀ (bs : List Str) (a : Ab) (q : Bool), a.i0 < n → a.i0 + a.cur.length ≤ n → (a.cur = [] → a.rows = [] ∧ q = (a.i0 % n == 0)) →
    tags q (LL ((abRun n a bs).rows ++ [(abRun n a bs).cur])) = tags q (LL (a.rows ++ [a.cur])) ++ tagFrom n (a.i0 + a.cur.length) (bs.map tl)
  | [], a, q, _, _, _ => by simp [abRun, tagFrom]
  | b :: r, a, q, h1, h2, h3 => by
    have e : abRun n a (b :: r) = abRun n (a.step n b) r := rfl
    rw [e, List.map_cons, tagFrom]
    by_cases hf : a.i0 + a.cur.length = n
    · have es : a.step n b = ⟨0, [b], a.rows ++ [a.cur]⟩ := by unfold Ab.step; rw [if_pos hf]
      rw [es, run_tags r _ q (by show 0 < n; lia) (by show 0 + 1 ≤ n; lia) fun z => by cases z]
      show tags q (LL (a.rows ++ [a.cur] ++ [[b]])) ++ tagFrom n (0 + 1) (r.map tl) = _
      have e1 : LL (a.rows ++ [a.cur] ++ [[b]]) = LL (a.rows ++ [a.cur]) ++ [[tl b]] := by simp [LL]
      rw [e1, tags_snoc _ (by simp [LL]), hf, Nat.mod_self, tagFrom_n, List.append_assoc, Nat.zero_add]
      rfl
    · have es : a.step n b = ⟨a.i0, a.cur ++ [b], a.rows⟩ := by unfold Ab.step; rw [if_neg hf]
      rw [es, run_tags r (⟨a.i0, a.cur ++ [b], a.rows⟩ : Ab) q h1 (by show a.i0 + (a.cur ++ [b]).length ≤ n; rw [List.length_append, List.length_singleton]; lia) fun z => by simp at z]
      show tags q (LL (a.rows ++ [a.cur ++ [b]])) ++ tagFrom n (a.i0 + (a.cur ++ [b]).length) (r.map tl) = _
      rw [List.length_append, List.length_singleton, ← Nat.add_assoc]
      have e1 : LL (a.rows ++ [a.cur ++ [b]]) = LL a.rows ++ [a.cur.map tl ++ [tl b]] := by simp [LL]
      have e2 : LL (a.rows ++ [a.cur]) = LL a.rows ++ [a.cur.map tl] := by simp [LL]
      rw [e1, e2]
      by_cases hc : a.cur = []
      · refine an2 (h3 hc) fun hr hq => ?_
        rw [hc, hr]
        show tags q [[tl b]] ++ _ = tags q [[]] ++ _
        simp only [List.length_nil, Nat.add_zero]
        rw [← hq]
        rfl
      · rw [tags_snoc2 _ (by simpa using hc), List.append_assoc]
        have e3 : ((a.i0 + a.cur.length) % n == 0) = false := by
          have : a.cur.length ≠ 0 := fun z => hc (List.length_eq_zero_iff.mp z)
          rw [Nat.mod_eq_of_lt (by lia)]
          exact beq_eq_false_iff_ne.mpr (by lia)
        rw [e3]
        rfl
theorem rows_tags {n r : Nat} (h : r < n) (bs : List Str) : tags (r == 0) (LL (rowsOf n r bs)) = tagFrom n r (bs.map tl) := by
  have := run_tags bs (⟨r, [], []⟩ : Ab) (r == 0) h (by show r + 0 ≤ n; lia) fun _ => ⟨rfl, by show _ = (r % n == 0); rw [Nat.mod_eq_of_lt h]⟩
  exact this
theorem rows_ne {n r : Nat} (h : r < n) {bs : List Str} (hb : bs ≠ []) : ∀ row ∈ rowsOf n r bs, row ≠ [] := by
  suffices H : ∀ (bs : List Str) (a : Ab), a.i0 < n → (∀ row ∈ a.rows, row ≠ []) → (∀ row ∈ (abRun n a bs).rows, row ≠ []) by
    intro row hm
    rcases List.mem_append.mp hm with hm | hm
    · exact H bs ⟨r, [], []⟩ h (fun _ z => by simp at z) row hm
    · rw [List.mem_singleton.mp hm]; exact run_cur n hb
  intro bs
  induction bs with
  | nil => exact fun a _ h => h
  | cons b l ih =>
    intro a h1 h2
    refine ih (a.step n b) ?_ ?_
    · unfold Ab.step; split
      · show 0 < n; lia
      · exact h1
    · unfold Ab.step; split
      · rename_i hf
        intro row hm
        rcases List.mem_append.mp hm with hm | hm
        · exact h2 row hm
        · rw [List.mem_singleton.mp hm]
          intro z; rw [z] at hf; simp at hf; lia
      · exact h2

theorem finC_list {d : Nat} {nm : List Nat} (hd : d ≤ 5) (hd1 : 1 ≤ d) (hn : ∀ ch ∈ nm, ch = 61 ∨ (65 ≤ ch ∧ ch ≤ 80)) {q : Str} {k : Nat} (hq : q.cps.toList = List.replicate d 46 ++ (List.replicate k 45 ++ nm) ++ [32]) : finC q = card (bod d nm) := by
  have e46 : ∀ c, ("." : Str).cps.contains c = (c == 46) := fun c => by
    have : ("." : Str).cps = #[46] := rfl
    rw [this]; by_cases h : c = 46 <;> simp [h]
  have e45 : ∀ c, ("-" : Str).cps.contains c = (c == 45) := fun c => by
    have : ("-" : Str).cps = #[45] := rfl
    rw [this]; by_cases h : c = 45 <;> simp [h]
  have drop_rep : ∀ (p : Nat → Bool) (c : Nat) (x : List Nat) (m : Nat), p c = true → (List.replicate m c ++ x).dropWhile p = x.dropWhile p := fun p c x m hp => by
    induction m with
    | zero => rfl
    | succ m ih => rw [List.replicate_succ, List.cons_append, List.dropWhile_cons, if_pos hp, ih]
  have hnm : ∀ p : Nat → Bool, p 61 = false → (∀ c, 65 ≤ c → p c = false) → p 32 = false → (nm ++ [32]).dropWhile p = nm ++ [32] := fun p h1 h2 h3 => by
    cases nm with
    | nil => simp [List.dropWhile_cons, h3]
    | cons c r =>
      have : p c = false := by
        rcases hn c (.head _) with rfl | h
        · exact h1
        · exact h2 c h.1
      rw [List.cons_append, List.dropWhile_cons, this]; rfl
  have t1 : (Txt.lstripChars q ("." : Str)).cps.toList = List.replicate k 45 ++ nm ++ [32] := by
    rw [lstrip_list, hq, List.append_assoc, drop_rep _ _ _ _ (by rw [e46]; rfl)]
    cases k with
    | zero => exact hnm _ (by rw [e46]; rfl) (fun c h => by rw [e46]; exact beq_eq_false_iff_ne.mpr (by lia)) (by rw [e46]; rfl)
    | succ k =>
      rw [List.replicate_succ, List.cons_append, List.cons_append, List.dropWhile_cons, e46]; rfl
  have t2 : (Txt.lstripChars (Txt.lstripChars q ("." : Str)) ("-" : Str)).cps.toList = nm ++ [32] := by
    rw [lstrip_list, t1, List.append_assoc, drop_rep _ _ _ _ (by rw [e45]; rfl)]
    exact hnm _ (by rw [e45]; rfl) (fun c h => by rw [e45]; exact beq_eq_false_iff_ne.mpr (by lia)) (by rw [e45]; rfl)
  have l1 : ((q.length : Int) - (Txt.lstripChars q ("." : Str)).length) = (d : Int) := by
    have a : q.length = d + (k + nm.length) + 1 := by
      have := congrArg List.length hq
      show q.cps.size = _
      simp [Array.length_toList] at this; omega
    have b : (Txt.lstripChars q ("." : Str)).length = k + nm.length + 1 := by
      have := congrArg List.length t1
      show (Txt.lstripChars q ("." : Str)).cps.size = _
      simp [Array.length_toList] at this; omega
    rw [a, b]; lia
  unfold finC
  rw [l1]
  refine str_ext ?_
  have m1 : (Txt.mul ("." : Str) ((d : Nat) : Int)).cps.toList = List.replicate d 46 := by
    have := mul_list 46 (d : Int); rw [Int.toNat_natCast] at this; exact this
  have m2 : (Txt.mul ("-" : Str) (5 - (d : Int))).cps.toList = List.replicate (5 - d) 45 := by
    have := mul_list 45 (5 - (d : Int)); rw [d5_nat] at this; exact this
  have c2 : (";" : Str).cps.toList = [59] := rfl
  have c3 : (" ;" : Str).cps.toList = [32, 59] := rfl
  rw [app_list, app_list, app_list, m1, m2, t2, c2]
  show _ = (bod d nm ++ (" ;" : Str)).cps.toList
  rw [app_list, c3]
  show _ = (List.replicate d 46 ++ (List.replicate (5 - d) 45 ++ nm)) ++ [32, 59]
  simp
end

section
open PySem PySem.W PySem.Calls PyProof.Rows
theorem dotRow_ch {x : List Nat} {a : Nat} (ha : a ≠ 46) (h : a ∉ x) : a ∉ dotRow x := by
  cases x with
  | nil => exact h
  | cons c r =>
    rw [dotRow]
    by_cases e : c = 46
    · rw [if_pos e]
      intro hm
      rcases List.mem_cons.mp hm with e | hm
      · exact ha e
      · rcases List.mem_cons.mp hm with e | hm
        · exact ha e
        · exact h (.tail _ hm)
    · rw [if_neg e]; exact h
theorem gone_no13 {room : Nat} {e : List Nat} (he : e = [32, 59] ∨ e = [59, 32]) {rows : List (List (List Nat))} (h : ∀ r ∈ rows, ∀ b ∈ r, Bd b) : ∀ r ∈ gone room e rows, 13 ∉ r := by
  have h13 : ∀ r ∈ rows, 13 ∉ rowT e r := fun r hr hm => (rowT_ch (h r hr) he 13 hm).2 rfl
  cases rows with
  | nil => intro r hr; simp [gone] at hr
  | cons row rs =>
    intro r hr
    unfold gone at hr
    revert r hr
    refine all_cons ?_ fun r hr => ?_
    · split
      · exact dotRow_ch (by decide) (h13 row (.head _))
      · exact h13 row (.head _)
    · refine Exists.elim (List.mem_map.mp hr) fun x hx_q => an2 hx_q fun hx zr7 => ?_
      subst zr7
      refine Exists.elim (List.mem_map.mp hx) fun y hx_q => an2 hx_q fun hy zr6 => ?_
      subst zr6
      exact dotRow_ch (by decide) (h13 y (.tail _ hy))
theorem tagFrom_snoc (n : Nat) (b : List Nat) : ∀ (l : List (List Nat)) (k : Nat), tagFrom n k (l ++ [b]) = tagFrom n k l ++ [((k + l.length) % n == 0, b)]
  | [], k => rfl
  | c :: l, k => by
    rw [List.cons_append, tagFrom, tagFrom_snoc n b l (k + 1), tagFrom, List.length_cons, show k + 1 + l.length = k + (l.length + 1) from by lia]
    rfl
theorem tagFrom_range (n r : Nat) (g : Nat → List Nat) : ∀ c, tagFrom n r ((List.range c).map g) = (List.range c).map fun k => ((r + k) % n == 0, g k)
  | 0 => rfl
  | c + 1 => by
    rw [List.range_succ, List.map_append, List.map_append, List.map_singleton, tagFrom_snoc, tagFrom_range n r g c, List.length_map, List.length_range]
    rfl
theorem mem_tagFrom {n : Nat} : ∀ {l : List (List Nat)} {k : Nat} {x : Bool × List Nat}, x ∈ tagFrom n k l → x.2 ∈ l
  | [], _, x, h => by simp [tagFrom] at h
  | b :: l, k, x, h => by
    rw [tagFrom] at h
    rcases List.mem_cons.mp h with rfl | h
    · exact .head _
    · exact .tail _ (mem_tagFrom h)
theorem map_tl_inj {a b : List Str} (h : a.map tl = b.map tl) : a = b := by
  induction a generalizing b with
  | nil => cases b with
    | nil => rfl
    | cons c r => cases h
  | cons c r ih => cases b with
    | nil => cases h
    | cons d q =>
      rw [List.map_cons, List.map_cons] at h
      injection h with h1 h2
      rw [str_ext h1, ih h2]
theorem bod_tl (d : Nat) (nm : List Nat) : tl (bod d nm) = List.replicate d 46 ++ (List.replicate (5 - d) 45 ++ nm) := rfl
theorem bod_Bd {d : Nat} {nm : List Nat} (hd : 1 ≤ d) (hn : ∀ ch ∈ nm, ch = 61 ∨ (65 ≤ ch ∧ ch ≤ 80)) : Bd (tl (bod d nm)) := by
  refine ⟨?_, fun c hc => ?_⟩
  · have hob : ∃ e, d = e + 1 := ⟨d - 1, by lia⟩
    refine Exists.elim hob fun e zr5 => ?_
    clear hob
    subst zr5
    exact ⟨_, rfl⟩
  · rw [bod_tl] at hc
    rcases List.mem_append.mp hc with hc | hc
    · rw [List.eq_of_mem_replicate hc]; decide
    · rcases List.mem_append.mp hc with hc | hc
      · rw [List.eq_of_mem_replicate hc]; decide
      · have := hn c hc; lia
theorem cut_list {t n r sz : Nat} {bs : List Str} (ht : t < 4) (hr : r < n) (hb : ∀ b ∈ bs, Bd (tl b)) (hne : bs ≠ []) :
    (cutT ((r * (sz + 2) : Nat) : Int) (sentT ((r * (sz + 2) : Nat) : Int) (textT t (text0 t (rowsOf n r bs))))).map tl = (tagFrom n r (bs.map tl)).map (dcell [32]) ++ [[]] := by
  have hrows : ∀ q ∈ rowsOf n r bs, q ≠ [] ∧ ∀ b ∈ q, Bd (tl b) := fun q hq => ⟨rows_ne hr hne q hq, fun b hbq => hb b (by rw [← rows_flat n r bs]; exact List.mem_flatten.mpr ⟨q, hq, hbq⟩)⟩
  have hrne : rowsOf n r bs ≠ [] := by unfold rowsOf; simp
  have hX := textT_list t ht hrne hrows
  have htag := rows_tags hr bs
  have hLL : ∀ q ∈ LL (rowsOf n r bs), ∀ b ∈ q, Bd b := fun q hq b hbq => by
    refine Exists.elim (List.mem_map.mp hq) fun x hx_q => an2 hx_q fun hx zr4 => ?_
    subst zr4
    refine Exists.elim (List.mem_map.mp hbq) fun y hx_q => an2 hx_q fun hy zr3 => ?_
    subst zr3
    exact (hrows x hx).2 y hy
  have hLne : LL (rowsOf n r bs) ≠ [] := fun z => hrne (List.map_eq_nil_iff.mp z)
  generalize textT t (text0 t (rowsOf n r bs)) = X at hX
  change X.cps.toList = jn (zT t) ((LL (rowsOf n r bs)).map (rowT (eT t))) at hX
  generalize LL (rowsOf n r bs) = rows at hX htag hLL hLne
  have hob : ∃ row rs, rows = row :: rs := by
    cases rows with
    | nil => exact absurd rfl hLne
    | cons a b => exact xi2 a b rfl
  refine ex2 hob fun row rs zr2 => ?_
  clear hob
  subst zr2
  have he : eT t = [32, 59] ∨ eT t = [59, 32] := by unfold eT; split; exact .inr rfl; exact .inl rfl
  have hz : zT t = [10] ∨ zT t = [13] ∨ zT t = [13, 10] := by
    unfold zT; split
    · exact .inl rfl
    · split
      · exact .inr (.inr rfl)
      · exact .inr (.inl rfl)
  generalize hroom : r * (sz + 2) = room
  have hroom0 : (room == 0) = (r == 0) := by
    rw [← hroom]
    cases r with
    | zero => rw [Nat.zero_mul]
    | succ k =>
      have : (k + 1) * (sz + 2) ≠ 0 := Nat.mul_ne_zero (by lia) (by lia)
      rw [beq_eq_false_iff_ne.mpr this]; rfl
  have hS : (sentT ((room : Nat) : Int) X).cps.toList = List.replicate room 110 ++ jn [13, 10] (gone room (eT t) (row :: rs)) := by
    unfold sentT
    rw [dotS_list, crlfS_list, app_list, mul_n, hX]
    exact sent_rows he hz hLL
  generalize sentT ((room : Nat) : Int) X = S at hS
  have h1 := slice_drop S room (by rw [hS, List.length_append, List.length_replicate]; lia)
  rw [hS, List.drop_left' (List.length_replicate ..)] at h1
  unfold cutT
  generalize Txt.slice S (some ((room : Nat) : Int)) none = S1 at h1
  have h2 := replace_list (x := S1) (y := ("\r\n" : Str)) (z := ("" : Str)) (by decide)
  have c1 : ("\r\n" : Str).cps.toList = [13, 10] := rfl
  have c2 : ("" : Str).cps.toList = [] := rfl
  have c3 : ("; " : Str).cps.toList = [59, 32] := rfl
  have c4 : (" ;" : Str).cps.toList = [32, 59] := rfl
  have c5 : (";" : Str).cps.toList = [59] := rfl
  rw [h1, c1, c2, repl_jn rfl _ (gone_no13 he hLL), jn_flat, gone_flat hLL, hroom0, htag] at h2
  generalize Txt.replace S1 ("\r\n" : Str) ("" : Str) = S2 at h2
  have h3 := replace_list (x := S2) (y := ("; " : Str)) (z := (" ;" : Str)) (by decide)
  have hT : ∀ x ∈ tagFrom n r (bs.map tl), Bd x.2 := fun x hx => by
    refine Exists.elim (List.mem_map.mp (mem_tagFrom hx)) fun b hx_q => an2 hx_q fun hb1 hb2 => ?_
    rw [← hb2]; exact hb b hb1
  have hback : repl [59, 32] [32, 59] ((tagFrom n r (bs.map tl)).map (dcell (eT t))).flatten = ((tagFrom n r (bs.map tl)).map (dcell [32, 59])).flatten := by
    rcases he with e | e
    · rw [e]; exact back0 _ hT
    · rw [e]; exact back3 _ hT
  rw [h2, c3, c4, hback] at h3
  generalize Txt.replace S2 ("; " : Str) (" ;" : Str) = S3 at h3
  have h4 := split_list (x := S3) (y := (";" : Str)) (by decide) (by decide +kernel)
  rw [h3, c5, cut_cells _ hT] at h4
  exact h4
theorem turnOut_law {t n r sz c : Nat} (d : Nat → Nat) (nm : Nat → List Nat) (ht : t < 4) (hr : r < n) (hc : 1 ≤ c) (hd : ∀ k, k < c → 1 ≤ d k ∧ d k ≤ 4) (hn : ∀ k, ∀ ch ∈ nm k, ch = 61 ∨ (65 ≤ ch ∧ ch ≤ 80)) :
    turnOut t n r sz ((List.range c).map fun k => bod (d k) (nm k)) = ((List.range c).map fun k => bod (d k + ((r + k) % n == 0).toNat) (nm k)).map card ∧
    (cutT ((r * (sz + 2) : Nat) : Int) (sentT ((r * (sz + 2) : Nat) : Int) (textT t (text0 t (rowsOf n r ((List.range c).map fun k => bod (d k) (nm k))))))).length = c + 1 := by
  have hcut := cut_list (t := t) (n := n) (r := r) (sz := sz) (bs := (List.range c).map fun k => bod (d k) (nm k)) ht hr (fun b hb => by
    refine Exists.elim (List.mem_map.mp hb) fun k hx_q => an2 hx_q fun hk zr1 => ?_
    subst zr1
    exact bod_Bd (hd k (List.mem_range.mp hk)).1 (hn k)) (fun z => by
    have := congrArg List.length z
    rw [List.length_map, List.length_range] at this
    have e : ([] : List Str).length = 0 := rfl
    lia)
  rw [List.map_map, tagFrom_range, List.map_map] at hcut
  unfold turnOut
  generalize cutT ((r * (sz + 2) : Nat) : Int) (sentT ((r * (sz + 2) : Nat) : Int) (textT t (text0 t (rowsOf n r ((List.range c).map fun k => bod (d k) (nm k)))))) = Z at hcut
  refine ⟨?_, by have := congrArg List.length hcut; simpa using this⟩
  have hZ : Z.dropLast = (List.range c).map fun k => (⟨(dcell [32] ((r + k) % n == 0, tl (bod (d k) (nm k)))).toArray⟩ : Str) := by
    refine map_tl_inj ?_
    rw [List.map_dropLast, hcut, List.dropLast_concat, List.map_map]
    rfl
  rw [hZ, List.map_map, List.map_map]
  refine List.map_congr_left fun k hk => ?_
  refine an2 (hd k (List.mem_range.mp hk)) fun d1 d2 => ?_
  show finC _ = card (bod (d k + ((r + k) % n == 0).toNat) (nm k))
  refine finC_list (k := 5 - d k) (by cases ((r + k) % n == 0) <;> simp <;> lia) (by lia) (hn k) ?_
  show dcell [32] ((r + k) % n == 0, tl (bod (d k) (nm k))) = _
  unfold dcell
  rw [bod_tl]
  cases ((r + k) % n == 0)
  · simp
  · show [46] ++ (List.replicate (d k) 46 ++ (List.replicate (5 - d k) 45 ++ nm k)) ++ [32] = List.replicate (d k + 1) 46 ++ _ ++ [32]
    rw [List.replicate_succ]
    simp
end

section
open PySem PySem.W PySem.Calls PyProof.Rows
section
variable {prog : Program} {w : World} {A : Around} {E : Value → Shared → Prop} {s : Shared} {h₀ : Heap} {L : Addr} {m : Str → Option Value} {pg : PG} {st : ST} {rest : List (Addr × Obj)} {p : Program} {loose : List Str} {mg mb : Str → Option Value}
open LCg
theorem sum_ones {α : Type} : ∀ (l : List α), (l.map fun _ => 1).sum = l.length
  | [] => rfl
  | _ :: r => by rw [List.map_cons, List.sum_cons, sum_ones r, List.length_cons]; lia
theorem itemLast {value slice : PySem.Expr} {l : Addr} {vs : Array Value} {n : Nat} {u : Tok} {v : Value} {Q : Value → Shared → Prop} (hl : s.heap.IsList l vs) (hz : vs.size = n + 1) (hx : vs[n]? = some v) (h : Q v s)
    (hs : subscripted slice false (.ref l) (.int (-1) u) = operate [.ref l, .int (-1) u] (getItem (.ref l) (.int (-1) u)) := by with_unfolding_all rfl) :
    wpAny (model prog w) A (subscriptTail value slice (.ref l) (.int (-1) u)) Q E s := by
  have e : ((-1 : Int) + (vs.size : Int)).toNat = n := by rw [hz]; exact m1_nat (n + 1)
  exact tail_any hl.typeIs slot_list_getitem.lookup (wpAny_getItem_list_neg hl (by decide) (by lia) (by decide) (by rw [e]; exact hx) h) hs
theorem smallUp0 (c : Nat) (h : c ≤ 1000) : Builtin.Range.small 0 (c : Int) 1 = true := by
  have := smallUp 0 c (by lia) (by lia) (by omega)
  simpa using this
theorem rangeUp0 (c : Nat) : Builtin.Range.rangeSize 0 (c : Int) 1 = (c : Int) := by
  have := rangeUp 0 c
  simpa using this
noncomputable def rOf (f : Nat) (sp rs : Nat → Nat) (t : Nat) : Nat := (((f : Int) - (rs t : Int)).fmod (sp t : Int)).toNat
theorem sent_K {base : List (Addr × Obj)} {f c : Nat} {sg : Int} {tf tc ts : Tok} {wl ew : Nat} {wv : Array Value} {tb1 tb2 : Tb} {sp rs : Nat → Nat} {R : Result → Shared → Prop}
   (hP : PO prog) (X₀ : (hd.heap_39 w.params).In h₀) (T : TopRead p loose mg mb h₀) (B : BM h₀ mg) (F : Fr h₀ L s.heap m) (N : News h₀ L s.heap ((157, X.tableObj tb1.arr) :: (164, X.tableObj tb2.arr) :: base)) (hA : Room A 20) (hG : AllBare s.gens)
   (hoff : ∀ q ∈ base, q.1 ≠ 157 ∧ q.1 ≠ 164) (hf : f + c ≤ 2000000000) (hc : 1 ≤ c ∧ c ≤ 12) (hsg : sg = 1 ∨ sg = -1)
   (hw : (wl, listOf wv ew) ∈ base) (hwv : ∀ t, t < 4 → ∃ at' u1 u2, wv[t]? = some (.ref at') ∧ (at', tupO [.int (sp t) u1, .int (rs t) u2]) ∈ base)
   (hsr : ∀ t, t < 4 → 1 ≤ sp t ∧ sp t ≤ 6 ∧ rs t ≤ 2000000000) (bs : Nat → List Str) (hb0 : bs 0 = (List.range c).map fun k => bod 1 (nameOf (f + c) (f + k)))
   (hbs : ∀ t, t < 4 → (∀ b ∈ bs t, Body (5 + (worthsOf (f + c)).length) (worthsOf (f + c) = []) b) ∧ (bs t).length = c)
   (hcut : ∀ t, t < 4 → (cutT ((rOf f sp rs t * (5 + (worthsOf (f + c)).length + 2) : Nat) : Int) (sentT ((rOf f sp rs t * (5 + (worthsOf (f + c)).length + 2) : Nat) : Int) (textT t (text0 t (rowsOf (sp t) (rOf f sp rs t) (bs t)))))).length ≤ 900)
   (hturn : ∀ t, t < 4 → turnOut t (sp t) (rOf f sp rs t) (5 + (worthsOf (f + c)).length) (bs t) = (bs (t + 1)).map card)
   (h : ∀ h' g' tk D (l : List (Str × Tok)) e tb1' tb2', Fr h₀ L h' m → News h₀ L h' ((D, listOf (txts l).toArray e) :: (157, X.tableObj (Tb.arr tb1')) :: (164, X.tableObj (Tb.arr tb2')) :: base) → AllBare g' → l.map (·.1) = (bs 4).map card → R (.ok (.ret (.ref D))) { s with heap := h', gens := g', toks := tk }) :
   codeAny (model prog w) A (.call (.ref 238) ⟨[.int f tf, .int c tc, .int sg ts, .ref wl], []⟩) R s := by
  refine' enterC (binds := [("first", .int f tf), ("count", .int c tc), ("sign", .int sg ts), ("wishes", .ref wl)]) X₀ T B F N (hA.lt (by decide)) ?_
  clear X₀ T B F N
  intro g L' h' tk cells kg F' N' Y X' T' B' l1
  refine ex3 (CellsAre.three (show CellsAre _ [(("words" : Str), L' + 1 + 1 + 1), (("sign" : Str), L' + 1 + 1), (("first" : Str), L' + 1)] cells from Y)) fun o3 o2 o1 hx => an4 hx fun zr7 c3 c2 c1 => ?_
  subst zr7
  replace c1 : o1.data = .cell (some (.int f tf)) := c1
  replace c2 : o2.data = .cell (some (.int sg ts)) := c2
  replace c3 : o3.data = .cell none := c3
  clear Y
  have hob : ∃ m0 : Str → Option Value, Fr g L' h' m0 ∧ m0 ("count" : Str) = some (.int c tc) ∧ m0 ("wishes" : Str) = some (.ref wl) := ⟨_, F', rfl, rfl⟩
  refine Exists.elim hob fun m0 hx => an3 hx fun F0 q1 q2 => ?_
  clear hob
  clear F'
  iterate 3 walk1
  iterate 7 walk1
  all_goals (try walk_at "us")
  rename IsRange _ _ _ _ _ _ _ _ => R1
  rename News _ _ _ _ => N1
  rename Fr _ _ _ _ => F1
  refine LCg.CompSrc.range hA.handled F1 N1 R1 (smallUp0 c (by lia)) (n := c) (rangeUp0 c) (by rw [sizeLine_eq]; lia) fun gg => ?_
  refine rest_E (fun i y => ∃ t, y = .str (wordS (f + i)) t) (fun i ys v I oI C oC D m₂ h2 tk2 E' hi hPi hC hx F2 N2 off2 => ?_) trivial (fun ys hlen hys => ?_)
  · refine Exists.elim hPi fun tv zr6 => ?_
    (try clear hPi)
    subst zr6
    rw [show (0 : Int) + (i : Int) = (i : Int) from by lia] at hx
    clear F1 N1 R1
    iterate 6 walk1
    all_goals (try walk_at "us")
    refine compBytes (h₀ := g) (L := L') (m := m0) (by with_unfolding_all rfl) (fun _ _ => rfl) (fun _ => rfl) (by rfl) (by decide) (by rfl) (by exact hA.handled) ?_
    iterate 10 walk1
    all_goals (try walk_at "us")
    refine mul_int ?_ (smallMul (by rcases hsg with rfl | rfl <;> decide))
    walk1
    all_goals (try walk_at "us")
    rename News _ _ _ _ => N2
    rename Fr _ _ _ _ => F2
    refine ⟨Kat F2 X', ?_⟩
    try dsimp only [List.append_nil, List.nil_append, List.cons_append]
    have ena : (sg * ((f : Int) + (i : Int))).natAbs = f + i := sgn_abs hsg
    refine int2ap_C X' T' F2 N2 (Room.deep hA (by decide)) (by rw [ena]; lia) fun h3 t3 k3 F3 N3 => ?_
    rw [ena]
    have hwl := hexB_len 8 (f + i) (by lia)
    refine xi3 _ _ _ ⟨rfl, F3, N3, by rw [List.size_toArray]; lia, fun j y => ∃ z t, y = .str z t ∧ ∃ b, (hexB (f + i))[j]? = some b ∧ z = ⟨#[b.toNat]⟩, fun j b tb zs I2 oI2 C2 oC2 D2 m3 h4 tk4 E4 hb hC4 hx4 F4 N4 => ?_, fun zs hzl hzs D4 h5 tk5 F5 N5 => ?_⟩
    · rw [List.getElem?_toArray] at hb
      iterate 7 walk1
      all_goals (try walk_at "us")
      have hb8 := b.toNat_lt
      refine chr_of_range (by lia) (by lia) ?_
      exact xi2 _ _ ⟨rfl, F4, N4, _, _, rfl, b, hb, by rw [Int.toNat_natCast]⟩
    · refine Exists.elim (strs_of_each hzs) fun lz hx => an2 hx fun zr5 hlz => ?_
      subst zr5
      have elz : lz.map (·.1) = (hexB (f + i)).map fun b => (⟨#[b.toNat]⟩ : Str) := by
        rw [List.length_map, List.size_toArray] at hzl
        refine List.ext_getElem? fun j => ?_
        cases e1 : (lz.map (·.1))[j]? with
        | none =>
          rw [List.getElem?_eq_none_iff, List.length_map] at e1
          rw [List.getElem?_eq_none (by rw [List.length_map]; lia)]
        | some z =>
          refine Exists.elim (hlz j z e1) fun b hx => an2 hx fun h1 h2 => ?_
          rw [List.getElem?_map, h1, h2]; rfl
      have hzl2 : lz.length ≤ 8 := by rw [List.length_map, List.size_toArray] at hzl; lia
      walk1
      all_goals (try walk_at "us")
      try dsimp only [List.cons_append, List.nil_append]
      refine SC.join (l := lz) ⟨_, (N5 (D4, _) (.head _)).1, rfl, _, rfl⟩ elz (joinOk_of ?_) fun t11 k11 => ?_
      · have e0 : ("" : Str).length = 0 := rfl
        rw [e0, List.map_map]
        have : ((hexB (f + i)).map ((fun x : Str => x.length) ∘ fun b => (⟨#[b.toNat]⟩ : Str))).sum = (hexB (f + i)).length := by
          have e : ((fun x : Str => x.length) ∘ fun b : UInt8 => (⟨#[b.toNat]⟩ : Str)) = fun _ => 1 := rfl
          rw [e]; exact sum_ones _
        rw [this]; lia
      refine xi2 h5 _ ⟨rfl, F5, News.sub N5 (fun q hq => .tail _ hq), t11, ?_⟩
      have e9 : Txt.join ("" : Str) ((hexB (f + i)).map fun b => (⟨#[b.toNat]⟩ : Str)) = wordS (f + i) := by
        have := join_chars ((hexB (f + i)).map UInt8.toNat)
        rw [List.map_map] at this
        exact this
      rw [e9]
  · obtain ⟨lw, rfl, hlw⟩ := strs_of_each (P := fun j z => z = wordS (f + j)) (fun j y hj => by obtain ⟨t, e⟩ := hys j y hj; exact xi2 _ t ⟨e, rfl⟩)
    have hlc : lw.length = c := by rw [List.length_map] at hlen; exact hlen
    intro D4 h5 tk5 F5 N5 off5
    clear F1 N1 R1
    have q5 : D4 ≠ L' + 1 + 1 + 1 := News.neD N5 (.head _) (.tail _ (.head _)) (by rw [c3]; intro e; cases e)
    refine storeX_C F5 N5 rfl (UpdF.tail q5 (UpdF.head fun q hq => ?_)) c3 (fun h6 o6 F6 N6 c6 => ?_) (by rfl) (by rfl)
    · revert q hq
      refine all_cons ?_ fun q hq => ?_
      · exact Nat.ne_of_lt (Nat.lt_succ_self _)
      · revert q hq
        refine all_cons ?_ fun q hq => ?_
        · exact Nat.ne_of_lt (Nat.lt_succ_of_lt (Nat.lt_succ_self _))
        · exact Nat.ne_of_lt (Nat.lt_succ_of_lt (Nat.lt_succ_of_lt (Nat.lt_succ_of_lt (l1 q hq))))
    clear F5 N5
    try dsimp only [List.cons_append, List.nil_append] at N6 ⊢
    replace N6 : News g L' h6 ((D4, lst (txts lw)) :: (L' + 1 + 1 + 1, o6) :: (L' + 1 + 1, o2) :: (L' + 1, o1) :: (157, X.tableObj tb1.arr) :: (164, X.tableObj tb2.arr) :: base) := N6
    iterate 3 walk1
    all_goals (try walk_at "us")
    refine LCg.CompSrc.ledger (its := (txts lw).toArray) hA.handled F6 N6 (.head _) (by rw [sizeLine_eq, List.size_toArray]; lia) fun gg2 => ?_
    refine rest_E (fun i y => ∃ t, y = .str (cardW f c i) t) (fun i ys v I oI C oC D m₂ h2 tk2 E' hi hPi hC hx F2 N2 off2 => ?_) (.inr ⟨_, .head _, rfl, _, rfl⟩) (fun ys hlen2 hys2 => ?_)
    · rw [List.getElem?_toArray] at hPi
      refine Exists.elim (hys i v hPi) fun tv zr3 => ?_
      subst zr3
      have hic : i < c := by rw [List.size_toArray] at hi; lia
      clear F6 N6
      iterate 16 walk1
      all_goals (try walk_at "us")
      have hob : ∃ n, c = n + 1 := ⟨c - 1, by lia⟩
      refine Exists.elim hob fun n hn => ?_
      clear hob
      have hob : ∃ tz, (txts lw)[n]? = some (.str (wordS (f + n)) tz) := by
        have h1 : n < (txts lw).length := by rw [hlen]; lia
        refine Exists.elim (hys n _ (List.getElem?_eq_getElem h1)) fun t e => ?_
        exact ⟨t, by rw [← e]; exact List.getElem?_eq_getElem h1⟩
      refine Exists.elim hob fun tz hlz => ?_
      clear hob
      refine itemLast (vs := (txts lw).toArray) (n := n) ⟨_, (N2 (D4, _) (.tail _ (.tail _ (.tail _ (.head _))))).1, rfl, _, rfl⟩ (by rw [List.size_toArray, hlen]; exact hn) (by rw [List.getElem?_toArray]; exact hlz) ?_
      have wn := wordS_len (n := f + n) (by lia)
      have wi := wordS_len (n := f + i) (by lia)
      iterate 16 walk1
      all_goals (try walk_at "us")
      refine xi2 _ _ ⟨rfl, F2, N2, ?_⟩
      have en : c - 1 = n := by lia
      unfold cardW
      rw [en]
      exact ⟨_, rfl⟩
    · obtain ⟨lc, rfl, hlc2⟩ := strs_of_each (P := fun j z => z = cardW f c j) (fun j y hj => by obtain ⟨t, e⟩ := hys2 j y hj; exact xi2 _ t ⟨e, rfl⟩)
      have hcc : lc.length = c := by rw [List.length_map, List.size_toArray, hlen] at hlen2; exact hlen2
      intro D5 h7 tk7 F7 N7 off7
      clear F6 N6
      have hsz : (worthsOf (f + c)).length ≤ 8 := by rw [worths_len (Nat.le_trans hc.1 (Nat.le_add_left c f)) (Nat.le_trans hf (by decide))]; exact hexB_len 8 _ (Nat.lt_of_le_of_lt (Nat.sub_le _ 1) (Nat.lt_of_le_of_lt hf (by decide)))
      generalize hszd : (worthsOf (f + c)).length = W at hsz hbs hcut hturn
      have elc : lc.map (·.1) = (bs 0).map card := by
        rw [hb0, List.map_map]
        refine List.ext_getElem? fun j => ?_
        cases e1 : (lc.map (·.1))[j]? with
        | none =>
          rw [List.getElem?_eq_none_iff, List.length_map] at e1
          rw [List.getElem?_eq_none (by rw [List.length_map, List.length_range]; lia)]
        | some z =>
          have hj : j < c := by
            rcases Nat.lt_or_ge j c with q | q
            · exact q
            · rw [List.getElem?_eq_none (by rw [List.length_map]; lia)] at e1; cases e1
          rw [hlc2 j z e1, cardW_eq hj (by lia), List.getElem?_map, List.getElem?_range hj]; rfl
      have hc0 : ∃ t0, (txts lc)[0]? = some (.str (card (bod 1 (nameOf (f + c) (f + 0)))) t0) := by
        have h1 : 0 < (txts lc).length := by rw [List.length_map]; lia
        refine Exists.elim (hys2 0 _ (List.getElem?_eq_getElem h1)) fun t e => ?_
        rw [cardW_eq (by lia) (by lia)] at e
        exact ⟨t, by rw [← e]; exact List.getElem?_eq_getElem h1⟩
      refine Exists.elim hc0 fun t0 hc0 => ?_
      have hcl : (card (bod 1 (nameOf (f + c) (f + 0)))).length = 5 + W + 2 := by
        rw [card_len, bod_len (by decide), nameOf_len, hszd]
      iterate 9 walk1
      all_goals (try walk_at "us")
      refine itemAt (k := (0 : Int)) ⟨_, (N7 _ (.head _)).1, rfl, _, rfl⟩ (by decide) (by decide) (by rw [List.getElem?_toArray]; exact hc0) ?_
      generalize card (bod 1 (nameOf (f + c) (f + 0))) = cd0 at hcl
      iterate 3 walk1
      all_goals (try walk_at "us")
      rename Heap => h8
      rename News _ _ _ _ => N8
      rename Fr _ _ _ _ => F8
      have hob : ∃ (m8 : Str → Option Value) (tsz : Tok), Fr g L' h8 m8 ∧ m8 ("wishes" : Str) = some (.ref wl) ∧ m8 ("size" : Str) = some (.int ((5 + W + 2 : Nat) : Int) tsz) ∧ m8 ("cards" : Str) = some (.ref D5) :=
        ⟨_, _, F8, by walk_at "nm", by rw [← hcl]; walk_at "nm", by walk_at "nm"⟩
      refine ex2 hob fun m8 tsz hx => an4 hx fun F9 u1 u2 u3 => ?_
      clear hob
      walk1
      all_goals (try walk_at "us")
      refine wpAny_For ?_
      iterate 7 walk1
      all_goals (try walk_at "us")
      rename IsRange _ _ _ _ _ _ _ _ => R1
      rename News _ _ _ _ => N9
      rename Fr _ _ _ _ => F9
      refine wpAny_pyIter_range R1 (by decide) ?_
      dsimp only
      rename Heap => h9
      have R1' := R1
      have up9 : ∀ (o : Obj) b ob, h9.get? b = some ob → (h9.push o).get? b = some ob := fun o b ob e => Heap.get?_push_of_some _ e
      have nn := next_new F9 h9.objs.size (Nat.le_refl _)
      have hLt := F9.ns.lt
      have b157 : 157 < L' := l1 _ (.head _)
      have b164 : 164 < L' := l1 _ (.tail _ (.head _))
      have offB : ∀ q ∈ (D4, lst (txts lw)) :: (L' + 1 + 1 + 1, o6) :: (L' + 1 + 1, o2) :: (L' + 1, o1) :: base, q.1 ≠ 157 ∧ q.1 ≠ 164 := fun q hq => by
        revert q hq
        refine all_cons ?_ fun q hq => ?_
        · exact ⟨News.neC N9 (.tail _ (.head _)) (.tail _ (.tail _ (.tail _ (.tail _ (.tail _ (.head _)))))) (by intro e; cases e), News.neC N9 (.tail _ (.head _)) (.tail _ (.tail _ (.tail _ (.tail _ (.tail _ (.tail _ (.head _))))))) (by intro e; cases e)⟩
        · revert q hq
          refine all_cons ?_ fun q hq => ?_
          · exact ⟨Nat.ne_of_gt (Nat.lt_succ_of_lt (Nat.lt_succ_of_lt (Nat.lt_succ_of_lt b157))), Nat.ne_of_gt (Nat.lt_succ_of_lt (Nat.lt_succ_of_lt (Nat.lt_succ_of_lt b164)))⟩
          · revert q hq
            refine all_cons ?_ fun q hq => ?_
            · exact ⟨Nat.ne_of_gt (Nat.lt_succ_of_lt (Nat.lt_succ_of_lt b157)), Nat.ne_of_gt (Nat.lt_succ_of_lt (Nat.lt_succ_of_lt b164))⟩
            · revert q hq
              refine all_cons ?_ fun q hq => ?_
              · exact ⟨Nat.ne_of_gt (Nat.lt_succ_of_lt b157), Nat.ne_of_gt (Nat.lt_succ_of_lt b164)⟩
              · exact hoff q hq
      generalize hbase2 : (D4, lst (txts lw)) :: (L' + 1 + 1 + 1, o6) :: (L' + 1 + 1, o2) :: (L' + 1, o1) :: base = base2 at offB
      have mem1 : (L' + 1, o1) ∈ base2 := by rw [← hbase2]; exact .tail _ (.tail _ (.tail _ (.head _)))
      have memB : ∀ q ∈ base, q ∈ base2 := fun q hq => by rw [← hbase2]; exact .tail _ (.tail _ (.tail _ (.tail _ hq)))
      have N10 : News g L' h9 ((157, X.tableObj tb1.arr) :: (164, X.tableObj tb2.arr) :: (D5, listOf (txts lc).toArray (txts lc).length) :: base2) := News.sub N9 fun q hq => by
        rw [← hbase2] at hq
        revert q hq
        exact all_cons (mem_at 5 rfl) (all_cons (mem_at 6 rfl) (all_cons (mem_at 0 rfl) (all_cons (mem_at 1 rfl) (all_cons (mem_at 2 rfl) (all_cons (mem_at 3 rfl) (all_cons (mem_at 4 rfl) (fun q hq => .tail _ (.tail _ (.tail _ (.tail _ (.tail _ (.tail _ (.tail _ hq)))))))))))))
      clear N9
      refine forJ (h₀ := g) (L := L') (s := s) (n := 4) (fun i gg mm nw => AllBare gg ∧ (mm ("wishes" : Str) = some (.ref wl) ∧ mm ("size" : Str) = some (.int ((5 + W + 2 : Nat) : Int) tsz)) ∧ ∃ (D : Addr) (l : List (Str × Tok)) (e : Nat) (tb1 tb2 : Tb), nw = (157, X.tableObj tb1.arr) :: (164, X.tableObj tb2.arr) :: (D, listOf (txts l).toArray e) :: base2 ∧ mm ("cards" : Str) = some (.ref D) ∧ l.map (·.1) = (bs i).map card)
        (range_walks (by exact hA.handled) 0 4) (fun i h st => ⟨_, st⟩) range_st (S := fun _ => True) ?_ nn.2 ?_ ?_ _ 0 _ _ _ m8 _ rfl (Nat.zero_le _) ?_ (F9.keeps (up9 _)) (News.grown N10 (up9 _)) (fun q hq => ?_) trivial ⟨hG, ⟨u1, u2⟩, D5, lc, _, tb1, tb2, rfl, u3, elc⟩
      · exact Nat.ne_of_lt hLt
      · intro i v gg h14 tk14 mm nw oI E7 hi hPi hJ _ F14 N14 off14 st14
        obtain ⟨hGG, ⟨v1, v2⟩, D, l, e, tb1', tb2', rfl, v3, hl⟩ := hJ
        refine Exists.elim hPi fun tv zr1 => ?_
        (try clear hPi)
        subst zr1
        have hIc : oI.cls = .type "range_iterator" := by
          have z3 := (N14 _ (.head _)).1
          have st14' : h14.get? h9.objs.size = some _ := st14
          rw [st14'] at z3
          have z4 := Option.some.inj z3
          dsimp only at z4
          rw [← z4]
        rw [show (0 : Int) + (i : Int) = (i : Int) from by lia]
        refine wpAny_of_eq rfl ?_
        refine wpAny_assign_Name (storeX_L F14 N14 (fun h15 F15 N15 => ?_) rfl rfl)
        dsimp only
        refine ex3 (hwv i hi) fun at' w1 w2 hx => an2 hx fun hw1 hw2 => ?_
        refine an3 (hsr i hi) fun y1 y2 y3 => ?_
        have y4 : 0 ≤ ((f : Int) - (rs i : Int)).fmod (sp i : Int) := Int.fmod_nonneg_of_pos _ (Int.natCast_pos.mpr y1)
        have y5 : ((f : Int) - (rs i : Int)).fmod (sp i : Int) < (sp i : Int) := Int.fmod_lt_of_pos _ (Int.natCast_pos.mpr y1)
        have y6 : ((f : Int) - (rs i : Int)).fmod (sp i : Int) = ((rOf f sp rs i : Nat) : Int) := by unfold rOf; exact (Int.toNat_of_nonneg y4).symm
        have off14' : ∀ q ∈ (h9.objs.size, oI) :: base2, q.1 ≠ 157 ∧ q.1 ≠ 164 := fun q hq => by
          revert q hq
          refine all_cons ?_ fun q hq => ?_
          · exact ⟨Ne.symm (off14 (157, _) (.head _)), Ne.symm (off14 (164, _) (.tail _ (.head _)))⟩
          · exact offB q hq
        refine turnBody (base := (h9.objs.size, oI) :: base2) (D := D) (l := l) (e := e) (tb1 := tb1') (tb2 := tb2') (sp := sp i) (r := rOf f sp rs i) (sz := 5 + W) (t := i) (rst := (rs i : Int)) (bs := bs i) (solo := worthsOf (f + c) = []) (by k_is) rfl rfl hP X' T' B' F15 (News.sub N15 fun q hq => ?_) off14' (Room.deep hA (by decide)) hGG (.tail _ mem1) c1 (.tail _ (memB _ hw)) hw1 (.tail _ (memB _ hw2)) (if_pos rfl) ((if_neg (by decide)).trans v1) ((if_neg (by decide)).trans v2) ((if_neg (by decide)).trans v3) hi (by lia) ⟨by lia, by lia⟩ ⟨y1, y2⟩ (by omega) y6 (by lia) hl (hbs i hi).1 (by rw [(hbs i hi).2]; exact hc) (fun h2 e0 => ?_) (hcut i hi) fun h16 g16 tk16 D16 l16 e16 m16 t1 t2 F16 N16 G16 el16 z1 z2 z3 => ?_
        · revert q hq
          exact all_cons (mem_at 1 rfl) (all_cons (mem_at 2 rfl) (all_cons (mem_at 3 rfl) (all_cons (mem_at 0 rfl) (fun q hq => .tail _ (.tail _ (.tail _ (.tail _ hq)))))))
        · rw [(hbs i hi).2] at h2
          have := hszd
          rw [e0] at this
          have h3 := worths_len (n := f + c) (by lia) (by lia)
          rw [e0] at h3
          have h4 := pow_len (f + c - 1)
          rw [← h3] at h4
          have h5 : 16 ^ ([] : List Nat).length = 1 := rfl
          lia
        · refine ⟨.inl rfl, h16, tk16, g16, _, (157, X.tableObj t1.arr) :: (164, X.tableObj t2.arr) :: (D16, listOf (txts l16).toArray e16) :: base2, rfl, F16, News.sub N16 fun q hq => ?_, fun z hz => ?_, trivial, G16, ⟨z2, z3⟩, D16, l16, e16, t1, t2, rfl, z1, by rw [el16, hturn i hi]⟩
          · revert q hq
            exact all_cons (mem_at 3 rfl) (all_cons (mem_at 0 rfl) (all_cons (mem_at 1 rfl) (all_cons (mem_at 2 rfl) (fun q hq => .tail _ (.tail _ (.tail _ (.tail _ hq)))))))
          · revert z hz
            refine all_cons ?_ fun z hz => ?_
            · exact (show 157 ≠ _ from off14 (157, _) (.head _))
            · revert z hz
              refine all_cons ?_ fun z hz => ?_
              · exact (show 164 ≠ _ from off14 (164, _) (.tail _ (.head _)))
              · revert z hz
                refine all_cons ?_ fun z hz => ?_
                · refine News.neC N16 (.tail _ (.tail _ (.head _))) (.tail _ (.tail _ (.tail _ (.head _)))) ?_
                  rw [hIc]
                  intro z
                  have z2 : Value.type "list" = Value.type "range_iterator" := z
                  injection z2 with z3
                  exact absurd z3 (by decide)
                · exact off14 z (.tail _ (.tail _ (.tail _ hz)))
      · intro h14 tk14 gg mm nw F14 N14 _ hJ
        obtain ⟨hGG, ⟨v1, v2⟩, D, l, e, tb1', tb2', rfl, v3, hl⟩ := hJ
        try dsimp only
        iterate 3 walk1
        all_goals (try walk_at "us")
        exact leaveK_ F14 (News.sub N14 fun q hq => by
          revert q hq
          exact all_cons (mem_at 2 rfl) (all_cons (mem_at 0 rfl) (all_cons (mem_at 1 rfl) (fun q hq => .tail _ (.tail _ (.tail _ (memB q hq))))))) fun F9 N9 => h _ _ _ _ _ _ _ _ F9 N9 hGG hl
      · exact Heap.get?_push_size _ rfl
      · exact Nat.ne_of_lt (Heap.lt_size (N10 q hq).1)

end
end

section
open PySem PySem.W PySem.Calls PyProof.Rows
section
variable {prog : Program} {w : World} {A : Around} {E : Value → Shared → Prop} {s : Shared} {h₀ : Heap} {L : Addr} {m : Str → Option Value} {pg : PG} {st : ST} {rest : List (Addr × Obj)} {p : Program} {loose : List Str} {mg mb : Str → Option Value}
open LCg
noncomputable def menu (x : Int) : Int := ([1, 2, 3, 4, 6] : List Int).getD (x.fmod 5).toNat 0
noncomputable def Wish (x : Int) (q : Addr × Obj) : Prop := ∃ t1 t2, q.2 = tupO [.int (menu x) t1, .int (x.fdiv 5) t2]
noncomputable def JW (xs : List Int) (NB : List (Addr × Obj)) (i : Nat) (ys : List Value) (nw : List (Addr × Obj)) : Prop :=
  ∃ tl : List (Addr × Obj), nw = tl ++ NB ∧ ys = tl.reverse.map (fun q => Value.ref q.1) ∧ tl.length = i ∧ ∀ (j : Nat) (q : Addr × Obj), tl.reverse[j]? = some q → ∃ x, xs[j]? = some x ∧ Wish x q
theorem JW.nil {xs : List Int} {NB : List (Addr × Obj)} : JW xs NB 0 [] NB := ⟨[], rfl, rfl, rfl, fun j q hj => by simp at hj⟩
theorem JW.snoc {xs : List Int} {NB nw : List (Addr × Obj)} {i : Nat} {ys : List Value} {x : Int} {a : Addr} {o : Obj} (h : JW xs NB i ys nw) (hx : xs[i]? = some x) (hw : Wish x (a, o)) : JW xs NB (i + 1) (ys ++ [.ref a]) ((a, o) :: nw) := by
  refine Exists.elim h fun tl hx_q => an4 hx_q fun zr4 zr5 hl hh => ?_
  (try clear h)
  subst zr4
  subst zr5
  refine ⟨(a, o) :: tl, rfl, by rw [List.reverse_cons, List.map_append]; rfl, by rw [List.length_cons, hl], fun j q hj => ?_⟩
  rw [List.reverse_cons] at hj
  refine (snoc_at hj).elim (fun hj => hh j q hj) fun hq => ?_
  rw [hq.1, hq.2, List.length_reverse, hl]
  exact ⟨x, hx, hw⟩
theorem law1 {name qual : Str} {params : Arguments} {body rs : List Stmt} {s1 s2 s3 : Stmt} {scope : Scope} {dV kV doc pm cdv ct oc : Value} {an od : Option Addr} {osl : Array (Option Value)} {L' a : Addr}
   {g : Heap} {m' : Str → Option Value} {base : List (Addr × Obj)} {E' : Value → Shared → Prop} {Q : Flow → Shared → Prop} {vs : List Value} {ns : List Int} {o1 : Obj}
   (ho : (hd.heap_39 w.params).lookup 243 = some ⟨oc, od, .func (fnX name qual params body scope [] dV kV doc pm an cdv ct), osl⟩)
   (hb : body = s1 :: s2 :: s3 :: rs)
   (hP : PO prog) (X' : (hd.heap_39 w.params).In g) (T' : TopRead p loose mg mb g) (B' : BM g mg) (F : Fr g L' s.heap m') (N : News g L' s.heap ((L' + 1, o1) :: base)) (hA : Room A 20)
   (hm1 : m' ("script" : Str) = some (.ref a)) (hl : g.IsList a vs.toArray) (hi : IntsAre vs ns) (hn : ns.length ≤ 63) (hc1 : o1.data = .cell none) (hoff : ∀ q ∈ base, q.1 ≠ L' + 1)
   (h : ∀ h' tk m'' D D5 D6 (x0 x1 x2 x3 x4 x5 : Int) (u0 u1 u2 u3 u4 u5 t6 : Tok) e e6 (q0 q1 q2 q3 : Addr × Obj) o1', (1 ≤ x0 ∧ x0 ≤ 1000000000) → (7 ≤ x1 ∧ x1 ≤ 1000000000) → (8 ≤ x2 ∧ x2 ≤ 1000000000) → (13 ≤ x3 ∧ x3 ≤ 1000000000) → (4 ≤ x4 ∧ x4 ≤ 1000000000) → (701 ≤ x5 ∧ x5 ≤ 1000000000) →
     Wish x0 q0 → Wish x1 q1 → Wish x2 q2 → Wish x3 q3 → Fr g L' h' m'' →
     News g L' h' ((L' + 1, o1') :: (D6, listOf #[.int 0 t6] e6) :: (D5, lst [.ref q0.1, .ref q1.1, .ref q2.1, .ref q3.1]) :: q0 :: q1 :: q2 :: q3 :: (D, listOf #[.int x0 u0, .int x1 u1, .int x2 u2, .int x3 u3, .int x4 u4, .int x5 u5] e) :: base) →
     o1'.data = .cell (some (.ref D5)) → m'' ("six" : Str) = some (.ref D) → m'' ("sums" : Str) = some (.ref D6) →
     wpAny (model prog w) A (execs rs (envX qual scope L' 243 cdv (cellsFrom (L' + 1) scope.names []))) Q E' { s with heap := h', toks := tk }) :
   wpAny (model prog w) A (execs body (envX qual scope L' 243 cdv (cellsFrom (L' + 1) scope.names []))) Q E' s := by
  have e := fnE (look_inj ho (by with_unfolding_all exact rfl))
  have E0 := envE (L := L') (a := 243) e.2.1 e.2.2.1 e.2.2.2 (e.1)
  have E1 := envE (L := L') (a := 243) e.2.1 e.2.2.1 e.2.2.2 (congrArg (List.drop 3) (hb.symm.trans e.1))
  dsimp only [List.drop] at E1
  rw [E1] at h
  clear E1
  rw [E0]
  clear E0 e ho hb oc dV kV doc pm cdv ct
  iterate 25 walk1
  all_goals (try walk_at "us")
  rename News _ _ _ _ => N1
  rename Fr _ _ _ _ => F1
  refine sums_C X' T' B' F1 N1 (hA.less (by decide)) hl hi hn fun h2 D x0 x1 x2 x3 x4 x5 u0 u1 u2 u3 u4 u5 e tk2 F2 N2 b0 b1 b2 b3 b4 b5 => ?_
  clear F1 N1
  iterate 3 walk1
  all_goals (try walk_at "us")
  rename Fr _ _ _ _ => F3
  refine LCg.ListComp_U (F₀ := F3) (by with_unfolding_all rfl) (by decide) (by rfl) (by decide) (by rfl) ?_
  iterate 7 walk1
  all_goals (try walk_at "us")
  rename News _ _ _ _ => N3
  refine slice_list F3 N3 ⟨_, (N3 _ (.head _)).1, rfl, _, rfl⟩ .none (.int _ _) (fun h4 F4 N4 => ?_) (by with_unfolding_all rfl) (fun _ => by with_unfolding_all rfl) (by rw [sizeLine_eq]; exact Nat.le_of_ble_eq_true rfl)
  clear F3 N3
  dsimp only at N4 ⊢
  have ep : slicePick #[Value.int x0 u0, Value.int x1 u1, Value.int x2 u2, Value.int x3 u3, Value.int x4 u4, Value.int x5 u5] none (some 4) none = #[Value.int x0 u0, Value.int x1 u1, Value.int x2 u2, Value.int x3 u3] := rfl
  rw [ep] at N4
  refine LCg.CompSrc.ledger (its := #[Value.int x0 u0, Value.int x1 u1, Value.int x2 u2, Value.int x3 u3]) hA.handled F4 N4 (List.Mem.head _) (by rw [sizeLine_eq]; exact Nat.le_of_ble_eq_true rfl) fun gg3 => ?_
  have nb : ∀ (j : Nat) (x : Int), ([x0, x1, x2, x3] : List Int)[j]? = some x → 1 ≤ x ∧ x ≤ 1000000000 := fun j x hj => by
    have hm := List.mem_of_getElem? hj
    exact (all_cons b0 (all_cons ⟨Int.le_trans (by decide) b1.1, b1.2⟩ (all_cons ⟨Int.le_trans (by decide) b2.1, b2.2⟩ (all_cons ⟨Int.le_trans (by decide) b3.1, b3.2⟩ all_nil))) : ∀ x ∈ [x0, x1, x2, x3], (1 : Int) ≤ x ∧ x ≤ 1000000000) x hm
  generalize hNB : _ :: _ :: (L' + 1, o1) :: base = NB at N4 ⊢
  refine rest_J (JW [x0, x1, x2, x3] NB)
    (fun i ys nw v I oI C oC D2 m₂ h5 tk5 E5 hi5 hPi hJ hC hx F5 N5 off5 hS => ?_) (fun ys nw hJ hS => ?_) _ 0 [] _ rfl (Nat.zero_le _) JW.nil (.inr ⟨_, by rw [← hNB]; exact .head _, rfl, _, rfl⟩)
  · clear F4 N4
    have hob : ∃ x tx, ([x0, x1, x2, x3] : List Int)[i]? = some x ∧ v = .int x tx := by
      have hi4 : i < 4 := hi5
      rcases (by lia : i = 0 ∨ i = 1 ∨ i = 2 ∨ i = 3) with rfl | rfl | rfl | rfl
      · cases hPi; exact xi2 _ _ ⟨rfl, rfl⟩
      · cases hPi; exact xi2 _ _ ⟨rfl, rfl⟩
      · cases hPi; exact xi2 _ _ ⟨rfl, rfl⟩
      · cases hPi; exact xi2 _ _ ⟨rfl, rfl⟩
    refine ex2 hob fun x tx hx_q => an2 hx_q fun hxi zr3 => ?_
    clear hob
    subst zr3
    have hxb := nb i x hxi
    have f5 : 0 ≤ x.fmod 5 ∧ x.fmod 5 < 5 := ⟨Int.fmod_nonneg_of_pos _ (by decide), Int.fmod_lt_of_pos _ (by decide)⟩
    iterate 20 walk1
    all_goals (try walk_at "us")
    rename News _ _ _ _ => N6
    refine ksa_sub (vs := [.int 1 tk5, .int 2 (tk5 + 1), .int 3 (tk5 + 1 + 1), .int 4 (tk5 + 1 + 1 + 1), .int 6 (tk5 + 1 + 1 + 1 + 1)]) (ns := [1, 2, 3, 4, 6]) N6 (.head _) (.cons _ _ (.cons _ _ (.cons _ _ (.cons _ _ (.cons _ _ .nil))))) f5.1 f5.2 (by omega) (fun tb => ?_)
    iterate 4 walk1
    all_goals (try walk_at "us")
    refine floordiv_int (by decide) ?_ (Or.inl (PyProof.noPylong_small (by lia)))
    iterate 2 walk1
    all_goals (try walk_at "us")
    rename_i D7 h7 F7 N7 l7
    refine an5 l7 fun _ lI lC lD _ => ?_
    (try clear l7)
    have hob : ∃ o7, Wish x (D7, o7) ∧ News g L' h7 ((D7, o7) :: _) := ⟨_, ⟨_, _, rfl⟩, N7⟩
    refine Exists.elim hob fun o7 hx_q => an2 hx_q fun ho7 N7 => ?_
    clear hob
    refine xi3 h7 _ ((D7, o7) :: nw) ⟨rfl, F7, News.sub N7 fun q hq => ?_, Off3.of fun q hq => ?_, hS.imp id fun ⟨o, hm, r⟩ => ⟨o, .tail _ hm, r⟩, JW.snoc hJ hxi ho7⟩
    · revert q hq
      exact all_cons (mem_at 2 rfl) (all_cons (mem_at 3 rfl) (all_cons (mem_at 4 rfl) (all_cons (mem_at 0 rfl) (fun q hq => .tail _ (.tail _ (.tail _ (.tail _ (.tail _ hq))))))))
    · revert q hq
      refine all_cons ?_ fun q hq => ?_
      · exact ⟨Nat.ne_of_gt lI, Nat.ne_of_gt lC, Nat.ne_of_gt lD⟩
      · exact off5.mem q hq
  · refine Exists.elim hJ fun tl hx_q => an4 hx_q fun zr1 zr2 htl hw => ?_
    (try clear hJ)
    subst zr1
    subst zr2
    intro D5 h6 tk6 F6 N6 off6
    clear F4 N4
    refine ex4 (four_of (show tl.reverse.length = 4 from (List.length_reverse ..).trans htl)) fun q0 q1 q2 q3 htr => ?_
    rw [htr] at hw N6
    have ht2 : tl = [q3, q2, q1, q0] := by have := congrArg List.reverse htr; simpa using this
    refine Exists.elim (hw 0 q0 rfl) fun y0 hx_q => an2 hx_q fun g0 w0 => ?_
    refine Exists.elim (hw 1 q1 rfl) fun y1 hx_q => an2 hx_q fun g1 w1 => ?_
    refine Exists.elim (hw 2 q2 rfl) fun y2 hx_q => an2 hx_q fun g2 w2 => ?_
    refine Exists.elim (hw 3 q3 rfl) fun y3 hx_q => an2 hx_q fun g3 w3 => ?_
    cases g0
    cases g1
    cases g2
    cases g3
    have N7 : News g L' h6 ((L' + 1, o1) :: (D5, lst [.ref q0.1, .ref q1.1, .ref q2.1, .ref q3.1]) :: q0 :: q1 :: q2 :: q3 :: (D, listOf #[.int x0 u0, .int x1 u1, .int x2 u2, .int x3 u3, .int x4 u4, .int x5 u5] e) :: base) := News.sub N6 fun q hq => by
      rw [ht2, ← hNB]
      revert q hq
      exact all_cons (mem_at 7 rfl) (all_cons (mem_at 0 rfl) (all_cons (mem_at 4 rfl) (all_cons (mem_at 3 rfl) (all_cons (mem_at 2 rfl) (all_cons (mem_at 1 rfl) (all_cons (mem_at 6 rfl) fun q hq => .tail _ (List.mem_append_right _ (.tail _ (.tail _ (.tail _ hq))))))))))
    have tupNe : ∀ (x : Int) (q : Addr × Obj), Wish x q → q ∈ _ → q.1 ≠ L' + 1 := fun x q hq hm => by
      refine ex2 hq fun t1 t2 hq => ?_
      exact News.neD N7 (a := q.1) (o := q.2) hm (.head _) (by rw [hq, hc1]; intro e; cases e)
    refine storeX_C F6 N7 rfl (UpdF.head fun q hq => ?_) hc1 (fun h8 o8 F8 N8 c8 => ?_) (by rfl) (by rfl)
    · exact (all_cons (News.neD N7 (.tail _ (.head _)) (.head _) (by rw [hc1]; intro e; cases e)) (all_cons (tupNe _ _ w0 (mem_at 2 rfl)) (all_cons (tupNe _ _ w1 (mem_at 3 rfl)) (all_cons (tupNe _ _ w2 (mem_at 4 rfl)) (all_cons (tupNe _ _ w3 (mem_at 5 rfl)) (all_cons (News.neD N7 (mem_at 6 rfl) (.head _) (by rw [hc1]; intro e; cases e)) hoff))))) : ∀ q ∈ _, q.1 ≠ L' + 1) q hq
    clear F6 N6 N7
    iterate 8 walk1
    all_goals (try walk_at "us")
    rename News _ _ _ _ => N9
    rename Fr _ _ _ _ => F9
    rename Addr => l9
    (try walk_at "us")
    refine h _ _ _ D D5 l9 x0 x1 x2 x3 x4 x5 u0 u1 u2 u3 u4 u5 tk e 0 q0 q1 q2 q3 o8 b0 b1 b2 b3 b4 b5 w0 w1 w2 w3 F9 (News.sub N9 fun q hq => ?_) c8 (by walk_at "nm") (by walk_at "nm")
    revert q hq
    exact all_cons (mem_at 1 rfl) (all_cons (mem_at 0 rfl) (fun q hq => .tail _ (.tail _ hq)))

end
end

section
open PySem PySem.W PySem.Calls PyProof.Rows
section
variable {prog : Program} {w : World} {A : Around} {E : Value → Shared → Prop} {s : Shared} {h₀ : Heap} {L : Addr} {m : Str → Option Value} {pg : PG} {st : ST} {rest : List (Addr × Obj)} {p : Program} {loose : List Str} {mg mb : Str → Option Value}
open LCg
noncomputable def cnt (n r : Nat → Nat) (x : Nat) : Nat → Nat
  | 0 => 0
  | t + 1 => cnt n r x t + (met (n t) (r t) x).toNat
theorem cnt_marks (n r : Nat → Nat) (x : Nat) : cnt n r x 4 = marks n r x := by simp [cnt, marks]
theorem cnt_le (n r : Nat → Nat) (x : Nat) : ∀ t, cnt n r x t ≤ t
  | 0 => Nat.le_refl _
  | t + 1 => by
    have := cnt_le n r x t
    have h : ∀ b : Bool, b.toNat ≤ 1 := by decide
    have := h (met (n t) (r t) x)
    unfold cnt; lia
noncomputable def bodsAt (n r : Nat → Nat) (f c t : Nat) : List Str := (List.range c).map fun k => bod (1 + cnt n r (f + k) t) (nameOf (f + c) (f + k))
theorem rOf_met {n r : Nat → Nat} (f k t : Nat) (hn : 1 ≤ n t) : ((rOf f n r t + k) % n t == 0) = met (n t) (r t) ((f + k : Nat) : Int) := by
  unfold rOf met
  have h0 : 0 ≤ ((f : Int) - (r t : Int)).fmod (n t : Int) := Int.fmod_nonneg_of_pos _ (by lia)
  rw [Int.fmod_eq_emod_of_nonneg _ (by lia)] at h0 ⊢
  rw [Int.fmod_eq_emod_of_nonneg _ (by lia)]
  have e1 : (((f + k : Nat) : Int) - (r t : Int)) % (n t : Int) = ((((((f : Int) - (r t : Int)) % (n t : Int)).toNat + k) % n t : Nat) : Int) := by
    rw [Int.natCast_emod, Int.natCast_add (((((f : Int) - (r t : Int)) % (n t : Int)).toNat)) k, Int.toNat_of_nonneg h0]
    rw [Int.emod_add_emod]
    congr 1
    lia
  rw [e1]
  generalize (((f : Int) - (r t : Int)) % (n t : Int)).toNat = a
  by_cases h : (a + k) % n t = 0
  · rw [h]; rfl
  · rw [beq_eq_false_iff_ne.mpr h, beq_eq_false_iff_ne.mpr (by lia)]
theorem sent_L {base : List (Addr × Obj)} {f c : Nat} {sg : Int} {tf tc ts : Tok} {wl ew : Nat} {wv : Array Value} {tb1 tb2 : Tb} {sp rs : Nat → Nat} {R : Result → Shared → Prop}
   (hP : PO prog) (X₀ : (hd.heap_39 w.params).In h₀) (T : TopRead p loose mg mb h₀) (B : BM h₀ mg) (F : Fr h₀ L s.heap m) (N : News h₀ L s.heap ((157, X.tableObj tb1.arr) :: (164, X.tableObj tb2.arr) :: base)) (hA : Room A 20) (hG : AllBare s.gens)
   (hoff : ∀ q ∈ base, q.1 ≠ 157 ∧ q.1 ≠ 164) (hf : f + c ≤ 2000000000) (hc : 1 ≤ c ∧ c ≤ 12) (hsg : sg = 1 ∨ sg = -1)
   (hw : (wl, listOf wv ew) ∈ base) (hwv : ∀ t, t < 4 → ∃ at' u1 u2, wv[t]? = some (.ref at') ∧ (at', tupO [.int (sp t) u1, .int (rs t) u2]) ∈ base)
   (hsr : ∀ t, t < 4 → 1 ≤ sp t ∧ sp t ≤ 6 ∧ rs t ≤ 2000000000)
   (h : ∀ h' g' tk D (l : List (Str × Tok)) e tb1' tb2', Fr h₀ L h' m → News h₀ L h' ((D, listOf (txts l).toArray e) :: (157, X.tableObj (Tb.arr tb1')) :: (164, X.tableObj (Tb.arr tb2')) :: base) → AllBare g' → l.map (·.1) = (List.range c).map (fun k => card (bod (1 + marks sp rs (f + k)) (nameOf (f + c) (f + k)))) → R (.ok (.ret (.ref D))) { s with heap := h', gens := g', toks := tk }) :
   codeAny (model prog w) A (.call (.ref 238) ⟨[.int f tf, .int c tc, .int sg ts, .ref wl], []⟩) R s := by
  have hr : ∀ t, t < 4 → rOf f sp rs t < sp t := fun t ht => by
    refine an3 (hsr t ht) fun y1 _ _ => ?_
    have a1 : 0 ≤ ((f : Int) - (rs t : Int)).fmod (sp t : Int) := Int.fmod_nonneg_of_pos _ (by lia)
    have a2 : ((f : Int) - (rs t : Int)).fmod (sp t : Int) < (sp t : Int) := Int.fmod_lt_of_pos _ (by lia)
    unfold rOf; omega
  have law := fun t (ht : t < 4) => turnOut_law (t := t) (n := sp t) (r := rOf f sp rs t) (sz := 5 + (worthsOf (f + c)).length) (c := c) (fun k => 1 + cnt sp rs (f + k) t) (fun k => nameOf (f + c) (f + k)) ht (hr t ht) hc.1
    (fun k _ => by have := cnt_le sp rs (f + k) t; lia) (fun k => nameOf_ch)
  refine sent_K hP X₀ T B F N hA hG hoff hf hc hsg hw hwv hsr (bodsAt sp rs f c) rfl (fun t ht => ⟨fun b hb => ?_, ?_⟩) (fun t ht => ?_) (fun t ht => ?_) fun h' g' tk D l e tb1' tb2' F' N' hG' hl => h h' g' tk D l e tb1' tb2' F' N' hG' ?_
  · refine Exists.elim (List.mem_map.mp hb) fun k hx => an2 hx fun hk zr1 => ?_
    subst zr1
    have := cnt_le sp rs (f + k) t
    refine bod_body (by lia) (by lia) (by rw [nameOf_len]) nameOf_ch fun e => ?_
    have := congrArg List.length e
    rw [nameOf_len] at this
    exact List.length_eq_zero_iff.mp this
  · unfold bodsAt; rw [List.length_map, List.length_range]
  · have := (law t ht).2
    unfold bodsAt
    rw [this]; lia
  · unfold bodsAt
    rw [(law t ht).1]
    congr 1
    refine List.map_congr_left fun k _ => ?_
    rw [rOf_met f k t (hsr t ht).1]
    show _ = bod (1 + (cnt sp rs (f + k) t + (met (sp t) (rs t) ((f + k : Nat) : Int)).toNat)) _
    rw [Nat.add_assoc]
  · rw [hl]
    unfold bodsAt
    rw [List.map_map]
    refine List.map_congr_left fun k _ => ?_
    show card (bod (1 + cnt sp rs (f + k) 4) _) = _
    rw [cnt_marks]

end
end

section
open PySem PySem.W PySem.Calls PyProof.Rows
section
variable {prog : Program} {w : World} {A : Around} {E : Value → Shared → Prop} {s : Shared} {h₀ : Heap} {L : Addr} {m : Str → Option Value} {pg : PG} {st : ST} {rest : List (Addr × Obj)} {p : Program} {loose : List Str} {mg mb : Str → Option Value}
open LCg
noncomputable def Chn (sp : Nat → Nat) : Nat → List Nat → Prop
  | 0, T => T = [0]
  | i + 1, T => ∃ S, Chn sp i S ∧ Grow S T (sp i)
theorem ints_at2 {vs : List Value} {ns : List Int} (hl : vs.length = ns.length) (h : ∀ (j : Nat) (v : Value), vs[j]? = some v → ∃ z t, v = .int z t ∧ ns[j]? = some z) : IntsAre vs ns := by
  induction vs generalizing ns with
  | nil => cases ns with
    | nil => exact .nil
    | cons e r => cases hl
  | cons v r ih => cases ns with
    | nil => cases hl
    | cons n ns =>
      refine ex2 (h 0 v (by simp)) fun z t hx => an2 hx fun zr6 h2 => ?_
      subst zr6
      simp at h2; subst h2
      exact .cons n t (ih (by simpa using hl) fun j v hj => by simpa using h (j + 1) v (by simpa using hj))
theorem law2 {name qual : Str} {params : Arguments} {body rs : List Stmt} {s1 s2 s3 s4 : Stmt} {scope : Scope} {dV kV doc pm cdv ct oc : Value} {an od : Option Addr} {osl : Array (Option Value)} {L' D5 D6 : Addr}
   {g : Heap} {m' : Str → Option Value} {base : List (Addr × Obj)} {E' : Value → Shared → Prop} {Q : Flow → Shared → Prop} {o1 o2 : Obj} {t6 : Tok} {e5 e6 : Nat} {wv : Array Value} {sp rst : Nat → Nat}
   (ho : (hd.heap_39 w.params).lookup 243 = some ⟨oc, od, .func (fnX name qual params body scope [] dV kV doc pm an cdv ct), osl⟩)
   (hb : body = s1 :: s2 :: s3 :: s4 :: rs)
   (X' : (hd.heap_39 w.params).In g) (T' : TopRead p loose mg mb g) (F : Fr g L' s.heap m') (N : News g L' s.heap ((D6, listOf #[.int 0 t6] e6) :: (L' + 1 + 1, o2) :: base)) (hA : Room A 20)
   (hm1 : m' ("sums" : Str) = some (.ref D6)) (hc1 : o1.data = .cell (some (.ref D5))) (hc2 : o2.data = .cell none) (h1b : (L' + 1, o1) ∈ base) (hoff : ∀ q ∈ base, q.1 ≠ L' + 1 + 1)
   (hD5 : (D5, listOf wv e5) ∈ base) (hwv : ∀ t, t < 4 → ∃ at' u1 u2, wv[t]? = some (.ref at') ∧ (at', tupO [.int (sp t) u1, .int (rst t) u2]) ∈ base) (hwz : wv.size = 4) (hsp : ∀ t, t < 4 → IsStep (sp t))
   (h : ∀ h' tk m'' D (T : List Nat) (vs : List Value) e o2' v2, Chn sp 4 T → T ∈ clos 4 → IntsAre vs (T.map Int.ofNat) → Fr g L' h' m'' → News g L' h' ((D, listOf vs.toArray e) :: (L' + 1 + 1, o2') :: base) → o2'.data = .cell v2 →
     m'' ("sums" : Str) = some (.ref D) → (∀ y, y ≠ ("sums" : Str) → y ≠ ("rest" : Str) → m'' y = m' y) → wpAny (model prog w) A (execs rs (envX qual scope L' 243 cdv (cellsFrom (L' + 1) scope.names []))) Q E' { s with heap := h', toks := tk }) :
   wpAny (model prog w) A (execs (s4 :: rs) (envX qual scope L' 243 cdv (cellsFrom (L' + 1) scope.names []))) Q E' s := by
  have e := fnE (look_inj ho (by with_unfolding_all exact rfl))
  have E0 := envE (L := L') (a := 243) e.2.1 e.2.2.1 e.2.2.2 (congrArg (List.drop 3) (hb.symm.trans e.1))
  dsimp only [List.drop] at E0
  have E1 := envE (L := L') (a := 243) e.2.1 e.2.2.1 e.2.2.2 (congrArg (List.drop 4) (hb.symm.trans e.1))
  dsimp only [List.drop] at E1
  rw [E1] at h
  clear E1
  rw [E0]
  clear E0 e ho hb oc dV kV doc pm cdv ct
  walk1
  all_goals (try walk_at "us")
  refine wpAny_For ?_
  refine nameX_C N rfl (.tail _ (.tail _ h1b)) hc1 ?_
  have hlD : s.heap.IsList D5 wv := ⟨_, (N _ (.tail _ (.tail _ hD5))).1, rfl, _, rfl⟩
  refine wpAny_pyIter_list hlD ?_
  have up : ∀ (o : Obj) b ob, s.heap.get? b = some ob → (s.heap.push o).get? b = some ob := fun o b ob e => Heap.get?_push_of_some _ e
  have nn := next_new F s.heap.objs.size (Nat.le_refl _)
  have hLt := F.ns.lt
  have lt0 := fun p hp => Heap.lt_size (N p hp).1
  refine forJ (h₀ := g) (L := L') (s := s) (n := wv.size) (fun i gg mm nw => gg = s.gens ∧ (∀ y, y ≠ ("sums" : Str) → y ≠ ("rest" : Str) → mm y = m' y) ∧ ∃ D T vs e o2' v2, nw = (D, listOf (List.toArray vs) e) :: (L' + 1 + 1, o2') :: base ∧ Chn sp i T ∧ T ∈ clos i ∧ IntsAre vs (T.map Int.ofNat) ∧ o2'.data = .cell v2 ∧ mm ("sums" : Str) = some (.ref D))
    (Walks.list (by exact hA.handled) s.heap.objs.size D5 (Nat.ne_of_lt (lt0 _ (.tail _ (.tail _ hD5)))) wv) (fun i h st => by obtain ⟨o, e, _⟩ := st.1; exact ⟨o, e⟩) list_st (S := SrcAt g D5 wv) ?_ nn.2 ?_ ?_ _ 0 _ _ _ m' ((D6, listOf #[.int 0 t6] e6) :: (L' + 1 + 1, o2) :: base) rfl (Nat.zero_le _) ?_ (F.keeps (up _)) (News.grown N (up _)) (fun q hq => ?_) (.inr ⟨_, .tail _ (.tail _ hD5), rfl, _, rfl⟩) ⟨rfl, fun _ _ _ => rfl, D6, [0], [.int 0 t6], e6, o2, none, rfl, rfl, .head _, .cons _ _ .nil, hc2, hm1⟩
  · exact Nat.ne_of_lt hLt
  · intro i v gg h14 tk14 mm nw oI E7 hi hP hJ _ F14 N14 off14 st14
    refine an3 hJ fun zr4 hmo hx => ex6 hx fun D T vs e o2' v2 hx => an6 hx fun zr5 hch hcl hvs hc2' hms => ?_
    (try clear hJ)
    subst zr4
    subst zr5
    have hi4 : i < 4 := by rw [hwz] at hi; exact hi
    refine ex3 (hwv i hi4) fun at' u1 u2 hx => an2 hx fun hw1 hw2 => ?_
    have hv : v = .ref at' := Option.some.inj (hP.symm.trans hw1)
    subst hv
    refine wpAny_letOwnedTupleGo_listiter st14.1 ?_
    refine unpackN_ F14 N14 ⟨_, (N14 (at', _) (.tail _ (.tail _ (.tail _ hw2)))).1, rfl, _, rfl⟩ hA.handled rfl rfl fun h15 F15 N15 => ?_
    iterate 2 walk1
    all_goals (try walk_at "us")
    have qI := off14 _ (.tail _ (.head _))
    have qD : D ≠ L' + 1 + 1 := News.neD N15 (.tail _ (.head _)) (.tail _ (.tail _ (.head _))) (by rw [hc2']; intro e; cases e)
    refine storeX_C F15 N15 rfl (UpdF.tail (Ne.symm qI) (UpdF.tail qD (UpdF.head hoff))) hc2' (fun h16 o16 F16 N16 c16 => ?_) (by rfl) (by rfl)
    try dsimp only at N16 ⊢
    clear F14 N14 F15 N15
    iterate 18 walk1
    all_goals (try walk_at "us")
    rename News _ _ _ _ => N17
    rename Fr _ _ _ _ => F17
    refine an4 (clos_lt hcl) fun k1 k2 k3 k4 => ?_
    have hvl := hvs.length
    rw [List.length_map] at hvl
    refine LCg.CompSrc.ledger (its := vs.toArray) hA.handled F17 N17 (.tail _ (.head _)) (by rw [sizeLine_eq, List.size_toArray]; lia) fun gg3 => ?_
    refine rest_E (fun j y => ∃ t, y = .int (((T.getD j 0 + 12 / sp i) % 12 : Nat) : Int) t) (fun j ys v2 I2 oI2 C2 oC2 D2 m3 h17 tk17 E8 hj hPj hC9 hx9 F18 N18 off18 => ?_) (.inr ⟨_, .tail _ (.head _), rfl, _, rfl⟩) (fun ys hlen hys => ?_)
    · clear F17 N17
      have hjT : j < T.length := by rw [← hvl]; simpa using hj
      obtain ⟨tj, ej⟩ := hvs.get j (T[j] : Int) (by rw [List.getElem?_map, List.getElem?_eq_getElem hjT]; rfl)
      have hPj2 : vs[j]? = some v2 := by rw [← hPj]; simp
      rw [ej] at hPj2
      cases hPj2
      have eT : T.getD j 0 = T[j] := by simp [List.getD, hjT]
      have hT12 := k1 T[j] (List.getElem_mem hjT)
      have hsi := hsp i hi4
      have hsz1 : 1 ≤ sp i ∧ sp i ≤ 6 := by rcases hsi with h | h | h | h | h <;> rw [h] <;> decide
      generalize T[j] = tj0 at hx9 eT hT12
      iterate 10 walk1
      all_goals (try walk_at "us")
      refine xi2 _ _ ⟨rfl, F18, N18, _, congrArg (fun z => Value.int z _) (a₂ := (((T.getD j 0 + 12 / sp i) % 12 : Nat) : Int)) ?_⟩
      rw [eT, Int.fdiv_eq_ediv_of_nonneg _ (by lia), Int.fmod_eq_emod_of_nonneg _ (by decide)]
      rw [Int.natCast_emod, Int.natCast_add, Int.natCast_ediv]
      rfl
    · have hys2 : IntsAre ys ((T.map fun p => (p + 12 / sp i) % 12).map Int.ofNat) := by
        refine ints_at2 (by rw [hlen, List.size_toArray, List.length_map, List.length_map, hvl]) fun j y hj => ?_
        refine Exists.elim (hys j y hj) fun t zr3 => ?_
        subst zr3
        have hjT : j < T.length := by
          rw [← hvl, ← List.size_toArray, ← hlen]
          rcases Nat.lt_or_ge j ys.length with q | q
          · exact q
          · rw [List.getElem?_eq_none q] at hj; cases hj
        refine xi2 _ t ⟨rfl, ?_⟩
        rw [List.getElem?_map, List.getElem?_map, List.getElem?_eq_getElem hjT]
        simp [List.getD, hjT]
      intro D7 h18 tk18 F18 N18 off18
      clear F17 N17
      iterate 2 walk1
      all_goals (try walk_at "us")
      rename_i D8 ws h19 F19 N19 hI19 l19
      have hI20 : IntsAre ws ((inp T (sp i)).map Int.ofNat) := by unfold inp; rw [List.map_append]; exact hI19
      refine setN (i := i) (n := sp i) (S := T) hA.handled F19 (News.sub N19 fun q hq => .tail _ (.tail _ hq)) ⟨_, (N19 _ (.head _)).1, rfl, _, rfl⟩ hi4 (hsp i hi4) hcl hI20 fun D9 h20 tk20 es st ep F20 N20 l20 sn se sperm => ?_
      clear F19 N19
      walk1
      all_goals (try walk_at "us")
      refine sortedN (S := T) (n := sp i) hA.handled F20 N20 (.head _) sn se sperm fun D10 h21 tk21 vs21 c21 F21 N21 l21 hI21 => ?_
      clear F20 N20
      iterate 2 walk1
      all_goals (try walk_at "us")
      rename News _ _ _ _ => N22
      rename Fr _ _ _ _ => F22
      rename Heap => h22
      refine ⟨.inl rfl, h22, _, s.gens, _, (D10, listOf vs21.toArray c21) :: (L' + 1 + 1, o16) :: base, rfl, F22, News.sub N22 fun q hq => ?_, fun q hq => ?_, .inr ⟨_, .tail _ (.tail _ hD5), rfl, _, rfl⟩, rfl, fun y y1 y2 => (if_neg y1).trans ((if_neg y2).trans (hmo y y1 y2)), D10, nextT T (sp i), vs21, c21, o16, _, rfl, ⟨T, hch, nextT_grow T k1⟩, clos_next (hsp i hi4) hcl, hI21, c16, if_pos rfl⟩
      · revert q hq
        exact all_cons (mem_at 2 rfl) (all_cons (mem_at 0 rfl) (all_cons (mem_at 4 rfl) (fun q hq => .tail _ (.tail _ (.tail _ (.tail _ (.tail _ hq)))))))
      · revert q hq
        refine all_cons ?_ fun q hq => ?_
        · exact Nat.ne_of_gt (l21 (_, oI) (.tail _ (.head _)))
        · revert q hq
          refine all_cons ?_ fun q hq => ?_
          · exact qI
          · exact off14 q (.tail _ (.tail _ hq))
  · intro h14 tk14 gg mm nw F14 N14 _ hJ
    refine an3 hJ fun zr1 hmo hx => ex6 hx fun D T vs e o2' v2 hx => an6 hx fun zr2 hch hcl hvs hc2' hms => ?_
    (try clear hJ)
    subst zr1
    subst zr2
    rw [hwz] at hch hcl
    try dsimp only
    (try walk_at "us")
    exact h h14 tk14 mm D T vs e o2' v2 hch hcl hvs F14 N14 hc2' hms hmo
  · exact ⟨⟨_, Heap.get?_push_size _ rfl, rfl, rfl⟩, hlD.push _⟩
  · exact Nat.ne_of_lt (lt0 q hq)

end
end

section
open PySem PySem.W PySem.Calls PyProof.Rows
section
variable {prog : Program} {w : World} {A : Around} {E : Value → Shared → Prop} {s : Shared} {h₀ : Heap} {L : Addr} {m : Str → Option Value} {pg : PG} {st : ST} {rest : List (Addr × Obj)} {p : Program} {loose : List Str} {mg mb : Str → Option Value}
open LCg
theorem law3 {name qual : Str} {params : Arguments} {body rs : List Stmt} {s1 s2 s3 s4 s5 s6 : Stmt} {scope : Scope} {dV kV doc pm cdv ct oc : Value} {an od : Option Addr} {osl : Array (Option Value)} {L' D6 D7 : Addr}
   {g : Heap} {m' : Str → Option Value} {base : List (Addr × Obj)} {E' : Value → Shared → Prop} {Q : Flow → Shared → Prop} {o3 o4 : Obj} {e6 e7 : Nat} {vs v6 : List Value} {T : List Nat} {x0 x1 x2 x3 x4 x5 : Int}
   (ho : (hd.heap_39 w.params).lookup 243 = some ⟨oc, od, .func (fnX name qual params body scope [] dV kV doc pm an cdv ct), osl⟩)
   (hb : body = s1 :: s2 :: s3 :: s4 :: s5 :: s6 :: rs)
   (X' : (hd.heap_39 w.params).In g) (T' : TopRead p loose mg mb g) (F : Fr g L' s.heap m') (N : News g L' s.heap ((D6, listOf vs.toArray e6) :: (L' + 1 + 1 + 1, o3) :: (L' + 1 + 1 + 1 + 1, o4) :: (D7, listOf v6.toArray e7) :: base)) (hA : Room A 20)
   (hm1 : m' ("sums" : Str) = some (.ref D6)) (hm2 : m' ("six" : Str) = some (.ref D7)) (hc3 : o3.data = .cell none) (hc4 : o4.data = .cell none) (hoff : ∀ q ∈ base, q.1 ≠ L' + 1 + 1 + 1 ∧ q.1 ≠ L' + 1 + 1 + 1 + 1)
   (hvs : IntsAre vs (T.map Int.ofNat)) (hT : T.length ≤ 12) (h6 : IntsAre v6 [x0, x1, x2, x3, x4, x5])
   (h : ∀ h' tk o3' o4' t3 t4, Fr g L' h' m' → News g L' h' ((L' + 1 + 1 + 1, o3') :: (L' + 1 + 1 + 1 + 1, o4') :: (D7, listOf v6.toArray e7) :: base) → o3'.data = .cell (some (.int T.length t3)) → o4'.data = .cell (some (.int (x4.fmod 100) t4)) →
     wpAny (model prog w) A (execs rs (envX qual scope L' 243 cdv (cellsFrom (L' + 1) scope.names []))) Q E' { s with heap := h', toks := tk }) :
   wpAny (model prog w) A (execs (s5 :: s6 :: rs) (envX qual scope L' 243 cdv (cellsFrom (L' + 1) scope.names []))) Q E' s := by
  have e := fnE (look_inj ho (by with_unfolding_all exact rfl))
  have E0 := envE (L := L') (a := 243) e.2.1 e.2.2.1 e.2.2.2 (congrArg (List.drop 4) (hb.symm.trans e.1))
  dsimp only [List.drop] at E0
  have E1 := envE (L := L') (a := 243) e.2.1 e.2.2.1 e.2.2.2 (congrArg (List.drop 6) (hb.symm.trans e.1))
  dsimp only [List.drop] at E1
  rw [E1] at h
  clear E1
  rw [E0]
  clear E0 e ho hb oc dV kV doc pm cdv ct
  iterate 9 walk1
  all_goals (try walk_at "us")
  rename News _ _ _ _ => N1
  rename Fr _ _ _ _ => F1
  have q6 : D6 ≠ L' + 1 + 1 + 1 := News.neD N1 (.head _) (.tail _ (.head _)) (by rw [hc3]; intro e; cases e)
  have q7 : D7 ≠ L' + 1 + 1 + 1 := News.neD N1 (.tail _ (.tail _ (.tail _ (.head _)))) (.tail _ (.head _)) (by rw [hc3]; intro e; cases e)
  have q7' : D7 ≠ L' + 1 + 1 + 1 + 1 := News.neD N1 (.tail _ (.tail _ (.tail _ (.head _)))) (.tail _ (.tail _ (.head _))) (by rw [hc4]; intro e; cases e)
  refine storeX_C F1 (News.sub N1 fun q hq => .tail _ hq) rfl (UpdF.head fun q hq => ?_) hc3 (fun h2 o3' F2 N2 c3 => ?_) (by rfl) (by rfl)
  · revert q hq
    refine all_cons ?_ fun q hq => ?_
    · exact Nat.ne_of_gt (Nat.lt_succ_self _)
    · revert q hq
      refine all_cons ?_ fun q hq => ?_
      · exact q7
      · exact (hoff q hq).1
  try dsimp only at N2 ⊢
  clear F1 N1
  iterate 9 walk1
  all_goals (try walk_at "us")
  rename News _ _ _ _ => N3
  rename Fr _ _ _ _ => F3
  have q34 : L' + 1 + 1 + 1 ≠ L' + 1 + 1 + 1 + 1 := Nat.ne_of_lt (Nat.lt_succ_self _)
  refine storeX_C F3 N3 rfl (UpdF.tail q34 (UpdF.head fun q hq => ?_)) hc4 (fun h4 o4' F4 N4 c4 => ?_) (by rfl) (by rfl)
  · revert q hq
    refine all_cons ?_ fun q hq => ?_
    · exact q7'
    · exact (hoff q hq).2
  try dsimp only at N4 ⊢
  rw [List.length_map] at c3
  (try walk_at "us")
  exact h h4 _ o3' o4' _ _ F4 N4 c3 c4

end
end

section
open PySem PySem.W PySem.Calls PyProof.Rows
section
variable {prog : Program} {w : World} {A : Around} {E : Value → Shared → Prop} {s : Shared} {h₀ : Heap} {L : Addr} {m : Str → Option Value} {pg : PG} {st : ST} {rest : List (Addr × Obj)} {p : Program} {loose : List Str} {mg mb : Str → Option Value}
open LCg
theorem assignP {scope : Scope} {cl : List (Str × Addr)} {env : Env} {a b : Str} {pa pb tp : Pos} {kk : Nat} {x y : Value} {T I C D : Addr} {oI oC : Obj} {ys : List Value} {news : List (Addr × Obj)} {m₂ : Str → Option Value} {Q : Unit → Shared → Prop}
    (hh : A.handled = none) (ha : scope.names.lookup a = some .local) (hb : scope.names.lookup b = some .local) (hkind : scope.kind = .function) (F : Fr h₀ L s.heap m) (N : News h₀ L s.heap ((I, oI) :: (C, oC) :: (D, lst ys) :: news)) (hC : NsObj oC m₂) (off : Off3 I C D news) (ne : I ≠ C ∧ I ≠ D ∧ C ≠ D) (ht : s.heap.IsTuple T #[x, y])
    (h : ∀ h' oC' tk, Fr h₀ L h' m → News h₀ L h' ((I, oI) :: (C, oC') :: (D, lst ys) :: news) → NsObj oC' (fun z => if z = b then some y else if z = a then some x else m₂ z) → Q () { s with heap := h', toks := tk }) :
    wpAny (model prog w) A (assign (.Tuple [.Name a pa, .Name b pb] kk tp) (compEnvC scope cl C env) (.ref T)) Q E s := by
  have zC := N (C, oC) (.tail _ (.head _))
  refine kcp_assign hh ht (lookup_relabel_local ha) (lookup_relabel_local hb) (by simp [compEnvC, relabel, hkind]) (hC.ns zC.1) fun h₃ tk hn₃ hs₃ => ?_
  refine Exists.elim (ns_obj hn₃) fun oC' hx_q => an2 hx_q fun heC hoC => ?_
  have off3 := off.mem
  refine ex3 F.ns fun oL es ep hx_q => an2 hx_q fun hL r => ?_
  refine h h₃ oC' tk ⟨⟨oL, es, ep, hs₃ _ _ (Ne.symm zC.2.1) hL, r⟩, fun c o e => hs₃ c o (fun q => by have q' : c = C := q; subst q'; rw [show h₀.get? c = none from zC.2.2] at e; cases e) (F.keep c o e), F.above⟩ (fun p hp => ?_) hoC
  revert p hp
  refine all_cons ?_ fun p hp => ?_
  · have z := N _ (.head _)
    exact ⟨hs₃ _ _ ne.1 z.1, z.2⟩
  · revert p hp
    refine all_cons ?_ fun p hp => ?_
    · exact ⟨heC, zC.2⟩
    · revert p hp
      refine all_cons ?_ fun p hp => ?_
      · have z := N _ (.tail _ (.tail _ (.head _)))
        exact ⟨hs₃ _ _ (Ne.symm ne.2.2) z.1, z.2⟩
      · have z := N _ (.tail _ (.tail _ (.tail _ hp)))
        exact ⟨hs₃ _ _ (off3 p hp).2.1 z.1, z.2⟩
theorem assignK {scope : Scope} {cl : List (Str × Addr)} {env : Env} {x : Str} {px : Pos} {v : Value} {C K : Addr} {oK : Obj} {v₀ : Option Value} {news : List (Addr × Obj)} {G : Obj → List (Addr × Obj)} {Q : Unit → Shared → Prop} {M₀ : Model}
    (F : Fr h₀ L s.heap m) (N : News h₀ L s.heap news) (hc : cl.lookup x = some K) (U : UpdF K oK news G) (hd : oK.data = .cell v₀)
    (h : ∀ h' oK', Fr h₀ L h' m → News h₀ L h' (G oK') → oK'.data = .cell (some v) → (∀ b o, b ≠ K → s.heap.get? b = some o → h'.get? b = some o) → Q () { s with heap := h' })
    (hk : (compEnvC scope cl C env).scope.kind = .function := by rfl) (hx : (compEnvC scope cl C env).kindOf x = some .cell := by rfl) :
    wpAny M₀ A (assign (.Name x px) (compEnvC scope cl C env) v) Q E s := by
  refine ex2 U.split fun own rest hx_q => an4 hx_q fun zr1 hg h1 h2 => ?_
  subst zr1
  have hmem := N (K, oK) (List.mem_append_right _ (.head _))
  refine wpAny_assign_Name (wpAny_storeName_cell hk hx hc ⟨oK, hmem.1, hd⟩ fun h' hv hs => ?_)
  refine Exists.elim hv fun o' hx_q => an2 hx_q fun ho' hd' => ?_
  (try clear hv)
  exact h h' o' (F.change hs hmem.2.1 hmem.2.2) (hg o' ▸ N.setAt h1 h2 hs ho') hd' fun b o hb e => hs.extBut b o hb e
theorem srcJ_range {n : Nat} {r : Addr} {t u v : Tok} {news : List (Addr × Obj)} {Q : Value → Shared → Prop} (hh : A.handled = none) (F : Fr h₀ L s.heap m) (N : News h₀ L s.heap news) (R1 : IsRange s.heap r 0 (n : Int) 1 t u v) (hs : Builtin.Range.small 0 (n : Int) 1 = true) (hr : Builtin.Range.rangeSize 0 (n : Int) 1 = (n : Int)) (hn : n ≤ 1000)
    (h : ∀ I oI, SrcJ prog w A h₀ L m I [I] n (fun i v => ∃ t, v = .int (0 + (i : Int)) t) (fun i h => IsRangeIter h I (0 + (i : Nat) * 1) ((n : Int) - (i : Nat)) 1) (fun _ => True) news { s with heap := s.heap.push oI } → Q (.ref I) { s with heap := s.heap.push oI }) :
    wpAny (model prog w) A (pyIter (.ref r)) Q E s := by
  refine wpAny_pyIter_range R1 hs ?_
  rw [hr]
  have nn := next_new F s.heap.objs.size (Nat.le_refl _)
  have up : ∀ (o : Obj) b ob, s.heap.get? b = some ob → (s.heap.push o).get? b = some ob := fun o b ob e => Heap.get?_push_of_some _ e
  refine h s.heap.objs.size _ ⟨range_walks hh 0 n, by rw [sizeLine_eq]; lia, fun i h st => ⟨_, st⟩, range_st, fun b hb => ?_, Nat.ne_of_lt F.ns.lt, nn.2, fun q hq => Nat.ne_of_lt (Heap.lt_size (N q hq).1), ?_, F.keeps (up _), N.grown (up _), trivial⟩
  · rw [List.mem_singleton.mp hb]
    show _ < (s.heap.push _).objs.size
    rw [Heap.size_push]; exact Nat.lt_succ_self _
  · exact Heap.get?_push_size _ rfl
theorem srcJ_list {l : Addr} {its : Array Value} {e : Nat} {news : List (Addr × Obj)} {Q : Value → Shared → Prop} (hh : A.handled = none) (F : Fr h₀ L s.heap m) (N : News h₀ L s.heap news) (hm : (l, listOf its e) ∈ news) (hn : its.size ≤ 1000)
    (h : ∀ I oI, SrcJ prog w A h₀ L m I [I, l] its.size (fun i v => its[i]? = some v) (fun i h => h.IsListIter I l i ∧ h.IsList l its) (SrcAt h₀ l its) news { s with heap := s.heap.push oI } → Q (.ref I) { s with heap := s.heap.push oI }) :
    wpAny (model prog w) A (pyIter (.ref l)) Q E s := by
  have hl : s.heap.IsList l its := ⟨_, (N _ hm).1, rfl, _, rfl⟩
  have hlt := Heap.lt_size (N _ hm).1
  refine wpAny_pyIter_list hl ?_
  have nn := next_new F s.heap.objs.size (Nat.le_refl _)
  have up : ∀ (o : Obj) b ob, s.heap.get? b = some ob → (s.heap.push o).get? b = some ob := fun o b ob e => Heap.get?_push_of_some _ e
  refine h s.heap.objs.size _ ⟨Walks.list hh _ l (Nat.ne_of_lt hlt) its, by rw [sizeLine_eq]; lia, fun i h st => by obtain ⟨o, e, _⟩ := st.1; exact ⟨o, e⟩, list_st, fun b hb => ?_, Nat.ne_of_lt F.ns.lt, nn.2, fun q hq => Nat.ne_of_lt (Heap.lt_size (N q hq).1), ?_, F.keeps (up _), N.grown (up _), .inr ⟨_, hm, rfl, _, rfl⟩⟩
  · show _ < (s.heap.push _).objs.size
    rw [Heap.size_push]
    revert b hb
    refine all_cons ?_ fun b hb => ?_
    · exact Nat.lt_succ_self _
    · rw [List.mem_singleton.mp hb]; exact Nat.lt_succ_of_lt hlt
  · exact ⟨⟨_, Heap.get?_push_size _ rfl, rfl, rfl⟩, hl.push _⟩

end
end

section
open PySem PySem.W PySem.Calls PyProof.Rows
section
variable {prog : Program} {w : World} {A : Around} {E : Value → Shared → Prop} {s : Shared} {h₀ : Heap} {L : Addr} {m : Str → Option Value} {pg : PG} {st : ST} {rest : List (Addr × Obj)} {p : Program} {loose : List Str} {mg mb : Str → Option Value}
open LCg
theorem law4 {name qual : Str} {params : Arguments} {body rs : List Stmt} {s1 s2 s3 s4 s5 s6 s7 : Stmt} {scope : Scope} {dV kV doc pm cdv ct oc : Value} {an od : Option Addr} {osl : Array (Option Value)} {L' D5 : Addr}
   {g : Heap} {m' : Str → Option Value} {base : List (Addr × Obj)} {E' : Value → Shared → Prop} {Q : Flow → Shared → Prop} {o1 o3 o4 o5 : Obj} {e5 : Nat} {wv : Array Value} {sp rst : Nat → Nat} {f c : Nat} {tf tc : Tok}
   (ho : (hd.heap_39 w.params).lookup 243 = some ⟨oc, od, .func (fnX name qual params body scope [] dV kV doc pm an cdv ct), osl⟩)
   (hb : body = s1 :: s2 :: s3 :: s4 :: s5 :: s6 :: s7 :: rs)
   (X' : (hd.heap_39 w.params).In g) (T' : TopRead p loose mg mb g) (F : Fr g L' s.heap m') (N : News g L' s.heap ((L' + 1 + 1 + 1 + 1 + 1, o5) :: base)) (hA : Room A 20)
   (hc1 : o1.data = .cell (some (.ref D5))) (hc3 : o3.data = .cell (some (.int c tc))) (hc4 : o4.data = .cell (some (.int f tf))) (hc5 : o5.data = .cell none) (h1b : (L' + 1, o1) ∈ base) (h3b : (L' + 1 + 1 + 1, o3) ∈ base) (h4b : (L' + 1 + 1 + 1 + 1, o4) ∈ base) (hoff : ∀ q ∈ base, q.1 ≠ L' + 1 + 1 + 1 + 1 + 1)
   (hD5 : (D5, listOf wv e5) ∈ base) (hwv : ∀ t, t < 4 → ∃ at' u1 u2, wv[t]? = some (.ref at') ∧ (at', tupO [.int (sp t) u1, .int (rst t) u2]) ∈ base) (hwz : wv.size = 4) (hsp : ∀ t, t < 4 → IsStep (sp t) ∧ rst t ≤ 2000000000) (hf : f ≤ 2000000000) (hc : c ≤ 12)
   (h : ∀ h' tk D8 (mv : List Value) e o5', Fr g L' h' m' → News g L' h' ((L' + 1 + 1 + 1 + 1 + 1, o5') :: (D8, listOf mv.toArray e) :: base) → o5'.data = .cell (some (.ref D8)) → IntsAre mv ((List.range c).map fun k => (marks sp rst (f + k) : Int)) →
     wpAny (model prog w) A (execs rs (envX qual scope L' 243 cdv (cellsFrom (L' + 1) scope.names []))) Q E' { s with heap := h', toks := tk }) :
   wpAny (model prog w) A (execs (s7 :: rs) (envX qual scope L' 243 cdv (cellsFrom (L' + 1) scope.names []))) Q E' s := by
  have e := fnE (look_inj ho (by with_unfolding_all exact rfl))
  have E0 := envE (L := L') (a := 243) e.2.1 e.2.2.1 e.2.2.2 (congrArg (List.drop 6) (hb.symm.trans e.1))
  dsimp only [List.drop] at E0
  have E1 := envE (L := L') (a := 243) e.2.1 e.2.2.1 e.2.2.2 (congrArg (List.drop 7) (hb.symm.trans e.1))
  dsimp only [List.drop] at E1
  rw [E1] at h
  clear E1
  rw [E0]
  clear E0 e ho hb oc dV kV doc pm cdv ct
  iterate 2 walk1
  all_goals (try walk_at "us")
  refine compJ1 (h₀ := g) (L := L') (m := m') (by with_unfolding_all rfl) (fun _ _ => rfl) (fun _ => rfl) (by rfl) (by decide) ?_
  iterate 4 walk1
  all_goals (try walk_at "us")
  refine nameX_C N rfl (.tail _ h3b) hc3 ?_
  iterate 2 walk1
  all_goals (try walk_at "us")
  rename IsRange _ _ _ _ _ _ _ _ => R1
  rename News _ _ _ _ => N1
  rename Fr _ _ _ _ => F1
  refine srcJ_range hA.handled F1 N1 R1 (smallUp0 c (by lia)) (rangeUp0 c) (by lia) fun I oI X => ?_
  refine xi7 I ([I]) c _ _ _ _ ⟨rfl, X, fun _ => trivial, fun cK i ys nw => ∃ oK v, nw = (cK, oK) :: (L' + 1 + 1 + 1 + 1 + 1, o5) :: base ∧ (∀ q ∈ (L' + 1 + 1 + 1 + 1 + 1, o5) :: base, q.1 ≠ cK) ∧ oK.data = .cell v ∧ ys.length = i ∧ ∀ (j : Nat) (y : Value), ys[j]? = some y → ∃ t, y = Value.int (marks sp rst (f + j) : Int) t, fun cK offK => ⟨_, _, rfl, offK, rfl, rfl, fun j y hj => by simp at hj⟩, fun cK i ys nw hJ => by obtain ⟨_, _, _, _, _, hl, _⟩ := hJ; lia, fun cK C D => ?_, fun cK D ys nw hJ hS h2 tk2 F2 N2 off2 => ?_⟩
  · intro i v ys nw h3 tk3 oI3 oC3 m₂ E3 hi hP hJ hS F3 N3 off3 ne3 hC3 hst3
    refine Exists.elim hP fun tv zr6 => ?_
    (try clear hP)
    subst zr6
    refine ex2 hJ fun oK vK hx => an5 hx fun zr5 offK hK hyl hys => ?_
    (try clear hJ)
    subst zr5
    clear F1 N1
    refine wpAny_of_eq rfl ?_
    have qK := off3.mem (cK, oK) (.head _)
    refine assignK F3 N3 rfl (UpdF.tail (Ne.symm qK.1) (UpdF.tail (Ne.symm qK.2.1) (UpdF.tail (Ne.symm qK.2.2) (UpdF.head offK)))) hK (fun h4 oK4 F4 N4 hK4 keep4 => ?_)
    clear F3 N3
    try dsimp only at N4 ⊢
    refine wpAny_tests_nil ?_
    rw [if_pos rfl]
    iterate 4 walk1
    all_goals (try walk_at "us")
    refine compJ0 (h₀ := g) (L := L') (m := m') (by with_unfolding_all rfl) (fun _ _ => rfl) (fun _ => rfl) (by rfl) (by decide) ?_
    have m5 : ∀ q ∈ base, q ∈ (I, oI3) :: (C, oC3) :: (D, lst ys) :: (cK, oK4) :: (L' + 1 + 1 + 1 + 1 + 1, o5) :: base := fun q hq => .tail _ (.tail _ (.tail _ (.tail _ (.tail _ hq))))
    refine lcf_cell N4 rfl (m5 _ h1b) hc1 ?_ rfl rfl
    refine srcJ_list hA.handled F4 N4 (m5 _ hD5) (by lia) fun I5 oI5 X5 => ?_
    refine xi7 I5 ([I5, D5]) _ _ _ _ _ ⟨rfl, X5, fun j zs nw => nw = (I, oI3) :: (C, oC3) :: (D, lst ys) :: (cK, oK4) :: (L' + 1 + 1 + 1 + 1 + 1, o5) :: base ∧ zs.length = cnt sp rst (f + i) j, ⟨rfl, rfl⟩, fun j zs nw hJ => by rw [hJ.2]; exact cnt_le _ _ _ _, fun C5 D6 => ?_, fun D6 zs nw hJ hS5 h6 tk6 F6 N6 off6 => ?_⟩
    · intro j v zs nw h7 tk7 oI7 oC7 m7 E7 hj hPj hJ7 hS7 F7 N7 off7 ne7 hC7 hst7
      refine an2 hJ7 fun zr4 hzl => ?_
      (try clear hJ7)
      subst zr4
      clear F4 N4
      have hj4 : j < 4 := by lia
      refine ex3 (hwv j hj4) fun at' u1 u2 hx => an2 hx fun hw1 hw2 => ?_
      have hv : v = .ref at' := Option.some.inj (hPj.symm.trans hw1)
      subst hv
      refine wpAny_letOwnedTupleGo_listiter hst7.1 ?_
      refine assignP hA.handled (by rfl) (by rfl) (by rfl) F7 N7 hC7 off7 ne7 ⟨_, (N7 (at', _) (.tail _ (.tail _ (.tail _ (m5 _ hw2))))).1, rfl, _, rfl⟩ fun h8 oC8 tk8 F8 N8 hC8 => ?_
      clear F7 N7
      refine wpAny_tests_one ?_
      try dsimp only
      iterate 4 walk1
      all_goals (try walk_at "us")
      refine lcf_cell N8 rfl (.tail _ (.tail _ (.tail _ (m5 _ h4b)))) hc4 ?_ rfl rfl
      iterate 5 walk1
      all_goals (try walk_at "us")
      refine mod_int' (by have := (hsp j hj4).1; rcases this with h | h | h | h | h <;> lia) ?_
      dsimp only
      iterate 2 walk1
      all_goals (try walk_at "us")
      have em : ((((f : Int) + (0 + (i : Int)) - (rst j : Int)).fmod (sp j : Int)) == 0) = met (sp j) (rst j) ((f + i : Nat) : Int) := by
        unfold met
        rw [show (f : Int) + (0 + (i : Int)) - (rst j : Int) = ((f + i : Nat) : Int) - (rst j : Int) from by lia]
      rw [em]
      have hcn : cnt sp rst (f + i) (j + 1) = cnt sp rst (f + i) j + (met (sp j) (rst j) ((f + i : Nat) : Int)).toNat := rfl
      cases hb : met (sp j) (rst j) ((f + i : Nat) : Int) with
      | true =>
        rw [hb] at hcn
        iterate 1 walk1
        all_goals (try walk_at "us")
        rw [if_pos rfl]
        iterate 1 walk1
        all_goals (try walk_at "us")
        refine xi5 _ _ oC8 _ _ ⟨rfl, F8, N8, hC8, off7, hS7, rfl, ?_⟩
        rw [List.length_append, hzl, hcn]; rfl
      | false =>
        rw [hb] at hcn
        iterate 1 walk1
        all_goals (try walk_at "us")
        rw [if_neg (by decide)]
        refine xi5 _ _ oC8 _ _ ⟨rfl, F8, N8, hC8, off7, hS7, rfl, ?_⟩
        rw [hzl, hcn]; rfl
    · refine an2 hJ fun zr3 hzl => ?_
      (try clear hJ)
      subst zr3
      rw [hwz, cnt_marks] at hzl
      clear F4 N4
      iterate 1 walk1
      all_goals (try walk_at "us")
      refine call_len_list (items := zs.toArray) ⟨_, (N6 _ (.head _)).1, rfl, _, rfl⟩ (by rw [List.size_toArray, hzl]; have := cnt_le sp rst (f + i) 4; rw [cnt_marks] at this; lia) ?_
      refine xi5 h6 _ oC3 m₂ _ ⟨rfl, F6, News.sub N6 fun q hq => .tail _ hq, hC3, off3, trivial, oK4, _, rfl, offK, hK4, by rw [List.length_append, hyl]; rfl, fun j y hj => ?_⟩
      refine (snoc_at hj).elim (fun hj => hys j y hj) fun hq => ?_
      rw [hq.1, hq.2, hyl, List.size_toArray, hzl]
      exact ⟨_, rfl⟩
  · refine ex2 hJ fun oK vK hx => an5 hx fun zr2 offK hK hyl hys => ?_
    (try clear hJ)
    subst zr2
    clear F1 N1
    have qD : D ≠ L' + 1 + 1 + 1 + 1 + 1 := News.neD N2 (.head _) (.tail _ (.tail _ (.head _))) (by rw [hc5]; intro e; cases e)
    have N3 : News g L' h2 ((D, lst ys) :: (L' + 1 + 1 + 1 + 1 + 1, o5) :: base) := News.sub N2 fun q hq => by
      revert q hq
      refine all_cons ?_ fun q hq => ?_
      · exact .head _
      · exact .tail _ (.tail _ hq)
    refine storeX_C F2 N3 rfl (UpdF.tail qD (UpdF.head hoff)) hc5 (fun h4 o5' F4 N4 c5 => ?_) (by rfl) (by rfl)
    try dsimp only at N4 ⊢
    (try walk_at "us")
    refine h h4 _ D ys ys.length o5' F4 (News.sub N4 fun q hq => ?_) c5 (ints_at2 (by rw [hyl, List.length_map, List.length_range]) fun j y hj => ?_)
    · revert q hq
      refine all_cons ?_ fun q hq => ?_
      · exact .tail _ (.head _)
      · revert q hq
        refine all_cons ?_ fun q hq => ?_
        · exact .head _
        · exact .tail _ (.tail _ hq)
    · refine Exists.elim (hys j y hj) fun t zr1 => ?_
      subst zr1
      have hjc : j < c := by
        rw [← hyl]
        rcases Nat.lt_or_ge j ys.length with q | q
        · exact q
        · rw [List.getElem?_eq_none q] at hj; cases hj
      exact xi2 _ t ⟨rfl, by rw [List.getElem?_map, List.getElem?_range hjc]; rfl⟩

end
end

section
open PySem PySem.W PySem.Calls PyProof.Rows
section
variable {prog : Program} {w : World} {A : Around} {E : Value → Shared → Prop} {s : Shared} {h₀ : Heap} {L : Addr} {m : Str → Option Value} {pg : PG} {st : ST} {rest : List (Addr × Obj)} {p : Program} {loose : List Str} {mg mb : Str → Option Value}
open LCg
theorem law5 {name qual : Str} {params : Arguments} {body rs : List Stmt} {s1 s2 s3 s4 s5 s6 s7 s8 : Stmt} {scope : Scope} {dV kV doc pm cdv ct oc : Value} {an od : Option Addr} {osl : Array (Option Value)} {L' : Addr}
   {g : Heap} {m' : Str → Option Value} {base : List (Addr × Obj)} {E' : Value → Shared → Prop} {Q : Flow → Shared → Prop} {o3 o4 o6 : Obj} {f c : Nat} {tf tc : Tok}
   (ho : (hd.heap_39 w.params).lookup 243 = some ⟨oc, od, .func (fnX name qual params body scope [] dV kV doc pm an cdv ct), osl⟩)
   (hb : body = s1 :: s2 :: s3 :: s4 :: s5 :: s6 :: s7 :: s8 :: rs)
   (X' : (hd.heap_39 w.params).In g) (T' : TopRead p loose mg mb g) (B' : BM g mg) (F : Fr g L' s.heap m') (N : News g L' s.heap ((L' + 1 + 1 + 1 + 1 + 1 + 1, o6) :: base)) (hA : Room A 20)
   (hc3 : o3.data = .cell (some (.int c tc))) (hc4 : o4.data = .cell (some (.int f tf))) (hc6 : o6.data = .cell none) (h3b : (L' + 1 + 1 + 1, o3) ∈ base) (h4b : (L' + 1 + 1 + 1 + 1, o4) ∈ base) (hoff : ∀ q ∈ base, q.1 ≠ L' + 1 + 1 + 1 + 1 + 1 + 1)
   (hf : f ≤ 2000000000) (hc : c ≤ 12)
   (h : ∀ h' tk D9 (l : List (Str × Tok)) e o6', Fr g L' h' m' → News g L' h' ((L' + 1 + 1 + 1 + 1 + 1 + 1, o6') :: (D9, listOf (txts l).toArray e) :: base) → o6'.data = .cell (some (.ref D9)) → l.map (·.1) = (List.range c).map (fun k => (⟨(nameOf (f + c) (f + k)).toArray⟩ : Str)) →
     wpAny (model prog w) A (execs rs (envX qual scope L' 243 cdv (cellsFrom (L' + 1) scope.names []))) Q E' { s with heap := h', toks := tk }) :
   wpAny (model prog w) A (execs (s8 :: rs) (envX qual scope L' 243 cdv (cellsFrom (L' + 1) scope.names []))) Q E' s := by
  have e := fnE (look_inj ho (by with_unfolding_all exact rfl))
  have E0 := envE (L := L') (a := 243) e.2.1 e.2.2.1 e.2.2.2 (congrArg (List.drop 7) (hb.symm.trans e.1))
  dsimp only [List.drop] at E0
  have E1 := envE (L := L') (a := 243) e.2.1 e.2.2.1 e.2.2.2 (congrArg (List.drop 8) (hb.symm.trans e.1))
  dsimp only [List.drop] at E1
  rw [E1] at h
  clear E1
  rw [E0]
  clear E0 e ho hb oc dV kV doc pm cdv ct
  iterate 6 walk1
  all_goals (try walk_at "us")
  refine nameX_C N rfl (.tail _ h4b) hc4 ?_
  iterate 1 walk1
  all_goals (try walk_at "us")
  refine nameX_C N rfl (.tail _ h3b) hc3 ?_
  iterate 1 walk1
  all_goals (try walk_at "us")
  refine ⟨Kat F X', ?_⟩
  refine wpAny_call (names_K X' T' B' F N (hA.less (by decide)) hf (by lia) fun h1 D9 l e tk F1 N1 hl => ?_)
  clear F N
  have qD : D9 ≠ L' + 1 + 1 + 1 + 1 + 1 + 1 := News.neD N1 (.head _) (.tail _ (.head _)) (by rw [hc6]; intro e; cases e)
  refine storeX_C F1 N1 rfl (UpdF.tail qD (UpdF.head hoff)) hc6 (fun h4 o6' F4 N4 c6 => ?_) (by rfl) (by rfl)
  try dsimp only at N4 ⊢
  (try walk_at "us")
  refine h h4 _ D9 l e o6' F4 (News.sub N4 fun q hq => ?_) c6 hl
  revert q hq
  refine all_cons ?_ fun q hq => ?_
  · exact .tail _ (.head _)
  · revert q hq
    refine all_cons ?_ fun q hq => ?_
    · exact .head _
    · exact .tail _ (.tail _ hq)

end
end

section
open PySem PySem.W PySem.Calls PyProof.Rows
section
variable {prog : Program} {w : World} {A : Around} {E : Value → Shared → Prop} {s : Shared} {h₀ : Heap} {L : Addr} {m : Str → Option Value} {pg : PG} {st : ST} {rest : List (Addr × Obj)} {p : Program} {loose : List Str} {mg mb : Str → Option Value}
open LCg
theorem due_card {d : Nat} (hd : d ≤ 4) (nm : List Nat) : Txt.mul ("." : Str) (1 + (d : Int)) ++ Txt.mul ("-" : Str) (4 - (d : Int)) ++ (⟨nm.toArray⟩ : Str) ++ (" ;" : Str) = card (bod (1 + d) nm) := by
  refine str_ext ?_
  have e1 := mul_list 46 (1 + (d : Int))
  have e2 := mul_list 45 (4 - (d : Int))
  rw [d1_nat] at e1
  rw [d4_nat] at e2
  have c3 : (" ;" : Str).cps.toList = [32, 59] := rfl
  rw [app_list, app_list, app_list, c3]
  show _ = (bod (1 + d) _ ++ (" ;" : Str)).cps.toList
  rw [app_list, c3]
  show (Txt.mul (⟨#[46]⟩ : Str) _).cps.toList ++ (Txt.mul (⟨#[45]⟩ : Str) _).cps.toList ++ _ ++ _ = _
  rw [e1, e2]
  show _ = (List.replicate (1 + d) 46 ++ (List.replicate (5 - (1 + d)) 45 ++ nm)) ++ [32, 59]
  simp
theorem strs_eq {lz : List (Str × Tok)} {c : Nat} {fn : Nat → Str} (hlen : lz.length = c) (h : ∀ (j : Nat) (z : Str), (lz.map (·.1))[j]? = some z → z = fn j) : lz.map (·.1) = (List.range c).map fn := by
  refine List.ext_getElem? fun j => ?_
  cases e1 : (lz.map (·.1))[j]? with
  | none =>
    rw [List.getElem?_eq_none_iff, List.length_map] at e1
    rw [List.getElem?_eq_none (by rw [List.length_map, List.length_range]; lia)]
  | some z =>
    have hj : j < c := by
      rcases Nat.lt_or_ge j c with q | q
      · exact q
      · rw [List.getElem?_eq_none (by rw [List.length_map]; lia)] at e1; cases e1
    rw [h j z e1, List.getElem?_map, List.getElem?_range hj]; rfl
theorem law6 {name qual : Str} {params : Arguments} {body rs : List Stmt} {s1 s2 s3 s4 s5 s6 s7 s8 s9 : Stmt} {scope : Scope} {dV kV doc pm cdv ct oc : Value} {an od : Option Addr} {osl : Array (Option Value)} {L' D8 D9 : Addr}
   {g : Heap} {m' : Str → Option Value} {base : List (Addr × Obj)} {E' : Value → Shared → Prop} {Q : Flow → Shared → Prop} {o3 o5 o6 : Obj} {c e8 e9 : Nat} {nm : Nat → List Nat} {tc : Tok} {mk : Nat → Nat} {mv : List Value} {l : List (Str × Tok)}
   (ho : (hd.heap_39 w.params).lookup 243 = some ⟨oc, od, .func (fnX name qual params body scope [] dV kV doc pm an cdv ct), osl⟩)
   (hb : body = s1 :: s2 :: s3 :: s4 :: s5 :: s6 :: s7 :: s8 :: s9 :: rs)
   (X' : (hd.heap_39 w.params).In g) (T' : TopRead p loose mg mb g) (B' : BM g mg) (F : Fr g L' s.heap m') (N : News g L' s.heap base) (hA : Room A 20)
   (hc3 : o3.data = .cell (some (.int c tc))) (hc5 : o5.data = .cell (some (.ref D8))) (hc6 : o6.data = .cell (some (.ref D9))) (h3b : (L' + 1 + 1 + 1, o3) ∈ base) (h5b : (L' + 1 + 1 + 1 + 1 + 1, o5) ∈ base) (h6b : (L' + 1 + 1 + 1 + 1 + 1 + 1, o6) ∈ base)
   (h8b : (D8, listOf mv.toArray e8) ∈ base) (h9b : (D9, listOf (txts l).toArray e9) ∈ base) (hmv : IntsAre mv ((List.range c).map fun k => (mk k : Int))) (hmk : ∀ k, mk k ≤ 4) (hnm : ∀ k, (nm k).length ≤ 8) (hl : l.map (·.1) = (List.range c).map (fun k => (⟨(nm k).toArray⟩ : Str))) (hc : c ≤ 12)
   (h : ∀ h' tk D10 (l : List (Str × Tok)) e m'', Fr g L' h' m'' → News g L' h' ((D10, listOf (txts l).toArray e) :: base) → m'' ("due" : Str) = some (.ref D10) → (∀ y, y ≠ ("due" : Str) → m'' y = m' y) → l.map (·.1) = (List.range c).map (fun k => card (bod (1 + mk k) (nm k))) →
     wpAny (model prog w) A (execs rs (envX qual scope L' 243 cdv (cellsFrom (L' + 1) scope.names []))) Q E' { s with heap := h', toks := tk }) :
   wpAny (model prog w) A (execs (s9 :: rs) (envX qual scope L' 243 cdv (cellsFrom (L' + 1) scope.names []))) Q E' s := by
  have e := fnE (look_inj ho (by with_unfolding_all exact rfl))
  have E0 := envE (L := L') (a := 243) e.2.1 e.2.2.1 e.2.2.2 (congrArg (List.drop 8) (hb.symm.trans e.1))
  dsimp only [List.drop] at E0
  have E1 := envE (L := L') (a := 243) e.2.1 e.2.2.1 e.2.2.2 (congrArg (List.drop 9) (hb.symm.trans e.1))
  dsimp only [List.drop] at E1
  rw [E1] at h
  clear E1
  rw [E0]
  clear E0 e ho hb oc dV kV doc pm cdv ct
  iterate 6 walk1
  all_goals (try walk_at "us")
  refine nameX_C N rfl h3b hc3 ?_
  iterate 2 walk1
  all_goals (try walk_at "us")
  rename IsRange _ _ _ _ _ _ _ _ => R1
  rename News _ _ _ _ => N1
  rename Fr _ _ _ _ => F1
  refine LCg.CompSrc.range hA.handled F1 N1 R1 (smallUp0 c (by lia)) (n := c) (rangeUp0 c) (by rw [sizeLine_eq]; lia) fun gg => ?_
  refine rest_E (fun i y => ∃ t, y = .str (card (bod (1 + mk i) (nm i))) t) (fun i ys v I oI C oC D m₂ h2 tk2 E2 hi hPi hC hx F2 N2 off2 => ?_) trivial (fun ys hlen hys => ?_)
  · refine Exists.elim hPi fun tv zr2 => ?_
    (try clear hPi)
    subst zr2
    rw [show (0 : Int) + (i : Int) = (i : Int) from by lia] at hx
    clear F1 N1 R1
    have m5 : ∀ q ∈ base, q ∈ (I, oI) :: (C, oC) :: (D, lst ys) :: base := fun q hq => .tail _ (.tail _ (.tail _ hq))
    iterate 7 walk1
    iterate 1 walk1
    all_goals (try walk_at "us")
    refine lcf_cell N2 rfl (m5 _ h5b) hc5 ?_ rfl rfl
    iterate 1 walk1
    all_goals (try walk_at "us")
    have emk : ((List.range c).map fun k => (mk k : Int)).getD ((i : Int)).toNat 0 = (mk i : Int) := by simp [List.getD, hi]
    refine ksa_sub N2 (m5 _ h8b) hmv (Int.natCast_nonneg _) (by rw [List.length_map, List.length_range]; lia) (by lia) (fun tb => ?_)
    rw [emk]
    have hm4 := hmk i
    iterate 7 walk1
    all_goals (try walk_at "us")
    refine lcf_cell N2 rfl (m5 _ h5b) hc5 ?_ rfl rfl
    iterate 1 walk1
    all_goals (try walk_at "us")
    refine ksa_sub N2 (m5 _ h8b) hmv (Int.natCast_nonneg _) (by rw [List.length_map, List.length_range]; lia) (by lia) (fun tb2 => ?_)
    rw [emk]
    iterate 4 walk1
    all_goals (try walk_at "us")
    refine lcf_cell N2 rfl (m5 _ h6b) hc6 ?_ rfl rfl
    iterate 1 walk1
    all_goals (try walk_at "us")
    have hob : ∃ tn, (txts l)[i]? = some (.str (⟨(nm i).toArray⟩ : Str) tn) := by
      have h1 : (l.map (·.1))[i]? = some (⟨(nm i).toArray⟩ : Str) := by rw [hl, List.getElem?_map, List.getElem?_range hi]; rfl
      rw [List.getElem?_map, Option.map_eq_some_iff] at h1
      refine Exists.elim h1 fun q hx => an2 hx fun h2 h3 => ?_
      (try clear h1)
      refine ⟨q.2, ?_⟩
      rw [← h3]
      show (l.map _)[i]? = _
      rw [List.getElem?_map, h2]; rfl
    refine Exists.elim hob fun tn hn => ?_
    clear hob
    refine itemAt (k := (i : Int)) ⟨_, (N2 _ (m5 _ h9b)).1, rfl, _, rfl⟩ (Int.natCast_nonneg _) (by lia) (by rw [Int.toNat_natCast, List.getElem?_toArray]; exact hn) ?_
    have hnl : (⟨(nm i).toArray⟩ : Str).length ≤ 8 := by
      show (nm i).toArray.size ≤ 8
      rw [List.size_toArray]; exact hnm i
    have ecard := due_card hm4 (nm i)
    iterate 3 walk1
    all_goals (try walk_at "us")
    exact xi2 _ _ ⟨rfl, F2, N2, _, congrArg (fun z => Value.str z _) ecard⟩
  · obtain ⟨lz, rfl, hlz⟩ := strs_of_each (P := fun j z => z = card (bod (1 + mk j) (nm j))) (fun j y hj => by obtain ⟨t, e⟩ := hys j y hj; exact xi2 _ t ⟨e, rfl⟩)
    intro D10 h4 tk4 F4 N4 off4
    clear F1 N1
    try dsimp only
    (try walk_at "us")
    exact h h4 _ D10 lz _ _ F4 N4 (if_pos rfl) (fun y hy => if_neg hy) (strs_eq (by rw [List.length_map] at hlen; exact hlen) hlz)

end
end

section
open PySem PySem.W PySem.Calls PyProof.Rows
section
variable {prog : Program} {w : World} {A : Around} {E : Value → Shared → Prop} {s : Shared} {h₀ : Heap} {L : Addr} {m : Str → Option Value} {pg : PG} {st : ST} {rest : List (Addr × Obj)} {p : Program} {loose : List Str} {mg mb : Str → Option Value}
open LCg
theorem str_layAll0 : ∀ ns : List Str, (∀ x ∈ ns, PyData.strOk x = true) → PyData.canLayAll0 (ns.map PyData.str) = true
  | [], _ => rfl
  | x :: r, h => by
    have h1 := h x (.head _)
    simp [PyData.canLayAll0, PyData.canLay0, str_layAll0 r fun y hy => h y (.tail _ hy), h1]
theorem str_depthAll : ∀ ns : List Str, PyData.depthAll (ns.map PyData.str) = 0
  | [] => rfl
  | _ :: r => by simp [PyData.depthAll, PyData.depth, str_depthAll r]
theorem str_shaped (ns : List Str) (h : ∀ x ∈ ns, PyData.strOk x = true) : SeqAt.shaped (.list (ns.map PyData.str)) = true := by
  simp [SeqAt.shaped, PyData.canLay0, PyData.depth, str_layAll0 ns h, str_depthAll]
theorem str_sameAll : ∀ ns : List Str, PySem.Spec.sameAll (ns.map PyData.str) (ns.map PyData.str) = true
  | [] => by simp [PySem.Spec.sameAll]
  | a :: r => by simp only [List.map_cons, PySem.Spec.sameAll, PySem.Spec.same, str_sameAll r]; simp
theorem str_carried : ∀ l : List (Str × Tok), CarriedAll (txts l) ((l.map (·.1)).map PyData.str)
  | [] => .nil
  | q :: r => .cons (.str q.1 q.2) (str_carried r)
theorem ne_strs {a b : Addr} {l1 l2 : List (Str × Tok)} {Q : Value → Shared → Prop} (ha : s.heap.IsList a (txts l1).toArray) (hb : s.heap.IsList b (txts l2).toArray) (he : l1.map (·.1) = l2.map (·.1)) (hz : ∀ x ∈ l1.map (·.1), PyData.strOk x = true) (hu : A.units + 64 < cLine) (h : Q (.bool false) s) :
    wpAny (model prog w) A (compareOp .NotEq (.ref a) (.ref b)) Q E s := by
  have h2 := str_carried l2
  rw [← he] at h2
  refine ne_dataH_same (reads_newData ha (str_carried l1)) (reads_newData hb h2) (str_shaped _ hz) (str_shaped _ hz) hu (SeqAt.noMix_of_shape (.list .str) rfl _ _ (list_map_has fun _ => rfl) (list_map_has fun _ => rfl)) ?_
  have e : PySem.Spec.same (.list ((l1.map (·.1)).map PyData.str)) (.list ((l1.map (·.1)).map PyData.str)) = true := by
    simp only [PySem.Spec.same]; exact str_sameAll _
  rw [e]
  exact h

end
end

section
open PySem PySem.W PySem.Calls PyProof.Rows
section
variable {prog : Program} {w : World} {A : Around} {E : Value → Shared → Prop} {s : Shared} {h₀ : Heap} {L : Addr} {m : Str → Option Value} {pg : PG} {st : ST} {rest : List (Addr × Obj)} {p : Program} {loose : List Str} {mg mb : Str → Option Value}
open LCg
theorem ok_of {x : Str} (h : ∀ ch ∈ x.cps.toList, ch < 128) : PyData.strOk x = true := by
  unfold PyData.strOk
  rw [← Array.all_toList, List.all_eq_true]
  intro ch hc
  have := h ch hc
  exact decide_eq_true (by lia)
theorem card_ok (d : Nat) (nm : List Nat) (hn : ∀ ch ∈ nm, ch = 61 ∨ (65 ≤ ch ∧ ch ≤ 80)) : PyData.strOk (card (bod d nm)) = true := by
  refine ok_of fun ch hc => ?_
  have c3 : (" ;" : Str).cps.toList = [32, 59] := rfl
  have hc : ch ∈ (bod d nm ++ (" ;" : Str)).cps.toList := hc
  rw [app_list, c3] at hc
  rcases List.mem_append.mp hc with hc | hc
  · have hc : ch ∈ List.replicate d 46 ++ (List.replicate (5 - d) 45 ++ nm) := hc
    rcases List.mem_append.mp hc with hc | hc
    · rw [List.eq_of_mem_replicate hc]; decide
    · rcases List.mem_append.mp hc with hc | hc
      · rw [List.eq_of_mem_replicate hc]; decide
      · have := hn ch hc; lia
  · simp only [List.mem_cons, List.not_mem_nil, or_false] at hc; lia
theorem law7 {name qual : Str} {params : Arguments} {body rs : List Stmt} {s1 s2 s3 s4 s5 s6 s7 s8 s9 s10 : Stmt} {scope : Scope} {dV kV doc pm cdv ct oc : Value} {an od : Option Addr} {osl : Array (Option Value)} {L' D5 D10 : Addr}
   {g : Heap} {m' : Str → Option Value} {base : List (Addr × Obj)} {E' : Value → Shared → Prop} {Q : Flow → Shared → Prop} {o1 o3 o4 : Obj} {f c e5 e10 : Nat} {tf tc : Tok} {wv : Array Value} {sp rst : Nat → Nat} {l : List (Str × Tok)} {tb1 tb2 : Tb}
   (ho : (hd.heap_39 w.params).lookup 243 = some ⟨oc, od, .func (fnX name qual params body scope [] dV kV doc pm an cdv ct), osl⟩)
   (hb : body = s1 :: s2 :: s3 :: s4 :: s5 :: s6 :: s7 :: s8 :: s9 :: s10 :: rs)
   (hP : PO prog) (X' : (hd.heap_39 w.params).In g) (T' : TopRead p loose mg mb g) (B' : BM g mg) (F : Fr g L' s.heap m') (N : News g L' s.heap ((157, X.tableObj tb1.arr) :: (164, X.tableObj tb2.arr) :: base)) (hA : Room A 30) (hG : AllBare s.gens)
   (hoff : ∀ q ∈ base, q.1 ≠ 157 ∧ q.1 ≠ 164)
   (hc1 : o1.data = .cell (some (.ref D5))) (hc3 : o3.data = .cell (some (.int c tc))) (hc4 : o4.data = .cell (some (.int f tf))) (h1b : (L' + 1, o1) ∈ base) (h3b : (L' + 1 + 1 + 1, o3) ∈ base) (h4b : (L' + 1 + 1 + 1 + 1, o4) ∈ base)
   (hD5 : (D5, listOf wv e5) ∈ base) (hwv : ∀ t, t < 4 → ∃ at' u1 u2, wv[t]? = some (.ref at') ∧ (at', tupO [.int (sp t) u1, .int (rst t) u2]) ∈ base) (hsr : ∀ t, t < 4 → 1 ≤ sp t ∧ sp t ≤ 6 ∧ rst t ≤ 2000000000) (hf : f + c ≤ 2000000000) (hc : 1 ≤ c ∧ c ≤ 12)
   (hm : m' ("due" : Str) = some (.ref D10)) (h10b : (D10, listOf (txts l).toArray e10) ∈ base) (hl : l.map (·.1) = (List.range c).map (fun k => card (bod (1 + marks sp rst (f + k)) (nameOf (f + c) (f + k)))))
   (h : ∀ h' g' tk tb1' tb2', Fr g L' h' m' → News g L' h' ((157, X.tableObj (Tb.arr tb1')) :: (164, X.tableObj (Tb.arr tb2')) :: base) → AllBare g' →
     wpAny (model prog w) A (execs rs (envX qual scope L' 243 cdv (cellsFrom (L' + 1) scope.names []))) Q E' { s with heap := h', gens := g', toks := tk }) :
   wpAny (model prog w) A (execs (s10 :: rs) (envX qual scope L' 243 cdv (cellsFrom (L' + 1) scope.names []))) Q E' s := by
  have e := fnE (look_inj ho (by with_unfolding_all exact rfl))
  have E0 := envE (L := L') (a := 243) e.2.1 e.2.2.1 e.2.2.2 (congrArg (List.drop 9) (hb.symm.trans e.1))
  dsimp only [List.drop] at E0
  have E1 := envE (L := L') (a := 243) e.2.1 e.2.2.1 e.2.2.2 (congrArg (List.drop 10) (hb.symm.trans e.1))
  dsimp only [List.drop] at E1
  rw [E1] at h
  clear E1
  rw [E0]
  clear E0 e ho hb oc dV kV doc pm cdv ct
  have m5 : ∀ q ∈ base, q ∈ (157, X.tableObj tb1.arr) :: (164, X.tableObj tb2.arr) :: base := fun q hq => .tail _ (.tail _ hq)
  iterate 7 walk1
  all_goals (try walk_at "us")
  refine nameX_C N rfl (m5 _ h4b) hc4 ?_
  iterate 1 walk1
  all_goals (try walk_at "us")
  refine nameX_C N rfl (m5 _ h3b) hc3 ?_
  iterate 3 walk1
  all_goals (try walk_at "us")
  refine nameX_C N rfl (m5 _ h1b) hc1 ?_
  iterate 1 walk1
  all_goals (try walk_at "us")
  refine ⟨Kat F X', ?_⟩
  refine wpAny_call (sent_L hP X' T' B' F N (hA.less (by decide)) hG hoff hf hc (.inl rfl) hD5 hwv hsr fun h1 g1 tk D11 l11 e11 t1 t2 F1 N1 G1 hl1 => ?_)
  clear F N
  iterate 1 walk1
  all_goals (try walk_at "us")
  refine ne_strs (l1 := l11) (l2 := l) ⟨_, (N1 _ (.head _)).1, rfl, _, rfl⟩ ⟨_, (N1 _ (.tail _ (.tail _ (.tail _ h10b)))).1, rfl, _, rfl⟩ (hl1.trans hl.symm) (fun x hx => ?_) (by have := hA.units; have e : cLine = 9900 := rfl; lia) ?_
  · rw [hl1] at hx
    refine Exists.elim (List.mem_map.mp hx) fun k hx => an2 hx fun _ zr1 => ?_
    subst zr1
    exact card_ok _ _ nameOf_ch
  iterate 1 walk1
  all_goals (try walk_at "us")
  rw [if_neg (by decide)]
  iterate 1 walk1
  all_goals (try walk_at "us")
  try dsimp only
  (try walk_at "us")
  exact h _ _ _ _ _ F1 (News.sub N1 fun q hq => .tail _ hq) G1

end
end

section
open PySem PySem.W PySem.Calls PyProof.Rows
section
variable {prog : Program} {w : World} {A : Around} {E : Value → Shared → Prop} {s : Shared} {h₀ : Heap} {L : Addr} {m : Str → Option Value} {pg : PG} {st : ST} {rest : List (Addr × Obj)} {p : Program} {loose : List Str} {mg mb : Str → Option Value}
open LCg
theorem law8 {name qual : Str} {params : Arguments} {body rs : List Stmt} {s1 s2 s3 s4 s5 s6 s7 s8 s9 s10 s11 : Stmt} {scope : Scope} {dV kV doc pm cdv ct oc : Value} {an od : Option Addr} {osl : Array (Option Value)} {L' D7 : Addr}
   {g : Heap} {m' : Str → Option Value} {base : List (Addr × Obj)} {E' : Value → Shared → Prop} {Q : Flow → Shared → Prop} {o7 : Obj} {e7 : Nat} {v6 : List Value} {x0 x1 x2 x3 x4 x5 : Int}
   (ho : (hd.heap_39 w.params).lookup 243 = some ⟨oc, od, .func (fnX name qual params body scope [] dV kV doc pm an cdv ct), osl⟩)
   (hb : body = s1 :: s2 :: s3 :: s4 :: s5 :: s6 :: s7 :: s8 :: s9 :: s10 :: s11 :: rs)
   (X' : (hd.heap_39 w.params).In g) (T' : TopRead p loose mg mb g) (B' : BM g mg) (F : Fr g L' s.heap m') (N : News g L' s.heap ((L' + 1 + 1 + 1 + 1 + 1 + 1 + 1, o7) :: (D7, listOf v6.toArray e7) :: base)) (hA : Room A 30)
   (hm2 : m' ("six" : Str) = some (.ref D7)) (hc7 : o7.data = .cell none) (hoff : ∀ q ∈ base, q.1 ≠ L' + 1 + 1 + 1 + 1 + 1 + 1 + 1) (h6 : IntsAre v6 [x0, x1, x2, x3, x4, x5])
   (h : ∀ h' tk o7' t7, Fr g L' h' m' → News g L' h' ((L' + 1 + 1 + 1 + 1 + 1 + 1 + 1, o7') :: (D7, listOf v6.toArray e7) :: base) → o7'.data = .cell (some (.int (x5.fmod 1000000000) t7)) →
     wpAny (model prog w) A (execs rs (envX qual scope L' 243 cdv (cellsFrom (L' + 1) scope.names []))) Q E' { s with heap := h', toks := tk }) :
   wpAny (model prog w) A (execs (s11 :: rs) (envX qual scope L' 243 cdv (cellsFrom (L' + 1) scope.names []))) Q E' s := by
  have e := fnE (look_inj ho (by with_unfolding_all exact rfl))
  have E0 := envE (L := L') (a := 243) e.2.1 e.2.2.1 e.2.2.2 (congrArg (List.drop 10) (hb.symm.trans e.1))
  dsimp only [List.drop] at E0
  have E1 := envE (L := L') (a := 243) e.2.1 e.2.2.1 e.2.2.2 (congrArg (List.drop 11) (hb.symm.trans e.1))
  dsimp only [List.drop] at E1
  rw [E1] at h
  clear E1
  rw [E0]
  clear E0 e ho hb oc dV kV doc pm cdv ct
  iterate 12 walk1
  all_goals (try walk_at "us")
  rename News _ _ _ _ => N1
  rename Fr _ _ _ _ => F1
  have q7 : D7 ≠ L' + 1 + 1 + 1 + 1 + 1 + 1 + 1 := News.neD N1 (.tail _ (.head _)) (.head _) (by rw [hc7]; intro e; cases e)
  refine storeX_C F1 N1 rfl (UpdF.head fun q hq => ?_) hc7 (fun h2 o7' F2 N2 c7 => ?_) (by rfl) (by rfl)
  · revert q hq
    refine all_cons ?_ fun q hq => ?_
    · exact q7
    · exact hoff q hq
  try dsimp only at N2 c7 ⊢
  rw [show ((10 : Int) ^ Int.toNat 9) = 1000000000 from rfl] at c7
  (try walk_at "us")
  exact h h2 _ o7' _ F2 N2 c7

end
end

section
open PySem PySem.W PySem.Calls PyProof.Rows
section
variable {prog : Program} {w : World} {A : Around} {E : Value → Shared → Prop} {s : Shared} {h₀ : Heap} {L : Addr} {m : Str → Option Value} {pg : PG} {st : ST} {rest : List (Addr × Obj)} {p : Program} {loose : List Str} {mg mb : Str → Option Value}
open LCg
theorem law9 {name qual : Str} {params : Arguments} {body rs : List Stmt} {s1 s2 s3 s4 s5 s6 s7 s8 s9 s10 s11 s12 : Stmt} {scope : Scope} {dV kV doc pm cdv ct oc : Value} {an od : Option Addr} {osl : Array (Option Value)} {L' D5 : Addr}
   {g : Heap} {m' : Str → Option Value} {base : List (Addr × Obj)} {E' : Value → Shared → Prop} {Q : Flow → Shared → Prop} {o1 o3 o7 : Obj} {f c e5 : Nat} {tf tc : Tok} {wv : Array Value} {sp rst : Nat → Nat} {tb1 tb2 : Tb}
   (ho : (hd.heap_39 w.params).lookup 243 = some ⟨oc, od, .func (fnX name qual params body scope [] dV kV doc pm an cdv ct), osl⟩)
   (hb : body = s1 :: s2 :: s3 :: s4 :: s5 :: s6 :: s7 :: s8 :: s9 :: s10 :: s11 :: s12 :: rs)
   (hP : PO prog) (X' : (hd.heap_39 w.params).In g) (T' : TopRead p loose mg mb g) (B' : BM g mg) (F : Fr g L' s.heap m') (N : News g L' s.heap ((157, X.tableObj tb1.arr) :: (164, X.tableObj tb2.arr) :: base)) (hA : Room A 30) (hG : AllBare s.gens)
   (hoff : ∀ q ∈ base, q.1 ≠ 157 ∧ q.1 ≠ 164)
   (hc1 : o1.data = .cell (some (.ref D5))) (hc3 : o3.data = .cell (some (.int c tc))) (hc7 : o7.data = .cell (some (.int f tf))) (h1b : (L' + 1, o1) ∈ base) (h3b : (L' + 1 + 1 + 1, o3) ∈ base) (h7b : (L' + 1 + 1 + 1 + 1 + 1 + 1 + 1, o7) ∈ base)
   (hD5 : (D5, listOf wv e5) ∈ base) (hwv : ∀ t, t < 4 → ∃ at' u1 u2, wv[t]? = some (.ref at') ∧ (at', tupO [.int (sp t) u1, .int (rst t) u2]) ∈ base) (hsr : ∀ t, t < 4 → 1 ≤ sp t ∧ sp t ≤ 6 ∧ rst t ≤ 2000000000) (hf : f + c ≤ 2000000000) (hc : 1 ≤ c ∧ c ≤ 12)
   (h : ∀ h' g' tk D11 (l : List (Str × Tok)) e tb1' tb2' m'', Fr g L' h' m'' → News g L' h' ((157, X.tableObj (Tb.arr tb1')) :: (164, X.tableObj (Tb.arr tb2')) :: (D11, listOf (txts l).toArray e) :: base) → AllBare g' → m'' ("cards" : Str) = some (.ref D11) → (∀ y, y ≠ ("cards" : Str) → m'' y = m' y) →
     l.map (·.1) = (List.range c).map (fun k => card (bod (1 + marks sp rst (f + k)) (nameOf (f + c) (f + k)))) →
     wpAny (model prog w) A (execs rs (envX qual scope L' 243 cdv (cellsFrom (L' + 1) scope.names []))) Q E' { s with heap := h', gens := g', toks := tk }) :
   wpAny (model prog w) A (execs (s12 :: rs) (envX qual scope L' 243 cdv (cellsFrom (L' + 1) scope.names []))) Q E' s := by
  have e := fnE (look_inj ho (by with_unfolding_all exact rfl))
  have E0 := envE (L := L') (a := 243) e.2.1 e.2.2.1 e.2.2.2 (congrArg (List.drop 11) (hb.symm.trans e.1))
  dsimp only [List.drop] at E0
  have E1 := envE (L := L') (a := 243) e.2.1 e.2.2.1 e.2.2.2 (congrArg (List.drop 12) (hb.symm.trans e.1))
  dsimp only [List.drop] at E1
  rw [E1] at h
  clear E1
  rw [E0]
  clear E0 e ho hb oc dV kV doc pm cdv ct
  have m5 : ∀ q ∈ base, q ∈ (157, X.tableObj tb1.arr) :: (164, X.tableObj tb2.arr) :: base := fun q hq => .tail _ (.tail _ hq)
  iterate 6 walk1
  all_goals (try walk_at "us")
  refine nameX_C N rfl (m5 _ h7b) hc7 ?_
  walk1
  all_goals (try walk_at "us")
  refine nameX_C N rfl (m5 _ h3b) hc3 ?_
  iterate 5 walk1
  all_goals (try walk_at "us")
  refine nameX_C N rfl (m5 _ h1b) hc1 ?_
  walk1
  all_goals (try walk_at "us")
  refine ⟨Kat F X', ?_⟩
  refine wpAny_call (sent_L hP X' T' B' F N (hA.less (by decide)) hG hoff hf hc (.inr rfl) hD5 hwv hsr fun h1 g1 tk D11 l11 e11 t1 t2 F1 N1 G1 hl1 => ?_)
  clear F N
  walk1
  all_goals (try walk_at "us")
  rename News _ _ _ _ => N2
  rename Fr _ _ _ _ => F2
  (try walk_at "us")
  refine h _ _ _ D11 l11 e11 t1 t2 _ F2 (News.sub N2 fun q hq => ?_) G1 (if_pos rfl) (fun y hy => if_neg hy) hl1
  revert q hq
  exact all_cons (mem_at 1 rfl) (all_cons (mem_at 2 rfl) (all_cons (mem_at 0 rfl) (fun q hq => .tail _ (.tail _ (.tail _ hq)))))

end
end

section
open PySem PySem.W PySem.Calls PyProof.Rows
section
variable {prog : Program} {w : World} {A : Around} {E : Value → Shared → Prop} {s : Shared} {h₀ : Heap} {L : Addr} {m : Str → Option Value} {pg : PG} {st : ST} {rest : List (Addr × Obj)} {p : Program} {loose : List Str} {mg mb : Str → Option Value}
open LCg
theorem strip_card {d : Nat} {nm : List Nat} (hn : ∀ ch ∈ nm, ch = 61 ∨ (65 ≤ ch ∧ ch ≤ 80)) : Txt.lstripChars (Txt.lstripChars (card (bod d nm)) ("." : Str)) ("-" : Str) = (⟨nm.toArray⟩ : Str) ++ (" ;" : Str) := by
  have e46 : ∀ c, ("." : Str).cps.contains c = (c == 46) := fun c => by
    have : ("." : Str).cps = #[46] := rfl
    rw [this]; by_cases h : c = 46 <;> simp [h]
  have e45 : ∀ c, ("-" : Str).cps.contains c = (c == 45) := fun c => by
    have : ("-" : Str).cps = #[45] := rfl
    rw [this]; by_cases h : c = 45 <;> simp [h]
  have drop_rep : ∀ (p : Nat → Bool) (c : Nat) (x : List Nat) (m : Nat), p c = true → (List.replicate m c ++ x).dropWhile p = x.dropWhile p := fun p c x m hp => by
    induction m with
    | zero => rfl
    | succ m ih => rw [List.replicate_succ, List.cons_append, List.dropWhile_cons, if_pos hp, ih]
  have hnm : ∀ p : Nat → Bool, p 61 = false → (∀ c, 65 ≤ c → p c = false) → p 32 = false → (nm ++ [32, 59]).dropWhile p = nm ++ [32, 59] := fun p h1 h2 h3 => by
    cases nm with
    | nil => simp [h3]
    | cons c r =>
      have : p c = false := by
        rcases hn c (.head _) with rfl | h
        · exact h1
        · exact h2 c h.1
      rw [List.cons_append, List.dropWhile_cons, this]; rfl
  have c3 : (" ;" : Str).cps.toList = [32, 59] := rfl
  have hq : (card (bod d nm)).cps.toList = List.replicate d 46 ++ (List.replicate (5 - d) 45 ++ (nm ++ [32, 59])) := by
    show (bod d nm ++ (" ;" : Str)).cps.toList = _
    rw [app_list, c3]
    show (List.replicate d 46 ++ (List.replicate (5 - d) 45 ++ nm)) ++ [32, 59] = _
    simp
  have t1 : (Txt.lstripChars (card (bod d nm)) ("." : Str)).cps.toList = List.replicate (5 - d) 45 ++ (nm ++ [32, 59]) := by
    rw [lstrip_list, hq, drop_rep _ _ _ _ (by rw [e46]; rfl)]
    cases h5 : 5 - d with
    | zero => exact hnm _ (by rw [e46]; rfl) (fun c h => by rw [e46]; exact beq_eq_false_iff_ne.mpr (by lia)) (by rw [e46]; rfl)
    | succ k => rw [List.replicate_succ, List.cons_append, List.dropWhile_cons, e46]; rfl
  refine str_ext ?_
  rw [lstrip_list, t1, drop_rep _ _ _ _ (by rw [e45]; rfl), hnm _ (by rw [e45]; rfl) (fun c h => by rw [e45]; exact beq_eq_false_iff_ne.mpr (by lia)) (by rw [e45]; rfl), app_list, c3]
theorem strip_len {d : Nat} {nm : List Nat} (hn : ∀ ch ∈ nm, ch = 61 ∨ (65 ≤ ch ∧ ch ≤ 80)) : (Txt.lstripChars (card (bod d nm)) ("." : Str)).length = (5 - d) + nm.length + 2 := by
  have e46 : ∀ c, ("." : Str).cps.contains c = (c == 46) := fun c => by
    have : ("." : Str).cps = #[46] := rfl
    rw [this]; by_cases h : c = 46 <;> simp [h]
  have c3 : (" ;" : Str).cps.toList = [32, 59] := rfl
  have hq : (card (bod d nm)).cps.toList = List.replicate d 46 ++ (List.replicate (5 - d) 45 ++ (nm ++ [32, 59])) := by
    show (bod d nm ++ (" ;" : Str)).cps.toList = _
    rw [app_list, c3]
    show (List.replicate d 46 ++ (List.replicate (5 - d) 45 ++ nm)) ++ [32, 59] = _
    simp
  have t1 : (Txt.lstripChars (card (bod d nm)) ("." : Str)).cps.toList = List.replicate (5 - d) 45 ++ (nm ++ [32, 59]) := by
    rw [lstrip_list, hq]
    have : ∀ (m : Nat) (x : List Nat), (List.replicate m 46 ++ x).dropWhile ("." : Str).cps.contains = x.dropWhile ("." : Str).cps.contains := fun m x => by
      induction m with
      | zero => rfl
      | succ m ih => rw [List.replicate_succ, List.cons_append, List.dropWhile_cons, if_pos (by rw [e46]; rfl), ih]
    rw [this]
    cases h5 : 5 - d with
    | zero =>
      cases nm with
      | nil =>
        show (([32, 59] : List Nat).dropWhile _) = _
        rw [List.dropWhile_cons, e46]; rfl
      | cons c r =>
        have hc := hn c (.head _)
        have : (c == 46) = false := beq_eq_false_iff_ne.mpr (by lia)
        show ((c :: (r ++ [32, 59])).dropWhile _) = _
        rw [List.dropWhile_cons, e46, this]; rfl
    | succ k => rw [List.replicate_succ, List.cons_append, List.dropWhile_cons, e46]; rfl
  have := congrArg List.length t1
  rw [Array.length_toList] at this
  show (Txt.lstripChars (card (bod d nm)) ("." : Str)).cps.size = _
  rw [this]; simp; lia
theorem law10 {name qual : Str} {params : Arguments} {body rs : List Stmt} {s1 s2 s3 s4 s5 s6 s7 s8 s9 s10 s11 s12 s13 : Stmt} {scope : Scope} {dV kV doc pm cdv ct oc : Value} {an od : Option Addr} {osl : Array (Option Value)} {L' D11 : Addr}
   {g : Heap} {m' : Str → Option Value} {base : List (Addr × Obj)} {E' : Value → Shared → Prop} {Q : Flow → Shared → Prop} {o3 o7 : Obj} {f c e11 : Nat} {tf tc : Tok} {l : List (Str × Tok)} {mk : Nat → Nat}
   (ho : (hd.heap_39 w.params).lookup 243 = some ⟨oc, od, .func (fnX name qual params body scope [] dV kV doc pm an cdv ct), osl⟩)
   (hb : body = s1 :: s2 :: s3 :: s4 :: s5 :: s6 :: s7 :: s8 :: s9 :: s10 :: s11 :: s12 :: s13 :: rs)
   (X' : (hd.heap_39 w.params).In g) (T' : TopRead p loose mg mb g) (B' : BM g mg) (F : Fr g L' s.heap m') (N : News g L' s.heap base) (hA : Room A 30)
   (hc3 : o3.data = .cell (some (.int c tc))) (hc7 : o7.data = .cell (some (.int f tf))) (h3b : (L' + 1 + 1 + 1, o3) ∈ base) (h7b : (L' + 1 + 1 + 1 + 1 + 1 + 1 + 1, o7) ∈ base) (hf : f ≤ 2000000000) (hc : c ≤ 12) (hmk : ∀ k, mk k ≤ 4)
   (hm : m' ("cards" : Str) = some (.ref D11)) (h11b : (D11, listOf (txts l).toArray e11) ∈ base) (hl : l.map (·.1) = (List.range c).map (fun k => card (bod (1 + mk k) (nameOf (f + c) (f + k)))))
   (h : ∀ h' tk, Fr g L' h' m' → News g L' h' base →
     wpAny (model prog w) A (execs rs (envX qual scope L' 243 cdv (cellsFrom (L' + 1) scope.names []))) Q E' { s with heap := h', toks := tk }) :
   wpAny (model prog w) A (execs (s13 :: rs) (envX qual scope L' 243 cdv (cellsFrom (L' + 1) scope.names []))) Q E' s := by
  have e := fnE (look_inj ho (by with_unfolding_all exact rfl))
  have E0 := envE (L := L') (a := 243) e.2.1 e.2.2.1 e.2.2.2 (congrArg (List.drop 12) (hb.symm.trans e.1))
  dsimp only [List.drop] at E0
  have E1 := envE (L := L') (a := 243) e.2.1 e.2.2.1 e.2.2.2 (congrArg (List.drop 13) (hb.symm.trans e.1))
  dsimp only [List.drop] at E1
  rw [E1] at h
  clear E1
  rw [E0]
  clear E0 e ho hb oc dV kV doc pm cdv ct
  iterate 3 walk1
  all_goals (try walk_at "us")
  refine LCg.ListComp_U (F₀ := F) (by with_unfolding_all rfl) (by decide) (by rfl) (by decide) (by rfl) ?_
  iterate 1 walk1
  all_goals (try walk_at "us")
  have hlen0 : l.length = c := by
    have := congrArg List.length hl
    simpa using this
  refine LCg.CompSrc.ledger (its := (txts l).toArray) hA.handled F N h11b (by rw [sizeLine_eq, List.size_toArray, List.length_map]; lia) fun gg => ?_
  refine rest_E (fun i y => ∃ t, y = .str ((⟨(nameOf (f + c) (f + i)).toArray⟩ : Str) ++ (" ;" : Str)) t) (fun i ys v I oI C oC D m₂ h2 tk2 E2 hi hPi hC hx F2 N2 off2 => ?_) (.inr ⟨_, h11b, rfl, _, rfl⟩) (fun ys hlen hys => ?_)
  · clear F N
    have hob : ∃ q : Str × Tok, l[i]? = some q ∧ v = .str q.1 q.2 := by
      simp only [txts, List.getElem?_toArray, List.getElem?_map, Option.map_eq_some_iff] at hPi
      refine Exists.elim hPi fun q hx => an2 hx fun h1 h2 => ?_
      (try clear hPi)
      exact ⟨q, h1, h2.symm⟩
    refine Exists.elim hob fun q hx => an2 hx fun hq1 zr5 => ?_
    clear hob
    subst zr5
    have hic : i < c := by
      rw [← hlen0]
      rcases Nat.lt_or_ge i l.length with z | z
      · exact z
      · rw [List.getElem?_eq_none z] at hq1; cases hq1
    have hqc : q.1 = card (bod (1 + mk i) (nameOf (f + c) (f + i))) := by
      have h1 : (l.map (·.1))[i]? = some q.1 := by rw [List.getElem?_map, hq1]; rfl
      rw [hl, List.getElem?_map, List.getElem?_range hic] at h1
      exact (Option.some.inj h1).symm
    have es := strip_card (d := 1 + mk i) (nameOf_ch (n := f + c) (x := f + i))
    rw [← hqc] at es
    have hql : q.1.length ≤ 30 := by
      have h8 : (nameOf (f + c) (f + i)).length ≤ 8 := by rw [nameOf, List.length_map]; exact wl_len (f + c) 8
      have hm5 := hmk i
      rw [hqc, card_len, bod_len (by lia)]; lia
    iterate 9 walk1
    all_goals (try walk_at "us")
    refine SC.lstripChars (fun t1 k1 => ?_) (by rw [sizeLine_eq]; lia)
    have hq2 : (Txt.lstripChars q.1 ("." : Str)).length ≤ 30 := Nat.le_trans (len_lstripChars q.1 _) hql
    iterate 5 walk1
    all_goals (try walk_at "us")
    refine SC.lstripChars (fun t3 k3 => ?_) (by rw [sizeLine_eq]; lia)
    exact xi2 _ _ ⟨rfl, F2, N2, _, congrArg (fun z => Value.str z _) es⟩
  · obtain ⟨lz, rfl, hlz⟩ := strs_of_each (P := fun j z => z = (⟨(nameOf (f + c) (f + j)).toArray⟩ : Str) ++ (" ;" : Str)) (fun j y hj => by obtain ⟨t, e⟩ := hys j y hj; exact xi2 _ t ⟨e, rfl⟩)
    have elz := strs_eq (c := c) (by rw [List.length_map, List.size_toArray, List.length_map, hlen0] at hlen; exact hlen) hlz
    intro D12 h4 tk4 F4 N4 off4
    clear F N
    refine LCg.ListComp_U (F₀ := F4) (by with_unfolding_all rfl) (by decide) (by rfl) (by decide) (by rfl) ?_
    iterate 4 walk1
    all_goals (try walk_at "us")
    refine nameX_C N4 rfl (.tail _ h7b) hc7 ?_
    iterate 1 walk1
    all_goals (try walk_at "us")
    refine nameX_C N4 rfl (.tail _ h3b) hc3 ?_
    iterate 1 walk1
    all_goals (try walk_at "us")
    refine ⟨Kat F4 X', ?_⟩
    refine wpAny_call (names_K X' T' B' F4 N4 (hA.less (by decide)) hf (by lia) fun h5 D13 l13 e13 tk5 F5 N5 hl13 => ?_)
    clear F4 N4
    have hlen13 : l13.length = c := by
      have := congrArg List.length hl13
      simpa using this
    refine LCg.CompSrc.ledger (its := (txts l13).toArray) hA.handled F5 N5 (.head _) (by rw [sizeLine_eq, List.size_toArray, List.length_map]; lia) fun gg2 => ?_
    refine rest_E (fun i y => ∃ t, y = .str ((⟨(nameOf (f + c) (f + i)).toArray⟩ : Str) ++ (" ;" : Str)) t) (fun i ys v I oI C oC D m₂ h2 tk2 E2 hi hPi hC hx F2 N2 off2 => ?_) (.inr ⟨_, .head _, rfl, _, rfl⟩) (fun ys hlen2 hys2 => ?_)
    · clear F5 N5
      have hob : ∃ q : Str × Tok, l13[i]? = some q ∧ v = .str q.1 q.2 := by
        simp only [txts, List.getElem?_toArray, List.getElem?_map, Option.map_eq_some_iff] at hPi
        refine Exists.elim hPi fun q hx => an2 hx fun h1 h2 => ?_
        (try clear hPi)
        exact ⟨q, h1, h2.symm⟩
      refine Exists.elim hob fun q hx => an2 hx fun hq1 zr3 => ?_
      clear hob
      subst zr3
      have hic : i < c := by
        rw [← hlen13]
        rcases Nat.lt_or_ge i l13.length with z | z
        · exact z
        · rw [List.getElem?_eq_none z] at hq1; cases hq1
      have hqc : q.1 = (⟨(nameOf (f + c) (f + i)).toArray⟩ : Str) := by
        have h1 : (l13.map (·.1))[i]? = some q.1 := by rw [List.getElem?_map, hq1]; rfl
        rw [hl13, List.getElem?_map, List.getElem?_range hic] at h1
        exact (Option.some.inj h1).symm
      have hql : q.1.length ≤ 8 := by
        rw [hqc]
        show (nameOf (f + c) (f + i)).toArray.size ≤ 8
        rw [List.size_toArray, nameOf, List.length_map]
        exact wl_len (f + c) 8
      have eq2 : q.1 ++ (" ;" : Str) = (⟨(nameOf (f + c) (f + i)).toArray⟩ : Str) ++ (" ;" : Str) := by rw [hqc]
      iterate 4 walk1
      all_goals (try walk_at "us")
      exact xi2 _ _ ⟨rfl, F2, N2, _, congrArg (fun z => Value.str z _) eq2⟩
    · obtain ⟨ly, rfl, hly⟩ := strs_of_each (P := fun j z => z = (⟨(nameOf (f + c) (f + j)).toArray⟩ : Str) ++ (" ;" : Str)) (fun j y hj => by obtain ⟨t, e⟩ := hys2 j y hj; exact xi2 _ t ⟨e, rfl⟩)
      have ely := strs_eq (c := c) (by rw [List.length_map, List.size_toArray, List.length_map, hlen13] at hlen2; exact hlen2) hly
      intro D14 h6 tk6 F6 N6 off6
      clear F5 N5
      refine ne_strs (l1 := lz) (l2 := ly) ⟨_, (N6 _ (.tail _ (.tail _ (.head _)))).1, rfl, _, rfl⟩ ⟨_, (N6 _ (.head _)).1, rfl, _, rfl⟩ (elz.trans ely.symm) (fun x hx => ?_) (by have := hA.units; have e : cLine = 9900 := rfl; lia) ?_
      · rw [elz] at hx
        refine Exists.elim (List.mem_map.mp hx) fun k hx => an2 hx fun _ zr1 => ?_
        subst zr1
        refine ok_of fun ch hc => ?_
        rw [app_list] at hc
        rcases List.mem_append.mp hc with hc | hc
        · have := nameOf_ch (n := f + c) (x := f + k) ch hc; lia
        · have c3 : (" ;" : Str).cps.toList = [32, 59] := rfl
          rw [c3] at hc
          simp only [List.mem_cons, List.not_mem_nil, or_false] at hc; lia
      iterate 1 walk1
      all_goals (try walk_at "us")
      rw [if_neg (by decide)]
      iterate 1 walk1
      all_goals (try walk_at "us")
      try dsimp only
      (try walk_at "us")
      exact h _ _ F6 (News.sub N6 fun q hq => .tail _ (.tail _ (.tail _ hq)))

end
end

section
open PySem PySem.W PySem.Calls PyProof.Rows
section
variable {prog : Program} {w : World} {A : Around} {E : Value → Shared → Prop} {s : Shared} {h₀ : Heap} {L : Addr} {m : Str → Option Value} {pg : PG} {st : ST} {rest : List (Addr × Obj)} {p : Program} {loose : List Str} {mg mb : Str → Option Value}
open LCg
theorem law11 {name qual : Str} {params : Arguments} {body rs : List Stmt} {s1 s2 s3 s4 s5 s6 s7 s8 s9 s10 s11 s12 s13 s14 : Stmt} {scope : Scope} {dV kV doc pm cdv ct oc : Value} {an od : Option Addr} {osl : Array (Option Value)} {L' D11 : Addr}
   {g : Heap} {m' : Str → Option Value} {base : List (Addr × Obj)} {E' : Value → Shared → Prop} {Q : Flow → Shared → Prop} {f c e11 : Nat} {l : List (Str × Tok)} {mk : Nat → Nat}
   (ho : (hd.heap_39 w.params).lookup 243 = some ⟨oc, od, .func (fnX name qual params body scope [] dV kV doc pm an cdv ct), osl⟩)
   (hb : body = s1 :: s2 :: s3 :: s4 :: s5 :: s6 :: s7 :: s8 :: s9 :: s10 :: s11 :: s12 :: s13 :: s14 :: rs)
   (X' : (hd.heap_39 w.params).In g) (T' : TopRead p loose mg mb g) (B' : BM g mg) (F : Fr g L' s.heap m') (N : News g L' s.heap base) (hA : Room A 30)
   (hc : c ≤ 12) (hmk : ∀ k, mk k ≤ 4)
   (hm : m' ("cards" : Str) = some (.ref D11)) (h11b : (D11, listOf (txts l).toArray e11) ∈ base) (hl : l.map (·.1) = (List.range c).map (fun k => card (bod (1 + mk k) (nameOf (f + c) (f + k)))))
   (h : ∀ h' tk m'' D12 (vs : List Value) e, Fr g L' h' m'' → News g L' h' ((D12, listOf vs.toArray e) :: base) → m'' ("dots" : Str) = some (.ref D12) → IntsAre vs ((List.range c).map fun k => (mk k : Int)) →
     wpAny (model prog w) A (execs rs (envX qual scope L' 243 cdv (cellsFrom (L' + 1) scope.names []))) Q E' { s with heap := h', toks := tk }) :
   wpAny (model prog w) A (execs (s14 :: rs) (envX qual scope L' 243 cdv (cellsFrom (L' + 1) scope.names []))) Q E' s := by
  have e := fnE (look_inj ho (by with_unfolding_all exact rfl))
  have E0 := envE (L := L') (a := 243) e.2.1 e.2.2.1 e.2.2.2 (congrArg (List.drop 13) (hb.symm.trans e.1))
  dsimp only [List.drop] at E0
  have E1 := envE (L := L') (a := 243) e.2.1 e.2.2.1 e.2.2.2 (congrArg (List.drop 14) (hb.symm.trans e.1))
  dsimp only [List.drop] at E1
  rw [E1] at h
  clear E1
  rw [E0]
  clear E0 e ho hb oc dV kV doc pm cdv ct
  iterate 1 walk1
  all_goals (try walk_at "us")
  refine LCg.Assign_ListComp_U (F₀ := F) (by rfl) (by with_unfolding_all rfl) (by with_unfolding_all rfl) (by decide) (by rfl) (by decide) (by rfl) (by rfl) (by rfl) ?_
  iterate 1 walk1
  all_goals (try walk_at "us")
  have hlen0 : l.length = c := by
    have := congrArg List.length hl
    simpa using this
  refine LCg.CompSrc.ledger (its := (txts l).toArray) hA.handled F N h11b (by rw [sizeLine_eq, List.size_toArray, List.length_map]; lia) fun gg => ?_
  refine rest_E (fun i y => ∃ t, y = .int (mk i : Int) t) (fun i ys v I oI C oC D m₂ h2 tk2 E2 hi hPi hC hx F2 N2 off2 => ?_) (.inr ⟨_, h11b, rfl, _, rfl⟩) (fun ys hlen hys => ?_)
  · clear F N
    have hob : ∃ q : Str × Tok, l[i]? = some q ∧ v = .str q.1 q.2 := by
      simp only [txts, List.getElem?_toArray, List.getElem?_map, Option.map_eq_some_iff] at hPi
      refine Exists.elim hPi fun q hx => an2 hx fun h1 h2 => ?_
      (try clear hPi)
      exact ⟨q, h1, h2.symm⟩
    refine Exists.elim hob fun q hx => an2 hx fun hq1 zr2 => ?_
    clear hob
    subst zr2
    have hic : i < c := by
      rw [← hlen0]
      rcases Nat.lt_or_ge i l.length with z | z
      · exact z
      · rw [List.getElem?_eq_none z] at hq1; cases hq1
    have hqc : q.1 = card (bod (1 + mk i) (nameOf (f + c) (f + i))) := by
      have h1 : (l.map (·.1))[i]? = some q.1 := by rw [List.getElem?_map, hq1]; rfl
      rw [hl, List.getElem?_map, List.getElem?_range hic] at h1
      exact (Option.some.inj h1).symm
    have es := strip_len (d := 1 + mk i) (nameOf_ch (n := f + c) (x := f + i))
    rw [← hqc] at es
    have h8 : (nameOf (f + c) (f + i)).length ≤ 8 := by rw [nameOf, List.length_map]; exact wl_len (f + c) 8
    have hm5 := hmk i
    have hql : q.1.length = 5 + (nameOf (f + c) (f + i)).length + 2 := by
      rw [hqc, card_len, bod_len (by lia)]
    iterate 21 walk1
    all_goals (try walk_at "us")
    refine SC.lstripChars (fun t1 k1 => ?_) (by rw [sizeLine_eq]; lia)
    have hq2 : (Txt.lstripChars q.1 ("." : Str)).length ≤ 30 := by lia
    iterate 5 walk1
    all_goals (try walk_at "us")
    have ez : (q.1.length : Int) - ((Txt.lstripChars q.1 ("." : Str)).length : Int) - 1 = (mk i : Int) := by omega
    exact xi2 _ _ ⟨rfl, F2, N2, _, congrArg (fun z => Value.int z _) ez⟩
  · intro D12 h4 tk4 F4 N4 off4
    clear F N
    try dsimp only
    (try walk_at "us")
    refine h h4 _ _ D12 ys _ F4 N4 (if_pos rfl) (ints_at2 (by rw [hlen, List.size_toArray, List.length_map, hlen0, List.length_map, List.length_range]) fun j y hj => ?_)
    refine Exists.elim (hys j y hj) fun t zr1 => ?_
    subst zr1
    have hjc : j < c := by
      rw [List.size_toArray, List.length_map, hlen0] at hlen
      rw [← hlen]
      rcases Nat.lt_or_ge j ys.length with q | q
      · exact q
      · rw [List.getElem?_eq_none q] at hj; cases hj
    exact xi2 _ t ⟨rfl, by rw [List.getElem?_map, List.getElem?_range hjc]; rfl⟩

end
end

section
open PySem PySem.W PySem.Calls PyProof.Rows
section
variable {prog : Program} {w : World} {A : Around} {E : Value → Shared → Prop} {s : Shared} {h₀ : Heap} {L : Addr} {m : Str → Option Value} {pg : PG} {st : ST} {rest : List (Addr × Obj)} {p : Program} {loose : List Str} {mg mb : Str → Option Value}
open LCg
noncomputable def divs (sp rst : Nat → Nat) (f c t : Nat) : Int := ((f : Int) + c - 1 - rst t).fdiv (sp t) - ((f : Int) - 1 - rst t).fdiv (sp t)
theorem marks_sum {sp rst : Nat → Nat} (hsp : ∀ t, t < 4 → 1 ≤ sp t) (f c : Nat) : ((List.range c).map fun k => (marks sp rst (f + k) : Int)).sum = ((List.range 4).map fun t => divs sp rst f c t).sum := by
  have h := fun t (ht : t < 4) => met_sum (hsp t ht) (rst t) f c
  have e : ∀ c, ((List.range c).map fun k => (marks sp rst (f + k) : Int)).sum = ((((List.range c).map fun k => (met (sp 0) (rst 0) (f + k : Nat)).toNat).sum : Nat) : Int) + ((((List.range c).map fun k => (met (sp 1) (rst 1) (f + k : Nat)).toNat).sum : Nat) : Int) + ((((List.range c).map fun k => (met (sp 2) (rst 2) (f + k : Nat)).toNat).sum : Nat) : Int) + ((((List.range c).map fun k => (met (sp 3) (rst 3) (f + k : Nat)).toNat).sum : Nat) : Int) := by
    intro c
    induction c with
    | zero => rfl
    | succ c ih =>
      simp only [List.range_succ, List.map_append, List.sum_append, List.map_cons, List.map_nil, List.sum_cons, List.sum_nil]
      rw [ih]
      unfold marks
      lia
  rw [e, h 0 (by decide), h 1 (by decide), h 2 (by decide), h 3 (by decide)]
  show _ = [divs sp rst f c 0, divs sp rst f c 1, divs sp rst f c 2, divs sp rst f c 3].sum
  unfold divs
  simp only [List.sum_cons, List.sum_nil, Int.add_zero, Int.add_assoc]
theorem ints_cast {vs : List Value} {a b : List Int} (e : a = b) (h : IntsAre vs a) : IntsAre vs b := e ▸ h
theorem divs_succ (sp rst : Nat → Nat) (f c j : Nat) : ((List.range j).map fun t => divs sp rst f c t) ++ [divs sp rst f c j] = (List.range (j + 1)).map fun t => divs sp rst f c t := by
  rw [List.range_succ, List.map_append]; rfl
theorem law12 {name qual : Str} {params : Arguments} {body rs : List Stmt} {s1 s2 s3 s4 s5 s6 s7 s8 s9 s10 s11 s12 s13 s14 s15 : Stmt} {scope : Scope} {dV kV doc pm cdv ct oc : Value} {an od : Option Addr} {osl : Array (Option Value)} {L' D5 D12 : Addr}
   {g : Heap} {m' : Str → Option Value} {base : List (Addr × Obj)} {E' : Value → Shared → Prop} {Q : Flow → Shared → Prop} {o1 o3 o7 : Obj} {f c e5 e12 : Nat} {tf tc : Tok} {wv : Array Value} {sp rst : Nat → Nat} {vs : List Value}
   (ho : (hd.heap_39 w.params).lookup 243 = some ⟨oc, od, .func (fnX name qual params body scope [] dV kV doc pm an cdv ct), osl⟩)
   (hb : body = s1 :: s2 :: s3 :: s4 :: s5 :: s6 :: s7 :: s8 :: s9 :: s10 :: s11 :: s12 :: s13 :: s14 :: s15 :: rs)
   (X' : (hd.heap_39 w.params).In g) (T' : TopRead p loose mg mb g) (F : Fr g L' s.heap m') (N : News g L' s.heap base) (hA : Room A 30)
   (hc1 : o1.data = .cell (some (.ref D5))) (hc3 : o3.data = .cell (some (.int c tc))) (hc7 : o7.data = .cell (some (.int f tf))) (h1b : (L' + 1, o1) ∈ base) (h3b : (L' + 1 + 1 + 1, o3) ∈ base) (h7b : (L' + 1 + 1 + 1 + 1 + 1 + 1 + 1, o7) ∈ base)
   (hD5 : (D5, listOf wv e5) ∈ base) (hwv : ∀ t, t < 4 → ∃ at' u1 u2, wv[t]? = some (.ref at') ∧ (at', tupO [.int (sp t) u1, .int (rst t) u2]) ∈ base) (hwz : wv.size = 4) (hsr : ∀ t, t < 4 → 1 ≤ sp t ∧ sp t ≤ 6 ∧ rst t ≤ 2000000000) (hf : f + c ≤ 2000000000) (hc : c ≤ 12)
   (hm : m' ("dots" : Str) = some (.ref D12)) (h12b : (D12, listOf vs.toArray e12) ∈ base) (hv : IntsAre vs ((List.range c).map fun k => (marks sp rst (f + k) : Int)))
   (h : ∀ h' tk, Fr g L' h' m' → News g L' h' base →
     wpAny (model prog w) A (execs rs (envX qual scope L' 243 cdv (cellsFrom (L' + 1) scope.names []))) Q E' { s with heap := h', toks := tk }) :
   wpAny (model prog w) A (execs (s15 :: rs) (envX qual scope L' 243 cdv (cellsFrom (L' + 1) scope.names []))) Q E' s := by
  have e := fnE (look_inj ho (by with_unfolding_all exact rfl))
  have E0 := envE (L := L') (a := 243) e.2.1 e.2.2.1 e.2.2.2 (congrArg (List.drop 14) (hb.symm.trans e.1))
  dsimp only [List.drop] at E0
  have E1 := envE (L := L') (a := 243) e.2.1 e.2.2.1 e.2.2.2 (congrArg (List.drop 15) (hb.symm.trans e.1))
  dsimp only [List.drop] at E1
  rw [E1] at h
  clear E1
  rw [E0]
  clear E0 e ho hb oc dV kV doc pm cdv ct
  iterate 9 walk1
  all_goals (try walk_at "us")
  refine sumL hA.handled F N h12b hv fun h1 tk1 t1 F1 N1 => ?_
  clear F N
  iterate 4 walk1
  all_goals (try walk_at "us")
  refine compJ0 (h₀ := g) (L := L') (m := m') (by with_unfolding_all rfl) (fun _ _ => rfl) (fun _ => rfl) (by rfl) (by decide) ?_
  refine nameX_C N1 rfl h1b hc1 ?_
  refine srcJ_list hA.handled F1 N1 hD5 (by lia) fun I5 oI5 X5 => ?_
  refine xi7 I5 ([I5, D5]) _ _ _ _ _ ⟨rfl, X5, fun j zs nw => nw = base ∧ IntsAre zs ((List.range j).map fun t => divs sp rst f c t), ⟨rfl, .nil⟩, fun j zs nw hJ => by rw [hJ.2.length, List.length_map, List.length_range]; exact Nat.le_refl _, fun C5 D6 => ?_, fun D6 zs nw hJ hS5 h6 tk6 F6 N6 off6 => ?_⟩
  · intro j v zs nw h7 tk7 oI7 oC7 m7 E7 hj hPj hJ7 hS7 F7 N7 off7 ne7 hC7 hst7
    refine an2 hJ7 fun zr2 hzl => ?_
    (try clear hJ7)
    subst zr2
    clear F1 N1
    have hj4 : j < 4 := by lia
    refine ex3 (hwv j hj4) fun at' u1 u2 hx => an2 hx fun hw1 hw2 => ?_
    have hv : v = .ref at' := Option.some.inj (hPj.symm.trans hw1)
    subst hv
    refine wpAny_letOwnedTupleGo_listiter hst7.1 ?_
    refine assignP hA.handled (by rfl) (by rfl) (by rfl) F7 N7 hC7 off7 ne7 ⟨_, (N7 (at', _) (.tail _ (.tail _ (.tail _ hw2)))).1, rfl, _, rfl⟩ fun h8 oC8 tk8 F8 N8 hC8 => ?_
    clear F7 N7
    refine wpAny_tests_nil ?_
    rw [if_pos rfl]
    refine an3 (hsr j hj4) fun y1 y2 y3 => ?_
    iterate 5 walk1
    all_goals (try walk_at "us")
    refine lcf_cell N8 rfl (.tail _ (.tail _ (.tail _ h7b))) hc7 ?_ rfl rfl
    refine lcf_cell N8 rfl (.tail _ (.tail _ (.tail _ h3b))) hc3 ?_ rfl rfl
    iterate 6 walk1
    all_goals (try walk_at "us")
    refine floordiv_int (by lia) ?_ (Or.inl (PyProof.noPylong_small (by omega)))
    iterate 3 walk1
    all_goals (try walk_at "us")
    refine lcf_cell N8 rfl (.tail _ (.tail _ (.tail _ h7b))) hc7 ?_ rfl rfl
    iterate 5 walk1
    all_goals (try walk_at "us")
    refine floordiv_int (by lia) ?_ (Or.inl (PyProof.noPylong_small (by omega)))
    iterate 1 walk1
    all_goals (try walk_at "us")
    exact xi5 _ _ oC8 _ _ ⟨rfl, F8, N8, hC8, off7, hS7, rfl, ints_cast (divs_succ sp rst f c j) (hzl.append (.cons (divs sp rst f c j) _ .nil))⟩
  · refine an2 hJ fun zr1 hzl => ?_
    (try clear hJ)
    subst zr1
    rw [hwz] at hzl
    clear F1 N1
    iterate 1 walk1
    all_goals (try walk_at "us")
    refine sumL (vs := zs) (n := zs.length) hA.handled F6 N6 (.head _) hzl fun h7 tk7 t7 F7 N7 => ?_
    rw [← marks_sum (fun t ht => (hsr t ht).1)]
    generalize ((List.range c).map fun k => (marks sp rst (f + k) : Int)).sum = z
    iterate 2 walk1
    all_goals (try walk_at "us")
    rw [if_neg (by simp)]
    iterate 1 walk1
    all_goals (try walk_at "us")
    try dsimp only
    (try walk_at "us")
    exact h _ _ F7 (News.sub N7 fun q hq => .tail _ hq)

end
end

section
open PySem PySem.W PySem.Calls PyProof.Rows
section
variable {prog : Program} {w : World} {A : Around} {E : Value → Shared → Prop} {s : Shared} {h₀ : Heap} {L : Addr} {m : Str → Option Value} {pg : PG} {st : ST} {rest : List (Addr × Obj)} {p : Program} {loose : List Str} {mg mb : Str → Option Value}
open LCg
theorem law13 {name qual : Str} {params : Arguments} {body rs : List Stmt} {s1 s2 s3 s4 s5 s6 s7 s8 s9 s10 s11 s12 s13 s14 s15 s16 : Stmt} {scope : Scope} {dV kV doc pm cdv ct oc : Value} {an od : Option Addr} {osl : Array (Option Value)} {L' D8 D12 : Addr}
   {g : Heap} {m' : Str → Option Value} {base : List (Addr × Obj)} {E' : Value → Shared → Prop} {Q : Flow → Shared → Prop} {o5 : Obj} {e8 e12 : Nat} {vs mv : List Value} {ns ms : List Int}
   (ho : (hd.heap_39 w.params).lookup 243 = some ⟨oc, od, .func (fnX name qual params body scope [] dV kV doc pm an cdv ct), osl⟩)
   (hb : body = s1 :: s2 :: s3 :: s4 :: s5 :: s6 :: s7 :: s8 :: s9 :: s10 :: s11 :: s12 :: s13 :: s14 :: s15 :: s16 :: rs)
   (X' : (hd.heap_39 w.params).In g) (T' : TopRead p loose mg mb g) (F : Fr g L' s.heap m') (N : News g L' s.heap base) (hA : Room A 30)
   (hc5 : o5.data = .cell (some (.ref D8))) (h5b : (L' + 1 + 1 + 1 + 1 + 1, o5) ∈ base) (h8b : (D8, listOf mv.toArray e8) ∈ base) (hmv : IntsAre mv ms)
   (hm : m' ("dots" : Str) = some (.ref D12)) (h12b : (D12, listOf vs.toArray e12) ∈ base) (hv : IntsAre vs ns) (h0 : 0 < ns.length) (h1 : 0 < ms.length) (heq : ∀ M1 M2, M1 ∈ ns → (∀ a, a ∈ ns → M1 ≤ a) → M2 ∈ ms → (∀ a, a ∈ ms → M2 ≤ a) → M1 = M2)
   (h : ∀ h' tk, Fr g L' h' m' → News g L' h' base → Q (.ret (.bool true)) { s with heap := h', toks := tk }) :
   wpAny (model prog w) A (execs (s16 :: rs) (envX qual scope L' 243 cdv (cellsFrom (L' + 1) scope.names []))) Q E' s := by
  have e := fnE (look_inj ho (by with_unfolding_all exact rfl))
  have E0 := envE (L := L') (a := 243) e.2.1 e.2.2.1 e.2.2.2 (congrArg (List.drop 15) (hb.symm.trans e.1))
  dsimp only [List.drop] at E0
  rw [E0]
  clear E0 e ho hb oc dV kV doc pm cdv ct
  iterate 9 walk1
  all_goals (try walk_at "us")
  refine kso_min F N ⟨_, (N _ h12b).1, rfl, _, rfl⟩ hv h0 hA.handled fun h2 M1 t1 tk1 F1 N1 m1 a1 => ?_
  clear F N
  iterate 4 walk1
  all_goals (try walk_at "us")
  refine nameX_C N1 rfl h5b hc5 ?_
  iterate 1 walk1
  all_goals (try walk_at "us")
  refine kso_min F1 N1 ⟨_, (N1 _ h8b).1, rfl, _, rfl⟩ hmv h1 hA.handled fun h3 M2 t2 tk2 F2 N2 m2 a2 => ?_
  have eM := heq M1 M2 m1 a1 m2 a2
  subst eM
  clear F1 N1
  iterate 1 walk1
  all_goals (try walk_at "us")
  have eb : (M1 == M1) = true := by simp
  rw [eb]
  (try walk_at "us")
  exact h _ _ F2 N2

end
end

section
open PySem PySem.W PySem.Calls PyProof.Rows
section
variable {prog : Program} {w : World} {A : Around} {E : Value → Shared → Prop} {s : Shared} {h₀ : Heap} {L : Addr} {m : Str → Option Value} {pg : PG} {st : ST} {rest : List (Addr × Obj)} {p : Program} {loose : List Str} {mg mb : Str → Option Value}
open LCg
theorem News.neO {g h : Heap} {L a b : Addr} {news : List (Addr × Obj)} {o o' : Obj} {x : Data} (N : News g L h news) (h1 : (a, o) ∈ news) (h2 : (b, o') ∈ news) (d : o'.data = x) (hne : o.data ≠ x) : a ≠ b :=
  News.neD N h1 h2 (d ▸ hne)
theorem cells_ne {L a b : Nat} (h : a ≠ b) : L + a ≠ L + b := by lia
theorem low_ne {t L : Nat} (k : Nat) (h : t < L) : t ≠ L + k := by lia
theorem wish_nc {x : Int} {q : Addr × Obj} {v : Option Value} (w : Wish x q) : q.2.data ≠ .cell v := by
  refine ex2 w fun t1 t2 e => ?_
  (try clear w)
  rw [e]; intro z; cases z
theorem wish_nt {x : Int} {q : Addr × Obj} {vs : Array Value} (w : Wish x q) : q.2.data ≠ (X.tableObj vs).data := by
  refine ex2 w fun t1 t2 e => ?_
  (try clear w)
  rw [e]; intro z; cases z
noncomputable def stepOf (x : Int) : Nat := (menu x).toNat
noncomputable def restOf (x : Int) : Nat := (x.fdiv 5).toNat
theorem menu_step (x : Int) : IsStep (stepOf x) ∧ menu x = (stepOf x : Int) := by
  have h0 : 0 ≤ x.fmod 5 := Int.fmod_nonneg_of_pos _ (by decide)
  have h1 : x.fmod 5 < 5 := Int.fmod_lt_of_pos _ (by decide)
  unfold stepOf menu
  generalize x.fmod 5 = y at h0 h1
  have : y = 0 ∨ y = 1 ∨ y = 2 ∨ y = 3 ∨ y = 4 := by lia
  rcases this with rfl | rfl | rfl | rfl | rfl
  · exact ⟨.inl rfl, rfl⟩
  · exact ⟨.inr (.inl rfl), rfl⟩
  · exact ⟨.inr (.inr (.inl rfl)), rfl⟩
  · exact ⟨.inr (.inr (.inr (.inl rfl))), rfl⟩
  · exact ⟨.inr (.inr (.inr (.inr rfl))), rfl⟩
theorem rest_ok {x : Int} (h : 1 ≤ x ∧ x ≤ 1000000000) : x.fdiv 5 = (restOf x : Int) ∧ restOf x ≤ 2000000000 := by
  unfold restOf
  rw [Int.fdiv_eq_ediv_of_nonneg _ (by decide)]
  lia
theorem wish_tup {x : Int} {q : Addr × Obj} (w : Wish x q) (h : 1 ≤ x ∧ x ≤ 1000000000) : ∃ u1 u2, q = (q.1, tupO [.int (stepOf x) u1, .int (restOf x) u2]) := by
  refine ex2 w fun t1 t2 e => ?_
  (try clear w)
  refine xi2 t1 t2 ?_
  rw [← (menu_step x).2, ← (rest_ok h).1, ← e]
theorem mem_eq {α : Type} {a b : α} {l : List α} (h : a = b) (m : a ∈ l) : b ∈ l := h ▸ m
theorem step_small {n : Nat} (h : IsStep n) : 1 ≤ n ∧ n ≤ 6 := by rcases h with rfl | rfl | rfl | rfl | rfl <;> decide
theorem lawAll {name qual : Str} {params : Arguments} {body rs : List Stmt} {s1 s2 s3 s4 s5 s6 s7 s8 s9 s10 s11 s12 s13 s14 s15 s16 : Stmt} {scope : Scope} {dV kV doc pm cdv ct oc : Value} {an od : Option Addr} {osl : Array (Option Value)} {L' a : Addr}
   {g : Heap} {m' : Str → Option Value} {E' : Value → Shared → Prop} {Q : Flow → Shared → Prop} {vs : List Value} {ns : List Int} {p1 p2 p3 p4 p5 p6 p7 : Obj} {tb1 tb2 : Tb}
   (ho : (hd.heap_39 w.params).lookup 243 = some ⟨oc, od, .func (fnX name qual params body scope [] dV kV doc pm an cdv ct), osl⟩)
   (hb : body = s1 :: s2 :: s3 :: s4 :: s5 :: s6 :: s7 :: s8 :: s9 :: s10 :: s11 :: s12 :: s13 :: s14 :: s15 :: s16 :: rs)
   (hP : PO prog) (X' : (hd.heap_39 w.params).In g) (T' : TopRead p loose mg mb g) (B' : BM g mg) (F : Fr g L' s.heap m') (N : News g L' s.heap ((L' + 1, p1) :: (L' + 1 + 1, p2) :: (L' + 1 + 1 + 1, p3) :: (L' + 1 + 1 + 1 + 1, p4) :: (L' + 1 + 1 + 1 + 1 + 1, p5) :: (L' + 1 + 1 + 1 + 1 + 1 + 1, p6) :: (L' + 1 + 1 + 1 + 1 + 1 + 1 + 1, p7) :: (157, X.tableObj tb1.arr) :: (164, X.tableObj tb2.arr) :: [])) (hA : Room A 30) (hG : AllBare s.gens)
   (lt157 : 157 < L') (lt164 : 164 < L') (hm1 : m' ("script" : Str) = some (.ref a)) (hl : g.IsList a vs.toArray) (hi : IntsAre vs ns) (hn : ns.length ≤ 63)
   (d1 : p1.data = .cell none) (d2 : p2.data = .cell none) (d3 : p3.data = .cell none) (d4 : p4.data = .cell none) (d5 : p5.data = .cell none) (d6 : p6.data = .cell none) (d7 : p7.data = .cell none)
   (h : ∀ h' g' tk m'' (tb3 tb4 : Tb) news, Fr g L' h' m'' → News g L' h' news → (157, X.tableObj tb3.arr) ∈ news → (164, X.tableObj tb4.arr) ∈ news → AllBare g' → Q (.ret (.bool true)) { s with heap := h', gens := g', toks := tk }) :
   wpAny (model prog w) A (execs body (envX qual scope L' 243 cdv (cellsFrom (L' + 1) scope.names []))) Q E' s := by
  refine law1 ho hb hP X' T' B' F N (hA.less (by decide)) hm1 hl hi hn d1 (all_cons (cells_ne (L := L') (a := 2) (b := 1) (by decide))
      (all_cons (cells_ne (L := L') (a := 3) (b := 1) (by decide))
      (all_cons (cells_ne (L := L') (a := 4) (b := 1) (by decide))
      (all_cons (cells_ne (L := L') (a := 5) (b := 1) (by decide))
      (all_cons (cells_ne (L := L') (a := 6) (b := 1) (by decide))
      (all_cons (cells_ne (L := L') (a := 7) (b := 1) (by decide))
      (all_cons (low_ne 1 lt157)
      (all_cons (low_ne 1 lt164)
      all_nil)))))))) fun h1 tk1 m1 D7 D5 D6 x0 x1 x2 x3 x4 x5 u0 u1 u2 u3 u4 u5 t6 e7 e6 q0 q1 q2 q3 p1' b0 b1 b2 b3 b4 b5 w0 w1 w2 w3 F1 N1 d1' ms1 ms2 => ?_
  clear F N hm1 hl hi hn d1
  have bb0 : 1 ≤ x0 ∧ x0 ≤ 1000000000 := b0
  have bb1 : 1 ≤ x1 ∧ x1 ≤ 1000000000 := ⟨Int.le_trans (by decide) b1.1, b1.2⟩
  have bb2 : 1 ≤ x2 ∧ x2 ≤ 1000000000 := ⟨Int.le_trans (by decide) b2.1, b2.2⟩
  have bb3 : 1 ≤ x3 ∧ x3 ≤ 1000000000 := ⟨Int.le_trans (by decide) b3.1, b3.2⟩
  have hob : ∃ v6 : List Value, #[Value.int x0 u0, .int x1 u1, .int x2 u2, .int x3 u3, .int x4 u4, .int x5 u5] = v6.toArray ∧ IntsAre v6 [x0, x1, x2, x3, x4, x5] := ⟨_, rfl, .cons _ _ (.cons _ _ (.cons _ _ (.cons _ _ (.cons _ _ (.cons _ _ .nil)))))⟩
  refine Exists.elim hob fun v6 hx => an2 hx fun h6e h6 => ?_
  clear hob
  rw [h6e] at N1
  clear h6e
  have hob : ∃ wl : List Value, [Value.ref q0.1, .ref q1.1, .ref q2.1, .ref q3.1] = wl := ⟨_, rfl⟩
  refine Exists.elim hob fun wl ewl => ?_
  clear hob
  rw [ewl] at N1
  have hob : ∃ sp : Nat → Nat, (fun t => stepOf (([x0, x1, x2, x3] : List Int).getD t 0)) = sp := ⟨_, rfl⟩
  refine Exists.elim hob fun sp esp => ?_
  clear hob
  have hob : ∃ rst : Nat → Nat, (fun t => restOf (([x0, x1, x2, x3] : List Int).getD t 0)) = rst := ⟨_, rfl⟩
  refine Exists.elim hob fun rst erst => ?_
  clear hob
  have hsp : ∀ t, t < 4 → IsStep (sp t) := fun t ht => by rw [← esp]; exact (menu_step _).1
  have hrs : ∀ t, t < 4 → rst t ≤ 2000000000 := fun t ht => by
    rw [← erst]
    rcases four ht with rfl | rfl | rfl | rfl
    · exact (rest_ok bb0).2
    · exact (rest_ok bb1).2
    · exact (rest_ok bb2).2
    · exact (rest_ok bb3).2
  have hsr : ∀ t, t < 4 → 1 ≤ sp t ∧ sp t ≤ 6 ∧ rst t ≤ 2000000000 := fun t ht => ⟨(step_small (hsp t ht)).1, (step_small (hsp t ht)).2, hrs t ht⟩
  have wvS : ∀ base : List (Addr × Obj), q0 ∈ base → q1 ∈ base → q2 ∈ base → q3 ∈ base → ∀ t, t < 4 → ∃ at' u1 u2, wl.toArray[t]? = some (.ref at') ∧ (at', tupO [.int (sp t) u1, .int (rst t) u2]) ∈ base := fun base m0 m1 m2 m3 t ht => by
    rw [← ewl, ← esp, ← erst]
    refine ex2 (wish_tup w0 bb0) fun a0 c0 z0 => ?_
    refine ex2 (wish_tup w1 bb1) fun a1 c1 z1 => ?_
    refine ex2 (wish_tup w2 bb2) fun a2 c2 z2 => ?_
    refine ex2 (wish_tup w3 bb3) fun a3 c3 z3 => ?_
    rcases four ht with rfl | rfl | rfl | rfl
    · exact xi3 q0.1 a0 c0 ⟨rfl, mem_eq z0 m0⟩
    · exact xi3 q1.1 a1 c1 ⟨rfl, mem_eq z1 m1⟩
    · exact xi3 q2.1 a2 c2 ⟨rfl, mem_eq z2 m2⟩
    · exact xi3 q3.1 a3 c3 ⟨rfl, mem_eq z3 m3⟩
  have hwz : wl.toArray.size = 4 := by rw [← ewl]; rfl
  clear esp erst ewl
  refine law2 (o1 := p1') (D5 := D5) (base := (L' + 1, p1') :: (D5, lst wl) :: q0 :: q1 :: q2 :: q3 :: (D7, listOf v6.toArray e7) :: (L' + 1 + 1 + 1, p3) :: (L' + 1 + 1 + 1 + 1, p4) :: (L' + 1 + 1 + 1 + 1 + 1, p5) :: (L' + 1 + 1 + 1 + 1 + 1 + 1, p6) :: (L' + 1 + 1 + 1 + 1 + 1 + 1 + 1, p7) :: (157, X.tableObj tb1.arr) :: (164, X.tableObj tb2.arr) :: []) ho hb X' T' F1 (News.pick N1 [1, 8, 0, 2, 3, 4, 5, 6, 7, 9, 10, 11, 12, 13, 14, 15] rfl) (hA.less (by decide)) ms2 d1' d2 (mem_at 0 rfl) (all_cons (cells_ne (L := L') (a := 1) (b := 2) (by decide))
      (all_cons (News.neO N1 (mem_at 2 rfl) (mem_at 8 rfl) d2 (nc_seq))
      (all_cons (News.neO N1 (mem_at 3 rfl) (mem_at 8 rfl) d2 (wish_nc w0))
      (all_cons (News.neO N1 (mem_at 4 rfl) (mem_at 8 rfl) d2 (wish_nc w1))
      (all_cons (News.neO N1 (mem_at 5 rfl) (mem_at 8 rfl) d2 (wish_nc w2))
      (all_cons (News.neO N1 (mem_at 6 rfl) (mem_at 8 rfl) d2 (wish_nc w3))
      (all_cons (News.neO N1 (mem_at 7 rfl) (mem_at 8 rfl) d2 (nc_seq))
      (all_cons (cells_ne (L := L') (a := 3) (b := 2) (by decide))
      (all_cons (cells_ne (L := L') (a := 4) (b := 2) (by decide))
      (all_cons (cells_ne (L := L') (a := 5) (b := 2) (by decide))
      (all_cons (cells_ne (L := L') (a := 6) (b := 2) (by decide))
      (all_cons (cells_ne (L := L') (a := 7) (b := 2) (by decide))
      (all_cons (low_ne 2 lt157)
      (all_cons (low_ne 2 lt164)
      all_nil)))))))))))))) (mem_at 1 rfl) (wvS _ (mem_at 2 rfl) (mem_at 3 rfl) (mem_at 4 rfl) (mem_at 5 rfl)) hwz hsp fun h2 tk2 m2 D6' T vT eT p2' v2 hch hcl hvT F2 N2 d2' ms3 mo2 => ?_
  clear F1 N1
  refine an4 (clos_lt hcl) fun z1 z2 z3 _ => ?_
  have hcc : 1 ≤ T.length ∧ T.length ≤ 12 := ⟨z2, z3⟩
  refine law3 (base := (L' + 1, p1') :: (D5, lst wl) :: q0 :: q1 :: q2 :: q3 :: (L' + 1 + 1 + 1 + 1 + 1, p5) :: (L' + 1 + 1 + 1 + 1 + 1 + 1, p6) :: (L' + 1 + 1 + 1 + 1 + 1 + 1 + 1, p7) :: (157, X.tableObj tb1.arr) :: (164, X.tableObj tb2.arr) :: []) ho hb X' T' F2 (News.pick N2 [0, 9, 10, 8, 2, 3, 4, 5, 6, 7, 11, 12, 13, 14, 15] rfl) (hA.less (by decide)) ms3 ((mo2 _ (by decide) (by decide)).trans ms1) d3 d4 (all_cons (⟨cells_ne (L := L') (a := 1) (b := 3) (by decide), cells_ne (L := L') (a := 1) (b := 4) (by decide)⟩)
      (all_cons (⟨News.neO N2 (mem_at 3 rfl) (mem_at 9 rfl) d3 (nc_seq), News.neO N2 (mem_at 3 rfl) (mem_at 10 rfl) d4 (nc_seq)⟩)
      (all_cons (⟨News.neO N2 (mem_at 4 rfl) (mem_at 9 rfl) d3 (wish_nc w0), News.neO N2 (mem_at 4 rfl) (mem_at 10 rfl) d4 (wish_nc w0)⟩)
      (all_cons (⟨News.neO N2 (mem_at 5 rfl) (mem_at 9 rfl) d3 (wish_nc w1), News.neO N2 (mem_at 5 rfl) (mem_at 10 rfl) d4 (wish_nc w1)⟩)
      (all_cons (⟨News.neO N2 (mem_at 6 rfl) (mem_at 9 rfl) d3 (wish_nc w2), News.neO N2 (mem_at 6 rfl) (mem_at 10 rfl) d4 (wish_nc w2)⟩)
      (all_cons (⟨News.neO N2 (mem_at 7 rfl) (mem_at 9 rfl) d3 (wish_nc w3), News.neO N2 (mem_at 7 rfl) (mem_at 10 rfl) d4 (wish_nc w3)⟩)
      (all_cons (⟨cells_ne (L := L') (a := 5) (b := 3) (by decide), cells_ne (L := L') (a := 5) (b := 4) (by decide)⟩)
      (all_cons (⟨cells_ne (L := L') (a := 6) (b := 3) (by decide), cells_ne (L := L') (a := 6) (b := 4) (by decide)⟩)
      (all_cons (⟨cells_ne (L := L') (a := 7) (b := 3) (by decide), cells_ne (L := L') (a := 7) (b := 4) (by decide)⟩)
      (all_cons (⟨low_ne 3 lt157, low_ne 4 lt157⟩)
      (all_cons (⟨low_ne 3 lt164, low_ne 4 lt164⟩)
      all_nil))))))))))) hvT z3 h6 fun h3 tk3 p3' p4' t3 t4 F3 N3 d3' d4' => ?_
  clear F2 N2
  have hob : ∃ c, T.length = c := ⟨_, rfl⟩
  refine Exists.elim hob fun c hc => ?_
  clear hob
  rw [hc] at d3' hcc
  have hob : ∃ f : Nat, x4.fmod 100 = (f : Int) := Int.eq_ofNat_of_zero_le (Int.fmod_nonneg_of_pos x4 (b := 100) (by decide))
  refine Exists.elim hob fun f hf => ?_
  clear hob
  have hf1 : f ≤ 99 := Nat.le_of_lt_succ (Int.ofNat_lt.mp (hf ▸ Int.fmod_lt_of_pos x4 (b := 100) (by decide)))
  rw [hf] at d4'
  refine law4 (o1 := p1') (o3 := p3') (o4 := p4') (D5 := D5) (base := (L' + 1 + 1 + 1, p3') :: (L' + 1 + 1 + 1 + 1, p4') :: (D7, listOf v6.toArray e7) :: (L' + 1, p1') :: (D5, lst wl) :: q0 :: q1 :: q2 :: q3 :: (L' + 1 + 1 + 1 + 1 + 1 + 1, p6) :: (L' + 1 + 1 + 1 + 1 + 1 + 1 + 1, p7) :: (157, X.tableObj tb1.arr) :: (164, X.tableObj tb2.arr) :: []) ho hb X' T' F3 (News.pick N3 [9, 0, 1, 2, 3, 4, 5, 6, 7, 8, 10, 11, 12, 13] rfl) (hA.less (by decide)) d1' d3' d4' d5 (mem_at 3 rfl) (mem_at 0 rfl) (mem_at 1 rfl) (all_cons (cells_ne (L := L') (a := 3) (b := 5) (by decide))
      (all_cons (cells_ne (L := L') (a := 4) (b := 5) (by decide))
      (all_cons (News.neO N3 (mem_at 2 rfl) (mem_at 9 rfl) d5 (nc_seq))
      (all_cons (cells_ne (L := L') (a := 1) (b := 5) (by decide))
      (all_cons (News.neO N3 (mem_at 4 rfl) (mem_at 9 rfl) d5 (nc_seq))
      (all_cons (News.neO N3 (mem_at 5 rfl) (mem_at 9 rfl) d5 (wish_nc w0))
      (all_cons (News.neO N3 (mem_at 6 rfl) (mem_at 9 rfl) d5 (wish_nc w1))
      (all_cons (News.neO N3 (mem_at 7 rfl) (mem_at 9 rfl) d5 (wish_nc w2))
      (all_cons (News.neO N3 (mem_at 8 rfl) (mem_at 9 rfl) d5 (wish_nc w3))
      (all_cons (cells_ne (L := L') (a := 6) (b := 5) (by decide))
      (all_cons (cells_ne (L := L') (a := 7) (b := 5) (by decide))
      (all_cons (low_ne 5 lt157)
      (all_cons (low_ne 5 lt164)
      all_nil))))))))))))) (mem_at 4 rfl) (wvS _ (mem_at 5 rfl) (mem_at 6 rfl) (mem_at 7 rfl) (mem_at 8 rfl)) hwz (fun t ht => ⟨hsp t ht, hrs t ht⟩) (by omega) hcc.2 fun h4 tk4 D8 mv e8 p5' F4 N4 d5' hmv => ?_
  clear F3 N3
  refine law5 (o3 := p3') (o4 := p4') (base := (L' + 1 + 1 + 1 + 1 + 1, p5') :: (D8, listOf mv.toArray e8) :: (L' + 1 + 1 + 1, p3') :: (L' + 1 + 1 + 1 + 1, p4') :: (D7, listOf v6.toArray e7) :: (L' + 1, p1') :: (D5, lst wl) :: q0 :: q1 :: q2 :: q3 :: (L' + 1 + 1 + 1 + 1 + 1 + 1 + 1, p7) :: (157, X.tableObj tb1.arr) :: (164, X.tableObj tb2.arr) :: []) ho hb X' T' B' F4 (News.pick N4 [11, 0, 1, 2, 3, 4, 5, 6, 7, 8, 9, 10, 12, 13, 14] rfl) (hA.less (by decide)) d3' d4' d6 (mem_at 2 rfl) (mem_at 3 rfl) (all_cons (cells_ne (L := L') (a := 5) (b := 6) (by decide))
      (all_cons (News.neO N4 (mem_at 1 rfl) (mem_at 11 rfl) d6 (nc_seq))
      (all_cons (cells_ne (L := L') (a := 3) (b := 6) (by decide))
      (all_cons (cells_ne (L := L') (a := 4) (b := 6) (by decide))
      (all_cons (News.neO N4 (mem_at 4 rfl) (mem_at 11 rfl) d6 (nc_seq))
      (all_cons (cells_ne (L := L') (a := 1) (b := 6) (by decide))
      (all_cons (News.neO N4 (mem_at 6 rfl) (mem_at 11 rfl) d6 (nc_seq))
      (all_cons (News.neO N4 (mem_at 7 rfl) (mem_at 11 rfl) d6 (wish_nc w0))
      (all_cons (News.neO N4 (mem_at 8 rfl) (mem_at 11 rfl) d6 (wish_nc w1))
      (all_cons (News.neO N4 (mem_at 9 rfl) (mem_at 11 rfl) d6 (wish_nc w2))
      (all_cons (News.neO N4 (mem_at 10 rfl) (mem_at 11 rfl) d6 (wish_nc w3))
      (all_cons (cells_ne (L := L') (a := 7) (b := 6) (by decide))
      (all_cons (low_ne 6 lt157)
      (all_cons (low_ne 6 lt164)
      all_nil)))))))))))))) (by omega) hcc.2 fun h5 tk5 D9 l9 e9 p6' F5 N5 d6' hl9 => ?_
  clear F4 N4
  have hmk : ∀ x, marks sp rst x ≤ 4 := fun x => by rw [← cnt_marks]; exact cnt_le _ _ _ _
  refine law6 (o3 := p3') (o5 := p5') (o6 := p6') (D8 := D8) (D9 := D9) (mk := fun k => marks sp rst (f + k)) (nm := fun k => nameOf (f + c) (f + k)) (base := (L' + 1 + 1 + 1 + 1 + 1 + 1, p6') :: (D9, listOf (txts l9).toArray e9) :: (L' + 1 + 1 + 1 + 1 + 1, p5') :: (D8, listOf mv.toArray e8) :: (L' + 1 + 1 + 1, p3') :: (L' + 1 + 1 + 1 + 1, p4') :: (D7, listOf v6.toArray e7) :: (L' + 1, p1') :: (D5, lst wl) :: q0 :: q1 :: q2 :: q3 :: (L' + 1 + 1 + 1 + 1 + 1 + 1 + 1, p7) :: (157, X.tableObj tb1.arr) :: (164, X.tableObj tb2.arr) :: []) ho hb X' T' B' F5 N5 (hA.less (by decide)) d3' d5' d6' (mem_at 4 rfl) (mem_at 2 rfl) (mem_at 0 rfl) (mem_at 3 rfl) (mem_at 1 rfl) hmv (fun k => hmk _) (fun k => by rw [nameOf, List.length_map]; exact wl_len (f + c) 8) hl9 hcc.2 fun h6' tk6 D10 l10 e10 m6 F6 N6 ms6 mo6 hl10 => ?_
  clear F5 N5
  refine law7 (o1 := p1') (o3 := p3') (o4 := p4') (D5 := D5) (D10 := D10) (base := (D10, listOf (txts l10).toArray e10) :: (L' + 1 + 1 + 1 + 1 + 1 + 1, p6') :: (D9, listOf (txts l9).toArray e9) :: (L' + 1 + 1 + 1 + 1 + 1, p5') :: (D8, listOf mv.toArray e8) :: (L' + 1 + 1 + 1, p3') :: (L' + 1 + 1 + 1 + 1, p4') :: (D7, listOf v6.toArray e7) :: (L' + 1, p1') :: (D5, lst wl) :: q0 :: q1 :: q2 :: q3 :: (L' + 1 + 1 + 1 + 1 + 1 + 1 + 1, p7) :: []) ho hb hP X' T' B' F6 (News.pick N6 [15, 16, 0, 1, 2, 3, 4, 5, 6, 7, 8, 9, 10, 11, 12, 13, 14] rfl) hA hG (all_cons (⟨News.neD N6 (mem_at 0 rfl) (mem_at 15 rfl) (nt_seq), News.neD N6 (mem_at 0 rfl) (mem_at 16 rfl) (nt_seq)⟩)
      (all_cons (⟨Ne.symm (low_ne 6 lt157), Ne.symm (low_ne 6 lt164)⟩)
      (all_cons (⟨News.neD N6 (mem_at 2 rfl) (mem_at 15 rfl) (nt_seq), News.neD N6 (mem_at 2 rfl) (mem_at 16 rfl) (nt_seq)⟩)
      (all_cons (⟨Ne.symm (low_ne 5 lt157), Ne.symm (low_ne 5 lt164)⟩)
      (all_cons (⟨News.neD N6 (mem_at 4 rfl) (mem_at 15 rfl) (nt_seq), News.neD N6 (mem_at 4 rfl) (mem_at 16 rfl) (nt_seq)⟩)
      (all_cons (⟨Ne.symm (low_ne 3 lt157), Ne.symm (low_ne 3 lt164)⟩)
      (all_cons (⟨Ne.symm (low_ne 4 lt157), Ne.symm (low_ne 4 lt164)⟩)
      (all_cons (⟨News.neD N6 (mem_at 7 rfl) (mem_at 15 rfl) (nt_seq), News.neD N6 (mem_at 7 rfl) (mem_at 16 rfl) (nt_seq)⟩)
      (all_cons (⟨Ne.symm (low_ne 1 lt157), Ne.symm (low_ne 1 lt164)⟩)
      (all_cons (⟨News.neD N6 (mem_at 9 rfl) (mem_at 15 rfl) (nt_seq), News.neD N6 (mem_at 9 rfl) (mem_at 16 rfl) (nt_seq)⟩)
      (all_cons (⟨News.neD N6 (mem_at 10 rfl) (mem_at 15 rfl) (wish_nt w0), News.neD N6 (mem_at 10 rfl) (mem_at 16 rfl) (wish_nt w0)⟩)
      (all_cons (⟨News.neD N6 (mem_at 11 rfl) (mem_at 15 rfl) (wish_nt w1), News.neD N6 (mem_at 11 rfl) (mem_at 16 rfl) (wish_nt w1)⟩)
      (all_cons (⟨News.neD N6 (mem_at 12 rfl) (mem_at 15 rfl) (wish_nt w2), News.neD N6 (mem_at 12 rfl) (mem_at 16 rfl) (wish_nt w2)⟩)
      (all_cons (⟨News.neD N6 (mem_at 13 rfl) (mem_at 15 rfl) (wish_nt w3), News.neD N6 (mem_at 13 rfl) (mem_at 16 rfl) (wish_nt w3)⟩)
      (all_cons (⟨Ne.symm (low_ne 7 lt157), Ne.symm (low_ne 7 lt164)⟩)
      all_nil))))))))))))))) d1' d3' d4' (mem_at 8 rfl) (mem_at 5 rfl) (mem_at 6 rfl) (mem_at 9 rfl) (wvS _ (mem_at 10 rfl) (mem_at 11 rfl) (mem_at 12 rfl) (mem_at 13 rfl)) hsr (Nat.le_trans (Nat.add_le_add hf1 hcc.2) (by decide)) hcc ms6 (mem_at 0 rfl) hl10 fun h7 g7 tk7 tb1' tb2' F7 N7 G7 => ?_
  clear F6 N6
  have ms8 : m6 ("six" : Str) = some (.ref D7) := (mo6 _ (by decide)).trans ((mo2 _ (by decide) (by decide)).trans ms1)
  refine law8 (base := (157, X.tableObj tb1'.arr) :: (164, X.tableObj tb2'.arr) :: (D10, listOf (txts l10).toArray e10) :: (L' + 1 + 1 + 1 + 1 + 1 + 1, p6') :: (D9, listOf (txts l9).toArray e9) :: (L' + 1 + 1 + 1 + 1 + 1, p5') :: (D8, listOf mv.toArray e8) :: (L' + 1 + 1 + 1, p3') :: (L' + 1 + 1 + 1 + 1, p4') :: (L' + 1, p1') :: (D5, lst wl) :: q0 :: q1 :: q2 :: q3 :: []) ho hb X' T' B' F7 (News.pick N7 [16, 9, 0, 1, 2, 3, 4, 5, 6, 7, 8, 10, 11, 12, 13, 14, 15] rfl) hA ms8 d7 (all_cons (low_ne 7 lt157)
      (all_cons (low_ne 7 lt164)
      (all_cons (News.neO N7 (mem_at 2 rfl) (mem_at 16 rfl) d7 (nc_seq))
      (all_cons (cells_ne (L := L') (a := 6) (b := 7) (by decide))
      (all_cons (News.neO N7 (mem_at 4 rfl) (mem_at 16 rfl) d7 (nc_seq))
      (all_cons (cells_ne (L := L') (a := 5) (b := 7) (by decide))
      (all_cons (News.neO N7 (mem_at 6 rfl) (mem_at 16 rfl) d7 (nc_seq))
      (all_cons (cells_ne (L := L') (a := 3) (b := 7) (by decide))
      (all_cons (cells_ne (L := L') (a := 4) (b := 7) (by decide))
      (all_cons (cells_ne (L := L') (a := 1) (b := 7) (by decide))
      (all_cons (News.neO N7 (mem_at 11 rfl) (mem_at 16 rfl) d7 (nc_seq))
      (all_cons (News.neO N7 (mem_at 12 rfl) (mem_at 16 rfl) d7 (wish_nc w0))
      (all_cons (News.neO N7 (mem_at 13 rfl) (mem_at 16 rfl) d7 (wish_nc w1))
      (all_cons (News.neO N7 (mem_at 14 rfl) (mem_at 16 rfl) d7 (wish_nc w2))
      (all_cons (News.neO N7 (mem_at 15 rfl) (mem_at 16 rfl) d7 (wish_nc w3))
      all_nil))))))))))))))) h6 fun h8 tk8 p7' t7 F8 N8 d7' => ?_
  clear F7 N7
  have hob : ∃ r : Nat, x5.fmod 1000000000 = (r : Int) := Int.eq_ofNat_of_zero_le (Int.fmod_nonneg_of_pos x5 (b := 1000000000) (by decide))
  refine Exists.elim hob fun r hr => ?_
  clear hob
  have hr1 : r ≤ 999999999 := Nat.le_of_lt_succ (Int.ofNat_lt.mp (hr ▸ Int.fmod_lt_of_pos x5 (b := 1000000000) (by decide)))
  rw [hr] at d7'
  refine law9 (o1 := p1') (o3 := p3') (o7 := p7') (D5 := D5) (base := (L' + 1 + 1 + 1 + 1 + 1 + 1 + 1, p7') :: (D7, listOf v6.toArray e7) :: (D10, listOf (txts l10).toArray e10) :: (L' + 1 + 1 + 1 + 1 + 1 + 1, p6') :: (D9, listOf (txts l9).toArray e9) :: (L' + 1 + 1 + 1 + 1 + 1, p5') :: (D8, listOf mv.toArray e8) :: (L' + 1 + 1 + 1, p3') :: (L' + 1 + 1 + 1 + 1, p4') :: (L' + 1, p1') :: (D5, lst wl) :: q0 :: q1 :: q2 :: q3 :: []) ho hb hP X' T' B' F8 (News.pick N8 [2, 3, 0, 1, 4, 5, 6, 7, 8, 9, 10, 11, 12, 13, 14, 15, 16] rfl) hA G7 (all_cons (⟨Ne.symm (low_ne 7 lt157), Ne.symm (low_ne 7 lt164)⟩)
      (all_cons (⟨News.neD N8 (mem_at 1 rfl) (mem_at 2 rfl) (nt_seq), News.neD N8 (mem_at 1 rfl) (mem_at 3 rfl) (nt_seq)⟩)
      (all_cons (⟨News.neD N8 (mem_at 4 rfl) (mem_at 2 rfl) (nt_seq), News.neD N8 (mem_at 4 rfl) (mem_at 3 rfl) (nt_seq)⟩)
      (all_cons (⟨Ne.symm (low_ne 6 lt157), Ne.symm (low_ne 6 lt164)⟩)
      (all_cons (⟨News.neD N8 (mem_at 6 rfl) (mem_at 2 rfl) (nt_seq), News.neD N8 (mem_at 6 rfl) (mem_at 3 rfl) (nt_seq)⟩)
      (all_cons (⟨Ne.symm (low_ne 5 lt157), Ne.symm (low_ne 5 lt164)⟩)
      (all_cons (⟨News.neD N8 (mem_at 8 rfl) (mem_at 2 rfl) (nt_seq), News.neD N8 (mem_at 8 rfl) (mem_at 3 rfl) (nt_seq)⟩)
      (all_cons (⟨Ne.symm (low_ne 3 lt157), Ne.symm (low_ne 3 lt164)⟩)
      (all_cons (⟨Ne.symm (low_ne 4 lt157), Ne.symm (low_ne 4 lt164)⟩)
      (all_cons (⟨Ne.symm (low_ne 1 lt157), Ne.symm (low_ne 1 lt164)⟩)
      (all_cons (⟨News.neD N8 (mem_at 12 rfl) (mem_at 2 rfl) (nt_seq), News.neD N8 (mem_at 12 rfl) (mem_at 3 rfl) (nt_seq)⟩)
      (all_cons (⟨News.neD N8 (mem_at 13 rfl) (mem_at 2 rfl) (wish_nt w0), News.neD N8 (mem_at 13 rfl) (mem_at 3 rfl) (wish_nt w0)⟩)
      (all_cons (⟨News.neD N8 (mem_at 14 rfl) (mem_at 2 rfl) (wish_nt w1), News.neD N8 (mem_at 14 rfl) (mem_at 3 rfl) (wish_nt w1)⟩)
      (all_cons (⟨News.neD N8 (mem_at 15 rfl) (mem_at 2 rfl) (wish_nt w2), News.neD N8 (mem_at 15 rfl) (mem_at 3 rfl) (wish_nt w2)⟩)
      (all_cons (⟨News.neD N8 (mem_at 16 rfl) (mem_at 2 rfl) (wish_nt w3), News.neD N8 (mem_at 16 rfl) (mem_at 3 rfl) (wish_nt w3)⟩)
      all_nil))))))))))))))) d1' d3' d7' (mem_at 9 rfl) (mem_at 7 rfl) (mem_at 0 rfl) (mem_at 10 rfl) (wvS _ (mem_at 11 rfl) (mem_at 12 rfl) (mem_at 13 rfl) (mem_at 14 rfl)) hsr (Nat.le_trans (Nat.add_le_add hr1 hcc.2) (by decide)) hcc fun h9 g9 tk9 D11 l11 e11 tb3 tb4 m9 F9 N9 G9 ms9 mo9 hl11 => ?_
  clear F8 N8
  refine law10 (o3 := p3') (o7 := p7') (D11 := D11) (mk := fun k => marks sp rst (r + k)) (base := (157, X.tableObj tb3.arr) :: (164, X.tableObj tb4.arr) :: (D11, listOf (txts l11).toArray e11) :: (L' + 1 + 1 + 1 + 1 + 1 + 1 + 1, p7') :: (D7, listOf v6.toArray e7) :: (D10, listOf (txts l10).toArray e10) :: (L' + 1 + 1 + 1 + 1 + 1 + 1, p6') :: (D9, listOf (txts l9).toArray e9) :: (L' + 1 + 1 + 1 + 1 + 1, p5') :: (D8, listOf mv.toArray e8) :: (L' + 1 + 1 + 1, p3') :: (L' + 1 + 1 + 1 + 1, p4') :: (L' + 1, p1') :: (D5, lst wl) :: q0 :: q1 :: q2 :: q3 :: []) ho hb X' T' B' F9 N9 hA d3' d7' (mem_at 10 rfl) (mem_at 3 rfl) (by omega) hcc.2 (fun k => hmk _) ms9 (mem_at 2 rfl) hl11 fun h10 tk10 F10 N10 => ?_
  clear F9 N9
  refine law11 (D11 := D11) (mk := fun k => marks sp rst (r + k)) (base := (157, X.tableObj tb3.arr) :: (164, X.tableObj tb4.arr) :: (D11, listOf (txts l11).toArray e11) :: (L' + 1 + 1 + 1 + 1 + 1 + 1 + 1, p7') :: (D7, listOf v6.toArray e7) :: (D10, listOf (txts l10).toArray e10) :: (L' + 1 + 1 + 1 + 1 + 1 + 1, p6') :: (D9, listOf (txts l9).toArray e9) :: (L' + 1 + 1 + 1 + 1 + 1, p5') :: (D8, listOf mv.toArray e8) :: (L' + 1 + 1 + 1, p3') :: (L' + 1 + 1 + 1 + 1, p4') :: (L' + 1, p1') :: (D5, lst wl) :: q0 :: q1 :: q2 :: q3 :: []) ho hb X' T' B' F10 N10 hA hcc.2 (fun k => hmk _) ms9 (mem_at 2 rfl) hl11 fun h11 tk11 m11 D12 v12 e12 F11 N11 ms11 hv12 => ?_
  clear F10 N10
  refine law12 (o1 := p1') (o3 := p3') (o7 := p7') (D5 := D5) (D12 := D12) (base := (D12, listOf v12.toArray e12) :: (157, X.tableObj tb3.arr) :: (164, X.tableObj tb4.arr) :: (D11, listOf (txts l11).toArray e11) :: (L' + 1 + 1 + 1 + 1 + 1 + 1 + 1, p7') :: (D7, listOf v6.toArray e7) :: (D10, listOf (txts l10).toArray e10) :: (L' + 1 + 1 + 1 + 1 + 1 + 1, p6') :: (D9, listOf (txts l9).toArray e9) :: (L' + 1 + 1 + 1 + 1 + 1, p5') :: (D8, listOf mv.toArray e8) :: (L' + 1 + 1 + 1, p3') :: (L' + 1 + 1 + 1 + 1, p4') :: (L' + 1, p1') :: (D5, lst wl) :: q0 :: q1 :: q2 :: q3 :: []) ho hb X' T' F11 N11 hA d1' d3' d7' (mem_at 13 rfl) (mem_at 11 rfl) (mem_at 4 rfl) (mem_at 14 rfl) (wvS _ (mem_at 15 rfl) (mem_at 16 rfl) (mem_at 17 rfl) (mem_at 18 rfl)) hwz hsr (Nat.le_trans (Nat.add_le_add hr1 hcc.2) (by decide)) hcc.2 ms11 (mem_at 0 rfl) hv12 fun h12 tk12 F12 N12 => ?_
  clear F11 N11
  refine law13 (o5 := p5') (D8 := D8) (D12 := D12) (base := (D12, listOf v12.toArray e12) :: (157, X.tableObj tb3.arr) :: (164, X.tableObj tb4.arr) :: (D11, listOf (txts l11).toArray e11) :: (L' + 1 + 1 + 1 + 1 + 1 + 1 + 1, p7') :: (D7, listOf v6.toArray e7) :: (D10, listOf (txts l10).toArray e10) :: (L' + 1 + 1 + 1 + 1 + 1 + 1, p6') :: (D9, listOf (txts l9).toArray e9) :: (L' + 1 + 1 + 1 + 1 + 1, p5') :: (D8, listOf mv.toArray e8) :: (L' + 1 + 1 + 1, p3') :: (L' + 1 + 1 + 1 + 1, p4') :: (L' + 1, p1') :: (D5, lst wl) :: q0 :: q1 :: q2 :: q3 :: []) ho hb X' T' F12 N12 hA d5' (mem_at 9 rfl) (mem_at 10 rfl) hmv ms11 (mem_at 0 rfl) hv12 (by rw [List.length_map, List.length_range]; exact hcc.1) (by rw [List.length_map, List.length_range]; exact hcc.1) (fun M1 M2 y1 y2 y3 y4 => ?_) fun h13 tk13 F13 N13 => h h13 _ tk13 _ tb3 tb4 _ F13 N13 (mem_at 1 rfl) (mem_at 2 rfl) G9
  refine Exists.elim hch fun T3 hx => an2 hx fun hT3 g3 => ?_
  (try clear hch)
  refine Exists.elim hT3 fun T2 hx => an2 hx fun hT2 g2 => ?_
  (try clear hT3)
  refine Exists.elim hT2 fun T1 hx => an2 hx fun hT1 g1 => ?_
  (try clear hT2)
  refine Exists.elim hT1 fun T0 hx => an2 hx fun hT0 g0 => ?_
  (try clear hT1)
  have e0 : T0 = [0] := hT0
  subst e0
  have key : ∀ a y, ∃ i, i < c ∧ marks sp rst (a + i) ≤ marks sp rst y := fun a y => by
    have := marks_any (r := rst) hsp g0 g1 g2 g3 a y
    rw [hc] at this
    exact this
  refine Exists.elim (List.mem_map.mp y1) fun k1 hx => an2 hx fun hk1 zr2 => ?_
  subst zr2
  refine Exists.elim (List.mem_map.mp y3) fun k2 hx => an2 hx fun hk2 zr1 => ?_
  subst zr1
  refine Exists.elim (key r (f + k2)) fun i1 hx => an2 hx fun hi1 le1 => ?_
  refine Exists.elim (key f (r + k1)) fun i2 hx => an2 hx fun hi2 le2 => ?_
  have l1 := y2 _ (List.mem_map.mpr ⟨i1, List.mem_range.mpr hi1, rfl⟩)
  have l2 := y4 _ (List.mem_map.mpr ⟨i2, List.mem_range.mpr hi2, rfl⟩)
  lia

end
end

noncomputable def codeOfD : Data → Value
  | .func f => f.code
  | _ => .none
theorem heapT_39 (P : Params) {h : Heap} (Xk : (heapT P).In h) : (hd.heap_39 P).In h ∧ h.get? 157 = some (X.tableObj #[]) ∧ h.get? 164 = some (X.tableObj #[]) := by
  refine ⟨fun a o e => Xk a o ?_, Xk 157 _ (by with_unfolding_all exact rfl), Xk 164 _ (by with_unfolding_all exact rfl)⟩
  unfold heapT
  rw [List.lookup_append, e]
  rfl
theorem CodeAt.hd' {K : Frag} {h : Heap} {c P : Addr} (C : CodeAt K c P) (Xk : K.In h) : CodeHd h c P := by
  refine ex9 C fun o vs file tf flags tg inF text tt hx => an2 hx fun a1 r => ?_
  (try clear C)
  exact xi9 o vs file tf flags tg inF text tt ⟨Xk _ _ a1, r⟩
theorem tabs_at (P : Params) {h : Heap} (Xk : (hd.heap_39 P).In h) (h1 : h.get? 157 = some (X.tableObj #[])) (h2 : h.get? 164 = some (X.tableObj #[])) : TabsAt [(161, 157), (168, 164)] h := by
  intro q hq
  revert q hq
  refine all_cons ?_ fun q hq => ?_
  · exact ⟨(code161 P).hd' Xk, h1⟩
  · revert q hq
    refine all_cons ?_ fun q hq => ?_
    · exact ⟨(code168 P).hd' Xk, h2⟩
    · cases hq
theorem old_of {h₁ h' : Heap} {L : Addr} {m : Str → Option Value} {tb3 tb4 : Tb} {news : List (Addr × Obj)} (TA : TabsAt [(161, 157), (168, 164)] h₁) (F : Fr (ghostOf h₁ [(161, 157), (168, 164)]) L h' m) (N : News (ghostOf h₁ [(161, 157), (168, 164)]) L h' news)
    (m1 : (157, X.tableObj tb3.arr) ∈ news) (m2 : (164, X.tableObj tb4.arr) ∈ news) : OldK h₁ h' := by
  have t1 := TA (161, 157) (.head _)
  have t2 := TA (168, 164) (.tail _ (.head _))
  have n1 : h'.get? 157 = some (X.tableObj tb3.arr) := (N _ m1).1
  have n2 : h'.get? 164 = some (X.tableObj tb4.arr) := (N _ m2).1
  have other : ∀ b o, h₁.get? b = some o → b ≠ 157 → b ≠ 164 → h'.get? b = some o := fun b o e e1 e2 => F.keep b o (ghost_ne e (by
    intro hm
    rcases List.mem_cons.mp hm with h | hm
    · exact e1 h
    · rcases List.mem_cons.mp hm with h | hm
      · exact e2 h
      · cases hm))
  refine ⟨fun b o e => ?_, fun b o e => ?_⟩
  · by_cases e1 : b = 157
    · subst e1
      have eo : o = tabObj #[] := Option.some.inj (e.symm.trans t1.2)
      subst eo
      refine .inr (.inl ⟨(t1.1.tab t1.2).isCodeTable, rfl, #[], tb3.arr, rfl, ?_⟩)
      rw [n1, Array.empty_append]
      rfl
    · by_cases e2 : b = 164
      · subst e2
        have eo : o = tabObj #[] := Option.some.inj (e.symm.trans t2.2)
        subst eo
        refine .inr (.inl ⟨(t2.1.tab t2.2).isCodeTable, rfl, #[], tb4.arr, rfl, ?_⟩)
        rw [n2, Array.empty_append]
        rfl
      · exact .inl (other b o e e1 e2)
  · by_cases e1 : b = 157
    · subst e1; exact ⟨_, n1⟩
    · by_cases e2 : b = 164
      · subst e2; exact ⟨_, n2⟩
      · exact ⟨o, other b o e e1 e2⟩

end Mine
open PySem PySem.W PySem.Calls PyProof.Rows Mine

theorem PySem.Challenge.cw_xl0013_01_holds : PySem.Challenge.rw_xl0013_01.Holds := by
  refine hdT ?_
  intro w s₀ s₁ mg mb G Y fa o pm cd doc dV kV ho hd' hcd hD hmg hg args vals as hpre hlay hrd hwl hlo
  have KX := heapT_39 _ (kIn_of Y)
  have hfa := mg_of KX.1 (Ground.T G).g (n := ("law" : Str)) (v := .ref 243) (by with_unfolding_all rfl)
  rw [show mg "law" = some (.ref fa) from hmg] at hfa
  injection hfa with hfa
  injection hfa with hfa
  subst hfa
  have e243 := KX.1 243 _ (by with_unfolding_all exact rfl)
  rw [ho] at e243
  have ecd : cd = .ref 242 := congrArg codeOfD (hd'.symm.trans (congrArg Obj.data (Option.some.inj e243)))
  clear e243
  subst ecd
  have X := (Ground.X G).1
  have V := (Ground.X G).2
  refine Ground.open G ?_
  intro T B D TE TW
  try (refine guard_noD D (by decide +kernel) ?_; clear D)
  refine ex2 (bmod_of_top T) fun _ _ M => ?_
  have TA := at_of_top T
  clear hmg
  wrow_args hpre hlay hrd hwl hlo
  first | refine callC_kw (enter_call ?_) | refine enter_call ?_ | refine callC_kw (enter_callW ?_) | refine enter_callW ?_ | w_how
  w_top on
  have K0 := below_caller (Top.heap T)
  w_call any ho hd' hcd hD T F
  clear hd' TA
  k_drop
  rename Fr _ _ _ _ => F
  rename News _ _ _ _ => N
  rename CellsAre _ _ _ => Y0
  rename Top _ _ _ _ _ _ => T
  have TA := tabs_at w.params KX.1 KX.2.1 KX.2.2
  have X' := ghost_K TA KX.1 (by kernel_rfl)
  have T0 := ghost_top TA T
  have F' := ghost_fr TA F
  have N' := ghost_news TA F N
  have T' := topRead_of T0
  have B' : BM _ mg := bmod_of_top T0
  rename_i p7 p6 p5 p4 p3 p2 p1 e7 e6 e5 e4 e3 e2 e1
  have d7 : p7.data = .cell none := e7
  have d6 : p6.data = .cell none := e6
  have d5 : p5.data = .cell none := e5
  have d4 : p4.data = .cell none := e4
  have d3 : p3.data = .cell none := e3
  have d2 : p2.data = .cell none := e2
  have d1 : p1.data = .cell none := e1
  clear e1 e2 e3 e4 e5 e6 e7
  rename IntsAre _ _ => hI
  rename Heap.IsList _ _ _ => hL0
  rename (¬ _) => h63
  refine lawAll (p1 := p1) (p2 := p2) (p3 := p3) (p4 := p4) (p5 := p5) (p6 := p6) (p7 := p7) (tb1 := ⟨#[], trivial⟩) (tb2 := ⟨#[], trivial⟩) (by with_unfolding_all exact rfl) rfl ?hP X' T' B' F' (News.sub N' fun q hq => ?sub) ?hA (AllBare.of_eq hg) (Heap.lt_size KX.2.1) (Heap.lt_size KX.2.2) ?m1 (ghost_list TA hL0) hI ?hn d1 d2 d3 d4 d5 d6 d7 fun h' g' tk m'' tb3 tb4 news F9 N9 m157 m164 hG' => ?fin
  case hP => exact ⟨by with_unfolding_all rfl, by with_unfolding_all rfl⟩
  case sub =>
    revert q hq
    exact all_cons (mem_at 6 rfl) (all_cons (mem_at 5 rfl) (all_cons (mem_at 4 rfl) (all_cons (mem_at 3 rfl) (all_cons (mem_at 2 rfl) (all_cons (mem_at 1 rfl) (all_cons (mem_at 0 rfl) (all_cons (mem_at 7 rfl) (all_cons (mem_at 8 rfl) all_nil))))))))
  case hA => exact ⟨rfl, by simp only [Around.deeper]; decide, by simp only [Around.deeper]; decide⟩
  case m1 => with_unfolding_all exact rfl
  case hn => lia
  case fin =>
    refine ⟨.inl ⟨.bool true, .bool true, [], rfl, fun _ => ?_, .bool true, ?_, unshared_nil⟩, old_of TA F9 N9 m157 m164, rfl, hG'⟩
    · rfl
    · wrow_post
