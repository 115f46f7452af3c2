import PyProof.Rows.All
import Wide.All
import OpenK.AllK
import Wide.FinOn
import Lean
import PySem.Challenge.RW_kq0055_01
open PySem PySem.W PyProof.Rows
set_option Elab.async false
set_option compiler.extract_closed false
namespace Mine
/-- the statements of a list whose sign is true -/
noncomputable def keepAt : List Bool → List Stmt → List Stmt
  | true :: bs, s :: ss => s :: keepAt bs ss
  | false :: bs, _ :: ss => keepAt bs ss
  | _, _ => []
/-- the program as the head looks at it -/
noncomputable def viewQ : Program := { PySem.Challenge.rw_kq0055_01.row.prog with main := { PySem.Challenge.rw_kq0055_01.row.prog.main with body := keepAt [true, false, false, true, true, true, true, true, false, true, true, false, true, true, true, true, true, true, true, false, false, false, false, false, false, true, true, true, true, true, true, false, true, true, true, true, true, true, true, true] PySem.Challenge.rw_kq0055_01.row.prog.main.body } }
theorem hd_of {r : OpenRow} (q : Program) (loose : List Str) (XP : (Str → Option Value) → Heap → Prop) (YP : World → Heap → Prop) {d : DefRec} {kwd : List (Str × PySem.Expr)} (_ : defOf q r.name = some (d, kwd))
    (f : False) (_ : WalkO q loose XP YP r.toRowW d kwd fun f vs => PySem.call f vs) : r.Holds := f.elim
section
local macro_rules | `(tactic| o_head $H) => `(tactic| refine hd_of viewQ [Str.ofString "Error_ftplib", Str.ofString "bytes_types", Str.ofString "Error_binascii", Str.ofString "a2b_base64", Str.ofString "b2a_base64", Str.ofString "b64encode", Str.ofString "b64decode", Str.ofString "_tuplegetter", Str.ofString "Mismatch", Str.ofString "_Mismatch"] (XL viewQ []) (Hook.says $H) (by rfl) ?f ?hc)
set_option maxRecDepth 100000 in
noncomputable def hd : {T : Prop // T → T} := by
  refine ⟨?T, fun h => ?h⟩
  case h =>
    have key : False → PySem.W.OpenRow.Holds PySem.Challenge.rw_kq0055_01.row := by
      intro f
      k_head
      case f => exact f
      case hc => exact h
    exact h
end
noncomputable abbrev PG : Program := PySem.Challenge.rw_kq0055_01.row.prog
/-- the contract of a def at the address f: called in any frame, with any ledger, it ends as R says -/
noncomputable abbrev Con (k : Nat) (w : World) (f : Addr) (news : List (Addr × Obj)) (vs : List Value) (R : (Value → List (Addr × Obj) → Prop) → Prop) : Prop :=
  ∀ (pp0 : Program) (loose : List Str) (mean : ExcName → Option Value) (mg mb : Str → Option Value) (dp un : Nat) (gd : Option (List Code)) (cn : Str) (cs : Scope) (a : Addr) (ccd : Value) (cl : List (Str × Addr)) (outer : List Env) (A₀ : Around) (base h₀ : Heap) (L : Addr) (m : Str → Option Value) (s : Shared) (Q E : Value → Shared → Prop),
    Below A₀ base outer h₀ → Fr h₀ L s.heap m → (hd.heap_1 w.params).In h₀ → News h₀ L s.heap news → Top pp0 loose mean mg mb h₀ → cs.kind = .function →
    dp + k < recursionLimit → un + 10 * k < cLine →
    R (fun v nw => ∀ h' tk', Fr h₀ L h' m → News h₀ L h' nw → Q v { s with heap := h', toks := tk' }) →
      wpAny (model PG w) (ktrTop dp un gd cn cs L a ccd cl outer) (call (.ref f) vs) Q E s
noncomputable def Stop (P : Prop) : Prop := P
theorem of_stop {P : Prop} (h : Stop P) : P := h
/-- a stop with a number: the text says what is done there -/
noncomputable def StopK (_ : Nat) (P : Prop) : Prop := P
theorem of_stopk (k : Nat) {P : Prop} (h : StopK k P) : P := h
theorem un_stop (k : Nat) {P : Prop} (h : P) : StopK k P := h
/-- the ledger that came with the call lies below -/
structure Old (news : List (Addr × Obj)) (L : Addr) : Prop where
  lt : ∀ p ∈ news, p.1 < L
theorem all_ne {news : List (Addr × Obj)} {d e : Nat} (h : ∀ p ∈ news, p.1 < e) (hd : e ≤ d) : ∀ p ∈ news, p.1 ≠ d := fun p hp => Nat.ne_of_lt (Nat.lt_of_lt_of_le (h p hp) hd)
/-- a name of the frame is stored: the count of tokens is forgotten -/
theorem storeT {M : Model} {A : Around} {E : Value → Shared → Prop} {s : Shared} {h₀ : Heap} {L a : Addr} {m : Str → Option Value} {cn : Str} {cs : Scope} {ccd : Value} {cl : List (Str × Addr)}
  {x : Str} {v : Value} {Q : Unit → Shared → Prop} {news : List (Addr × Obj)} (F : Fr h₀ L s.heap m) (N : News h₀ L s.heap news)
    (h : ∀ h' tk', Fr h₀ L h' (fun y => if y = x then some v else m y) → News h₀ L h' news → Q () { s with heap := h', toks := tk' })
    (hk : cs.kind = .function := by rfl) (hx : (envX cn cs L a ccd cl).kindOf x = some .local := by rfl) : wpAny M A (storeName (envX cn cs L a ccd cl) x v) Q E s :=
  storeX_L F N (fun h' F' N' => h h' _ F' N') hk hx
/-- a contract at a call: its premises in the order in which they are shown -/
theorem con_use {k : Nat} {w : World} {f : Addr} {news : List (Addr × Obj)} {vs : List Value} {R : (Value → List (Addr × Obj) → Prop) → Prop} (C : Con k w f news vs R) {pp0 : Program} {loose : List Str} {mean : ExcName → Option Value} {mg mb : Str → Option Value} {dp un : Nat} {gd : Option (List Code)} {cn : Str} {cs : Scope} {a : Addr} {ccd : Value} {cl : List (Str × Addr)} {outer : List Env} {A₀ : Around} {base h₀ : Heap} {L : Addr} {m : Str → Option Value} {s : Shared} {Q E : Value → Shared → Prop}
    (cu9kB : Below A₀ base outer h₀) (cu9kF : Fr h₀ L s.heap m) (cu9kX : (hd.heap_1 w.params).In h₀) (cu9kN : News h₀ L s.heap news) (cu9kT : Top pp0 loose mean mg mb h₀) (cu9kk : cs.kind = .function) (cu9kd : dp + k < recursionLimit) (cu9ku : un + 10 * k < cLine)
    (cu9kr : R (fun v nw => ∀ h' tk', Fr h₀ L h' m → News h₀ L h' nw → Q v { s with heap := h', toks := tk' })) : wpAny (model PG w) (ktrTop dp un gd cn cs L a ccd cl outer) (call (.ref f) vs) Q E s :=
  C pp0 loose mean mg mb dp un gd cn cs a ccd cl outer A₀ base h₀ L m s Q E cu9kB cu9kF cu9kX cu9kN cu9kT cu9kk cu9kd cu9ku cu9kr
theorem prp {p : Prop} (h : p) : p := h
/-- two heads of a list change places -/
theorem rot {α : Type} {p : α} {a b r : List α} (h : p ∈ a ++ (b ++ r)) : p ∈ b ++ (a ++ r) :=
  (List.mem_append.mp h).elim (fun h => List.mem_append.mpr (.inr (List.mem_append.mpr (.inl h)))) fun h =>
    (List.mem_append.mp h).elim (fun h => List.mem_append.mpr (.inl h)) fun h => List.mem_append.mpr (.inr (List.mem_append.mpr (.inr h)))
theorem al0 {α : Type} {P : α → Prop} : ∀ p ∈ ([] : List α), P p := fun _ h => nomatch h
theorem al {α : Type} {P : α → Prop} {a : α} {l : List α} (m : P a) (r : ∀ p ∈ l, P p) : ∀ p ∈ a :: l, P p := List.forall_mem_cons.mpr ⟨m, r⟩
theorem al2 {α : Type} {P : α → Prop} {l l' : List α} (m : ∀ p ∈ l, P p) (r : ∀ p ∈ l', P p) : ∀ p ∈ l ++ l', P p := fun p h => (List.mem_append.mp h).elim (m p) (r p)
theorem inl9 {α : Type} {p : α} {l l' : List α} (h : p ∈ l) : p ∈ l ++ l' := List.mem_append.mpr (.inl h)
theorem inr9 {α : Type} {p : α} {l l' : List α} (h : p ∈ l') : p ∈ l ++ l' := List.mem_append.mpr (.inr h)
/-- a ledger picked out of another -/
theorem pk {h₀ h : Heap} {L : Addr} {l l' : List (Addr × Obj)} (N : News h₀ L h l) (s : ∀ p ∈ l', p ∈ l) : News h₀ L h l' := fun p hp => N p (s p hp)
/-- a call of what stands at this address -/
theorem at9 (f : Addr) {M : Model} {A : Around} {vs : List Value} {Q E : Value → Shared → Prop} {s : Shared} (h : wpAny M A (call (.ref f) vs) Q E s) : wpAny M A (call (.ref f) vs) Q E s := h
theorem fill_all : hd.heap_1 = hd.heap_1 ∧ PySem.Challenge.rw_kq0055_01.prog = PySem.Challenge.rw_kq0055_01.prog := by
  k_fill
  exact ⟨rfl, rfl⟩
section
local macro_rules | `(tactic| omega) => `(tactic| first | with_reducible assumption | lia | omega +splitDisjunctions)
section
section
variable {h₀ h h' : Heap} {L : Addr}
/-- one more of the named -/
theorem nwc {a : Addr} {o : Obj} {r : List (Addr × Obj)} (e : h.get? a = some o) (f : a ≠ L ∧ h₀.get? a = none) (N : News h₀ L h r) : News h₀ L h ((a, o) :: r) := fun p hp => by
  rcases List.mem_cons.mp hp with rfl | hp
  · exact ⟨e, f⟩
  · exact N p hp
theorem nwt {x : Addr × Obj} {r : List (Addr × Obj)} (N : News h₀ L h (x :: r)) : News h₀ L h r := fun p hp => N p (.tail _ hp)
theorem nwh {x : Addr × Obj} {r : List (Addr × Obj)} (N : News h₀ L h (x :: r)) : h.get? x.1 = some x.2 := (N x (.head _)).1
/-- the named stay where what is written leaves them alone -/
theorem nwk {r : List (Addr × Obj)} (P : Addr → Prop) (N : News h₀ L h r) (off : ∀ p ∈ r, P p.1) (k : ∀ b o, P b → h.get? b = some o → h'.get? b = some o) : News h₀ L h' r := fun p hp => ⟨k _ _ (off p hp) (N p hp).1, (N p hp).2⟩
/-- what lies above the frame's heap is no place of before -/
theorem fr_above {m : Str → Option Value} {I : Nat} (F : Fr h₀ L h m) (hI : h.objs.size = I) (b : Nat) (hb : I ≤ b) : b ≠ L ∧ h₀.get? b = none := by
  refine ⟨fun q => ?_, ?_⟩
  · have := F.ns.lt
    rw [hI, ← q] at this
    exact Nat.lt_irrefl _ (Nat.lt_of_lt_of_le this hb)
  · cases e : h₀.get? b with
    | none => rfl
    | some o =>
      have := Heap.lt_size (F.keep b o e)
      rw [hI] at this
      exact absurd this (Nat.not_lt.mpr hb)
theorem nlt {a b : Nat} (h : a < b) : @Ne Nat a b := Nat.ne_of_lt h
theorem ngt {a b : Nat} (h : a < b) : @Ne Nat b a := Nat.ne_of_gt h
theorem ne4 (I : Nat) : (@Ne Nat I (I + 2)) ∧ (@Ne Nat I (I + 3)) ∧ (@Ne Nat I (I + 1)) ∧ (@Ne Nat (I + 2) (I + 3)) ∧ (@Ne Nat (I + 2) (I + 1)) ∧ (@Ne Nat (I + 3) (I + 1)) := ⟨by omega, by omega, by omega, by omega, by omega, by omega⟩
end
theorem turn_lt {n i : Nat} (h : i < n) : n + 1 - (i + 1) < n + 1 - i := Nat.sub_lt_sub_left (Nat.lt_succ_of_lt h) (Nat.lt_succ_self i)
theorem down1 {n i : Nat} (h : i < n) : n - (i + 1) < n - i := Nat.sub_lt_sub_left h (Nat.lt_succ_self i)
theorem downL {a b i j : Nat} (h : i < a) : a - (i + 1) + (b - j) < a - i + (b - j) := Nat.add_lt_add_right (down1 h) _
theorem downR {a b i j : Nat} (h : j < b) : a - i + (b - (j + 1)) < a - i + (b - j) := Nat.add_lt_add_left (down1 h) _
theorem downB {a b i j : Nat} (h : i < a) (g : j < b) : a - (i + 1) + (b - (j + 1)) < a - i + (b - j) := Nat.add_lt_add (down1 h) (down1 g)
theorem downI {n : Nat} {i j : Int} (h0 : 0 ≤ i) (h : i < j) (hn : i < n) : n - j.toNat < n - i.toNat := Nat.sub_lt_sub_left ((Int.toNat_lt h0).mpr hn) ((Int.toNat_lt_toNat (Int.lt_of_le_of_lt h0 h)).mpr h)
theorem downI1 {n : Nat} {i : Int} (h0 : 0 ≤ i) (hn : i < n) : n - (i + 1).toNat < n - i.toNat := downI h0 (Int.lt_succ i) hn
theorem downI2 {n : Nat} {i : Int} (h0 : 0 ≤ i) (hn : i < n) : n - (i + 1 + 1).toNat < n - i.toNat := downI h0 (Int.lt_trans (Int.lt_succ i) (Int.lt_succ _)) hn
theorem sub_one {n i : Nat} (h : i < n) : n - i = n - (i + 1) + 1 := by rw [Nat.sub_add_eq, Nat.sub_add_cancel (Nat.sub_pos_of_lt h)]
theorem toNat0 (i : Nat) : (0 + (i : Int)).toNat = i := by rw [Int.zero_add]; rfl
theorem toNat0p (i : Nat) : (0 + (i : Int) - 1).toNat = i - 1 := by rw [Int.zero_add]; exact Int.toNat_sub i 1
theorem toNatS {i : Int} (h : 0 ≤ i) : (i + 1).toNat = i.toNat + 1 := Int.toNat_add h (by decide)
theorem toNatS2 {i : Int} (h : 0 ≤ i) : (i + 1 + 1).toNat = i.toNat + 2 := by rw [toNatS (Int.add_nonneg h (by decide)), toNatS h]
theorem toNatA (i k : Nat) : ((i : Int) + k).toNat = i + k := by rw [← Int.natCast_add]; rfl
theorem line1000 {n : Nat} (h : n ≤ 1000) : n ≤ sizeLine := by rw [sizeLine_eq]; exact Nat.le_trans h (by decide)
theorem getNone {vs : List Value} {i : Nat} (h : vs.length ≤ i) : vs.toArray[((i : Nat) : Int).toNat]? = none := by rw [Int.toNat_natCast, List.getElem?_toArray]; exact List.getElem?_eq_none h
theorem getSome {vs : List Value} {i : Nat} (h : i < vs.length) : vs.toArray[((i : Nat) : Int).toNat]? = some vs[i] := by rw [Int.toNat_natCast, List.getElem?_toArray]; exact List.getElem?_eq_getElem h
theorem drop_x {α : Type} {l : List α} {i : Nat} {x : α} (h : i < l.length) (e : l[i]? = some x) : l.drop i = x :: l.drop (i + 1) := by
  rw [List.drop_eq_getElem_cons h]
  rw [List.getElem?_eq_getElem h] at e
  rw [Option.some.inj e]
theorem ite_both {α : Type} (P : α → Prop) {c : Prop} [Decidable c] {a b : α} (h1 : c → P a) (h2 : ¬ c → P b) : P (if c then a else b) := by
  by_cases h : c
  · rw [if_pos h]; exact h1 h
  · rw [if_neg h]; exact h2 h
theorem len_keep {out pre : List Int} {c : Int} (h : out.length ≤ pre.length) : out.length ≤ (pre ++ [c]).length := by rw [List.length_append]; exact Nat.le_add_right_of_le h
theorem len_more {out pre : List Int} {c x : Int} (h : out.length ≤ pre.length) : (out ++ [x]).length ≤ (pre ++ [c]).length := by rw [List.length_append, List.length_append]; exact Nat.add_le_add_right h 1
theorem up_lt {i j n : Nat} (h : i + (j + 1) = n) : i < n := h ▸ Nat.lt_add_of_pos_right (Nat.succ_pos j)
theorem up_eq {i j n : Nat} (h : i + (j + 1) = n) : i + 1 + j = n := (Nat.succ_add_eq_add_succ i j).trans h
theorem end_mono {h₀ : Heap} {L : Addr} {m : Str → Option Value} {s₁ : Shared} {I : Addr} {oI : Obj} {C : Addr} {oC : Obj} {D : Addr} {oD : Obj} {S : List (Addr × Obj) → Prop} {r r' : Value → List (Addr × Obj) → Prop} {y : Value} {s₂ : Shared} (h : ∀ nw, r y nw → r' y nw) (e : LCg.CompEnd h₀ L m s₁ I oI C oC D oD S r y s₂) : LCg.CompEnd h₀ L m s₁ I oI C oC D oD S r' y s₂ := by
  obtain ⟨h', tk, nw, e, F, N, o, hS, q⟩ := e
  exact ⟨h', tk, nw, e, F, N, o, hS, h nw q⟩
theorem app_len {X l : List Int} {k : Nat} (h : X.length ≤ 3) (e : l.length = k) : k ≤ (X ++ l).length ∧ (X ++ l).length ≤ 3 + k := by rw [List.length_append, e]; exact ⟨Nat.le_add_left .., Nat.add_le_add_right h k⟩
theorem bel0 {P : Nat → Prop} : ∀ i, i < 0 → P i := fun _ h => absurd h (Nat.not_lt_zero _)
theorem bel {P : Nat → Prop} {n : Nat} (h : ∀ i, i < n → P i) (e : P n) : ∀ i, i < n + 1 → P i := fun i hi => (Nat.lt_succ_iff_lt_or_eq.mp hi).elim (h i) (fun q => q ▸ e)
theorem len_cons {α : Type} {r : List α} {n : Nat} (h : r.length = n + 1) : ∃ b r', r = b :: r' ∧ r'.length = n := by
  cases r with
  | nil => cases h
  | cons b r => exact ⟨b, r, rfl, Nat.succ.inj h⟩
end
section
theorem bitOr_sum {a b : Int} (k : Nat) (ha : 0 ≤ a) (hb : 0 ≤ b) (hk : b < 2 ^ k) : Builtin.bitOr (a * 2 ^ k) b = a * 2 ^ k + b := by
  obtain ⟨n, rfl⟩ := Int.eq_ofNat_of_zero_le ha
  obtain ⟨m, rfl⟩ := Int.eq_ofNat_of_zero_le hb
  have e : ((n : Int) * 2 ^ k) = ((n * 2 ^ k : Nat) : Int) := by push_cast; rfl
  have hm : m < 2 ^ k := by
    have h2 : ((2 : Int) ^ k) = ((2 ^ k : Nat) : Int) := by push_cast; rfl
    rw [h2] at hk; exact Int.ofNat_lt.mp hk
  rw [e]
  have key : ∀ p q : Nat, Builtin.bitOr (p : Int) (q : Int) = ((p ||| q : Nat) : Int) := by
    intro p q
    unfold Builtin.bitOr Builtin.bitAnd Builtin.bitNot
    have h1 : decide ((0 : Int) ≤ -(p : Int) - 1) = false := decide_eq_false (by omega)
    have h2 : decide ((0 : Int) ≤ -(q : Int) - 1) = false := decide_eq_false (by omega)
    rw [h1, h2]
    dsimp only
    have h3 : (-(-(p : Int) - 1) - 1).toNat = p := by omega
    have h4 : (-(-(q : Int) - 1) - 1).toNat = q := by omega
    rw [h3, h4]
    omega
  rw [key]
  have h := Nat.shiftLeft_add_eq_or_of_lt (i := k) hm n
  rw [Nat.shiftLeft_eq] at h
  rw [← h]
  push_cast
  rfl
section
variable {prog : Program} {w : World} {A : Around} {E : Value → Shared → Prop} {s : Shared} {a b n : Int} {t u : Tok} {Q : Value → Shared → Prop}
theorem and_63 (h : Q (.int (a % 64) s.toks) { s with toks := s.toks + 1 }) : wpAny (model prog w) A (binaryOp .BitAnd (.int a t) (.int 63 u)) Q E s := by
  refine and_int ?_
  rw [bitAnd_m6]; exact h
theorem and_15 (h : Q (.int (a % 16) s.toks) { s with toks := s.toks + 1 }) : wpAny (model prog w) A (binaryOp .BitAnd (.int a t) (.int 15 u)) Q E s := by
  refine and_int ?_
  rw [bitAnd_m4]; exact h
theorem and_3 (h : Q (.int (a % 4) s.toks) { s with toks := s.toks + 1 }) : wpAny (model prog w) A (binaryOp .BitAnd (.int a t) (.int 3 u)) Q E s := by
  refine and_int ?_
  rw [bitAnd_m2]; exact h
theorem and_65535 (h : Q (.int (a % 65536) s.toks) { s with toks := s.toks + 1 }) : wpAny (model prog w) A (binaryOp .BitAnd (.int a t) (.int 65535 u)) Q E s := by
  refine and_int ?_
  rw [bitAnd_m16]; exact h
theorem shl_to (c : Int) (k : Nat) (hn : n = (k : Int)) (hk : k ≤ 100) (hc : (2 : Int) ^ k = c) (h0 : 0 ≤ a) (h1 : a < 1000000000) (h : Q (.int (a * c) s.toks) { s with toks := s.toks + 1 }) :
    wpAny (model prog w) A (binaryOp .LShift (.int a t) (.int n u)) Q E s := by
  subst hn hc
  refine lshift_int_small (by omega) (by omega) (by omega) ?_
  rw [Int.toNat_natCast]; exact h
theorem shr_to (c : Int) (k : Nat) (hn : n = (k : Int)) (hc : (2 : Int) ^ k = c) (h : Q (.int (a / c) s.toks) { s with toks := s.toks + 1 }) :
    wpAny (model prog w) A (binaryOp .RShift (.int a t) (.int n u)) Q E s := by
  subst hn hc
  refine rshift_int (by omega) ?_
  rw [Int.toNat_natCast, Int.fdiv_eq_ediv_of_nonneg _ (Int.le_of_lt (kbt_pos k))]
  exact h
theorem or_to (c : Int) (k : Nat) (hc : (2 : Int) ^ k = c) (h0 : 0 ≤ a) (h1 : 0 ≤ b) (h2 : b < c) (h : Q (.int (a * c + b) s.toks) { s with toks := s.toks + 1 }) :
    wpAny (model prog w) A (binaryOp .BitOr (.int (a * c) t) (.int b u)) Q E s := by
  subst hc
  refine or_int ?_
  rw [bitOr_sum k h0 h1 h2]; exact h
end
end
section
/-- what an expression over whole numbers tells: the count of tokens ahead, the number, its token, the count behind -/
structure IEv (env : Env) (m : Str → Option Value) (T : Nat) (e : PySem.Expr) (n : Int) (t : Tok) (T' : Nat) : Prop where
  go : ∀ {prog : Program} {w : World} {A : Around} {E : Value → Shared → Prop} {h₀ : Heap} {s : Shared} {Q : Value → Shared → Prop}, s.toks = T → Fr h₀ env.locals s.heap m → Q (.int n t) { s with toks := T' } → wpAny (model prog w) A (eval e env) Q E s
/-- what a test of them tells -/
structure BEv (env : Env) (m : Str → Option Value) (T : Nat) (e : PySem.Expr) (b : Bool) (T' : Nat) : Prop where
  go : ∀ {prog : Program} {w : World} {A : Around} {E : Value → Shared → Prop} {h₀ : Heap} {s : Shared} {Q : Bool → Shared → Prop} {whole : Sem Value}, s.toks = T → Fr h₀ env.locals s.heap m → Q b { s with toks := T' } → wpAny (model prog w) A (isTrue e env whole) Q E s
/-- bounds, to be shown by reckoning -/
structure Bd (p : Prop) : Prop where
  go : p
/-- a power of two and its exponent -/
structure Pw (n c : Int) : Prop where
  go : ∃ k : Nat, n = (k : Int) ∧ k ≤ 100 ∧ (2 : Int) ^ k = c
theorem pw0 : Pw 0 1 := ⟨0, rfl, by decide, rfl⟩
theorem pw2 : Pw 2 4 := ⟨2, rfl, by decide, rfl⟩
theorem pw4 : Pw 4 16 := ⟨4, rfl, by decide, rfl⟩
theorem pw6 : Pw 6 64 := ⟨6, rfl, by decide, rfl⟩
theorem pw8 : Pw 8 256 := ⟨8, rfl, by decide, rfl⟩
section
variable {env : Env} {m : Str → Option Value} {T T1 T2 : Nat} {l r : PySem.Expr} {p : Pos} {a b n : Int} {t u : Tok}
theorem iv_nm {x : Str} (hv : m x = some (.int n t)) (hk : env.scope.kind = .function := by rfl) (hl : env.kindOf x = some .local := by rfl) (hd : (x == ("__debug__" : Str)) = false := by decide) : IEv env m T (.Name x p) n t T := ⟨fun e F q => by subst e; exact wpAny_Name (wpAny_loadName_local hk hl F.ns hv q) hd⟩
theorem iv_lit {j : Nat} : IEv env m T (.Constant (.int n) j p) n T (T + 1) := ⟨fun e _ q => by subst e; exact wpAny_Constant_int q⟩
theorem iv_add (ia : IEv env m T l a t T1) (ib : IEv env m T1 r b u T2) : IEv env m T (.BinOp l .Add r p) (a + b) T2 (T2 + 1) := ⟨fun e F q => wpAny_BinOp (ia.go e F (ib.go rfl F (add_int q)))⟩
theorem iv_sub (ia : IEv env m T l a t T1) (ib : IEv env m T1 r b u T2) : IEv env m T (.BinOp l .Sub r p) (a - b) T2 (T2 + 1) := ⟨fun e F q => wpAny_BinOp (ia.go e F (ib.go rfl F (sub_int q)))⟩
theorem iv_mask {c d : Int} {j : Nat} {q' : Pos} (ia : IEv env m T l a t T1) (hc : ∀ x, Builtin.bitAnd x c = x % d) : IEv env m T (.BinOp l .BitAnd (.Constant (.int c) j q') p) (a % d) (T1 + 1) (T1 + 1 + 1) := ⟨fun e F q => wpAny_BinOp (ia.go e F (wpAny_Constant_int (and_int (by rw [hc]; exact q))))⟩
theorem iv_m63 {j : Nat} {q' : Pos} (ia : IEv env m T l a t T1) : IEv env m T (.BinOp l .BitAnd (.Constant (.int 63) j q') p) (a % 64) (T1 + 1) (T1 + 1 + 1) := iv_mask ia bitAnd_m6
theorem iv_m15 {j : Nat} {q' : Pos} (ia : IEv env m T l a t T1) : IEv env m T (.BinOp l .BitAnd (.Constant (.int 15) j q') p) (a % 16) (T1 + 1) (T1 + 1 + 1) := iv_mask ia bitAnd_m4
theorem iv_m3 {j : Nat} {q' : Pos} (ia : IEv env m T l a t T1) : IEv env m T (.BinOp l .BitAnd (.Constant (.int 3) j q') p) (a % 4) (T1 + 1) (T1 + 1 + 1) := iv_mask ia bitAnd_m2
theorem iv_m65535 {j : Nat} {q' : Pos} (ia : IEv env m T l a t T1) : IEv env m T (.BinOp l .BitAnd (.Constant (.int 65535) j q') p) (a % 65536) (T1 + 1) (T1 + 1 + 1) := iv_mask ia bitAnd_m16
theorem iv_shl {c : Int} (ia : IEv env m T l a t T1) (ib : IEv env m T1 r n u T2) (hp : Pw n c) (hb : Bd (0 ≤ a ∧ a < 1000000000)) : IEv env m T (.BinOp l .LShift r p) (a * c) T2 (T2 + 1) :=
  ⟨fun e F q => hp.go.elim fun k h => wpAny_BinOp (ia.go e F (ib.go rfl F (shl_to c k h.1 h.2.1 h.2.2 hb.go.1 hb.go.2 q)))⟩
theorem iv_shr {c : Int} (ia : IEv env m T l a t T1) (ib : IEv env m T1 r n u T2) (hp : Pw n c) : IEv env m T (.BinOp l .RShift r p) (a / c) T2 (T2 + 1) :=
  ⟨fun e F q => hp.go.elim fun k h => wpAny_BinOp (ia.go e F (ib.go rfl F (shr_to c k h.1 h.2.2 q)))⟩
theorem iv_or {c : Int} (ia : IEv env m T l (a * c) t T1) (ib : IEv env m T1 r b u T2) (hp : Pw n c) (hb : Bd (0 ≤ a ∧ 0 ≤ b ∧ b < c)) : IEv env m T (.BinOp l .BitOr r p) (a * c + b) T2 (T2 + 1) :=
  ⟨fun e F q => hp.go.elim fun k h => wpAny_BinOp (ia.go e F (ib.go rfl F (or_to c k h.2.2 hb.go.1 hb.go.2.1 hb.go.2.2 q)))⟩
theorem bv_lt (ia : IEv env m T l a t T1) (ib : IEv env m T1 r b u T2) (hm : behindInMarks .Lt r = false := by rfl) : BEv env m T (.Compare l [.Lt] [r] p) (decide (a < b)) T2 := ⟨fun e F q => wpAny_isTrue_Compare1 (ia.go e F (ib.go rfl F (lt_int (wpAny_truthy_bool q)))) hm⟩
theorem bv_le (ia : IEv env m T l a t T1) (ib : IEv env m T1 r b u T2) (hm : behindInMarks .LtE r = false := by rfl) : BEv env m T (.Compare l [.LtE] [r] p) (decide (a ≤ b)) T2 := ⟨fun e F q => wpAny_isTrue_Compare1 (ia.go e F (ib.go rfl F (le_int (wpAny_truthy_bool q)))) hm⟩
theorem bv_gt (ia : IEv env m T l a t T1) (ib : IEv env m T1 r b u T2) (hm : behindInMarks .Gt r = false := by rfl) : BEv env m T (.Compare l [.Gt] [r] p) (decide (a > b)) T2 := ⟨fun e F q => wpAny_isTrue_Compare1 (ia.go e F (ib.go rfl F (gt_int (wpAny_truthy_bool q)))) hm⟩
theorem bv_ge (ia : IEv env m T l a t T1) (ib : IEv env m T1 r b u T2) (hm : behindInMarks .GtE r = false := by rfl) : BEv env m T (.Compare l [.GtE] [r] p) (decide (a ≥ b)) T2 := ⟨fun e F q => wpAny_isTrue_Compare1 (ia.go e F (ib.go rfl F (ge_int (wpAny_truthy_bool q)))) hm⟩
theorem bv_eq (ia : IEv env m T l a t T1) (ib : IEv env m T1 r b u T2) (hm : behindInMarks .Eq r = false := by rfl) : BEv env m T (.Compare l [.Eq] [r] p) (a == b) T2 := ⟨fun e F q => wpAny_isTrue_Compare1 (ia.go e F (ib.go rfl F (eq_int (wpAny_truthy_bool q)))) hm⟩
theorem bv_ne (ia : IEv env m T l a t T1) (ib : IEv env m T1 r b u T2) (hm : behindInMarks .NotEq r = false := by rfl) : BEv env m T (.Compare l [.NotEq] [r] p) (a != b) T2 := ⟨fun e F q => wpAny_isTrue_Compare1 (ia.go e F (ib.go rfl F (ne_int (wpAny_truthy_bool q)))) hm⟩
theorem iv_run {prog : Program} {w : World} {A : Around} {E : Value → Shared → Prop} {h₀ h : Heap} {L : Addr} {g : Array GenState} {d : Drawn} {o : OsState} {Q : Value → Shared → Prop} {e : PySem.Expr} {T' : Nat} (F : Fr h₀ L h m) (v : IEv env m T e n t T') (q : Q (.int n t) ⟨h, g, d, T', o⟩) (hL : env.locals = L := by rfl) : wpAny (model prog w) A (eval e env) Q E ⟨h, g, d, T, o⟩ := by subst hL; exact v.go rfl F q
theorem bv_run {prog : Program} {w : World} {A : Around} {E : Value → Shared → Prop} {h₀ h : Heap} {L : Addr} {g : Array GenState} {d : Drawn} {o : OsState} {Q : Bool → Shared → Prop} {whole : Sem Value} {e : PySem.Expr} {c : Bool} {T' : Nat} (F : Fr h₀ L h m) (v : BEv env m T e c T') (q : Q c ⟨h, g, d, T', o⟩) (hL : env.locals = L := by rfl) : wpAny (model prog w) A (isTrue e env whole) Q E ⟨h, g, d, T, o⟩ := by subst hL; exact v.go rfl F q
end
end
local macro_rules | `(tactic| ktr_room) => `(tactic| ((try simp +zetaDelta only [depth_under_make, depth_under_kw, depth_in1, depth_deeper, depth_caller]); (try dsimp only); omega))
local macro_rules | `(tactic| ktr_units) => `(tactic| ((try simp +zetaDelta only [units_in1, units_deeper, Around.mark_units, units_caller]); (try dsimp only); omega))
local macro_rules | `(tactic| k_room) => `(tactic| ktr_room)
local macro_rules | `(tactic| walk_at "ent5") => `(tactic| (refine (let e9 : Env := _; let A9 : Around := Around.deeper _ e9; (?_ : wpAny _ A9 (execs _ e9) _ _ _))))
local macro_rules | `(tactic| walk_at "ent9") => `(tactic| (k_asm; k_asm; k_asm; k_asm; (try k_asm); exact rfl; exact rfl; (first | exact rfl | assumption); k_is; k_is; ktr_room; (first | exact BindsTo.of_eq rfl | exact binds_K (by k_in) rfl (by k_is) rfl rfl rfl)))
local macro_rules | `(tactic| walk_at "ent7") => `(tactic| (walk_at "ent9"; exact locs rfl; rotate_left; exact rfl; exact rfl; exact rfl; decide; k_whole; intro g' L' h' FG' F' N' B' X' T'; (try (with_reducible intro D')); (try dsimp only); (try k_lift B'); (try k_fold)))
local macro_rules | `(tactic| walk_at "call ref") => `(tactic| (k_here; k_dflt (refine wpAny_call ?_; first | (apply code_def; walk_at "ent7"; (try walk_at "ent5")) | (apply code_defC; walk_at "ent9"; exact rfl; decide +kernel; rotate_left; exact rfl; exact rfl; exact rfl; k_whole; intro g' L' h' tk' cells' FG' F' N' Y' B' X' T' l1; (try (have hOld := Old.mk l1)); (try k_lt l1); k_cells Y'; (try simp only [List.cons_append, List.nil_append] at N'); (try dsimp only); (try k_lift B'); (try k_fold); (try walk_at "ent5")))))
local macro_rules | `(tactic| k_all) => `(tactic| (rename Old _ _ => hO9; exact all_ne hO9.lt (by omega)))
local macro_rules | `(tactic| k_ne) => `(tactic| (refine neN ?_; (try dsimp only); first | with_reducible assumption | (refine Ne.symm ?_; with_reducible assumption) | omega))
local macro_rules | `(tactic| walk_at "con8") => `(tactic| ((first | exact True.intro | k_asm); k_asm; k_asm; k_asm; k_asm; (first | exact rfl | assumption); ktr_room; ktr_units; (all_goals try k_mem); (all_goals try (refine prp ?_; first | with_reducible assumption | assumption)); k_whole))
local macro_rules | `(tactic| walk_at "con9") => `(tactic| (walk_at "con8"; (repeat (with_reducible intro _)); (try dsimp only)))
section
local macro_rules | `(tactic| walk_at "storeName") => `(tactic| (k_here; k_dflt (refine storeT (by k_asm) (by k_asm) ?_ (by rfl) (by rfl); k_whole; intro h' tk'; refine (let m' := _; fun (F' : Fr _ _ _ m') => ?_); intro N'; (try k_sweep))))
local macro_rules | `(tactic| walk_at "iev9") => `(tactic| (repeat' (first | exact iv_lit | exact iv_nm (by first | assumption | exact rfl) | apply iv_add | apply iv_sub | apply iv_m63 | apply iv_m15 | apply iv_m3 | apply iv_m65535 | apply iv_shr | apply iv_shl | apply iv_or | exact pw0 | exact pw2 | exact pw4 | exact pw6 | exact pw8 | (refine Bd.mk ?_; omega) | exact rfl)))
local macro_rules | `(tactic| walk_at "eval BinOp") => `(tactic| (k_here; k_dflt (refine iv_run (by k_asm) (by walk_at "iev9") ?_; k_whole)))
local macro_rules | `(tactic| walk_at "isTrue Compare") => `(tactic| (k_here; k_dflt (refine bv_run (by k_asm) (by (first | apply bv_lt | apply bv_le | apply bv_gt | apply bv_ge | apply bv_eq | apply bv_ne); walk_at "iev9") ?_; k_whole)))
section
/-- one sign of a name -/
noncomputable def gSign (x k : Int) : Str := Txt.item (Str.ofString "a\" /b") (((x.fdiv 3).fdiv (5 ^ k.toNat)).fmod 5)
noncomputable def lawName (x : Int) : Str := Txt.join (Str.ofString "") ((rangeKs 0 (1 + x.fmod 3 - 0).toNat).map (gSign x))
end
section
theorem pow5_ne (k : Nat) : (5:Int) ^ k ≠ 0 := by
  induction k with
  | zero => decide
  | succ k ih => rw [Int.pow_succ]; omega
theorem pow5_small {x : Int} {k : Nat} (h : k ≤ 3) : Builtin.divisionGoesByPylong x ((5:Int) ^ k) = false := by
  refine PyProof.noPylong_small ?_
  have : k = 0 ∨ k = 1 ∨ k = 2 ∨ k = 3 := by omega
  rcases this with rfl | rfl | rfl | rfl <;> decide
local macro_rules | `(tactic| walk_at "binaryOp FloorDiv int int") => `(tactic| (refine floordiv_int (pow5_ne _) ?_ (Or.inl (pow5_small (by omega)))))
local macro_rules | `(tactic| walk_at "CompSrc") => `(tactic| (refine of_stop ?_))
set_option maxRecDepth 100000 in
set_option maxHeartbeats 1600000 in
theorem law_name_c {w : World} (x : Int) (tx : Tok) (news : List (Addr × Obj)) : Con 5 w 296 news [.int x tx] (fun k => ∀ t, k (.str (lawName x) t) news) := by
  unfold Con
  intro pp0 loose mean mg mb dp un gd cn cs a ccd cl outer A₀ base h₀ L m s Q E B F X N T hk hd hu hret
  walk1
  k_steps
  unfold Stop
  have hm0 := Int.emod_nonneg x (by decide : (3:Int) ≠ 0)
  have hm1 : x.fmod 3 < 3 := Int.fmod_lt_of_pos x (by decide)
  refine LCg.CompSrc.range (by rfl) (by k_asm) (by k_asm) (by assumption) (by first | decide | exact small_one (by l_bnd) (by l_bnd) (by l_bnd) (by l_bnd)) (by first | exact rangeSize_nat _ _ | rfl) (by rw [PySem.sizeLine_eq]; omega) ?_
  intro g'
  refine kct_range (gSign x) (fun k' t' I' oI' C' oC' D' m' ys' h' tk' E' hlo' hhi' hC' hx' F' N' off' ne' => ?_) ?_
  · simp only [LCg.Off3] at off'
    intro hMark'
    k_steps
    refine LCg.CompEnd.intro (by assumption) (by assumption) _ (by intro p hp; exact hp) (by simpa [LCg.Off3] using off') trivial (kct_el rfl rfl rfl)
  · k_steps
    refine hret _ _ _ ?_ ?_
    · assumption
    · refine' cb_drop ?n9 ?S; (case n9 => assumption); (case S => kcj_all)
end
section
/-- a text below 128 as its bytes; bytes as a text -/
noncomputable def asciiB (x : Str) : Array UInt8 := x.cps.map Nat.toUInt8
noncomputable def textOf (b : Array UInt8) : Str := ⟨b.map (·.toNat)⟩
theorem loop_once {σ : Type} (f : Nat → σ → Sem (ForInStep σ)) (n : Nat) (s0 s1 : σ) (h0 : n = 0 → s0 = s1) (h1 : ∀ i, 0 < n → f i s0 = pure (.yield s1)) (h2 : ∀ i, f i s1 = pure (.done s1)) : forIn [0:n] s0 f = pure s1 := by
  rw [Std.Legacy.Range.forIn_eq_forIn_range']
  simp only [Std.Legacy.Range.size]
  have rest : ∀ l : List Nat, forIn l s1 f = pure s1 := by
    intro l
    cases l with
    | nil => rfl
    | cons a l => rw [List.forIn_cons, h2]; rfl
  cases hn : (List.range' 0 ((n - 0 + 1 - 1) / 1) 1) with
  | nil =>
    have : n = 0 := by simpa using hn
    rw [h0 this]; rfl
  | cons a l =>
    have hp : 0 < n := by
      cases n with
      | zero => simp at hn
      | succ n => exact Nat.succ_pos _
    rw [List.forIn_cons, h1 a hp]
    exact rest l
theorem foldl_bytes : ∀ (l : List Nat) (acc : Array UInt8), l.foldl (fun acc y => acc ++ ([y.toUInt8] : List UInt8).toArray) acc = acc ++ (l.map Nat.toUInt8).toArray
  | [], acc => by simp
  | c :: l, acc => by rw [List.foldl_cons, foldl_bytes l]; simp
open PySem.Builtin._codecs in
theorem enc_run {id : String} {self : Value} {x : Str} (h : ∀ c ∈ x.cps.toList, c < 128) (hx : x.length ≤ 1000) : encodeNarrow id asciiCodec none self x = pure (asciiB x) := by
  have hbad : ∀ c ∈ x.cps.toList, asciiCodec.bad c = false := fun c hc => by
    have := h c hc
    show decide (c ≥ 128) = false
    exact decide_eq_false (by omega)
  have hnone : Array.findIdx? asciiCodec.bad x.cps = none := by
    rw [Array.findIdx?_eq_none_iff]
    intro c hc
    exact hbad c (Array.mem_toList_iff.mpr hc)
  have hlen : x.length = x.cps.size := rfl
  delta encodeNarrow
  dsimp only
  rw [loop_once _ _ _ (x.cps.size, asciiB x, {})]
  · rfl
  · intro h0
    have : x.cps = #[] := Array.eq_empty_of_size_eq_zero (by rw [← hlen]; exact h0)
    simp [asciiB, this]
  · intro i hp
    rw [hlen] at hp
    have hc : x.cps[0]? = some x.cps[0] := Array.getElem?_eq_getElem hp
    have hb : asciiCodec.bad x.cps[0] = false := hbad _ (Array.getElem_mem_toList hp)
    have e : Array.foldl (fun acc y => acc ++ (asciiCodec.bytesOf y).toArray) #[] x.cps = asciiB x := by
      rw [← Array.foldl_toList]
      show x.cps.toList.foldl (fun acc y => acc ++ ([y.toUInt8] : List UInt8).toArray) #[] = _
      rw [foldl_bytes]
      apply Array.ext'
      simp [asciiB]
    refine (if_neg (by decide)).trans ?_
    rw [hc]
    refine (if_pos (by rw [hb]; rfl)).trans ?_
    dsimp only
    rw [Array.extract_size, hnone, Option.getD_none, Array.extract_size, e, Nat.zero_add]
  · intro i
    have hs : (asciiB x).size = x.cps.size := by simp [asciiB]
    refine (if_neg (by rw [hs, PySem.sizeLine_eq]; omega)).trans ?_
    rw [Array.getElem?_size]
theorem loop_all {σ : Type} (f : Nat → σ → Sem (ForInStep σ)) (S : Nat → σ) (n : Nat) (h : ∀ i k, k < n → f i (S k) = pure (.yield (S (k + 1)))) : forIn [0:n] (S 0) f = pure (S n) := by
  rw [Std.Legacy.Range.forIn_eq_forIn_range']
  simp only [Std.Legacy.Range.size]
  have rest : ∀ (l : List Nat) k, k + l.length = n → forIn l (S k) f = pure (S n) := by
    intro l
    induction l with
    | nil => intro k hk; have : k = n := by simpa using hk
             rw [this]; rfl
    | cons a l ih =>
      intro k hk
      rw [List.length_cons] at hk
      rw [List.forIn_cons, h a k (by omega)]
      exact ih (k + 1) (by omega)
  exact rest _ 0 (by simp)
open PySem.Builtin._codecs in
theorem dec_run {id : String} {b : Array UInt8} (h : ∀ c ∈ b.toList, c.toNat < 128) (hb : b.size ≤ 1000) : runDecoder id asciiDecoder none true b 0 [] = pure ((textOf b).cps, b.size) := by
  delta runDecoder
  dsimp only
  have e0 : ((0 : Nat), (#[] : Array Nat), ({ held := [] } : Faults)) = (fun k => (k, ((b.toList.take k).map (·.toNat)).toArray, ({ held := [] } : Faults))) 0 := by simp
  rw [e0, loop_all _ (fun k => (k, ((b.toList.take k).map (·.toNat)).toArray, ({ held := [] } : Faults))) b.size]
  · show (pure (((b.toList.take b.size).map (·.toNat)).toArray, b.size) : Sem (Array Nat × Nat)) = _
    have : b.toList.take b.size = b.toList := List.take_of_length_le (by simp)
    rw [this]
    congr 2
    apply Array.ext'
    simp [textOf]
  · intro i k hk
    dsimp only
    have hs : (((b.toList.take k).map (·.toNat)).toArray).size ≤ 1000 := by simp; omega
    rw [if_neg (by rw [PySem.sizeLine_eq]; omega), if_neg (by omega)]
    have hk' : k < b.toList.length := by simpa using hk
    have hg : b.getD k 0 = b.toList[k] := by simp [Array.getD, hk]
    have hc : (b.getD k 0).toNat < 128 := by rw [hg]; exact h _ (List.getElem_mem hk')
    have hf : asciiDecoder.find true b k = .text [(b.getD k 0).toNat] (k + 1) := by
      show (if (b.getD k 0).toNat < 128 then _ else _) = _
      rw [if_pos hc]; rfl
    rw [hf]
    dsimp only
    congr 3
    rw [List.take_add_one, List.getElem?_eq_getElem hk', hg]
    simp
section
open PySem.Builtin PySem.Builtin.Str
variable {prog : Program} {w : World} {A : Around} {E : Value → Shared → Prop} {s : Shared}
theorem enc_meets {x : Str} {t u : Tok} (h : ∀ c ∈ x.cps.toList, c < 128) (hx : x.length ≤ 1000) :
    Meets («str.encode» ⟨[.str x t, .str (Str.ofString "ascii") u], []⟩) (fun _ R s => ∀ t' k, R (.ok (.ret (.bytes (asciiB x) t'))) { s with toks := k }) := by
  refine .of_wp fun prog w A R s hS => ?_
  have e : «str.encode» ⟨[.str x t, .str (Str.ofString "ascii") u], []⟩ = (_codecs.encodeRoad "str.encode" (.str x t) x (Str.ofString "ascii") none >>= fun v => ret v) := by kernel_rfl
  have e2 : _codecs.encodeRoad "str.encode" (.str x t) x (Str.ofString "ascii") none = (_codecs.encodeNarrow "str.encode" _codecs.asciiCodec none (.str x t) x >>= fun b => mkBytes b) := by
    kernel_rfl
  rw [e, e2, enc_run h hx]
  have hs : (asciiB x).size ≤ sizeLine := by rw [PySem.sizeLine_eq]; have : (asciiB x).size = x.length := by simp [asciiB, Str.length]
                                             omega
  refine wpAny_bind (wpAny_bind (wpAny_pure ?_))
  unfold mkBytes
  rw [if_neg (by omega)]
  exact wpAny_bind (wpAny_fresh (wpAny_pure (wpAny_pure ⟨_, rfl, hS _ _⟩)))
theorem encode_call {Q : Value → Shared → Prop} {x : Str} {t u : Tok} (h : ∀ c ∈ x.cps.toList, c < 128) (hx : x.length ≤ 1000) (hq : ∀ t' k, Q (.bytes (asciiB x) t') { s with toks := k }) :
    wpAny (model prog w) A (call (.builtin "str.encode") [.str x t, .str (Str.ofString "ascii") u]) Q E s :=
  call_meets F.slot_str_encode (typeIs_str _ _ _) F.entry_str_encode (F.args_str_encode_2 _ _) (enc_meets h hx) hq
theorem encode_method {M : Model} {x : Str} {t : Tok} {pl : Sem Bool} {Q : Value × List Value → Shared → Prop} (h : Q (.builtin "str.encode", [.str x t]) s) : wpAny M A (getMethod (.str x t) "encode" pl) Q E s := by
  with_reducible exact GM.of (.str x t) (typeIs_str _ _ _) F.slot_str_encode F.type_str_encode GM.noRef h
theorem road_ascii {id : String} {b : Array UInt8} : _codecs.decodeRoad id b (Str.ofString "ascii") none [] = (_codecs.runDecoder id _codecs.asciiDecoder none true b 0 [] >>= fun r => mkStr ⟨r.1⟩) := by kernel_rfl
theorem text_meets {b : Array UInt8} {t t1 t2 : Tok} {d : Str} (h : ∀ c ∈ b.toList, c.toNat < 128) (hb : b.size ≤ 1000) :
    Meets («_codecs.decode.text» ⟨[.bytes b t, .str (Str.ofString "ascii") t1, .none, .str d t2], []⟩) (fun _ R s => R (.ok (.ret (.str (textOf b) s.toks))) { s with toks := s.toks + 1 }) := by
  refine .of_wp fun prog w A R s hS => ?_
  show wpAny _ _ (Bytes.bytesLike _ (.bytes b t) >>= fun r => _) _ _ s
  refine wpAny_bind (wpAny_of_eq KBd.like_eq ?_)
  refine wpAny_bind (wpAny_of_eq KBd.held_eq ?_)
  show wpAny _ _ (_codecs.decodeRoad _ b (Str.ofString "ascii") none [] >>= fun v => _) _ _ s
  rw [road_ascii, dec_run h hb]
  refine wpAny_bind (wpAny_bind (wpAny_pure ?_))
  have hs : (textOf b).length ≤ sizeLine := by
    have e : (textOf b).length = b.size := by simp [textOf, Str.length]
    rw [PySem.sizeLine_eq, e]; omega
  exact wpAny_mkStr (wpAny_pure ⟨_, rfl, hS⟩) hs
theorem args_decode_kw (a v : Value) : argsOk "bytes.decode" ⟨[a], [(Str.ofString "encoding", v)]⟩ := by
  unfold argsOk; rw [signature?_of (id := "bytes.decode") (n := ['e', 'd', 'o', 'c', 'e', 'd']) (o := ['s', 'e', 't', 'y', 'b']) (by kernel_rfl) FB.owner_bytes]; kernel_rfl
theorem decode_eq {c : UInt8} {cs : List UInt8} {t u : Tok} : «bytes.decode» ⟨[.bytes (c :: cs).toArray t], [(Str.ofString "encoding", .str (Str.ofString "ascii") u)]⟩ = (mkStr (Str.ofString "utf-8") >>= fun _ => mkStr (Str.ofString "ascii") >>= fun e => mkStr (Str.ofString "bytes.decode") >>= fun d =>
    call (.builtin "_codecs.decode.text") [.bytes (c :: cs).toArray t, e, .none, d] >>= fun v => ret v) := by
  kernel_rfl
theorem decode_meets {c : UInt8} {cs : List UInt8} {t u : Tok} (h : ∀ x ∈ c :: cs, x.toNat < 128) (hb : (c :: cs).length ≤ 1000) :
    Meets («bytes.decode» ⟨[.bytes (c :: cs).toArray t], [(Str.ofString "encoding", .str (Str.ofString "ascii") u)]⟩) (fun _ R s => ∀ t' k, R (.ok (.ret (.str (textOf (c :: cs).toArray) t'))) { s with toks := k }) := by
  refine .of_wp fun prog w A R s hS => ?_
  rw [decode_eq]
  refine wpAny_bind (wpAny_mkStr ?_ (by decide))
  refine wpAny_bind (wpAny_mkStr ?_ (by decide))
  refine wpAny_bind (wpAny_mkStr ?_ (by decide))
  exact wpAny_bind (call_function_meets KBd.kind_text KBd.plain_text KBd.entry_text (KBd.args_text _ _ _ _) (text_meets (by simpa using h) (by simpa using hb)) (wpAny_pure ⟨_, rfl, hS _ _⟩))
theorem decode_kw {c : UInt8} {cs : List UInt8} {t u : Tok} {Q : Value → Shared → Prop} (h : ∀ x ∈ c :: cs, x.toNat < 128) (hb : (c :: cs).length ≤ 1000) (hq : ∀ t' k, Q (.str (textOf (c :: cs).toArray) t') { s with toks := k }) :
    wpAny (model prog w) A (call (.builtin "bytes.decode") [.bytes (c :: cs).toArray t] [(Str.ofString "encoding", .str (Str.ofString "ascii") u)]) Q E s :=
  wpAny_call (codeAny_call_builtin FB.slot_bytes_decode.plain FB.entry_bytes_decode (FB.slot_bytes_decode.check _ _ _ _ _ _ _ _ (typeIs_bytes _ _ _) (args_decode_kw _ _) (decode_meets h hb prog w A (wants Q E) s hq)))
theorem str_new_eq {b : Array UInt8} {t u : Tok} : «str.__new__» ⟨[.type "str", .bytes b t, .str (Str.ofString "ascii") u], []⟩ = (isSubtype (.type "str") (.type "str") >>= fun _ => mkStr (Str.ofString "ascii") >>= fun e => isInstance (.bytes b t) (.type "bytes") >>= fun _ => rule "str.__new__.decode-bytes" >>= fun _ => call (.builtin "bytes.decode") [.bytes b t] [(Str.ofString "encoding", e)] >>= fun v => ret v) := by
  kernel_rfl
theorem str_new_meets {c : UInt8} {cs : List UInt8} {t u : Tok} (h : ∀ x ∈ c :: cs, x.toNat < 128) (hb : (c :: cs).length ≤ 1000) :
    Meets («str.__new__» ⟨[.type "str", .bytes (c :: cs).toArray t, .str (Str.ofString "ascii") u], []⟩) (fun _ R s => ∀ t' k, R (.ok (.ret (.str (textOf (c :: cs).toArray) t'))) { s with toks := k }) := by
  refine .of_wp fun prog w A R s hS => ?_
  rw [str_new_eq]
  refine wpAny_bind (wpAny_of_eq isSubtype_str_str ?_)
  refine wpAny_bind (wpAny_mkStr ?_ (by decide))
  refine wpAny_bind (wpAny_of_eq KBy.isInstance_eq ?_)
  refine wpAny_bind (wpAny_rule ?_)
  exact wpAny_bind (decode_kw h hb fun t' k => wpAny_pure ⟨_, rfl, hS _ _⟩)
theorem typeCall_str_2 (a b : Value) : checkTypeCall "str" ⟨[a, b], []⟩ = pure () := by kernel_rfl
theorem newCall_str_2 (a b : Value) : checkBuiltinCall "str.__new__" ⟨[.type "str", a, b], []⟩ = pure () := by kernel_rfl
theorem str_of_bytes {c : UInt8} {cs : List UInt8} {t u : Tok} {Q : Value → Shared → Prop} (h : ∀ x ∈ c :: cs, x.toNat < 128) (hb : (c :: cs).length ≤ 1000) (hq : ∀ t' k, Q (.str (textOf (c :: cs).toArray) t') { s with toks := k }) :
    wpAny (model prog w) A (call (.type "str") [.bytes (c :: cs).toArray t, .str (Str.ofString "ascii") u]) Q E s :=
  callType_new F.called_str (by decide) (typeCall_str_2 _ _) (newCall_str_2 _ _) (fun obj => F.args_object_init_3 obj _ _) F.entry_str_new
    (str_new_meets h hb) (fun t' k => ⟨typeIs_str _ _ _, hq t' k⟩)
/-- str(bytes, 'ascii') for any bytes that are not empty -/
theorem str_of_ascii {b : Array UInt8} {t u : Tok} {Q : Value → Shared → Prop} (h0 : 0 < b.size) (h : ∀ x ∈ b.toList, x.toNat < 128) (hb : b.size ≤ 1000) (hq : ∀ t' k, Q (.str (textOf b) t') { s with toks := k }) :
    wpAny (model prog w) A (call (.type "str") [.bytes b t, .str (Str.ofString "ascii") u]) Q E s := by
  obtain ⟨l⟩ := b
  cases l with
  | nil => simp at h0
  | cons c cs => exact str_of_bytes h (by simpa using hb) hq
theorem type_of_bytes {b : Array UInt8} {t : Tok} {Q : Value → Shared → Prop} (h : Q (.type "bytes") s) : wpAny (model prog w) A (call (.type "type") [.bytes b t]) Q E s :=
  call_type_of (Tx := "bytes") (typeIs_bytes _ _ _) (by decide +kernel) h
end
end
section
section
variable {prog : Program} {w : World} {A : Around} {E : Value → Shared → Prop} {s : Shared} {env : Env} {h₀ : Heap} {x : Str} {body : List Stmt} {Q : Flow → Shared → Prop}
/-- a for over bytes, by what holds of the frame's map and of the ledger behind each turn -/
theorem bytes_J {b : Array UInt8} {tb : Tok} {m₀ : Str → Option Value} {news : List (Addr × Obj)} (J : List Int → (Str → Option Value) → List (Addr × Obj) → Prop)
    (hh : A.handled = none) (F : Fr h₀ env.locals s.heap m₀) (N : News h₀ env.locals s.heap news) (hj : J [] m₀ news)
    (turn : ∀ (pre post : List Int) (n : Int) t m₁ nx h tk own, KBw.bInts b = pre ++ n :: post → 0 ≤ n → n < 256 → nx.map (·.1) = news.map (·.1) → OwnOff own (news.map (·.1)) → J pre m₁ nx →
      Fr h₀ env.locals h (fun y => if y = x then some (.int n t) else m₁ y) → News h₀ env.locals h (nx ++ own) →
      wpAny (model prog w) A (execs body env) (InvPostN h₀ env.locals (J (pre ++ [n])) own (news.map (·.1)) { s with heap := h, toks := tk } Q) E { s with heap := h, toks := tk })
    (done : ∀ m₁ nx h tk, J (KBw.bInts b) m₁ nx → Fr h₀ env.locals h m₁ → News h₀ env.locals h nx → Q .next { s with heap := h, toks := tk }) :
    wpAny (model prog w) A (pyIter (.bytes b tb)) (fun it s₂ => LoopAtV prog w A h₀ env x body Q E it s₂) E s := by
  refine KBw.pyIter_bytes ?_
  have W := KBw.walks (prog := prog) (w := w) hh s.heap.objs.size b tb
  refine loop_invN (fun i m nx => J ((KBw.bInts b).take i) m nx) W ?_ ?_ ?_ ?_ ⟨_, Heap.get?_push_size _ rfl, rfl, rfl⟩ (F.push _) (fun p hp => ⟨Heap.get?_push_of_some _ (N p hp).1, (N p hp).2⟩) (by simpa using hj) ?_ ?_
  · intro hm
    exact absurd F.ns.lt ((List.mem_singleton.mp hm) ▸ Nat.lt_irrefl _)
  · intro b' hb
    rw [List.mem_singleton.mp hb]
    exact next_is_new F
  · intro p hp hI
    exact absurd (Heap.lt_size (N p hp).1) ((List.mem_singleton.mp hI) ▸ Nat.lt_irrefl _)
  · intro p hp hI
    exact absurd (Heap.lt_size (N p hp).1) ((List.mem_singleton.mp hI) ▸ Nat.lt_irrefl _)
  · rintro i v m₁ nx h tk own hi ⟨n, u, hn, rfl⟩ ha hoff hJ F₁ N₁
    have hn' := KBw.ints_get hn
    have hs : (KBw.bInts b).take (i + 1) = (KBw.bInts b).take i ++ [(n.toNat : Int)] := by simp [List.take_add_one, hn']
    have e : KBw.bInts b = (KBw.bInts b).take i ++ (n.toNat : Int) :: (KBw.bInts b).drop (i + 1) := by
      have ht := List.take_append_drop (i + 1) (KBw.bInts b)
      rw [hs, List.append_assoc] at ht
      exact ht.symm
    have hb := KBw.ints_in (List.mem_of_getElem? hn')
    rw [hs]
    exact turn _ _ _ u m₁ nx h tk own e hb.1 hb.2 ha hoff hJ F₁ N₁
  · intro m₁ nx h tk hJ F₁ N₁
    have h8 : b.size = (KBw.bInts b).length := (KBw.ints_length b).symm
    rw [h8, List.take_length] at hJ
    exact done m₁ nx h tk hJ F₁ N₁
end
theorem apart_own {l : Addr} {as : List Addr} {news own : List (Addr × Obj)} (h1 : ∀ p ∈ news, p.1 < l) (h2 : OwnOff own (l :: as)) : ∀ p ∈ news ++ own, p.1 ≠ l := by
  intro p hp
  rcases List.mem_append.mp hp with hp | hp
  · exact Nat.ne_of_lt (h1 p hp)
  · exact h2 p hp l (by simp)
theorem sub_own {q : Addr × Obj} {news own : List (Addr × Obj)} : ∀ p ∈ q :: news, p ∈ q :: (news ++ own) := fun p hp => (List.mem_cons.mp hp).elim (fun e => e ▸ .head _) (fun h => .tail _ (List.mem_append.mpr (.inl h)))
theorem own_sub {q : Addr × Obj} {news own : List (Addr × Obj)} : ∀ p ∈ own, p ∈ q :: (news ++ own) := fun _ hp => .tail _ (List.mem_append.mpr (.inr hp))
theorem ints_one {vs : List Value} {ns : List Int} {a : Int} {t : Tok} (h : IntsAre vs ns) : IntsAre (vs ++ [.int a t]) (ns ++ [a]) := by
  induction h with
  | nil => exact .cons _ _ .nil
  | cons n t' _ ih => exact .cons _ _ ih
theorem ints_two {vs : List Value} {ns : List Int} {a b : Int} {t u : Tok} (h : IntsAre vs ns) : IntsAre (vs ++ [.int a t] ++ [.int b u]) (ns ++ [a, b]) := by
  have := ints_one (a := b) (t := u) (ints_one (a := a) (t := t) h)
  simpa using this
theorem bytes_in {ns : List Int} {a : Int} (h : ∀ c ∈ ns, 0 ≤ c ∧ c < 256) (h0 : 0 ≤ a) (h1 : a < 256) : ∀ c ∈ ns ++ [a], 0 ≤ c ∧ c < 256 := by
  intro c hc
  rcases List.mem_append.mp hc with hc | hc
  · exact h c hc
  · rw [List.mem_singleton.mp hc]; exact ⟨h0, h1⟩
theorem skip_second {α : Type} {a b : α} {r : List α} : ∀ p ∈ a :: r, p ∈ a :: b :: r := fun _ hp => (List.mem_cons.mp hp).elim (fun e => e ▸ .head _) (fun h => .tail _ (.tail _ h))
end
section
noncomputable def B64 : List UInt8 := [65, 66, 67, 68, 69, 70, 71, 72, 73, 74, 75, 76, 77, 78, 79, 80, 81, 82, 83, 84, 85, 86, 87, 88, 89, 90, 97, 98, 99, 100, 101, 102, 103, 104, 105, 106, 107, 108, 109, 110, 111, 112, 113, 114, 115, 116, 117, 118, 119, 120, 121, 122, 48, 49, 50, 51, 52, 53, 54, 55, 56, 57, 43, 47]
noncomputable def c64 (i : Int) : Int := ((B64.getD i.toNat 0).toNat : Int)
theorem B64_small : ∀ c ∈ B64, c.toNat < 128 := by decide +kernel
theorem c64_in (i : Int) : 0 ≤ c64 i ∧ c64 i < 128 := by
  refine ⟨Int.natCast_nonneg _, ?_⟩
  unfold c64
  have : (B64.getD i.toNat 0).toNat < 128 := by
    by_cases h : i.toNat < B64.length
    · rw [List.getD_eq_getElem?_getD, List.getElem?_eq_getElem h]; exact B64_small _ (List.getElem_mem h)
    · rw [List.getD_eq_getElem?_getD, List.getElem?_eq_none (Nat.not_lt.mp h)]; decide
  omega
/-- one byte of b2a_base64 -/
noncomputable def encStep (σ : List Int × Int × Int) (b : Int) : List Int × Int × Int :=
  if σ.2.1 = 0 then (σ.1 ++ [c64 ((σ.2.2 * 256 + b) % 65536 / 4 % 64)], 2, (σ.2.2 * 256 + b) % 65536)
  else if σ.2.1 = 2 then (σ.1 ++ [c64 ((σ.2.2 * 256 + b) % 65536 / 16 % 64)], 4, (σ.2.2 * 256 + b) % 65536)
  else (σ.1 ++ [c64 ((σ.2.2 * 256 + b) % 65536 / 64 % 64), c64 ((σ.2.2 * 256 + b) % 65536 / 1 % 64)], 0, (σ.2.2 * 256 + b) % 65536)
noncomputable def encEnd (σ : List Int × Int × Int) : List Int :=
  if σ.2.1 = 2 then σ.1 ++ [c64 (σ.2.2 % 4 * 16)] ++ [61] ++ [61]
  else if σ.2.1 = 4 then σ.1 ++ [c64 (σ.2.2 % 16 * 4)] ++ [61]
  else σ.1
noncomputable def b64e (x : Array UInt8) : Array UInt8 := ((encEnd ((KBw.bInts x).foldl encStep ([], 0, 0))).map fun n => n.toNat.toUInt8).toArray
/-- what holds behind some bytes -/
noncomputable def EncW (pre : List Int) (out : List Int) (bits ch : Int) : Prop :=
  out.length ≤ 2 * pre.length ∧ (∀ c ∈ out, 0 ≤ c ∧ c < 256) ∧ (bits = 0 ∨ bits = 2 ∨ bits = 4) ∧ 0 ≤ ch ∧ ch < 65536 ∧ pre.foldl encStep ([], 0, 0) = (out, bits, ch)
theorem enc_start : EncW [] [] 0 0 := ⟨by simp, by simp, .inl rfl, by decide, by decide, rfl⟩
theorem c64_byte (i : Int) : 0 ≤ c64 i ∧ c64 i < 256 := ⟨(c64_in i).1, Int.lt_trans (c64_in i).2 (by decide)⟩
theorem len_2 {out pre : List Int} {b x : Int} (h : out.length ≤ 2 * pre.length) : (out ++ [x]).length ≤ 2 * (pre ++ [b]).length := by
  rw [List.length_append, List.length_append]
  exact Nat.le_trans (Nat.add_le_add_right h 1) (Nat.le_succ _)
noncomputable def EncK (pre : List Int) (r : List Int × Int × Int) : Prop := pre.foldl encStep ([], 0, 0) = r → EncW pre r.1 r.2.1 r.2.2
theorem enc_next {pre out : List Int} {bits ch b : Int} {out' : List Int} {bits' ch' : Int} (h : EncW pre out bits ch) (h0 : 0 ≤ b) (h1 : b < 256) (e : encStep (out, bits, ch) b = (out', bits', ch')) : EncW (pre ++ [b]) out' bits' ch' := by
  have g1 := h.1
  have g2 := h.2.1
  have hs : (pre ++ [b]).foldl encStep ([], 0, 0) = encStep (out, bits, ch) b := by rw [List.foldl_append, h.2.2.2.2.2]; rfl
  have c0 : 0 ≤ (ch * 256 + b) % 65536 := Int.emod_nonneg _ (by decide)
  have c1 : (ch * 256 + b) % 65536 < 65536 := Int.emod_lt_of_pos _ (by decide)
  have key : EncK (pre ++ [b]) (encStep (out, bits, ch) b) := by
    refine ite_both (EncK _) (fun _ hs => ⟨len_2 g1, bytes_in g2 (c64_byte _).1 (c64_byte _).2, .inr (.inl rfl), c0, c1, hs⟩) fun _ => ite_both (EncK _) (fun _ hs => ⟨len_2 g1, bytes_in g2 (c64_byte _).1 (c64_byte _).2, .inr (.inr rfl), c0, c1, hs⟩) fun _ hs => ⟨?_, ?_, .inl rfl, c0, c1, hs⟩
    · rw [List.length_append, List.length_append]
      exact Nat.add_le_add_right g1 2
    · have q := bytes_in (bytes_in g2 (c64_byte ((ch * 256 + b) % 65536 / 64 % 64)).1 (c64_byte _).2) (c64_byte ((ch * 256 + b) % 65536 / 1 % 64)).1 (c64_byte _).2
      rw [List.append_assoc] at q
      exact q
  have k := key hs
  rw [e] at k
  exact k
end
section
local macro_rules | `(tactic| walk_at "call type:type") => `(tactic| (with_reducible refine type_of_bytes ?_))
local macro_rules | `(tactic| walk_at "pyIter bytes") => `(tactic| (refine of_stop ?_))
local macro_rules | `(tactic| walk_at "InvEndN") => `(tactic| (refine of_stop ?_))
theorem item_64 {prog : Program} {w : World} {A : Around} {E : Value → Shared → Prop} {s : Shared} {value slice : PySem.Expr} {t : Tok} {Q : Value → Shared → Prop} {i : Int} {ui : Tok} (h0 : 0 ≤ i) (h1 : i < 64) (h : Q (.int (c64 i) s.toks) { s with toks := s.toks + 1 })
    (hs : subscripted slice false (.bytes B64.toArray t) (.int i ui) = operate [.bytes B64.toArray t, .int i ui] (getItem (.bytes B64.toArray t) (.int i ui)) := by with_unfolding_all rfl)
    (ht : ∀ r, letTemporaryGo value (.bytes B64.toArray t) r = pure () := by intro _; with_unfolding_all rfl) :
    wpAny (model prog w) A (subscriptTail value slice (.bytes B64.toArray t) (.int i ui)) Q E s :=
  KBy.item_N (by decide) h0 (by show i < 64; exact h1) h hs ht
local macro_rules | `(tactic| walk_at "subscriptTail Name BinOp bytes int") => `(tactic| (refine of_stopk 1 ?_))
local macro_rules | `(tactic| walk_at "call type:bytes") => `(tactic| (refine of_stop ?_))
local macro_rules | `(tactic| walk_at "eval Name") => `(tactic| (k_here; k_dflt (refine ld (by k_asm) (by assumption) ?_; k_whole)))
local macro_rules | `(tactic| k_upd) => `(tactic| exact Upd.head (apart_own (by assumption) (by assumption)))
/-- what holds between the turns of b2a_base64 -/
inductive EncJ (l : Addr) (news : List (Addr × Obj)) (pre : List Int) (m : Str → Option Value) (nx : List (Addr × Obj)) : Prop
  | mk (vs : List Value) (out : List Int) (nn : Nat) (bits : Int) (t1 : Tok) (ch : Int) (t2 : Tok) : nx = (l, W.listOf vs.toArray nn) :: news → IntsAre vs out → m (Str.ofString "out") = some (.ref l) → m (Str.ofString "leftbits") = some (.int bits t1) → m (Str.ofString "leftchar") = some (.int ch t2) → m (Str.ofString "newline") = some (.bool false) → EncW pre out bits ch → EncJ l news pre m nx
set_option maxRecDepth 100000 in
set_option maxHeartbeats 1600000 in
theorem b64encode_c {w : World} (x : Array UInt8) (tx : Tok) (hx : x.size ≤ 300) (news : List (Addr × Obj)) : Con 20 w 145 news [.bytes x tx] (fun k => ∀ t, k (.bytes (b64e x) t) news) := by
  unfold Con
  intro pp0 loose mean mg mb dp un gd cn cs a ccd cl outer A₀ base h₀ L m s Q E B F X N T hk hd hu hret
  walk1
  (k_steps; (repeat (any_goals ((first | ((with_reducible refine un_stop 1 ?_); (refine item_64 (by omega) (by omega) ?_))); k_steps))))
  unfold Stop
  rename Fr _ _ _ _ => F1
  have F2 : Fr _ _ _ (fun y => if y = Str.ofString "leftchar" then some (Value.int 0 _) else if y = Str.ofString "leftbits" then some (Value.int 0 _) else if y = Str.ofString "out" then some (Value.ref _) else
    if y = Str.ofString "newline" then some (Value.bool false) else if y = Str.ofString "bin_data" then some (Value.bytes x tx) else List.lookup y [(Str.ofString "newline", Value.bool false), (Str.ofString "data", .bytes x tx)]) := F1
  clear F1
  rename News _ _ _ _ => N2
  refine bytes_J (EncJ _ news)
    rfl F2 N2 ⟨[], [], 0, 0, _, 0, _, rfl, .nil, rfl, rfl, rfl, rfl, enc_start⟩ ?turn ?done
  case turn =>
    intro pre post n t m₁ nx h tk own he hn0 hn1 _ hoff hJ F3 N3
    k_fold
    obtain ⟨vs, out, nn, bits, t1, ch, t2, rfl, hi, m1, m2, m3, m4, hp⟩ := hJ
    have hp' := hp
    obtain ⟨hp1, hp2, hp3, hp4, hp5, hp6⟩ := hp'
    have hvl : vs.length ≤ 1000 := by
      have e1 := IntsAre.length hi
      have e2 := congrArg List.length he
      rw [KBw.ints_length, List.length_append, List.length_cons] at e2
      omega
    rcases hp3 with rfl | rfl | rfl
    all_goals (k_steps; (repeat (any_goals ((first | ((with_reducible refine un_stop 1 ?_); (refine item_64 (by omega) (by omega) ?_))); k_steps))))
    all_goals rename News _ _ _ _ => nE
    all_goals simp only [List.push_toArray] at nE
    all_goals refine InvEndN.intro (by assumption) nE ⟨_, _, _, _, _, _, _, rfl, ?_, (by assumption), rfl, rfl, (by assumption), enc_next hp hn0 hn1 rfl⟩ (by rfl) sub_own own_sub
    all_goals first | kst_facts | exact ints_two hi
  case done =>
    intro m₁ nx h tk hJ F3 N3
    (try k_fold)
    obtain ⟨vs, out, nn, bits, t1, ch, t2, rfl, hi, m1, m2, m3, m4, hp⟩ := hJ
    have hp' := hp
    obtain ⟨hp1, hp2, hp3, hp4, hp5, hp6⟩ := hp'
    have hvl : vs.length ≤ 1000 := by
      have e1 := IntsAre.length hi
      rw [KBw.ints_length] at hp1
      omega
    have he : b64e x = ((encEnd (out, bits, ch)).map fun n => n.toNat.toUInt8).toArray := by unfold b64e; rw [hp6]
    rcases hp3 with rfl | rfl | rfl
    all_goals (k_steps; (repeat (any_goals ((first | ((with_reducible refine un_stop 1 ?_); (refine item_64 (by omega) (by omega) ?_))); k_steps))))
    all_goals unfold Stop
    all_goals rename News _ _ _ _ => nE
    all_goals (try simp only [List.push_toArray] at nE)
    all_goals rw [he] at hret
    · refine bytes_K (by assumption) nE ⟨_, (nE _ (.head _)).1, rfl, _, rfl⟩ hi hp2 (by rw [PySem.sizeLine_eq]; omega) rfl (fun h' t k F' N' _ => ?_)
      (k_steps; (repeat (any_goals ((first | ((with_reducible refine un_stop 1 ?_); (refine item_64 (by omega) (by omega) ?_))); k_steps))))
      refine hret _ _ _ ?_ ?_ <;> first | assumption | (refine' cb_drop ?n9 ?S; (case n9 => assumption); (case S => k_sub))
    · refine bytes_K (by assumption) nE ⟨_, (nE _ (.head _)).1, rfl, _, rfl⟩ (ints_one (ints_one (ints_one hi))) (bytes_in (bytes_in (bytes_in hp2 (c64_in _).1 (by have := (c64_in (ch % 4 * 16)).2; omega)) (by decide) (by decide)) (by decide) (by decide)) (by rw [PySem.sizeLine_eq]; simp; omega) rfl (fun h' t k F' N' _ => ?_)
      (k_steps; (repeat (any_goals ((first | ((with_reducible refine un_stop 1 ?_); (refine item_64 (by omega) (by omega) ?_))); k_steps))))
      refine hret _ _ _ ?_ ?_ <;> first | assumption | (refine' cb_drop ?n9 ?S; (case n9 => assumption); (case S => k_sub))
    · refine bytes_K (by assumption) nE ⟨_, (nE _ (.head _)).1, rfl, _, rfl⟩ (ints_one (ints_one hi)) (bytes_in (bytes_in hp2 (c64_in _).1 (by have := (c64_in (ch % 16 * 4)).2; omega)) (by decide) (by decide)) (by rw [PySem.sizeLine_eq]; simp; omega) rfl (fun h' t k F' N' _ => ?_)
      (k_steps; (repeat (any_goals ((first | ((with_reducible refine un_stop 1 ?_); (refine item_64 (by omega) (by omega) ?_))); k_steps))))
      refine hret _ _ _ ?_ ?_ <;> first | assumption | (refine' cb_drop ?n9 ?S; (case n9 => assumption); (case S => k_sub))
end
section
/-- the loop of parse257 over the signs that are left -/
noncomputable def p257 : List Nat → List Nat → List Nat
  | [], acc => acc
  | [c], acc => if c = 34 then acc else acc ++ [c]
  | c :: c' :: r, acc => if c = 34 then (if c' = 34 then p257 r (acc ++ [34]) else acc) else p257 (c' :: r) (acc ++ [c])
noncomputable def parse257F (x : Str) : Str := if Txt.slice x (some 3) (some 5) = Str.ofString " \"" then ⟨(p257 (x.cps.toList.drop 5) []).toArray⟩ else Str.ofString ""
theorem p257_one {l : List Nat} {i : Nat} {acc : List Nat} {c : Nat} (hi : l[i]? = some c) (hc : c ≠ 34) : p257 (l.drop i) acc = p257 (l.drop (i + 1)) (acc ++ [c]) := by
  have hlt : i < l.length := (List.getElem?_eq_some_iff.mp hi).1
  have hd : l.drop i = c :: l.drop (i + 1) := by
    rw [List.drop_eq_getElem_cons hlt]
    rw [List.getElem?_eq_getElem hlt] at hi
    rw [Option.some.inj hi]
  rw [hd]
  cases l.drop (i + 1) with
  | nil => simp [p257, hc]
  | cons c' r => simp [p257, hc]
theorem p257_two {l : List Nat} {i : Nat} {acc : List Nat} (hi : l[i]? = some 34) (hj : l[i + 1]? = some 34) : p257 (l.drop i) acc = p257 (l.drop (i + 2)) (acc ++ [34]) := by
  have hlt : i + 1 < l.length := (List.getElem?_eq_some_iff.mp hj).1
  have hd : l.drop i = 34 :: 34 :: l.drop (i + 2) := by
    rw [List.drop_eq_getElem_cons (by omega), List.drop_eq_getElem_cons hlt]
    rw [List.getElem?_eq_getElem (by omega)] at hi hj
    rw [Option.some.inj hi, Option.some.inj hj]
  rw [hd]
  simp [p257]
theorem p257_end {l : List Nat} {i : Nat} {acc : List Nat} (hi : l[i]? = some 34) (hj : l[i + 1]? ≠ some 34) : p257 (l.drop i) acc = acc := by
  have hlt : i < l.length := (List.getElem?_eq_some_iff.mp hi).1
  have hd : l.drop i = 34 :: l.drop (i + 1) := by
    rw [List.drop_eq_getElem_cons hlt]
    rw [List.getElem?_eq_getElem hlt] at hi
    rw [Option.some.inj hi]
  rw [hd]
  cases h : l.drop (i + 1) with
  | nil => simp [p257]
  | cons c' r =>
    have : l[i + 1]? = some c' := by
      have := congrArg List.head? h
      rw [List.head?_drop] at this; simpa using this
    have hc : c' ≠ 34 := fun e => hj (by rw [this, e])
    simp [p257, hc]
theorem p257_over {l : List Nat} {i : Nat} {acc : List Nat} (hi : l.length ≤ i) : p257 (l.drop i) acc = acc := by
  rw [List.drop_eq_nil_of_le hi]; rfl
theorem item_at {x : Str} {i : Int} (h0 : 0 ≤ i) (h1 : i < x.length) : ∃ c, x.cps.toList[i.toNat]? = some c ∧ Txt.item x i = ⟨#[c]⟩ := by
  have hlt : i.toNat < x.cps.size := by have : x.length = x.cps.size := rfl; omega
  refine ⟨x.cps[i.toNat], by simp [hlt], ?_⟩
  have hi : seqIndex? i x.length = some i.toNat := by
    unfold seqIndex?
    have : x.length = x.cps.size := rfl
    have hn : ¬ i < 0 := by omega
    simp only [hn, if_false]
    rw [if_pos (by simp; omega)]
  unfold Txt.item Txt.charAt
  rw [hi]
  simp [hlt]
theorem quote_iff {x : Str} {i : Int} {c : Nat} (h : Txt.item x i = ⟨#[c]⟩) : (Txt.item x i == Str.ofString "\"") = decide (c = 34) := by
  rw [h]
  have : Str.ofString "\"" = ⟨#[34]⟩ := by decide +kernel
  rw [this]
  by_cases hc : c = 34
  · subst hc; decide
  · rw [decide_eq_false hc]
    rw [beq_eq_false_iff_ne]
    intro e
    injection e with e
    injection e with e
    injection e with e
    exact hc e
theorem cat_item {x d : Str} {i : Int} {c : Nat} (h : Txt.item x i = ⟨#[c]⟩) : (d ++ Txt.item x i).cps.toList = d.cps.toList ++ [c] := by
  rw [h]
  show (d.cps ++ #[c]).toList = _
  simp
theorem p257_L1 {x : Str} {i : Int} {d : List Nat} (h0 : 0 ≤ i) (h1 : i < x.length) (hq : (Txt.item x i == Str.ofString "\"") = true) (hn : (x.length : Int) ≤ i + 1 ∨ (Txt.item x (i + 1) != Str.ofString "\"") = true) : p257 (x.cps.toList.drop i.toNat) d = d := by
  obtain ⟨c, hc, e⟩ := item_at h0 h1
  rw [quote_iff e, decide_eq_true_eq] at hq
  subst hq
  refine p257_end hc ?_
  have e1 : i.toNat + 1 = (i + 1).toNat := by omega
  by_cases hl : i + 1 < x.length
  · rcases hn with hn | hn
    · omega
    · obtain ⟨c', hc', e'⟩ := item_at (by omega : 0 ≤ i + 1) hl
      rw [bne, quote_iff e'] at hn
      rw [e1, hc']
      intro q
      rw [Option.some.inj q] at hn
      simp at hn
  · have hlen : x.cps.toList.length = x.length := by simp [Str.length]
    rw [List.getElem?_eq_none (by omega)]
    exact fun q => nomatch q
theorem p257_L2 {x d : Str} {i : Int} (h0 : 0 ≤ i) (h1 : i < x.length) (hl : ¬ (x.length : Int) ≤ i + 1) (hq : (Txt.item x i == Str.ofString "\"") = true) (hn : (Txt.item x (i + 1) != Str.ofString "\"") = false) :
    p257 (x.cps.toList.drop (i + 1 + 1).toNat) (d ++ Txt.item x i).cps.toList = p257 (x.cps.toList.drop i.toNat) d.cps.toList := by
  obtain ⟨c, hc, e⟩ := item_at h0 h1
  obtain ⟨c', hc', e'⟩ := item_at (by omega : 0 ≤ i + 1) (by omega : i + 1 < x.length)
  rw [cat_item e]
  rw [quote_iff e, decide_eq_true_eq] at hq
  rw [bne, quote_iff e'] at hn
  have hn' : c' = 34 := by simpa using hn
  subst hq hn'
  have e1 : (i + 1).toNat = i.toNat + 1 := by omega
  have e2 : (i + 1 + 1).toNat = i.toNat + 2 := by omega
  rw [e1] at hc'
  rw [e2, p257_two hc hc']
theorem p257_L3 {x d : Str} {i : Int} (h0 : 0 ≤ i) (h1 : i < x.length) (hq : (Txt.item x i == Str.ofString "\"") = false) :
    p257 (x.cps.toList.drop (i + 1).toNat) (d ++ Txt.item x i).cps.toList = p257 (x.cps.toList.drop i.toNat) d.cps.toList := by
  obtain ⟨c, hc, e⟩ := item_at h0 h1
  rw [cat_item e]
  rw [quote_iff e] at hq
  have e1 : (i + 1).toNat = i.toNat + 1 := by omega
  rw [e1, p257_one hc (by simpa using hq)]
theorem p257_L4 {x : Str} {i : Int} {d : List Nat} (h : ¬ i < x.length) : p257 (x.cps.toList.drop i.toNat) d = d := by
  have hlen : x.cps.toList.length = x.length := by simp [Str.length]
  exact p257_over (by omega)
theorem str_toArray {d : Str} : (⟨d.cps.toList.toArray⟩ : Str) = d := by simp
theorem p257_start {x : Str} (h : (Txt.slice x (some 3) (some 5) != Str.ofString " \"") = false) : (5 : Int) ≤ x.length := by
  have e : Txt.slice x (some 3) (some 5) = Str.ofString " \"" := by simpa using h
  have hl : (Txt.slice x (some 3) (some 5)).length = 2 := by rw [e]; decide +kernel
  by_cases h5 : 5 ≤ x.length
  · omega
  · exfalso
    unfold Txt.slice at hl
    have hx : x.length = 0 ∨ x.length = 1 ∨ x.length = 2 ∨ x.length = 3 ∨ x.length = 4 := by omega
    split at hl
    · rename_i hc
      have hc' : (Builtin.Str.strSliceIndices (some 3) (some 5) 1 x.length).length = x.length := by simpa using hc
      rcases hx with q | q | q | q | q <;> rw [q] at hl hc' <;> first | omega | (revert hc'; decide)
    · have hf : (List.filterMap (fun i => x.cps[i]?) (Builtin.Str.strSliceIndices (some 3) (some 5) 1 x.length)).length ≤ (Builtin.Str.strSliceIndices (some 3) (some 5) 1 x.length).length := List.length_filterMap_le ..
      have h2 : (Builtin.Str.strSliceIndices (some 3) (some 5) 1 x.length).length ≤ 1 := by
        rcases hx with q | q | q | q | q <;> rw [q] <;> decide
      have : (⟨((Builtin.Str.strSliceIndices (some 3) (some 5) 1 x.length).filterMap (x.cps[·]?)).toArray⟩ : Str).length = (List.filterMap (fun i => x.cps[i]?) (Builtin.Str.strSliceIndices (some 3) (some 5) 1 x.length)).length := by simp [Str.length]
      omega
end
section
local macro_rules | `(tactic| walk_at "exec While Compare cons nil") => `(tactic| ((with_reducible show wpAny _ _ (exec (Stmt.While _ _ _ _) _) _ _ _); refine of_stop ?_))
local macro_rules | `(tactic| walk_at "eval Name") => `(tactic| (k_here; k_dflt (refine ld (by k_asm) (by assumption) ?_; k_whole)))
local macro_rules | `(tactic| walk_at "WhileStep2") => `(tactic| (refine of_stop ?_))
/-- what holds between the turns of parse257's loop -/
inductive PJ (x : Str) (tx : Tok) (news : List (Addr × Obj)) (n : Nat) (m : Str → Option Value) (nx : List (Addr × Obj)) : Prop
  | mk (i : Int) (d : Str) (t0 t1 t2 : Tok) : nx = news → m (Str.ofString "resp") = some (.str x tx) → m (Str.ofString "n") = some (.int x.length t0) → m (Str.ofString "i") = some (.int i t1) → m (Str.ofString "dirname") = some (.str d t2) →
      n = x.length - i.toNat → 0 ≤ i → i ≤ x.length → (d.length : Int) ≤ i → p257 (x.cps.toList.drop i.toNat) d.cps.toList = p257 (x.cps.toList.drop 5) [] → PJ x tx news n m nx
theorem wstep_next {h₀ : Heap} {L : Addr} {s : Shared} {J : Nat → (Str → Option Value) → List (Addr × Obj) → Prop} {Q : Flow → Shared → Prop} {n n' : Nat} {h' : Heap} {tk : Nat} {m₂ : Str → Option Value} {news₂ : List (Addr × Obj)} (F : Fr h₀ L h' m₂) (N : News h₀ L h' news₂) (hJ : J n' m₂ news₂) (hn : n' < n) : WhileStep2 h₀ L s J Q n .next { s with heap := h', toks := tk } := ⟨_, _, _, _, _, rfl, F, N, hn, hJ⟩
set_option maxRecDepth 100000 in
set_option maxHeartbeats 1600000 in
theorem parse257_c {w : World} (x : Str) (tx : Tok) (hx : x.length ≤ 1000) (h257 : Txt.slice x none (some 3) = Str.ofString "257") (news : List (Addr × Obj)) : Con 5 w 72 news [.str x tx] (fun k => ∀ t, k (.str (parse257F x) t) news) := by
  unfold Con
  intro pp0 loose mean mg mb dp un gd cn cs a ccd cl outer A₀ base h₀ L m s Q E B F X N T hk hd hu hret
  walk1
  k_steps
  · rename (Txt.slice x (some 3) (some 5) != _) = true => hne
    have he : parse257F x = Str.ofString "" := by
      unfold parse257F
      rw [if_neg (by simpa using hne)]
    rw [he] at hret
    exact hret _ _ _ (by assumption) (by assumption)
  · unfold Stop
    rename (Txt.slice x (some 3) (some 5) != _) = false => heq
    have he : parse257F x = ⟨(p257 (x.cps.toList.drop 5) []).toArray⟩ := by
      unfold parse257F
      rw [if_pos (by simpa using heq)]
    rw [he] at hret
    rename Fr _ _ _ _ => F1
    rename News _ _ _ _ => N1
    refine While_inv2 (PJ x tx news) F1 N1
      ⟨5, Str.ofString "", _, _, _, rfl, rfl, rfl, rfl, rfl, rfl, by decide, p257_start heq, by decide, rfl⟩ ?_
    clear F1 N1
    intro n m₁ nx h tk F2 N2 hJ
    (try k_fold)
    obtain ⟨i, d, t0, t1, t2, rfl, m1, m2, m3, m4, rfl, i0, i1, hd1, hp⟩ := hJ
    k_steps
    · dsimp only [Stop, WhileStep2]
      have hl := p257_L1 (d := d.cps.toList) i0 (by assumption) (by assumption) (.inl (by assumption))
      k_steps
      rw [← hp, hl, str_toArray] at hret
      exact hret _ _ _ (by assumption) (by assumption)
    · dsimp only [Stop, WhileStep2]
      have hl := p257_L1 (d := d.cps.toList) i0 (by assumption) (by assumption) (.inr (by assumption))
      k_steps
      rw [← hp, hl, str_toArray] at hret
      exact hret _ _ _ (by assumption) (by assumption)
    · unfold Stop
      have hl := p257_L2 (d := d) i0 (by assumption) (by assumption) (by assumption) (by assumption)
      rename Fr _ _ _ _ => F9
      refine wstep_next F9 (by assumption) ⟨i + 1 + 1, _, _, _, _, rfl, m1, m2, rfl, rfl, rfl, by omega, by omega, ?_, hl.trans hp⟩ (downI2 i0 (by first | assumption | omega))
      omega
    · unfold Stop
      have hl := p257_L3 (d := d) i0 (by assumption) (by assumption)
      rename Fr _ _ _ _ => F9
      refine wstep_next F9 (by assumption) ⟨i + 1, _, _, _, _, rfl, m1, m2, rfl, rfl, rfl, by omega, by omega, ?_, hl.trans hp⟩ (downI1 i0 (by first | assumption | omega))
      omega
    · have hl := p257_L4 (x := x) (i := i) (d := d.cps.toList) (by assumption)
      rw [← hp, hl, str_toArray] at hret
      exact hret _ _ _ (by assumption) (by assumption)
end
section
section
open PySem.Builtin PySem.Builtin.Str
theorem subAt_one (s : Str) (c i : Nat) : subAt s ⟨#[c]⟩ i = (((s.cps.toList.map (· == c))[i]?).getD false) := by
  unfold subAt
  show (s.cps.extract i (i + 1) == #[c]) = _
  rw [List.getElem?_map, Array.getElem?_toList]
  by_cases h : i < s.cps.size
  · have e : s.cps.extract i (i + 1) = #[s.cps[i]] := by
      apply Array.ext'
      simp [List.drop_eq_getElem_cons, h, List.take_add_one]
    rw [e]
    simp [h]
  · have e : s.cps.extract i (i + 1) = #[] := by
      apply Array.ext'
      simp
      omega
    rw [e, Array.getElem?_eq_none (by omega)]
    rfl
theorem occ_like {s s' : Str} {c : Nat} (h : s.cps.toList.map (· == c) = s'.cps.toList.map (· == c)) (lo hi limit : Nat) : occurrences s ⟨#[c]⟩ lo hi limit = occurrences s' ⟨#[c]⟩ lo hi limit := by
  unfold occurrences
  simp only [subAt_one, h]
/-- the reply 229, its mark m and its digits -/
noncomputable def reply229 (m : Nat) (ds : List Nat) : Str := ⟨([50, 50, 57, 32, 103, 111, 32, 111, 110, 32, 40, m, m, m] ++ ds ++ [m, 41]).toArray⟩
noncomputable def ports229 (m : Nat) (ds : List Nat) : Str := ⟨([m, m, m] ++ ds ++ [m]).toArray⟩
structure Is229 (x : Str) (m : Nat) (ds : List Nat) : Prop where
  head : Txt.slice x none (some 3) = Str.ofString "229"
  left : Txt.find x (Str.ofString "(") = 10
  right : Txt.find3 x (Str.ofString ")") (10 + 1) = 15 + (ds.length : Int)
  one : Txt.item x (10 + 1) = ⟨#[m]⟩
  last : Txt.item x (15 + (ds.length : Int) - 1) = ⟨#[m]⟩
  cut : Txt.slice x (some (10 + 1)) (some (15 + (ds.length : Int))) = ports229 m ds
  parts : Txt.split (ports229 m ds) ⟨#[m]⟩ = [⟨#[]⟩, ⟨#[]⟩, ⟨#[]⟩, ⟨ds.toArray⟩, ⟨#[]⟩]
  size : x.length = 16 + ds.length
  few : ds.length ≤ 5
set_option maxRecDepth 100000 in
theorem occ_left : ∀ m ∈ [124, 33, 112], ∀ k ∈ [1, 2, 3, 4, 5], occurrences (reply229 m (List.replicate k 48)) ⟨#[40]⟩ 0 (16 + k) 1 = [10] := by decide +kernel
set_option maxRecDepth 100000 in
theorem occ_right : ∀ m ∈ [124, 33, 112], ∀ k ∈ [1, 2, 3, 4, 5], occurrences (reply229 m (List.replicate k 48)) ⟨#[41]⟩ 11 (16 + k) 1 = [15 + k] := by decide +kernel
set_option maxRecDepth 100000 in
theorem occ_ports : ∀ m ∈ [124, 33, 112], ∀ k ∈ [1, 2, 3, 4, 5], occurrences (ports229 m (List.replicate k 48)) ⟨#[m]⟩ 0 (4 + k) (5 + k) = [0, 1, 2, 3 + k] := by decide +kernel
theorem like_digits {ds : List Nat} {c : Nat} (h : ∀ d ∈ ds, 48 ≤ d ∧ d ≤ 57) (hc : c < 48 ∨ 57 < c) : ds.map (· == c) = (List.replicate ds.length 48).map (· == c) := by
  induction ds with
  | nil => rfl
  | cons d ds ih =>
    have := h d (.head _)
    rw [List.length_cons, List.replicate_succ, List.map_cons, List.map_cons, ih fun x hx => h x (.tail _ hx)]
    congr 1
    have h1 : (d == c) = false := by rw [beq_eq_false_iff_ne]; omega
    have h2 : ((48 : Nat) == c) = false := by rw [beq_eq_false_iff_ne]; omega
    rw [h1, h2]
theorem kind_pos (x : Str) : 1 ≤ Builtin.Str.strKind x := by
  unfold Builtin.Str.strKind
  split
  · omega
  · split <;> omega
theorem kind_one {m : Nat} (h : m < 256) : Builtin.Str.strKind ⟨#[m]⟩ = 1 := by
  unfold Builtin.Str.strKind
  rw [if_pos (by simpa using h)]
theorem reply_like {m : Nat} {ds : List Nat} {c : Nat} (h : ∀ d ∈ ds, 48 ≤ d ∧ d ≤ 57) (hc : c < 48 ∨ 57 < c) : (reply229 m ds).cps.toList.map (· == c) = (reply229 m (List.replicate ds.length 48)).cps.toList.map (· == c) := by
  simp only [reply229, List.map_append, like_digits h hc]
theorem ports_like {m : Nat} {ds : List Nat} {c : Nat} (h : ∀ d ∈ ds, 48 ≤ d ∧ d ≤ 57) (hc : c < 48 ∨ 57 < c) : (ports229 m ds).cps.toList.map (· == c) = (ports229 m (List.replicate ds.length 48)).cps.toList.map (· == c) := by
  simp only [ports229, List.map_append, like_digits h hc]
theorem by_len {P : List Nat → Prop} {ds : List Nat} (hk : ds.length ∈ [1, 2, 3, 4, 5]) (h1 : ∀ a, P [a]) (h2 : ∀ a b, P [a, b]) (h3 : ∀ a b c, P [a, b, c]) (h4 : ∀ a b c d, P [a, b, c, d]) (h5 : ∀ a b c d e, P [a, b, c, d, e]) : P ds := by
  have hb : ∀ n ∈ [1, 2, 3, 4, 5], 0 < n ∧ n ≤ 5 := by decide
  have hl := hb _ hk
  clear hb hk
  cases ds with
  | nil => exact absurd hl.1 (Nat.lt_irrefl 0)
  | cons a ds => cases ds with
    | nil => exact h1 a
    | cons b ds => cases ds with
      | nil => exact h2 a b
      | cons c ds => cases ds with
        | nil => exact h3 a b c
        | cons d ds => cases ds with
          | nil => exact h4 a b c d
          | cons e ds => cases ds with
            | nil => exact h5 a b c d e
            | cons f ds => exact absurd hl.2 (Nat.not_le_of_lt (Nat.le_add_left 6 ds.length))
set_option maxHeartbeats 2000000 in
theorem is229 {m : Nat} {ds : List Nat} (hm : m ∈ [124, 33, 112]) (h : ∀ d ∈ ds, 48 ≤ d ∧ d ≤ 57) (hk : ds.length ∈ [1, 2, 3, 4, 5]) : Is229 (reply229 m ds) m ds := by
  have hm' : m = 124 ∨ m = 33 ∨ m = 112 := by simpa using hm
  have hlen : (reply229 m ds).length = 16 + ds.length := by simp [reply229, Str.length]; omega
  have hlenp : (ports229 m ds).length = 4 + ds.length := by simp [ports229, Str.length]; omega
  have hk' : ds.length = 1 ∨ ds.length = 2 ∨ ds.length = 3 ∨ ds.length = 4 ∨ ds.length = 5 := by simpa using hk
  have ol := occ_left m hm _ hk
  rw [← occ_like (reply_like h (by omega))] at ol
  have or := occ_right m hm _ hk
  rw [← occ_like (reply_like h (by omega))] at or
  have op := occ_ports m hm _ hk
  rw [← occ_like (ports_like h (by omega))] at op
  refine ⟨?_, ?_, ?_, ?_, ?_, ?_, ?_, hlen, by omega⟩
  · refine by_len (P := fun ds => Txt.slice (reply229 m ds) none (some 3) = Str.ofString "229") hk ?_ ?_ ?_ ?_ ?_ <;> (intros; kernel_rfl)
  · unfold Txt.find
    have : Str.ofString "(" = ⟨#[40]⟩ := by decide +kernel
    rw [this, hlen, ol]
    rfl
  · unfold Txt.find3
    have : Str.ofString ")" = ⟨#[41]⟩ := by decide +kernel
    have e : fromIndex (reply229 m ds).length (10 + 1) = 11 := rfl
    rw [this, e, hlen, or]
    dsimp only
    omega
  · refine by_len (P := fun ds => Txt.item (reply229 m ds) (10 + 1) = ⟨#[m]⟩) hk ?_ ?_ ?_ ?_ ?_ <;> (intros; kernel_rfl)
  · refine by_len (P := fun ds => Txt.item (reply229 m ds) (15 + (ds.length : Int) - 1) = ⟨#[m]⟩) hk ?_ ?_ ?_ ?_ ?_ <;> (intros; kernel_rfl)
  · refine by_len (P := fun ds => Txt.slice (reply229 m ds) (some (10 + 1)) (some (15 + (ds.length : Int))) = ports229 m ds) hk ?_ ?_ ?_ ?_ ?_ <;> (intros; kernel_rfl)
  · unfold Txt.split
    rw [hlenp, kind_one (by omega), if_neg, if_neg]
    · have e : 4 + ds.length + 1 = 5 + ds.length := by omega
      rw [e, op]
      refine by_len (P := fun ds => partsBetween (ports229 m ds) [0, 1, 2, 3 + ds.length] (Str.length ⟨#[m]⟩) = [⟨#[]⟩, ⟨#[]⟩, ⟨#[]⟩, ⟨ds.toArray⟩, ⟨#[]⟩]) hk ?_ ?_ ?_ ?_ ?_ <;> (intros; kernel_rfl)
    · have e : 4 + ds.length + 1 = 5 + ds.length := by omega
      rw [e, op]
      simp
    · have := kind_pos (ports229 m ds)
      show ¬ (decide (4 + ds.length < 1) || decide (Builtin.Str.strKind (ports229 m ds) < 1)) = true
      simp
      omega
end
end
section
theorem map_one {α : Type} {l : List (Str × α)} {a : Str} {r : List Str} (h : l.map (·.1) = a :: r) : ∃ t l', l = (a, t) :: l' ∧ l'.map (·.1) = r := by
  cases l with
  | nil => cases h
  | cons x l => exact ⟨x.2, l, by rw [← (List.cons.inj h).1], (List.cons.inj h).2⟩
theorem five_of {α : Type} {l : List (Str × α)} {a b c d e : Str} (h : l.map (·.1) = [a, b, c, d, e]) : ∃ t0 t1 t2 t3 t4, l = [(a, t0), (b, t1), (c, t2), (d, t3), (e, t4)] := by
  obtain ⟨t0, l0, e0, h0⟩ := map_one h
  obtain ⟨t1, l1, e1, h1⟩ := map_one h0
  obtain ⟨t2, l2, e2, h2⟩ := map_one h1
  obtain ⟨t3, l3, e3, h3⟩ := map_one h2
  obtain ⟨t4, l4, e4, h4⟩ := map_one h3
  exact ⟨t0, t1, t2, t3, t4, by rw [e0, e1, e2, e3, e4, List.map_eq_nil_iff.mp h4]⟩
section
variable {prog : Program} {w : World} {A : Around} {E : Value → Shared → Prop} {s : Shared} {h₀ : Heap} {L : Addr} {m : Str → Option Value} {news : List (Addr × Obj)} {x y : Str} {t u v : Tok} {Q : Value → Shared → Prop}
theorem split_five {a b c d e : Str} (hF : Fr h₀ L s.heap m) (hN : News h₀ L s.heap news) (he : Txt.split x y = [a, b, c, d, e]) (hy : (y.length == 0) = false) (hsz : x.length ≤ 1000)
    (h : ∀ D t0 t1 t2 t3 t4 h' k, Fr h₀ L h' m → News h₀ L h' ((D, listOf #[.str a t0, .str b t1, .str c t2, .str d t3, .str e t4] 0) :: news) → (∀ p ∈ news, p.1 < D) → Q (.ref D) { s with heap := h', toks := k }) :
    wpAny (model prog w) A (call (.builtin "str.split") [.str x t, .str y u]) Q E s := by
  refine KSpl.split1 hF hN hy (fun D l h' k e1 _ F N lt => ?_) (by rw [PySem.sizeLine_eq]; omega)
  rw [he] at e1
  obtain ⟨t0, t1, t2, t3, t4, rfl⟩ := five_of e1
  exact h D t0 t1 t2 t3 t4 h' k F N lt
theorem find_eq {k : Int} (e : Txt.find x y = k) (h : Q (.int k s.toks) { s with toks := s.toks + 1 }) : wpAny (model prog w) A (call (.builtin "str.find") [.str x t, .str y u]) Q E s :=
  SC.find (by rw [e]; exact h)
theorem find3_eq {i k : Int} (e : Txt.find3 x y i = k) (h : Q (.int k s.toks) { s with toks := s.toks + 1 }) : wpAny (model prog w) A (call (.builtin "str.find") [.str x t, .str y u, .int i v]) Q E s :=
  SC.find3 (by rw [e]; exact h)
end
local macro_rules | `(tactic| walk_at "call builtin:str.find") => `(tactic| (refine of_stopk 1 ?_))
local macro_rules | `(tactic| walk_at "call builtin:str.split") => `(tactic| (refine of_stop ?_))
local macro_rules | `(tactic| walk_at "call type:int") => `(tactic| (refine of_stopk 2 ?_))
set_option maxRecDepth 100000 in
set_option maxHeartbeats 1600000 in
theorem parse229_c {w : World} (x : Str) (mk : Nat) (ds : List Nat) (H : Is229 x mk ds) (v : Int) (hv : PySem.intText? ⟨ds.toArray⟩ = some v) (tx t1 t2 : Tok) (p : Addr) (n : Nat) (rest : List (Addr × Obj)) :
    Con 5 w 65 ((p, listOf #[.str (Str.ofString "h.i") t1, .int 21 t2] n) :: rest) [.str x tx, .ref p] (fun k => ∀ D t, AllLt D ((p, listOf #[.str (Str.ofString "h.i") t1, .int 21 t2] n) :: rest) →
      k (.ref D) ((D, { cls := .type "tuple", data := .seq #[.str (Str.ofString "h.i") t1, .int v t] }) :: (p, listOf #[.str (Str.ofString "h.i") t1, .int 21 t2] n) :: rest)) := by
  unfold Con
  intro pp0 loose mean mg mb dp un gd cn cs a ccd cl outer A₀ base h₀ L m s Q E B F X N T hk hd hu hret
  have hx : x.length ≤ 1000 := by have := H.size; have := H.few; omega
  have q1 := H.left
  have q2 := H.right
  have q3 := H.size
  have q4 := H.few
  have q5 : (⟨ds.toArray⟩ : Str).length ≤ 640 := by show ds.toArray.size ≤ 640; simp; omega
  walk1
  (k_steps; (repeat (any_goals ((first | ((with_reducible refine un_stop 1 ?_); first | (refine find_eq (by assumption) ?_) | (refine find3_eq (by assumption) ?_)) | ((with_reducible refine un_stop 2 ?_); (refine KIN.call_text (by assumption) (by assumption) ?_))); k_steps))))
  · exfalso
    rename (_ != _) = true => hbad
    rw [H.head] at hbad
    simp at hbad
  · exfalso
    rename (_ != _) = true => hbad
    rw [H.one, H.last] at hbad
    simp at hbad
  · unfold Stop
    rw [H.cut, H.one]
    refine split_five (by assumption) (by assumption) H.parts rfl (by simp [ports229, Str.length]; omega) (fun D t0 t1 t2 t3 t4 h' k F' N' l1 => ?_)
    k_lt l1
    (k_steps; (repeat (any_goals ((first | ((with_reducible refine un_stop 1 ?_); first | (refine find_eq (by assumption) ?_) | (refine find3_eq (by assumption) ?_)) | ((with_reducible refine un_stop 2 ?_); (refine KIN.call_text (by assumption) (by assumption) ?_))); k_steps))))
    rename (_ < _ ∧ _ < _ ∧ AllLt _ _) => l2
    refine hret _ _ ⟨l2.2.1, l2.2.2⟩ _ _ (by assumption) (cb_drop (by assumption) skip_second)
end
section
noncomputable def b64v (c : Int) : Int := if 65 ≤ c ∧ c ≤ 90 then c - 65 else if 97 ≤ c ∧ c ≤ 122 then c - 71 else if 48 ≤ c ∧ c ≤ 57 then c + 4 else if c = 43 then 62 else if c = 47 then 63 else 64
theorem b64v_in (c : Int) : 0 ≤ b64v c ∧ b64v c ≤ 64 := by
  unfold b64v
  (repeat' split) <;> omega
end
section
set_option maxRecDepth 100000 in
set_option maxHeartbeats 1600000 in
theorem b64_value_c {w : World} (c : Int) (tc : Tok) (news : List (Addr × Obj)) : Con 2 w 121 news [.int c tc] (fun k => 0 ≤ b64v c → b64v c ≤ 64 → ∀ t, k (.int (b64v c) t) news) := by
  unfold Con
  intro pp0 loose mean mg mb dp un gd cn cs a ccd cl outer A₀ base h₀ L m s Q E B F X N T hk hd hu hret
  have hr : ∀ v t h' tk', v = b64v c → Fr h₀ L h' m → News h₀ L h' news → Q (.int v t) { s with heap := h', toks := tk' } := by
    rintro _ t h' tk' rfl
    exact hret (b64v_in c).1 (b64v_in c).2 t h' tk'
  walk1
  k_steps
  all_goals
    refine hr _ _ _ _ ?_ (by assumption) (by assumption)
    unfold b64v
    (repeat' split) <;> omega
end
section
/-- one sign of a2b_base64, not strict -/
noncomputable def decStep (σ : List Int × Int × Int × Int) (c : Int) : List Int × Int × Int × Int :=
  if c = 61 then (σ.1, σ.2.1, σ.2.2.1, σ.2.2.2 + 1)
  else if 64 ≤ b64v c then σ
  else if σ.2.1 = 0 then (σ.1, 1, b64v c, 0)
  else if σ.2.1 = 1 then (σ.1 ++ [σ.2.2.1 * 4 + b64v c / 16], 2, b64v c % 16, 0)
  else if σ.2.1 = 2 then (σ.1 ++ [σ.2.2.1 * 16 + b64v c / 4], 3, b64v c % 4, 0)
  else (σ.1 ++ [σ.2.2.1 * 64 + b64v c], 0, 0, 0)
noncomputable def decAll (b : Array UInt8) : List Int × Int × Int × Int := (KBw.bInts b).foldl decStep ([], 0, 0, 0)
noncomputable def b64d (b : Array UInt8) : Array UInt8 := ((decAll b).1.map fun n => n.toNat.toUInt8).toArray
noncomputable def DecW (pre : List Int) (out : List Int) (quad left pads : Int) : Prop :=
  out.length ≤ pre.length ∧ (∀ c ∈ out, 0 ≤ c ∧ c < 256) ∧ (quad = 0 ∧ left = 0 ∨ quad = 1 ∧ 0 ≤ left ∧ left < 64 ∨ quad = 2 ∧ 0 ≤ left ∧ left < 16 ∨ quad = 3 ∧ 0 ≤ left ∧ left < 4) ∧ 0 ≤ pads ∧ pre.foldl decStep ([], 0, 0, 0) = (out, quad, left, pads)
theorem dec_start : DecW [] [] 0 0 0 := ⟨by simp, by simp, .inl ⟨rfl, rfl⟩, by decide, rfl⟩
noncomputable abbrev DecQ (q l : Int) : Prop := q = 0 ∧ l = 0 ∨ q = 1 ∧ 0 ≤ l ∧ l < 64 ∨ q = 2 ∧ 0 ≤ l ∧ l < 16 ∨ q = 3 ∧ 0 ≤ l ∧ l < 4
theorem dq_1 {q l : Int} (h : DecQ q l) (e : q = 1) : 0 ≤ l ∧ l < 64 := by
  subst e
  rcases h with h | h | h | h
  · exact absurd h.1 (by decide)
  · exact h.2
  · exact absurd h.1 (by decide)
  · exact absurd h.1 (by decide)
theorem dq_2 {q l : Int} (h : DecQ q l) (e : q = 2) : 0 ≤ l ∧ l < 16 := by
  subst e
  rcases h with h | h | h | h
  · exact absurd h.1 (by decide)
  · exact absurd h.1 (by decide)
  · exact h.2
  · exact absurd h.1 (by decide)
theorem dq_3 {q l : Int} (h : DecQ q l) (n0 : ¬ q = 0) (n1 : ¬ q = 1) (n2 : ¬ q = 2) : 0 ≤ l ∧ l < 4 := by
  rcases h with h | h | h | h
  · exact absurd h.1 n0
  · exact absurd h.1 n1
  · exact absurd h.1 n2
  · exact h.2
theorem dv_1 {l v : Int} (h : 0 ≤ l ∧ l < 64) (g : 0 ≤ v) (g' : v < 64) : 0 ≤ l * 4 + v / 16 ∧ l * 4 + v / 16 < 256 := by omega
theorem dv_2 {l v : Int} (h : 0 ≤ l ∧ l < 16) (g : 0 ≤ v) (g' : v < 64) : 0 ≤ l * 16 + v / 4 ∧ l * 16 + v / 4 < 256 := by omega
theorem dv_3 {l v : Int} (h : 0 ≤ l ∧ l < 4) (g : 0 ≤ v) (g' : v < 64) : 0 ≤ l * 64 + v ∧ l * 64 + v < 256 := by omega
noncomputable def DecK (pre : List Int) (r : List Int × Int × Int × Int) : Prop := pre.foldl decStep ([], 0, 0, 0) = r → DecW pre r.1 r.2.1 r.2.2.1 r.2.2.2
theorem dec_next {pre out : List Int} {quad left pads c : Int} {out' : List Int} {quad' left' pads' : Int} (h : DecW pre out quad left pads) (e : decStep (out, quad, left, pads) c = (out', quad', left', pads')) : DecW (pre ++ [c]) out' quad' left' pads' := by
  have h1 := h.1
  have h2 := h.2.1
  have h3 := h.2.2.1
  have h4 := h.2.2.2.1
  have hs : (pre ++ [c]).foldl decStep ([], 0, 0, 0) = decStep (out, quad, left, pads) c := by rw [List.foldl_append, h.2.2.2.2]; rfl
  have hv := b64v_in c
  have key : DecK (pre ++ [c]) (decStep (out, quad, left, pads) c) := by
    refine ite_both (DecK _) (fun _ hs => ⟨len_keep h1, h2, h3, Int.le_trans h4 (Int.le_of_lt (Int.lt_succ _)), hs⟩) fun _ => ite_both (DecK _) (fun _ hs => ⟨len_keep h1, h2, h3, h4, hs⟩) fun g => ?_
    have hv' := Int.not_le.mp g
    refine ite_both (DecK _) (fun _ hs => ⟨len_keep h1, h2, .inr (.inl ⟨rfl, hv.1, hv'⟩), Int.le_refl 0, hs⟩) fun n0 => ite_both (DecK _) (fun q hs => ?_) fun n1 => ite_both (DecK _) (fun q hs => ?_) fun n2 hs => ?_
    · have d := dv_1 (dq_1 h3 q) hv.1 hv'
      exact ⟨len_more h1, bytes_in h2 d.1 d.2, .inr (.inr (.inl ⟨rfl, Int.emod_nonneg _ (by decide), Int.emod_lt_of_pos _ (by decide)⟩)), Int.le_refl 0, hs⟩
    · have d := dv_2 (dq_2 h3 q) hv.1 hv'
      exact ⟨len_more h1, bytes_in h2 d.1 d.2, .inr (.inr (.inr ⟨rfl, Int.emod_nonneg _ (by decide), Int.emod_lt_of_pos _ (by decide)⟩)), Int.le_refl 0, hs⟩
    · have d := dv_3 (dq_3 h3 n0 n1 n2) hv.1 hv'
      exact ⟨len_more h1, bytes_in h2 d.1 d.2, .inl ⟨rfl, rfl⟩, Int.le_refl 0, hs⟩
  have k := key hs
  rw [e] at k
  exact k
end
section
local macro_rules | `(tactic| walk_at "call type:type") => `(tactic| (with_reducible refine type_of_bytes ?_))
local macro_rules | `(tactic| walk_at "getMethod str") => `(tactic| (with_reducible refine encode_method ?_))
local macro_rules | `(tactic| walk_at "call builtin:str.encode") => `(tactic| (refine of_stopk 1 ?_))
local macro_rules | `(tactic| walk_at "pyIter bytes") => `(tactic| (refine of_stop ?_))
/-- what holds between the turns of a2b_base64 -/
inductive DecJ (l : Addr) (news : List (Addr × Obj)) (pre : List Int) (m : Str → Option Value) (nx : List (Addr × Obj)) : Prop
  | mk (vs : List Value) (out : List Int) (nn : Nat) (quad : Int) (t1 : Tok) (left : Int) (t2 : Tok) (pads : Int) (t3 : Tok) (i : Int) (t4 : Tok) : nx = (l, W.listOf vs.toArray nn) :: news → IntsAre vs out → m (Str.ofString "out") = some (.ref l) → m (Str.ofString "quad_pos") = some (.int quad t1) → m (Str.ofString "leftchar") = some (.int left t2) →
      m (Str.ofString "pads") = some (.int pads t3) → m (Str.ofString "i") = some (.int i t4) → m (Str.ofString "strict_mode") = some (.bool false) → DecW pre out quad left pads → DecJ l news pre m nx
theorem stop_quad {prog : Program} {w : World} {A : Around} {Q : Flow → Shared → Prop} {E : Value → Shared → Prop} {s : Shared} {p q r t : Pos} {z : Nat} {b o : List Stmt} {rest : List Stmt} {env : Env}
    (h : Stop (wpAny (model prog w) A (execs (.If (.Compare (.Name (Str.ofString "quad_pos") p) [.Eq] [.Constant (.int 0) z q] r) b o t :: rest) env) Q E s)) : wpAny (model prog w) A (execs (.If (.Compare (.Name (Str.ofString "quad_pos") p) [.Eq] [.Constant (.int 0) z q] r) b o t :: rest) env) Q E s := h
theorem stop_ps {M : Model} {A : Around} {Q : Bool → Shared → Prop} {E : Value → Shared → Prop} {s : Shared} {p q r : Pos} {env : Env} {c : Sem Value}
    (h : Stop (wpAny M A (isTrue (.BoolOp .And [.Name (Str.ofString "pads") p, .Name (Str.ofString "strict_mode") q] r) env c) Q E s)) : wpAny M A (isTrue (.BoolOp .And [.Name (Str.ofString "pads") p, .Name (Str.ofString "strict_mode") q] r) env c) Q E s := h
/-- `x and y` of an int and False -/
theorem and_false_nn {prog : Program} {w : World} {A : Around} {E : Value → Shared → Prop} {s : Shared} {h₀ : Heap} {L a : Addr} {m : Str → Option Value} {name : Str} {scope : Scope} {cd : Value} {x y : Str} {p q r : Pos} {c : Sem Value} {Q : Bool → Shared → Prop} {k : Int} {t : Tok}
    (F : Fr h₀ L s.heap m) (hx : m x = some (.int k t)) (hy : m y = some (.bool false)) (h : Q false s) (hk : scope.kind = .function := by rfl)
    (h1 : (envOf name scope L a cd).kindOf x = some .local := by rfl) (h2 : (envOf name scope L a cd).kindOf y = some .local := by rfl) (d1 : (x == ("__debug__" : Str)) = false := by decide) (d2 : (y == ("__debug__" : Str)) = false := by decide) :
    wpAny (model prog w) A (isTrue (.BoolOp .And [.Name x p, .Name y q] r) (envOf name scope L a cd) c) Q E s := by
  refine isTrue_and (isTrue_plain (ld F hx (truthy_int ?_) hk h1 d1))
  split
  · refine isTrue_and (isTrue_plain (ld F hy (wpAny_truthy_bool ?_) hk h2 d2))
    rw [if_neg Bool.false_ne_true]
    exact h
  · exact h
local macro_rules | `(tactic| walk_at "execs cons If cons") => `(tactic| (with_reducible refine stop_quad ?_))
local macro_rules | `(tactic| walk_at "isTrue BoolOp") => `(tactic| (with_reducible refine stop_ps ?_))
theorem dec_end {h₀ : Heap} {L l : Addr} {news own : List (Addr × Obj)} {o : Obj} {pre : List Int} {c : Int} {m' : Str → Option Value} {s₁ : Shared} {h' : Heap} {tk : Nat} {vs : List Value} {out out₀ : List Int} {nn : Nat} {quad left pads i quad₀ left₀ pads₀ : Int} {t1 t2 t3 t4 : Tok}
    (F : Fr h₀ L h' m') (N : News h₀ L h' ((l, W.listOf vs.toArray nn) :: (news ++ own))) (hi : IntsAre vs out) (m1 : m' (Str.ofString "out") = some (.ref l)) (m2 : m' (Str.ofString "quad_pos") = some (.int quad t1)) (m3 : m' (Str.ofString "leftchar") = some (.int left t2))
    (m4 : m' (Str.ofString "pads") = some (.int pads t3)) (m5 : m' (Str.ofString "i") = some (.int i t4)) (m6 : m' (Str.ofString "strict_mode") = some (.bool false)) (hp : DecW pre out₀ quad₀ left₀ pads₀) (e : decStep (out₀, quad₀, left₀, pads₀) c = (out, quad, left, pads)) :
    InvEndN h₀ L (DecJ l news (pre ++ [c])) own (((l, o) :: news).map (·.1)) s₁ { s₁ with heap := h', toks := tk } :=
  InvEndN.intro F N ⟨vs, out, nn, quad, t1, left, t2, pads, t3, i, t4, rfl, hi, m1, m2, m3, m4, m5, m6, dec_next hp e⟩ rfl sub_own own_sub
local macro_rules | `(tactic| walk_at "eval Name") => `(tactic| (k_here; k_dflt (refine ld (by k_asm) (by assumption) ?_; k_whole)))
local macro_rules | `(tactic| k_upd) => `(tactic| exact Upd.head (apart_own (by assumption) (by assumption)))
local macro_rules | `(tactic| walk_at "call type:bytes") => `(tactic| (refine of_stop ?_))
local macro_rules | `(tactic| walk_at "InvEndN") => `(tactic| (refine of_stop ?_))
local macro_rules | `(tactic| walk_at "call ref") => `(tactic| ((with_reducible refine at9 121 ?_); refine of_stopk 2 ?_))
set_option maxRecDepth 100000 in
set_option maxHeartbeats 1600000 in
theorem b64decode_c {w : World} (x : Str) (tx : Tok) (hx : x.length ≤ 300) (ha : ∀ c ∈ x.cps.toList, c < 128) (hq : (decAll (asciiB x)).2.1 ≠ 1 ∧ ((decAll (asciiB x)).2.1 = 0 ∨ 4 ≤ (decAll (asciiB x)).2.1 + (decAll (asciiB x)).2.2.2)) (news : List (Addr × Obj)) : Con 20 w 153 news [.str x tx] (fun k => ∀ t, k (.bytes (b64d (asciiB x)) t) news) := by
  unfold Con
  intro pp0 loose mean mg mb dp un gd cn cs a ccd cl outer A₀ base h₀ L m s Q E B F X N T hk hd hu hret
  have hx1 : x.length ≤ 1000 := by omega
  walk1
  (k_steps; (repeat (any_goals ((first | ((with_reducible refine un_stop 1 ?_); (refine encode_call (by assumption) (by assumption) ?_; intro _ _)) | ((with_reducible refine un_stop 2 ?_); (k_dflt ((((with_reducible refine at9 121 ?_); apply con_use (b64_value_c _ _ _))); walk_at "con9")))); k_steps))))
  unfold Stop
  rename Fr _ _ _ _ => F2
  rename News _ _ _ _ => N2
  refine bytes_J (DecJ _ news)
    rfl F2 N2 ⟨[], [], 0, 0, _, 0, _, 0, _, 0, _, rfl, .nil, rfl, rfl, rfl, rfl, rfl, rfl, dec_start⟩ ?turn ?done
  case turn =>
    intro pre post n t m₁ nx h tk own he hn0 hn1 _ hoff hJ F3 N3
    k_fold
    obtain ⟨vs, out, nn, quad, t1, left, t2, pads, t3, i, t4, rfl, hi, m1, m2, m3, m4, m5, m6, hp⟩ := hJ
    have hvl : vs.length ≤ 1000 := by
      have e1 := IntsAre.length hi
      have e2 := congrArg List.length he
      have e3 : (asciiB x).size = x.length := by simp [asciiB, Str.length]
      have e4 := hp.1
      rw [KBw.ints_length, List.length_append, List.length_cons] at e2
      omega
    clear hq hx he hret
    (k_steps; (repeat (any_goals ((first | ((with_reducible refine un_stop 1 ?_); (refine encode_call (by assumption) (by assumption) ?_; intro _ _)) | ((with_reducible refine un_stop 2 ?_); (k_dflt ((((with_reducible refine at9 121 ?_); apply con_use (b64_value_c _ _ _))); walk_at "con9")))); k_steps))))
    all_goals unfold Stop
    · rename News _ _ _ _ => nE
      (try simp only [List.push_toArray] at nE)
      exact dec_end (by assumption) nE (by first | assumption | exact ints_one hi) (by first | rfl | assumption) (by first | rfl | assumption) (by first | rfl | assumption) (by first | rfl | assumption) (by first | rfl | assumption) (by first | rfl | assumption) hp (by unfold decStep; dsimp only; (repeat' split) <;> first | rfl | (exfalso; omega))
    · rename News _ _ _ _ => nE
      (try simp only [List.push_toArray] at nE)
      exact dec_end (by assumption) nE (by first | assumption | exact ints_one hi) (by first | rfl | assumption) (by first | rfl | assumption) (by first | rfl | assumption) (by first | rfl | assumption) (by first | rfl | assumption) (by first | rfl | assumption) hp (by unfold decStep; dsimp only; (repeat' split) <;> first | rfl | (exfalso; omega))
    · rename News _ _ _ _ => nE
      (try simp only [List.push_toArray] at nE)
      exact dec_end (by assumption) nE (by first | assumption | exact ints_one hi) (by first | rfl | assumption) (by first | rfl | assumption) (by first | rfl | assumption) (by first | rfl | assumption) (by first | rfl | assumption) (by first | rfl | assumption) hp (by unfold decStep; dsimp only; (repeat' split) <;> first | rfl | (exfalso; omega))
    · rename News _ _ _ _ => nE
      (try simp only [List.push_toArray] at nE)
      exact dec_end (by assumption) nE (by first | assumption | exact ints_one hi) (by first | rfl | assumption) (by first | rfl | assumption) (by first | rfl | assumption) (by first | rfl | assumption) (by first | rfl | assumption) (by first | rfl | assumption) hp (by unfold decStep; dsimp only; (repeat' split) <;> first | rfl | (exfalso; omega))
    · rename Fr _ _ _ _ => F9
      refine and_false_nn F9 m4 m6 ?_
      (k_steps; (repeat (any_goals ((first | ((with_reducible refine un_stop 1 ?_); (refine encode_call (by assumption) (by assumption) ?_; intro _ _)) | ((with_reducible refine un_stop 2 ?_); (k_dflt ((((with_reducible refine at9 121 ?_); apply con_use (b64_value_c _ _ _))); walk_at "con9")))); k_steps))))
      unfold Stop
      obtain ⟨_, _, hp3, _, _⟩ := id hp
      rcases hp3 with ⟨rfl, rfl⟩ | ⟨rfl, hl⟩ | ⟨rfl, hl⟩ | ⟨rfl, hl⟩
      · refine wpAny_execs_cons ?_
        (k_steps; (repeat (any_goals ((first | ((with_reducible refine un_stop 1 ?_); (refine encode_call (by assumption) (by assumption) ?_; intro _ _)) | ((with_reducible refine un_stop 2 ?_); (k_dflt ((((with_reducible refine at9 121 ?_); apply con_use (b64_value_c _ _ _))); walk_at "con9")))); k_steps))))
        unfold Stop
        rename News _ _ _ _ => nE
        (try simp only [List.push_toArray] at nE)
        exact dec_end (by assumption) nE (by first | assumption | exact ints_one hi) (by first | rfl | assumption) (by first | rfl | assumption) (by first | rfl | assumption) (by first | rfl | assumption) (by first | rfl | assumption) (by first | rfl | assumption) hp (by unfold decStep; dsimp only; (repeat' split) <;> first | rfl | (exfalso; omega))
      · refine wpAny_execs_cons ?_
        (k_steps; (repeat (any_goals ((first | ((with_reducible refine un_stop 1 ?_); (refine encode_call (by assumption) (by assumption) ?_; intro _ _)) | ((with_reducible refine un_stop 2 ?_); (k_dflt ((((with_reducible refine at9 121 ?_); apply con_use (b64_value_c _ _ _))); walk_at "con9")))); k_steps))))
        unfold Stop
        rename News _ _ _ _ => nE
        (try simp only [List.push_toArray] at nE)
        exact dec_end (by assumption) nE (by first | assumption | exact ints_one hi) (by first | rfl | assumption) (by first | rfl | assumption) (by first | rfl | assumption) (by first | rfl | assumption) (by first | rfl | assumption) (by first | rfl | assumption) hp (by unfold decStep; dsimp only; (repeat' split) <;> first | rfl | (exfalso; omega))
      · refine wpAny_execs_cons ?_
        (k_steps; (repeat (any_goals ((first | ((with_reducible refine un_stop 1 ?_); (refine encode_call (by assumption) (by assumption) ?_; intro _ _)) | ((with_reducible refine un_stop 2 ?_); (k_dflt ((((with_reducible refine at9 121 ?_); apply con_use (b64_value_c _ _ _))); walk_at "con9")))); k_steps))))
        unfold Stop
        rename News _ _ _ _ => nE
        (try simp only [List.push_toArray] at nE)
        exact dec_end (by assumption) nE (by first | assumption | exact ints_one hi) (by first | rfl | assumption) (by first | rfl | assumption) (by first | rfl | assumption) (by first | rfl | assumption) (by first | rfl | assumption) (by first | rfl | assumption) hp (by unfold decStep; dsimp only; (repeat' split) <;> first | rfl | (exfalso; omega))
      · refine wpAny_execs_cons ?_
        (k_steps; (repeat (any_goals ((first | ((with_reducible refine un_stop 1 ?_); (refine encode_call (by assumption) (by assumption) ?_; intro _ _)) | ((with_reducible refine un_stop 2 ?_); (k_dflt ((((with_reducible refine at9 121 ?_); apply con_use (b64_value_c _ _ _))); walk_at "con9")))); k_steps))))
        unfold Stop
        rename News _ _ _ _ => nE
        (try simp only [List.push_toArray] at nE)
        exact dec_end (by assumption) nE (by first | assumption | exact ints_one hi) (by first | rfl | assumption) (by first | rfl | assumption) (by first | rfl | assumption) (by first | rfl | assumption) (by first | rfl | assumption) (by first | rfl | assumption) hp (by unfold decStep; dsimp only; (repeat' split) <;> first | rfl | (exfalso; omega))
  case done =>
    intro m₁ nx h tk hJ F3 N3
    (try k_fold)
    obtain ⟨vs, out, nn, quad, t1, left, t2, pads, t3, i, t4, rfl, hi, m1, m2, m3, m4, m5, m6, hp⟩ := hJ
    have hp' := hp
    obtain ⟨hp1, hp2, hp3, hp4, hp5⟩ := hp'
    have e3 : (asciiB x).size = x.length := by simp [asciiB, Str.length]
    have hvl : vs.length ≤ 1000 := by
      have e1 := IntsAre.length hi
      rw [KBw.ints_length] at hp1
      omega
    have hda : decAll (asciiB x) = (out, quad, left, pads) := hp5
    rw [hda] at hq
    obtain ⟨hq1, hq2⟩ := hq
    dsimp only at hq1 hq2
    have hde : b64d (asciiB x) = (out.map fun n => n.toNat.toUInt8).toArray := by unfold b64d; rw [hda]
    rw [hde] at hret
    rcases hp3 with ⟨rfl, rfl⟩ | ⟨rfl, hl⟩ | ⟨rfl, hl⟩ | ⟨rfl, hl⟩
    · (k_steps; (repeat (any_goals ((first | ((with_reducible refine un_stop 1 ?_); (refine encode_call (by assumption) (by assumption) ?_; intro _ _)) | ((with_reducible refine un_stop 2 ?_); (k_dflt ((((with_reducible refine at9 121 ?_); apply con_use (b64_value_c _ _ _))); walk_at "con9")))); k_steps))))
      unfold Stop
      refine bytes_K (by assumption) (by assumption) ⟨_, (N3 _ (.head _)).1, rfl, _, rfl⟩ hi hp2 (by rw [PySem.sizeLine_eq]; omega) rfl (fun h' t k F' N' _ => ?_)
      (k_steps; (repeat (any_goals ((first | ((with_reducible refine un_stop 1 ?_); (refine encode_call (by assumption) (by assumption) ?_; intro _ _)) | ((with_reducible refine un_stop 2 ?_); (k_dflt ((((with_reducible refine at9 121 ?_); apply con_use (b64_value_c _ _ _))); walk_at "con9")))); k_steps))))
      refine hret _ _ _ (by assumption) (cb_drop (by assumption) (by k_sub))
    · exact absurd rfl hq1
    · have hq3 : 4 ≤ 2 + pads := by omega
      (k_steps; (repeat (any_goals ((first | ((with_reducible refine un_stop 1 ?_); (refine encode_call (by assumption) (by assumption) ?_; intro _ _)) | ((with_reducible refine un_stop 2 ?_); (k_dflt ((((with_reducible refine at9 121 ?_); apply con_use (b64_value_c _ _ _))); walk_at "con9")))); k_steps))))
      unfold Stop
      refine bytes_K (by assumption) (by assumption) ⟨_, (N3 _ (.head _)).1, rfl, _, rfl⟩ hi hp2 (by rw [PySem.sizeLine_eq]; omega) rfl (fun h' t k F' N' _ => ?_)
      (k_steps; (repeat (any_goals ((first | ((with_reducible refine un_stop 1 ?_); (refine encode_call (by assumption) (by assumption) ?_; intro _ _)) | ((with_reducible refine un_stop 2 ?_); (k_dflt ((((with_reducible refine at9 121 ?_); apply con_use (b64_value_c _ _ _))); walk_at "con9")))); k_steps))))
      refine hret _ _ _ (by assumption) (cb_drop (by assumption) (by k_sub))
    · have hq3 : 4 ≤ 3 + pads := by omega
      (k_steps; (repeat (any_goals ((first | ((with_reducible refine un_stop 1 ?_); (refine encode_call (by assumption) (by assumption) ?_; intro _ _)) | ((with_reducible refine un_stop 2 ?_); (k_dflt ((((with_reducible refine at9 121 ?_); apply con_use (b64_value_c _ _ _))); walk_at "con9")))); k_steps))))
      unfold Stop
      refine bytes_K (by assumption) (by assumption) ⟨_, (N3 _ (.head _)).1, rfl, _, rfl⟩ hi hp2 (by rw [PySem.sizeLine_eq]; omega) rfl (fun h' t k F' N' _ => ?_)
      (k_steps; (repeat (any_goals ((first | ((with_reducible refine un_stop 1 ?_); (refine encode_call (by assumption) (by assumption) ?_; intro _ _)) | ((with_reducible refine un_stop 2 ?_); (k_dflt ((((with_reducible refine at9 121 ?_); apply con_use (b64_value_c _ _ _))); walk_at "con9")))); k_steps))))
      refine hret _ _ _ (by assumption) (cb_drop (by assumption) (by k_sub))
end
section
noncomputable def codedF (x : Str) : Str := textOf (b64e (asciiB x))
/-- what is asked of a name -/
structure IsName (x : Str) : Prop where
  size : x.length ≤ 10
  ascii : ∀ c ∈ x.cps.toList, c < 128
  some : 0 < (b64e (asciiB x)).size
  code : ∀ c ∈ (b64e (asciiB x)).toList, c.toNat < 128
  codes : (b64e (asciiB x)).size ≤ 1000
end
section
local macro_rules | `(tactic| walk_at "getMethod str") => `(tactic| (with_reducible refine encode_method ?_))
local macro_rules | `(tactic| walk_at "call builtin:str.encode") => `(tactic| (refine of_stopk 1 ?_))
local macro_rules | `(tactic| walk_at "call type:str") => `(tactic| (refine str_of_ascii (by assumption) (by assumption) (by assumption) ?_; intro _ _))
local macro_rules | `(tactic| walk_at "call ref") => `(tactic| ((with_reducible refine at9 145 ?_); refine of_stopk 2 ?_))

set_option maxRecDepth 100000 in
set_option maxHeartbeats 1600000 in
theorem law_coded_c {w : World} (x : Str) (tx : Tok) (H : IsName x) (news : List (Addr × Obj)) : Con 30 w 308 news [.str x tx] (fun k => ∀ t, k (.str (codedF x) t) news) := by
  unfold Con
  intro pp0 loose mean mg mb dp un gd cn cs a ccd cl outer A₀ base h₀ L m s Q E B F X N T hk hd hu hret
  have q1 : x.length ≤ 1000 := by have := H.size; omega
  have q2 := H.ascii
  have q3 : (asciiB x).size ≤ 300 := by have := H.size; have e : (asciiB x).size = x.length := by simp [asciiB, Str.length]
                                        omega
  have q4 := H.some
  have q5 := H.code
  have q6 := H.codes
  walk1
  (k_steps; (repeat (any_goals ((first | ((with_reducible refine un_stop 1 ?_); (refine encode_call (by assumption) (by assumption) ?_; intro _ _)) | ((with_reducible refine un_stop 2 ?_); (k_dflt ((((with_reducible refine at9 145 ?_); apply con_use (b64encode_c _ _ ?_ _))); walk_at "con9")))); k_steps))))
  exact hret _ _ _ (by assumption) (by assumption)
end
section
set_option maxRecDepth 100000
theorem items_ints {b : Array UInt8} {acc : Array Value} (h : ItemsOf (fun i v => ∃ c u, b[i]? = some c ∧ v = Value.int (c.toNat : Int) u) acc b.size) : IntsAre acc.toList (KBw.bInts b) := by
  have key : ∀ (ns : List Int) (vs : List Value), vs.length = ns.length → (∀ (j : Nat) (v : Value), vs[j]? = some v → ∃ (n : Int) (u : Tok), ns[j]? = some n ∧ v = Value.int n u) → IntsAre vs ns := by
    intro ns
    induction ns with
    | nil => intro vs hl _; have : vs = [] := List.eq_nil_of_length_eq_zero hl
             rw [this]; exact .nil
    | cons n ns ih =>
      intro vs hl hv
      cases vs with
      | nil => cases hl
      | cons v vs =>
        obtain ⟨n', u, hn, rfl⟩ := hv 0 v rfl
        cases hn
        exact .cons _ _ (ih vs (Nat.succ.inj hl) fun j v' hj => hv (j + 1) v' hj)
  refine key _ _ (by rw [KBw.ints_length]; simpa using h.1) fun j v hj => ?_
  obtain ⟨c, u, hc, rfl⟩ := h.2 j v (by simpa using hj)
  exact ⟨_, u, KBw.ints_get hc, rfl⟩
section
variable {prog : Program} {w : World} {A : Around} {E : Value → Shared → Prop} {s : Shared}
theorem extend_bytes {R : Result → Shared → Prop} (hh : A.handled = none) (x : Array UInt8) (t : Tok) (S : Addr) (res : Value) (c₀ : Nat) (hS : s.heap.get? S = some { cls := .type "list", data := .seq #[] c₀ }) (hn : x.size ≤ sizeLine)
    (hR : ∀ h' tk acc' c', (∀ b o, b ≠ S → s.heap.get? b = some o → h'.get? b = some o) → h'.get? S = some { cls := .type "list", dict := none, data := .seq acc' c', slots := #[] } →
      IntsAre acc'.toList (KBw.bInts x) → R (.ok (.ret res)) { s with heap := h', toks := tk }) :
    wpAny (model prog w) A.in1 (Builtin.List.listExtendWith (.ref S) (.bytes x t) res)
      (fun fin s' => match fin with | .done f => R (.ok f) s' | .again c' => c'.quiet = true ∧ codeAny (model prog w) A c' R s') (fun e s' => R (.error e) s') s := by
  have hSf : S ∉ [s.heap.objs.size] := fun hm => Nat.lt_irrefl _ ((List.mem_singleton.mp hm) ▸ Heap.lt_size hS)
  unfold Builtin.List.listExtendWith
  refine wpAny_bind (wpAny_typeOf (T := "bytes") (v := .bytes x t) rfl ?_)
  have h1 : Builtin.List.listSameRef (.ref S) (.bytes x t) = false := rfl
  have h2 : (Value.type "bytes" == Value.type "list") = false := by decide
  have h3 : (Value.type "bytes" == Value.type "tuple") = false := by decide
  simp only [h1, h2, h3, Bool.or_false, Bool.false_eq_true, if_false]
  refine wpAny_bind (KBw.pyIter_bytes ?_)
  refine wpAny_bind (wpAny_holding ?_)
  unfold Builtin.List.listLengthHint
  refine wpAny_bind (wpAny_specialOf (T := "bytes") (v := .bytes x t) rfl FB.slot_bytes_len.lookup ?_)
  wp_delta
  refine wpAny_bind (wpAny_of_eq KBy.isInstance_eq ?_)
  show wpAny _ _ (typeOf (Value.bytes x t) >>= _) _ _ _
  refine wpAny_bind (wpAny_typeOf (T := "bytes") (v := .bytes x t) rfl ?_)
  refine wpAny_pure ?_
  rw [if_neg (by decide)]
  refine wpAny_pure ⟨plainId_quiet PySem.F.plain_extend_loop _, codeAny_extend_loopS (KBw.walks (A := A.in1) hh s.heap.objs.size x t).toS hn _ hSf _ x.size 0 _ _ _ rfl (Nat.zero_le _) ⟨_, Heap.get?_push_size _ rfl, rfl, rfl⟩ (Heap.get?_push_of_some _ hS) (ItemsOf.nil _) fun s' acc' c' hm hS' hacc => ?_⟩
  rw [Moved.eq_with hm]
  refine hR s'.heap s'.toks acc' c' (fun b ob hb e => hm.heap b ob (fun hmem => ?_) (Heap.get?_push_of_some _ e)) hS' (items_ints hacc)
  rcases List.mem_cons.mp hmem with e' | hmem
  · exact hb e'
  · exact absurd (Heap.lt_size e) (by rw [List.mem_singleton.mp hmem]; exact Nat.lt_irrefl _)
theorem list_init_bytes {R : Result → Shared → Prop} (hh : A.handled = none) (x : Array UInt8) (t : Tok) (S : Addr) (hS : s.heap.get? S = some { cls := .type "list", data := .seq #[] }) (hn : x.size ≤ sizeLine)
    (hR : ∀ h' tk acc' c', (∀ b o, b ≠ S → s.heap.get? b = some o → h'.get? b = some o) → h'.get? S = some { cls := .type "list", dict := none, data := .seq acc' c', slots := #[] } →
      IntsAre acc'.toList (KBw.bInts x) → R (.ok (.ret .none)) { s with heap := h', toks := tk }) :
    wpAny (model prog w) A.in1 (Builtin.«list.__init__» ⟨[.ref S, .bytes x t], []⟩)
      (fun fin s' => match fin with | .done f => R (.ok f) s' | .again c' => c'.quiet = true ∧ codeAny (model prog w) A c' R s') (fun e s' => R (.error e) s') s := by
  show wpAny _ _ (do let old ← Builtin.List.listItems (.ref S); Builtin.List.listUpdate (.ref S) (fun _ => #[]); letGo old.toList.reverse; Builtin.List.listExtendWith (.ref S) (.bytes x t) .none) _ _ s
  refine wpAny_bind ?_
  unfold Builtin.List.listItems
  refine wpAny_bind (wpAny_seqItems hS rfl (wpAny_pure ?_))
  show wpAny _ _ (updateSeq S (fun _ => #[]) >>= fun _ => letGo (#[] : Array Value).toList.reverse >>= fun _ => Builtin.List.listExtendWith (.ref S) (.bytes x t) .none) _ _ s
  refine wpAny_bind (wpAny_updateSeq hS rfl ?_)
  have hS₂ := Heap.get?_update_self (Obj.mapSeq (fun _ => (#[] : Array Value))) hS rfl
  refine wpAny_bind (wpAny_letGo ?_)
  refine extend_bytes hh x t S .none _ hS₂ hn fun h' tk acc' c' hk hS' hacc => ?_
  exact hR h' tk acc' c' (fun b o hb e => hk b o hb ((Heap.get?_update_other _ _ (Ne.symm hb)).trans e)) hS' hacc
/-- list(bytes): a new list of its ints -/
theorem list_bytes {h₀ : Heap} {L : Addr} {m : Str → Option Value} {news : List (Addr × Obj)} {Q : Value → Shared → Prop} (hh : A.handled = none) (F : Fr h₀ L s.heap m) (N : News h₀ L s.heap news) (x : Array UInt8) (t : Tok) (hn : x.size ≤ 1000)
    (hQ : ∀ D vs c h' tk, Fr h₀ L h' m → News h₀ L h' ((D, PySem.W.listOf vs.toArray c) :: news) → (∀ q ∈ news, q.1 < D) → IntsAre vs (KBw.bInts x) → Q (.ref D) { s with heap := h', toks := tk }) :
    wpAny (model prog w) A (call (.type "list") [.bytes x t]) Q E s := by
  refine callType_codes (Q₁ := fun obj s₁ => obj = .ref s.heap.objs.size ∧ s₁ = { s with heap := s.heap.push { cls := .type "list", data := .seq #[] } }) PySem.F.called_list (PySem.F.typeCall_list_1 _) PySem.F.entry_list_init
    (code_list_new _ ⟨rfl, rfl⟩) fun obj s₁ h₁ => ?_
  obtain ⟨rfl, rfl⟩ := h₁
  have hS : (s.heap.push { cls := .type "list", data := .seq #[] }).get? s.heap.objs.size = some { cls := .type "list", data := .seq #[] } := Heap.get?_push_size _ rfl
  refine ⟨⟨_, hS, rfl⟩, PySem.F.args_list_init_2 _ _, list_init_bytes (A := A.in1) hh x t _ hS (by rw [PySem.sizeLine_eq]; omega) fun h' tk acc' c' hk hS' hacc => ?_⟩
  have hk' : ∀ b o, s.heap.get? b = some o → h'.get? b = some o := fun b o e => hk b o (Nat.ne_of_lt (Heap.lt_size e)) (Heap.get?_push_of_some _ e)
  refine ⟨rfl, hQ _ acc'.toList c' h' tk (F.keeps hk') (fun p hp => ?_) (fun p hp => Heap.lt_size (N p hp).1) hacc⟩
  rcases List.mem_cons.mp hp with rfl | hp
  · refine ⟨by rw [Array.toArray_toList]; exact hS', Ne.symm (Nat.ne_of_lt F.ns.lt), ?_⟩
    cases e : h₀.get? s.heap.objs.size with
    | none => rfl
    | some o => exact absurd (Heap.lt_size (F.keep _ _ e)) (Nat.lt_irrefl _)
  · exact ⟨hk' _ _ (N p hp).1, (N p hp).2⟩
end
end
section
section
variable {prog : Program} {w : World} {A A₀ : Around} {s : Shared} {K : Frag} {L : Addr} {h₀ base : Heap} {m mg mb : Str → Option Value} {used rest : List (Addr × Obj)} {p : Program} {loose : List Str} {mean : ExcName → Option Value}
/-- a ledger's rest comes back when nothing of it was changed -/
theorem rest_back {g : Heap} {us : List Addr} {R : Result → Shared → Prop} {v : Value} {s' : Shared} (hg : g = hideAll s.heap us) (hu : ∀ p ∈ rest, p.1 ∉ us) (N : News h₀ L s.heap rest)
    (h : LeaveK h₀ L m g (fun r s' => News h₀ L s'.heap rest → R r s') v s') : LeaveK h₀ L m g R v s' := by
  obtain ⟨L', m', news', F', N', k⟩ := h
  refine ⟨L', m', news', F', N', fun a b => k a b fun q hq => ⟨?_, (N q hq).2⟩⟩
  exact F'.keep _ _ (hg ▸ hideAll_get _ (N q hq).1 (hu q hq))
theorem rest_ne {us : List Addr} (hu : ∀ p ∈ rest, p.1 ∉ us) (N : News h₀ L s.heap rest) : ∀ b, (hideAll s.heap us).get? b = none → ∀ p ∈ rest, p.1 ≠ b := by
  intro b hb p hp e
  have h1 := hideAll_get us (N p hp).1 (hu p hp)
  rw [e, hb] at h1
  cases h1
theorem code_defF {env : Env} {outer : List Env} {R : Result → Shared → Prop} {name qual : Str} {params : Arguments} {body : List Stmt} {scope : Scope} {dV kV doc pm cdv ct oc : Value} {an od : Option Addr} {osl : Array (Option Value)} {f : Addr} {args : Args} {binds : List (Str × Value)}
    (B : Below A₀ base outer h₀) (F : Fr h₀ L s.heap m) (X₀ : K.In h₀) (N : News h₀ L s.heap (used ++ rest)) (T : Top p loose mean mg mb h₀) (hu : ∀ p ∈ rest, p.1 ∉ used.map (·.1)) (hA : A.frames = some (env :: outer)) (hf : env.frame = some L) (hke : env.scope.kind = .function)
    (ho : K.lookup f = some ⟨oc, od, .func (fnOf name qual params body scope dV kV doc pm an cdv ct), osl⟩) (hcd : codeIn K cdv qual = true) (hroom : A.depth < recursionLimit)
    (hbind : BindsTo s (fnOf name qual params body scope dV kV doc pm an cdv ct) args binds) (hloc : ∀ y ∈ binds, scope.names.lookup y.1 = some .local)
    (h : ∀ g L' h₁, Fr h₀ L g m → Fr g L' h₁ (fun y => binds.reverse.lookup y) → News g L' h₁ used → Below A base (env :: outer) g → K.In g → Top p loose mean mg mb g → (∀ p ∈ used, p.1 < L') → (∀ b, g.get? b = none → ∀ p ∈ rest, p.1 ≠ b) →
      wpAny (model prog w) (A.deeper (envOf qual scope L' f cdv)) (execs body (envOf qual scope L' f cdv))
        (fun fl s' => LeaveK h₀ L m g (fun r s' => News h₀ L s'.heap rest → R r s') (match fl with | .ret v => v | _ => .none) s')
        (fun e s' => wpAny (model prog w) (A.deeper (envOf qual scope L' f cdv)) (leaving (envOf qual scope L' f cdv) e) (fun _ s'' => R (.error e) s'') (fun e' s'' => R (.error e') s'') s')
        { s with heap := h₁, toks := s.toks + binds.length })
    (hco : scope.isCoroutine = false) (hgen : scope.isGenerator = false) (hk : scope.kind = .function)
    (hcell : ∀ x ∈ scope.names, x.2 ≠ .cell) : codeAny (model prog w) A (.call (.ref f) args) R s := by
  have Nu : News h₀ L s.heap used := fun q hq => N q (List.mem_append.mpr (.inl hq))
  have Nr : News h₀ L s.heap rest := fun q hq => N q (List.mem_append.mpr (.inr hq))
  obtain ⟨FG, BG, st, lv⟩ := groundX (R := R) B F Nu hA hf hke
  refine codeAny_call_def (fd := fnOf name qual params body scope dV kV doc pm an cdv ct) (body := body) (binds := binds) hroom ((X₀.keeps F.keep) _ _ ho) rfl (T.nolimit.keeps F.keep) (codeRec_of (X₀.keeps F.keep) hcd) rfl hbind hcell hloc (fun h₁ hns hk₁ => ?_) hco hgen hk
  exact wpAny_mono (h _ s.heap.objs.size h₁ FG ⟨hns, fun b o e => hk₁ b o (of_hideAll _ e), Nat.le_of_eq (hideAll_size _ _)⟩
    (fun p hp => ⟨hk₁ _ _ (Nu p hp).1, Nat.ne_of_lt (Heap.lt_size (Nu p hp).1), hideAll_none _ (List.mem_map_of_mem hp)⟩) BG (X₀.keeps st) (T.keeps st) (fun p hp => Heap.lt_size (Nu p hp).1) (rest_ne hu Nr)) (fun fl s' hl => lv _ _ (rest_back rfl hu Nr hl)) fun _ _ y => y
theorem code_defCF {env : Env} {outer : List Env} {R : Result → Shared → Prop} {name qual : Str} {params : Arguments} {body : List Stmt} {scope : Scope} {dV kV doc pm cdv ct oc : Value} {an od : Option Addr} {osl : Array (Option Value)} {f : Addr} {args : Args} {binds : List (Str × Value)}
    (B : Below A₀ base outer h₀) (F : Fr h₀ L s.heap m) (X₀ : K.In h₀) (N : News h₀ L s.heap (used ++ rest)) (T : Top p loose mean mg mb h₀) (hu : ∀ p ∈ rest, p.1 ∉ used.map (·.1)) (hA : A.frames = some (env :: outer)) (hf : env.frame = some L) (hke : env.scope.kind = .function)
    (ho : K.lookup f = some ⟨oc, od, .func (fnOf name qual params body scope dV kV doc pm an cdv ct), osl⟩) (hcd : codeIn K cdv qual = true) (hroom : A.depth < recursionLimit)
    (hbind : BindsTo s (fnOf name qual params body scope dV kV doc pm an cdv ct) args binds) (hkind : (binds.all fun y => scope.names.lookup y.1 == some .local || scope.names.lookup y.1 == some .cell) = true)
    (hnd : ((cellsFrom 0 scope.names []).map (·.1)).Nodup)
    (h : ∀ g L' h₁ tk cells, Fr h₀ L g m → Fr g L' h₁ (bindL (envOfC qual scope L' f cdv).kindOf binds fun _ => none) → News g L' h₁ (cells ++ used) →
      CellsAre (bindC (envOfC qual scope L' f cdv).kindOf binds fun _ => none) (cellsFrom (L' + 1) scope.names []) cells → Below A base (env :: outer) g → K.In g → Top p loose mean mg mb g → (∀ p ∈ used, p.1 < L') → (∀ p ∈ rest, p.1 < L') → (∀ b, g.get? b = none → ∀ p ∈ rest, p.1 ≠ b) →
      wpAny (model prog w) (A.deeper (envOfC qual scope L' f cdv)) (execs body (envOfC qual scope L' f cdv))
        (fun fl s' => LeaveK h₀ L m g (fun r s' => News h₀ L s'.heap rest → R r s') (match fl with | .ret v => v | _ => .none) s')
        (fun e s' => wpAny (model prog w) (A.deeper (envOfC qual scope L' f cdv)) (leaving (envOfC qual scope L' f cdv) e) (fun _ s'' => R (.error e) s'') (fun e' s'' => R (.error e') s'') s')
        { s with heap := h₁, toks := tk })
    (hco : scope.isCoroutine = false) (hgen : scope.isGenerator = false) (hk : scope.kind = .function) : codeAny (model prog w) A (.call (.ref f) args) R s := by
  have Nu : News h₀ L s.heap used := fun q hq => N q (List.mem_append.mpr (.inl hq))
  have Nr : News h₀ L s.heap rest := fun q hq => N q (List.mem_append.mpr (.inr hq))
  obtain ⟨FG, BG, st, lv⟩ := groundX (R := R) B F Nu hA hf hke
  have hlim := T.nolimit
  refine codeAny_call_function hroom ((X₀.keeps F.keep) _ _ ho) rfl hco hgen rfl (codeRec_of (X₀.keeps F.keep) hcd) (hbind _ _ _ _ ?_)
  refine wpAny_newFunctionEnv_cells hk (kindsX hkind _) fun env' he s' x => ?_
  subst he
  refine ⟨(hlim.keeps F.keep).keeps x.toInCall.keep, codeAny_func ?_⟩
  obtain ⟨h₁, tk, rfl, _⟩ := x.done
  have hk₁ := x.toInCall.keep
  obtain ⟨cells, NC, Y⟩ := Cl.news (h₀ := s.heap) (Nat.le_refl _) fun n c hm => ⟨x.cell n c (lookup_of_mem_nodup (cellsFrom_names scope.names 0 (s.heap.objs.size + 1) [] [] rfl ▸ hnd) hm), x.above n c hm⟩
  refine wpAny_mono (h _ s.heap.objs.size h₁ tk cells FG ⟨x.toInCall.ns, fun b o e => hk₁ b o (of_hideAll _ e), Nat.le_of_eq (hideAll_size _ _)⟩ (fun p hp => ?_) Y BG (X₀.keeps st) (T.keeps st) (fun p hp => Heap.lt_size (Nu p hp).1) (fun p hp => Heap.lt_size (Nr p hp).1) (rest_ne hu Nr)) (fun fl s' hl => lv _ _ (rest_back rfl hu Nr hl)) fun _ _ y => y
  rcases List.mem_append.mp hp with hp | hp
  · refine ⟨(NC p hp).1, (NC p hp).2.1, ?_⟩
    cases q : (hideAll s.heap (used.map (·.1))).get? p.1 with
    | none => rfl
    | some o => have := of_hideAll _ q; rw [(NC p hp).2.2] at this; cases this
  · exact ⟨hk₁ _ _ (Nu p hp).1, Nat.ne_of_lt (Heap.lt_size (Nu p hp).1), hideAll_none _ (List.mem_map_of_mem hp)⟩
theorem back_news {h h' : Heap} {new : List (Addr × Obj)} (N : News h₀ L h new) (N' : News h₀ L h rest) : News h₀ L h (new ++ rest) := fun q hq => (List.mem_append.mp hq).elim (N q) (N' q)
end
end
section
section
open PySem.Spec PySem.Calls PyProof.Rows.LCg
variable {prog : Program} {w : World} {A : Around} {E : Value → Shared → Prop} {s : Shared} {h₀ : Heap} {L : Addr} {m : Str → Option Value} {env : Env}
/-- where a comprehension over a range with any step begins -/
inductive SrcS (prog : Program) (w : World) (A : Around) (h₀ : Heap) (L : Addr) (m : Str → Option Value) (env : Env) (elt : PySem.Expr) (x : Str) (scope : Scope) (cl : List (Str × Addr)) (Fin : Shared → List Value → List (Addr × Obj) → Prop) (xv : Value) (s₁ : Shared) : Prop
  | mk (r : Addr) (a : Int) (b : Int) (c : Int) (t : Tok) (u : Tok) (v : Tok) (n : Nat) (news : List (Addr × Obj)) : (xv = .ref r) → (A.handled = none) → (Fr h₀ L s₁.heap m) → (News h₀ L s₁.heap news) → (IsRange s₁.heap r a b c t u v) → (Builtin.Range.small a b c = true) → (Builtin.Range.rangeSize a b c = ((n : Nat) : Int)) → (n ≤ sizeLine) → (∀ s₂ : Shared, (∃ h, s₂ = { s₁ with heap := h }) → CompRest prog w A h₀ L m env elt x scope cl s₂ (fun _ => True) (fun i v => ∃ t, v = .int (a + (i : Int) * c) t) (Fin s₂) n 0 [] news) → SrcS prog w A h₀ L m env elt x scope cl Fin xv s₁
theorem rangeS_st {I : Addr} {a c : Int} {n : Nat} : ∀ i (h h' : Heap) (o : Obj) (nw : List (Addr × Obj)), IsRangeIter h I (a + (i : Nat) * c) ((n : Int) - (i : Nat)) c → h.get? I = some o → h'.get? I = some o → (∀ b o, h₀.get? b = some o → h'.get? b = some o) → News h₀ L h' nw → True → IsRangeIter h' I (a + (i : Nat) * c) ((n : Int) - (i : Nat)) c :=
  fun i h h' o nw st e e' _ _ _ => by
    have st' : h.get? I = some _ := st
    show h'.get? I = some _
    rw [e', ← e]; exact st'
theorem rangeS_walks {I : Addr} (hh : A.handled = none) (a c : Int) (n : Nat) : Walks prog w A I [I] [I] n (fun i v => ∃ t, v = .int (a + (i : Int) * c) t) (fun i h => IsRangeIter h I (a + (i : Nat) * c) ((n : Int) - (i : Nat)) c) :=
  let W : Walks prog w A I [I] [I] n (fun i v => i < n ∧ ∃ t, v = .int (a + i * c) t) (fun i h => IsRangeIter h I (a + (i : Nat) * c) ((n : Int) - (i : Nat)) c) := (Walks.range hh I a c n).bound
  { sub := W.sub, frame := W.frame, done := W.done, self := W.self,
    item := fun i s Q E hi st hQ => W.item i s Q E hi st fun v h' tk hP => hQ v h' tk (by obtain ⟨_, t, rfl⟩ := hP; exact ⟨t, rfl⟩) }
theorem ListComp_S {elt iter : PySem.Expr} {x : Str} {px : Pos} {scope : Scope} {cl : List (Str × Addr)} {pos : Pos} {Q : Value → Shared → Prop} (F₀ : Fr h₀ L s.heap m)
    (hclos : closureFor scope env = pure cl) (hcell : ∀ y ∈ scope.names, y.2 ≠ .cell) (hkind : scope.kind = .function)
    (hnames : ∀ y ∈ scope.names, y.2 = .local → scope.names.lookup y.1 = some .local) (hx : scope.names.lookup x = some .local)
    (h : wpAny (model prog w) A (eval iter env) (SrcS prog w A h₀ L m env elt x scope cl (fun s₂ => FinE h₀ L m s₂ Q)) E s)
    (hs : ∀ x, foldedSetIterable iter env x = pure x := by intro _; rfl) :
    wpAny (model prog w) A (eval (.ListComp elt [⟨.Name x px, iter, [], 0⟩] scope pos) env) Q E s := by
  rw [eval_ListComp]
  refine wpAny_comprehension_free (use := none) rfl hs hclos hkind hnames (wpAny_mono h (fun xv s₁ h₁ => ?_) fun _ _ e => e)
  refine (let G9 : Prop := _; show G9 from ?_)
  obtain ⟨r, a, b, c, t, u, v, n, news, rfl, hh, F, N, hr, hsm, hn, hsz, R⟩ := h₁
  k_unfold
  refine wpAny_pyIter_range hr hsm ?_
  refine block_U (rangeS_walks hh a c n) hsz (fun i h st => ⟨_, st⟩) rangeS_st hcell hkind hx (by show IsRangeIter _ _ _ _ _; rw [hn]; simpa using Heap.get?_push_size _ rfl) (fun b hb => ?_)
    (F.keeps fun _ _ e => Heap.get?_push_of_some _ e) (N.grown fun _ _ e => Heap.get?_push_of_some _ e) (Nat.ne_of_lt F.ns.lt) (next_is_new F) (fun p hp => Nat.ne_of_lt (Heap.lt_size (N p hp).1)) trivial (R _ ⟨_, rfl⟩) ?_
  · rw [List.mem_singleton.mp hb]
    show s₁.heap.objs.size < (s₁.heap.push _).objs.size
    rw [Heap.size_push]; exact Nat.lt_succ_self _
  · intro D C h tk m' ys news' F' N' o1 hn hC₀ hD₀ hCL hDL hCD offC fin
    refine ⟨m', hn, fun h'' hs'' => fin D h'' tk (F'.change hs'' hCL hC₀) (fun p hp => ?_) o1⟩
    refine ⟨hs''.extBut _ _ ?_ (N' p hp).1, (N' p hp).2⟩
    rcases List.mem_cons.mp hp with rfl | hp
    · exact Ne.symm hCD
    · exact offC p hp
theorem SrcS.range {elt : PySem.Expr} {x : Str} {scope : Scope} {cl : List (Str × Addr)} {Fin : Shared → List Value → List (Addr × Obj) → Prop} {r : Addr} {a b c : Int} {t u v : Tok} {n : Nat} {news : List (Addr × Obj)} {s₁ : Shared}
    (hh : A.handled = none) (F : Fr h₀ L s₁.heap m) (N : News h₀ L s₁.heap news) (hr : IsRange s₁.heap r a b c t u v) (hsm : Builtin.Range.small a b c = true) (hn : Builtin.Range.rangeSize a b c = ((n : Nat) : Int)) (hsz : n ≤ sizeLine)
    (h : ∀ g, CompRest prog w A h₀ L m env elt x scope cl { s₁ with heap := g } (fun _ => True) (fun i v => ∃ t, v = .int (a + (i : Int) * c) t) (Fin { s₁ with heap := g }) n 0 [] news) :
    SrcS prog w A h₀ L m env elt x scope cl Fin (.ref r) s₁ := ⟨r, a, b, c, t, u, v, n, news, rfl, hh, F, N, hr, hsm, hn, hsz, fun _ ⟨g, e⟩ => e ▸ h g⟩
end
end
section
/-- one sign of the sixes of the bits -/
noncomputable def sLet : Str := Str.ofString "ABCDEFGHIJKLMNOPQRSTUVWXYZabcdefghijklmnopqrstuvwxyz0123456789+/"
noncomputable def sSign (n k : Int) : Str := Txt.item sLet ((n.fdiv (64 ^ k.toNat)).fmod 64)
theorem pow64_ne (k : Nat) : (64:Int) ^ k ≠ 0 := by
  induction k with
  | zero => decide
  | succ k ih => rw [Int.pow_succ]; omega
theorem pow64_small {x : Int} {k : Nat} (h : k ≤ 3) : Builtin.divisionGoesByPylong x ((64:Int) ^ k) = false := by
  refine PyProof.noPylong_small ?_
  have : k = 0 ∨ k = 1 ∨ k = 2 ∨ k = 3 := by omega
  rcases this with rfl | rfl | rfl | rfl <;> decide
theorem ints_inv3 {vs : List Value} {a b c : Int} (h : IntsAre vs [a, b, c]) : ∃ t u v, vs = [.int a t, .int b u, .int c v] := by
  cases h with | cons n t h1 => cases h1 with | cons _ u h2 => cases h2 with | cons _ v h3 => cases h3; exact ⟨t, u, v, rfl⟩
local macro_rules | `(tactic| walk_at "binaryOp FloorDiv int int") => `(tactic| (refine floordiv_int (pow64_ne _) ?_ (Or.inl (pow64_small (by omega)))))
local macro_rules | `(tactic| walk_at "call type:list") => `(tactic| (refine of_stop ?_))
local macro_rules | `(tactic| walk_at "exec For Name BinOp cons nil") => `(tactic| (refine of_stopk 1 ?_))
local macro_rules | `(tactic| walk_at "eval ListComp") => `(tactic| (k_here; k_dflt (refine ListComp_S (F₀ := by k_asm) (by with_unfolding_all rfl) (by decide) (by rfl) (by decide) (by rfl) ?_)))
local macro_rules | `(tactic| walk_at "SrcS") => `(tactic| (refine of_stop ?_))
local macro_rules | `(tactic| walk_at "binaryOp Add ref ref") => `(tactic| (refine of_stop ?_))
local macro_rules | `(tactic| walk_at "eval BinOp") => `(tactic| (with_reducible refine wpAny_BinOp ?_))
set_option maxRecDepth 100000 in
set_option maxHeartbeats 1600000 in
theorem law_sixes_g {w : World} {n z : Nat} (bs : Array UInt8) (tx ty : Tok) (i0 i1 i2 : Int) (ks : List Int) (eq : Str) (hz : bs.size = z) (hB : z ≤ 3)
    (hP : KBw.bInts bs ++ (List.replicate ((-(z : Int)).fmod 3).toNat [(0:Int)]).flatten = [i0, i1, i2]) (hsm : Builtin.Range.small (((z : Int) + (-(z : Int)).fmod 3).fdiv 3 * 4 - 1) ((-(z : Int)).fmod 3 - 1) (-1) = true) (hrs : Builtin.Range.rangeSize (((z : Int) + (-(z : Int)).fmod 3).fdiv 3 * 4 - 1) ((-(z : Int)).fmod 3 - 1) (-1) = (n : Int))
    (hkl : ks.length = n) (hks : ∀ i, i < n → ∃ k, ks[i]? = some k ∧ (((z : Int) + (-(z : Int)).fmod 3).fdiv 3 * 4 - 1) + (i : Int) * (-1) = k) (hk4 : ∀ k ∈ ks, 0 ≤ k ∧ k ≤ 3) (hmul : Txt.mul (Str.ofString "=") ((-(z : Int)).fmod 3) = eq) (hn : n ≤ 4) (news : List (Addr × Obj)) : Con 5 w 301 news [.bytes bs tx, .str (Str.ofString "+/") ty] (fun k => ∀ t, k (.str (Txt.join (Str.ofString "") (ks.map (sSign (((0 * 256 + i0) * 256 + i1) * 256 + i2))) ++ eq) t) news) := by
  subst hz
  unfold Con
  intro pp0 loose mean mg mb dp un gd cn cs a ccd cl outer A₀ base h₀ L m s Q E B F X N T hk hd hu hret
  refine wpAny_call ?_
  refine' code_defCF (used := []) (rest := news) ?k1 ?k2 ?k3 ?k4 ?k5 ?ku ?kA ?kF ?kK ?k6 ?k7 ?k8 ?k9 ?kB ?kD ?_ ?c2 ?c3 ?c4
  case kA => exact rfl
  case kF => exact rfl
  case kK => first | exact rfl | assumption
  case k1 => k_asm
  case k2 => k_asm
  case k3 => k_asm
  case k4 => exact N
  case k5 => k_asm
  case ku => exact fun _ _ h => nomatch h
  case k6 => k_is
  case k7 => k_is
  case k8 => ktr_room
  case k9 => first | exact BindsTo.of_eq rfl | exact binds_K (by k_in) rfl (by k_is) rfl rfl rfl
  case kB => exact rfl
  case c2 => exact rfl
  case c3 => exact rfl
  case c4 => exact rfl
  case kD => decide +kernel
  k_whole
  intro g' L' h' tk' cells' FG' F' N' Y' B' X' T' l1 lR lN
  (try k_lt l1)
  k_cells Y'
  (try simp only [List.cons_append, List.nil_append] at N')
  (try dsimp only)
  (try k_lift B')
  (try k_fold)
  clear N
  (k_steps; (repeat (any_goals ((first | ((with_reducible refine un_stop 1 ?_); (k_here; (rename Fr _ _ _ _ => lF'); (with_unfolding_all refine For_invVF lF' rfl rfl ?_; k_whole)))); k_steps))))
  unfold Stop
  refine list_bytes rfl (by assumption) (by assumption) _ _ (by omega) ?_
  intro D9 vs9 c9 h9 tk9 F9 N9 hlt9 hi9
  k_lt hlt9
  (k_steps; (repeat (any_goals ((first | ((with_reducible refine un_stop 1 ?_); (k_here; (rename Fr _ _ _ _ => lF'); (with_unfolding_all refine For_invVF lF' rfl rfl ?_; k_whole)))); k_steps))))
  unfold Stop
  rename Fr _ _ _ _ => F9
  rename News _ _ _ _ => N9
  rename (IntsAre _ (List.flatten _)) => hi8
  refine kmk_add_ints F9 N9 ⟨_, (N9 _ (.tail _ (.tail _ (.head _)))).1, rfl, _, rfl⟩ ⟨_, (N9 _ (.head _)).1, rfl, _, rfl⟩ hi9 hi8 ?_ (by rw [← List.length_append, hP, PySem.sizeLine_eq]; exact Nat.le_of_ble_eq_true rfl)
  intro D9 ws9 h9 F9 N9 l9 hI
  k_lt l9
  rw [hP] at hI
  obtain ⟨t1, t2, t3, rfl⟩ := ints_inv3 hI
  clear hI hi9 hi8
  k_sweep
  (k_steps; (repeat (any_goals ((first | ((with_reducible refine un_stop 1 ?_); (k_here; (rename Fr _ _ _ _ => lF'); (with_unfolding_all refine For_invVF lF' rfl rfl ?_; k_whole)))); k_steps))))
  unfold Stop
  refine SrcS.range (n := n) (by rfl) (by k_asm) (by k_asm) (by assumption) hsm hrs (by rw [PySem.sizeLine_eq]; omega) ?_
  intro g''
  refine kct_rest (ks := ks) (sSign (((0 * 256 + i0) * 256 + i1) * 256 + i2)) hkl (fun i v hi hv => ?_) (fun k' t' I' oI' C' oC' D' m' ys' h' tk' E' hk' hC' hx' F' N' off' ne' => ?_) ?_
  · obtain ⟨t, rfl⟩ := hv
    obtain ⟨k, h1, h2⟩ := hks i hi
    exact ⟨k, t, h1, congrArg (fun z => Value.int z t) h2⟩
  · intro hMark'
    (try k_fold)
    simp only [LCg.Off3, and_true] at off'
    have n00 := off'.1.1
    have n01 := off'.1.2.1
    have n02 := off'.1.2.2
    have n10 := off'.2.1.1
    have n11 := off'.2.1.2.1
    have n12 := off'.2.1.2.2
    have n20 := off'.2.2.1.1
    have n21 := off'.2.2.1.2.1
    have n22 := off'.2.2.1.2.2
    have n30 := off'.2.2.2.1.1
    have n31 := off'.2.2.2.1.2.1
    have n32 := off'.2.2.2.1.2.2
    have n40 := off'.2.2.2.2.1.1
    have n41 := off'.2.2.2.2.1.2.1
    have n42 := off'.2.2.2.2.1.2.2
    have n50 := off'.2.2.2.2.2.1.1
    have n51 := off'.2.2.2.2.2.1.2.1
    have n52 := off'.2.2.2.2.2.1.2.2
    have n60 := off'.2.2.2.2.2.2.1
    have n61 := off'.2.2.2.2.2.2.2.1
    have n62 := off'.2.2.2.2.2.2.2.2
    have n70 := ne'.1
    have n71 := ne'.2.1
    have n72 := ne'.2.2
    clear off' ne'
    have hk0 := hk4 _ hk'
    (k_steps; (repeat (any_goals ((first | ((with_reducible refine un_stop 1 ?_); (k_here; (rename Fr _ _ _ _ => lF'); (with_unfolding_all refine For_invVF lF' rfl rfl ?_; k_whole)))); k_steps))))
    exact kct_el rfl rfl rfl
  · (k_steps; (repeat (any_goals ((first | ((with_reducible refine un_stop 1 ?_); (k_here; (rename Fr _ _ _ _ => lF'); (with_unfolding_all refine For_invVF lF' rfl rfl ?_; k_whole)))); k_steps))))
    rw [← hmul] at hret
    exact hret _ _ _ (by assumption) (by assumption)
theorem law_sixes_1 {w : World} (b0 : UInt8) (tx ty : Tok) (news : List (Addr × Obj)) : Con 5 w 301 news [.bytes [b0].toArray tx, .str (Str.ofString "+/") ty] (fun k => ∀ t, k (.str (Txt.join (Str.ofString "") ([3, 2].map (sSign (((0 * 256 + (b0.toNat:Int)) * 256 + 0) * 256 + 0))) ++ Str.ofString "==") t) news) :=
  law_sixes_g (n := 2) (z := 1) [b0].toArray tx ty _ _ _ [3, 2] _ rfl (by decide) rfl (by decide) (by decide) rfl (bel (bel bel0 ⟨3, rfl, by decide⟩) ⟨2, rfl, by decide⟩) (by decide) (by decide +kernel) (by decide) news
theorem law_sixes_2 {w : World} (b0 b1 : UInt8) (tx ty : Tok) (news : List (Addr × Obj)) : Con 5 w 301 news [.bytes [b0, b1].toArray tx, .str (Str.ofString "+/") ty] (fun k => ∀ t, k (.str (Txt.join (Str.ofString "") ([3, 2, 1].map (sSign (((0 * 256 + (b0.toNat:Int)) * 256 + (b1.toNat : Int)) * 256 + 0))) ++ Str.ofString "=") t) news) :=
  law_sixes_g (n := 3) (z := 2) [b0, b1].toArray tx ty _ _ _ [3, 2, 1] _ rfl (by decide) rfl (by decide) (by decide) rfl (bel (bel (bel bel0 ⟨3, rfl, by decide⟩) ⟨2, rfl, by decide⟩) ⟨1, rfl, by decide⟩) (by decide) (by decide +kernel) (by decide) news
theorem law_sixes_3 {w : World} (b0 b1 b2 : UInt8) (tx ty : Tok) (news : List (Addr × Obj)) : Con 5 w 301 news [.bytes [b0, b1, b2].toArray tx, .str (Str.ofString "+/") ty] (fun k => ∀ t, k (.str (Txt.join (Str.ofString "") ([3, 2, 1, 0].map (sSign (((0 * 256 + (b0.toNat:Int)) * 256 + (b1.toNat : Int)) * 256 + (b2.toNat : Int)))) ++ Str.ofString "") t) news) :=
  law_sixes_g (n := 4) (z := 3) [b0, b1, b2].toArray tx ty _ _ _ [3, 2, 1, 0] _ rfl (by decide) rfl (by decide) (by decide) rfl (bel (bel (bel (bel bel0 ⟨3, rfl, by decide⟩) ⟨2, rfl, by decide⟩) ⟨1, rfl, by decide⟩) ⟨0, rfl, by decide⟩) (by decide) (by decide +kernel) (by decide) news
end
section
/-- the five signs -/
noncomputable def five : List Str := [Str.ofString "a", Str.ofString "\"", Str.ofString " ", Str.ofString "/", Str.ofString "b"]
/-- every name there is -/
noncomputable def allNames : List Str := five.map (fun a => Txt.join (Str.ofString "") [a]) ++ five.flatMap (fun a => five.map fun b => Txt.join (Str.ofString "") [a, b]) ++ five.flatMap (fun a => five.flatMap fun b => five.map fun c => Txt.join (Str.ofString "") [a, b, c])
theorem gSign_five (x k : Int) : gSign x k ∈ five := by
  unfold gSign
  have h0 := Int.fmod_nonneg_of_pos ((x.fdiv 3).fdiv (5 ^ k.toNat)) (by decide : (0:Int) < 5)
  have h1 := Int.fmod_lt_of_pos ((x.fdiv 3).fdiv (5 ^ k.toNat)) (by decide : (0:Int) < 5)
  generalize ((x.fdiv 3).fdiv (5 ^ k.toNat)).fmod 5 = i at h0 h1 ⊢
  have : i = 0 ∨ i = 1 ∨ i = 2 ∨ i = 3 ∨ i = 4 := by omega
  rcases this with rfl | rfl | rfl | rfl | rfl <;> decide +kernel
theorem lawName_in (x : Int) : lawName x ∈ allNames := by
  unfold lawName
  have h0 := Int.fmod_nonneg_of_pos x (by decide : (0:Int) < 3)
  have h1 := Int.fmod_lt_of_pos x (by decide : (0:Int) < 3)
  generalize x.fmod 3 = i at h0 h1 ⊢
  have : i = 0 ∨ i = 1 ∨ i = 2 := by omega
  unfold allNames
  simp only [List.mem_append, List.mem_map, List.mem_flatMap]
  rcases this with rfl | rfl | rfl
  · exact .inl (.inl ⟨_, gSign_five x 0, rfl⟩)
  · exact .inl (.inr ⟨_, gSign_five x 0, _, gSign_five x 1, rfl⟩)
  · exact .inr ⟨_, gSign_five x 0, _, gSign_five x 1, _, gSign_five x 2, rfl⟩
noncomputable def told1 (n : Str) : Str := Str.ofString "257 \"" ++ Txt.replace n (Str.ofString "\"") (Str.ofString "\"\"") ++ Str.ofString "\" is here"
noncomputable def told2 (n : Str) : Str := Str.ofString "257 \"" ++ codedF n ++ Str.ofString "\""
/-- what is asked of a name, as tests -/
noncomputable def nameT1 (n : Str) : Bool := decide (n.length ≤ 10) && decide (0 < n.length) && n.cps.toList.all (fun c => decide (c < 128)) && decide (0 < (b64e (asciiB n)).size) && (b64e (asciiB n)).toList.all (fun c => decide (c.toNat < 128)) && decide ((b64e (asciiB n)).size ≤ 1000)
noncomputable def nameT2 (n : Str) : Bool := decide ((told1 n).length ≤ 1000) && (Txt.slice (told1 n) none (some 3) == Str.ofString "257") && (parse257F (told1 n) == n)
noncomputable def nameT3 (n : Str) : Bool := decide ((told2 n).length ≤ 1000) && (Txt.slice (told2 n) none (some 3) == Str.ofString "257") && (parse257F (told2 n) == codedF n)
noncomputable def nameT4 (n : Str) : Bool := decide ((codedF n).length ≤ 300) && (codedF n).cps.toList.all (fun c => decide (c < 128)) && decide ((decAll (asciiB (codedF n))).2.1 ≠ 1) && decide ((decAll (asciiB (codedF n))).2.1 = 0 ∨ 4 ≤ (decAll (asciiB (codedF n))).2.1 + (decAll (asciiB (codedF n))).2.2.2)
noncomputable def nameT5 (n : Str) : Bool := (b64d (asciiB (codedF n)) == asciiB n) && (textOf (asciiB n) == n) && decide ((Txt.replace n (Str.ofString "\"") (Str.ofString "\"\"")).length ≤ 20)
theorem all_T1 : ∀ n ∈ allNames, nameT1 n = true := by decide +kernel
theorem all_T2 : ∀ n ∈ allNames, nameT2 n = true := by decide +kernel
theorem all_T3 : ∀ n ∈ allNames, nameT3 n = true := by decide +kernel
theorem all_T4 : ∀ n ∈ allNames, nameT4 n = true := by decide +kernel
theorem all_T5 : ∀ n ∈ allNames, nameT5 n = true := by decide +kernel
structure NameOk (n : Str) : Prop where
  isName : IsName n
  len1 : (told1 n).length ≤ 1000
  head1 : Txt.slice (told1 n) none (some 3) = Str.ofString "257"
  val1 : parse257F (told1 n) = n
  len2 : (told2 n).length ≤ 1000
  head2 : Txt.slice (told2 n) none (some 3) = Str.ofString "257"
  val2 : parse257F (told2 n) = codedF n
  codeLen : (codedF n).length ≤ 300
  codeAscii : ∀ c ∈ (codedF n).cps.toList, c < 128
  codeEnd : (decAll (asciiB (codedF n))).2.1 ≠ 1 ∧ ((decAll (asciiB (codedF n))).2.1 = 0 ∨ 4 ≤ (decAll (asciiB (codedF n))).2.1 + (decAll (asciiB (codedF n))).2.2.2)
  dec : b64d (asciiB (codedF n)) = asciiB n
  text : textOf (asciiB n) = n
  pos : 0 < (asciiB n).size
  bytes : ∀ c ∈ (asciiB n).toList, c.toNat < 128
  bsize : (asciiB n).size ≤ 1000
  repl : (Txt.replace n (Str.ofString "\"") (Str.ofString "\"\"")).length ≤ 20
theorem name_ok {n : Str} (h : n ∈ allNames) : NameOk n := by
  have t1 := all_T1 n h
  unfold nameT1 at t1
  simp only [Bool.and_eq_true, decide_eq_true_eq, List.all_eq_true, beq_iff_eq] at t1
  obtain ⟨⟨⟨⟨⟨a1, a2⟩, a3⟩, a4⟩, a5⟩, a6⟩ := t1
  have t2 := all_T2 n h
  unfold nameT2 at t2
  simp only [Bool.and_eq_true, decide_eq_true_eq, List.all_eq_true, beq_iff_eq] at t2
  obtain ⟨⟨a7, a8⟩, a9⟩ := t2
  have t3 := all_T3 n h
  unfold nameT3 at t3
  simp only [Bool.and_eq_true, decide_eq_true_eq, List.all_eq_true, beq_iff_eq] at t3
  obtain ⟨⟨a10, a11⟩, a12⟩ := t3
  have t4 := all_T4 n h
  unfold nameT4 at t4
  simp only [Bool.and_eq_true, decide_eq_true_eq, List.all_eq_true, beq_iff_eq] at t4
  obtain ⟨⟨⟨a13, a14⟩, a15⟩, a16⟩ := t4
  have t5 := all_T5 n h
  unfold nameT5 at t5
  simp only [Bool.and_eq_true, decide_eq_true_eq, List.all_eq_true, beq_iff_eq] at t5
  obtain ⟨⟨a17, a18⟩, a19⟩ := t5
  have hs : (asciiB n).size = n.length := by simp [asciiB, Str.length]
  have hb : ∀ c ∈ (asciiB n).toList, c.toNat < 128 := by
    intro c hc
    simp only [asciiB, Array.toList_map, List.mem_map] at hc
    obtain ⟨d, hd, rfl⟩ := hc
    have := a3 d hd
    show d.toUInt8.toNat < 128
    simp; omega
  exact ⟨⟨a1, a3, a4, a5, a6⟩, a7, a8, a9, a10, a11, a12, a13, a14, ⟨a15, a16⟩, a17, a18, by omega, hb, by omega, a19⟩
end
section
noncomputable def text229 (x : Int) : Str :=
  Str.ofString "229 go on (" ++ Txt.mul (Txt.item (Str.ofString "|!p") (x.fmod 3)) 3 ++ Str.ofString (toString (x.fmod 65536)) ++ Txt.item (Str.ofString "|!p") (x.fmod 3) ++ Str.ofString ")"
theorem reply_of (x : Int) : ∃ mk ds, text229 x = reply229 mk ds ∧ Is229 (reply229 mk ds) mk ds ∧ PySem.intText? ⟨ds.toArray⟩ = some (x.fmod 65536) := by
  have h0 := Int.fmod_nonneg_of_pos x (by decide : (0:Int) < 65536)
  have h1 := Int.fmod_lt_of_pos x (by decide : (0:Int) < 65536)
  have i0 := Int.fmod_nonneg_of_pos x (by decide : (0:Int) < 3)
  have i1 := Int.fmod_lt_of_pos x (by decide : (0:Int) < 3)
  unfold text229
  generalize x.fmod 65536 = n at h0 h1 ⊢
  generalize x.fmod 3 = i at i0 i1 ⊢
  have hr := KIN.num_reads h0 (by omega : n < 10 ^ 10)
  have hl : (Str.ofString (toString n)).length ≤ 5 := toString_length_le h0 (by decide) (by omega : n < 10 ^ 5)
  obtain ⟨m, rfl⟩ := Int.eq_ofNat_of_zero_le h0
  have hs := KIN.signs_num m
  have hd : ∀ d ∈ (Str.ofString (toString ((m : Nat) : Int))).cps.toList, 48 ≤ d ∧ d ≤ 57 := by
    intro c hc
    rw [hs] at hc
    obtain ⟨ch, hch, e⟩ := List.mem_map.mp hc
    have r := digit_range (Nat.isDigit_of_mem_toDigits (by decide) (by decide) hch)
    rw [← e]
    exact r
  have hk : (Str.ofString (toString ((m : Nat) : Int))).cps.toList.length ∈ [1, 2, 3, 4, 5] := by
    have h2 : 1 ≤ (Str.ofString (toString ((m : Nat) : Int))).cps.toList.length := by rw [hs, List.length_map]; exact toDigits_len_ge 10 m
    have h3 : (Str.ofString (toString ((m : Nat) : Int))).cps.toList.length ≤ 5 := by rw [Array.length_toList]; exact hl
    generalize (Str.ofString (toString ((m : Nat) : Int))).cps.toList.length = k at h2 h3 ⊢
    have : k = 1 ∨ k = 2 ∨ k = 3 ∨ k = 4 ∨ k = 5 := by omega
    rcases this with rfl | rfl | rfl | rfl | rfl <;> decide
  have he : (⟨(Str.ofString (toString ((m : Nat) : Int))).cps.toList.toArray⟩ : Str) = Str.ofString (toString ((m : Nat) : Int)) := str_toArray
  have hm : ∃ mk, mk ∈ [124, 33, 112] ∧ (Txt.item (Str.ofString "|!p") i).cps.toList = [mk] ∧ (Txt.mul (Txt.item (Str.ofString "|!p") i) 3).cps.toList = [mk, mk, mk] := by
    have : i = 0 ∨ i = 1 ∨ i = 2 := by omega
    rcases this with rfl | rfl | rfl
    · exact ⟨124, by decide, by decide +kernel, by decide +kernel⟩
    · exact ⟨33, by decide, by decide +kernel, by decide +kernel⟩
    · exact ⟨112, by decide, by decide +kernel, by decide +kernel⟩
  obtain ⟨mk, hmk, e1, e2⟩ := hm
  refine ⟨mk, (Str.ofString (toString ((m : Nat) : Int))).cps.toList, ?_, is229 hmk hd hk, by rw [he]; exact hr⟩
  have h4 : (Str.ofString "229 go on (").cps.toList = [50, 50, 57, 32, 103, 111, 32, 111, 110, 32, 40] := by decide +kernel
  have h5 : (Str.ofString ")").cps.toList = [41] := by decide +kernel
  refine Str.ext' (Array.toList_inj.mp ?_)
  simp only [Str.cps_append, Array.toList_append, h4, h5, e1, e2, reply229]
  simp
end
section
theorem skip_34 {α : Type} {a b c d : α} {r : List α} : ∀ p ∈ a :: b :: r, p ∈ a :: b :: c :: d :: r := by
  intro p hp
  rcases List.mem_cons.mp hp with rfl | hp
  · exact .head _
  · rcases List.mem_cons.mp hp with rfl | hp
    · exact .tail _ (.head _)
    · exact .tail _ (.tail _ (.tail _ (.tail _ hp)))
theorem parse257_t1 {w : World} (n : Str) (tx : Tok) (H : NameOk n) (news : List (Addr × Obj)) : Con 5 w 72 news [.str (Str.ofString "257 \"" ++ Txt.replace n (Str.ofString "\"") (Str.ofString "\"\"") ++ Str.ofString "\" is here") tx] (fun k => ∀ t, k (.str n t) news) := by
  have h := parse257_c (w := w) (told1 n) tx H.len1 H.head1 news
  rw [H.val1] at h
  unfold told1 at h
  exact h
theorem parse257_t2 {w : World} (n : Str) (tx : Tok) (H : NameOk n) (news : List (Addr × Obj)) : Con 5 w 72 news [.str (Str.ofString "257 \"" ++ codedF n ++ Str.ofString "\"") tx] (fun k => ∀ t, k (.str (codedF n) t) news) := by
  have h := parse257_c (w := w) (told2 n) tx H.len2 H.head2 news
  rw [H.val2] at h
  unfold told2 at h
  exact h
theorem b64decode_t {w : World} (n : Str) (tx : Tok) (H : NameOk n) (news : List (Addr × Obj)) : Con 20 w 153 news [.str (codedF n) tx] (fun k => ∀ t, k (.bytes (asciiB n) t) news) := by
  have h := b64decode_c (w := w) (codedF n) tx H.codeLen H.codeAscii H.codeEnd news
  rw [H.dec] at h
  exact h
theorem coded_t {w : World} (n : Str) (tx : Tok) (H : NameOk n) (news : List (Addr × Obj)) : Con 30 w 308 news [.str n tx] (fun k => ∀ t, k (.str (codedF n) t) news) := law_coded_c n tx H.isName news
theorem str_of_ascii_t {prog : Program} {w : World} {A : Around} {E : Value → Shared → Prop} {s : Shared} {n : Str} {t u : Tok} {Q : Value → Shared → Prop} (H : NameOk n) (hq : ∀ t' k, Q (.str n t') { s with toks := k }) :
    wpAny (model prog w) A (call (.type "str") [.bytes (asciiB n) t, .str (Str.ofString "ascii") u]) Q E s := by
  refine str_of_ascii H.pos H.bytes H.bsize ?_
  rw [H.text]
  exact hq
theorem replace_t {prog : Program} {w : World} {A : Around} {E : Value → Shared → Prop} {s : Shared} {n : Str} {t u v : Tok} {Q : Value → Shared → Prop} (H : NameOk n) (hu : u ≠ 0) (hv : v ≠ 0) (huv : u ≠ v) (hq : ∀ t' k, (Txt.replace n (Str.ofString "\"") (Str.ofString "\"\"")).length ≤ 20 → Q (.str (Txt.replace n (Str.ofString "\"") (Str.ofString "\"\"")) t') { s with toks := k }) :
    wpAny (model prog w) A (call (.builtin "str.replace") [.str n t, .str (Str.ofString "\"") u, .str (Str.ofString "\"\"") v]) Q E s :=
  SC.replaceW hu hv huv (by decide) (by have := H.isName.size; omega) (by decide) fun t' k => hq t' k H.repl
local macro_rules | `(tactic| walk_at "eval BinOp") => `(tactic| (with_reducible refine wpAny_BinOp ?_))
local macro_rules | `(tactic| walk_at "subscriptTail Name Constant ref int") => `(tactic| (refine of_stopk 1 ?_))
local macro_rules | `(tactic| walk_at "call ref") => `(tactic| ((first | with_reducible refine at9 153 ?_ | with_reducible refine at9 72 ?_ | with_reducible refine at9 308 ?_ | with_reducible refine at9 296 ?_); refine of_stopk 2 ?_))

local macro_rules | `(tactic| walk_at "call builtin:str.replace") => `(tactic| (refine of_stopk 3 ?_))
local macro_rules | `(tactic| walk_at "call type:str") => `(tactic| (refine str_of_ascii_t (by assumption) ?_; intro _ _))
local macro_rules | `(tactic| walk_at "call ref") => `(tactic| ((with_reducible show wpAny _ _ (call (Value.ref 65) _) _ _ _); (refine of_stop ?_)))
set_option maxRecDepth 100000 in
set_option maxHeartbeats 1600000 in
/-- what _law_heard tells, and the port's pair -/
noncomputable abbrev heardObj (x : Int) (P : Addr) (t1 t2 t3 : Tok) : Obj := { cls := .type "tuple", data := .seq #[.str (lawName x) t1, .str (codedF (lawName x)) t2, .str (lawName x) t3, .ref P] }
noncomputable abbrev portObj (x : Int) (t4 t5 : Tok) : Obj := { cls := .type "tuple", data := .seq #[.str (Str.ofString "h.i") t4, .int (x.fmod 65536) t5] }
set_option maxRecDepth 100000 in
set_option maxHeartbeats 1600000 in
theorem law_heard_c {w : World} (x : Int) (tx : Tok) (news : List (Addr × Obj)) : Con 50 w 315 news [.int x tx] (fun k => ∀ D P t1 t2 t3 t4 t5, (P < D ∧ AllLt P news ∧ AllLt D news) → k (.ref D) ((D, heardObj x P t1 t2 t3) :: (P, portObj x t4 t5) :: news)) := by
  unfold Con
  intro pp0 loose mean mg mb dp un gd cn cs a ccd cl outer A₀ base h₀ L m s Q E B F X N T hk hd hu hret
  have HN := name_ok (lawName_in x)
  have p7 := HN.codeLen
  have p8 := HN.isName.size
  obtain ⟨mk, ds, e1, e2, e3⟩ := reply_of x
  unfold text229 at e1
  walk1
  (k_steps; (repeat (any_goals ((first | ((with_reducible refine un_stop 1 ?_); (with_unfolding_all refine item_litK (by is_list) (by decide) (by decide) (by rfl) ?_ (by with_unfolding_all rfl))) | ((with_reducible refine un_stop 2 ?_); (k_dflt ((first | ((with_reducible refine at9 153 ?_); apply con_use (b64decode_t _ _ ?_ _)) | ((with_reducible show wpAny _ _ (call (Value.ref 72) [Value.str (Str.ofString "257 \"" ++ codedF _ ++ _) _]) _ _ _); apply con_use (parse257_t2 _ _ ?_ _)) | ((with_reducible refine at9 72 ?_); apply con_use (parse257_t1 _ _ ?_ _)) | ((with_reducible refine at9 308 ?_); apply con_use (coded_t _ _ ?_ _)) | ((with_reducible refine at9 296 ?_); apply con_use (law_name_c _ _ _))); walk_at "con9"))) | ((with_reducible refine un_stop 3 ?_); (refine replace_t (by assumption) (Nat.succ_ne_zero _) (Nat.succ_ne_zero _) (Nat.ne_of_lt (Nat.lt_succ_self _)) ?_; intro _ _ _))); k_steps))))
  unfold Stop
  rw [e1]
  refine' parse229_c _ mk ds e2 _ e3 _ _ _ _ _ _ _ _ _ _ _ _ _ _ _ _ _ _ _ _ _ _ _ _ _ _ _ _ ?kB ?kF ?kX ?kN ?kT ?kk ?kd ?ku ?_; (case kB => k_asm); (case kF => k_asm); (case kX => k_asm); (case kN => k_asm); (case kT => k_asm); (case kk => first | exact rfl | assumption); (case kd => ktr_room); (case ku => ktr_units)
  intro D9 t9 l9 h9 tk9 F9 N9
  (k_steps; (repeat (any_goals ((first | ((with_reducible refine un_stop 1 ?_); (with_unfolding_all refine item_litK (by is_list) (by decide) (by decide) (by rfl) ?_ (by with_unfolding_all rfl))) | ((with_reducible refine un_stop 2 ?_); (k_dflt ((first | ((with_reducible refine at9 153 ?_); apply con_use (b64decode_t _ _ ?_ _)) | ((with_reducible show wpAny _ _ (call (Value.ref 72) [Value.str (Str.ofString "257 \"" ++ codedF _ ++ _) _]) _ _ _); apply con_use (parse257_t2 _ _ ?_ _)) | ((with_reducible refine at9 72 ?_); apply con_use (parse257_t1 _ _ ?_ _)) | ((with_reducible refine at9 308 ?_); apply con_use (coded_t _ _ ?_ _)) | ((with_reducible refine at9 296 ?_); apply con_use (law_name_c _ _ _))); walk_at "con9"))) | ((with_reducible refine un_stop 3 ?_); (refine replace_t (by assumption) (Nat.succ_ne_zero _) (Nat.succ_ne_zero _) (Nat.ne_of_lt (Nat.lt_succ_self _)) ?_; intro _ _ _))); k_steps))))
  rename (_ < _ ∧ _ < _ ∧ _ < _ ∧ AllLt _ _) => l2
  refine hret _ _ _ _ _ _ _ ⟨l2.1, l9.2.2, l2.2.2.2⟩ _ _ (by assumption) (cb_drop (by assumption) skip_34)
end
section
section
variable {prog : Program} {w : World} {A : Around} {E : Value → Shared → Prop} {s : Shared}
/-- sorted(list of texts): a new list, above what is there -/
theorem sorted_texts {h₀ : Heap} {L : Addr} {m : Str → Option Value} {news : List (Addr × Obj)} {l : Addr} {vs : List Value} {ss : List Str} {n : Nat} {Q : Value → Shared → Prop}
    (F : Fr h₀ L s.heap m) (N : News h₀ L s.heap news) (hm : (l, PySem.W.listOf vs.toArray n) ∈ news) (hS : StrsAre vs ss) (h64 : vs.length < 64)
    (h : ∀ (D : Addr) (h' : Heap) (vs' : List Value) (ss' : List Str) (e : Nat), Fr h₀ L h' m → News h₀ L h' ((D, PySem.W.listOf vs'.toArray e) :: news) → (∀ p ∈ news, p.1 < D) →
      StrsAre vs' ss' → ss'.Perm ss → sortedS ss' = true → Q (.ref D) { s with heap := h' }) :
    wpAny (model prog w) A (call (.builtin "sorted") [.ref l]) Q E s :=
  sorted_N_str F N ⟨_, (N _ hm).1, rfl, _, rfl⟩ hS h64 fun h' vs' ss' e F' N' a b c => h _ h' vs' ss' e F' N' (fun p hp => Nat.lt_succ_of_lt (Heap.lt_size (N p hp).1)) a b c
theorem txt_len {h₀ : Heap} {L : Addr} {news : List (Addr × Obj)} {l : Addr} {vs : List Value} {n : Nat} {Q : Value → Shared → Prop} (N : News h₀ L s.heap news) (hm : (l, PySem.W.listOf vs.toArray n) ∈ news) (hn : vs.length ≤ 1000)
    (h : Q (.int (vs.length : Int) (s.toks + 1)) { s with toks := s.toks + 1 + 1 }) : wpAny (model prog w) A (call (.builtin "len") [.ref l]) Q E s := by
  have hl : s.heap.IsList l vs.toArray := ⟨_, (N _ hm).1, rfl, n, rfl⟩
  have e : vs.toArray.size = vs.length := List.size_toArray ..
  exact len_list hl (by rw [e]; omega) (by rw [e]; exact h)
theorem txt_item {h₀ : Heap} {L : Addr} {news : List (Addr × Obj)} {l : Addr} {vs : List Value} {ws : List Str} {n : Nat} {i : Int} {u : Tok} {value slice : PySem.Expr} {Q : Value → Shared → Prop} (N : News h₀ L s.heap news) (hm : (l, PySem.W.listOf vs.toArray n) ∈ news) (hw : StrsAre vs ws)
    (h0 : 0 ≤ i) (h1 : i < (vs.length : Int)) (hn : vs.length ≤ 1000) (h : ∀ t', Q (.str (ws.getD i.toNat Str.empty) t') s)
    (hs : subscripted slice false (.ref l) (.int i u) = operate [.ref l, .int i u] (getItem (.ref l) (.int i u)) := by with_unfolding_all rfl) :
    wpAny (model prog w) A (subscriptTail value slice (.ref l) (.int i u)) Q E s := by
  have hl : s.heap.IsList l vs.toArray := ⟨_, (N _ hm).1, rfl, n, rfl⟩
  have hlen := hw.length
  have hlt : i.toNat < ws.length := by omega
  obtain ⟨t', e⟩ := hw.get i.toNat (ws.getD i.toNat Str.empty) (by rw [List.getD_eq_getElem?_getD, List.getElem?_eq_getElem hlt]; rfl)
  exact tail_any hl.typeIs slot_list_getitem.lookup (wpAny_getItem_list hl h0 (by omega) (x := .str _ t') (by simpa using e) (h t')) hs
end
end
section
section
open PySem.Calls
variable {prog : Program} {w : World} {A : Around} {h₀ : Heap} {L : Addr} {m : Str → Option Value} {env : Env} {ct elt : PySem.Expr} {x : Str} {scope : Scope} {cl : List (Str × Addr)} {s : Shared} {S : List (Addr × Obj) → Prop} {P : Nat → Value → Prop} {Fin : List Value → List (Addr × Obj) → Prop} {news : List (Addr × Obj)}
noncomputable def TxYes (b : Bool) (r : Str) (news : List (Addr × Obj)) (y : Value) (news' : List (Addr × Obj)) : Prop := b = true ∧ news' = news ∧ ∃ t : Tok, y = .str r t
noncomputable def TxNo (b : Bool) (news news' : List (Addr × Obj)) : Prop := b = false ∧ news' = news
/-- a comprehension with a test, whose items are texts -/
theorem text_restT {n : Nat} (g : Nat → Str) (keep : Nat → Bool)
    (turn : ∀ i v I oI C oC D m₂ ys h tk (E' : Value → Shared → Prop), i < n → P i v → LCg.NsObj oC m₂ → m₂ x = some v → Fr h₀ L h m → News h₀ L h ((I, oI) :: (C, oC) :: (D, LCg.lst ys) :: news) → LCg.Off3 I C D news → ((@Ne Nat I C) ∧ (@Ne Nat I D) ∧ (@Ne Nat C D)) →
      wpAny (model prog w) A (isTrue ct (compEnvC scope cl C env) (eval ct (compEnvC scope cl C env))) (fun ok s' => if ok = true then
        wpAny (model prog w) A (eval elt (compEnvC scope cl C env)) (LCg.CompEnd h₀ L m { s with heap := h, toks := tk } I oI C oC D (LCg.lst ys) S (fun y news' => TxYes (keep i) (g i) news y news')) E' s'
        else LCg.CompEnd h₀ L m { s with heap := h, toks := tk } I oI C oC D (LCg.lst ys) S (fun _ news' => TxNo (keep i) news news') Value.none s') E' { s with heap := h, toks := tk })
    (fin : ∀ ys, StrsAre ys (((List.range n).filter keep).map g) → Fin ys news) : LCt.CompRestT prog w A h₀ L m env ct elt x scope cl s S P Fin n 0 [] news := by
  have key : ∀ (j i : Nat) (ys : List Value), i + j = n → StrsAre ys (((List.range i).filter keep).map g) → LCt.CompRestT prog w A h₀ L m env ct elt x scope cl s S P Fin j i ys news := by
    intro j
    induction j with
    | zero =>
      intro i ys hi hy
      obtain rfl : i = n := hi
      exact LCt.CompRestT.zero (fin ys hy)
    | succ j ih =>
      intro i ys hi hy
      refine LCt.CompRestT.succ ?_
      intro v I oI C oC D m₂ h tk E' hv hC hx F N off ne
      refine wpAny_mono (turn i v I oI C oC D m₂ ys h tk E' (up_lt hi) hv hC hx F N off ne) (fun ok s₂ hq => ?_) fun _ _ e => e
      by_cases hok : ok = true
      · rw [if_pos hok] at hq ⊢
        refine wpAny_mono hq (fun y s₃ hq => end_mono (fun nw hq => ?_) hq) fun _ _ e => e
        obtain ⟨hk, hn, t', hy'⟩ := hq
        rw [hn, hy']
        refine ih (i + 1) _ (up_eq hi) ?_
        rw [List.range_succ, List.filter_append, List.map_append, List.filter_cons_of_pos hk]
        exact kct_snoc hy
      · rw [if_neg hok] at hq ⊢
        refine end_mono (fun nw hq => ?_) hq
        rw [hq.2]
        refine ih (i + 1) _ (up_eq hi) ?_
        rw [List.range_succ, List.filter_append, List.map_append, List.filter_cons_of_neg (by rw [hq.1]; decide), List.filter_nil, List.map_nil, List.append_nil]
        exact hy
  exact key n 0 [] (Nat.zero_add n) .nil
end
end
section
noncomputable def onceG (ss : List Str) (i : Nat) : Str := ss.getD i Str.empty
noncomputable def onceK (ss : List Str) (i : Nat) : Bool := i == 0 || (onceG ss (i - 1) != onceG ss i)
noncomputable def onceF (ss : List Str) : List Str := ((List.range ss.length).filter (onceK ss)).map (onceG ss)
local macro_rules | `(tactic| walk_at "call builtin:sorted") => `(tactic| (refine of_stop ?_))
local macro_rules | `(tactic| walk_at "eval ListComp") => `(tactic| (k_here; k_dflt (refine LCt.ListComp_T (F₀ := by k_asm) (by with_unfolding_all rfl) (by decide) (by rfl) (by decide) (by rfl) ?_)))
local macro_rules | `(tactic| walk_at "call builtin:len") => `(tactic| (refine of_stopk 1 ?_))
local macro_rules | `(tactic| walk_at "subscriptTail") => `(tactic| (refine of_stopk 2 ?_))
local macro_rules | `(tactic| walk_at "CompSrcT") => `(tactic| (refine of_stop ?_))
set_option maxRecDepth 100000 in
set_option maxHeartbeats 1600000 in
theorem law_once_c {w : World} (la : Addr) (vs : List Value) (ss : List Str) (n : Nat) (hS : StrsAre vs ss) (hl : vs.length ≤ 8) (rest : List (Addr × Obj)) (hrest : ∀ p ∈ rest, p.1 ≠ la) :
    Con 5 w 334 ((la, listOf vs.toArray n) :: rest) [.ref la] (fun k => ∀ D vs' ss', StrsAre vs' (onceF ss') → ss'.Perm ss → sortedS ss' = true → la ≠ D → (∀ p ∈ rest, p.1 ≠ D) → k (.ref D) ((D, LCg.lst vs') :: (la, listOf vs.toArray n) :: rest)) := by
  unfold Con
  intro pp0 loose mean mg mb dp un gd cn cs a ccd cl outer A₀ base h₀ L m s Q E B F X N T hk hd hu hret
  refine wpAny_call ?_
  refine' code_defCF (used := [(la, listOf vs.toArray n)]) (rest := rest) ?k1 ?k2 ?k3 ?k4 ?k5 ?ku ?kA ?kF ?kK ?k6 ?k7 ?k8 ?k9 ?kB ?kD ?_ ?c2 ?c3 ?c4
  case kA => exact rfl
  case kF => exact rfl
  case kK => first | exact rfl | assumption
  case k1 => k_asm
  case k2 => k_asm
  case k3 => k_asm
  case k4 => exact N
  case k5 => k_asm
  case ku => exact fun p hp => by simpa using hrest p hp
  case k6 => k_is
  case k7 => k_is
  case k8 => ktr_room
  case k9 => first | exact BindsTo.of_eq rfl | exact binds_K (by k_in) rfl (by k_is) rfl rfl rfl
  case kB => exact rfl
  case c2 => exact rfl
  case c3 => exact rfl
  case c4 => exact rfl
  case kD => decide +kernel
  k_whole
  intro g' L' h' tk' cells' FG' F' N' Y' B' X' T' l1 lR lN
  (try k_lt l1)
  k_cells Y'
  (try simp only [List.cons_append, List.nil_append] at N')
  (try dsimp only)
  (try k_lift B')
  (try k_fold)
  clear N
  (k_steps; (repeat (any_goals ((first | ((with_reducible refine un_stop 1 ?_); (refine txt_len (by assumption) (by k_mem) (by omega) ?_)) | ((with_reducible refine un_stop 2 ?_); (refine txt_item (by assumption) (by k_mem) (by assumption) (by omega) (by omega) (by omega) ?_; intro _))); k_steps))))
  unfold Stop
  refine sorted_texts (by assumption) (by assumption) (by k_mem) hS (by omega) ?_
  intro D9 h9 vs9 ss9 c9 F9 N9 hlt9 hS9 hP9 hO9
  k_lt hlt9
  have hl9 : vs9.length ≤ 8 := by have e1 := hS9.length; have e2 := hS.length; have e3 := hP9.length_eq; omega
  (k_steps; (repeat (any_goals ((first | ((with_reducible refine un_stop 1 ?_); (refine txt_len (by assumption) (by k_mem) (by omega) ?_)) | ((with_reducible refine un_stop 2 ?_); (refine txt_item (by assumption) (by k_mem) (by assumption) (by omega) (by omega) (by omega) ?_; intro _))); k_steps))))
  unfold Stop
  refine LCt.CompSrcT.range (by rfl) (by k_asm) (by k_asm) (by assumption) (by exact small_one (by l_bnd) (by l_bnd) (by l_bnd) (by l_bnd)) (by first | exact rangeSize_nat _ _ | rfl) (by rw [PySem.sizeLine_eq]; simp; omega) ?_
  intro g9
  refine text_restT (onceG ss9) (onceK ss9) ?_ ?_
  · rintro i v I oI C oC D m₂ ys h tk E' hi ⟨t, rfl⟩ hC hx F N off ne
    have hi0 : (0 + (i:Int)).toNat = i := toNat0 i
    have hi1 : i ≠ 0 → (0 + (i:Int) - 1).toNat = i - 1 := fun _ => toNat0p i
    (k_steps; (repeat (any_goals ((first | ((with_reducible refine un_stop 1 ?_); (refine txt_len (by assumption) (by k_mem) (by omega) ?_)) | ((with_reducible refine un_stop 2 ?_); (refine txt_item (by assumption) (by k_mem) (by assumption) (by omega) (by omega) (by omega) ?_; intro _))); k_steps))))
    · rename 0 + (i:Int) = 0 => hz
      have hz' : i = 0 := by omega
      simp only [LCg.Off3, and_true] at off
      have n00 := off.1.1
      have n01 := off.1.2.1
      have n02 := off.1.2.2
      have n10 := off.2.1.1
      have n11 := off.2.1.2.1
      have n12 := off.2.1.2.2
      have n20 := off.2.2.1
      have n21 := off.2.2.2.1
      have n22 := off.2.2.2.2
      have n70 := ne.1
      have n71 := ne.2.1
      have n72 := ne.2.2
      (k_steps; (repeat (any_goals ((first | ((with_reducible refine un_stop 1 ?_); (refine txt_len (by assumption) (by k_mem) (by omega) ?_)) | ((with_reducible refine un_stop 2 ?_); (refine txt_item (by assumption) (by k_mem) (by assumption) (by omega) (by omega) (by omega) ?_; intro _))); k_steps))))
      exact ⟨by simp [onceK, hz'], rfl, _, by rw [hi0]; rfl⟩
    · rename 0 + (i:Int) ≠ 0 => hz
      rename (_ != _) = true => hne
      have hz' : i ≠ 0 := by omega
      rw [hi0, hi1 hz'] at hne
      simp only [LCg.Off3, and_true] at off
      have n00 := off.1.1
      have n01 := off.1.2.1
      have n02 := off.1.2.2
      have n10 := off.2.1.1
      have n11 := off.2.1.2.1
      have n12 := off.2.1.2.2
      have n20 := off.2.2.1
      have n21 := off.2.2.2.1
      have n22 := off.2.2.2.2
      have n70 := ne.1
      have n71 := ne.2.1
      have n72 := ne.2.2
      (k_steps; (repeat (any_goals ((first | ((with_reducible refine un_stop 1 ?_); (refine txt_len (by assumption) (by k_mem) (by omega) ?_)) | ((with_reducible refine un_stop 2 ?_); (refine txt_item (by assumption) (by k_mem) (by assumption) (by omega) (by omega) (by omega) ?_; intro _))); k_steps))))
      refine ⟨?_, rfl, _, by rw [hi0]; rfl⟩
      unfold onceK onceG
      rw [hne]; simp
    · rename 0 + (i:Int) ≠ 0 => hz
      rename (_ != _) = false => hne
      have hz' : i ≠ 0 := by omega
      rw [hi0, hi1 hz'] at hne
      simp only [LCg.Off3, and_true] at off
      have n00 := off.1.1
      have n01 := off.1.2.1
      have n02 := off.1.2.2
      have n10 := off.2.1.1
      have n11 := off.2.1.2.1
      have n12 := off.2.1.2.2
      have n20 := off.2.2.1
      have n21 := off.2.2.2.1
      have n22 := off.2.2.2.2
      have n70 := ne.1
      have n71 := ne.2.1
      have n72 := ne.2.2
      (k_steps; (repeat (any_goals ((first | ((with_reducible refine un_stop 1 ?_); (refine txt_len (by assumption) (by k_mem) (by omega) ?_)) | ((with_reducible refine un_stop 2 ?_); (refine txt_item (by assumption) (by k_mem) (by assumption) (by omega) (by omega) (by omega) ?_; intro _))); k_steps))))
      refine ⟨?_, rfl⟩
      unfold onceK onceG
      rw [hne]; simp [hz']
  · intro ys hys
    have hlen : (((vs9.length : Nat) : Int) - 0).toNat = ss9.length := by have := hS9.length; omega
    rw [hlen] at hys
    (k_steps; (repeat (any_goals ((first | ((with_reducible refine un_stop 1 ?_); (refine txt_len (by assumption) (by k_mem) (by omega) ?_)) | ((with_reducible refine un_stop 2 ?_); (refine txt_item (by assumption) (by k_mem) (by assumption) (by omega) (by omega) (by omega) ?_; intro _))); k_steps))))
    rename _ ≠ _ ∧ _ ≠ _ ∧ _ ≠ _ => o1
    rename News g' _ _ _ => N8
    rename News h₀ _ _ ((_, LCg.lst ys) :: _) => N9
    rename News h₀ _ _ rest => NR
    refine hret _ ys ss9 hys hP9 hO9 o1.2.2 (lN _ (N8 _ (.head _)).2.2) _ _ (by assumption) ?_
    intro q hq
    rcases List.mem_cons.mp hq with rfl | hq
    · exact N9 _ (.head _)
    · rcases List.mem_cons.mp hq with rfl | hq
      · exact N9 _ (by k_mem)
      · exact NR q hq
end
section
section
variable {prog : Program} {w : World} {A : Around} {E : Value → Shared → Prop} {s : Shared} {h₀ : Heap} {L : Addr} {m : Str → Option Value} {news : List (Addr × Obj)}
theorem add_texts {l b : Addr} {vs ws : List Value} {n1 n2 : Nat} {Q : Value → Shared → Prop} (F : Fr h₀ L s.heap m) (N : News h₀ L s.heap news) (hm : (l, PySem.W.listOf vs.toArray n1) ∈ news) (hb : (b, PySem.W.listOf ws.toArray n2) ∈ news) (h1 : vs.length ≤ 1000) (h2 : ws.length ≤ 1000)
    (h : ∀ D h', Fr h₀ L h' m → News h₀ L h' ((D, PySem.W.listOf (vs ++ ws).toArray 0) :: news) → (∀ p ∈ news, p.1 < D) → Q (.ref D) { s with heap := h' }) :
    wpAny (model prog w) A (binaryOp .Add (.ref l) (.ref b)) Q E s :=
  add_lists F N ⟨_, (N _ hm).1, rfl, _, rfl⟩ ⟨_, (N _ hb).1, rfl, _, rfl⟩ (fun h' F' N' => h _ h' F' N' fun p hp => Heap.lt_size (N p hp).1) (by rw [PySem.sizeLine_eq]; omega)
theorem count_texts {l : Addr} {vs : List Value} {ys : List Str} {n : Nat} {k : Str} {t : Tok} {Q : Value → Shared → Prop} (N : News h₀ L s.heap news) (hm : (l, PySem.W.listOf vs.toArray n) ∈ news) (hi : StrsAre vs ys)
    (h : Q (.int ((ys.count k : Nat) : Int) s.toks) { s with toks := s.toks + 1 }) : wpAny (model prog w) A (call (.builtin "list.count") [.ref l, .str k t]) Q E s :=
  count_list_strs ⟨_, (N _ hm).1, rfl, _, rfl⟩ hi (by rw [cnt_strs]; exact h)
end
theorem strs_append {vs us : List Value} {a b : List Str} (h : StrsAre vs a) (h' : StrsAre us b) : StrsAre (vs ++ us) (a ++ b) := by
  induction h with
  | nil => exact h'
  | cons y t _ ih => exact .cons y t ih
theorem strs_at {vs : List Value} {ss : List Str} {i : Nat} {v : Value} (h : StrsAre vs ss) (hv : vs[i]? = some v) : ∃ x t, ss[i]? = some x ∧ v = .str x t := by
  induction h generalizing i with
  | nil => cases hv
  | cons y t _ ih =>
    cases i with
    | zero => exact ⟨y, t, rfl, (Option.some.inj hv).symm⟩
    | succ i => exact ih hv
theorem allLt_mem {d : Addr} {l : List (Addr × Obj)} (h : AllLt d l) : ∀ p ∈ l, p.1 < d := by
  induction l with
  | nil => intro p hp; cases hp
  | cons q r ih =>
    intro p hp
    cases hp with
    | head => exact h.1
    | tail _ hp => exact ih h.2 p hp
end
section
noncomputable def rowD (r : Nat × Nat × Str) : Dat := .tuple [.int r.1, .int r.2.1, .str r.2.2]
noncomputable def ctdStep (a b : List Str) (acc : List (Nat × Nat × Str)) (x : Str) : List (Nat × Nat × Str) :=
  if a.count x ≠ b.count x ∧ (a.count x, b.count x, x) ∉ acc then acc ++ [(a.count x, b.count x, x)] else acc
noncomputable def ctdF (a b : List Str) : List (Nat × Nat × Str) := (a ++ b).foldl (ctdStep a b) []
theorem ctd_mem {a b : List Str} : ∀ {l : List Str} {acc : List (Nat × Nat × Str)}, ∀ r ∈ l.foldl (ctdStep a b) acc, r ∈ acc ∨ r.2.2 ∈ l := by
  intro l
  induction l with
  | nil => intro acc r hr; exact .inl hr
  | cons x l ih =>
    intro acc r hr
    rcases ih r hr with h | h
    · unfold ctdStep at h
      split at h
      · rcases List.mem_append.mp h with h | h
        · exact .inl h
        · rw [List.mem_singleton.mp h]; exact .inr (.head _)
      · exact .inl h
    · exact .inr (.tail _ h)
theorem ctd_ok {a b l : List Str} (h : ∀ x ∈ l, PyData.strOk x = true) (i : Nat) : ∀ d ∈ ((l.take i).foldl (ctdStep a b) []).map rowD, kqdOk 8 d = true := by
  intro d hd
  obtain ⟨r, hr, rfl⟩ := List.mem_map.mp hd
  rcases ctd_mem r hr with h' | h'
  · cases h'
  · have := h _ (List.mem_of_mem_take h')
    simp [rowD, kqdOk, this]
theorem rowD_mem {r : Nat × Nat × Str} {l : List (Nat × Nat × Str)} : rowD r ∈ l.map rowD ↔ r ∈ l := by
  constructor
  · intro h
    obtain ⟨q, hq, e⟩ := List.mem_map.mp h
    obtain ⟨a, b, c⟩ := r
    obtain ⟨a', b', c'⟩ := q
    simp only [rowD, Dat.tuple.injEq, List.cons.injEq, Dat.int.injEq, Dat.str.injEq, and_true] at e
    obtain ⟨e1, e2, e3⟩ := e
    have e1' : a' = a := by omega
    have e2' : b' = b := by omega
    subst e1' e2' e3
    exact hq
  · intro h; exact List.mem_map_of_mem h
theorem ctd_next {a b cat : List Str} {i : Nat} {x : Str} (hx : cat[i]? = some x) : (cat.take (i + 1)).foldl (ctdStep a b) [] = ctdStep a b ((cat.take i).foldl (ctdStep a b) []) x := by
  rw [List.take_add_one, hx, List.foldl_append]; rfl
theorem ctd_same {a b : List Str} {acc : List (Nat × Nat × Str)} {x : Str} (h : ((a.count x : Nat) : Int) = ((b.count x : Nat) : Int)) : ctdStep a b acc x = acc := by
  unfold ctdStep; rw [if_neg]; intro q; exact q.1 (by omega)
open Classical in
theorem ctd_old {a b : List Str} {acc : List (Nat × Nat × Str)} {x : Str} (h : decide (rowD (a.count x, b.count x, x) ∈ acc.map rowD) = true) : ctdStep a b acc x = acc := by
  have h' := rowD_mem.mp (of_decide_eq_true h)
  unfold ctdStep; rw [if_neg]; intro q; exact q.2 h'
open Classical in
theorem ctd_new {a b : List Str} {acc : List (Nat × Nat × Str)} {x : Str} (h0 : ((a.count x : Nat) : Int) ≠ ((b.count x : Nat) : Int)) (h : decide (rowD (a.count x, b.count x, x) ∈ acc.map rowD) = false) : ctdStep a b acc x = acc ++ [(a.count x, b.count x, x)] := by
  have h' : (a.count x, b.count x, x) ∉ acc := fun q => (of_decide_eq_false h) (rowD_mem.mpr q)
  unfold ctdStep; rw [if_pos ⟨by omega, h'⟩]
theorem sub_turn {α : Type} {t a b c d : α} {own rest own' : List α} : ∀ p ∈ a :: b :: c :: d :: (own ++ rest), p ∈ t :: a :: b :: c :: d :: (own ++ (rest ++ own')) := by
  exact al (.tail _ (.head _)) (al (.tail _ (.tail _ (.head _))) (al (.tail _ (.tail _ (.tail _ (.head _)))) (al (.tail _ (.tail _ (.tail _ (.tail _ (.head _))))) (al2 (fun p h => .tail _ (.tail _ (.tail _ (.tail _ (.tail _ (inl9 h)))))) fun p h => .tail _ (.tail _ (.tail _ (.tail _ (.tail _ (inr9 (inl9 h))))))))))
theorem sub_own2 {α : Type} {t a b c d : α} {own rest own' : List α} : ∀ p ∈ own', p ∈ t :: a :: b :: c :: d :: (own ++ (rest ++ own')) := by
  exact fun p h => .tail _ (.tail _ (.tail _ (.tail _ (.tail _ (inr9 (inr9 h))))))
theorem sep_all {la lb tl D9 : Addr} {oa ob od ot : Obj} {own rest own' : List (Addr × Obj)} (hne : D9 ≠ tl ∧ la ≠ tl ∧ lb ≠ tl) (hsep : ∀ p ∈ own ++ rest, p.1 ≠ tl) (hoff : OwnOff own' (((D9, od) :: (tl, ot) :: (la, oa) :: (lb, ob) :: (own ++ rest)).map (·.1))) :
    ∀ p ∈ (la, oa) :: (lb, ob) :: (own ++ (rest ++ own')), p.1 ≠ tl := by
  intro p hp
  rcases List.mem_cons.mp hp with rfl | hp
  · exact hne.2.1
  · rcases List.mem_cons.mp hp with rfl | hp
    · exact hne.2.2
    · rw [← List.append_assoc] at hp
      rcases List.mem_append.mp hp with hp | hp
      · exact hsep p hp
      · exact hoff p hp tl (by simp)
theorem row_ok {x : Str} (h : PyData.strOk x = true) (i j : Nat) : kqdOk 8 (rowD (i, j, x)) = true := by simp [rowD, kqdOk, h]
local macro_rules | `(tactic| walk_at "getMethod ref") => `(tactic| ((with_reducible show wpAny _ _ (getMethod (Value.ref _) (Str.ofString "count") _) _ _ _); with_unfolding_all refine getMethod_list_of PySem.F.slot_list_count PySem.F.type_list_count (by is_list) (by no_dict) ?_))
local macro_rules | `(tactic| walk_at "binaryOp Add ref ref") => `(tactic| (refine of_stopk 1 ?_))
local macro_rules | `(tactic| walk_at "call builtin:list.count") => `(tactic| (refine of_stopk 2 ?_))
local macro_rules | `(tactic| walk_at "exec For Name BinOp cons nil") => `(tactic| (refine of_stopk 3 ?_))
local macro_rules | `(tactic| walk_at "eval Name") => `(tactic| (k_here; k_dflt (refine ld (by k_asm) (by assumption) ?_; k_whole)))
local macro_rules | `(tactic| walk_at "compareOp NotIn") => `(tactic| (refine of_stop ?_))
local macro_rules | `(tactic| k_upd) => `(tactic| (rename (_ ≠ _ ∧ _ ≠ _ ∧ _ ≠ _) => hne9; rename OwnOff _ _ => hoff9; rename (∀ p ∈ _ ++ _, _ ≠ _) => hsep9; exact Upd.tail (by k_ne) (Upd.tail hne9.1 (Upd.head (sep_all hne9 hsep9 hoff9)))))
local macro_rules | `(tactic| walk_at "pyIter ref") => `(tactic| (refine of_stop ?_))
/-- what holds between the turns of _law_counted -/
inductive TJ (D : Addr × Obj) (a b : Addr × Obj) (rest : List (Addr × Obj)) (ss1 ss2 : List Str) (pre : List Str) (k : Nat) (m : Str → Option Value) (nx : List (Addr × Obj)) : Prop
  | mk (tl : Addr) (ws : List Value) (own : List (Addr × Obj)) (n : Nat) : nx = D :: (tl, listOf ws.toArray n) :: a :: b :: (own ++ rest) → ws.length ≤ k → DatAll own ws ((pre.foldl (ctdStep ss1 ss2) []).map rowD) → (D.1 ≠ tl ∧ a.1 ≠ tl ∧ b.1 ≠ tl) → (∀ p ∈ own ++ rest, p.1 ≠ tl) →
      m (Str.ofString "told") = some (.ref tl) → m (Str.ofString "one") = some (.ref a.1) → m (Str.ofString "two") = some (.ref b.1) → TJ D a b rest ss1 ss2 pre k m nx
open Classical in
theorem counted_end {h₀ : Heap} {L D9 tl la lb T : Addr} {ol oa ob oD : Obj} {own rest own' : List (Addr × Obj)} {ss1 ss2 : List Str} {i n k : Nat} {x : Str} {t t1 t2 : Tok} {ws : List Value} {m' : Str → Option Value} {s₁ : Shared} {h' : Heap} {tk : Nat} {cat : List Str}
    (F : Fr h₀ L h' m') (N : News h₀ L h' ((T, ({ cls := .type "tuple", data := .seq #[Value.int (ss1.count x : Nat) t1, Value.int (ss2.count x : Nat) t2, Value.str x t] k } : Obj)) :: (D9, oD) :: (tl, listOf (ws ++ [Value.ref T]).toArray (n + 1)) :: (la, oa) :: (lb, ob) :: (own ++ (rest ++ own'))))
    (hx : cat[i]? = some x) (hw : ws.length ≤ i) (hD : DatAll own ws (((cat.take i).foldl (ctdStep ss1 ss2) []).map rowD)) (hne : D9 ≠ tl ∧ la ≠ tl ∧ lb ≠ tl) (hsep : ∀ p ∈ own ++ rest, p.1 ≠ tl)
    (hoff : OwnOff own' (((D9, oD) :: (tl, ol) :: (la, oa) :: (lb, ob) :: (own ++ rest)).map (·.1))) (hT : tl < T) (hTo : ∀ p ∈ own', p.1 ≠ T)
    (m1 : m' (Str.ofString "told") = some (.ref tl)) (m2 : m' (Str.ofString "one") = some (.ref la)) (m3 : m' (Str.ofString "two") = some (.ref lb))
    (h0 : ((ss1.count x : Nat) : Int) ≠ ((ss2.count x : Nat) : Int)) (h1 : decide (rowD (ss1.count x, ss2.count x, x) ∈ (((cat.take i).foldl (ctdStep ss1 ss2) []).map rowD)) = false) :
    InvEndG h₀ L (fun m' nx => (D9, oD) ∈ nx ∧ TJ (D9, oD) (la, oa) (lb, ob) rest ss1 ss2 (cat.take (i + 1)) (i + 1) m' nx) own' s₁ { s₁ with heap := h', toks := tk } := by
  refine InvEndG.intro (nx := (D9, oD) :: (tl, listOf (ws ++ [Value.ref T]).toArray (n + 1)) :: (la, oa) :: (lb, ob) :: (((T, ({ cls := .type "tuple", data := .seq #[Value.int (ss1.count x : Nat) t1, Value.int (ss2.count x : Nat) t2, Value.str x t] k } : Obj)) :: own) ++ rest)) F N ⟨.head _, tl, _, _, _, rfl, ?_, ?_, hne, ?_, m1, m2, m3⟩ ?_ ?_ ?_
  · rw [List.length_append]; exact Nat.succ_le_succ hw
  · rw [ctd_next hx, ctd_new h0 h1, List.map_append]
    refine DatAll.append (DatAll.mono (fun p hp => .tail _ hp) hD) (.cons (DatIn.tuple (vs := [_, _, _]) (.head _) (.cons (.int _ _) (.cons (.int _ _) (.cons (.str _ _) .nil)))) .nil)
  · intro p hp
    rcases List.mem_cons.mp hp with rfl | hp
    · exact Nat.ne_of_gt hT
    · exact hsep p hp
  · intro p hp
    have h9 := hoff p hp
    exact al (h9 _ (.head _)) (al (h9 _ (.tail _ (.head _))) (al (h9 _ (.tail _ (.tail _ (.head _)))) (al (h9 _ (.tail _ (.tail _ (.tail _ (.head _))))) (al (hTo p hp) fun b hb => h9 b (.tail _ (.tail _ (.tail _ (.tail _ hb))))))))
  · have q : ∀ p ∈ own ++ rest, p ∈ own ++ (rest ++ own') := al2 (fun _ h => inl9 h) (fun _ h => inr9 (inl9 h))
    exact al (.tail _ (.head _)) (al (.tail _ (.tail _ (.head _))) (al (.tail _ (.tail _ (.tail _ (.head _)))) (al (.tail _ (.tail _ (.tail _ (.tail _ (.head _))))) (al (.head _) fun p h => .tail _ (.tail _ (.tail _ (.tail _ (.tail _ (q p h)))))))))
  · exact fun p h => .tail _ (.tail _ (.tail _ (.tail _ (.tail _ (inr9 (inr9 h))))))
set_option maxRecDepth 100000 in
set_option maxHeartbeats 1600000 in
theorem counted_c {w : World} (la lb : Addr) (vs us : List Value) (ss1 ss2 : List Str) (n1 n2 : Nat) (hS1 : StrsAre vs ss1) (hS2 : StrsAre us ss2) (hl1 : vs.length ≤ 8) (hl2 : us.length ≤ 8) (hok : ∀ x ∈ ss1 ++ ss2, PyData.strOk x = true) (rest : List (Addr × Obj)) :
    Con 50 w 329 ((la, listOf vs.toArray n1) :: (lb, listOf us.toArray n2) :: rest) [.ref la, .ref lb] (fun k => ∀ tl ws own n, ws.length ≤ 16 → DatAll own ws ((ctdF ss1 ss2).map rowD) → la ≠ tl → lb ≠ tl → (∀ p ∈ own ++ rest, p.1 ≠ tl) → k (.ref tl) ((tl, listOf ws.toArray n) :: (la, listOf vs.toArray n1) :: (lb, listOf us.toArray n2) :: (own ++ rest))) := by
  unfold Con
  intro pp0 loose mean mg mb dp un gd cn cs a ccd cl outer A₀ base h₀ L m s Q E B F X N T hk hd hu hret
  walk1
  (k_steps; (repeat (any_goals ((first | ((with_reducible refine un_stop 1 ?_); (refine add_texts (by assumption) (by assumption) (by k_mem) (by k_mem) (by omega) (by omega) ?_; intro _ _ _ _ l9z; k_lt l9z)) | ((with_reducible refine un_stop 2 ?_); (refine count_texts (by assumption) (by k_mem) (by assumption) ?_)) | ((with_reducible refine un_stop 3 ?_); (k_here; (rename Fr _ _ _ _ => lF'); (with_unfolding_all refine For_invVF lF' rfl rfl ?_; k_whole)))); k_steps))))
  unfold Stop
  rename Fr _ _ _ _ => F1
  rename News _ _ _ _ => N2
  rename (_ < _ ∧ _ < _ ∧ _ < _ ∧ AllLt _ rest) => l2
  rename (_ < _ ∧ _ < _ ∧ AllLt _ rest) => l3
  rename_i D9 h9
  have hcat : StrsAre (vs ++ us) (ss1 ++ ss2) := strs_append hS1 hS2
  have F2 : Fr _ _ _ (fun y => if y = Str.ofString "told" then some (Value.ref _) else List.lookup y [(Str.ofString "two", Value.ref lb), (Str.ofString "one", Value.ref la)]) := F1
  clear F1
  refine kdl_iter (fun i => TJ (_, listOf (vs ++ us).toArray 0) (la, listOf vs.toArray n1) (lb, listOf us.toArray n2) rest ss1 ss2 ((ss1 ++ ss2).take i) i)
    rfl (.head _) F2 N2 ⟨_, [], [], 0, rfl, Nat.le_refl _, .nil, ⟨Nat.ne_of_gt l2.1, Nat.ne_of_lt l3.1, Nat.ne_of_lt l3.2.1⟩, fun p hp => Nat.ne_of_lt (allLt_mem l3.2.2 p hp), rfl, rfl, rfl⟩ ?turn ?done
  case turn =>
    clear F2 N2
    intro i v m₁ nx h tk own' hv hoff hin hJ F3 N3
    (try k_fold)
    obtain ⟨tl, ws, own, n, rfl, hw, hD, hne, hsep, m1, m2, m3⟩ := hJ
    obtain ⟨x, t, hx, rfl⟩ := strs_at hcat hv
    simp only [List.cons_append, List.append_assoc] at N3
    have hi16 : ws.length ≤ 1000 := by have := (List.getElem?_eq_some_iff.mp hv).1; simp at this; omega
    have hxo : PyData.strOk x = true := hok x (List.mem_of_getElem? hx)
    (k_steps; (repeat (any_goals ((first | ((with_reducible refine un_stop 1 ?_); (refine add_texts (by assumption) (by assumption) (by k_mem) (by k_mem) (by omega) (by omega) ?_; intro _ _ _ _ l9z; k_lt l9z)) | ((with_reducible refine un_stop 2 ?_); (refine count_texts (by assumption) (by k_mem) (by assumption) ?_)) | ((with_reducible refine un_stop 3 ?_); (k_here; (rename Fr _ _ _ _ => lF'); (with_unfolding_all refine For_invVF lF' rfl rfl ?_; k_whole)))); k_steps))))
    all_goals try (unfold Stop; refine kqd_notIn (by assumption) (by k_mem) rfl rfl (by assumption) (fun p hp => .tail _ (.tail _ (.tail _ (.tail _ (.tail _ (List.mem_append.mpr (.inl hp))))))) (DatIn.tuple (vs := [_, _, _]) (by k_mem) (.cons (.int _ _) (.cons (.int _ _) (.cons (.str _ _) .nil)))) (fun _ h => h) (ctd_ok (by assumption) _) (row_ok (by assumption) _ _) (by ktr_units) ?_; (k_steps; (repeat (any_goals ((first | ((with_reducible refine un_stop 1 ?_); (refine add_texts (by assumption) (by assumption) (by k_mem) (by k_mem) (by omega) (by omega) ?_; intro _ _ _ _ l9z; k_lt l9z)) | ((with_reducible refine un_stop 2 ?_); (refine count_texts (by assumption) (by k_mem) (by assumption) ?_)) | ((with_reducible refine un_stop 3 ?_); (k_here; (rename Fr _ _ _ _ => lF'); (with_unfolding_all refine For_invVF lF' rfl rfl ?_; k_whole)))); k_steps)))))
    · rename Fr _ _ _ _ => fE
      rename News _ _ _ _ => nE
      refine InvEndG.intro fE nE ⟨.head _, tl, ws, own, n, rfl, by omega, ?_, hne, hsep, m1, m2, m3⟩ hoff sub_turn sub_own2
      rw [ctd_next hx]
      have e : ctdStep ss1 ss2 (((ss1 ++ ss2).take i).foldl (ctdStep ss1 ss2) []) x = ((ss1 ++ ss2).take i).foldl (ctdStep ss1 ss2) [] := by first | exact ctd_old (by assumption) | exact ctd_same (by assumption)
      rw [e]; exact hD
    · rename News _ _ _ _ => nE
      rename Fr _ _ _ _ => fE
      rename (_ < _ ∧ _ < _ ∧ _ < _ ∧ _ < _ ∧ AllLt _ _) => l5
      simp only [List.push_toArray] at nE
      exact counted_end fE nE hx hw hD hne hsep hoff l5.2.1 (fun p hp => Nat.ne_of_lt (allLt_mem l5.2.2.2.2 p (List.mem_append.mpr (.inr (List.mem_append.mpr (.inr hp)))))) m1 m2 m3 (by assumption) (by assumption)
    · rename Fr _ _ _ _ => fE
      rename News _ _ _ _ => nE
      refine InvEndG.intro fE nE ⟨.head _, tl, ws, own, n, rfl, by omega, ?_, hne, hsep, m1, m2, m3⟩ hoff sub_turn sub_own2
      rw [ctd_next hx]
      have e : ctdStep ss1 ss2 (((ss1 ++ ss2).take i).foldl (ctdStep ss1 ss2) []) x = ((ss1 ++ ss2).take i).foldl (ctdStep ss1 ss2) [] := by first | exact ctd_old (by assumption) | exact ctd_same (by assumption)
      rw [e]; exact hD
  case done =>
    intro m₁ nx h tk hJ F3 N3
    (try k_fold)
    obtain ⟨tl, ws, own, n, rfl, hw, hD, hne, hsep, m1, m2, m3⟩ := hJ
    (k_steps; (repeat (any_goals ((first | ((with_reducible refine un_stop 1 ?_); (refine add_texts (by assumption) (by assumption) (by k_mem) (by k_mem) (by omega) (by omega) ?_; intro _ _ _ _ l9z; k_lt l9z)) | ((with_reducible refine un_stop 2 ?_); (refine count_texts (by assumption) (by k_mem) (by assumption) ?_)) | ((with_reducible refine un_stop 3 ?_); (k_here; (rename Fr _ _ _ _ => lF'); (with_unfolding_all refine For_invVF lF' rfl rfl ?_; k_whole)))); k_steps))))
    have hall : (ss1 ++ ss2).take (vs ++ us).length = ss1 ++ ss2 := List.take_of_length_le (by rw [hcat.length]; exact Nat.le_refl _)
    rw [hall] at hD
    exact hret tl ws own n (by simp at hw; omega) hD hne.2.1 hne.2.2 hsep _ _ (by assumption) (fun p hp => by rename (News h₀ _ _ _) => nE; exact nE p (.tail _ hp))
end
section
section
open PySem.Calls
variable {prog : Program} {w : World} {A A₀ : Around} {E : Value → Shared → Prop} {s : Shared} {h₀ h : Heap} {L a e T LL : Addr} {m : Str → Option Value} {name : Str} {scope : Scope} {cd c fl : Value} {X : String} {news : List (Addr × Obj)} {oL oe oT : Obj} {lenv : Env}
/-- an exception e with its traceback T, told by their fields: c is its context, fl the flight mark -/
structure ExcAt (T : Addr) (X : String) (oe oT : Obj) (c fl : Value) : Prop where
  cls : oe.cls = .type X
  data : ∃ vs, oe.data = .fields vs ∧ vs[1]? = some (.ref T) ∧ vs[2]? = some c
  tdata : ∃ tvs, oT.data = .fields tvs ∧ tvs[3]? = some fl
/-- an exception not yet noted -/
structure ExcNew (X : String) (oe : Obj) (c : Value) : Prop where
  cls : oe.cls = .type X
  data : ∃ vs, oe.data = .fields vs ∧ vs[1]? = some .none ∧ vs[2]? = some c
theorem cls_mapFields (o : Obj) (f : Array Value → Array Value) : (Obj.mapFields f o).cls = o.cls := by
  obtain ⟨c, d, dt, sl⟩ := o
  cases dt <;> rfl
theorem note_fresh {Q : Unit → Shared → Prop} (hfr : A.frames = some [envOf name scope L a cd, lenv]) (hlf : lenv.frame = some LL) (hlk : lenv.scope.kind ≠ .module)
    (F : Fr h₀ L s.heap m) (N : News h₀ L s.heap ((e, oe) :: (LL, oL) :: news)) (hLd : ∃ es ep, oL.data = .dict es ep) (hee : ∀ p ∈ (LL, oL) :: news, p.1 ≠ e) (X0 : ExcNew X oe c) (hk : scope.kind = .function) (hne : ∀ p ∈ news, p.1 ≠ LL)
    (k : ∀ h' T oe' oT sl, Fr h₀ L h' m → News h₀ L h' ((e, oe') :: (T, oT) :: (LL, { oL with slots := sl }) :: news) → ExcAt T X oe' oT c (rawInt L) → T ≠ e → (∀ p ∈ (LL, { oL with slots := sl }) :: news, p.1 ≠ T) → Q () { s with heap := h' }) :
    wpAny (model prog w) A (noteFrame (.ref e) (envOf name scope L a cd)) Q E s := by
  obtain ⟨hcls, vs, hd, h1, h2⟩ := X0
  have hsz : 1 < vs.size := (Array.getElem?_eq_some_iff.mp h1).1
  have hkind : (envOf name scope L a cd).scope.kind ≠ .module := by
    show scope.kind ≠ .module
    rw [hk]; decide
  obtain ⟨he, heL, he0⟩ := N _ (.head _)
  obtain ⟨hL, hLL, hL0⟩ := N _ (.tail _ (.head _))
  obtain ⟨es, ep, hLd⟩ := hLd
  have heLL : e ≠ LL := fun q => by
    have he' : s.heap.get? e = some oe := he
    have hL' : s.heap.get? LL = some oL := hL
    rw [q, hL'] at he'
    rw [Option.some.inj he', hd] at hLd
    cases hLd
  have hff : s.heap.FunFrames h₀ [envOf name scope L a cd, lenv] :=
    Heap.FunFrames.cons hkind rfl F.ns (Heap.get?_none_of_le F.above) ⟨hlk, ⟨LL, oL, hlf, hL0, hL, fun vs q => by rw [hLd] at q; cases q⟩, trivial⟩
  unfold noteFrame
  simp only [show (envOf name scope L a cd).frame = some L from rfl]
  refine wpAny_bind (wpAny_field he hd h1 ?_)
  rw [if_neg (by decide)]
  refine wpAny_bind (wpAny_frameOf_fun hfr hff rfl fun h₁ hs₁ => ?_)
  refine wpAny_bind (wpAny_entryPlaceOf fun pl hpl => ?_)
  unfold EntryCells.newEntry newFields
  refine wpAny_bind (wpAny_newObj_type ?_ (hpl.sizeOk5 _ _ _ _ _))
  have hfs : (([envOf name scope L a cd, lenv] : List Env)).filterMap (·.frame) = [L, LL] := by
    simp [List.filterMap, hlf, show (envOf name scope L a cd).frame = some L from rfl]
  rw [hfs] at hs₁
  have same : ∀ b, b ≠ L → b ≠ LL → h₁.get? b = s.heap.get? b := fun b hb hb' => hs₁.2.1 b (by simp [hb, hb'])
  have he₁ : h₁.get? e = some oe := (same e heL heLL).trans he
  refine wpAny_setField (Heap.get?_push_of_some (h := h₁) _ he₁) hd hsz ?_
  have hTe : h₁.objs.size ≠ e := Nat.ne_of_gt (Heap.lt_size he₁)
  have old : ∀ b, s.heap.get? b ≠ none → b ≠ h₁.objs.size := fun b hb q => by
    cases hq : s.heap.get? b with
    | none => exact hb hq
    | some o =>
      obtain ⟨sl, h9⟩ := hs₁.2.2 b o hq
      exact absurd (Heap.lt_size h9) (by rw [q]; exact Nat.lt_irrefl _)
  have up : ∀ b o, b ≠ e → h₁.get? b = some o → ((h₁.push { cls := .type "traceback", dict := none, data := .fields ([Value.none, .ref L, .none, rawInt L, .none] ++ (if pl.isEmpty then List.replicate 6 Value.none else pl)).toArray }).update e (Obj.mapFields (·.setIfInBounds 1 (Value.ref h₁.objs.size)))).get? b = some o := fun b o hb ho =>
    (Heap.get?_update_ne _ _ _ _ hb).trans (Heap.get?_push_of_some _ ho)
  obtain ⟨slL, hLL₁⟩ := hs₁.2.2 LL oL hL
  obtain ⟨oM, esM, epM, hM, hMd, hMk, hMf⟩ := F.ns
  obtain ⟨slM, hM₁⟩ := hs₁.2.2 L oM hM
  have hd₃ := Obj.data_mapFields hd (·.setIfInBounds 1 (Value.ref h₁.objs.size))
  refine k _ h₁.objs.size (oe.mapFields (·.setIfInBounds 1 (Value.ref h₁.objs.size))) ({ cls := .type "traceback", dict := none, data := .fields ([Value.none, .ref L, .none, rawInt L, .none] ++ (if pl.isEmpty then List.replicate 6 Value.none else pl)).toArray } : Obj) slL ⟨⟨_, esM, epM, up _ _ (Ne.symm heL) hM₁, hMd, hMk, hMf⟩, fun b o hb => ?_, F.above⟩ ?_ ⟨(cls_mapFields _ _).trans hcls, ⟨_, hd₃, ?_, ?_⟩, ⟨_, rfl, ?_⟩⟩ hTe ?_
  · have hbe : b ≠ e := fun q => by rw [q] at hb; rw [show h₀.get? e = none from he0] at hb; cases hb
    have hbL : b ≠ L := Nat.ne_of_lt (Nat.lt_of_lt_of_le (Heap.lt_size hb) F.above)
    have hbLL : b ≠ LL := fun q => by rw [q] at hb; rw [show h₀.get? LL = none from hL0] at hb; cases hb
    exact up _ _ hbe ((same b hbL hbLL).trans (F.keep b o hb))
  · intro p hp
    rcases List.mem_cons.mp hp with rfl | hp
    · exact ⟨Heap.get?_update_self _ (Heap.get?_push_of_some _ he₁) (Obj.isFreed_of_fields hd₃), heL, he0⟩
    · rcases List.mem_cons.mp hp with rfl | hp
      · refine ⟨(Heap.get?_update_ne _ _ _ _ hTe).trans (Heap.get?_push_size h₁ rfl), (old L (by rw [hM]; simp)).symm, ?_⟩
        cases hq : h₀.get? h₁.objs.size with
        | none => rfl
        | some o => exact absurd rfl (old _ (by rw [F.keep _ _ hq]; simp))
      · rcases List.mem_cons.mp hp with rfl | hp
        · exact ⟨up _ _ (Ne.symm heLL) hLL₁, hLL, hL0⟩
        · obtain ⟨q1, q2, q3⟩ := N p (.tail _ (.tail _ hp))
          exact ⟨up _ _ (hee p (.tail _ hp)) ((same p.1 q2 (hne p hp)).trans q1), q2, q3⟩
  · simp [hsz]
  · rw [Array.getElem?_setIfInBounds_ne (by decide)]; exact h2
  · simp
  · intro p hp
    rcases List.mem_cons.mp hp with rfl | hp
    · exact old LL (by rw [show s.heap.get? LL = some oL from hL]; simp)
    · exact old _ (by rw [(N p (.tail _ (.tail _ hp))).1]; simp)
theorem note_again {Q : Unit → Shared → Prop} (N : News h₀ L s.heap ((e, oe) :: (T, oT) :: news)) (X0 : ExcAt T X oe oT c (rawInt L)) (k : Q () s) :
    wpAny (model prog w) A (noteFrame (.ref e) (envOf name scope L a cd)) Q E s := by
  obtain ⟨_, ⟨vs, hd, h1, _⟩, ⟨tvs, htd, h3⟩⟩ := X0
  exact wpAny_noteFrame_inFlight rfl (N _ (.head _)).1 hd h1 (N _ (.tail _ (.head _))).1 htd h3 k
theorem flight_set {M : Model} {Q : Unit → Shared → Prop} {fr : Option Addr} (F : Fr h₀ L s.heap m) (N : News h₀ L s.heap ((e, oe) :: (T, oT) :: news)) (X0 : ExcAt T X oe oT c fl) (hTe : T ≠ e) (hT : ∀ p ∈ news, p.1 ≠ T)
    (k : ∀ h' oT', Fr h₀ L h' m → News h₀ L h' ((e, oe) :: (T, oT') :: news) → ExcAt T X oe oT' c (fr.elim .none fun f => rawInt f) → Q () { s with heap := h' }) : wpAny M A (setFlight (.ref e) fr) Q E s := by
  obtain ⟨hcls, ⟨vs, hd, h1, h2⟩, ⟨tvs, htd, h3⟩⟩ := X0
  obtain ⟨he, heL, he0⟩ := N _ (.head _)
  obtain ⟨ht, htL, ht0⟩ := N _ (.tail _ (.head _))
  have hsz : 3 < tvs.size := (Array.getElem?_eq_some_iff.mp h3).1
  have hd₃ := Obj.data_mapFields htd (·.setIfInBounds 3 (fr.elim .none fun f => rawInt f))
  unfold setFlight
  refine wpAny_bind (wpAny_field he hd h1 ?_)
  rw [if_pos (show (Value.ref T != Value.none) = true from by simp)]
  obtain ⟨oM, esM, epM, hM, hMd, hMk, hMf⟩ := F.ns
  refine wpAny_setField ht htd hsz (k _ _ ⟨⟨oM, esM, epM, (Heap.get?_update_ne _ _ _ _ (Ne.symm htL)).trans hM, hMd, hMk, hMf⟩, fun b o hb => ?_, F.above⟩ ?_ ⟨hcls, ⟨vs, hd, h1, h2⟩, ⟨_, hd₃, by simp [hsz]⟩⟩)
  · exact (Heap.get?_update_ne _ _ _ _ (fun q => by rw [q] at hb; rw [show h₀.get? T = none from ht0] at hb; cases hb)).trans (F.keep b o hb)
  · intro p hp
    rcases List.mem_cons.mp hp with rfl | hp
    · exact ⟨(Heap.get?_update_ne _ _ _ _ (Ne.symm hTe)).trans he, heL, he0⟩
    · rcases List.mem_cons.mp hp with rfl | hp
      · exact ⟨Heap.get?_update_self _ ht (Obj.isFreed_of_fields hd₃), htL, ht0⟩
      · exact ⟨(Heap.get?_update_ne _ _ _ _ (hT p hp)).trans (N p (.tail _ (.tail _ hp))).1, (N p (.tail _ (.tail _ hp))).2⟩
theorem held_of (F : Fr h₀ L h m) (N : News h₀ L h ((e, oe) :: (T, oT) :: news)) (X0 : ExcAt T X oe oT c fl) (hTe : T ≠ e) (hT : ∀ p ∈ news, p.1 ≠ T) : TT.HeldNA h₀ L h m e X news fl := by
  obtain ⟨hcls, ⟨vs, hd, h1, h2⟩, ⟨tvs, htd, h3⟩⟩ := X0
  obtain ⟨he, heL, he0⟩ := N _ (.head _)
  obtain ⟨ht, htL, ht0⟩ := N _ (.tail _ (.head _))
  refine ⟨⟨F, ⟨oe, vs, T, oT, tvs, he, hcls, hd, h1, ht, htd, h3, htL, hTe, ht0⟩, he0⟩, fun p hp => N p (.tail _ (.tail _ hp)), ?_⟩
  intro ob ws tb e1 e2 e3 p hp
  rw [show h.get? e = some oe from he] at e1
  obtain rfl := Option.some.inj e1
  rw [hd] at e2
  injection e2 with e2
  subst e2
  rw [h1] at e3
  injection e3 with e3
  injection e3 with e3
  exact e3 ▸ hT p hp
theorem pass_on {α : Type} {M : Model} {Q : α → Shared → Prop} {what : String} (F : Fr h₀ L s.heap m) (N : News h₀ L s.heap ((e, oe) :: (T, oT) :: news)) (X0 : ExcAt T X oe oT c fl) (hTe : T ≠ e) (hT : ∀ p ∈ news, p.1 ≠ T)
    (k : ∀ h' oT', Fr h₀ L h' m → News h₀ L h' ((e, oe) :: (T, oT') :: news) → ExcAt T X oe oT' c (rawInt L) → E (.ref e) { s with heap := h' }) : wpAny M A (PySem.passOn (α := α) what (.ref e) (envOf name scope L a cd)) Q E s := by
  obtain ⟨vs, hd, h1, h2⟩ := X0.data
  unfold PySem.passOn
  refine wpAny_bind (wpAny_field (N _ (.head _)).1 hd h1 ?_)
  rw [if_neg (by simp)]
  exact wpAny_bind (flight_set F N X0 hTe hT fun h' oT' F' N' X' => wpAny_throw (k h' oT' F' N' X'))
theorem came_back {M : Model} (F : Fr h₀ L s.heap m) (N : News h₀ L s.heap ((e, oe) :: (T, oT) :: news)) (X0 : ExcAt T X oe oT c fl) (hTe : T ≠ e) (hT : ∀ p ∈ news, p.1 ≠ T)
    (k : ∀ h' oT', Fr h₀ L h' m → News h₀ L h' ((e, oe) :: (T, oT') :: news) → ExcAt T X oe oT' c (rawInt L) → E (.ref e) { s with heap := h' }) : cameBackBy M A (envOf name scope L a cd) E (.ref e) s := by
  obtain ⟨vs, hd, h1, h2⟩ := X0.data
  unfold cameBackBy
  refine wpAny_bind (wpAny_field (N _ (.head _)).1 hd h1 ?_)
  rw [if_neg (by simp)]
  exact flight_set F N X0 hTe hT fun h' oT' F' N' X' => k h' oT' F' N' X'
/-- an exception on its way, new or noted -/
inductive XSt (h₀ : Heap) (L : Addr) (h : Heap) (e LL : Addr) (oL : Obj) (X : String) (news : List (Addr × Obj)) : Prop
  | fresh (oe : Obj) (c : Value) : News h₀ L h ((e, oe) :: (LL, oL) :: news) → ExcNew X oe c → (∀ p ∈ (LL, oL) :: news, p.1 ≠ e) → XSt h₀ L h e LL oL X news
  | noted (oe T oT sl) (c : Value) : News h₀ L h ((e, oe) :: (T, oT) :: (LL, { oL with slots := sl }) :: news) → ExcAt T X oe oT c (rawInt L) → T ≠ e → (∀ p ∈ (LL, { oL with slots := sl }) :: news, p.1 ≠ T) → XSt h₀ L h e LL oL X news
theorem note_any {Q : Unit → Shared → Prop} (hfr : A.frames = some [envOf name scope L a cd, lenv]) (hlk : lenv.scope.kind ≠ .module) (hlf : lenv.frame = some LL) (hLd : ∃ es ep, oL.data = .dict es ep)
    (F : Fr h₀ L s.heap m) (hX : XSt h₀ L s.heap e LL oL X news) (hne : ∀ p ∈ news, p.1 ≠ LL)
    (k : ∀ h' T oe' oT sl c, Fr h₀ L h' m → News h₀ L h' ((e, oe') :: (T, oT) :: (LL, { oL with slots := sl }) :: news) → ExcAt T X oe' oT c (rawInt L) → T ≠ e → (∀ p ∈ (LL, { oL with slots := sl }) :: news, p.1 ≠ T) → Q () { s with heap := h' }) (hk : scope.kind = .function := by rfl) :
    wpAny (model prog w) A (noteFrame (.ref e) (envOf name scope L a cd)) Q E s := by
  cases hX with
  | fresh oe c N X0 hee => exact note_fresh hfr hlf hlk F N hLd hee X0 hk hne (fun h' T oe' oT sl => k h' T oe' oT sl c)
  | noted oe T oT sl c N X0 hT hne' => exact note_again N X0 (k s.heap T oe oT sl c F N X0 hT hne')
/-- a new exception stands in the ledger -/
theorem new_exc {h' : Heap} (F : Fr h₀ L h m) (N : News h₀ L h news) (x : Heap.NewExc h h' e X) : ∃ oe, Fr h₀ L h' m ∧ News h₀ L h' ((e, oe) :: news) ∧ ExcNew X oe .none ∧ ∀ p ∈ news, p.1 ≠ e := by
  obtain ⟨hk, hn, oe, t, he, hc, hd⟩ := x
  obtain ⟨oM, esM, epM, hM, hMd, hMk, hMf⟩ := F.ns
  refine ⟨oe, ⟨⟨oM, esM, epM, hk _ _ hM, hMd, hMk, hMf⟩, fun b o hb => hk _ _ (F.keep b o hb), F.above⟩, fun p hp => ?_, ⟨hc, _, hd, rfl, rfl⟩, fun p hp q => ?_⟩
  · rcases List.mem_cons.mp hp with rfl | hp
    · refine ⟨he, (fun q => by rw [show e = L from q, hM] at hn; cases hn), ?_⟩
      cases hq : h₀.get? e with
      | none => rfl
      | some o => rw [F.keep _ _ hq] at hn; cases hn
    · exact ⟨hk _ _ (N p hp).1, (N p hp).2⟩
  · have := (N p hp).1
    rw [q, hn] at this
    cases this
theorem entry_unchain : entryFor table "proto.unchain" = some Builtin.«proto.unchain» := entryFor_of_tree (by kernel_rfl)
/-- an exception raised while e₁, which has no context, is handled: e₁ is its context -/
theorem raise_marked {α : Type} {Q : α → Shared → Prop} {msg : String} {e₁ : Addr} {o₁ : Obj} (hp : PlainExc X) (hh : A.handled = some (.ref e₁)) (h1 : s.heap.get? e₁ = some o₁) (hd1 : ∃ vs, o₁.data = .fields vs ∧ vs[2]? = some .none)
    (k : ∀ h' tk e oe, (∀ b o, s.heap.get? b = some o → h'.get? b = some o) → s.heap.get? e = none → h'.get? e = some oe → ExcNew X oe (.ref e₁) → E (.ref e) { s with heap := h', toks := tk }) :
    wpAny (model prog w) A (raiseErrorWords X msg : Sem α) Q E s := by
  unfold raiseErrorWords
  refine wpAny_bind (wpAny_mkText (wpAny_bind ?_))
  unfold newExc newTuple
  refine wpAny_bind (wpAny_newObj_type ?_)
  refine wpAny_bind (m := firstArgMember _ _) (wpAny_of_eq (a := Value.none) (by simp only [firstArgMember, hp.first]; rfl) ?_)
  rw [hp.own]
  refine wpAny_newObj_type ?_
  unfold raiseNew
  refine wpAny_bind (wpAny_handled ?_)
  rw [hh]
  obtain ⟨vs, hd1, h2⟩ := hd1
  have q1 : s.heap.objs.size ≠ e₁ := Nat.ne_of_gt (Heap.lt_size h1)
  have q2 : s.heap.objs.size + 1 ≠ e₁ := Nat.ne_of_gt (Nat.lt_succ_of_lt (Heap.lt_size h1))
  simp only []
  rw [if_pos (by simpa using fun q => q2 q.symm)]
  refine wpAny_bind (wpAny_holding (wpAny_runValue (codeAny_builtin entry_unchain ?_)))
  have up : ∀ o o' b x, s.heap.get? b = some x → ((s.heap.push o).push o').get? b = some x := fun o o' b x hb => Heap.get?_push_of_some _ (Heap.get?_push_of_some _ hb)
  refine wpAny_bind (wpAny_field (up _ _ _ _ h1) hd1 h2 ?_)
  rw [if_pos (by decide)]
  refine wpAny_bind (wpAny_pure (wpAny_pure ?_))
  show wpAny _ _ (updateField _ 2 (Value.ref e₁) >>= _) _ _ _
  refine wpAny_bind ?_
  show wpAny _ _ (setField (Value.ref _) 2 (Value.ref e₁)) _ _ _
  have hself : ∀ (o o' : Obj), o'.isFreed = false → ((s.heap.push o).push o').get? (s.heap.push o).objs.size = some o' := fun o o' hf => Heap.get?_push_size _ hf
  refine wpAny_setField (hself _ _ rfl) rfl (by simp) (wpAny_throw (k _ _ _ _ (fun b o hb => ?_) (Heap.get?_none_of_le (by simp)) (Heap.get?_update_self _ (hself _ _ rfl) rfl) ⟨rfl, _, rfl, rfl, rfl⟩))
  refine (Heap.get?_update_ne _ _ _ _ ?_).trans (up _ _ _ _ hb)
  have := Heap.lt_size hb
  intro q
  rw [q] at this
  simp at this
  exact absurd this (Nat.not_lt_of_le (Nat.le_succ _))
/-- an item out of range while e₁ is handled -/
theorem item_out_marked {value slice : Expr} {l e₁ : Addr} {vs : Array Value} {k : Int} {u : Tok} {o₁ : Obj} {Q : Value → Shared → Prop} (hl : s.heap.IsList l vs) (h0 : (vs.size : Int) ≤ k) (hk : k < 2 ^ 63)
    (hh : A.handled = some (.ref e₁)) (h1 : s.heap.get? e₁ = some o₁) (hd1 : ∃ vs, o₁.data = .fields vs ∧ vs[2]? = some .none)
    (kE : ∀ h' tk e oe, (∀ b o, s.heap.get? b = some o → h'.get? b = some o) → s.heap.get? e = none → h'.get? e = some oe → ExcNew "IndexError" oe (.ref e₁) → E (.ref e) { s with heap := h', toks := tk })
    (hs : subscripted slice false (.ref l) (.int k u) = operate [.ref l, .int k u] (getItem (.ref l) (.int k u)) := by with_unfolding_all rfl) (hg : ∀ r, letTemporaryGo value (.ref l) r = pure () := by intro _; with_unfolding_all rfl) :
    wpAny (model prog w) A (subscriptTail value slice (.ref l) (.int k u)) Q E s := by
  obtain ⟨o, ho, hc, ne, hd⟩ := id hl
  refine subscriptTail_builtin hl.typeIs slot_list_getitem.lookup ?_ hs hg
  unfold getItem
  try with_reducible refine wpAny_holding ?_
  first | refine wpAny_bind (wpAny_pure ?_) | skip
  refine wpAny_bind (wpAny_sequenceKey hl.typeIs (by decide) ?_)
  refine wpAny_bind (wpAny_callSpecial?_slot (name := Str.ofString "__getitem__") hl.typeIs slot_list_getitem
    (wpAny_call_entry slot_list_getitem hl.typeIs entry_list_getitem ?_ (args_list_getitem _ _)))
  show wpAny _ _ (Builtin.List.listSubscript? (.int k u) >>= _) _ _ s
  refine wpAny_bind (wpAny_listSubscript_int (fitsIndex_both (by omega) hk) ?_)
  obtain ⟨j, rfl⟩ := Int.eq_ofNat_of_zero_le (show 0 ≤ k by omega)
  have hx : vs[j]? = none := Array.getElem?_eq_none (by omega)
  show wpAny _ _ ((seqItemAt l j >>= fun r => pure (r.map (j, ·))) >>= _) _ _ s
  refine wpAny_bind (wpAny_bind (wpAny_seqItemAt ho hd (wpAny_pure ?_)))
  rw [hx]
  first
    | exact wpAny_bind (wpAny_rule (raise_marked plainExc_IndexError hh h1 hd1 kE))
    | exact wpAny_bind (wpAny_rule (wpAny_bind (raise_marked plainExc_IndexError hh h1 hd1 kE)))
    | exact wpAny_bind (wpAny_bind (wpAny_rule (raise_marked plainExc_IndexError hh h1 hd1 kE)))
    | exact wpAny_rule (raise_marked plainExc_IndexError hh h1 hd1 kE)
end
end
section
noncomputable def LtS (a b : Str) : Prop := a.cps.toList < b.cps.toList
theorem LtS.irrefl (a : Str) : ¬ LtS a a := List.lt_irrefl _
theorem LtS.trans {a b c : Str} (h : LtS a b) (h' : LtS b c) : LtS a c := List.lt_trans h h'
theorem LtS.ne {a b : Str} (h : LtS a b) : a ≠ b := fun q => LtS.irrefl b (q ▸ h)
theorem LtS.eq_of {a b : Str} (h : ¬ LtS a b) (h' : ¬ LtS b a) : a = b := by
  have e : a.cps.toList = b.cps.toList := List.le_antisymm (Std.not_lt.mp h') (Std.not_lt.mp h)
  obtain ⟨x⟩ := a
  obtain ⟨y⟩ := b
  simp only [Array.toList_inj] at e
  rw [e]
noncomputable def AtI (ss : List Str) (k : Int) (x : Str) : Prop := 0 ≤ k ∧ ss[k.toNat]? = some x
noncomputable def OutI (ss : List Str) (k : Int) : Prop := (ss.length : Int) ≤ k ∧ k ≤ 1000
/-- what stands at a place: a text, or nothing -/
inductive ItI (ss : List Str) (k : Int) : Option Str → Prop
  | inn {x : Str} (h : AtI ss k x) : ItI ss k (some x)
  | out (h : OutI ss k) : ItI ss k none
theorem ItI.in0 {ss : List Str} {i : Nat} (h : i < ss.length) : ItI ss i (some ss[i]) := .inn ⟨Int.natCast_nonneg i, List.getElem?_eq_getElem h⟩
theorem ItI.in1 {ss : List Str} {i : Nat} (h : i + 1 < ss.length) : ItI ss ((i : Int) + 1) (some ss[i + 1]) := .inn ⟨Int.natCast_nonneg (i + 1), List.getElem?_eq_getElem h⟩
theorem ItI.out0 {ss : List Str} {i : Nat} (h : ¬ i < ss.length) (g : i ≤ 1000) : ItI ss i none := .out ⟨Int.ofNat_le.mpr (Nat.not_lt.mp h), Int.ofNat_le.mpr g⟩
theorem ItI.out1 {ss : List Str} {i : Nat} (h : ¬ i + 1 < ss.length) (g : i + 1 ≤ 1000) : ItI ss ((i : Int) + 1) none := .out ⟨Int.ofNat_le.mpr (Nat.not_lt.mp h), Int.ofNat_le.mpr g⟩
theorem ItI.at {ss : List Str} {i : Nat} {x : Str} (h : ItI ss i (some x)) : ss[i]? = some x := by
  cases h with
  | inn h => simpa using h.2
theorem ItI.at1 {ss : List Str} {i : Nat} {x : Str} (h : ItI ss ((i : Int) + 1) (some x)) : ss[i + 1]? = some x := by
  cases h with
  | inn h => simpa using h.2
theorem ItI.len {ss : List Str} {i : Nat} (h : ItI ss i none) : ss.length ≤ i := by
  cases h with
  | out h => have := h.1; omega
noncomputable def SortedL (ss : List Str) : Prop := ss.Pairwise LtS
theorem SortedL.next {ss : List Str} {i : Nat} {x y : Str} (h : SortedL ss) (hx : ss[i]? = some x) (hy : ss[i + 1]? = some y) : LtS x y := by
  obtain ⟨h1, rfl⟩ := List.getElem?_eq_some_iff.mp hx
  obtain ⟨h2, rfl⟩ := List.getElem?_eq_some_iff.mp hy
  exact List.pairwise_iff_getElem.mp h _ _ _ _ (Nat.lt_succ_self i)
theorem SortedL.next_ne {ss : List Str} {i : Nat} {x y : Str} (h : SortedL ss) (hx : ItI ss i (some x)) (hy : ItI ss ((i : Int) + 1) (some y)) : y ≠ x := (h.next hx.at hy.at1).ne.symm
theorem drop_at {ss : List Str} {i : Nat} {x : Str} (hx : ss[i]? = some x) : ss.drop i = x :: ss.drop (i + 1) := by
  obtain ⟨h1, rfl⟩ := List.getElem?_eq_some_iff.mp hx
  exact List.drop_eq_getElem_cons h1
theorem SortedL.behind {ss : List Str} {i : Nat} {x y : Str} (h : SortedL ss) (hx : ss[i]? = some x) (hy : y ∈ ss.drop (i + 1)) : LtS x y := by
  have h1 : (ss.drop i).Pairwise LtS := List.Pairwise.sublist (List.drop_sublist _ _) h
  rw [drop_at hx] at h1
  exact List.rel_of_pairwise_cons h1 hy
theorem take_at {ss : List Str} {i : Nat} {x : Str} (hx : ss[i]? = some x) : ss.take (i + 1) = ss.take i ++ [x] := by
  rw [List.take_add_one, hx]; rfl
/-- those of a that b lacks -/
noncomputable def lackF (b a : List Str) : List Str := a.filter fun x => !b.contains x
theorem lackF_app (b a a' : List Str) : lackF b (a ++ a') = lackF b a ++ lackF b a' := List.filter_append ..
theorem lackF_all {b a : List Str} (h : ∀ x ∈ a, x ∉ b) : lackF b a = a := by
  unfold lackF
  rw [List.filter_eq_self]
  intro x hx
  simp [h x hx]
theorem lackF_one {b : List Str} {x : Str} (h : x ∉ b) : lackF b [x] = [x] := lackF_all (by simpa using h)
theorem lackF_one' {b : List Str} {x : Str} (h : x ∈ b) : lackF b [x] = [] := by simp [lackF, h]
/-- how far the two lists have been read, and what was told -/
structure SldI (ss1 ss2 : List Str) (i j : Nat) (sm sx : List Str) : Prop where
  li : i ≤ ss1.length
  lj : j ≤ ss2.length
  em : sm = lackF ss2 (ss1.take i)
  ex : sx = lackF ss1 (ss2.take j)
  o1 : ∀ x ∈ ss1.take i, ∀ y ∈ ss2.drop j, LtS x y
  o2 : ∀ y ∈ ss2.take j, ∀ x ∈ ss1.drop i, LtS y x
theorem SldI.lm {ss1 ss2 : List Str} {i j : Nat} {sm sx : List Str} (h : SldI ss1 ss2 i j sm sx) : sm.length ≤ i := by
  rw [h.em]; exact Nat.le_trans (List.length_filter_le _ _) (by simp; omega)
theorem SldI.lx {ss1 ss2 : List Str} {i j : Nat} {sm sx : List Str} (h : SldI ss1 ss2 i j sm sx) : sx.length ≤ j := by
  rw [h.ex]; exact Nat.le_trans (List.length_filter_le _ _) (by simp; omega)
theorem SldI.start (ss1 ss2 : List Str) : SldI ss1 ss2 0 0 [] [] := ⟨Nat.zero_le _, Nat.zero_le _, rfl, rfl, by simp, by simp⟩
theorem mem_split {ss : List Str} {j : Nat} {y x : Str} (h : x ∈ ss) (hy : ss[j]? = some y) : x ∈ ss.take j ∨ x = y ∨ x ∈ ss.drop (j + 1) := by
  rw [← List.take_append_drop j ss, drop_at hy] at h
  simp only [List.mem_append, List.mem_cons] at h
  exact h
theorem drop_sub {ss : List Str} {i : Nat} {x : Str} (h : x ∈ ss.drop (i + 1)) : x ∈ ss.drop i := by
  rw [← List.drop_drop] at h
  exact List.mem_of_mem_drop h
theorem mem_drop_at {ss : List Str} {i : Nat} {x : Str} (hx : ss[i]? = some x) : x ∈ ss.drop i := by rw [drop_at hx]; exact .head _
section
variable {ss1 ss2 : List Str} {i j : Nat} {sm sx : List Str} {x y : Str}
theorem SldI.swap (h : SldI ss1 ss2 i j sm sx) : SldI ss2 ss1 j i sx sm := ⟨h.lj, h.li, h.ex, h.em, h.o2, h.o1⟩
theorem SldI.less (h2 : SortedL ss2) (hI : SldI ss1 ss2 i j sm sx) (hx : ss1[i]? = some x) (hy : ss2[j]? = some y) (hlt : LtS x y) : SldI ss1 ss2 (i + 1) j (sm ++ [x]) sx := by
  have hn : x ∉ ss2 := by
    intro hm
    rcases mem_split hm hy with h | h | h
    · exact LtS.irrefl _ (hI.o2 x h x (mem_drop_at hx))
    · exact hlt.ne h
    · exact LtS.irrefl _ (hlt.trans (h2.behind hy h))
  refine ⟨(List.getElem?_eq_some_iff.mp hx).1, hI.lj, ?_, hI.ex, ?_, fun z hz w hw => hI.o2 z hz w (drop_sub hw)⟩
  · rw [take_at hx, lackF_app, lackF_one hn, ← hI.em]
  · intro z hz w hw
    rw [take_at hx] at hz
    rcases List.mem_append.mp hz with hz | hz
    · exact hI.o1 z hz w hw
    · rw [List.mem_singleton.mp hz]
      rw [drop_at hy] at hw
      rcases List.mem_cons.mp hw with rfl | hw
      · exact hlt
      · exact hlt.trans (h2.behind hy hw)
theorem SldI.greater (h1 : SortedL ss1) (hI : SldI ss1 ss2 i j sm sx) (hx : ss1[i]? = some x) (hy : ss2[j]? = some y) (hlt : LtS y x) : SldI ss1 ss2 i (j + 1) sm (sx ++ [y]) :=
  (hI.swap.less h1 hy hx hlt).swap
theorem SldI.equal (h1 : SortedL ss1) (h2 : SortedL ss2) (hI : SldI ss1 ss2 i j sm sx) (hx : ss1[i]? = some x) (hy : ss2[j]? = some x) : SldI ss1 ss2 (i + 1) (j + 1) sm sx := by
  refine ⟨(List.getElem?_eq_some_iff.mp hx).1, (List.getElem?_eq_some_iff.mp hy).1, ?_, ?_, ?_, ?_⟩
  · rw [take_at hx, lackF_app, lackF_one' (List.mem_of_getElem? hy), ← hI.em, List.append_nil]
  · rw [take_at hy, lackF_app, lackF_one' (List.mem_of_getElem? hx), ← hI.ex, List.append_nil]
  · intro z hz w hw
    rw [take_at hx] at hz
    rcases List.mem_append.mp hz with hz | hz
    · exact hI.o1 z hz w (drop_sub hw)
    · rw [List.mem_singleton.mp hz]; exact h2.behind hy hw
  · intro z hz w hw
    rw [take_at hy] at hz
    rcases List.mem_append.mp hz with hz | hz
    · exact hI.o2 z hz w (drop_sub hw)
    · rw [List.mem_singleton.mp hz]; exact h1.behind hx hw
theorem SldI.fin1 (hI : SldI ss1 ss2 i j sm sx) (h : ss1.length ≤ i) : sm ++ ss1.drop i = lackF ss2 ss1 ∧ sx ++ ss2.drop j = lackF ss1 ss2 := by
  have ht : ss1.take i = ss1 := List.take_of_length_le h
  refine ⟨?_, ?_⟩
  · rw [List.drop_of_length_le h, List.append_nil, hI.em, ht]
  · have hd : lackF ss1 (ss2.drop j) = ss2.drop j := lackF_all fun y hy hm => LtS.irrefl y (hI.o1 y (ht.symm ▸ hm) y hy)
    rw [hI.ex, ← hd, ← lackF_app, List.take_append_drop]
theorem SldI.fin2 (hI : SldI ss1 ss2 i j sm sx) (h : ss2.length ≤ j) : sm ++ ss1.drop i = lackF ss2 ss1 ∧ sx ++ ss2.drop j = lackF ss1 ss2 := (hI.swap.fin1 h).symm
end
end
section
section
open PySem.Calls
variable {prog : Program} {w : World} {A : Around} {E : Value → Shared → Prop} {s : Shared} {h₀ : Heap} {L a : Addr} {m : Str → Option Value} {news : List (Addr × Obj)} {K : Frag} {p : Program} {loose : List Str} {mean : ExcName → Option Value} {mg mb : Str → Option Value}
/-- enter a def from the bottom frame, whose dict stands in the ledger meanwhile: an exception may be noted there -/
theorem code_defT {env : Env} {R : Result → Shared → Prop} {name qual : Str} {params : Arguments} {body : List Stmt} {scope : Scope} {dV kV doc pm cdv ct oc : Value} {an od : Option Addr} {osl : Array (Option Value)} {f : Addr} {args : Args} {binds : List (Str × Value)}
    (F : Fr h₀ L s.heap m) (X₀ : K.In h₀) (N : News h₀ L s.heap news) (T : Top p loose mean mg mb h₀) (hA : A.frames = some [env]) (hf : env.frame = some L) (hke : env.scope.kind = .function)
    (ho : K.lookup f = some ⟨oc, od, .func (fnOf name qual params body scope dV kV doc pm an cdv ct), osl⟩) (hcd : codeIn K cdv qual = true) (hroom : A.depth < recursionLimit)
    (hbind : BindsTo s (fnOf name qual params body scope dV kV doc pm an cdv ct) args binds) (hloc : ∀ y ∈ binds, scope.names.lookup y.1 = some .local)
    (h : ∀ oL L' h₁, TI.Caller h₀ L m oL → (∃ es ep, oL.data = .dict es ep) → (∀ p ∈ news, p.1 ≠ L) → Fr h₀ L' h₁ (fun y => binds.reverse.lookup y) → News h₀ L' h₁ ((L, oL) :: news) → (∀ p ∈ news, p.1 < L') → L < L' →
      wpAny (model prog w) (A.deeper (envOf qual scope L' f cdv)) (execs body (envOf qual scope L' f cdv))
        (fun fl s' => R (.ok (.ret (match fl with | .ret v => v | _ => .none))) s')
        (fun e s' => wpAny (model prog w) (A.deeper (envOf qual scope L' f cdv)) (leaving (envOf qual scope L' f cdv) e) (fun _ s'' => R (.error e) s'') (fun e' s'' => R (.error e') s'') s')
        { s with heap := h₁, toks := s.toks + binds.length })
    (hco : scope.isCoroutine = false) (hgen : scope.isGenerator = false) (hk : scope.kind = .function)
    (hcell : ∀ x ∈ scope.names, x.2 ≠ .cell) : codeAny (model prog w) A (.call (.ref f) args) R s := by
  have X := X₀.keeps F.keep
  obtain ⟨oL, es, ep, hL, hLd, hLk, hLf⟩ := F.ns
  have hLt := Heap.lt_size hL
  refine codeAny_call_def (fd := fnOf name qual params body scope dV kV doc pm an cdv ct) (body := body) (binds := binds) hroom (X _ _ ho) rfl (T.nolimit.keeps F.keep) (codeRec_of X hcd) rfl hbind hcell hloc (fun h₁ hns hk₁ => ?_) hco hgen hk
  refine h oL _ h₁ ⟨fun h' sl e => ⟨_, es, ep, e, hLd, hLk, hLf⟩, ⟨es, ep, hLd⟩, F.above⟩ ⟨es, ep, hLd⟩ (fun p hp => (N p hp).2.1)
    ⟨hns, fun b o e => hk₁ b o (F.keep b o e), Nat.le_trans F.above (Nat.le_of_lt hLt)⟩ (fun p hp => ?_) (fun p hp => Heap.lt_size (N p hp).1) hLt
  rcases List.mem_cons.mp hp with rfl | hp
  · exact ⟨hk₁ _ _ hL, Nat.ne_of_lt hLt, Heap.get?_none_of_le F.above⟩
  · exact ⟨hk₁ _ _ (N p hp).1, Nat.ne_of_lt (Heap.lt_size (N p hp).1), (N p hp).2.2⟩
/-- back in the bottom frame: its dict has at most other slots -/
theorem back_t {L' : Addr} {h : Heap} {m' : Str → Option Value} {oL : Obj} {sl : Array (Option Value)} (C : TI.Caller h₀ L m oL) (F' : Fr h₀ L' h m') (N' : News h₀ L' h ((L, { oL with slots := sl }) :: news)) (hne : ∀ p ∈ news, p.1 ≠ L) :
    Fr h₀ L h m ∧ News h₀ L h news := by
  have hL := (N' _ (.head _)).1
  exact ⟨⟨C.ns _ sl hL, F'.keep, C.above⟩, fun p hp => ⟨(N' p (.tail _ hp)).1, hne p hp, (N' p (.tail _ hp)).2.2⟩⟩
theorem while_none {env : Env} {test : Expr} {body : List Stmt} {pos : Pos} {Q : Flow → Shared → Prop}
    (h : wpAny (model prog w) A (isTrue test env (eval test env)) (fun b s₂ => b = false ∧ Q .next s₂) E s) (hE : PassesOwn (model prog w) A env E := by passes_own) :
    wpAny (model prog w) A (exec (.While test body [] pos) env) Q E s := by
  refine wpAny_While (codeAny_whileLoop (fun _ s' => s' = s) ?_ 0 rfl)
  rintro n s' rfl
  refine wpAny_mono h (fun b s₂ h₂ => ?_) hE
  obtain ⟨rfl, h₂⟩ := h₂
  exact wpAny_execs_nil h₂
end
section
open PySem.Calls
variable {prog : Program} {w : World} {A : Around} {E : Value → Shared → Prop} {s : Shared} {h₀ : Heap} {L l : Addr} {m : Str → Option Value} {news : List (Addr × Obj)} {vs : List Value} {ss : List Str} {n : Nat} {k : Int} {u : Tok} {value slice : PySem.Expr} {Q : Value → Shared → Prop}
theorem item_in {x : Str} (N : News h₀ L s.heap news) (hm : (l, PySem.W.listOf vs.toArray n) ∈ news) (hw : StrsAre vs ss) (hx : AtI ss k x) (hn : vs.length ≤ 1000) (h : ∀ t', Q (.str x t') s)
    (hs : subscripted slice false (.ref l) (.int k u) = operate [.ref l, .int k u] (getItem (.ref l) (.int k u)) := by with_unfolding_all rfl) :
    wpAny (model prog w) A (subscriptTail value slice (.ref l) (.int k u)) Q E s := by
  have hl : s.heap.IsList l vs.toArray := ⟨_, (N _ hm).1, rfl, n, rfl⟩
  obtain ⟨t', e⟩ := hw.get k.toNat x hx.2
  have hlt : k.toNat < ss.length := (List.getElem?_eq_some_iff.mp hx.2).1
  have h0 := hx.1
  have hlen := hw.length
  exact tail_any hl.typeIs slot_list_getitem.lookup (wpAny_getItem_list hl h0 (by omega) (x := .str _ t') (by simpa using e) (h t')) hs
theorem item_out (F : Fr h₀ L s.heap m) (N : News h₀ L s.heap news) (hm : (l, PySem.W.listOf vs.toArray n) ∈ news) (hw : StrsAre vs ss) (hx : OutI ss k) (hA : A.handled = none)
    (h : ∀ h' tk oe e, Fr h₀ L h' m → News h₀ L h' ((e, oe) :: news) → ExcNew "IndexError" oe .none → (∀ p ∈ news, p.1 ≠ e) → E (.ref e) { s with heap := h', toks := tk })
    (hs : subscripted slice false (.ref l) (.int k u) = operate [.ref l, .int k u] (getItem (.ref l) (.int k u)) := by with_unfolding_all rfl) (hg : ∀ r, letTemporaryGo value (.ref l) r = pure () := by intro _; with_unfolding_all rfl) :
    wpAny (model prog w) A (subscriptTail value slice (.ref l) (.int k u)) Q E s := by
  have hl : s.heap.IsList l vs.toArray := ⟨_, (N _ hm).1, rfl, n, rfl⟩
  have h0 := hx.1
  have h1 := hx.2
  have hlen := hw.length
  have hsz : vs.toArray.size = vs.length := List.size_toArray ..
  refine subscriptTail_builtin hl.typeIs slot_list_getitem.lookup (wpAny_getItem_list_out hA hl (by rw [hsz]; omega) (by omega) (by omega) fun h' tk e x => ?_) hs hg
  obtain ⟨oe, F', N', X', hne⟩ := new_exc F N x
  exact h h' tk oe e F' N' X' hne
theorem item_out2 {e₁ T₁ : Addr} {o₁ t₁ : Obj} {fl : Value} {X : String} (F : Fr h₀ L s.heap m) (N : News h₀ L s.heap news) (hm : (l, PySem.W.listOf vs.toArray n) ∈ news) (hw : StrsAre vs ss) (hx : OutI ss k) (hh : A.handled = some (.ref e₁)) (he : (e₁, o₁) ∈ news) (X1 : ExcAt T₁ X o₁ t₁ .none fl)
    (h : ∀ h' tk oe e, Fr h₀ L h' m → News h₀ L h' ((e, oe) :: news) → ExcNew "IndexError" oe (.ref e₁) → (∀ p ∈ news, p.1 ≠ e) → E (.ref e) { s with heap := h', toks := tk })
    (hs : subscripted slice false (.ref l) (.int k u) = operate [.ref l, .int k u] (getItem (.ref l) (.int k u)) := by with_unfolding_all rfl) (hg : ∀ r, letTemporaryGo value (.ref l) r = pure () := by intro _; with_unfolding_all rfl) :
    wpAny (model prog w) A (subscriptTail value slice (.ref l) (.int k u)) Q E s := by
  have hl : s.heap.IsList l vs.toArray := ⟨_, (N _ hm).1, rfl, n, rfl⟩
  have h0 := hx.1
  have h1 := hx.2
  have hlen := hw.length
  have hsz : vs.toArray.size = vs.length := List.size_toArray ..
  obtain ⟨ws, hd, _, h2⟩ := X1.data
  refine item_out_marked hl (by rw [hsz]; omega) (by omega) hh (N _ he).1 ⟨ws, hd, h2⟩ (fun h' tk e oe hk hn hg' X' => ?_) hs hg
  obtain ⟨oM, esM, epM, hM, hMd, hMk, hMf⟩ := F.ns
  refine h h' tk oe e ⟨⟨oM, esM, epM, hk _ _ hM, hMd, hMk, hMf⟩, fun b o hb => hk _ _ (F.keep b o hb), F.above⟩ (fun p hp => ?_) X' (fun p hp q => ?_)
  · rcases List.mem_cons.mp hp with rfl | hp
    · refine ⟨hg', (fun q => by rw [show e = L from q, hM] at hn; cases hn), ?_⟩
      cases hq : h₀.get? e with
      | none => rfl
      | some o => rw [F.keep _ _ hq] at hn; cases hn
    · exact ⟨hk _ _ (N p hp).1, (N p hp).2⟩
  · have := (N p hp).1
    rw [q, hn] at this
    cases this
end
section
open PySem.Calls
variable {prog : Program} {w : World} {A : Around} {E : Value → Shared → Prop} {s : Shared} {h₀ : Heap} {L l : Addr} {m : Str → Option Value} {news : List (Addr × Obj)} {vs : List Value} {ss : List Str} {n : Nat} {k : Int} {u : Tok} {value slice : PySem.Expr} {Q : Value → Shared → Prop}
/-- what a new exception has for its context -/
inductive CtxI (news : List (Addr × Obj)) : Option Value → Value → Prop
  | no : CtxI news none .none
  | yes {e₁ T₁ : Addr} {o₁ t₁ : Obj} {fl : Value} {X : String} (he : (e₁, o₁) ∈ news) (X1 : ExcAt T₁ X o₁ t₁ .none fl) : CtxI news (some (.ref e₁)) (.ref e₁)
theorem item_any {r : Option Str} {c : Value} (F : Fr h₀ L s.heap m) (N : News h₀ L s.heap news) (hm : (l, PySem.W.listOf vs.toArray n) ∈ news) (hw : StrsAre vs ss) (hx : ItI ss k r) (hn : vs.length ≤ 1000) (hc : CtxI news A.handled c)
    (h : match r with
      | some x => ∀ t', Q (.str x t') s
      | none => ∀ h' tk oe e, Fr h₀ L h' m → News h₀ L h' ((e, oe) :: news) → ExcNew "IndexError" oe c → (∀ p ∈ news, p.1 ≠ e) → E (.ref e) { s with heap := h', toks := tk })
    (hs : subscripted slice false (.ref l) (.int k u) = operate [.ref l, .int k u] (getItem (.ref l) (.int k u)) := by with_unfolding_all rfl) (hg : ∀ r, letTemporaryGo value (.ref l) r = pure () := by intro _; with_unfolding_all rfl) :
    wpAny (model prog w) A (subscriptTail value slice (.ref l) (.int k u)) Q E s := by
  cases hx with
  | inn hx => exact item_in N hm hw hx hn h hs
  | out hx =>
    generalize hA : A.handled = o at hc
    cases hc with
    | no => exact item_out F N hm hw hx hA h hs hg
    | yes he X1 => exact item_out2 F N hm hw hx hA he X1 h hs hg
end
section
open PySem.Calls
variable {prog : Program} {w : World} {A₀ : Around} {E : Value → Shared → Prop} {s' : Shared} {h₀ : Heap} {L a e : Addr} {m : Str → Option Value} {name : Str} {scope : Scope} {cd : Value} {news : List (Addr × Obj)}
  {b₀ : Stmt} {suite : List Stmt} {pos np : Pos} {rest : List ExceptHandler} {Q : Flow → Shared → Prop} {X : String} {x : Str}
/-- a clause that takes the exception; its class's name is read by hname -/
theorem clause_hitK {fl : Value} (H : TT.HeldNA h₀ L s'.heap m e X news fl)
    (hname : ∀ (Q' : Value → Shared → Prop) (E' : Value → Shared → Prop), Q' (.type x.toString) s' → wpAny (model prog w) ((A₀.deeper (envOf name scope L a cd)).mark (some (.ref e))) (eval (.Name x np) (envOf name scope L a cd)) Q' E' s')
    (k : ∀ h', Fr h₀ L h' m → News h₀ L h' news → wpAny (model prog w) ((A₀.deeper (envOf name scope L a cd)).mark (some (.ref e))) (execs (b₀ :: suite) (envOf name scope L a cd)) Q E { s' with heap := h' })
    (h3 : subB X (.type x.toString) = some true := by decide +kernel) (h1 : subB x.toString (.type "BaseException") = some true := by decide +kernel)
    (h2 : subB ((Manifest.find? x.toString).elim "type" fun y => y.metatype) (.type "tuple") = some false := by decide +kernel)
    (hE : PassesOwnAt (model prog w) ((A₀.deeper (envOf name scope L a cd)).mark (some (.ref e))) (A₀.deeper (envOf name scope L a cd)) (envOf name scope L a cd) E := by passes_own) :
    wpAny (model prog w) (A₀.deeper (envOf name scope L a cd)) (handleBy (.ref e) (envOf name scope L a cd) (.ExceptHandler (some (.Name x np)) none (b₀ :: suite) pos :: rest)) Q E s' := by
  refine wpAny_handleBy_builtin (X := X) (T := x.toString) (b := true) (isSubtype_of_subB h1) (isSubtype_of_subB h2) (isSubtype_of_subB h3) (wpAny_passesOwnAt hE (hname _ _ ⟨rfl, H.isA, ?_⟩))
  rw [if_pos rfl]
  exact H.lands fun h' F' N' => wpAny_passesOwnAt hE (k h' F' N')
end
section
open PySem.Calls
variable {prog : Program} {w : World} {A : Around} {E : Value → Shared → Prop} {s : Shared} {h₀ : Heap} {L D b : Addr} {m : Str → Option Value} {news : List (Addr × Obj)}
/-- list.extend by a new list, empty or not -/
theorem ext_any {ms ws : List Value} {its2 : Array Value} {n n2 : Nat} {nw : Obj → List (Addr × Obj)} {Q : Value → Shared → Prop} (F : Fr h₀ L s.heap m) (N : News h₀ L s.heap news) (hb : (b, PySem.W.listOf its2 n2) ∈ news) (e : its2 = ws.toArray)
    (hU : ∀ o', Upd D (PySem.W.listOf ms.toArray n) o' news (nw o')) (hz : ms.length ≤ 500) (hz2 : ws.length ≤ 500)
    (h : ∀ h' n', Fr h₀ L h' m → News h₀ L h' (nw (PySem.W.listOf (ms ++ ws).toArray n')) → Q .none { s with heap := h' }) : wpAny (model prog w) A (call (.builtin "list.extend") [.ref D, .ref b]) Q E s := by
  subst e
  have hsz := sizeLine_eq
  have hd : ¬(!ms.toArray.isEmpty && Builtin.List.listTooLong (ms.toArray.size + ws.toArray.size)) = true := by
    have : Builtin.List.listTooLong (ms.toArray.size + ws.toArray.size) = false := by
      unfold Builtin.List.listTooLong
      simp only [List.size_toArray, decide_eq_false_iff_not]
      omega
    rw [this]; simp
  have h1 : ms.toArray.toList.length ≤ sizeLine := by simp; omega
  have h2 : ms.toArray.size + ws.toArray.size ≤ sizeLine + 1 := by simp only [List.size_toArray]; omega
  by_cases hw : ws = []
  · subst hw
    exact kxn_extend F N hb rfl (hU _) hd h1 h2 fun h' F' N' => h h' _ F' (by simpa using N')
  · exact kl_extend F N hb rfl (by simpa using hw) (hU _) hd h1 h2 fun h' F' N' => h h' _ F' (by simpa using N')
end
section
open PySem.Calls
variable {prog : Program} {w : World} {A : Around} {E : Value → Shared → Prop} {s : Shared} {h₀ : Heap} {L l : Addr} {m : Str → Option Value} {news : List (Addr × Obj)}
/-- the rest of a list from k on -/
theorem slice_from {vs : List Value} {n : Nat} {k : Int} {t : Tok} {value slice : PySem.Expr} {Q : Value → Shared → Prop} (F : Fr h₀ L s.heap m) (N : News h₀ L s.heap news) (hm : (l, PySem.W.listOf vs.toArray n) ∈ news) (h0 : 0 ≤ k) (h1 : k ≤ (vs.length : Int)) (hn : vs.length ≤ 1000)
    (h : ∀ D h', Fr h₀ L h' m → News h₀ L h' ((D, PySem.W.listOf (vs.drop k.toNat).toArray 0) :: news) → (∀ p ∈ news, p.1 < D) → Q (.ref D) { s with heap := h' })
    (hs : subscripted slice false (.ref l) (.ref s.heap.objs.size) = operate [.ref s.heap.objs.size, .ref l] (getItem (.ref l) (.ref s.heap.objs.size)) := by with_unfolding_all rfl) (ht : ∀ r, letTemporaryGo value (.ref l) r = pure () := by intro _; with_unfolding_all rfl) :
    wpAny (model prog w) A (subscriptTail value slice (.ref l) (.ref s.heap.objs.size)) Q E { s with heap := s.heap.push { cls := .type "slice", data := .fields #[.int k t, .none, .none] } } := by
  have hl : s.heap.IsList l vs.toArray := ⟨_, (N _ hm).1, rfl, n, rfl⟩
  refine kmk_slice F N hl (.int k t) .none (fun D h' F' N' l1 => h D h' F' ?_ l1) hs ht (by rw [List.size_toArray, sizeLine_eq]; omega)
  have e : slicePick vs.toArray (some k) none none = (vs.drop k.toNat).toArray := by
    have q := slicePick_from vs.toArray k.toNat (by rw [List.size_toArray]; omega)
    rw [Int.toNat_of_nonneg h0] at q
    simpa using q
  rw [e] at N'
  exact N'
end
section
open PySem.Calls
variable {prog : Program} {w : World} {A : Around} {E : Value → Shared → Prop} {s : Shared} {h₀ : Heap} {L D : Addr} {m : Str → Option Value} {news : List (Addr × Obj)}
theorem app_any {ms : List Value} {v : Value} {n : Nat} {nw : Obj → List (Addr × Obj)} {Q : Value → Shared → Prop} (F : Fr h₀ L s.heap m) (N : News h₀ L s.heap news)
    (hU : ∀ o', Upd D (PySem.W.listOf ms.toArray n) o' news (nw o')) (hz : ms.length ≤ 500)
    (h : ∀ h' n', Fr h₀ L h' m → News h₀ L h' (nw (PySem.W.listOf (ms ++ [v]).toArray n')) → Q .none { s with heap := h' }) : wpAny (model prog w) A (call (.builtin "list.append") [.ref D, v]) Q E s :=
  append_K F N (hU _) (fun h' F' N' => h h' (n + 1) F' (by simpa using N')) (by rw [List.size_toArray, sizeLine_eq]; omega)
end
end
section
local macro_rules | `(tactic| walk_at "isTrue Compare") => `(tactic| (with_reducible refine wpAny_isTrue_Compare1 ?_))
local macro_rules | `(tactic| walk_at "handleBy") => `(tactic| (refine of_stop ?_))
local macro_rules | `(tactic| walk_at "call builtin:list.extend") => `(tactic| (refine of_stop ?_))
local macro_rules | `(tactic| walk_at "subscriptTail Name Slice ref ref") => `(tactic| (refine of_stop ?_))
local macro_rules | `(tactic| walk_at "exec While") => `(tactic| (refine of_stop ?_))
local macro_rules | `(tactic| walk_at "call builtin:list.append") => `(tactic| (refine of_stopk 1 ?_))
local macro_rules | `(tactic| walk_at "passOn ref") => `(tactic| (refine of_stopk 2 ?_))
local macro_rules | `(tactic| walk_at "loadName") => `(tactic| (k_dflt (refine ldn (by k_asm) (by assumption) ?_)))
local macro_rules | `(tactic| walk_at "exec Try") => `(tactic| (refine of_stop ?_))
local macro_rules | `(tactic| walk_at "eval Name") => `(tactic| (k_here; k_dflt (refine ld (by k_asm) (by assumption) ?_; k_whole)))
local macro_rules | `(tactic| walk_at "subscriptTail Name Name ref int") => `(tactic| (refine of_stopk 3 ?_))
local macro_rules | `(tactic| walk_at "noteFrame ref") => `(tactic| (refine of_stopk 4 ?_))
local macro_rules | `(tactic| k_all) => `(tactic| assumption)
local macro_rules | `(tactic| walk_at "setFlight ref") => `(tactic| (refine of_stopk 5 ?_))
local macro_rules | `(tactic| walk_at "call ref") => `(tactic| (refine of_stop ?_))
theorem strs_drop {vs : List Value} {ss : List Str} (h : StrsAre vs ss) (i : Nat) : StrsAre (vs.drop ((i : Int).toNat)) (ss.drop i) := by
  rw [Int.toNat_natCast]
  induction h generalizing i with
  | nil => simp; exact .nil
  | cons x t h ih =>
    cases i with
    | zero => exact .cons x t h
    | succ i => exact ih i
theorem strs_drop1 {vs : List Value} {ss : List Str} (h : StrsAre vs ss) (i : Nat) : StrsAre (vs.drop (((i : Int) + 1).toNat)) (ss.drop (i + 1)) := strs_drop h (i + 1)
theorem skip_news {h₀ h : Heap} {L : Addr} {a b c : Addr × Obj} {r : List (Addr × Obj)} (N : News h₀ L h (a :: b :: c :: r)) : News h₀ L h (a :: r) := fun p hp => N p (by
  rcases List.mem_cons.mp hp with rfl | hp
  · exact .head _
  · exact .tail _ (.tail _ (.tail _ hp)))
theorem skip_ne {e : Addr} {b c : Addr × Obj} {r : List (Addr × Obj)} (n : ∀ p ∈ b :: c :: r, p.1 ≠ e) : ∀ p ∈ r, p.1 ≠ e := fun p hp => n p (.tail _ (.tail _ hp))
/-- what the names of sorted_list_difference hold all along -/
inductive SM (i j : Nat) (aM aU la lb : Addr) (m : Str → Option Value) : Prop
  | mk (ti tj : Tok) : m (Str.ofString "i") = some (.int (i : Nat) ti) → m (Str.ofString "j") = some (.int (j : Nat) tj) → m (Str.ofString "missing") = some (.ref aM) → m (Str.ofString "unexpected") = some (.ref aU) → m (Str.ofString "expected") = some (.ref la) → m (Str.ofString "actual") = some (.ref lb) → SM i j aM aU la lb m
/-- between its turns -/
inductive SJ (o : Addr × Obj) (bs : List (Addr × Obj)) (ss1 ss2 : List Str) (aM aU la lb : Addr) (n : Nat) (m : Str → Option Value) (nw : List (Addr × Obj)) : Prop
  | mk (i j : Nat) (ms xs : List Value) (nm nx : Nat) (sm sx : List Str) : nw = o :: (aU, listOf xs.toArray nx) :: (aM, listOf ms.toArray nm) :: bs → StrsAre ms sm → StrsAre xs sx → SldI ss1 ss2 i j sm sx → n = (ss1.length - i) + (ss2.length - j) → SM i j aM aU la lb m → SJ o bs ss1 ss2 aM aU la lb n m nw
theorem with_pass {M : Model} {A : Around} {env : Env} {c : List Stmt} {Q : Flow → Shared → Prop} {E : Value → Shared → Prop} {s : Shared} (h : PassesOwn M A env E) (k : PassesOwn M A env E → wpAny M A (execs c env) Q E s) : wpAny M A (execs c env) Q E s := k h
theorem step_next {h₀ : Heap} {L : Addr} {s : Shared} {J : Nat → (Str → Option Value) → List (Addr × Obj) → Prop} {Q : Flow → Shared → Prop} {n n' : Nat} {h' : Heap} {tk : Nat} {m₂ : Str → Option Value} {news₂ : List (Addr × Obj)} (F : Fr h₀ L h' m₂) (N : News h₀ L h' news₂) (hn : n' < n) (hJ : J n' m₂ news₂) : WhileStep2 h₀ L s J Q n .next { s with heap := h', toks := tk } := ⟨_, _, _, _, _, rfl, F, N, hn, hJ⟩
/-- a contract for a call from the bottom frame -/
noncomputable abbrev ConT (k : Nat) (w : World) (f : Addr) (news : List (Addr × Obj)) (vs : List Value) (R : (Value → List (Addr × Obj) → Prop) → Prop) : Prop :=
  ∀ (pp0 : Program) (loose : List Str) (mean : ExcName → Option Value) (mg mb : Str → Option Value) (dp un : Nat) (gd : Option (List Code)) (cn : Str) (cs : Scope) (a : Addr) (ccd : Value) (cl : List (Str × Addr)) (h₀ : Heap) (L : Addr) (m : Str → Option Value) (s : Shared) (Q E : Value → Shared → Prop),
    Fr h₀ L s.heap m → (hd.heap_1 w.params).In h₀ → News h₀ L s.heap news → Top pp0 loose mean mg mb h₀ → cs.kind = .function →
    dp + k < recursionLimit → un + 10 * k < cLine →
    R (fun v nw => ∀ h' tk', Fr h₀ L h' m → News h₀ L h' nw → Q v { s with heap := h', toks := tk' }) →
      wpAny (model PG w) (ktrTop dp un gd cn cs L a ccd cl []) (call (.ref f) vs) Q E s
theorem con_useT {k : Nat} {w : World} {f : Addr} {news : List (Addr × Obj)} {vs : List Value} {R : (Value → List (Addr × Obj) → Prop) → Prop} (C : ConT k w f news vs R) {pp0 : Program} {loose : List Str} {mean : ExcName → Option Value} {mg mb : Str → Option Value} {dp un : Nat} {gd : Option (List Code)} {cn : Str} {cs : Scope} {a : Addr} {ccd : Value} {cl : List (Str × Addr)} {h₀ : Heap} {L : Addr} {m : Str → Option Value} {s : Shared} {Q E : Value → Shared → Prop}
    (_ : True) (cu9kF : Fr h₀ L s.heap m) (cu9kX : (hd.heap_1 w.params).In h₀) (cu9kN : News h₀ L s.heap news) (cu9kT : Top pp0 loose mean mg mb h₀) (cu9kk : cs.kind = .function) (cu9kd : dp + k < recursionLimit) (cu9ku : un + 10 * k < cLine)
    (cu9kr : R (fun v nw => ∀ h' tk', Fr h₀ L h' m → News h₀ L h' nw → Q v { s with heap := h', toks := tk' })) : wpAny (model PG w) (ktrTop dp un gd cn cs L a ccd cl []) (call (.ref f) vs) Q E s :=
  C pp0 loose mean mg mb dp un gd cn cs a ccd cl h₀ L m s Q E cu9kF cu9kX cu9kN cu9kT cu9kk cu9kd cu9ku cu9kr
set_option maxRecDepth 100000 in
set_option maxHeartbeats 1600000 in
theorem sld_c {w : World} (la lb : Addr) (vs us : List Value) (ss1 ss2 : List Str) (n1 n2 : Nat) (hS1 : StrsAre vs ss1) (hS2 : StrsAre us ss2) (hs1 : SortedL ss1) (hs2 : SortedL ss2) (hl1 : vs.length ≤ 8) (hl2 : us.length ≤ 8) (rest : List (Addr × Obj)) :
    ConT 5 w 203 ((la, listOf vs.toArray n1) :: (lb, listOf us.toArray n2) :: rest) [.ref la, .ref lb] (fun k => ∀ D aU aM xs ms nx nm, StrsAre ms (lackF ss2 ss1) → StrsAre xs (lackF ss1 ss2) → k (.ref D) ((D, ({ cls := .type "tuple", data := .seq #[.ref aM, .ref aU] } : Obj)) :: (aU, listOf xs.toArray nx) :: (aM, listOf ms.toArray nm) :: (la, listOf vs.toArray n1) :: (lb, listOf us.toArray n2) :: rest)) := by
  unfold ConT
  intro pp0 loose mean mg mb dp un gd cn cs a ccd cl h₀ L m s Q E F X N T hk hd hu hret
  refine wpAny_call ?_
  refine' code_defT ?k1 ?k2 ?k3 ?k4 ?kA ?kF ?kK ?k6 ?k7 ?k8 ?k9 ?kB ?_ ?c2 ?c3 ?c4 ?c5
  case kA => exact rfl
  case kF => exact rfl
  case kK => exact hk
  case k1 => k_asm
  case k2 => k_asm
  case k3 => exact N
  case k4 => k_asm
  case k6 => k_is
  case k7 => k_is
  case k8 => ktr_room
  case k9 => first | exact BindsTo.of_eq rfl | exact binds_K (by k_in) rfl (by k_is) rfl rfl rfl
  case kB => exact locs rfl
  case c2 => exact rfl
  case c3 => exact rfl
  case c4 => exact rfl
  case c5 => decide
  k_whole
  intro oL L' h' tC tD hnL F' N' l1 hLL
  have hOld := Old.mk (news := (L, oL) :: (la, listOf vs.toArray n1) :: (lb, listOf us.toArray n2) :: rest) (L := L') (fun p hp => (List.mem_cons.mp hp).elim (fun q => q ▸ hLL) (l1 p))
  (try k_lt l1)
  (try dsimp only)
  (try k_fold)
  clear N F
  have X' := X
  (k_steps; (repeat (any_goals ((first | ((with_reducible refine un_stop 1 ?_); (k_dflt (refine app_any (by k_asm) (by k_asm) (by intro _; k_upd) (by omega) ?_); intro _ _ _ _)) | ((with_reducible refine un_stop 2 ?_); (k_dflt (refine pass_on (by assumption) (by assumption) (by assumption) (by assumption) (by assumption) ?_); intro _ _ _ _ _)) | ((with_reducible refine un_stop 3 ?_); (k_dflt (refine item_any (by assumption) (by assumption) (by k_mem) (by assumption) (by assumption) (by omega) (by first | exact CtxI.no | (refine' CtxI.yes ?k1 ?k2; (case k2 => assumption); (case k1 => k_mem))) ?_); dsimp only; first | ((with_reducible show ∀ (_ : Heap), _); intro _ _ _ _ _ _ _ _) | (intro _))) | ((with_reducible refine un_stop 4 ?_); k_dflt (first | (refine' note_again ?k1 ?k2 ?_; (case k1 => assumption); (case k2 => assumption)) | (refine note_fresh rfl rfl (by assumption) (by assumption) (by assumption) (by assumption) (by assumption) (by assumption) rfl (List.forall_mem_cons.mpr ⟨by assumption, List.forall_mem_cons.mpr ⟨by assumption, by assumption⟩⟩) ?_; intro _ _ _ _ _ _ _ _ _ _))) | ((with_reducible refine un_stop 5 ?_); (k_dflt (refine flight_set (by assumption) (by assumption) (by assumption) (by assumption) (by assumption) ?_); intro _ _ _ _ _))); k_steps))))
  unfold Stop
  rename (_ < _ ∧ _ < _ ∧ _ < _ ∧ _ < _ ∧ AllLt _ rest) => lU
  rename (_ < _ ∧ _ < _ ∧ _ < _ ∧ AllLt _ rest) => lM
  rename Fr _ _ _ _ => F1
  rename News _ _ _ _ => N1
  obtain ⟨aU, aM, F1, N1, lU, lM⟩ : ∃ (aU aM : Addr), Fr h₀ L' _ (fun y => if y = Str.ofString "unexpected" then some (Value.ref aU) else if y = Str.ofString "missing" then some (Value.ref aM) else if y = Str.ofString "j" then some (Value.int 0 _) else if y = Str.ofString "i" then some (Value.int 0 _) else List.lookup y _) ∧
      News h₀ L' _ ((L, oL) :: (aU, listOf #[] 0) :: (aM, listOf #[] 0) :: (la, listOf vs.toArray n1) :: (lb, listOf us.toArray n2) :: rest) ∧ (@LT.lt Nat _ aM aU ∧ @LT.lt Nat _ L aU ∧ @LT.lt Nat _ la aU ∧ @LT.lt Nat _ lb aU ∧ AllLt aU rest) ∧ (@LT.lt Nat _ L aM ∧ @LT.lt Nat _ la aM ∧ @LT.lt Nat _ lb aM ∧ AllLt aM rest) := ⟨_, _, F1, fun p hp => N1 p (by simp only [List.mem_cons] at hp ⊢; rcases hp with h | h | h | h <;> simp [h]), lU, lM⟩
  refine While_inv2 (SJ (L, oL) ((la, listOf vs.toArray n1) :: (lb, listOf us.toArray n2) :: rest) ss1 ss2 aM aU la lb) (n₀ := ss1.length + ss2.length)
    F1 N1 ⟨0, 0, [], [], 0, 0, [], [], rfl, .nil, .nil, SldI.start _ _, by simp, ⟨_, _, rfl, rfl, rfl, rfl, rfl, rfl⟩⟩ ?turn
  case turn =>
    clear F1 N1
    intro n m₁ nw h tk F2 N2 hJ
    k_fold
    obtain ⟨i, j, ms, xs, nm, nx, sm, sx, rfl, hms, hxs, hI, rfl, ⟨ti, tj, mi, mj, mM, mU, mE, mA⟩⟩ := hJ
    have hUL : aU ≠ L := Nat.ne_of_gt lU.2.1
    have hML : aM ≠ L := Nat.ne_of_gt lM.1
    have hM3 : ∀ p ∈ rest, p.1 ≠ aM := fun p hp => Nat.ne_of_lt (allLt_mem lM.2.2.2 p hp)
    have hU3 : ∀ p ∈ rest, p.1 ≠ aU := fun p hp => Nat.ne_of_lt (allLt_mem lU.2.2.2.2 p hp)
    have hcs : Scope.kind cs ≠ .module := by rw [hk]; decide
    have hj := hI.lj
    have hi := hI.li
    have e1 := hS1.length
    have e2 := hS2.length
    have e3 : ms.length ≤ 100 := by have := hms.length; have := hI.lm; omega
    have e4 : xs.length ≤ 100 := by have := hxs.length; have := hI.lx; omega
    have fin : ∀ (r1 r2 : List Str) (x1 x2 : List Value) (b1 b2 : Nat) (D d1 d2 : Addr) (o1 o2 : Obj) (sl : Array (Option Value)) (h9 : Heap) (tk9 : Nat) (m9 : Str → Option Value), r1 = lackF ss2 ss1 ∧ r2 = lackF ss1 ss2 → StrsAre x1 r1 → StrsAre x2 r2 → Fr h₀ L' h9 m9 →
        News h₀ L' h9 ((D, ({ cls := .type "tuple", data := .seq #[.ref aM, .ref aU] } : Obj)) :: (d1, o1) :: (d2, o2) :: (L, { oL with slots := sl }) :: (aU, listOf x2.toArray b2) :: (aM, listOf x1.toArray b1) :: (la, listOf vs.toArray n1) :: (lb, listOf us.toArray n2) :: rest) → @LT.lt Nat _ L D →
        Q (.ref D) { s with heap := h9, toks := tk9 } := by
      rintro r1 r2 x1 x2 b1 b2 D d1 d2 o1 o2 sl h9 tk9 m9 ⟨rfl, rfl⟩ q1 q2 F9 N9 hD
      have hLn : ∀ p ∈ (D, ({ cls := .type "tuple", data := .seq #[.ref aM, .ref aU] } : Obj)) :: (aU, listOf x2.toArray b2) :: (aM, listOf x1.toArray b1) :: (la, listOf vs.toArray n1) :: (lb, listOf us.toArray n2) :: rest, p.1 ≠ L :=
        List.forall_mem_cons.mpr ⟨Nat.ne_of_gt hD, List.forall_mem_cons.mpr ⟨hUL, List.forall_mem_cons.mpr ⟨hML, hnL⟩⟩⟩
      obtain ⟨F, N⟩ := back_t tC F9 (sl := sl) (oL := oL) (fun p hp => N9 p (by
        rcases List.mem_cons.mp hp with rfl | hp
        · exact .tail _ (.tail _ (.tail _ (.head _)))
        · rcases List.mem_cons.mp hp with rfl | hp
          · exact .head _
          · exact .tail _ (.tail _ (.tail _ (.tail _ hp))))) hLn
      exact hret D aU aM x2 x1 b2 b1 q1 q2 h9 tk9 F N
    (k_steps; (repeat (any_goals ((first | ((with_reducible refine un_stop 1 ?_); (k_dflt (refine app_any (by k_asm) (by k_asm) (by intro _; k_upd) (by omega) ?_); intro _ _ _ _)) | ((with_reducible refine un_stop 2 ?_); (k_dflt (refine pass_on (by assumption) (by assumption) (by assumption) (by assumption) (by assumption) ?_); intro _ _ _ _ _)) | ((with_reducible refine un_stop 3 ?_); (k_dflt (refine item_any (by assumption) (by assumption) (by k_mem) (by assumption) (by assumption) (by omega) (by first | exact CtxI.no | (refine' CtxI.yes ?k1 ?k2; (case k2 => assumption); (case k1 => k_mem))) ?_); dsimp only; first | ((with_reducible show ∀ (_ : Heap), _); intro _ _ _ _ _ _ _ _) | (intro _))) | ((with_reducible refine un_stop 4 ?_); k_dflt (first | (refine' note_again ?k1 ?k2 ?_; (case k1 => assumption); (case k2 => assumption)) | (refine note_fresh rfl rfl (by assumption) (by assumption) (by assumption) (by assumption) (by assumption) (by assumption) rfl (List.forall_mem_cons.mpr ⟨by assumption, List.forall_mem_cons.mpr ⟨by assumption, by assumption⟩⟩) ?_; intro _ _ _ _ _ _ _ _ _ _))) | ((with_reducible refine un_stop 5 ?_); (k_dflt (refine flight_set (by assumption) (by assumption) (by assumption) (by assumption) (by assumption) ?_); intro _ _ _ _ _))); k_steps))))
    unfold Stop
    refine wpAny_Try_except ?_
    k_fold
    have hE : ∀ (i' j' : Nat) (e9 : Addr) (h9 : Heap) (tk9 : Nat) (m9 : Str → Option Value) (ms xs : List Value) (nm nx : Nat) (sm sx : List Str), Fr h₀ L' h9 m9 → XSt h₀ L' h9 e9 L oL "IndexError" ((aU, listOf xs.toArray nx) :: (aM, listOf ms.toArray nm) :: (la, listOf vs.toArray n1) :: (lb, listOf us.toArray n2) :: rest) →
        SM i' j' aM aU la lb m9 → StrsAre ms sm → StrsAre xs sx → SldI ss1 ss2 i' j' sm sx → (ss1.length ≤ i' ∨ ss2.length ≤ j') → ek (.ref e9) { s with heap := h9, toks := tk9 } := by
      clear hms hxs hI mi mj mM mU mE mA F2 N2 e3 e4
      rintro i' j' e9 h9 tk9 m9 ms xs nm nx sm sx F9 hX ⟨ti, tj, mi, mj, mM, mU, mE, mA⟩ hms hxs hI ho
      have hi := hI.li
      have hj := hI.lj
      have e3 : ms.length ≤ 100 := by have := hms.length; have := hI.lm; omega
      have e4 : xs.length ≤ 100 := by have := hxs.length; have := hI.lx; omega
      (k_steps; (repeat (any_goals ((first | ((with_reducible refine un_stop 1 ?_); (k_dflt (refine app_any (by k_asm) (by k_asm) (by intro _; k_upd) (by omega) ?_); intro _ _ _ _)) | ((with_reducible refine un_stop 2 ?_); (k_dflt (refine pass_on (by assumption) (by assumption) (by assumption) (by assumption) (by assumption) ?_); intro _ _ _ _ _)) | ((with_reducible refine un_stop 3 ?_); (k_dflt (refine item_any (by assumption) (by assumption) (by k_mem) (by assumption) (by assumption) (by omega) (by first | exact CtxI.no | (refine' CtxI.yes ?k1 ?k2; (case k2 => assumption); (case k1 => k_mem))) ?_); dsimp only; first | ((with_reducible show ∀ (_ : Heap), _); intro _ _ _ _ _ _ _ _) | (intro _))) | ((with_reducible refine un_stop 4 ?_); k_dflt (first | (refine' note_again ?k1 ?k2 ?_; (case k1 => assumption); (case k2 => assumption)) | (refine note_fresh rfl rfl (by assumption) (by assumption) (by assumption) (by assumption) (by assumption) (by assumption) rfl (List.forall_mem_cons.mpr ⟨by assumption, List.forall_mem_cons.mpr ⟨by assumption, by assumption⟩⟩) ?_; intro _ _ _ _ _ _ _ _ _ _))) | ((with_reducible refine un_stop 5 ?_); (k_dflt (refine flight_set (by assumption) (by assumption) (by assumption) (by assumption) (by assumption) ?_); intro _ _ _ _ _))); k_steps))))
      refine note_any rfl hcs rfl (by assumption) F9 hX (List.forall_mem_cons.mpr ⟨hUL, List.forall_mem_cons.mpr ⟨hML, hnL⟩⟩) ?_
      intro h9 T9 o9 t9 sl9 c9 F9 N9 X9 q9 n9
      (k_steps; (repeat (any_goals ((first | ((with_reducible refine un_stop 1 ?_); (k_dflt (refine app_any (by k_asm) (by k_asm) (by intro _; k_upd) (by omega) ?_); intro _ _ _ _)) | ((with_reducible refine un_stop 2 ?_); (k_dflt (refine pass_on (by assumption) (by assumption) (by assumption) (by assumption) (by assumption) ?_); intro _ _ _ _ _)) | ((with_reducible refine un_stop 3 ?_); (k_dflt (refine item_any (by assumption) (by assumption) (by k_mem) (by assumption) (by assumption) (by omega) (by first | exact CtxI.no | (refine' CtxI.yes ?k1 ?k2; (case k2 => assumption); (case k1 => k_mem))) ?_); dsimp only; first | ((with_reducible show ∀ (_ : Heap), _); intro _ _ _ _ _ _ _ _) | (intro _))) | ((with_reducible refine un_stop 4 ?_); k_dflt (first | (refine' note_again ?k1 ?k2 ?_; (case k1 => assumption); (case k2 => assumption)) | (refine note_fresh rfl rfl (by assumption) (by assumption) (by assumption) (by assumption) (by assumption) (by assumption) rfl (List.forall_mem_cons.mpr ⟨by assumption, List.forall_mem_cons.mpr ⟨by assumption, by assumption⟩⟩) ?_; intro _ _ _ _ _ _ _ _ _ _))) | ((with_reducible refine un_stop 5 ?_); (k_dflt (refine flight_set (by assumption) (by assumption) (by assumption) (by assumption) (by assumption) ?_); intro _ _ _ _ _))); k_steps))))
      unfold Stop
      with_unfolding_all refine' clause_hitK (held_of ?k1 ?k2 ?k3 ?k4 ?k5) ?kN ?_ ?k6 ?k7 ?k8 ?k9
      case k1 => assumption
      case k2 => assumption
      case k3 => assumption
      case k4 => assumption
      case k5 => assumption
      case k6 => decide +kernel
      case k7 => decide +kernel
      case k8 => decide +kernel
      case k9 => passes_own
      case kN =>
        intro Q9 E9 hq9
        refine' name_B ?k1 ?k2 ?k3 ?k4 ?k5 ?k6 hq9
        case k1 => k_asm
        case k2 => k_asm
        case k3 => k_asm
        case k4 => k_is
        case k5 => boot_by_name
        case k6 => decide
      intro h9 F9 N9
      (k_steps; (repeat (any_goals ((first | ((with_reducible refine un_stop 1 ?_); (k_dflt (refine app_any (by k_asm) (by k_asm) (by intro _; k_upd) (by omega) ?_); intro _ _ _ _)) | ((with_reducible refine un_stop 2 ?_); (k_dflt (refine pass_on (by assumption) (by assumption) (by assumption) (by assumption) (by assumption) ?_); intro _ _ _ _ _)) | ((with_reducible refine un_stop 3 ?_); (k_dflt (refine item_any (by assumption) (by assumption) (by k_mem) (by assumption) (by assumption) (by omega) (by first | exact CtxI.no | (refine' CtxI.yes ?k1 ?k2; (case k2 => assumption); (case k1 => k_mem))) ?_); dsimp only; first | ((with_reducible show ∀ (_ : Heap), _); intro _ _ _ _ _ _ _ _) | (intro _))) | ((with_reducible refine un_stop 4 ?_); k_dflt (first | (refine' note_again ?k1 ?k2 ?_; (case k1 => assumption); (case k2 => assumption)) | (refine note_fresh rfl rfl (by assumption) (by assumption) (by assumption) (by assumption) (by assumption) (by assumption) rfl (List.forall_mem_cons.mpr ⟨by assumption, List.forall_mem_cons.mpr ⟨by assumption, by assumption⟩⟩) ?_; intro _ _ _ _ _ _ _ _ _ _))) | ((with_reducible refine un_stop 5 ?_); (k_dflt (refine flight_set (by assumption) (by assumption) (by assumption) (by assumption) (by assumption) ?_); intro _ _ _ _ _))); k_steps))))
      unfold Stop
      refine' slice_from (s := ⟨_, _, _, _, _⟩) ?k1 ?k2 ?k3 ?k4 ?k5 ?k6 ?_ ?k7 ?k8
      case k1 => k_asm
      case k2 => k_asm
      case k3 => k_mem
      case k4 => omega
      case k5 => omega
      case k6 => omega
      case k7 => with_unfolding_all rfl
      case k8 => intro _; with_unfolding_all rfl
      intro D9 h9 F9 N9 l9
      k_lt l9
      (k_steps; (repeat (any_goals ((first | ((with_reducible refine un_stop 1 ?_); (k_dflt (refine app_any (by k_asm) (by k_asm) (by intro _; k_upd) (by omega) ?_); intro _ _ _ _)) | ((with_reducible refine un_stop 2 ?_); (k_dflt (refine pass_on (by assumption) (by assumption) (by assumption) (by assumption) (by assumption) ?_); intro _ _ _ _ _)) | ((with_reducible refine un_stop 3 ?_); (k_dflt (refine item_any (by assumption) (by assumption) (by k_mem) (by assumption) (by assumption) (by omega) (by first | exact CtxI.no | (refine' CtxI.yes ?k1 ?k2; (case k2 => assumption); (case k1 => k_mem))) ?_); dsimp only; first | ((with_reducible show ∀ (_ : Heap), _); intro _ _ _ _ _ _ _ _) | (intro _))) | ((with_reducible refine un_stop 4 ?_); k_dflt (first | (refine' note_again ?k1 ?k2 ?_; (case k1 => assumption); (case k2 => assumption)) | (refine note_fresh rfl rfl (by assumption) (by assumption) (by assumption) (by assumption) (by assumption) (by assumption) rfl (List.forall_mem_cons.mpr ⟨by assumption, List.forall_mem_cons.mpr ⟨by assumption, by assumption⟩⟩) ?_; intro _ _ _ _ _ _ _ _ _ _))) | ((with_reducible refine un_stop 5 ?_); (k_dflt (refine flight_set (by assumption) (by assumption) (by assumption) (by assumption) (by assumption) ?_); intro _ _ _ _ _))); k_steps))))
      unfold Stop
      refine' ext_any ?k1 ?k2 ?k3 ?k4 ?k5 ?k6 ?k7 ?_
      case k1 => k_asm
      case k2 => k_asm
      case k3 => k_mem
      case k5 => intro o9; k_upd
      case k4 => exact rfl
      case k6 => (try simp only [List.length_append, List.length_cons, List.length_nil]); omega
      case k7 => (try simp only [List.length_drop]); exact Nat.le_trans (Nat.sub_le ..) (by omega)
      intro h9 n9 F9 N9
      (k_steps; (repeat (any_goals ((first | ((with_reducible refine un_stop 1 ?_); (k_dflt (refine app_any (by k_asm) (by k_asm) (by intro _; k_upd) (by omega) ?_); intro _ _ _ _)) | ((with_reducible refine un_stop 2 ?_); (k_dflt (refine pass_on (by assumption) (by assumption) (by assumption) (by assumption) (by assumption) ?_); intro _ _ _ _ _)) | ((with_reducible refine un_stop 3 ?_); (k_dflt (refine item_any (by assumption) (by assumption) (by k_mem) (by assumption) (by assumption) (by omega) (by first | exact CtxI.no | (refine' CtxI.yes ?k1 ?k2; (case k2 => assumption); (case k1 => k_mem))) ?_); dsimp only; first | ((with_reducible show ∀ (_ : Heap), _); intro _ _ _ _ _ _ _ _) | (intro _))) | ((with_reducible refine un_stop 4 ?_); k_dflt (first | (refine' note_again ?k1 ?k2 ?_; (case k1 => assumption); (case k2 => assumption)) | (refine note_fresh rfl rfl (by assumption) (by assumption) (by assumption) (by assumption) (by assumption) (by assumption) rfl (List.forall_mem_cons.mpr ⟨by assumption, List.forall_mem_cons.mpr ⟨by assumption, by assumption⟩⟩) ?_; intro _ _ _ _ _ _ _ _ _ _))) | ((with_reducible refine un_stop 5 ?_); (k_dflt (refine flight_set (by assumption) (by assumption) (by assumption) (by assumption) (by assumption) ?_); intro _ _ _ _ _))); k_steps))))
      unfold Stop
      refine' slice_from (s := ⟨_, _, _, _, _⟩) ?j1 ?j2 ?j3 ?j4 ?j5 ?j6 ?_ ?j7 ?j8
      case j1 => k_asm
      case j2 => k_asm
      case j3 => k_mem
      case j4 => omega
      case j5 => omega
      case j6 => omega
      case j7 => with_unfolding_all rfl
      case j8 => intro _; with_unfolding_all rfl
      intro D9 h9 F9 N9 l9
      k_lt l9
      (k_steps; (repeat (any_goals ((first | ((with_reducible refine un_stop 1 ?_); (k_dflt (refine app_any (by k_asm) (by k_asm) (by intro _; k_upd) (by omega) ?_); intro _ _ _ _)) | ((with_reducible refine un_stop 2 ?_); (k_dflt (refine pass_on (by assumption) (by assumption) (by assumption) (by assumption) (by assumption) ?_); intro _ _ _ _ _)) | ((with_reducible refine un_stop 3 ?_); (k_dflt (refine item_any (by assumption) (by assumption) (by k_mem) (by assumption) (by assumption) (by omega) (by first | exact CtxI.no | (refine' CtxI.yes ?k1 ?k2; (case k2 => assumption); (case k1 => k_mem))) ?_); dsimp only; first | ((with_reducible show ∀ (_ : Heap), _); intro _ _ _ _ _ _ _ _) | (intro _))) | ((with_reducible refine un_stop 4 ?_); k_dflt (first | (refine' note_again ?k1 ?k2 ?_; (case k1 => assumption); (case k2 => assumption)) | (refine note_fresh rfl rfl (by assumption) (by assumption) (by assumption) (by assumption) (by assumption) (by assumption) rfl (List.forall_mem_cons.mpr ⟨by assumption, List.forall_mem_cons.mpr ⟨by assumption, by assumption⟩⟩) ?_; intro _ _ _ _ _ _ _ _ _ _))) | ((with_reducible refine un_stop 5 ?_); (k_dflt (refine flight_set (by assumption) (by assumption) (by assumption) (by assumption) (by assumption) ?_); intro _ _ _ _ _))); k_steps))))
      unfold Stop
      refine' ext_any ?j1 ?j2 ?j3 ?j4 ?j5 ?j6 ?j7 ?_
      case j1 => k_asm
      case j2 => k_asm
      case j3 => k_mem
      case j5 => intro o9; k_upd
      case j4 => exact rfl
      case j6 => (try simp only [List.length_append, List.length_cons, List.length_nil]); omega
      case j7 => (try simp only [List.length_drop]); exact Nat.le_trans (Nat.sub_le ..) (by omega)
      intro h9 n9 F9 N9
      (k_steps; (repeat (any_goals ((first | ((with_reducible refine un_stop 1 ?_); (k_dflt (refine app_any (by k_asm) (by k_asm) (by intro _; k_upd) (by omega) ?_); intro _ _ _ _)) | ((with_reducible refine un_stop 2 ?_); (k_dflt (refine pass_on (by assumption) (by assumption) (by assumption) (by assumption) (by assumption) ?_); intro _ _ _ _ _)) | ((with_reducible refine un_stop 3 ?_); (k_dflt (refine item_any (by assumption) (by assumption) (by k_mem) (by assumption) (by assumption) (by omega) (by first | exact CtxI.no | (refine' CtxI.yes ?k1 ?k2; (case k2 => assumption); (case k1 => k_mem))) ?_); dsimp only; first | ((with_reducible show ∀ (_ : Heap), _); intro _ _ _ _ _ _ _ _) | (intro _))) | ((with_reducible refine un_stop 4 ?_); k_dflt (first | (refine' note_again ?k1 ?k2 ?_; (case k1 => assumption); (case k2 => assumption)) | (refine note_fresh rfl rfl (by assumption) (by assumption) (by assumption) (by assumption) (by assumption) (by assumption) rfl (List.forall_mem_cons.mpr ⟨by assumption, List.forall_mem_cons.mpr ⟨by assumption, by assumption⟩⟩) ?_; intro _ _ _ _ _ _ _ _ _ _))) | ((with_reducible refine un_stop 5 ?_); (k_dflt (refine flight_set (by assumption) (by assumption) (by assumption) (by assumption) (by assumption) ?_); intro _ _ _ _ _))); k_steps))))
      unfold WhileStep2
      dsimp only
      (k_steps; (repeat (any_goals ((first | ((with_reducible refine un_stop 1 ?_); (k_dflt (refine app_any (by k_asm) (by k_asm) (by intro _; k_upd) (by omega) ?_); intro _ _ _ _)) | ((with_reducible refine un_stop 2 ?_); (k_dflt (refine pass_on (by assumption) (by assumption) (by assumption) (by assumption) (by assumption) ?_); intro _ _ _ _ _)) | ((with_reducible refine un_stop 3 ?_); (k_dflt (refine item_any (by assumption) (by assumption) (by k_mem) (by assumption) (by assumption) (by omega) (by first | exact CtxI.no | (refine' CtxI.yes ?k1 ?k2; (case k2 => assumption); (case k1 => k_mem))) ?_); dsimp only; first | ((with_reducible show ∀ (_ : Heap), _); intro _ _ _ _ _ _ _ _) | (intro _))) | ((with_reducible refine un_stop 4 ?_); k_dflt (first | (refine' note_again ?k1 ?k2 ?_; (case k1 => assumption); (case k2 => assumption)) | (refine note_fresh rfl rfl (by assumption) (by assumption) (by assumption) (by assumption) (by assumption) (by assumption) rfl (List.forall_mem_cons.mpr ⟨by assumption, List.forall_mem_cons.mpr ⟨by assumption, by assumption⟩⟩) ?_; intro _ _ _ _ _ _ _ _ _ _))) | ((with_reducible refine un_stop 5 ?_); (k_dflt (refine flight_set (by assumption) (by assumption) (by assumption) (by assumption) (by assumption) ?_); intro _ _ _ _ _))); k_steps))))
      exact fin _ _ _ _ _ _ _ _ _ _ _ _ _ _ _ (ho.elim hI.fin1 hI.fin2) (strs_append hms (strs_drop hS1 i')) (strs_append hxs (strs_drop hS2 j')) (by assumption) (by assumption) (by omega)
    refine with_pass (by passes_own) fun pE => ?_
    clear_value ek
    clear fin
    by_cases hi' : i < ss1.length
    · obtain ⟨x, hx⟩ : ∃ x, ItI ss1 i (some x) := ⟨_, .in0 hi'⟩
      by_cases hj' : j < ss2.length
      · obtain ⟨y, hy⟩ : ∃ y, ItI ss2 j (some y) := ⟨_, .in0 hj'⟩
        (k_steps; (repeat (any_goals ((first | ((with_reducible refine un_stop 1 ?_); (k_dflt (refine app_any (by k_asm) (by k_asm) (by intro _; k_upd) (by omega) ?_); intro _ _ _ _)) | ((with_reducible refine un_stop 2 ?_); (k_dflt (refine pass_on (by assumption) (by assumption) (by assumption) (by assumption) (by assumption) ?_); intro _ _ _ _ _)) | ((with_reducible refine un_stop 3 ?_); (k_dflt (refine item_any (by assumption) (by assumption) (by k_mem) (by assumption) (by assumption) (by omega) (by first | exact CtxI.no | (refine' CtxI.yes ?k1 ?k2; (case k2 => assumption); (case k1 => k_mem))) ?_); dsimp only; first | ((with_reducible show ∀ (_ : Heap), _); intro _ _ _ _ _ _ _ _) | (intro _))) | ((with_reducible refine un_stop 4 ?_); k_dflt (first | (refine' note_again ?k1 ?k2 ?_; (case k1 => assumption); (case k2 => assumption)) | (refine note_fresh rfl rfl (by assumption) (by assumption) (by assumption) (by assumption) (by assumption) (by assumption) rfl (List.forall_mem_cons.mpr ⟨by assumption, List.forall_mem_cons.mpr ⟨by assumption, by assumption⟩⟩) ?_; intro _ _ _ _ _ _ _ _ _ _))) | ((with_reducible refine un_stop 5 ?_); (k_dflt (refine flight_set (by assumption) (by assumption) (by assumption) (by assumption) (by assumption) ?_); intro _ _ _ _ _))); k_steps))))
        · unfold Stop
          have hI' := hI.less hs2 hx.at hy.at (by assumption)
          by_cases hi1 : i + 1 < ss1.length
          · obtain ⟨x1, hx1⟩ : ∃ x, ItI ss1 ((i : Int) + 1) (some x) := ⟨_, .in1 hi1⟩
            refine while_none ?_ pE
            (k_steps; (repeat (any_goals ((first | ((with_reducible refine un_stop 1 ?_); (k_dflt (refine app_any (by k_asm) (by k_asm) (by intro _; k_upd) (by omega) ?_); intro _ _ _ _)) | ((with_reducible refine un_stop 2 ?_); (k_dflt (refine pass_on (by assumption) (by assumption) (by assumption) (by assumption) (by assumption) ?_); intro _ _ _ _ _)) | ((with_reducible refine un_stop 3 ?_); (k_dflt (refine item_any (by assumption) (by assumption) (by k_mem) (by assumption) (by assumption) (by omega) (by first | exact CtxI.no | (refine' CtxI.yes ?k1 ?k2; (case k2 => assumption); (case k1 => k_mem))) ?_); dsimp only; first | ((with_reducible show ∀ (_ : Heap), _); intro _ _ _ _ _ _ _ _) | (intro _))) | ((with_reducible refine un_stop 4 ?_); k_dflt (first | (refine' note_again ?k1 ?k2 ?_; (case k1 => assumption); (case k2 => assumption)) | (refine note_fresh rfl rfl (by assumption) (by assumption) (by assumption) (by assumption) (by assumption) (by assumption) rfl (List.forall_mem_cons.mpr ⟨by assumption, List.forall_mem_cons.mpr ⟨by assumption, by assumption⟩⟩) ?_; intro _ _ _ _ _ _ _ _ _ _))) | ((with_reducible refine un_stop 5 ?_); (k_dflt (refine flight_set (by assumption) (by assumption) (by assumption) (by assumption) (by assumption) ?_); intro _ _ _ _ _))); k_steps))))
            · exact beq_false_of_ne (hs1.next_ne hx hx1)
            · rename Fr _ _ _ _ => F9
              rename News _ _ _ _ => N9
              exact step_next F9 N9 (downL hi') ⟨i + 1, j, _, _, _, _, _, _, rfl, strs_append hms (.cons x _ .nil), hxs, hI', rfl, ⟨_, _, rfl, mj, mM, mU, mE, mA⟩⟩
          · have hx1 : ItI ss1 ((i : Int) + 1) none := .out1 hi1 (by omega)
            refine while_none ?_ pE
            (k_steps; (repeat (any_goals ((first | ((with_reducible refine un_stop 1 ?_); (k_dflt (refine app_any (by k_asm) (by k_asm) (by intro _; k_upd) (by omega) ?_); intro _ _ _ _)) | ((with_reducible refine un_stop 2 ?_); (k_dflt (refine pass_on (by assumption) (by assumption) (by assumption) (by assumption) (by assumption) ?_); intro _ _ _ _ _)) | ((with_reducible refine un_stop 3 ?_); (k_dflt (refine item_any (by assumption) (by assumption) (by k_mem) (by assumption) (by assumption) (by omega) (by first | exact CtxI.no | (refine' CtxI.yes ?k1 ?k2; (case k2 => assumption); (case k1 => k_mem))) ?_); dsimp only; first | ((with_reducible show ∀ (_ : Heap), _); intro _ _ _ _ _ _ _ _) | (intro _))) | ((with_reducible refine un_stop 4 ?_); k_dflt (first | (refine' note_again ?k1 ?k2 ?_; (case k1 => assumption); (case k2 => assumption)) | (refine note_fresh rfl rfl (by assumption) (by assumption) (by assumption) (by assumption) (by assumption) (by assumption) rfl (List.forall_mem_cons.mpr ⟨by assumption, List.forall_mem_cons.mpr ⟨by assumption, by assumption⟩⟩) ?_; intro _ _ _ _ _ _ _ _ _ _))) | ((with_reducible refine un_stop 5 ?_); (k_dflt (refine flight_set (by assumption) (by assumption) (by assumption) (by assumption) (by assumption) ?_); intro _ _ _ _ _))); k_steps))))
            rename Fr _ _ _ _ => F9
            exact hE (i + 1) j _ _ _ _ _ _ _ _ _ _ F9 (.fresh _ _ (by assumption) (by assumption) (by assumption)) ⟨_, _, rfl, mj, mM, mU, mE, mA⟩ (strs_append hms (.cons x _ .nil)) hxs hI' (.inl (by omega))
        · unfold Stop
          have hI' := hI.greater hs1 hx.at hy.at (by assumption)
          by_cases hj1 : j + 1 < ss2.length
          · obtain ⟨y1, hy1⟩ : ∃ x, ItI ss2 ((j : Int) + 1) (some x) := ⟨_, .in1 hj1⟩
            refine while_none ?_ pE
            (k_steps; (repeat (any_goals ((first | ((with_reducible refine un_stop 1 ?_); (k_dflt (refine app_any (by k_asm) (by k_asm) (by intro _; k_upd) (by omega) ?_); intro _ _ _ _)) | ((with_reducible refine un_stop 2 ?_); (k_dflt (refine pass_on (by assumption) (by assumption) (by assumption) (by assumption) (by assumption) ?_); intro _ _ _ _ _)) | ((with_reducible refine un_stop 3 ?_); (k_dflt (refine item_any (by assumption) (by assumption) (by k_mem) (by assumption) (by assumption) (by omega) (by first | exact CtxI.no | (refine' CtxI.yes ?k1 ?k2; (case k2 => assumption); (case k1 => k_mem))) ?_); dsimp only; first | ((with_reducible show ∀ (_ : Heap), _); intro _ _ _ _ _ _ _ _) | (intro _))) | ((with_reducible refine un_stop 4 ?_); k_dflt (first | (refine' note_again ?k1 ?k2 ?_; (case k1 => assumption); (case k2 => assumption)) | (refine note_fresh rfl rfl (by assumption) (by assumption) (by assumption) (by assumption) (by assumption) (by assumption) rfl (List.forall_mem_cons.mpr ⟨by assumption, List.forall_mem_cons.mpr ⟨by assumption, by assumption⟩⟩) ?_; intro _ _ _ _ _ _ _ _ _ _))) | ((with_reducible refine un_stop 5 ?_); (k_dflt (refine flight_set (by assumption) (by assumption) (by assumption) (by assumption) (by assumption) ?_); intro _ _ _ _ _))); k_steps))))
            · exact beq_false_of_ne (hs2.next_ne hy hy1)
            · rename Fr _ _ _ _ => F9
              rename News _ _ _ _ => N9
              exact step_next F9 N9 (downR hj') ⟨i, j + 1, _, _, _, _, _, _, rfl, hms, strs_append hxs (.cons y _ .nil), hI', rfl, ⟨_, _, mi, rfl, mM, mU, mE, mA⟩⟩
          · have hy1 : ItI ss2 ((j : Int) + 1) none := .out1 hj1 (by omega)
            refine while_none ?_ pE
            (k_steps; (repeat (any_goals ((first | ((with_reducible refine un_stop 1 ?_); (k_dflt (refine app_any (by k_asm) (by k_asm) (by intro _; k_upd) (by omega) ?_); intro _ _ _ _)) | ((with_reducible refine un_stop 2 ?_); (k_dflt (refine pass_on (by assumption) (by assumption) (by assumption) (by assumption) (by assumption) ?_); intro _ _ _ _ _)) | ((with_reducible refine un_stop 3 ?_); (k_dflt (refine item_any (by assumption) (by assumption) (by k_mem) (by assumption) (by assumption) (by omega) (by first | exact CtxI.no | (refine' CtxI.yes ?k1 ?k2; (case k2 => assumption); (case k1 => k_mem))) ?_); dsimp only; first | ((with_reducible show ∀ (_ : Heap), _); intro _ _ _ _ _ _ _ _) | (intro _))) | ((with_reducible refine un_stop 4 ?_); k_dflt (first | (refine' note_again ?k1 ?k2 ?_; (case k1 => assumption); (case k2 => assumption)) | (refine note_fresh rfl rfl (by assumption) (by assumption) (by assumption) (by assumption) (by assumption) (by assumption) rfl (List.forall_mem_cons.mpr ⟨by assumption, List.forall_mem_cons.mpr ⟨by assumption, by assumption⟩⟩) ?_; intro _ _ _ _ _ _ _ _ _ _))) | ((with_reducible refine un_stop 5 ?_); (k_dflt (refine flight_set (by assumption) (by assumption) (by assumption) (by assumption) (by assumption) ?_); intro _ _ _ _ _))); k_steps))))
            rename Fr _ _ _ _ => F9
            exact hE i (j + 1) _ _ _ _ _ _ _ _ _ _ F9 (.fresh _ _ (by assumption) (by assumption) (by assumption)) ⟨_, _, mi, rfl, mM, mU, mE, mA⟩ hms (strs_append hxs (.cons y _ .nil)) hI' (.inr (by omega))
        · unfold Stop
          obtain rfl : x = y := LtS.eq_of (by assumption) (by assumption)
          have hI' := hI.equal hs1 hs2 hx.at hy.at
          by_cases hi1 : i + 1 < ss1.length
          · obtain ⟨x1, hx1⟩ : ∃ x, ItI ss1 ((i : Int) + 1) (some x) := ⟨_, .in1 hi1⟩
            refine while_none ?_
            (k_steps; (repeat (any_goals ((first | ((with_reducible refine un_stop 1 ?_); (k_dflt (refine app_any (by k_asm) (by k_asm) (by intro _; k_upd) (by omega) ?_); intro _ _ _ _)) | ((with_reducible refine un_stop 2 ?_); (k_dflt (refine pass_on (by assumption) (by assumption) (by assumption) (by assumption) (by assumption) ?_); intro _ _ _ _ _)) | ((with_reducible refine un_stop 3 ?_); (k_dflt (refine item_any (by assumption) (by assumption) (by k_mem) (by assumption) (by assumption) (by omega) (by first | exact CtxI.no | (refine' CtxI.yes ?k1 ?k2; (case k2 => assumption); (case k1 => k_mem))) ?_); dsimp only; first | ((with_reducible show ∀ (_ : Heap), _); intro _ _ _ _ _ _ _ _) | (intro _))) | ((with_reducible refine un_stop 4 ?_); k_dflt (first | (refine' note_again ?k1 ?k2 ?_; (case k1 => assumption); (case k2 => assumption)) | (refine note_fresh rfl rfl (by assumption) (by assumption) (by assumption) (by assumption) (by assumption) (by assumption) rfl (List.forall_mem_cons.mpr ⟨by assumption, List.forall_mem_cons.mpr ⟨by assumption, by assumption⟩⟩) ?_; intro _ _ _ _ _ _ _ _ _ _))) | ((with_reducible refine un_stop 5 ?_); (k_dflt (refine flight_set (by assumption) (by assumption) (by assumption) (by assumption) (by assumption) ?_); intro _ _ _ _ _))); k_steps))))
            · exact beq_false_of_ne (hs1.next_ne hx hx1)
            · unfold Stop
              by_cases hj1 : j + 1 < ss2.length
              · obtain ⟨y1, hy1⟩ : ∃ x, ItI ss2 ((j : Int) + 1) (some x) := ⟨_, .in1 hj1⟩
                refine while_none ?_
                (k_steps; (repeat (any_goals ((first | ((with_reducible refine un_stop 1 ?_); (k_dflt (refine app_any (by k_asm) (by k_asm) (by intro _; k_upd) (by omega) ?_); intro _ _ _ _)) | ((with_reducible refine un_stop 2 ?_); (k_dflt (refine pass_on (by assumption) (by assumption) (by assumption) (by assumption) (by assumption) ?_); intro _ _ _ _ _)) | ((with_reducible refine un_stop 3 ?_); (k_dflt (refine item_any (by assumption) (by assumption) (by k_mem) (by assumption) (by assumption) (by omega) (by first | exact CtxI.no | (refine' CtxI.yes ?k1 ?k2; (case k2 => assumption); (case k1 => k_mem))) ?_); dsimp only; first | ((with_reducible show ∀ (_ : Heap), _); intro _ _ _ _ _ _ _ _) | (intro _))) | ((with_reducible refine un_stop 4 ?_); k_dflt (first | (refine' note_again ?k1 ?k2 ?_; (case k1 => assumption); (case k2 => assumption)) | (refine note_fresh rfl rfl (by assumption) (by assumption) (by assumption) (by assumption) (by assumption) (by assumption) rfl (List.forall_mem_cons.mpr ⟨by assumption, List.forall_mem_cons.mpr ⟨by assumption, by assumption⟩⟩) ?_; intro _ _ _ _ _ _ _ _ _ _))) | ((with_reducible refine un_stop 5 ?_); (k_dflt (refine flight_set (by assumption) (by assumption) (by assumption) (by assumption) (by assumption) ?_); intro _ _ _ _ _))); k_steps))))
                · exact beq_false_of_ne (hs2.next_ne hy hy1)
                · rename Fr _ _ _ _ => F9
                  rename News _ _ _ _ => N9
                  exact step_next F9 N9 (downB hi' hj') ⟨i + 1, j + 1, _, _, _, _, _, _, rfl, hms, hxs, hI', rfl, ⟨_, _, rfl, rfl, mM, mU, mE, mA⟩⟩
              · have hy1 : ItI ss2 ((j : Int) + 1) none := .out1 hj1 (by omega)
                refine while_none ?_
                (k_steps; (repeat (any_goals ((first | ((with_reducible refine un_stop 1 ?_); (k_dflt (refine app_any (by k_asm) (by k_asm) (by intro _; k_upd) (by omega) ?_); intro _ _ _ _)) | ((with_reducible refine un_stop 2 ?_); (k_dflt (refine pass_on (by assumption) (by assumption) (by assumption) (by assumption) (by assumption) ?_); intro _ _ _ _ _)) | ((with_reducible refine un_stop 3 ?_); (k_dflt (refine item_any (by assumption) (by assumption) (by k_mem) (by assumption) (by assumption) (by omega) (by first | exact CtxI.no | (refine' CtxI.yes ?k1 ?k2; (case k2 => assumption); (case k1 => k_mem))) ?_); dsimp only; first | ((with_reducible show ∀ (_ : Heap), _); intro _ _ _ _ _ _ _ _) | (intro _))) | ((with_reducible refine un_stop 4 ?_); k_dflt (first | (refine' note_again ?k1 ?k2 ?_; (case k1 => assumption); (case k2 => assumption)) | (refine note_fresh rfl rfl (by assumption) (by assumption) (by assumption) (by assumption) (by assumption) (by assumption) rfl (List.forall_mem_cons.mpr ⟨by assumption, List.forall_mem_cons.mpr ⟨by assumption, by assumption⟩⟩) ?_; intro _ _ _ _ _ _ _ _ _ _))) | ((with_reducible refine un_stop 5 ?_); (k_dflt (refine flight_set (by assumption) (by assumption) (by assumption) (by assumption) (by assumption) ?_); intro _ _ _ _ _))); k_steps))))
                unfold notedBy
                (k_steps; (repeat (any_goals ((first | ((with_reducible refine un_stop 1 ?_); (k_dflt (refine app_any (by k_asm) (by k_asm) (by intro _; k_upd) (by omega) ?_); intro _ _ _ _)) | ((with_reducible refine un_stop 2 ?_); (k_dflt (refine pass_on (by assumption) (by assumption) (by assumption) (by assumption) (by assumption) ?_); intro _ _ _ _ _)) | ((with_reducible refine un_stop 3 ?_); (k_dflt (refine item_any (by assumption) (by assumption) (by k_mem) (by assumption) (by assumption) (by omega) (by first | exact CtxI.no | (refine' CtxI.yes ?k1 ?k2; (case k2 => assumption); (case k1 => k_mem))) ?_); dsimp only; first | ((with_reducible show ∀ (_ : Heap), _); intro _ _ _ _ _ _ _ _) | (intro _))) | ((with_reducible refine un_stop 4 ?_); k_dflt (first | (refine' note_again ?k1 ?k2 ?_; (case k1 => assumption); (case k2 => assumption)) | (refine note_fresh rfl rfl (by assumption) (by assumption) (by assumption) (by assumption) (by assumption) (by assumption) rfl (List.forall_mem_cons.mpr ⟨by assumption, List.forall_mem_cons.mpr ⟨by assumption, by assumption⟩⟩) ?_; intro _ _ _ _ _ _ _ _ _ _))) | ((with_reducible refine un_stop 5 ?_); (k_dflt (refine flight_set (by assumption) (by assumption) (by assumption) (by assumption) (by assumption) ?_); intro _ _ _ _ _))); k_steps))))
                refine came_back (by assumption) (by assumption) (by assumption) (by assumption) (by assumption) ?_
                intro h9 t9 F9 N9 X9
                exact hE (i + 1) (j + 1) _ _ _ _ _ _ _ _ _ _ F9 (.noted _ _ _ _ _ N9 X9 (by assumption) (by assumption)) ⟨_, _, rfl, rfl, mM, mU, mE, mA⟩ hms hxs hI' (.inr (by omega))
          · have hx1 : ItI ss1 ((i : Int) + 1) none := .out1 hi1 (by omega)
            refine while_none ?_
            (k_steps; (repeat (any_goals ((first | ((with_reducible refine un_stop 1 ?_); (k_dflt (refine app_any (by k_asm) (by k_asm) (by intro _; k_upd) (by omega) ?_); intro _ _ _ _)) | ((with_reducible refine un_stop 2 ?_); (k_dflt (refine pass_on (by assumption) (by assumption) (by assumption) (by assumption) (by assumption) ?_); intro _ _ _ _ _)) | ((with_reducible refine un_stop 3 ?_); (k_dflt (refine item_any (by assumption) (by assumption) (by k_mem) (by assumption) (by assumption) (by omega) (by first | exact CtxI.no | (refine' CtxI.yes ?k1 ?k2; (case k2 => assumption); (case k1 => k_mem))) ?_); dsimp only; first | ((with_reducible show ∀ (_ : Heap), _); intro _ _ _ _ _ _ _ _) | (intro _))) | ((with_reducible refine un_stop 4 ?_); k_dflt (first | (refine' note_again ?k1 ?k2 ?_; (case k1 => assumption); (case k2 => assumption)) | (refine note_fresh rfl rfl (by assumption) (by assumption) (by assumption) (by assumption) (by assumption) (by assumption) rfl (List.forall_mem_cons.mpr ⟨by assumption, List.forall_mem_cons.mpr ⟨by assumption, by assumption⟩⟩) ?_; intro _ _ _ _ _ _ _ _ _ _))) | ((with_reducible refine un_stop 5 ?_); (k_dflt (refine flight_set (by assumption) (by assumption) (by assumption) (by assumption) (by assumption) ?_); intro _ _ _ _ _))); k_steps))))
            unfold Stop
            by_cases hj1 : j + 1 < ss2.length
            · obtain ⟨y1, hy1⟩ : ∃ x, ItI ss2 ((j : Int) + 1) (some x) := ⟨_, .in1 hj1⟩
              refine while_none ?_
              (k_steps; (repeat (any_goals ((first | ((with_reducible refine un_stop 1 ?_); (k_dflt (refine app_any (by k_asm) (by k_asm) (by intro _; k_upd) (by omega) ?_); intro _ _ _ _)) | ((with_reducible refine un_stop 2 ?_); (k_dflt (refine pass_on (by assumption) (by assumption) (by assumption) (by assumption) (by assumption) ?_); intro _ _ _ _ _)) | ((with_reducible refine un_stop 3 ?_); (k_dflt (refine item_any (by assumption) (by assumption) (by k_mem) (by assumption) (by assumption) (by omega) (by first | exact CtxI.no | (refine' CtxI.yes ?k1 ?k2; (case k2 => assumption); (case k1 => k_mem))) ?_); dsimp only; first | ((with_reducible show ∀ (_ : Heap), _); intro _ _ _ _ _ _ _ _) | (intro _))) | ((with_reducible refine un_stop 4 ?_); k_dflt (first | (refine' note_again ?k1 ?k2 ?_; (case k1 => assumption); (case k2 => assumption)) | (refine note_fresh rfl rfl (by assumption) (by assumption) (by assumption) (by assumption) (by assumption) (by assumption) rfl (List.forall_mem_cons.mpr ⟨by assumption, List.forall_mem_cons.mpr ⟨by assumption, by assumption⟩⟩) ?_; intro _ _ _ _ _ _ _ _ _ _))) | ((with_reducible refine un_stop 5 ?_); (k_dflt (refine flight_set (by assumption) (by assumption) (by assumption) (by assumption) (by assumption) ?_); intro _ _ _ _ _))); k_steps))))
              · exact beq_false_of_ne (hs2.next_ne hy hy1)
              · rename Fr _ _ _ _ => F9
                exact hE (i + 1) (j + 1) _ _ _ _ _ _ _ _ _ _ F9 (.noted _ _ _ _ _ (by assumption) (by assumption) (by assumption) (by assumption)) ⟨_, _, rfl, rfl, mM, mU, mE, mA⟩ hms hxs hI' (.inl (by omega))
            · have hy1 : ItI ss2 ((j : Int) + 1) none := .out1 hj1 (by omega)
              refine while_none ?_
              (k_steps; (repeat (any_goals ((first | ((with_reducible refine un_stop 1 ?_); (k_dflt (refine app_any (by k_asm) (by k_asm) (by intro _; k_upd) (by omega) ?_); intro _ _ _ _)) | ((with_reducible refine un_stop 2 ?_); (k_dflt (refine pass_on (by assumption) (by assumption) (by assumption) (by assumption) (by assumption) ?_); intro _ _ _ _ _)) | ((with_reducible refine un_stop 3 ?_); (k_dflt (refine item_any (by assumption) (by assumption) (by k_mem) (by assumption) (by assumption) (by omega) (by first | exact CtxI.no | (refine' CtxI.yes ?k1 ?k2; (case k2 => assumption); (case k1 => k_mem))) ?_); dsimp only; first | ((with_reducible show ∀ (_ : Heap), _); intro _ _ _ _ _ _ _ _) | (intro _))) | ((with_reducible refine un_stop 4 ?_); k_dflt (first | (refine' note_again ?k1 ?k2 ?_; (case k1 => assumption); (case k2 => assumption)) | (refine note_fresh rfl rfl (by assumption) (by assumption) (by assumption) (by assumption) (by assumption) (by assumption) rfl (List.forall_mem_cons.mpr ⟨by assumption, List.forall_mem_cons.mpr ⟨by assumption, by assumption⟩⟩) ?_; intro _ _ _ _ _ _ _ _ _ _))) | ((with_reducible refine un_stop 5 ?_); (k_dflt (refine flight_set (by assumption) (by assumption) (by assumption) (by assumption) (by assumption) ?_); intro _ _ _ _ _))); k_steps))))
              rename News _ _ _ _ => N9
              rename (∀ p ∈ _ :: _ :: _, _ ≠ _) => n9
              have N10 := skip_news N9
              have n10 := skip_ne n9
              clear N9 n9
              unfold notedBy
              (k_steps; (repeat (any_goals ((first | ((with_reducible refine un_stop 1 ?_); (k_dflt (refine app_any (by k_asm) (by k_asm) (by intro _; k_upd) (by omega) ?_); intro _ _ _ _)) | ((with_reducible refine un_stop 2 ?_); (k_dflt (refine pass_on (by assumption) (by assumption) (by assumption) (by assumption) (by assumption) ?_); intro _ _ _ _ _)) | ((with_reducible refine un_stop 3 ?_); (k_dflt (refine item_any (by assumption) (by assumption) (by k_mem) (by assumption) (by assumption) (by omega) (by first | exact CtxI.no | (refine' CtxI.yes ?k1 ?k2; (case k2 => assumption); (case k1 => k_mem))) ?_); dsimp only; first | ((with_reducible show ∀ (_ : Heap), _); intro _ _ _ _ _ _ _ _) | (intro _))) | ((with_reducible refine un_stop 4 ?_); k_dflt (first | (refine' note_again ?k1 ?k2 ?_; (case k1 => assumption); (case k2 => assumption)) | (refine note_fresh rfl rfl (by assumption) (by assumption) (by assumption) (by assumption) (by assumption) (by assumption) rfl (List.forall_mem_cons.mpr ⟨by assumption, List.forall_mem_cons.mpr ⟨by assumption, by assumption⟩⟩) ?_; intro _ _ _ _ _ _ _ _ _ _))) | ((with_reducible refine un_stop 5 ?_); (k_dflt (refine flight_set (by assumption) (by assumption) (by assumption) (by assumption) (by assumption) ?_); intro _ _ _ _ _))); k_steps))))
              refine came_back (by assumption) (by assumption) (by assumption) (by assumption) (by assumption) ?_
              intro h9 t9 F9 N9 X9
              exact hE (i + 1) (j + 1) _ _ _ _ _ _ _ _ _ _ F9 (.noted _ _ _ _ _ N9 X9 (by assumption) (by assumption)) ⟨_, _, rfl, rfl, mM, mU, mE, mA⟩ hms hxs hI' (.inl (by omega))
      · have hyo : ItI ss2 j none := .out0 hj' (by omega)
        (k_steps; (repeat (any_goals ((first | ((with_reducible refine un_stop 1 ?_); (k_dflt (refine app_any (by k_asm) (by k_asm) (by intro _; k_upd) (by omega) ?_); intro _ _ _ _)) | ((with_reducible refine un_stop 2 ?_); (k_dflt (refine pass_on (by assumption) (by assumption) (by assumption) (by assumption) (by assumption) ?_); intro _ _ _ _ _)) | ((with_reducible refine un_stop 3 ?_); (k_dflt (refine item_any (by assumption) (by assumption) (by k_mem) (by assumption) (by assumption) (by omega) (by first | exact CtxI.no | (refine' CtxI.yes ?k1 ?k2; (case k2 => assumption); (case k1 => k_mem))) ?_); dsimp only; first | ((with_reducible show ∀ (_ : Heap), _); intro _ _ _ _ _ _ _ _) | (intro _))) | ((with_reducible refine un_stop 4 ?_); k_dflt (first | (refine' note_again ?k1 ?k2 ?_; (case k1 => assumption); (case k2 => assumption)) | (refine note_fresh rfl rfl (by assumption) (by assumption) (by assumption) (by assumption) (by assumption) (by assumption) rfl (List.forall_mem_cons.mpr ⟨by assumption, List.forall_mem_cons.mpr ⟨by assumption, by assumption⟩⟩) ?_; intro _ _ _ _ _ _ _ _ _ _))) | ((with_reducible refine un_stop 5 ?_); (k_dflt (refine flight_set (by assumption) (by assumption) (by assumption) (by assumption) (by assumption) ?_); intro _ _ _ _ _))); k_steps))))
        rename Fr _ _ _ _ => F9
        exact hE i j _ _ _ _ _ _ _ _ _ _ F9 (.fresh _ _ (by assumption) (by assumption) (by assumption)) ⟨_, _, mi, mj, mM, mU, mE, mA⟩ hms hxs hI (.inr hyo.len)
    · have hxo : ItI ss1 i none := .out0 hi' (by omega)
      (k_steps; (repeat (any_goals ((first | ((with_reducible refine un_stop 1 ?_); (k_dflt (refine app_any (by k_asm) (by k_asm) (by intro _; k_upd) (by omega) ?_); intro _ _ _ _)) | ((with_reducible refine un_stop 2 ?_); (k_dflt (refine pass_on (by assumption) (by assumption) (by assumption) (by assumption) (by assumption) ?_); intro _ _ _ _ _)) | ((with_reducible refine un_stop 3 ?_); (k_dflt (refine item_any (by assumption) (by assumption) (by k_mem) (by assumption) (by assumption) (by omega) (by first | exact CtxI.no | (refine' CtxI.yes ?k1 ?k2; (case k2 => assumption); (case k1 => k_mem))) ?_); dsimp only; first | ((with_reducible show ∀ (_ : Heap), _); intro _ _ _ _ _ _ _ _) | (intro _))) | ((with_reducible refine un_stop 4 ?_); k_dflt (first | (refine' note_again ?k1 ?k2 ?_; (case k1 => assumption); (case k2 => assumption)) | (refine note_fresh rfl rfl (by assumption) (by assumption) (by assumption) (by assumption) (by assumption) (by assumption) rfl (List.forall_mem_cons.mpr ⟨by assumption, List.forall_mem_cons.mpr ⟨by assumption, by assumption⟩⟩) ?_; intro _ _ _ _ _ _ _ _ _ _))) | ((with_reducible refine un_stop 5 ?_); (k_dflt (refine flight_set (by assumption) (by assumption) (by assumption) (by assumption) (by assumption) ?_); intro _ _ _ _ _))); k_steps))))
      rename Fr _ _ _ _ => F9
      exact hE i j _ _ _ _ _ _ _ _ _ _ F9 (.fresh _ _ (by assumption) (by assumption) (by assumption)) ⟨_, _, mi, mj, mM, mU, mE, mA⟩ hms hxs hI (.inl hxo.len)
end
section
section
open PySem.Calls
variable {prog : Program} {w : World} {A : Around} {E : Value → Shared → Prop} {s : Shared} {h₀ : Heap} {env : Env} {m : Str → Option Value} {news : List (Addr × Obj)} {Q : Flow → Shared → Prop} {body : List Stmt}
/-- what a turn of a loop leaves: what the loop itself keeps (own) and the new ledger -/
noncomputable def TurnEnd (h₀ : Heap) (L : Addr) (J : (Str → Option Value) → List (Addr × Obj) → Prop) (own : List (Addr × Obj)) (s : Shared) : Flow → Shared → Prop
  | .next, s' | .cont, s' => ∃ h' tk' m' nw, s' = { s with heap := h', toks := tk' } ∧ Fr h₀ L h' m' ∧ News h₀ L h' (own ++ nw) ∧ (∀ p ∈ nw, ∀ q ∈ own, p.1 ≠ q.1) ∧ J m' nw
  | _, _ => False
theorem turn_next {L : Addr} {J : (Str → Option Value) → List (Addr × Obj) → Prop} {own nw : List (Addr × Obj)} {h' : Heap} {m' : Str → Option Value} {tk' : Nat} (F : Fr h₀ L h' m') (N : News h₀ L h' (own ++ nw)) (hs : ∀ p ∈ nw, ∀ q ∈ own, p.1 ≠ q.1) (hJ : J m' nw) :
    TurnEnd h₀ L J own s .next { s with heap := h', toks := tk' } := ⟨_, _, _, _, rfl, F, N, hs, hJ⟩
theorem turn_cont {L : Addr} {J : (Str → Option Value) → List (Addr × Obj) → Prop} {own nw : List (Addr × Obj)} {h' : Heap} {m' : Str → Option Value} {tk' : Nat} (F : Fr h₀ L h' m') (N : News h₀ L h' (own ++ nw)) (hs : ∀ p ∈ nw, ∀ q ∈ own, p.1 ≠ q.1) (hJ : J m' nw) :
    TurnEnd h₀ L J own s .cont { s with heap := h', toks := tk' } := ⟨_, _, _, _, rfl, F, N, hs, hJ⟩
theorem frs_at {L I : Addr} {h h' : Heap} (F : Fr h₀ L h m) (hI : I ≠ L) (hI0 : h₀.get? I = none) (hs : Heap.SameBut I h h') : Fr h₀ L h' m := F.change hs hI hI0
theorem turn_split {L : Addr} {J : (Str → Option Value) → List (Addr × Obj) → Prop} {own : List (Addr × Obj)} {f : Flow} {s' : Shared} (p : TurnEnd h₀ L J own s f s') : (f = .next ∨ f = .cont) ∧ TurnEnd h₀ L J own s .next s' := by
  cases f with
  | next => exact ⟨.inl rfl, p⟩
  | cont => exact ⟨.inr rfl, p⟩
  | brk => exact False.elim p
  | ret v => exact False.elim p
/-- a loop whose body neither breaks nor returns: what a turn owes -/
theorem loop_F {target : PySem.Expr} {it : Value} (I : Nat → Shared → Prop) (hE : PassesOwn (model prog w) A env E)
    (turn : ∀ n s, I n s → ∀ (E₀ E₁ E₂ : Value → Shared → Prop) (B D : Shared → Prop), (∀ s₂, wpAny (model prog w) A (execs body env) (fun f s₃ => (f = .next ∨ f = .cont) ∧ ∃ m, m < n ∧ I m s₃) E s₂ → B s₂) → (∀ s₁, Q .next s₁ → D s₁) →
      wpAny (model prog w) A (pyNext it) (fun r s₁ => match r with
        | none => D s₁
        | some v => wpAny (model prog w) A (letOwnedTupleGo target it v) (fun _ s₁' => wpAny (model prog w) A (assign target env v) (fun _ s₂ => B s₂) E₂ s₁') E₁ s₁) E₀ s)
    (n : Nat) (h : I n s) : codeAny (model prog w) A (.forLoop target it body [] env) (fun r s' => match r with | .ok f => Q f s' | .error e => cameBackBy (model prog w) A env E e s') s := by
  refine codeAny_forLoop_any I (fun n s hI => ?_) n h
  refine wpAny_mono (turn n s hI (notedBy (model prog w) A env (cameBackBy (model prog w) A env E)) (notedBy (model prog w) A env (cameBackBy (model prog w) A env E)) (notedBy (model prog w) A env (cameBackBy (model prog w) A env E))
    (fun s₂ => wpAny (model prog w) A (execs body env) (fun f s₃ => match f with | .next | .cont => ∃ m, m < n ∧ I m s₃ | .brk => Q .next s₃ | .ret v => Q (.ret v) s₃) (notedBy (model prog w) A env (cameBackBy (model prog w) A env E)) s₂)
    (fun s₁ => Q .next s₁) (fun s₂ q => wpAny_mono (wpAny_passesOwn hE q) (fun f s₃ p => ?_) fun _ _ e => e) fun _ q => q) (fun r s₁ q => ?_) fun _ _ e => e
  rotate_left
  · cases r with
    | none => exact wpAny_execs_nil q
    | some v => exact q
  · obtain ⟨q | q, p⟩ := p
    · subst q; exact p
    · subst q; exact p
/-- before a turn over a range -/
inductive RangeS (h₀ : Heap) (L I : Addr) (a : Int) (n : Nat) (s : Shared) (J : Nat → (Str → Option Value) → List (Addr × Obj) → Prop) (k : Nat) (s' : Shared) : Prop
  | mk (h : Heap) (tk : Nat) (m₁ : Str → Option Value) (nw : List (Addr × Obj)) (i : Nat) : s' = { s with heap := h, toks := tk } → IsRangeIter h I (a + (i : Nat)) ((n : Int) - (i : Nat)) 1 → Fr h₀ L h m₁ → News h₀ L h nw → (∀ p ∈ nw, p.1 ≠ I) → J i m₁ nw → i ≤ n → k = n + 1 - i → RangeS h₀ L I a n s J k s'
/-- a loop over a range, step 1 -/
theorem range_loop {x : Str} {px : Pos} {r : Addr} {a b : Int} {t u v : Tok} {n : Nat} (J : Nat → (Str → Option Value) → List (Addr × Obj) → Prop)
    (hh : A.handled = none) (hx : env.kindOf x = some .local) (hp : (env.scope.kind == .class || (env.scope.kind == .module && env.locals != env.globals)) = false)
    (hr : IsRange s.heap r a b 1 t u v) (hsm : Builtin.Range.small a b 1 = true) (hn : Builtin.Range.rangeSize a b 1 = (n : Int))
    (F : Fr h₀ env.locals s.heap m) (N : News h₀ env.locals s.heap news) (hJ : J 0 m news)
    (turn : ∀ i m₁ nw h tk I oI ti, i < n → J i m₁ nw → (∀ p ∈ nw, p.1 ≠ I) → Fr h₀ env.locals h (fun y => if y = x then some (.int (a + (i : Int)) ti) else m₁ y) → News h₀ env.locals h ((I, oI) :: nw) →
      wpAny (model prog w) A (execs body env) (TurnEnd h₀ env.locals (J (i + 1)) [(I, oI)] { s with heap := h, toks := tk }) E { s with heap := h, toks := tk })
    (done : ∀ m₁ nw h tk, J n m₁ nw → Fr h₀ env.locals h m₁ → News h₀ env.locals h nw → Q .next { s with heap := h, toks := tk })
    (hE : PassesOwn (model prog w) A env E := by passes_own) :
    wpAny (model prog w) A (pyIter (.ref r)) (fun it s₂ => codeAny (model prog w) A (.forLoop (.Name x px) it body [] env) (fun r s' => match r with | .ok f => Q f s' | .error e => cameBackBy (model prog w) A env E e s') s₂) E s := by
  refine wpAny_pyIter_range hr hsm ?_
  rw [hn]
  have hI0 := next_is_new F
  have hIL : s.heap.objs.size ≠ env.locals := Nat.ne_of_gt F.ns.lt
  generalize hI : s.heap.objs.size = I at hI0 hIL
  refine loop_F (RangeS h₀ env.locals I a n s J) hE (fun k s' hJ1 E₀ E₁ E₂ B D hB hD => ?_) (n + 1)
    ⟨_, s.toks, m, news, 0, rfl, by subst hI; simpa using Heap.get?_push_size s.heap (o := { cls := .type "range_iterator", data := .fields #[rawInt a, rawInt (n : Int), rawInt 1] }) rfl, F.push _, N.grown fun _ _ e => Heap.get?_push_of_some _ e, fun p hp => by subst hI; exact Nat.ne_of_lt (Heap.lt_size (N p hp).1), hJ, Nat.zero_le _, rfl⟩
  refine (let G9 : Prop := _; show G9 from ?_)
  obtain ⟨h, tk, m₁, nw, i, rfl, hit, F₁, N₁, hap, hJ₁, hi, rfl⟩ := hJ1
  k_unfold
  by_cases hlt : i < n
  · refine wpAny_pyNext_range_item hit (by omega) fun h₁ hit₁ hs₁ => ?_
    refine wpAny_of_eq (a := ()) rfl ?_
    have F₂ := F₁.change hs₁ hIL hI0
    refine wpAny_assign_Name (wpAny_storeName_local hx F₂.ns (fun h₂ hn₂ hs₂ => ?_) hp)
    have F₃ : Fr h₀ env.locals h₂ (fun y => if y = x then some (.int (a + (i : Int)) tk) else m₁ y) := F₂.set hn₂ hs₂
    have N₃ : News h₀ env.locals h₂ ((I, { cls := .type "range_iterator", data := .fields #[rawInt (a + (i : Int) + 1), rawInt ((n : Int) - (i : Nat) - 1), rawInt 1] }) :: nw) := by
      intro p hp
      rcases List.mem_cons.mp hp with rfl | hp
      · exact ⟨(hs₂.2 I hIL).trans hit₁, hIL, hI0⟩
      · exact ⟨(hs₂.2 _ (N₁ p hp).2.1).trans ((hs₁.2 _ (hap p hp)).trans (N₁ p hp).1), (N₁ p hp).2⟩
    refine hB _ (wpAny_mono (turn i m₁ nw h₂ _ I _ tk hlt hJ₁ hap F₃ N₃) (fun f s₃ p => ⟨(turn_split p).1, ?_⟩) fun _ _ e => e)
    obtain ⟨h', tk', m', nw', rfl, F', N', hap', hJ'⟩ := (turn_split p).2
    refine ⟨n + 1 - (i + 1), turn_lt hlt, h', tk', m', nw', i + 1, rfl, ?_, F', fun p hp => N' p (.tail _ hp), fun p hp => hap' p hp _ (.head _), hJ', hlt, rfl⟩
    have e1 : a + ((i + 1 : Nat) : Int) = a + (i : Int) + 1 := by push_cast; omega
    have e2 : (n : Int) - ((i + 1 : Nat) : Int) = (n : Int) - (i : Int) - 1 := by push_cast; omega
    rw [e1, e2]
    exact (N' _ (.head _)).1
  · have hin : i = n := Nat.le_antisymm hi (Nat.not_lt.mp hlt)
    subst hin
    refine wpAny_pyNext_range_end hh hit (by omega) fun h₁ he₁ => ?_
    refine hD _ (done m₁ nw h₁ tk hJ₁ ⟨F₁.ns.extBut he₁ (Ne.symm hIL), fun b o e => he₁ b o (fun q => by rw [q, hI0] at e; cases e) (F₁.keep b o e), F₁.above⟩ fun p hp => ⟨he₁ _ _ (hap p hp) (N₁ p hp).1, (N₁ p hp).2⟩)
end
noncomputable abbrev enumO (it : Addr) (i : Int) (old : Value) : Obj := { cls := .type "enumerate", dict := none, data := .fields #[.none, .bool false, .ref it, rawInt i, .none, old], slots := #[] }
section
open PySem.Calls
variable {prog : Program} {w : World} {A : Around} {E : Value → Shared → Prop} {s : Shared} {h₀ : Heap} {env : Env} {m : Str → Option Value} {news : List (Addr × Obj)} {Q : Flow → Shared → Prop} {body : List Stmt}
/-- before a turn over an enumerate -/
inductive EnumS (h₀ : Heap) (L e it l : Addr) (len : Nat) (s : Shared) (J : Nat → (Str → Option Value) → List (Addr × Obj) → Prop) (k : Nat) (s' : Shared) : Prop
  | mk (h : Heap) (tk : Nat) (m₁ : Str → Option Value) (nw : List (Addr × Obj)) (i : Nat) (old : Value) : s' = { s with heap := h, toks := tk } → IsEnum h e it ((i : Nat) : Int) old → h.IsListIter it l i → Fr h₀ L h m₁ → News h₀ L h nw → (∀ p ∈ nw, p.1 ≠ e ∧ p.1 ≠ it) → J i m₁ nw → i ≤ len → k = len + 1 - i → EnumS h₀ L e it l len s J k s'
/-- a loop over enumerate(list), whose items the body may change -/
theorem enum_loop {xi xv : Str} {pi pv pt : Pos} {x1} {e it l : Addr} {len : Nat} {oi : Obj} (J : Nat → (Str → Option Value) → List (Addr × Obj) → Prop)
    (hh : A.handled = none) (hxi : env.kindOf xi = some .local) (hxv : env.kindOf xv = some .local) (hp : (env.scope.kind == .class || (env.scope.kind == .module && env.locals != env.globals)) = false)
    (hei : e ≠ it) (F : Fr h₀ env.locals s.heap m) (N : News h₀ env.locals s.heap ((e, enumO it 0 .none) :: (it, oi) :: news)) (hit : oi.cls = .type "list_iterator" ∧ oi.data = .fields #[.ref l, .int 0 0]) (hap : ∀ p ∈ news, p.1 ≠ e ∧ p.1 ≠ it) (hJ : J 0 m news)
    (hl : ∀ i m₁ nw, J i m₁ nw → ∃ vs n, (l, PySem.W.listOf vs n) ∈ nw ∧ vs.size = len)
    (turn : ∀ i v m₁ nw h tk oe oi ti, J i m₁ nw → i < len → (∀ vs n, (l, PySem.W.listOf vs n) ∈ nw → vs[i]? = some v) → (∀ p ∈ nw, p.1 ≠ e ∧ p.1 ≠ it) → Fr h₀ env.locals h (fun y => if y = xv then some v else if y = xi then some (.int (i : Nat) ti) else m₁ y) → News h₀ env.locals h ((e, oe) :: (it, oi) :: nw) →
      wpAny (model prog w) A (execs body env) (TurnEnd h₀ env.locals (J (i + 1)) [(e, oe), (it, oi)] { s with heap := h, toks := tk }) E { s with heap := h, toks := tk })
    (done : ∀ m₁ nw h tk, J len m₁ nw → Fr h₀ env.locals h m₁ → News h₀ env.locals h nw → Q .next { s with heap := h, toks := tk })
    (hE : PassesOwn (model prog w) A env E := by passes_own) :
    wpAny (model prog w) A (pyIter (.ref e)) (fun it s₂ => codeAny (model prog w) A (.forLoop (.Tuple [.Name xi pi, .Name xv pv] x1 pt) it body [] env) (fun r s' => match r with | .ok f => Q f s' | .error e => cameBackBy (model prog w) A env E e s') s₂) E s := by
  have he0 : IsEnum s.heap e it 0 .none := (N _ (.head _)).1
  refine (let G9 : Prop := _; show G9 from ?_)
  obtain ⟨hi1, hiL, hi0⟩ := N _ (.tail _ (.head _))
  k_unfold
  have heL : e ≠ env.locals := (N _ (.head _)).2.1
  have hE0 : h₀.get? e = none := (N _ (.head _)).2.2
  refine wpAny_pyIter_enum he0 ?_
  refine loop_F (EnumS h₀ env.locals e it l len s J) hE (fun k s' hJ1 E₀ E₁ E₂ B D hB hD => ?_) (len + 1)
    ⟨s.heap, s.toks, m, news, 0, .none, rfl, he0, ⟨oi, hi1, hit.1, hit.2⟩, F, fun p hp => N p (.tail _ (.tail _ hp)), hap, hJ, Nat.zero_le _, rfl⟩
  refine (let G9 : Prop := _; show G9 from ?_)
  obtain ⟨H, tk, m₁, nw, i, old, rfl, he, hI, F₁, N₁, hap₁, hJ₁, hi, rfl⟩ := hJ1
  k_unfold
  refine (let G9 : Prop := _; show G9 from ?_)
  obtain ⟨vs, nn, hm, hsz⟩ := hl i m₁ nw hJ₁
  k_unfold
  have hls : H.IsList l vs := ⟨_, (N₁ _ hm).1, rfl, nn, rfl⟩
  by_cases hlt : i < len
  · have hv : vs[i]? = some vs[i] := Array.getElem?_eq_getElem (by omega)
    have heH : e < H.objs.size := Heap.lt_size he
    have hiH : it < H.objs.size := by obtain ⟨_, x, _⟩ := hI; exact Heap.lt_size x
    refine wpAny_pyNext_enum_item he hI hls hv hei fun h₁ heo hit₁ ht₁ hz₁ hk₁ => ?_
    refine wpAny_letOwnedTupleGo_enum heo fun h₂ he₂ hs₂ => ?_
    replace hs₂ : Heap.SameBut e h₁ h₂ := hs₂
    have ht₂ : h₂.IsTuple H.objs.size #[.int i tk, vs[i]] := ⟨_, (hs₂.2 _ (Nat.ne_of_gt heH)).trans ht₁, rfl, _, rfl⟩
    have hz₂ : h₂.objs.size = H.objs.size + 1 := hs₂.1.trans hz₁
    refine wpAny_assign_Tuple hh ht₂ rfl rfl fun h₃ hx₃ => ?_
    replace hx₃ : Heap.ExtBut h₂.objs.size h₂ h₃ := hx₃
    have up₂ : ∀ b o, b ≠ e → b ≠ it → H.get? b = some o → h₂.get? b = some o := fun b o h1 h2 x => (hs₂.2 b h1).trans (hk₁ b o h1 h2 x)
    have up₃ : ∀ b o, b < H.objs.size → h₂.get? b = some o → h₃.get? b = some o := fun b o hb x => hx₃ b o (by rw [hz₂]; exact Nat.ne_of_lt (Nat.lt_succ_of_lt hb)) x
    have up : ∀ b o, b ≠ e → b ≠ it → H.get? b = some o → h₃.get? b = some o := fun b o h1 h2 x => up₃ b o (Heap.lt_size x) (up₂ b o h1 h2 x)
    have F₃ : Fr h₀ env.locals h₃ m₁ := by
      refine (let G9 : Prop := _; show G9 from ?_)
      obtain ⟨oM, a1, a2, hM, hr⟩ := F₁.ns
      k_unfold
      exact ⟨⟨oM, a1, a2, up _ _ (Ne.symm heL) (Ne.symm hiL) hM, hr⟩, fun b o x => up b o (fun q => by rw [q, hE0] at x; cases x) (fun q => by rw [q] at x; rw [show h₀.get? it = none from hi0] at x; cases x) (F₁.keep b o x), F₁.above⟩
    show wpAny _ A (do holding [vs[i]] (assign (.Name xi pi) env (.int i tk)); do holding [] (assign (.Name xv pv) env vs[i]); pure ()) _ _ _
    refine wpAny_bind (wpAny_holding (wpAny_assign_Name (wpAny_storeName_local hxi F₃.ns (fun h₄ hn₄ hs₄ => ?_) hp)))
    replace hs₄ : Heap.SameBut env.locals h₃ h₄ := hs₄
    refine wpAny_bind (wpAny_holding (wpAny_assign_Name (wpAny_storeName_local hxv hn₄ (fun h₅ hn₅ hs₅ => wpAny_pure ?_) hp)))
    replace hs₅ : Heap.SameBut env.locals h₄ h₅ := hs₅
    have F₅ := (F₃.set hn₄ hs₄).set hn₅ hs₅
    refine (let G9 : Prop := _; show G9 from ?_)
    obtain ⟨oi', hoi', hic, hid⟩ := hit₁
    k_unfold
    have N₅ : News h₀ env.locals h₅ ((e, enumO it ((i : Int) + 1) vs[i]) :: (it, oi') :: nw) := by
      intro p hp
      rcases List.mem_cons.mp hp with rfl | hp
      · exact ⟨(hs₅.2 _ heL).trans ((hs₄.2 _ heL).trans (up₃ e _ heH he₂)), heL, hE0⟩
      · rcases List.mem_cons.mp hp with rfl | hp
        · exact ⟨(hs₅.2 _ hiL).trans ((hs₄.2 _ hiL).trans (up₃ it _ hiH ((hs₂.2 it hei.symm).trans hoi'))), hiL, hi0⟩
        · exact ⟨(hs₅.2 _ (N₁ p hp).2.1).trans ((hs₄.2 _ (N₁ p hp).2.1).trans (up p.1 p.2 (hap₁ p hp).1 (hap₁ p hp).2 (N₁ p hp).1)), (N₁ p hp).2⟩
    refine hB _ (wpAny_mono (turn i vs[i] m₁ nw h₅ _ _ oi' tk hJ₁ hlt (fun vs' n' hm' => by
      have e := (N₁ _ hm').1.symm.trans (N₁ _ hm).1
      have e2 : Data.seq vs' n' = Data.seq vs nn := congrArg Obj.data (Option.some.inj e)
      injection e2 with e3
      rw [e3]; exact hv) hap₁ F₅ N₅) (fun f s₃ p => ⟨(turn_split p).1, ?_⟩) fun _ _ e => e)
    obtain ⟨h', tk', m', nw', rfl, F', N', hap', hJ'⟩ := (turn_split p).2
    refine ⟨len + 1 - (i + 1), turn_lt hlt, h', tk', m', nw', i + 1, vs[i], rfl, ?_, ⟨oi', (N' _ (.tail _ (.head _))).1, hic, hid⟩, F', fun p hp => N' p (.tail _ (.tail _ hp)), fun p hp => ⟨hap' p hp _ (.head _), hap' p hp _ (.tail _ (.head _))⟩, hJ', hlt, rfl⟩
    exact (N' _ (.head _)).1
  · have hin : i = len := Nat.le_antisymm hi (Nat.not_lt.mp hlt)
    subst hin
    refine wpAny_pyNext_enum_end hh he hI hls (Array.getElem?_eq_none (by omega)) fun h₁ he₁ => ?_
    refine hD _ (done m₁ nw h₁ tk hJ₁ ⟨F₁.ns.extBut he₁ (Ne.symm hiL), fun b o x => he₁ b o (fun q => by rw [q] at x; rw [show h₀.get? it = none from hi0] at x; cases x) (F₁.keep b o x), F₁.above⟩ fun p hp => ⟨he₁ _ _ (hap₁ p hp).2 (N₁ p hp).1, (N₁ p hp).2⟩)
end
section
open PySem.Calls
variable {prog : Program} {w : World} {A : Around} {E : Value → Shared → Prop} {s : Shared} {h₀ : Heap} {L l : Addr} {m : Str → Option Value} {news : List (Addr × Obj)}
/-- enumerate(list): its two objects stand in the ledger -/
theorem enum_call {vs : Array Value} {n : Nat} {Q : Value → Shared → Prop} (F : Fr h₀ L s.heap m) (N : News h₀ L s.heap news) (hm : (l, PySem.W.listOf vs n) ∈ news)
    (h : ∀ e it oi h', Fr h₀ L h' m → News h₀ L h' ((e, enumO it 0 .none) :: (it, oi) :: news) → (oi.cls = .type "list_iterator" ∧ oi.data = .fields #[.ref l, .int 0 0]) → (∀ p ∈ news, p.1 < it) → @LT.lt Nat _ it e → (∀ p ∈ news, p.1 ≠ e ∧ p.1 ≠ it) → Q (.ref e) { s with heap := h' }) :
    wpAny (model prog w) A (call (.type "enumerate") [.ref l]) Q E s := by
  have hl : s.heap.IsList l vs := ⟨_, (N _ hm).1, rfl, n, rfl⟩
  refine call_enumerate_list hl fun h' he hi hsz hk => ?_
  refine (let G9 : Prop := _; show G9 from ?_)
  obtain ⟨oi, hoi, hic, hid⟩ := hi
  k_unfold
  have lL : L < s.heap.objs.size := F.ns.lt
  have h0 : ∀ b, s.heap.objs.size ≤ b → h₀.get? b = none := fun b hb => by
    cases q : h₀.get? b with
    | none => rfl
    | some o => exact absurd (Heap.lt_size (F.keep _ _ q)) (Nat.not_lt_of_le hb)
  refine h _ _ oi h' (F.keeps hk) (fun p hp => ?_) ⟨hic, hid⟩ (fun p hp => Heap.lt_size (N p hp).1) (Nat.lt_succ_self _) (fun p hp => ⟨Nat.ne_of_lt (Nat.lt_succ_of_lt (Heap.lt_size (N p hp).1)), Nat.ne_of_lt (Heap.lt_size (N p hp).1)⟩)
  rcases List.mem_cons.mp hp with rfl | hp
  · exact ⟨he, Nat.ne_of_gt (Nat.lt_succ_of_lt lL), h0 _ (Nat.le_succ _)⟩
  · rcases List.mem_cons.mp hp with rfl | hp
    · exact ⟨hoi, Nat.ne_of_gt lL, h0 _ (Nat.le_refl _)⟩
    · exact ⟨hk _ _ (N p hp).1, (N p hp).2⟩
end
end
section
section
open PySem.Calls
open AutoSeq1 (wpAny_loadPart')
variable {prog : Program} {w : World} {A : Around} {E : Value → Shared → Prop} {s : Shared} {h₀ : Heap} {L : Addr} {m : Str → Option Value} {news : List (Addr × Obj)}
noncomputable abbrev plainObj : Obj := { cls := .type "object", data := .plain }
theorem obj_str_eq (x : Str) (t : Tok) (N : Addr) : Meets (Builtin.«str.__eq__» ⟨[.str x t, .ref N], []⟩) (fun _ R s => s.heap.get? N = some plainObj ∧ R (.ok (.ret .notImplemented)) s) :=
  .of_wp fun prog w A R s hs => by
    obtain ⟨hp, g, d, tk, os⟩ := s
    obtain ⟨ho, hq⟩ := hs
    have hT : Shared.TypeIs ⟨hp, g, d, tk, os⟩ (.ref N) "object" := ⟨_, ho, rfl⟩
    have hsub : isSubtype (.type "object") (.type "str") = pure false := by rw [isSubtype_type]; kernel_rfl
    wp_walk using wpAny_loadPart' ho
    all_goals exact ⟨_, rfl, hq⟩
theorem obj_obj_eq (x : Str) (t : Tok) (N : Addr) : Meets (Builtin.«object.__eq__» ⟨[.ref N, .str x t], []⟩) (fun _ R s => R (.ok (.ret .notImplemented)) s) :=
  .of_wp fun prog w A R s hq => by
    obtain ⟨hp, g, d, tk, os⟩ := s
    unfold Builtin.«object.__eq__»
    repeat (first | with_reducible refine wpAny_isSame_plain rfl ?_ | wp_step)
    exact ⟨_, rfl, hq⟩
/-- an object() is no text -/
theorem eq_obj_str {N : Addr} {x : Str} {t : Tok} {Q : Value → Shared → Prop} (ho : s.heap.get? N = some plainObj) (hu : A.units < cLine) (h : Q (.bool false) s) : wpAny (model prog w) A (compareOp .Eq (.ref N) (.str x t)) Q E s := by
  show wpAny _ A (richCompare .Eq _ _) Q E s
  have hN : s.TypeIs (.ref N) "object" := ⟨_, ho, rfl⟩
  have hsub : isSubtype (.type "str") (.type "object") = pure true := by rw [isSubtype_type]; kernel_rfl
  simp only [richCompare, cmpInfo, hN.oneThing_none]
  refine wpAny_holding ?_
  refine wpAny_bind (wpAny_cRoomFor_or (.inr hu) ?_)
  refine wpAny_bind (wpAny_typeOf hN (wpAny_bind (wpAny_typeOf (typeIs_str s x t) ?_)))
  rw [if_pos (by decide)]
  refine wpAny_bind (wpAny_of_eq hsub ?_)
  rw [if_pos rfl]
  refine wpAny_bind (wpAny_tryCompare_declines (typeIs_str s x t) F.slot_str_eq (call_meets F.slot_str_eq (typeIs_str s x t) F.entry_str_eq (F.args_str_eq_2 _ _) (obj_str_eq x t N) ⟨ho, rfl, ?_⟩))
  refine wpAny_bind (wpAny_tryCompare_declines hN F.slot_object_eq (call_meets F.slot_object_eq hN F.entry_object_eq (F.args_object_eq_2 _ _) (obj_obj_eq x t N) ⟨rfl, ?_⟩))
  simp only [Bool.not_true, Bool.false_eq_true, if_false]
  exact wpAny_bind (wpAny_rule (wpAny_bind (wpAny_isSame_plain rfl (wpAny_pure h))))
theorem mro_object : mroOf (.type "object") = pure [.type "object"] := by rw [mroOf_type]; kernel_rfl
theorem lookup_object_new : typeLookup (.type "object") "__new__" = pure (some (.builtin "object.__new__")) := by rw [typeLookup_type, builtinLookup_eq_fast]; kernel_rfl
theorem called_object : TypeCalled "object" "object.__new__" "object.__init__" :=
  ⟨by decide +kernel, by decide +kernel, ⟨_, _, mro_object⟩, madeBy_type mro_object lookup_object_new (by decide +kernel), by decide +kernel, by rw [isSubtype_type]; kernel_rfl, F.slot_object_init⟩
theorem madeHere_object : Bind.madeHere "object.__new__" (.type "object") = pure () := by
  unfold Bind.madeHere
  have e : Bind.staticBase (.type "object") = pure (.type "object") := by first | rfl | kernel_rfl
  rw [e]
  simp only [pure_bind, called_object.made]
  kernel_rfl
theorem meets_object_new : Meets (Builtin.«object.__new__» ⟨[.type "object"], []⟩) (fun _ R s => R (.ok (.ret (.ref s.heap.objs.size))) { s with heap := s.heap.push plainObj }) :=
  .of_wp fun prog w A R s hq => by
    obtain ⟨hp, g, d, tk, os⟩ := s
    have hmade := madeHere_object
    have hdict : typeHasDict (.type "object") = false := by decide +kernel
    have hdel : diesByItsTypesDel "object" = false := by decide +kernel
    unfold Builtin.«object.__new__»
    repeat (any_goals (first | assumption | wp_step))
    exact ⟨_, rfl, hq⟩
theorem meets_object_init (v : Value) : Meets (Builtin.«object.__init__» ⟨[v], []⟩) (fun _ R s => R (.ok (.ret .none)) s) :=
  .of_wp fun prog w A R s hq => wpAny_pure ⟨_, rfl, hq⟩
theorem object_call {Q : Value → Shared → Prop} (F1 : Fr h₀ L s.heap m) (N : News h₀ L s.heap news)
    (h : ∀ D h', Fr h₀ L h' m → News h₀ L h' ((D, plainObj) :: news) → (∀ p ∈ news, p.1 < D) → Q (.ref D) { s with heap := h' }) : wpAny (model prog w) A (call (.type "object") []) Q E s := by
  refine callType_meets (S := fun _ R s => R (.ok (.ret (.ref s.heap.objs.size))) { s with heap := s.heap.push plainObj }) (Q₁ := fun obj s₁ => s₁.TypeIs obj "object" ∧ Q obj s₁) called_object (by kernel_rfl) (by kernel_rfl) PySem.F.entry_object_new PySem.F.entry_object_init meets_object_new ⟨⟨_, Heap.get?_push_size _ rfl, rfl⟩, ?_⟩ fun obj s₁ h₁ => ?_
  · exact h _ _ (F1.push _) (fun p hp => by
      rcases List.mem_cons.mp hp with rfl | hp
      · exact ⟨Heap.get?_push_size _ rfl, Nat.ne_of_gt F1.ns.lt, next_is_new F1⟩
      · exact ⟨Heap.get?_push_of_some _ (N p hp).1, (N p hp).2⟩) fun p hp => Heap.lt_size (N p hp).1
  · exact ⟨h₁.1, PySem.F.args_object_init_1 obj, _, meets_object_init obj, rfl, h₁.2⟩
end
end
section
section
open PySem.Calls Builtin Builtin.ObjectAttr Builtin.Getset_descriptor
variable {prog : Program} {w : World} {A : Around} {K : Frag} {E : Value → Shared → Prop}
/-- a class that says its own __new__ by a def (a static method), and no __init__ -/
noncomputable def newIn (K : Frag) (C p f : Addr) : Bool := match K.lookup C with
  | some ⟨_, _, .cls cd, sl⟩ => !cd.mro.isEmpty && (sl.toList[4]?).join == some .none && cd.mro.contains (.ref C) && cd.mro.contains (.type "object") &&
      specialIn K (.ref C) "__call__" == some (some (.builtin "type.__call__")) && instIn K (.ref C) (.type "type") == some true && readsIn K C (.type "type") &&
      recIn K p "staticmethod" == some [.ref f] && findIn K (.ref C) "__init__" == some (some (.builtin "object.__init__"))
  | _ => false
structure NewOf (M : Model) (h : Heap) (K : Frag) (C p f : Addr) : Prop where
  obj : ∃ oc od cd sl, h.get? C = some ⟨oc, od, .cls cd, sl⟩ ∧ cd.mro.isEmpty = false
  mro : ∃ l, l.isEmpty = false ∧ Looks M h (mroOf (.ref C)) l
  made : Looks M h (Bind.madeBy (.ref C)) none
  self : Looks M h (isSubtype (.ref C) (.ref C)) true
  top : Looks M h (isSubtype (.ref C) (.type "object")) true
  call : Looks M h (specialOf (.ref C) "__call__") (some (.builtin "type.__call__"))
  typ : Looks M h (isInstance (.ref C) (.type "type")) true
  init : Looks M h (typeLookup (.ref C) "__init__") (some (.builtin "object.__init__"))
  reads : readsIn K C (.type "type") = true
  stat : recIn K p "staticmethod" = some [.ref f]
theorem newOf {M : Model} {h : Heap} {C p f : Addr} (X : K.In h) (e : newIn K C p f = true) : NewOf M h K C p f := by
  unfold newIn at e
  split at e
  · rename_i oc od cd sl ho
    simp only [Bool.and_eq_true, Bool.not_eq_true', beq_iff_eq] at e
    obtain ⟨⟨⟨⟨⟨⟨⟨⟨e1, e2⟩, e3⟩, e4⟩, e5⟩, e6⟩, e7⟩, e8⟩, e9⟩ := e
    have hc : clsIn K C = some cd := by unfold clsIn; rw [ho]
    have hm : Looks M h (mroOf (.ref C)) cd.mro := (looks_clsIn X hc).andThen .now
    obtain ⟨c, l, hl⟩ : ∃ c l, cd.mro = c :: l := by cases q : cd.mro with | nil => rw [q] at e1; cases e1 | cons c l => exact ⟨c, l, rfl⟩
    refine ⟨⟨oc, od, cd, sl, X _ _ ho, e1⟩, ⟨cd.mro, e1, hm⟩, ?_, looks_mroIn X ?_, looks_mroIn X ?_, looks_specialIn X e5, looks_instIn X e6, looks_findIn X e9, e7, e8⟩
    · intro A Q E s k q
      unfold Bind.madeBy
      refine wpAny_bind (hm A _ E s k ?_)
      rw [hl, List.forIn_cons]
      refine wpAny_bind (wpAny_bind (wpAny_bind (wpAny_bind (wpAny_loadPart (k _ _ (X _ _ ho)) (wpAny_pure ?_)))))
      dsimp only
      rw [← Array.getElem?_toList, e2]
      exact wpAny_pure (wpAny_pure (wpAny_pure q))
    · unfold mroIn; rw [hc, Option.bind_some, if_neg (by rw [e1]; decide), e3]
    · unfold mroIn; rw [hc, Option.bind_some, if_neg (by rw [e1]; decide), e4]
  · cases e
noncomputable def NewPost (K : Frag) (C : Addr) (Q : Value → Shared → Prop) (v : Value) (s' : Shared) : Prop := ∃ x ox, v = .ref x ∧ s'.heap.get? x = some ox ∧ ox.cls = .ref C ∧ K.In s'.heap ∧ Q v s'
theorem oi_args4 (a b c d : Value) : argsOk "object.__init__" ⟨[a, b, c, d], []⟩ := by unfold argsOk; kernel_rfl
theorem get_new {C p f : Addr} {Q : Value → Shared → Prop} {s : Shared} (X : K.In s.heap) (hr : readsIn K C (.type "type") = true) (e : findCls K (.ref C) (.type "type") "__new__" = some (.get (.builtin "staticmethod.__get__") (.ref p) .none (.ref C)))
    (hp : recIn K p "staticmethod" = some [.ref f]) (hh : handedIn (.ref f) = true) (h : Q (.ref f) { s with toks := s.toks + 1 }) : wpAny (model prog w) A (getAttr (.ref C) "__new__") Q E s :=
  cls_bind X hr e (wpAny_call (sm_get (s := { s with toks := s.toks + 1 }) X hp (handed_on hh h)))
set_option maxRecDepth 100000 in
set_option maxHeartbeats 4000000 in
theorem mk_own {C p f : Addr} {a b c : Value} {Q : Value → Shared → Prop} {h : Heap} {g : Array GenState} {d : Drawn} {t : Nat} {os : OsState} (X : K.In h) (en : newIn K C p f = true) (e : findCls K (.ref C) (.type "type") "__new__" = some (.get (.builtin "staticmethod.__get__") (.ref p) .none (.ref C)))
    (hh : handedIn (.ref f) = true)
    (hnew : wpAny (model prog w) (A.under (.builtin "type.__call__" ⟨.ref C :: [a, b, c], []⟩)) (call (.ref f) [.ref C, a, b, c]) (NewPost K C Q) E ⟨h, g, d, t + 1, os⟩) :
    wpAny (model prog w) A (call (.ref C) [a, b, c]) Q E ⟨h, g, d, t, os⟩ := by
  obtain ⟨⟨oc, od, cd, sl, hC, e4⟩, ⟨l, hl, mro⟩, made, self, top, call, typ, init, reads, hrec⟩ := newOf (M := model prog w) X en
  refine wpAny_call (codeAny_of_tree ?_)
  show wpAny _ _ (callAny (.ref C) _) _ _ _
  refine nd_load hC ?_
  show wpAny _ _ (callAny.viaDunder (.ref C) _) _ _ _
  unfold callAny.viaDunder
  refine wpAny_bind (call.at ?_)
  dsimp only
  rw [tc_bind]
  refine wpAny_bind (wpAny_pure (wpAny_bind (wpAny_pure ?_)))
  refine wpAny_pure (a := Fin.again (.call (.builtin "type.__call__") ⟨.ref C :: [a, b, c], []⟩)) (And.intro rfl ?_)
  refine codeAny_call_builtin_at (Code.quiet_builtin _ (by decide +kernel)) entry_typeCall (check_slot (i := "type.__call__") (owner := "type") (n := "__call__") (self := .ref C) (rest := [a, b, c]) (kw := []) tc_kind tc_split typ (tc_args _ _ _) ?_)
  unfold Builtin.«type.__call__»
  repeat (first | (with_reducible refine wpAny_ite_false ?ci ?_; (case ci => simp [hl])) | with_reducible refine get_new X reads e hrec hh ?_ | ((fail_if_success (with_reducible show wpAny _ _ (PySem.call _ _ _) _ _ _)); lk))
  refine wpAny_mono hnew (fun v s' z => ?_) (fun _ _ z => z)
  obtain ⟨x, ox, rfl, hx, hxc, X', hq⟩ := z
  obtain ⟨h', g', d', t', os'⟩ := s'
  have t1 : Looks (model prog w) h' (typeOf (.ref x)) (.ref C) := hxc ▸ (Looks.ld hx).andThen .now
  obtain ⟨_, _, m1, s1, s2, _, _, i1, _, _⟩ := newOf (M := model prog w) X' en
  have b1 : Looks (model prog w) h' (bindSpecial (.builtin "object.__init__") (.ref x)) (.builtin "object.__init__", [.ref x]) := Looks.of_pure (oi_bind _)
  unfold isInstance callSpecial? specialOf
  repeat (first | with_reducible refine wpAny_call ?_ | lk)
  refine codeAny_call_builtin oi_plain entry_oi (check_slot (i := "object.__init__") (owner := "object") (n := "__init__") (self := .ref x) (rest := [a, b, c]) (kw := []) oi_kind oi_split (t1.andThen s2) (oi_args4 _ _ _ _) ?_)
  unfold Builtin.«object.__init__»
  repeat lk
  exact hq
end
end
section
section
open PySem.Calls Builtin Builtin.ObjectAttr Builtin.Getset_descriptor
variable {prog : Program} {w : World} {A : Around} {K : Frag} {E : Value → Shared → Prop}
/-- a class on top of tuple, with a __new__ of its own -/
noncomputable def tupIn (K : Frag) (C : Addr) : Bool := match K.lookup C with
  | some ⟨_, _, .cls cd, sl⟩ => (sl.toList[4]?).join == some .none && cd.mro == [.ref C, .type "tuple", .type "object"] && cd.bases == [.type "tuple"] && !cd.hasDel &&
      instIn K (.ref C) (.type "type") == some true && findIn K (.ref C) "__init__" == some (some (.builtin "object.__init__"))
  | _ => false
structure TupOf (M : Model) (h : Heap) (C : Addr) : Prop where
  obj : ∃ oc od cd sl, h.get? C = some ⟨oc, od, .cls cd, sl⟩ ∧ cd.hasDel = false
  base : Looks M h (Bind.staticBase (.ref C)) (.type "tuple")
  top : Looks M h (isSubtype (.ref C) (.type "tuple")) true
  typ : Looks M h (isInstance (.ref C) (.type "type")) true
  init : Looks M h (typeLookup (.ref C) "__init__") (some (.builtin "object.__init__"))
theorem bestBase_tuple : PySem.Builtin.Slots.bestBase [.type "tuple"] = pure (.type "tuple") := by kernel_rfl
theorem tupOf {M : Model} {h : Heap} {C : Addr} (X : K.In h) (e : tupIn K C = true) : TupOf M h C := by
  unfold tupIn at e
  split at e
  · rename_i oc od cd sl ho
    simp only [Bool.and_eq_true, Bool.not_eq_true', beq_iff_eq] at e
    obtain ⟨⟨⟨⟨⟨e2, e3⟩, e4⟩, e5⟩, e6⟩, e9⟩ := e
    have hc : clsIn K C = some cd := by unfold clsIn; rw [ho]
    have hcl : Looks M h (classData C) cd := looks_clsIn X hc
    have hm : Looks M h (mroOf (.ref C)) cd.mro := (looks_clsIn X hc).andThen .now
    have made : Looks M h (Bind.madeBy (.ref C)) none := by
      intro A Q E s k q
      unfold Bind.madeBy
      refine wpAny_bind (hm A _ E s k ?_)
      rw [e3, List.forIn_cons]
      refine wpAny_bind (wpAny_bind (wpAny_bind (wpAny_bind (wpAny_loadPart (k _ _ (X _ _ ho)) (wpAny_pure ?_)))))
      dsimp only
      rw [← Array.getElem?_toList, e2]
      exact wpAny_pure (wpAny_pure (wpAny_pure q))
    refine ⟨⟨oc, od, cd, sl, X _ _ ho, e5⟩, ?_, looks_mroIn X ?_, looks_instIn X e6, looks_findIn X e9⟩
    · intro A Q E s k q
      unfold Bind.staticBase
      refine wpAny_bind (hm A _ E s k ?_)
      rw [e3, List.forIn_cons]
      refine wpAny_bind (wpAny_bind (wpAny_bind (made A _ E s k ?_)))
      refine wpAny_bind (hcl A _ E s k ?_)
      rw [e4, bestBase_tuple]
      refine wpAny_pure ?_
      dsimp only
      rw [List.forIn_cons, F.called_tuple.made]
      refine wpAny_pure ?_
      exact wpAny_pure q
    · unfold mroIn; rw [hc, Option.bind_some, if_neg (by rw [e3]; simp), e3]; rfl
  · cases e
theorem tn_kind : builtinKind "tuple.__new__" = some .builtinFn := by decide +kernel
theorem tn_split : splitId "tuple.__new__" = some ("tuple", "__new__") := by decide +kernel
theorem tn_row : Manifest.signature? "tuple.__new__" = some ⟨.constructor, "tuple", "tuple", .cls, [⟨"iterable", .posOnly, false⟩]⟩ := by kernel_rfl
theorem tn_args (a b : Value) : Bind.checkArgs "tuple.__new__" ⟨.constructor, "tuple", "tuple", .cls, [⟨"iterable", .posOnly, false⟩]⟩ ⟨[a, b], []⟩ = pure () := by kernel_rfl
theorem tn_plain : plainId "tuple.__new__" = true := by decide +kernel
noncomputable abbrev tupObj (C dx : Addr) (vs : Array Value) : Obj := { cls := .ref C, dict := some dx, data := .seq vs }
set_option maxRecDepth 100000 in
set_option maxHeartbeats 4000000 in
theorem tup_new {C T : Addr} {vs : Array Value} {n : Nat} {Q : Value → Shared → Prop} {h : Heap} {g : Array GenState} {d : Drawn} {t : Nat} {os : OsState} (Y : TupOf (model prog w) h C) (hT : h.get? T = some { cls := .type "tuple", data := .seq vs n }) (hsz : vs.size ≤ 100)
    (hq : ∀ x dx h', (∀ b o, h.get? b = some o → h'.get? b = some o) → (∀ b o, h.get? b = some o → b < x) → h'.get? x = some (tupObj C dx vs) → Q (.ref x) ⟨h', g, d, t, os⟩) :
    wpAny (model prog w) A (call (.builtin "tuple.__new__") [.ref C, .ref T]) Q E ⟨h, g, d, t, os⟩ := by
  obtain ⟨⟨oc, od, cd, sl, hC, e5⟩, base, top, typ, init⟩ := Y
  have mt : Looks (model prog w) h (Bind.madeBy (.type "tuple")) (some "tuple.__new__") := Looks.of_pure F.called_tuple.made
  refine wpAny_call (codeAny_call_builtin tn_plain F.entry_tuple_new ?_)
  delta checkBuiltinCall
  rw [tn_kind, tn_split, tn_row]
  dsimp only
  rw [tn_args]
  repeat (first | (with_reducible refine wpAny_ite_false ?ci ?_; (case ci => simp)) | ((fail_if_success (with_reducible show wpAny _ _ (collect _) _ _ _)); lk))
  refine wpAny_collect_seq T (.inr rfl) hT rfl rfl (fun h' k => ?_) (by rw [sizeLine_eq]; omega)
  refine wpAny_bind (wpAny_pure (wpAny_bind (wpAny_alloc (wpAny_bind ?_))))
  have hle : ¬ vs.toList.toArray.size > sizeLine := by rw [sizeLine_eq]; simp; omega
  show wpAny _ _ (if vs.toList.toArray.size > sizeLine then _ else newObjAsIs _ _ _) _ _ _
  rw [if_neg hle]
  unfold newObjAsIs classHasDel
  have k1 : ∀ b o, h.get? b = some o → (h'.push { cls := .type "dict", data := .dict #[] }).get? b = some o := fun b o e => Heap.get?_push_of_some _ (k b o e)
  refine wpAny_bind (wpAny_alloc (wpAny_bind (wpAny_bind (wpAny_load (Heap.get?_push_of_some _ (k1 _ _ hC)) (wpAny_pure ?_)))))
  rw [e5]
  refine wpAny_pure (wpAny_pure ?_)
  refine hq _ h'.objs.size _ (fun b o e => Heap.get?_push_of_some _ (k1 b o e)) (fun b o e => Heap.lt_size (k1 b o e)) (by rw [Array.toArray_toList]; exact Heap.get?_push_size _ rfl)
end
section
open PySem.Calls
variable {prog : Program} {w : World} {A : Around} {E : Value → Shared → Prop} {s : Shared} {h₀ : Heap} {L : Addr} {m : Str → Option Value} {news : List (Addr × Obj)}
theorem tup_new_N {C T : Addr} {vs : Array Value} {n : Nat} {Q : Value → Shared → Prop} (F : Fr h₀ L s.heap m) (N : News h₀ L s.heap news) (hm : (T, ({ cls := .type "tuple", data := .seq vs n } : Obj)) ∈ news) (Y : TupOf (model prog w) s.heap C) (hsz : vs.size ≤ 100)
    (h : ∀ x dx h', Fr h₀ L h' m → News h₀ L h' ((x, tupObj C dx vs) :: news) → (∀ p ∈ news, p.1 < x) → Q (.ref x) { s with heap := h' }) : wpAny (model prog w) A (call (.builtin "tuple.__new__") [.ref C, .ref T]) Q E s := by
  obtain ⟨hp, g, d, tk, os⟩ := s
  refine tup_new Y (N _ hm).1 hsz fun x dx h' k lx hx => h x dx h' (F.keeps k) (fun p hp => ?_) fun p hp => lx _ _ (N p hp).1
  rcases List.mem_cons.mp hp with rfl | hp
  · refine ⟨hx, ?_, ?_⟩
    · obtain ⟨oM, a1, a2, hM, hr⟩ := F.ns
      exact Nat.ne_of_gt (lx _ _ hM)
    · cases q : h₀.get? x with
      | none => rfl
      | some o => exact absurd (lx _ _ (F.keep _ _ q)) (Nat.lt_irrefl _)
  · exact ⟨k _ _ (N p hp).1, (N p hp).2⟩
end
end
section
local macro_rules | `(tactic| walk_at "call builtin:tuple.__new__") => `(tactic| (refine of_stop ?_))
local macro_rules | `(tactic| walk_at "getMethod type:tuple") => `(tactic| (refine of_stop ?_))
theorem meta_tuple : typeOf (.type "tuple") = pure (.type "type") := by first | rfl | kernel_rfl
set_option maxRecDepth 100000 in
set_option maxHeartbeats 1600000 in
theorem mism_c {w : World} (i j : Int) (x : Str) (t1 t2 t3 : Tok) (news : List (Addr × Obj)) : Con 5 w 281 news [.int i t1, .int j t2, .str x t3] (fun k => ∀ (X dx : Addr), (∀ p ∈ news, p.1 < X) → k (.ref X) ((X, tupObj 281 dx #[.int i t1, .int j t2, .str x t3]) :: news)) := by
  unfold Con
  intro pp0 loose mean mg mb dp un gd cn cs a ccd cl outer A₀ base h₀ L m s Q E B F X N T hk hd hu hret
  obtain ⟨hp, g, d, tk, os⟩ := s
  have XS := X.keeps F.keep
  refine mk_own (K := Mine.hd.heap_1 w.params) (C := 281) (p := 282) (f := 228) XS (by kernel_rfl) (by kernel_rfl) (by kernel_rfl) ?_
  walk1
  k_steps
  unfold Stop
  with_reducible refine' method_type (v := Value.builtin "tuple.__new__") ?y1 ?y2 meta_tuple (by decide +kernel) ?y3 ?y4 ?_
  case y1 => k_asm
  case y2 => k_asm
  case y3 => kernel_rfl
  case y4 => kernel_rfl
  k_steps
  unfold Stop
  refine' tup_new_N ?k1 ?k2 ?k3 ?k4 ?k5 ?_
  case k1 => k_asm
  case k2 => k_asm
  case k3 => k_mem
  case k4 => exact tupOf (K := Mine.hd.heap_1 _) (by k_in) (by kernel_rfl)
  case k5 => exact Nat.le_of_ble_eq_true rfl
  intro x9 d9 h9 F9 N9 l9
  k_lt l9
  k_steps
  rename Fr h₀ _ _ _ => kF
  rename News h₀ _ _ _ => kN
  rename (_ < _ ∧ AllLt _ news) => l9
  exact ⟨_, _, rfl, (kN _ (.head _)).1, rfl, X.keeps kF.keep, hret _ _ (fun p hp => allLt_mem l9.2 p hp) _ _ kF (fun p hp => kN p ((List.mem_cons.mp hp).elim (fun h => h ▸ .head _) fun h => .tail _ (.tail _ h)))⟩
end
section
section
open PySem.Calls
variable {prog : Program} {w : World} {A : Around} {E : Value → Shared → Prop} {s : Shared} {h₀ : Heap} {L D l : Addr} {m : Str → Option Value} {news news' : List (Addr × Obj)} {vs : List Value} {n : Nat} {k : Int} {t u : Tok} {v : Value} {value slice : PySem.Expr}
/-- what stands at a place of a list -/
noncomputable def ItV (vs : List Value) (k : Int) (v : Value) : Prop := 0 ≤ k ∧ vs[k.toNat]? = some v
theorem item_val {Q : Value → Shared → Prop} (N : News h₀ L s.heap news) (hm : (l, PySem.W.listOf vs.toArray n) ∈ news) (hx : ItV vs k v) (hn : vs.length ≤ 1000) (h : Q v s)
    (hs : subscripted slice false (.ref l) (.int k u) = operate [.ref l, .int k u] (getItem (.ref l) (.int k u)) := by with_unfolding_all rfl) :
    wpAny (model prog w) A (subscriptTail value slice (.ref l) (.int k u)) Q E s := by
  have hl : s.heap.IsList l vs.toArray := ⟨_, (N _ hm).1, rfl, n, rfl⟩
  have hlt : k.toNat < vs.length := (List.getElem?_eq_some_iff.mp hx.2).1
  have h0 := hx.1
  exact tail_any hl.typeIs slot_list_getitem.lookup (wpAny_getItem_list hl h0 (by omega) (x := v) (by simpa using hx.2) h) hs
theorem set_any {Q : Unit → Shared → Prop} (F : Fr h₀ L s.heap m) (N : News h₀ L s.heap news) (U : Upd D (PySem.W.listOf vs.toArray n) (PySem.W.listOf (vs.set k.toNat v).toArray n) news news') (h0 : 0 ≤ k) (h1 : k < (vs.length : Int)) (hn : vs.length ≤ 1000)
    (h : ∀ h', Fr h₀ L h' m → News h₀ L h' news' → Q () { s with heap := h' }) : wpAny (model prog w) A (setItem (.ref D) (.int k t) v) Q E s := by
  obtain ⟨pre, post, rfl, rfl, a, b'⟩ := U.split
  have z := N (D, PySem.W.listOf vs.toArray n) (List.mem_append.mpr (.inr (.head _)))
  have hs : vs.toArray.size = vs.length := List.size_toArray ..
  refine ki_setAt z.1 h0 (by omega) (by omega) (h _ (F.change (Heap.SameBut.update ..) z.2.1 z.2.2) (ki_turn _ N a b' ?_ ?_))
  · show vs.toArray.setIfInBounds k.toNat v = (vs.set k.toNat v).toArray
    apply Array.toList_inj.mp
    simp
  · simp
end
end
section
/-- a list of texts, some of which have been struck out by the object at N -/
inductive OptsAre (N : Addr) : List Value → List (Option Str) → Prop
  | nil : OptsAre N [] []
  | txt {vs : List Value} {os : List (Option Str)} (x : Str) (t : Tok) (h : OptsAre N vs os) : OptsAre N (.str x t :: vs) (some x :: os)
  | nul {vs : List Value} {os : List (Option Str)} (h : OptsAre N vs os) : OptsAre N (.ref N :: vs) (none :: os)
theorem OptsAre.length {N : Addr} {vs : List Value} {os : List (Option Str)} (h : OptsAre N vs os) : vs.length = os.length := by
  induction h with
  | nil => rfl
  | txt _ _ _ ih => simp [ih]
  | nul _ ih => simp [ih]
theorem OptsAre.text {N : Addr} {vs : List Value} {os : List (Option Str)} (h : OptsAre N vs os) : ∀ {i : Nat} {x : Str}, os[i]? = some (some x) → ∃ t, vs[i]? = some (.str x t) := by
  induction h with
  | nil => intro i x h; simp at h
  | txt y t h ih =>
    intro i x hx
    cases i with
    | zero => simp at hx; exact ⟨t, by simp [hx]⟩
    | succ i => simpa using ih (by simpa using hx)
  | nul h ih =>
    intro i x hx
    cases i with
    | zero => simp at hx
    | succ i => simpa using ih (by simpa using hx)
theorem OptsAre.null {N : Addr} {vs : List Value} {os : List (Option Str)} (h : OptsAre N vs os) : ∀ {i : Nat}, os[i]? = some none → vs[i]? = some (.ref N) := by
  induction h with
  | nil => intro i h; simp at h
  | txt y t h ih =>
    intro i hx
    cases i with
    | zero => simp at hx
    | succ i => simpa using ih (by simpa using hx)
  | nul h ih =>
    intro i hx
    cases i with
    | zero => rfl
    | succ i => simpa using ih (by simpa using hx)
theorem OptsAre.set {N : Addr} {vs : List Value} {os : List (Option Str)} (h : OptsAre N vs os) : ∀ i : Nat, OptsAre N (vs.set i (.ref N)) (os.set i none) := by
  induction h with
  | nil => intro i; exact .nil
  | txt y t h ih =>
    intro i
    cases i with
    | zero => exact .nul h
    | succ i => exact .txt y t (ih i)
  | nul h ih =>
    intro i
    cases i with
    | zero => exact .nul h
    | succ i => exact .nul (ih i)
theorem OptsAre.of_strs {N : Addr} {vs : List Value} {ss : List Str} (h : StrsAre vs ss) : OptsAre N vs (ss.map some) := by
  induction h with
  | nil => exact .nil
  | cons x t h ih => exact .txt x t ih
noncomputable def blankF (p ss : List Str) : List (Option Str) := ss.map fun x => if x ∈ p then none else some x
theorem blankF_nil (ss : List Str) : blankF [] ss = ss.map some := by simp [blankF]
theorem blankF_len (p ss : List Str) : (blankF p ss).length = ss.length := by simp [blankF]
noncomputable def markA (x : Str) (i k : Nat) (os : List (Option Str)) : List (Option Str) := os.mapIdx fun j o => if i ≤ j ∧ j < i + k ∧ o = some x then none else o
noncomputable def cntA (x : Str) (i k : Nat) (os : List (Option Str)) : Nat := ((os.drop i).take k).count (some x)
theorem markA_zero (x : Str) (i : Nat) (os : List (Option Str)) : markA x i 0 os = os := by
  refine List.ext_getElem? fun j => ?_
  unfold markA
  rw [List.getElem?_mapIdx]
  cases h : os[j]? with
  | none => rfl
  | some o => simp; omega
theorem markA_get (x : Str) (i k : Nat) (os : List (Option Str)) : (markA x i k os)[i + k]? = os[i + k]? := by
  unfold markA
  rw [List.getElem?_mapIdx]
  cases h : os[i + k]? with
  | none => rfl
  | some o => simp
theorem markA_hit {x : Str} {i k : Nat} {os : List (Option Str)} (h : os[i + k]? = some (some x)) : markA x i (k + 1) os = (markA x i k os).set (i + k) none := by
  refine List.ext_getElem? fun j => ?_
  unfold markA
  rw [List.getElem?_set, List.getElem?_mapIdx, List.getElem?_mapIdx]
  obtain ⟨hl, _⟩ := List.getElem?_eq_some_iff.mp h
  by_cases hj : i + k = j
  · subst hj
    have h2 : os[i + k] = some x := (List.getElem?_eq_some_iff.mp h).2
    simp [hl, h2]
  · rw [if_neg hj]
    cases hq : os[j]? with
    | none => rfl
    | some o =>
      simp only [Option.map_some, Option.some.injEq]
      by_cases ho : o = some x
      · simp only [ho, and_true]
        by_cases h1 : i ≤ j ∧ j < i + k
        · rw [if_pos ⟨h1.1, by omega⟩, if_pos h1]
        · rw [if_neg (by omega), if_neg h1]
      · simp [ho]
theorem markA_miss {x : Str} {i k : Nat} {os : List (Option Str)} (h : os[i + k]? ≠ some (some x)) : markA x i (k + 1) os = markA x i k os := by
  refine List.ext_getElem? fun j => ?_
  unfold markA
  rw [List.getElem?_mapIdx, List.getElem?_mapIdx]
  cases hq : os[j]? with
  | none => rfl
  | some o =>
    simp only [Option.map_some, Option.some.injEq]
    by_cases ho : o = some x
    · have hj : i + k ≠ j := fun e => h (by rw [e, hq, ho])
      simp only [ho, and_true]
      by_cases h1 : i ≤ j ∧ j < i + k
      · rw [if_pos ⟨h1.1, by omega⟩, if_pos h1]
      · rw [if_neg (by omega), if_neg h1]
    · simp [ho]
theorem cntA_zero (x : Str) (i : Nat) (os : List (Option Str)) : cntA x i 0 os = 0 := by simp [cntA]
theorem cntA_succ (x : Str) (i k : Nat) (os : List (Option Str)) : cntA x i (k + 1) os = cntA x i k os + (if os[i + k]? = some (some x) then 1 else 0) := by
  unfold cntA
  rw [List.take_add_one, List.count_append, List.getElem?_drop]
  cases h : os[i + k]? with
  | none => simp
  | some o =>
    by_cases ho : o = some x
    · simp [ho]
    · simp [ho]
theorem cntA_hit {x : Str} {i k : Nat} {os : List (Option Str)} (h : os[i + k]? = some (some x)) : cntA x i (k + 1) os = cntA x i k os + 1 := by rw [cntA_succ, if_pos h]
theorem cntA_miss {x : Str} {i k : Nat} {os : List (Option Str)} (h : os[i + k]? ≠ some (some x)) : cntA x i (k + 1) os = cntA x i k os := by rw [cntA_succ, if_neg h]; rfl
theorem markA_end {x : Str} {i k : Nat} {p ss : List Str} (hp : ∀ y ∈ ss.take i, y ∈ p) (hk : i + k = ss.length) : markA x i k (blankF p ss) = blankF (p ++ [x]) ss := by
  refine List.ext_getElem? fun j => ?_
  unfold markA blankF
  rw [List.getElem?_mapIdx, List.getElem?_map, List.getElem?_map]
  cases hq : ss[j]? with
  | none => rfl
  | some y =>
    obtain ⟨hl, _⟩ := List.getElem?_eq_some_iff.mp hq
    simp only [Option.map_some, Option.some.injEq, List.mem_append, List.mem_singleton]
    by_cases hy : y ∈ p
    · simp [hy]
    · have hj : i ≤ j := by
        by_cases h : i ≤ j
        · exact h
        · exact absurd (hp y (List.mem_take_iff_getElem.mpr ⟨j, by omega, by rw [← (List.getElem?_eq_some_iff.mp hq).2]⟩)) hy
      simp only [hy, if_false, false_or]
      by_cases hx : y = x
      · subst hx
        rw [if_pos ⟨hj, by omega, rfl⟩, if_pos rfl]
      · rw [if_neg (fun e => hx (Option.some.inj e.2.2)), if_neg hx]
theorem count_blank {x : Str} {p : List Str} (hx : x ∉ p) : ∀ ss : List Str, (blankF p ss).count (some x) = ss.count x := by
  intro ss
  induction ss with
  | nil => rfl
  | cons y ss ih =>
    have e : blankF p (y :: ss) = (if y ∈ p then none else some y) :: blankF p ss := rfl
    rw [e, List.count_cons, List.count_cons, ih]
    congr 1
    by_cases hy : y ∈ p
    · have : y ≠ x := fun e => hx (e ▸ hy)
      simp [hy, this]
    · simp [hy]
theorem cntA_end {x : Str} {i k : Nat} {p ss : List Str} (hx : x ∉ p) (hp : ∀ y ∈ ss.take i, y ∈ p) (hk : i + k = ss.length) : cntA x i k (blankF p ss) = ss.count x := by
  unfold cntA
  rw [List.take_of_length_le (by simp [blankF_len]; omega)]
  have h0 : ((blankF p ss).take i).count (some x) = 0 := by
    rw [List.count_eq_zero]
    intro h
    unfold blankF at h
    rw [← List.map_take, List.mem_map] at h
    obtain ⟨y, hy, e⟩ := h
    simp [hp y hy] at e
  have e : ((blankF p ss).take i).count (some x) + ((blankF p ss).drop i).count (some x) = (blankF p ss).count (some x) := by rw [← List.count_append, List.take_append_drop]
  rw [count_blank hx] at e
  omega
theorem blankF_same {p q ss : List Str} (h : ∀ y, y ∈ p ↔ y ∈ q) : blankF p ss = blankF q ss := by
  unfold blankF
  refine List.map_congr_left fun y _ => ?_
  by_cases hy : y ∈ p
  · rw [if_pos hy, if_pos ((h y).mp hy)]
  · rw [if_neg hy, if_neg (fun e => hy ((h y).mpr e))]
theorem ctd_seen {a b : List Str} {x : Str} (hc : a.count x ≠ b.count x) : ∀ {l : List Str} {acc : List (Nat × Nat × Str)}, (x ∈ l ∨ (a.count x, b.count x, x) ∈ acc) → (a.count x, b.count x, x) ∈ l.foldl (ctdStep a b) acc := by
  intro l
  induction l with
  | nil => intro acc h; exact h.resolve_left (by simp)
  | cons y l ih =>
    intro acc h
    refine ih ?_
    by_cases hl : x ∈ l
    · exact .inl hl
    · refine .inr ?_
      unfold ctdStep
      rcases h with h | h
      · obtain rfl : x = y := (List.mem_cons.mp h).resolve_right hl
        by_cases hm : (a.count x, b.count x, x) ∈ acc
        · rw [if_neg fun q => q.2 hm]; exact hm
        · rw [if_pos ⟨hc, hm⟩]; simp
      · split
        · exact List.mem_append.mpr (.inl h)
        · exact h
theorem ctd_skip {a b l : List Str} {x : Str} (h : x ∈ l ∨ a.count x = b.count x) : ctdStep a b (l.foldl (ctdStep a b) []) x = l.foldl (ctdStep a b) [] := by
  by_cases hc : a.count x = b.count x
  · unfold ctdStep; rw [if_neg fun q => q.1 hc]
  · unfold ctdStep; rw [if_neg fun q => q.2 (ctd_seen hc (.inl (h.resolve_right hc)))]
theorem ctd_add {a b l : List Str} {x : Str} (hx : x ∉ l) (hc : a.count x ≠ b.count x) : ctdStep a b (l.foldl (ctdStep a b) []) x = l.foldl (ctdStep a b) [] ++ [(a.count x, b.count x, x)] := by
  have hn : (a.count x, b.count x, x) ∉ l.foldl (ctdStep a b) [] := by
    intro h
    rcases ctd_mem _ h with h' | h'
    · cases h'
    · exact hx h'
  unfold ctdStep
  rw [if_pos ⟨hc, hn⟩]
/-- the made rows stand in the ledger -/
inductive MisAll (own : List (Addr × Obj)) : List Value → List (Nat × Nat × Str) → Prop
  | nil : MisAll own [] []
  | cons {X dx : Addr} {t1 t2 t3 : Tok} {r : Nat × Nat × Str} {ws : List Value} {rs : List (Nat × Nat × Str)} (h : (X, tupObj 281 dx #[.int (r.1 : Nat) t1, .int (r.2.1 : Nat) t2, .str r.2.2 t3]) ∈ own) (hr : MisAll own ws rs) : MisAll own (.ref X :: ws) (r :: rs)
theorem MisAll.mono {own own' : List (Addr × Obj)} (hs : ∀ p ∈ own, p ∈ own') {ws : List Value} {rs : List (Nat × Nat × Str)} (h : MisAll own ws rs) : MisAll own' ws rs := by
  induction h with
  | nil => exact .nil
  | cons h _ ih => exact .cons (hs _ h) ih
theorem MisAll.append {own : List (Addr × Obj)} {ws ws' : List Value} {rs rs' : List (Nat × Nat × Str)} (h : MisAll own ws rs) (h' : MisAll own ws' rs') : MisAll own (ws ++ ws') (rs ++ rs') := by
  induction h with
  | nil => exact h'
  | cons h _ ih => exact .cons h ih
theorem MisAll.length {own : List (Addr × Obj)} {ws : List Value} {rs : List (Nat × Nat × Str)} (h : MisAll own ws rs) : ws.length = rs.length := by
  induction h with
  | nil => rfl
  | cons _ _ ih => simp [ih]
theorem ctd_len {a b : List Str} : ∀ {l : List Str} {acc : List (Nat × Nat × Str)}, (l.foldl (ctdStep a b) acc).length ≤ acc.length + l.length := by
  intro l
  induction l with
  | nil => intro acc; simp
  | cons x l ih =>
    intro acc
    refine Nat.le_trans (ih (acc := ctdStep a b acc x)) ?_
    have : (ctdStep a b acc x).length ≤ acc.length + 1 := by unfold ctdStep; split <;> simp
    simp only [List.length_cons]; omega
end
section
local macro_rules | `(tactic| walk_at "isTrue Compare") => `(tactic| (with_reducible refine wpAny_isTrue_Compare1 ?_))
local macro_rules | `(tactic| walk_at "call ref") => `(tactic| ((with_reducible refine at9 281 ?_); refine of_stopk 1 ?_))
local macro_rules | `(tactic| walk_at "call builtin:list.append") => `(tactic| (refine of_stopk 2 ?_))
local macro_rules | `(tactic| k_all) => `(tactic| assumption)
local macro_rules | `(tactic| walk_at "eval Name") => `(tactic| (k_here; k_dflt (refine ld (by k_asm) (by assumption) ?_; k_whole)))
local macro_rules | `(tactic| walk_at "loadName") => `(tactic| (k_dflt (refine ldn (by k_asm) (by assumption) ?_)))
local macro_rules | `(tactic| walk_at "call type:object") => `(tactic| (refine of_stopk 3 ?_))
local macro_rules | `(tactic| walk_at "call type:enumerate") => `(tactic| (refine of_stopk 4 ?_))
local macro_rules | `(tactic| walk_at "call builtin:len") => `(tactic| (refine of_stopk 5 ?_))
local macro_rules | `(tactic| walk_at "subscriptTail Name Name ref int") => `(tactic| (k_dflt (refine item_val (by assumption) (by k_mem) (by assumption) (by omega) ?_)))
local macro_rules | `(tactic| walk_at "setItem ref int") => `(tactic| (refine of_stopk 6 ?_))
local macro_rules | `(tactic| walk_at "compareOp Eq ref str") => `(tactic| (refine of_stopk 7 ?_))
local macro_rules | `(tactic| walk_at "compareOp Is str ref") => `(tactic| (refine of_stopk 8 ?_))
local macro_rules | `(tactic| walk_at "exec For Tuple Call") => `(tactic| (refine of_stop ?_))
local macro_rules | `(tactic| walk_at "exec For Tuple Call cons nil") => `(tactic| (refine of_stop ?_))
local macro_rules | `(tactic| walk_at "exec For Name Call cons nil") => `(tactic| (refine of_stopk 9 ?_))
local macro_rules | `(tactic| walk_at "exec For Name Call") => `(tactic| (refine of_stopk 10 ?_))
local macro_rules | `(tactic| walk_at "pyIter ref") => `(tactic| (refine of_stop ?_))
theorem hap2 {nw : List (Addr × Obj)} {e it : Addr} {oe oi : Obj} (h : ∀ p ∈ nw, p.1 ≠ e ∧ p.1 ≠ it) : ∀ p ∈ nw, ∀ q ∈ [(e, oe), (it, oi)], p.1 ≠ q.1 := by
  intro p hp q hq
  rcases List.mem_cons.mp hq with rfl | hq
  · exact (h p hp).1
  · rcases List.mem_cons.mp hq with rfl | hq
    · exact (h p hp).2
    · cases hq
theorem sep_of {nx nx' : List (Addr × Obj)} {I : Addr} {oI : Obj} (h : ∀ p ∈ nx, p.1 ≠ I) (e : nx'.map (·.1) = nx.map (·.1)) : ∀ p ∈ nx', ∀ q ∈ [(I, oI)], p.1 ≠ q.1 := by
  intro p hp q hq
  have h1 : p.1 ∈ nx'.map (·.1) := List.mem_map.mpr ⟨p, hp, rfl⟩
  rw [e] at h1
  obtain ⟨p', hp', e'⟩ := List.mem_map.mp h1
  rw [List.mem_singleton.mp hq, ← e']
  exact h p' hp'
theorem range_small (i n : Nat) (h : i ≤ n) (hn : n ≤ 8) : Builtin.Range.small i n 1 = true := by
  exact small_one (by omega) (by omega) (by omega) (by omega)
theorem range_size (i n : Nat) (h : i ≤ n) : Builtin.Range.rangeSize i n 1 = ((n - i : Nat) : Int) := by
  rw [rangeSize_one]; split <;> omega
theorem hap_of {nx nx' : List (Addr × Obj)} {e it : Addr} {oe oi : Obj} (h : ∀ p ∈ nx, p.1 ≠ e ∧ p.1 ≠ it) (e' : nx'.map (·.1) = nx.map (·.1)) : ∀ p ∈ nx', ∀ q ∈ [(e, oe), (it, oi)], p.1 ≠ q.1 := by
  refine hap2 fun p hp => ?_
  have h1 : p.1 ∈ nx'.map (·.1) := List.mem_map.mpr ⟨p, hp, rfl⟩
  rw [e'] at h1
  obtain ⟨p', hp', e''⟩ := List.mem_map.mp h1
  rw [← e'']
  exact h p' hp'
theorem perm7 {h₀ h : Heap} {L : Addr} {x a b c d e f : Addr × Obj} {own rest : List (Addr × Obj)} (N : News h₀ L h (x :: a :: b :: c :: d :: e :: f :: (own ++ rest))) : News h₀ L h ([a, b] ++ (c :: d :: e :: f :: ((x :: own) ++ rest))) := fun p hp => N p (rot (a := [a, b, c, d, e, f]) (b := [x]) hp)
theorem hap_row {a b c d x : Addr × Obj} {own rest : List (Addr × Obj)} {e it : Addr} {oe oi : Obj} (h : ∀ p ∈ a :: b :: c :: d :: (own ++ rest), ∀ q ∈ [(e, oe), (it, oi)], p.1 ≠ q.1) (he : @LT.lt Nat _ e x.1) (hi : @LT.lt Nat _ it x.1) : ∀ p ∈ a :: b :: c :: d :: ((x :: own) ++ rest), ∀ q ∈ [(e, oe), (it, oi)], p.1 ≠ q.1 := by
  intro p hp
  rcases List.mem_cons.mp (rot (a := [a, b, c, d]) (b := [x]) hp) with h1 | h1
  · rw [h1]
    exact al (Nat.ne_of_gt he) (al (Nat.ne_of_gt hi) al0)
  · exact h p h1
theorem sep_row {x : Addr × Obj} {own rest : List (Addr × Obj)} {S T N R : Addr} (h : ∀ p ∈ own ++ rest, p.1 ≠ S ∧ p.1 ≠ T ∧ p.1 ≠ N ∧ p.1 ≠ R) (hS : @LT.lt Nat _ S x.1) (hT : @LT.lt Nat _ T x.1) (hN : @LT.lt Nat _ N x.1) (hR : @LT.lt Nat _ R x.1) : ∀ p ∈ (x :: own) ++ rest, p.1 ≠ S ∧ p.1 ≠ T ∧ p.1 ≠ N ∧ p.1 ≠ R := by
  intro p hp
  rcases List.mem_cons.mp hp with rfl | hp
  · exact ⟨Nat.ne_of_gt hS, Nat.ne_of_gt hT, Nat.ne_of_gt hN, Nat.ne_of_gt hR⟩
  · exact h p hp
theorem skip2 {h₀ h : Heap} {L : Addr} {a b c d : Addr × Obj} {r : List (Addr × Obj)} (N : News h₀ L h (a :: b :: c :: d :: r)) : News h₀ L h (a :: b :: r) := fun p hp => N p (by
  rcases List.mem_cons.mp hp with rfl | hp
  · exact .head _
  · rcases List.mem_cons.mp hp with rfl | hp
    · exact .tail _ (.head _)
    · exact .tail _ (.tail _ (.tail _ (.tail _ hp))))
/-- what the names of _count_diff_all_purpose hold all along -/
inductive CM (S0 T0 NU R0 : Addr) (l1 l2 : Nat) (m : Str → Option Value) : Prop
  | mk (tm tn : Tok) : m (Str.ofString "s") = some (.ref S0) → m (Str.ofString "t") = some (.ref T0) → m (Str.ofString "NULL") = some (.ref NU) → m (Str.ofString "result") = some (.ref R0) → m (Str.ofString "m") = some (.int (l1 : Nat) tm) → m (Str.ofString "n") = some (.int (l2 : Nat) tn) → CM S0 T0 NU R0 l1 l2 m
/-- the rest of the ledger parts from the four objects -/
structure SepO (l : List (Addr × Obj)) (S0 T0 NU R0 : Addr) : Prop where
  s : ∀ p ∈ l, p.1 ≠ S0
  t : ∀ p ∈ l, p.1 ≠ T0
  n : ∀ p ∈ l, p.1 ≠ NU
  r : ∀ p ∈ l, p.1 ≠ R0
theorem SepO.of {l : List (Addr × Obj)} {S0 T0 NU R0 : Addr} (a : AllLt S0 l) (b : AllLt T0 l) (c : AllLt NU l) (d : AllLt R0 l) : SepO l S0 T0 NU R0 :=
  ⟨fun p hp => Nat.ne_of_lt (allLt_mem a p hp), fun p hp => Nat.ne_of_lt (allLt_mem b p hp), fun p hp => Nat.ne_of_lt (allLt_mem c p hp), fun p hp => Nat.ne_of_lt (allLt_mem d p hp)⟩
theorem SepO.cons {x : Addr × Obj} {l : List (Addr × Obj)} {S0 T0 NU R0 : Addr} (h : SepO l S0 T0 NU R0) (hS : @LT.lt Nat _ S0 x.1) (hT : @LT.lt Nat _ T0 x.1) (hN : @LT.lt Nat _ NU x.1) (hR : @LT.lt Nat _ R0 x.1) : SepO (x :: l) S0 T0 NU R0 :=
  ⟨List.forall_mem_cons.mpr ⟨Nat.ne_of_gt hS, h.s⟩, List.forall_mem_cons.mpr ⟨Nat.ne_of_gt hT, h.t⟩, List.forall_mem_cons.mpr ⟨Nat.ne_of_gt hN, h.n⟩, List.forall_mem_cons.mpr ⟨Nat.ne_of_gt hR, h.r⟩⟩
/-- where the loops begin -/
inductive CntS (h₀ : Heap) (L : Addr) (h : Heap) (bs : List (Addr × Obj)) (vs us : List Value) (l1 l2 : Nat) : Prop
  | mk (R0 NU T0 S0 : Addr) (cT cS : Nat) (m1 : Str → Option Value) : Fr h₀ L h m1 → News h₀ L h ((R0, listOf ([] : List Value).toArray 0) :: (NU, plainObj) :: (T0, listOf us.toArray cT) :: (S0, listOf vs.toArray cS) :: bs) →
      SepO bs S0 T0 NU R0 → @Ne Nat S0 T0 → @Ne Nat S0 NU → @Ne Nat S0 R0 → @Ne Nat T0 NU → @Ne Nat T0 R0 → @Ne Nat NU R0 → CM S0 T0 NU R0 l1 l2 m1 → CntS h₀ L h bs vs us l1 l2
/-- between the turns of the two outer loops; o1: what s holds -/
inductive CJ (o1 : List Value → Prop) (bs : List (Addr × Obj)) (ss1 ss2 p : List Str) (S0 T0 NU R0 : Addr) (m : Str → Option Value) (nw : List (Addr × Obj)) : Prop
  | mk (us1 us2 ws : List Value) (own : List (Addr × Obj)) (a1 a2 ar : Nat) : nw = (R0, listOf ws.toArray ar) :: (NU, plainObj) :: (T0, listOf us2.toArray a2) :: (S0, listOf us1.toArray a1) :: (own ++ bs) → o1 us1 → OptsAre NU us2 (blankF p ss2) →
      MisAll own ws (p.foldl (ctdStep ss1 ss2) []) → SepO (own ++ bs) S0 T0 NU R0 → CM S0 T0 NU R0 ss1.length ss2.length m → CJ o1 bs ss1 ss2 p S0 T0 NU R0 m nw
/-- between the turns of the loop that counts in s -/
inductive CS (E I R N T : Addr × Obj) (bs : List (Addr × Obj)) (os : List (Option Str)) (x : Str) (tx : Tok) (c l1 l2 : Nat) (S0 T0 NU R0 : Addr) (m : Str → Option Value) (nx : List (Addr × Obj)) : Prop
  | mk (vS : List Value) (b1 : Nat) (tc tct : Tok) : nx = E :: I :: R :: N :: T :: (S0, listOf vS.toArray b1) :: bs → OptsAre NU vS os → m (Str.ofString "cnt_s") = some (.int (c : Nat) tc) → m (Str.ofString "cnt_t") = some (.int 0 tct) →
      m (Str.ofString "elem") = some (.str x tx) → CM S0 T0 NU R0 l1 l2 m → CS E I R N T bs os x tx c l1 l2 S0 T0 NU R0 m nx
/-- between the turns of the two loops that count in t; c1: what cnt_s is, where it is -/
inductive CT (E I R N S : Addr × Obj) (bs : List (Addr × Obj)) (os : List (Option Str)) (x : Str) (tx : Tok) (c : Nat) (c1 : (Str → Option Value) → Prop) (l1 l2 : Nat) (S0 T0 NU R0 : Addr) (m : Str → Option Value) (nx : List (Addr × Obj)) : Prop
  | mk (vT : List Value) (b2 : Nat) (tc : Tok) : nx = E :: I :: R :: N :: (T0, listOf vT.toArray b2) :: S :: bs → OptsAre NU vT os → m (Str.ofString "cnt_t") = some (.int (c : Nat) tc) → c1 m →
      m (Str.ofString "elem") = some (.str x tx) → CM S0 T0 NU R0 l1 l2 m → CT E I R N S bs os x tx c c1 l1 l2 S0 T0 NU R0 m nx
set_option maxRecDepth 100000 in
set_option maxHeartbeats 1600000 in
theorem count_c {w : World} (la lb : Addr) (vs us : List Value) (ss1 ss2 : List Str) (n1 n2 : Nat) (hS1 : StrsAre vs ss1) (hS2 : StrsAre us ss2) (hl1 : vs.length ≤ 8) (hl2 : us.length ≤ 8) (rest : List (Addr × Obj)) :
    Con 50 w 291 ((la, listOf vs.toArray n1) :: (lb, listOf us.toArray n2) :: rest) [.ref la, .ref lb] (fun k => ∀ R0 ws own n, ws.length ≤ 16 → MisAll own ws (ctdF ss1 ss2) → (∀ p ∈ own ++ ((la, listOf vs.toArray n1) :: (lb, listOf us.toArray n2) :: rest), p.1 ≠ R0) → k (.ref R0) ((R0, listOf ws.toArray n) :: (own ++ (la, listOf vs.toArray n1) :: (lb, listOf us.toArray n2) :: rest))) := by
  unfold Con
  intro pp0 loose mean mg mb dp un gd cn cs a ccd cl outer A₀ base h₀ L m s Q E B F X N T hk hd hu hret
  walk1
  (k_steps; (repeat (any_goals ((first | ((with_reducible refine un_stop 1 ?_); (k_dflt (((with_reducible refine at9 281 ?_); apply con_use (mism_c _ _ _ _ _ _ _)); walk_at "con8"; intro _ _ l9z _ _ _ _; k_lt l9z; (try dsimp only)))) | ((with_reducible refine un_stop 2 ?_); (k_dflt (refine app_any (by k_asm) (by k_asm) (by intro _; k_upd) (by omega) ?_); intro _ _ _ _)) | ((with_reducible refine un_stop 3 ?_); (k_dflt (refine object_call (by k_asm) (by k_asm) ?_); intro _ _ _ _ l9z; k_lt l9z)) | ((with_reducible refine un_stop 4 ?_); (k_dflt (refine enum_call (by k_asm) (by k_asm) (by k_mem) ?_); intro _ _ _ _ _ _ _ l9z _ _; k_lt l9z)) | ((with_reducible refine un_stop 5 ?_); (k_dflt (refine txt_len (by assumption) (by k_mem) (by omega) ?_))) | ((with_reducible refine un_stop 6 ?_); (k_dflt (refine set_any (by k_asm) (by k_asm) (by k_upd) (by omega) (by omega) (by omega) ?_); intro _ _ _)) | ((with_reducible refine un_stop 7 ?_); (k_dflt (refine eq_obj_str (News.get (by assumption) (by k_mem)) (by ktr_units) ?_))) | ((with_reducible refine un_stop 8 ?_); (k_dflt (refine wpAny_is_other (by rfl) (by intro q9z; cases q9z) ?_))) | ((with_reducible refine un_stop 9 ?_); (k_dflt (refine wpAny_For ?_))) | ((with_reducible refine un_stop 10 ?_); (k_dflt (refine wpAny_For ?_)))); k_steps))))
  unfold Stop
  rename Fr _ _ _ _ => F9
  rename News _ _ _ _ => N9
  rename (_ < _ ∧ _ < _ ∧ _ < _ ∧ _ < _ ∧ _ < _ ∧ _ < _ ∧ _ < _ ∧ AllLt _ rest) => lR
  rename (_ < _ ∧ _ < _ ∧ _ < _ ∧ _ < _ ∧ _ < _ ∧ _ < _ ∧ AllLt _ rest) => lN
  rename (_ < _ ∧ _ < _ ∧ _ < _ ∧ AllLt _ rest) => lT
  rename (_ < _ ∧ _ < _ ∧ AllLt _ rest) => lS
  have e1 := hS1.length
  have e2 := hS2.length
  obtain ⟨bs, hbs⟩ : ∃ bs, (la, listOf vs.toArray n1) :: (lb, listOf us.toArray n2) :: rest = bs := ⟨_, rfl⟩
  obtain ⟨R0, NU, T0, S0, cT, cS, m1, F1, N1, hsep, nST, nSN, nSR, nTN, nTR, nNR, ⟨tm, tn, ms, mt, mN, mR, mm, mn⟩⟩ : CntS _ _ _ bs vs us ss1.length ss2.length :=
    ⟨_, _, _, _, _, _, _, F9, hbs ▸ skip2 N9, hbs ▸ .of ⟨lS.1, lS.2⟩ ⟨lT.2.1, lT.2.2.1, lT.2.2.2⟩ ⟨lN.2.2.2.2.1, lN.2.2.2.2.2⟩ ⟨lR.2.2.2.2.2.1, lR.2.2.2.2.2.2⟩, Nat.ne_of_lt lT.1, Nat.ne_of_lt (Nat.lt_trans lT.1 lN.2.2.1), Nat.ne_of_lt (Nat.lt_trans lT.1 (Nat.lt_trans lN.2.2.1 lR.1)), Nat.ne_of_lt lN.2.2.1, Nat.ne_of_lt (Nat.lt_trans lN.2.2.1 lR.1), Nat.ne_of_lt lR.1, _, _, rfl, rfl, rfl, rfl, by rw [← e1]; rfl, by rw [← e2]; rfl⟩
  rw [e1] at hl1
  rw [e2] at hl2
  clear F9 N9 lS lT lN lR e1 e2
  refine wpAny_For ?_
  (k_steps; (repeat (any_goals ((first | ((with_reducible refine un_stop 1 ?_); (k_dflt (((with_reducible refine at9 281 ?_); apply con_use (mism_c _ _ _ _ _ _ _)); walk_at "con8"; intro _ _ l9z _ _ _ _; k_lt l9z; (try dsimp only)))) | ((with_reducible refine un_stop 2 ?_); (k_dflt (refine app_any (by k_asm) (by k_asm) (by intro _; k_upd) (by omega) ?_); intro _ _ _ _)) | ((with_reducible refine un_stop 3 ?_); (k_dflt (refine object_call (by k_asm) (by k_asm) ?_); intro _ _ _ _ l9z; k_lt l9z)) | ((with_reducible refine un_stop 4 ?_); (k_dflt (refine enum_call (by k_asm) (by k_asm) (by k_mem) ?_); intro _ _ _ _ _ _ _ l9z _ _; k_lt l9z)) | ((with_reducible refine un_stop 5 ?_); (k_dflt (refine txt_len (by assumption) (by k_mem) (by omega) ?_))) | ((with_reducible refine un_stop 6 ?_); (k_dflt (refine set_any (by k_asm) (by k_asm) (by k_upd) (by omega) (by omega) (by omega) ?_); intro _ _ _)) | ((with_reducible refine un_stop 7 ?_); (k_dflt (refine eq_obj_str (News.get (by assumption) (by k_mem)) (by ktr_units) ?_))) | ((with_reducible refine un_stop 8 ?_); (k_dflt (refine wpAny_is_other (by rfl) (by intro q9z; cases q9z) ?_))) | ((with_reducible refine un_stop 9 ?_); (k_dflt (refine wpAny_For ?_))) | ((with_reducible refine un_stop 10 ?_); (k_dflt (refine wpAny_For ?_)))); k_steps))))
  unfold Stop
  rename News _ _ _ _ => N9
  rename Fr _ _ _ _ => F9
  rename (_ < _ ∧ _ < _ ∧ _ < _ ∧ _ < _ ∧ AllLt _ bs) => l9
  rename (_ ∧ _ = Data.fields _) => x9
  rename (_ < _) => q9
  rename (∀ p ∈ _, _ ≠ _ ∧ _ ≠ _) => p9
  rename_i e9 i9 o9 h9
  refine enum_loop (len := ss1.length) (l := S0) (fun i => CJ (fun us1 => OptsAre NU us1 (blankF (ss1.take i) ss1)) bs ss1 ss2 (ss1.take i) S0 T0 NU R0)
    rfl rfl rfl rfl (Nat.ne_of_gt q9) F9 N9 x9 p9 ⟨vs, us, [], [], cS, cT, 0, rfl, ?o1, ?o2, .nil, hsep, ⟨_, _, ms, mt, mN, mR, mm, mn⟩⟩ ?hl ?turn ?done
  case turn =>
    clear F9 N9 x9 p9 hsep l9 F1 N1 hS1 hS2 ms mt mN mR mm mn
    intro i v m₁ nw h tk oe oi ti hJ hi hv hap F2 N2
    k_fold
    obtain ⟨us1, us2, ws, own, a1, a2, ar, rfl, ho1, ho2, hmis, hsp, ⟨tm, tn, ms, mt, mN, mR, mm, mn⟩⟩ := hJ
    have hv1 : us1[i]? = some v := by simpa using hv us1.toArray a1 (.tail _ (.tail _ (.tail _ (.head _))))
    have sS := hsp.s
    have sT := hsp.t
    have sN := hsp.n
    have sR := hsp.r
    obtain ⟨x, hx⟩ : ∃ x, ss1[i]? = some x := ⟨_, List.getElem?_eq_getElem hi⟩
    have hb : (blankF (ss1.take i) ss1)[i]? = some (if x ∈ ss1.take i then none else some x) := by unfold blankF; rw [List.getElem?_map, hx]; rfl
    by_cases hxi : x ∈ ss1.take i
    · rw [if_pos hxi] at hb
      obtain rfl : v = .ref NU := Option.some.inj (hv1.symm.trans (ho1.null hb))
      (k_steps; (repeat (any_goals ((first | ((with_reducible refine un_stop 1 ?_); (k_dflt (((with_reducible refine at9 281 ?_); apply con_use (mism_c _ _ _ _ _ _ _)); walk_at "con8"; intro _ _ l9z _ _ _ _; k_lt l9z; (try dsimp only)))) | ((with_reducible refine un_stop 2 ?_); (k_dflt (refine app_any (by k_asm) (by k_asm) (by intro _; k_upd) (by omega) ?_); intro _ _ _ _)) | ((with_reducible refine un_stop 3 ?_); (k_dflt (refine object_call (by k_asm) (by k_asm) ?_); intro _ _ _ _ l9z; k_lt l9z)) | ((with_reducible refine un_stop 4 ?_); (k_dflt (refine enum_call (by k_asm) (by k_asm) (by k_mem) ?_); intro _ _ _ _ _ _ _ l9z _ _; k_lt l9z)) | ((with_reducible refine un_stop 5 ?_); (k_dflt (refine txt_len (by assumption) (by k_mem) (by omega) ?_))) | ((with_reducible refine un_stop 6 ?_); (k_dflt (refine set_any (by k_asm) (by k_asm) (by k_upd) (by omega) (by omega) (by omega) ?_); intro _ _ _)) | ((with_reducible refine un_stop 7 ?_); (k_dflt (refine eq_obj_str (News.get (by assumption) (by k_mem)) (by ktr_units) ?_))) | ((with_reducible refine un_stop 8 ?_); (k_dflt (refine wpAny_is_other (by rfl) (by intro q9z; cases q9z) ?_))) | ((with_reducible refine un_stop 9 ?_); (k_dflt (refine wpAny_For ?_))) | ((with_reducible refine un_stop 10 ?_); (k_dflt (refine wpAny_For ?_)))); k_steps))))
      have hm : ∀ y, y ∈ ss1.take i ↔ y ∈ ss1.take (i + 1) := fun y => by rw [take_at hx]; simp; exact fun h => h ▸ hxi
      refine turn_cont F2 N2 (hap2 hap) ⟨us1, us2, ws, own, a1, a2, ar, rfl, blankF_same hm ▸ ho1, blankF_same hm ▸ ho2, ?_, hsp, ⟨_, _, ms, mt, mN, mR, mm, mn⟩⟩
      rw [take_at hx, List.foldl_append, List.foldl_cons, List.foldl_nil, ctd_skip (.inl hxi)]
      exact hmis
    · rw [if_neg hxi] at hb
      have eS : @Ne Nat S0 e9 := (hap _ (.tail _ (.tail _ (.tail _ (.head _))))).1
      have jS : @Ne Nat S0 i9 := (hap _ (.tail _ (.tail _ (.tail _ (.head _))))).2
      have eT : @Ne Nat T0 e9 := (hap _ (.tail _ (.tail _ (.head _)))).1
      have jT : @Ne Nat T0 i9 := (hap _ (.tail _ (.tail _ (.head _)))).2
      have eR : @Ne Nat R0 e9 := (hap _ (.head _)).1
      have jR : @Ne Nat R0 i9 := (hap _ (.head _)).2
      obtain ⟨tx, ev⟩ := ho1.text hb
      obtain rfl : v = .str x tx := Option.some.inj (hv1.symm.trans ev)
      (k_steps; (repeat (any_goals ((first | ((with_reducible refine un_stop 1 ?_); (k_dflt (((with_reducible refine at9 281 ?_); apply con_use (mism_c _ _ _ _ _ _ _)); walk_at "con8"; intro _ _ l9z _ _ _ _; k_lt l9z; (try dsimp only)))) | ((with_reducible refine un_stop 2 ?_); (k_dflt (refine app_any (by k_asm) (by k_asm) (by intro _; k_upd) (by omega) ?_); intro _ _ _ _)) | ((with_reducible refine un_stop 3 ?_); (k_dflt (refine object_call (by k_asm) (by k_asm) ?_); intro _ _ _ _ l9z; k_lt l9z)) | ((with_reducible refine un_stop 4 ?_); (k_dflt (refine enum_call (by k_asm) (by k_asm) (by k_mem) ?_); intro _ _ _ _ _ _ _ l9z _ _; k_lt l9z)) | ((with_reducible refine un_stop 5 ?_); (k_dflt (refine txt_len (by assumption) (by k_mem) (by omega) ?_))) | ((with_reducible refine un_stop 6 ?_); (k_dflt (refine set_any (by k_asm) (by k_asm) (by k_upd) (by omega) (by omega) (by omega) ?_); intro _ _ _)) | ((with_reducible refine un_stop 7 ?_); (k_dflt (refine eq_obj_str (News.get (by assumption) (by k_mem)) (by ktr_units) ?_))) | ((with_reducible refine un_stop 8 ?_); (k_dflt (refine wpAny_is_other (by rfl) (by intro q9z; cases q9z) ?_))) | ((with_reducible refine un_stop 9 ?_); (k_dflt (refine wpAny_For ?_))) | ((with_reducible refine un_stop 10 ?_); (k_dflt (refine wpAny_For ?_)))); k_steps))))
      unfold Stop
      rename IsRange _ _ _ _ _ _ _ _ => hR
      rename Fr _ _ _ _ => F3
      rename News _ _ _ _ => N3
      have hB1 : (blankF (ss1.take i) ss1).length = ss1.length := blankF_len _ _
      refine range_loop (n := ss1.length - i) (fun k => CS (e9, oe) (i9, oi) (R0, listOf ws.toArray ar) (NU, plainObj) (T0, listOf us2.toArray a2) (own ++ bs) (markA x i k (blankF (ss1.take i) ss1)) x tx (cntA x i k (blankF (ss1.take i) ss1)) ss1.length ss2.length S0 T0 NU R0)
        rfl rfl rfl hR ?ha ?hb F3 N3 ⟨us1, a1, _, _, rfl, (markA_zero x i _).symm ▸ ho1, (by rw [cntA_zero]; rfl), rfl, rfl, ⟨_, _, ms, mt, mN, mR, mm, mn⟩⟩ ?turnA ?doneA
      case ha => exact range_small i ss1.length (by omega) (by omega)
      case hb => exact range_size i ss1.length (by omega)
      case turnA =>
        clear F3 N3 hR ms mt mN mR mm mn F2 N2 hv hap ho1 hv1 hsp
        intro k m₂ nx h tk I oI tj hk hJ hapI F4 N4
        k_fold
        obtain ⟨vS, b1, tc, tct, rfl, hoS, mc, mct, me, ⟨tm, tn, ms, mt, mN, mR, mm, mn⟩⟩ := hJ
        have iS : @Ne Nat I S0 := (hapI _ (.tail _ (.tail _ (.tail _ (.tail _ (.tail _ (.head _))))))).symm
        obtain ⟨o, ho⟩ : ∃ o, (blankF (ss1.take i) ss1)[i + k]? = some o := ⟨_, List.getElem?_eq_getElem (by omega)⟩
        have hg := (markA_get x i k (blankF (ss1.take i) ss1)).trans ho
        have ek : ((i : Int) + (k : Int)).toNat = i + k := by omega
        have hlS := hoS.length
        have hlS2 : vS.length = ss1.length := by rw [hlS]; simp [markA, hB1]
        cases o with
        | none =>
          have hit : ItV vS ((i : Int) + (k : Int)) (.ref NU) := ⟨by omega, by rw [ek]; exact hoS.null hg⟩
          (k_steps; (repeat (any_goals ((first | ((with_reducible refine un_stop 1 ?_); (k_dflt (((with_reducible refine at9 281 ?_); apply con_use (mism_c _ _ _ _ _ _ _)); walk_at "con8"; intro _ _ l9z _ _ _ _; k_lt l9z; (try dsimp only)))) | ((with_reducible refine un_stop 2 ?_); (k_dflt (refine app_any (by k_asm) (by k_asm) (by intro _; k_upd) (by omega) ?_); intro _ _ _ _)) | ((with_reducible refine un_stop 3 ?_); (k_dflt (refine object_call (by k_asm) (by k_asm) ?_); intro _ _ _ _ l9z; k_lt l9z)) | ((with_reducible refine un_stop 4 ?_); (k_dflt (refine enum_call (by k_asm) (by k_asm) (by k_mem) ?_); intro _ _ _ _ _ _ _ l9z _ _; k_lt l9z)) | ((with_reducible refine un_stop 5 ?_); (k_dflt (refine txt_len (by assumption) (by k_mem) (by omega) ?_))) | ((with_reducible refine un_stop 6 ?_); (k_dflt (refine set_any (by k_asm) (by k_asm) (by k_upd) (by omega) (by omega) (by omega) ?_); intro _ _ _)) | ((with_reducible refine un_stop 7 ?_); (k_dflt (refine eq_obj_str (News.get (by assumption) (by k_mem)) (by ktr_units) ?_))) | ((with_reducible refine un_stop 8 ?_); (k_dflt (refine wpAny_is_other (by rfl) (by intro q9z; cases q9z) ?_))) | ((with_reducible refine un_stop 9 ?_); (k_dflt (refine wpAny_For ?_))) | ((with_reducible refine un_stop 10 ?_); (k_dflt (refine wpAny_For ?_)))); k_steps))))
          have hn : (blankF (ss1.take i) ss1)[i + k]? ≠ some (some x) := by rw [ho]; simp
          exact turn_next F4 N4 (sep_of hapI rfl) ⟨vS, b1, tc, _, rfl, markA_miss hn ▸ hoS, cntA_miss hn ▸ mc, mct, me, ⟨_, _, ms, mt, mN, mR, mm, mn⟩⟩
        | some y =>
          obtain ⟨ty, hy⟩ := hoS.text hg
          have hit : ItV vS ((i : Int) + (k : Int)) (.str y ty) := ⟨by omega, by rw [ek]; exact hy⟩
          (k_steps; (repeat (any_goals ((first | ((with_reducible refine un_stop 1 ?_); (k_dflt (((with_reducible refine at9 281 ?_); apply con_use (mism_c _ _ _ _ _ _ _)); walk_at "con8"; intro _ _ l9z _ _ _ _; k_lt l9z; (try dsimp only)))) | ((with_reducible refine un_stop 2 ?_); (k_dflt (refine app_any (by k_asm) (by k_asm) (by intro _; k_upd) (by omega) ?_); intro _ _ _ _)) | ((with_reducible refine un_stop 3 ?_); (k_dflt (refine object_call (by k_asm) (by k_asm) ?_); intro _ _ _ _ l9z; k_lt l9z)) | ((with_reducible refine un_stop 4 ?_); (k_dflt (refine enum_call (by k_asm) (by k_asm) (by k_mem) ?_); intro _ _ _ _ _ _ _ l9z _ _; k_lt l9z)) | ((with_reducible refine un_stop 5 ?_); (k_dflt (refine txt_len (by assumption) (by k_mem) (by omega) ?_))) | ((with_reducible refine un_stop 6 ?_); (k_dflt (refine set_any (by k_asm) (by k_asm) (by k_upd) (by omega) (by omega) (by omega) ?_); intro _ _ _)) | ((with_reducible refine un_stop 7 ?_); (k_dflt (refine eq_obj_str (News.get (by assumption) (by k_mem)) (by ktr_units) ?_))) | ((with_reducible refine un_stop 8 ?_); (k_dflt (refine wpAny_is_other (by rfl) (by intro q9z; cases q9z) ?_))) | ((with_reducible refine un_stop 9 ?_); (k_dflt (refine wpAny_For ?_))) | ((with_reducible refine un_stop 10 ?_); (k_dflt (refine wpAny_For ?_)))); k_steps))))
          · rename ((_ == _) = true) => hyx
            have hox : (blankF (ss1.take i) ss1)[i + k]? = some (some x) := by rw [ho, beq_iff_eq.mp hyx]
            rename News _ _ _ _ => nE
            rename Fr _ _ _ _ => fE
            rw [ek] at nE
            exact turn_next fE nE (sep_of hapI rfl) ⟨vS.set (i + k) (.ref NU), b1, _, _, rfl, markA_hit hox ▸ hoS.set (i + k), (by rw [cntA_hit hox]; rfl), mct, me, ⟨_, _, ms, mt, mN, mR, mm, mn⟩⟩
          · rename ((_ == _) = false) => hyx
            have hn : (blankF (ss1.take i) ss1)[i + k]? ≠ some (some x) := by rw [ho]; intro q; exact (beq_eq_false_iff_ne.mp hyx) (Option.some.inj (Option.some.inj q))
            exact turn_next F4 N4 (sep_of hapI rfl) ⟨vS, b1, tc, _, rfl, markA_miss hn ▸ hoS, cntA_miss hn ▸ mc, mct, me, ⟨_, _, ms, mt, mN, mR, mm, mn⟩⟩
      case doneA =>
        clear F3 N3 hR ms mt mN mR mm mn F2 N2 hv ho1 hv1
        intro m₂ nx h tk hJ F4 N4
        obtain ⟨vS, b1, tc, tct, rfl, hoS, mc, mct, me, ⟨tm, tn, ms, mt, mN, mR, mm, mn⟩⟩ := hJ
        have hp1 : ∀ y ∈ ss1.take i, y ∈ ss1.take i := fun _ h => h
        rw [markA_end hp1 (by omega), ← take_at hx] at hoS
        rw [cntA_end hxi hp1 (by omega)] at mc
        (k_steps; (repeat (any_goals ((first | ((with_reducible refine un_stop 1 ?_); (k_dflt (((with_reducible refine at9 281 ?_); apply con_use (mism_c _ _ _ _ _ _ _)); walk_at "con8"; intro _ _ l9z _ _ _ _; k_lt l9z; (try dsimp only)))) | ((with_reducible refine un_stop 2 ?_); (k_dflt (refine app_any (by k_asm) (by k_asm) (by intro _; k_upd) (by omega) ?_); intro _ _ _ _)) | ((with_reducible refine un_stop 3 ?_); (k_dflt (refine object_call (by k_asm) (by k_asm) ?_); intro _ _ _ _ l9z; k_lt l9z)) | ((with_reducible refine un_stop 4 ?_); (k_dflt (refine enum_call (by k_asm) (by k_asm) (by k_mem) ?_); intro _ _ _ _ _ _ _ l9z _ _; k_lt l9z)) | ((with_reducible refine un_stop 5 ?_); (k_dflt (refine txt_len (by assumption) (by k_mem) (by omega) ?_))) | ((with_reducible refine un_stop 6 ?_); (k_dflt (refine set_any (by k_asm) (by k_asm) (by k_upd) (by omega) (by omega) (by omega) ?_); intro _ _ _)) | ((with_reducible refine un_stop 7 ?_); (k_dflt (refine eq_obj_str (News.get (by assumption) (by k_mem)) (by ktr_units) ?_))) | ((with_reducible refine un_stop 8 ?_); (k_dflt (refine wpAny_is_other (by rfl) (by intro q9z; cases q9z) ?_))) | ((with_reducible refine un_stop 9 ?_); (k_dflt (refine wpAny_For ?_))) | ((with_reducible refine un_stop 10 ?_); (k_dflt (refine wpAny_For ?_)))); k_steps))))
        unfold Stop
        refine wpAny_For ?_
        (k_steps; (repeat (any_goals ((first | ((with_reducible refine un_stop 1 ?_); (k_dflt (((with_reducible refine at9 281 ?_); apply con_use (mism_c _ _ _ _ _ _ _)); walk_at "con8"; intro _ _ l9z _ _ _ _; k_lt l9z; (try dsimp only)))) | ((with_reducible refine un_stop 2 ?_); (k_dflt (refine app_any (by k_asm) (by k_asm) (by intro _; k_upd) (by omega) ?_); intro _ _ _ _)) | ((with_reducible refine un_stop 3 ?_); (k_dflt (refine object_call (by k_asm) (by k_asm) ?_); intro _ _ _ _ l9z; k_lt l9z)) | ((with_reducible refine un_stop 4 ?_); (k_dflt (refine enum_call (by k_asm) (by k_asm) (by k_mem) ?_); intro _ _ _ _ _ _ _ l9z _ _; k_lt l9z)) | ((with_reducible refine un_stop 5 ?_); (k_dflt (refine txt_len (by assumption) (by k_mem) (by omega) ?_))) | ((with_reducible refine un_stop 6 ?_); (k_dflt (refine set_any (by k_asm) (by k_asm) (by k_upd) (by omega) (by omega) (by omega) ?_); intro _ _ _)) | ((with_reducible refine un_stop 7 ?_); (k_dflt (refine eq_obj_str (News.get (by assumption) (by k_mem)) (by ktr_units) ?_))) | ((with_reducible refine un_stop 8 ?_); (k_dflt (refine wpAny_is_other (by rfl) (by intro q9z; cases q9z) ?_))) | ((with_reducible refine un_stop 9 ?_); (k_dflt (refine wpAny_For ?_))) | ((with_reducible refine un_stop 10 ?_); (k_dflt (refine wpAny_For ?_)))); k_steps))))
        unfold Stop
        rename News _ _ _ _ => N5
        rename Fr _ _ _ _ => F5
        rename (_ < _ ∧ _ < _ ∧ _ < _ ∧ _ < _ ∧ _ < _ ∧ _ < _ ∧ AllLt _ (_ ++ _)) => l8
        rename (_ ∧ _ = Data.fields _) => x8
        rename (_ < _) => q8
        rename (∀ p ∈ _, _ ≠ _ ∧ _ ≠ _) => p8
        rename_i e8 i8 o8 h8
        refine enum_loop (len := ss2.length) (l := T0) (fun k => CT (e9, oe) (i9, oi) (R0, listOf ws.toArray ar) (NU, plainObj) (S0, listOf vS.toArray b1) (own ++ bs) (markA x 0 k (blankF (ss1.take i) ss2)) x tx (cntA x 0 k (blankF (ss1.take i) ss2)) (fun m => ∃ t, m (Str.ofString "cnt_s") = some (.int (ss1.count x : Nat) t)) ss1.length ss2.length S0 T0 NU R0)
          rfl rfl rfl rfl (Nat.ne_of_gt q8) F5 N5 x8 p8 ⟨us2, a2, _, rfl, (markA_zero x 0 _).symm ▸ ho2, (by rw [cntA_zero]; exact mct), ⟨_, mc⟩, me, ⟨_, _, ms, mt, mN, mR, mm, mn⟩⟩ ?hl2 ?turnB ?doneB
        case hl2 =>
          rintro k m₃ nx ⟨vT, b2, tc, rfl, hoT, _⟩
          exact ⟨_, _, .tail _ (.tail _ (.tail _ (.tail _ (.head _)))), by rw [List.size_toArray, hoT.length]; simp [markA, blankF_len]⟩
        case turnB =>
          clear F5 N5 x8 p8 F4 N4 hap l8 hoS mc mct me ms mt mN mR mm mn ho2 hsp
          intro k v m₃ nx h tk oe8 oi8 tj hJ hk hv2 hap8 F6 N6
          k_fold
          obtain ⟨vT, b2, tct, rfl, hoT, mct, ⟨tc, mc⟩, me, ⟨tm, tn, ms, mt, mN, mR, mm, mn⟩⟩ := hJ
          have e8T : @Ne Nat T0 e8 := (hap8 _ (.tail _ (.tail _ (.tail _ (.tail _ (.head _)))))).1
          have j8T : @Ne Nat T0 i8 := (hap8 _ (.tail _ (.tail _ (.tail _ (.tail _ (.head _)))))).2
          have hvT : vT[k]? = some v := by simpa using hv2 vT.toArray b2 (.tail _ (.tail _ (.tail _ (.tail _ (.head _)))))
          have hB2 : (blankF (ss1.take i) ss2).length = ss2.length := blankF_len _ _
          obtain ⟨o, ho⟩ : ∃ o, (blankF (ss1.take i) ss2)[0 + k]? = some o := ⟨_, List.getElem?_eq_getElem (by omega)⟩
          have hg := (markA_get x 0 k (blankF (ss1.take i) ss2)).trans ho
          rw [Nat.zero_add] at hg
          have hlT := hoT.length
          have hlT2 : vT.length = ss2.length := by rw [hlT]; simp [markA, hB2]
          cases o with
          | none =>
            obtain rfl : v = .ref NU := Option.some.inj (hvT.symm.trans (hoT.null hg))
            (k_steps; (repeat (any_goals ((first | ((with_reducible refine un_stop 1 ?_); (k_dflt (((with_reducible refine at9 281 ?_); apply con_use (mism_c _ _ _ _ _ _ _)); walk_at "con8"; intro _ _ l9z _ _ _ _; k_lt l9z; (try dsimp only)))) | ((with_reducible refine un_stop 2 ?_); (k_dflt (refine app_any (by k_asm) (by k_asm) (by intro _; k_upd) (by omega) ?_); intro _ _ _ _)) | ((with_reducible refine un_stop 3 ?_); (k_dflt (refine object_call (by k_asm) (by k_asm) ?_); intro _ _ _ _ l9z; k_lt l9z)) | ((with_reducible refine un_stop 4 ?_); (k_dflt (refine enum_call (by k_asm) (by k_asm) (by k_mem) ?_); intro _ _ _ _ _ _ _ l9z _ _; k_lt l9z)) | ((with_reducible refine un_stop 5 ?_); (k_dflt (refine txt_len (by assumption) (by k_mem) (by omega) ?_))) | ((with_reducible refine un_stop 6 ?_); (k_dflt (refine set_any (by k_asm) (by k_asm) (by k_upd) (by omega) (by omega) (by omega) ?_); intro _ _ _)) | ((with_reducible refine un_stop 7 ?_); (k_dflt (refine eq_obj_str (News.get (by assumption) (by k_mem)) (by ktr_units) ?_))) | ((with_reducible refine un_stop 8 ?_); (k_dflt (refine wpAny_is_other (by rfl) (by intro q9z; cases q9z) ?_))) | ((with_reducible refine un_stop 9 ?_); (k_dflt (refine wpAny_For ?_))) | ((with_reducible refine un_stop 10 ?_); (k_dflt (refine wpAny_For ?_)))); k_steps))))
            have hn : (blankF (ss1.take i) ss2)[0 + k]? ≠ some (some x) := by rw [ho]; simp
            exact turn_next F6 N6 (hap_of hap8 rfl) ⟨vT, b2, _, rfl, markA_miss hn ▸ hoT, cntA_miss hn ▸ mct, ⟨_, mc⟩, me, ⟨_, _, ms, mt, mN, mR, mm, mn⟩⟩
          | some y =>
            obtain ⟨ty, hy⟩ := hoT.text hg
            obtain rfl : v = .str y ty := Option.some.inj (hvT.symm.trans hy)
            (k_steps; (repeat (any_goals ((first | ((with_reducible refine un_stop 1 ?_); (k_dflt (((with_reducible refine at9 281 ?_); apply con_use (mism_c _ _ _ _ _ _ _)); walk_at "con8"; intro _ _ l9z _ _ _ _; k_lt l9z; (try dsimp only)))) | ((with_reducible refine un_stop 2 ?_); (k_dflt (refine app_any (by k_asm) (by k_asm) (by intro _; k_upd) (by omega) ?_); intro _ _ _ _)) | ((with_reducible refine un_stop 3 ?_); (k_dflt (refine object_call (by k_asm) (by k_asm) ?_); intro _ _ _ _ l9z; k_lt l9z)) | ((with_reducible refine un_stop 4 ?_); (k_dflt (refine enum_call (by k_asm) (by k_asm) (by k_mem) ?_); intro _ _ _ _ _ _ _ l9z _ _; k_lt l9z)) | ((with_reducible refine un_stop 5 ?_); (k_dflt (refine txt_len (by assumption) (by k_mem) (by omega) ?_))) | ((with_reducible refine un_stop 6 ?_); (k_dflt (refine set_any (by k_asm) (by k_asm) (by k_upd) (by omega) (by omega) (by omega) ?_); intro _ _ _)) | ((with_reducible refine un_stop 7 ?_); (k_dflt (refine eq_obj_str (News.get (by assumption) (by k_mem)) (by ktr_units) ?_))) | ((with_reducible refine un_stop 8 ?_); (k_dflt (refine wpAny_is_other (by rfl) (by intro q9z; cases q9z) ?_))) | ((with_reducible refine un_stop 9 ?_); (k_dflt (refine wpAny_For ?_))) | ((with_reducible refine un_stop 10 ?_); (k_dflt (refine wpAny_For ?_)))); k_steps))))
            · rename ((_ == _) = true) => hyx
              have hox : (blankF (ss1.take i) ss2)[0 + k]? = some (some x) := by rw [ho, beq_iff_eq.mp hyx]
              rename News _ _ _ _ => nE
              rename Fr _ _ _ _ => fE
              rw [Int.toNat_natCast] at nE
              have hset := hoT.set k
              have hmk := markA_hit hox
              rw [Nat.zero_add] at hmk
              exact turn_next fE nE (hap_of hap8 rfl) ⟨vT.set k (.ref NU), b2, _, rfl, hmk ▸ hset, (by rw [cntA_hit hox]; rfl), ⟨_, mc⟩, me, ⟨_, _, ms, mt, mN, mR, mm, mn⟩⟩
            · rename ((_ == _) = false) => hyx
              have hn : (blankF (ss1.take i) ss2)[0 + k]? ≠ some (some x) := by rw [ho]; intro q; exact (beq_eq_false_iff_ne.mp hyx) (Option.some.inj (Option.some.inj q))
              exact turn_next F6 N6 (hap_of hap8 rfl) ⟨vT, b2, _, rfl, markA_miss hn ▸ hoT, cntA_miss hn ▸ mct, ⟨_, mc⟩, me, ⟨_, _, ms, mt, mN, mR, mm, mn⟩⟩
        case doneB =>
          clear F5 N5 x8 p8 F4 N4 l8 mc mct me ms mt mN mR mm mn ho2
          intro m₃ nx h tk hJ F6 N6
          obtain ⟨vT, b2, tct, rfl, hoT, mct, ⟨tc, mc⟩, me, ⟨tm, tn, ms, mt, mN, mR, mm, mn⟩⟩ := hJ
          have hp2 : ∀ y ∈ ss2.take 0, y ∈ ss1.take i := fun _ h => by simp at h
          rw [markA_end hp2 (by omega), ← take_at hx] at hoT
          rw [cntA_end hxi hp2 (by omega)] at mct
          have hws : ws.length ≤ 100 := by
            have q1 := hmis.length
            have q2 := ctd_len (a := ss1) (b := ss2) (l := ss1.take i) (acc := [])
            simp at q2
            omega
          (k_steps; (repeat (any_goals ((first | ((with_reducible refine un_stop 1 ?_); (k_dflt (((with_reducible refine at9 281 ?_); apply con_use (mism_c _ _ _ _ _ _ _)); walk_at "con8"; intro _ _ l9z _ _ _ _; k_lt l9z; (try dsimp only)))) | ((with_reducible refine un_stop 2 ?_); (k_dflt (refine app_any (by k_asm) (by k_asm) (by intro _; k_upd) (by omega) ?_); intro _ _ _ _)) | ((with_reducible refine un_stop 3 ?_); (k_dflt (refine object_call (by k_asm) (by k_asm) ?_); intro _ _ _ _ l9z; k_lt l9z)) | ((with_reducible refine un_stop 4 ?_); (k_dflt (refine enum_call (by k_asm) (by k_asm) (by k_mem) ?_); intro _ _ _ _ _ _ _ l9z _ _; k_lt l9z)) | ((with_reducible refine un_stop 5 ?_); (k_dflt (refine txt_len (by assumption) (by k_mem) (by omega) ?_))) | ((with_reducible refine un_stop 6 ?_); (k_dflt (refine set_any (by k_asm) (by k_asm) (by k_upd) (by omega) (by omega) (by omega) ?_); intro _ _ _)) | ((with_reducible refine un_stop 7 ?_); (k_dflt (refine eq_obj_str (News.get (by assumption) (by k_mem)) (by ktr_units) ?_))) | ((with_reducible refine un_stop 8 ?_); (k_dflt (refine wpAny_is_other (by rfl) (by intro q9z; cases q9z) ?_))) | ((with_reducible refine un_stop 9 ?_); (k_dflt (refine wpAny_For ?_))) | ((with_reducible refine un_stop 10 ?_); (k_dflt (refine wpAny_For ?_)))); k_steps))))
          · rename News _ _ _ _ => nE
            rename Fr _ _ _ _ => fE
            rename (_ < _ ∧ _ < _ ∧ _ < _ ∧ _ < _ ∧ _ < _ ∧ _ < _ ∧ AllLt _ (_ ++ _)) => l7
            rename (((_ : Nat) : Int) ≠ ((_ : Nat) : Int)) => hc
            refine turn_next fE (perm7 nE) (hap_row (hap_of hap rfl) l7.1 l7.2.1) ⟨vS, vT, _, (_, _) :: own, b1, b2, _, rfl, hoS, hoT, ?_, hsp.cons l7.2.2.2.2.2.1 l7.2.2.2.2.1 l7.2.2.2.1 l7.2.2.1, ⟨_, _, ms, mt, mN, mR, mm, mn⟩⟩
            rw [take_at hx, List.foldl_append, List.foldl_cons, List.foldl_nil, ctd_add hxi (by omega)]
            exact (hmis.mono fun p hp => .tail _ hp).append (.cons (.head _) .nil)
          · rename (((_ : Nat) : Int) = ((_ : Nat) : Int)) => hc
            refine turn_next F6 N6 (hap_of hap rfl) ⟨vS, vT, ws, own, b1, b2, ar, rfl, hoS, hoT, ?_, hsp, ⟨_, _, ms, mt, mN, mR, mm, mn⟩⟩
            rw [take_at hx, List.foldl_append, List.foldl_cons, List.foldl_nil, ctd_skip (.inr (by omega))]
            exact hmis
  case o1 => rw [List.take_zero, blankF_nil]; exact .of_strs hS1
  case o2 => rw [List.take_zero, blankF_nil]; exact .of_strs hS2
  case hl =>
    rintro i m₁ nx ⟨us1, us2, ws, own, a1, a2, ar, rfl, ho1, _⟩
    exact ⟨_, _, .tail _ (.tail _ (.tail _ (.head _))), by rw [List.size_toArray, ho1.length, blankF_len]⟩
  case done =>
    clear ms mt mN mR mm mn hsep hS1 hS2
    rintro m₁ nx h tk ⟨us1, us2, ws, own, a1, a2, ar, rfl, ho1, ho2, hmis, hsp, ⟨tm, tn, ms, mt, mN, mR, mm, mn⟩⟩ F2 N2
    rw [List.take_of_length_le (Nat.le_refl _)] at ho2 hmis
    clear F1 N1 F9 N9 l9 x9 q9 p9 e9 i9 ho1
    (k_steps; (repeat (any_goals ((first | ((with_reducible refine un_stop 1 ?_); (k_dflt (((with_reducible refine at9 281 ?_); apply con_use (mism_c _ _ _ _ _ _ _)); walk_at "con8"; intro _ _ l9z _ _ _ _; k_lt l9z; (try dsimp only)))) | ((with_reducible refine un_stop 2 ?_); (k_dflt (refine app_any (by k_asm) (by k_asm) (by intro _; k_upd) (by omega) ?_); intro _ _ _ _)) | ((with_reducible refine un_stop 3 ?_); (k_dflt (refine object_call (by k_asm) (by k_asm) ?_); intro _ _ _ _ l9z; k_lt l9z)) | ((with_reducible refine un_stop 4 ?_); (k_dflt (refine enum_call (by k_asm) (by k_asm) (by k_mem) ?_); intro _ _ _ _ _ _ _ l9z _ _; k_lt l9z)) | ((with_reducible refine un_stop 5 ?_); (k_dflt (refine txt_len (by assumption) (by k_mem) (by omega) ?_))) | ((with_reducible refine un_stop 6 ?_); (k_dflt (refine set_any (by k_asm) (by k_asm) (by k_upd) (by omega) (by omega) (by omega) ?_); intro _ _ _)) | ((with_reducible refine un_stop 7 ?_); (k_dflt (refine eq_obj_str (News.get (by assumption) (by k_mem)) (by ktr_units) ?_))) | ((with_reducible refine un_stop 8 ?_); (k_dflt (refine wpAny_is_other (by rfl) (by intro q9z; cases q9z) ?_))) | ((with_reducible refine un_stop 9 ?_); (k_dflt (refine wpAny_For ?_))) | ((with_reducible refine un_stop 10 ?_); (k_dflt (refine wpAny_For ?_)))); k_steps))))
    unfold Stop
    refine wpAny_For ?_
    (k_steps; (repeat (any_goals ((first | ((with_reducible refine un_stop 1 ?_); (k_dflt (((with_reducible refine at9 281 ?_); apply con_use (mism_c _ _ _ _ _ _ _)); walk_at "con8"; intro _ _ l9z _ _ _ _; k_lt l9z; (try dsimp only)))) | ((with_reducible refine un_stop 2 ?_); (k_dflt (refine app_any (by k_asm) (by k_asm) (by intro _; k_upd) (by omega) ?_); intro _ _ _ _)) | ((with_reducible refine un_stop 3 ?_); (k_dflt (refine object_call (by k_asm) (by k_asm) ?_); intro _ _ _ _ l9z; k_lt l9z)) | ((with_reducible refine un_stop 4 ?_); (k_dflt (refine enum_call (by k_asm) (by k_asm) (by k_mem) ?_); intro _ _ _ _ _ _ _ l9z _ _; k_lt l9z)) | ((with_reducible refine un_stop 5 ?_); (k_dflt (refine txt_len (by assumption) (by k_mem) (by omega) ?_))) | ((with_reducible refine un_stop 6 ?_); (k_dflt (refine set_any (by k_asm) (by k_asm) (by k_upd) (by omega) (by omega) (by omega) ?_); intro _ _ _)) | ((with_reducible refine un_stop 7 ?_); (k_dflt (refine eq_obj_str (News.get (by assumption) (by k_mem)) (by ktr_units) ?_))) | ((with_reducible refine un_stop 8 ?_); (k_dflt (refine wpAny_is_other (by rfl) (by intro q9z; cases q9z) ?_))) | ((with_reducible refine un_stop 9 ?_); (k_dflt (refine wpAny_For ?_))) | ((with_reducible refine un_stop 10 ?_); (k_dflt (refine wpAny_For ?_)))); k_steps))))
    unfold Stop
    rename News _ _ _ _ => N9
    rename Fr _ _ _ _ => F9
    rename (_ < _ ∧ _ < _ ∧ _ < _ ∧ _ < _ ∧ AllLt _ (_ ++ _)) => l9
    rename (_ ∧ _ = Data.fields _) => x9
    rename (_ < _) => q9
    rename (∀ p ∈ _, _ ≠ _ ∧ _ ≠ _) => p9
    rename_i e9 i9 o9 h9
    refine enum_loop (len := ss2.length) (l := T0) (fun i => CJ (fun _ => True) bs ss1 ss2 (ss1 ++ ss2.take i) S0 T0 NU R0)
      rfl rfl rfl rfl (Nat.ne_of_gt q9) F9 N9 x9 p9 ⟨us1, us2, ws, own, a1, a2, ar, rfl, trivial, ?o2, ?o3, hsp, ⟨_, _, ms, mt, mN, mR, mm, mn⟩⟩ ?hl ?turn ?done
    case o2 => rw [List.take_zero, List.append_nil]; exact ho2
    case o3 => rw [List.take_zero, List.append_nil]; exact hmis
    case hl =>
      rintro i m₁ nx ⟨us1, us2, ws, own, a1, a2, ar, rfl, _, ho2, _⟩
      exact ⟨_, _, .tail _ (.tail _ (.head _)), by rw [List.size_toArray, ho2.length, blankF_len]⟩
    case turn =>
      clear ho2 hmis hsp N2 F2 ms mt mN mR mm mn F9 N9 x9 p9 l9
      intro i v m₁ nw h tk oe oi ti hJ hi hv hap F2 N2
      k_fold
      obtain ⟨us1, us2, ws, own, a1, a2, ar, rfl, -, ho2, hmis, hsp, ⟨tm, tn, ms, mt, mN, mR, mm, mn⟩⟩ := hJ
      have hv1 : us2[i]? = some v := by simpa using hv us2.toArray a2 (.tail _ (.tail _ (.head _)))
      have sS := hsp.s
      have sT := hsp.t
      have sN := hsp.n
      have sR := hsp.r
      obtain ⟨x, hx⟩ : ∃ x, ss2[i]? = some x := ⟨_, List.getElem?_eq_getElem hi⟩
      have hb : (blankF (ss1 ++ ss2.take i) ss2)[i]? = some (if x ∈ ss1 ++ ss2.take i then none else some x) := by unfold blankF; rw [List.getElem?_map, hx]; rfl
      by_cases hxi : x ∈ ss1 ++ ss2.take i
      · rw [if_pos hxi] at hb
        obtain rfl : v = .ref NU := Option.some.inj (hv1.symm.trans (ho2.null hb))
        (k_steps; (repeat (any_goals ((first | ((with_reducible refine un_stop 1 ?_); (k_dflt (((with_reducible refine at9 281 ?_); apply con_use (mism_c _ _ _ _ _ _ _)); walk_at "con8"; intro _ _ l9z _ _ _ _; k_lt l9z; (try dsimp only)))) | ((with_reducible refine un_stop 2 ?_); (k_dflt (refine app_any (by k_asm) (by k_asm) (by intro _; k_upd) (by omega) ?_); intro _ _ _ _)) | ((with_reducible refine un_stop 3 ?_); (k_dflt (refine object_call (by k_asm) (by k_asm) ?_); intro _ _ _ _ l9z; k_lt l9z)) | ((with_reducible refine un_stop 4 ?_); (k_dflt (refine enum_call (by k_asm) (by k_asm) (by k_mem) ?_); intro _ _ _ _ _ _ _ l9z _ _; k_lt l9z)) | ((with_reducible refine un_stop 5 ?_); (k_dflt (refine txt_len (by assumption) (by k_mem) (by omega) ?_))) | ((with_reducible refine un_stop 6 ?_); (k_dflt (refine set_any (by k_asm) (by k_asm) (by k_upd) (by omega) (by omega) (by omega) ?_); intro _ _ _)) | ((with_reducible refine un_stop 7 ?_); (k_dflt (refine eq_obj_str (News.get (by assumption) (by k_mem)) (by ktr_units) ?_))) | ((with_reducible refine un_stop 8 ?_); (k_dflt (refine wpAny_is_other (by rfl) (by intro q9z; cases q9z) ?_))) | ((with_reducible refine un_stop 9 ?_); (k_dflt (refine wpAny_For ?_))) | ((with_reducible refine un_stop 10 ?_); (k_dflt (refine wpAny_For ?_)))); k_steps))))
        have hm : ∀ y, y ∈ ss1 ++ ss2.take i ↔ y ∈ ss1 ++ ss2.take (i + 1) := fun y => by rw [take_at hx, ← List.append_assoc, List.mem_append (t := [x])]; exact ⟨.inl, fun q => q.elim id fun e => List.mem_singleton.mp e ▸ hxi⟩
        refine turn_cont F2 N2 (hap2 hap) ⟨us1, us2, ws, own, a1, a2, ar, rfl, trivial, blankF_same hm ▸ ho2, ?_, hsp, ⟨_, _, ms, mt, mN, mR, mm, mn⟩⟩
        rw [take_at hx, ← List.append_assoc, List.foldl_append, List.foldl_cons, List.foldl_nil, ctd_skip (.inl hxi)]
        exact hmis
      · rw [if_neg hxi] at hb
        have eT : @Ne Nat T0 e9 := (hap _ (.tail _ (.tail _ (.head _)))).1
        have jT : @Ne Nat T0 i9 := (hap _ (.tail _ (.tail _ (.head _)))).2
        have eR : @Ne Nat R0 e9 := (hap _ (.head _)).1
        have jR : @Ne Nat R0 i9 := (hap _ (.head _)).2
        obtain ⟨tx, ev⟩ := ho2.text hb
        obtain rfl : v = .str x tx := Option.some.inj (hv1.symm.trans ev)
        (k_steps; (repeat (any_goals ((first | ((with_reducible refine un_stop 1 ?_); (k_dflt (((with_reducible refine at9 281 ?_); apply con_use (mism_c _ _ _ _ _ _ _)); walk_at "con8"; intro _ _ l9z _ _ _ _; k_lt l9z; (try dsimp only)))) | ((with_reducible refine un_stop 2 ?_); (k_dflt (refine app_any (by k_asm) (by k_asm) (by intro _; k_upd) (by omega) ?_); intro _ _ _ _)) | ((with_reducible refine un_stop 3 ?_); (k_dflt (refine object_call (by k_asm) (by k_asm) ?_); intro _ _ _ _ l9z; k_lt l9z)) | ((with_reducible refine un_stop 4 ?_); (k_dflt (refine enum_call (by k_asm) (by k_asm) (by k_mem) ?_); intro _ _ _ _ _ _ _ l9z _ _; k_lt l9z)) | ((with_reducible refine un_stop 5 ?_); (k_dflt (refine txt_len (by assumption) (by k_mem) (by omega) ?_))) | ((with_reducible refine un_stop 6 ?_); (k_dflt (refine set_any (by k_asm) (by k_asm) (by k_upd) (by omega) (by omega) (by omega) ?_); intro _ _ _)) | ((with_reducible refine un_stop 7 ?_); (k_dflt (refine eq_obj_str (News.get (by assumption) (by k_mem)) (by ktr_units) ?_))) | ((with_reducible refine un_stop 8 ?_); (k_dflt (refine wpAny_is_other (by rfl) (by intro q9z; cases q9z) ?_))) | ((with_reducible refine un_stop 9 ?_); (k_dflt (refine wpAny_For ?_))) | ((with_reducible refine un_stop 10 ?_); (k_dflt (refine wpAny_For ?_)))); k_steps))))
        unfold Stop
        rename IsRange _ _ _ _ _ _ _ _ => hR
        rename Fr _ _ _ _ => F3
        rename News _ _ _ _ => N3
        have hB1 : (blankF (ss1 ++ ss2.take i) ss2).length = ss2.length := blankF_len _ _
        refine range_loop (n := ss2.length - i) (fun k => CT (e9, oe) (i9, oi) (R0, listOf ws.toArray ar) (NU, plainObj) (S0, listOf us1.toArray a1) (own ++ bs) (markA x i k (blankF (ss1 ++ ss2.take i) ss2)) x tx (cntA x i k (blankF (ss1 ++ ss2.take i) ss2)) (fun _ => True) ss1.length ss2.length S0 T0 NU R0)
          rfl rfl rfl hR ?ha ?hb F3 N3 ⟨us2, a2, _, rfl, (markA_zero x i _).symm ▸ ho2, (by rw [cntA_zero]; rfl), trivial, rfl, ⟨_, _, ms, mt, mN, mR, mm, mn⟩⟩ ?turnA ?doneA
        case ha => exact range_small i ss2.length (by omega) (by omega)
        case hb => exact range_size i ss2.length (by omega)
        case turnA =>
          clear F3 N3 hR ms mt mN mR mm mn F2 N2 hv hap ho2 hv1 hsp
          intro k m₂ nx h tk I oI tj hk hJ hapI F4 N4
          k_fold
          obtain ⟨vT, b2, tc, rfl, hoT, mc, -, me, ⟨tm, tn, ms, mt, mN, mR, mm, mn⟩⟩ := hJ
          have iT : @Ne Nat I T0 := (hapI _ (.tail _ (.tail _ (.tail _ (.tail _ (.head _)))))).symm
          obtain ⟨o, ho⟩ : ∃ o, (blankF (ss1 ++ ss2.take i) ss2)[i + k]? = some o := ⟨_, List.getElem?_eq_getElem (by omega)⟩
          have hg := (markA_get x i k (blankF (ss1 ++ ss2.take i) ss2)).trans ho
          have ek : ((i : Int) + (k : Int)).toNat = i + k := by omega
          have hlT := hoT.length
          have hlT2 : vT.length = ss2.length := by rw [hlT]; simp [markA, hB1]
          cases o with
          | none =>
            have hit : ItV vT ((i : Int) + (k : Int)) (.ref NU) := ⟨by omega, by rw [ek]; exact hoT.null hg⟩
            (k_steps; (repeat (any_goals ((first | ((with_reducible refine un_stop 1 ?_); (k_dflt (((with_reducible refine at9 281 ?_); apply con_use (mism_c _ _ _ _ _ _ _)); walk_at "con8"; intro _ _ l9z _ _ _ _; k_lt l9z; (try dsimp only)))) | ((with_reducible refine un_stop 2 ?_); (k_dflt (refine app_any (by k_asm) (by k_asm) (by intro _; k_upd) (by omega) ?_); intro _ _ _ _)) | ((with_reducible refine un_stop 3 ?_); (k_dflt (refine object_call (by k_asm) (by k_asm) ?_); intro _ _ _ _ l9z; k_lt l9z)) | ((with_reducible refine un_stop 4 ?_); (k_dflt (refine enum_call (by k_asm) (by k_asm) (by k_mem) ?_); intro _ _ _ _ _ _ _ l9z _ _; k_lt l9z)) | ((with_reducible refine un_stop 5 ?_); (k_dflt (refine txt_len (by assumption) (by k_mem) (by omega) ?_))) | ((with_reducible refine un_stop 6 ?_); (k_dflt (refine set_any (by k_asm) (by k_asm) (by k_upd) (by omega) (by omega) (by omega) ?_); intro _ _ _)) | ((with_reducible refine un_stop 7 ?_); (k_dflt (refine eq_obj_str (News.get (by assumption) (by k_mem)) (by ktr_units) ?_))) | ((with_reducible refine un_stop 8 ?_); (k_dflt (refine wpAny_is_other (by rfl) (by intro q9z; cases q9z) ?_))) | ((with_reducible refine un_stop 9 ?_); (k_dflt (refine wpAny_For ?_))) | ((with_reducible refine un_stop 10 ?_); (k_dflt (refine wpAny_For ?_)))); k_steps))))
            have hn : (blankF (ss1 ++ ss2.take i) ss2)[i + k]? ≠ some (some x) := by rw [ho]; simp
            exact turn_next F4 N4 (sep_of hapI rfl) ⟨vT, b2, tc, rfl, markA_miss hn ▸ hoT, cntA_miss hn ▸ mc, trivial, me, ⟨_, _, ms, mt, mN, mR, mm, mn⟩⟩
          | some y =>
            obtain ⟨ty, hy⟩ := hoT.text hg
            have hit : ItV vT ((i : Int) + (k : Int)) (.str y ty) := ⟨by omega, by rw [ek]; exact hy⟩
            (k_steps; (repeat (any_goals ((first | ((with_reducible refine un_stop 1 ?_); (k_dflt (((with_reducible refine at9 281 ?_); apply con_use (mism_c _ _ _ _ _ _ _)); walk_at "con8"; intro _ _ l9z _ _ _ _; k_lt l9z; (try dsimp only)))) | ((with_reducible refine un_stop 2 ?_); (k_dflt (refine app_any (by k_asm) (by k_asm) (by intro _; k_upd) (by omega) ?_); intro _ _ _ _)) | ((with_reducible refine un_stop 3 ?_); (k_dflt (refine object_call (by k_asm) (by k_asm) ?_); intro _ _ _ _ l9z; k_lt l9z)) | ((with_reducible refine un_stop 4 ?_); (k_dflt (refine enum_call (by k_asm) (by k_asm) (by k_mem) ?_); intro _ _ _ _ _ _ _ l9z _ _; k_lt l9z)) | ((with_reducible refine un_stop 5 ?_); (k_dflt (refine txt_len (by assumption) (by k_mem) (by omega) ?_))) | ((with_reducible refine un_stop 6 ?_); (k_dflt (refine set_any (by k_asm) (by k_asm) (by k_upd) (by omega) (by omega) (by omega) ?_); intro _ _ _)) | ((with_reducible refine un_stop 7 ?_); (k_dflt (refine eq_obj_str (News.get (by assumption) (by k_mem)) (by ktr_units) ?_))) | ((with_reducible refine un_stop 8 ?_); (k_dflt (refine wpAny_is_other (by rfl) (by intro q9z; cases q9z) ?_))) | ((with_reducible refine un_stop 9 ?_); (k_dflt (refine wpAny_For ?_))) | ((with_reducible refine un_stop 10 ?_); (k_dflt (refine wpAny_For ?_)))); k_steps))))
            · rename ((_ == _) = true) => hyx
              have hox : (blankF (ss1 ++ ss2.take i) ss2)[i + k]? = some (some x) := by rw [ho, beq_iff_eq.mp hyx]
              rename News _ _ _ _ => nE
              rename Fr _ _ _ _ => fE
              rw [ek] at nE
              exact turn_next fE nE (sep_of hapI rfl) ⟨vT.set (i + k) (.ref NU), b2, _, rfl, markA_hit hox ▸ hoT.set (i + k), (by rw [cntA_hit hox]; rfl), trivial, me, ⟨_, _, ms, mt, mN, mR, mm, mn⟩⟩
            · rename ((_ == _) = false) => hyx
              have hn : (blankF (ss1 ++ ss2.take i) ss2)[i + k]? ≠ some (some x) := by rw [ho]; intro q; exact (beq_eq_false_iff_ne.mp hyx) (Option.some.inj (Option.some.inj q))
              exact turn_next F4 N4 (sep_of hapI rfl) ⟨vT, b2, tc, rfl, markA_miss hn ▸ hoT, cntA_miss hn ▸ mc, trivial, me, ⟨_, _, ms, mt, mN, mR, mm, mn⟩⟩
        case doneA =>
          clear F3 N3 hR ms mt mN mR mm mn F2 N2 hv ho2 hv1
          intro m₂ nx h tk hJ F4 N4
          obtain ⟨vT, b2, tc, rfl, hoT, mc, -, me, ⟨tm, tn, ms, mt, mN, mR, mm, mn⟩⟩ := hJ
          have hp1 : ∀ y ∈ ss2.take i, y ∈ ss1 ++ ss2.take i := fun _ h => List.mem_append.mpr (.inr h)
          rw [markA_end hp1 (by omega), List.append_assoc, ← take_at hx] at hoT
          rw [cntA_end hxi hp1 (by omega)] at mc
          have h0 : ss1.count x = 0 := List.count_eq_zero.mpr fun q => hxi (List.mem_append.mpr (.inl q))
          have h1 : 0 < ss2.count x := List.count_pos_iff.mpr (List.mem_of_getElem? hx)
          have hws : ws.length ≤ 100 := by
            have q1 := hmis.length
            have q2 := ctd_len (a := ss1) (b := ss2) (l := ss1 ++ ss2.take i) (acc := [])
            simp only [List.length_append, List.length_take, List.length_nil, Nat.zero_add] at q2
            omega
          (k_steps; (repeat (any_goals ((first | ((with_reducible refine un_stop 1 ?_); (k_dflt (((with_reducible refine at9 281 ?_); apply con_use (mism_c _ _ _ _ _ _ _)); walk_at "con8"; intro _ _ l9z _ _ _ _; k_lt l9z; (try dsimp only)))) | ((with_reducible refine un_stop 2 ?_); (k_dflt (refine app_any (by k_asm) (by k_asm) (by intro _; k_upd) (by omega) ?_); intro _ _ _ _)) | ((with_reducible refine un_stop 3 ?_); (k_dflt (refine object_call (by k_asm) (by k_asm) ?_); intro _ _ _ _ l9z; k_lt l9z)) | ((with_reducible refine un_stop 4 ?_); (k_dflt (refine enum_call (by k_asm) (by k_asm) (by k_mem) ?_); intro _ _ _ _ _ _ _ l9z _ _; k_lt l9z)) | ((with_reducible refine un_stop 5 ?_); (k_dflt (refine txt_len (by assumption) (by k_mem) (by omega) ?_))) | ((with_reducible refine un_stop 6 ?_); (k_dflt (refine set_any (by k_asm) (by k_asm) (by k_upd) (by omega) (by omega) (by omega) ?_); intro _ _ _)) | ((with_reducible refine un_stop 7 ?_); (k_dflt (refine eq_obj_str (News.get (by assumption) (by k_mem)) (by ktr_units) ?_))) | ((with_reducible refine un_stop 8 ?_); (k_dflt (refine wpAny_is_other (by rfl) (by intro q9z; cases q9z) ?_))) | ((with_reducible refine un_stop 9 ?_); (k_dflt (refine wpAny_For ?_))) | ((with_reducible refine un_stop 10 ?_); (k_dflt (refine wpAny_For ?_)))); k_steps))))
          rename News _ _ _ _ => nE
          rename Fr _ _ _ _ => fE
          rename (_ < _ ∧ _ < _ ∧ _ < _ ∧ _ < _ ∧ _ < _ ∧ _ < _ ∧ AllLt _ (_ ++ _)) => l7
          refine turn_next fE (perm7 nE) (hap_row (hap_of hap rfl) l7.1 l7.2.1) ⟨us1, vT, _, (_, _) :: own, a1, b2, _, rfl, trivial, hoT, ?_, hsp.cons l7.2.2.2.2.2.1 l7.2.2.2.2.1 l7.2.2.2.1 l7.2.2.1, ⟨_, _, ms, mt, mN, mR, mm, mn⟩⟩
          rw [take_at hx, ← List.append_assoc, List.foldl_append, List.foldl_cons, List.foldl_nil, ctd_add hxi (by omega), h0]
          exact (hmis.mono fun p hp => .tail _ hp).append (.cons (r := (0, _, _)) (.head _) .nil)
    case done =>
      clear ho2 hmis hsp N2 F2 ms mt mN mR mm mn
      rintro m₁ nx h tk ⟨us1, us2, ws, own, a1, a2, ar, rfl, -, ho2, hmis, hsp, ⟨-, -, -, -, -, mR, -, -⟩⟩ F2 N2
      rw [List.take_of_length_le (Nat.le_refl _)] at hmis
      have hws : ws.length ≤ 16 := by
        have q1 := hmis.length
        have q2 := ctd_len (a := ss1) (b := ss2) (l := ss1 ++ ss2) (acc := [])
        simp only [List.length_append, List.length_take, List.length_nil, Nat.zero_add] at q2
        omega
      (k_steps; (repeat (any_goals ((first | ((with_reducible refine un_stop 1 ?_); (k_dflt (((with_reducible refine at9 281 ?_); apply con_use (mism_c _ _ _ _ _ _ _)); walk_at "con8"; intro _ _ l9z _ _ _ _; k_lt l9z; (try dsimp only)))) | ((with_reducible refine un_stop 2 ?_); (k_dflt (refine app_any (by k_asm) (by k_asm) (by intro _; k_upd) (by omega) ?_); intro _ _ _ _)) | ((with_reducible refine un_stop 3 ?_); (k_dflt (refine object_call (by k_asm) (by k_asm) ?_); intro _ _ _ _ l9z; k_lt l9z)) | ((with_reducible refine un_stop 4 ?_); (k_dflt (refine enum_call (by k_asm) (by k_asm) (by k_mem) ?_); intro _ _ _ _ _ _ _ l9z _ _; k_lt l9z)) | ((with_reducible refine un_stop 5 ?_); (k_dflt (refine txt_len (by assumption) (by k_mem) (by omega) ?_))) | ((with_reducible refine un_stop 6 ?_); (k_dflt (refine set_any (by k_asm) (by k_asm) (by k_upd) (by omega) (by omega) (by omega) ?_); intro _ _ _)) | ((with_reducible refine un_stop 7 ?_); (k_dflt (refine eq_obj_str (News.get (by assumption) (by k_mem)) (by ktr_units) ?_))) | ((with_reducible refine un_stop 8 ?_); (k_dflt (refine wpAny_is_other (by rfl) (by intro q9z; cases q9z) ?_))) | ((with_reducible refine un_stop 9 ?_); (k_dflt (refine wpAny_For ?_))) | ((with_reducible refine un_stop 10 ?_); (k_dflt (refine wpAny_For ?_)))); k_steps))))
      rename News h₀ _ _ _ => nE
      rename Fr h₀ _ _ _ => fE
      subst hbs
      exact hret _ _ _ _ hws hmis hsp.r _ _ fE (fun p hp => nE p ((List.mem_cons.mp hp).elim (fun e => e ▸ .head _) fun q => .tail _ (.tail _ (.tail _ (.tail _ q)))))
end
section
section
open PySem.Calls
variable {prog : Program} {w : World} {A : Around} {h₀ : Heap} {L : Addr} {m : Str → Option Value} {env : Env} {elt : PySem.Expr} {x : Str} {scope : Scope} {cl : List (Str × Addr)} {s : Shared} {S : List (Addr × Obj) → Prop} {P : Nat → Value → Prop} {Fin : List Value → List (Addr × Obj) → Prop} {news : List (Addr × Obj)}
/-- a comprehension whose elements may allocate: what holds of an element holds of it in every larger ledger -/
theorem own_rest {n : Nat} (R : Nat → List (Addr × Obj) → Value → Prop) (mono : ∀ i nw nw' y, (∀ p ∈ nw, p ∈ nw') → R i nw y → R i nw' y)
    (turn : ∀ i v I oI C oC D m₂ ys own h tk (E' : Value → Shared → Prop), i < n → P i v → LCg.NsObj oC m₂ → m₂ x = some v → Fr h₀ L h m → News h₀ L h ((I, oI) :: (C, oC) :: (D, LCg.lst ys) :: (own ++ news)) → LCg.Off3 I C D (own ++ news) → ((@Ne Nat I C) ∧ (@Ne Nat I D) ∧ (@Ne Nat C D)) →
      wpAny (model prog w) A (eval elt (compEnvC scope cl C env)) (LCg.CompEnd h₀ L m { s with heap := h, toks := tk } I oI C oC D (LCg.lst ys) S (fun y nw' => ∃ own', nw' = own' ++ (own ++ news) ∧ R i nw' y)) E' { s with heap := h, toks := tk })
    (fin : ∀ ys own, ys.length = n → (∀ i, i < n → ∃ y, ys[i]? = some y ∧ R i (own ++ news) y) → Fin ys (own ++ news)) : LCg.CompRest prog w A h₀ L m env elt x scope cl s S P Fin n 0 [] news := by
  have key : ∀ (j i : Nat) (ys : List Value) (own : List (Addr × Obj)), i + j = n → ys.length = i → (∀ k, k < i → ∃ y, ys[k]? = some y ∧ R k (own ++ news) y) → LCg.CompRest prog w A h₀ L m env elt x scope cl s S P Fin j i ys (own ++ news) := by
    intro j
    induction j with
    | zero =>
      intro i ys own hi hl hy
      obtain rfl : i = n := hi
      exact LCg.CompRest.zero (fin ys own hl hy)
    | succ j ih =>
      intro i ys own hi hl hy
      refine LCg.CompRest.succ ?_
      intro v I oI C oC D m₂ h tk E' hv hC hx F N off ne
      refine wpAny_mono (turn i v I oI C oC D m₂ ys own h tk E' (up_lt hi) hv hC hx F N off ne) (fun y s₂ hq => end_mono (fun nw hq => ?_) hq) fun _ _ e => e
      obtain ⟨own', hn, hR⟩ := hq
      subst hn
      rw [← List.append_assoc] at hR ⊢
      refine ih (i + 1) (ys ++ [y]) (own' ++ own) (up_eq hi) (by rw [List.length_append, hl]; rfl) fun k hk => ?_
      by_cases hki : k < i
      · obtain ⟨y', e1, e2⟩ := hy k hki
        refine ⟨y', by rw [List.getElem?_append_left (Nat.lt_of_lt_of_eq hki hl.symm)]; exact e1, mono _ _ _ _ (fun p hp => ?_) e2⟩
        rw [List.append_assoc]
        exact List.mem_append.mpr (.inr hp)
      · obtain rfl : k = i := Nat.le_antisymm (Nat.le_of_lt_succ hk) (Nat.not_lt.mp hki)
        exact ⟨y, by rw [← hl, List.getElem?_append_right (Nat.le_refl _), Nat.sub_self]; rfl, hR⟩
  exact key n 0 [] [] (Nat.zero_add n) rfl fun k hk => absurd hk (Nat.not_lt_zero _)
end
end
section
section
open PySem.Calls PyProof.Rows.LCg
variable {prog : Program} {w : World} {A : Around} {E : Value → Shared → Prop} {s : Shared} {h₀ : Heap} {L : Addr} {m : Str → Option Value} {env : Env}
/-- the names of a target, bound in order -/
noncomputable def putAll (m : Str → Option Value) : List (Str × Pos) → List Value → (Str → Option Value)
  | x :: r, v :: vs => putAll (fun z => if z = x.1 then some v else m z) r vs
  | _, _ => m
theorem assign_all {env : Env} (hp : (env.scope.kind == .class || (env.scope.kind == .module && env.locals != env.globals)) = false) : ∀ (nms : List (Str × Pos)) (vs : List Value) (s : Shared) (m : Str → Option Value) (Q : Unit → Shared → Prop), nms.length = vs.length → (∀ x ∈ nms, env.kindOf x.1 = some .local) → s.heap.Ns env.locals m →
    (∀ h' tk, h'.Ns env.locals (putAll m nms vs) → (∀ c o, c ≠ env.locals → s.heap.get? c = some o → h'.get? c = some o) → Q () { s with heap := h', toks := tk }) → wpAny (model prog w) A (assignInOrder (nms.map fun x => assign (.Name x.1 x.2) env) vs) Q E s := by
  intro nms
  induction nms with
  | nil =>
    intro vs s m Q hl _ hn h
    cases vs with
    | nil => exact assignInOrder_nil (h s.heap s.toks hn fun _ _ _ e => e)
    | cons v vs => cases hl
  | cons x r ih =>
    intro vs s m Q hl hk hn h
    cases vs with
    | nil => cases hl
    | cons v vs =>
      refine assignInOrder_cons (wpAny_assign_Name (wpAny_storeName_local (hk x (.head _)) hn (fun h₁ hn₁ hs₁ => ?_) hp))
      exact ih vs _ _ _ (Nat.succ.inj hl) (fun y hy => hk y (.tail _ hy)) hn₁ fun h' tk hn' hk' => h h' tk hn' fun c o hc e => hk' c o hc (hs₁.extBut c o hc e)
theorem loop_U {elt target iter : PySem.Expr} {ifs : List PySem.Expr} {scope : Scope} {pos : Pos} {it acc : Value} {env : Env} {R : Result → Shared → Prop} (I : Nat → Shared → Prop)
    (turn : ∀ n s, I n s → ∀ E' : Value → Shared → Prop, wpAny (model prog w) A (pyNext it) (fun r s₁ => match r with
      | none => R (.ok .next) s₁
      | some v => wpAny (model prog w) A (letOwnedTupleGo target it v) (fun _ s₀ => wpAny (model prog w) A (assign target env v) (fun _ s₂ =>
          wpAny (model prog w) A (forIn ifs true fun c r => if r = true then do let ok ← isTrue c env (eval c env); pure (ForInStep.yield ok) else pure (ForInStep.yield r)) (fun ok s₃ => if ok = true then wpAny (model prog w) A (eval elt env) (fun x s₄ =>
            wpAny (model prog w) A (call (.builtin "list.append") [acc, x]) (fun _ s₅ => ∃ m, m < n ∧ I m s₅) E' s₄) E' s₃
            else ∃ m, m < n ∧ I m s₃) E' s₂) E' s₀) E' s₁) E' s)
    (n : Nat) (h : I n s) : codeAny (model prog w) A (.compLoop (.ListComp elt [⟨target, iter, ifs, 0⟩] scope pos) 0 it acc env) R s := by
  refine codeAny_loop rfl I (fun n s hI => ?_) n h
  show wpAny _ A ((compTurn (.ListComp elt [⟨target, iter, ifs, 0⟩] scope pos) 0 it acc env).onRaise (fun x => do noteFrame x env; theTreesLotGoes x)) _ _ s
  refine wpAny_noted ?_
  rw [compTurn_list]
  refine wpAny_bind (wpAny_standAt (wpAny_bind (wpAny_mono (turn n s hI _) (fun r s₁ h₁ => ?_) fun _ _ h' => h')))
  cases r with
  | none => exact wpAny_pure h₁
  | some v =>
    refine wpAny_bind (wpAny_mono h₁ (fun _ s₀ h₀' => ?_) fun _ _ h' => h')
    refine wpAny_bind (wpAny_mono h₀' (fun _ s₂ h₂ => ?_) fun _ _ h' => h')
    refine wpAny_bind (wpAny_mono h₂ (fun okb s₃ h₃ => ?_) fun _ _ h' => h')
    cases okb with
    | false => exact wpAny_pure ⟨rfl, h₃⟩
    | true => exact wpAny_bind (wpAny_bind (wpAny_mono h₃ (fun x s₄ h₄ => wpAny_bind (wpAny_mono h₄ (fun _ s₅ h₅ => wpAny_pure (wpAny_pure ⟨rfl, h₅⟩)) fun _ _ h' => h')) fun _ _ h' => h'))
/-- what is asked of the test and of the element: they leave the heap alone -/
noncomputable def QuietU (prog : Program) (w : World) (A : Around) (h₀ : Heap) (L : Addr) (m : Str → Option Value) (env : Env) (ifs : List PySem.Expr) (elt : PySem.Expr) (nms : List (Str × Pos)) (scope : Scope) (cl : List (Str × Addr)) (n : Nat) (Pt : Nat → Array Value → Prop) (keep : Nat → Bool) (F : Nat → Value → Prop) (s : Shared) (news : List (Addr × Obj)) : Prop :=
  ∀ (i : Nat) (vals : List Value) (I : Addr) (oI : Obj) (C : Addr) (oC : Obj) (D : Addr) (mm : Str → Option Value) (ys : List Value) (h : Heap) (tk : Nat) (E' : Value → Shared → Prop), i < n → Pt i vals.toArray → NsObj oC (putAll mm nms vals) → Fr h₀ L h m → News h₀ L h ((I, oI) :: (C, oC) :: (D, lst ys) :: news) → Off3 I C D news →
    wpAny (model prog w) A (forIn ifs true fun c r => if r = true then do let ok ← isTrue c (compEnvC scope cl C env) (eval c (compEnvC scope cl C env)); pure (ForInStep.yield ok) else pure (ForInStep.yield r)) (fun ok s₁ => ok = keep i ∧ (∃ tk₁, s₁ = { s with heap := h, toks := tk₁ } ∧
      (ok = true → wpAny (model prog w) A (eval elt (compEnvC scope cl C env)) (fun y s₂ => F i y ∧ ∃ tk₂, s₂ = { s with heap := h, toks := tk₂ }) E' s₁))) E' { s with heap := h, toks := tk }
/-- what a comprehension over tuples runs over -/
inductive SrcU (prog : Program) (w : World) (A : Around) (h₀ : Heap) (L : Addr) (m : Str → Option Value) (env : Env) (ifs : List PySem.Expr) (elt : PySem.Expr) (nms : List (Str × Pos)) (scope : Scope) (cl : List (Str × Addr)) (Q : Value → Shared → Prop) (it : Value) (s₂ : Shared) : Prop
  | mk (I : Addr) (fp wr : List Addr) (n : Nat) (Pt : Nat → Array Value → Prop) (St : Nat → Heap → Prop) (Mid : Nat → Addr → Heap → Prop) (news : List (Addr × Obj)) (keep : Nat → Bool) (F : Nat → Value → Prop) : (it = .ref I) → (WalksU prog w A I fp wr n Pt St Mid) → (n ≤ sizeLine) → (St 0 s₂.heap) → (∀ b ∈ fp, b < s₂.heap.objs.size) → (∀ i h, St i h → ∃ o, h.get? I = some o) → (∀ i vals, Pt i vals → vals.size = nms.length) → (Fr h₀ L s₂.heap m) → (News h₀ L s₂.heap news) → (I ∈ wr) → (L ∉ wr) → (∀ b ∈ wr, h₀.get? b = none) → (∀ p ∈ news, p.1 ∉ wr) → (QuietU prog w A h₀ L m env ifs elt nms scope cl n Pt keep F s₂ news) → (∀ D h tk ys, Fr h₀ L h m → News h₀ L h ((D, lst ys) :: news) → (∀ p ∈ news, p.1 ≠ D) → Paired F ((List.range n).filter keep) ys → Q (.ref D) { s₂ with heap := h, toks := tk }) → SrcU prog w A h₀ L m env ifs elt nms scope cl Q it s₂
/-- before a turn of it -/
inductive TurnU (h₀ : Heap) (L : Addr) (m : Str → Option Value) (s₂ : Shared) (D C : Addr) (n : Nat) (St : Nat → Heap → Prop) (news : List (Addr × Obj)) (keep : Nat → Bool) (F : Nat → Value → Prop) (k : Nat) (s' : Shared) : Prop
  | mk (h' : Heap) (tk i : Nat) (ys : List Value) (m' : Str → Option Value) : s' = { s₂ with heap := h', toks := tk } → i ≤ n → k = n + 1 - i → St i h' → Fr h₀ L h' m → h'.Ns C m' → News h₀ L h' ((D, lst ys) :: news) → Paired F ((List.range i).filter keep) ys → TurnU h₀ L m s₂ D C n St news keep F k s'
/-- where its list and its names lie -/
structure PlaceU (h₀ : Heap) (L I D C : Addr) (fp wr : List Addr) (news : List (Addr × Obj)) : Prop where
  Df : D ∉ fp
  Cf : C ∉ fp
  D0 : D ≠ L ∧ h₀.get? D = none
  C0 : C ≠ L ∧ h₀.get? C = none
  DC : D ≠ C
  I0 : I ≠ L ∧ h₀.get? I = none
  Lw : L ∉ wr
  w0 : ∀ b ∈ wr, h₀.get? b = none
  sub : ∀ b ∈ wr, b ∈ fp
  off : ∀ p ∈ news, p.1 ∉ wr
  off3 : ∀ p ∈ news, p.1 ≠ I ∧ p.1 ≠ C ∧ p.1 ≠ D
  offO : Off3 I C D news
theorem PlaceU.fr {I D C : Addr} {fp wr : List Addr} {news : List (Addr × Obj)} (P : PlaceU h₀ L I D C fp wr news) {h h' : Heap} {mm : Str → Option Value} (F : Fr h₀ L h mm) (hk : ∀ b o, b ∉ wr → h.get? b = some o → h'.get? b = some o) : Fr h₀ L h' mm :=
  ⟨F.ns.at' fun o e => hk _ o P.Lw e, fun b o e => hk b o (fun q => by rw [P.w0 b q] at e; cases e) (F.keep b o e), F.above⟩
theorem PlaceU.nw {I D C : Addr} {fp wr : List Addr} {news : List (Addr × Obj)} (P : PlaceU h₀ L I D C fp wr news) {h h' : Heap} {o : Obj} (N : News h₀ L h ((D, o) :: news)) (hk : ∀ b o, b ∉ wr → h.get? b = some o → h'.get? b = some o) : News h₀ L h' ((D, o) :: news) :=
  nwk (· ∉ wr) N (al (fun q => P.Df (P.sub _ q)) P.off) hk
theorem turn_U {elt : PySem.Expr} {elts : List PySem.Expr} {kk : Nat} {tp : Pos} {ifs : List PySem.Expr} {nms : List (Str × Pos)} {scope : Scope} {cl : List (Str × Addr)} {s₂ : Shared} {I D C : Addr} {fp wr : List Addr} {n : Nat} {Pt : Nat → Array Value → Prop} {St : Nat → Heap → Prop} {Mid : Nat → Addr → Heap → Prop} {news : List (Addr × Obj)} {keep : Nat → Bool} {F : Nat → Value → Prop} {R : Result → Shared → Prop}
    (hA : A.handled = none) (hkind : scope.kind = .function) (hx : ∀ x ∈ nms, scope.names.lookup x.1 = some .local) (hel : ∀ e, assignEach elts e = nms.map fun x => (false, assign (.Name x.1 x.2) e)) (W : WalksU prog w A I fp wr n Pt St Mid) (hsz : n ≤ sizeLine) (hIo : ∀ i h, St i h → ∃ o, h.get? I = some o) (hPn : ∀ i vals, Pt i vals → vals.size = nms.length)
    (P : PlaceU h₀ L I D C fp wr news) (hq : QuietU prog w A h₀ L m env ifs elt nms scope cl n Pt keep F s₂ news)
    (hR : ∀ h tk ys m', Fr h₀ L h m → h.Ns C m' → News h₀ L h ((D, lst ys) :: news) → Paired F ((List.range n).filter keep) ys → R (.ok .next) { s₂ with heap := h, toks := tk })
    (k : Nat) (s' : Shared) (hJ1 : TurnU h₀ L m s₂ D C n St news keep F k s') (E' : Value → Shared → Prop) :
    wpAny (model prog w) A (pyNext (.ref I)) (fun r s₁ => match r with
      | none => R (.ok .next) s₁
      | some v => wpAny (model prog w) A (letOwnedTupleGo (.Tuple elts kk tp) (.ref I) v) (fun _ s₀ => wpAny (model prog w) A (assign (.Tuple elts kk tp) (compEnvC scope cl C env) v) (fun _ s₂' =>
          wpAny (model prog w) A (forIn ifs true fun c r => if r = true then do let ok ← isTrue c (compEnvC scope cl C env) (eval c (compEnvC scope cl C env)); pure (ForInStep.yield ok) else pure (ForInStep.yield r)) (fun ok s₃ => if ok = true then wpAny (model prog w) A (eval elt (compEnvC scope cl C env)) (fun x s₄ =>
            wpAny (model prog w) A (call (.builtin "list.append") [.ref D, x]) (fun _ s₅ => ∃ j, j < k ∧ TurnU h₀ L m s₂ D C n St news keep F j s₅) E' s₄) E' s₃
            else ∃ j, j < k ∧ TurnU h₀ L m s₂ D C n St news keep F j s₃) E' s₂') E' s₀) E' s₁) E' s' := by
  refine (let G9 : Prop := _; show G9 from ?_)
  obtain ⟨h', tk, i, ys, m', rfl, hi, rfl, hst', F', hn', N', hP⟩ := hJ1
  k_unfold
  by_cases hlt : i < n
  · refine W.item i _ _ _ hlt hst' fun T vals h₂ tk₂ hPt hT hMid hk₂ => ?_
    refine W.go _ _ _ i T _ _ _ hMid fun h₃ hst₃ hk₃ => ?_
    have hk₃' : ∀ b o, b ∉ wr → h'.get? b = some o → h₃.get? b = some o := fun b o hb e => hk₃ b o hb (hk₂ b o hb e)
    have hT₃ : h₃.IsTuple T vals := let ⟨o, e, r⟩ := hT; ⟨o, hk₃ _ o (W.apart i T _ hMid) e, r⟩
    have hvl := hPn i vals hPt
    have eM := hel (compEnvC scope cl C env)
    refine wpAny_assign_Tuple hA hT₃ (by rw [eM, List.length_map]; exact hvl.symm) (by rw [eM, List.findIdx?_map]; exact List.findIdx?_eq_none_iff.mpr fun _ _ => rfl) fun h₄ hk₄ => ?_
    rw [eM, List.map_map]
    have up₄ : ∀ c o, h₃.get? c = some o → h₄.get? c = some o := fun c o e => hk₄ c o (Nat.ne_of_lt (Heap.lt_size e)) e
    have hn₄ : h₄.Ns C m' := hn'.at' fun o e => up₄ _ o (hk₃' _ o (fun q => P.Cf (P.sub _ q)) e)
    refine assign_all (env := compEnvC scope cl C env) (by simp [compEnvC, relabel, hkind]) nms vals.toList _ m' _ (by rw [Array.length_toList]; exact hvl.symm) (fun x hm => lookup_relabel_local (hx x hm)) hn₄ fun h₅ tk₅ hn₅ hk₅ => ?_
    replace hk₅ : ∀ c o, c ≠ C → h₄.get? c = some o → h₅.get? c = some o := hk₅
    replace hn₅ : h₅.Ns C (putAll m' nms vals.toList) := hn₅
    have hst₅ : St (i + 1) h₅ := W.frame _ _ _ hst₃ fun b hb o e => hk₅ b o (fun q => P.Cf (by rw [← q]; exact hb)) (up₄ b o e)
    refine (let G9 : Prop := _; show G9 from ?_)
    obtain ⟨oI, heI⟩ := hIo _ _ hst₅
    obtain ⟨oC, heC, hoC⟩ := ns_obj hn₅
    k_unfold
    have F₃ := P.fr F' hk₃'
    have F₅ : Fr h₀ L h₅ m := ⟨F₃.ns.at' fun o e => hk₅ _ o (Ne.symm P.C0.1) (up₄ _ o e), fun b o e => hk₅ b o (fun q => by rw [q, P.C0.2] at e; cases e) (up₄ b o (F₃.keep b o e)), F'.above⟩
    have N₅ : News h₀ L h₅ ((I, oI) :: (C, oC) :: (D, lst ys) :: news) := nwc heI P.I0 (nwc heC P.C0 (nwk (· ≠ C) (P.nw N' hk₃') (al P.DC fun p hp => (P.off3 p hp).2.1) fun b o q e => hk₅ b o q (up₄ b o e)))
    refine wpAny_mono (hq i vals.toList I oI C oC D m' ys h₅ tk₅ _ hlt (by rw [Array.toArray_toList]; exact hPt) hoC F₅ N₅ P.offO) (fun ok s₆ h₆ => ?_) fun _ _ e => e
    refine (let G9 : Prop := _; show G9 from ?_)
    obtain ⟨hok, tk₆, rfl, hel₆⟩ := h₆
    k_unfold
    cases ok with
    | false =>
      rw [if_neg (by decide)]
      refine ⟨n + 1 - (i + 1), turn_lt hlt, h₅, tk₆, i + 1, ys, _, rfl, hlt, rfl, hst₅, F₅, hn₅, nwt (nwt N₅), ?_⟩
      rw [List.range_succ, List.filter_append, List.filter_cons_of_neg (by rw [← hok]; decide), List.filter_nil, List.append_nil]
      exact hP
    | true =>
      rw [if_pos rfl]
      refine wpAny_mono (hel₆ rfl) (fun y s₇ h₇ => ?_) fun _ _ e => e
      refine (let G9 : Prop := _; show G9 from ?_)
      obtain ⟨hF, tk₇, rfl⟩ := h₇
      k_unfold
      have hyl : ys.length ≤ i := Nat.le_trans (Nat.le_of_eq hP.length.symm) (Nat.le_trans (List.length_filter_le _ _) (Nat.le_of_eq List.length_range))
      have N₆ := nwt (nwt N₅)
      refine append_at (hsz := by show ys.toArray.size ≤ sizeLine; rw [List.size_toArray]; exact Nat.le_trans hyl (Nat.le_trans hi hsz)) (nwh N₆) fun h₈ hs₈ hD₈ => ?_
      refine ⟨n + 1 - (i + 1), turn_lt hlt, h₈, tk₇, i + 1, ys ++ [y], _, rfl, hlt, rfl, W.frame _ _ _ hst₅ fun b hb o e => hs₈.extBut b o (fun q => P.Df (q ▸ hb)) e, F₅.change hs₈ P.D0.1 P.D0.2,
        hn₅.sameBut hs₈ (Ne.symm P.DC), N₆.setHead (fun p hp => (P.off3 p hp).2.2) hs₈ (hD₈.trans (congrArg some (lst_snoc ys y))), ?_⟩
      rw [List.range_succ, List.filter_append, List.filter_cons_of_pos hok.symm, List.filter_nil]
      exact hP.snoc hF
  · obtain rfl : i = n := Nat.le_antisymm hi (Nat.not_lt.mp hlt)
    refine W.done _ _ _ hst' fun h₂ tk₂ hk₂ => ?_
    exact hR h₂ tk₂ ys m' (P.fr F' hk₂) (hn'.at' fun o e => hk₂ _ o (fun q => P.Cf (P.sub _ q)) e) (P.nw N' hk₂) hP
/-- a comprehension whose target is a tuple of names and whose items change nothing -/
theorem comp_U {elt iter : PySem.Expr} {elts : List PySem.Expr} {kk : Nat} {tp : Pos} {ifs : List PySem.Expr} {nms : List (Str × Pos)} {scope : Scope} {cl : List (Str × Addr)} {pos : Pos} {Q : Value → Shared → Prop} (hA : A.handled = none)
    (hclos : closureFor scope env = pure cl) (hcell : ∀ y ∈ scope.names, y.2 ≠ .cell) (hkind : scope.kind = .function)
    (hnames : ∀ y ∈ scope.names, y.2 = .local → scope.names.lookup y.1 = some .local) (hx : ∀ x ∈ nms, scope.names.lookup x.1 = some .local)
    (hel : ∀ e, assignEach elts e = nms.map fun x => (false, assign (.Name x.1 x.2) e))
    (h : wpAny (model prog w) A (eval iter env) (fun xv s₁ => wpAny (model prog w) A (pyIter xv) (fun it s₂ => SrcU prog w A h₀ L m env ifs elt nms scope cl Q it s₂) E s₁) E s)
    (hs : ∀ x, foldedSetIterable iter env x = pure x := by intro _; rfl) :
    wpAny (model prog w) A (eval (.ListComp elt [⟨.Tuple elts kk tp, iter, ifs, 0⟩] scope pos) env) Q E s := by
  rw [eval_ListComp]
  refine wpAny_comprehension_free (use := none) rfl hs hclos hkind hnames (wpAny_mono h (fun xv s₁ h₁ => wpAny_mono h₁ (fun it s₂ h₂ => ?_) fun _ _ e => e) fun _ _ e => e)
  refine (let G9 : Prop := _; show G9 from ?_)
  obtain ⟨I, fp, wr, n, Pt, St, Mid, news, keep, F, rfl, W, hsz, hst, hfp, hIo, hPn, FF, N, hIw, hLw, hw₀, hoff, hq, hQ⟩ := h₂
  k_unfold
  refine wpAny_newObj_type (wpAny_newFunctionEnv hcell (by intro y hy; simp at hy) (fun h₁ hns₁ hsb₁ => ?_) hkind)
  replace hsb₁ : Heap.SameBut (s₂.heap.push (lst [])).objs.size ((s₂.heap.push (lst [])).push _) h₁ := hsb₁
  replace hns₁ : h₁.Ns (s₂.heap.push (lst [])).objs.size _ := hns₁
  have hC : (s₂.heap.push (lst [])).objs.size = s₂.heap.objs.size + 1 := Heap.size_push ..
  have below : ∀ b, b < s₂.heap.objs.size → b ≠ (s₂.heap.push (lst [])).objs.size ∧ b ≠ s₂.heap.objs.size := fun b hb => ⟨by rw [hC]; exact Nat.ne_of_lt (Nat.lt_succ_of_lt hb), Nat.ne_of_lt hb⟩
  have old : ∀ b o, s₂.heap.get? b = some o → h₁.get? b = some o := fun b o e => hsb₁.extBut b o (below b (Heap.lt_size e)).1 (Heap.get?_push_of_some _ (Heap.get?_push_of_some _ e))
  have fr := fr_above FF rfl
  have hDC : s₂.heap.objs.size ≠ (s₂.heap.push (lst [])).objs.size := by rw [hC]; exact Nat.ne_of_lt (Nat.lt_succ_self _)
  have hacc : h₁.get? s₂.heap.objs.size = some (lst []) := hsb₁.extBut _ _ hDC (Heap.get?_push_of_some _ (Heap.get?_push_size _ rfl))
  have C0 := fr (s₂.heap.push (lst [])).objs.size (by rw [hC]; exact Nat.le_succ _)
  have off3 : ∀ p ∈ news, p.1 ≠ I ∧ p.1 ≠ (s₂.heap.push (lst [])).objs.size ∧ p.1 ≠ s₂.heap.objs.size := fun p hp => ⟨fun q => hoff p hp (q ▸ hIw), below _ (Heap.lt_size (N p hp).1)⟩
  have P : PlaceU h₀ L I s₂.heap.objs.size (s₂.heap.push (lst [])).objs.size fp wr news :=
    { Df := fun hm => (below _ (hfp _ hm)).2 rfl, Cf := fun hm => (below _ (hfp _ hm)).1 rfl, D0 := fr _ (Nat.le_refl _), C0 := C0, DC := hDC, I0 := ⟨fun q => hLw (q ▸ hIw), hw₀ I hIw⟩, Lw := hLw, w0 := hw₀, sub := W.sub, off := hoff, off3 := off3, offO := Off3.of off3 }
  have hst₁ : St 0 h₁ := W.frame _ _ _ hst fun b _ o e => old b o e
  have loop : codeAny (model prog w) A (.compLoop (.ListComp elt [⟨.Tuple elts kk tp, iter, ifs, 0⟩] scope pos) 0 (.ref I) (.ref s₂.heap.objs.size) (compEnvC scope cl (s₂.heap.push (lst [])).objs.size env))
        (compPost (model prog w) A E none Q (.ref s₂.heap.objs.size) (s₂.heap.push (lst [])).objs.size) { s₂ with heap := h₁, toks := s₂.toks + ([] : List (Str × Value)).length } :=
    loop_U (TurnU h₀ L m s₂ _ _ n St news keep F) (turn_U hA hkind hx hel W hsz hIo hPn P hq fun h tk ys m' F' hn' N' hP => ⟨m', hn', fun h'' hs'' => hQ _ h'' tk ys (F'.change hs'' C0.1 C0.2) (nwk (· ≠ _) N' (al hDC fun p hp => (off3 p hp).2.1) hs''.extBut) (fun p hp => (off3 p hp).2.2) hP⟩) (n + 1)
      ⟨h₁, _, 0, [], _, rfl, Nat.zero_le _, rfl, hst₁, FF.keeps old, hns₁, nwc hacc P.D0 (fun p hp => ⟨old _ _ (N p hp).1, (N p hp).2⟩), .nil⟩
  exact codeAny_compStart_list loop (W.self 0 _ _ _ hst₁ loop)
end
end
section
/-- the sixes of a name's bytes are what b64encode writes -/
noncomputable def sixT (n : Str) : Bool := match (asciiB n).toList with
  | [b0] => Txt.join (Str.ofString "") ([3, 2].map (sSign (((0 * 256 + (b0.toNat:Int)) * 256 + 0) * 256 + 0))) ++ Str.ofString "==" == codedF n
  | [b0, b1] => Txt.join (Str.ofString "") ([3, 2, 1].map (sSign (((0 * 256 + (b0.toNat:Int)) * 256 + (b1.toNat : Int)) * 256 + 0))) ++ Str.ofString "=" == codedF n
  | [b0, b1, b2] => Txt.join (Str.ofString "") ([3, 2, 1, 0].map (sSign (((0 * 256 + (b0.toNat:Int)) * 256 + (b1.toNat : Int)) * 256 + (b2.toNat : Int)))) ++ Str.ofString "" == codedF n
  | _ => false
theorem sixT_all : ∀ n ∈ allNames, sixT n = true := by decide +kernel
theorem sixes_name {w : World} {n : Str} (hn : n ∈ allNames) (tx ty : Tok) (news : List (Addr × Obj)) : Con 5 w 301 news [.bytes (asciiB n) tx, .str (Str.ofString "+/") ty] (fun k => ∀ t, k (.str (codedF n) t) news) := by
  have h := sixT_all n hn
  have e : asciiB n = (asciiB n).toList.toArray := by simp
  unfold sixT at h
  generalize (asciiB n).toList = l at h e
  rw [e]
  cases l with
  | nil => cases h
  | cons b0 l => cases l with
    | nil => exact (beq_iff_eq.mp h) ▸ law_sixes_1 b0 tx ty news
    | cons b1 l => cases l with
      | nil => exact (beq_iff_eq.mp h) ▸ law_sixes_2 b0 b1 tx ty news
      | cons b2 l => cases l with
        | nil => exact (beq_iff_eq.mp h) ▸ law_sixes_3 b0 b1 b2 tx ty news
        | cons b3 l => cases h
end
section
section
variable {prog : Program} {w : World} {A : Around} {E : Value → Shared → Prop} {s : Shared} {h₀ : Heap} {L : Addr} {m : Str → Option Value} {news n1 n2 : List (Addr × Obj)} {Q : Value → Shared → Prop}
/-- two lists of the same data do not differ -/
theorem ne_same {a b : Addr} {oa ob : Obj} {xs ys : List Value} {ka kb : Nat} {ds : List Dat} (N : News h₀ L s.heap news) (ma : (a, oa) ∈ news) (ca : oa.cls = .type "list") (da : oa.data = .seq xs.toArray ka) (mb : (b, ob) ∈ news) (cb : ob.cls = .type "list") (db : ob.data = .seq ys.toArray kb)
    (Da : DatAll n1 xs ds) (sa : ∀ p ∈ n1, p ∈ news) (Db : DatAll n2 ys ds) (sb : ∀ p ∈ n2, p ∈ news) (ho : ∀ d ∈ ds, kqdOk 8 d = true) (hu : A.units + 64 < cLine) (h : Q (.bool false) s) : wpAny (model prog w) A (compareOp .NotEq (.ref a) (.ref b)) Q E s := by
  refine kqd_ne N ma ca da Da sa mb cb db Db sb ho ho hu ?_
  simp only [decide_true, Bool.not_true]
  exact h
/-- two data compared -/
theorem ne_data {x y : Value} {d e : Dat} (N : News h₀ L s.heap news) (Dx : DatIn n1 x d) (sx : ∀ p ∈ n1, p ∈ news) (Dy : DatIn n2 y e) (sy : ∀ p ∈ n2, p ∈ news) (hx : kqdOk 8 d = true) (hy : kqdOk 8 e = true) (hu : A.units + 64 < cLine) (he : d = e) (h : Q (.bool false) s) :
    wpAny (model prog w) A (compareOp .NotEq x y) Q E s := by
  obtain ⟨as, ra⟩ := kqd_in N 8 (Dx.mono sx) hx
  obtain ⟨bs, rb⟩ := kqd_in N 8 (Dy.mono sy) hy
  have la := kqd_lay 8 d hx
  have lb := kqd_lay 8 e hy
  have q : PyData.eqv (kqdP d) (kqdP e) = true := (kqd_eqv 8 d e 8 hx hy).mpr he
  refine ne_dataH ra rb ?_ ?_ hu (by rw [q]; exact h)
  · unfold SeqAt.shaped; rw [la.1, Bool.true_and]; exact decide_eq_true (Nat.le_trans la.2 (by decide))
  · unfold SeqAt.shaped; rw [lb.1, Bool.true_and]; exact decide_eq_true (Nat.le_trans lb.2 (by decide))
end
theorem datAll_of {nw : List (Addr × Obj)} (f : Nat → Dat) : ∀ {n : Nat} {ys : List Value}, ys.length = n → (∀ i, i < n → ∃ y, ys[i]? = some y ∧ DatIn nw y (f i)) → DatAll nw ys ((List.range n).map f) := by
  intro n ys hl hy
  induction ys generalizing n f with
  | nil => cases hl; exact .nil
  | cons y ys ih =>
    subst hl
    obtain ⟨y', e, hd⟩ := hy 0 (by simp)
    cases e
    rw [List.length_cons, List.range_succ_eq_map, List.map_cons, List.map_map]
    refine .cons hd (ih (fun i => f (i + 1)) rfl fun i hi => ?_)
    obtain ⟨z, e, hz⟩ := hy (i + 1) (by simp; omega)
    exact ⟨z, by simpa using e, hz⟩
theorem datAll_strs {nw : List (Addr × Obj)} {vs : List Value} {ss : List Str} (h : StrsAre vs ss) : DatAll nw vs (ss.map Dat.str) := by
  induction h with
  | nil => exact .nil
  | cons y t _ ih => exact .cons (.str y t) ih
theorem strs_of_dat {nw : List (Addr × Obj)} : ∀ {vs : List Value} {ss : List Str}, DatAll nw vs (ss.map Dat.str) → StrsAre vs ss := by
  intro vs
  induction vs with
  | nil => intro ss h; cases ss with
    | nil => exact .nil
    | cons x r => cases h
  | cons v vs ih => intro ss h; cases ss with
    | nil => cases h
    | cons x r =>
      cases h with
      | cons h1 h2 => cases h1; exact .cons _ _ (ih h2)
theorem names_strOk : ∀ n ∈ allNames, PyData.strOk n = true ∧ PyData.strOk (codedF n) = true := by decide +kernel
end
section
section
open PySem.Calls PyProof.Rows.LCg
variable {prog : Program} {w : World} {A : Around} {E : Value → Shared → Prop} {s : Shared} {h₀ : Heap} {L : Addr} {m : Str → Option Value} {env : Env}
theorem tups_src {ifs : List PySem.Expr} {elt : PySem.Expr} {nms : List (Str × Pos)} {scope : Scope} {cl : List (Str × Addr)} {Q : Value → Shared → Prop} {ax : Addr} {items : List Value} {k : Nat} {news : List (Addr × Obj)} (Ts : Nat → Addr) (vals : Nat → List Value) (keep : Nat → Bool) (G : Nat → Value → Prop) (hh : A.handled = none)
    (F : Fr h₀ L s.heap m) (N : News h₀ L s.heap news) (hm : (ax, PySem.W.listOf items.toArray k) ∈ news) (hl : items.length ≤ 1000)
    (hit : ∀ j, j < items.length → items[j]? = some (.ref (Ts j)) ∧ (∃ kk, (Ts j, ({ cls := .type "tuple", data := .seq (vals j).toArray kk } : Obj)) ∈ news) ∧ (vals j).length = nms.length)
    (hq : QuietU prog w A h₀ L m env ifs elt nms scope cl items.length (fun i v => i < items.length ∧ v = (vals i).toArray) keep G s news)
    (fin : ∀ D h tk ys, Fr h₀ L h m → News h₀ L h ((D, lst ys) :: news) → (∀ p ∈ news, p.1 ≠ D) → Paired G ((List.range items.length).filter keep) ys → Q (.ref D) { s with heap := h, toks := tk }) :
    wpAny (model prog w) A (pyIter (.ref ax)) (SrcU prog w A h₀ L m env ifs elt nms scope cl Q) E s := by
  have hL : s.heap.IsList ax items.toArray := ⟨_, (N _ hm).1, rfl, _, rfl⟩
  have hlt : ax < s.heap.objs.size := Heap.lt_size (N _ hm).1
  have hTlt : ∀ j, j < items.length → Ts j < s.heap.objs.size := fun j hj => by
    obtain ⟨_, ⟨kk, h⟩, _⟩ := hit j hj
    exact Heap.lt_size (N _ h).1
  refine wpAny_pyIter_list hL ?_
  have up : ∀ b o, s.heap.get? b = some o → (s.heap.push { cls := .type "list_iterator", data := .fields #[.ref ax, .int 0 0] }).get? b = some o := fun b o e => Heap.get?_push_of_some _ e
  refine ⟨s.heap.objs.size, _, [s.heap.objs.size], items.length, _, _, _, news, keep, G, rfl,
    (WalksU.listOfTuples (prog := prog) (w := w) hh s.heap.objs.size ax (Nat.ne_of_lt hlt) items.toArray Ts (fun j => (vals j).toArray) (fun j hj => by simpa using (hit j (by simpa using hj)).1) (fun j hj => Nat.ne_of_lt (hTlt j (by simpa using hj)))).bound, by rw [sizeLine_eq]; omega, ?_, ?_, ?_, ?_, F.keeps up, N.grown up, .head _, ?_, ?_, ?_, ?_, fin⟩
  · refine ⟨⟨_, Heap.get?_push_size _ rfl, rfl, rfl⟩, hL.push _, fun j hj => ?_⟩
    obtain ⟨_, ⟨kk, h⟩, _⟩ := hit j (by simpa using hj)
    exact ⟨_, up _ _ (N _ h).1, rfl, _, rfl⟩
  · intro b hb
    show b < (s.heap.push _).objs.size
    rw [Heap.size_push]
    rcases List.mem_cons.mp hb with rfl | hb
    · exact Nat.lt_succ_self _
    · rcases List.mem_cons.mp hb with rfl | hb
      · exact Nat.lt_succ_of_lt hlt
      · obtain ⟨j, hj, rfl⟩ := List.mem_map.mp hb
        exact Nat.lt_succ_of_lt (hTlt j (by simpa using hj))
  · intro i h st
    obtain ⟨o, e, _⟩ := st.1
    exact ⟨o, e⟩
  · rintro i v ⟨hi, rfl⟩
    simpa using (hit i (by simpa using hi)).2.2
  · intro q
    exact Nat.ne_of_lt F.ns.lt (List.mem_singleton.mp q)
  · intro b hb
    rw [List.mem_singleton.mp hb]
    exact next_is_new F
  · intro p hp q
    exact Nat.ne_of_lt (Heap.lt_size (N p hp).1) (List.mem_singleton.mp q)
  · intro i v I oI C oC D mm ys h tk E' hi hP hC F' N' off
    exact hq i v I oI C oC D mm ys h tk E' (by simpa using hi) ⟨by simpa using hP.1, hP.2⟩ hC F' N' off
theorem zip_src {ifs : List PySem.Expr} {elt : PySem.Expr} {nms : List (Str × Pos)} {scope : Scope} {cl : List (Str × Addr)} {Q : Value → Shared → Prop} {l1 l2 : Addr} {xs ys : List Value} {k1 k2 : Nat} {news : List (Addr × Obj)} (keep : Nat → Bool) (G : Nat → Value → Prop) (hh : A.handled = none) (h2 : nms.length = 2)
    (F : Fr h₀ L s.heap m) (N : News h₀ L s.heap news) (m1 : (l1, PySem.W.listOf xs.toArray k1) ∈ news) (m2 : (l2, PySem.W.listOf ys.toArray k2) ∈ news) (hl : xs.length ≤ 1000)
    (hq : QuietU prog w A h₀ L m env ifs elt nms scope cl (min xs.length ys.length) (fun i vals => ∃ x y, xs[i]? = some x ∧ ys[i]? = some y ∧ vals = #[x, y]) keep G s news)
    (fin : ∀ D h tk ys', Fr h₀ L h m → News h₀ L h ((D, lst ys') :: news) → (∀ p ∈ news, p.1 ≠ D) → Paired G ((List.range (min xs.length ys.length)).filter keep) ys' → Q (.ref D) { s with heap := h, toks := tk }) :
    wpAny (model prog w) A (call (.type "zip") [.ref l1, .ref l2]) (fun xv s₁ => wpAny (model prog w) A (pyIter xv) (SrcU prog w A h₀ L m env ifs elt nms scope cl Q) E s₁) E s := by
  have hL1 : s.heap.IsList l1 xs.toArray := ⟨_, (N _ m1).1, rfl, _, rfl⟩
  have hL2 : s.heap.IsList l2 ys.toArray := ⟨_, (N _ m2).1, rfl, _, rfl⟩
  have b1 : l1 < s.heap.objs.size := Heap.lt_size (N _ m1).1
  have b2 : l2 < s.heap.objs.size := Heap.lt_size (N _ m2).1
  refine call_zip_2 hL1 hL2 fun h' hz hTI hTO hi1 hi2 hsz hk => ?_
  refine wpAny_pyIter_zip hz ?_
  have new₀ : ∀ b, s.heap.objs.size ≤ b → h₀.get? b = none := fun b hb => by
    cases e : h₀.get? b with
    | none => rfl
    | some o => exact absurd (Heap.lt_size (F.keep b o e)) (Nat.not_lt.mpr hb)
  have hw : ∀ b ∈ [s.heap.objs.size + 4, s.heap.objs.size + 3, s.heap.objs.size, s.heap.objs.size + 1], s.heap.objs.size ≤ b := by
    exact al (Nat.le_add_right _ _) (al (Nat.le_add_right _ _) (al (Nat.le_refl _) (al (Nat.le_add_right _ _) al0)))
  refine ⟨_, _, _, _, _, _, _, news, keep, G, rfl, (WalksT.zip2 (prog := prog) (w := w) hh _ _ _ _ _ l1 l2 (zipApart_new b1 b2) xs.toArray ys.toArray).toU, ?_, ⟨hz, hTI, ⟨_, _, hTO⟩, hi1, hi2, Heap.IsList.at hL1 (fun o e => hk _ o e), Heap.IsList.at hL2 (fun o e => hk _ o e)⟩, ?_, ?_, ?_, F.keeps hk, N.grown hk, .head _, ?_, ?_, ?_, ?_, ?_⟩
  · rw [sizeLine_eq]; simp; omega
  · intro b hb
    simp only [List.mem_cons, List.not_mem_nil, or_false] at hb
    have e : h'.objs.size = s.heap.objs.size + 5 := hsz
    show @LT.lt Nat _ b h'.objs.size
    rw [e]
    have b1' : @LT.lt Nat _ l1 s.heap.objs.size := b1
    have b2' : @LT.lt Nat _ l2 s.heap.objs.size := b2
    rcases hb with rfl | rfl | rfl | rfl | rfl | rfl | rfl <;> omega
  · intro i h st
    exact ⟨_, st.1⟩
  · rintro i v ⟨x, y, _, _, rfl⟩
    exact h2.symm
  · intro q
    exact absurd F.ns.lt (Nat.not_lt.mpr (hw _ q))
  · intro b hb
    exact new₀ b (hw b hb)
  · intro p hp q
    exact absurd (Heap.lt_size (N p hp).1) (Nat.not_lt.mpr (hw _ q))
  · intro i v I oI C oC D mm ys' h tk E' hi hP hC F' N' off
    obtain ⟨x, y, e1, e2, e3⟩ := hP
    exact hq i v I oI C oC D mm ys' h tk E' (by simpa using hi) ⟨x, y, by simpa using e1, by simpa using e2, e3⟩ hC F' N' off
  · intro D h tk ys' F' N' ne hP
    have e : min xs.toArray.size ys.toArray.size = min xs.length ys.length := by simp
    rw [e] at hP
    exact fin D h tk ys' F' N' ne hP
theorem comp_V {elt iter : PySem.Expr} {elts : List PySem.Expr} {kk : Nat} {tp : Pos} {ifs : List PySem.Expr} (nms : List (Str × Pos)) {scope : Scope} {cl : List (Str × Addr)} {pos : Pos} {Q : Value → Shared → Prop} (_F₀ : Fr h₀ L s.heap m) (hA : A.handled = none)
    (hclos : closureFor scope env = pure cl) (hcell : ∀ y ∈ scope.names, y.2 ≠ .cell) (hkind : scope.kind = .function)
    (hnames : ∀ y ∈ scope.names, y.2 = .local → scope.names.lookup y.1 = some .local) (hel : ∀ e, assignEach elts e = nms.map fun x => (false, assign (.Name x.1 x.2) e)) (hx : ∀ x ∈ nms, scope.names.lookup x.1 = some .local)
    (h : wpAny (model prog w) A (eval iter env) (fun xv s₁ => wpAny (model prog w) A (pyIter xv) (SrcU prog w A h₀ L m env ifs elt nms scope cl Q) E s₁) E s)
    (hs : ∀ x, foldedSetIterable iter env x = pure x := by intro _; rfl) :
    wpAny (model prog w) A (eval (.ListComp elt [⟨.Tuple elts kk tp, iter, ifs, 0⟩] scope pos) env) Q E s :=
  comp_U hA hclos hcell hkind hnames hx hel h hs
end
theorem skolem2 {n : Nat} {P : Nat → Addr → List Value → Prop} (h : ∀ j, j < n → ∃ T vs, P j T vs) : ∃ (Ts : Nat → Addr) (vals : Nat → List Value), ∀ j, j < n → P j (Ts j) (vals j) := by
  have h' : ∀ j, ∃ r : Addr × List Value, j < n → P j r.1 r.2 := fun j => by
    by_cases hj : j < n
    · obtain ⟨T, vs, q⟩ := h j hj
      exact ⟨(T, vs), fun _ => q⟩
    · exact ⟨(0, []), fun q => absurd q hj⟩
  exact ⟨fun j => (Classical.choose (h' j)).1, fun j => (Classical.choose (h' j)).2, fun j hj => Classical.choose_spec (h' j) hj⟩
theorem paired_strs {f : Nat → Str} {l : List Nat} {ys : List Value} (h : Paired (fun i y => ∃ t : Tok, y = .str (f i) t) l ys) : StrsAre ys (l.map f) := by
  induction h with
  | nil => exact .nil
  | cons h _ ih =>
    obtain ⟨t, rfl⟩ := h
    exact .cons _ t ih
theorem map_getD {α β : Type} (f : α → β) (d : α) (xs : List α) : (List.range xs.length).map (fun i => f (xs.getD i d)) = xs.map f := by
  refine List.ext_getElem (by simp) fun i h1 h2 => ?_
  simp at h1 h2
  simp [h2]
end
section
theorem news_same {h₀ h : Heap} {L : Addr} {news : List (Addr × Obj)} {p q : Addr × Obj} (N : News h₀ L h news) (hp : p ∈ news) (hq : q ∈ news) (e : p.1 = q.1) : p = q := by
  have h1 := (N p hp).1
  have h2 := (N q hq).1
  rw [e, h2] at h1
  obtain ⟨a, o⟩ := p
  obtain ⟨b, o'⟩ := q
  simp only [Option.some.injEq] at h1 e
  rw [e, h1]
/-- sorted, each once -/
noncomputable def OnceOf (r o : List Str) : Prop := ∃ ss', o = onceF ss' ∧ ss'.Perm r ∧ sortedS ss' = true
theorem law_once_m {w : World} {la : Addr} {vs : List Value} {ss : List Str} {n : Nat} {news : List (Addr × Obj)} (hm : (la, listOf vs.toArray n) ∈ news) (hS : StrsAre vs ss) (hl : vs.length ≤ 8) :
    Con 5 w 334 news [.ref la] (fun k => ∀ D vs' o, StrsAre vs' o → OnceOf ss o → (∀ p ∈ news, p.1 ≠ D) → k (.ref D) ((D, LCg.lst vs') :: news)) := by
  unfold Con
  intro pp0 loose mean mg mb dp un gd cn cs a ccd cl outer A₀ base h₀ L m s Q E B F X N T hk hd hu hret
  have hin : ∀ p ∈ (la, listOf vs.toArray n) :: news.filter (fun p => decide (p.1 ≠ la)), p ∈ news := fun p hp => by
    rcases List.mem_cons.mp hp with rfl | hp
    · exact hm
    · exact (List.mem_filter.mp hp).1
  have hout : ∀ p ∈ news, p ∈ (la, listOf vs.toArray n) :: news.filter (fun p => decide (p.1 ≠ la)) := fun p hp => by
    by_cases e : p.1 = la
    · rw [news_same N hp hm e]; exact .head _
    · exact .tail _ (List.mem_filter.mpr ⟨hp, by simp [e]⟩)
  refine law_once_c la vs ss n hS hl (news.filter (fun p => decide (p.1 ≠ la))) (fun p hp => by simpa using (List.mem_filter.mp hp).2) pp0 loose mean mg mb dp un gd cn cs a ccd cl outer A₀ base h₀ L m s Q E B F X (fun p hp => N p (hin p hp)) T hk hd hu ?_
  intro D vs' ss' h1 h2 h3 hne hne2 h' tk' F' N'
  refine hret D vs' _ h1 ⟨ss', rfl, h2, h3⟩ (fun p hp => ?_) h' tk' F' fun p hp => ?_
  · rcases List.mem_cons.mp (hout p hp) with rfl | hp
    · exact hne
    · exact hne2 p hp
  · rcases List.mem_cons.mp hp with rfl | hp
    · exact N' _ (.head _)
    · exact N' _ (.tail _ (hout p hp))
theorem counted_m {w : World} {la lb : Addr} {vs us : List Value} {ss1 ss2 : List Str} {n1 n2 : Nat} {news : List (Addr × Obj)} (h1 : (la, listOf vs.toArray n1) ∈ news) (h2 : (lb, listOf us.toArray n2) ∈ news) (hS1 : StrsAre vs ss1) (hS2 : StrsAre us ss2) (hl1 : vs.length ≤ 8) (hl2 : us.length ≤ 8) (hok : ∀ x ∈ ss1 ++ ss2, PyData.strOk x = true) :
    Con 50 w 329 news [.ref la, .ref lb] (fun k => ∀ tl ws own n, ws.length ≤ 16 → DatAll own ws ((ctdF ss1 ss2).map rowD) → k (.ref tl) ((tl, listOf ws.toArray n) :: (own ++ news))) := by
  unfold Con
  intro pp0 loose mean mg mb dp un gd cn cs a ccd cl outer A₀ base h₀ L m s Q E B F X N T hk hd hu hret
  refine counted_c la lb vs us ss1 ss2 n1 n2 hS1 hS2 hl1 hl2 hok news pp0 loose mean mg mb dp un gd cn cs a ccd cl outer A₀ base h₀ L m s Q E B F X (fun p hp => N p ?_) T hk hd hu ?_
  · rcases List.mem_cons.mp hp with rfl | hp
    · exact h1
    · rcases List.mem_cons.mp hp with rfl | hp
      · exact h2
      · exact hp
  · intro tl ws own n a1 a2 _ _ _ h' tk' F' N'
    refine hret tl ws own n a1 a2 h' tk' F' fun p hp => N' p ?_
    rcases List.mem_cons.mp hp with rfl | hp
    · exact .head _
    · exact .tail _ (.tail _ (.tail _ hp))
theorem count_m {w : World} {la lb : Addr} {vs us : List Value} {ss1 ss2 : List Str} {n1 n2 : Nat} {news : List (Addr × Obj)} (h1 : (la, listOf vs.toArray n1) ∈ news) (h2 : (lb, listOf us.toArray n2) ∈ news) (hS1 : StrsAre vs ss1) (hS2 : StrsAre us ss2) (hl1 : vs.length ≤ 8) (hl2 : us.length ≤ 8) :
    Con 50 w 291 news [.ref la, .ref lb] (fun k => ∀ R0 ws own n, ws.length ≤ 16 → MisAll own ws (ctdF ss1 ss2) → k (.ref R0) ((R0, listOf ws.toArray n) :: (own ++ news))) := by
  unfold Con
  intro pp0 loose mean mg mb dp un gd cn cs a ccd cl outer A₀ base h₀ L m s Q E B F X N T hk hd hu hret
  refine count_c la lb vs us ss1 ss2 n1 n2 hS1 hS2 hl1 hl2 news pp0 loose mean mg mb dp un gd cn cs a ccd cl outer A₀ base h₀ L m s Q E B F X (fun p hp => N p ?_) T hk hd hu ?_
  · rcases List.mem_cons.mp hp with rfl | hp
    · exact h1
    · rcases List.mem_cons.mp hp with rfl | hp
      · exact h2
      · exact hp
  · intro tl ws own n a1 a2 _ h' tk' F' N'
    refine hret tl ws own n a1 a2 h' tk' F' fun p hp => N' p ?_
    rcases List.mem_cons.mp hp with rfl | hp
    · exact .head _
    · refine .tail _ ?_
      rcases List.mem_append.mp hp with hp | hp
      · exact List.mem_append.mpr (.inl hp)
      · exact List.mem_append.mpr (.inr (.tail _ (.tail _ hp)))
theorem sld_m {w : World} {la lb : Addr} {vs us : List Value} {ss1 ss2 : List Str} {n1 n2 : Nat} {news : List (Addr × Obj)} (h1 : (la, listOf vs.toArray n1) ∈ news) (h2 : (lb, listOf us.toArray n2) ∈ news) (hS1 : StrsAre vs ss1) (hS2 : StrsAre us ss2) (hs1 : SortedL ss1) (hs2 : SortedL ss2) (hl1 : vs.length ≤ 8) (hl2 : us.length ≤ 8) :
    ConT 5 w 203 news [.ref la, .ref lb] (fun k => ∀ D aU aM xs ms nx nm, StrsAre ms (lackF ss2 ss1) → StrsAre xs (lackF ss1 ss2) → k (.ref D) ((D, ({ cls := .type "tuple", data := .seq #[.ref aM, .ref aU] } : Obj)) :: (aU, listOf xs.toArray nx) :: (aM, listOf ms.toArray nm) :: news)) := by
  unfold ConT
  intro pp0 loose mean mg mb dp un gd cn cs a ccd cl h₀ L m s Q E F X N T hk hd hu hret
  refine sld_c la lb vs us ss1 ss2 n1 n2 hS1 hS2 hs1 hs2 hl1 hl2 news pp0 loose mean mg mb dp un gd cn cs a ccd cl h₀ L m s Q E F X (fun p hp => N p ?_) T hk hd hu ?_
  · rcases List.mem_cons.mp hp with rfl | hp
    · exact h1
    · rcases List.mem_cons.mp hp with rfl | hp
      · exact h2
      · exact hp
  · intro D aU aM xs ms nx nm a1 a2 h' tk' F' N'
    exact hret D aU aM xs ms nx nm a1 a2 h' tk' F' (pk N' (al (.head _) (al (.tail _ (.head _)) (al (.tail _ (.tail _ (.head _))) fun p h => .tail _ (.tail _ (.tail _ (.tail _ (.tail _ h))))))))
end
section
theorem ltCps_iff : ∀ (a b : List Nat), PySem.Spec.ltCps a b = true ↔ a < b
  | [], [] => by simp [PySem.Spec.ltCps]
  | [], _ :: _ => by simp [PySem.Spec.ltCps]
  | _ :: _, [] => by simp [PySem.Spec.ltCps]
  | a :: r, b :: t => by simp [PySem.Spec.ltCps, ltCps_iff r t, List.cons_lt_cons_iff]
theorem ltS_iff {a b : Str} : PySem.Spec.ltCps a.cps.toList b.cps.toList = true ↔ LtS a b := ltCps_iff _ _
theorem LtS.of_not {a b : Str} (h : ¬ LtS b a) (hn : a ≠ b) : LtS a b := Classical.byContradiction fun q => hn (LtS.eq_of q h)
theorem le_trans_S {a b c : Str} (h : ¬ LtS b a) (h' : ¬ LtS c b) : ¬ LtS c a := by
  intro q
  by_cases e : b = c
  · exact h (e ▸ q)
  · exact h ((LtS.of_not h' e).trans q)
theorem rising_pairwise : ∀ {l : List Str} {p : Str}, risingS p l = true → (p :: l).Pairwise (fun a b => ¬ LtS b a)
  | [], p, _ => List.pairwise_singleton ..
  | x :: r, p, h => by
    simp only [risingS, Bool.and_eq_true, Bool.not_eq_true'] at h
    have hx : ¬ LtS x p := fun q => by rw [ltS_iff.mpr q] at h; cases h.1
    have ih := rising_pairwise h.2
    refine List.pairwise_cons.mpr ⟨fun z hz => ?_, ih⟩
    rcases List.mem_cons.mp hz with rfl | hz
    · exact hx
    · exact le_trans_S hx ((List.pairwise_cons.mp ih).1 z hz)
theorem sortedS_pairwise {l : List Str} (h : sortedS l = true) : l.Pairwise (fun a b => ¬ LtS b a) := by
  cases l with
  | nil => exact .nil
  | cons x r => exact rising_pairwise h
noncomputable def onceR : Str → List Str → List Str
  | _, [] => []
  | x, y :: t => if x = y then onceR y t else y :: onceR y t
theorem onceR_eq : ∀ (r : List Str) (x : Str), ((List.range r.length).filter fun i => onceG (x :: r) i != onceG (x :: r) (i + 1)).map (fun i => onceG (x :: r) (i + 1)) = onceR x r
  | [], _ => rfl
  | y :: t, x => by
    have ih := onceR_eq t y
    have e : ∀ i, onceG (x :: y :: t) (i + 1) = onceG (y :: t) i := fun i => rfl
    have e0 : onceG (x :: y :: t) 0 = x := rfl
    have e1 : onceG (y :: t) 0 = y := rfl
    rw [List.length_cons, List.range_succ_eq_map, List.filter_cons, List.filter_map, onceR]
    have ec : ((fun i => onceG (x :: y :: t) i != onceG (x :: y :: t) (i + 1)) ∘ Nat.succ) = fun i => onceG (y :: t) i != onceG (y :: t) (i + 1) := rfl
    rw [ec]
    by_cases h : x = y
    · rw [if_pos h, if_neg (by rw [e0, e, e1, h]; simp), List.map_map]
      exact ih
    · rw [if_neg h, if_pos (by rw [e0, e, e1]; simpa using h), List.map_cons, List.map_map]
      exact congrArg (y :: ·) ih
theorem onceF_cons (x : Str) (r : List Str) : onceF (x :: r) = x :: onceR x r := by
  unfold onceF
  rw [List.length_cons, List.range_succ_eq_map, List.filter_cons, if_pos (by rfl), List.map_cons, List.filter_map, List.map_map]
  exact congrArg (x :: ·) (onceR_eq r x)
theorem onceR_facts : ∀ (r : List Str) (x : Str), risingS x r = true → (∀ z ∈ onceR x r, LtS x z) ∧ SortedL (onceR x r) ∧ (∀ z, z ∈ x :: onceR x r ↔ z ∈ x :: r) ∧ (onceR x r).length ≤ r.length
  | [], x, _ => ⟨fun z hz => absurd hz List.not_mem_nil, .nil, fun z => Iff.rfl, Nat.le_refl _⟩
  | y :: t, x, h => by
    simp only [risingS, Bool.and_eq_true, Bool.not_eq_true'] at h
    obtain ⟨h1, h2, h3, h4⟩ := onceR_facts t y h.2
    rw [onceR]
    by_cases e : x = y
    · rw [if_pos e]
      subst e
      refine ⟨h1, h2, fun z => ?_, by simp; omega⟩
      rw [h3]
      simp only [List.mem_cons]
      exact ⟨fun q => .inr q, fun q => q.elim .inl id⟩
    · rw [if_neg e]
      have hlt : LtS x y := LtS.of_not (fun q => by rw [ltS_iff.mpr q] at h; cases h.1) e
      refine ⟨fun z hz => ?_, List.pairwise_cons.mpr ⟨h1, h2⟩, fun z => ?_, by simp; omega⟩
      · rcases List.mem_cons.mp hz with rfl | hz
        · exact hlt
        · exact hlt.trans (h1 z hz)
      · rw [List.mem_cons, h3 z]; exact List.mem_cons.symm
theorem OnceOf.facts {r o : List Str} (h : OnceOf r o) : SortedL o ∧ (∀ z, z ∈ o ↔ z ∈ r) ∧ o.length ≤ r.length := by
  obtain ⟨ss, rfl, hp, hs⟩ := h
  have hl := hp.length_eq
  cases ss with
  | nil => exact ⟨.nil, fun z => hp.mem_iff, by simp [onceF]⟩
  | cons x t =>
    obtain ⟨h1, h2, h3, h4⟩ := onceR_facts t x hs
    rw [onceF_cons]
    exact ⟨List.pairwise_cons.mpr ⟨h1, h2⟩, fun z => (h3 z).trans hp.mem_iff, by simp at hl ⊢; omega⟩
/-- a code told as its name -/
noncomputable def decN (c : Str) : Str := textOf (b64d (asciiB c))
theorem decN_coded {n : Str} (h : n ∈ allNames) : decN (codedF n) = n := by
  have H := name_ok h
  unfold decN
  rw [H.dec, H.text]
theorem coded_inj {a b : Str} (ha : a ∈ allNames) (hb : b ∈ allNames) (e : codedF a = codedF b) : a = b := by
  rw [← decN_coded ha, e, decN_coded hb]
theorem sorted_of_nodup {c : List Str} (h : sortedS c = true) (hn : c.Nodup) : SortedL c := by
  have h1 := sortedS_pairwise h
  exact (h1.and hn).imp fun q => LtS.of_not q.1 q.2
theorem SortedL.nodup {o : List Str} (h : SortedL o) : o.Nodup := h.imp fun q => q.ne
theorem codes_sorted {o c : List Str} (h : SortedL o) (hn : ∀ x ∈ o, x ∈ allNames) (hp : c.Perm (o.map codedF)) (hs : sortedS c = true) : SortedL c := by
  refine sorted_of_nodup hs (hp.nodup_iff.mpr ?_)
  refine (List.pairwise_map.mpr ?_)
  have h2 : o.Pairwise (fun a b => a ≠ b) := h.nodup
  refine h2.imp_of_mem fun ha hb q e => q (coded_inj (hn _ ha) (hn _ hb) e)
theorem eq_of_sorted : ∀ {a b : List Str}, a.Perm b → a.Pairwise (fun a b => ¬ LtS b a) → b.Pairwise (fun a b => ¬ LtS b a) → a = b := by
  intro a
  induction a with
  | nil => intro b hp _ _; exact hp.nil_eq
  | cons x r ih =>
    intro b hp h1 h2
    cases b with
    | nil => exact absurd hp.length_eq (by simp)
    | cons y t =>
      obtain rfl : x = y := by
        have hx : x ∈ y :: t := hp.mem_iff.mp (.head _)
        have hy : y ∈ x :: r := hp.mem_iff.mpr (.head _)
        rcases List.mem_cons.mp hx with e | hx
        · exact e
        rcases List.mem_cons.mp hy with e | hy
        · exact e.symm
        exact LtS.eq_of ((List.pairwise_cons.mp h2).1 x hx) ((List.pairwise_cons.mp h1).1 y hy)
      rw [ih (List.Perm.cons_inv hp) (List.pairwise_cons.mp h1).2 (List.pairwise_cons.mp h2).2]
theorem lackF_congr {b b' a : List Str} (h : ∀ x, x ∈ b ↔ x ∈ b') : lackF b a = lackF b' a := by
  unfold lackF
  refine List.filter_congr fun x _ => ?_
  congr 1
  rw [Bool.eq_iff_iff]
  simp [h]
theorem lackF_codes {a b : List Str} (ha : ∀ x ∈ a, x ∈ allNames) (hb : ∀ x ∈ b, x ∈ allNames) : lackF (b.map codedF) (a.map codedF) = (lackF b a).map codedF := by
  unfold lackF
  rw [List.filter_map]
  congr 1
  refine List.filter_congr fun x hx => ?_
  show (!(b.map codedF).contains (codedF x)) = !b.contains x
  congr 1
  rw [Bool.eq_iff_iff]
  simp only [List.contains_iff_mem, List.mem_map]
  exact ⟨fun ⟨y, hy, e⟩ => coded_inj (hb y hy) (ha x hx) e ▸ hy, fun h => ⟨x, h, rfl⟩⟩
/-- what the sorted, decoded codes of one row are -/
theorem row_names {a b c1 c2 s : List Str} (h1 : SortedL a) (ha : ∀ x ∈ a, x ∈ allNames) (hb : ∀ x ∈ b, x ∈ allNames) (p1 : c1.Perm (a.map codedF)) (p2 : c2.Perm (b.map codedF)) (hp : s.Perm ((lackF c2 c1).map decN)) (hs : sortedS s = true) : s = lackF b a := by
  have e1 : lackF c2 c1 = lackF (b.map codedF) c1 := lackF_congr fun x => p2.mem_iff
  have e2 : (lackF (b.map codedF) c1).Perm ((lackF b a).map codedF) := by
    rw [← lackF_codes ha hb]
    exact p1.filter _
  have e3 : ((lackF c2 c1).map decN).Perm (lackF b a) := by
    rw [e1]
    refine (e2.map decN).trans ?_
    rw [List.map_map]
    have : (lackF b a).map (decN ∘ codedF) = lackF b a := by
      conv => rhs; rw [← List.map_id (lackF b a)]
      exact List.map_congr_left fun x hx => decN_coded (ha x (List.mem_filter.mp hx).1)
    rw [this]
  refine eq_of_sorted (hp.trans e3) (sortedS_pairwise hs) ?_
  have h2 : SortedL (lackF b a) := List.Pairwise.sublist List.filter_sublist h1
  exact List.Pairwise.imp (fun {x y} (q : LtS x y) (r : LtS y x) => LtS.irrefl _ (q.trans r)) h2
theorem row_codes {a b c1 c2 : List Str} (ha : ∀ x ∈ a, x ∈ allNames) (p1 : c1.Perm (a.map codedF)) : ∀ c ∈ lackF c2 c1, ∃ n ∈ allNames, c = codedF n := by
  intro c hc
  have h := p1.mem_iff.mp (List.mem_filter.mp hc).1
  obtain ⟨n, hn, rfl⟩ := List.mem_map.mp h
  exact ⟨n, ha n hn, rfl⟩
end
section
section
variable {prog : Program} {w : World} {A : Around} {E : Value → Shared → Prop} {s : Shared} {h₀ : Heap} {L : Addr} {m : Str → Option Value} {news : List (Addr × Obj)} {Q : Value → Shared → Prop}
open Classical in
theorem notin_strs {a : Addr} {vs : List Value} {ss : List Str} {n : Nat} {x : Str} {t : Tok} (N : News h₀ L s.heap news) (hm : (a, PySem.W.listOf vs.toArray n) ∈ news) (hS : StrsAre vs ss) (ok : ∀ y ∈ ss, PyData.strOk y = true) (okx : PyData.strOk x = true) (hu : A.units + 64 < cLine) (h : Q (.bool (!ss.contains x)) s) :
    wpAny (model prog w) A (compareOp .NotIn (.str x t) (.ref a)) Q E s := by
  refine kqd_notIn N hm rfl rfl (datAll_strs (nw := news) hS) (fun _ h => h) (DatIn.str x t) (fun _ h => h) ?_ (by simpa [kqdOk] using okx) hu ?_
  · intro d hd
    obtain ⟨y, hy, rfl⟩ := List.mem_map.mp hd
    simpa [kqdOk] using ok y hy
  · have e : (decide (Dat.str x ∈ ss.map Dat.str)) = ss.contains x := by
      rw [Bool.eq_iff_iff]
      simp
    rw [e]
    exact h
end
theorem strs_getD {vs : List Value} {ss : List Str} {i : Nat} {v : Value} (h : StrsAre vs ss) (hv : vs[i]? = some v) : ∃ x t, v = .str x t ∧ ss.getD i Str.empty = x ∧ x ∈ ss := by
  obtain ⟨x, t, h1, h2⟩ := strs_at h hv
  exact ⟨x, t, h2, by simp [List.getD, h1], List.mem_of_getElem? h1⟩
theorem lack_range (b a : List Str) : ((List.range a.length).filter fun i => !b.contains (a.getD i Str.empty)).map (fun i => a.getD i Str.empty) = lackF b a := by
  have e := List.filter_map (f := fun i => a.getD i Str.empty) (p := fun x => !b.contains x) (l := List.range a.length)
  have e2 := map_getD (fun x : Str => x) Str.empty a
  rw [List.map_id'] at e2
  rw [e2] at e
  exact e.symm
end
section
section
open PySem.Calls
variable {prog : Program} {w : World} {A : Around} {h₀ : Heap} {L : Addr} {m : Str → Option Value} {env : Env} {elt : PySem.Expr} {x : Str} {scope : Scope} {cl : List (Str × Addr)} {s : Shared} {S : List (Addr × Obj) → Prop} {P : Nat → Value → Prop} {Fin : List Value → List (Addr × Obj) → Prop} {news : List (Addr × Obj)}
/-- a comprehension whose items are texts -/
theorem text_rest {n : Nat} (g : Nat → Str)
    (turn : ∀ i v I oI C oC D m₂ ys h tk (E' : Value → Shared → Prop), i < n → P i v → LCg.NsObj oC m₂ → m₂ x = some v → Fr h₀ L h m → News h₀ L h ((I, oI) :: (C, oC) :: (D, LCg.lst ys) :: news) → LCg.Off3 I C D news → ((@Ne Nat I C) ∧ (@Ne Nat I D) ∧ (@Ne Nat C D)) →
      wpAny (model prog w) A (eval elt (compEnvC scope cl C env)) (LCg.CompEnd h₀ L m { s with heap := h, toks := tk } I oI C oC D (LCg.lst ys) S (fun y news' => news' = news ∧ ∃ t : Tok, y = .str (g i) t)) E' { s with heap := h, toks := tk })
    (fin : ∀ ys, StrsAre ys ((List.range n).map g) → Fin ys news) : LCg.CompRest prog w A h₀ L m env elt x scope cl s S P Fin n 0 [] news := by
  have key : ∀ (j i : Nat) (ys : List Value), i + j = n → StrsAre ys ((List.range i).map g) → LCg.CompRest prog w A h₀ L m env elt x scope cl s S P Fin j i ys news := by
    intro j
    induction j with
    | zero =>
      intro i ys hi hy
      obtain rfl : i = n := hi
      exact LCg.CompRest.zero (fin ys hy)
    | succ j ih =>
      intro i ys hi hy
      refine LCg.CompRest.succ ?_
      intro v I oI C oC D m₂ h tk E' hv hC hx F N off ne
      refine wpAny_mono (turn i v I oI C oC D m₂ ys h tk E' (up_lt hi) hv hC hx F N off ne) (fun y s₂ hq => end_mono (fun nw hq => ?_) hq) fun _ _ e => e
      obtain ⟨hn, t', hy'⟩ := hq
      rw [hn, hy']
      refine ih (i + 1) _ (up_eq hi) ?_
      rw [List.range_succ, List.map_append]
      exact kct_snoc hy
  exact key n 0 [] (Nat.zero_add n) .nil
end
theorem told_pick {h₀ h : Heap} {L : Addr} {t x m q1 q2 q3 q4 du ub ua c2 c1 a b rw r1 r2 tb : Addr × Obj} (N : News h₀ L h [t, x, m, q1, q2, q3, q4, du, ub, ua, c2, c1, a, b, rw, r1, r2, tb]) : News h₀ L h [t, x, m, du, ub, ua, rw, r1, r2, tb] := pk N (al (.head _) (al (.tail _ (.head _)) (al (.tail _ (.tail _ (.head _))) (al (.tail _ (.tail _ (.tail _ (.tail _ (.tail _ (.tail _ (.tail _ (.head _)))))))) (al (.tail _ (.tail _ (.tail _ (.tail _ (.tail _ (.tail _ (.tail _ (.tail _ (.head _))))))))) (al (.tail _ (.tail _ (.tail _ (.tail _ (.tail _ (.tail _ (.tail _ (.tail _ (.tail _ (.head _)))))))))) (al (.tail _ (.tail _ (.tail _ (.tail _ (.tail _ (.tail _ (.tail _ (.tail _ (.tail _ (.tail _ (.tail _ (.tail _ (.tail _ (.tail _ (.head _))))))))))))))) (al (.tail _ (.tail _ (.tail _ (.tail _ (.tail _ (.tail _ (.tail _ (.tail _ (.tail _ (.tail _ (.tail _ (.tail _ (.tail _ (.tail _ (.tail _ (.head _)))))))))))))))) (al (.tail _ (.tail _ (.tail _ (.tail _ (.tail _ (.tail _ (.tail _ (.tail _ (.tail _ (.tail _ (.tail _ (.tail _ (.tail _ (.tail _ (.tail _ (.tail _ (.head _))))))))))))))))) (al (.tail _ (.tail _ (.tail _ (.tail _ (.tail _ (.tail _ (.tail _ (.tail _ (.tail _ (.tail _ (.tail _ (.tail _ (.tail _ (.tail _ (.tail _ (.tail _ (.tail _ (.head _)))))))))))))))))) al0))))))))))
section
open PySem.Calls PyProof.Rows.LCg
variable {prog : Program} {w : World} {A : Around} {E : Value → Shared → Prop} {s : Shared} {h₀ : Heap} {L : Addr} {m : Str → Option Value} {env : Env}
noncomputable abbrev tuplO (its : Array Value) (k : Nat) : Obj := { cls := .type "tuple", data := .seq its k }
noncomputable def TupAt (ax : Addr) (its : Array Value) (news : List (Addr × Obj)) : Prop := ∃ k, (ax, tuplO its k) ∈ news
inductive SrcTup (prog : Program) (w : World) (A : Around) (h₀ : Heap) (L : Addr) (m : Str → Option Value) (env : Env) (elt : PySem.Expr) (x : Str) (scope : Scope) (cl : List (Str × Addr)) (Fin : Shared → List Value → List (Addr × Obj) → Prop) (xv : Value) (s₁ : Shared) : Prop
  | mk (ax : Addr) (its : Array Value) (news : List (Addr × Obj)) : (xv = .ref ax) → (A.handled = none) → (Fr h₀ L s₁.heap m) → (News h₀ L s₁.heap news) → (TupAt ax its news) → (its.size ≤ sizeLine) → (∀ s₂ : Shared, (∃ h, s₂ = { s₁ with heap := h }) → CompRest prog w A h₀ L m env elt x scope cl s₂ (TupAt ax its) (fun i v => its[i]? = some v) (Fin s₂) its.size 0 [] news) → SrcTup prog w A h₀ L m env elt x scope cl Fin xv s₁
theorem SrcTup.ledger {elt : PySem.Expr} {x : Str} {scope : Scope} {cl : List (Str × Addr)} {Fin : Shared → List Value → List (Addr × Obj) → Prop} {ax : Addr} {its : Array Value} {k : Nat} {news : List (Addr × Obj)} {s₁ : Shared}
    (hh : A.handled = none) (F : Fr h₀ L s₁.heap m) (N : News h₀ L s₁.heap news) (hm : (ax, tuplO its k) ∈ news) (hsz : its.size ≤ sizeLine)
    (h : ∀ g, CompRest prog w A h₀ L m env elt x scope cl { s₁ with heap := g } (TupAt ax its) (fun i v => its[i]? = some v) (Fin { s₁ with heap := g }) its.size 0 [] news) :
    SrcTup prog w A h₀ L m env elt x scope cl Fin (.ref ax) s₁ := ⟨ax, its, news, rfl, hh, F, N, ⟨_, hm⟩, hsz, fun _ ⟨g, e⟩ => e ▸ h g⟩
theorem tup_st {ax I : Addr} {its : Array Value} : ∀ i (h h' : Heap) (o : Obj) (nw : List (Addr × Obj)), (h.IsTupleIter I ax i ∧ h.IsTuple ax its) → h.get? I = some o → h'.get? I = some o → (∀ b o, h₀.get? b = some o → h'.get? b = some o) → News h₀ L h' nw → TupAt ax its nw → (h'.IsTupleIter I ax i ∧ h'.IsTuple ax its) :=
  fun i h h' o nw st e e' k N S => ⟨by obtain ⟨o', q, r⟩ := st.1; rw [e] at q; cases q; exact ⟨o, e', r⟩, by obtain ⟨k, hm⟩ := S; exact ⟨_, (N _ hm).1, rfl, _, rfl⟩⟩
/-- a comprehension over a tuple of the ledger -/
theorem ListComp_Tup {elt iter : PySem.Expr} {x : Str} {px : Pos} {scope : Scope} {cl : List (Str × Addr)} {pos : Pos} {Q : Value → Shared → Prop} (_F₀ : Fr h₀ L s.heap m)
    (hclos : closureFor scope env = pure cl) (hcell : ∀ y ∈ scope.names, y.2 ≠ .cell) (hkind : scope.kind = .function)
    (hnames : ∀ y ∈ scope.names, y.2 = .local → scope.names.lookup y.1 = some .local) (hx : scope.names.lookup x = some .local)
    (h : wpAny (model prog w) A (eval iter env) (SrcTup prog w A h₀ L m env elt x scope cl (fun s₂ => FinE h₀ L m s₂ Q)) E s)
    (hs : ∀ x, foldedSetIterable iter env x = pure x := by intro _; rfl) :
    wpAny (model prog w) A (eval (.ListComp elt [⟨.Name x px, iter, [], 0⟩] scope pos) env) Q E s := by
  rw [eval_ListComp]
  refine wpAny_comprehension_free (use := none) rfl hs hclos hkind hnames (wpAny_mono h (fun xv s₁ h₁ => ?_) fun _ _ e => e)
  refine (let G9 : Prop := _; show G9 from ?_)
  obtain ⟨ax, its, news, rfl, hh, F, N, S, hsz, R⟩ := h₁
  k_unfold
  have hl : s₁.heap.IsTuple ax its := by obtain ⟨k, hm⟩ := S; exact ⟨_, (N _ hm).1, rfl, _, rfl⟩
  have hlt : ax < s₁.heap.objs.size := by obtain ⟨_, e, _⟩ := hl; exact Heap.lt_size e
  refine wpAny_pyIter_tuple hl ?_
  have up : ∀ b o, s₁.heap.get? b = some o → (s₁.heap.push { cls := .type "tuple_iterator", data := .fields #[.ref ax, .int 0 0] }).get? b = some o := fun b o e => Heap.get?_push_of_some _ e
  refine block_U (Walks.tuple hh s₁.heap.objs.size ax (Nat.ne_of_lt hlt) its) hsz (fun i h st => by obtain ⟨o, e, _⟩ := st.1; exact ⟨o, e⟩) tup_st hcell hkind hx ⟨⟨_, Heap.get?_push_size _ rfl, rfl, rfl⟩, hl.push _⟩ (fun b hb => ?_)
    (F.keeps up) (N.grown up) (Nat.ne_of_lt F.ns.lt) (next_is_new F) (fun p hp => Nat.ne_of_lt (Heap.lt_size (N p hp).1)) S (R _ ⟨_, rfl⟩) ?_
  · show b < (s₁.heap.push _).objs.size
    rw [Heap.size_push]
    rcases List.mem_cons.mp hb with rfl | hb
    · exact Nat.lt_succ_self _
    · rw [List.mem_singleton.mp hb]; exact Nat.lt_succ_of_lt hlt
  · intro D C h tk m' ys news' F' N' o1 hn hC₀ hD₀ hCL hDL hCD offC fin
    refine ⟨m', hn, fun h'' hs'' => fin D h'' tk (F'.change hs'' hCL hC₀) (fun p hp => ?_) o1⟩
    refine ⟨hs''.extBut _ _ ?_ (N' p hp).1, (N' p hp).2⟩
    rcases List.mem_cons.mp hp with rfl | hp
    · exact Ne.symm hCD
    · exact offC p hp
theorem gen_end {I C D D9 : Addr} {s₁ : Shared} {oI oC oD o9 : Obj} {h' : Heap} {tk : Nat} {all : List (Addr × Obj)} {S : List (Addr × Obj) → Prop} {rest : Value → List (Addr × Obj) → Prop} {y : Value}
    (F : Fr h₀ L h' m) (N : News h₀ L h' ((D9, o9) :: (I, oI) :: (C, oC) :: (D, oD) :: all)) (hne : ∀ p ∈ (I, oI) :: (C, oC) :: (D, oD) :: all, p.1 ≠ D9) (off : Off3 I C D all) (hS : S ((D9, o9) :: all)) (r : (∀ p ∈ all, p.1 ≠ D9) → rest y ((D9, o9) :: all)) :
    CompEnd h₀ L m s₁ I oI C oC D oD S rest y { s₁ with heap := h', toks := tk } := by
  exact CompEnd.intro F N ((D9, o9) :: all) (fun p hp => rot (a := [_, _, _]) (b := [_]) hp) ⟨⟨Ne.symm (hne _ (.head _)), Ne.symm (hne _ (.tail _ (.head _))), Ne.symm (hne _ (.tail _ (.tail _ (.head _))))⟩, off⟩ hS (r fun p hp => hne p (.tail _ (.tail _ (.tail _ hp))))
end
theorem stop_over {prog : Program} {w : World} {A : Around} {E Q : Value → Shared → Prop} {s : Shared} {elt t : PySem.Expr} {p pos : Pos} {z : Int} {ifs : List PySem.Expr} {sc : Scope} {env : Env} (y : String) (h : Stop (wpAny (model prog w) A (eval (.ListComp elt [⟨t, .Name (Str.ofString y) p, ifs, z⟩] sc pos) env) Q E s)) :
    wpAny (model prog w) A (eval (.ListComp elt [⟨t, .Name (Str.ofString y) p, ifs, z⟩] sc pos) env) Q E s := h
theorem told_pick2 {h₀ h : Heap} {L : Addr} {d a b t x m du ub ua rw r1 r2 tb : Addr × Obj} {own : List (Addr × Obj)} (N : News h₀ L h (d :: (own ++ [t, x, m, du, ub, ua, rw, r1, r2, tb]))) (ha : a ∈ own ++ [t, x, m, du, ub, ua, rw, r1, r2, tb]) (hb : b ∈ own ++ [t, x, m, du, ub, ua, rw, r1, r2, tb]) : News h₀ L h [d, a, b, du, ub, ua, rw, r1, r2, tb] := pk N (al (.head _) (al (.tail _ ha) (al (.tail _ hb) (al (.tail _ (inr9 (.tail _ (.tail _ (.tail _ (.head _)))))) (al (.tail _ (inr9 (.tail _ (.tail _ (.tail _ (.tail _ (.head _))))))) (al (.tail _ (inr9 (.tail _ (.tail _ (.tail _ (.tail _ (.tail _ (.head _)))))))) (al (.tail _ (inr9 (.tail _ (.tail _ (.tail _ (.tail _ (.tail _ (.tail _ (.head _))))))))) (al (.tail _ (inr9 (.tail _ (.tail _ (.tail _ (.tail _ (.tail _ (.tail _ (.tail _ (.head _)))))))))) (al (.tail _ (inr9 (.tail _ (.tail _ (.tail _ (.tail _ (.tail _ (.tail _ (.tail _ (.tail _ (.head _))))))))))) (al (.tail _ (inr9 (.tail _ (.tail _ (.tail _ (.tail _ (.tail _ (.tail _ (.tail _ (.tail _ (.tail _ (.head _)))))))))))) al0))))))))))
theorem drop2 {h₀ h : Heap} {L : Addr} {a b : Addr × Obj} {r : List (Addr × Obj)} (N : News h₀ L h (a :: b :: r)) : News h₀ L h (a :: r) := fun p hp => N p (by
  rcases List.mem_cons.mp hp with h | h
  · exact h ▸ .head _
  · exact .tail _ (.tail _ h))
theorem list_ok {l : List Str} (h : ∀ x ∈ l, x ∈ allNames) : kqdOk 8 (.list (l.map Dat.str)) = true := by
  simp only [kqdOk, List.all_map, List.all_eq_true, Function.comp]
  exact fun x hx => (names_strOk x (h x hx)).1
theorem lists_ok {a b : List Str} (ha : ∀ x ∈ a, x ∈ allNames) (hb : ∀ x ∈ b, x ∈ allNames) : ∀ d ∈ [Dat.list (a.map Dat.str), Dat.list (b.map Dat.str)], kqdOk 8 d = true := by
  intro d hd
  rcases List.mem_cons.mp hd with rfl | hd
  · exact list_ok ha
  · rw [List.mem_singleton.mp hd]; exact list_ok hb
theorem stop_call {prog : Program} {w : World} {A : Around} {E Q : Value → Shared → Prop} {s : Shared} {elt t f : PySem.Expr} {as : List PySem.Expr} {ks : List Keyword} {p pos : Pos} {z : Int} {ifs : List PySem.Expr} {sc : Scope} {env : Env} (h : Stop (wpAny (model prog w) A (eval (.ListComp elt [⟨t, .Call f as ks p, ifs, z⟩] sc pos) env) Q E s)) :
    wpAny (model prog w) A (eval (.ListComp elt [⟨t, .Call f as ks p, ifs, z⟩] sc pos) env) Q E s := h
end
section
section
open PySem.Calls
variable {M : Model} {A : Around} {E : Value → Shared → Prop} {s : Shared}
/-- a class whose instances are tuples -/
structure TupSub (M : Model) (h : Heap) (C : Addr) : Prop where
  iter : Looks M h (typeLookup (.ref C) "__iter__") (some (.builtin "tuple.__iter__"))
  len : Looks M h (typeLookup (.ref C) "__len__") (some (.builtin "tuple.__len__"))
  top : Looks M h (isSubtype (.ref C) (.type "tuple")) true
theorem TupSub.keeps {h h' : Heap} {C : Addr} (x : TupSub M h C) (k : ∀ b o, h.get? b = some o → h'.get? b = some o) : TupSub M h' C := ⟨x.iter.keeps k, x.len.keeps k, x.top.keeps k⟩
theorem tupSub {K : Frag} {h : Heap} {C : Addr} (X : K.In h) (e1 : findIn K (.ref C) "__iter__" = some (some (.builtin "tuple.__iter__"))) (e2 : findIn K (.ref C) "__len__" = some (some (.builtin "tuple.__len__"))) (e3 : mroIn K C (.type "tuple") = some true) : TupSub M h C :=
  ⟨looks_findIn X e1, looks_findIn X e2, looks_mroIn X e3⟩
variable {x C : Addr} {o : Obj}
theorem typeOf_at {Q : Value → Shared → Prop} (hx : s.heap.get? x = some o) (q : Q o.cls s) : wpAny M A (typeOf (.ref x)) Q E s := wpAny_bind (wpAny_loadPart hx (wpAny_pure q))
theorem special_at {Q : Option Value → Shared → Prop} {name : Str} {r : Option Value} (hx : s.heap.get? x = some o) (hc : o.cls = .ref C) (k : Looks M s.heap (typeLookup (.ref C) name) r) (q : Q r s) : wpAny M A (specialOf (.ref x) name) Q E s := by
  unfold specialOf
  refine wpAny_bind (typeOf_at hx ?_)
  rw [hc]
  exact k.here q
theorem inst_at {Q : Bool → Shared → Prop} (hx : s.heap.get? x = some o) (hc : o.cls = .ref C) (T : TupSub M s.heap C) (q : Q true s) : wpAny M A (isInstance (.ref x) (.type "tuple")) Q E s := by
  unfold isInstance
  refine wpAny_bind (typeOf_at hx ?_)
  rw [hc]
  exact T.top.here q
theorem check_at {id n : String} {Q : Unit → Shared → Prop} (hk : builtinKind id = some .slot) (hs : splitId id = some ("tuple", n)) (ha : argsOk id ⟨[.ref x], []⟩) (hx : s.heap.get? x = some o) (hc : o.cls = .ref C) (T : TupSub M s.heap C) (q : Q () s) :
    wpAny M A (checkBuiltinCall id ⟨[.ref x], []⟩) Q E s := by
  simp only [checkBuiltinCall, hk, hs]
  refine wpAny_bind (inst_at hx hc T ?_)
  simp only [Bool.not_true, Bool.false_eq_true, if_false]
  cases hsig : Manifest.signature? id with
  | none => exact wpAny_pure q
  | some sig =>
    simp only [argsOk, hsig] at ha
    show wpAny M A (Bind.checkArgs id sig ⟨[.ref x], []⟩) Q E s
    rw [ha]
    exact wpAny_pure q
end
section
open PySem.Calls
variable {prog : Program} {w : World} {A : Around} {E : Value → Shared → Prop} {s : Shared} {x C : Addr} {o : Obj} {items : Array Value} {n : Nat}
theorem ti_kind : builtinKind "tuple.__iter__" = some .slot := by decide +kernel
theorem ti_split : splitId "tuple.__iter__" = some ("tuple", "__iter__") := by decide +kernel
theorem tl_kind : builtinKind "tuple.__len__" = some .slot := by decide +kernel
theorem tl_split : splitId "tuple.__len__" = some ("tuple", "__len__") := by decide +kernel
theorem sub_iter {Q : Value → Shared → Prop} (hx : s.heap.get? x = some o) (hc : o.cls = .ref C) (T : TupSub (model prog w) s.heap C) (q : Q (.ref s.heap.objs.size) { s with heap := s.heap.push { cls := .type "tuple_iterator", data := .fields #[.ref x, .int 0 0] } }) :
    wpAny (model prog w) A (call (.builtin "tuple.__iter__") [.ref x]) Q E s := by
  refine wpAny_call (codeAny_call_builtin PySem.F.slot_tuple_iter.plain PySem.F.entry_tuple_iter ?_)
  have ha := PySem.F.args_tuple_iter_1 (.ref x)
  refine check_at (id := "tuple.__iter__") (n := "__iter__") ?a1 ?a2 ?a3 hx hc T ?_
  case a3 => exact ha
  case a1 => exact ti_kind
  case a2 => exact ti_split
  show wpAny _ _ (do ret (← newFields "tuple_iterator" [.ref x, rawInt 0])) _ _ s
  exact wpAny_bind (wpAny_newObj_type (wpAny_pure q))
theorem sub_callIter {rf : Sem Value} {R : Option Value → Shared → Prop} (hx : s.heap.get? x = some o) (hc : o.cls = .ref C) (T : TupSub (model prog w) s.heap C) (hR : R (some (.ref s.heap.objs.size)) { s with heap := s.heap.push { cls := .type "tuple_iterator", data := .fields #[.ref x, .int 0 0] } }) :
    wpAny (model prog w) A (callSpecialIfBoundUnlessNone? (.ref x) "__iter__" rf) R E s := by
  simp only [callSpecialIfBoundUnlessNone?, bindSpecialIfBound?]
  refine wpAny_holding (wpAny_bind (wpAny_bind (special_at hx hc T.iter ?_)))
  simp only [PySem.F.slot_tuple_iter.bind]
  refine wpAny_bind (wpAny_askSetting (wpAny_ite ?_))
  have fin : wpAny (model prog w) A (if (Value.builtin "tuple.__iter__" == Value.none) = true then (rf >>= fun v => pure (some v)) else (call (.builtin "tuple.__iter__") [.ref x] >>= fun v => pure (some v))) R E s := by
    simp only [builtin_beq_none, Bool.false_eq_true, if_false]
    exact wpAny_bind (sub_iter hx hc T (wpAny_pure hR))
  split
  · exact wpAny_bind (wpAny_pure (wpAny_pure fin))
  · exact wpAny_tryCatch (wpAny_bind (wpAny_pure (wpAny_pure fin)))
theorem sub_pyIter {Q : Value → Shared → Prop} (hx : s.heap.get? x = some o) (hc : o.cls = .ref C) (T : TupSub (model prog w) s.heap C) (q : Q (.ref s.heap.objs.size) { s with heap := s.heap.push { cls := .type "tuple_iterator", data := .fields #[.ref x, .int 0 0] } }) :
    wpAny (model prog w) A (pyIter (.ref x)) Q E s := by
  unfold pyIter
  refine wpAny_bind (special_at hx hc T.iter ?_)
  dsimp only
  refine wpAny_bind (sub_callIter hx hc T ?_)
  dsimp only
  refine wpAny_bind (wpAny_specialOf (T := "tuple_iterator") ⟨_, Heap.get?_push_size _ rfl, rfl⟩ PySem.F.slot_tuple_iterator_next.lookup ?_)
  exact wpAny_pure q
theorem sub_len {Q : Value → Shared → Prop} (hx : s.heap.get? x = some o) (hc : o.cls = .ref C) (hd : o.data = .seq items n) (T : TupSub (model prog w) s.heap C) (q : Q (.int items.size s.toks) { s with toks := s.toks + 1 }) :
    wpAny (model prog w) A (call (.builtin "tuple.__len__") [.ref x]) Q E s := by
  refine wpAny_call (codeAny_call_builtin PySem.F.slot_tuple_len.plain PySem.F.entry_tuple_len ?_)
  have ha := PySem.F.args_tuple_len_1 (.ref x)
  refine check_at (id := "tuple.__len__") (n := "__len__") ?a1 ?a2 ?a3 hx hc T ?_
  case a3 => exact ha
  case a1 => exact tl_kind
  case a2 => exact tl_split
  show wpAny _ _ (do retInt (← Builtin.Tuple.tupleItemsOf (.ref x)).size) _ _ s
  unfold Builtin.Tuple.tupleItemsOf
  refine wpAny_bind (wpAny_bind (wpAny_seqItems hx hd (wpAny_pure ?_)))
  exact wpAny_bind (wpAny_mkInt (wpAny_pure q))
end
section
open PySem.Calls
variable {prog : Program} {w : World} {A : Around} {E : Value → Shared → Prop} {s : Shared} {x C it t : Addr} {o ol : Obj} {items : Array Value} {n i : Nat}
theorem sub_item {v : Value} {Q : Option Value → Shared → Prop} (hit : s.heap.IsTupleIter it t i) (hol : s.heap.get? t = some ol) (hdl : ol.data = .seq items n) (hx : items[i]? = some v)
    (hQ : ∀ h', h'.IsTupleIter it t (i + 1) → Heap.SameBut it s.heap h' → Q (some v) { s with heap := h' }) : wpAny (model prog w) A (pyNext (.ref it)) Q E s := by
  obtain ⟨oi, hi, hic, hid⟩ := id hit
  have hne : (Value.ref t == Value.none) = false := rfl
  unfold pyNext
  refine wpAny_bind (wpAny_attempt (wpAny_callSpecial?_slot (name := Str.ofString "__next__") hit.typeIs PySem.F.slot_tuple_iterator_next
    (wpAny_call_entry PySem.F.slot_tuple_iterator_next hit.typeIs PySem.F.entry_tuple_iterator_next ?_ (PySem.F.args_tuple_iterator_next_1 _))))
  show wpAny _ _ (field (.ref it) 0 >>= _) _ _ s
  refine wpAny_bind (wpAny_field hi hid (x := .ref t) rfl ?_)
  dsimp only
  rw [hne, if_neg Bool.false_ne_true]
  refine wpAny_bind (wpAny_field hi hid (x := .int i 0) rfl ?_)
  dsimp only
  refine wpAny_bind (wpAny_seqItems hol hdl ?_)
  simp only [Int.toNat_natCast, hx]
  refine wpAny_bind (wpAny_setField hi hid (by simp) (wpAny_pure ⟨v, rfl, wpAny_pure (hQ _ ⟨_, Heap.get?_update_self _ hi (Obj.isFreed_of_fields (Obj.data_mapFields hid _)), (Obj.cls_mapFields ..).trans hic, ?_⟩ (Heap.SameBut.update ..))⟩))
  rw [Obj.data_mapFields hid]
  simp [rawInt]
theorem sub_done {Q : Option Value → Shared → Prop} (hh : A.handled = none) (hit : s.heap.IsTupleIter it t i) (hol : s.heap.get? t = some ol) (hdl : ol.data = .seq items n) (hx : items[i]? = none)
    (hQ : ∀ h', Heap.ExtBut it s.heap h' → Q none { s with heap := h' }) : wpAny (model prog w) A (pyNext (.ref it)) Q E s := by
  obtain ⟨oi, hi, hic, hid⟩ := id hit
  have hne : (Value.ref t == Value.none) = false := rfl
  have hh' : A.in1.handled = none := hh
  unfold pyNext
  refine wpAny_bind (wpAny_attempt (wpAny_callSpecial?_slot (name := Str.ofString "__next__") hit.typeIs PySem.F.slot_tuple_iterator_next
    (wpAny_call_entry PySem.F.slot_tuple_iterator_next hit.typeIs PySem.F.entry_tuple_iterator_next ?_ (PySem.F.args_tuple_iterator_next_1 _))))
  show wpAny _ _ (field (.ref it) 0 >>= _) _ _ s
  refine wpAny_bind (wpAny_field hi hid (x := .ref t) rfl ?_)
  dsimp only
  rw [hne, if_neg Bool.false_ne_true]
  refine wpAny_bind (wpAny_field hi hid (x := .int i 0) rfl ?_)
  dsimp only
  refine wpAny_bind (wpAny_seqItems hol hdl ?_)
  simp only [Int.toNat_natCast, hx]
  refine wpAny_bind (wpAny_rule (wpAny_bind (wpAny_setField hi hid (by simp) ?_)))
  show wpAny _ _ (newExc (.type "StopIteration") [] >>= _) _ _ _
  refine wpAny_bind ?_
  simp only [newExc, newTuple]
  refine wpAny_bind (wpAny_newObj_type ?_ (by size_fits))
  refine wpAny_bind (m := firstArgMember _ _) (wpAny_of_eq (a := Value.none) (by first | rfl | (simp only [firstArgMember]; rfl)) ?_)
  refine wpAny_newObj_type ?_ (by size_fits)
  simp only [raiseNew]
  refine wpAny_bind (wpAny_handled ?_)
  rw [hh']
  refine wpAny_bind (wpAny_pure (wpAny_throw ?_))
  refine wpAny_bind (wpAny_isInstance (T := "StopIteration") (b := true) ⟨_, Heap.get?_push_size _ rfl, rfl⟩ isSubtype_stop ?_)
  exact wpAny_pure (hQ _ (((Heap.SameBut.update ..).extBut.push _).push _))
/-- what the walk over such a tuple knows -/
noncomputable def SubSt (it t : Addr) (items : Array Value) (i : Nat) (h : Heap) : Prop := h.IsTupleIter it t i ∧ ∃ o n, h.get? t = some o ∧ o.data = .seq items n
theorem Walks_sub (hh : A.handled = none) (hne : t ≠ it) (items : Array Value) : Walks prog w A it [it, t] [it] items.size (fun i v => items[i]? = some v) (SubSt it t items) where
  sub := fun b hb => by simp at hb; simp [hb]
  frame := fun _ _ _ st hk => ⟨st.1.at fun o e => hk it (by simp) o e, let ⟨o, n, e, d⟩ := st.2; ⟨o, n, hk t (by simp) o e, d⟩⟩
  item := fun i s Q E hi st hQ => by
    obtain ⟨st1, o, n, e, d⟩ := st
    refine sub_item st1 e d (v := items[i]) (by simp [hi]) fun h' hit' hs' => ?_
    exact hQ _ h' s.toks (by simp [hi]) ⟨hit', o, n, hs'.extBut _ _ hne e, d⟩ fun b o hb e => hs'.extBut b o (fun h => hb (by simp [h])) e
  done := fun s Q E st hQ => by
    obtain ⟨st1, o, n, e, d⟩ := st
    exact sub_done hh st1 e d (by simp) fun h' he' => hQ h' s.toks fun b o hb e => he' b o (fun h => hb (by simp [h])) e
  self := fun _ _ _ _ st hQ => wpAny_pyIter_tupleiter st.1 hQ
end
section
open PySem.Calls
variable {prog : Program} {w : World} {A : Around} {E : Value → Shared → Prop} {s : Shared} {x C : Addr} {o : Obj} {items : Array Value} {n : Nat}
theorem sub_lenCall {Q : Value → Shared → Prop} (hx : s.heap.get? x = some o) (hc : o.cls = .ref C) (hd : o.data = .seq items n) (T : TupSub (model prog w) s.heap C) (hn : items.size ≤ 1000) (q : ∀ t tk, Q (.int items.size t) { s with toks := tk }) :
    wpAny (model prog w) A (call (.builtin "len") [.ref x]) Q E s := by
  refine Calls.call_function_entry kind_len plain_len entry_len (args_len1 _) ?_
  unfold Builtin.«len»
  refine wpAny_bind (m := oneArg "len" _) (wpAny_pure ?_)
  refine wpAny_bind (m := callSpecial? (.ref x) (Str.ofString "__len__")) ?_
  simp only [callSpecial?]
  refine wpAny_bind (special_at hx hc T.len ?_)
  simp only [PySem.F.slot_tuple_len.bind]
  refine wpAny_holding (wpAny_bind (wpAny_pure (wpAny_bind (sub_len hx hc hd T (wpAny_pure ?_)))))
  dsimp only
  refine wpAny_bind (wpAny_holding (wpAny_pure ?_))
  refine wpAny_bind (wpAny_letGo ?_)
  show wpAny _ _ (if (items.size : Int) < 0 then _ else _) _ _ _
  rw [if_neg (by omega)]
  show wpAny _ _ (if (items.size : Int) ≥ 2 ^ 63 then _ else _) _ _ _
  rw [if_neg (by omega)]
  exact wpAny_bind (wpAny_mkInt (wpAny_pure ⟨_, rfl, q _ _⟩))
theorem sub_hint {Q : Bool → Shared → Prop} (hx : s.heap.get? x = some o) (hc : o.cls = .ref C) (hd : o.data = .seq items n) (T : TupSub (model prog w) s.heap C) (hn : items.size ≤ 1000) (q : ∀ tk, Q ((items.size : Int) != 0) { s with toks := tk }) :
    wpAny (model prog w) A (Builtin.List.listLengthHint (.ref x)) Q E s := by
  unfold Builtin.List.listLengthHint
  refine wpAny_bind (special_at hx hc T.len ?_)
  generalize hid : ("tuple.__len__" : String) = id0
  wp_delta
  rw [show splitId id0 = some ("tuple", "__len__") from by subst hid; decide +kernel]
  subst hid
  refine wpAny_bind (inst_at hx hc T ?_)
  rw [if_neg (by decide), if_pos (by decide +kernel)]
  refine wpAny_bind (typeOf_at hx ?_)
  rw [hc]
  dsimp only
  refine wpAny_bind (sub_lenCall hx hc hd T hn fun t tk => ?_)
  refine wpAny_bind (m := asInt? (.int items.size t)) (wpAny_pure ?_)
  exact wpAny_pure (q tk)
end
section
open PySem.Calls
variable {prog : Program} {w : World} {A : Around} {E : Value → Shared → Prop} {s : Shared} {x C : Addr} {o : Obj} {items : Array Value} {n : Nat}
theorem items_eq {acc : Array Value} (h : ItemsOf (fun i v => items[i]? = some v) acc items.size) : acc = items := by
  refine Array.ext_getElem? fun i => ?_
  by_cases hi : i < acc.size
  · rw [h.2 i acc[i] (by simp [hi])]
    simp [hi]
  · have : ¬ i < items.size := by have := h.1; omega
    simp [hi, this]
theorem sub_collect {Q : List Value → Shared → Prop} (hh : A.handled = none) (hx : s.heap.get? x = some o) (hc : o.cls = .ref C) (hd : o.data = .seq items n) (T : TupSub (model prog w) s.heap C) (hn : items.size ≤ 1000) (h0 : 0 < items.size)
    (hQ : ∀ h' tk, (∀ b o, s.heap.get? b = some o → h'.get? b = some o) → Q items.toList { s with heap := h', toks := tk }) : wpAny (model prog w) A (collect (.ref x)) Q E s := by
  have hlt := Heap.lt_size hx
  unfold collect
  refine wpAny_bind (wpAny_runValue (codeAny_builtin PySem.F.entry_proto_collect ?_))
  rw [Around.under_plainId PySem.F.plain_proto_collect _]
  show wpAny _ A.in1 (newList [] >>= fun l => again (.builtin "list.__iadd__" ⟨[l, .ref x], []⟩)) _ _ s
  refine wpAny_bind (wpAny_newObj_type ?_)
  refine wpAny_pure ⟨plainId_quiet PySem.F.plain_list_iadd _, codeAny_builtin PySem.F.entry_list_iadd ?_⟩
  rw [Around.under_plainId PySem.F.plain_list_iadd _]
  show wpAny _ A.in1 (Builtin.List.listExtendWith (.ref s.heap.objs.size) (.ref x) (.ref s.heap.objs.size)) _ _ _
  have up : ∀ (oo : Obj) b o, s.heap.get? b = some o → (s.heap.push oo).get? b = some o := fun oo b o e => Heap.get?_push_of_some _ e
  unfold Builtin.List.listExtendWith
  refine wpAny_bind (typeOf_at (up _ _ _ hx) ?_)
  rw [hc]
  have h1 : Builtin.List.listSameRef (.ref s.heap.objs.size) (.ref x) = false := by
    have : s.heap.objs.size ≠ x := Nat.ne_of_gt hlt
    simp [Builtin.List.listSameRef, this]
  have h2 : (Value.ref C == Value.type "list") = false := rfl
  have h3 : (Value.ref C == Value.type "tuple") = false := rfl
  simp only [h1, h2, h3, Bool.or_false, Bool.false_eq_true, if_false]
  refine wpAny_bind (sub_pyIter (up _ _ _ hx) hc (T.keeps (up _)) ?_)
  refine wpAny_bind (wpAny_holding (sub_hint (Heap.get?_push_of_some _ (up _ _ _ hx)) hc hd ((T.keeps (up _)).keeps fun _ _ e => Heap.get?_push_of_some _ e) hn fun tk => ?_))
  have h4 : ((items.size : Int) != 0) = true := bne_iff_ne.mpr (by omega)
  rw [h4, Bool.true_or, if_pos rfl]
  generalize hH : s.heap.push { cls := .type "list", data := .seq ([] : List Value).toArray } = H1
  have hsz : H1.objs.size = s.heap.objs.size + 1 := by rw [← hH, Heap.size_push]
  have hS₁ : H1.get? s.heap.objs.size = some { cls := .type "list", data := .seq #[] } := by rw [← hH]; exact Heap.get?_push_size _ rfl
  have hx₁ : H1.get? x = some o := by rw [← hH]; exact up _ _ _ hx
  have hold : ∀ b o, s.heap.get? b = some o → H1.get? b = some o := fun b o e => by rw [← hH]; exact up _ _ _ e
  dsimp only
  refine wpAny_bind (wpAny_rule (wpAny_bind ?_))
  have hS₂ : (H1.push { cls := .type "tuple_iterator", data := .fields #[.ref x, .int 0 0] }).get? s.heap.objs.size = some { cls := .type "list", data := .seq #[] } := Heap.get?_push_of_some _ hS₁
  show wpAny _ A.in1 (updateSeq s.heap.objs.size (·.push .none) >>= fun _ => updateSeq s.heap.objs.size (·.pop)) _ _ _
  refine wpAny_bind (wpAny_updateSeq hS₂ rfl ?_)
  have hS₃ := Heap.get?_update_self (Obj.mapSeq (·.push Value.none)) hS₂ rfl
  refine wpAny_updateSeq hS₃ rfl ?_
  have hS₄ := Heap.get?_update_self (Obj.mapSeq (·.pop)) hS₃ rfl
  have oth : ∀ b o, b ≠ s.heap.objs.size → (H1.push { cls := .type "tuple_iterator", data := .fields #[.ref x, .int 0 0] }).get? b = some o →
      (((H1.push { cls := .type "tuple_iterator", data := .fields #[.ref x, .int 0 0] }).update s.heap.objs.size (Obj.mapSeq (·.push Value.none))).update s.heap.objs.size (Obj.mapSeq (·.pop))).get? b = some o :=
    fun b o hb e => (Heap.get?_update_other _ _ (Ne.symm hb)).trans ((Heap.get?_update_other _ _ (Ne.symm hb)).trans e)
  have hne : x ≠ H1.objs.size := by rw [hsz]; exact Nat.ne_of_lt (Nat.lt_succ_of_lt hlt)
  have hSf : s.heap.objs.size ∉ [H1.objs.size, x] := by
    simp only [List.mem_cons, List.not_mem_nil, or_false, not_or]
    exact ⟨by rw [hsz]; exact Nat.ne_of_lt (Nat.lt_succ_self _), Nat.ne_of_gt hlt⟩
  refine wpAny_pure ⟨plainId_quiet PySem.F.plain_extend_loop _, codeAny_extend_loopS (Walks_sub (A := A.in1) hh hne items).toS (Nat.le_trans hn (by decide)) _ hSf _ items.size 0 _ _ _ rfl (Nat.zero_le _)
    ⟨⟨_, oth _ _ (by rw [hsz]; exact Nat.succ_ne_self _) (Heap.get?_push_size _ rfl), rfl, rfl⟩, o, n, oth _ _ (Nat.ne_of_lt hlt) (Heap.get?_push_of_some _ hx₁), hd⟩ hS₄ (ItemsOf.nil _) fun s' acc' c' hm hS' hacc => ?_⟩
  show wpAny _ A (load s.heap.objs.size >>= _) _ _ s'
  refine wpAny_bind (wpAny_load hS' ?_)
  obtain rfl := items_eq hacc
  obtain ⟨h', g', d', t', os'⟩ := s'
  obtain ⟨m1, m2, m3, m4, m5⟩ := hm
  dsimp only at m1 m2 m3 m4
  subst m2 m3 m4
  refine wpAny_pure (hQ h' t' fun b o' e => m1 b o' ?_ (oth b o' (Nat.ne_of_lt (Heap.lt_size e)) (Heap.get?_push_of_some _ (hold _ _ e))))
  have hb := Heap.lt_size e
  simp only [List.mem_cons, List.not_mem_nil, or_false, not_or]
  exact ⟨Nat.ne_of_lt hb, by rw [hsz]; exact Nat.ne_of_lt (Nat.lt_succ_of_lt hb)⟩
end
section
open PySem.Calls
variable {prog : Program} {w : World} {A : Around} {E : Value → Shared → Prop} {s : Shared} {x C dx : Addr} {items : Array Value} {h₀ : Heap} {L : Addr} {m : Str → Option Value} {news : List (Addr × Obj)}
theorem sub_new {Q₁ : Value → Shared → Prop} (hh : A.handled = none) (hx : s.heap.get? x = some (tupObj C dx items)) (T : TupSub (model prog w) s.heap C) (hn : items.size ≤ 1000) (h0 : 0 < items.size)
    (h : ∀ (h' : Heap) (tk : Tok), (∀ b o, s.heap.get? b = some o → h'.get? b = some o) → Q₁ (.ref h'.objs.size) { s with heap := h'.push { cls := .type "tuple", data := .seq items }, toks := tk }) :
    codeAny (model prog w) A (.call (.builtin "tuple.__new__") ⟨[.type "tuple", .ref x], []⟩) (wants Q₁ E) s := by
  refine codeAny_of_tree ?_
  show wpAny _ A.in1 (do checkBuiltinCall "tuple.__new__" ⟨[.type "tuple", .ref x], []⟩; again (.builtin "tuple.__new__" ⟨[.type "tuple", .ref x], []⟩)) _ _ s
  refine wpAny_bind (wpAny_of_eq (PySem.F.newCall_tuple_1 _) (wpAny_pure ⟨plainId_quiet PySem.F.plain_tuple_new _, codeAny_builtin PySem.F.entry_tuple_new ?_⟩))
  rw [Around.under_plainId PySem.F.plain_tuple_new _]
  have hsub := sub_tuple_self
  have hinit := init_tuple_lookup
  have hmh := madeHere_tuple
  have hh' : A.in1.handled = none := hh
  wp_walk using typeOf_at hx, sub_collect (A := A.in1) hh' hx rfl rfl T hn h0
  intro h' tk hk
  show wpAny _ _ (Builtin.Tuple.tupleExact items.toList.toArray >>= fun v => ret v) _ _ _
  unfold Builtin.Tuple.tupleExact
  rw [Array.toArray_toList]
  refine wpAny_bind (wpAny_newObj_type ?_ (Nat.le_trans hn (by decide)))
  exact wpAny_pure (h h' tk hk)
/-- tuple(x) of an object whose class is on top of tuple: a new plain tuple -/
theorem tuple_sub {Q : Value → Shared → Prop} (hh : A.handled = none) (hx : s.heap.get? x = some (tupObj C dx items)) (T : TupSub (model prog w) s.heap C) (hn : items.size ≤ 1000) (h0 : 0 < items.size)
    (h : ∀ (h' : Heap) (tk : Tok), (∀ b o, s.heap.get? b = some o → h'.get? b = some o) → Q (.ref h'.objs.size) { s with heap := h'.push { cls := .type "tuple", data := .seq items }, toks := tk }) :
    wpAny (model prog w) A (call (.type "tuple") [.ref x]) Q E s := by
  refine callType_codes (Q₁ := fun obj s₁ => s₁.TypeIs obj "tuple" ∧ Q obj s₁) PySem.F.called_tuple (PySem.F.typeCall_tuple_1 _) PySem.F.entry_object_init
    (sub_new hh hx T hn h0 fun h' tk hk => ⟨⟨_, Heap.get?_push_size _ rfl, rfl⟩, h h' tk hk⟩) fun obj s₁ h₁ => ?_
  exact ⟨h₁.1, PySem.F.args_object_init_2 obj _, object_init_meets PySem.F.called_tuple.init.lookup PySem.F.called_tuple.made (by decide) prog w A.in1 _ s₁ ⟨h₁.1, rfl, h₁.2⟩⟩
theorem tuple_sub_N {Q : Value → Shared → Prop} (hh : A.handled = none) (F : Fr h₀ L s.heap m) (N : News h₀ L s.heap news) (hm : (x, tupObj C dx items) ∈ news) (T : TupSub (model prog w) s.heap C) (hn : items.size ≤ 1000) (h0 : 0 < items.size)
    (h : ∀ D h' tk, Fr h₀ L h' m → News h₀ L h' ((D, tuplO items 0) :: news) → (∀ p ∈ news, p.1 < D) → Q (.ref D) { s with heap := h', toks := tk }) : wpAny (model prog w) A (call (.type "tuple") [.ref x]) Q E s := by
  refine tuple_sub hh (N _ hm).1 T hn h0 fun h' tk hk => ?_
  have F' := F.keeps hk
  refine h _ _ tk (F'.push _) (fun p hp => ?_) fun p hp => Heap.lt_size (hk _ _ (N p hp).1)
  rcases List.mem_cons.mp hp with rfl | hp
  · exact ⟨Heap.get?_push_size _ rfl, Nat.ne_of_gt F'.ns.lt, next_is_new F'⟩
  · exact ⟨Heap.get?_push_of_some _ (hk _ _ (N p hp).1), (N p hp).2⟩
end
theorem MisAll.get {own : List (Addr × Obj)} {ws : List Value} {rs : List (Nat × Nat × Str)} (h : MisAll own ws rs) : ∀ {k : Nat} {v : Value}, ws[k]? = some v → ∃ X dx t1 t2 t3 r, rs[k]? = some r ∧ v = .ref X ∧ (X, tupObj 281 dx #[.int (r.1 : Nat) t1, .int (r.2.1 : Nat) t2, .str r.2.2 t3]) ∈ own := by
  induction h with
  | nil => intro k v e; simp at e
  | cons hm _ ih =>
    intro k v e
    cases k with
    | zero => cases e; exact ⟨_, _, _, _, _, _, rfl, rfl, hm⟩
    | succ k => exact ih (by simpa using e)
theorem rows_dat {nw : List (Addr × Obj)} {ys : List Value} {rs : List (Nat × Nat × Str)} {n : Nat} (hn : n = rs.length) (hl : ys.length = n) (hy : ∀ i, i < n → ∃ y, ys[i]? = some y ∧ DatIn nw y (rowD (rs.getD i (0, 0, Str.empty)))) : DatAll nw ys (rs.map rowD) := by
  subst hn
  rw [← map_getD rowD (0, 0, Str.empty) rs]
  exact datAll_of (fun i => rowD (rs.getD i (0, 0, Str.empty))) hl hy
theorem rows_kqd {a b : List Str} (ha : ∀ x ∈ a, x ∈ allNames) (hb : ∀ x ∈ b, x ∈ allNames) : ∀ d ∈ (ctdF a b).map rowD, kqdOk 8 d = true := by
  have h := ctd_ok (a := a) (b := b) (l := a ++ b) (fun x hx => (names_strOk x ((List.mem_append.mp hx).elim (ha x) (hb x))).1) (a ++ b).length
  rw [List.take_length] at h
  exact h
theorem count_pick {h₀ h : Heap} {L : Addr} {d r0 rw r1 r2 tb : Addr × Obj} {own own0 : List (Addr × Obj)} (N : News h₀ L h (d :: (own ++ (r0 :: (own0 ++ [rw, r1, r2, tb]))))) : News h₀ L h (d :: rw :: r1 :: r2 :: tb :: (own ++ (r0 :: (own0 ++ [rw, r1, r2, tb])))) := pk N (al (.head _) (al (.tail _ (inr9 (.tail _ (inr9 (.head _))))) (al (.tail _ (inr9 (.tail _ (inr9 (.tail _ (.head _)))))) (al (.tail _ (inr9 (.tail _ (inr9 (.tail _ (.tail _ (.head _))))))) (al (.tail _ (inr9 (.tail _ (inr9 (.tail _ (.tail _ (.tail _ (.head _)))))))) fun p h => .tail _ h)))))
theorem own_mem {p a b c d : Addr × Obj} {own own0 rest : List (Addr × Obj)} (h : p ∈ own0) : p ∈ a :: b :: c :: (own ++ (d :: (own0 ++ rest))) :=
  .tail _ (.tail _ (.tail _ (List.mem_append.mpr (.inr (.tail _ (List.mem_append.mpr (.inl h)))))))
theorem mem4 {p a b c d : Addr × Obj} {r : List (Addr × Obj)} (h : p ∈ [a, b, c, d]) : p ∈ a :: b :: c :: d :: r := inl9 (l := [a, b, c, d]) h
theorem unlike_pick {h₀ h : Heap} {L : Addr} {u x y rw r1 r2 tb : Addr × Obj} (N : News h₀ L h (u :: x :: y :: [rw, r1, r2, tb])) : News h₀ L h [u, rw, r1, r2, tb] := fun p hp => N p (by
  rcases List.mem_cons.mp hp with h | h
  · exact h ▸ .head _
  · exact .tail _ (.tail _ (.tail _ h)))
end
section
section
open PySem.Calls MeetsSeq MeetsSeq2 MeetsSeq3
open AutoSeq1 (wpAny_loadPart')
/-- two lists of texts by < -/
noncomputable def ltF : List Str → List Str → Bool
  | x :: r, y :: t => if x = y then ltF r t else decide (x.cps.toList < y.cps.toList)
  | a, b => decide (a.length < b.length)
noncomputable def gtF : List Str → List Str → Bool
  | x :: r, y :: t => if x = y then gtF r t else decide (y.cps.toList < x.cps.toList)
  | a, b => decide (a.length > b.length)
theorem ltF_end {a b : List Str} {i : Nat} (h : i = a.length) : ltF [] (b.drop i) = decide (a.length < b.length) := by
  have e : ltF [] (b.drop i) = decide (0 < (b.drop i).length) := by cases b.drop i <;> rfl
  rw [e, List.length_drop, h]
  exact decide_eq_decide.mpr Nat.sub_pos_iff_lt
theorem gtF_end {a b : List Str} {i : Nat} (h : i = a.length) (g : i ≤ b.length) : gtF [] (b.drop i) = decide (a.length > b.length) := by
  have e : gtF [] (b.drop i) = decide (0 > (b.drop i).length) := by cases b.drop i <;> rfl
  rw [e, decide_eq_false (Nat.not_lt_zero _), decide_eq_false (Nat.not_lt.mpr (h ▸ g))]
theorem ltF_long {a b : List Str} {x : Str} {r : List Str} (h : b.length < a.length) : ltF (x :: r) [] = decide (a.length < b.length) := (decide_eq_false (Nat.lt_asymm h)).symm
theorem gtF_long {a b : List Str} {x : Str} {r : List Str} (h : b.length < a.length) : gtF (x :: r) [] = decide (a.length > b.length) := (decide_eq_true h).symm
theorem lt_c_loop (l b : Addr) (vs us : List Value) (ss1 ss2 : List Str) (n n2 : Nat) (h1 : StrsAre vs ss1) (h2 : StrsAre us ss2) (k : Nat) :
    ∀ i : Nat, ss1.length - i = k → i ≤ ss1.length → i ≤ ss2.length → Meets (Builtin.«list.__eq__.loop» ⟨[.ref l, .ref b, rawInt i, rawInt 0], []⟩)
      (fun _ R s => s.heap.get? l = some (PySem.W.listOf vs.toArray n) ∧ s.heap.get? b = some (PySem.W.listOf us.toArray n2) ∧ R (.ok (.ret (.bool (ltF (ss1.drop i) (ss2.drop i))))) s) := by
  have e1 := h1.length
  have e2 := h2.length
  induction k with
  | zero =>
    intro i hk hi1 hi2 prog w A R s h
    obtain ⟨hp, g, d, tk, os⟩ := s; obtain ⟨hl, hb, h⟩ := h
    wp_walk using wpAny_loadPart' hl, wpAny_loadPart' hb
    have hi : i = ss1.length := Nat.le_antisymm hi1 (Nat.le_of_sub_eq_zero hk)
    have q1 : vs.toArray[((i : Nat) : Int).toNat]? = none := getNone (Nat.le_of_eq (e1.trans hi.symm))
    rw [q1]
    wp_walk using wpAny_loadPart' hl, wpAny_loadPart' hb
    show R (.ok (.ret (.bool (decide (vs.toArray.size < us.toArray.size))))) _
    rw [List.size_toArray, List.size_toArray, e1, e2]
    have hd : ss1.drop i = [] := List.drop_eq_nil_of_le (Nat.le_of_eq hi.symm)
    rw [hd] at h
    have ef : ltF [] (ss2.drop i) = decide (ss1.length < ss2.length) := ltF_end hi
    rw [← ef]
    exact h
  | succ k ih =>
    intro i hk hi1 hi2 prog w A R s h
    obtain ⟨hp, g, d, tk, os⟩ := s; obtain ⟨hl, hb, h⟩ := h
    wp_walk using wpAny_loadPart' hl, wpAny_loadPart' hb
    have hlt : i < ss1.length := Nat.lt_of_sub_eq_succ hk
    have hlt1 : i < vs.length := Nat.lt_of_lt_of_eq hlt e1.symm
    obtain ⟨x, t, hx, hvx⟩ := strs_at h1 (i := i) (v := vs[i]) (List.getElem?_eq_getElem hlt1)
    have q1 : vs.toArray[((i : Nat) : Int).toNat]? = some (.str x t) := hvx ▸ getSome hlt1
    have hd : ss1.drop i = x :: ss1.drop (i + 1) := drop_x hlt hx
    have hc : ((i : Int) + 1) = ((i + 1 : Nat) : Int) := rfl
    rw [q1]
    by_cases hlt2 : i < ss2.length
    · have hlt3 : i < us.length := Nat.lt_of_lt_of_eq hlt2 e2.symm
      obtain ⟨y, u, hy, hvy⟩ := strs_at h2 (i := i) (v := us[i]) (List.getElem?_eq_getElem hlt3)
      have q2 : us.toArray[((i : Nat) : Int).toNat]? = some (.str y u) := hvy ▸ getSome hlt3
      have hd2 : ss2.drop i = y :: ss2.drop (i + 1) := drop_x hlt2 hy
      rw [q2]
      rw [hd, hd2, ltF] at h
      refine wpAny_bind (wpAny_eqBool_str ?_)
      by_cases he : x = y
      · rw [if_pos he] at h
        rw [decide_eq_true he]
        wp_walk
        rw [hc]
        exact ⟨plainId_quiet plain_eq_loop _, codeAny_builtin entry_eq_loop (by
          rw [Around.under_plainId plain_eq_loop _]
          exact ih (i + 1) (Nat.succ.inj ((sub_one hlt).symm.trans hk)) hlt hlt2 prog w A R _ ⟨hl, hb, h⟩)⟩
      · rw [if_neg he] at h
        rw [decide_eq_false he]
        wp_walk using wpAny_loadPart' hl, wpAny_loadPart' hb
        rw [q1, q2]
        dsimp only
        refine wpAny_bind (PySem.P.lt_str (x := x) (y := y) ?_)
        exact wpAny_pure h
    · have hge := Nat.not_lt.mp hlt2
      have q2 : us.toArray[((i : Nat) : Int).toNat]? = none := getNone (Nat.le_trans (Nat.le_of_eq e2) hge)
      rw [q2]
      wp_walk using wpAny_loadPart' hl, wpAny_loadPart' hb
      show R (.ok (.ret (.bool (decide (vs.toArray.size < us.toArray.size))))) _
      rw [List.size_toArray, List.size_toArray, e1, e2]
      have hd2 : ss2.drop i = [] := List.drop_eq_nil_of_le hge
      rw [hd, hd2] at h
      have ef : ltF (x :: ss1.drop (i + 1)) [] = decide (ss1.length < ss2.length) := ltF_long (Nat.lt_of_le_of_lt hge hlt)
      rw [← ef]
      exact h
theorem lt_c_meets (l b : Addr) (vs us : List Value) (ss1 ss2 : List Str) (n n2 : Nat) (h1 : StrsAre vs ss1) (h2 : StrsAre us ss2) : Meets (Builtin.«list.__lt__» ⟨[.ref l, .ref b], []⟩)
      (fun _ R s => s.heap.get? l = some (PySem.W.listOf vs.toArray n) ∧ s.heap.get? b = some (PySem.W.listOf us.toArray n2) ∧ R (.ok (.ret (.bool (ltF ss1 ss2)))) s) := by
  intro prog w A R s h
  obtain ⟨hp, g, d, tk, os⟩ := s; obtain ⟨hl, hb, h⟩ := h
  have f3 := AutoSeq1.sub_list_list
  wp_walk using wpAny_loadPart' hl, wpAny_loadPart' hb
  exact ⟨plainId_quiet plain_eq_loop _, codeAny_builtin entry_eq_loop (by
    rw [Around.under_plainId plain_eq_loop _]
    exact lt_c_loop l b vs us ss1 ss2 n n2 h1 h2 _ 0 rfl (Nat.zero_le _) (Nat.zero_le _) prog w A R _ ⟨hl, hb, by simpa using h⟩)⟩
theorem lt_c_lists {prog : Program} {w : World} {A : Around} {E : Value → Shared → Prop} {s : Shared} {h₀ : Heap} {L l b : Addr} {news : List (Addr × Obj)} {vs us : List Value} {ss1 ss2 : List Str} {n n2 : Nat} {Q : Value → Shared → Prop} (N : News h₀ L s.heap news) (hm : (l, PySem.W.listOf vs.toArray n) ∈ news) (hb : (b, PySem.W.listOf us.toArray n2) ∈ news) (h1 : StrsAre vs ss1) (h2 : StrsAre us ss2) (hu : A.units < cLine) (h : Q (.bool (ltF ss1 ss2)) s) :
    wpAny (model prog w) A (compareOp .Lt (.ref l) (.ref b)) Q E s := by
  show wpAny _ A (richCompare .Lt _ _) Q E s
  have ha : s.TypeIs (.ref l) "list" := ⟨_, (N _ hm).1, rfl⟩
  have hb' : s.TypeIs (.ref b) "list" := ⟨_, (N _ hb).1, rfl⟩
  exact wpAny_richCompare_same_room ha hb' PySem.F.slot_list_lt (call_meets PySem.F.slot_list_lt ha PySem.F.entry_list_lt (PySem.F.args_list_lt_2 _ _) (lt_c_meets l b vs us ss1 ss2 n n2 h1 h2) ⟨(N _ hm).1, (N _ hb).1, (by intro q; cases q), h⟩) hu
theorem gt_c_loop (l b : Addr) (vs us : List Value) (ss1 ss2 : List Str) (n n2 : Nat) (h1 : StrsAre vs ss1) (h2 : StrsAre us ss2) (k : Nat) :
    ∀ i : Nat, ss1.length - i = k → i ≤ ss1.length → i ≤ ss2.length → Meets (Builtin.«list.__eq__.loop» ⟨[.ref l, .ref b, rawInt i, rawInt 4], []⟩)
      (fun _ R s => s.heap.get? l = some (PySem.W.listOf vs.toArray n) ∧ s.heap.get? b = some (PySem.W.listOf us.toArray n2) ∧ R (.ok (.ret (.bool (gtF (ss1.drop i) (ss2.drop i))))) s) := by
  have e1 := h1.length
  have e2 := h2.length
  induction k with
  | zero =>
    intro i hk hi1 hi2 prog w A R s h
    obtain ⟨hp, g, d, tk, os⟩ := s; obtain ⟨hl, hb, h⟩ := h
    wp_walk using wpAny_loadPart' hl, wpAny_loadPart' hb
    have hi : i = ss1.length := Nat.le_antisymm hi1 (Nat.le_of_sub_eq_zero hk)
    have q1 : vs.toArray[((i : Nat) : Int).toNat]? = none := getNone (Nat.le_of_eq (e1.trans hi.symm))
    rw [q1]
    wp_walk using wpAny_loadPart' hl, wpAny_loadPart' hb
    show R (.ok (.ret (.bool (decide (vs.toArray.size > us.toArray.size))))) _
    rw [List.size_toArray, List.size_toArray, e1, e2]
    have hd : ss1.drop i = [] := List.drop_eq_nil_of_le (Nat.le_of_eq hi.symm)
    rw [hd] at h
    have ef : gtF [] (ss2.drop i) = decide (ss1.length > ss2.length) := gtF_end hi hi2
    rw [← ef]
    exact h
  | succ k ih =>
    intro i hk hi1 hi2 prog w A R s h
    obtain ⟨hp, g, d, tk, os⟩ := s; obtain ⟨hl, hb, h⟩ := h
    wp_walk using wpAny_loadPart' hl, wpAny_loadPart' hb
    have hlt : i < ss1.length := Nat.lt_of_sub_eq_succ hk
    have hlt1 : i < vs.length := Nat.lt_of_lt_of_eq hlt e1.symm
    obtain ⟨x, t, hx, hvx⟩ := strs_at h1 (i := i) (v := vs[i]) (List.getElem?_eq_getElem hlt1)
    have q1 : vs.toArray[((i : Nat) : Int).toNat]? = some (.str x t) := hvx ▸ getSome hlt1
    have hd : ss1.drop i = x :: ss1.drop (i + 1) := drop_x hlt hx
    have hc : ((i : Int) + 1) = ((i + 1 : Nat) : Int) := rfl
    rw [q1]
    by_cases hlt2 : i < ss2.length
    · have hlt3 : i < us.length := Nat.lt_of_lt_of_eq hlt2 e2.symm
      obtain ⟨y, u, hy, hvy⟩ := strs_at h2 (i := i) (v := us[i]) (List.getElem?_eq_getElem hlt3)
      have q2 : us.toArray[((i : Nat) : Int).toNat]? = some (.str y u) := hvy ▸ getSome hlt3
      have hd2 : ss2.drop i = y :: ss2.drop (i + 1) := drop_x hlt2 hy
      rw [q2]
      rw [hd, hd2, gtF] at h
      refine wpAny_bind (wpAny_eqBool_str ?_)
      by_cases he : x = y
      · rw [if_pos he] at h
        rw [decide_eq_true he]
        wp_walk
        rw [hc]
        exact ⟨plainId_quiet plain_eq_loop _, codeAny_builtin entry_eq_loop (by
          rw [Around.under_plainId plain_eq_loop _]
          exact ih (i + 1) (Nat.succ.inj ((sub_one hlt).symm.trans hk)) hlt hlt2 prog w A R _ ⟨hl, hb, h⟩)⟩
      · rw [if_neg he] at h
        rw [decide_eq_false he]
        wp_walk using wpAny_loadPart' hl, wpAny_loadPart' hb
        rw [q1, q2]
        dsimp only
        refine wpAny_bind (PySem.P.gt_str (x := x) (y := y) ?_)
        exact wpAny_pure h
    · have hge := Nat.not_lt.mp hlt2
      have q2 : us.toArray[((i : Nat) : Int).toNat]? = none := getNone (Nat.le_trans (Nat.le_of_eq e2) hge)
      rw [q2]
      wp_walk using wpAny_loadPart' hl, wpAny_loadPart' hb
      show R (.ok (.ret (.bool (decide (vs.toArray.size > us.toArray.size))))) _
      rw [List.size_toArray, List.size_toArray, e1, e2]
      have hd2 : ss2.drop i = [] := List.drop_eq_nil_of_le hge
      rw [hd, hd2] at h
      have ef : gtF (x :: ss1.drop (i + 1)) [] = decide (ss1.length > ss2.length) := gtF_long (Nat.lt_of_le_of_lt hge hlt)
      rw [← ef]
      exact h
theorem gt_c_meets (l b : Addr) (vs us : List Value) (ss1 ss2 : List Str) (n n2 : Nat) (h1 : StrsAre vs ss1) (h2 : StrsAre us ss2) : Meets (Builtin.«list.__gt__» ⟨[.ref l, .ref b], []⟩)
      (fun _ R s => s.heap.get? l = some (PySem.W.listOf vs.toArray n) ∧ s.heap.get? b = some (PySem.W.listOf us.toArray n2) ∧ R (.ok (.ret (.bool (gtF ss1 ss2)))) s) := by
  intro prog w A R s h
  obtain ⟨hp, g, d, tk, os⟩ := s; obtain ⟨hl, hb, h⟩ := h
  have f3 := AutoSeq1.sub_list_list
  wp_walk using wpAny_loadPart' hl, wpAny_loadPart' hb
  exact ⟨plainId_quiet plain_eq_loop _, codeAny_builtin entry_eq_loop (by
    rw [Around.under_plainId plain_eq_loop _]
    exact gt_c_loop l b vs us ss1 ss2 n n2 h1 h2 _ 0 rfl (Nat.zero_le _) (Nat.zero_le _) prog w A R _ ⟨hl, hb, by simpa using h⟩)⟩
theorem gt_c_lists {prog : Program} {w : World} {A : Around} {E : Value → Shared → Prop} {s : Shared} {h₀ : Heap} {L l b : Addr} {news : List (Addr × Obj)} {vs us : List Value} {ss1 ss2 : List Str} {n n2 : Nat} {Q : Value → Shared → Prop} (N : News h₀ L s.heap news) (hm : (l, PySem.W.listOf vs.toArray n) ∈ news) (hb : (b, PySem.W.listOf us.toArray n2) ∈ news) (h1 : StrsAre vs ss1) (h2 : StrsAre us ss2) (hu : A.units < cLine) (h : Q (.bool (gtF ss1 ss2)) s) :
    wpAny (model prog w) A (compareOp .Gt (.ref l) (.ref b)) Q E s := by
  show wpAny _ A (richCompare .Gt _ _) Q E s
  have ha : s.TypeIs (.ref l) "list" := ⟨_, (N _ hm).1, rfl⟩
  have hb' : s.TypeIs (.ref b) "list" := ⟨_, (N _ hb).1, rfl⟩
  exact wpAny_richCompare_same_room ha hb' PySem.F.slot_list_gt (call_meets PySem.F.slot_list_gt ha PySem.F.entry_list_gt (PySem.F.args_list_gt_2 _ _) (gt_c_meets l b vs us ss1 ss2 n n2 h1 h2) ⟨(N _ hm).1, (N _ hb).1, (by intro q; cases q), h⟩) hu
end
end
section
local macro_rules | `(tactic| walk_at "compareOp Gt ref ref") => `(tactic| (refine of_stop ?_))
local macro_rules | `(tactic| walk_at "compareOp Lt ref ref") => `(tactic| (refine of_stop ?_))
set_option maxRecDepth 100000 in
set_option maxHeartbeats 1600000 in
theorem three_c {w : World} {la lb : Addr} {vs us : List Value} {ss1 ss2 : List Str} {n1 n2 : Nat} {news : List (Addr × Obj)} (m1 : (la, listOf vs.toArray n1) ∈ news) (m2 : (lb, listOf us.toArray n2) ∈ news) (hS1 : StrsAre vs ss1) (hS2 : StrsAre us ss2) :
    Con 10 w 210 news [.ref la, .ref lb] (fun k => ∀ t, k (.int (b2i (gtF ss1 ss2) - b2i (ltF ss1 ss2)) t) news) := by
  unfold Con
  intro pp0 loose mean mg mb dp un gd cn cs a ccd cl outer A₀ base h₀ L m s Q E B F X N T hk hd hu hret
  walk1
  k_steps
  unfold Stop
  refine gt_c_lists (by assumption) m1 m2 hS1 hS2 (by ktr_units) ?_
  k_steps
  unfold Stop
  refine lt_c_lists (by assumption) m1 m2 hS1 hS2 (by ktr_units) ?_
  k_steps
  exact hret _ _ _ (by assumption) (by assumption)
end
section
noncomputable def gtI (a b : Str) : Int := if b.cps.toList < a.cps.toList then 1 else -1
noncomputable def unlikeF (a b : List Str) : List Int := ((List.range (min a.length b.length)).filter fun i => a.getD i Str.empty != b.getD i Str.empty).map fun i => gtI (a.getD i Str.empty) (b.getD i Str.empty)
noncomputable def sizeI (a b : List Str) : Int := b2i (decide ((b.length : Int) < a.length)) - b2i (decide ((a.length : Int) < b.length))
theorem gtI_eq {x y : Str} (h : x ≠ y) : gtI x y = b2i (decide (y.cps.toList < x.cps.toList)) - b2i (decide (x.cps.toList < y.cps.toList)) := by
  unfold gtI
  by_cases q : y.cps.toList < x.cps.toList
  · have q2 : ¬ x.cps.toList < y.cps.toList := fun q2 => LtS.irrefl x (LtS.trans (show LtS x y from q2) (show LtS y x from q))
    rw [if_pos q, decide_eq_true q, decide_eq_false q2]; rfl
  · have q2 : x.cps.toList < y.cps.toList := LtS.of_not (show ¬ LtS y x from q) h
    rw [if_neg q, decide_eq_false q, decide_eq_true q2]; rfl
theorem unlike_cons (x y : Str) (r t : List Str) : unlikeF (x :: r) (y :: t) = if x = y then unlikeF r t else gtI x y :: unlikeF r t := by
  unfold unlikeF
  have e : min (x :: r).length (y :: t).length = min r.length t.length + 1 := by simp only [List.length_cons]; omega
  have e2 : ((fun i => (x :: r).getD i Str.empty != (y :: t).getD i Str.empty) ∘ Nat.succ) = fun i => r.getD i Str.empty != t.getD i Str.empty := rfl
  have e3 : ((fun i => gtI ((x :: r).getD i Str.empty) ((y :: t).getD i Str.empty)) ∘ Nat.succ) = fun i => gtI (r.getD i Str.empty) (t.getD i Str.empty) := rfl
  rw [e, List.range_succ_eq_map, List.filter_cons, List.filter_map, e2]
  by_cases h : x = y
  · rw [if_pos h, if_neg (by simp [h]), List.map_map, e3]
  · rw [if_neg h, if_pos (by simpa using h), List.map_cons, List.map_map, e3]
    rfl
theorem unlike_first : ∀ (a b : List Str), ∃ rest, unlikeF a b ++ [sizeI a b] = (b2i (gtF a b) - b2i (ltF a b)) :: rest
  | [], b => ⟨[], by
      have h1 : gtF [] b = decide ((b.length : Int) < ([] : List Str).length) := by cases b <;> simp [gtF] <;> omega
      have h2 : ltF [] b = decide ((([] : List Str).length : Int) < b.length) := by cases b <;> simp [ltF]
      rw [h1, h2]
      simp [unlikeF, sizeI]⟩
  | x :: r, [] => ⟨[], by
      have h1 : gtF (x :: r) [] = decide ((([] : List Str).length : Int) < (x :: r).length) := by simp [gtF] <;> omega
      have h2 : ltF (x :: r) [] = decide (((x :: r).length : Int) < ([] : List Str).length) := by simp [ltF] <;> omega
      rw [h1, h2]
      simp [unlikeF, sizeI]⟩
  | x :: r, y :: t => by
    obtain ⟨rest, ih⟩ := unlike_first r t
    rw [unlike_cons, gtF, ltF]
    by_cases h : x = y
    · have es : sizeI (x :: r) (y :: t) = sizeI r t := by
        unfold sizeI
        have e1 : (((y :: t).length : Int) < (x :: r).length) = ((t.length : Int) < r.length) := by simp
        have e2 : (((x :: r).length : Int) < (y :: t).length) = ((r.length : Int) < t.length) := by simp
        simp only [e1, e2]
      rw [if_pos h, if_pos h, if_pos h, es]
      exact ⟨rest, ih⟩
    · rw [if_neg h, if_neg h, if_neg h, gtI_eq h]
      exact ⟨_, rfl⟩
theorem unlike_value {a b : List Str} {ys : List Value} {n : Nat} (hn : n = min a.length b.length) (h : Paired (fun i y => ∃ t : Tok, y = .int (gtI (a.getD i Str.empty) (b.getD i Str.empty)) t) ((List.range n).filter fun i => a.getD i Str.empty != b.getD i Str.empty) ys) (u : Tok) :
    ∃ t rest, ys ++ [.int (sizeI a b) u] = .int (b2i (gtF a b) - b2i (ltF a b)) t :: rest := by
  subst hn
  obtain ⟨rest, hf⟩ := unlike_first a b
  unfold unlikeF at hf
  generalize ((List.range (min a.length b.length)).filter fun i => a.getD i Str.empty != b.getD i Str.empty) = l at h hf
  cases h with
  | nil =>
    have := (List.cons.inj hf).1
    exact ⟨u, [], by rw [← this]; rfl⟩
  | cons h1 _ =>
    obtain ⟨t, rfl⟩ := h1
    have := (List.cons.inj hf).1
    rw [← this]
    exact ⟨t, _, rfl⟩
end
section
noncomputable def told3 (n : Str) : Str := Str.ofString "257 " ++ Txt.replace n (Str.ofString "\"") (Str.ofString "") ++ Str.ofString " is here"
noncomputable def bareTest (n : Str) : Bool := decide ((Txt.replace n (Str.ofString "\"") (Str.ofString "")).length ≤ 20) && decide ((told3 n).length ≤ 1000) && (Txt.slice (told3 n) none (some 3) == Str.ofString "257") && (parse257F (told3 n) == Str.ofString "")
theorem bare_ok : ∀ n ∈ allNames, bareTest n = true := by decide +kernel
structure Bare (n : Str) : Prop where
  repl : (Txt.replace n (Str.ofString "\"") (Str.ofString "")).length ≤ 20
  len : (told3 n).length ≤ 1000
  head : Txt.slice (told3 n) none (some 3) = Str.ofString "257"
  val : parse257F (told3 n) = Str.ofString ""
theorem bare {n : Str} (h : n ∈ allNames) : Bare n := by
  have h1 := bare_ok n h
  unfold bareTest at h1
  simp only [Bool.and_eq_true, decide_eq_true_eq, beq_iff_eq] at h1
  obtain ⟨⟨⟨a1, a2⟩, a3⟩, a4⟩ := h1
  exact ⟨a1, a2, a3, a4⟩
theorem parse257_t3 {w : World} (n : Str) (tx : Tok) (H : Bare n) (news : List (Addr × Obj)) : Con 5 w 72 news [.str (Str.ofString "257 " ++ Txt.replace n (Str.ofString "\"") (Str.ofString "") ++ Str.ofString " is here") tx] (fun k => ∀ t, k (.str (Str.ofString "") t) news) := by
  have h := parse257_c (w := w) (told3 n) tx H.len H.head news
  rw [H.val] at h
  unfold told3 at h
  exact h
theorem replace_b {prog : Program} {w : World} {A : Around} {E : Value → Shared → Prop} {s : Shared} {n : Str} {t u v : Tok} {Q : Value → Shared → Prop} (H : NameOk n) (B : Bare n) (hu : u ≠ 0) (hv : v ≠ 0) (huv : u ≠ v) (hq : ∀ t' k, (Txt.replace n (Str.ofString "\"") (Str.ofString "")).length ≤ 20 → Q (.str (Txt.replace n (Str.ofString "\"") (Str.ofString "")) t') { s with toks := k }) :
    wpAny (model prog w) A (call (.builtin "str.replace") [.str n t, .str (Str.ofString "\"") u, .str (Str.ofString "") v]) Q E s :=
  SC.replaceW hu hv huv (by decide) (by have := H.isName.size; omega) (by decide) fun t' k => hq t' k B.repl
theorem stop_last {prog : Program} {w : World} {A : Around} {Q : Flow → Shared → Prop} {E : Value → Shared → Prop} {s : Shared} {i : Stmt} {v : Option PySem.Expr} {q : Pos} {env : Env} (h : Stop (wpAny (model prog w) A (execs [i, .Return v q] env) Q E s)) : wpAny (model prog w) A (execs [i, .Return v q] env) Q E s := h
end
section
section
open PySem.Calls
variable {prog : Program} {w : World} {A₀ A : Around} {s : Shared} {base h₀ : Heap} {L : Addr} {m : Str → Option Value} {news : List (Addr × Obj)} {K : Frag} {p : Program} {loose : List Str} {mean : ExcName → Option Value} {mg mb : Str → Option Value}
    {R : Result → Shared → Prop} {name qual : Str} {params : Arguments} {body : List Stmt} {scope : Scope} {dV kV doc pm cdv ct oc : Value} {an od : Option Addr} {osl : Array (Option Value)} {f : Addr} {args : Args} {binds : List (Str × Value)} {env : Env}
/-- a def that catches what deeper frames raise, called from a bottom frame that has cells -/
theorem frP {h₀ h : Heap} {L : Addr} {m : Str → Option Value} (F : Fr h₀ L h m) : Fr h₀ L h m := F
theorem code_defSX (B : Below A₀ base [] h₀) (F : Fr h₀ L s.heap m) (X₀ : K.In h₀) (N : News h₀ L s.heap news) (T : Top p loose mean mg mb h₀) (hA : A.frames = some [env]) (hf : env.frame = some L) (hke : env.scope.kind = .function)
    (ho : K.lookup f = some ⟨oc, od, .func (fnOf name qual params body scope dV kV doc pm an cdv ct), osl⟩) (hcd : codeIn K cdv qual = true) (hroom : A.depth < recursionLimit)
    (hbind : BindsTo s (fnOf name qual params body scope dV kV doc pm an cdv ct) args binds) (hloc : ∀ y ∈ binds, scope.names.lookup y.1 = some .local)
    (h : ∀ g L' h₁, Fr h₀ L g m → Fr g L' h₁ (fun y => binds.reverse.lookup y) → News g L' h₁ news → Below A base [env] g → K.In g → Top p loose mean mg mb g → KtsDicts ([env].filterMap (·.frame)) g →
      wpAny (model prog w) (A.deeper (envOf qual scope L' f cdv)) (execs body (envOf qual scope L' f cdv))
        (fun fl s' => LeaveS0 ([env].filterMap (·.frame)) h₀ L m g R (match fl with | .ret v => v | _ => .none) s')
        (fun e s' => wpAny (model prog w) (A.deeper (envOf qual scope L' f cdv)) (leaving (envOf qual scope L' f cdv) e) (fun _ s'' => R (.error e) s'') (fun e' s'' => R (.error e') s'') s')
        { s with heap := h₁, toks := s.toks + binds.length })
    (hco : scope.isCoroutine = false) (hgen : scope.isGenerator = false) (hk : scope.kind = .function)
    (hcell : ∀ x ∈ scope.names, x.2 ≠ .cell) : codeAny (model prog w) A (.call (.ref f) args) R s := by
  have X := X₀.keeps F.keep
  have hfs : [env].filterMap (·.frame) = [L] := by simp [hf]
  rw [hfs] at h
  obtain ⟨FG, B₂, st, _⟩ := groundX (R := R) B F N hA hf hke
  obtain ⟨oL, es, ep, hLg, hLd, hLk, hLf⟩ := id FG.ns
  have nL₀ : h₀.get? L = none := Heap.get?_none_of_le F.above
  refine codeAny_call_def (fd := fnOf name qual params body scope dV kV doc pm an cdv ct) (body := body) (binds := binds) hroom (X _ _ ho) rfl (T.nolimit.keeps F.keep) (codeRec_of X hcd) rfl hbind hcell hloc (fun h₁ hns hk₁ => ?_) hco hgen hk
  refine wpAny_mono (h _ s.heap.objs.size h₁ FG ⟨hns, fun b o e => hk₁ b o (of_hideAll _ e), Nat.le_of_eq (hideAll_size _ _)⟩
    (fun p hp => ⟨hk₁ _ _ (N p hp).1, Nat.ne_of_lt (Heap.lt_size (N p hp).1), hideAll_none _ (List.mem_map_of_mem hp)⟩) B₂ (X₀.keeps st) (T.keeps st) (fun b hb => ?_)) (fun fl s' hl => ?_) fun _ _ y => y
  · rw [List.mem_singleton.mp hb]
    exact ⟨oL, es, ep, hLg, hLd⟩
  · obtain ⟨g', L', m', news', T', F', N', k⟩ := hl
    obtain ⟨sl, hs⟩ := T'.up hLg
    refine k ⟨⟨_, es, ep, F'.keep _ _ hs, hLd, hLk, hLf⟩, fun b o e => F'.keep b o (T'.other b o (st b o e) (fun q => by
      rw [List.mem_singleton.mp q, nL₀] at e
      cases e)), F.above⟩ fun p hp => ⟨(N' p hp).1, fun q => ?_, ?_⟩
    · have := (N' p hp).2.2
      rw [q, hs] at this
      cases this
    · cases q : h₀.get? p.1 with
      | none => rfl
      | some o =>
        obtain ⟨sl', hs'⟩ := T'.up (st _ _ q)
        have := (N' p hp).2.2
        rw [hs'] at this
        cases this
end
section
open PySem.Calls
variable {M : Model} {A : Around} {E : Value → Shared → Prop} {s' : Shared} {base g g₂ : Heap} {outer : List Env} {L e t : Addr} {m : Str → Option Value} {Q : Unit → Shared → Prop} {news : List (Addr × Obj)} {env : Env}
/-- an exception leaves a frame that has cells -/
theorem leave_onSX {cls : Value} {vs : List Value} (hf : env.frame = some L) (R : RaisedS base g₂ (env :: outer) e cls t vs news s'.heap) (F : Fr g L g₂ m) (K : Below A base outer g) (hsm : g₂.UpToSlots s'.heap)
    (hQ : ∀ h', RaisedS base g outer e cls t vs news h' → RaisedK base outer e cls t vs news h' → g.UpToSlots h' → Q () { s' with heap := h' }) :
    wpAny M (A.deeper env) (leaving env (.ref e)) Q E s' := by
  obtain ⟨⟨B, hB, hBG, hl, hfl, hnew⟩, htup⟩ := R
  refine wpAny_leaves_onW (Around.frames_deeper K.stack) hf hfl fun h' x1 x2 => ?_
  have R : RaisedS base g outer e cls t vs news h' := ⟨⟨B, hB, fun b o q nm => hBG b o (F.keep b o q) (fun hm => by
    rw [List.filterMap_cons, hf] at hm
    rcases List.mem_cons.mp hm with z | z
    · rw [z, Heap.get?_none_of_le F.above] at q
      cases q
    · exact nm z), fun q hq => ⟨(hl q hq).1, kts_none F.keep (hl q hq).2.1, (hl q hq).2.2⟩, x1, hnew⟩, htup.of_slots x2⟩
  exact hQ h' R R.toK ((Heap.UpToSlots.of_keeps F.keep).trans (hsm.trans x2))
end
end
section
section
open PySem.Calls Builtin Builtin.Str Builtin.BaseException Builtin.Exceptions
variable {prog : Program} {w : World} {A : Around} {E : Value → Shared → Prop} {s : Shared} {x t C : Addr} {o ot : Obj} {vs : Array Value} {y : Str} {tk : Tok} {k : Nat}
/-- a class of exceptions that tells its text as BaseException does -/
structure ExcCls (M : Model) (h : Heap) (C : Addr) : Prop where
  str : Looks M h (typeLookup (.ref C) "__str__") (some (.builtin "BaseException.__str__"))
  top : Looks M h (isSubtype (.ref C) (.type "BaseException")) true
theorem excCls {M : Model} {K : Frag} {h : Heap} {C : Addr} (X : K.In h) (e1 : findIn K (.ref C) "__str__" = some (some (.builtin "BaseException.__str__"))) (e2 : mroIn K C (.type "BaseException") = some true) : ExcCls M h C :=
  ⟨looks_findIn X e1, looks_mroIn X e2⟩
/-- an exception with one text -/
structure ExcText (h : Heap) (x C : Addr) (y : Str) (tk : Tok) : Prop where
  is : ∃ o vs t ot k, h.get? x = some o ∧ o.cls = .ref C ∧ o.data = .fields vs ∧ vs[0]? = some (.ref t) ∧ h.get? t = some ot ∧ ot.data = .seq #[.str y tk] k
theorem es_kind : builtinKind "BaseException.__str__" = some .slot := by decide +kernel
theorem es_split : splitId "BaseException.__str__" = some ("BaseException", "__str__") := by decide +kernel
theorem es_plain : plainId "BaseException.__str__" = true := by decide +kernel
theorem es_bind (self : Value) : bindSpecial (.builtin "BaseException.__str__") self = pure (.builtin "BaseException.__str__", [self]) := by
  have f : Slot "Exception" "__str__" "BaseException.__str__" := .of (owner := "BaseException") (n := "__str__") (by rw [typeLookup_type, builtinLookup_eq_fast]; kernel_rfl) (by decide +kernel) (by decide +kernel) (by decide +kernel) (by first | exact .inl (by decide +kernel) | exact .inr (by decide +kernel)) (by rw [isSubtype_type]; kernel_rfl)
  exact f.bind self
theorem exc_str {Q : Value → Shared → Prop} (H : ExcText s.heap x C y tk) (T : ExcCls (model prog w) s.heap C) (q : Q (.str y tk) s) : wpAny (model prog w) A (call (.builtin "BaseException.__str__") [.ref x]) Q E s := by
  obtain ⟨o, vs, t, ot, k, hx, hc, hd, h0, ht, htd⟩ := H.is
  have ha := PySem.F.args_bexc_str (.ref x)
  refine wpAny_call (codeAny_call_builtin es_plain PySem.F.entry_bexc_str ?_)
  simp only [checkBuiltinCall, es_kind, es_split]
  refine wpAny_bind ?_
  unfold isInstance
  refine wpAny_bind (typeOf_at hx ?_)
  rw [hc]
  refine T.top.here ?_
  simp only [Bool.not_true, Bool.false_eq_true, if_false]
  have fin : wpAny (model prog w) A.in1 (Builtin.«BaseException.__str__» ⟨[.ref x], []⟩) (fun fin s' => ∃ v, fin = .done (.ret v) ∧ Q v s') E s := by
    have ba : ∀ {Q : Value × List Value → Shared → Prop}, Q (.ref t, [.str y tk]) s → wpAny (model prog w) A.in1 (bexcArgs (.ref x)) Q E s := by
      intro Q q
      unfold bexcArgs
      exact wpAny_bind (wpAny_field hx hd h0 (wpAny_bind (wpAny_seqItems ht htd (wpAny_pure q))))
    unfold Builtin.«BaseException.__str__»
    repeat (first | with_reducible refine ba ?_ | wp_step)
    exact ⟨_, rfl, q⟩
  have fin2 := wpAny_mono fin (Q' := fun fin s' => match fin with | .done f => wants Q E (.ok f) s' | .again c' => c'.quiet = true ∧ codeAny (model prog w) A c' (wants Q E) s') (fun fin s' h => by obtain ⟨v, rfl, hv⟩ := h; exact hv) (E' := fun e s' => wants Q E (.error e) s') fun _ _ h => h
  cases hsig : Manifest.signature? "BaseException.__str__" with
  | none => exact wpAny_pure fin2
  | some sig =>
    simp only [argsOk, hsig] at ha
    show wpAny _ _ (Bind.checkArgs "BaseException.__str__" sig ⟨[.ref x], []⟩) _ _ s
    rw [ha]
    exact wpAny_pure fin2
theorem exc_strOf {Q : Value → Shared → Prop} (hu : A.units < cLine) (H : ExcText s.heap x C y tk) (T : ExcCls (model prog w) s.heap C) (q : Q (.str y tk) s) : wpAny (model prog w) A (PySem.Builtin.Str.strOf (.ref x)) Q E s := by
  obtain ⟨o, vs, t, ot, k, hx, hc, hd, h0, ht, htd⟩ := H.is
  unfold PySem.Builtin.Str.strOf
  rw [show isExactStr (.ref x) = false from rfl]
  refine wpAny_bind (m := cRoomFor _ _) (wpAny_cRoomFor hu ?_)
  refine wpAny_bind (m := callSpecial? (.ref x) (Str.ofString "__str__")) ?_
  simp only [callSpecial?]
  refine wpAny_bind (special_at hx hc T.str ?_)
  simp only [es_bind]
  refine wpAny_holding (wpAny_bind (wpAny_pure (wpAny_bind (exc_str H T (wpAny_pure ?_)))))
  exact wpAny_pure q
/-- str(x) of such an exception -/
theorem exc_call {Q : Value → Shared → Prop} (hu : A.in1.in1.units < cLine) (H : ExcText s.heap x C y tk) (T : ExcCls (model prog w) s.heap C) (q : Q (.str y tk) s) : wpAny (model prog w) A (call (.type "str") [.ref x]) Q E s := by
  refine callType_codes (T := "str") (Bi := Builtin.«object.__init__») (Q₁ := fun r s₁ => ∃ y u, r = .str y u ∧ Q r s₁) PySem.F.called_str (PySem.F.typeCall_str_1 _) PySem.F.entry_object_init ?_ ?_
  · refine codeAny_of_tree ?_
    show wpAny _ A.in1.in1 (do checkBuiltinCall "str.__new__" ⟨[.type "str", .ref x], []⟩; again (.builtin "str.__new__" ⟨[.type "str", .ref x], []⟩)) _ _ s
    refine wpAny_bind (wpAny_of_eq (PySem.F.newCall_str_1 _) (wpAny_pure ⟨plainId_quiet (by decide +kernel) _, codeAny_builtin PySem.F.entry_str_new ?_⟩))
    rw [Around.under_plainId (by decide +kernel) _, str_new_tree]
    refine wpAny_bind (wpAny_pure (wpAny_bind (wpAny_of_eq isSubtype_str_str ?_)))
    exact wpAny_bind (exc_strOf hu H T (wpAny_pure ⟨_, _, rfl, q⟩))
  · rintro obj s₁ ⟨y, u, rfl, hq⟩
    exact ⟨typeIs_str _ _ _, PySem.F.args_object_init_2 _ _, object_init_meets PySem.F.called_str.init.lookup PySem.F.called_str.made (by decide) prog w A.in1 _ s₁ ⟨typeIs_str _ _ _, rfl, hq⟩⟩
end
theorem str_got {prog : Program} {w : World} {A : Around} {E : Value → Shared → Prop} {s : Shared} {x t C : Addr} {y : Str} {tk : Tok} {g : Heap} {L : Addr} {nw : List (Addr × Obj)} {Q : Value → Shared → Prop} (G : Got nw x t (.ref C) [.str y tk]) (N : News g L s.heap nw) (T : ExcCls (model prog w) s.heap C) (hu : A.in1.in1.units < cLine) (q : Q (.str y tk) s) : wpAny (model prog w) A (call (.type "str") [.ref x]) Q E s := by
  obtain ⟨oe, ot, ws, nt, h1, h2, c1, d1, z, c2, d2⟩ := G
  exact exc_call hu ⟨⟨oe, ws, t, ot, nt, (N _ h1).1, c1, d1, z, (N _ h2).1, d2⟩⟩ T q
end
section
section
open PySem.Calls
variable {M : Model} {A : Around} {E : Value → Shared → Prop} {s : Shared} {h₀ : Heap} {L c P : Addr} {m mg mb : Str → Option Value} {news : List (Addr × Obj)} {g : Obj → List (Addr × Obj)}
  {p : Program} {loose : List Str} {mean : ExcName → Option Value} {name qual : Str} {params : Arguments} {body : PySem.Expr} {scope : Scope} {ps : Array Value} {pos : Pos} {firstLine : Nat} {clos : List (Str × Addr)} {env : Env}
theorem built_at (F : Fr h₀ L s.heap m) (hP : s.heap.get? P = some (tabObj ps)) (T : Top p loose mean mg mb h₀) : mainGlobals ≠ P ∧ s.heap.BuiltinsAt mg P := by
  have hgs := T.g.keeps F.keep
  refine (let G9 : Prop := _; show G9 from ?_)
  obtain ⟨bm, ob, b1, b2, b3, b4, b5, b6⟩ := T.bmain
  k_unfold
  refine ⟨fun q => ?_, bm, ob, b1, b2, fun q => ?_, fun q => ?_, F.keep _ _ b3, b4, b5, b6⟩
  · refine (let G9 : Prop := _; show G9 from ?_)
    obtain ⟨o, es, ep, e, hd, _⟩ := hgs
    k_unfold
    rw [q, hP] at e; cases e; cases hd
  · refine (let G9 : Prop := _; show G9 from ?_)
    obtain ⟨o, es, ep, e, hd, _⟩ := T.g
    k_unfold
    rw [q, e] at b3; cases b3; rw [hd] at b6; cases b6
  · have e := F.keep _ _ b3
    rw [q, hP] at e; cases e; cases b4
/-- a lambda made in any frame of the module -/
theorem lam_new {Q : Value → Shared → Prop} (F : Fr h₀ L s.heap m) (N : News h₀ L s.heap ((P, tabObj ps) :: news)) (hne : ∀ q ∈ news, q.1 ≠ P) (T : Top p loose mean mg mb h₀) (C : CodeHd h₀ c P) (hge : env.globals = mainGlobals) (hcd : env.code = .ref c) (ht : TriplesOk ps.toList) (hnf : codeAmong pos ps.toList = none)
    (hcl : closureFor scope env = pure clos) (hdef : defaultsOf params env = ([], []))
    (h : ∀ f c' oc vs t ctv h' tk, Fr h₀ L h' m → News h₀ L h' ((f, kla_obj "<lambda>" (env.qual ++ "<lambda>") params body scope clos ((mg "__name__").getD .none) c' ctv) :: (c', oc) :: (P, tabObj (ps ++ #[rawInt pos.line, rawInt pos.col, .ref c'])) :: news) →
      oc.data = .fields vs → vs[1]? = some (.str (env.qual ++ "<lambda>") t) → (∀ q ∈ (P, tabObj ps) :: news, q.1 < c') → c' < f → Q (.ref f) { s with heap := h', toks := tk }) :
    wpAny M A (eval (.Lambda params body scope pos) env) Q E s := by
  refine kla_eval hdef ?_
  have hm := N (P, tabObj ps) (.head _)
  obtain ⟨hgP, hb⟩ := built_at F hm.1 T
  refine kla_makeFunction (mg := mg) hcl hge (T.g.keeps F.keep) hcd (C.keeps F.keep) hm.1 ht hnf hgP hb fun c' ctv h' tk hx hge' hlt hrec htb => ?_
  refine (let G9 : Prop := _; show G9 from ?_)
  obtain ⟨c₂, oc, vs, t, e2, hoc, hd, hv⟩ := hrec
  k_unfold
  cases e2
  have hLc : L < c' := Nat.lt_of_lt_of_le F.ns.lt hge'
  have old : ∀ b o, h₀.get? b = some o → h'.get? b = some o := fun b o e => hx b o (fun q => by rw [q, hm.2.2] at e; cases e) (F.keep b o e)
  have fresh : ∀ b, L < b → h₀.get? b = none := fun b hb => Heap.get?_none_of_le (Nat.le_trans F.above (Nat.le_of_lt hb))
  refine h h'.objs.size c' oc vs t ctv _ tk ⟨(F.ns.extBut hx hm.2.1.symm).push _, fun b o e => Heap.get?_push_of_some _ (old b o e), F.above⟩ (fun q hq => ?_) hd hv (fun q hq => Nat.lt_of_lt_of_le (Heap.lt_size (N q hq).1) hge') hlt
  rcases List.mem_cons.mp hq with rfl | hq
  · exact ⟨Heap.get?_push_size _ rfl, Nat.ne_of_gt (Nat.lt_trans hLc hlt), fresh _ (Nat.lt_trans hLc hlt)⟩
  rcases List.mem_cons.mp hq with rfl | hq
  · exact ⟨Heap.get?_push_of_some _ hoc, Nat.ne_of_gt hLc, fresh _ hLc⟩
  rcases List.mem_cons.mp hq with rfl | hq
  · exact ⟨Heap.get?_push_of_some _ htb, hm.2⟩
  · have n := N q (.tail _ hq)
    exact ⟨Heap.get?_push_of_some _ (hx _ _ (hne q hq) n.1), n.2⟩
theorem lam_hit {Q : Value → Shared → Prop} {c' : Addr} (F : Fr h₀ L s.heap m) (N : News h₀ L s.heap news) (hmem : (P, tabObj ps) ∈ news) (T : Top p loose mean mg mb h₀) (C : CodeHd h₀ c P) (hge : env.globals = mainGlobals) (hcd : env.code = .ref c) (ht : TriplesOk ps.toList) (hf : codeAmong pos ps.toList = some (.ref c'))
    (hcl : closureFor scope env = pure clos) (hdef : defaultsOf params env = ([], []))
    (h : ∀ f ctv h' tk, Fr h₀ L h' m → News h₀ L h' ((f, kla_obj "<lambda>" (env.qual ++ "<lambda>") params body scope clos ((mg "__name__").getD .none) c' ctv) :: news) → (∀ q ∈ news, q.1 < f) → Q (.ref f) { s with heap := h', toks := tk }) :
    wpAny M A (eval (.Lambda params body scope pos) env) Q E s := by
  refine kla_eval hdef ?_
  have hm := N (P, tabObj ps) hmem
  obtain ⟨_, hb⟩ := built_at F hm.1 T
  refine kla_makeFunctionHit (mg := mg) hcl hge (T.g.keeps F.keep) hcd (C.keeps F.keep) hm.1 ht hf hb fun ctv h' tk hk hsz => ?_
  have hLs : L < h'.objs.size := Nat.lt_of_lt_of_le F.ns.lt hsz
  refine h h'.objs.size ctv _ tk ⟨(F.ns.keeps hk).push _, fun b o e => Heap.get?_push_of_some _ (hk b o (F.keep b o e)), F.above⟩ (fun q hq => ?_) (fun q hq => Nat.lt_of_lt_of_le (Heap.lt_size (N q hq).1) hsz)
  rcases List.mem_cons.mp hq with rfl | hq
  · exact ⟨Heap.get?_push_size _ rfl, Nat.ne_of_gt hLs, Heap.get?_none_of_le (Nat.le_trans F.above (Nat.le_of_lt hLs))⟩
  · exact ⟨Heap.get?_push_of_some _ (hk _ _ (N q hq).1), (N q hq).2⟩
end
section
open PySem.Calls PyProof.Rows.LCg
variable {prog : Program} {w : World} {A : Around} {E : Value → Shared → Prop} {s : Shared} {h₀ : Heap} {L : Addr} {m : Str → Option Value} {env : Env}
noncomputable abbrev nsObj : Obj := { cls := .type "dict", dict := none, data := .dict #[] }
/-- the end of a turn of a comprehension whose name is a cell -/
inductive EndC (h₀ : Heap) (L : Addr) (m : Str → Option Value) (s : Shared) (I : Addr) (oI : Obj) (C c : Addr) (oc : Obj) (D : Addr) (ys : List Value) (ax : Addr) (its : List Value) (k : Nat) (rest : Value → List (Addr × Obj) → Prop) (y : Value) (s₂ : Shared) : Prop
  | mk (h' : Heap) (tk' : Nat) (news' : List (Addr × Obj)) : (s₂ = { s with heap := h', toks := tk' }) → (Fr h₀ L h' m) → (News h₀ L h' ((I, oI) :: (C, nsObj) :: (c, oc) :: (D, lst ys) :: news')) → ((∀ p ∈ news', p.1 ≠ I ∧ p.1 ≠ C ∧ p.1 ≠ c ∧ p.1 ≠ D)) → ((ax, listOf its.toArray k) ∈ news') → (rest y news') → EndC h₀ L m s I oI C c oc D ys ax its k rest y s₂
theorem EndC.intro {I C c D ax : Addr} {oI oc : Obj} {ys its : List Value} {k tk : Nat} {rest : Value → List (Addr × Obj) → Prop} {y : Value} {h' : Heap} {all : List (Addr × Obj)} (F : Fr h₀ L h' m) (N : News h₀ L h' all) (news' : List (Addr × Obj)) (sub : ∀ p ∈ (I, oI) :: (C, nsObj) :: (c, oc) :: (D, lst ys) :: news', p ∈ all) (off : ∀ p ∈ news', p.1 ≠ I ∧ p.1 ≠ C ∧ p.1 ≠ c ∧ p.1 ≠ D) (hax : (ax, listOf its.toArray k) ∈ news') (r : rest y news') :
    EndC h₀ L m s I oI C c oc D ys ax its k rest y { s with heap := h', toks := tk } := ⟨h', tk, news', rfl, F, fun p hp => N p (sub p hp), off, hax, r⟩
/-- the rest of a comprehension whose name is a cell -/
noncomputable def RestC (prog : Program) (w : World) (A : Around) (h₀ : Heap) (L : Addr) (m : Str → Option Value) (env : Env) (elt : PySem.Expr) (x : Str) (scope : Scope) (s : Shared) (ax : Addr) (its : List Value) (k : Nat) (Fin : List Value → List (Addr × Obj) → Prop) : Nat → Nat → List Value → List (Addr × Obj) → Prop
  | 0, _, ys, news => Fin ys news
  | j + 1, i, ys, news => ∀ v I oI C c oc D h tk (E' : Value → Shared → Prop), its[i]? = some v → oc.data = .cell (some v) → Fr h₀ L h m → News h₀ L h ((I, oI) :: (C, nsObj) :: (c, oc) :: (D, lst ys) :: news) → (∀ p ∈ news, p.1 ≠ I ∧ p.1 ≠ C ∧ p.1 ≠ c ∧ p.1 ≠ D) → ((@Ne Nat I C) ∧ (@Ne Nat I c) ∧ (@Ne Nat I D) ∧ (@Ne Nat C c) ∧ (@Ne Nat C D) ∧ (@Ne Nat c D)) →
      wpAny (model prog w) A (eval elt (compEnvC scope [(x, c)] C env)) (EndC h₀ L m s I oI C c oc D ys ax its k fun y news' => RestC prog w A h₀ L m env elt x scope s ax its k Fin j (i + 1) (ys ++ [y]) news') E' { s with heap := h, toks := tk }
inductive SrcCell (prog : Program) (w : World) (A : Around) (h₀ : Heap) (L : Addr) (m : Str → Option Value) (env : Env) (elt : PySem.Expr) (x : Str) (scope : Scope) (Q : Value → Shared → Prop) (xv : Value) (s₁ : Shared) : Prop
  | mk (ax : Addr) (its : List Value) (k : Nat) (news : List (Addr × Obj)) : (xv = .ref ax) → (Fr h₀ L s₁.heap m) → (News h₀ L s₁.heap news) → ((ax, listOf (List.toArray its) k) ∈ news) → (its.length ≤ 1000) → (∀ g, RestC prog w A h₀ L m env elt x scope { s₁ with heap := g } ax its k (fun ys nw => ∀ D h' tk, Fr h₀ L h' m → News h₀ L h' ((D, lst ys) :: nw) → (∀ p ∈ nw, p.1 ≠ D) → Q (.ref D) { s₁ with heap := h', toks := tk }) its.length 0 [] news) → SrcCell prog w A h₀ L m env elt x scope Q xv s₁
/-- before a turn of a comprehension whose name is a cell -/
inductive CellS (prog : Program) (w : World) (A : Around) (h₀ : Heap) (L : Addr) (m : Str → Option Value) (env : Env) (elt : PySem.Expr) (x : Str) (scope : Scope) (s₁ : Shared) (I ax : Addr) (its : List Value) (k : Nat) (Fin : List Value → List (Addr × Obj) → Prop) (kk : Nat) (s' : Shared) : Prop
  | mk (h' : Heap) (tk i : Nat) (ys : List Value) (oc : Obj) (vo : Option Value) (news' : List (Addr × Obj)) : s' = { s₁ with heap := h', toks := tk } → i ≤ its.length → kk = its.length + 1 - i → ys.length = i → h'.IsListIter I ax i → Fr h₀ L h' m →
      News h₀ L h' ((I + 2, nsObj) :: (I + 3, oc) :: (I + 1, lst ys) :: news') → oc.data = .cell vo → (∀ p ∈ news', p.1 ≠ I ∧ p.1 ≠ I + 2 ∧ p.1 ≠ I + 3 ∧ p.1 ≠ I + 1) → (ax, listOf its.toArray k) ∈ news' → RestC prog w A h₀ L m env elt x scope { s₁ with heap := s₁.heap } ax its k Fin (its.length - i) i ys news' → CellS prog w A h₀ L m env elt x scope s₁ I ax its k Fin kk s'
/-- the turns of a comprehension without a test -/
theorem loop_0 {elt target iter : PySem.Expr} {scope : Scope} {pos : Pos} {it acc : Value} {env : Env} {R : Result → Shared → Prop} (I : Nat → Shared → Prop)
    (turn : ∀ n s, I n s → ∀ E₀ E₁ E₂ E₃ : Value → Shared → Prop, wpAny (model prog w) A (pyNext it) (fun r s₁ => match r with
      | none => R (.ok .next) s₁
      | some v => wpAny (model prog w) A (assign target env v) (fun _ s₂ => wpAny (model prog w) A (eval elt env) (fun x s₄ => wpAny (model prog w) A (call (.builtin "list.append") [acc, x]) (fun _ s₅ => ∃ m, m < n ∧ I m s₅) E₃ s₄) E₂ s₂) E₁ s₁) E₀ s)
    (n : Nat) (h : I n s) (ht : ∀ v, letOwnedTupleGo target it v = pure () := by intro _; rfl) : codeAny (model prog w) A (.compLoop (.ListComp elt [⟨target, iter, [], 0⟩] scope pos) 0 it acc env) R s :=
  codeAny_compLoop_tests I (fun n s hI => wpAny_mono (turn n s hI _ _ _ _) (fun r s₁ h₁ => by
    cases r with
    | none => exact h₁
    | some v => exact wpAny_mono h₁ (fun _ s₂ h₂ => wpAny_tests_nil (by rw [if_pos rfl]; exact h₂)) fun _ _ e => e) fun _ _ e => e) n h ht
/-- the frame of a comprehension whose name is a cell -/
theorem newEnv_cell {M : Model} {scope : Scope} {x : Str} {g : Addr} {qual : Str} {func : Option Addr} {code : Value} {ar : Env} {b : Addr} {Q : Env → Shared → Prop}
    (hcells : ∀ c, cellsFrom c scope.names [] = [(x, c)]) (hpush : ∀ h, pushCells h scope.names = h.push { cls := .type "cell", data := .cell none })
    (h : Q { scope, locals := s.heap.objs.size, globals := g, cells := [(x, (s.heap.push nsObj).objs.size)], qual, func, code := ar.code, frame := ar.frame, builtins := ar.builtins } { s with heap := (s.heap.push nsObj).push { cls := .type "cell", data := .cell none } }) :
    wpAny M A (newFunctionEnv scope g [] [] qual func code (some ar) b) Q E s := by
  unfold newFunctionEnv
  refine wpAny_bind (wpAny_alloc ?_)
  refine wpAny_bind (wpAny_layCells _ (fun name kind cells => by cases hkc : kind == NameKind.cell <;> simp [hkc]) _ _ _ _ ?_)
  rw [hcells, hpush]
  exact wpAny_bind (wpAny_pure (wpAny_pure h))
/-- four new objects on top -/
theorem push4 {h H : Heap} {I : Nat} {o0 o1 o2 o3 : Obj} (hI : h.objs.size = I) (e : (((h.push o0).push o1).push o2).push o3 = H) (f0 : o0.isFreed = false) (f1 : o1.isFreed = false) (f2 : o2.isFreed = false) (f3 : o3.isFreed = false) :
    (∀ b o, h.get? b = some o → H.get? b = some o) ∧ H.get? I = some o0 ∧ H.get? (I + 1) = some o1 ∧ H.get? (I + 2) = some o2 ∧ H.get? (I + 3) = some o3 := by
  have z1 : (h.push o0).objs.size = I + 1 := by rw [Heap.size_push, hI]
  have z2 : ((h.push o0).push o1).objs.size = I + 2 := by rw [Heap.size_push, z1]
  have z3 : (((h.push o0).push o1).push o2).objs.size = I + 3 := by rw [Heap.size_push, z2]
  have up : ∀ b o, (((h.push o0).push o1).push o2).get? b = some o → H.get? b = some o := fun b o q => e ▸ Heap.get?_push_of_some _ q
  refine ⟨fun b o q => up b o (Heap.get?_push_of_some _ (Heap.get?_push_of_some _ (Heap.get?_push_of_some _ q))), up _ _ (Heap.get?_push_of_some _ (Heap.get?_push_of_some _ (hI ▸ Heap.get?_push_size _ f0))),
    up _ _ (Heap.get?_push_of_some _ (z1 ▸ Heap.get?_push_size _ f1)), up _ _ (z2 ▸ Heap.get?_push_size _ f2), e ▸ z3 ▸ Heap.get?_push_size _ f3⟩
theorem start_cell {env₀ : Env} {scope : Scope} {x : Str} {g : Addr} {qual : Str} {func : Option Addr} {code : Value} {b ax : Addr} {items : Array Value} {newAcc : Sem Value} {Z : Value → Value → Env → Shared → Prop} {E₁ E₂ E₃ : Value → Shared → Prop} (hl : s.heap.IsList ax items)
    (hcells : ∀ c, cellsFrom c scope.names [] = [(x, c)]) (hpush : ∀ h, pushCells h scope.names = h.push { cls := .type "cell", data := .cell none })
    (hacc : ∀ (s : Shared) (Q : Value → Shared → Prop) (E : Value → Shared → Prop), Q (.ref s.heap.objs.size) { s with heap := s.heap.push (lst []) } → wpAny (model prog w) A newAcc Q E s)
    (h : ∀ H : Heap, (∀ b o, s.heap.get? b = some o → H.get? b = some o) → H.get? s.heap.objs.size = some { cls := .type "list_iterator", data := .fields #[.ref ax, .int 0 0] } → H.get? (s.heap.objs.size + 1) = some (lst []) → H.get? (s.heap.objs.size + 2) = some nsObj → H.get? (s.heap.objs.size + 3) = some { cls := .type "cell", data := .cell none } →
      Z (.ref s.heap.objs.size) (.ref (s.heap.objs.size + 1)) { scope, locals := s.heap.objs.size + 2, globals := g, cells := [(x, s.heap.objs.size + 3)], qual, func, code := env₀.code, frame := env₀.frame, builtins := env₀.builtins } { s with heap := H }) :
    wpAny (model prog w) A (pyIter (.ref ax)) (fun it s₂ => wpAny (model prog w) A newAcc (fun acc s₃ => wpAny (model prog w) A (newFunctionEnv scope g [] [] qual func code (some env₀) b) (fun cenv s₄ => Z it acc cenv s₄) E₃ s₃) E₂ s₂) E₁ s := by
  refine wpAny_pyIter_list hl (hacc _ _ _ (newEnv_cell hcells hpush ?_))
  have p4 := push4 (o0 := { cls := .type "list_iterator", data := .fields #[.ref ax, .int 0 0] }) (o1 := lst []) (o2 := nsObj) (o3 := { cls := .type "cell", data := .cell none }) (h := s.heap) rfl rfl rfl rfl rfl rfl
  have h := h _ p4.1 p4.2.1 p4.2.2.1 p4.2.2.2.1 p4.2.2.2.2
  have z1 : ∀ o0, (s.heap.push o0).objs.size = s.heap.objs.size + 1 := fun o => Heap.size_push ..
  have z2 : ∀ o0 o1, ((s.heap.push o0).push o1).objs.size = s.heap.objs.size + 2 := fun o0 o1 => by rw [Heap.size_push, z1]
  have z3 : ∀ o0 o1 o2, (((s.heap.push o0).push o1).push o2).objs.size = s.heap.objs.size + 3 := fun o0 o1 o2 => by rw [Heap.size_push, z2]
  rw [← z1 { cls := .type "list_iterator", data := .fields #[.ref ax, .int 0 0] }, ← z2 { cls := .type "list_iterator", data := .fields #[.ref ax, .int 0 0] } (lst []), ← z3 { cls := .type "list_iterator", data := .fields #[.ref ax, .int 0 0] } (lst []) nsObj] at h
  exact h
theorem start_loop {elt target iter : PySem.Expr} {ifs : List PySem.Expr} {scope : Scope} {pos : Pos} {I : Addr} {acc : Value} {env : Env} {R : Result → Shared → Prop} {fp wr : List Addr} {n : Nat} {P : Nat → Value → Prop} {St : Nat → Heap → Prop} (W : Walks prog w A I fp wr n P St) (st : St 0 s.heap)
    (h : codeAny (model prog w) A (.compLoop (.ListComp elt [⟨target, iter, ifs, 0⟩] scope pos) 0 (.ref I) acc env) R s) :
    codeAny (model prog w) A (.compStart (.ListComp elt [⟨target, iter, ifs, 0⟩] scope pos) 0 (.ref I) acc env) R s := codeAny_compStart_list h (W.self 0 _ _ _ st h)
theorem lt_ne4 {a b : Nat} (h : a < b) : (@Ne Nat a b) ∧ (@Ne Nat a (b + 2)) ∧ (@Ne Nat a (b + 3)) ∧ (@Ne Nat a (b + 1)) := ⟨by omega, by omega, by omega, by omega⟩
theorem cell_loop {elt iter : PySem.Expr} {x : Str} {px : Pos} {scope : Scope} {pos : Pos} {R : Result → Shared → Prop} {s₁ : Shared} {I : Nat} {ax : Addr} {its : List Value} {k : Nat} {Fin : List Value → List (Addr × Obj) → Prop} (hA : A.handled = none) (hkind : scope.kind = .function)
    (hxk : ∀ c C, (compEnvC scope [(x, c)] C env).kindOf x = some .cell) (fr : ∀ b : Nat, I ≤ b → b ≠ L ∧ h₀.get? b = none) (hne : @Ne Nat ax I) (hsz : its.length ≤ 1000)
    (hR : ∀ h' tk ys news', Fr h₀ L h' m → News h₀ L h' ((I + 2, nsObj) :: (I + 1, lst ys) :: news') → (∀ p ∈ news', p.1 ≠ I ∧ p.1 ≠ I + 2 ∧ p.1 ≠ I + 3 ∧ p.1 ≠ I + 1) → Fin ys news' → R (.ok .next) { s₁ with heap := h', toks := tk })
    (n : Nat) (st : CellS prog w A h₀ L m env elt x scope s₁ I ax its k Fin n s) :
    codeAny (model prog w) A (.compLoop (.ListComp elt [⟨.Name x px, iter, [], 0⟩] scope pos) 0 (.ref I) (.ref (I + 1)) (compEnvC scope [(x, I + 3)] (I + 2) env)) R s := by
  refine loop_0 (CellS prog w A h₀ L m env elt x scope s₁ I ax its k Fin) (fun kk s' hJ1 E₀ E₁ E₂ E₃ => ?_) n st
  have q := ne4 I
  refine (let G9 : Prop := _; show G9 from ?_)
  obtain ⟨h', tk, i, ys, oc, vo, news', rfl, hi, rfl, hyl, hit, F', N', hoc, off', hax', R'⟩ := hJ1
  k_unfold
  have hl' : h'.IsList ax its.toArray := ⟨_, (N' _ (.tail _ (.tail _ (.tail _ hax')))).1, rfl, _, rfl⟩
  have W := Walks.list (prog := prog) (w := w) hA I ax hne its.toArray
  have F2 : ∀ {h₂ : Heap}, (∀ b o, b ∉ [I] → h'.get? b = some o → h₂.get? b = some o) → Fr h₀ L h₂ m := fun hk => fr_but F' hk (Ne.symm (fr I (Nat.le_refl _)).1) (fr I (Nat.le_refl _)).2
  have N2 : ∀ {h₂ : Heap}, (∀ b o, b ∉ [I] → h'.get? b = some o → h₂.get? b = some o) → News h₀ L h₂ ((I + 2, nsObj) :: (I + 3, oc) :: (I + 1, lst ys) :: news') := fun hk =>
    news_but N' hk (al (Ne.symm q.1) (al (Ne.symm q.2.1) (al (Ne.symm q.2.2.1) fun p hp => (off' p hp).1)))
  by_cases hlt' : i < its.length
  · obtain ⟨j, hj⟩ : ∃ j, its.length - i = j + 1 := ⟨its.length - (i + 1), sub_one hlt'⟩
    have hj' : its.length - (i + 1) = j := Nat.succ.inj ((sub_one hlt').symm.trans hj)
    rw [hj] at R'
    refine W.item i _ _ _ (by rw [List.size_toArray]; exact hlt') ⟨hit, hl'⟩ fun v h₂ tk₂ hPv hst₂ hk₂ => ?_
    have N₂ := N2 hk₂
    refine wpAny_assign_Name (wpAny_storeName_cell (env := compEnvC scope [(x, I + 3)] (I + 2) env) hkind (hxk _ _) (List.lookup_cons_self ..) ⟨oc, nwh (nwt N₂), hoc⟩ (fun h₃ hc₃ hs₃ => ?_))
    refine (let G9 : Prop := _; show G9 from ?_)
    obtain ⟨oc', hc₃, hcd₃⟩ := hc₃
    obtain ⟨oI, heI, hIc, hId⟩ := hst₂.1
    k_unfold
    have F₃ : Fr h₀ L h₃ m := (F2 hk₂).change hs₃ (fr _ (Nat.le_add_right ..)).1 (fr _ (Nat.le_add_right ..)).2
    have N₃ : News h₀ L h₃ ((I, oI) :: (I + 2, nsObj) :: (I + 3, oc') :: (I + 1, lst ys) :: news') :=
      nwc (hs₃.extBut _ _ q.2.1 heI) (fr _ (Nat.le_refl _)) (N₂.setSecond q.2.2.2.1 (al (Ne.symm q.2.2.2.2.2) fun p hp => (off' p hp).2.2.1) hs₃ hc₃)
    refine wpAny_mono (R' v I oI (I + 2) (I + 3) oc' (I + 1) h₃ tk₂ _ (by rw [← List.getElem?_toArray]; exact hPv) hcd₃ F₃ N₃ off' q) (fun y s₄ h₄ => ?_) fun _ _ e => e
    refine (let G9 : Prop := _; show G9 from ?_)
    obtain ⟨h₄, tk₄, news₄, rfl, F₄, N₄, off₄, hax₄, R₄⟩ := h₄
    k_unfold
    refine append_at (hsz := line1000 (Nat.le_trans (hyl ▸ hi : ys.length ≤ its.length) hsz)) (nwh (nwt (nwt (nwt N₄)))) fun h₅ hs₅ hD₅ => ?_
    have N₅ := nwt (N₄.setAt (own := [(I, oI), (I + 2, nsObj), (I + 3, oc')]) (al q.2.2.1 (al q.2.2.2.2.1 (al q.2.2.2.2.2 al0))) (fun p hp => (off₄ p hp).2.2.2) hs₅ (hD₅.trans (congrArg some (lst_snoc ys y))))
    exact ⟨its.length + 1 - (i + 1), turn_lt hlt', h₅, tk₄, i + 1, ys ++ [y], oc', some v, news₄, rfl, hlt', rfl, by rw [List.length_append, hyl]; rfl, ⟨oI, hs₅.extBut _ _ q.2.2.1 (nwh N₄), hIc, hId⟩,
      F₄.change hs₅ (fr _ (Nat.le_add_right ..)).1 (fr _ (Nat.le_add_right ..)).2, N₅, hcd₃, off₄, hax₄, hj' ▸ R₄⟩
  · obtain rfl : i = its.length := Nat.le_antisymm hi (Nat.not_lt.mp hlt')
    rw [Nat.sub_self] at R'
    refine W.done _ _ _ (by rw [List.size_toArray]; exact ⟨hit, hl'⟩) fun h₂ tk₂ hk₂ => ?_
    have N₂ := N2 hk₂
    exact hR h₂ tk₂ ys news' (F2 hk₂) (nwc (nwh N₂) (fr _ (Nat.le_add_right ..)) (nwt (nwt N₂))) off' R'
theorem ListComp_cell {elt iter : PySem.Expr} {x : Str} {px : Pos} {scope : Scope} {pos : Pos} {Q : Value → Shared → Prop} (hA : A.handled = none)
    (hclos : closureFor scope env = pure []) (hkind : scope.kind = .function) (hnames : ∀ y ∈ scope.names, y.2 = .local → scope.names.lookup y.1 = some .local)
    (hcells : ∀ c, cellsFrom c scope.names [] = [(x, c)]) (hpush : ∀ h, pushCells h scope.names = h.push { cls := .type "cell", data := .cell none }) (hxk : ∀ c C, (compEnvC scope [(x, c)] C env).kindOf x = some .cell)
    (h : wpAny (model prog w) A (eval iter env) (SrcCell prog w A h₀ L m env elt x scope Q) E s)
    (hs : ∀ x, foldedSetIterable iter env x = pure x := by intro _; rfl) :
    wpAny (model prog w) A (eval (.ListComp elt [⟨.Name x px, iter, [], 0⟩] scope pos) env) Q E s := by
  rw [eval_ListComp]
  refine wpAny_comprehension_free (use := none) rfl hs hclos hkind hnames (wpAny_mono h (fun xv s₁ h₁ => ?_) fun _ _ e => e)
  refine (let G9 : Prop := _; show G9 from ?_)
  obtain ⟨ax, its, k, news, rfl, F, N, hax, hsz, R⟩ := h₁
  k_unfold
  have hne : @Ne Nat ax s₁.heap.objs.size := Nat.ne_of_lt (Heap.lt_size (N _ hax).1)
  have hl : s₁.heap.IsList ax its.toArray := ⟨_, (N _ hax).1, rfl, _, rfl⟩
  refine start_cell hl hcells hpush (fun _ _ _ h => wpAny_newObj_type h) (fun H old gI gD gC gc => ?_)
  have fr := fr_above F rfl
  refine start_loop (env := compEnvC scope [(x, s₁.heap.objs.size + 3)] (s₁.heap.objs.size + 2) env) (Walks.list hA s₁.heap.objs.size ax hne its.toArray) ⟨⟨_, gI, rfl, rfl⟩, hl.at fun o e => old _ _ e⟩ (cell_loop (k := k) hA hkind hxk fr hne hsz (fun h' tk ys news' F' N' off' fin => ?_) (its.length + 1)
    ⟨H, _, 0, [], _, _, news, rfl, Nat.zero_le _, rfl, rfl, ⟨_, gI, rfl, rfl⟩, F.keeps old, nwc gC (fr _ (Nat.le_add_right ..)) (nwc gc (fr _ (Nat.le_add_right ..)) (nwc gD (fr _ (Nat.le_add_right ..)) fun p hp => ⟨old _ _ (N p hp).1, (N p hp).2⟩)), rfl,
      fun p hp => (lt_ne4 (Heap.lt_size (N p hp).1)), hax, R _⟩)
  have q := ne4 s₁.heap.objs.size
  exact ⟨fun _ => none, ⟨nsObj, #[], _, nwh N', rfl, (fun e he => nomatch he), fun _ => rfl⟩, fun h₃ hs₃ => fin (s₁.heap.objs.size + 1) h₃ tk (F'.change hs₃ (fr _ (Nat.le_add_right ..)).1 (fr _ (Nat.le_add_right ..)).2)
    (nwk (· ≠ s₁.heap.objs.size + 2) (nwt N') (al (Ne.symm q.2.2.2.2.1) fun p hp => (off' p hp).2.1) hs₃.extBut) fun p hp => (off' p hp).2.2.2⟩
end
theorem last_pick {h₀ h : Heap} {L : Addr} {i c c' d l t : Addr × Obj} (N : News h₀ L h [i, c, c', d, l, t]) : News h₀ L h (t :: [i, c, c', d, l]) := fun p hp => N p (rot (a := [t]) (b := [i, c, c', d, l]) (r := []) hp)
theorem last_end {x f c' t i cc c d l : Addr × Obj} : ∀ p ∈ i :: cc :: c :: d :: [c', t, l], p ∈ [x, f, c', t, i, cc, c, d, l] :=
  fun _ h => .tail _ (.tail _ (rot (a := [i, cc, c, d]) (b := [c', t]) h))
theorem last_end2 {x f c' t i cc c d l : Addr × Obj} : ∀ p ∈ i :: cc :: c :: d :: [t, l], p ∈ [x, f, i, cc, c, d, c', t, l] :=
  fun p h => have q : ∀ p ∈ [i, cc, c, d] ++ [t, l], p ∈ [i, cc, c, d] ++ [c', t, l] := al2 (fun _ h => inl9 h) (fun _ h => inr9 (.tail _ h)); .tail _ (.tail _ (q p h))
theorem only_tab {h₀ h : Heap} {L : Addr} {a b t l : Addr × Obj} (N : News h₀ L h [a, b, t, l]) : News h₀ L h [t] := fun p hp => by
  rw [List.mem_singleton.mp hp]
  exact N t (.tail _ (.tail _ (.head _)))
end
section
noncomputable def heardD (x : Int) : Dat := .tuple [.str (lawName x), .str (codedF (lawName x)), .str (lawName x), .tuple [.str (Str.ofString "h.i"), .int (x.fmod 65536)]]
theorem src_mem {h₀ : Heap} {ax : Addr} {its : Array Value} {n : Nat} {nw : List (Addr × Obj)} (h : (ax, listOf its n) ∈ nw) : LCg.SrcAt h₀ ax its nw := .inr ⟨_, h, rfl, _, rfl⟩
theorem off_two {I C D : Addr} {a b : Addr × Obj} {nw : List (Addr × Obj)} (off : LCg.Off3 I C D nw) (h1 : AllLt b.1 ((I, o1) :: (C, o2) :: (D, o3) :: nw)) (h2 : @LT.lt Nat _ b.1 a.1) : LCg.Off3 I C D (a :: b :: nw) := by
  obtain ⟨q1, q2, q3, _⟩ := h1
  exact ⟨⟨Nat.ne_of_gt (Nat.lt_trans q1 h2), Nat.ne_of_gt (Nat.lt_trans q2 h2), Nat.ne_of_gt (Nat.lt_trans q3 h2)⟩, ⟨Nat.ne_of_gt q1, Nat.ne_of_gt q2, Nat.ne_of_gt q3⟩, off⟩
theorem heard_end {h₀ : Heap} {L I C D Tk D9 P9 : Addr} {m : Str → Option Value} {s₁ : Shared} {oI oC oD : Obj} {h' : Heap} {tk k : Nat} {z : Int} {t1 t2 t3 t4 t5 : Tok} {ws : List Value} {n : Nat} {xs : List Int} {own news : List (Addr × Obj)}
    (F : Fr h₀ L h' m) (N : News h₀ L h' ((D9, heardObj z P9 t1 t2 t3) :: (P9, portObj z t4 t5) :: (I, oI) :: (C, oC) :: (D, oD) :: (own ++ news))) (lt : @LT.lt Nat _ P9 D9 ∧ AllLt P9 ((I, oI) :: (C, oC) :: (D, oD) :: (own ++ news)) ∧ AllLt D9 ((I, oI) :: (C, oC) :: (D, oD) :: (own ++ news)))
    (off : LCg.Off3 I C D (own ++ news)) (hT : (Tk, listOf ws.toArray n) ∈ news) (hz : xs[k]? = some z) :
    LCg.CompEnd h₀ L m s₁ I oI C oC D oD (LCg.SrcAt h₀ Tk ws.toArray) (fun y nw' => ∃ own', nw' = own' ++ (own ++ news) ∧ DatIn nw' y (heardD (xs.getD k 0))) (.ref D9) { s₁ with heap := h', toks := tk } := by
  refine LCg.CompEnd.intro F N ((D9, heardObj z P9 t1 t2 t3) :: (P9, portObj z t4 t5) :: (own ++ news)) (fun p hp => rot (a := [_, _, _]) (b := [_, _]) hp) (off_two off lt.2.1 lt.1) (src_mem (.tail _ (.tail _ (List.mem_append.mpr (.inr hT))))) ⟨[_, _], rfl, ?_⟩
  rw [List.getD_eq_getElem?_getD, hz]
  exact DatIn.tuple (.head _) (.cons (.str _ _) (.cons (.str _ _) (.cons (.str _ _) (.cons (.tuple (.tail _ (.head _)) (.cons (.str _ _) (.cons (.int _ _) .nil))) .nil))))
theorem heard_end2 {h₀ : Heap} {L I C D Tk D9 P9 : Addr} {m : Str → Option Value} {s₁ : Shared} {oI oC oD : Obj} {h' : Heap} {tk k : Nat} {z : Int} {t1 t2 t3 t4 t5 : Tok} {ws : List Value} {n : Nat} {xs : List Int} {own news : List (Addr × Obj)}
    (F : Fr h₀ L h' m) (N : News h₀ L h' ((D9, heardObj z P9 t1 t2 t3) :: (P9, portObj z t4 t5) :: (I, oI) :: (C, oC) :: (D, oD) :: (own ++ news))) (lt1 : @LT.lt Nat _ P9 D9 ∧ @LT.lt Nat _ I D9 ∧ @LT.lt Nat _ C D9 ∧ @LT.lt Nat _ D D9 ∧ AllLt D9 (own ++ news)) (lt2 : @LT.lt Nat _ I P9 ∧ @LT.lt Nat _ C P9 ∧ @LT.lt Nat _ D P9 ∧ AllLt P9 (own ++ news))
    (off : LCg.Off3 I C D (own ++ news)) (hT : (Tk, listOf ws.toArray n) ∈ news) (hz : xs[k]? = some z) :
    LCg.CompEnd h₀ L m s₁ I oI C oC D oD (LCg.SrcAt h₀ Tk ws.toArray) (fun y nw' => ∃ own', nw' = own' ++ (own ++ news) ∧ DatIn nw' y (heardD (xs.getD k 0))) (.ref D9) { s₁ with heap := h', toks := tk } :=
  heard_end F N ⟨lt1.1, lt2, lt1.2⟩ off hT hz
theorem heardD_ok (x : Int) : kqdOk 8 (heardD x) = true := by
  obtain ⟨h1, h2⟩ := names_strOk _ (lawName_in x)
  have h3 : PyData.strOk (Str.ofString "h.i") = true := by decide +kernel
  simp [heardD, kqdOk, h1, h2, h3]
theorem heards_ok (xs : List Int) (n : Nat) : ∀ d ∈ (List.range n).map (fun i => heardD (xs.getD i 0)), kqdOk 8 d = true := by
  intro d hd
  obtain ⟨i, _, rfl⟩ := List.mem_map.mp hd
  exact heardD_ok _
theorem own_keep {p : Addr × Obj} {own nw own' : List (Addr × Obj)} {rw d1 d2 c2 c1 : Addr × Obj} (h : p ∈ own ++ (rw :: c2 :: c1 :: nw ++ own')) : p ∈ rw :: d1 :: d2 :: c2 :: c1 :: (own ++ nw ++ own') := by
  rw [List.append_assoc]
  exact al2 (P := fun p => p ∈ rw :: d1 :: d2 :: c2 :: c1 :: (own ++ (nw ++ own'))) (fun p h => .tail _ (.tail _ (.tail _ (.tail _ (.tail _ (inl9 h)))))) (al (.head _) (al (.tail _ (.tail _ (.tail _ (.head _)))) (al (.tail _ (.tail _ (.tail _ (.tail _ (.head _))))) fun p h => .tail _ (.tail _ (.tail _ (.tail _ (.tail _ (inr9 h)))))))) p h
theorem one_end {h₀ : Heap} {L I C D D9 ax : Addr} {m : Str → Option Value} {s₁ : Shared} {oI oC oD o9 : Obj} {h' : Heap} {tk : Nat} {its : Array Value} {n : Nat} {all : List (Addr × Obj)} {rest : Value → List (Addr × Obj) → Prop} {y : Value}
    (F : Fr h₀ L h' m) (N : News h₀ L h' ((D9, o9) :: (I, oI) :: (C, oC) :: (D, oD) :: all)) (hne : ∀ p ∈ (I, oI) :: (C, oC) :: (D, oD) :: all, p.1 ≠ D9) (off : LCg.Off3 I C D all) (hsrc : (ax, listOf its n) ∈ (D9, o9) :: all) (r : (∀ p ∈ all, p.1 ≠ D9) → rest y ((D9, o9) :: all)) :
    LCg.CompEnd h₀ L m s₁ I oI C oC D oD (LCg.SrcAt h₀ ax its) rest y { s₁ with heap := h', toks := tk } := by
  exact LCg.CompEnd.intro F N ((D9, o9) :: all) (fun p hp => rot (a := [_, _, _]) (b := [_]) hp) ⟨⟨Ne.symm (hne _ (.head _)), Ne.symm (hne _ (.tail _ (.head _))), Ne.symm (hne _ (.tail _ (.tail _ (.head _))))⟩, off⟩ (src_mem hsrc) (r fun p hp => hne p (.tail _ (.tail _ (.tail _ hp))))
theorem one_pick {h₀ h : Heap} {L : Addr} {d rw c2 c1 a b : Addr × Obj} {own nw : List (Addr × Obj)} (N : News h₀ L h (d :: (own ++ rw :: c2 :: c1 :: nw))) (ha : a ∈ own ++ rw :: c2 :: c1 :: nw) (hb : b ∈ own ++ rw :: c2 :: c1 :: nw) : News h₀ L h (c1 :: c2 :: a :: b :: rw :: nw) :=
  pk N (al (.tail _ (inr9 (.tail _ (.tail _ (.head _))))) (al (.tail _ (inr9 (.tail _ (.head _)))) (al (.tail _ ha) (al (.tail _ hb) (al (.tail _ (inr9 (.head _))) fun p h => .tail _ (inr9 (.tail _ (.tail _ (.tail _ h)))))))))
theorem no_end {h₀ : Heap} {L I C D ax : Addr} {m : Str → Option Value} {s₁ : Shared} {oI oC oD : Obj} {h' : Heap} {tk : Nat} {its : Array Value} {n : Nat} {all : List (Addr × Obj)} {rest : Value → List (Addr × Obj) → Prop} {y : Value}
    (F : Fr h₀ L h' m) (N : News h₀ L h' ((I, oI) :: (C, oC) :: (D, oD) :: all)) (off : LCg.Off3 I C D all) (hsrc : (ax, listOf its n) ∈ all) (r : rest y all) :
    LCg.CompEnd h₀ L m s₁ I oI C oC D oD (LCg.SrcAt h₀ ax its) rest y { s₁ with heap := h', toks := tk } :=
  LCg.CompEnd.intro F N all (fun p hp => hp) off (src_mem hsrc) r
theorem law_pick {h₀ h : Heap} {L : Addr} {a b c d e f g i j k l m : Addr × Obj} (N : News h₀ L h [a, b, c, d, e, f, g, i, j, k, l, m]) : News h₀ L h [b, k, l, c, g, d, m] := pk N (al (.tail _ (.head _)) (al (.tail _ (.tail _ (.tail _ (.tail _ (.tail _ (.tail _ (.tail _ (.tail _ (.tail _ (.head _)))))))))) (al (.tail _ (.tail _ (.tail _ (.tail _ (.tail _ (.tail _ (.tail _ (.tail _ (.tail _ (.tail _ (.head _))))))))))) (al (.tail _ (.tail _ (.head _))) (al (.tail _ (.tail _ (.tail _ (.tail _ (.tail _ (.tail _ (.head _))))))) (al (.tail _ (.tail _ (.tail _ (.head _)))) (al (.tail _ (.tail _ (.tail _ (.tail _ (.tail _ (.tail _ (.tail _ (.tail _ (.tail _ (.tail _ (.tail _ (.head _)))))))))))) al0)))))))
noncomputable def RowsAre (nw : List (Addr × Obj)) : List Value → List (List Int) → Prop
  | [], [] => True
  | v :: rv, xs :: xss => (∃ N vs n, v = .ref N ∧ (N, listOf (List.toArray vs) n) ∈ nw ∧ StrsAre vs (xs.map lawName)) ∧ RowsAre nw rv xss
  | _, _ => False
theorem two_at {α : Type} {a b v : α} {k : Nat} (h : [a, b][k]? = some v) : k = 0 ∧ v = a ∨ k = 1 ∧ v = b := by
  cases k with
  | zero => exact .inl ⟨rfl, (Option.some.inj h).symm⟩
  | succ k => cases k with
    | zero => exact .inr ⟨rfl, (Option.some.inj h).symm⟩
    | succ k => cases h
theorem two_of {α : Type} {ys : List α} {a b : α} (hl : ys.length = 2) (h0 : ys[0]? = some a) (h1 : ys[1]? = some b) : ys = [a, b] := by
  cases ys with
  | nil => cases hl
  | cons x r => cases r with
    | nil => cases hl
    | cons y r => cases r with
      | nil => cases h0; cases h1; rfl
      | cons z r => simp at hl
theorem rows_two {nw : List (Addr × Obj)} {rv : List Value} {a b : List Int} (h : RowsAre nw rv [a, b]) : ∃ R1 R2 rs1 rs2 n1 n2, rv = [.ref R1, .ref R2] ∧ (R1, listOf (List.toArray rs1) n1) ∈ nw ∧ (R2, listOf (List.toArray rs2) n2) ∈ nw ∧ StrsAre rs1 (a.map lawName) ∧ StrsAre rs2 (b.map lawName) := by
  cases rv with
  | nil => exact False.elim h
  | cons v rv =>
    obtain ⟨⟨R1, rs1, n1, rfl, m1, h1⟩, h⟩ := h
    cases rv with
    | nil => exact False.elim h
    | cons v rv =>
      obtain ⟨⟨R2, rs2, n2, rfl, m2, h2⟩, h⟩ := h
      cases rv with
      | nil => exact ⟨R1, R2, rs1, rs2, n1, n2, rfl, m1, m2, h1, h2⟩
      | cons v rv => exact False.elim h
theorem turn_pick2 {h₀ h : Heap} {L : Addr} {d3 d2 d1 rw c2 c1 : Addr × Obj} {own nw own' : List (Addr × Obj)} (N : News h₀ L h (d3 :: rw :: d1 :: d2 :: c2 :: c1 :: (own ++ nw ++ own'))) : News h₀ L h (rw :: d3 :: c2 :: c1 :: (nw ++ own')) := by
  rw [List.append_assoc] at N
  exact pk N (al (.tail _ (.head _)) (al (.head _) (al (.tail _ (.tail _ (.tail _ (.tail _ (.head _))))) (al (.tail _ (.tail _ (.tail _ (.tail _ (.tail _ (.head _)))))) fun p h => .tail _ (.tail _ (.tail _ (.tail _ (.tail _ (.tail _ (inr9 h))))))))))
theorem rows_snoc {nw nw' : List (Addr × Obj)} {D : Addr} {ys : List Value} {n : Nat} {xs : List Int} (hs : ∀ p ∈ nw, p ∈ nw') (hD : (D, listOf ys.toArray n) ∈ nw') (hy : StrsAre ys (xs.map lawName)) : ∀ {rv : List Value} {xss : List (List Int)}, RowsAre nw rv xss → RowsAre nw' (rv ++ [.ref D]) (xss ++ [xs])
  | [], [], _ => ⟨⟨D, ys, n, rfl, hD, hy⟩, trivial⟩
  | [], _ :: _, h => h.elim
  | _ :: _, [], h => h.elim
  | v :: rv, x :: xss, h => by
    obtain ⟨⟨N, vs, k, e, hm, hv⟩, hr⟩ := h
    exact ⟨⟨N, vs, k, e, hs _ hm, hv⟩, rows_snoc hs hD hy hr⟩
theorem turn_pick {h₀ h : Heap} {L : Addr} {d2 d1 rw c2 c1 : Addr × Obj} {own2 own nw own' : List (Addr × Obj)} (N : News h₀ L h (d2 :: (own2 ++ d1 :: (own ++ rw :: c2 :: c1 :: (nw ++ own'))))) : News h₀ L h (rw :: d1 :: d2 :: c2 :: c1 :: (own ++ nw ++ own')) := by
  rw [List.append_assoc]
  exact pk N (al (.tail _ (inr9 (.tail _ (inr9 (.head _))))) (al (.tail _ (inr9 (.head _))) (al (.head _) (al (.tail _ (inr9 (.tail _ (inr9 (.tail _ (.head _)))))) (al (.tail _ (inr9 (.tail _ (inr9 (.tail _ (.tail _ (.head _))))))) (al2 (fun p h => .tail _ (inr9 (.tail _ (inl9 h)))) fun p h => .tail _ (inr9 (.tail _ (inr9 (.tail _ (.tail _ (.tail _ h))))))))))))
theorem dat_tuple {nw : List (Addr × Obj)} {v : Value} {ds : List Dat} (h : DatIn nw v (.tuple ds)) : ∃ T vs kk, v = .ref T ∧ (T, ({ cls := .type "tuple", data := .seq (List.toArray vs) kk } : Obj)) ∈ nw ∧ DatAll nw vs ds := by
  cases h with | tuple hm ha => exact ⟨_, _, _, rfl, hm, ha⟩
theorem dat_str {nw : List (Addr × Obj)} {v : Value} {x : Str} (h : DatIn nw v (.str x)) : ∃ t, v = .str x t := by
  cases h with | str x t => exact ⟨_, rfl⟩
theorem dat_cons {nw : List (Addr × Obj)} {vs : List Value} {d : Dat} {ds : List Dat} (h : DatAll nw vs (d :: ds)) : ∃ v r, vs = v :: r ∧ DatIn nw v d ∧ DatAll nw r ds := by
  cases h with | cons h1 h2 => exact ⟨_, _, rfl, h1, h2⟩
theorem list4 {α : Type} {l : List α} {a : α} {r : List α} (e : l = a :: r) (h : r.length = 3) : ∃ b c d, l = [a, b, c, d] := by
  obtain ⟨b, r1, e1, h1⟩ := len_cons h
  obtain ⟨c, r2, e2, h2⟩ := len_cons h1
  obtain ⟨d, r3, e3, h3⟩ := len_cons h2
  exact ⟨b, c, d, by rw [e, e1, e2, e3, List.length_eq_zero_iff.mp h3]⟩
theorem heards_at {nw : List (Addr × Obj)} {ys : List Value} {xs : List Int} {n : Nat} (h : DatAll nw ys ((List.range n).map fun i => heardD (xs.getD i 0))) : ∀ j, j < ys.length → ∃ T vs, ys[j]? = some (.ref T) ∧ (∃ kk, (T, ({ cls := .type "tuple", data := .seq vs.toArray kk } : Obj)) ∈ nw) ∧ vs.length = 4 ∧ ∃ (t : Tok) (b c d : Value), vs = [.str (lawName (xs.getD j 0)) t, b, c, d] := by
  intro j hj
  have e := h.length
  obtain ⟨v, hv, hd⟩ := h.get (k := j) (by omega)
  rw [List.getElem_map, List.getElem_range] at hd
  obtain ⟨T, vs, kk, rfl, hm, ha⟩ := dat_tuple hd
  have hl := ha.length
  obtain ⟨v1, r, e1, h1, hr⟩ := dat_cons ha
  obtain ⟨t, rfl⟩ := dat_str h1
  obtain ⟨b, c, d, e4⟩ := list4 e1 hr.length
  exact ⟨T, vs, hv, ⟨kk, hm⟩, hl, t, b, c, d, e4⟩
theorem put4 {mm : Str → Option Value} {n1 n2 n3 n4 : Str} {p1 p2 p3 p4 : Pos} {a b c d : Value} : putAll mm [(n1, p1), (n2, p2), (n3, p3), (n4, p4)] [a, b, c, d] = fun z => if z = n4 then some d else if z = n3 then some c else if z = n2 then some b else if z = n1 then some a else mm z := rfl
theorem look_skip {a b : Str} {w v X : Option Value} (h : a ≠ b) (hf : X = v) : (if a = b then w else X) = v := by rw [if_neg h]; exact hf
structure Wait (P : Prop) : Prop where
  go : P
theorem stop_tup {prog : Program} {w : World} {A : Around} {E Q : Value → Shared → Prop} {s : Shared} {elt iter : PySem.Expr} {es : List PySem.Expr} {k : Nat} {z : Int} {tp pos : Pos} {ifs : List PySem.Expr} {sc : Scope} {env : Env} (h : Stop (wpAny (model prog w) A (eval (.ListComp elt [⟨.Tuple es k tp, iter, ifs, z⟩] sc pos) env) Q E s)) :
    wpAny (model prog w) A (eval (.ListComp elt [⟨.Tuple es k tp, iter, ifs, z⟩] sc pos) env) Q E s := h
theorem stop_ifs {prog : Program} {w : World} {A : Around} {E Q : Value → Shared → Prop} {s : Shared} {elt iter t c : PySem.Expr} {z : Int} {pos : Pos} {ifs : List PySem.Expr} {sc : Scope} {env : Env} (h : Stop (wpAny (model prog w) A (eval (.ListComp elt [⟨t, iter, c :: ifs, z⟩] sc pos) env) Q E s)) :
    wpAny (model prog w) A (eval (.ListComp elt [⟨t, iter, c :: ifs, z⟩] sc pos) env) Q E s := h
/-- how the law's body ends -/
noncomputable def LawQ (h₀ : Heap) (L : Addr) (s : Shared) (f : Flow) (s' : Shared) : Prop :=
  f = .ret (.bool true) ∧ ∃ h' tk' m' ps, s' = { s with heap := h', toks := tk' } ∧ Fr h₀ L h' m' ∧ News h₀ L h' [(336, tabObj ps)]
theorem law_start {M : Model} {A : Around} {t : Sem Flow} {Q : Flow → Shared → Prop} {E : Value → Shared → Prop} {s : Shared} {h₀ : Heap} {L : Addr} {m : Str → Option Value} (_F : Fr h₀ L s.heap m) (h : wpAny M A t (LawQ h₀ L s) (fun _ _ => False) s) (hq : ∀ f s', LawQ h₀ L s f s' → Q f s') : wpAny M A t Q E s :=
  wpAny_mono h hq fun _ _ e => e.elim
structure Cut2 (X : Prop) where
  P1 : Prop
  P2 : Prop
  go : Wait P1 → Wait P2 → X
theorem due_ok {a b : List Str} (ha : ∀ x ∈ a, x ∈ allNames) (hb : ∀ x ∈ b, x ∈ allNames) : kqdOk 8 (.tuple [.list ((lackF b a).map Dat.str), .list ((lackF a b).map Dat.str)]) = true := by
  have h1 : ∀ x ∈ a, PyData.strOk x = true := fun x hx => (names_strOk x (ha x hx)).1
  have h2 : ∀ x ∈ b, PyData.strOk x = true := fun x hx => (names_strOk x (hb x hx)).1
  simp only [kqdOk, List.all_cons, List.all_map, List.all_nil, Bool.and_true, Bool.and_eq_true, List.all_eq_true, Function.comp]
  exact ⟨fun x hx => h1 x (List.mem_filter.mp hx).1, fun x hx => h2 x (List.mem_filter.mp hx).1⟩
end
end
section
local macro_rules | `(tactic| walk_at "call ref") => `(tactic| ((first | with_reducible refine at9 296 ?_ | with_reducible refine at9 301 ?_ | with_reducible refine at9 315 ?_ | with_reducible refine at9 334 ?_ | with_reducible refine at9 203 ?_); refine of_stopk 1 ?_))
local macro_rules | `(tactic| walk_at "getMethod str") => `(tactic| (with_reducible refine encode_method ?_))
local macro_rules | `(tactic| walk_at "call builtin:str.encode") => `(tactic| (refine of_stopk 2 ?_))
local macro_rules | `(tactic| walk_at "call ref") => `(tactic| ((with_reducible refine at9 322 ?_); refine of_stopk 3 ?_))
local macro_rules | `(tactic| walk_at "call type:str") => `(tactic| (k_dflt (refine str_got (by assumption) (by assumption) (by exact excCls (K := Mine.hd.heap_1 _) (by k_in) (by kernel_rfl) (by kernel_rfl)) (by ktr_units) ?_)))
local macro_rules | `(tactic| walk_at "look9") => `(tactic| ((try dsimp only); (repeat (refine look_skip (by decide +kernel) ?_)); with_reducible assumption))
local macro_rules | `(tactic| walk_at "revert all") => `(tactic| (repeat (first | exact Wait.go (by assumption) | revert ‹_›)))
local macro_rules | `(tactic| walk_at "exec For Name Name cons nil") => `(tactic| (refine of_stop ?_))
local macro_rules | `(tactic| walk_at "pyIter ref") => `(tactic| (refine of_stop ?_))
local macro_rules | `(tactic| walk_at "callWith ref") => `(tactic| (k_here; k_dflt (refine callWith_K (by k_asm) (by k_is) ?_; k_whole)))
local macro_rules | `(tactic| walk_at "eval Name") => `(tactic| (k_here; k_dflt (refine nameX_L (by k_asm) (by walk_at "look9") ?_ (by rfl) (by rfl); k_whole)))
local macro_rules | `(tactic| walk_at "eval Name") => `(tactic| (k_here; (with_reducible show wpAny _ _ (eval (Expr.Name _ _) (compEnvC _ _ _ _)) _ _ _); k_dflt (first | refine LCgL.ld_own (by k_asm) (by k_mem) (by with_reducible assumption) (by with_reducible assumption) ?_ | refine LCgL.ld_global (by k_asm) (by k_asm) (by k_asm) (by k_is) ?_)))
local macro_rules | `(tactic| walk_at "CompSrc") => `(tactic| (refine of_stop ?_))
local macro_rules | `(tactic| walk_at "compareOp NotEq ref ref") => `(tactic| (refine of_stop ?_))
local macro_rules | `(tactic| walk_at "InvEndG") => `(tactic| (refine of_stop ?_))
local macro_rules | `(tactic| walk_at "CompSrcT") => `(tactic| (refine of_stop ?_))
local macro_rules | `(tactic| walk_at "compareOp NotIn") => `(tactic| (refine notin_strs (by assumption) (by k_mem) (by assumption) (by assumption) (by assumption) (by ktr_units) ?_))
local macro_rules | `(tactic| walk_at "compareOp NotIn str ref") => `(tactic| (refine notin_strs (by assumption) (by k_mem) (by assumption) (by assumption) (by assumption) (by ktr_units) ?_))
local macro_rules | `(tactic| walk_at "eval ListComp") => `(tactic| first | (with_reducible refine stop_tup ?_) | (with_reducible refine stop_ifs ?_))
section
set_option maxRecDepth 100000 in
set_option maxHeartbeats 6400000 in
noncomputable def cut0 : {P : Prop // Wait P → hd.1} := by
  refine ⟨?P, ?h⟩
  case h =>
    intro hP
    delta hd
    k_go0
    all_goals (try k_fold)
    refine law_start (by assumption) ?zgo ?zq
    case zq =>
      intro f s' hJ1
      refine (let G9 : Prop := _; show G9 from ?_)
      obtain ⟨rfl, h', tk', m', ps, rfl, F', N'⟩ := hJ1
      k_unfold
      clear G9
      (k_steps; (repeat (any_goals ((first | ((with_reducible refine un_stop 1 ?_); (k_dflt ((first | ((with_reducible refine at9 296 ?_); apply con_use (law_name_c _ _ _)) | ((with_reducible refine at9 301 ?_); apply con_use (sixes_name (lawName_in _) _ _ _)) | ((with_reducible refine at9 315 ?_); apply con_use (law_heard_c _ _ _)) | ((with_reducible refine at9 334 ?_); apply con_use (law_once_m ?_ ?_ ?_)) | ((with_reducible refine at9 203 ?_); apply con_useT (sld_m ?_ ?_ ?_ ?_ ?_ ?_ ?_ ?_))); walk_at "con9"))) | ((with_reducible refine un_stop 2 ?_); (k_dflt (refine encode_call (name_ok (lawName_in _)).isName.ascii (Nat.le_trans (name_ok (lawName_in _)).isName.size (by decide)) ?_; intro _ _))) | ((with_reducible refine un_stop 3 ?_); ((with_reducible refine at9 322 ?_); k_dflt (refine wpAny_call ?_; apply code_defSX; (all_goals try (refine frP ?_; k_asm)); walk_at "ent7")))); k_steps))))
    (k_steps; (repeat (any_goals ((first | ((with_reducible refine un_stop 1 ?_); (k_dflt ((first | ((with_reducible refine at9 296 ?_); apply con_use (law_name_c _ _ _)) | ((with_reducible refine at9 301 ?_); apply con_use (sixes_name (lawName_in _) _ _ _)) | ((with_reducible refine at9 315 ?_); apply con_use (law_heard_c _ _ _)) | ((with_reducible refine at9 334 ?_); apply con_use (law_once_m ?_ ?_ ?_)) | ((with_reducible refine at9 203 ?_); apply con_useT (sld_m ?_ ?_ ?_ ?_ ?_ ?_ ?_ ?_))); walk_at "con9"))) | ((with_reducible refine un_stop 2 ?_); (k_dflt (refine encode_call (name_ok (lawName_in _)).isName.ascii (Nat.le_trans (name_ok (lawName_in _)).isName.size (by decide)) ?_; intro _ _))) | ((with_reducible refine un_stop 3 ?_); ((with_reducible refine at9 322 ?_); k_dflt (refine wpAny_call ?_; apply code_defSX; (all_goals try (refine frP ?_; k_asm)); walk_at "ent7")))); k_steps))))
    unfold Stop
    rename Fr _ _ _ _ => F9
    rename News _ _ _ _ => N9
    rename (@LT.lt Nat _ _ _ ∧ @LT.lt Nat _ _ _ ∧ @LT.lt Nat _ _ _ ∧ @LT.lt Nat _ _ _ ∧ @LT.lt Nat _ _ _ ∧ @LT.lt Nat _ _ _ ∧ @LT.lt Nat _ _ _ ∧ @LT.lt Nat _ _ _ ∧ @LT.lt Nat _ _ _ ∧ @LT.lt Nat _ _ _ ∧ @LT.lt Nat _ _ _) => lD
    rename (@LT.lt Nat _ _ _ ∧ @LT.lt Nat _ _ _ ∧ @LT.lt Nat _ _ _ ∧ @LT.lt Nat _ _ _ ∧ @LT.lt Nat _ _ _ ∧ @LT.lt Nat _ _ _ ∧ @LT.lt Nat _ _ _ ∧ @LT.lt Nat _ _ _ ∧ @LT.lt Nat _ _ _ ∧ @LT.lt Nat _ _ _) => lR
    rename (_ = Data.cell _) => cR
    revert cR
    rename (_ = Data.cell _) => cL
    intro cR
    rename IntsAre _ (_ ++ [77, 31, 4, 13]) => hI2
    rename IntsAre _ (_ ++ [4, 77, 2, 4, 40]) => hI1
    refine (let G9 : Prop := _; show G9 from ?_)
    suffices H9 : ∀ (RW TL T1 T2 c2 c1 : Addr) (o2 o1 : Obj) (ws1 ws2 : List Value) (xs1 xs2 : List Int) (m1 : Str → Option Value), Fr _ _ _ m1 →
        News _ _ _ ((RW, listOf ([] : List Value).toArray 0) :: (c2, o2) :: (c1, o1) :: (TL, listOf [Value.ref T1, Value.ref T2].toArray 0) :: (T1, listOf ws1.toArray 0) :: (T2, listOf ws2.toArray 0) :: (336, tabObj #[]) :: []) →
        IntsAre ws1 xs1 → IntsAre ws2 xs2 → (5 ≤ xs1.length ∧ xs1.length ≤ 8) → (4 ≤ xs2.length ∧ xs2.length ≤ 7) → m1 (Str.ofString "rows") = some (.ref RW) → m1 (Str.ofString "talks") = some (.ref TL) → c2 = _ → c1 = _ → o2.data = .cell none → o1.data = .cell none →
        ((∀ p ∈ (TL, listOf [Value.ref T1, Value.ref T2].toArray 0) :: (T1, listOf ws1.toArray 0) :: (T2, listOf ws2.toArray 0) :: (336, tabObj #[]) :: [], p.1 ≠ RW ∧ p.1 ≠ c2 ∧ p.1 ≠ c1) ∧ RW ≠ c2 ∧ RW ≠ c1 ∧ c2 ≠ c1) → G9 by
      refine H9 _ _ _ _ _ _ _ _ _ _ _ _ _ F9 (law_pick N9) hI1 hI2 ?_ ?_ rfl rfl rfl rfl cL cR ⟨?_, ?_, ?_, ?_⟩
      · exact app_len (List.length_take_le 3 _) rfl
      · exact app_len (Nat.le_trans (List.length_take_le _ _) (Nat.sub_le_sub_right (Nat.min_le_left 6 _) 3)) rfl
      · refine al ?_ (al ?_ (al ?_ (al ?_ al0))) <;> refine ⟨?_, ?_, ?_⟩ <;> k_ne
      all_goals k_ne
    clear F9 N9 hI1 hI2 lD lR cL cR
    intro RW TL T1 T2 c2 c1 o2 o1 ws1 ws2 xs1 xs2 m1 F1 N1 hI1 hI2 hx1 hx2 hrow htalks ec2 ec1 eo2 eo1 hsep
    k_unfold
    clear G9
    rename Frag.In _ (ghostOf _ _) => X9
    rename Top _ _ _ _ _ (ghostOf _ _) => T9
    rename Below _ (ghostOf _ _) _ _ => K9
    rename CodeHd (ghostOf _ _) _ _ => C9
    revert X9 T9 K9 C9 F1 N1 hI1 hI2 hx1 hx2 hrow htalks ec2 ec1 eo2 eo1 hsep
    repeat (first | exact Wait.go (by assumption) | clear ‹_› | revert ‹_›)
end
section
set_option maxRecDepth 100000 in
set_option maxHeartbeats 6400000 in
noncomputable def cut1 : Cut2 cut0.1 := by
  refine ⟨?P1, ?P2, ?h⟩
  case h =>
    intro hP1 hP2
    intro w s₀ s₁ mg mb fa h₁ tk₁ h' tk RW TL T1 T2 c2 c1 o2 o1 ws1 ws2 xs1 xs2 m1 X9 T9 K9 C9 F1 N1 hI1 hI2 hx1 hx2 hrow htalks ec2 ec1 eo2 eo1 hsep
    with_unfolding_all refine' For_invVF F1 ?fk1 ?fk2 ?_
    case fk1 => exact rfl
    case fk2 => exact rfl
    (k_steps; (repeat (any_goals ((first | ((with_reducible refine un_stop 1 ?_); (k_dflt ((first | ((with_reducible refine at9 296 ?_); apply con_use (law_name_c _ _ _)) | ((with_reducible refine at9 301 ?_); apply con_use (sixes_name (lawName_in _) _ _ _)) | ((with_reducible refine at9 315 ?_); apply con_use (law_heard_c _ _ _)) | ((with_reducible refine at9 334 ?_); apply con_use (law_once_m ?_ ?_ ?_)) | ((with_reducible refine at9 203 ?_); apply con_useT (sld_m ?_ ?_ ?_ ?_ ?_ ?_ ?_ ?_))); walk_at "con9"))) | ((with_reducible refine un_stop 2 ?_); (k_dflt (refine encode_call (name_ok (lawName_in _)).isName.ascii (Nat.le_trans (name_ok (lawName_in _)).isName.size (by decide)) ?_; intro _ _))) | ((with_reducible refine un_stop 3 ?_); ((with_reducible refine at9 322 ?_); k_dflt (refine wpAny_call ?_; apply code_defSX; (all_goals try (refine frP ?_; k_asm)); walk_at "ent7")))); k_steps))))
    unfold Stop
    refine kdl_iter (fun i m nx => ∃ rv nr nw, nx = (RW, listOf rv.toArray nr) :: (c2, o2) :: (c1, o1) :: nw ∧ rv.length = i ∧ RowsAre nw rv ([xs1, xs2].take i) ∧ (TL, listOf [Value.ref T1, Value.ref T2].toArray 0) ∈ nw ∧ (T1, listOf ws1.toArray 0) ∈ nw ∧ (T2, listOf ws2.toArray 0) ∈ nw ∧ (336, tabObj #[]) ∈ nw ∧ (∀ p ∈ nw, p.1 ≠ RW ∧ p.1 ≠ c2 ∧ p.1 ≠ c1) ∧ m (Str.ofString "rows") = some (.ref RW))
      rfl (.tail _ (.tail _ (.tail _ (.head _)))) F1 N1 ⟨[], 0, _, rfl, rfl, trivial, .head _, .tail _ (.head _), .tail _ (.tail _ (.head _)), .tail _ (.tail _ (.tail _ (.head _))), hsep.1, hrow⟩ ?turn ?done
    case turn =>
      clear hrow htalks F1 N1
      revert X9 T9 K9 C9 hI1 hI2 hx1 hx2 hsep
      repeat (first | exact Wait.go (by clear hP2; assumption) | clear ‹_› | revert ‹_›)
    case done =>
      intro m₂ nx h2 tk2 hJ F2 N2
      refine (let G9 : Prop := _; show G9 from ?_)
      obtain ⟨rv, nr, nw, rfl, hrl, hrows, hTL, hT1, hT2, h336, hsp, mrow⟩ := hJ
      revert F2 N2
      intro F2 N2
      clear F1 N1 hrow htalks
      obtain ⟨R1, R2, rs1, rs2, n1, n2, rfl, hR1, hR2, hS1, hS2⟩ : ∃ R1 R2 rs1 rs2 n1 n2, rv = [.ref R1, .ref R2] ∧ (R1, listOf (List.toArray rs1) n1) ∈ nw ∧ (R2, listOf (List.toArray rs2) n2) ∈ nw ∧ StrsAre rs1 (xs1.map lawName) ∧ StrsAre rs2 (xs2.map lawName) := rows_two hrows
      k_unfold
      clear G9
      clear hrows hI1 hI2 hTL hT1 hT2
      replace hsep := hsep.2
      revert X9 T9 K9 C9 hx1 hx2 ec2 ec1 eo2 eo1 hsep h336 hsp mrow F2 N2 hR1 hR2 hS1 hS2
      repeat (first | exact Wait.go (by clear hP1; assumption) | clear ‹_› | revert ‹_›)
end
section
set_option maxRecDepth 100000 in
set_option maxHeartbeats 6400000 in
theorem turn_t : cut1.P1 := by
  intro w s₀ s₁ mg mb fa h₁ tk₁ h' tk RW TL T1 T2 c2 c1 o2 o1 ws1 ws2 xs1 xs2 X9 T9 K9 C9 hI1 hI2 hx1 hx2 hsep
  intro i v m₁ nx h tk own' hv hoff hin
  intro hJ1 F3 N3
  refine (let G9 : Prop := _; show G9 from ?_)
  obtain ⟨rv, nr, nw, rfl, hrl, hrows, hTL, hT1, hT2, h336, hsp, mrow⟩ := hJ1
  suffices H9 : ∀ Tk xs ws, v = .ref Tk → (Tk, listOf ws.toArray 0) ∈ nw → IntsAre ws xs → (4 ≤ xs.length ∧ xs.length ≤ 8) → [xs1, xs2][i]? = some xs → i ≤ 1 → G9 by
    match i, hv with
    | 0, hv => exact H9 T1 xs1 ws1 (Option.some.inj hv).symm hT1 hI1 ⟨by omega, by omega⟩ rfl (by decide)
    | 1, hv => exact H9 T2 xs2 ws2 (Option.some.inj hv).symm hT2 hI2 ⟨by omega, by omega⟩ rfl (by decide)
  intro Tk xs ws ev hTk hIk hlen hxs hi1
  k_unfold
  clear G9
  subst ev
  (k_steps; (repeat (any_goals ((first | ((with_reducible refine un_stop 1 ?_); (k_dflt ((first | ((with_reducible refine at9 296 ?_); apply con_use (law_name_c _ _ _)) | ((with_reducible refine at9 301 ?_); apply con_use (sixes_name (lawName_in _) _ _ _)) | ((with_reducible refine at9 315 ?_); apply con_use (law_heard_c _ _ _)) | ((with_reducible refine at9 334 ?_); apply con_use (law_once_m ?_ ?_ ?_)) | ((with_reducible refine at9 203 ?_); apply con_useT (sld_m ?_ ?_ ?_ ?_ ?_ ?_ ?_ ?_))); walk_at "con9"))) | ((with_reducible refine un_stop 2 ?_); (k_dflt (refine encode_call (name_ok (lawName_in _)).isName.ascii (Nat.le_trans (name_ok (lawName_in _)).isName.size (by decide)) ?_; intro _ _))) | ((with_reducible refine un_stop 3 ?_); ((with_reducible refine at9 322 ?_); k_dflt (refine wpAny_call ?_; apply code_defSX; (all_goals try (refine frP ?_; k_asm)); walk_at "ent7")))); k_steps))))
  unfold Stop
  have hTin : (Tk, listOf ws.toArray 0) ∈ (RW, listOf rv.toArray nr) :: (c2, o2) :: (c1, o1) :: nw ++ own' := List.mem_append.mpr (.inl (.tail _ (.tail _ (.tail _ hTk))))
  have hwl := hIk.length
  refine LCg.CompSrc.ledger rfl F3 N3 hTin (by rw [List.size_toArray, sizeLine_eq]; omega) ?_
  intro g9
  refine own_rest (fun k nw y => DatIn nw y (heardD (xs.getD k 0))) (fun k nw nw' y hs hy => hy.mono hs) ?ta ?tb
  case ta =>
    intro k v I oI C oC D m₂ ys own h' tk' E' hk hv' hC hx F N off ne
    refine (let G9 : Prop := _; show G9 from ?_)
    obtain ⟨z, tz, rfl, hz⟩ := IntsAre.at hIk k v (by simpa using hv')
    k_unfold
    clear G9
    (k_steps; (repeat (any_goals ((first | ((with_reducible refine un_stop 1 ?_); (k_dflt ((first | ((with_reducible refine at9 296 ?_); apply con_use (law_name_c _ _ _)) | ((with_reducible refine at9 301 ?_); apply con_use (sixes_name (lawName_in _) _ _ _)) | ((with_reducible refine at9 315 ?_); apply con_use (law_heard_c _ _ _)) | ((with_reducible refine at9 334 ?_); apply con_use (law_once_m ?_ ?_ ?_)) | ((with_reducible refine at9 203 ?_); apply con_useT (sld_m ?_ ?_ ?_ ?_ ?_ ?_ ?_ ?_))); walk_at "con9"))) | ((with_reducible refine un_stop 2 ?_); (k_dflt (refine encode_call (name_ok (lawName_in _)).isName.ascii (Nat.le_trans (name_ok (lawName_in _)).isName.size (by decide)) ?_; intro _ _))) | ((with_reducible refine un_stop 3 ?_); ((with_reducible refine at9 322 ?_); k_dflt (refine wpAny_call ?_; apply code_defSX; (all_goals try (refine frP ?_; k_asm)); walk_at "ent7")))); k_steps))))
    exact heard_end (by assumption) (by assumption) (by assumption) off (List.mem_append.mpr (.inl (.tail _ (.tail _ (.tail _ hTk))))) hz
  case tb =>
    intro ys own hl hy
    (k_steps; (repeat (any_goals ((first | ((with_reducible refine un_stop 1 ?_); (k_dflt ((first | ((with_reducible refine at9 296 ?_); apply con_use (law_name_c _ _ _)) | ((with_reducible refine at9 301 ?_); apply con_use (sixes_name (lawName_in _) _ _ _)) | ((with_reducible refine at9 315 ?_); apply con_use (law_heard_c _ _ _)) | ((with_reducible refine at9 334 ?_); apply con_use (law_once_m ?_ ?_ ?_)) | ((with_reducible refine at9 203 ?_); apply con_useT (sld_m ?_ ?_ ?_ ?_ ?_ ?_ ?_ ?_))); walk_at "con9"))) | ((with_reducible refine un_stop 2 ?_); (k_dflt (refine encode_call (name_ok (lawName_in _)).isName.ascii (Nat.le_trans (name_ok (lawName_in _)).isName.size (by decide)) ?_; intro _ _))) | ((with_reducible refine un_stop 3 ?_); ((with_reducible refine at9 322 ?_); k_dflt (refine wpAny_call ?_; apply code_defSX; (all_goals try (refine frP ?_; k_asm)); walk_at "ent7")))); k_steps))))
    rename News _ _ _ _ => N4
    rename Fr _ _ _ _ => F4
    have hT4 := N4
    refine LCg.CompSrc.ledger (ax := Tk) (its := ws.toArray) (k := 0) rfl F4 N4 (.tail _ (List.mem_append.mpr (.inr (.tail _ (.tail _ (.tail _ (List.mem_append.mpr (.inl hTk)))))))) (by rw [List.size_toArray, sizeLine_eq]; omega) ?_
    intro g8
    refine own_rest (fun k nw y => DatIn nw y (heardD (xs.getD k 0))) (fun k nw nw' y hs hy => hy.mono hs) ?tc ?td
    case tc =>
      intro k v I oI C oC D m₂ ys2 own2 h' tk' E' hk hv' hC hx F N off ne
      refine (let G9 : Prop := _; show G9 from ?_)
      obtain ⟨z, tz, rfl, hz⟩ := IntsAre.at hIk k v (by simpa using hv')
      k_unfold
      clear G9
      (k_steps; (repeat (any_goals ((first | ((with_reducible refine un_stop 1 ?_); (k_dflt ((first | ((with_reducible refine at9 296 ?_); apply con_use (law_name_c _ _ _)) | ((with_reducible refine at9 301 ?_); apply con_use (sixes_name (lawName_in _) _ _ _)) | ((with_reducible refine at9 315 ?_); apply con_use (law_heard_c _ _ _)) | ((with_reducible refine at9 334 ?_); apply con_use (law_once_m ?_ ?_ ?_)) | ((with_reducible refine at9 203 ?_); apply con_useT (sld_m ?_ ?_ ?_ ?_ ?_ ?_ ?_ ?_))); walk_at "con9"))) | ((with_reducible refine un_stop 2 ?_); (k_dflt (refine encode_call (name_ok (lawName_in _)).isName.ascii (Nat.le_trans (name_ok (lawName_in _)).isName.size (by decide)) ?_; intro _ _))) | ((with_reducible refine un_stop 3 ?_); ((with_reducible refine at9 322 ?_); k_dflt (refine wpAny_call ?_; apply code_defSX; (all_goals try (refine frP ?_; k_asm)); walk_at "ent7")))); k_steps))))
      exact heard_end2 (by assumption) (by assumption) (by assumption) (by assumption) off (.tail _ (List.mem_append.mpr (.inr (.tail _ (.tail _ (.tail _ (List.mem_append.mpr (.inl hTk)))))))) hz
    case td =>
      intro ys2 own2 hl2 hy2
      (k_steps; (repeat (any_goals ((first | ((with_reducible refine un_stop 1 ?_); (k_dflt ((first | ((with_reducible refine at9 296 ?_); apply con_use (law_name_c _ _ _)) | ((with_reducible refine at9 301 ?_); apply con_use (sixes_name (lawName_in _) _ _ _)) | ((with_reducible refine at9 315 ?_); apply con_use (law_heard_c _ _ _)) | ((with_reducible refine at9 334 ?_); apply con_use (law_once_m ?_ ?_ ?_)) | ((with_reducible refine at9 203 ?_); apply con_useT (sld_m ?_ ?_ ?_ ?_ ?_ ?_ ?_ ?_))); walk_at "con9"))) | ((with_reducible refine un_stop 2 ?_); (k_dflt (refine encode_call (name_ok (lawName_in _)).isName.ascii (Nat.le_trans (name_ok (lawName_in _)).isName.size (by decide)) ?_; intro _ _))) | ((with_reducible refine un_stop 3 ?_); ((with_reducible refine at9 322 ?_); k_dflt (refine wpAny_call ?_; apply code_defSX; (all_goals try (refine frP ?_; k_asm)); walk_at "ent7")))); k_steps))))
      unfold Stop
      rename LCg.Off1 _ _ => off5
      rename News _ _ _ _ => N5
      rename Fr _ _ _ _ => F5
      have hda := datAll_of (fun i => heardD (xs.getD i 0)) hl hy
      have hdb := datAll_of (fun i => heardD (xs.getD i 0)) hl2 hy2
      refine ne_same N5 (.tail _ (List.mem_append.mpr (.inr (.head _)))) rfl rfl (.head _) rfl rfl hda (fun p hp => .tail _ (List.mem_append.mpr (.inr (.tail _ (by rcases List.mem_append.mp hp with h | h; exact List.mem_append.mpr (.inl h); exact List.mem_append.mpr (.inr (by simpa using h))))))) hdb (fun p hp => .tail _ hp) (heards_ok _ _) (by ktr_units) ?_
      have N6 := turn_pick N5
      clear N5 N4
      (k_steps; (repeat (any_goals ((first | ((with_reducible refine un_stop 1 ?_); (k_dflt ((first | ((with_reducible refine at9 296 ?_); apply con_use (law_name_c _ _ _)) | ((with_reducible refine at9 301 ?_); apply con_use (sixes_name (lawName_in _) _ _ _)) | ((with_reducible refine at9 315 ?_); apply con_use (law_heard_c _ _ _)) | ((with_reducible refine at9 334 ?_); apply con_use (law_once_m ?_ ?_ ?_)) | ((with_reducible refine at9 203 ?_); apply con_useT (sld_m ?_ ?_ ?_ ?_ ?_ ?_ ?_ ?_))); walk_at "con9"))) | ((with_reducible refine un_stop 2 ?_); (k_dflt (refine encode_call (name_ok (lawName_in _)).isName.ascii (Nat.le_trans (name_ok (lawName_in _)).isName.size (by decide)) ?_; intro _ _))) | ((with_reducible refine un_stop 3 ?_); ((with_reducible refine at9 322 ?_); k_dflt (refine wpAny_call ?_; apply code_defSX; (all_goals try (refine frP ?_; k_asm)); walk_at "ent7")))); k_steps))))
      unfold Stop
      rename News _ _ _ _ => N7
      rename Fr _ _ _ _ => F7
      refine comp_V [(_, _), (_, _), (_, _), (_, _)] F7 rfl (by with_unfolding_all rfl) (by decide) rfl (by decide) (fun _ => rfl) (by decide) ?_
      (k_steps; (repeat (any_goals ((first | ((with_reducible refine un_stop 1 ?_); (k_dflt ((first | ((with_reducible refine at9 296 ?_); apply con_use (law_name_c _ _ _)) | ((with_reducible refine at9 301 ?_); apply con_use (sixes_name (lawName_in _) _ _ _)) | ((with_reducible refine at9 315 ?_); apply con_use (law_heard_c _ _ _)) | ((with_reducible refine at9 334 ?_); apply con_use (law_once_m ?_ ?_ ?_)) | ((with_reducible refine at9 203 ?_); apply con_useT (sld_m ?_ ?_ ?_ ?_ ?_ ?_ ?_ ?_))); walk_at "con9"))) | ((with_reducible refine un_stop 2 ?_); (k_dflt (refine encode_call (name_ok (lawName_in _)).isName.ascii (Nat.le_trans (name_ok (lawName_in _)).isName.size (by decide)) ?_; intro _ _))) | ((with_reducible refine un_stop 3 ?_); ((with_reducible refine at9 322 ?_); k_dflt (refine wpAny_call ?_; apply code_defSX; (all_goals try (refine frP ?_; k_asm)); walk_at "ent7")))); k_steps))))
      unfold Stop
      rename News _ _ _ _ => N8
      rename Fr _ _ _ _ => F8
      refine (let G9 : Prop := _; show G9 from ?_)
      obtain ⟨Ts, vals, hTs⟩ := skolem2 (heards_at hda)
      k_unfold
      clear G9
      refine tups_src Ts vals (fun _ => true) (fun i y => ∃ t : Tok, y = .str (lawName (xs.getD i 0)) t) rfl F8 N8 (.tail _ (.head _)) (by rw [hl, List.size_toArray]; omega) ?te ?tf ?tg
      case te => exact fun j hj => ⟨(hTs j hj).1, (hTs j hj).2.1.imp fun kk h => own_keep h, (hTs j hj).2.2.1⟩
      case tf =>
        rintro i v I oI C oC D mm ys9 h9 tk9 E9 hi ⟨_, hv⟩ hC F N off
        refine (let G9 : Prop := _; show G9 from ?_)
        obtain ⟨_, _, _, t, b, c, d, e⟩ := hTs i hi
        k_unfold
        clear G9
        obtain rfl : v = vals i := by simpa using hv
        rw [e] at hC
        obtain ⟨m₂, hC, hx⟩ : ∃ m₂, LCg.NsObj oC m₂ ∧ m₂ (Str.ofString "name") = some (.str (lawName (xs.getD i 0)) t) := ⟨_, hC, by (rw [put4]; dsimp only; (repeat (refine look_skip (by decide +kernel) ?_)); exact if_pos rfl)⟩
        refine wpAny_tests_nil ⟨rfl, _, rfl, fun _ => ?_⟩
        (k_steps; (repeat (any_goals ((first | ((with_reducible refine un_stop 1 ?_); (k_dflt ((first | ((with_reducible refine at9 296 ?_); apply con_use (law_name_c _ _ _)) | ((with_reducible refine at9 301 ?_); apply con_use (sixes_name (lawName_in _) _ _ _)) | ((with_reducible refine at9 315 ?_); apply con_use (law_heard_c _ _ _)) | ((with_reducible refine at9 334 ?_); apply con_use (law_once_m ?_ ?_ ?_)) | ((with_reducible refine at9 203 ?_); apply con_useT (sld_m ?_ ?_ ?_ ?_ ?_ ?_ ?_ ?_))); walk_at "con9"))) | ((with_reducible refine un_stop 2 ?_); (k_dflt (refine encode_call (name_ok (lawName_in _)).isName.ascii (Nat.le_trans (name_ok (lawName_in _)).isName.size (by decide)) ?_; intro _ _))) | ((with_reducible refine un_stop 3 ?_); ((with_reducible refine at9 322 ?_); k_dflt (refine wpAny_call ?_; apply code_defSX; (all_goals try (refine frP ?_; k_asm)); walk_at "ent7")))); k_steps))))
      case tg =>
        intro D3 h3 tk3 ys3 F9 N9 hne hP
        have hS := paired_strs hP
        have hys : ys.length = xs.length := by rw [hl, List.size_toArray]; omega
        rw [hys, List.filter_eq_self.mpr (fun _ _ => rfl), map_getD lawName 0 xs] at hS
        clear hP
        (k_steps; (repeat (any_goals ((first | ((with_reducible refine un_stop 1 ?_); (k_dflt ((first | ((with_reducible refine at9 296 ?_); apply con_use (law_name_c _ _ _)) | ((with_reducible refine at9 301 ?_); apply con_use (sixes_name (lawName_in _) _ _ _)) | ((with_reducible refine at9 315 ?_); apply con_use (law_heard_c _ _ _)) | ((with_reducible refine at9 334 ?_); apply con_use (law_once_m ?_ ?_ ?_)) | ((with_reducible refine at9 203 ?_); apply con_useT (sld_m ?_ ?_ ?_ ?_ ?_ ?_ ?_ ?_))); walk_at "con9"))) | ((with_reducible refine un_stop 2 ?_); (k_dflt (refine encode_call (name_ok (lawName_in _)).isName.ascii (Nat.le_trans (name_ok (lawName_in _)).isName.size (by decide)) ?_; intro _ _))) | ((with_reducible refine un_stop 3 ?_); ((with_reducible refine at9 322 ?_); k_dflt (refine wpAny_call ?_; apply code_defSX; (all_goals try (refine frP ?_; k_asm)); walk_at "ent7")))); k_steps))))
        rename News _ _ _ _ => N10
        rename Fr _ _ _ _ => F10
        have hown : ∀ p ∈ own', p.1 ≠ D3 := fun p hp => hne p (.tail _ (.tail _ (.tail _ (.tail _ (.tail _ (List.mem_append.mpr (.inr hp)))))))
        have hnw : ∀ p ∈ nw, p.1 ≠ D3 := fun p hp => hne p (.tail _ (.tail _ (.tail _ (.tail _ (.tail _ (List.mem_append.mpr (.inl (List.mem_append.mpr (.inr hp)))))))))
        have h1 := hne _ (.head _)
        have h2 := hne _ (.tail _ (.tail _ (.tail _ (.head _))))
        have h3 := hne _ (.tail _ (.tail _ (.tail _ (.tail _ (.head _)))))
        have hoRW : ∀ p ∈ own', p.1 ≠ RW := fun p hp => hoff p hp RW (.head _)
        refine (let G9 : Prop := _; show G9 from ?_)
        obtain ⟨_, q1, q2, q3⟩ := hsep
        k_unfold
        clear G9
        refine app_any F10 (turn_pick2 N10) (fun o9 => Upd.head ?th) (by omega) ?ti
        case th =>
          exact al (Ne.symm h1) (al (Ne.symm q1) (al (Ne.symm q2) (al2 (fun p hp => (hsp p hp).1) hoRW)))
        case ti =>
          intro h11 n11 F11 N11
          clear N10 F10 N8 F8
          (k_steps; (repeat (any_goals ((first | ((with_reducible refine un_stop 1 ?_); (k_dflt ((first | ((with_reducible refine at9 296 ?_); apply con_use (law_name_c _ _ _)) | ((with_reducible refine at9 301 ?_); apply con_use (sixes_name (lawName_in _) _ _ _)) | ((with_reducible refine at9 315 ?_); apply con_use (law_heard_c _ _ _)) | ((with_reducible refine at9 334 ?_); apply con_use (law_once_m ?_ ?_ ?_)) | ((with_reducible refine at9 203 ?_); apply con_useT (sld_m ?_ ?_ ?_ ?_ ?_ ?_ ?_ ?_))); walk_at "con9"))) | ((with_reducible refine un_stop 2 ?_); (k_dflt (refine encode_call (name_ok (lawName_in _)).isName.ascii (Nat.le_trans (name_ok (lawName_in _)).isName.size (by decide)) ?_; intro _ _))) | ((with_reducible refine un_stop 3 ?_); ((with_reducible refine at9 322 ?_); k_dflt (refine wpAny_call ?_; apply code_defSX; (all_goals try (refine frP ?_; k_asm)); walk_at "ent7")))); k_steps))))
          unfold Stop
          refine InvEndG.intro (nx := (RW, listOf (rv ++ [Value.ref D3]).toArray n11) :: (c2, o2) :: (c1, o1) :: (D3, LCg.lst ys3) :: nw) F11 N11 ⟨.tail _ (.tail _ (.tail _ (.tail _ hTL))), rv ++ [Value.ref D3], n11, _, rfl, by simp [hrl], ?e2, .tail _ hTL, .tail _ hT1, .tail _ hT2, .tail _ h336, ?e3, ?e4⟩ ?e5 ?e6 ?e7
          case e2 =>
            rw [List.take_add_one, hxs]
            exact rows_snoc (D := D3) (n := ys3.length) (fun p hp => .tail _ hp) (.head _) hS hrows
          case e3 =>
            intro p hp
            rcases List.mem_cons.mp hp with rfl | hp
            · exact ⟨Ne.symm h1, Ne.symm h2, Ne.symm h3⟩
            · exact hsp p hp
          case e4 => walk_at "look9"
          case e5 =>
            exact fun p hp => al (hoRW p hp) (al (hoff p hp _ (.tail _ (.head _))) (al (hoff p hp _ (.tail _ (.tail _ (.head _)))) (al (hown p hp) fun b hb => (List.mem_map.mp hb).elim fun q hq => hq.2 ▸ hoff p hp _ (.tail _ (.tail _ (.tail _ (List.mem_map_of_mem hq.1)))))))
          case e6 =>
            exact al (.head _) (al (.tail _ (.tail _ (.head _))) (al (.tail _ (.tail _ (.tail _ (.head _)))) (al (.tail _ (.head _)) fun p h => .tail _ (.tail _ (.tail _ (.tail _ (inl9 h)))))))
          case e7 => exact fun p hp => .tail _ (.tail _ (.tail _ (.tail _ (List.mem_append.mpr (.inr hp)))))
end
section
set_option maxRecDepth 100000 in
set_option maxHeartbeats 6400000 in
noncomputable def cut2 : {P : Prop // Wait P → cut1.P2} := by
  refine ⟨?P, ?h⟩
  case h =>
    intro hP
    intro w s₀ s₁ mg mb fa h₁ tk₁ h' tk RW c2 c1 o2 o1 xs1 xs2 m₂ h2 tk2 nr nw R1 R2 rs1 rs2 n1 n2 X9 T9 K9 C9 hx1 hx2 ec2 ec1 eo2 eo1 h336 hsp mrow F2 N2 hR1 hR2 hS1 hS2 hsep
    (k_steps; (repeat (any_goals ((first | ((with_reducible refine un_stop 1 ?_); (k_dflt ((first | ((with_reducible refine at9 296 ?_); apply con_use (law_name_c _ _ _)) | ((with_reducible refine at9 301 ?_); apply con_use (sixes_name (lawName_in _) _ _ _)) | ((with_reducible refine at9 315 ?_); apply con_use (law_heard_c _ _ _)) | ((with_reducible refine at9 334 ?_); apply con_use (law_once_m ?_ ?_ ?_)) | ((with_reducible refine at9 203 ?_); apply con_useT (sld_m ?_ ?_ ?_ ?_ ?_ ?_ ?_ ?_))); walk_at "con9"))) | ((with_reducible refine un_stop 2 ?_); (k_dflt (refine encode_call (name_ok (lawName_in _)).isName.ascii (Nat.le_trans (name_ok (lawName_in _)).isName.size (by decide)) ?_; intro _ _))) | ((with_reducible refine un_stop 3 ?_); ((with_reducible refine at9 322 ?_); k_dflt (refine wpAny_call ?_; apply code_defSX; (all_goals try (refine frP ?_; k_asm)); walk_at "ent7")))); k_steps))))
    unfold Stop
    have hRin : (RW, listOf [Value.ref R1, Value.ref R2].toArray nr) ∈ (RW, listOf [Value.ref R1, Value.ref R2].toArray nr) :: (c2, o2) :: (c1, o1) :: nw := .head _
    refine LCg.CompSrc.ledger rfl F2 N2 hRin (by rw [sizeLine_eq]; simp) ?_
    intro g7
    refine own_rest (fun k nw y => ∃ D vs' o, y = .ref D ∧ (c1 ≠ D ∧ c2 ≠ D) ∧ (D, LCg.lst vs') ∈ nw ∧ StrsAre vs' o ∧ OnceOf ([xs1.map lawName, xs2.map lawName].getD k []) o) (fun k nw nw' y hs ⟨D, vs', o, e, hc, hm, h⟩ => ⟨D, vs', o, e, hc, hs _ hm, h⟩) ?oa ?ob
    case oa =>
      intro k v I oI C oC D m₄ ys own h' tk' E' hk hv' hC hx F N off ne
      refine (let G9 : Prop := _; show G9 from ?_)
      suffices H9 : ∀ Rk rsk nk xk, v = .ref Rk → (Rk, listOf (List.toArray rsk) nk) ∈ nw → StrsAre rsk xk → rsk.length ≤ 8 → [xs1.map lawName, xs2.map lawName].getD k [] = xk → G9 by
        rcases two_at (show [_, _][k]? = some v by simpa using hv') with ⟨ek, ev⟩ | ⟨ek, ev⟩
        · exact H9 R1 rs1 n1 _ ev hR1 hS1 (by rw [hS1.length, List.length_map]; omega) (by rw [ek]; rfl)
        · exact H9 R2 rs2 n2 _ ev hR2 hS2 (by rw [hS2.length, List.length_map]; omega) (by rw [ek]; rfl)
      intro Rk rsk nk xk ev hRk hSk hlk ek
      k_unfold
      clear G9
      subst ev
      rw [ek]
      have hRk' : (Rk, listOf (List.toArray rsk) nk) ∈ (I, oI) :: (C, oC) :: (D, LCg.lst ys) :: (own ++ ((RW, listOf [Value.ref R1, Value.ref R2].toArray nr) :: (c2, o2) :: (c1, o1) :: nw)) := .tail _ (.tail _ (.tail _ (List.mem_append.mpr (.inr (.tail _ (.tail _ (.tail _ hRk)))))))
      (k_steps; (repeat (any_goals ((first | ((with_reducible refine un_stop 1 ?_); (k_dflt ((first | ((with_reducible refine at9 296 ?_); apply con_use (law_name_c _ _ _)) | ((with_reducible refine at9 301 ?_); apply con_use (sixes_name (lawName_in _) _ _ _)) | ((with_reducible refine at9 315 ?_); apply con_use (law_heard_c _ _ _)) | ((with_reducible refine at9 334 ?_); apply con_use (law_once_m ?_ ?_ ?_)) | ((with_reducible refine at9 203 ?_); apply con_useT (sld_m ?_ ?_ ?_ ?_ ?_ ?_ ?_ ?_))); walk_at "con9"))) | ((with_reducible refine un_stop 2 ?_); (k_dflt (refine encode_call (name_ok (lawName_in _)).isName.ascii (Nat.le_trans (name_ok (lawName_in _)).isName.size (by decide)) ?_; intro _ _))) | ((with_reducible refine un_stop 3 ?_); ((with_reducible refine at9 322 ?_); k_dflt (refine wpAny_call ?_; apply code_defSX; (all_goals try (refine frP ?_; k_asm)); walk_at "ent7")))); k_steps))))
      exact one_end (by assumption) (by assumption) (by assumption) off (.tail _ (List.mem_append.mpr (.inr (.head _)))) fun hn => ⟨[_], rfl, _, _, _, rfl, ⟨hn (c1, o1) (List.mem_append.mpr (.inr (.tail _ (.tail _ (.head _))))), hn (c2, o2) (List.mem_append.mpr (.inr (.tail _ (.head _))))⟩, .head _, by assumption, by assumption⟩
    case ob =>
      intro ys own hl hy
      refine (let G9 : Prop := _; show G9 from ?_)
      obtain ⟨y0, e0, A, va, oa, rfl, ⟨hA1, hA2⟩, hA, hSa, hOa⟩ := hy 0 (by simp)
      obtain ⟨y1, e1, B, vb, ob, rfl, ⟨hB1, hB2⟩, hB, hSb, hOb⟩ := hy 1 (by simp)
      k_unfold
      clear G9
      obtain rfl : ys = [.ref A, .ref B] := two_of hl e0 e1
      clear hy
      (k_steps; (repeat (any_goals ((first | ((with_reducible refine un_stop 1 ?_); (k_dflt ((first | ((with_reducible refine at9 296 ?_); apply con_use (law_name_c _ _ _)) | ((with_reducible refine at9 301 ?_); apply con_use (sixes_name (lawName_in _) _ _ _)) | ((with_reducible refine at9 315 ?_); apply con_use (law_heard_c _ _ _)) | ((with_reducible refine at9 334 ?_); apply con_use (law_once_m ?_ ?_ ?_)) | ((with_reducible refine at9 203 ?_); apply con_useT (sld_m ?_ ?_ ?_ ?_ ?_ ?_ ?_ ?_))); walk_at "con9"))) | ((with_reducible refine un_stop 2 ?_); (k_dflt (refine encode_call (name_ok (lawName_in _)).isName.ascii (Nat.le_trans (name_ok (lawName_in _)).isName.size (by decide)) ?_; intro _ _))) | ((with_reducible refine un_stop 3 ?_); ((with_reducible refine at9 322 ?_); k_dflt (refine wpAny_call ?_; apply code_defSX; (all_goals try (refine frP ?_; k_asm)); walk_at "ent7")))); k_steps))))
      rename News _ _ _ _ => N3
      rename Fr _ _ _ _ => F3
      obtain ⟨q1, q2, q3⟩ := hsep
      have N4 : News _ _ _ ((c1, o1) :: (c2, o2) :: (A, LCg.lst va) :: (B, LCg.lst vb) :: (RW, listOf [Value.ref R1, Value.ref R2].toArray nr) :: nw) := one_pick N3 hA hB
      refine storeX_C (c := c1) F3 N4 (by rw [ec1]; rfl) (UpdF.head ?u1) eo1 ?u2
      case u1 =>
        exact al q3 (al (Ne.symm hA1) (al (Ne.symm hB1) (al q2 fun p hp => (hsp p hp).2.2)))
      case u2 =>
        intro h4 o4 F4 N5 eo4
        clear N3 F3 N4
        (k_steps; (repeat (any_goals ((first | ((with_reducible refine un_stop 1 ?_); (k_dflt ((first | ((with_reducible refine at9 296 ?_); apply con_use (law_name_c _ _ _)) | ((with_reducible refine at9 301 ?_); apply con_use (sixes_name (lawName_in _) _ _ _)) | ((with_reducible refine at9 315 ?_); apply con_use (law_heard_c _ _ _)) | ((with_reducible refine at9 334 ?_); apply con_use (law_once_m ?_ ?_ ?_)) | ((with_reducible refine at9 203 ?_); apply con_useT (sld_m ?_ ?_ ?_ ?_ ?_ ?_ ?_ ?_))); walk_at "con9"))) | ((with_reducible refine un_stop 2 ?_); (k_dflt (refine encode_call (name_ok (lawName_in _)).isName.ascii (Nat.le_trans (name_ok (lawName_in _)).isName.size (by decide)) ?_; intro _ _))) | ((with_reducible refine un_stop 3 ?_); ((with_reducible refine at9 322 ?_); k_dflt (refine wpAny_call ?_; apply code_defSX; (all_goals try (refine frP ?_; k_asm)); walk_at "ent7")))); k_steps))))
        have N6 : News _ _ _ ((c2, o2) :: (c1, o4) :: (A, LCg.lst va) :: (B, LCg.lst vb) :: (RW, listOf [Value.ref R1, Value.ref R2].toArray nr) :: nw) := fun p hp => N5 p (rot (a := [_]) (b := [_]) hp)
        refine storeX_C (c := c2) F4 N6 (by rw [ec2]; rfl) (UpdF.head ?u3) eo2 ?u4
        case u3 =>
          exact al (Ne.symm q3) (al (Ne.symm hA2) (al (Ne.symm hB2) (al q1 fun p hp => (hsp p hp).2.1)))
        case u4 =>
          intro h5 o5 F5 N7 eo5
          clear N5 F4 N6
          (k_steps; (repeat (any_goals ((first | ((with_reducible refine un_stop 1 ?_); (k_dflt ((first | ((with_reducible refine at9 296 ?_); apply con_use (law_name_c _ _ _)) | ((with_reducible refine at9 301 ?_); apply con_use (sixes_name (lawName_in _) _ _ _)) | ((with_reducible refine at9 315 ?_); apply con_use (law_heard_c _ _ _)) | ((with_reducible refine at9 334 ?_); apply con_use (law_once_m ?_ ?_ ?_)) | ((with_reducible refine at9 203 ?_); apply con_useT (sld_m ?_ ?_ ?_ ?_ ?_ ?_ ?_ ?_))); walk_at "con9"))) | ((with_reducible refine un_stop 2 ?_); (k_dflt (refine encode_call (name_ok (lawName_in _)).isName.ascii (Nat.le_trans (name_ok (lawName_in _)).isName.size (by decide)) ?_; intro _ _))) | ((with_reducible refine un_stop 3 ?_); ((with_reducible refine at9 322 ?_); k_dflt (refine wpAny_call ?_; apply code_defSX; (all_goals try (refine frP ?_; k_asm)); walk_at "ent7")))); k_steps))))
          have N9 : News _ _ _ [(c2, o5), (c1, o4), (A, LCg.lst va), (B, LCg.lst vb), (RW, listOf [Value.ref R1, Value.ref R2].toArray nr), (R1, listOf rs1.toArray n1), (R2, listOf rs2.toArray n2), (336, tabObj #[])] := pk N7 (al (.head _) (al (.tail _ (.head _)) (al (.tail _ (.tail _ (.head _))) (al (.tail _ (.tail _ (.tail _ (.head _)))) (al (.tail _ (.tail _ (.tail _ (.tail _ (.head _))))) (al (.tail _ (.tail _ (.tail _ (.tail _ (.tail _ hR1))))) (al (.tail _ (.tail _ (.tail _ (.tail _ (.tail _ hR2))))) (al (.tail _ (.tail _ (.tail _ (.tail _ (.tail _ h336))))) al0))))))))
          refine (let G9 : Prop := _; show G9 from ?_)
          obtain ⟨m3, F9, mrow⟩ : ∃ m3, Fr _ _ _ m3 ∧ m3 (Str.ofString "rows") = some (.ref RW) := ⟨_, F5, by walk_at "look9"⟩
          obtain ⟨sA, memA, lenA⟩ := hOa.facts
          obtain ⟨sB, memB, lenB⟩ := hOb.facts
          have nmA : ∀ x ∈ oa, x ∈ allNames := fun x hx => by
            obtain ⟨y, _, rfl⟩ := List.mem_map.mp ((memA x).mp hx)
            exact lawName_in y
          have nmB : ∀ x ∈ ob, x ∈ allNames := fun x hx => by
            obtain ⟨y, _, rfl⟩ := List.mem_map.mp ((memB x).mp hx)
            exact lawName_in y
          have hlA : va.length ≤ 8 := by rw [hSa.length]; refine Nat.le_trans lenA ?_; simp; omega
          have hlB : vb.length ≤ 8 := by rw [hSb.length]; refine Nat.le_trans lenB ?_; simp; omega
          suffices H9 : ∀ r1 r2, StrsAre rs1 r1 → StrsAre rs2 r2 → (∀ x ∈ r1, x ∈ allNames) → (∀ x ∈ r2, x ∈ allNames) → (4 ≤ r1.length ∧ r1.length ≤ 8) → (4 ≤ r2.length ∧ r2.length ≤ 8) → G9 from
            H9 _ _ hS1 hS2 (fun x hx => by (obtain ⟨y, _, rfl⟩ := List.mem_map.mp hx; exact lawName_in y)) (fun x hx => by (obtain ⟨y, _, rfl⟩ := List.mem_map.mp hx; exact lawName_in y)) (by simp; omega) (by simp; omega)
          clear hS1 hS2
          intro r1 r2 hS1 hS2 nm1 nm2 hl1 hl2
          k_unfold
          clear G9
          revert X9 T9 K9 C9 ec2 ec1 eo4 eo5 F9 N9 mrow hSa hSb sA sB nmA nmB hlA hlB hS1 hS2 nm1 nm2 hl1 hl2
          repeat (first | exact Wait.go (by assumption) | clear ‹_› | revert ‹_›)
end
section
local macro_rules | `(tactic| walk_at "execs cons Assign cons") => `(tactic| (refine of_stop ?_))
set_option maxRecDepth 100000 in
set_option maxHeartbeats 6400000 in
noncomputable def cut3 : {P : Prop // Wait P → cut2.1} := by
  refine ⟨?P, ?h⟩
  case h =>
    intro hP
    intro w s₀ s₁ mg mb fa h₁ tk₁ RW c2 c1 nr R1 R2 rs1 rs2 n1 n2 A va oa B vb ob o4 h5 o5 tk m3 r1 r2 X9 T9 K9 C9 ec2 ec1 hSa hSb eo4 eo5 N9 F9 mrow sA sB nmA nmB hlA hlB hS1 hS2 nm1 nm2 hl1 hl2
    unfold Stop
    subst ec1 ec2
    refine LCt.ListComp_T (F₀ := F9) (by with_unfolding_all rfl) (by decide) (by rfl) (by decide) (by rfl) ?_
    refine nameX_C N9 rfl (.tail _ (.head _)) eo4 ?_ rfl rfl
    refine LCt.CompSrcT.ledger rfl F9 N9 (.tail _ (.tail _ (.head _))) (by rw [List.size_toArray, sizeLine_eq]; omega) ?_
    intro g6
    refine text_restT (fun i => oa.getD i Str.empty) (fun i => !ob.contains (oa.getD i Str.empty)) ?da ?db
    case da =>
      intro i v I oI C oC D m₄ ys h' tk' E' hi hv hC hx F N off ne
      obtain ⟨z, tz, rfl, hz, hzm⟩ := strs_getD hSa (by simpa using hv)
      simp only [hz]
      have okz := (names_strOk z (nmA z hzm)).1
      have okB : ∀ y ∈ ob, PyData.strOk y = true := fun y hy => (names_strOk y (nmB y hy)).1
      (k_steps; (repeat (any_goals ((first | ((with_reducible refine un_stop 1 ?_); (k_dflt ((first | ((with_reducible refine at9 296 ?_); apply con_use (law_name_c _ _ _)) | ((with_reducible refine at9 301 ?_); apply con_use (sixes_name (lawName_in _) _ _ _)) | ((with_reducible refine at9 315 ?_); apply con_use (law_heard_c _ _ _)) | ((with_reducible refine at9 334 ?_); apply con_use (law_once_m ?_ ?_ ?_)) | ((with_reducible refine at9 203 ?_); apply con_useT (sld_m ?_ ?_ ?_ ?_ ?_ ?_ ?_ ?_))); walk_at "con9"))) | ((with_reducible refine un_stop 2 ?_); (k_dflt (refine encode_call (name_ok (lawName_in _)).isName.ascii (Nat.le_trans (name_ok (lawName_in _)).isName.size (by decide)) ?_; intro _ _))) | ((with_reducible refine un_stop 3 ?_); ((with_reducible refine at9 322 ?_); k_dflt (refine wpAny_call ?_; apply code_defSX; (all_goals try (refine frP ?_; k_asm)); walk_at "ent7")))); k_steps))))
      · rename (ob.any _) = true => hin
        exact no_end F N off (.tail _ (.tail _ (.head _))) ⟨by simpa using hin, rfl⟩
      · rename (ob.any _) = false => hin
        exact no_end F N off (.tail _ (.tail _ (.head _))) ⟨by (have h9 : ∀ x ∈ ob, ¬ x = z := by simpa using hin); simpa using fun hm => h9 z hm rfl, rfl, _, rfl⟩
    case db =>
      intro uA huA
      rw [List.size_toArray, hSa.length, lack_range] at huA
      (k_steps; (repeat (any_goals ((first | ((with_reducible refine un_stop 1 ?_); (k_dflt ((first | ((with_reducible refine at9 296 ?_); apply con_use (law_name_c _ _ _)) | ((with_reducible refine at9 301 ?_); apply con_use (sixes_name (lawName_in _) _ _ _)) | ((with_reducible refine at9 315 ?_); apply con_use (law_heard_c _ _ _)) | ((with_reducible refine at9 334 ?_); apply con_use (law_once_m ?_ ?_ ?_)) | ((with_reducible refine at9 203 ?_); apply con_useT (sld_m ?_ ?_ ?_ ?_ ?_ ?_ ?_ ?_))); walk_at "con9"))) | ((with_reducible refine un_stop 2 ?_); (k_dflt (refine encode_call (name_ok (lawName_in _)).isName.ascii (Nat.le_trans (name_ok (lawName_in _)).isName.size (by decide)) ?_; intro _ _))) | ((with_reducible refine un_stop 3 ?_); ((with_reducible refine at9 322 ?_); k_dflt (refine wpAny_call ?_; apply code_defSX; (all_goals try (refine frP ?_; k_asm)); walk_at "ent7")))); k_steps))))
      unfold Stop
      rename News _ _ _ _ => N8
      rename Fr _ _ _ _ => F8
      refine LCt.ListComp_T (F₀ := F8) (by with_unfolding_all rfl) (by decide) (by rfl) (by decide) (by rfl) ?_
      refine nameX_C N8 rfl (.tail _ (.head _)) eo5 ?_ rfl rfl
      refine LCt.CompSrcT.ledger rfl F8 N8 (.tail _ (.tail _ (.tail _ (.tail _ (.head _))))) (by rw [List.size_toArray, sizeLine_eq]; omega) ?_
      intro g5
      refine text_restT (fun i => ob.getD i Str.empty) (fun i => !oa.contains (ob.getD i Str.empty)) ?dc ?dd
      case dc =>
        intro i v I oI C oC D m₄ ys h' tk' E' hi hv hC hx F N off ne
        obtain ⟨z, tz, rfl, hz, hzm⟩ := strs_getD hSb (by simpa using hv)
        simp only [hz]
        have okz := (names_strOk z (nmB z hzm)).1
        have okA : ∀ y ∈ oa, PyData.strOk y = true := fun y hy => (names_strOk y (nmA y hy)).1
        (k_steps; (repeat (any_goals ((first | ((with_reducible refine un_stop 1 ?_); (k_dflt ((first | ((with_reducible refine at9 296 ?_); apply con_use (law_name_c _ _ _)) | ((with_reducible refine at9 301 ?_); apply con_use (sixes_name (lawName_in _) _ _ _)) | ((with_reducible refine at9 315 ?_); apply con_use (law_heard_c _ _ _)) | ((with_reducible refine at9 334 ?_); apply con_use (law_once_m ?_ ?_ ?_)) | ((with_reducible refine at9 203 ?_); apply con_useT (sld_m ?_ ?_ ?_ ?_ ?_ ?_ ?_ ?_))); walk_at "con9"))) | ((with_reducible refine un_stop 2 ?_); (k_dflt (refine encode_call (name_ok (lawName_in _)).isName.ascii (Nat.le_trans (name_ok (lawName_in _)).isName.size (by decide)) ?_; intro _ _))) | ((with_reducible refine un_stop 3 ?_); ((with_reducible refine at9 322 ?_); k_dflt (refine wpAny_call ?_; apply code_defSX; (all_goals try (refine frP ?_; k_asm)); walk_at "ent7")))); k_steps))))
        · rename (oa.any _) = true => hin
          exact no_end F N off (.tail _ (.tail _ (.tail _ (.tail _ (.head _))))) ⟨by simpa using hin, rfl⟩
        · rename (oa.any _) = false => hin
          exact no_end F N off (.tail _ (.tail _ (.tail _ (.tail _ (.head _))))) ⟨by (have h9 : ∀ x ∈ oa, ¬ x = z := by simpa using hin); simpa using fun hm => h9 z hm rfl, rfl, _, rfl⟩
      case dd =>
        intro uB huB
        rw [List.size_toArray, hSb.length, lack_range] at huB
        (k_steps; (repeat (any_goals ((first | ((with_reducible refine un_stop 1 ?_); (k_dflt ((first | ((with_reducible refine at9 296 ?_); apply con_use (law_name_c _ _ _)) | ((with_reducible refine at9 301 ?_); apply con_use (sixes_name (lawName_in _) _ _ _)) | ((with_reducible refine at9 315 ?_); apply con_use (law_heard_c _ _ _)) | ((with_reducible refine at9 334 ?_); apply con_use (law_once_m ?_ ?_ ?_)) | ((with_reducible refine at9 203 ?_); apply con_useT (sld_m ?_ ?_ ?_ ?_ ?_ ?_ ?_ ?_))); walk_at "con9"))) | ((with_reducible refine un_stop 2 ?_); (k_dflt (refine encode_call (name_ok (lawName_in _)).isName.ascii (Nat.le_trans (name_ok (lawName_in _)).isName.size (by decide)) ?_; intro _ _))) | ((with_reducible refine un_stop 3 ?_); ((with_reducible refine at9 322 ?_); k_dflt (refine wpAny_call ?_; apply code_defSX; (all_goals try (refine frP ?_; k_asm)); walk_at "ent7")))); k_steps))))
        unfold Stop
        rename StrsAre _ (lackF ob oa) => eM
        rename StrsAre _ (lackF oa ob) => eU
        rename News _ _ _ _ => N10
        rename Fr _ _ _ _ => F10
        refine ne_data N10 (.tuple (.head _) (.cons (.list (.tail _ (.tail _ (.head _))) (datAll_strs eM)) (.cons (.list (.tail _ (.head _)) (datAll_strs eU)) .nil))) (fun p hp => hp) (.tuple (.tail _ (.tail _ (.tail _ (.head _)))) (.cons (.list (.tail _ (.tail _ (.tail _ (.tail _ (.tail _ (.head _)))))) (datAll_strs huA)) (.cons (.list (.tail _ (.tail _ (.tail _ (.tail _ (.head _))))) (datAll_strs huB)) .nil))) (fun p hp => hp) (due_ok nmA nmB) (due_ok nmA nmB) (by ktr_units) rfl ?_
        (k_steps; (repeat (any_goals ((first | ((with_reducible refine un_stop 1 ?_); (k_dflt ((first | ((with_reducible refine at9 296 ?_); apply con_use (law_name_c _ _ _)) | ((with_reducible refine at9 301 ?_); apply con_use (sixes_name (lawName_in _) _ _ _)) | ((with_reducible refine at9 315 ?_); apply con_use (law_heard_c _ _ _)) | ((with_reducible refine at9 334 ?_); apply con_use (law_once_m ?_ ?_ ?_)) | ((with_reducible refine at9 203 ?_); apply con_useT (sld_m ?_ ?_ ?_ ?_ ?_ ?_ ?_ ?_))); walk_at "con9"))) | ((with_reducible refine un_stop 2 ?_); (k_dflt (refine encode_call (name_ok (lawName_in _)).isName.ascii (Nat.le_trans (name_ok (lawName_in _)).isName.size (by decide)) ?_; intro _ _))) | ((with_reducible refine un_stop 3 ?_); ((with_reducible refine at9 322 ?_); k_dflt (refine wpAny_call ?_; apply code_defSX; (all_goals try (refine frP ?_; k_asm)); walk_at "ent7")))); k_steps))))
        unfold Stop
        rename Fr _ _ _ _ => F11
        refine (let G9 : Prop := _; show G9 from ?_)
        suffices H9 : ∀ DU UA UB m4, Fr _ _ _ m4 → News _ _ _ [(DU, ({ cls := .type "tuple", data := .seq #[.ref UA, .ref UB] } : Obj)), (UB, LCg.lst uB), (UA, LCg.lst uA), (_, o5), (_, o4), (A, LCg.lst va), (B, LCg.lst vb), (RW, listOf [Value.ref R1, Value.ref R2].toArray nr), (R1, listOf rs1.toArray n1), (R2, listOf rs2.toArray n2), (336, tabObj #[])] → m4 (Str.ofString "due") = some (.ref DU) → m4 (Str.ofString "rows") = some (.ref RW) → G9 from
          H9 _ _ _ _ F11 (fun p hp => N10 p (.tail _ (.tail _ (.tail _ hp)))) rfl (by walk_at "look9")
        intro DU UA UB m4 F12 N12 mdue mrow2
        k_unfold
        clear G9
        (try dsimp only)
        revert X9 T9 K9 C9 hSa hSb eo4 eo5 F12 N12 mdue mrow2 huA huB sA sB nmA nmB hlA hlB hS1 hS2 nm1 nm2 hl1 hl2
        repeat (first | exact Wait.go (by assumption) | clear ‹_› | revert ‹_›)
end
section
local macro_rules | `(tactic| walk_at "call ref") => `(tactic| ((with_reducible refine at9 308 ?_); refine of_stopk 4 ?_))
local macro_rules | `(tactic| walk_at "call builtin:sorted") => `(tactic| (refine of_stop ?_))
local macro_rules | `(tactic| walk_at "execs cons If cons") => `(tactic| (refine of_stop ?_))
set_option maxRecDepth 100000 in
set_option maxHeartbeats 6400000 in
noncomputable def cut4 : {P : Prop // Wait P → cut3.1} := by
  refine ⟨?P, ?h⟩
  case h =>
    intro hP
    intro w s₀ s₁ mg mb fa h₁ tk₁ RW nr R1 R2 rs1 rs2 n1 n2 A va oa B vb ob o4 o5 r1 r2 uA uB h9 t9 DU UA UB m4 X9 T9 K9 C9 hSa hSb eo4 eo5 sA sB nmA nmB hlA hlB hS1 hS2 nm1 nm2 hl1 hl2 huA huB F12 N12 mdue mrow
    (k_steps; (repeat (any_goals ((first | ((with_reducible refine un_stop 1 ?_); (k_dflt ((first | ((with_reducible refine at9 296 ?_); apply con_use (law_name_c _ _ _)) | ((with_reducible refine at9 301 ?_); apply con_use (sixes_name (lawName_in _) _ _ _)) | ((with_reducible refine at9 315 ?_); apply con_use (law_heard_c _ _ _)) | ((with_reducible refine at9 334 ?_); apply con_use (law_once_m ?_ ?_ ?_)) | ((with_reducible refine at9 203 ?_); apply con_useT (sld_m ?_ ?_ ?_ ?_ ?_ ?_ ?_ ?_))); walk_at "con9"))) | ((with_reducible refine un_stop 2 ?_); (k_dflt (refine encode_call (name_ok (lawName_in _)).isName.ascii (Nat.le_trans (name_ok (lawName_in _)).isName.size (by decide)) ?_; intro _ _))) | ((with_reducible refine un_stop 3 ?_); ((with_reducible refine at9 322 ?_); k_dflt (refine wpAny_call ?_; apply code_defSX; (all_goals try (refine frP ?_; k_asm)); walk_at "ent7"))) | ((with_reducible refine un_stop 4 ?_); (k_dflt ((((with_reducible refine at9 308 ?_); apply con_use (coded_t _ _ ?_ _))); walk_at "con9")))); k_steps))))
    unfold Stop
    refine LCg.CompSrc.ledger rfl F12 N12 (by k_mem) (by rw [List.size_toArray, sizeLine_eq]; omega) ?_
    intro g1
    refine text_rest (fun i => codedF (oa.getD i Str.empty)) ?ea ?eb
    case ea =>
      intro i v I oI C oC D m₅ ys h tk E' hi hv hC hx F N off ne
      obtain ⟨z, tz, rfl, hz, hzm⟩ := strs_getD hSa (by simpa using hv)
      simp only [hz]
      have H := name_ok (nmA z hzm)
      (k_steps; (repeat (any_goals ((first | ((with_reducible refine un_stop 1 ?_); (k_dflt ((first | ((with_reducible refine at9 296 ?_); apply con_use (law_name_c _ _ _)) | ((with_reducible refine at9 301 ?_); apply con_use (sixes_name (lawName_in _) _ _ _)) | ((with_reducible refine at9 315 ?_); apply con_use (law_heard_c _ _ _)) | ((with_reducible refine at9 334 ?_); apply con_use (law_once_m ?_ ?_ ?_)) | ((with_reducible refine at9 203 ?_); apply con_useT (sld_m ?_ ?_ ?_ ?_ ?_ ?_ ?_ ?_))); walk_at "con9"))) | ((with_reducible refine un_stop 2 ?_); (k_dflt (refine encode_call (name_ok (lawName_in _)).isName.ascii (Nat.le_trans (name_ok (lawName_in _)).isName.size (by decide)) ?_; intro _ _))) | ((with_reducible refine un_stop 3 ?_); ((with_reducible refine at9 322 ?_); k_dflt (refine wpAny_call ?_; apply code_defSX; (all_goals try (refine frP ?_; k_asm)); walk_at "ent7"))) | ((with_reducible refine un_stop 4 ?_); (k_dflt ((((with_reducible refine at9 308 ?_); apply con_use (coded_t _ _ ?_ _))); walk_at "con9")))); k_steps))))
      exact no_end (by assumption) (by assumption) off (by k_mem) ⟨rfl, _, rfl⟩
    case eb =>
      intro ya hya
      rw [List.size_toArray, hSa.length, map_getD codedF Str.empty] at hya
      have hla : ya.length ≤ 8 := by have e1 := hya.length; have e2 := hSa.length; rw [List.length_map] at e1; omega
      (k_steps; (repeat (any_goals ((first | ((with_reducible refine un_stop 1 ?_); (k_dflt ((first | ((with_reducible refine at9 296 ?_); apply con_use (law_name_c _ _ _)) | ((with_reducible refine at9 301 ?_); apply con_use (sixes_name (lawName_in _) _ _ _)) | ((with_reducible refine at9 315 ?_); apply con_use (law_heard_c _ _ _)) | ((with_reducible refine at9 334 ?_); apply con_use (law_once_m ?_ ?_ ?_)) | ((with_reducible refine at9 203 ?_); apply con_useT (sld_m ?_ ?_ ?_ ?_ ?_ ?_ ?_ ?_))); walk_at "con9"))) | ((with_reducible refine un_stop 2 ?_); (k_dflt (refine encode_call (name_ok (lawName_in _)).isName.ascii (Nat.le_trans (name_ok (lawName_in _)).isName.size (by decide)) ?_; intro _ _))) | ((with_reducible refine un_stop 3 ?_); ((with_reducible refine at9 322 ?_); k_dflt (refine wpAny_call ?_; apply code_defSX; (all_goals try (refine frP ?_; k_asm)); walk_at "ent7"))) | ((with_reducible refine un_stop 4 ?_); (k_dflt ((((with_reducible refine at9 308 ?_); apply con_use (coded_t _ _ ?_ _))); walk_at "con9")))); k_steps))))
      unfold Stop
      refine sorted_texts (by assumption) (by assumption) (by k_mem) hya (by omega) ?_
      intro DA h9 va9 ca e9 F13 N13 lt9 hSc pA oA
      k_lt lt9
      have sA' := codes_sorted sA nmA pA oA
      have hla9 : va9.length ≤ 8 := by have e1 := hSc.length; have e2 := hya.length; have e3 := pA.length_eq; omega
      (k_steps; (repeat (any_goals ((first | ((with_reducible refine un_stop 1 ?_); (k_dflt ((first | ((with_reducible refine at9 296 ?_); apply con_use (law_name_c _ _ _)) | ((with_reducible refine at9 301 ?_); apply con_use (sixes_name (lawName_in _) _ _ _)) | ((with_reducible refine at9 315 ?_); apply con_use (law_heard_c _ _ _)) | ((with_reducible refine at9 334 ?_); apply con_use (law_once_m ?_ ?_ ?_)) | ((with_reducible refine at9 203 ?_); apply con_useT (sld_m ?_ ?_ ?_ ?_ ?_ ?_ ?_ ?_))); walk_at "con9"))) | ((with_reducible refine un_stop 2 ?_); (k_dflt (refine encode_call (name_ok (lawName_in _)).isName.ascii (Nat.le_trans (name_ok (lawName_in _)).isName.size (by decide)) ?_; intro _ _))) | ((with_reducible refine un_stop 3 ?_); ((with_reducible refine at9 322 ?_); k_dflt (refine wpAny_call ?_; apply code_defSX; (all_goals try (refine frP ?_; k_asm)); walk_at "ent7"))) | ((with_reducible refine un_stop 4 ?_); (k_dflt ((((with_reducible refine at9 308 ?_); apply con_use (coded_t _ _ ?_ _))); walk_at "con9")))); k_steps))))
      unfold Stop
      rename News _ _ _ _ => N14
      rename Fr _ _ _ _ => F14
      refine LCg.CompSrc.ledger rfl F14 N14 (by k_mem) (by rw [List.size_toArray, sizeLine_eq]; omega) ?_
      intro g2
      refine text_rest (fun i => codedF (ob.getD i Str.empty)) ?ec ?ed
      case ec =>
        intro i v I oI C oC D m₅ ys h tk E' hi hv hC hx F N off ne
        obtain ⟨z, tz, rfl, hz, hzm⟩ := strs_getD hSb (by simpa using hv)
        simp only [hz]
        have H := name_ok (nmB z hzm)
        (k_steps; (repeat (any_goals ((first | ((with_reducible refine un_stop 1 ?_); (k_dflt ((first | ((with_reducible refine at9 296 ?_); apply con_use (law_name_c _ _ _)) | ((with_reducible refine at9 301 ?_); apply con_use (sixes_name (lawName_in _) _ _ _)) | ((with_reducible refine at9 315 ?_); apply con_use (law_heard_c _ _ _)) | ((with_reducible refine at9 334 ?_); apply con_use (law_once_m ?_ ?_ ?_)) | ((with_reducible refine at9 203 ?_); apply con_useT (sld_m ?_ ?_ ?_ ?_ ?_ ?_ ?_ ?_))); walk_at "con9"))) | ((with_reducible refine un_stop 2 ?_); (k_dflt (refine encode_call (name_ok (lawName_in _)).isName.ascii (Nat.le_trans (name_ok (lawName_in _)).isName.size (by decide)) ?_; intro _ _))) | ((with_reducible refine un_stop 3 ?_); ((with_reducible refine at9 322 ?_); k_dflt (refine wpAny_call ?_; apply code_defSX; (all_goals try (refine frP ?_; k_asm)); walk_at "ent7"))) | ((with_reducible refine un_stop 4 ?_); (k_dflt ((((with_reducible refine at9 308 ?_); apply con_use (coded_t _ _ ?_ _))); walk_at "con9")))); k_steps))))
        exact no_end (by assumption) (by assumption) off (by k_mem) ⟨rfl, _, rfl⟩
      case ed =>
        intro yb hyb
        rw [List.size_toArray, hSb.length, map_getD codedF Str.empty] at hyb
        have hlb : yb.length ≤ 8 := by have e1 := hyb.length; have e2 := hSb.length; rw [List.length_map] at e1; omega
        (k_steps; (repeat (any_goals ((first | ((with_reducible refine un_stop 1 ?_); (k_dflt ((first | ((with_reducible refine at9 296 ?_); apply con_use (law_name_c _ _ _)) | ((with_reducible refine at9 301 ?_); apply con_use (sixes_name (lawName_in _) _ _ _)) | ((with_reducible refine at9 315 ?_); apply con_use (law_heard_c _ _ _)) | ((with_reducible refine at9 334 ?_); apply con_use (law_once_m ?_ ?_ ?_)) | ((with_reducible refine at9 203 ?_); apply con_useT (sld_m ?_ ?_ ?_ ?_ ?_ ?_ ?_ ?_))); walk_at "con9"))) | ((with_reducible refine un_stop 2 ?_); (k_dflt (refine encode_call (name_ok (lawName_in _)).isName.ascii (Nat.le_trans (name_ok (lawName_in _)).isName.size (by decide)) ?_; intro _ _))) | ((with_reducible refine un_stop 3 ?_); ((with_reducible refine at9 322 ?_); k_dflt (refine wpAny_call ?_; apply code_defSX; (all_goals try (refine frP ?_; k_asm)); walk_at "ent7"))) | ((with_reducible refine un_stop 4 ?_); (k_dflt ((((with_reducible refine at9 308 ?_); apply con_use (coded_t _ _ ?_ _))); walk_at "con9")))); k_steps))))
        unfold Stop
        refine sorted_texts (by assumption) (by assumption) (by k_mem) hyb (by omega) ?_
        intro DB h9 vb9 cb e9 F13 N13 lt9 hSd pB oB
        k_lt lt9
        have sB' := codes_sorted sB nmB pB oB
        have hlb9 : vb9.length ≤ 8 := by have e1 := hSd.length; have e2 := hyb.length; have e3 := pB.length_eq; omega
        (k_steps; (repeat (any_goals ((first | ((with_reducible refine un_stop 1 ?_); (k_dflt ((first | ((with_reducible refine at9 296 ?_); apply con_use (law_name_c _ _ _)) | ((with_reducible refine at9 301 ?_); apply con_use (sixes_name (lawName_in _) _ _ _)) | ((with_reducible refine at9 315 ?_); apply con_use (law_heard_c _ _ _)) | ((with_reducible refine at9 334 ?_); apply con_use (law_once_m ?_ ?_ ?_)) | ((with_reducible refine at9 203 ?_); apply con_useT (sld_m ?_ ?_ ?_ ?_ ?_ ?_ ?_ ?_))); walk_at "con9"))) | ((with_reducible refine un_stop 2 ?_); (k_dflt (refine encode_call (name_ok (lawName_in _)).isName.ascii (Nat.le_trans (name_ok (lawName_in _)).isName.size (by decide)) ?_; intro _ _))) | ((with_reducible refine un_stop 3 ?_); ((with_reducible refine at9 322 ?_); k_dflt (refine wpAny_call ?_; apply code_defSX; (all_goals try (refine frP ?_; k_asm)); walk_at "ent7"))) | ((with_reducible refine un_stop 4 ?_); (k_dflt ((((with_reducible refine at9 308 ?_); apply con_use (coded_t _ _ ?_ _))); walk_at "con9")))); k_steps))))
        unfold Stop
        rename News _ _ _ _ => N15
        rename Fr _ _ _ _ => F15
        rename StrsAre _ (lackF cb ca) => eM
        rename StrsAre _ (lackF ca cb) => eX
        have lenle : ∀ {a b : List Str}, (lackF b a).length ≤ a.length := List.length_filter_le _ _
        refine (let G9 : Prop := _; show G9 from ?_)
        suffices H9 : ∀ TD MD XD vm vx sm sx dA dB nm nx m5, Fr _ _ _ m5 → News _ _ _ [(TD, ({ cls := .type "tuple", data := .seq #[.ref MD, .ref XD] } : Obj)), (XD, listOf (List.toArray vx) nx), (MD, listOf (List.toArray vm) nm), (DU, ({ cls := .type "tuple", data := .seq #[.ref UA, .ref UB] } : Obj)), (UB, LCg.lst uB), (UA, LCg.lst uA), (RW, listOf [Value.ref R1, Value.ref R2].toArray nr), (R1, listOf rs1.toArray n1), (R2, listOf rs2.toArray n2), (336, tabObj #[])] → m5 (Str.ofString "told") = some (.ref TD) → m5 (Str.ofString "due") = some (.ref DU) → m5 (Str.ofString "rows") = some (.ref RW) → StrsAre vm sm → StrsAre vx sx → (∀ c ∈ sm, ∃ n ∈ allNames, c = codedF n) → (∀ c ∈ sx, ∃ n ∈ allNames, c = codedF n) → (∀ s : List Str, s.Perm (sm.map decN) → sortedS s = true → s = dA) → (∀ s : List Str, s.Perm (sx.map decN) → sortedS s = true → s = dB) → vm.length ≤ 8 → vx.length ≤ 8 → StrsAre uA dA → StrsAre uB dB → (∀ x ∈ dA, x ∈ allNames) → (∀ x ∈ dB, x ∈ allNames) → G9 by
          refine H9 _ _ _ _ _ _ _ _ _ _ _ _ F15 (told_pick N15) rfl (by walk_at "look9") (by walk_at "look9") eM eX (row_codes (b := ob) nmA pA) (row_codes (b := oa) nmB pB) (fun s hp hs => row_names sA nmA nmB pA pB hp hs) (fun s hp hs => row_names sB nmB nmA pB pA hp hs) ?_ ?_ huA huB (fun x hx => nmA x (List.mem_filter.mp hx).1) (fun x hx => nmB x (List.mem_filter.mp hx).1)
          · have e1 := eM.length; have e2 := @lenle ca cb; have e3 := hSc.length; omega
          · have e1 := eX.length; have e2 := @lenle cb ca; have e3 := hSd.length; omega
        intro TD MD XD vm vx sm sx dA dB nm nx m5 F16 N16 mtold mdue mrow hM hX hcm hcx gm gx hlm hlx huA huB ndA ndB
        k_unfold
        clear G9
        revert X9 T9 K9 C9 F16 N16 mtold mdue mrow hM hX hcm hcx gm gx hlm hlx huA huB ndA ndB hS1 hS2 nm1 nm2 hl1 hl2
        repeat (first | exact Wait.go (by assumption) | clear ‹_› | revert ‹_›)
end
section
local macro_rules | `(tactic| walk_at "call ref") => `(tactic| ((with_reducible refine at9 153 ?_); refine of_stopk 4 ?_))
local macro_rules | `(tactic| walk_at "call type:str") => `(tactic| (refine str_of_ascii_t (by assumption) ?_; intro _ _))
local macro_rules | `(tactic| walk_at "call builtin:sorted") => `(tactic| (refine of_stop ?_))
local macro_rules | `(tactic| walk_at "eval ListComp") => `(tactic| first | (with_reducible refine stop_over "told" ?_) | (with_reducible refine stop_call ?_))
set_option maxRecDepth 100000 in
set_option maxHeartbeats 6400000 in
noncomputable def cut5 : {P : Prop // Wait P → cut4.1} := by
  refine ⟨?P, ?h⟩
  case h =>
    intro hP
    intro w s₀ s₁ mg mb fa h₁ tk₁ RW nr R1 R2 rs1 rs2 n1 n2 r1 r2 uA uB DU UA UB h9 t9 h' TD MD XD vm vx sm sx dA dB nm nx m5 X9 T9 K9 C9 hS1 hS2 nm1 nm2 hl1 hl2 F16 N16 mtold mdue mrow hM hX hcm hcx gm gx hlm hlx huA huB ndA ndB
    (k_steps; (repeat (any_goals ((first | ((with_reducible refine un_stop 1 ?_); (k_dflt ((first | ((with_reducible refine at9 296 ?_); apply con_use (law_name_c _ _ _)) | ((with_reducible refine at9 301 ?_); apply con_use (sixes_name (lawName_in _) _ _ _)) | ((with_reducible refine at9 315 ?_); apply con_use (law_heard_c _ _ _)) | ((with_reducible refine at9 334 ?_); apply con_use (law_once_m ?_ ?_ ?_)) | ((with_reducible refine at9 203 ?_); apply con_useT (sld_m ?_ ?_ ?_ ?_ ?_ ?_ ?_ ?_))); walk_at "con9"))) | ((with_reducible refine un_stop 2 ?_); (k_dflt (refine encode_call (name_ok (lawName_in _)).isName.ascii (Nat.le_trans (name_ok (lawName_in _)).isName.size (by decide)) ?_; intro _ _))) | ((with_reducible refine un_stop 3 ?_); ((with_reducible refine at9 322 ?_); k_dflt (refine wpAny_call ?_; apply code_defSX; (all_goals try (refine frP ?_; k_asm)); walk_at "ent7"))) | ((with_reducible refine un_stop 4 ?_); (k_dflt ((((with_reducible refine at9 153 ?_); apply con_use (b64decode_t _ _ ?_ _))); walk_at "con9")))); k_steps))))
    unfold Stop
    refine ListComp_Tup F16 (by with_unfolding_all rfl) (by decide) (by rfl) (by decide) (by rfl) ?_
    (k_steps; (repeat (any_goals ((first | ((with_reducible refine un_stop 1 ?_); (k_dflt ((first | ((with_reducible refine at9 296 ?_); apply con_use (law_name_c _ _ _)) | ((with_reducible refine at9 301 ?_); apply con_use (sixes_name (lawName_in _) _ _ _)) | ((with_reducible refine at9 315 ?_); apply con_use (law_heard_c _ _ _)) | ((with_reducible refine at9 334 ?_); apply con_use (law_once_m ?_ ?_ ?_)) | ((with_reducible refine at9 203 ?_); apply con_useT (sld_m ?_ ?_ ?_ ?_ ?_ ?_ ?_ ?_))); walk_at "con9"))) | ((with_reducible refine un_stop 2 ?_); (k_dflt (refine encode_call (name_ok (lawName_in _)).isName.ascii (Nat.le_trans (name_ok (lawName_in _)).isName.size (by decide)) ?_; intro _ _))) | ((with_reducible refine un_stop 3 ?_); ((with_reducible refine at9 322 ?_); k_dflt (refine wpAny_call ?_; apply code_defSX; (all_goals try (refine frP ?_; k_asm)); walk_at "ent7"))) | ((with_reducible refine un_stop 4 ?_); (k_dflt ((((with_reducible refine at9 153 ?_); apply con_use (b64decode_t _ _ ?_ _))); walk_at "con9")))); k_steps))))
    refine SrcTup.ledger rfl F16 N16 (.head _) (by rw [sizeLine_eq]; simp) ?_
    intro g1
    refine own_rest (fun k nw y => ∃ D vs' n, y = .ref D ∧ (D, listOf (List.toArray vs') n) ∈ nw ∧ StrsAre vs' ([dA, dB].getD k [])) (fun k nw nw' y hs ⟨D, vs', n, e, hm, h⟩ => ⟨D, vs', n, e, hs _ hm, h⟩) ?ra ?rb
    case ra =>
      intro k v I oI C oC D m₆ ys own h tk E' hk hv' hC hx F N off ne
      refine (let G9 : Prop := _; show G9 from ?_)
      suffices H9 : ∀ RA vs ss n d, v = .ref RA → (RA, listOf (List.toArray vs) n) ∈ (I, oI) :: (C, oC) :: (D, LCg.lst ys) :: (own ++ [(TD, tuplO #[.ref MD, .ref XD] 0), (XD, listOf (List.toArray vx) nx), (MD, listOf (List.toArray vm) nm), (DU, tuplO #[.ref UA, .ref UB] 0), (UB, LCg.lst uB), (UA, LCg.lst uA), (RW, listOf [Value.ref R1, Value.ref R2].toArray nr), (R1, listOf rs1.toArray n1), (R2, listOf rs2.toArray n2), (336, tabObj #[])]) → StrsAre vs ss → vs.length ≤ 8 → (∀ c ∈ ss, ∃ n ∈ allNames, c = codedF n) → (∀ s : List Str, s.Perm (ss.map decN) → sortedS s = true → s = d) → [dA, dB].getD k [] = d → G9 by
        rcases two_at (show [_, _][k]? = some v by simpa using hv') with ⟨ek, ev⟩ | ⟨ek, ev⟩
        · exact H9 MD vm sm nm dA ev (.tail _ (.tail _ (.tail _ (List.mem_append.mpr (.inr (.tail _ (.tail _ (.head _)))))))) hM hlm hcm gm (by rw [ek]; rfl)
        · exact H9 XD vx sx nx dB ev (.tail _ (.tail _ (.tail _ (List.mem_append.mpr (.inr (.tail _ (.head _))))))) hX hlx hcx gx (by rw [ek]; rfl)
      intro RA vs ss n d ev hRA hS hl hc hg ek
      k_unfold
      clear G9
      subst ev
      rw [ek]
      (k_steps; (repeat (any_goals ((first | ((with_reducible refine un_stop 1 ?_); (k_dflt ((first | ((with_reducible refine at9 296 ?_); apply con_use (law_name_c _ _ _)) | ((with_reducible refine at9 301 ?_); apply con_use (sixes_name (lawName_in _) _ _ _)) | ((with_reducible refine at9 315 ?_); apply con_use (law_heard_c _ _ _)) | ((with_reducible refine at9 334 ?_); apply con_use (law_once_m ?_ ?_ ?_)) | ((with_reducible refine at9 203 ?_); apply con_useT (sld_m ?_ ?_ ?_ ?_ ?_ ?_ ?_ ?_))); walk_at "con9"))) | ((with_reducible refine un_stop 2 ?_); (k_dflt (refine encode_call (name_ok (lawName_in _)).isName.ascii (Nat.le_trans (name_ok (lawName_in _)).isName.size (by decide)) ?_; intro _ _))) | ((with_reducible refine un_stop 3 ?_); ((with_reducible refine at9 322 ?_); k_dflt (refine wpAny_call ?_; apply code_defSX; (all_goals try (refine frP ?_; k_asm)); walk_at "ent7"))) | ((with_reducible refine un_stop 4 ?_); (k_dflt ((((with_reducible refine at9 153 ?_); apply con_use (b64decode_t _ _ ?_ _))); walk_at "con9")))); k_steps))))
      unfold Stop
      refine LCg.CompSrc.ledger rfl F N hRA (by rw [List.size_toArray, sizeLine_eq]; omega) ?_
      intro g2
      refine text_rest (fun i => decN (ss.getD i Str.empty)) ?rc ?rd
      case rc =>
        intro i v I2 oI2 C2 oC2 D2 m₇ ys2 h tk E' hi hv hC2 hx2 F2 N2 off2 ne2
        obtain ⟨z, tz, rfl, hz, hzm⟩ := strs_getD hS (by simpa using hv)
        obtain ⟨c, hcn, rfl⟩ := hc z hzm
        simp only [hz, decN_coded hcn]
        have H := name_ok hcn
        (k_steps; (repeat (any_goals ((first | ((with_reducible refine un_stop 1 ?_); (k_dflt ((first | ((with_reducible refine at9 296 ?_); apply con_use (law_name_c _ _ _)) | ((with_reducible refine at9 301 ?_); apply con_use (sixes_name (lawName_in _) _ _ _)) | ((with_reducible refine at9 315 ?_); apply con_use (law_heard_c _ _ _)) | ((with_reducible refine at9 334 ?_); apply con_use (law_once_m ?_ ?_ ?_)) | ((with_reducible refine at9 203 ?_); apply con_useT (sld_m ?_ ?_ ?_ ?_ ?_ ?_ ?_ ?_))); walk_at "con9"))) | ((with_reducible refine un_stop 2 ?_); (k_dflt (refine encode_call (name_ok (lawName_in _)).isName.ascii (Nat.le_trans (name_ok (lawName_in _)).isName.size (by decide)) ?_; intro _ _))) | ((with_reducible refine un_stop 3 ?_); ((with_reducible refine at9 322 ?_); k_dflt (refine wpAny_call ?_; apply code_defSX; (all_goals try (refine frP ?_; k_asm)); walk_at "ent7"))) | ((with_reducible refine un_stop 4 ?_); (k_dflt ((((with_reducible refine at9 153 ?_); apply con_use (b64decode_t _ _ ?_ _))); walk_at "con9")))); k_steps))))
        exact no_end (by assumption) (by assumption) off2 hRA ⟨rfl, _, rfl⟩
      case rd =>
        intro yi hyi
        rw [List.size_toArray, hS.length, map_getD decN Str.empty] at hyi
        have hli : yi.length ≤ 8 := by have e1 := hyi.length; have e2 := hS.length; rw [List.length_map] at e1; omega
        (k_steps; (repeat (any_goals ((first | ((with_reducible refine un_stop 1 ?_); (k_dflt ((first | ((with_reducible refine at9 296 ?_); apply con_use (law_name_c _ _ _)) | ((with_reducible refine at9 301 ?_); apply con_use (sixes_name (lawName_in _) _ _ _)) | ((with_reducible refine at9 315 ?_); apply con_use (law_heard_c _ _ _)) | ((with_reducible refine at9 334 ?_); apply con_use (law_once_m ?_ ?_ ?_)) | ((with_reducible refine at9 203 ?_); apply con_useT (sld_m ?_ ?_ ?_ ?_ ?_ ?_ ?_ ?_))); walk_at "con9"))) | ((with_reducible refine un_stop 2 ?_); (k_dflt (refine encode_call (name_ok (lawName_in _)).isName.ascii (Nat.le_trans (name_ok (lawName_in _)).isName.size (by decide)) ?_; intro _ _))) | ((with_reducible refine un_stop 3 ?_); ((with_reducible refine at9 322 ?_); k_dflt (refine wpAny_call ?_; apply code_defSX; (all_goals try (refine frP ?_; k_asm)); walk_at "ent7"))) | ((with_reducible refine un_stop 4 ?_); (k_dflt ((((with_reducible refine at9 153 ?_); apply con_use (b64decode_t _ _ ?_ _))); walk_at "con9")))); k_steps))))
        unfold Stop
        refine sorted_texts (by assumption) (by assumption) (.head _) hyi (by omega) ?_
        intro DS h9 vs9 ss9 e9 F13 N13 lt9 hS9 p9 o9
        obtain rfl := hg ss9 p9 o9
        (k_steps; (repeat (any_goals ((first | ((with_reducible refine un_stop 1 ?_); (k_dflt ((first | ((with_reducible refine at9 296 ?_); apply con_use (law_name_c _ _ _)) | ((with_reducible refine at9 301 ?_); apply con_use (sixes_name (lawName_in _) _ _ _)) | ((with_reducible refine at9 315 ?_); apply con_use (law_heard_c _ _ _)) | ((with_reducible refine at9 334 ?_); apply con_use (law_once_m ?_ ?_ ?_)) | ((with_reducible refine at9 203 ?_); apply con_useT (sld_m ?_ ?_ ?_ ?_ ?_ ?_ ?_ ?_))); walk_at "con9"))) | ((with_reducible refine un_stop 2 ?_); (k_dflt (refine encode_call (name_ok (lawName_in _)).isName.ascii (Nat.le_trans (name_ok (lawName_in _)).isName.size (by decide)) ?_; intro _ _))) | ((with_reducible refine un_stop 3 ?_); ((with_reducible refine at9 322 ?_); k_dflt (refine wpAny_call ?_; apply code_defSX; (all_goals try (refine frP ?_; k_asm)); walk_at "ent7"))) | ((with_reducible refine un_stop 4 ?_); (k_dflt ((((with_reducible refine at9 153 ?_); apply con_use (b64decode_t _ _ ?_ _))); walk_at "con9")))); k_steps))))
        refine gen_end F13 (drop2 N13) (fun p hp => Nat.ne_of_lt (lt9 p (.tail _ hp))) off ⟨0, .tail _ (List.mem_append.mpr (.inr (.head _)))⟩ fun hn => ⟨[_], rfl, _, _, _, rfl, .head _, hS9⟩
    case rb =>
      intro ys own hl hy
      obtain ⟨y0, e0, S1, w1, k1, rfl, hm1, hw1⟩ := hy 0 (by simp)
      obtain ⟨y1, e1, S2, w2, k2, rfl, hm2, hw2⟩ := hy 1 (by simp)
      obtain rfl : ys = [.ref S1, .ref S2] := two_of hl e0 e1
      clear hy
      intro D8 h8 tk8 F17 N17 off17
      have N18 := told_pick2 N17 hm1 hm2
      clear N17 off17 N16 F16
      (k_steps; (repeat (any_goals ((first | ((with_reducible refine un_stop 1 ?_); (k_dflt ((first | ((with_reducible refine at9 296 ?_); apply con_use (law_name_c _ _ _)) | ((with_reducible refine at9 301 ?_); apply con_use (sixes_name (lawName_in _) _ _ _)) | ((with_reducible refine at9 315 ?_); apply con_use (law_heard_c _ _ _)) | ((with_reducible refine at9 334 ?_); apply con_use (law_once_m ?_ ?_ ?_)) | ((with_reducible refine at9 203 ?_); apply con_useT (sld_m ?_ ?_ ?_ ?_ ?_ ?_ ?_ ?_))); walk_at "con9"))) | ((with_reducible refine un_stop 2 ?_); (k_dflt (refine encode_call (name_ok (lawName_in _)).isName.ascii (Nat.le_trans (name_ok (lawName_in _)).isName.size (by decide)) ?_; intro _ _))) | ((with_reducible refine un_stop 3 ?_); ((with_reducible refine at9 322 ?_); k_dflt (refine wpAny_call ?_; apply code_defSX; (all_goals try (refine frP ?_; k_asm)); walk_at "ent7"))) | ((with_reducible refine un_stop 4 ?_); (k_dflt ((((with_reducible refine at9 153 ?_); apply con_use (b64decode_t _ _ ?_ _))); walk_at "con9")))); k_steps))))
      unfold Stop
      rename News _ _ _ _ => N19
      rename Fr _ _ _ _ => F19
      have hw1 : StrsAre w1 dA := hw1
      have hw2 : StrsAre w2 dB := hw2
      refine ne_same N19 (.tail _ (.head _)) rfl rfl (.head _) rfl rfl (.cons (.list (.tail _ (.tail _ (.head _))) (datAll_strs hw1)) (.cons (.list (.tail _ (.tail _ (.tail _ (.head _)))) (datAll_strs hw2)) .nil)) (fun p hp => hp) (.cons (.list (.tail _ (.tail _ (.tail _ (.tail _ (.tail _ (.tail _ (.head _))))))) (datAll_strs huA)) (.cons (.list (.tail _ (.tail _ (.tail _ (.tail _ (.tail _ (.head _)))))) (datAll_strs huB)) .nil)) (fun p hp => hp) (lists_ok ndA ndB) (by ktr_units) ?_
      (k_steps; (repeat (any_goals ((first | ((with_reducible refine un_stop 1 ?_); (k_dflt ((first | ((with_reducible refine at9 296 ?_); apply con_use (law_name_c _ _ _)) | ((with_reducible refine at9 301 ?_); apply con_use (sixes_name (lawName_in _) _ _ _)) | ((with_reducible refine at9 315 ?_); apply con_use (law_heard_c _ _ _)) | ((with_reducible refine at9 334 ?_); apply con_use (law_once_m ?_ ?_ ?_)) | ((with_reducible refine at9 203 ?_); apply con_useT (sld_m ?_ ?_ ?_ ?_ ?_ ?_ ?_ ?_))); walk_at "con9"))) | ((with_reducible refine un_stop 2 ?_); (k_dflt (refine encode_call (name_ok (lawName_in _)).isName.ascii (Nat.le_trans (name_ok (lawName_in _)).isName.size (by decide)) ?_; intro _ _))) | ((with_reducible refine un_stop 3 ?_); ((with_reducible refine at9 322 ?_); k_dflt (refine wpAny_call ?_; apply code_defSX; (all_goals try (refine frP ?_; k_asm)); walk_at "ent7"))) | ((with_reducible refine un_stop 4 ?_); (k_dflt ((((with_reducible refine at9 153 ?_); apply con_use (b64decode_t _ _ ?_ _))); walk_at "con9")))); k_steps))))
      have N20 : News _ _ _ [(RW, listOf [Value.ref R1, Value.ref R2].toArray nr), (R1, listOf rs1.toArray n1), (R2, listOf rs2.toArray n2), (336, tabObj #[])] := fun p hp => N19 p (.tail _ (.tail _ (.tail _ (.tail _ (.tail _ (.tail _ (.tail _ hp)))))))
      revert X9 T9 K9 C9 F19 N20 mrow hS1 hS2 nm1 nm2 hl1 hl2
      repeat (first | exact Wait.go (by assumption) | clear ‹_› | revert ‹_›)
end
section
local macro_rules | `(tactic| walk_at "call ref") => `(tactic| ((first | with_reducible refine at9 329 ?_ | with_reducible refine at9 291 ?_); refine of_stopk 4 ?_))
local macro_rules | `(tactic| walk_at "call type:tuple") => `(tactic| (refine of_stop ?_))
local macro_rules | `(tactic| walk_at "execs cons Assign cons") => `(tactic| (refine of_stop ?_))
set_option maxRecDepth 100000 in
set_option maxHeartbeats 6400000 in
noncomputable def cut6 : {P : Prop // Wait P → cut5.1} := by
  refine ⟨?P, ?h⟩
  case h =>
    intro hP
    intro w s₀ s₁ mg mb fa h₁ tk₁ RW nr R1 R2 rs1 rs2 n1 n2 r1 r2 m5 h' tk X9 T9 K9 C9 hS1 hS2 nm1 nm2 hl1 hl2 mrow F19 N20
    unfold Stop
    have hq1 : rs1.length ≤ 8 := by have := hS1.length; omega
    have hq2 : rs2.length ≤ 8 := by have := hS2.length; omega
    have hok : ∀ x ∈ r1 ++ r2, PyData.strOk x = true := fun x hx => (names_strOk x ((List.mem_append.mp hx).elim (nm1 x) (nm2 x))).1
    refine LCg.ListComp_U F19 (by with_unfolding_all rfl) (by decide) (by rfl) (by decide) (by rfl) ?_
    (k_steps; (repeat (any_goals ((first | ((with_reducible refine un_stop 1 ?_); (k_dflt ((first | ((with_reducible refine at9 296 ?_); apply con_use (law_name_c _ _ _)) | ((with_reducible refine at9 301 ?_); apply con_use (sixes_name (lawName_in _) _ _ _)) | ((with_reducible refine at9 315 ?_); apply con_use (law_heard_c _ _ _)) | ((with_reducible refine at9 334 ?_); apply con_use (law_once_m ?_ ?_ ?_)) | ((with_reducible refine at9 203 ?_); apply con_useT (sld_m ?_ ?_ ?_ ?_ ?_ ?_ ?_ ?_))); walk_at "con9"))) | ((with_reducible refine un_stop 2 ?_); (k_dflt (refine encode_call (name_ok (lawName_in _)).isName.ascii (Nat.le_trans (name_ok (lawName_in _)).isName.size (by decide)) ?_; intro _ _))) | ((with_reducible refine un_stop 3 ?_); ((with_reducible refine at9 322 ?_); k_dflt (refine wpAny_call ?_; apply code_defSX; (all_goals try (refine frP ?_; k_asm)); walk_at "ent7"))) | ((with_reducible refine un_stop 4 ?_); (k_dflt ((first | ((with_reducible refine at9 329 ?_); apply con_use (counted_m ?_ ?_ ?_ ?_ ?_ ?_ ?_)) | ((with_reducible refine at9 291 ?_); apply con_use (count_m ?_ ?_ ?_ ?_ ?_ ?_))); walk_at "con9")))); k_steps))))
    unfold Stop
    rename MisAll _ _ _ => M1
    rename News _ _ _ _ => N21
    rename Fr _ _ _ _ => F21
    rename List.length _ ≤ 16 => hw16
    have hwl := M1.length
    refine LCg.CompSrc.ledger rfl F21 N21 (.head _) (by rw [List.size_toArray, sizeLine_eq]; omega) ?_
    intro g1
    refine own_rest (fun k nw y => DatIn nw y (rowD ((ctdF r1 r2).getD k (0, 0, Str.empty)))) (fun k nw nw' y hs hy => hy.mono hs) ?sa ?sb
    case sa =>
      intro k v I oI C oC D m₆ ys own h tk E' hk hv' hC hx F N off ne
      obtain ⟨X, dx, t1, t2, t3, r, hr, rfl, hX⟩ := M1.get (by simpa using hv')
      rw [List.getD_eq_getElem?_getD, hr]
      (k_steps; (repeat (any_goals ((first | ((with_reducible refine un_stop 1 ?_); (k_dflt ((first | ((with_reducible refine at9 296 ?_); apply con_use (law_name_c _ _ _)) | ((with_reducible refine at9 301 ?_); apply con_use (sixes_name (lawName_in _) _ _ _)) | ((with_reducible refine at9 315 ?_); apply con_use (law_heard_c _ _ _)) | ((with_reducible refine at9 334 ?_); apply con_use (law_once_m ?_ ?_ ?_)) | ((with_reducible refine at9 203 ?_); apply con_useT (sld_m ?_ ?_ ?_ ?_ ?_ ?_ ?_ ?_))); walk_at "con9"))) | ((with_reducible refine un_stop 2 ?_); (k_dflt (refine encode_call (name_ok (lawName_in _)).isName.ascii (Nat.le_trans (name_ok (lawName_in _)).isName.size (by decide)) ?_; intro _ _))) | ((with_reducible refine un_stop 3 ?_); ((with_reducible refine at9 322 ?_); k_dflt (refine wpAny_call ?_; apply code_defSX; (all_goals try (refine frP ?_; k_asm)); walk_at "ent7"))) | ((with_reducible refine un_stop 4 ?_); (k_dflt ((first | ((with_reducible refine at9 329 ?_); apply con_use (counted_m ?_ ?_ ?_ ?_ ?_ ?_ ?_)) | ((with_reducible refine at9 291 ?_); apply con_use (count_m ?_ ?_ ?_ ?_ ?_ ?_))); walk_at "con9")))); k_steps))))
      unfold Stop
      refine' tuple_sub_N rfl ?y1 ?y2 ?y3 (tupSub (K := Mine.hd.heap_1 _) (C := 281) (by k_in) (by kernel_rfl) (by kernel_rfl) (by kernel_rfl)) ?y4 ?y5 ?_
      case y1 => k_asm
      case y2 => k_asm
      case y3 => exact own_mem (by assumption)
      case y4 => exact Nat.le_of_ble_eq_true rfl
      case y5 => exact Nat.le_of_ble_eq_true rfl
      intro D9 h9 t9 F9 N9 l9
      (k_steps; (repeat (any_goals ((first | ((with_reducible refine un_stop 1 ?_); (k_dflt ((first | ((with_reducible refine at9 296 ?_); apply con_use (law_name_c _ _ _)) | ((with_reducible refine at9 301 ?_); apply con_use (sixes_name (lawName_in _) _ _ _)) | ((with_reducible refine at9 315 ?_); apply con_use (law_heard_c _ _ _)) | ((with_reducible refine at9 334 ?_); apply con_use (law_once_m ?_ ?_ ?_)) | ((with_reducible refine at9 203 ?_); apply con_useT (sld_m ?_ ?_ ?_ ?_ ?_ ?_ ?_ ?_))); walk_at "con9"))) | ((with_reducible refine un_stop 2 ?_); (k_dflt (refine encode_call (name_ok (lawName_in _)).isName.ascii (Nat.le_trans (name_ok (lawName_in _)).isName.size (by decide)) ?_; intro _ _))) | ((with_reducible refine un_stop 3 ?_); ((with_reducible refine at9 322 ?_); k_dflt (refine wpAny_call ?_; apply code_defSX; (all_goals try (refine frP ?_; k_asm)); walk_at "ent7"))) | ((with_reducible refine un_stop 4 ?_); (k_dflt ((first | ((with_reducible refine at9 329 ?_); apply con_use (counted_m ?_ ?_ ?_ ?_ ?_ ?_ ?_)) | ((with_reducible refine at9 291 ?_); apply con_use (count_m ?_ ?_ ?_ ?_ ?_ ?_))); walk_at "con9")))); k_steps))))
      exact gen_end (by assumption) (by assumption) (by (rename (∀ p ∈ _, _ < _) => l9); exact fun p hp => Nat.ne_of_lt (l9 p hp)) off (src_mem (.tail _ (List.mem_append.mpr (.inr (.head _))))) fun hn => ⟨[_], rfl, .tuple (.head _) (.cons (.int _ _) (.cons (.int _ _) (.cons (.str _ _) .nil)))⟩
    case sb =>
      intro ys own hl hy
      have hda := rows_dat (rs := ctdF r1 r2) (by rw [List.size_toArray]; exact hwl) hl hy
      intro D8 h8 tk8 F17 N17 off17
      have N18 := count_pick N17
      clear N17 off17 N21 F21 N20 F19
      (k_steps; (repeat (any_goals ((first | ((with_reducible refine un_stop 1 ?_); (k_dflt ((first | ((with_reducible refine at9 296 ?_); apply con_use (law_name_c _ _ _)) | ((with_reducible refine at9 301 ?_); apply con_use (sixes_name (lawName_in _) _ _ _)) | ((with_reducible refine at9 315 ?_); apply con_use (law_heard_c _ _ _)) | ((with_reducible refine at9 334 ?_); apply con_use (law_once_m ?_ ?_ ?_)) | ((with_reducible refine at9 203 ?_); apply con_useT (sld_m ?_ ?_ ?_ ?_ ?_ ?_ ?_ ?_))); walk_at "con9"))) | ((with_reducible refine un_stop 2 ?_); (k_dflt (refine encode_call (name_ok (lawName_in _)).isName.ascii (Nat.le_trans (name_ok (lawName_in _)).isName.size (by decide)) ?_; intro _ _))) | ((with_reducible refine un_stop 3 ?_); ((with_reducible refine at9 322 ?_); k_dflt (refine wpAny_call ?_; apply code_defSX; (all_goals try (refine frP ?_; k_asm)); walk_at "ent7"))) | ((with_reducible refine un_stop 4 ?_); (k_dflt ((first | ((with_reducible refine at9 329 ?_); apply con_use (counted_m ?_ ?_ ?_ ?_ ?_ ?_ ?_)) | ((with_reducible refine at9 291 ?_); apply con_use (count_m ?_ ?_ ?_ ?_ ?_ ?_))); walk_at "con9")))); k_steps))))
      unfold Stop
      rename News _ _ _ _ => N22
      rename Fr _ _ _ _ => F22
      rename DatAll _ _ _ => D2
      refine ne_same N22 (.tail _ (List.mem_append.mpr (.inr (.head _)))) rfl rfl (.head _) rfl rfl hda ?w1 D2 ?w2 (rows_kqd nm1 nm2) (by ktr_units) ?_
      case w1 => exact fun p hp => .tail _ (List.mem_append.mpr (.inr (.tail _ (.tail _ (.tail _ (.tail _ (.tail _ hp)))))))
      case w2 => exact fun p hp => .tail _ (List.mem_append.mpr (.inl hp))
      have N23 : News _ _ _ [(RW, listOf [Value.ref R1, Value.ref R2].toArray nr), (R1, listOf rs1.toArray n1), (R2, listOf rs2.toArray n2), (336, tabObj #[])] := fun p hp => N22 p (.tail _ (List.mem_append.mpr (.inr (.tail _ (mem4 hp)))))
      clear N22 N18
      (k_steps; (repeat (any_goals ((first | ((with_reducible refine un_stop 1 ?_); (k_dflt ((first | ((with_reducible refine at9 296 ?_); apply con_use (law_name_c _ _ _)) | ((with_reducible refine at9 301 ?_); apply con_use (sixes_name (lawName_in _) _ _ _)) | ((with_reducible refine at9 315 ?_); apply con_use (law_heard_c _ _ _)) | ((with_reducible refine at9 334 ?_); apply con_use (law_once_m ?_ ?_ ?_)) | ((with_reducible refine at9 203 ?_); apply con_useT (sld_m ?_ ?_ ?_ ?_ ?_ ?_ ?_ ?_))); walk_at "con9"))) | ((with_reducible refine un_stop 2 ?_); (k_dflt (refine encode_call (name_ok (lawName_in _)).isName.ascii (Nat.le_trans (name_ok (lawName_in _)).isName.size (by decide)) ?_; intro _ _))) | ((with_reducible refine un_stop 3 ?_); ((with_reducible refine at9 322 ?_); k_dflt (refine wpAny_call ?_; apply code_defSX; (all_goals try (refine frP ?_; k_asm)); walk_at "ent7"))) | ((with_reducible refine un_stop 4 ?_); (k_dflt ((first | ((with_reducible refine at9 329 ?_); apply con_use (counted_m ?_ ?_ ?_ ?_ ?_ ?_ ?_)) | ((with_reducible refine at9 291 ?_); apply con_use (count_m ?_ ?_ ?_ ?_ ?_ ?_))); walk_at "con9")))); k_steps))))
      unfold Stop
      dsimp only
      revert X9 T9 K9 C9 F22 N23 mrow hS1 hS2 nm1 nm2 hl1 hl2
      repeat (first | exact Wait.go (by assumption) | clear ‹_› | revert ‹_›)
end
section
local macro_rules | `(tactic| walk_at "pad0") => `(tactic| skip)
local macro_rules | `(tactic| walk_at "call type:zip") => `(tactic| (refine of_stop ?_))
local macro_rules | `(tactic| walk_at "binaryOp Add ref ref") => `(tactic| (refine of_stop ?_))
local macro_rules | `(tactic| walk_at "execs cons If cons") => `(tactic| (refine of_stop ?_))
set_option maxRecDepth 100000 in
set_option maxHeartbeats 6400000 in
noncomputable def cut7 : {P : Prop // Wait P → cut6.1} := by
  refine ⟨?P, ?h⟩
  case h =>
    intro hP
    intro w s₀ s₁ mg mb fa h₁ tk₁ RW nr R1 R2 rs1 rs2 n1 n2 r1 r2 m5 h' tk X9 T9 K9 C9 hS1 hS2 nm1 nm2 hl1 hl2 mrow F19 N20
    have hq1 := hS1.length
    have hq2 := hS2.length
    (k_steps; (repeat (any_goals ((first | ((with_reducible refine un_stop 1 ?_); (k_dflt ((first | ((with_reducible refine at9 296 ?_); apply con_use (law_name_c _ _ _)) | ((with_reducible refine at9 301 ?_); apply con_use (sixes_name (lawName_in _) _ _ _)) | ((with_reducible refine at9 315 ?_); apply con_use (law_heard_c _ _ _)) | ((with_reducible refine at9 334 ?_); apply con_use (law_once_m ?_ ?_ ?_)) | ((with_reducible refine at9 203 ?_); apply con_useT (sld_m ?_ ?_ ?_ ?_ ?_ ?_ ?_ ?_))); walk_at "con9"))) | ((with_reducible refine un_stop 2 ?_); (k_dflt (refine encode_call (name_ok (lawName_in _)).isName.ascii (Nat.le_trans (name_ok (lawName_in _)).isName.size (by decide)) ?_; intro _ _))) | ((with_reducible refine un_stop 3 ?_); ((with_reducible refine at9 322 ?_); k_dflt (refine wpAny_call ?_; apply code_defSX; (all_goals try (refine frP ?_; k_asm)); walk_at "ent7")))); k_steps))))
    unfold Stop
    refine comp_V [(Str.ofString "a", _), (Str.ofString "b", _)] F19 rfl (by with_unfolding_all rfl) (by decide) rfl (by decide) (fun _ => rfl) (by decide) ?_
    (k_steps; (repeat (any_goals ((first | ((with_reducible refine un_stop 1 ?_); (k_dflt ((first | ((with_reducible refine at9 296 ?_); apply con_use (law_name_c _ _ _)) | ((with_reducible refine at9 301 ?_); apply con_use (sixes_name (lawName_in _) _ _ _)) | ((with_reducible refine at9 315 ?_); apply con_use (law_heard_c _ _ _)) | ((with_reducible refine at9 334 ?_); apply con_use (law_once_m ?_ ?_ ?_)) | ((with_reducible refine at9 203 ?_); apply con_useT (sld_m ?_ ?_ ?_ ?_ ?_ ?_ ?_ ?_))); walk_at "con9"))) | ((with_reducible refine un_stop 2 ?_); (k_dflt (refine encode_call (name_ok (lawName_in _)).isName.ascii (Nat.le_trans (name_ok (lawName_in _)).isName.size (by decide)) ?_; intro _ _))) | ((with_reducible refine un_stop 3 ?_); ((with_reducible refine at9 322 ?_); k_dflt (refine wpAny_call ?_; apply code_defSX; (all_goals try (refine frP ?_; k_asm)); walk_at "ent7")))); k_steps))))
    unfold Stop
    refine zip_src (fun i => r1.getD i Str.empty != r2.getD i Str.empty) (fun i y => ∃ t : Tok, y = .int (gtI (r1.getD i Str.empty) (r2.getD i Str.empty)) t) rfl rfl F19 (by assumption) (by k_mem) (by k_mem) (by omega) ?ua ?ub
    case ua =>
      intro i v I oI C oC D mm ys9 h9 tk9 E9 hi hJ hC F N off
      refine (let G9 : Prop := _; show G9 from ?_)
      obtain ⟨x, y, hx, hy, hv⟩ := hJ
      obtain ⟨a, ta, rfl, ha, ham⟩ := strs_getD hS1 hx
      obtain ⟨b, tb, rfl, hb, hbm⟩ := strs_getD hS2 hy
      obtain rfl : v = [_, _] := by simpa using hv
      obtain ⟨m₂, hC, hxa, hxb⟩ : ∃ m₂, LCg.NsObj oC m₂ ∧ m₂ (Str.ofString "a") = some (.str a ta) ∧ m₂ (Str.ofString "b") = some (.str b tb) := ⟨_, hC, rfl, rfl⟩
      k_unfold
      clear G9
      refine wpAny_tests_one ?_
      simp only [ha, hb]
      (k_steps; (repeat (any_goals ((first | ((with_reducible refine un_stop 1 ?_); (k_dflt ((first | ((with_reducible refine at9 296 ?_); apply con_use (law_name_c _ _ _)) | ((with_reducible refine at9 301 ?_); apply con_use (sixes_name (lawName_in _) _ _ _)) | ((with_reducible refine at9 315 ?_); apply con_use (law_heard_c _ _ _)) | ((with_reducible refine at9 334 ?_); apply con_use (law_once_m ?_ ?_ ?_)) | ((with_reducible refine at9 203 ?_); apply con_useT (sld_m ?_ ?_ ?_ ?_ ?_ ?_ ?_ ?_))); walk_at "con9"))) | ((with_reducible refine un_stop 2 ?_); (k_dflt (refine encode_call (name_ok (lawName_in _)).isName.ascii (Nat.le_trans (name_ok (lawName_in _)).isName.size (by decide)) ?_; intro _ _))) | ((with_reducible refine un_stop 3 ?_); ((with_reducible refine at9 322 ?_); k_dflt (refine wpAny_call ?_; apply code_defSX; (all_goals try (refine frP ?_; k_asm)); walk_at "ent7")))); k_steps))))
      · rename _ < _ => q
        rw [gtI, if_pos q]
      · rename ¬ _ < _ => q
        rw [gtI, if_neg q]
    case ub =>
      intro D h tk ys' F N hne hP
      (k_steps; (repeat (any_goals ((first | ((with_reducible refine un_stop 1 ?_); (k_dflt ((first | ((with_reducible refine at9 296 ?_); apply con_use (law_name_c _ _ _)) | ((with_reducible refine at9 301 ?_); apply con_use (sixes_name (lawName_in _) _ _ _)) | ((with_reducible refine at9 315 ?_); apply con_use (law_heard_c _ _ _)) | ((with_reducible refine at9 334 ?_); apply con_use (law_once_m ?_ ?_ ?_)) | ((with_reducible refine at9 203 ?_); apply con_useT (sld_m ?_ ?_ ?_ ?_ ?_ ?_ ?_ ?_))); walk_at "con9"))) | ((with_reducible refine un_stop 2 ?_); (k_dflt (refine encode_call (name_ok (lawName_in _)).isName.ascii (Nat.le_trans (name_ok (lawName_in _)).isName.size (by decide)) ?_; intro _ _))) | ((with_reducible refine un_stop 3 ?_); ((with_reducible refine at9 322 ?_); k_dflt (refine wpAny_call ?_; apply code_defSX; (all_goals try (refine frP ?_; k_asm)); walk_at "ent7")))); k_steps))))
      unfold Stop
      rename News _ _ _ _ => N21
      rename Fr _ _ _ _ => F21
      have hyl : ys'.length ≤ 8 := by
        have e1 := hP.length
        have e2 := List.length_filter_le (fun i => r1.getD i Str.empty != r2.getD i Str.empty) (List.range (min rs1.length rs2.length))
        rw [List.length_range] at e2
        omega
      refine add_texts F21 N21 (.tail _ (.head _)) (.head _) (by omega) (by simp) ?_
      intro UL h9 F22 N22 lt9
      refine (let G9 : Prop := _; show G9 from ?_)
      obtain ⟨us, N23, ⟨tz, rest, e⟩, hul⟩ : ∃ us, News _ _ _ ((UL, listOf (List.toArray us) 0) :: _) ∧ (∃ t rest, us = Value.int (b2i (gtF r1 r2) - b2i (ltF r1 r2)) t :: rest) ∧ us.length ≤ 9 := ⟨_, N22, unlike_value (by rw [hq1, hq2]) hP _, by rw [List.length_append]; simp; omega⟩
      k_unfold
      clear G9
      (k_steps; (repeat (any_goals ((first | ((with_reducible refine un_stop 1 ?_); (k_dflt ((first | ((with_reducible refine at9 296 ?_); apply con_use (law_name_c _ _ _)) | ((with_reducible refine at9 301 ?_); apply con_use (sixes_name (lawName_in _) _ _ _)) | ((with_reducible refine at9 315 ?_); apply con_use (law_heard_c _ _ _)) | ((with_reducible refine at9 334 ?_); apply con_use (law_once_m ?_ ?_ ?_)) | ((with_reducible refine at9 203 ?_); apply con_useT (sld_m ?_ ?_ ?_ ?_ ?_ ?_ ?_ ?_))); walk_at "con9"))) | ((with_reducible refine un_stop 2 ?_); (k_dflt (refine encode_call (name_ok (lawName_in _)).isName.ascii (Nat.le_trans (name_ok (lawName_in _)).isName.size (by decide)) ?_; intro _ _))) | ((with_reducible refine un_stop 3 ?_); ((with_reducible refine at9 322 ?_); k_dflt (refine wpAny_call ?_; apply code_defSX; (all_goals try (refine frP ?_; k_asm)); walk_at "ent7")))); k_steps))))
      unfold Stop
      rename Fr _ _ _ _ => F24
      rename News _ _ _ _ => N24
      refine (let G9 : Prop := _; show G9 from ?_)
      obtain ⟨m6, F25, mun, mrow2⟩ : ∃ m6, Fr _ _ _ m6 ∧ m6 (Str.ofString "unlike") = some (.ref UL) ∧ m6 (Str.ofString "rows") = some (.ref RW) := ⟨_, F24, rfl, by walk_at "look9"⟩
      k_unfold
      clear G9
      have N25 : News _ _ _ [(UL, listOf (List.toArray us) 0), (RW, listOf [Value.ref R1, Value.ref R2].toArray nr), (R1, listOf rs1.toArray n1), (R2, listOf rs2.toArray n2), (336, tabObj #[])] := unlike_pick N24
      rename StrsAre rs2 r2 => hS2
      revert X9 T9 K9 C9 F25 N25 mun mrow2 e hul hS1 hS2 nm1 nm2 hl1 hl2
      repeat (first | exact Wait.go (by assumption) | clear ‹_› | revert ‹_›)
end
section
local macro_rules | `(tactic| walk_at "pad0") => `(tactic| skip)
local macro_rules | `(tactic| walk_at "call ref") => `(tactic| ((first | with_reducible refine at9 72 ?_ | with_reducible refine at9 210 ?_); refine of_stopk 4 ?_))
local macro_rules | `(tactic| walk_at "call builtin:str.replace") => `(tactic| (refine of_stopk 5 ?_))
local macro_rules | `(tactic| walk_at "subscriptTail") => `(tactic| (k_dflt (refine item_val (by k_asm) (by k_mem) (by assumption) (by omega) ?_)))
local macro_rules | `(tactic| walk_at "execs cons If cons") => `(tactic| (with_reducible refine stop_last ?_))
set_option maxRecDepth 100000 in
set_option maxHeartbeats 6400000 in
noncomputable def cut8 : {P : Prop // Wait P → cut7.1} := by
  refine ⟨?P, ?h⟩
  case h =>
    intro hP
    intro w s₀ s₁ mg mb fa h₁ tk₁ RW nr R1 R2 rs1 rs2 n1 n2 r1 r2 h tk h' UL h9 us tz rest h8 m6 X9 T9 K9 C9 hS1 hS2 nm1 nm2 hl1 hl2 hul e F25 mun mrow N25
    have hq1 := hS1.length
    obtain ⟨x0, xr, rfl⟩ : ∃ x0 xr, r1 = x0 :: xr := by
      cases r1 with
      | nil => simp at hl1
      | cons a b => exact ⟨a, b, rfl⟩
    have hx0 := nm1 x0 (.head _)
    have H0 := name_ok hx0
    have B0 := bare hx0
    have it1 : ItV us 0 (.int (b2i (gtF (x0 :: xr) r2) - b2i (ltF (x0 :: xr) r2)) tz) := ⟨Int.le_refl 0, by rw [e]; rfl⟩
    obtain ⟨t0, vr, ev⟩ : ∃ t0 vr, rs1 = .str x0 t0 :: vr := by
      cases hS1
      exact ⟨_, _, rfl⟩
    have it2 : ItV rs1 0 (.str x0 t0) := ⟨Int.le_refl 0, by rw [ev]; rfl⟩
    clear ev e
    (k_steps; (repeat (any_goals ((first | ((with_reducible refine un_stop 1 ?_); (k_dflt ((first | ((with_reducible refine at9 296 ?_); apply con_use (law_name_c _ _ _)) | ((with_reducible refine at9 301 ?_); apply con_use (sixes_name (lawName_in _) _ _ _)) | ((with_reducible refine at9 315 ?_); apply con_use (law_heard_c _ _ _)) | ((with_reducible refine at9 334 ?_); apply con_use (law_once_m ?_ ?_ ?_)) | ((with_reducible refine at9 203 ?_); apply con_useT (sld_m ?_ ?_ ?_ ?_ ?_ ?_ ?_ ?_))); walk_at "con9"))) | ((with_reducible refine un_stop 2 ?_); (k_dflt (refine encode_call (name_ok (lawName_in _)).isName.ascii (Nat.le_trans (name_ok (lawName_in _)).isName.size (by decide)) ?_; intro _ _))) | ((with_reducible refine un_stop 3 ?_); ((with_reducible refine at9 322 ?_); k_dflt (refine wpAny_call ?_; apply code_defSX; (all_goals try (refine frP ?_; k_asm)); walk_at "ent7"))) | ((with_reducible refine un_stop 4 ?_); (k_dflt ((first | ((with_reducible refine at9 72 ?_); apply con_use (parse257_t3 _ _ ?_ _)) | ((with_reducible refine at9 210 ?_); apply con_use (three_c ?_ ?_ ?_ ?_))); walk_at "con9"))) | ((with_reducible refine un_stop 5 ?_); (refine replace_b (by assumption) (by assumption) (Nat.succ_ne_zero _) (Nat.succ_ne_zero _) (Nat.ne_of_lt (Nat.lt_succ_self _)) ?_; intro _ _ _))); k_steps))))
    unfold Stop
    rename Fr _ _ _ _ => F26
    rename News _ _ _ _ => N26
    have N27 : News _ _ _ [(336, tabObj #[])] := fun p hp => N26 p (.tail _ (.tail _ (.tail _ (.tail _ hp))))
    revert X9 T9 K9 C9 F26 N27
    repeat (first | exact Wait.go (by assumption) | clear ‹_› | revert ‹_›)
end
section
set_option maxRecDepth 100000 in
set_option maxHeartbeats 6400000 in
noncomputable def cut9 : {P : Prop // Wait P → cut8.1} := by
  refine ⟨?P, ?h⟩
  case h =>
    intro hP
    intro w s₀ s₁ mg mb fa h₁ tk₁ m6 h9 k9 tk X9 T9 K9 C9 F1 N1
    (k_steps; (repeat (any_goals ((first | ((with_reducible refine un_stop 1 ?_); (k_dflt ((first | ((with_reducible refine at9 296 ?_); apply con_use (law_name_c _ _ _)) | ((with_reducible refine at9 301 ?_); apply con_use (sixes_name (lawName_in _) _ _ _)) | ((with_reducible refine at9 315 ?_); apply con_use (law_heard_c _ _ _)) | ((with_reducible refine at9 334 ?_); apply con_use (law_once_m ?_ ?_ ?_)) | ((with_reducible refine at9 203 ?_); apply con_useT (sld_m ?_ ?_ ?_ ?_ ?_ ?_ ?_ ?_))); walk_at "con9"))) | ((with_reducible refine un_stop 2 ?_); (k_dflt (refine encode_call (name_ok (lawName_in _)).isName.ascii (Nat.le_trans (name_ok (lawName_in _)).isName.size (by decide)) ?_; intro _ _))) | ((with_reducible refine un_stop 3 ?_); ((with_reducible refine at9 322 ?_); k_dflt (refine wpAny_call ?_; apply code_defSX; (all_goals try (refine frP ?_; k_asm)); walk_at "ent7")))); k_steps))))
    rename Fr (ghostOf _ _) _ _ _ => F2
    rename News (ghostOf _ _) _ _ _ => N2
    obtain ⟨ca, cb, N3⟩ : ∃ ca cb, News (ghostOf s₁.heap [(338, 336)]) _ _ [(336, tabObj (#[] ++ #[rawInt (412 : Nat), rawInt (0 : Nat), Value.ref ca] ++ #[rawInt (413 : Nat), rawInt (0 : Nat), Value.ref cb]))] := ⟨_, _, fun p hp => N2 p (.tail _ (.tail _ (.tail _ (.tail _ (.tail _ hp)))))⟩
    revert X9 T9 K9 C9 F2 N3
    repeat (first | exact Wait.go (by assumption) | clear ‹_› | revert ‹_›)
end
section
local macro_rules | `(tactic| walk_at "subscriptTail Name BinOp str int") => `(tactic| (k_here; (refine KXi.item (by kxi_len) (by kxi_fact) (by kxi_fact) (by decide) ?_); intro _))
local macro_rules | `(tactic| walk_at "eval Lambda") => `(tactic| (refine of_stop ?_))
local macro_rules | `(tactic| walk_at "compareOp Eq ref ref") => `(tactic| (refine of_stop ?_))
local macro_rules | `(tactic| walk_at "leaving ref") => `(tactic| (k_here; refine leave_onSX (by exact rfl) (by assumption) (by assumption) (by assumption) (by assumption) ?_; k_whole; intro h' S' R' U'; (try dsimp only at S' R' U' ⊢)))
local macro_rules | `(tactic| walk_at "call builtin:str.find") => `(tactic| (refine find3_eq (k := 10) (by decide +kernel) ?_))
set_option maxRecDepth 100000 in
set_option maxHeartbeats 6400000 in
theorem last_t : cut9.1 := by
  intro w s₀ s₁ mg mb fa h₁ tk₁ m6 k h' tk ca cb X9 T9 K9 C9 F1 N1
  refine ListComp_cell (h₀ := ghostOf s₁.heap [(338, 336)]) (L := s₁.heap.objs.size) (m := m6) rfl (by with_unfolding_all rfl) rfl (by decide) (fun _ => rfl) (fun _ => rfl) (fun _ _ => by with_unfolding_all rfl) ?_
  (k_steps; (repeat (any_goals ((first | ((with_reducible refine un_stop 1 ?_); (k_dflt ((first | ((with_reducible refine at9 296 ?_); apply con_use (law_name_c _ _ _)) | ((with_reducible refine at9 301 ?_); apply con_use (sixes_name (lawName_in _) _ _ _)) | ((with_reducible refine at9 315 ?_); apply con_use (law_heard_c _ _ _)) | ((with_reducible refine at9 334 ?_); apply con_use (law_once_m ?_ ?_ ?_)) | ((with_reducible refine at9 203 ?_); apply con_useT (sld_m ?_ ?_ ?_ ?_ ?_ ?_ ?_ ?_))); walk_at "con9"))) | ((with_reducible refine un_stop 2 ?_); (k_dflt (refine encode_call (name_ok (lawName_in _)).isName.ascii (Nat.le_trans (name_ok (lawName_in _)).isName.size (by decide)) ?_; intro _ _))) | ((with_reducible refine un_stop 3 ?_); ((with_reducible refine at9 322 ?_); k_dflt (refine wpAny_call ?_; apply code_defSX; (all_goals try (refine frP ?_; k_asm)); walk_at "ent7")))); k_steps))))
  rename News _ _ _ _ => N2
  rename Fr _ _ _ _ => F2
  refine ⟨_, [_, _], 0, _, rfl, F2, N2, .head _, by simp, fun g => ?_⟩
  clear N2 F2
  intro v I oI C c oc D h tk E' hv hoc F N off ne
  obtain rfl : _ = v := Option.some.inj hv
  clear hv
  (k_steps; (repeat (any_goals ((first | ((with_reducible refine un_stop 1 ?_); (k_dflt ((first | ((with_reducible refine at9 296 ?_); apply con_use (law_name_c _ _ _)) | ((with_reducible refine at9 301 ?_); apply con_use (sixes_name (lawName_in _) _ _ _)) | ((with_reducible refine at9 315 ?_); apply con_use (law_heard_c _ _ _)) | ((with_reducible refine at9 334 ?_); apply con_use (law_once_m ?_ ?_ ?_)) | ((with_reducible refine at9 203 ?_); apply con_useT (sld_m ?_ ?_ ?_ ?_ ?_ ?_ ?_ ?_))); walk_at "con9"))) | ((with_reducible refine un_stop 2 ?_); (k_dflt (refine encode_call (name_ok (lawName_in _)).isName.ascii (Nat.le_trans (name_ok (lawName_in _)).isName.size (by decide)) ?_; intro _ _))) | ((with_reducible refine un_stop 3 ?_); ((with_reducible refine at9 322 ?_); k_dflt (refine wpAny_call ?_; apply code_defSX; (all_goals try (refine frP ?_; k_asm)); walk_at "ent7")))); k_steps))))
  unfold Stop
  obtain ⟨o1, o2, o3, o4⟩ := off _ (.tail _ (.head _))
  rename @LT.lt Nat _ 336 _ => lL
  refine lam_new (P := 336) (c := 338) F (last_pick N) ?p1 T9 C9 rfl rfl (by kn_triples) (by kn_among) (by with_unfolding_all rfl) rfl ?_
  case p1 =>
    exact al (Ne.symm o1) (al (Ne.symm o2) (al (Ne.symm o3) (al (Ne.symm o4) (al (Nat.ne_of_gt lL) al0))))
  intro f c' oc' vs t ctv h2 tk2 F2 N2 d1 d2 l1' l2'
  clear N F
  (k_steps; (repeat (any_goals ((first | ((with_reducible refine un_stop 1 ?_); (k_dflt ((first | ((with_reducible refine at9 296 ?_); apply con_use (law_name_c _ _ _)) | ((with_reducible refine at9 301 ?_); apply con_use (sixes_name (lawName_in _) _ _ _)) | ((with_reducible refine at9 315 ?_); apply con_use (law_heard_c _ _ _)) | ((with_reducible refine at9 334 ?_); apply con_use (law_once_m ?_ ?_ ?_)) | ((with_reducible refine at9 203 ?_); apply con_useT (sld_m ?_ ?_ ?_ ?_ ?_ ?_ ?_ ?_))); walk_at "con9"))) | ((with_reducible refine un_stop 2 ?_); (k_dflt (refine encode_call (name_ok (lawName_in _)).isName.ascii (Nat.le_trans (name_ok (lawName_in _)).isName.size (by decide)) ?_; intro _ _))) | ((with_reducible refine un_stop 3 ?_); ((with_reducible refine at9 322 ?_); k_dflt (refine wpAny_call ?_; apply code_defSX; (all_goals try (refine frP ?_; k_asm)); walk_at "ent7")))); k_steps))))
  rename Fr (ghostOf _ _) _ _ _ => F3
  rename News (ghostOf _ _) _ _ _ => N3
  refine EndC.intro F3 N3 [(c', oc'), (336, _), (_, _)] last_end ?p2 (.tail _ (.tail _ (.head _))) ?p3
  case p2 =>
    exact al ⟨Nat.ne_of_gt (l1' _ (.tail _ (.head _))), Nat.ne_of_gt (l1' _ (.tail _ (.tail _ (.head _)))), Nat.ne_of_gt (l1' _ (.tail _ (.tail _ (.tail _ (.head _))))), Nat.ne_of_gt (l1' _ (.tail _ (.tail _ (.tail _ (.tail _ (.head _))))))⟩ (al ⟨o1, o2, o3, o4⟩ (al (off _ (.head _)) al0))
  case p3 =>
    clear N3 F3 N2 F2 off ne hoc o1 o2 o3 o4 l1' l2'
    intro v2 I2 oI2 C2 cc2 oc2 D2 h tk E' hv2 hoc2 F N off2 ne2
    obtain rfl : _ = v2 := Option.some.inj hv2
    clear hv2
    (k_steps; (repeat (any_goals ((first | ((with_reducible refine un_stop 1 ?_); (k_dflt ((first | ((with_reducible refine at9 296 ?_); apply con_use (law_name_c _ _ _)) | ((with_reducible refine at9 301 ?_); apply con_use (sixes_name (lawName_in _) _ _ _)) | ((with_reducible refine at9 315 ?_); apply con_use (law_heard_c _ _ _)) | ((with_reducible refine at9 334 ?_); apply con_use (law_once_m ?_ ?_ ?_)) | ((with_reducible refine at9 203 ?_); apply con_useT (sld_m ?_ ?_ ?_ ?_ ?_ ?_ ?_ ?_))); walk_at "con9"))) | ((with_reducible refine un_stop 2 ?_); (k_dflt (refine encode_call (name_ok (lawName_in _)).isName.ascii (Nat.le_trans (name_ok (lawName_in _)).isName.size (by decide)) ?_; intro _ _))) | ((with_reducible refine un_stop 3 ?_); ((with_reducible refine at9 322 ?_); k_dflt (refine wpAny_call ?_; apply code_defSX; (all_goals try (refine frP ?_; k_asm)); walk_at "ent7")))); k_steps))))
    unfold Stop
    refine lam_hit (c' := c') (P := 336) (c := 338) F N (by k_mem) T9 C9 rfl rfl (by kn_triples) (by kn_hit) (by with_unfolding_all rfl) rfl ?_
    intro f2 ctv2 h3 tk3 F2 N2 lt3
    clear N F
    (k_steps; (repeat (any_goals ((first | ((with_reducible refine un_stop 1 ?_); (k_dflt ((first | ((with_reducible refine at9 296 ?_); apply con_use (law_name_c _ _ _)) | ((with_reducible refine at9 301 ?_); apply con_use (sixes_name (lawName_in _) _ _ _)) | ((with_reducible refine at9 315 ?_); apply con_use (law_heard_c _ _ _)) | ((with_reducible refine at9 334 ?_); apply con_use (law_once_m ?_ ?_ ?_)) | ((with_reducible refine at9 203 ?_); apply con_useT (sld_m ?_ ?_ ?_ ?_ ?_ ?_ ?_ ?_))); walk_at "con9"))) | ((with_reducible refine un_stop 2 ?_); (k_dflt (refine encode_call (name_ok (lawName_in _)).isName.ascii (Nat.le_trans (name_ok (lawName_in _)).isName.size (by decide)) ?_; intro _ _))) | ((with_reducible refine un_stop 3 ?_); ((with_reducible refine at9 322 ?_); k_dflt (refine wpAny_call ?_; apply code_defSX; (all_goals try (refine frP ?_; k_asm)); walk_at "ent7")))); k_steps))))
    rename Fr (ghostOf _ _) _ _ _ => F3
    rename News (ghostOf _ _) _ _ _ => N3
    refine EndC.intro F3 N3 [(336, _), (_, _)] last_end2 ?p4 (.tail _ (.head _)) ?p5
    case p4 =>
      exact al (off2 _ (.tail _ (.head _))) (al (off2 _ (.tail _ (.tail _ (.head _)))) al0)
    case p5 =>
      intro D3 h4 tk4 F4 N4 hne4
      clear N3 F3 N2 F2
      (k_steps; (repeat (any_goals ((first | ((with_reducible refine un_stop 1 ?_); (k_dflt ((first | ((with_reducible refine at9 296 ?_); apply con_use (law_name_c _ _ _)) | ((with_reducible refine at9 301 ?_); apply con_use (sixes_name (lawName_in _) _ _ _)) | ((with_reducible refine at9 315 ?_); apply con_use (law_heard_c _ _ _)) | ((with_reducible refine at9 334 ?_); apply con_use (law_once_m ?_ ?_ ?_)) | ((with_reducible refine at9 203 ?_); apply con_useT (sld_m ?_ ?_ ?_ ?_ ?_ ?_ ?_ ?_))); walk_at "con9"))) | ((with_reducible refine un_stop 2 ?_); (k_dflt (refine encode_call (name_ok (lawName_in _)).isName.ascii (Nat.le_trans (name_ok (lawName_in _)).isName.size (by decide)) ?_; intro _ _))) | ((with_reducible refine un_stop 3 ?_); ((with_reducible refine at9 322 ?_); k_dflt (refine wpAny_call ?_; apply code_defSX; (all_goals try (refine frP ?_; k_asm)); walk_at "ent7")))); k_steps))))
      unfold Stop
      (refine eq_dataH (by ke_read) (by ke_read) (by ke_shaped) (by ke_shaped) (by ke_room) ?_)
      ke_norm
      (k_steps; (repeat (any_goals ((first | ((with_reducible refine un_stop 1 ?_); (k_dflt ((first | ((with_reducible refine at9 296 ?_); apply con_use (law_name_c _ _ _)) | ((with_reducible refine at9 301 ?_); apply con_use (sixes_name (lawName_in _) _ _ _)) | ((with_reducible refine at9 315 ?_); apply con_use (law_heard_c _ _ _)) | ((with_reducible refine at9 334 ?_); apply con_use (law_once_m ?_ ?_ ?_)) | ((with_reducible refine at9 203 ?_); apply con_useT (sld_m ?_ ?_ ?_ ?_ ?_ ?_ ?_ ?_))); walk_at "con9"))) | ((with_reducible refine un_stop 2 ?_); (k_dflt (refine encode_call (name_ok (lawName_in _)).isName.ascii (Nat.le_trans (name_ok (lawName_in _)).isName.size (by decide)) ?_; intro _ _))) | ((with_reducible refine un_stop 3 ?_); ((with_reducible refine at9 322 ?_); k_dflt (refine wpAny_call ?_; apply code_defSX; (all_goals try (refine frP ?_; k_asm)); walk_at "ent7")))); k_steps))))
      rename Fr (ghostOf _ _) _ _ _ => F5
      rename News (ghostOf _ _) _ _ _ => N5
      exact ⟨congrArg (fun b => Flow.ret (Value.bool b)) (by decide +kernel), _, _, _, _, rfl, F5, only_tab N5⟩
end
end
end
theorem walk : hd.1 :=
  cut0.2 ⟨cut1.go ⟨turn_t⟩ ⟨cut2.2 ⟨cut3.2 ⟨cut4.2 ⟨cut5.2 ⟨cut6.2 ⟨cut7.2 ⟨cut8.2 ⟨cut9.2 ⟨last_t⟩⟩⟩⟩⟩⟩⟩⟩⟩⟩
/- names that are taken: the head then lays no second copy of these big constants, and the file stays small -/
noncomputable def head.tw6474009502463322548 : Nat := 0
noncomputable def head.tw12202599754282646112 : Nat := 0
noncomputable def head.tw915595752753768180 : Nat := 0
noncomputable def head.tw13335025841360890868 : Nat := 0
noncomputable def head.tw12680087689736754913 : Nat := 0
noncomputable def head.tw3406552568449126707 : Nat := 0
noncomputable def head.tw8390636374581242146 : Nat := 0
noncomputable def head.tw16699118890847573099 : Nat := 0
noncomputable def head.tw16310391890351198594 : Nat := 0
noncomputable def head.tw13419902464999305328 : Nat := 0
noncomputable def head.tw15940621676493584966 : Nat := 0
noncomputable def head.tw17867283565879608411 : Nat := 0
noncomputable def head.tw1985537357303476512 : Nat := 0
noncomputable def head.tw15501141472565082077 : Nat := 0
noncomputable def head.tw7035425020737665376 : Nat := 0
noncomputable def head.tw17625619411348890933 : Nat := 0
noncomputable def head.tw957920728692688272 : Nat := 0
noncomputable def head.tw14112051064653734678 : Nat := 0
noncomputable def head.tw3451093201888169649 : Nat := 0
noncomputable def head.tw9772209261480659736 : Nat := 0
noncomputable def head.tw5617373736292572815 : Nat := 0
noncomputable def head.tw16640130746408290383 : Nat := 0
noncomputable def head.tw7571121800136207637 : Nat := 0
noncomputable def head.tw10786079294511566085 : Nat := 0
noncomputable def head.tw1134157569726261602 : Nat := 0
noncomputable def head.tw14882813523228863612 : Nat := 0
noncomputable def head.tw3944913497352057107 : Nat := 0
noncomputable def head.tw1852205218256702202 : Nat := 0
noncomputable def head.tw1319983325249436295 : Nat := 0
noncomputable def head.tw2581250870941146908 : Nat := 0
noncomputable def head.tw6588589085864783938 : Nat := 0
noncomputable def head.tw10205530081349824492 : Nat := 0
noncomputable def head.tw7090939061502383884 : Nat := 0
noncomputable def head.tw12207028300977255130 : Nat := 0
noncomputable def head.tw10010264046613662565 : Nat := 0
noncomputable def head.tw9082462177598256812 : Nat := 0
noncomputable def head.tw467416434755642258 : Nat := 0
noncomputable def head.tw9325057278558614444 : Nat := 0
noncomputable def head.tw649443455394278489 : Nat := 0
noncomputable def head.tw17265401458761052179 : Nat := 0
noncomputable def head.tw3547240966391284428 : Nat := 0
noncomputable def head.tw15782939476341012554 : Nat := 0
noncomputable def head.tw14205479233844494046 : Nat := 0
noncomputable def head.tw5824390128016035984 : Nat := 0
noncomputable def head.tw12903917746401883607 : Nat := 0
noncomputable def head.tw9984397402777080727 : Nat := 0
noncomputable def head.tw11005904730967762025 : Nat := 0
noncomputable def head.tw262713603470380999 : Nat := 0
noncomputable def head.tw8812732774380208333 : Nat := 0
noncomputable def head.tw14699756766385990792 : Nat := 0
noncomputable def head.tw11862927689305589065 : Nat := 0
noncomputable def head.tw12032222614953749359 : Nat := 0
noncomputable def head.tw13942192884097748152 : Nat := 0
noncomputable def head.tw5651425540991249520 : Nat := 0
noncomputable def head.tw12740806245664736207 : Nat := 0
noncomputable def head.tw5438144065070405397 : Nat := 0
noncomputable def head.tw2518057956044344595 : Nat := 0
noncomputable def head.tw6836605351468522007 : Nat := 0
noncomputable def head.tw14643560169476415855 : Nat := 0
noncomputable def head.tw7901268698958117014 : Nat := 0
noncomputable def head.tw14628233357713752721 : Nat := 0
noncomputable def head.tw13246386896891170512 : Nat := 0
noncomputable def head.tw13689084217373910675 : Nat := 0
noncomputable def head.tw13988103294471073821 : Nat := 0
noncomputable def head.tw15035418422258542911 : Nat := 0
noncomputable def head.tw5111174896325423537 : Nat := 0
noncomputable def head.tw17552560543380974038 : Nat := 0
noncomputable def head.tw14492117785962260688 : Nat := 0
noncomputable def head.tw5788964047882338313 : Nat := 0
noncomputable def head.tw2326617092838664518 : Nat := 0
noncomputable def head.tw851385035628625539 : Nat := 0
noncomputable def head.tw2591067827882107080 : Nat := 0
noncomputable def head.tw15638870477510070732 : Nat := 0
noncomputable def head.tw8097174177036852075 : Nat := 0
noncomputable def head.tw6247268493268985975 : Nat := 0
noncomputable def head.tw8895791426145780158 : Nat := 0
noncomputable def head.tw315434073420411817 : Nat := 0
noncomputable def head.tw13295774097974887486 : Nat := 0
noncomputable def head.tw7658410731251134818 : Nat := 0
noncomputable def head.tw10015159338476511836 : Nat := 0
noncomputable def head.tw3746228215898030841 : Nat := 0
noncomputable def head.tw12858780395421280599 : Nat := 0
noncomputable def head.tw4709128311485490483 : Nat := 0
noncomputable def head.tw10812213935944405949 : Nat := 0
noncomputable def head.tw12478146576626367362 : Nat := 0
noncomputable def head.tw15091486752826498866 : Nat := 0
noncomputable def head.tw8627200689577751383 : Nat := 0
noncomputable def head.tw13906610036690215845 : Nat := 0
noncomputable def head.tw1212124681294104184 : Nat := 0
noncomputable def head.tw14139502460874162764 : Nat := 0
noncomputable def head.tw9702098958229961203 : Nat := 0
noncomputable def head.tw15436542981012472205 : Nat := 0
noncomputable def head.tw8715499118904818895 : Nat := 0
noncomputable def head.tw11628534518673281344 : Nat := 0
noncomputable def head.tw17348764703882912863 : Nat := 0
noncomputable def head.tw13294958713779813728 : Nat := 0
noncomputable def head.tw12201952087667049370 : Nat := 0
noncomputable def head.tw16997897962222511 : Nat := 0
set_option Elab.async true in
set_option maxRecDepth 100000 in
set_option maxHeartbeats 8000000 in
theorem head : PySem.Challenge.rw_kq0055_01.Holds := by
  w_on
  o_law
  k_head
  case hw => w_witness2
  exact walk
end Mine
set_option maxRecDepth 100000 in
theorem PySem.Challenge.cw_kq0055_01_holds : PySem.Challenge.rw_kq0055_01.Holds :=
  Mine.head
