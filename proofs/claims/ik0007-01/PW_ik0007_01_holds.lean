import PyProof.Rows.All
import Wide.All
import OpenK.AllK
import Wide.FinOn
import PySem.Challenge.RW_ik0007_01
set_option Elab.async false

section PartT0
open PySem PySem.W PyProof.Rows
set_option maxRecDepth 100000
set_option maxHeartbeats 8000000
namespace Mine
open_top hd for PySem.Challenge.rw_ik0007_01
end Mine
end PartT0

section PartB0
open PySem PySem.W PySem.Spec PySem.Calls PyProof.Rows
set_option maxRecDepth 100000
set_option maxHeartbeats 8000000
namespace Mine
theorem anewB0 : True := by
  w_top off
  trivial

theorem room0 {dp n L : Nat} (h : dp + n < L) : dp < L := Nat.lt_of_le_of_lt (Nat.le_add_right _ _) h
theorem room1 {dp n c L : Nat} (h : dp + n < L) (e : c + 1 ≤ n) : dp + 1 + c < L := by
  refine Nat.lt_of_le_of_lt ?_ h
  rw [Nat.add_assoc, Nat.add_comm 1 c]
  exact Nat.add_le_add_left e dp
theorem units1 {un n c L : Nat} (h : un + 8 * n < L) (e : c + 1 ≤ n) : un + 3 + 8 * c < L := by
  have h1 : 8 * (c + 1) ≤ 8 * n := Nat.mul_le_mul_left 8 e
  rw [Nat.mul_succ] at h1
  rw [Nat.add_assoc, Nat.add_comm 3]
  exact Nat.lt_of_le_of_lt (Nat.add_le_add_left (Nat.le_trans (Nat.add_le_add_left (by decide) _) h1) un) h
theorem half_le {k : Nat} (h : 2 ≤ k) : k / 2 + 2 + 1 ≤ k + 2 := Nat.add_le_add_right (Nat.div_lt_self (Nat.lt_of_lt_of_le (by decide) h) (by decide) : k / 2 + 1 ≤ k) 2
theorem half_le' {k : Nat} (h : 2 ≤ k) : k - k / 2 + 2 + 1 ≤ k + 2 := Nat.add_le_add_right (Nat.sub_lt (Nat.lt_of_lt_of_le (by decide) h) (Nat.div_pos h (by decide)) : k - k / 2 + 1 ≤ k) 2
theorem half_add (k : Nat) : k / 2 + (k - k / 2) = k := Nat.add_sub_of_le (Nat.div_le_self k 2)
theorem half_mid (lo k : Nat) : ((lo : Int) + ((lo : Int) + (k : Int))) / 2 = ((lo + k / 2 : Nat) : Int) := by omega
theorem half_sh (lo k n : Nat) : (((lo : Int) + ((lo : Int) + (k : Int))) / 2 - (lo : Int)) * (n : Int) = ((k / 2 * n : Nat) : Int) := by
  rw [half_mid, Int.natCast_add, Int.add_comm (lo : Int) ((k / 2 : Nat) : Int), Int.add_sub_cancel, Int.natCast_mul]
theorem half_mid' (lo k : Nat) : ((lo : Int) + ((lo : Int) + (k : Int))) / 2 = (lo : Int) + ((k / 2 : Nat) : Int) := by rw [half_mid, Int.natCast_add]
theorem half_hi (lo k : Nat) : (lo : Int) + (k : Int) = ((lo + k / 2 : Nat) : Int) + ((k - k / 2 : Nat) : Int) := by
  rw [← Int.natCast_add, ← Int.natCast_add, Nat.add_assoc, half_add]
theorem half_le2 {lo k n : Nat} (h : lo + k ≤ n) : lo + k / 2 + (k - k / 2) ≤ n := by rw [Nat.add_assoc, half_add]; exact h
theorem half_le1 {lo k n : Nat} (h : lo + k ≤ n) : lo + k / 2 ≤ n := Nat.le_trans (Nat.add_le_add_left (Nat.div_le_self k 2) lo) h
theorem room64 {k nd bx : Nat} (h : k * nd ≤ bx + k - 1) (h1 : bx ≤ 48) (h2 : k ≤ 10) : k * nd ≤ 64 := Nat.le_trans h (Nat.le_trans (Nat.sub_le_sub_right (Nat.add_le_add h1 h2) 1) (by decide))
abbrev Led := List (Addr × Obj)
abbrev PP : Program := PySem.Challenge.rw_ik0007_01.row.prog

/-- one code table: not yet grown, or grown by the one nested def -/
inductive Tab (P : Addr) (pos : Pos) (qual : Str) : Led → Prop
  | none : Tab P pos qual [(P, tabObj #[])]
  | some {c : Addr} {o : Obj} {vs : Array Value} {t : Tok} : o.data = .fields vs → vs[1]? = some (.str qual t) → 37 < c → 44 < c → Tab P pos qual [(P, tabObj #[rawInt pos.line, rawInt pos.col, .ref c]), (c, o)]

abbrev pos1 : Pos := ⟨35, 4, 44, 28⟩
abbrev pos2 : Pos := ⟨50, 4, 55, 55⟩
abbrev qual1 : Str := Str.ofString "_int2digits.<locals>.inner"
abbrev qual2 : Str := Str.ofString "_digits2int.<locals>.inner"
def Tabs (T : Led) : Prop := ∃ T1 T2, Tab 37 pos1 qual1 T1 ∧ Tab 44 pos2 qual2 T2 ∧ T = T1 ++ T2

theorem Tab.mem {P : Addr} {pos : Pos} {q : Str} {T : Led} (h : Tab P pos q T) : ∃ o, (P, o) ∈ T := by
  cases h with
  | none => exact ⟨_, .head _⟩
  | some => exact ⟨_, .head _⟩
theorem Tab.fst {P : Addr} {pos : Pos} {q : Str} {T : Led} (h : Tab P pos q T) : ∀ p ∈ T, p.1 = P ∨ (37 < p.1 ∧ 44 < p.1) := by
  intro p hp
  cases h with
  | none => exact .inl (by rw [List.mem_singleton.mp hp])
  | some _ _ h1 h2 =>
    rcases List.mem_cons.mp hp with rfl | hp
    · exact .inl rfl
    · rw [List.mem_singleton.mp hp]; exact .inr ⟨h1, h2⟩
theorem Tabs.lt {T : Led} (h : Tabs T) {d : Nat} (hd : AllLt d T) : 37 < d ∧ 44 < d := by
  obtain ⟨T1, T2, h1, h2, rfl⟩ := h
  obtain ⟨o1, m1⟩ := h1.mem
  obtain ⟨o2, m2⟩ := h2.mem
  exact ⟨ktn_ltOf hd _ (List.mem_append_left _ m1), ktn_ltOf hd _ (List.mem_append_right _ m2)⟩

/-- a ledger is what is one's own and the tables -/
inductive Split : Led → Led → Led → Prop
  | base {T : Led} : Split T [] T
  | app {o T : Led} : Split (o ++ T) o T
  | cons {p : Addr × Obj} {n o T : Led} : Split n o T → Split (p :: n) (p :: o) T
theorem Split.eq {n o T : Led} (h : Split n o T) : n = o ++ T := by
  induction h with
  | base => rfl
  | app => rfl
  | cons _ ih => rw [ih]; rfl

def Low (own : Led) : Prop := ∀ p ∈ own, p.1 ≠ 37 ∧ p.1 ≠ 44
theorem Low.nil : Low [] := fun _ h => nomatch h
theorem Low.consNe {p : Addr × Obj} {l : Led} (h : p.1 ≠ 37 ∧ p.1 ≠ 44) (hl : Low l) : Low (p :: l) := fun q hq => by
  rcases List.mem_cons.mp hq with rfl | hq
  · exact h
  · exact hl q hq

theorem Low.cons {p : Addr × Obj} {l : Led} (h : 37 < p.1 ∧ 44 < p.1) (hl : Low l) : Low (p :: l) := .consNe ⟨Nat.ne_of_gt h.1, Nat.ne_of_gt h.2⟩ hl
theorem Low.cons' {a : Nat} {o : Obj} {l : Led} (h1 : 37 < a) (h2 : 44 < a) (hl : Low l) : Low ((a, o) :: l) := .cons ⟨h1, h2⟩ hl

/-- a call that gives back a value and leaves the ledger as it was -/
def PCon (w : World) (k : Nat) (f : Addr) (args : List Value) (R : Tok → Value) : Prop :=
  ∀ (loose : List Str) (mean : ExcName → Option Value) (mg mb : Str → Option Value) (dp un : Nat) (gd : Option (List Code)) (cn : Str) (cs : Scope) (a : Addr) (ccd : Value) (cl : List (Str × Addr)) (outer : List Env) (A₀ : Around) (base h₀ : Heap) (L : Addr) (m : Str → Option Value) (news : Led) (s : Shared) (Q E : Value → Shared → Prop),
    Below A₀ base outer h₀ → Fr h₀ L s.heap m → (hd.heap_39 w.params).In h₀ → News h₀ L s.heap news → Top topProg loose mean mg mb h₀ → cs.kind = .function → dp + k < recursionLimit → un + 8 * k < cLine →
    (∀ t h' tk', Fr h₀ L h' m → News h₀ L h' news → Q (R t) { s with heap := h', toks := tk' }) →
    wpAny (model PP w) (ktrTop dp un gd cn cs L a ccd cl outer) (call (.ref f) args) Q E s

/-- a call that may grow the tables and hands on objects of its own -/
def Con (w : World) (k : Nat) (f : Addr) (args : List Value) (R : Value → Led → Prop) : Prop :=
  ∀ (loose : List Str) (mean : ExcName → Option Value) (mg mb : Str → Option Value) (dp un : Nat) (gd : Option (List Code)) (cn : Str) (cs : Scope) (a : Addr) (ccd : Value) (cl : List (Str × Addr)) (outer : List Env) (A₀ : Around) (base h₀ : Heap) (L : Addr) (m : Str → Option Value) (news own T : Led) (s : Shared) (Q E : Value → Shared → Prop),
    Below A₀ base outer h₀ → Fr h₀ L s.heap m → (hd.heap_39 w.params).In h₀ → News h₀ L s.heap news → Top topProg loose mean mg mb h₀ → CodeHd h₀ 48 44 → CodeHd h₀ 41 37 → cs.kind = .function → Split news own T → Tabs T → Low own → dp + k < recursionLimit → un + 8 * k < cLine →
    (∀ v own' T' h' tk', R v own' → Tabs T' → Fr h₀ L h' m → News h₀ L h' (own' ++ (own ++ T')) → (∀ p ∈ own', ∀ q ∈ news, q.1 < p.1) → Q v { s with heap := h', toks := tk' }) →
    wpAny (model PP w) (ktrTop dp un gd cn cs L a ccd cl outer) (call (.ref f) args) Q E s

theorem PCon.use {w : World} {k : Nat} {f : Addr} {args : List Value} {R : Tok → Value} (hC : PCon w k f args R)
    {loose : List Str} {mean : ExcName → Option Value} {mg mb : Str → Option Value} {dp un : Nat} {gd : Option (List Code)} {cn : Str} {cs : Scope} {a : Addr} {ccd : Value} {cl : List (Str × Addr)} {outer : List Env} {A₀ : Around} {base h₀ : Heap} {L : Addr} {m : Str → Option Value} {news : Led} {s : Shared} {Q E : Value → Shared → Prop}
    (B : Below A₀ base outer h₀) (F : Fr h₀ L s.heap m) (X : (hd.heap_39 w.params).In h₀) (N : News h₀ L s.heap news) (T : Top topProg loose mean mg mb h₀) (hk : cs.kind = .function) (hd : dp + k < recursionLimit) (hu : un + 8 * k < cLine)
    (hret : ∀ t h' tk', Fr h₀ L h' m → News h₀ L h' news → Q (R t) { s with heap := h', toks := tk' }) :
    wpAny (model PP w) (ktrTop dp un gd cn cs L a ccd cl outer) (call (.ref f) args) Q E s :=
  hC _ _ _ _ _ _ _ _ _ _ _ _ _ _ _ _ _ _ _ _ _ _ B F X N T hk hd hu hret

/-- a call that keeps the ledger and hands on objects of its own -/
def NCon (w : World) (k : Nat) (f : Addr) (args : List Value) (R : Value → Led → Prop) : Prop :=
  ∀ (loose : List Str) (mean : ExcName → Option Value) (mg mb : Str → Option Value) (dp un : Nat) (gd : Option (List Code)) (cn : Str) (cs : Scope) (a : Addr) (ccd : Value) (cl : List (Str × Addr)) (outer : List Env) (A₀ : Around) (base h₀ : Heap) (L : Addr) (m : Str → Option Value) (news : Led) (s : Shared) (Q E : Value → Shared → Prop),
    Below A₀ base outer h₀ → Fr h₀ L s.heap m → (hd.heap_39 w.params).In h₀ → News h₀ L s.heap news → Top topProg loose mean mg mb h₀ → cs.kind = .function → dp + k < recursionLimit → un + 8 * k < cLine →
    (∀ v own' h' tk', R v own' → Fr h₀ L h' m → News h₀ L h' (own' ++ news) → (∀ p ∈ own', ∀ q ∈ news, q.1 < p.1) → Q v { s with heap := h', toks := tk' }) →
    wpAny (model PP w) (ktrTop dp un gd cn cs L a ccd cl outer) (call (.ref f) args) Q E s
theorem NCon.use {w : World} {k : Nat} {f : Addr} {args : List Value} {R : Value → Led → Prop} (hC : NCon w k f args R)
    {loose : List Str} {mean : ExcName → Option Value} {mg mb : Str → Option Value} {dp un : Nat} {gd : Option (List Code)} {cn : Str} {cs : Scope} {a : Addr} {ccd : Value} {cl : List (Str × Addr)} {outer : List Env} {A₀ : Around} {base h₀ : Heap} {L : Addr} {m : Str → Option Value} {news : Led} {s : Shared} {Q E : Value → Shared → Prop}
    (B : Below A₀ base outer h₀) (F : Fr h₀ L s.heap m) (X : (hd.heap_39 w.params).In h₀) (N : News h₀ L s.heap news) (T : Top topProg loose mean mg mb h₀) (hk : cs.kind = .function) (hd : dp + k < recursionLimit) (hu : un + 8 * k < cLine)
    (hret : ∀ v own' h' tk', R v own' → Fr h₀ L h' m → News h₀ L h' (own' ++ news) → (∀ p ∈ own', ∀ q ∈ news, q.1 < p.1) → Q v { s with heap := h', toks := tk' }) :
    wpAny (model PP w) (ktrTop dp un gd cn cs L a ccd cl outer) (call (.ref f) args) Q E s :=
  hC _ _ _ _ _ _ _ _ _ _ _ _ _ _ _ _ _ _ _ _ _ _ B F X N T hk hd hu hret
theorem Con.use {w : World} {k : Nat} {f : Addr} {args : List Value} {R : Value → Led → Prop} (hC : Con w k f args R)
    {loose : List Str} {mean : ExcName → Option Value} {mg mb : Str → Option Value} {dp un : Nat} {gd : Option (List Code)} {cn : Str} {cs : Scope} {a : Addr} {ccd : Value} {cl : List (Str × Addr)} {outer : List Env} {A₀ : Around} {base h₀ : Heap} {L : Addr} {m : Str → Option Value} {news own T : Led} {s : Shared} {Q E : Value → Shared → Prop}
    (B : Below A₀ base outer h₀) (F : Fr h₀ L s.heap m) (X : (hd.heap_39 w.params).In h₀) (N : News h₀ L s.heap news) (Tp : Top topProg loose mean mg mb h₀) (C1 : CodeHd h₀ 48 44) (C2 : CodeHd h₀ 41 37) (hk : cs.kind = .function)
    (hS : Split news own T) (hT : Tabs T) (hL : Low own) (hd : dp + k < recursionLimit) (hu : un + 8 * k < cLine)
    (hret : ∀ v own' T' h' tk', R v own' → Tabs T' → Fr h₀ L h' m → News h₀ L h' (own' ++ (own ++ T')) → (∀ p ∈ own', ∀ q ∈ news, q.1 < p.1) → Q v { s with heap := h', toks := tk' }) :
    wpAny (model PP w) (ktrTop dp un gd cn cs L a ccd cl outer) (call (.ref f) args) Q E s :=
  hC _ _ _ _ _ _ _ _ _ _ _ _ _ _ _ _ _ _ _ _ _ _ _ _ B F X N Tp C1 C2 hk hS hT hL hd hu hret

abbrev tupObj (vs : Array Value) (c : Nat) : Obj := { cls := .type "tuple", data := .seq vs c }
def RTup (q r : Int) (v : Value) (own : Led) : Prop := ∃ D t1 t2 c, v = .ref D ∧ own = [(D, tupObj #[.int q t1, .int r t2] c)]

/-- fills the session's view of the written part; says nothing -/
theorem seen : (fun (_ : OpenLaw) (_ : Params → Frag) => True) PySem.Challenge.rw_ik0007_01 hd.heap_39 := by
  k_fill
  trivial
end Mine
end PartB0

section PartP1
open PySem PySem.W PySem.Spec PySem.Calls PyProof.Rows
namespace Mine
theorem anewP1 : True := by
  w_top off
  trivial
theorem bits_le {x : Int} {k : Nat} (h0 : 0 ≤ x) (h : x < 2 ^ k) : Builtin.Int.intBits x ≤ k := by
  unfold Builtin.Int.intBits
  split
  · omega
  · rename_i hx
    have hne : x.natAbs ≠ 0 := fun e => hx (by rw [Int.natAbs_eq_zero.mp e]; rfl)
    have h1 : x.natAbs < 2 ^ k := by
      have e : ((x.natAbs : Nat) : Int) = x := Int.natAbs_of_nonneg h0
      have : ((x.natAbs : Nat) : Int) < ((2 ^ k : Nat) : Int) := by rw [e]; simpa using h
      exact Int.ofNat_lt.mp this
    exact (Nat.log2_lt hne).mpr h1
theorem bits_lt {x : Int} (h0 : 0 ≤ x) : x < 2 ^ (Builtin.Int.intBits x) := by
  unfold Builtin.Int.intBits
  split
  · rename_i hx
    rw [eq_of_beq hx]; decide
  · have e : ((x.natAbs : Nat) : Int) = x := Int.natAbs_of_nonneg h0
    have : x.natAbs < 2 ^ (x.natAbs.log2 + 1) := Nat.lt_log2_self
    have h2 : ((x.natAbs : Nat) : Int) < ((2 ^ (x.natAbs.log2 + 1) : Nat) : Int) := Int.ofNat_lt.mpr this
    rw [e] at h2
    simpa using h2
theorem bits_pos {x : Int} (h : 0 < x) : 1 ≤ Builtin.Int.intBits x := by
  unfold Builtin.Int.intBits
  split
  · rename_i hx; rw [eq_of_beq hx] at h; omega
  · omega
theorem bits_zero : Builtin.Int.intBits 0 = 0 := rfl
end Mine
end PartP1

section PartS1
open PySem PySem.W PySem.Spec PySem.Calls PyProof.Rows
set_option maxRecDepth 100000
set_option maxHeartbeats 8000000
namespace Mine
theorem anewS1 : True := by
  w_top off
  trivial
section
variable {prog : Program} {w : World} {A : Around} {E : Value → Shared → Prop}
theorem kind_issN : builtinKind "issubclass.nested" = none := by decide +kernel
theorem plain_issN : plainId "issubclass.nested" = true := by decide +kernel
theorem args_issN (a b c : Value) : argsOk "issubclass.nested" ⟨[a, b, c], []⟩ := by unfold argsOk; kernel_rfl

theorem iss_str_str {k : Value} {dep : Int} {tk : Tok} {s : Shared} {Q : Fin → Shared → Prop} (hk : k = .int dep tk) (hq : Q (.done (.ret (.bool true))) s) :
    wpAny (model prog w) A (Builtin.«issubclass.nested» ⟨[.type "str", .type "str", k], []⟩) Q E s := by
  subst hk
  have hm : typeOf (.type "str") = pure (.type "type") := by first | rfl | kernel_rfl
  have hself : isSubtype (.type "str") (.type "str") = pure true := by rw [isSubtype_type]; kernel_rfl
  repeat (any_goals (first | assumption | (rw [hself]) | wp_step))

theorem iss_nested {tp : Addr} {rest : List Value} {tk : Tok} {s : Shared} {Q : Fin → Shared → Prop}
    (htp : s.heap.get? tp = some { cls := .type "tuple", data := .seq (Value.type "str" :: rest).toArray })
    (hq : ∀ tk', Q (.done (.ret (.bool true))) { s with toks := tk' }) : wpAny (model prog w) A (Builtin.«issubclass.nested» ⟨[.type "str", .ref tp, .int 0 tk], []⟩) Q E s := by
  obtain ⟨h, g, d, t, os⟩ := s
  obtain ⟨arr, harr⟩ : ∃ arr, arr = (Value.type "str" :: rest).toArray := ⟨_, rfl⟩
  rw [← harr] at htp
  have hT2 : (⟨h, g, d, t, os⟩ : Shared).TypeIs (.ref tp) "tuple" := ⟨_, htp, rfl⟩
  have f1 := F.isi_sub_tuple
  repeat (any_goals (first | assumption | wp_step))
  refine wpAny_arrayLoop ?_
  subst harr
  simp only [Option.getD_some, List.toList_toArray]
  rw [List.forIn_cons]
  refine wpAny_bind (wpAny_bind (call_function_meets kind_issN plain_issN PySem.F.entry_issubclass_nested (args_issN _ _ _) (S := fun _ R s => R (.ok (.ret (.bool true))) s) (fun _ _ _ _ _ hs => iss_str_str rfl hs) ?_))
  show wpAny _ _ (truthy (.bool true) >>= _) _ _ _
  refine wpAny_bind (m := truthy (.bool true)) (wpAny_pure ?_)
  refine wpAny_bind (wpAny_pure (wpAny_pure (wpAny_pure ?_)))
  repeat (any_goals (first | assumption | wp_step))
  exact hq _

theorem iss_tuple {tp : Addr} {rest : List Value} {s : Shared} {Q : Value → Shared → Prop} (htp : s.heap.get? tp = some { cls := .type "tuple", data := .seq (Value.type "str" :: rest).toArray })
    (hq : ∀ tk', Q (.bool true) { s with toks := tk' }) : wpAny (model prog w) A (call (.builtin "issubclass") [.type "str", .ref tp]) Q E s :=
  call_issubclass (S := fun _ R s => s.heap.get? tp = some { cls := .type "tuple", data := .seq (Value.type "str" :: rest).toArray } ∧ ∀ tk', R (.ok (.ret (.bool true))) { s with toks := tk' })
    (fun _ _ _ _ _ hs => issubclass_outer (iss_nested hs.1 hs.2)) ⟨htp, fun tk' => hq tk'⟩
end
end Mine
end PartS1

section PartL1
open PySem PySem.W PySem.Spec PySem.Calls PyProof.Rows
set_option maxRecDepth 100000
set_option maxHeartbeats 8000000
namespace Mine
theorem anewL1 : True := by
  w_top off
  trivial
def Onto {α : Type} (Q0 Q : α → Shared → Prop) : Prop := ∀ v s, Q0 v s → Q v s
theorem Onto.use {α : Type} {Q0 Q : α → Shared → Prop} {v : α} {s : Shared} (h : Onto Q0 Q) (k : Q0 v s) : Q v s := h v s k
theorem absW {α : Type} {M : Model} {A : Around} {t : Sem α} {Q0 : α → Shared → Prop} {E0 : Value → Shared → Prop} {s : Shared} (h : ∀ Q E, Onto Q0 Q → Onto E0 E → wpAny M A t Q E s) : wpAny M A t Q0 E0 s := h Q0 E0 (fun _ _ x => x) (fun _ _ x => x)
section
variable {prog : Program} {w : World} {A : Around} {E : Value → Shared → Prop} {s : Shared} {env : Env} {h₀ : Heap} {x : Str} {body : List Stmt} {Q : Flow → Shared → Prop}

/-- what a turn must leave behind -/
def TurnEnd (h₀ : Heap) (L : Addr) (it : Addr × Obj) (keep : Led) (J : (Str → Option Value) → Led → Prop) (s₁ : Shared) (Q : Flow → Shared → Prop) (f : Flow) (s₂ : Shared) : Prop :=
  match f with
  | .ret v => Q (.ret v) s₂
  | .brk => Q .next s₂
  | _ => ∃ h' tk m' news', s₂ = { s₁ with heap := h', toks := tk } ∧ Fr h₀ L h' m' ∧ News h₀ L h' (it :: news') ∧ (∀ p ∈ news', p.1 ≠ it.1) ∧ (∀ p ∈ keep, p ∈ news') ∧ J m' news'
theorem TurnEnd.next {L : Addr} {it : Addr × Obj} {keep : Led} {J : (Str → Option Value) → Led → Prop} {s₁ : Shared} {h' : Heap} {tk : Nat} {m' : Str → Option Value} {news' : Led}
    (F : Fr h₀ L h' m') (N : News h₀ L h' (it :: news')) (hn : ∀ p ∈ news', p.1 ≠ it.1) (hk : ∀ p ∈ keep, p ∈ news') (hj : J m' news') : TurnEnd h₀ L it keep J s₁ Q .next { s₁ with heap := h', toks := tk } :=
  ⟨h', tk, m', news', rfl, F, N, hn, hk, hj⟩

theorem loop_walk {I : Addr} {fp : List Addr} {n : Nat} {P : Nat → Value → Prop} {St : Nat → Heap → Prop} {m₀ : Str → Option Value} {news keep : Led} {s₂ : Shared} (W : Walks prog w A I fp [I] n P St)
    (hSt : ∀ i h, St i h → ∃ o, h.get? I = some o) (hL : env.locals ∉ fp) (hI : h₀.get? I = none) (hIL : I ≠ env.locals) (hnw : ∀ p ∈ news, p.1 ≠ I)
    (hfp : ∀ b ∈ fp, b = I ∨ (∃ o, (b, o) ∈ keep)) (hkp : ∀ p ∈ keep, p ∈ news)
    (hst : St 0 s₂.heap) (F : Fr h₀ env.locals s₂.heap m₀) (N : News h₀ env.locals s₂.heap news)
    (J : Nat → (Str → Option Value) → Led → Prop) (h0 : J 0 m₀ news)
    (turn : ∀ i v m₁ news₁ it h tk, i < n → P i v → J i m₁ news₁ → (∀ p ∈ news₁, p.1 ≠ I) → (∀ p ∈ keep, p ∈ news₁) → Fr h₀ env.locals h (fun y => if y = x then some v else m₁ y) → News h₀ env.locals h ((I, it) :: news₁) →
      wpAny (model prog w) A (execs body env) (TurnEnd h₀ env.locals (I, it) keep (J (i + 1)) { s₂ with heap := h, toks := tk } Q) E { s₂ with heap := h, toks := tk })
    (done : ∀ m₁ news₁ h tk, J n m₁ news₁ → (∀ p ∈ keep, p ∈ news₁) → Fr h₀ env.locals h m₁ → News h₀ env.locals h news₁ → Q .next { s₂ with heap := h, toks := tk }) :
    LoopAtV prog w A h₀ env x body Q E (.ref I) s₂ := by
  refine ⟨I, fp, [I], n, P, St, m₀, news, fun i m nw => J i m nw ∧ (∀ p ∈ nw, p.1 ≠ I) ∧ ∀ p ∈ keep, p ∈ nw, rfl, W, hL, ?_, ?_, hst, F, N, ⟨h0, hnw, hkp⟩, ?_, ?_⟩
  · intro b hb
    rw [List.mem_singleton.mp hb]; exact hI
  · intro p hp hq
    exact hnw p hp (List.mem_singleton.mp hq)
  · rintro i v m₁ news₁ s₁ own ⟨h, tk, rfl⟩ hi hP ⟨hJ, hne, hkeep⟩ hoff hown hget hall hst F₁ N₁
    obtain ⟨it, hit⟩ := hSt _ _ hst
    have hmem := hall I (W.sub I (List.mem_singleton.mpr rfl)) hI it hit
    refine wpAny_mono (turn i v m₁ news₁ it h tk hi hP hJ hne hkeep F₁ fun p hp => ?_) (fun f s₃ q => ?_) fun _ _ e => e
    · rcases List.mem_cons.mp hp with rfl | hp
      · exact N₁ _ (List.mem_append_left _ hmem)
      · exact N₁ p (List.mem_append_right _ hp)
    · have fin : (∃ h' tk' m' news', s₃ = { { s₂ with heap := h, toks := tk } with heap := h', toks := tk' } ∧ Fr h₀ env.locals h' m' ∧ News h₀ env.locals h' ((I, it) :: news') ∧ (∀ p ∈ news', p.1 ≠ I) ∧ (∀ p ∈ keep, p ∈ news') ∧ J (i + 1) m' news') →
          LoopStepU h₀ env.locals [I] own (fun m nw => J (i + 1) m nw ∧ (∀ p ∈ nw, p.1 ≠ I) ∧ ∀ p ∈ keep, p ∈ nw) { s₂ with heap := h, toks := tk } .next s₃ := by
        rintro ⟨h', tk', m', news', e, F', N', hn', hk', hj'⟩
        refine ⟨rfl, h', tk', m', news', e, F', fun p hp => ?_, fun p hp hq => hn' p hp (List.mem_singleton.mp hq), hj', hn', hk'⟩
        rcases List.mem_append.mp hp with hp | hp
        · have hfb := hown p hp
          rcases hfp _ hfb with e1 | ⟨o, hko⟩
          · have e2 := hget p hp
            have e3 : p = (I, it) := by
              obtain ⟨a, o⟩ := p
              dsimp only at e1 e2
              subst e1
              rw [hit] at e2
              cases e2; rfl
            rw [e3]; exact N' _ (.head _)
          · have e2 := hget p hp
            have e4 := (N₁ _ (List.mem_append_right _ (hkeep _ hko))).1
            dsimp only at e4
            rw [e2] at e4
            have e3 : p = (p.1, o) := by
              obtain ⟨a, o'⟩ := p
              cases e4; rfl
            rw [e3]; exact N' _ (.tail _ (hk' _ hko))
        · exact N' p (.tail _ hp)
      cases f with
      | ret v => exact .ret q
      | brk => exact .brk q
      | next => exact .next (fin q)
      | cont => exact .cont (fin q)
  · rintro h' tk m' news' F' N' _ ⟨hJ, _, hk⟩
    exact done m' news' h' tk hJ hk F' N'

theorem next_ne {m : Str → Option Value} {news : Led} {h : Heap} {L : Addr} (F : Fr h₀ L h m) (N : News h₀ L h news) : h₀.get? h.objs.size = none ∧ h.objs.size ≠ L ∧ ∀ p ∈ news, p.1 ≠ h.objs.size := by
  refine ⟨?_, Nat.ne_of_gt F.ns.lt, fun p hp e => absurd (Heap.lt_size (N p hp).1) (by rw [e]; exact Nat.lt_irrefl _)⟩
  cases q : h₀.get? h.objs.size with
  | none => rfl
  | some o => exact absurd (Heap.lt_size (F.keep _ _ q)) (Nat.lt_irrefl _)

/-- a map with some names laid over it -/
noncomputable def over : List (Str × Option Value) → (Str → Option Value) → Str → Option Value
  | [], m, z => m z
  | p :: r, m, z => if z = p.1 then p.2 else over r m z
theorem over_eq {m₁ m₀ : Str → Option Value} : ∀ (ys : List Str) {z : Str}, (z ∉ ys → m₁ z = m₀ z) → m₁ z = over (ys.map fun k => (k, m₁ k)) m₀ z
  | [], z, h => h (fun q => nomatch q)
  | y :: r, z, h => by
    show m₁ z = if z = y then m₁ y else over (r.map fun k => (k, m₁ k)) m₀ z
    by_cases e : z = y
    · rw [if_pos e, e]
    · rw [if_neg e]
      exact over_eq r fun hz => h fun q => (List.mem_cons.mp q).elim e hz
theorem over_fr {h₀ h : Heap} {L : Addr} {v : Value} {m₁ m₀ : Str → Option Value} {ys : List Str} (F : Fr h₀ L h (fun y => if y = x then some v else m₁ y)) (hm : ∀ z, z ≠ x → z ∉ ys → m₁ z = m₀ z) :
    Fr h₀ L h (fun y => if y = x then some v else over (ys.map fun k => (k, m₁ k)) m₀ y) := by
  have e : (fun y => if y = x then some v else m₁ y) = fun y => if y = x then some v else over (ys.map fun k => (k, m₁ k)) m₀ y := by
    funext y
    by_cases e : y = x
    · rw [if_pos e, if_pos e]
    · rw [if_neg e, if_neg e]; exact over_eq ys (hm y e)
  rw [← e]; exact F
theorem over_fr' {h₀ h : Heap} {L : Addr} {m₁ m₀ : Str → Option Value} {ys : List Str} (F : Fr h₀ L h m₁) (hm : ∀ z, z ≠ x → z ∉ ys → m₁ z = m₀ z) :
    Fr h₀ L h (over ((x :: ys).map fun k => (k, m₁ k)) m₀) := by
  have e : m₁ = over ((x :: ys).map fun k => (k, m₁ k)) m₀ := by
    funext y
    exact over_eq (x :: ys) fun q => hm y (fun e => q (e ▸ .head _)) (fun e => q (.tail _ e))
  rw [← e]; exact F

abbrev NamesJ (x : Str) (m₀ : Str → Option Value) (ys : List Str) (V : Nat → (Str → Option Value) → Led → Prop) (i : Nat) (m : Str → Option Value) (nw : Led) : Prop := (∀ z, z ≠ x → z ∉ ys → m z = m₀ z) ∧ V i m nw

/-- a for over a list that the ledger bears -/
theorem loop_list {l : Addr} {lo : Obj} {c : Nat} {vs : List Value} {m₀ : Str → Option Value} {news : Led} (ys : List Str) (V : Nat → (Str → Option Value) → Led → Prop) (hh : A.handled = none) (F : Fr h₀ env.locals s.heap m₀) (N : News h₀ env.locals s.heap news)
    (hm : (l, lo) ∈ news) (hc : lo.cls = .type "list") (hd : lo.data = .seq vs.toArray c) (h0 : V 0 m₀ news)
    (turn : ∀ i v m₁ news₁ I it h tk, vs[i]? = some v → V i m₁ news₁ → (∀ p ∈ news₁, p.1 ≠ I) → (∀ p ∈ news, p.1 < I) → (l, lo) ∈ news₁ → Fr h₀ env.locals h (fun y => if y = x then some v else over (ys.map fun k => (k, m₁ k)) m₀ y) → News h₀ env.locals h ((I, it) :: news₁) →
      wpAny (model prog w) A (execs body env) (TurnEnd h₀ env.locals (I, it) [(l, lo)] (NamesJ x m₀ ys V (i + 1)) { s with heap := h, toks := tk } Q) E { s with heap := h, toks := tk })
    (done : ∀ m₁ news₁ h tk, V vs.length m₁ news₁ → Fr h₀ env.locals h (over ((x :: ys).map fun k => (k, m₁ k)) m₀) → News h₀ env.locals h news₁ → Q .next { s with heap := h, toks := tk }) :
    wpAny (model prog w) A (pyIter (.ref l)) (fun it s₂ => LoopAtV prog w A h₀ env x body Q E it s₂) E s := by
  have hl : s.heap.IsList l vs.toArray := ⟨lo, (N _ hm).1, hc, c, hd⟩
  obtain ⟨n1, n2, n3⟩ := next_ne F N
  have hne : l ≠ s.heap.objs.size := n3 _ hm
  refine wpAny_pyIter_list hl ?_
  have W := Walks.list (prog := prog) (w := w) hh s.heap.objs.size l hne vs.toArray
  have hlen : vs.toArray.size = vs.length := by simp
  rw [hlen] at W
  refine loop_walk (keep := [(l, lo)]) (news := news) W (fun i h st => ?_) ?_ n1 n2 n3 ?_ ?_ ⟨⟨_, Heap.get?_push_size _ rfl, rfl, rfl⟩, hl.at fun o e => Heap.get?_push_of_some _ e⟩ (F.push _) (fun p hp => ⟨Heap.get?_push_of_some _ (N p hp).1, (N p hp).2⟩) (NamesJ x m₀ ys V) ⟨fun _ _ _ => rfl, h0⟩ ?_ ?_
  · obtain ⟨o, ho, _⟩ := st.1; exact ⟨o, ho⟩
  · intro hmm
    rcases List.mem_cons.mp hmm with e | hmm
    · exact n2 e.symm
    · exact (N _ hm).2.1 (List.mem_singleton.mp hmm).symm
  · intro b hb
    rcases List.mem_cons.mp hb with e | hb
    · exact .inl e
    · exact .inr ⟨lo, by rw [List.mem_singleton.mp hb]; exact .head _⟩
  · intro p hp; rw [List.mem_singleton.mp hp]; exact hm
  · intro i v m₁ news₁ it h tk hi hP hJ hn hk F₁ N₁
    exact turn i v m₁ news₁ _ it h tk (by simpa using hP) hJ.2 hn (fun p hp => Heap.lt_size (N p hp).1) (hk _ (.head _)) (over_fr F₁ hJ.1) N₁
  · intro m₁ news₁ h tk hJ _ F₁ N₁
    exact done m₁ news₁ h tk hJ.2 (over_fr' F₁ hJ.1) N₁

/-- a for over a tuple that the ledger bears -/
theorem loop_tuple {l : Addr} {lo : Obj} {c : Nat} {vs : List Value} {m₀ : Str → Option Value} {news : Led} (ys : List Str) (V : Nat → (Str → Option Value) → Led → Prop) (hh : A.handled = none) (F : Fr h₀ env.locals s.heap m₀) (N : News h₀ env.locals s.heap news)
    (hm : (l, lo) ∈ news) (hc : lo.cls = .type "tuple") (hd : lo.data = .seq vs.toArray c) (h0 : V 0 m₀ news)
    (turn : ∀ i v m₁ news₁ I it h tk, vs[i]? = some v → V i m₁ news₁ → (∀ p ∈ news₁, p.1 ≠ I) → (∀ p ∈ news, p.1 < I) → (l, lo) ∈ news₁ → Fr h₀ env.locals h (fun y => if y = x then some v else over (ys.map fun k => (k, m₁ k)) m₀ y) → News h₀ env.locals h ((I, it) :: news₁) →
      wpAny (model prog w) A (execs body env) (TurnEnd h₀ env.locals (I, it) [(l, lo)] (NamesJ x m₀ ys V (i + 1)) { s with heap := h, toks := tk } Q) E { s with heap := h, toks := tk })
    (done : ∀ m₁ news₁ h tk, V vs.length m₁ news₁ → Fr h₀ env.locals h (over ((x :: ys).map fun k => (k, m₁ k)) m₀) → News h₀ env.locals h news₁ → Q .next { s with heap := h, toks := tk }) :
    wpAny (model prog w) A (pyIter (.ref l)) (fun it s₂ => LoopAtV prog w A h₀ env x body Q E it s₂) E s := by
  have hl : s.heap.IsTuple l vs.toArray := ⟨lo, (N _ hm).1, hc, c, hd⟩
  obtain ⟨n1, n2, n3⟩ := next_ne F N
  have hne : l ≠ s.heap.objs.size := n3 _ hm
  refine wpAny_pyIter_tuple hl ?_
  have W := Walks.tuple (prog := prog) (w := w) hh s.heap.objs.size l hne vs.toArray
  have hlen : vs.toArray.size = vs.length := by simp
  rw [hlen] at W
  refine loop_walk (keep := [(l, lo)]) (news := news) W (fun i h st => ?_) ?_ n1 n2 n3 ?_ ?_ ⟨⟨_, Heap.get?_push_size _ rfl, rfl, rfl⟩, hl.at fun o e => Heap.get?_push_of_some _ e⟩ (F.push _) (fun p hp => ⟨Heap.get?_push_of_some _ (N p hp).1, (N p hp).2⟩) (NamesJ x m₀ ys V) ⟨fun _ _ _ => rfl, h0⟩ ?_ ?_
  · obtain ⟨o, ho, _⟩ := st.1; exact ⟨o, ho⟩
  · intro hmm
    rcases List.mem_cons.mp hmm with e | hmm
    · exact n2 e.symm
    · exact (N _ hm).2.1 (List.mem_singleton.mp hmm).symm
  · intro b hb
    rcases List.mem_cons.mp hb with e | hb
    · exact .inl e
    · exact .inr ⟨lo, by rw [List.mem_singleton.mp hb]; exact .head _⟩
  · intro p hp; rw [List.mem_singleton.mp hp]; exact hm
  · intro i v m₁ news₁ it h tk hi hP hJ hn hk F₁ N₁
    exact turn i v m₁ news₁ _ it h tk (by simpa using hP) hJ.2 hn (fun p hp => Heap.lt_size (N p hp).1) (hk _ (.head _)) (over_fr F₁ hJ.1) N₁
  · intro m₁ news₁ h tk hJ _ F₁ N₁
    exact done m₁ news₁ h tk hJ.2 (over_fr' F₁ hJ.1) N₁

/-- a for over a made reversed(list), both borne by the ledger -/
theorem loop_rev {I l : Addr} {lo : Obj} {c : Nat} {vs : List Value} {m₀ : Str → Option Value} {news : Led} (ys : List Str) (V : Nat → (Str → Option Value) → Led → Prop) (hh : A.handled = none) (F : Fr h₀ env.locals s.heap m₀) (N : News h₀ env.locals s.heap ((I, revObj l ((vs.length : Int) - 1)) :: news))
    (hlt : ∀ p ∈ news, p.1 < I) (hm : (l, lo) ∈ news) (hc : lo.cls = .type "list") (hd : lo.data = .seq vs.toArray c) (h0 : V 0 m₀ news)
    (turn : ∀ i v m₁ news₁ it h tk, i < vs.length → vs[vs.length - 1 - i]? = some v → V i m₁ news₁ → (∀ p ∈ news₁, p.1 ≠ I) → (l, lo) ∈ news₁ → Fr h₀ env.locals h (fun y => if y = x then some v else over (ys.map fun k => (k, m₁ k)) m₀ y) → News h₀ env.locals h ((I, it) :: news₁) →
      wpAny (model prog w) A (execs body env) (TurnEnd h₀ env.locals (I, it) [(l, lo)] (NamesJ x m₀ ys V (i + 1)) { s with heap := h, toks := tk } Q) E { s with heap := h, toks := tk })
    (done : ∀ m₁ news₁ h tk, V vs.length m₁ news₁ → Fr h₀ env.locals h (over ((x :: ys).map fun k => (k, m₁ k)) m₀) → News h₀ env.locals h news₁ → Q .next { s with heap := h, toks := tk }) :
    wpAny (model prog w) A (pyIter (.ref I)) (fun it s₂ => LoopAtV prog w A h₀ env x body Q E it s₂) E s := by
  have hl : s.heap.IsList l vs.toArray := ⟨lo, (N _ (.tail _ hm)).1, hc, c, hd⟩
  have hne : l ≠ I := Nat.ne_of_lt (hlt _ hm)
  have hIx := N _ (.head _)
  have hit : s.heap.IsRevIter I l ((vs.length : Int) - 1) := ⟨_, hIx.1, rfl, rfl⟩
  refine wpAny_pyIter_revIter hit ?_
  have W := Walks.listRev (prog := prog) (w := w) hh I l hne vs.toArray
  have hlen : vs.toArray.size = vs.length := by simp
  rw [hlen] at W
  refine loop_walk (keep := [(l, lo)]) (news := news) W (fun i h st => ?_) ?_ hIx.2.2 hIx.2.1 (fun p hp => Nat.ne_of_lt (hlt p hp)) ?_ ?_ ⟨Nat.zero_le _, ?_, hl⟩ F (fun p hp => N p (.tail _ hp)) (NamesJ x m₀ ys V) ⟨fun _ _ _ => rfl, h0⟩ ?_ ?_
  · obtain ⟨o, ho, _⟩ := st.2.1; exact ⟨o, ho⟩
  · intro hmm
    rcases List.mem_cons.mp hmm with e | hmm
    · exact hIx.2.1 e.symm
    · exact (N _ (.tail _ hm)).2.1 (List.mem_singleton.mp hmm).symm
  · intro b hb
    rcases List.mem_cons.mp hb with e | hb
    · exact .inl e
    · exact .inr ⟨lo, by rw [List.mem_singleton.mp hb]; exact .head _⟩
  · intro p hp; rw [List.mem_singleton.mp hp]; exact hm
  · have e : (vs.length : Int) - 1 - ((0 : Nat) : Int) = (vs.length : Int) - 1 := by omega
    rw [e]; exact hit
  · intro i v m₁ news₁ it h tk hi hP hJ hn hk F₁ N₁
    exact turn i v m₁ news₁ it h tk hi (by simpa using hP) hJ.2 hn (hk _ (.head _)) (over_fr F₁ hJ.1) N₁
  · intro m₁ news₁ h tk hJ _ F₁ N₁
    exact done m₁ news₁ h tk hJ.2 (over_fr' F₁ hJ.1) N₁

end
end Mine
end PartL1

section PartN1
open PySem PySem.W PySem.Spec PySem.Calls PyProof.Rows
set_option maxRecDepth 100000
set_option maxHeartbeats 8000000
namespace Mine
theorem anewN1 : True := by
  w_top off
  trivial
section
variable {M : Model} {A : Around} {E : Value → Shared → Prop} {s : Shared} {h₀ : Heap} {L a c P : Addr} {m mg mb : Str → Option Value} {cn : Str} {cs : Scope} {ccd : Value} {cl : List (Str × Addr)}
  {p : Program} {loose : List Str} {mean : ExcName → Option Value} {name qual : Str} {params : Arguments} {body : List Stmt} {scope : Scope} {pos : Pos} {firstLine : Nat} {clos : List (Str × Addr)}

/-- the nested function's code is there -/
def CodeAt (c : Addr) (qual : Str) (T : Led) : Prop := ∃ o vs t, (c, o) ∈ T ∧ o.data = .fields vs ∧ vs[1]? = some (.str qual t)

theorem nest_tab {Q : Value → Shared → Prop} {T1 rest : Led} (F : Fr h₀ L s.heap m) (N : News h₀ L s.heap (T1 ++ rest)) (T : Top p loose mean mg mb h₀) (C : CodeHd h₀ c P) (hcd : ccd = .ref c) (hTab : Tab P pos qual T1) (hne : ∀ p ∈ rest, p.1 ≠ P)
    (hlow : ∀ h' d, Fr h₀ L h' m → (∀ q ∈ T1 ++ rest, q.1 < d) → 37 < d ∧ 44 < d)
    (hcl : closureFor scope (envX cn cs L a ccd cl) = pure clos)
    (h : ∀ f c' ctv doc h' tk T1', Tab P pos qual T1' → CodeAt c' qual T1' → Fr h₀ L h' m → News h₀ L h' ((f, fnMade name qual params body scope clos doc ((mg "__name__").getD .none) c' ctv) :: (T1' ++ rest)) → (∀ q ∈ T1 ++ rest, q.1 < f) → Q (.ref f) { s with heap := h', toks := tk }) :
    wpAny M A (makeFunction name qual params (.stmts body) scope (envX cn cs L a ccd cl) [] [] [] pos firstLine) Q E s := by
  cases hTab with
  | none =>
    refine nest_K (news := (P, tabObj #[]) :: rest) F N T C hcd (.head hne) True.intro rfl hcl fun f c' oc vs t ctv doc h' tk F' N' hd hv hlt hcf => ?_
    have hl := hlow h' c' F' hlt
    refine h f c' ctv doc h' tk [(P, tabObj #[rawInt pos.line, rawInt pos.col, .ref c']), (c', oc)] (.some hd hv hl.1 hl.2) ⟨oc, vs, t, .tail _ (.head _), hd, hv⟩ F' (fun q hq => N' q ?_) (fun q hq => Nat.lt_trans (hlt q hq) hcf)
    rcases List.mem_cons.mp hq with rfl | hq
    · exact .head _
    · rcases List.mem_append.mp hq with hq | hq
      · rcases List.mem_cons.mp hq with rfl | hq
        · exact .tail _ (.tail _ (.head _))
        · rw [List.mem_singleton.mp hq]; exact .tail _ (.head _)
      · exact .tail _ (.tail _ (.tail _ hq))
  | @some c₁ o₁ vs₁ t₁ hd hv h1 h2 =>
    refine nestHit_K (c' := c₁) (ps := #[rawInt pos.line, rawInt pos.col, .ref c₁]) F N T C hcd (.head _) (by simp [TriplesOk, rawInt]) (by simp [codeAmong, rawInt]) hcl fun f ctv doc h' tk F' N' hlt => ?_
    exact h f c₁ ctv doc h' tk _ (.some hd hv h1 h2) ⟨o₁, vs₁, t₁, .tail _ (.head _), hd, hv⟩ F' N' hlt

theorem nest_37 {Q : Value → Shared → Prop} {news own T₀ : Led} (F : Fr h₀ L s.heap m) (N : News h₀ L s.heap news) (T : Top p loose mean mg mb h₀) (C : CodeHd h₀ 41 37) (hcd : ccd = .ref 41) (hS : Split news own T₀) (hT : Tabs T₀) (hL : Low own)
    (hcl : closureFor scope (envX cn cs L a ccd cl) = pure clos)
    (h : ∀ f c' ctv doc h' tk T', Tabs T' → CodeAt c' qual1 T' → Fr h₀ L h' m → News h₀ L h' ((f, fnMade name qual1 params body scope clos doc ((mg "__name__").getD .none) c' ctv) :: (own ++ T')) → (∀ q ∈ news, q.1 < f) → Q (.ref f) { s with heap := h', toks := tk }) :
    wpAny M A (makeFunction name qual1 params (.stmts body) scope (envX cn cs L a ccd cl) [] [] [] pos1 firstLine) Q E s := by
  obtain ⟨T1, T2, h1, h2, rfl⟩ := hT
  have e := hS.eq
  subst e
  refine nest_tab (T1 := T1) (rest := own ++ T2) F (fun q hq => N q ?_) T C hcd h1 ?_ ?_ hcl ?_
  · rcases List.mem_append.mp hq with hq | hq
    · exact List.mem_append_right _ (List.mem_append_left _ hq)
    · rcases List.mem_append.mp hq with hq | hq
      · exact List.mem_append_left _ hq
      · exact List.mem_append_right _ (List.mem_append_right _ hq)
  · intro q hq
    rcases List.mem_append.mp hq with hq | hq
    · exact (hL q hq).1
    · rcases h2.fst q hq with h3 | h3
      · rw [h3]; decide
      · exact Nat.ne_of_gt h3.1
  · intro h' d _ hd
    obtain ⟨o1, m1⟩ := h1.mem
    obtain ⟨o2, m2⟩ := h2.mem
    exact ⟨hd _ (List.mem_append_left _ m1), hd _ (List.mem_append_right _ (List.mem_append_right _ m2))⟩
  · intro f c' ctv doc h' tk T1' hT1 hC F' N' hlt
    refine h f c' ctv doc h' tk (T1' ++ T2) ⟨T1', T2, hT1, h2, rfl⟩ ?_ F' (fun q hq => N' q ?_) fun q hq => hlt q ?_
    · obtain ⟨o, vs, t, hm, r⟩ := hC
      exact ⟨o, vs, t, List.mem_append_left _ hm, r⟩
    · rcases List.mem_cons.mp hq with rfl | hq
      · exact .head _
      · rcases List.mem_append.mp hq with hq | hq
        · exact .tail _ (List.mem_append_right _ (List.mem_append_left _ hq))
        · rcases List.mem_append.mp hq with hq | hq
          · exact .tail _ (List.mem_append_left _ hq)
          · exact .tail _ (List.mem_append_right _ (List.mem_append_right _ hq))
    · rcases List.mem_append.mp hq with hq | hq
      · exact List.mem_append_right _ (List.mem_append_left _ hq)
      · rcases List.mem_append.mp hq with hq | hq
        · exact List.mem_append_left _ hq
        · exact List.mem_append_right _ (List.mem_append_right _ hq)

theorem nest_44 {Q : Value → Shared → Prop} {news own T₀ : Led} (F : Fr h₀ L s.heap m) (N : News h₀ L s.heap news) (T : Top p loose mean mg mb h₀) (C : CodeHd h₀ 48 44) (hcd : ccd = .ref 48) (hS : Split news own T₀) (hT : Tabs T₀) (hL : Low own)
    (hcl : closureFor scope (envX cn cs L a ccd cl) = pure clos)
    (h : ∀ f c' ctv doc h' tk T', Tabs T' → CodeAt c' qual2 T' → Fr h₀ L h' m → News h₀ L h' ((f, fnMade name qual2 params body scope clos doc ((mg "__name__").getD .none) c' ctv) :: (own ++ T')) → (∀ q ∈ news, q.1 < f) → Q (.ref f) { s with heap := h', toks := tk }) :
    wpAny M A (makeFunction name qual2 params (.stmts body) scope (envX cn cs L a ccd cl) [] [] [] pos2 firstLine) Q E s := by
  obtain ⟨T1, T2, h1, h2, rfl⟩ := hT
  have e := hS.eq
  subst e
  refine nest_tab (T1 := T2) (rest := own ++ T1) F (fun q hq => N q ?_) T C hcd h2 ?_ ?_ hcl ?_
  · rcases List.mem_append.mp hq with hq | hq
    · exact List.mem_append_right _ (List.mem_append_right _ hq)
    · rcases List.mem_append.mp hq with hq | hq
      · exact List.mem_append_left _ hq
      · exact List.mem_append_right _ (List.mem_append_left _ hq)
  · intro q hq
    rcases List.mem_append.mp hq with hq | hq
    · exact (hL q hq).2
    · rcases h1.fst q hq with h3 | h3
      · rw [h3]; decide
      · exact Nat.ne_of_gt h3.2
  · intro h' d _ hd
    obtain ⟨o1, m1⟩ := h1.mem
    obtain ⟨o2, m2⟩ := h2.mem
    exact ⟨hd _ (List.mem_append_right _ (List.mem_append_right _ m1)), hd _ (List.mem_append_left _ m2)⟩
  · intro f c' ctv doc h' tk T1' hT1 hC F' N' hlt
    refine h f c' ctv doc h' tk (T1 ++ T1') ⟨T1, T1', h1, hT1, rfl⟩ ?_ F' (fun q hq => N' q ?_) fun q hq => hlt q ?_
    · obtain ⟨o, vs, t, hm, r⟩ := hC
      exact ⟨o, vs, t, List.mem_append_right _ hm, r⟩
    · rcases List.mem_cons.mp hq with rfl | hq
      · exact .head _
      · rcases List.mem_append.mp hq with hq | hq
        · exact .tail _ (List.mem_append_right _ (List.mem_append_left _ hq))
        · rcases List.mem_append.mp hq with hq | hq
          · exact .tail _ (List.mem_append_right _ (List.mem_append_right _ hq))
          · exact .tail _ (List.mem_append_left _ hq)
    · rcases List.mem_append.mp hq with hq | hq
      · exact List.mem_append_right _ (List.mem_append_left _ hq)
      · rcases List.mem_append.mp hq with hq | hq
        · exact List.mem_append_right _ (List.mem_append_right _ hq)
        · exact List.mem_append_left _ hq
end

/-- all of a ledger's rest lies below -/
def Under (d : Addr) (R : Led) : Prop := ∀ p ∈ R, p.1 < d
theorem Under.ne {d x : Nat} {R : Led} (h : Under d R) (hd : d ≤ x) : ∀ p ∈ R, p.1 ≠ x := fun p hp => Nat.ne_of_lt (Nat.lt_of_lt_of_le (h p hp) hd)
theorem Tab.fields {P : Addr} {pos : Pos} {q : Str} {T : Led} (h : Tab P pos q T) : ∀ p ∈ T, ∃ vs, p.2.data = .fields vs := by
  intro p hp
  cases h with
  | none => rw [List.mem_singleton.mp hp]; exact ⟨_, rfl⟩
  | some hd =>
    rcases List.mem_cons.mp hp with rfl | hp
    · exact ⟨_, rfl⟩
    · rw [List.mem_singleton.mp hp]; exact ⟨_, hd⟩
theorem Tabs.fields {T : Led} (h : Tabs T) : ∀ p ∈ T, ∃ vs, p.2.data = .fields vs := by
  obtain ⟨T1, T2, h1, h2, rfl⟩ := h
  intro p hp
  rcases List.mem_append.mp hp with hp | hp
  · exact h1.fields p hp
  · exact h2.fields p hp
def NotFields (o : Obj) : Prop := ∀ vs, o.data ≠ .fields vs
/-- what is no table lies off the tables -/
theorem off_tabs {h₀ h : Heap} {L x : Addr} {ox : Obj} {news T : Led} (N : News h₀ L h news) (hT : Tabs T) (hsub : ∀ p ∈ T, p ∈ news) (hx : (x, ox) ∈ news) (hn : NotFields ox) : ∀ p ∈ T, p.1 ≠ x := by
  intro p hp e
  obtain ⟨vs, hv⟩ := hT.fields p hp
  have h1 := (N p (hsub p hp)).1
  have h2 := (N _ hx).1
  rw [e, h2] at h1
  cases h1
  exact hn vs hv
theorem off_app {x : Addr} {a b : Led} (ha : ∀ p ∈ a, p.1 ≠ x) (hb : ∀ p ∈ b, p.1 ≠ x) : ∀ p ∈ a ++ b, p.1 ≠ x := fun p hp => (List.mem_append.mp hp).elim (ha p) (hb p)

theorem rep_flat (v : Value) : ∀ k : Nat, ∀ acc : Array Value, List.foldl (fun (x1 x2 : Array Value) => x1 ++ x2) acc (List.replicate k #[v]) = acc ++ (List.replicate k v).toArray
  | 0, acc => by simp
  | k + 1, acc => by
    rw [List.replicate_succ, List.foldl_cons, rep_flat v k, List.replicate_succ]
    apply Array.toList_inj.mp
    simp
theorem mul_one {prog : Program} {w : World} {A : Around} {E : Value → Shared → Prop} {s : Shared} {h₀ : Heap} {L l : Addr} {m : Str → Option Value} {news : Led} {v : Value} {c : Nat} {x : Int} {u : Tok} {Q : Value → Shared → Prop} (F : Fr h₀ L s.heap m) (N : News h₀ L s.heap news)
    (hm : (l, W.listOf #[v] c) ∈ news) (h0 : 0 ≤ x) (h1 : x ≤ 4096)
    (h : ∀ D h', Fr h₀ L h' m → News h₀ L h' ((D, W.listOf (List.replicate x.toNat v).toArray 0) :: news) → (∀ p ∈ news, p.1 < D) → Q (.ref D) { s with heap := h' }) :
    wpAny (model prog w) A (binaryOp .Mult (.ref l) (.int x u)) Q E s := by
  refine mul_list F N (N _ hm).1 (by omega) (by omega) (by simp; omega) fun h' F' N' => ?_
  have e : List.foldl (fun (x1 x2 : Array Value) => x1 ++ x2) #[] (List.replicate (if (#[v] : Array Value).isEmpty = true then 0 else x.toNat) #[v]) = (List.replicate x.toNat v).toArray := by
    rw [if_neg (by simp), rep_flat]; simp
  rw [e] at N'
  exact h _ h' F' N' fun p hp => Heap.lt_size (N p hp).1
theorem len_led {prog : Program} {w : World} {A : Around} {E : Value → Shared → Prop} {s : Shared} {h₀ : Heap} {L l : Addr} {news : Led} {vs : List Value} {c : Nat} {Q : Value → Shared → Prop} (N : News h₀ L s.heap news)
    (hm : (l, W.listOf vs.toArray c) ∈ news) (hk : vs.length ≤ 4096) (h : Q (.int vs.length (s.toks + 1)) { s with toks := s.toks + 1 + 1 }) : wpAny (model prog w) A (call (.builtin "len") [.ref l]) Q E s := by
  refine len_list (items := vs.toArray) ⟨_, (N _ hm).1, rfl, c, rfl⟩ (by simp; omega) ?_
  simpa using h
end Mine
end PartN1

section PartD1
open PySem PySem.W PySem.Spec PySem.Calls PyProof.Rows
set_option maxRecDepth 100000
set_option maxHeartbeats 8000000
namespace Mine
theorem anewD1 : True := by
  w_top off
  trivial
theorem divmod_K {prog : Program} {w : World} {A : Around} {E : Value → Shared → Prop} {s : Shared} {x b : Int} {t u : Tok} {Q : Value → Shared → Prop} {h₀ : Heap} {L : Addr} {m : Str → Option Value} {news : Led} (F : Fr h₀ L s.heap m) (N : News h₀ L s.heap news) (hb : b ≠ 0)
    (hp : Builtin.divisionGoesByPylong x b = false)
    (h : ∀ D t1 t2 h' tk, Fr h₀ L h' m → News h₀ L h' ((D, tupObj #[.int (x.fdiv b) t1, .int (x.fmod b) t2] 0) :: news) → (∀ p ∈ news, p.1 < D) → Q (.ref D) { s with heap := h', toks := tk }) :
    wpAny (model prog w) A (call (.builtin "divmod") [.int x t, .int b u]) Q E s :=
  divmod_N F N hb (fun h' F' N' => h _ _ _ h' _ F' N' fun p hp => Heap.lt_size (N p hp).1) (.inl hp)
theorem c_div (w : World) (x b n : Int) (t1 t2 t3 : Tok) (hx : 0 ≤ x ∧ x < 2 ^ 64) (hb : 0 < b ∧ b < 2 ^ 16) (hn : 0 ≤ n ∧ n < 2 ^ 16) : NCon w 4 28 [.int x t1, .int b t2, .int n t3] (RTup (Int.fdiv x b) (Int.fmod x b)) := by
  unfold NCon
  intro loose mean mg mb dp un gd cn cs a ccd cl outer A₀ base h₀ L m news s Q E B F X N T hk hd hu hret
  have hbits := bits_le hx.1 hx.2
  obtain ⟨hx0, hx1⟩ := hx
  obtain ⟨hb0, hb1⟩ := hb
  obtain ⟨hn0, hn1⟩ := hn
  refine wpAny_call ?_
  k_dflt cell_enter
  repeat' (first | with_reducible ((with_reducible show wpAny _ _ (call (Value.builtin "divmod") _) _ _ _); (k_here; k_dflt (refine' divmod_K (by k_asm) (by k_asm) (by omega) (by exact PyProof.noPylong_small (by omega)) ?_); intro _ _ _ _ _ _ _ l1; (first | k_lt l1 | replace l1 := allLt_of l1); revert l1; intro _)) | (k_unfold; (try dsimp only)) | (k_end; wrow_close) | walk1 | (dsimp only; first | with_reducible ((with_reducible show wpAny _ _ (call (Value.builtin "divmod") _) _ _ _); (k_here; k_dflt (refine' divmod_K (by k_asm) (by k_asm) (by omega) (by exact PyProof.noPylong_small (by omega)) ?_); intro _ _ _ _ _ _ _ l1; (first | k_lt l1 | replace l1 := allLt_of l1); revert l1; intro _)) | walk1) | (leave1; walk_say "STEP leave1"; try dsimp only) | fail "no step")
  all_goals (refine hret _ [_] _ _ ⟨_, _, _, _, rfl, rfl⟩ (by k_asm) (by k_asm) ?_)
  all_goals (intro p hp q hq; rw [List.mem_singleton.mp hp]; exact ktn_ltOf (by dsimp only; ktn_lt) q hq)
theorem c_div' (w : World) (x b n : Int) (t1 t2 t3 : Tok) (hx : 0 ≤ x ∧ x < 2 ^ 64) (hb : 0 < b ∧ b < 2 ^ 16) (hn : 0 ≤ n ∧ n < 2 ^ 16) : NCon w 4 28 [.int x t1, .int b t2, .int n t3] (RTup (x / b) (x % b)) := by
  have h := c_div w x b n t1 t2 t3 hx hb hn
  rw [Int.fdiv_eq_ediv_of_nonneg _ (Int.le_of_lt hb.1), Int.fmod_eq_emod_of_nonneg _ (Int.le_of_lt hb.1)] at h
  exact h
end Mine
end PartD1

section PartC1
open PySem PySem.W PySem.Spec PySem.Calls PyProof.Rows
set_option maxRecDepth 100000
set_option maxHeartbeats 8000000
namespace Mine
theorem anewC1 : True := by
  w_top off
  trivial

theorem c_get_sep (w : World) (x : Str) (t : Tok) : PCon w 2 150 [.str x t] (fun t => .str (Str.ofString "/") t) := by
  unfold PCon
  intro loose mean mg mb dp un gd cn cs a ccd cl outer A₀ base h₀ L m news s Q E B F X N T hk hd hu hret
  refine wpAny_call ?_
  k_dflt cell_enter
  k_steps
  all_goals exact hret _ _ _ (by k_asm) (by first | k_asm | (refine' cb_drop ?cbN ?cbS; (case cbN => assumption); (case cbS => kcj_all)))


theorem c_fspath (w : World) (x : Str) (t : Tok) : PCon w 2 136 [.str x t] (fun t => .str x t) := by
  unfold PCon
  intro loose mean mg mb dp un gd cn cs a ccd cl outer A₀ base h₀ L m news s Q E B F X N T hk hd hu hret
  refine wpAny_call ?_
  k_dflt cell_enter
  repeat' (first | with_reducible ((with_reducible show wpAny _ _ (call (Value.builtin "issubclass") _) _ _ _); (k_here; k_dflt (refine' iss_tuple (by exact News.get (by k_asm) (by k_mem)) ?_; intro _))) | (k_unfold; (try dsimp only)) | (k_end; wrow_close) | walk1 | (dsimp only; first | with_reducible ((with_reducible show wpAny _ _ (call (Value.builtin "issubclass") _) _ _ _); (k_here; k_dflt (refine' iss_tuple (by exact News.get (by k_asm) (by k_mem)) ?_; intro _))) | walk1) | (leave1; walk_say "STEP leave1"; try dsimp only) | fail "no step")
  all_goals exact hret _ _ _ (by k_asm) (by first | k_asm | (refine' cb_drop ?cbN ?cbS; (case cbN => assumption); (case cbS => kcj_all)))


noncomputable def basF (x : Str) : Str := Txt.slice x (some (Txt.rfind x (Str.ofString "/") + 1)) none
theorem c_basename (w : World) (x : Str) (t : Tok) (hx : x.length ≤ 4096) : PCon w 4 164 [.str x t] (fun t => .str (basF x) t) := by
  unfold PCon
  intro loose mean mg mb dp un gd cn cs a ccd cl outer A₀ base h₀ L m news s Q E B F X N T hk hd hu hret
  refine wpAny_call ?_
  k_dflt cell_enter
  repeat' (first | with_reducible ((with_reducible show wpAny _ _ (call (Value.ref _) _) _ _ _); (k_here; k_dflt (first | (refine' PCon.use (c_get_sep _ _ _) (by k_asm) (by k_asm) (by k_asm) (by k_asm) (by k_asm) (by first | exact rfl | assumption) (by first | exact room1 hd (by decide) | ktr_room) (by first | exact units1 hu (by decide) | ktr_units) ?_; k_whole; intro t9 h9 tk9 F9 N9; (try dsimp only); (try k_sweep)) | (refine' PCon.use (c_fspath _ _ _) (by k_asm) (by k_asm) (by k_asm) (by k_asm) (by k_asm) (by first | exact rfl | assumption) (by first | exact room1 hd (by decide) | ktr_room) (by first | exact units1 hu (by decide) | ktr_units) ?_; k_whole; intro _ _ _ _ _; (try dsimp only); (try k_sweep))))) | with_reducible ((with_reducible show wpAny _ _ (call (Value.builtin "issubclass") _) _ _ _); (k_here; k_dflt (refine' iss_tuple (by exact News.get (by k_asm) (by k_mem)) ?_; intro _))) | (k_unfold; (try dsimp only)) | (k_end; wrow_close) | walk1 | (dsimp only; first | with_reducible ((with_reducible show wpAny _ _ (call (Value.ref _) _) _ _ _); (k_here; k_dflt (first | (refine' PCon.use (c_get_sep _ _ _) (by k_asm) (by k_asm) (by k_asm) (by k_asm) (by k_asm) (by first | exact rfl | assumption) (by first | exact room1 hd (by decide) | ktr_room) (by first | exact units1 hu (by decide) | ktr_units) ?_; k_whole; intro t9 h9 tk9 F9 N9; (try dsimp only); (try k_sweep)) | (refine' PCon.use (c_fspath _ _ _) (by k_asm) (by k_asm) (by k_asm) (by k_asm) (by k_asm) (by first | exact rfl | assumption) (by first | exact room1 hd (by decide) | ktr_room) (by first | exact units1 hu (by decide) | ktr_units) ?_; k_whole; intro _ _ _ _ _; (try dsimp only); (try k_sweep))))) | with_reducible ((with_reducible show wpAny _ _ (call (Value.builtin "issubclass") _) _ _ _); (k_here; k_dflt (refine' iss_tuple (by exact News.get (by k_asm) (by k_mem)) ?_; intro _))) | walk1) | (leave1; walk_say "STEP leave1"; try dsimp only) | fail "no step")
  all_goals exact hret _ _ _ (by k_asm) (by first | k_asm | (refine' cb_drop ?cbN ?cbS; (case cbN => assumption); (case cbS => kcj_all)))
end Mine
end PartC1

section PartC2
open PySem PySem.W PySem.Spec PySem.Calls PyProof.Rows
set_option maxRecDepth 100000
set_option maxHeartbeats 8000000
namespace Mine
theorem anewC2 : True := by
  w_top off
  trivial
noncomputable def hdF (x : Str) : Str := Txt.slice x none (some (Txt.rfind x (Str.ofString "/") + 1))
noncomputable def dirF (x : Str) : Str := if (hdF x).length ≠ 0 ∧ (hdF x != Txt.mul (Str.ofString "/") ((hdF x).length : Int)) = true then Txt.rstripChars (hdF x) (Str.ofString "/") else hdF x
theorem dirF_1 {x : Str} (h1 : ((hdF x).length : Int) ≠ 0) (h2 : (hdF x != Txt.mul (Str.ofString "/") ((hdF x).length : Int)) = true) : Txt.rstripChars (hdF x) (Str.ofString "/") = dirF x := (if_pos ⟨by omega, h2⟩).symm
theorem dirF_2 {x : Str} (h2 : (hdF x != Txt.mul (Str.ofString "/") ((hdF x).length : Int)) = false) : hdF x = dirF x := (if_neg fun h => by rw [h2] at h; exact absurd h.2 Bool.false_ne_true).symm
theorem dirF_2' {x : Str} (h2 : ¬ (hdF x != Txt.mul (Str.ofString "/") ((hdF x).length : Int)) = true) : hdF x = dirF x := (if_neg fun h => h2 h.2).symm
theorem dirF_3 {x : Str} (h1 : ¬ ((hdF x).length : Int) ≠ 0) : hdF x = dirF x := (if_neg fun h => h1 (by omega)).symm
theorem c_dirname (w : World) (x : Str) (t : Tok) (hx : x.length ≤ 4096) : PCon w 4 171 [.str x t] (fun t => .str (dirF x) t) := by
  unfold PCon
  intro loose mean mg mb dp un gd cn cs a ccd cl outer A₀ base h₀ L m news s Q E B F X N T hk hd hu hret
  refine wpAny_call ?_
  k_dflt cell_enter
  repeat' (first | with_reducible ((with_reducible show wpAny _ _ (call (Value.ref _) _) _ _ _); (k_here; k_dflt (first | (refine' PCon.use (c_get_sep _ _ _) (by k_asm) (by k_asm) (by k_asm) (by k_asm) (by k_asm) (by first | exact rfl | assumption) (by first | exact room1 hd (by decide) | ktr_room) (by first | exact units1 hu (by decide) | ktr_units) ?_; k_whole; intro t9 h9 tk9 F9 N9; (try dsimp only); (try k_sweep)) | (refine' PCon.use (c_fspath _ _ _) (by k_asm) (by k_asm) (by k_asm) (by k_asm) (by k_asm) (by first | exact rfl | assumption) (by first | exact room1 hd (by decide) | ktr_room) (by first | exact units1 hu (by decide) | ktr_units) ?_; k_whole; intro _ _ _ _ _; (try dsimp only); (try k_sweep))))) | (k_unfold; (try dsimp only)) | (k_end; wrow_close) | walk1 | (dsimp only; first | with_reducible ((with_reducible show wpAny _ _ (call (Value.ref _) _) _ _ _); (k_here; k_dflt (first | (refine' PCon.use (c_get_sep _ _ _) (by k_asm) (by k_asm) (by k_asm) (by k_asm) (by k_asm) (by first | exact rfl | assumption) (by first | exact room1 hd (by decide) | ktr_room) (by first | exact units1 hu (by decide) | ktr_units) ?_; k_whole; intro t9 h9 tk9 F9 N9; (try dsimp only); (try k_sweep)) | (refine' PCon.use (c_fspath _ _ _) (by k_asm) (by k_asm) (by k_asm) (by k_asm) (by k_asm) (by first | exact rfl | assumption) (by first | exact room1 hd (by decide) | ktr_room) (by first | exact units1 hu (by decide) | ktr_units) ?_; k_whole; intro _ _ _ _ _; (try dsimp only); (try k_sweep))))) | walk1) | (leave1; walk_say "STEP leave1"; try dsimp only) | fail "no step")
  all_goals (refine cb_retS hret ?_ (by k_asm) (by first | k_asm | (refine' cb_drop ?cbN ?cbS; (case cbN => assumption); (case cbS => kcj_all))))
  all_goals (first | exact dirF_1 (by assumption) (by assumption) | exact dirF_2 (by assumption) | exact dirF_2' (by assumption) | exact dirF_3 (by assumption) | exact dirF_3 (fun h => h (by assumption)))
end Mine
end PartC2

section PartC3
open PySem PySem.W PySem.Spec PySem.Calls PyProof.Rows
set_option maxRecDepth 100000
set_option maxHeartbeats 8000000
namespace Mine
theorem anewC3 : True := by
  w_top off
  trivial
noncomputable def valStep (b : Int) (a : Int) (p : Str) : Int := if (p != Str.ofString "") = true then a * b + (PySem.intText? p).getD 0 else a
noncomputable def valF (b : Int) (ps : List Str) : Int := ps.foldl (valStep b) 0
theorem strValues_get {l : List (Str × Tok)} {i : Nat} {v : Value} (h : (strValues l)[i]? = some v) : ∃ p t, v = .str p t ∧ (l.map (·.1))[i]? = some p := by
  unfold strValues at h
  rw [List.getElem?_map] at h
  cases hl : l[i]? with
  | none => rw [hl] at h; cases h
  | some q => rw [hl] at h; cases h; exact ⟨q.1, q.2, rfl, by rw [List.getElem?_map, hl]; rfl⟩
theorem valF_succ {b : Int} {ls : List Str} {i : Nat} {p : Str} (h : ls[i]? = some p) : valF b (ls.take (i + 1)) = valStep b (valF b (ls.take i)) p := by
  unfold valF
  rw [List.take_add_one, h, List.foldl_append]
  rfl
theorem valStep_some {b a n : Int} {p : Str} (hc : (p != Str.ofString "") = true) (h : PySem.intText? p = some n) : valStep b a p = a * b + n := by
  unfold valStep; rw [if_pos hc, h]; rfl
theorem valStep_none {b a : Int} {p : Str} (hc : (p != Str.ofString "") = false) : valStep b a p = a := by
  unfold valStep; rw [if_neg (by rw [hc]; exact Bool.false_ne_true)]
theorem someInt {a b : Int} {t : Tok} (h : a = b) : some (Value.int a t) = some (Value.int b t) := by rw [h]
theorem c_value (w : World) (x : Str) (t : Tok) (b : Int) (tb : Tok) (hx : x.length ≤ 4096) (hb : 0 ≤ b ∧ b ≤ 1024) (hp : ∀ p ∈ Txt.split x (Str.ofString "/"), p = Str.ofString "" ∨ (p.length ≤ 640 ∧ ∃ n, PySem.intText? p = some n)) :
    PCon w 4 185 [.str x t, .int b tb] (fun t => .int (valF b (Txt.split x (Str.ofString "/"))) t) := by
  unfold PCon
  intro loose mean mg mb dp un gd cn cs a ccd cl outer A₀ base h₀ L m news s Q E B F X N T hk hd hu hret
  refine wpAny_call ?_
  k_dflt cell_enter
  repeat' (first | ((with_reducible show wpAny _ _ (exec (Stmt.Assign ..) _) _ _ _); (rename Fr _ _ _ _ => kFz); (dsimp only at kFz); (revert kFz; intro _); walk1) | (k_unfold; (try dsimp only)) | (k_end; wrow_close) | walk1 | (dsimp only; first | ((with_reducible show wpAny _ _ (exec (Stmt.Assign ..) _) _ _ _); (rename Fr _ _ _ _ => kFz); (dsimp only at kFz); (revert kFz; intro _); walk1) | walk1) | (leave1; walk_say "STEP leave1"; try dsimp only) | fail "no step")
  rename_i l _ _ hl1 hl2 hl3 hl4 F1 N1
  refine loop_list (x := Str.ofString "part") [Str.ofString "value"] (fun i m nw => (∃ t, m (Str.ofString "value") = some (.int (valF b ((l.map (·.1)).take i)) t)) ∧ nw = _) rfl F1 N1 (.head _) rfl rfl ⟨⟨_, rfl⟩, rfl⟩ ?_ ?_
  · rintro i v m₁ news₁ I it h tk hv ⟨⟨ta, ha⟩, rfl⟩ hne hlt hm F2 N2
    obtain ⟨p, tp, rfl, hpi⟩ := strValues_get hv
    have hpm : p ∈ Txt.split x (Str.ofString "/") := hl1 ▸ List.mem_of_getElem? hpi
    simp only [List.map_cons, List.map_nil, over, ha] at F2
    refine absW ?_
    intro Qz Ez hQz hEz
    repeat' (first | ((with_reducible show wpAny _ _ (exec (Stmt.Assign ..) _) _ _ _); (rename Fr _ _ _ _ => kFz); (dsimp only at kFz); (revert kFz; intro _); walk1) | (k_unfold; (try dsimp only)) | (k_end; wrow_close) | walk1 | (dsimp only; first | ((with_reducible show wpAny _ _ (exec (Stmt.Assign ..) _) _ _ _); (rename Fr _ _ _ _ => kFz); (dsimp only at kFz); (revert kFz; intro _); walk1) | walk1) | (leave1; walk_say "STEP leave1"; try dsimp only) | fail "no step")
    · have hc : (p != Str.ofString "") = true := by assumption
      rcases hp p hpm with rfl | ⟨h1, n, h2⟩
      · exact absurd hc (by decide +kernel)
      · refine KIN.call_text h2 h1 ?_
        repeat' (first | ((with_reducible show wpAny _ _ (exec (Stmt.Assign ..) _) _ _ _); (rename Fr _ _ _ _ => kFz); (dsimp only at kFz); (revert kFz; intro _); walk1) | (k_unfold; (try dsimp only)) | (k_end; wrow_close) | walk1 | (dsimp only; first | ((with_reducible show wpAny _ _ (exec (Stmt.Assign ..) _) _ _ _); (rename Fr _ _ _ _ => kFz); (dsimp only at kFz); (revert kFz; intro _); walk1) | walk1) | (leave1; walk_say "STEP leave1"; try dsimp only) | fail "no step")
        refine Onto.use (by assumption) ?_
        refine TurnEnd.next (by k_asm) (by k_asm) hne ?_ ⟨?_, ⟨_, someInt ?_⟩, rfl⟩
        · intro q hq; rw [List.mem_singleton.mp hq]; exact hm
        · intro z h1 h2
          simp only [List.mem_cons, List.not_mem_nil, or_false] at h2
          dsimp only; (repeat (first | rw [if_neg h1] | rw [if_neg h2])); (try rfl)
        · rw [valF_succ hpi, valStep_some hc h2]
    · have hc : (p != Str.ofString "") = false := by assumption
      refine Onto.use (by assumption) ?_
      refine TurnEnd.next (by k_asm) (by k_asm) hne ?_ ⟨?_, ⟨_, someInt ?_⟩, rfl⟩
      · intro q hq; rw [List.mem_singleton.mp hq]; exact hm
      · intro z h1 h2
        simp only [List.mem_cons, List.not_mem_nil, or_false] at h2
        dsimp only; (repeat (first | rw [if_neg h1] | rw [if_neg h2])); (try rfl)
      · rw [valF_succ hpi, valStep_none hc]
  · rintro m₁ news₁ h tk ⟨⟨ta, ha⟩, rfl⟩ F2 N2
    simp only [List.map_cons, List.map_nil, over, ha] at F2
    dsimp only
    repeat' (first | ((with_reducible show wpAny _ _ (exec (Stmt.Assign ..) _) _ _ _); (rename Fr _ _ _ _ => kFz); (dsimp only at kFz); (revert kFz; intro _); walk1) | (k_unfold; (try dsimp only)) | (k_end; wrow_close) | walk1 | (dsimp only; first | ((with_reducible show wpAny _ _ (exec (Stmt.Assign ..) _) _ _ _); (rename Fr _ _ _ _ => kFz); (dsimp only at kFz); (revert kFz; intro _); walk1) | walk1) | (leave1; walk_say "STEP leave1"; try dsimp only) | fail "no step")
    refine cb_retI hret ?_ (by k_asm) (by refine' cb_drop ?cbN ?cbS; (case cbN => assumption); (case cbS => kcj_all))
    rw [← hl1]
    congr 1
    rw [List.take_of_length_le]
    unfold strValues
    simp
end Mine
end PartC3

section PartC4
open PySem PySem.W PySem.Spec PySem.Calls PyProof.Rows
set_option maxRecDepth 100000
set_option maxHeartbeats 8000000
namespace Mine
theorem anewC4 : True := by
  w_top off
  trivial
theorem someStr {a b : Str} {t : Tok} (h : a = b) : some (Value.str a t) = some (Value.str b t) := by rw [h]
noncomputable def joinF (x y : Str) : Str := if Txt.endswith x (Str.ofString "/") = true then x ++ y else x ++ (Str.ofString "/" ++ y)
theorem c_join (w : World) (x : Str) (t : Tok) (y : Str) (ty : Tok) (hx : x.length ≤ 4096) (hy : y.length ≤ 4096) (h1 : Txt.startswith y (Str.ofString "/") = false) (h2 : x.length ≠ 0) :
    PCon w 4 157 [.str x t, .str y ty] (fun t => .str (joinF x y) t) := by
  unfold PCon
  intro loose mean mg mb dp un gd cn cs a ccd cl outer A₀ base h₀ L m news s Q E B F X N T hk hd hu hret
  refine wpAny_call ?_
  k_dflt (refine' kp_rest ?k1 ?k2 ?k3 ?k4 ?k5 ?kA ?kF ?kK ?k6 ?k7 ?k8 ?kV ?kP ?kG ?kB ?_ ?c2 ?c3 ?c4 ?c5; (case kA => exact rfl); (case kF => exact rfl); (case kK => assumption); (case k1 => k_asm); (case k2 => k_asm); (case k3 => k_asm); (case k4 => k_asm); (case k5 => k_asm); (case k6 => k_is); (case k7 => k_is); (case k8 => first | exact room0 hd | ktr_room); (case kV => kl_lit); (case kP => exact rfl); (case kG => exact fun _ => rfl); (case kB => exact fun _ => locs rfl); (case c5 => decide); (case c2 => exact rfl); (case c3 => exact rfl); (case c4 => exact rfl); k_whole; intro D' g' L' h' l1 FG' F' N' B' X' T'; (try k_lt l1); (try dsimp only); (try k_lift B'); (try k_fold))
  repeat' (first | with_reducible ((with_reducible show wpAny _ _ (call (Value.ref _) _) _ _ _); (k_here; k_dflt (first | (refine' PCon.use (c_get_sep _ _ _) (by k_asm) (by k_asm) (by k_asm) (by k_asm) (by k_asm) (by first | exact rfl | assumption) (by first | exact room1 hd (by decide) | ktr_room) (by first | exact units1 hu (by decide) | ktr_units) ?_; k_whole; intro t9 h9 tk9 F9 N9; (try dsimp only); (try k_sweep)) | (refine' PCon.use (c_fspath _ _ _) (by k_asm) (by k_asm) (by k_asm) (by k_asm) (by k_asm) (by first | exact rfl | assumption) (by first | exact room1 hd (by decide) | ktr_room) (by first | exact units1 hu (by decide) | ktr_units) ?_; k_whole; intro _ _ _ _ _; (try dsimp only); (try k_sweep))))) | ((with_reducible show wpAny _ _ (exec (Stmt.Assign ..) _) _ _ _); (rename Fr _ _ _ _ => kFz); (dsimp only at kFz); (revert kFz; intro _); walk1) | (k_unfold; (try dsimp only)) | (k_end; wrow_close) | walk1 | (dsimp only; first | with_reducible ((with_reducible show wpAny _ _ (call (Value.ref _) _) _ _ _); (k_here; k_dflt (first | (refine' PCon.use (c_get_sep _ _ _) (by k_asm) (by k_asm) (by k_asm) (by k_asm) (by k_asm) (by first | exact rfl | assumption) (by first | exact room1 hd (by decide) | ktr_room) (by first | exact units1 hu (by decide) | ktr_units) ?_; k_whole; intro t9 h9 tk9 F9 N9; (try dsimp only); (try k_sweep)) | (refine' PCon.use (c_fspath _ _ _) (by k_asm) (by k_asm) (by k_asm) (by k_asm) (by k_asm) (by first | exact rfl | assumption) (by first | exact room1 hd (by decide) | ktr_room) (by first | exact units1 hu (by decide) | ktr_units) ?_; k_whole; intro _ _ _ _ _; (try dsimp only); (try k_sweep))))) | ((with_reducible show wpAny _ _ (exec (Stmt.Assign ..) _) _ _ _); (rename Fr _ _ _ _ => kFz); (dsimp only at kFz); (revert kFz; intro _); walk1) | walk1) | (leave1; walk_say "STEP leave1"; try dsimp only) | fail "no step")
  rename Fr _ _ _ _ => F1
  rename News _ _ _ _ => N1
  refine wpAny_mono (E := fun _ _ => False) ?_ (fun _ _ x => x) (fun _ _ x => x.elim)
  refine For_invV g' rfl rfl ?_
  repeat' (first | with_reducible ((with_reducible show wpAny _ _ (call (Value.ref _) _) _ _ _); (k_here; k_dflt (first | (refine' PCon.use (c_get_sep _ _ _) (by k_asm) (by k_asm) (by k_asm) (by k_asm) (by k_asm) (by first | exact rfl | assumption) (by first | exact room1 hd (by decide) | ktr_room) (by first | exact units1 hu (by decide) | ktr_units) ?_; k_whole; intro t9 h9 tk9 F9 N9; (try dsimp only); (try k_sweep)) | (refine' PCon.use (c_fspath _ _ _) (by k_asm) (by k_asm) (by k_asm) (by k_asm) (by k_asm) (by first | exact rfl | assumption) (by first | exact room1 hd (by decide) | ktr_room) (by first | exact units1 hu (by decide) | ktr_units) ?_; k_whole; intro _ _ _ _ _; (try dsimp only); (try k_sweep))))) | ((with_reducible show wpAny _ _ (exec (Stmt.Assign ..) _) _ _ _); (rename Fr _ _ _ _ => kFz); (dsimp only at kFz); (revert kFz; intro _); walk1) | (k_unfold; (try dsimp only)) | (k_end; wrow_close) | walk1 | (dsimp only; first | with_reducible ((with_reducible show wpAny _ _ (call (Value.ref _) _) _ _ _); (k_here; k_dflt (first | (refine' PCon.use (c_get_sep _ _ _) (by k_asm) (by k_asm) (by k_asm) (by k_asm) (by k_asm) (by first | exact rfl | assumption) (by first | exact room1 hd (by decide) | ktr_room) (by first | exact units1 hu (by decide) | ktr_units) ?_; k_whole; intro t9 h9 tk9 F9 N9; (try dsimp only); (try k_sweep)) | (refine' PCon.use (c_fspath _ _ _) (by k_asm) (by k_asm) (by k_asm) (by k_asm) (by k_asm) (by first | exact rfl | assumption) (by first | exact room1 hd (by decide) | ktr_room) (by first | exact units1 hu (by decide) | ktr_units) ?_; k_whole; intro _ _ _ _ _; (try dsimp only); (try k_sweep))))) | ((with_reducible show wpAny _ _ (exec (Stmt.Assign ..) _) _ _ _); (rename Fr _ _ _ _ => kFz); (dsimp only at kFz); (revert kFz; intro _); walk1) | walk1) | (leave1; walk_say "STEP leave1"; try dsimp only) | fail "no step")
  refine loop_tuple (x := Str.ofString "b") (vs := [.str y ty]) [Str.ofString "path"] (fun i m nw => (∃ t, m (Str.ofString "path") = some (.str (if i = 0 then x else joinF x y) t)) ∧ nw = _) rfl F1 N1 (.head _) rfl rfl ⟨⟨_, rfl⟩, rfl⟩ ?_ ?_
  · rintro i v m₁ news₁ I it h tk hv ⟨⟨ta, ha⟩, rfl⟩ hne hlt hm F2 N2
    have hi : i = 0 := by
      cases i with
      | zero => rfl
      | succ i => simp at hv
    subst hi
    have hv' : v = .str y ty := by simpa using hv.symm
    subst hv'
    simp only [List.map_cons, List.map_nil, over, ha, ↓reduceIte] at F2
    refine absW ?_
    intro Qz Ez hQz hEz
    repeat' (first | with_reducible ((with_reducible show wpAny _ _ (call (Value.ref _) _) _ _ _); (k_here; k_dflt (first | (refine' PCon.use (c_get_sep _ _ _) (by k_asm) (by k_asm) (by k_asm) (by k_asm) (by k_asm) (by first | exact rfl | assumption) (by first | exact room1 hd (by decide) | ktr_room) (by first | exact units1 hu (by decide) | ktr_units) ?_; k_whole; intro t9 h9 tk9 F9 N9; (try dsimp only); (try k_sweep)) | (refine' PCon.use (c_fspath _ _ _) (by k_asm) (by k_asm) (by k_asm) (by k_asm) (by k_asm) (by first | exact rfl | assumption) (by first | exact room1 hd (by decide) | ktr_room) (by first | exact units1 hu (by decide) | ktr_units) ?_; k_whole; intro _ _ _ _ _; (try dsimp only); (try k_sweep))))) | ((with_reducible show wpAny _ _ (exec (Stmt.Assign ..) _) _ _ _); (rename Fr _ _ _ _ => kFz); (dsimp only at kFz); (revert kFz; intro _); walk1) | (k_unfold; (try dsimp only)) | (k_end; wrow_close) | walk1 | (dsimp only; first | with_reducible ((with_reducible show wpAny _ _ (call (Value.ref _) _) _ _ _); (k_here; k_dflt (first | (refine' PCon.use (c_get_sep _ _ _) (by k_asm) (by k_asm) (by k_asm) (by k_asm) (by k_asm) (by first | exact rfl | assumption) (by first | exact room1 hd (by decide) | ktr_room) (by first | exact units1 hu (by decide) | ktr_units) ?_; k_whole; intro t9 h9 tk9 F9 N9; (try dsimp only); (try k_sweep)) | (refine' PCon.use (c_fspath _ _ _) (by k_asm) (by k_asm) (by k_asm) (by k_asm) (by k_asm) (by first | exact rfl | assumption) (by first | exact room1 hd (by decide) | ktr_room) (by first | exact units1 hu (by decide) | ktr_units) ?_; k_whole; intro _ _ _ _ _; (try dsimp only); (try k_sweep))))) | ((with_reducible show wpAny _ _ (exec (Stmt.Assign ..) _) _ _ _); (rename Fr _ _ _ _ => kFz); (dsimp only at kFz); (revert kFz; intro _); walk1) | walk1) | (leave1; walk_say "STEP leave1"; try dsimp only) | fail "no step")
    all_goals first
      | (exfalso; omega)
      | (refine Onto.use (by assumption) ?_; refine TurnEnd.next (by k_asm) (by k_asm) hne ?_ ⟨?_, ⟨_, someStr ?_⟩, rfl⟩
         · intro q hq; rw [List.mem_singleton.mp hq]; exact hm
         · intro z h1 h2
           simp only [List.mem_cons, List.not_mem_nil, or_false] at h2
           dsimp only
           (repeat (first | rw [if_neg h1] | rw [if_neg h2])); (try rfl)
         · first
             | exact (if_pos (show Txt.endswith x (Str.ofString "/") = true by with_reducible assumption)).symm
             | exact (if_neg (show ¬ Txt.endswith x (Str.ofString "/") = true by first | with_reducible assumption | (rw [show Txt.endswith x (Str.ofString "/") = false by with_reducible assumption]; exact Bool.false_ne_true))).symm)
  · rintro m₁ news₁ h tk ⟨⟨ta, ha⟩, rfl⟩ F2 N2
    simp only [List.map_cons, List.map_nil, over, ha] at F2
    dsimp only
    repeat' (first | with_reducible ((with_reducible show wpAny _ _ (call (Value.ref _) _) _ _ _); (k_here; k_dflt (first | (refine' PCon.use (c_get_sep _ _ _) (by k_asm) (by k_asm) (by k_asm) (by k_asm) (by k_asm) (by first | exact rfl | assumption) (by first | exact room1 hd (by decide) | ktr_room) (by first | exact units1 hu (by decide) | ktr_units) ?_; k_whole; intro t9 h9 tk9 F9 N9; (try dsimp only); (try k_sweep)) | (refine' PCon.use (c_fspath _ _ _) (by k_asm) (by k_asm) (by k_asm) (by k_asm) (by k_asm) (by first | exact rfl | assumption) (by first | exact room1 hd (by decide) | ktr_room) (by first | exact units1 hu (by decide) | ktr_units) ?_; k_whole; intro _ _ _ _ _; (try dsimp only); (try k_sweep))))) | ((with_reducible show wpAny _ _ (exec (Stmt.Assign ..) _) _ _ _); (rename Fr _ _ _ _ => kFz); (dsimp only at kFz); (revert kFz; intro _); walk1) | (k_unfold; (try dsimp only)) | (k_end; wrow_close) | walk1 | (dsimp only; first | with_reducible ((with_reducible show wpAny _ _ (call (Value.ref _) _) _ _ _); (k_here; k_dflt (first | (refine' PCon.use (c_get_sep _ _ _) (by k_asm) (by k_asm) (by k_asm) (by k_asm) (by k_asm) (by first | exact rfl | assumption) (by first | exact room1 hd (by decide) | ktr_room) (by first | exact units1 hu (by decide) | ktr_units) ?_; k_whole; intro t9 h9 tk9 F9 N9; (try dsimp only); (try k_sweep)) | (refine' PCon.use (c_fspath _ _ _) (by k_asm) (by k_asm) (by k_asm) (by k_asm) (by k_asm) (by first | exact rfl | assumption) (by first | exact room1 hd (by decide) | ktr_room) (by first | exact units1 hu (by decide) | ktr_units) ?_; k_whole; intro _ _ _ _ _; (try dsimp only); (try k_sweep))))) | ((with_reducible show wpAny _ _ (exec (Stmt.Assign ..) _) _ _ _); (rename Fr _ _ _ _ => kFz); (dsimp only at kFz); (revert kFz; intro _); walk1) | walk1) | (leave1; walk_say "STEP leave1"; try dsimp only) | fail "no step")
    refine cb_retS hret ?_ (by k_asm) (by refine' cb_drop ?cbN ?cbS; (case cbN => assumption); (case cbS => kcj_all))
    exact if_neg (by simp)
end Mine
end PartC4

section PartN2
open PySem PySem.W PySem.Spec PySem.Calls PyProof.Rows
set_option maxRecDepth 100000
set_option maxHeartbeats 8000000
namespace Mine
theorem anewN2 : True := by
  w_top off
  trivial

/-- what inner writes: the k figures of x from lo on -/
def Wrote (n : Nat) (x : Int) (lo k : Nat) (vs vs' : List Value) : Prop :=
  vs'.length = vs.length ∧ (∀ i, i < lo ∨ lo + k ≤ i → vs'[i]? = vs[i]?) ∧ ∀ i, i < k → ∃ t, vs'[lo + i]? = some (.int (x / 2 ^ (n * i) % 2 ^ n) t)

def InnerC (w : World) (qual : Str) (f l cn ca ci c' : Addr) (fo on oa oi : Obj) (n : Nat) (k : Nat) : Prop :=
  ∀ (x : Int) (lo : Nat) (hi : Int) (tx tl th : Tok) (vs : List Value) (cnt : Nat) (loose : List Str) (mean : ExcName → Option Value) (mg mb : Str → Option Value) (dp un : Nat) (gd : Option (List Code)) (cn' : Str) (cs : Scope) (a : Addr) (ccd : Value) (cl : List (Str × Addr)) (outer : List Env) (A₀ : Around) (base h₀ : Heap) (L : Addr) (m : Str → Option Value) (rest : Led) (s : Shared) (Q E : Value → Shared → Prop),
    Below A₀ base outer h₀ → Fr h₀ L s.heap m → (hd.heap_39 w.params).In h₀ → News h₀ L s.heap ((l, W.listOf vs.toArray cnt) :: rest) → Top topProg loose mean mg mb h₀ → cs.kind = .function →
    (∀ p ∈ rest, p.1 ≠ l) → (f, fo) ∈ rest → (cn, on) ∈ rest → (ca, oa) ∈ rest → (ci, oi) ∈ rest → CodeAt c' qual rest →
    hi = (lo : Int) + (k : Int) → lo + k ≤ vs.length → vs.length ≤ 4096 → 0 ≤ x → x < 2 ^ (n * k) → dp + (k + 2) < recursionLimit → un + 8 * (k + 2) < cLine →
    (∀ vs' cnt' h' tk', Wrote n x lo k vs vs' → Fr h₀ L h' m → News h₀ L h' ((l, W.listOf vs'.toArray cnt') :: rest) → Q .none { s with heap := h', toks := tk' }) →
    wpAny (model PP w) (ktrTop dp un gd cn' cs L a ccd cl outer) (call (.ref f) [.int x tx, .int lo tl, .int hi th]) Q E s

theorem inner_all {w : World} {qual : Str} {f l cn ca ci c' : Addr} {fo on oa oi : Obj} {n : Nat} {news : Led} {h₀ h : Heap} {L : Addr} (_N : News h₀ L h news) (_hf : (f, fo) ∈ news) (_hn : (cn, on) ∈ news) (_ha : (ca, oa) ∈ news) (_hi : (ci, oi) ∈ news)
    (step : ∀ k, 0 < k → n * k ≤ 64 → (∀ j, 0 < j → j < k → InnerC w qual f l cn ca ci c' fo on oa oi n j) → InnerC w qual f l cn ca ci c' fo on oa oi n k) :
    ∀ k, 0 < k → n * k ≤ 64 → InnerC w qual f l cn ca ci c' fo on oa oi n k := by
  intro k
  induction k using Nat.strongRecOn with
  | _ k ih =>
    intro h0 h1
    exact step k h0 h1 fun j hj hjk => ih j hjk hj (Nat.le_trans (Nat.mul_le_mul_left n (Nat.le_of_lt hjk)) h1)

theorem InnerC.use {w : World} {qual : Str} {f l cn ca ci c' : Addr} {fo on oa oi : Obj} {n k : Nat} (hC : InnerC w qual f l cn ca ci c' fo on oa oi n k) {x : Int} {lo : Nat} {lo' hi : Int} {tx tl th : Tok} {vs : List Value} {cnt : Nat} {loose : List Str} {mean : ExcName → Option Value} {mg mb : Str → Option Value} {dp un : Nat} {gd : Option (List Code)} {cn' : Str} {cs : Scope} {a : Addr} {ccd : Value} {cl : List (Str × Addr)} {outer : List Env} {A₀ : Around} {base h₀ : Heap} {L : Addr} {m : Str → Option Value} {rest : Led} {s : Shared} {Q E : Value → Shared → Prop}
    (B : Below A₀ base outer h₀) (F : Fr h₀ L s.heap m) (X : (hd.heap_39 w.params).In h₀) (N : News h₀ L s.heap ((l, W.listOf vs.toArray cnt) :: rest)) (T : Top topProg loose mean mg mb h₀) (hk : cs.kind = .function)
    (hr : ∀ p ∈ rest, p.1 ≠ l) (hf : (f, fo) ∈ rest) (hn : (cn, on) ∈ rest) (ha : (ca, oa) ∈ rest) (hi' : (ci, oi) ∈ rest) (hc : CodeAt c' qual rest)
    (hlo : lo' = (lo : Int)) (hhi : hi = (lo : Int) + (k : Int)) (hlen : lo + k ≤ vs.length) (hlen2 : vs.length ≤ 4096) (hx0 : 0 ≤ x) (hx : x < 2 ^ (n * k)) (hd : dp + (k + 2) < recursionLimit) (hu : un + 8 * (k + 2) < cLine)
    (hret : ∀ vs' cnt' h' tk', Wrote n x lo k vs vs' → Fr h₀ L h' m → News h₀ L h' ((l, W.listOf vs'.toArray cnt') :: rest) → Q .none { s with heap := h', toks := tk' }) :
    wpAny (model PP w) (ktrTop dp un gd cn' cs L a ccd cl outer) (call (.ref f) [.int x tx, .int lo' tl, .int hi th]) Q E s := by
  subst hlo
  exact hC _ _ _ _ _ _ _ _ _ _ _ _ _ _ _ _ _ _ _ _ _ _ _ _ _ _ _ _ _ _ B F X N T hk hr hf hn ha hi' hc hhi hlen hlen2 hx0 hx hd hu hret
end Mine
end PartN2

section PartP2
open PySem PySem.W PySem.Spec PySem.Calls PyProof.Rows
namespace Mine
theorem anewP2 : True := by
  w_top off
  trivial
theorem land_high (x j : Nat) : x &&& (x / 2 ^ j * 2 ^ j) = x / 2 ^ j * 2 ^ j := by
  apply Nat.eq_of_testBit_eq
  intro i
  rw [Nat.testBit_and, Nat.testBit_mul_two_pow, Nat.testBit_div_two_pow]
  by_cases h : j ≤ i
  · have e : i - j + j = i := by omega
    simp [h, e]
  · simp [h]
theorem xor_high {x : Int} (hx : 0 ≤ x) (j : Nat) : Builtin.bitXor x (x / 2 ^ j * 2 ^ j) = x % 2 ^ j := by
  obtain ⟨n, rfl⟩ := Int.eq_ofNat_of_zero_le hx
  have e1 : ((n : Int) / 2 ^ j * 2 ^ j) = ((n / 2 ^ j * 2 ^ j : Nat) : Int) := by push_cast; rfl
  rw [bitXor_and, e1]
  have e2 : Builtin.bitAnd (n : Int) ((n / 2 ^ j * 2 ^ j : Nat) : Int) = ((n &&& (n / 2 ^ j * 2 ^ j) : Nat) : Int) := rfl
  rw [e2, land_high]
  have e3 : ((n : Int) % 2 ^ j) = ((n % 2 ^ j : Nat) : Int) := by push_cast; rfl
  rw [e3]
  have := Nat.div_add_mod n (2 ^ j)
  have e4 : 2 ^ j * (n / 2 ^ j) = n / 2 ^ j * 2 ^ j := Nat.mul_comm _ _
  omega
end Mine
end PartP2

section PartN3
open PySem PySem.W PySem.Spec PySem.Calls PyProof.Rows
set_option maxRecDepth 100000
namespace Mine
theorem anewN3 : True := by
  w_top off
  trivial
section
variable {prog : Program} {w : World} {A : Around} {E : Value → Shared → Prop} {s : Shared} {h₀ : Heap} {L l : Addr} {m : Str → Option Value} {rest : Led} {vs : List Value} {c : Nat} {k : Int} {t u : Tok} {v : Value}
theorem set_led {Q : Unit → Shared → Prop} (F : Fr h₀ L s.heap m) (N : News h₀ L s.heap ((l, W.listOf vs.toArray c) :: rest)) (hr : ∀ p ∈ rest, p.1 ≠ l) (h0 : 0 ≤ k) (h1 : k < vs.length) (hl : vs.length ≤ 4096)
    (h : ∀ h', Fr h₀ L h' m → News h₀ L h' ((l, W.listOf (vs.set k.toNat v).toArray c) :: rest) → Q () { s with heap := h' }) : wpAny (model prog w) A (setItem (.ref l) (.int k t) v) Q E s := by
  have z := N _ (.head _)
  refine ki_setAt z.1 h0 (by omega) (by rw [List.size_toArray]; exact h1) (h _ (F.change (Heap.SameBut.update ..) z.2.1 z.2.2) ?_)
  refine ki_turn (pre := []) _ N (fun _ hp => nomatch hp) hr ?_ ?_
  · apply Array.toList_inj.mp; simp
  · simp
theorem shr_one {a : Int} {Q : Value → Shared → Prop} (h : Q (.int (a / 2) s.toks) { s with toks := s.toks + 1 }) : wpAny (model prog w) A (binaryOp .RShift (.int a t) (.int 1 u)) Q E s := by
  refine rshift_int (by decide) ?_
  rw [Int.fdiv_eq_ediv_of_nonneg _ (by decide)]
  exact h
theorem shr_nat {a b : Int} {j : Nat} {Q : Value → Shared → Prop} (hb : b = (j : Int)) (h : Q (.int (a / 2 ^ j) s.toks) { s with toks := s.toks + 1 }) : wpAny (model prog w) A (binaryOp .RShift (.int a t) (.int b u)) Q E s := by
  subst hb
  refine rshift_int (by omega) ?_
  rw [Int.fdiv_eq_ediv_of_nonneg _ (Int.le_of_lt (Int.pow_pos (by decide)))]
  exact h
theorem shl_nat {a b : Int} {j : Nat} {Q : Value → Shared → Prop} (hb : b = (j : Int)) (hj : j ≤ 1000) (ha : a.natAbs < 2 ^ 64) (h : Q (.int (a * 2 ^ j) s.toks) { s with toks := s.toks + 1 }) : wpAny (model prog w) A (binaryOp .LShift (.int a t) (.int b u)) Q E s := by
  subst hb
  exact lshift_int_small (by omega) (by omega) ha h
theorem xor_nat {a : Int} {j : Nat} {Q : Value → Shared → Prop} (ha : 0 ≤ a) (h : Q (.int (a % 2 ^ j) s.toks) { s with toks := s.toks + 1 }) : wpAny (model prog w) A (binaryOp .BitXor (.int a t) (.int (a / 2 ^ j * 2 ^ j) u)) Q E s := by
  refine xor_int ?_
  rw [xor_high ha]
  exact h
end

theorem wrote_one {n : Nat} {x : Int} {lo k : Nat} {vs : List Value} {t : Tok} (hk : k = 1) (hlen : lo + k ≤ vs.length) (h0 : 0 ≤ x) (hx : x < 2 ^ (n * k)) : Wrote n x lo k vs (vs.set ((lo : Int).toNat) (.int x t)) := by
  subst hk
  refine ⟨by simp, fun i hi => ?_, fun i hi => ⟨t, ?_⟩⟩
  · rw [List.getElem?_set_ne]
    rcases hi with h | h
    · simp; omega
    · simp; omega
  · have e : i = 0 := by omega
    subst e
    rw [Nat.mul_one] at hx
    rw [show ((lo : Int).toNat) = lo by simp, Nat.add_zero, List.getElem?_set_self (by omega), Nat.mul_zero]
    congr 2
    rw [show (2 : Int) ^ 0 = 1 by decide, Int.ediv_one]
    exact (Int.emod_eq_of_lt h0 hx).symm
theorem dig_low_nat (x n k i : Nat) (hi : i < k) : x % 2 ^ (k * n) / 2 ^ (n * i) % 2 ^ n = x / 2 ^ (n * i) % 2 ^ n := by
  obtain ⟨d, rfl⟩ : ∃ d, k = i + 1 + d := ⟨k - (i + 1), by omega⟩
  have e : (2 : Nat) ^ ((i + 1 + d) * n) = 2 ^ (n * i) * (2 ^ n * 2 ^ (n * d)) := by
    rw [Nat.mul_comm, Nat.mul_add, Nat.mul_add, Nat.mul_one, Nat.pow_add, Nat.pow_add, Nat.mul_assoc]
  rw [e, Nat.mod_mul_right_div_self, Nat.mod_mul_right_mod]
theorem dig_high_nat (x n k i : Nat) : x / 2 ^ (k * n) / 2 ^ (n * i) % 2 ^ n = x / 2 ^ (n * (k + i)) % 2 ^ n := by
  rw [Nat.div_div_eq_div_mul, ← Nat.pow_add, Nat.mul_add, Nat.mul_comm k n]
theorem dig_low {x : Int} {n k i : Nat} (h0 : 0 ≤ x) (hi : i < k) : x % 2 ^ (k * n) / 2 ^ (n * i) % 2 ^ n = x / 2 ^ (n * i) % 2 ^ n := by
  obtain ⟨y, rfl⟩ := Int.eq_ofNat_of_zero_le h0
  have h := congrArg (fun z : Nat => (z : Int)) (dig_low_nat y n k i hi)
  push_cast at h
  exact h
theorem dig_high {x : Int} {n k i : Nat} (h0 : 0 ≤ x) : x / 2 ^ (k * n) / 2 ^ (n * i) % 2 ^ n = x / 2 ^ (n * (k + i)) % 2 ^ n := by
  obtain ⟨y, rfl⟩ := Int.eq_ofNat_of_zero_le h0
  have h := congrArg (fun z : Nat => (z : Int)) (dig_high_nat y n k i)
  push_cast at h
  exact h
theorem wrote_two {n k1 k2 lo : Nat} {x : Int} {vs vs1 vs2 : List Value} (h0 : 0 ≤ x) (h1 : Wrote n (x % 2 ^ (k1 * n)) lo k1 vs vs1) (h2 : Wrote n (x / 2 ^ (k1 * n)) (lo + k1) k2 vs1 vs2) : Wrote n x lo (k1 + k2) vs vs2 := by
  obtain ⟨a1, b1, c1⟩ := h1
  obtain ⟨a2, b2, c2⟩ := h2
  refine ⟨a2.trans a1, fun i hi => ?_, fun i hi => ?_⟩
  · rw [b2 i (by omega), b1 i (by omega)]
  · by_cases h : i < k1
    · obtain ⟨t, ht⟩ := c1 i h
      refine ⟨t, ?_⟩
      rw [b2 (lo + i) (by omega), ht, dig_low h0 h]
    · obtain ⟨t, ht⟩ := c2 (i - k1) (by omega)
      refine ⟨t, ?_⟩
      have e : lo + k1 + (i - k1) = lo + i := by omega
      rw [e] at ht
      rw [ht, dig_high h0]
      have e2 : k1 + (i - k1) = i := by omega
      rw [e2]
theorem low_lt {x : Int} {n k1 : Nat} : 0 ≤ x % 2 ^ (k1 * n) ∧ x % 2 ^ (k1 * n) < 2 ^ (n * k1) := by
  have h : (0 : Int) < 2 ^ (k1 * n) := Int.pow_pos (by decide)
  refine ⟨Int.emod_nonneg _ (Int.ne_of_gt h), ?_⟩
  rw [Nat.mul_comm n k1]
  exact Int.emod_lt_of_pos _ h
theorem high_lt {x : Int} {n k1 k2 : Nat} (h0 : 0 ≤ x) (hx : x < 2 ^ (n * (k1 + k2))) : 0 ≤ x / 2 ^ (k1 * n) ∧ x / 2 ^ (k1 * n) < 2 ^ (n * k2) := by
  have h : (0 : Int) < 2 ^ (k1 * n) := Int.pow_pos (by decide)
  refine ⟨Int.ediv_nonneg h0 (Int.le_of_lt h), ?_⟩
  refine Int.ediv_lt_of_lt_mul h ?_
  rw [Nat.mul_add, Int.pow_add, Int.mul_comm, Nat.mul_comm n k1] at hx
  exact hx
theorem small64 {x : Int} {m : Nat} (h0 : 0 ≤ x) (hx : x < 2 ^ m) (hm : m ≤ 64) : x.natAbs < 2 ^ 64 := by
  have h1 : x < ((2 ^ m : Nat) : Int) := by push_cast; exact hx
  have h2 : 2 ^ m ≤ 2 ^ 64 := Nat.pow_le_pow_right (by decide) hm
  omega
theorem news_swap {h₀ h : Heap} {L : Addr} {a b : Addr × Obj} {R : Led} (N : News h₀ L h (a :: b :: R)) : News h₀ L h (b :: a :: R) := fun p hp => by
  rcases List.mem_cons.mp hp with rfl | hp
  · exact N _ (.tail _ (.head _))
  · rcases List.mem_cons.mp hp with rfl | hp
    · exact N _ (.head _)
    · exact N _ (.tail _ (.tail _ hp))
theorem News.sub {h₀ h : Heap} {L : Addr} {A B : Led} (N : News h₀ L h A) (hs : ∀ p ∈ B, p ∈ A) : News h₀ L h B := fun p hp => N p (hs p hp)
end Mine
end PartN3

section SharedMem
open PySem PySem.W PySem.Spec PySem.Calls PyProof.Rows
set_option compiler.extract_closed false
local macro_rules | `(tactic| k_mem) => `(tactic| assumption)

section PartI1
open PySem PySem.W PySem.Spec PySem.Calls PyProof.Rows
set_option maxRecDepth 100000
set_option maxHeartbeats 1000000
namespace Mine
theorem anewI1 : True := by
  w_top off
  trivial
/-- the body of the n-th statement, if a def's -/
noncomputable def bodyAt : Nat → List Stmt → List Stmt
  | _, [] => []
  | 0, .FunctionDef _ _ b _ _ _ _ _ _ _ :: _ => b
  | 0, _ :: _ => []
  | n + 1, _ :: r => bodyAt n r
noncomputable def stmtAt : Nat → List Stmt → Stmt
  | _, [] => .Pass default
  | 0, s :: _ => s
  | n + 1, _ :: r => stmtAt n r
noncomputable def inner1 : Stmt := stmtAt 1 (bodyAt 5 PySem.Challenge.pw_ik0007_01.main.body)
noncomputable def inner2 : Stmt := stmtAt 0 (bodyAt 6 PySem.Challenge.pw_ik0007_01.main.body)
theorem Wrote.len {n : Nat} {x : Int} {lo k : Nat} {vs vs' : List Value} (h : Wrote n x lo k vs vs') : vs'.length = vs.length := h.1
theorem inner_step1 (w : World) (n : Nat) (f D cn ca ci c' : Addr) (on oa oi : Obj) (doc pm ctv : Value) (tn : Tok) (dn : on.data = .cell (some (.int (n : Int) tn))) (da : oa.data = .cell (some (.ref D))) (di : oi.data = .cell (some (.ref f))) (hn0 : 0 < n) (hn1 : n ≤ 10) :
    ∀ params body scope, inner1 = .FunctionDef (Str.ofString "inner") params body [] none [] scope none (Str.ofString "inner") pos1 → ∀ k, 0 < k → n * k ≤ 64 →
      (∀ j, 0 < j → j < k → InnerC w qual1 f D cn ca ci c' (fnMade (Str.ofString "inner") qual1 params body scope [(Str.ofString "n", cn), (Str.ofString "inner", ci), (Str.ofString "a_digits", ca)] doc pm c' ctv) on oa oi n j) →
      InnerC w qual1 f D cn ca ci c' (fnMade (Str.ofString "inner") qual1 params body scope [(Str.ofString "n", cn), (Str.ofString "inner", ci), (Str.ofString "a_digits", ca)] doc pm c' ctv) on oa oi n k := by
  intro params body scope h
  cases h
  intro k hk0 hk1 IH
  unfold InnerC
  intro x lo hi tx tl th vs cnt loose mean mg mb dp un gd cn' cs a ccd cl outer A₀ base h₀ L m rest s Q E B F X N T hk hr hf hn ha hi' hc hhi hlen hlen2 hx0 hx hd hu hret
  subst hhi
  have hc2 := hc
  obtain ⟨oc, cvs, tc, hcm, hcd, hcv⟩ := hc2
  refine wpAny_call ?_
  k_dflt (refine' code_nest ?k1 ?k2 ?k3 ?k4 ?k5 ?kA ?kF ?kK ?k6 ?k7 ?k8 ?k9 ?kB ?_ ?c2 ?c3 ?c4 ?c5; (case kA => exact rfl); (case kF => exact rfl); (case kK => assumption); (case k1 => k_asm); (case k2 => k_asm); (case k3 => k_asm); (case k4 => exact N); (case k5 => k_asm); (case k6 => exact .tail _ hf); (case k7 => exact codeRec_news N (.tail _ hcm) hcd hcv); (case k8 => first | exact room0 hd | ktr_room); (case k9 => exact BindsTo.of_eq rfl); (case c5 => decide); (case kB => exact locs rfl); (case c2 => exact rfl); (case c3 => exact rfl); (case c4 => exact rfl); k_whole; intro g' L' h' FG' F' N' B' X' T'; (try dsimp only); (try k_fold))
  clear N F
  have hsh := half_sh lo k n
  have hkn : k / 2 * n ≤ 64 := Nat.le_trans (Nat.mul_le_mul_right n (Nat.div_le_self k 2)) (by rw [Nat.mul_comm]; exact hk1)
  have hxx : x < 2 ^ (n * (k / 2 + (k - k / 2))) := by rw [half_add k]; exact hx
  have hup : (x / 2 ^ (k / 2 * n)).natAbs < 2 ^ 64 := small64 (high_lt hx0 hxx).1 (high_lt hx0 hxx).2 (Nat.le_trans (Nat.mul_le_mul_left n (Nat.sub_le _ _)) hk1)
  repeat' (first | with_reducible ((with_reducible show wpAny _ _ (callWith _ (Value.ref _) _ _ _) _ _ _); (k_here; k_dflt (refine' callWith_F (by exact FnAt.of (by k_asm) (by k_mem)) ?_; k_whole))) | with_reducible ((with_reducible show wpAny _ _ (binaryOp .BitXor (Value.int _ _) (Value.int _ _)) _ _ _); (k_here; (refine' xor_nat (by assumption) ?_))) | with_reducible ((with_reducible show wpAny _ _ (binaryOp .LShift (Value.int _ _) (Value.int _ _)) _ _ _); (k_here; (refine' shl_nat (by assumption) (by omega) (by assumption) ?_))) | with_reducible ((with_reducible show wpAny _ _ (binaryOp .RShift (Value.int _ _) (Value.int _ _)) _ _ _); (k_here; first | refine shr_one ?_ | (refine' shr_nat (by assumption) ?_))) | with_reducible ((with_reducible show wpAny _ _ (setItem (Value.ref _) (Value.int _ _) _) _ _ _); (k_here; k_dflt (refine' set_led (by k_asm) (by k_asm) (by assumption) (by omega) (by omega) (by omega) ?_); intro _ _ _; (try k_sweep))) | with_reducible ((with_reducible show wpAny _ _ (eval (PySem.Expr.Name ..) _) _ _ _); (k_here; k_dflt (refine' (fun a b N c m d k => nameX_F N c m d k a b) (by rfl) (by rfl) (by k_asm) (by rfl) (by k_mem) (by k_asm) ?_; k_whole))) | ((with_reducible show wpAny _ _ (exec (Stmt.Assign ..) _) _ _ _); (rename Fr _ _ _ _ => kFz); (dsimp only at kFz); (revert kFz; intro _); walk1) | (k_unfold; (try dsimp only)) | (k_end; wrow_close) | walk1 | (dsimp only; first | with_reducible ((with_reducible show wpAny _ _ (callWith _ (Value.ref _) _ _ _) _ _ _); (k_here; k_dflt (refine' callWith_F (by exact FnAt.of (by k_asm) (by k_mem)) ?_; k_whole))) | with_reducible ((with_reducible show wpAny _ _ (binaryOp .BitXor (Value.int _ _) (Value.int _ _)) _ _ _); (k_here; (refine' xor_nat (by assumption) ?_))) | with_reducible ((with_reducible show wpAny _ _ (binaryOp .LShift (Value.int _ _) (Value.int _ _)) _ _ _); (k_here; (refine' shl_nat (by assumption) (by omega) (by assumption) ?_))) | with_reducible ((with_reducible show wpAny _ _ (binaryOp .RShift (Value.int _ _) (Value.int _ _)) _ _ _); (k_here; first | refine shr_one ?_ | (refine' shr_nat (by assumption) ?_))) | with_reducible ((with_reducible show wpAny _ _ (setItem (Value.ref _) (Value.int _ _) _) _ _ _); (k_here; k_dflt (refine' set_led (by k_asm) (by k_asm) (by assumption) (by omega) (by omega) (by omega) ?_); intro _ _ _; (try k_sweep))) | with_reducible ((with_reducible show wpAny _ _ (eval (PySem.Expr.Name ..) _) _ _ _); (k_here; k_dflt (refine' (fun a b N c m d k => nameX_F N c m d k a b) (by rfl) (by rfl) (by k_asm) (by rfl) (by k_mem) (by k_asm) ?_; k_whole))) | ((with_reducible show wpAny _ _ (exec (Stmt.Assign ..) _) _ _ _); (rename Fr _ _ _ _ => kFz); (dsimp only at kFz); (revert kFz; intro _); walk1) | walk1) | (leave1; walk_say "STEP leave1"; try dsimp only) | fail "no step")
  · have hk2 : k = 1 := by omega
    exact hret _ _ _ _ (wrote_one hk2 hlen hx0 hx) (by k_asm) (by k_asm)
  · have hk2 : 2 ≤ k := by omega
    have IH1 := IH (k / 2) (Nat.div_pos hk2 (by decide)) (Nat.div_lt_self hk0 (by decide))
    have IH2 := IH (k - k / 2) (Nat.sub_pos_of_lt (Nat.div_lt_self hk0 (by decide))) (Nat.sub_lt hk0 (Nat.div_pos hk2 (by decide)))
    clear IH
    refine IH1.use (by k_asm) (by k_asm) (by k_asm) (by k_asm) (by k_asm) rfl hr hf hn ha hi' hc rfl (half_mid' lo k) (half_le1 hlen) hlen2 low_lt.1 low_lt.2 (by first | exact room1 hd (half_le hk2) | ktr_room) (by first | exact units1 hu (half_le hk2) | ktr_units) ?_
    intro vs1 c1 h1 tk1 W1 F1 N1
    have L1 := W1.len
    repeat' (first | with_reducible ((with_reducible show wpAny _ _ (callWith _ (Value.ref _) _ _ _) _ _ _); (k_here; k_dflt (refine' callWith_F (by exact FnAt.of (by k_asm) (by k_mem)) ?_; k_whole))) | with_reducible ((with_reducible show wpAny _ _ (binaryOp .BitXor (Value.int _ _) (Value.int _ _)) _ _ _); (k_here; (refine' xor_nat (by assumption) ?_))) | with_reducible ((with_reducible show wpAny _ _ (binaryOp .LShift (Value.int _ _) (Value.int _ _)) _ _ _); (k_here; (refine' shl_nat (by assumption) (by omega) (by assumption) ?_))) | with_reducible ((with_reducible show wpAny _ _ (binaryOp .RShift (Value.int _ _) (Value.int _ _)) _ _ _); (k_here; first | refine shr_one ?_ | (refine' shr_nat (by assumption) ?_))) | with_reducible ((with_reducible show wpAny _ _ (setItem (Value.ref _) (Value.int _ _) _) _ _ _); (k_here; k_dflt (refine' set_led (by k_asm) (by k_asm) (by assumption) (by omega) (by omega) (by omega) ?_); intro _ _ _; (try k_sweep))) | with_reducible ((with_reducible show wpAny _ _ (eval (PySem.Expr.Name ..) _) _ _ _); (k_here; k_dflt (refine' (fun a b N c m d k => nameX_F N c m d k a b) (by rfl) (by rfl) (by k_asm) (by rfl) (by k_mem) (by k_asm) ?_; k_whole))) | ((with_reducible show wpAny _ _ (exec (Stmt.Assign ..) _) _ _ _); (rename Fr _ _ _ _ => kFz); (dsimp only at kFz); (revert kFz; intro _); walk1) | (k_unfold; (try dsimp only)) | (k_end; wrow_close) | walk1 | (dsimp only; first | with_reducible ((with_reducible show wpAny _ _ (callWith _ (Value.ref _) _ _ _) _ _ _); (k_here; k_dflt (refine' callWith_F (by exact FnAt.of (by k_asm) (by k_mem)) ?_; k_whole))) | with_reducible ((with_reducible show wpAny _ _ (binaryOp .BitXor (Value.int _ _) (Value.int _ _)) _ _ _); (k_here; (refine' xor_nat (by assumption) ?_))) | with_reducible ((with_reducible show wpAny _ _ (binaryOp .LShift (Value.int _ _) (Value.int _ _)) _ _ _); (k_here; (refine' shl_nat (by assumption) (by omega) (by assumption) ?_))) | with_reducible ((with_reducible show wpAny _ _ (binaryOp .RShift (Value.int _ _) (Value.int _ _)) _ _ _); (k_here; first | refine shr_one ?_ | (refine' shr_nat (by assumption) ?_))) | with_reducible ((with_reducible show wpAny _ _ (setItem (Value.ref _) (Value.int _ _) _) _ _ _); (k_here; k_dflt (refine' set_led (by k_asm) (by k_asm) (by assumption) (by omega) (by omega) (by omega) ?_); intro _ _ _; (try k_sweep))) | with_reducible ((with_reducible show wpAny _ _ (eval (PySem.Expr.Name ..) _) _ _ _); (k_here; k_dflt (refine' (fun a b N c m d k => nameX_F N c m d k a b) (by rfl) (by rfl) (by k_asm) (by rfl) (by k_mem) (by k_asm) ?_; k_whole))) | ((with_reducible show wpAny _ _ (exec (Stmt.Assign ..) _) _ _ _); (rename Fr _ _ _ _ => kFz); (dsimp only at kFz); (revert kFz; intro _); walk1) | walk1) | (leave1; walk_say "STEP leave1"; try dsimp only) | fail "no step")
    refine IH2.use (by k_asm) (by k_asm) (by k_asm) (by k_asm) (by k_asm) rfl hr hf hn ha hi' hc (half_mid lo k) (half_hi lo k) (Nat.le_trans (half_le2 hlen) (Nat.le_of_eq L1.symm)) (Nat.le_trans (Nat.le_of_eq L1) hlen2) (high_lt hx0 hxx).1 (high_lt hx0 hxx).2 (by first | exact room1 hd (half_le' hk2) | ktr_room) (by first | exact units1 hu (half_le' hk2) | ktr_units) ?_
    intro vs2 c2 h2 tk2 W2 F2 N2
    repeat' (first | with_reducible ((with_reducible show wpAny _ _ (callWith _ (Value.ref _) _ _ _) _ _ _); (k_here; k_dflt (refine' callWith_F (by exact FnAt.of (by k_asm) (by k_mem)) ?_; k_whole))) | with_reducible ((with_reducible show wpAny _ _ (binaryOp .BitXor (Value.int _ _) (Value.int _ _)) _ _ _); (k_here; (refine' xor_nat (by assumption) ?_))) | with_reducible ((with_reducible show wpAny _ _ (binaryOp .LShift (Value.int _ _) (Value.int _ _)) _ _ _); (k_here; (refine' shl_nat (by assumption) (by omega) (by assumption) ?_))) | with_reducible ((with_reducible show wpAny _ _ (binaryOp .RShift (Value.int _ _) (Value.int _ _)) _ _ _); (k_here; first | refine shr_one ?_ | (refine' shr_nat (by assumption) ?_))) | with_reducible ((with_reducible show wpAny _ _ (setItem (Value.ref _) (Value.int _ _) _) _ _ _); (k_here; k_dflt (refine' set_led (by k_asm) (by k_asm) (by assumption) (by omega) (by omega) (by omega) ?_); intro _ _ _; (try k_sweep))) | with_reducible ((with_reducible show wpAny _ _ (eval (PySem.Expr.Name ..) _) _ _ _); (k_here; k_dflt (refine' (fun a b N c m d k => nameX_F N c m d k a b) (by rfl) (by rfl) (by k_asm) (by rfl) (by k_mem) (by k_asm) ?_; k_whole))) | ((with_reducible show wpAny _ _ (exec (Stmt.Assign ..) _) _ _ _); (rename Fr _ _ _ _ => kFz); (dsimp only at kFz); (revert kFz; intro _); walk1) | (k_unfold; (try dsimp only)) | (k_end; wrow_close) | walk1 | (dsimp only; first | with_reducible ((with_reducible show wpAny _ _ (callWith _ (Value.ref _) _ _ _) _ _ _); (k_here; k_dflt (refine' callWith_F (by exact FnAt.of (by k_asm) (by k_mem)) ?_; k_whole))) | with_reducible ((with_reducible show wpAny _ _ (binaryOp .BitXor (Value.int _ _) (Value.int _ _)) _ _ _); (k_here; (refine' xor_nat (by assumption) ?_))) | with_reducible ((with_reducible show wpAny _ _ (binaryOp .LShift (Value.int _ _) (Value.int _ _)) _ _ _); (k_here; (refine' shl_nat (by assumption) (by omega) (by assumption) ?_))) | with_reducible ((with_reducible show wpAny _ _ (binaryOp .RShift (Value.int _ _) (Value.int _ _)) _ _ _); (k_here; first | refine shr_one ?_ | (refine' shr_nat (by assumption) ?_))) | with_reducible ((with_reducible show wpAny _ _ (setItem (Value.ref _) (Value.int _ _) _) _ _ _); (k_here; k_dflt (refine' set_led (by k_asm) (by k_asm) (by assumption) (by omega) (by omega) (by omega) ?_); intro _ _ _; (try k_sweep))) | with_reducible ((with_reducible show wpAny _ _ (eval (PySem.Expr.Name ..) _) _ _ _); (k_here; k_dflt (refine' (fun a b N c m d k => nameX_F N c m d k a b) (by rfl) (by rfl) (by k_asm) (by rfl) (by k_mem) (by k_asm) ?_; k_whole))) | ((with_reducible show wpAny _ _ (exec (Stmt.Assign ..) _) _ _ _); (rename Fr _ _ _ _ => kFz); (dsimp only at kFz); (revert kFz; intro _); walk1) | walk1) | (leave1; walk_say "STEP leave1"; try dsimp only) | fail "no step")

    all_goals exact hret _ _ _ _ (half_add k ▸ wrote_two hx0 W1 W2) (by k_asm) (by k_asm)
end Mine
end PartI1

section PartP3
open PySem PySem.W PySem.Spec PySem.Calls PyProof.Rows
namespace Mine
theorem anewP3 : True := by
  w_top off
  trivial
noncomputable def ndig (n : Nat) (x : Int) : Nat := (((Builtin.Int.intBits x : Int) + n - 1).fdiv n).toNat
noncomputable def digsOf (n : Nat) (x : Int) : List Int := (List.range (ndig n x)).map fun i => x / 2 ^ (n * i) % 2 ^ n
theorem ndig_eq {n : Nat} {x : Int} (hn : 0 < n) : ndig n x = (Builtin.Int.intBits x + n - 1) / n := by
  unfold ndig
  rw [Int.fdiv_eq_ediv_of_nonneg _ (by omega)]
  have e : (Builtin.Int.intBits x : Int) + n - 1 = ((Builtin.Int.intBits x + n - 1 : Nat) : Int) := by omega
  rw [e]
  have e2 : ((Builtin.Int.intBits x + n - 1 : Nat) : Int) / (n : Int) = (((Builtin.Int.intBits x + n - 1) / n : Nat) : Int) := by push_cast; rfl
  rw [e2]; exact Int.toNat_natCast _
theorem ndig_le {n : Nat} {x : Int} (hn : 0 < n) : n * ndig n x ≤ Builtin.Int.intBits x + n - 1 := by
  rw [ndig_eq hn]; exact Nat.mul_div_le _ _
theorem ndig_ge {n : Nat} {x : Int} (hn : 0 < n) : Builtin.Int.intBits x ≤ n * ndig n x := by
  rw [ndig_eq hn]
  have h := Nat.div_add_mod (Builtin.Int.intBits x + n - 1) n
  have h2 := Nat.mod_lt (Builtin.Int.intBits x + n - 1) hn
  omega
theorem ndig_zero {n : Nat} (hn : 0 < n) : ndig n 0 = 0 := by
  rw [ndig_eq hn, bits_zero, Nat.zero_add]
  exact Nat.div_eq_of_lt (by omega)
theorem ndig_pos {n : Nat} {x : Int} (hn : 0 < n) (hx : 0 < x) : 0 < ndig n x := by
  have h1 := bits_pos hx
  have h2 := ndig_ge (x := x) hn
  rcases Nat.eq_zero_or_pos (ndig n x) with h | h
  · rw [h] at h2; omega
  · exact h
theorem ndig_lt {n : Nat} {x : Int} (hn : 0 < n) (h0 : 0 ≤ x) : x < 2 ^ (n * ndig n x) := by
  have h1 := bits_lt h0
  have h2 : (2 : Int) ^ Builtin.Int.intBits x ≤ 2 ^ (n * ndig n x) := by
    have h3 := Nat.pow_le_pow_right (n := 2) (by decide) (ndig_ge (x := x) hn)
    have h4 : ((2 ^ Builtin.Int.intBits x : Nat) : Int) ≤ ((2 ^ (n * ndig n x) : Nat) : Int) := Int.ofNat_le.mpr h3
    push_cast at h4
    exact h4
  exact Int.lt_of_lt_of_le h1 h2
theorem intsAre_of : ∀ (vs : List Value) (g : Nat → Int), (∀ i, i < vs.length → ∃ t, vs[i]? = some (.int (g i) t)) → IntsAre vs ((List.range vs.length).map g)
  | [], _, _ => .nil
  | v :: r, g, h => by
    obtain ⟨t, ht⟩ := h 0 (by simp)
    have hv : v = .int (g 0) t := by simpa using ht
    subst hv
    have ih := intsAre_of r (fun i => g (i + 1)) fun i hi => by
      obtain ⟨t, ht⟩ := h (i + 1) (by simpa using hi)
      exact ⟨t, by simpa using ht⟩
    rw [List.length_cons, List.range_succ_eq_map, List.map_cons, List.map_map]
    exact .cons _ _ ih
theorem digs_of_wrote {n : Nat} {x : Int} {vs vs' : List Value} (hl : vs.length = ndig n x) (h : Wrote n x 0 (ndig n x) vs vs') : IntsAre vs' (digsOf n x) := by
  obtain ⟨a, _, c⟩ := h
  have e : vs'.length = ndig n x := a.trans hl
  unfold digsOf
  rw [← e]
  refine intsAre_of vs' _ fun i hi => ?_
  obtain ⟨t, ht⟩ := c i (by omega)
  exact ⟨t, by simpa using ht⟩
theorem digs_zero {n : Nat} (hn : 0 < n) : digsOf n 0 = [] := by unfold digsOf; rw [ndig_zero hn]; rfl
end Mine
end PartP3

section SharedAll
open PySem PySem.W PySem.Spec PySem.Calls PyProof.Rows
set_option compiler.extract_closed false
local macro_rules | `(tactic| k_all) => `(tactic| first | assumption | (refine Mine.Under.ne (by assumption) ?_; omega))

section PartD2
open PySem PySem.W PySem.Spec PySem.Calls PyProof.Rows
set_option maxRecDepth 100000
set_option maxHeartbeats 600000
namespace Mine
theorem anewD2 : True := by
  w_top off
  trivial
def RList (ns : List Int) (v : Value) (own : Led) : Prop := ∃ l c vs, v = .ref l ∧ own = [(l, W.listOf vs.toArray c)] ∧ IntsAre vs ns
theorem c_int2 (w : World) (x : Int) (n : Nat) (t1 t2 : Tok) (hx : 0 ≤ x ∧ x < 2 ^ 48) (hn : 0 < n ∧ n ≤ 10) : Con w 90 42 [.int x t1, .int n t2] (RList (digsOf n x)) := by
  unfold Con
  intro loose mean mg mb dp un gd cn cs a ccd cl outer A₀ base h₀ L m news own T s Q E B F X N Tp C1 C2 hk hS hT hL hd hu hret
  have e := hS.eq
  subst e
  have hbits := bits_le hx.1 hx.2
  obtain ⟨hx0, hx1⟩ := hx
  obtain ⟨hn0, hn1⟩ := hn
  have hd0 : 0 ≤ ((Builtin.Int.intBits x : Int) + n - 1).fdiv n := Int.fdiv_nonneg (by omega) (by omega)
  have hd1 : ((Builtin.Int.intBits x : Int) + n - 1).fdiv n ≤ 60 := by rw [Int.fdiv_eq_ediv_of_nonneg _ (by omega)]; exact Int.le_trans (Int.ediv_le_self _ (by omega)) (by omega)
  refine wpAny_call ?_
  k_dflt (refine' code_defC ?k1 ?k2 ?k3 ?k4 ?k5 ?kA ?kF ?kK ?k6 ?k7 ?k8 ?k9 ?kB ?kD ?_ ?c2 ?c3 ?c4; (case kA => exact rfl); (case kF => exact rfl); (case kK => assumption); (case k1 => k_asm); (case k2 => k_asm); (case k3 => k_asm); (case k4 => k_asm); (case k5 => k_asm); (case k6 => k_is); (case k7 => k_is); (case k8 => first | exact room0 hd | ktr_room); (case k9 => exact BindsTo.of_eq rfl); (case kB => exact rfl); (case kD => decide +kernel); (case c2 => exact rfl); (case c3 => exact rfl); (case c4 => exact rfl); k_whole; intro g' L' h' tk' cells' FG' F' N' Y' B' X' T' l1; k_cells Y'; (try simp only [List.cons_append, List.nil_append] at N'); (try dsimp only); (try k_fold))
  have hU : Under L' (own ++ T) := l1
  have hUo : Under L' own := fun p hp => l1 p (List.mem_append_left _ hp)
  have hLL := hT.lt (allLt_of fun p hp => l1 p (List.mem_append_right _ hp))
  have C2' := C2.keeps FG'.keep
  rename_i oi oa on di da dn
  replace di : oi.data = .cell none := di
  replace dn : on.data = .cell (some (.int (n : Int) t2)) := dn
  replace da : oa.data = .cell none := da
  repeat' (first | with_reducible ((with_reducible show wpAny _ _ (call (Value.builtin "len") _) _ _ _); (k_here; k_dflt (refine' len_led (by k_asm) (by k_mem) (by first | omega | (simp; omega)) ?_))) | with_reducible ((with_reducible show wpAny _ _ (binaryOp .Mult (Value.ref _) (Value.int _ _)) _ _ _); (k_here; k_dflt (refine' mul_one (by k_asm) (by k_asm) (by k_mem) (by omega) (by omega) ?_); intro _ _ _ _ l1; (first | k_lt l1 | replace l1 := allLt_of l1); revert l1; intro _)) | ((with_reducible show wpAny _ _ (exec (Stmt.Assign ..) _) _ _ _); (rename Fr _ _ _ _ => kFz); (dsimp only at kFz); (revert kFz; intro _); walk1) | (k_unfold; (try dsimp only)) | (k_end; wrow_close) | walk1 | (dsimp only; first | with_reducible ((with_reducible show wpAny _ _ (call (Value.builtin "len") _) _ _ _); (k_here; k_dflt (refine' len_led (by k_asm) (by k_mem) (by first | omega | (simp; omega)) ?_))) | with_reducible ((with_reducible show wpAny _ _ (binaryOp .Mult (Value.ref _) (Value.int _ _)) _ _ _); (k_here; k_dflt (refine' mul_one (by k_asm) (by k_asm) (by k_mem) (by omega) (by omega) ?_); intro _ _ _ _ l1; (first | k_lt l1 | replace l1 := allLt_of l1); revert l1; intro _)) | ((with_reducible show wpAny _ _ (exec (Stmt.Assign ..) _) _ _ _); (rename Fr _ _ _ _ => kFz); (dsimp only at kFz); (revert kFz; intro _); walk1) | walk1) | (leave1; walk_say "STEP leave1"; try dsimp only) | fail "no step")
  rename News _ _ _ _ => N1
  rename Fr _ _ _ _ => F1
  rename_i l0 hA lA D hB lB hC oa' da'
  k_dflt (refine' nestDef_K ?d0 ?k0 ?a0 ?_; (case d0 => exact rfl); (case k0 => exact rfl); (case a0 => exact rfl))
  refine nest_37 F1 N1 T' C2' rfl (.cons (.cons (.cons (.cons (.cons .app))))) hT ?_ rfl ?_
  · exact .cons' (by omega) (by omega) (.cons' (by omega) (by omega) (.cons' (by omega) (by omega) (.cons' (by omega) (by omega) (.cons' (by omega) (by omega) hL))))
  intro f c' ctv doc h2 tk2 T2 hT2 hC2 F2 N2 hlt
  simp only [List.cons_append] at N2
  have hoff : ∀ p ∈ own ++ T2, p.1 ≠ L' + 1 + 1 + 1 := off_app (hUo.ne (by omega)) (off_tabs N2 hT2 (fun p hp => .tail _ (.tail _ (.tail _ (.tail _ (.tail _ (.tail _ (List.mem_append_right _ hp))))))) (.tail _ (.tail _ (.tail _ (.head _)))) fun vs e => by rw [di] at e; cases e)
  have hoffD : ∀ p ∈ own ++ T2, p.1 ≠ D := off_app (hUo.ne (by omega)) (off_tabs N2 hT2 (fun p hp => .tail _ (.tail _ (.tail _ (.tail _ (.tail _ (.tail _ (List.mem_append_right _ hp))))))) (.tail _ (.head _)) fun vs e => by cases e)
  k_lt hlt
  (try k_fold)
  repeat' (first | with_reducible ((with_reducible show wpAny _ _ (call (Value.builtin "len") _) _ _ _); (k_here; k_dflt (refine' len_led (by k_asm) (by k_mem) (by first | omega | (simp; omega)) ?_))) | with_reducible ((with_reducible show wpAny _ _ (binaryOp .Mult (Value.ref _) (Value.int _ _)) _ _ _); (k_here; k_dflt (refine' mul_one (by k_asm) (by k_asm) (by k_mem) (by omega) (by omega) ?_); intro _ _ _ _ l1; (first | k_lt l1 | replace l1 := allLt_of l1); revert l1; intro _)) | ((with_reducible show wpAny _ _ (exec (Stmt.Assign ..) _) _ _ _); (rename Fr _ _ _ _ => kFz); (dsimp only at kFz); (revert kFz; intro _); walk1) | (k_unfold; (try dsimp only)) | (k_end; wrow_close) | walk1 | (dsimp only; first | with_reducible ((with_reducible show wpAny _ _ (call (Value.builtin "len") _) _ _ _); (k_here; k_dflt (refine' len_led (by k_asm) (by k_mem) (by first | omega | (simp; omega)) ?_))) | with_reducible ((with_reducible show wpAny _ _ (binaryOp .Mult (Value.ref _) (Value.int _ _)) _ _ _); (k_here; k_dflt (refine' mul_one (by k_asm) (by k_asm) (by k_mem) (by omega) (by omega) ?_); intro _ _ _ _ l1; (first | k_lt l1 | replace l1 := allLt_of l1); revert l1; intro _)) | ((with_reducible show wpAny _ _ (exec (Stmt.Assign ..) _) _ _ _); (rename Fr _ _ _ _ => kFz); (dsimp only at kFz); (revert kFz; intro _); walk1) | walk1) | (leave1; walk_say "STEP leave1"; try dsimp only) | fail "no step")
  · rename News _ _ _ _ => N3
    rename Fr _ _ _ _ => F3
    rename_i h3 oi' di' hx3
    have hxp : 0 < x := by omega
    have IND := inner_all (w := w) (qual := qual1) (l := D) (c' := c') (n := n) N3 (.head _) (.tail _ (.tail _ (.tail _ (.tail _ (.tail _ (.head _)))))) (.tail _ (.tail _ (.tail _ (.tail _ (.head _))))) (.tail _ (.tail _ (.tail _ (.head _))))
      (inner_step1 w n f D (L' + 1) (L' + 1 + 1) (L' + 1 + 1 + 1) c' on oa' oi' _ _ _ t2 dn da' di' hn0 hn1 _ _ _ rfl)
    have hkp := ndig_pos hn0 hxp
    have hkl := ndig_le (x := x) hn0
    have hnd : ndig n x ≤ 60 := by unfold ndig; omega
    refine (IND (ndig n x) hkp (room64 (by assumption) (by assumption) (by assumption))).use (lo := 0) B' F3 X' (news_swap N3) T' rfl (by k_all) (.head _) (.tail _ (.tail _ (.tail _ (.tail _ (.head _))))) (.tail _ (.tail _ (.tail _ (.head _)))) (.tail _ (.tail _ (.head _))) (let ⟨o, vs, t, hm, r⟩ := hC2; ⟨o, vs, t, .tail _ (.tail _ (.tail _ (.tail _ (.tail _ (List.mem_append_right _ hm))))), r⟩) rfl (by simp [ndig]) (by simp [ndig]) (by simp; omega) hx0 (ndig_lt hn0 hx0) (by ktr_room) (by ktr_units) ?_
    intro vs' c1 h4 tk4 W4 F4 N4
    have L4 := W4.len
    repeat' (first | with_reducible ((with_reducible show wpAny _ _ (call (Value.builtin "len") _) _ _ _); (k_here; k_dflt (refine' len_led (by k_asm) (by k_mem) (by first | omega | (simp; omega)) ?_))) | with_reducible ((with_reducible show wpAny _ _ (binaryOp .Mult (Value.ref _) (Value.int _ _)) _ _ _); (k_here; k_dflt (refine' mul_one (by k_asm) (by k_asm) (by k_mem) (by omega) (by omega) ?_); intro _ _ _ _ l1; (first | k_lt l1 | replace l1 := allLt_of l1); revert l1; intro _)) | ((with_reducible show wpAny _ _ (exec (Stmt.Assign ..) _) _ _ _); (rename Fr _ _ _ _ => kFz); (dsimp only at kFz); (revert kFz; intro _); walk1) | (k_unfold; (try dsimp only)) | (k_end; wrow_close) | walk1 | (dsimp only; first | with_reducible ((with_reducible show wpAny _ _ (call (Value.builtin "len") _) _ _ _); (k_here; k_dflt (refine' len_led (by k_asm) (by k_mem) (by first | omega | (simp; omega)) ?_))) | with_reducible ((with_reducible show wpAny _ _ (binaryOp .Mult (Value.ref _) (Value.int _ _)) _ _ _); (k_here; k_dflt (refine' mul_one (by k_asm) (by k_asm) (by k_mem) (by omega) (by omega) ?_); intro _ _ _ _ l1; (first | k_lt l1 | replace l1 := allLt_of l1); revert l1; intro _)) | ((with_reducible show wpAny _ _ (exec (Stmt.Assign ..) _) _ _ _); (rename Fr _ _ _ _ => kFz); (dsimp only at kFz); (revert kFz; intro _); walk1) | walk1) | (leave1; walk_say "STEP leave1"; try dsimp only) | fail "no step")
    all_goals (refine hret _ [(D, W.listOf vs'.toArray c1)] T2 _ _ ⟨D, _, vs', rfl, rfl, digs_of_wrote (by simp [ndig]) W4⟩ hT2 (by k_asm) (News.sub (by k_asm) ?_) ?_)
    · intro p hp
      rcases List.mem_cons.mp hp with rfl | hp
      · exact .head _
      · exact .tail _ (.tail _ (.tail _ (.tail _ (.tail _ (.tail _ hp)))))
    · intro p hp q hq
      rw [List.mem_singleton.mp hp]
      exact ktn_ltOf lB.2.2.2.2 q hq
  · have hx3 : x = 0 := by assumption
    subst hx3
    have hz : ((Builtin.Int.intBits 0 : Int) + n - 1).fdiv n = 0 := by
      have h := ndig_zero hn0
      unfold ndig at h
      omega
    refine hret _ [(D, W.listOf (List.replicate (((Builtin.Int.intBits 0 : Int) + n - 1).fdiv n).toNat (Value.int 0 tk')).toArray 0)] T2 _ _ ⟨D, _, _, rfl, rfl, ?_⟩ hT2 (by k_asm) (News.sub (by k_asm) ?_) ?_
    · rw [hz, digs_zero hn0]; exact .nil
    · intro p hp
      rcases List.mem_cons.mp hp with rfl | hp
      · exact .tail _ (.head _)
      · exact .tail _ (.tail _ (.tail _ (.tail _ (.tail _ (.tail _ hp)))))
    · intro p hp q hq
      rw [List.mem_singleton.mp hp]
      exact ktn_ltOf lB.2.2.2.2 q hq
end Mine
end PartD2

section PartN4
open PySem PySem.W PySem.Spec PySem.Calls PyProof.Rows
set_option maxRecDepth 100000
namespace Mine
theorem anewN4 : True := by
  w_top off
  trivial
/-- the number of these figures, the least first -/
noncomputable def dval (n : Nat) : List Int → Int
  | [] => 0
  | d :: r => d + dval n r * 2 ^ n
theorem dval_append (n : Nat) : ∀ a b : List Int, dval n (a ++ b) = dval n a + dval n b * 2 ^ (n * a.length)
  | [], b => by simp [dval]
  | d :: r, b => by
    rw [List.cons_append, dval, dval, dval_append n r b, List.length_cons, Nat.mul_add, Nat.mul_one, Int.pow_add, Int.add_mul, Int.mul_assoc]
    omega
noncomputable def dseg (n : Nat) (ns : List Int) (lo k : Nat) : Int := dval n ((ns.drop lo).take k)
theorem dseg_split {n : Nat} {ns : List Int} {lo a b : Nat} (h : lo + (a + b) ≤ ns.length) : dseg n ns lo (a + b) = dseg n ns (lo + a) b * 2 ^ (a * n) + dseg n ns lo a := by
  unfold dseg
  have e : (ns.drop lo).take (a + b) = (ns.drop lo).take a ++ (ns.drop (lo + a)).take b := by
    rw [List.take_add, List.drop_drop]
  rw [e, dval_append, List.length_take, List.length_drop, Nat.min_eq_left (by omega), Nat.mul_comm n a]
  omega
theorem dseg_one {n : Nat} {ns : List Int} {lo : Nat} (h : lo < ns.length) : dseg n ns lo 1 = ns.getD lo 0 := by
  unfold dseg
  rw [List.drop_eq_getElem_cons h, List.take_succ_cons, List.take_zero, dval, dval, List.getD_eq_getElem?_getD, List.getElem?_eq_getElem h]
  simp
theorem dval_lt {n : Nat} : ∀ {ns : List Int}, (∀ d ∈ ns, 0 ≤ d ∧ d < 2 ^ n) → 0 ≤ dval n ns ∧ dval n ns < 2 ^ (n * ns.length)
  | [], _ => by simp [dval]
  | d :: r, h => by
    have h1 := h d (.head _)
    have h2 := dval_lt (n := n) (ns := r) fun e he => h e (.tail _ he)
    have hp : (0 : Int) < 2 ^ n := Int.pow_pos (by decide)
    rw [dval, List.length_cons, Nat.mul_add, Nat.mul_one, Int.pow_add]
    have h3 : 0 ≤ dval n r * 2 ^ n := Int.mul_nonneg h2.1 (Int.le_of_lt hp)
    have h4 : (dval n r + 1) * 2 ^ n ≤ 2 ^ (n * r.length) * 2 ^ n := Int.mul_le_mul_of_nonneg_right (by omega) (Int.le_of_lt hp)
    rw [Int.add_mul, Int.one_mul] at h4
    omega
theorem dseg_lt {n : Nat} {ns : List Int} {lo k : Nat} (h : ∀ d ∈ ns, 0 ≤ d ∧ d < 2 ^ n) (hk : lo + k ≤ ns.length) : 0 ≤ dseg n ns lo k ∧ dseg n ns lo k < 2 ^ (n * k) := by
  have h1 := dval_lt (n := n) (ns := (ns.drop lo).take k) fun d hd => h d (List.mem_of_mem_drop (List.mem_of_mem_take hd))
  rw [List.length_take, List.length_drop, Nat.min_eq_left (by omega)] at h1
  exact h1

def InnerD (w : World) (qual : Str) (f l cn ca ci c' : Addr) (fo lo' on oa oi : Obj) (n : Nat) (ns : List Int) (k : Nat) : Prop :=
  ∀ (lo : Nat) (hi : Int) (tl th : Tok) (loose : List Str) (mean : ExcName → Option Value) (mg mb : Str → Option Value) (dp un : Nat) (gd : Option (List Code)) (cn' : Str) (cs : Scope) (a : Addr) (ccd : Value) (cl : List (Str × Addr)) (outer : List Env) (A₀ : Around) (base h₀ : Heap) (L : Addr) (m : Str → Option Value) (news : Led) (s : Shared) (Q E : Value → Shared → Prop),
    Below A₀ base outer h₀ → Fr h₀ L s.heap m → (hd.heap_39 w.params).In h₀ → News h₀ L s.heap news → Top topProg loose mean mg mb h₀ → cs.kind = .function →
    (f, fo) ∈ news → (l, lo') ∈ news → (cn, on) ∈ news → (ca, oa) ∈ news → (ci, oi) ∈ news → CodeAt c' qual news →
    hi = (lo : Int) + (k : Int) → lo + k ≤ ns.length → dp + (k + 2) < recursionLimit → un + 8 * (k + 2) < cLine →
    (∀ t h' tk', Fr h₀ L h' m → News h₀ L h' news → Q (.int (dseg n ns lo k) t) { s with heap := h', toks := tk' }) →
    wpAny (model PP w) (ktrTop dp un gd cn' cs L a ccd cl outer) (call (.ref f) [.int lo tl, .int hi th]) Q E s
theorem innerD_all {w : World} {qual : Str} {f l cn ca ci c' : Addr} {fo lo' on oa oi : Obj} {n : Nat} {ns : List Int} {news : Led} {h₀ h : Heap} {L : Addr} (_N : News h₀ L h news) (_hf : (f, fo) ∈ news) (_hl : (l, lo') ∈ news) (_hn : (cn, on) ∈ news) (_ha : (ca, oa) ∈ news) (_hi : (ci, oi) ∈ news)
    (step : ∀ k, 0 < k → n * k ≤ 64 → (∀ j, 0 < j → j < k → InnerD w qual f l cn ca ci c' fo lo' on oa oi n ns j) → InnerD w qual f l cn ca ci c' fo lo' on oa oi n ns k) :
    ∀ k, 0 < k → n * k ≤ 64 → InnerD w qual f l cn ca ci c' fo lo' on oa oi n ns k := by
  intro k
  induction k using Nat.strongRecOn with
  | _ k ih =>
    intro h0 h1
    exact step k h0 h1 fun j hj hjk => ih j hjk hj (Nat.le_trans (Nat.mul_le_mul_left n (Nat.le_of_lt hjk)) h1)
theorem InnerD.use {w : World} {qual : Str} {f l cn ca ci c' : Addr} {fo lo' on oa oi : Obj} {n k : Nat} {ns : List Int} (hC : InnerD w qual f l cn ca ci c' fo lo' on oa oi n ns k) {lo : Nat} {lo2 hi : Int} {tl th : Tok} {loose : List Str} {mean : ExcName → Option Value} {mg mb : Str → Option Value} {dp un : Nat} {gd : Option (List Code)} {cn' : Str} {cs : Scope} {a : Addr} {ccd : Value} {cl : List (Str × Addr)} {outer : List Env} {A₀ : Around} {base h₀ : Heap} {L : Addr} {m : Str → Option Value} {news : Led} {s : Shared} {Q E : Value → Shared → Prop}
    (B : Below A₀ base outer h₀) (F : Fr h₀ L s.heap m) (X : (hd.heap_39 w.params).In h₀) (N : News h₀ L s.heap news) (T : Top topProg loose mean mg mb h₀) (hk : cs.kind = .function)
    (hf : (f, fo) ∈ news) (hl : (l, lo') ∈ news) (hn : (cn, on) ∈ news) (ha : (ca, oa) ∈ news) (hi' : (ci, oi) ∈ news) (hc : CodeAt c' qual news)
    (hlo : lo2 = (lo : Int)) (hhi : hi = (lo : Int) + (k : Int)) (hlen : lo + k ≤ ns.length) (hd : dp + (k + 2) < recursionLimit) (hu : un + 8 * (k + 2) < cLine)
    (hret : ∀ t h' tk', Fr h₀ L h' m → News h₀ L h' news → Q (.int (dseg n ns lo k) t) { s with heap := h', toks := tk' }) :
    wpAny (model PP w) (ktrTop dp un gd cn' cs L a ccd cl outer) (call (.ref f) [.int lo2 tl, .int hi th]) Q E s := by
  subst hlo
  exact hC _ _ _ _ _ _ _ _ _ _ _ _ _ _ _ _ _ _ _ _ _ _ _ _ _ _ B F X N T hk hf hl hn ha hi' hc hhi hlen hd hu hret

/-- a call that may grow the tables, asks something of one's own, and hands on objects of its own -/
def ConP (w : World) (k : Nat) (f : Addr) (args : List Value) (P : Led → Prop) (R : Value → Led → Prop) : Prop :=
  ∀ (loose : List Str) (mean : ExcName → Option Value) (mg mb : Str → Option Value) (dp un : Nat) (gd : Option (List Code)) (cn : Str) (cs : Scope) (a : Addr) (ccd : Value) (cl : List (Str × Addr)) (outer : List Env) (A₀ : Around) (base h₀ : Heap) (L : Addr) (m : Str → Option Value) (news own T : Led) (s : Shared) (Q E : Value → Shared → Prop),
    Below A₀ base outer h₀ → Fr h₀ L s.heap m → (hd.heap_39 w.params).In h₀ → News h₀ L s.heap news → Top topProg loose mean mg mb h₀ → CodeHd h₀ 48 44 → CodeHd h₀ 41 37 → cs.kind = .function → Split news own T → Tabs T → Low own → P own → dp + k < recursionLimit → un + 8 * k < cLine →
    (∀ v own' T' h' tk', R v own' → Tabs T' → Fr h₀ L h' m → News h₀ L h' (own' ++ (own ++ T')) → (∀ p ∈ own', ∀ q ∈ news, q.1 < p.1) → Q v { s with heap := h', toks := tk' }) →
    wpAny (model PP w) (ktrTop dp un gd cn cs L a ccd cl outer) (call (.ref f) args) Q E s
theorem ConP.use {w : World} {k : Nat} {f : Addr} {args : List Value} {P : Led → Prop} {R : Value → Led → Prop} (hC : ConP w k f args P R)
    {loose : List Str} {mean : ExcName → Option Value} {mg mb : Str → Option Value} {dp un : Nat} {gd : Option (List Code)} {cn : Str} {cs : Scope} {a : Addr} {ccd : Value} {cl : List (Str × Addr)} {outer : List Env} {A₀ : Around} {base h₀ : Heap} {L : Addr} {m : Str → Option Value} {news own T : Led} {s : Shared} {Q E : Value → Shared → Prop}
    (B : Below A₀ base outer h₀) (F : Fr h₀ L s.heap m) (X : (hd.heap_39 w.params).In h₀) (N : News h₀ L s.heap news) (Tp : Top topProg loose mean mg mb h₀) (C1 : CodeHd h₀ 48 44) (C2 : CodeHd h₀ 41 37) (hk : cs.kind = .function)
    (hS : Split news own T) (hT : Tabs T) (hL : Low own) (hP : P own) (hd : dp + k < recursionLimit) (hu : un + 8 * k < cLine)
    (hret : ∀ v own' T' h' tk', R v own' → Tabs T' → Fr h₀ L h' m → News h₀ L h' (own' ++ (own ++ T')) → (∀ p ∈ own', ∀ q ∈ news, q.1 < p.1) → Q v { s with heap := h', toks := tk' }) :
    wpAny (model PP w) (ktrTop dp un gd cn cs L a ccd cl outer) (call (.ref f) args) Q E s :=
  hC _ _ _ _ _ _ _ _ _ _ _ _ _ _ _ _ _ _ _ _ _ _ _ _ B F X N Tp C1 C2 hk hS hT hL hP hd hu hret
theorem truthy_led {prog : Program} {w : World} {A : Around} {E : Value → Shared → Prop} {s : Shared} {h₀ : Heap} {L l : Addr} {news : Led} {vs : List Value} {c : Nat} {b : Bool} {Q : Bool → Shared → Prop} (N : News h₀ L s.heap news) (hm : (l, W.listOf vs.toArray c) ∈ news) (hk : vs.length ≤ 4096)
    (hb : (!vs.isEmpty) = b) (h : Q b { s with toks := s.toks + 1 + 1 }) : wpAny (model prog w) A (truthy (.ref l)) Q E s := by
  refine kgr_truthy N hm rfl rfl (by omega) ?_
  rw [hb]; exact h
theorem append_led {prog : Program} {w : World} {A : Around} {E : Value → Shared → Prop} {s : Shared} {h₀ : Heap} {L l : Addr} {m : Str → Option Value} {news news' : Led} {vs : List Value} {c : Nat} {v : Value} {Q : Value → Shared → Prop} (F : Fr h₀ L s.heap m) (N : News h₀ L s.heap news) (U : Upd l (W.listOf vs.toArray c) (W.listOf (vs ++ [v]).toArray (c + 1)) news news')
    (hl : vs.length ≤ 4096) (h : ∀ h', Fr h₀ L h' m → News h₀ L h' news' → Q .none { s with heap := h' }) : wpAny (model prog w) A (call (.builtin "list.append") [.ref l, v]) Q E s := by
  have e : (vs ++ [v]).toArray = vs.toArray.push v := by simp
  rw [e] at U
  exact append_K F N U h (by simp [sizeLine]; omega)
theorem reverse_led {prog : Program} {w : World} {A : Around} {E : Value → Shared → Prop} {s : Shared} {h₀ : Heap} {L l : Addr} {m : Str → Option Value} {rest : Led} {vs : List Value} {c : Nat} {Q : Value → Shared → Prop} (F : Fr h₀ L s.heap m) (N : News h₀ L s.heap ((l, W.listOf vs.toArray c) :: rest)) (hr : ∀ p ∈ rest, p.1 ≠ l)
    (hl : vs.length ≤ 4096) (h : ∀ h', Fr h₀ L h' m → News h₀ L h' ((l, W.listOf vs.reverse.toArray c) :: rest) → Q .none { s with heap := h' }) : wpAny (model prog w) A (call (.builtin "list.reverse") [.ref l]) Q E s :=
  kl_reverse F N (l := vs.reverse) (by simp) (.head hr) (by simp [sizeLine]; omega) h
theorem Tabs.ltR {T own : Led} (h : Tabs T) {d : Nat} (hd : AllLt d (own ++ T)) : 37 < d ∧ 44 < d := h.lt (allLt_of fun p hp => ktn_ltOf hd p (List.mem_append_right _ hp))
theorem tup_news {h₀ h : Heap} {L : Addr} {p : Addr × Obj} {A : Led} (own T : Led) (N : News h₀ L h (p :: A)) (hs : ∀ q ∈ own ++ T, q ∈ A) : News h₀ L h ([p] ++ (own ++ T)) := fun q hq => by
  rcases List.mem_cons.mp hq with rfl | hq
  · exact N _ (.head _)
  · exact N q (.tail _ (hs q hq))
end Mine
end PartN4

section PartI2
open PySem PySem.W PySem.Spec PySem.Calls PyProof.Rows
set_option maxRecDepth 100000
set_option maxHeartbeats 1000000
namespace Mine
theorem anewI2 : True := by
  w_top off
  trivial
theorem inner_step2 (w : World) (n : Nat) (ns : List Int) (vs : List Value) (c : Nat) (f D cn ca ci c' : Addr) (on oa oi : Obj) (doc pm ctv : Value) (tn : Tok) (dn : on.data = .cell (some (.int (n : Int) tn))) (da : oa.data = .cell (some (.ref D))) (di : oi.data = .cell (some (.ref f))) (hns : IntsAre vs ns) (hnd : ∀ d ∈ ns, 0 ≤ d ∧ d < 2 ^ n) (hln : ns.length ≤ 4096) :
    ∀ params body scope, inner2 = .FunctionDef (Str.ofString "inner") params body [] none [] scope none (Str.ofString "inner") pos2 → ∀ k, 0 < k → n * k ≤ 64 →
      (∀ j, 0 < j → j < k → InnerD w qual2 f D cn ca ci c' (fnMade (Str.ofString "inner") qual2 params body scope [(Str.ofString "n", cn), (Str.ofString "inner", ci), (Str.ofString "digits", ca)] doc pm c' ctv) (W.listOf vs.toArray c) on oa oi n ns j) →
      InnerD w qual2 f D cn ca ci c' (fnMade (Str.ofString "inner") qual2 params body scope [(Str.ofString "n", cn), (Str.ofString "inner", ci), (Str.ofString "digits", ca)] doc pm c' ctv) (W.listOf vs.toArray c) on oa oi n ns k := by
  intro params body scope h
  cases h
  intro k hk0 hk1 IH
  unfold InnerD
  intro lo hi tl th loose mean mg mb dp un gd cn' cs a ccd cl outer A₀ base h₀ L m news s Q E B F X N T hk hf hl hn ha hi' hc hhi hlen hd hu hret
  subst hhi
  have hc2 := hc
  obtain ⟨oc, cvs, tc, hcm, hcd, hcv⟩ := hc2
  refine wpAny_call ?_
  k_dflt (refine' code_nest ?k1 ?k2 ?k3 ?k4 ?k5 ?kA ?kF ?kK ?k6 ?k7 ?k8 ?k9 ?kB ?_ ?c2 ?c3 ?c4 ?c5; (case kA => exact rfl); (case kF => exact rfl); (case kK => assumption); (case k1 => k_asm); (case k2 => k_asm); (case k3 => k_asm); (case k4 => exact N); (case k5 => k_asm); (case k6 => exact hf); (case k7 => exact codeRec_news N hcm hcd hcv); (case k8 => first | exact room0 hd | ktr_room); (case k9 => exact BindsTo.of_eq rfl); (case c5 => decide); (case kB => exact locs rfl); (case c2 => exact rfl); (case c3 => exact rfl); (case c4 => exact rfl); k_whole; intro g' L' h' FG' F' N' B' X' T'; (try dsimp only); (try k_fold))
  clear N F
  have hsh := half_sh lo k n
  have hkn : k / 2 * n ≤ 64 := Nat.le_trans (Nat.mul_le_mul_right n (Nat.div_le_self k 2)) (by rw [Nat.mul_comm]; exact hk1)
  have hsg := dseg_lt (n := n) (ns := ns) (lo := lo + k / 2) (k := k - k / 2) hnd (half_le2 hlen)
  have hup : (dseg n ns (lo + k / 2) (k - k / 2)).natAbs < 2 ^ 64 := small64 hsg.1 hsg.2 (Nat.le_trans (Nat.mul_le_mul_left n (Nat.sub_le _ _)) hk1)
  clear hsg
  repeat' (first | with_reducible ((with_reducible show wpAny _ _ (callWith _ (Value.ref _) _ _ _) _ _ _); (k_here; k_dflt (refine' callWith_F (by exact FnAt.of (by k_asm) (by k_mem)) ?_; k_whole))) | with_reducible ((with_reducible show wpAny _ _ (binaryOp .LShift (Value.int _ _) (Value.int _ _)) _ _ _); (k_here; (refine' shl_nat (by assumption) (by omega) (by assumption) ?_))) | with_reducible ((with_reducible show wpAny _ _ (binaryOp .RShift (Value.int _ _) (Value.int _ _)) _ _ _); (k_here; first | refine shr_one ?_ | (refine' shr_nat (by assumption) ?_))) | with_reducible ((with_reducible show wpAny _ _ (eval (PySem.Expr.Name ..) _) _ _ _); (k_here; k_dflt (refine' (fun a b N c m d k => nameX_F N c m d k a b) (by rfl) (by rfl) (by k_asm) (by rfl) (by k_mem) (by k_asm) ?_; k_whole))) | ((with_reducible show wpAny _ _ (exec (Stmt.Assign ..) _) _ _ _); (rename Fr _ _ _ _ => kFz); (dsimp only at kFz); (revert kFz; intro _); walk1) | (k_unfold; (try dsimp only)) | (k_end; wrow_close) | walk1 | (dsimp only; first | with_reducible ((with_reducible show wpAny _ _ (callWith _ (Value.ref _) _ _ _) _ _ _); (k_here; k_dflt (refine' callWith_F (by exact FnAt.of (by k_asm) (by k_mem)) ?_; k_whole))) | with_reducible ((with_reducible show wpAny _ _ (binaryOp .LShift (Value.int _ _) (Value.int _ _)) _ _ _); (k_here; (refine' shl_nat (by assumption) (by omega) (by assumption) ?_))) | with_reducible ((with_reducible show wpAny _ _ (binaryOp .RShift (Value.int _ _) (Value.int _ _)) _ _ _); (k_here; first | refine shr_one ?_ | (refine' shr_nat (by assumption) ?_))) | with_reducible ((with_reducible show wpAny _ _ (eval (PySem.Expr.Name ..) _) _ _ _); (k_here; k_dflt (refine' (fun a b N c m d k => nameX_F N c m d k a b) (by rfl) (by rfl) (by k_asm) (by rfl) (by k_mem) (by k_asm) ?_; k_whole))) | ((with_reducible show wpAny _ _ (exec (Stmt.Assign ..) _) _ _ _); (rename Fr _ _ _ _ => kFz); (dsimp only at kFz); (revert kFz; intro _); walk1) | walk1) | (leave1; walk_say "STEP leave1"; try dsimp only) | fail "no step")
  · have hk2 : k = 1 := by omega
    refine cb_retI hret ?_ (by k_asm) (by k_asm)
    rw [hk2, dseg_one (by omega)]; simp
  · have hk2 : 2 ≤ k := by omega
    have IH1 := IH (k / 2) (Nat.div_pos hk2 (by decide)) (Nat.div_lt_self hk0 (by decide))
    have IH2 := IH (k - k / 2) (Nat.sub_pos_of_lt (Nat.div_lt_self hk0 (by decide))) (Nat.sub_lt hk0 (Nat.div_pos hk2 (by decide)))
    clear IH
    refine IH2.use (by k_asm) (by k_asm) (by k_asm) (by k_asm) (by k_asm) rfl hf hl hn ha hi' hc (half_mid lo k) (half_hi lo k) (half_le2 hlen) (by first | exact room1 hd (half_le' hk2) | ktr_room) (by first | exact units1 hu (half_le' hk2) | ktr_units) ?_
    intro t1 h1 tk1 F1 N1
    repeat' (first | with_reducible ((with_reducible show wpAny _ _ (callWith _ (Value.ref _) _ _ _) _ _ _); (k_here; k_dflt (refine' callWith_F (by exact FnAt.of (by k_asm) (by k_mem)) ?_; k_whole))) | with_reducible ((with_reducible show wpAny _ _ (binaryOp .LShift (Value.int _ _) (Value.int _ _)) _ _ _); (k_here; (refine' shl_nat (by assumption) (by omega) (by assumption) ?_))) | with_reducible ((with_reducible show wpAny _ _ (binaryOp .RShift (Value.int _ _) (Value.int _ _)) _ _ _); (k_here; first | refine shr_one ?_ | (refine' shr_nat (by assumption) ?_))) | with_reducible ((with_reducible show wpAny _ _ (eval (PySem.Expr.Name ..) _) _ _ _); (k_here; k_dflt (refine' (fun a b N c m d k => nameX_F N c m d k a b) (by rfl) (by rfl) (by k_asm) (by rfl) (by k_mem) (by k_asm) ?_; k_whole))) | ((with_reducible show wpAny _ _ (exec (Stmt.Assign ..) _) _ _ _); (rename Fr _ _ _ _ => kFz); (dsimp only at kFz); (revert kFz; intro _); walk1) | (k_unfold; (try dsimp only)) | (k_end; wrow_close) | walk1 | (dsimp only; first | with_reducible ((with_reducible show wpAny _ _ (callWith _ (Value.ref _) _ _ _) _ _ _); (k_here; k_dflt (refine' callWith_F (by exact FnAt.of (by k_asm) (by k_mem)) ?_; k_whole))) | with_reducible ((with_reducible show wpAny _ _ (binaryOp .LShift (Value.int _ _) (Value.int _ _)) _ _ _); (k_here; (refine' shl_nat (by assumption) (by omega) (by assumption) ?_))) | with_reducible ((with_reducible show wpAny _ _ (binaryOp .RShift (Value.int _ _) (Value.int _ _)) _ _ _); (k_here; first | refine shr_one ?_ | (refine' shr_nat (by assumption) ?_))) | with_reducible ((with_reducible show wpAny _ _ (eval (PySem.Expr.Name ..) _) _ _ _); (k_here; k_dflt (refine' (fun a b N c m d k => nameX_F N c m d k a b) (by rfl) (by rfl) (by k_asm) (by rfl) (by k_mem) (by k_asm) ?_; k_whole))) | ((with_reducible show wpAny _ _ (exec (Stmt.Assign ..) _) _ _ _); (rename Fr _ _ _ _ => kFz); (dsimp only at kFz); (revert kFz; intro _); walk1) | walk1) | (leave1; walk_say "STEP leave1"; try dsimp only) | fail "no step")
    refine IH1.use (by k_asm) (by k_asm) (by k_asm) (by k_asm) (by k_asm) rfl hf hl hn ha hi' hc rfl (half_mid' lo k) (half_le1 hlen) (by first | exact room1 hd (half_le hk2) | ktr_room) (by first | exact units1 hu (half_le hk2) | ktr_units) ?_
    intro t2 h2 tk2 F2 N2
    repeat' (first | with_reducible ((with_reducible show wpAny _ _ (callWith _ (Value.ref _) _ _ _) _ _ _); (k_here; k_dflt (refine' callWith_F (by exact FnAt.of (by k_asm) (by k_mem)) ?_; k_whole))) | with_reducible ((with_reducible show wpAny _ _ (binaryOp .LShift (Value.int _ _) (Value.int _ _)) _ _ _); (k_here; (refine' shl_nat (by assumption) (by omega) (by assumption) ?_))) | with_reducible ((with_reducible show wpAny _ _ (binaryOp .RShift (Value.int _ _) (Value.int _ _)) _ _ _); (k_here; first | refine shr_one ?_ | (refine' shr_nat (by assumption) ?_))) | with_reducible ((with_reducible show wpAny _ _ (eval (PySem.Expr.Name ..) _) _ _ _); (k_here; k_dflt (refine' (fun a b N c m d k => nameX_F N c m d k a b) (by rfl) (by rfl) (by k_asm) (by rfl) (by k_mem) (by k_asm) ?_; k_whole))) | ((with_reducible show wpAny _ _ (exec (Stmt.Assign ..) _) _ _ _); (rename Fr _ _ _ _ => kFz); (dsimp only at kFz); (revert kFz; intro _); walk1) | (k_unfold; (try dsimp only)) | (k_end; wrow_close) | walk1 | (dsimp only; first | with_reducible ((with_reducible show wpAny _ _ (callWith _ (Value.ref _) _ _ _) _ _ _); (k_here; k_dflt (refine' callWith_F (by exact FnAt.of (by k_asm) (by k_mem)) ?_; k_whole))) | with_reducible ((with_reducible show wpAny _ _ (binaryOp .LShift (Value.int _ _) (Value.int _ _)) _ _ _); (k_here; (refine' shl_nat (by assumption) (by omega) (by assumption) ?_))) | with_reducible ((with_reducible show wpAny _ _ (binaryOp .RShift (Value.int _ _) (Value.int _ _)) _ _ _); (k_here; first | refine shr_one ?_ | (refine' shr_nat (by assumption) ?_))) | with_reducible ((with_reducible show wpAny _ _ (eval (PySem.Expr.Name ..) _) _ _ _); (k_here; k_dflt (refine' (fun a b N c m d k => nameX_F N c m d k a b) (by rfl) (by rfl) (by k_asm) (by rfl) (by k_mem) (by k_asm) ?_; k_whole))) | ((with_reducible show wpAny _ _ (exec (Stmt.Assign ..) _) _ _ _); (rename Fr _ _ _ _ => kFz); (dsimp only at kFz); (revert kFz; intro _); walk1) | walk1) | (leave1; walk_say "STEP leave1"; try dsimp only) | fail "no step")
    refine cb_retI hret ?_ (by k_asm) (by k_asm)
    rw [← dseg_split (by rw [half_add]; exact hlen), half_add k]
end Mine
end PartI2

section PartD3
open PySem PySem.W PySem.Spec PySem.Calls PyProof.Rows
set_option maxRecDepth 100000
set_option maxHeartbeats 2000000
namespace Mine
theorem anewD3 : True := by
  w_top off
  trivial
theorem c_d2int (w : World) (l : Addr) (c : Nat) (vs : List Value) (ns : List Int) (n : Nat) (tn : Tok) (hns : IntsAre vs ns) (hnd : ∀ d ∈ ns, 0 ≤ d ∧ d < 2 ^ n) (hln : n * ns.length ≤ 64) (hn0 : 0 < n) :
    ConP w 90 49 [.ref l, .int n tn] (fun own => (l, W.listOf vs.toArray c) ∈ own) (fun v own' => ∃ t, v = .int (dval n ns) t ∧ own' = []) := by
  unfold ConP
  intro loose mean mg mb dp un gd cn cs a ccd cl outer A₀ base h₀ L m news own T s Q E B F X N Tp C1 C2 hk hS hT hL hP hd hu hret
  have e := hS.eq
  subst e
  have hlen : ns.length ≤ 64 := Nat.le_trans (Nat.le_mul_of_pos_left _ hn0) hln
  have hvl : vs.length ≤ 4096 := by rw [hns.length]; omega
  refine wpAny_call ?_
  k_dflt (refine' code_defC ?k1 ?k2 ?k3 ?k4 ?k5 ?kA ?kF ?kK ?k6 ?k7 ?k8 ?k9 ?kB ?kD ?_ ?c2 ?c3 ?c4; (case kA => exact rfl); (case kF => exact rfl); (case kK => assumption); (case k1 => k_asm); (case k2 => k_asm); (case k3 => k_asm); (case k4 => k_asm); (case k5 => k_asm); (case k6 => k_is); (case k7 => k_is); (case k8 => first | exact room0 hd | ktr_room); (case k9 => exact BindsTo.of_eq rfl); (case kB => exact rfl); (case kD => decide +kernel); (case c2 => exact rfl); (case c3 => exact rfl); (case c4 => exact rfl); k_whole; intro g' L' h' tk' cells' FG' F' N' Y' B' X' T' l1; k_cells Y'; (try simp only [List.cons_append, List.nil_append] at N'); (try dsimp only); (try k_fold))
  have hU : Under L' (own ++ T) := l1
  have hUo : Under L' own := fun p hp => l1 p (List.mem_append_left _ hp)
  have hLL := hT.lt (allLt_of fun p hp => l1 p (List.mem_append_right _ hp))
  have C1' := C1.keeps FG'.keep
  rename_i oi on oa di dn da
  replace di : oi.data = .cell none := di
  replace dn : on.data = .cell (some (.int (n : Int) tn)) := dn
  replace da : oa.data = .cell (some (.ref l)) := da
  have hPl : l < L' := hUo _ hP
  have hPT : (l, W.listOf vs.toArray c) ∈ own ++ T := List.mem_append_left _ hP
  have hPT2 : ∀ T2 : Led, (l, W.listOf vs.toArray c) ∈ own ++ T2 := fun T2 => List.mem_append_left _ hP
  repeat' (first | with_reducible ((with_reducible show wpAny _ _ (truthy (Value.ref _)) _ _ _); (k_here; k_dflt (refine' truthy_led (by k_asm) (by k_mem) (by assumption) (by assumption) ?_))) | with_reducible ((with_reducible show wpAny _ _ (call (Value.builtin "len") _) _ _ _); (k_here; k_dflt (refine' len_led (by k_asm) (by k_mem) (by first | assumption | omega | (simp; omega)) ?_))) | (k_unfold; (try dsimp only)) | (k_end; wrow_close) | walk1 | (dsimp only; first | with_reducible ((with_reducible show wpAny _ _ (truthy (Value.ref _)) _ _ _); (k_here; k_dflt (refine' truthy_led (by k_asm) (by k_mem) (by assumption) (by assumption) ?_))) | with_reducible ((with_reducible show wpAny _ _ (call (Value.builtin "len") _) _ _ _); (k_here; k_dflt (refine' len_led (by k_asm) (by k_mem) (by first | assumption | omega | (simp; omega)) ?_))) | walk1) | (leave1; walk_say "STEP leave1"; try dsimp only) | fail "no step")
  rename News _ _ _ _ => N1
  rename Fr _ _ _ _ => F1
  k_dflt (refine' nestDef_K ?d0 ?k0 ?a0 ?_; (case d0 => exact rfl); (case k0 => exact rfl); (case a0 => exact rfl))
  refine nest_44 F1 N1 T' C1' rfl (.cons (.cons (.cons .app))) hT ?_ rfl ?_
  · exact .cons' (by omega) (by omega) (.cons' (by omega) (by omega) (.cons' (by omega) (by omega) hL))
  intro f c' ctv doc h2 tk2 T2 hT2 hC2 F2 N2 hlt
  simp only [List.cons_append] at N2
  have hoff : ∀ p ∈ own ++ T2, p.1 ≠ L' + 1 + 1 + 1 := off_app (hUo.ne (by omega)) (off_tabs N2 hT2 (fun p hp => .tail _ (.tail _ (.tail _ (.tail _ (List.mem_append_right _ hp))))) (.tail _ (.head _)) fun vs e => by rw [di] at e; cases e)
  have hP2 := hPT2 T2
  k_lt hlt
  (try k_fold)
  have fin : ∀ (v : Value) (h' : Heap) (tk : Nat) (fo oi' : Obj) , (∃ t, v = .int (dval n ns) t) → Fr h₀ L h' m → News h₀ L h' ((f, fo) :: (L' + 1 + 1 + 1, oi') :: (L' + 1 + 1, on) :: (L' + 1, oa) :: (own ++ T2)) → Q v { s with heap := h', toks := tk } := by
    rintro v h' tk fo oi' hv F9 N9
    obtain ⟨t, rfl⟩ := hv
    exact hret _ [] T2 _ _ ⟨t, rfl, rfl⟩ hT2 F9 (News.sub N9 fun p hp => .tail _ (.tail _ (.tail _ (.tail _ hp)))) (fun _ hp => nomatch hp)
  clear hret
  cases hvs : vs with
  | nil =>
    have hbe : (!vs.isEmpty) = false := by rw [hvs]; rfl
    have hnil : ns = [] := by
      have := hns.length
      rw [hvs] at this
      exact List.eq_nil_of_length_eq_zero this.symm
    repeat' (first | with_reducible ((with_reducible show wpAny _ _ (truthy (Value.ref _)) _ _ _); (k_here; k_dflt (refine' truthy_led (by k_asm) (by k_mem) (by assumption) (by assumption) ?_))) | with_reducible ((with_reducible show wpAny _ _ (call (Value.builtin "len") _) _ _ _); (k_here; k_dflt (refine' len_led (by k_asm) (by k_mem) (by first | assumption | omega | (simp; omega)) ?_))) | (k_unfold; (try dsimp only)) | (k_end; wrow_close) | walk1 | (dsimp only; first | with_reducible ((with_reducible show wpAny _ _ (truthy (Value.ref _)) _ _ _); (k_here; k_dflt (refine' truthy_led (by k_asm) (by k_mem) (by assumption) (by assumption) ?_))) | with_reducible ((with_reducible show wpAny _ _ (call (Value.builtin "len") _) _ _ _); (k_here; k_dflt (refine' len_led (by k_asm) (by k_mem) (by first | assumption | omega | (simp; omega)) ?_))) | walk1) | (leave1; walk_say "STEP leave1"; try dsimp only) | fail "no step")
    refine fin _ _ _ _ _ ?_ (by k_asm) (by k_asm)
    exact ⟨_, by rw [hnil]; rfl⟩
  | cons v0 r0 =>
    have hbe : (!vs.isEmpty) = true := by rw [hvs]; rfl
    have hpos : 0 < ns.length := by
      have := hns.length
      rw [hvs] at this
      rw [← this]; exact Nat.succ_pos _
    repeat' (first | with_reducible ((with_reducible show wpAny _ _ (truthy (Value.ref _)) _ _ _); (k_here; k_dflt (refine' truthy_led (by k_asm) (by k_mem) (by assumption) (by assumption) ?_))) | with_reducible ((with_reducible show wpAny _ _ (call (Value.builtin "len") _) _ _ _); (k_here; k_dflt (refine' len_led (by k_asm) (by k_mem) (by first | assumption | omega | (simp; omega)) ?_))) | (k_unfold; (try dsimp only)) | (k_end; wrow_close) | walk1 | (dsimp only; first | with_reducible ((with_reducible show wpAny _ _ (truthy (Value.ref _)) _ _ _); (k_here; k_dflt (refine' truthy_led (by k_asm) (by k_mem) (by assumption) (by assumption) ?_))) | with_reducible ((with_reducible show wpAny _ _ (call (Value.builtin "len") _) _ _ _); (k_here; k_dflt (refine' len_led (by k_asm) (by k_mem) (by first | assumption | omega | (simp; omega)) ?_))) | walk1) | (leave1; walk_say "STEP leave1"; try dsimp only) | fail "no step")
    rename News _ _ _ _ => N3
    rename Fr _ _ _ _ => F3
    rename_i h3 oi' di'
    have IND := innerD_all (w := w) (qual := qual2) (l := l) (c' := c') (n := n) (ns := ns) N3 (.head _) (.tail _ (.tail _ (.tail _ (.tail _ hP2)))) (.tail _ (.tail _ (.head _))) (.tail _ (.tail _ (.tail _ (.head _)))) (.tail _ (.head _))
      (inner_step2 w n ns vs c f l (L' + 1 + 1) (L' + 1) (L' + 1 + 1 + 1) c' on oa oi' _ _ _ tn dn da di' hns hnd (by omega) _ _ _ rfl)
    refine (IND ns.length hpos hln).use (lo := 0) B' F3 X' N3 T' rfl (.head _) (.tail _ (.tail _ (.tail _ (.tail _ hP2)))) (.tail _ (.tail _ (.head _))) (.tail _ (.tail _ (.tail _ (.head _)))) (.tail _ (.head _)) (let ⟨o, vs, t, hm, r⟩ := hC2; ⟨o, vs, t, .tail _ (.tail _ (.tail _ (.tail _ (List.mem_append_right _ hm)))), r⟩) rfl (by rw [hns.length]; simp) (by omega) (by ktr_room) (by ktr_units) ?_
    intro t4 h4 tk4 F4 N4
    repeat' (first | with_reducible ((with_reducible show wpAny _ _ (truthy (Value.ref _)) _ _ _); (k_here; k_dflt (refine' truthy_led (by k_asm) (by k_mem) (by assumption) (by assumption) ?_))) | with_reducible ((with_reducible show wpAny _ _ (call (Value.builtin "len") _) _ _ _); (k_here; k_dflt (refine' len_led (by k_asm) (by k_mem) (by first | assumption | omega | (simp; omega)) ?_))) | (k_unfold; (try dsimp only)) | (k_end; wrow_close) | walk1 | (dsimp only; first | with_reducible ((with_reducible show wpAny _ _ (truthy (Value.ref _)) _ _ _); (k_here; k_dflt (refine' truthy_led (by k_asm) (by k_mem) (by assumption) (by assumption) ?_))) | with_reducible ((with_reducible show wpAny _ _ (call (Value.builtin "len") _) _ _ _); (k_here; k_dflt (refine' len_led (by k_asm) (by k_mem) (by first | assumption | omega | (simp; omega)) ?_))) | walk1) | (leave1; walk_say "STEP leave1"; try dsimp only) | fail "no step")
    refine fin _ _ _ _ _ ?_ (by k_asm) (by k_asm)
    exact ⟨_, by unfold dseg; rw [List.drop_zero, List.take_length]⟩
end Mine
end PartD3

section PartP4
open PySem PySem.W PySem.Spec PySem.Calls PyProof.Rows
namespace Mine
theorem anewP4 : True := by
  w_top off
  trivial
theorem dval_range (n x : Nat) : ∀ d : Nat, dval n ((List.range d).map fun i => (x : Int) / 2 ^ (n * i) % 2 ^ n) = ((x % 2 ^ (n * d) : Nat) : Int)
  | 0 => by simp [dval, Nat.mod_one]
  | d + 1 => by
    rw [List.range_succ, List.map_append, dval_append, dval_range n x d]
    simp only [List.map_cons, List.map_nil, dval, List.length_map, List.length_range, Int.zero_mul, Int.add_zero]
    have h : x % 2 ^ (n * (d + 1)) = x % 2 ^ (n * d) + 2 ^ (n * d) * (x / 2 ^ (n * d) % 2 ^ n) := by
      rw [Nat.mul_add, Nat.mul_one, Nat.pow_add, Nat.mod_mul]
    rw [h]
    push_cast
    rw [Int.mul_comm ((x : Int) / 2 ^ (n * d) % 2 ^ n)]
theorem dval_digs {n : Nat} {x : Int} (hn : 0 < n) (h0 : 0 ≤ x) : dval n (digsOf n x) = x := by
  have hlt := ndig_lt hn h0
  obtain ⟨y, rfl⟩ := Int.eq_ofNat_of_zero_le h0
  unfold digsOf
  rw [dval_range]
  have h2 : y < 2 ^ (n * ndig n (y : Int)) := by
    have : (y : Int) < ((2 ^ (n * ndig n (y : Int)) : Nat) : Int) := by push_cast; exact hlt
    exact Int.ofNat_lt.mp this
  rw [Nat.mod_eq_of_lt h2]
theorem digs_len {n : Nat} {x : Int} : (digsOf n x).length = ndig n x := by simp [digsOf]
theorem digs_lt {n : Nat} {x : Int} : ∀ d ∈ digsOf n x, 0 ≤ d ∧ d < 2 ^ n := by
  intro d hd
  obtain ⟨i, _, rfl⟩ := List.mem_map.mp hd
  have h : (0 : Int) < 2 ^ n := Int.pow_pos (by decide)
  exact ⟨Int.emod_nonneg _ (Int.ne_of_gt h), Int.emod_lt_of_pos _ h⟩

/-- the division by school: the first i figures are done -/
def QI (n : Nat) (b : Int) (ds : List Int) (i : Nat) (rv : Int) (vsq : List Value) : Prop :=
  ∃ qs : List Int, IntsAre vsq qs ∧ qs.length = i ∧ (∀ q ∈ qs, 0 ≤ q ∧ q < 2 ^ n) ∧ rv = dval n (ds.drop (ds.length - i)) % b ∧ dval n qs.reverse = dval n (ds.drop (ds.length - i)) / b
theorem QI.zero {n : Nat} {b : Int} {ds : List Int} : QI n b ds 0 0 [] := by
  refine ⟨[], .nil, rfl, fun q h => (List.not_mem_nil h).elim, ?_, ?_⟩
  · rw [Nat.sub_zero, List.drop_length]; simp [dval]
  · rw [Nat.sub_zero, List.drop_length]; simp [dval]
theorem intsAre_snoc {vs : List Value} {ns : List Int} (h : IntsAre vs ns) (x : Int) (t : Tok) : IntsAre (vs ++ [.int x t]) (ns ++ [x]) := by
  induction h with
  | nil => exact .cons x t .nil
  | cons i u _ ih => exact .cons i u ih
theorem intsAre_rev {vs : List Value} {ns : List Int} (h : IntsAre vs ns) : IntsAre vs.reverse ns.reverse := by
  induction h with
  | nil => exact .nil
  | cons i u _ ih => rw [List.reverse_cons, List.reverse_cons]; exact intsAre_snoc ih i u
theorem QI.bound {n : Nat} {b : Int} {ds : List Int} {i : Nat} {rv : Int} {vsq : List Value} (h : QI n b ds i rv vsq) (hb : 0 < b) : 0 ≤ rv ∧ rv < b := by
  obtain ⟨qs, _, _, _, h1, _⟩ := h
  rw [h1]
  exact ⟨Int.emod_nonneg _ (Int.ne_of_gt hb), Int.emod_lt_of_pos _ hb⟩
theorem QI.step {n : Nat} {b : Int} {ds : List Int} {i : Nat} {rv d : Int} {vsq : List Value} {t : Tok} (h : QI n b ds i rv vsq) (hb : 0 < b) (hd : 0 ≤ d ∧ d < 2 ^ n) (hi : i < ds.length) (hx : ds[ds.length - 1 - i]? = some d) :
    QI n b ds (i + 1) ((rv * 2 ^ n + d) % b) (vsq ++ [.int ((rv * 2 ^ n + d) / b) t]) := by
  have hbd := h.bound hb
  obtain ⟨qs, h1, h2, h3, h4, h5⟩ := h
  have hp : (0 : Int) < 2 ^ n := Int.pow_pos (by decide)
  have hdrop : ds.drop (ds.length - (i + 1)) = d :: ds.drop (ds.length - i) := by
    have e : ds.length - (i + 1) = ds.length - 1 - i := by rw [Nat.add_comm, Nat.sub_add_eq]
    have hl : ds.length - 1 - i < ds.length := Nat.lt_of_le_of_lt (Nat.sub_le _ _) (Nat.sub_lt (Nat.lt_of_le_of_lt (Nat.zero_le _) hi) (by decide))
    rw [e, List.drop_eq_getElem_cons hl]
    have e2 : ds[ds.length - 1 - i]'hl = d := by
      rw [List.getElem?_eq_getElem hl] at hx; exact Option.some.inj hx
    rw [e2, show ds.length - 1 - i + 1 = ds.length - i by rw [Nat.sub_right_comm]; exact Nat.sub_one_add_one_eq_of_pos (Nat.sub_pos_of_lt hi)]
  have htop : dval n (ds.drop (ds.length - (i + 1))) = d + dval n (ds.drop (ds.length - i)) * 2 ^ n := by rw [hdrop, dval]
  have key : dval n (ds.drop (ds.length - i)) = rv + b * dval n qs.reverse := by
    rw [h4, h5]; exact (Int.emod_add_mul_ediv _ _).symm
  have e3 : dval n (ds.drop (ds.length - (i + 1))) = (rv * 2 ^ n + d) + b * (dval n qs.reverse * 2 ^ n) := by
    rw [htop, key, Int.add_mul, Int.mul_assoc]; omega
  have hnn : 0 ≤ rv * 2 ^ n := Int.mul_nonneg hbd.1 (Int.le_of_lt hp)
  refine ⟨qs ++ [(rv * 2 ^ n + d) / b], intsAre_snoc h1 _ _, by simp [h2], ?_, ?_, ?_⟩
  · intro q hq
    rcases List.mem_append.mp hq with hq | hq
    · exact h3 q hq
    · rw [List.mem_singleton.mp hq]
      refine ⟨Int.ediv_nonneg (by omega) (Int.le_of_lt hb), Int.ediv_lt_of_lt_mul hb ?_⟩
      have h6 : (rv + 1) * 2 ^ n ≤ b * 2 ^ n := Int.mul_le_mul_of_nonneg_right (by omega) (Int.le_of_lt hp)
      rw [Int.add_mul, Int.one_mul] at h6
      rw [Int.mul_comm (2 ^ n) b]
      omega
  · rw [e3, Int.add_mul_emod_self_left]
  · rw [List.reverse_append, e3, Int.add_mul_ediv_left _ _ (Int.ne_of_gt hb)]
    show (rv * 2 ^ n + d) / b + dval n qs.reverse * 2 ^ n = _
    rfl
theorem QI.small {n : Nat} {b rv d : Int} (hn : n ≤ 10) (hr : 0 ≤ rv ∧ rv < b) (hb : b ≤ 1000) (hd : 0 ≤ d ∧ d < 2 ^ n) : 0 ≤ rv * 2 ^ n + d ∧ rv * 2 ^ n + d < 2 ^ 64 := by
  have hp : (0 : Int) < 2 ^ n := Int.pow_pos (by decide)
  have h1 : (2 : Int) ^ n ≤ 1024 := by
    have h2 := Nat.pow_le_pow_right (n := 2) (by decide) hn
    have h3 : ((2 ^ n : Nat) : Int) ≤ 1024 := Int.ofNat_le.mpr h2
    have e : ((2 ^ n : Nat) : Int) = 2 ^ n := by push_cast; rfl
    rw [← e]; exact h3
  have h2 : 0 ≤ rv * 2 ^ n := Int.mul_nonneg hr.1 (Int.le_of_lt hp)
  have h3 : rv * 2 ^ n ≤ 1000 * 2 ^ n := Int.mul_le_mul_of_nonneg_right (by omega) (Int.le_of_lt hp)
  omega
theorem QI.len {n : Nat} {b : Int} {ds : List Int} {i : Nat} {rv : Int} {vsq : List Value} (h : QI n b ds i rv vsq) : vsq.length = i := by
  obtain ⟨qs, h1, h2, _⟩ := h
  rw [h1.length, h2]
end Mine
end PartP4

section PartD4
open PySem PySem.W PySem.Spec PySem.Calls PyProof.Rows
set_option maxRecDepth 100000
set_option maxHeartbeats 2000000
namespace Mine
theorem anewD4 : True := by
  w_top off
  trivial
theorem c_divpos (w : World) (x b : Int) (t1 t2 : Tok) (hx : 0 ≤ x ∧ x < 2 ^ 48) (hb : 0 < b ∧ b ≤ 1000) : Con w 100 56 [.int x t1, .int b t2] (RTup (x / b) (x % b)) := by
  unfold Con
  intro loose mean mg mb dp un gd cn cs a ccd cl outer A₀ base h₀ L m news own T s Q E B F X N Tp C1 C2 hk hS hT hL hd hu hret
  have e := hS.eq
  subst e
  obtain ⟨hx0, hx1⟩ := hx
  obtain ⟨hb0, hb1⟩ := hb
  have hn1 : Builtin.Int.intBits b ≤ 10 := bits_le (by omega) (by omega)
  have hn0 : 0 < Builtin.Int.intBits b := bits_pos hb0
  refine wpAny_call ?_
  k_dflt cell_enter
  have C1' := C1.keeps (Fr.keep ‹Fr h₀ L _ m›)
  have C2' := C2.keeps (Fr.keep ‹Fr h₀ L _ m›)
  repeat' (first | with_reducible ((with_reducible show wpAny _ _ (call (Value.builtin "list.reverse") _) _ _ _); (k_here; k_dflt (refine' reverse_led (by k_asm) (by k_asm) (by k_all) (by omega) ?_); intro _ _ _; (try k_sweep))) | with_reducible ((with_reducible show wpAny _ _ (call (Value.builtin "list.append") _) _ _ _); (k_here; k_dflt (refine' append_led (by k_asm) (by k_asm) (by k_upd) (by omega) ?_); intro _ _ _; (try k_sweep))) | with_reducible ((with_reducible show wpAny _ _ (binaryOp .LShift (Value.int _ _) (Value.int _ _)) _ _ _); (k_here; (refine' shl_nat (by exact rfl) (by omega) (by omega) ?_))) | ((with_reducible show wpAny _ _ (exec (Stmt.Assign ..) _) _ _ _); (rename Fr _ _ _ _ => kFz); (dsimp only at kFz); (revert kFz; intro _); walk1) | (k_unfold; (try dsimp only)) | (k_end; wrow_close) | walk1 | (dsimp only; first | with_reducible ((with_reducible show wpAny _ _ (call (Value.builtin "list.reverse") _) _ _ _); (k_here; k_dflt (refine' reverse_led (by k_asm) (by k_asm) (by k_all) (by omega) ?_); intro _ _ _; (try k_sweep))) | with_reducible ((with_reducible show wpAny _ _ (call (Value.builtin "list.append") _) _ _ _); (k_here; k_dflt (refine' append_led (by k_asm) (by k_asm) (by k_upd) (by omega) ?_); intro _ _ _; (try k_sweep))) | with_reducible ((with_reducible show wpAny _ _ (binaryOp .LShift (Value.int _ _) (Value.int _ _)) _ _ _); (k_here; (refine' shl_nat (by exact rfl) (by omega) (by omega) ?_))) | ((with_reducible show wpAny _ _ (exec (Stmt.Assign ..) _) _ _ _); (rename Fr _ _ _ _ => kFz); (dsimp only at kFz); (revert kFz; intro _); walk1) | walk1) | (leave1; walk_say "STEP leave1"; try dsimp only) | fail "no step")
  refine Con.use (c_int2 w x (Builtin.Int.intBits b) t1 _ ⟨hx0, hx1⟩ ⟨hn0, hn1⟩) (by k_asm) (by k_asm) (by k_asm) (by k_asm) (by k_asm) C1' C2' rfl .app hT hL (by first | exact room1 hd (by decide) | ktr_room) (by first | exact units1 hu (by decide) | ktr_units) ?_
  rintro v own' T1 h1 tk1 ⟨la, ca, vs, rfl, rfl, hvs⟩ hT1 F1 N1 hlt1
  simp only [List.cons_append, List.nil_append] at N1
  repeat' (first | with_reducible ((with_reducible show wpAny _ _ (call (Value.builtin "list.reverse") _) _ _ _); (k_here; k_dflt (refine' reverse_led (by k_asm) (by k_asm) (by k_all) (by omega) ?_); intro _ _ _; (try k_sweep))) | with_reducible ((with_reducible show wpAny _ _ (call (Value.builtin "list.append") _) _ _ _); (k_here; k_dflt (refine' append_led (by k_asm) (by k_asm) (by k_upd) (by omega) ?_); intro _ _ _; (try k_sweep))) | with_reducible ((with_reducible show wpAny _ _ (binaryOp .LShift (Value.int _ _) (Value.int _ _)) _ _ _); (k_here; (refine' shl_nat (by exact rfl) (by omega) (by omega) ?_))) | ((with_reducible show wpAny _ _ (exec (Stmt.Assign ..) _) _ _ _); (rename Fr _ _ _ _ => kFz); (dsimp only at kFz); (revert kFz; intro _); walk1) | (k_unfold; (try dsimp only)) | (k_end; wrow_close) | walk1 | (dsimp only; first | with_reducible ((with_reducible show wpAny _ _ (call (Value.builtin "list.reverse") _) _ _ _); (k_here; k_dflt (refine' reverse_led (by k_asm) (by k_asm) (by k_all) (by omega) ?_); intro _ _ _; (try k_sweep))) | with_reducible ((with_reducible show wpAny _ _ (call (Value.builtin "list.append") _) _ _ _); (k_here; k_dflt (refine' append_led (by k_asm) (by k_asm) (by k_upd) (by omega) ?_); intro _ _ _; (try k_sweep))) | with_reducible ((with_reducible show wpAny _ _ (binaryOp .LShift (Value.int _ _) (Value.int _ _)) _ _ _); (k_here; (refine' shl_nat (by exact rfl) (by omega) (by omega) ?_))) | ((with_reducible show wpAny _ _ (exec (Stmt.Assign ..) _) _ _ _); (rename Fr _ _ _ _ => kFz); (dsimp only at kFz); (revert kFz; intro _); walk1) | walk1) | (leave1; walk_say "STEP leave1"; try dsimp only) | fail "no step")
  rename_i lq hA lA hB I hC F2 N2 lB
  have hla := hT.ltR (own := own) (d := la) (allLt_of (hlt1 _ (.head _)))
  have hll : vs.length = (digsOf (Builtin.Int.intBits b) x).length := hvs.length
  have hdl := ndig_le (x := x) hn0
  have hbx := bits_le hx0 hx1
  have hnn : ndig (Builtin.Int.intBits b) x ≤ Builtin.Int.intBits b * ndig (Builtin.Int.intBits b) x := Nat.le_mul_of_pos_left _ hn0
  have hv64 : vs.length ≤ 60 := by rw [hll, digs_len]; omega
  have hU : Under lq (own ++ T1) := ktn_ltOf lA.2
  refine loop_rev (x := Str.ofString "a_digit") [Str.ofString "q_digit", Str.ofString "r"]
    (fun i m nw => ∃ rv t vsq c, m (Str.ofString "r") = some (.int rv t) ∧ QI (Builtin.Int.intBits b) b (digsOf (Builtin.Int.intBits b) x) i rv vsq ∧ nw = (lq, W.listOf vsq.toArray c) :: (la, W.listOf vs.toArray ca) :: (own ++ T1))
    rfl F2 N2 ?_ (.tail _ (.head _)) rfl rfl ⟨0, _, [], 0, rfl, .zero, rfl⟩ ?_ ?_
  · exact fun p hp => ktn_ltOf (l := (lq, W.listOf #[] 0) :: (la, W.listOf vs.toArray ca) :: (own ++ T1)) (show AllLt I _ from lB) p hp
  · rintro i v m₁ news₁ it h tk hi hv ⟨rv, t, vsq, c, hr, hQ, rfl⟩ hne hm F3 N3
    simp only [List.map_cons, List.map_nil, over, hr] at F3
    obtain ⟨d, hd⟩ : ∃ d, (digsOf (Builtin.Int.intBits b) x)[vs.length - 1 - i]? = some d := ⟨_, List.getElem?_eq_getElem (Nat.lt_of_lt_of_le (Nat.lt_of_le_of_lt (Nat.sub_le _ _) (Nat.sub_lt (Nat.lt_of_le_of_lt (Nat.zero_le _) (by assumption)) (by decide))) (Nat.le_of_eq hll))⟩
    obtain ⟨td, hv2⟩ := hvs.get _ d hd
    have hv3 : v = .int d td := by rw [hv2] at hv; exact (Option.some.inj hv).symm
    subst hv3
    have hdb := digs_lt d (List.mem_of_getElem? hd)
    have hrb := hQ.bound hb0
    have hxx := QI.small hn1 hrb hb1 hdb
    refine absW ?_
    intro Qz Ez hQz hEz
    repeat' (first | with_reducible ((with_reducible show wpAny _ _ (call (Value.builtin "list.reverse") _) _ _ _); (k_here; k_dflt (refine' reverse_led (by k_asm) (by k_asm) (by k_all) (by omega) ?_); intro _ _ _; (try k_sweep))) | with_reducible ((with_reducible show wpAny _ _ (call (Value.builtin "list.append") _) _ _ _); (k_here; k_dflt (refine' append_led (by k_asm) (by k_asm) (by k_upd) (by omega) ?_); intro _ _ _; (try k_sweep))) | with_reducible ((with_reducible show wpAny _ _ (binaryOp .LShift (Value.int _ _) (Value.int _ _)) _ _ _); (k_here; (refine' shl_nat (by exact rfl) (by omega) (by omega) ?_))) | ((with_reducible show wpAny _ _ (exec (Stmt.Assign ..) _) _ _ _); (rename Fr _ _ _ _ => kFz); (dsimp only at kFz); (revert kFz; intro _); walk1) | (k_unfold; (try dsimp only)) | (k_end; wrow_close) | walk1 | (dsimp only; first | with_reducible ((with_reducible show wpAny _ _ (call (Value.builtin "list.reverse") _) _ _ _); (k_here; k_dflt (refine' reverse_led (by k_asm) (by k_asm) (by k_all) (by omega) ?_); intro _ _ _; (try k_sweep))) | with_reducible ((with_reducible show wpAny _ _ (call (Value.builtin "list.append") _) _ _ _); (k_here; k_dflt (refine' append_led (by k_asm) (by k_asm) (by k_upd) (by omega) ?_); intro _ _ _; (try k_sweep))) | with_reducible ((with_reducible show wpAny _ _ (binaryOp .LShift (Value.int _ _) (Value.int _ _)) _ _ _); (k_here; (refine' shl_nat (by exact rfl) (by omega) (by omega) ?_))) | ((with_reducible show wpAny _ _ (exec (Stmt.Assign ..) _) _ _ _); (rename Fr _ _ _ _ => kFz); (dsimp only at kFz); (revert kFz; intro _); walk1) | walk1) | (leave1; walk_say "STEP leave1"; try dsimp only) | fail "no step")
    refine NCon.use (c_div' w _ b _ _ _ _ hxx ⟨hb0, by omega⟩ ⟨by omega, by omega⟩) (by k_asm) (by k_asm) (by k_asm) (by k_asm) (by k_asm) rfl (by first | exact room1 hd (by decide) | ktr_room) (by first | exact units1 hu (by decide) | ktr_units) ?_
    rintro v own' h2 tk2 ⟨D, t3, t4, c3, rfl, rfl⟩ F4 N4 l4
    simp only [List.cons_append, List.nil_append] at N4
    have l5 := l4 _ (.head _)
    k_lt l5
    have hq2 := hQ.len
    repeat' (first | with_reducible ((with_reducible show wpAny _ _ (call (Value.builtin "list.reverse") _) _ _ _); (k_here; k_dflt (refine' reverse_led (by k_asm) (by k_asm) (by k_all) (by omega) ?_); intro _ _ _; (try k_sweep))) | with_reducible ((with_reducible show wpAny _ _ (call (Value.builtin "list.append") _) _ _ _); (k_here; k_dflt (refine' append_led (by k_asm) (by k_asm) (by k_upd) (by omega) ?_); intro _ _ _; (try k_sweep))) | with_reducible ((with_reducible show wpAny _ _ (binaryOp .LShift (Value.int _ _) (Value.int _ _)) _ _ _); (k_here; (refine' shl_nat (by exact rfl) (by omega) (by omega) ?_))) | ((with_reducible show wpAny _ _ (exec (Stmt.Assign ..) _) _ _ _); (rename Fr _ _ _ _ => kFz); (dsimp only at kFz); (revert kFz; intro _); walk1) | (k_unfold; (try dsimp only)) | (k_end; wrow_close) | walk1 | (dsimp only; first | with_reducible ((with_reducible show wpAny _ _ (call (Value.builtin "list.reverse") _) _ _ _); (k_here; k_dflt (refine' reverse_led (by k_asm) (by k_asm) (by k_all) (by omega) ?_); intro _ _ _; (try k_sweep))) | with_reducible ((with_reducible show wpAny _ _ (call (Value.builtin "list.append") _) _ _ _); (k_here; k_dflt (refine' append_led (by k_asm) (by k_asm) (by k_upd) (by omega) ?_); intro _ _ _; (try k_sweep))) | with_reducible ((with_reducible show wpAny _ _ (binaryOp .LShift (Value.int _ _) (Value.int _ _)) _ _ _); (k_here; (refine' shl_nat (by exact rfl) (by omega) (by omega) ?_))) | ((with_reducible show wpAny _ _ (exec (Stmt.Assign ..) _) _ _ _); (rename Fr _ _ _ _ => kFz); (dsimp only at kFz); (revert kFz; intro _); walk1) | walk1) | (leave1; walk_say "STEP leave1"; try dsimp only) | fail "no step")
    refine Onto.use (by assumption) ?_
    refine TurnEnd.next (news' := (lq, W.listOf (vsq ++ [Value.int ((rv * 2 ^ Builtin.Int.intBits b + d) / b) t3]).toArray (c + 1)) :: (la, W.listOf vs.toArray ca) :: (own ++ T1)) (by k_asm) (News.sub (by k_asm) (fun p hp => .tail _ hp)) ?_ ?_ ⟨?_, _, _, _, _, rfl, hQ.step hb0 hdb (by omega) (by rw [← hll]; exact hd), rfl⟩
    · intro p hp
      rcases List.mem_cons.mp hp with rfl | hp
      · exact hne (lq, W.listOf vsq.toArray c) (.head _)
      · exact hne p (.tail _ hp)
    · intro p hp
      rw [List.mem_singleton.mp hp]; exact .tail _ (.head _)
    · intro z h1 h2
      simp only [List.mem_cons, List.not_mem_nil, or_false, not_or] at h2
      dsimp only
      (repeat (first | rw [if_neg h1] | rw [if_neg h2.1] | rw [if_neg h2.2])); (try rfl)
  · rintro m₁ news₁ h tk ⟨rv, t, vsq, c, hr, hQ, rfl⟩ F3 N3
    simp only [List.map_cons, List.map_nil, over, hr] at F3
    have hq2 := hQ.len
    repeat' (first | with_reducible ((with_reducible show wpAny _ _ (call (Value.builtin "list.reverse") _) _ _ _); (k_here; k_dflt (refine' reverse_led (by k_asm) (by k_asm) (by k_all) (by omega) ?_); intro _ _ _; (try k_sweep))) | with_reducible ((with_reducible show wpAny _ _ (call (Value.builtin "list.append") _) _ _ _); (k_here; k_dflt (refine' append_led (by k_asm) (by k_asm) (by k_upd) (by omega) ?_); intro _ _ _; (try k_sweep))) | with_reducible ((with_reducible show wpAny _ _ (binaryOp .LShift (Value.int _ _) (Value.int _ _)) _ _ _); (k_here; (refine' shl_nat (by exact rfl) (by omega) (by omega) ?_))) | ((with_reducible show wpAny _ _ (exec (Stmt.Assign ..) _) _ _ _); (rename Fr _ _ _ _ => kFz); (dsimp only at kFz); (revert kFz; intro _); walk1) | (k_unfold; (try dsimp only)) | (k_end; wrow_close) | walk1 | (dsimp only; first | with_reducible ((with_reducible show wpAny _ _ (call (Value.builtin "list.reverse") _) _ _ _); (k_here; k_dflt (refine' reverse_led (by k_asm) (by k_asm) (by k_all) (by omega) ?_); intro _ _ _; (try k_sweep))) | with_reducible ((with_reducible show wpAny _ _ (call (Value.builtin "list.append") _) _ _ _); (k_here; k_dflt (refine' append_led (by k_asm) (by k_asm) (by k_upd) (by omega) ?_); intro _ _ _; (try k_sweep))) | with_reducible ((with_reducible show wpAny _ _ (binaryOp .LShift (Value.int _ _) (Value.int _ _)) _ _ _); (k_here; (refine' shl_nat (by exact rfl) (by omega) (by omega) ?_))) | ((with_reducible show wpAny _ _ (exec (Stmt.Assign ..) _) _ _ _); (rename Fr _ _ _ _ => kFz); (dsimp only at kFz); (revert kFz; intro _); walk1) | walk1) | (leave1; walk_say "STEP leave1"; try dsimp only) | fail "no step")
    rename News _ _ _ _ => N4
    rename Fr _ _ _ _ => F4
    obtain ⟨qs, q1, q2, q3, q4, q5⟩ := hQ
    have hI2 := intsAre_rev q1
    rw [hll, Nat.sub_self, List.drop_zero, dval_digs hn0 hx0] at q4 q5
    subst q4
    refine ConP.use (c_d2int w lq c vsq.reverse qs.reverse (Builtin.Int.intBits b) _ hI2 (fun d hd => q3 d (List.mem_reverse.mp hd)) (by rw [List.length_reverse, q2, hll, digs_len]; exact room64 (by assumption) (by assumption) (by assumption)) hn0) (by k_asm) F4 (by k_asm) N4 (by k_asm) C1' C2' rfl (.cons (.cons .app)) hT1 (.cons' (hT1.ltR (d := lq) lA.2).1 (hT1.ltR (d := lq) lA.2).2 (.cons' hla.1 hla.2 hL)) (.head _) (by first | exact room1 hd (by decide) | ktr_room) (by first | exact units1 hu (by decide) | ktr_units) ?_
    rintro v own' T2 h2 tk2 ⟨t3, rfl, rfl⟩ hT2 F5 N5 l5
    simp only [List.cons_append, List.nil_append] at N5
    rw [q5]
    repeat' (first | with_reducible ((with_reducible show wpAny _ _ (call (Value.builtin "list.reverse") _) _ _ _); (k_here; k_dflt (refine' reverse_led (by k_asm) (by k_asm) (by k_all) (by omega) ?_); intro _ _ _; (try k_sweep))) | with_reducible ((with_reducible show wpAny _ _ (call (Value.builtin "list.append") _) _ _ _); (k_here; k_dflt (refine' append_led (by k_asm) (by k_asm) (by k_upd) (by omega) ?_); intro _ _ _; (try k_sweep))) | with_reducible ((with_reducible show wpAny _ _ (binaryOp .LShift (Value.int _ _) (Value.int _ _)) _ _ _); (k_here; (refine' shl_nat (by exact rfl) (by omega) (by omega) ?_))) | ((with_reducible show wpAny _ _ (exec (Stmt.Assign ..) _) _ _ _); (rename Fr _ _ _ _ => kFz); (dsimp only at kFz); (revert kFz; intro _); walk1) | (k_unfold; (try dsimp only)) | (k_end; wrow_close) | walk1 | (dsimp only; first | with_reducible ((with_reducible show wpAny _ _ (call (Value.builtin "list.reverse") _) _ _ _); (k_here; k_dflt (refine' reverse_led (by k_asm) (by k_asm) (by k_all) (by omega) ?_); intro _ _ _; (try k_sweep))) | with_reducible ((with_reducible show wpAny _ _ (call (Value.builtin "list.append") _) _ _ _); (k_here; k_dflt (refine' append_led (by k_asm) (by k_asm) (by k_upd) (by omega) ?_); intro _ _ _; (try k_sweep))) | with_reducible ((with_reducible show wpAny _ _ (binaryOp .LShift (Value.int _ _) (Value.int _ _)) _ _ _); (k_here; (refine' shl_nat (by exact rfl) (by omega) (by omega) ?_))) | ((with_reducible show wpAny _ _ (exec (Stmt.Assign ..) _) _ _ _); (rename Fr _ _ _ _ => kFz); (dsimp only at kFz); (revert kFz; intro _); walk1) | walk1) | (leave1; walk_say "STEP leave1"; try dsimp only) | fail "no step")
    rename_i D' h9 F9 N9 lD _ kN _ _
    refine hret _ [(D', tupObj #[Value.int (x / b) t3, Value.int (x % b) t] 0)] T2 _ _ ⟨D', t3, t, 0, rfl, rfl⟩ hT2 (by k_asm) (News.sub kN ?_) ?_
    · intro p hp
      rcases List.mem_cons.mp hp with rfl | hp
      · exact .head _
      · exact .tail _ (.tail _ (.tail _ hp))
    · intro p hp q hq
      rw [List.mem_singleton.mp hp]
      exact Nat.lt_trans (hlt1 _ (.head _) q hq) lD.2.1
end Mine
end PartD4

section PartD5
open PySem PySem.W PySem.Spec PySem.Calls PyProof.Rows
set_option maxRecDepth 100000
set_option maxHeartbeats 2000000
namespace Mine
theorem anewD5 : True := by
  w_top off
  trivial
theorem c_dm0 (w : World) (x b : Int) (t1 t2 : Tok) (hx : 0 ≤ x ∧ x < 2 ^ 48) (hb : 0 < b ∧ b ≤ 1000) : Con w 102 63 [.int x t1, .int b t2] (RTup (x / b) (x % b)) := by
  unfold Con
  intro loose mean mg mb dp un gd cn cs a ccd cl outer A₀ base h₀ L m news own T s Q E B F X N Tp C1 C2 hk hS hT hL hd hu hret
  have e := hS.eq
  subst e
  obtain ⟨hx0, hx1⟩ := hx
  obtain ⟨hb0, hb1⟩ := hb
  refine wpAny_call ?_
  k_dflt cell_enter
  have C1' := C1.keeps (Fr.keep ‹Fr h₀ L _ m›)
  have C2' := C2.keeps (Fr.keep ‹Fr h₀ L _ m›)
  repeat' (first | ((with_reducible show wpAny _ _ (exec (Stmt.Assign ..) _) _ _ _); (rename Fr _ _ _ _ => kFz); (dsimp only at kFz); (revert kFz; intro _); walk1) | (k_unfold; (try dsimp only)) | (k_end; wrow_close) | walk1 | (dsimp only; first | ((with_reducible show wpAny _ _ (exec (Stmt.Assign ..) _) _ _ _); (rename Fr _ _ _ _ => kFz); (dsimp only at kFz); (revert kFz; intro _); walk1) | walk1) | (leave1; walk_say "STEP leave1"; try dsimp only) | fail "no step")
  any_goals (exfalso; omega)
  refine Con.use (c_divpos w x b t1 t2 ⟨hx0, hx1⟩ ⟨hb0, hb1⟩) (by k_asm) (by k_asm) (by k_asm) (by k_asm) (by k_asm) C1' C2' rfl .app hT hL (by first | exact room1 hd (by decide) | ktr_room) (by first | exact units1 hu (by decide) | ktr_units) ?_
  rintro v own' T1 h1 tk1 hR hT1 F1 N1 hlt1
  repeat' (first | ((with_reducible show wpAny _ _ (exec (Stmt.Assign ..) _) _ _ _); (rename Fr _ _ _ _ => kFz); (dsimp only at kFz); (revert kFz; intro _); walk1) | (k_unfold; (try dsimp only)) | (k_end; wrow_close) | walk1 | (dsimp only; first | ((with_reducible show wpAny _ _ (exec (Stmt.Assign ..) _) _ _ _); (rename Fr _ _ _ _ => kFz); (dsimp only at kFz); (revert kFz; intro _); walk1) | walk1) | (leave1; walk_say "STEP leave1"; try dsimp only) | fail "no step")
  exact hret _ _ _ _ _ hR hT1 (by k_asm) (by k_asm) hlt1
theorem dm_neg {x b : Int} (hb : 0 < b) : -((-x - 1) / b) - 1 = x / b ∧ b + (-((-x - 1) % b) - 1) = x % b := by
  have h1 := Int.emod_add_mul_ediv (-x - 1) b
  have h2 := Int.emod_nonneg (-x - 1) (Int.ne_of_gt hb)
  have h3 := Int.emod_lt_of_pos (-x - 1) hb
  have h4 : x = (b - 1 - (-x - 1) % b) + b * (-((-x - 1) / b) - 1) := by
    have e : b * (-((-x - 1) / b) - 1) = -(b * ((-x - 1) / b)) - b := by rw [Int.mul_sub, Int.mul_neg, Int.mul_one]
    rw [e]; omega
  have h5 := (Int.ediv_emod_unique (a := x) (b := b) (r := b - 1 - (-x - 1) % b) (q := -((-x - 1) / b) - 1) hb).mpr ⟨h4.symm, by omega, by omega⟩
  exact ⟨h5.1.symm, by rw [h5.2]; omega⟩
theorem c_dm1 (w : World) (x b : Int) (t1 t2 : Tok) (hx : -(2 ^ 48) ≤ x ∧ x < 2 ^ 48) (hb : 0 < b ∧ b ≤ 1000) : Con w 105 63 [.int x t1, .int b t2] (RTup (x / b) (x % b)) := by
  by_cases hneg : 0 ≤ x
  · intro loose mean mg mb dp un gd cn cs a ccd cl outer A₀ base h₀ L m news own T s Q E B F X N Tp C1 C2 hk hS hT hL hd hu hret
    exact c_dm0 w x b t1 t2 ⟨hneg, hx.2⟩ hb _ _ _ _ _ _ _ _ _ _ _ _ _ _ _ _ _ _ _ _ _ _ _ _ B F X N Tp C1 C2 hk hS hT hL (Nat.lt_of_le_of_lt (Nat.add_le_add_left (by decide) dp) hd) (Nat.lt_of_le_of_lt (Nat.add_le_add_left (by decide) un) hu) hret
  unfold Con
  intro loose mean mg mb dp un gd cn cs a ccd cl outer A₀ base h₀ L m news own T s Q E B F X N Tp C1 C2 hk hS hT hL hd hu hret
  have e := hS.eq
  subst e
  obtain ⟨hx0, hx1⟩ := hx
  obtain ⟨hb0, hb1⟩ := hb
  refine wpAny_call ?_
  k_dflt cell_enter
  have C1' := C1.keeps (Fr.keep ‹Fr h₀ L _ m›)
  have C2' := C2.keeps (Fr.keep ‹Fr h₀ L _ m›)
  repeat' (first | ((with_reducible show wpAny _ _ (exec (Stmt.Assign ..) _) _ _ _); (rename Fr _ _ _ _ => kFz); (dsimp only at kFz); (revert kFz; intro _); walk1) | (k_unfold; (try dsimp only)) | (k_end; wrow_close) | walk1 | (dsimp only; first | ((with_reducible show wpAny _ _ (exec (Stmt.Assign ..) _) _ _ _); (rename Fr _ _ _ _ => kFz); (dsimp only at kFz); (revert kFz; intro _); walk1) | walk1) | (leave1; walk_say "STEP leave1"; try dsimp only) | fail "no step")
  any_goals (exfalso; omega)
  refine Con.use (c_dm0 w (Builtin.bitNot x) b _ t2 ⟨by unfold Builtin.bitNot; omega, by unfold Builtin.bitNot; omega⟩ ⟨hb0, hb1⟩) (by k_asm) (by k_asm) (by k_asm) (by k_asm) (by k_asm) C1' C2' rfl .app hT hL (by first | exact room1 hd (by decide) | ktr_room) (by first | exact units1 hu (by decide) | ktr_units) ?_
  rintro v own' T1 h1 tk1 ⟨D, u1, u2, c, rfl, rfl⟩ hT1 F1 N1 hlt1
  simp only [List.cons_append, List.nil_append] at N1
  repeat' (first | ((with_reducible show wpAny _ _ (exec (Stmt.Assign ..) _) _ _ _); (rename Fr _ _ _ _ => kFz); (dsimp only at kFz); (revert kFz; intro _); walk1) | (k_unfold; (try dsimp only)) | (k_end; wrow_close) | walk1 | (dsimp only; first | ((with_reducible show wpAny _ _ (exec (Stmt.Assign ..) _) _ _ _); (rename Fr _ _ _ _ => kFz); (dsimp only at kFz); (revert kFz; intro _); walk1) | walk1) | (leave1; walk_say "STEP leave1"; try dsimp only) | fail "no step")
  rename_i D' h9 F9 N9 lD kF kN _ _
  have e1 : Builtin.bitNot (Builtin.bitNot x / b) = x / b := (dm_neg hb0).1
  have e2 : b + Builtin.bitNot (Builtin.bitNot x % b) = x % b := (dm_neg hb0).2
  rw [e1, e2] at kN
  refine hret _ [_] T1 _ _ ?R hT1 kF (tup_news own T1 kN fun p hp => .tail _ hp) ?o
  case R => exact ⟨D', _, _, 0, rfl, rfl⟩
  case o =>
    intro p hp q hq
    rw [List.mem_singleton.mp hp]
    exact Nat.lt_trans (hlt1 _ (.head _) q hq) lD.1
/-- what int_divmod gives, the divisor below nought too -/
noncomputable def dmQ (x b : Int) : Int := if 0 < b then x / b else (-x) / (-b)
noncomputable def dmR (x b : Int) : Int := if 0 < b then x % b else -((-x) % (-b))
theorem c_dm (w : World) (x b : Int) (t1 t2 : Tok) (hx : -(2 ^ 47) ≤ x ∧ x ≤ 2 ^ 47) (hb : b ≠ 0 ∧ -1000 ≤ b ∧ b ≤ 1000) : Con w 110 63 [.int x t1, .int b t2] (RTup (dmQ x b) (dmR x b)) := by
  by_cases hneg : 0 < b
  · unfold dmQ dmR
    rw [if_pos hneg, if_pos hneg]
    intro loose mean mg mb dp un gd cn cs a ccd cl outer A₀ base h₀ L m news own T s Q E B F X N Tp C1 C2 hk hS hT hL hd hu hret
    exact c_dm1 w x b t1 t2 ⟨Int.le_trans (by decide) hx.1, Int.lt_of_le_of_lt hx.2 (by decide)⟩ ⟨hneg, hb.2.2⟩ _ _ _ _ _ _ _ _ _ _ _ _ _ _ _ _ _ _ _ _ _ _ _ _ B F X N Tp C1 C2 hk hS hT hL (Nat.lt_of_le_of_lt (Nat.add_le_add_left (by decide) dp) hd) (Nat.lt_of_le_of_lt (Nat.add_le_add_left (by decide) un) hu) hret
  unfold dmQ dmR
  rw [if_neg hneg, if_neg hneg]
  unfold Con
  intro loose mean mg mb dp un gd cn cs a ccd cl outer A₀ base h₀ L m news own T s Q E B F X N Tp C1 C2 hk hS hT hL hd hu hret
  have e := hS.eq
  subst e
  obtain ⟨hx0, hx1⟩ := hx
  obtain ⟨hb0, hb1, hb2⟩ := hb
  refine wpAny_call ?_
  k_dflt cell_enter
  have C1' := C1.keeps (Fr.keep ‹Fr h₀ L _ m›)
  have C2' := C2.keeps (Fr.keep ‹Fr h₀ L _ m›)
  repeat' (first | ((with_reducible show wpAny _ _ (exec (Stmt.Assign ..) _) _ _ _); (rename Fr _ _ _ _ => kFz); (dsimp only at kFz); (revert kFz; intro _); walk1) | (k_unfold; (try dsimp only)) | (k_end; wrow_close) | walk1 | (dsimp only; first | ((with_reducible show wpAny _ _ (exec (Stmt.Assign ..) _) _ _ _); (rename Fr _ _ _ _ => kFz); (dsimp only at kFz); (revert kFz; intro _); walk1) | walk1) | (leave1; walk_say "STEP leave1"; try dsimp only) | fail "no step")
  any_goals (exfalso; omega)
  refine Con.use (c_dm1 w (-x) (-b) _ _ ⟨by omega, by omega⟩ ⟨by omega, by omega⟩) (by k_asm) (by k_asm) (by k_asm) (by k_asm) (by k_asm) C1' C2' rfl .app hT hL (by first | exact room1 hd (by decide) | ktr_room) (by first | exact units1 hu (by decide) | ktr_units) ?_
  rintro v own' T1 h1 tk1 ⟨D, u1, u2, c, rfl, rfl⟩ hT1 F1 N1 hlt1
  simp only [List.cons_append, List.nil_append] at N1
  repeat' (first | ((with_reducible show wpAny _ _ (exec (Stmt.Assign ..) _) _ _ _); (rename Fr _ _ _ _ => kFz); (dsimp only at kFz); (revert kFz; intro _); walk1) | (k_unfold; (try dsimp only)) | (k_end; wrow_close) | walk1 | (dsimp only; first | ((with_reducible show wpAny _ _ (exec (Stmt.Assign ..) _) _ _ _); (rename Fr _ _ _ _ => kFz); (dsimp only at kFz); (revert kFz; intro _); walk1) | walk1) | (leave1; walk_say "STEP leave1"; try dsimp only) | fail "no step")
  rename_i D' h9 F9 N9 lD kF kN _ _
  refine hret _ [_] T1 _ _ ?R hT1 kF (tup_news own T1 kN fun p hp => .tail _ hp) ?o
  case R => exact ⟨D', _, _, 0, rfl, rfl⟩
  case o =>
    intro p hp q hq
    rw [List.mem_singleton.mp hp]
    exact Nat.lt_trans (hlt1 _ (.head _) q hq) lD.1
end Mine
end PartD5

section PartP5
open PySem PySem.W PySem.Spec PySem.Calls PyProof.Rows
namespace Mine
theorem anewP5 : True := by
  w_top off
  trivial
abbrev sl : Str := Str.ofString "/"
theorem sl_eq : sl = ⟨#[47]⟩ := by decide +kernel
noncomputable def txt (n : Int) : Str := Str.ofString (toString n)
noncomputable def dg (n : Int) : List Nat := (txt n).cps.toList
theorem dg_range {n : Int} (h0 : 0 ≤ n) : ∀ c ∈ dg n, 48 ≤ c ∧ c ≤ 57 := by
  obtain ⟨m, rfl⟩ := Int.eq_ofNat_of_zero_le h0
  intro c hc
  unfold dg txt at hc
  rw [KIN.signs_num] at hc
  obtain ⟨ch, hch, e⟩ := List.mem_map.mp hc
  have r := PyProof.Rows.digit_range (Nat.isDigit_of_mem_toDigits (by decide) (by decide) hch)
  rw [← e]
  exact r
theorem dg_ne {n : Int} (h0 : 0 ≤ n) : dg n ≠ [] := by
  obtain ⟨m, rfl⟩ := Int.eq_ofNat_of_zero_le h0
  unfold dg txt
  rw [KIN.signs_num]
  intro e
  have h := toDigits_len_ge 10 m
  rw [List.map_eq_nil_iff.mp e] at h
  exact absurd h (by decide)
theorem dg_free {n : Int} (h0 : 0 ≤ n) : 47 ∉ dg n := fun h => absurd (dg_range h0 47 h).1 (by decide)
theorem txt_reads {n : Int} (h0 : 0 ≤ n) (h1 : n < 10 ^ 10) : PySem.intText? (txt n) = some n := KIN.num_reads h0 h1
theorem txt_len {n : Int} (h0 : 0 ≤ n) (h1 : n < 10 ^ 10) : (txt n).length ≤ 10 := KT.len_num h0 h1

theorem at_one (x : Str) (i : Nat) : StrLaws.At x sl x.length i ↔ x.cps.toList[i]? = some 47 := by
  rw [sl_eq]
  exact StrLaws.subAt_one x 47 i
theorem str_len (x : Str) : x.length = x.cps.toList.length := by simp [Str.length]

/-- the last slash of a text is where it is -/
theorem rfind_last {x : Str} {A B : List Nat} (hx : x.cps.toList = A ++ 47 :: B) (hB : 47 ∉ B) : Txt.rfind x sl = (A.length : Int) := by
  rcases rfind_whole x sl with ⟨_, hn⟩ | ⟨i, hi, hA, hn⟩
  · exact absurd ((at_one x A.length).mpr (by rw [hx]; simp)) (hn A.length)
  · rw [hi]
    have h1 : i = A.length := by
      rcases Nat.lt_trichotomy i A.length with h | h | h
      · exact absurd ((at_one x A.length).mpr (by rw [hx]; simp)) (hn A.length h)
      · exact h
      · have h2 := (at_one x i).mp hA
        rw [hx, List.getElem?_append_right (Nat.le_of_lt h)] at h2
        obtain ⟨j, hj⟩ : ∃ j, i - A.length = j + 1 := ⟨i - A.length - 1, (Nat.sub_one_add_one_eq_of_pos (Nat.sub_pos_of_lt h)).symm⟩
        rw [hj, List.getElem?_cons_succ] at h2
        exact absurd (List.mem_of_getElem? h2) hB
    rw [h1]
theorem bas_of {x : Str} {A B : List Nat} (hx : x.cps.toList = A ++ 47 :: B) (hB : 47 ∉ B) : basF x = ⟨B.toArray⟩ := by
  unfold basF
  rw [rfind_last hx hB]
  have hl : x.cps.toList.length = A.length + (B.length + 1) := by rw [hx]; simp
  show StrLaws.sliceText x _ none = _
  rw [StrLaws.sliceText_from ⟨by omega, by rw [hl]; omega⟩, hl, hx]
  have e1 : ((A.length : Int) + 1).toNat = A.length + 1 := rfl
  have e2 : (((A.length + (B.length + 1) : Nat) : Int) - ((A.length : Int) + 1)).toNat = B.length := by omega
  rw [e1, e2, List.drop_append]
  simp [List.drop_eq_nil_of_le]
theorem hd_of {x : Str} {A B : List Nat} (hx : x.cps.toList = A ++ 47 :: B) (hB : 47 ∉ B) : hdF x = ⟨(A ++ [47]).toArray⟩ := by
  show Txt.slice x none (some (Txt.rfind x sl + 1)) = _
  rw [rfind_last hx hB]
  have hl : x.cps.toList.length = A.length + (B.length + 1) := by rw [hx]; simp
  show StrLaws.sliceText x none _ = _
  rw [StrLaws.sliceText_to ⟨by omega, by rw [hl]; omega⟩, hx, List.drop_zero]
  have e1 : ((A.length : Int) + 1 - 0).toNat = A.length + 1 := by rw [Int.sub_zero]; rfl
  rw [e1, List.take_append]
  simp [List.take_of_length_le]
theorem mul_sl (n : Nat) : ∀ c ∈ (Txt.mul sl (n : Int)).cps.toList, c = 47 := by
  intro c hc
  have he : sl.length ≠ 0 := by rw [sl_eq]; decide
  unfold Txt.mul at hc
  split at hc
  · simp [Str.empty] at hc
  · split at hc
    · rw [sl_eq] at hc; simpa using hc
    · rw [show sl.cps = #[47] by rw [sl_eq]] at hc
      have e : ∀ k (acc : Array Nat), List.foldl (· ++ ·) acc (List.replicate k (#[47] : Array Nat)) = acc ++ (List.replicate k 47).toArray := by
        intro k
        induction k with
        | zero => intro acc; simp
        | succ k ih => intro acc; rw [List.replicate_succ, List.foldl_cons, ih, List.replicate_succ]; apply Array.toList_inj.mp; simp
      rw [e] at hc
      have hc' : c ∈ List.replicate (n : Int).toNat 47 := by simpa using hc
      exact List.eq_of_mem_replicate hc'
theorem rstrip_of {C : List Nat} {k : Nat} (hC : C = [] ∨ ∃ D c, C = D ++ [c] ∧ c ≠ 47) : Txt.rstripChars ⟨(C ++ List.replicate k 47).toArray⟩ sl = ⟨C.toArray⟩ := by
  have goes : ∀ c, sl.cps.contains c = (c == 47) := by intro c; rw [sl_eq]; rw [Bool.eq_iff_iff]; simp
  unfold Txt.rstripChars
  rw [PyProof.Rows.stripBy_eq]
  generalize hx : (⟨(C ++ List.replicate k 47).toArray⟩ : Str) = x
  have hxl : x.cps.toList = C ++ List.replicate k 47 := by rw [← hx]
  have hlen : x.length = C.length + k := by rw [str_len, hxl]; simp
  have hlo : PySem.stripLo (sl.cps.contains) false x = 0 := rfl
  have hh := hi_facts sl.cps.contains x 0 (Nat.zero_le _)
  rw [hlo]
  obtain ⟨_, h1, h2, h3⟩ := hh
  have hget : ∀ j, x.cps.getD j 0 = x.cps.toList.getD j 0 := by intro j; simp [List.getD]
  have hhi : PySem.stripHi sl.cps.contains true x 0 = C.length := by
    generalize PySem.stripHi sl.cps.contains true x 0 = q at h1 h2 h3
    rcases Nat.lt_trichotomy q C.length with h | h | h
    · rcases hC with rfl | ⟨D, c, rfl, hc⟩
      · simp at h
      · have h4 := h2 (D.length) (by simp at h; omega) (by rw [hlen]; simp; omega)
        rw [goes, hget, hxl] at h4
        have e : (D ++ [c] ++ List.replicate k 47).getD D.length 0 = c := by simp [List.getD]
        rw [e] at h4
        exact absurd (eq_of_beq h4) hc
    · exact h
    · rcases h3 with h4 | h4
      · omega
      · rw [goes, hget, hxl] at h4
        have e : (C ++ List.replicate k 47).getD (q - 1) 0 = 47 := by
          rw [List.getD_eq_getElem?_getD, List.getElem?_append_right (by omega), List.getElem?_replicate, if_pos (by omega)]
          rfl
        rw [e] at h4
        simp at h4
  rw [hhi]
  apply Str.ext'
  apply Array.toList_inj.mp
  rw [StrLaws.strSub_toList, hxl]
  simp
/-- dirname, of a text with a slash -/
theorem dir_of {x : Str} {C B : List Nat} {k : Nat} (hx : x.cps.toList = C ++ (List.replicate k 47 ++ 47 :: B)) (hB : 47 ∉ B) (hC : ∃ D c, C = D ++ [c] ∧ c ≠ 47) : dirF x = ⟨C.toArray⟩ := by
  have hx2 : x.cps.toList = (C ++ List.replicate k 47) ++ 47 :: B := by rw [hx, List.append_assoc]
  have hh := hd_of hx2 hB
  have e : C ++ List.replicate k 47 ++ [47] = C ++ List.replicate (k + 1) 47 := by rw [List.append_assoc, ← List.replicate_succ']
  rw [e] at hh
  unfold dirF
  rw [if_pos]
  · rw [hh]; exact rstrip_of (.inr hC)
  · refine ⟨?_, ?_⟩
    · rw [hh, str_len]; simp
    · rw [bne_iff_ne]
      intro q
      obtain ⟨D, c, rfl, hc⟩ := hC
      have hm : c ∈ (hdF x).cps.toList := by rw [hh]; simp
      rw [q] at hm
      exact hc (mul_sl _ c hm)
theorem dir_root {x : Str} {B : List Nat} (hx : x.cps.toList = 47 :: B) (hB : 47 ∉ B) : dirF x = sl := by
  have hh := hd_of (A := []) hx hB
  have hh2 : hdF x = sl := by rw [hh, sl_eq]; rfl
  unfold dirF
  rw [if_neg]
  · exact hh2
  · rintro ⟨_, h⟩
    rw [hh2] at h
    revert h
    decide +kernel
end Mine
end PartP5

section PartP6
open PySem PySem.W PySem.Spec PySem.Calls PyProof.Rows
namespace Mine
theorem anewP6 : True := by
  w_top off
  trivial
noncomputable def catL (ns : List Int) : List Nat := ns.flatMap fun n => 47 :: dg n
noncomputable def pthL : List Int → List Nat
  | [] => [47]
  | n :: r => catL (n :: r)
noncomputable def pth (ns : List Int) : Str := ⟨(pthL ns).toArray⟩
def Small (ns : List Int) : Prop := ∀ n ∈ ns, 0 ≤ n ∧ n < 10 ^ 10
theorem Small.app {a b : List Int} (ha : Small a) (hb : Small b) : Small (a ++ b) := fun n hn => (List.mem_append.mp hn).elim (ha n) (hb n)
theorem Small.left {a b : List Int} (h : Small (a ++ b)) : Small a := fun n hn => h n (List.mem_append_left _ hn)
theorem Small.last {a : List Int} {n : Int} (h : Small (a ++ [n])) : 0 ≤ n ∧ n < 10 ^ 10 := h n (List.mem_append_right _ (.head _))
theorem catL_snoc (ns : List Int) (n : Int) : catL (ns ++ [n]) = catL ns ++ 47 :: dg n := by simp [catL]
theorem pthL_snoc (ns : List Int) (n : Int) : pthL (ns ++ [n]) = catL ns ++ 47 :: dg n := by
  rw [← catL_snoc]
  cases ns with
  | nil => rfl
  | cons a r => rfl
theorem pthL_ne {ns : List Int} (h : ns ≠ []) : pthL ns = catL ns := by
  cases ns with
  | nil => exact absurd rfl h
  | cons a r => rfl
theorem pth_cps (ns : List Int) : (pth ns).cps.toList = pthL ns := by simp [pth]
theorem pth_snoc (ns : List Int) (n : Int) : (pth (ns ++ [n])).cps.toList = catL ns ++ 47 :: dg n := by rw [pth_cps, pthL_snoc]
theorem txt_eq (n : Int) : (⟨(dg n).toArray⟩ : Str) = txt n := by
  apply Str.ext'; apply Array.toList_inj.mp; simp [dg]
theorem snoc_of {α : Type} : ∀ {l : List α}, l ≠ [] → ∃ a x, l = a ++ [x] := fun {l} h => ⟨l.dropLast, l.getLast h, (List.dropLast_concat_getLast h).symm⟩
theorem catL_last {ns : List Int} (hs : Small ns) (h : ns ≠ []) : ∃ D c, catL ns = D ++ [c] ∧ c ≠ 47 := by
  obtain ⟨a, n, rfl⟩ := snoc_of h
  have h0 := hs.last.1
  obtain ⟨d, c, e⟩ := snoc_of (dg_ne h0)
  refine ⟨catL a ++ 47 :: d, c, by rw [catL_snoc, e]; simp, fun q => ?_⟩
  have := (dg_range h0 c (by rw [e]; simp)).1
  omega
theorem bas_pth {ns : List Int} {n : Int} (h0 : 0 ≤ n) : basF (pth (ns ++ [n])) = txt n := by
  rw [bas_of (pth_snoc ns n) (dg_free h0), txt_eq]
theorem dir_pth {ns : List Int} {n : Int} (hs : Small (ns ++ [n])) : dirF (pth (ns ++ [n])) = pth ns := by
  have h0 := hs.last.1
  by_cases h : ns = []
  · subst h
    rw [dir_root (B := dg n) (by rw [pth_snoc]; rfl) (dg_free h0), sl_eq]
    rfl
  · rw [dir_of (k := 0) (C := catL ns) (B := dg n) (by rw [pth_snoc]; rfl) (dg_free h0) (catL_last hs.left h)]
    unfold pth
    rw [pthL_ne h]
theorem cps_app (x y : Str) : (x ++ y).cps.toList = x.cps.toList ++ y.cps.toList := by rw [Str.cps_append]; simp
theorem sl3_eq : (Str.ofString "///").cps.toList = [47, 47, 47] := by decide +kernel
theorem dir3_pth {ns : List Int} {n : Int} (hs : Small ns) (h0 : 0 ≤ n) (h : ns ≠ []) : dirF ((pth ns ++ Str.ofString "///") ++ txt n) = pth ns := by
  rw [dir_of (k := 2) (C := catL ns) (B := dg n) ?_ (dg_free h0) (catL_last hs h)]
  · unfold pth; rw [pthL_ne h]
  · rw [cps_app, cps_app, sl3_eq, pth_cps, pthL_ne h]
    show catL ns ++ [47, 47, 47] ++ dg n = _
    simp [List.replicate]
theorem ends_sl (x : Str) : Txt.endswith x sl = true ↔ x.cps.toList.getLast? = some 47 := by
  have h1 : sl.length = 1 := by rw [sl_eq]; rfl
  unfold Txt.endswith
  rw [h1, Bool.and_eq_true, decide_eq_true_eq]
  have hl := str_len x
  constructor
  · rintro ⟨h2, h3⟩
    have h4 := (at_one x (x.length - 1)).mp ⟨by rw [h1]; omega, h3⟩
    rw [List.getLast?_eq_getElem?, ← hl]; exact h4
  · intro h2
    rw [List.getLast?_eq_getElem?, ← hl] at h2
    have h4 := (at_one x (x.length - 1)).mpr h2
    refine ⟨?_, h4.2⟩
    have := h4.1
    have h5 : x.cps.toList ≠ [] := by
      intro e
      rw [e] at h2
      simp at h2
    have := List.length_pos_iff.mpr h5
    omega
theorem starts_txt {n : Int} (h0 : 0 ≤ n) : Txt.startswith (txt n) sl = false := by
  cases h : Txt.startswith (txt n) sl with
  | false => rfl
  | true =>
    unfold Txt.startswith at h
    rw [Bool.and_eq_true, decide_eq_true_eq] at h
    have h2 := (at_one (txt n) 0).mp h
    exact absurd (List.mem_of_getElem? h2) (dg_free h0)
theorem pth_ne (ns : List Int) : (pth ns).length ≠ 0 := by
  rw [str_len, pth_cps]
  cases ns with
  | nil => decide
  | cons a r => simp [pthL, catL]
theorem join_pth {ns : List Int} {n : Int} (hs : Small ns) : joinF (pth ns) (txt n) = pth (ns ++ [n]) := by
  apply Str.ext'
  apply Array.toList_inj.mp
  rw [pth_snoc]
  unfold joinF
  by_cases h : ns = []
  · subst h
    rw [if_pos ((ends_sl _).mpr (by rw [pth_cps]; rfl)), cps_app, pth_cps]
    rfl
  · rw [if_neg, cps_app, cps_app, pth_cps, pthL_ne h, show (Str.ofString "/").cps.toList = [47] from by decide +kernel]
    · rfl
    · intro q
      rw [ends_sl, pth_cps, pthL_ne h] at q
      obtain ⟨D, c, e, hc⟩ := catL_last hs h
      rw [e] at q
      simp at q
      exact hc q
theorem pth_len {ns : List Int} (hs : Small ns) : (pth ns).length ≤ 11 * ns.length + 1 := by
  rw [str_len, pth_cps]
  have h : ∀ l : List Int, Small l → (catL l).length ≤ 11 * l.length := by
    intro l
    induction l with
    | nil => intro _; simp [catL]
    | cons a r ih =>
      intro hl
      have h1 := ih fun n hn => hl n (.tail _ hn)
      have h2 := txt_len (hl a (.head _)).1 (hl a (.head _)).2
      rw [str_len] at h2
      have e : catL (a :: r) = (47 :: dg a) ++ catL r := by simp [catL]
      rw [e, List.length_append, List.length_cons, List.length_cons]
      have h3 : (dg a).length ≤ 10 := h2
      omega
  cases ns with
  | nil => decide
  | cons a r => exact Nat.le_succ_of_le (h _ hs)
theorem pth_root {ns : List Int} (hs : Small ns) : pth ns = sl ↔ ns = [] := by
  constructor
  · intro e
    by_cases h : ns = []
    · exact h
    · obtain ⟨D, c, e2, hc⟩ := catL_last hs h
      have h2 : (pth ns).cps.toList = [47] := by rw [e, sl_eq]
      rw [pth_cps, pthL_ne h, e2] at h2
      have h3 : c ∈ [47] := by rw [← h2]; simp
      exact absurd (List.mem_singleton.mp h3) hc
  · rintro rfl; rw [sl_eq]; rfl

/-- texts joined by a slash -/
noncomputable def jl : List (List Nat) → List Nat
  | [] => []
  | [a] => a
  | a :: b :: r => a ++ 47 :: jl (b :: r)
theorem cut_one {a a' X X' : List Nat} (ha : 47 ∉ a) (ha' : 47 ∉ a') (e : a ++ 47 :: X = a' ++ 47 :: X') : a = a' ∧ X = X' := by
  induction a generalizing a' with
  | nil =>
    cases a' with
    | nil => exact ⟨rfl, by simpa using e⟩
    | cons c r =>
      simp at e
      exact absurd (by rw [← e.1]; simp) ha'
  | cons c r ih =>
    cases a' with
    | nil =>
      simp at e
      exact absurd (by rw [e.1]; simp) ha
    | cons c' r' =>
      simp at e
      obtain ⟨h1, h2⟩ := ih (a' := r') (fun h => ha (.tail _ h)) (fun h => ha' (.tail _ h)) e.2
      exact ⟨by rw [e.1, h1], h2⟩
theorem jl_inj : ∀ {P Q : List (List Nat)}, P ≠ [] → Q ≠ [] → (∀ p ∈ P, 47 ∉ p) → (∀ q ∈ Q, 47 ∉ q) → jl P = jl Q → P = Q
  | [], _, h, _, _, _, _ => absurd rfl h
  | _, [], _, h, _, _, _ => absurd rfl h
  | [a], [b], _, _, _, _, e => by rw [show a = b from e]
  | [a], b :: c :: r, _, _, hP, _, e => by
    have e' : a = b ++ 47 :: jl (c :: r) := e
    exact absurd (by rw [e']; simp) (hP a (.head _))
  | a :: b :: r, [c], _, _, _, hQ, e => by
    have e' : a ++ 47 :: jl (b :: r) = c := e
    exact absurd (by rw [← e']; simp) (hQ c (.head _))
  | a :: b :: r, c :: d :: r', _, _, hP, hQ, e => by
    have e' : a ++ 47 :: jl (b :: r) = c ++ 47 :: jl (d :: r') := e
    obtain ⟨h1, h2⟩ := cut_one (hP a (.head _)) (hQ c (.head _)) e'
    rw [h1, jl_inj (P := b :: r) (Q := d :: r') (by simp) (by simp) (fun p hp => hP p (.tail _ hp)) (fun q hq => hQ q (.tail _ hq)) h2]
theorem join_cps : ∀ P : List Str, (Str.join sl P).cps.toList = jl (P.map fun p => p.cps.toList)
  | [] => rfl
  | [a] => rfl
  | a :: b :: r => by
    show (a ++ sl ++ Str.join sl (b :: r)).cps.toList = _
    rw [cps_app, cps_app, join_cps (b :: r), sl_eq]
    show a.cps.toList ++ [47] ++ _ = a.cps.toList ++ 47 :: _
    simp
theorem split_of {x : Str} {P : List Str} (hne : P ≠ []) (hf : ∀ p ∈ P, 47 ∉ p.cps.toList) (hx : x.cps.toList = jl (P.map fun p => p.cps.toList)) : Txt.split x sl = P := by
  have h1 := StrLaws.join_split x sl
  have h2 : ∀ p ∈ Txt.split x sl, 47 ∉ p.cps.toList := by rw [sl_eq]; exact StrLaws.split_free x 47
  have h3 : Txt.split x sl ≠ [] := by
    intro e
    have := split_pos x sl
    rw [e] at this
    simp at this
  have h4 := jl_inj (P := (Txt.split x sl).map fun p => p.cps.toList) (Q := P.map fun p => p.cps.toList) (by simpa using h3) (by simpa using hne) (by
    intro p hp
    obtain ⟨q, hq, rfl⟩ := List.mem_map.mp hp
    exact h2 q hq) (by
    intro p hp
    obtain ⟨q, hq, rfl⟩ := List.mem_map.mp hp
    exact hf q hq) (by rw [← join_cps, h1, hx])
  have inj : Function.Injective fun p : Str => p.cps.toList := by
    intro a b e
    exact Str.ext' (Array.toList_inj.mp e)
  exact (List.map_inj_right inj).mp h4
theorem jl_cat : ∀ (ns : List Int), ns ≠ [] → jl ([] :: ns.map fun n => dg n) = catL ns
  | [], h => absurd rfl h
  | [a], _ => by simp [jl, catL]
  | a :: b :: r, _ => by
    have ih := jl_cat (b :: r) (by simp)
    have e : jl ([] :: (b :: r).map fun n => dg n) = 47 :: jl ((b :: r).map fun n => dg n) := rfl
    rw [e] at ih
    show 47 :: (dg a ++ 47 :: jl ((b :: r).map fun n => dg n)) = _
    rw [ih]
    simp [catL]
theorem split_pth {ns : List Int} (hs : Small ns) : Txt.split (pth ns) sl = if ns = [] then [Str.ofString "", Str.ofString ""] else Str.ofString "" :: ns.map txt := by
  have he : (Str.ofString "").cps.toList = [] := by decide +kernel
  by_cases h : ns = []
  · rw [if_pos h]
    subst h
    refine split_of (by simp) ?_ ?_
    · intro p hp
      simp at hp
      rw [hp, he]; simp
    · rw [pth_cps]
      show [47] = jl [(Str.ofString "").cps.toList, (Str.ofString "").cps.toList]
      rw [he]; rfl
  · rw [if_neg h]
    refine split_of (by simp) ?_ ?_
    · intro p hp
      rcases List.mem_cons.mp hp with rfl | hp
      · rw [he]; simp
      · obtain ⟨n, hn, rfl⟩ := List.mem_map.mp hp
        exact dg_free (hs n hn).1
    · rw [pth_cps, pthL_ne h, ← jl_cat ns h]
      show _ = jl ((Str.ofString "").cps.toList :: (ns.map txt).map fun p => p.cps.toList)
      rw [he, List.map_map]
      rfl
/-- the number of these figures to a base, the greatest first -/
noncomputable def dv (b : Int) (ns : List Int) : Int := ns.foldl (fun a n => a * b + n) 0
theorem dv_snoc (b : Int) (ns : List Int) (n : Int) : dv b (ns ++ [n]) = dv b ns * b + n := by simp [dv]
theorem txt_nonempty {n : Int} (h0 : 0 ≤ n) : (txt n != Str.ofString "") = true := by
  rw [bne_iff_ne]
  intro e
  have h : dg n = [] := by unfold dg; rw [e]; decide +kernel
  exact dg_ne h0 h
theorem val_pth {b : Int} {ns : List Int} (hs : Small ns) : valF b (Txt.split (pth ns) sl) = dv b ns := by
  have h1 : ∀ a, valStep b a (Str.ofString "") = a := fun a => valStep_none (by decide +kernel)
  rw [split_pth hs]
  by_cases h : ns = []
  · rw [if_pos h, h]
    unfold valF
    simp only [List.foldl_cons, List.foldl_nil, h1]
    rfl
  · rw [if_neg h]
    unfold valF dv
    rw [List.foldl_cons, h1, List.foldl_map]
    have e : ∀ (l : List Int) (a : Int), Small l → List.foldl (fun x y => valStep b x (txt y)) a l = List.foldl (fun a n => a * b + n) a l := by
      intro l
      induction l with
      | nil => intro a _; rfl
      | cons n r ih =>
        intro a hl
        rw [List.foldl_cons, List.foldl_cons, valStep_some (txt_nonempty (hl n (.head _)).1) (txt_reads (hl n (.head _)).1 (hl n (.head _)).2)]
        exact ih _ fun m hm => hl m (.tail _ hm)
    exact e ns 0 hs
theorem split_ok {ns : List Int} (hs : Small ns) : ∀ p ∈ Txt.split (pth ns) sl, p = Str.ofString "" ∨ (p.length ≤ 640 ∧ ∃ n, PySem.intText? p = some n) := by
  intro p hp
  rw [split_pth hs] at hp
  split at hp
  · simp at hp; exact .inl hp
  · rcases List.mem_cons.mp hp with rfl | hp
    · exact .inl rfl
    · obtain ⟨n, hn, rfl⟩ := List.mem_map.mp hp
      exact .inr ⟨Nat.le_trans (txt_len (hs n hn).1 (hs n hn).2) (by decide), n, txt_reads (hs n hn).1 (hs n hn).2⟩
theorem kept_eq {ns : List Int} (h : ns ≠ []) : sl ++ Txt.join sl (ns.map txt) = pth ns := by
  apply Str.ext'
  apply Array.toList_inj.mp
  rw [cps_app, pth_cps, pthL_ne h, ← jl_cat ns h]
  have e : Txt.join sl (ns.map txt) = Str.join sl (ns.map txt) := StrLaws.glued_eq_join _ _
  rw [e, join_cps, List.map_map, sl_eq]
  cases ns with
  | nil => exact absurd rfl h
  | cons a r => rfl
end Mine
end PartP6

section PartE1
open PySem PySem.W PySem.Spec PySem.Calls PyProof.Rows
set_option maxRecDepth 100000
set_option maxHeartbeats 2000000
namespace Mine
theorem anewE1 : True := by
  w_top off
  trivial
theorem pow_10 {n : Nat} (h : n ≤ 10) : (2 : Int) ^ n ≤ 1024 := by
  have h1 : (2 : Nat) ^ n ≤ 2 ^ 10 := Nat.pow_le_pow_right (by decide) h
  have h2 : ((2 ^ n : Nat) : Int) = (2 : Int) ^ n := by simp
  omega
theorem pth_nil : sl = pth [] := sl_eq
theorem take_snoc {rs : List Int} {i : Nat} {z : Int} (h : rs[i]? = some z) : rs.take i ++ [z] = rs.take (i + 1) := by
  rw [List.take_add_one, h]; rfl
theorem ints_rep (k : Nat) (t : Tok) : IntsAre (List.replicate k (Value.int 0 t)) (List.replicate k 0) := by
  induction k with
  | zero => exact .nil
  | succ k ih => exact .cons _ _ ih
theorem str_txt {prog : Program} {w : World} {A : Around} {E : Value → Shared → Prop} {s : Shared} {n : Int} {t : Tok} {Q : Value → Shared → Prop} (h0 : 0 ≤ n) (h1 : n < 10 ^ 10) (h : Q (.str (txt n) s.toks) { s with toks := s.toks + 1 }) : wpAny (model prog w) A (call (.type "str") [.int n t]) Q E s := by
  refine P.str_of_int ?_ h
  have h2 : n.natAbs < 2 ^ 64 := by omega
  by_cases hz : n.natAbs = 0
  · rw [hz]; decide +kernel
  · exact Nat.lt_of_lt_of_le ((Nat.log2_lt hz).mpr h2) (by decide)
theorem p_value (w : World) (ns : List Int) (t : Tok) (b : Int) (tb : Tok) (hs : Small ns) (hl : ns.length ≤ 16) (hb : 0 ≤ b ∧ b ≤ 1024) : PCon w 4 185 [.str (pth ns) t, .int b tb] (fun t => .int (dv b ns) t) := by
  have h := c_value w (pth ns) t b tb (Nat.le_trans (pth_len hs) (by omega)) hb (split_ok hs)
  rw [val_pth hs] at h
  exact h
theorem p_dirname (w : World) (ns : List Int) (n : Int) (t : Tok) (hs : Small (ns ++ [n])) (hl : ns.length ≤ 16) : PCon w 4 171 [.str (pth (ns ++ [n])) t] (fun t => .str (pth ns) t) := by
  have h := c_dirname w (pth (ns ++ [n])) t (Nat.le_trans (pth_len hs) (by simp; omega))
  rw [dir_pth hs] at h
  exact h
theorem p_basename (w : World) (ns : List Int) (n : Int) (t : Tok) (hs : Small (ns ++ [n])) (hl : ns.length ≤ 16) : PCon w 4 164 [.str (pth (ns ++ [n])) t] (fun t => .str (txt n) t) := by
  have h := c_basename w (pth (ns ++ [n])) t (Nat.le_trans (pth_len hs) (by simp; omega))
  rw [bas_pth hs.last.1] at h
  exact h
theorem p_dir3 (w : World) (ns : List Int) (n : Int) (t : Tok) (hs : Small (ns ++ [n])) (hl : ns.length ≤ 16) (hne : ns ≠ []) : PCon w 4 171 [.str ((pth ns ++ Str.ofString "///") ++ txt n) t] (fun t => .str (pth ns) t) := by
  have h := c_dirname w ((pth ns ++ Str.ofString "///") ++ txt n) t (by
    rw [str_len, cps_app, cps_app, sl3_eq]
    have h1 := pth_len hs.left
    have h2 := txt_len hs.last.1 hs.last.2
    rw [str_len] at h1 h2
    simp only [List.length_append, List.length_cons, List.length_nil]
    omega)
  rw [dir3_pth hs.left hs.last.1 hne] at h
  exact h
theorem p_join (w : World) (ns : List Int) (n : Int) (t ty : Tok) (hs : Small (ns ++ [n])) (hl : ns.length ≤ 16) : PCon w 4 157 [.str (pth ns) t, .str (txt n) ty] (fun t => .str (pth (ns ++ [n])) t) := by
  have h := c_join w (pth ns) t (txt n) ty (Nat.le_trans (pth_len hs.left) (by omega)) (Nat.le_trans (txt_len hs.last.1 hs.last.2) (by omega)) (starts_txt hs.last.1) (pth_ne ns)
  rw [join_pth hs.left] at h
  exact h
theorem add_led {prog : Program} {w : World} {A : Around} {E : Value → Shared → Prop} {s : Shared} {h₀ : Heap} {L a b : Addr} {m : Str → Option Value} {news : Led} {vs ws : List Value} {c c2 : Nat} {Q : Value → Shared → Prop} (F : Fr h₀ L s.heap m) (N : News h₀ L s.heap news) (ha : (a, W.listOf vs.toArray c) ∈ news) (hb : (b, W.listOf ws.toArray c2) ∈ news)
    (hz : vs.length + ws.length ≤ 4096) (h : ∀ D h', Fr h₀ L h' m → News h₀ L h' ((D, W.listOf (vs ++ ws).toArray 0) :: news) → (∀ p ∈ news, p.1 < D) → Q (.ref D) { s with heap := h' }) : wpAny (model prog w) A (binaryOp .Add (.ref a) (.ref b)) Q E s :=
  kmk_add_lit (its := vs.toArray) (its2 := ws.toArray) F N ⟨_, (N _ ha).1, rfl, c, rfl⟩ ⟨_, (N _ hb).1, rfl, c2, rfl⟩ (by simp) h (by rw [sizeLine_eq]; simp; omega)
theorem rev_led {prog : Program} {w : World} {A : Around} {E : Value → Shared → Prop} {s : Shared} {h₀ : Heap} {L l : Addr} {m : Str → Option Value} {news : Led} {value slice : PySem.Expr} {vs : List Value} {c : Nat} {vk : Value} {ops : List Value} {Q : Value → Shared → Prop} (F : Fr h₀ L s.heap m) (N : News h₀ L s.heap news) (hm : (l, W.listOf vs.toArray c) ∈ news) (pk : IsPart vk (some (-1)))
    (hz : vs.length ≤ 4096) (h : ∀ D h', Fr h₀ L h' m → News h₀ L h' ((D, W.listOf vs.reverse.toArray 0) :: news) → (∀ p ∈ news, p.1 < D) → Q (.ref D) { s with heap := h' })
    (hs : subscripted slice false (.ref l) (.ref s.heap.objs.size) = operate ops (getItem (.ref l) (.ref s.heap.objs.size))) (ht : ∀ r, letTemporaryGo value (.ref l) r = pure ()) :
    wpAny (model prog w) A (subscriptTail value slice (.ref l) (.ref s.heap.objs.size)) Q E { s with heap := s.heap.push { cls := .type "slice", data := .fields #[.none, .none, vk] } } :=
  krv_lit (its := vs.toArray) F N ⟨_, (N _ hm).1, rfl, c, rfl⟩ pk (by simp) h hs ht (by rw [sizeLine_eq]; simp; omega)
theorem c_folders (w : World) (x : Int) (n : Nat) (dp0 : Nat) (t1 t2 t3 : Tok) (hx : 0 ≤ x ∧ x < 2 ^ 48) (hn : 0 < n ∧ n ≤ 10) (hd : ndig n x ≤ dp0) (hd2 : dp0 ≤ 16) : Con w 95 178 [.int x t1, .int n t2, .int dp0 t3] (fun v own => ∃ t, v = .str (pth ((digsOf n x ++ List.replicate (dp0 - ndig n x) 0).reverse)) t ∧ own = []) := by
  unfold Con
  intro loose mean mg mb dp un gd cn cs a ccd cl outer A₀ base h₀ L m news own T s Q E B F X N Tp C1 C2 hk hS hT hL hdp hu hret
  have e := hS.eq
  subst e
  refine wpAny_call ?_
  k_dflt cell_enter
  have C1' := C1.keeps (Fr.keep ‹Fr h₀ L _ m›)
  have C2' := C2.keeps (Fr.keep ‹Fr h₀ L _ m›)
  repeat' (first | with_reducible ((with_reducible show wpAny _ _ (exec (Stmt.For ..) _) _ _ _); (k_here; (rename Fr _ _ _ _ => lF'); (with_unfolding_all refine' For_invVF lF' (by exact rfl) (by exact rfl) ?_; k_whole))) | with_reducible ((with_reducible show wpAny _ _ (call (Value.type "str") _) _ _ _); (k_here; k_dflt (refine' str_txt (by omega) (by omega) ?_))) | with_reducible ((with_reducible show wpAny _ _ (subscriptTail (PySem.Expr.Name ..) (PySem.Expr.Slice ..) (Value.ref _) (Value.ref _)) _ _ _); (k_here; k_dflt (refine' rev_led (by k_asm) (by k_asm) (by k_mem) (by exact IsPart.int _ _) (by simp; omega) ?_ (by with_unfolding_all rfl) (by kmk_pure)); intro _ _ _ _ l1; (first | k_lt l1 | replace l1 := allLt_of l1); revert l1; intro _)) | with_reducible ((with_reducible show wpAny _ _ (binaryOp .Add (Value.ref _) (Value.ref _)) _ _ _); (k_here; k_dflt (refine' add_led (by k_asm) (by k_asm) (by k_mem) (by k_mem) (by simp; omega) ?_); intro _ _ _ _ l1; (first | k_lt l1 | replace l1 := allLt_of l1); revert l1; intro _)) | with_reducible ((with_reducible show wpAny _ _ (binaryOp .Mult (Value.ref _) (Value.int _ _)) _ _ _); (k_here; k_dflt (refine' mul_one (by k_asm) (by k_asm) (by k_mem) (by omega) (by omega) ?_); intro _ _ _ _ l1; (first | k_lt l1 | replace l1 := allLt_of l1); revert l1; intro _)) | with_reducible ((with_reducible show wpAny _ _ (call (Value.builtin "len") _) _ _ _); (k_here; k_dflt (refine' len_led (by k_asm) (by k_mem) (by first | assumption | omega | (simp; omega)) ?_))) | ((with_reducible show wpAny _ _ (exec (Stmt.Assign ..) _) _ _ _); (rename Fr _ _ _ _ => kFz); (dsimp only at kFz); (revert kFz; intro _); walk1) | (k_unfold; (try dsimp only)) | (k_end; wrow_close) | walk1 | (dsimp only; first | with_reducible ((with_reducible show wpAny _ _ (exec (Stmt.For ..) _) _ _ _); (k_here; (rename Fr _ _ _ _ => lF'); (with_unfolding_all refine' For_invVF lF' (by exact rfl) (by exact rfl) ?_; k_whole))) | with_reducible ((with_reducible show wpAny _ _ (call (Value.type "str") _) _ _ _); (k_here; k_dflt (refine' str_txt (by omega) (by omega) ?_))) | with_reducible ((with_reducible show wpAny _ _ (subscriptTail (PySem.Expr.Name ..) (PySem.Expr.Slice ..) (Value.ref _) (Value.ref _)) _ _ _); (k_here; k_dflt (refine' rev_led (by k_asm) (by k_asm) (by k_mem) (by exact IsPart.int _ _) (by simp; omega) ?_ (by with_unfolding_all rfl) (by kmk_pure)); intro _ _ _ _ l1; (first | k_lt l1 | replace l1 := allLt_of l1); revert l1; intro _)) | with_reducible ((with_reducible show wpAny _ _ (binaryOp .Add (Value.ref _) (Value.ref _)) _ _ _); (k_here; k_dflt (refine' add_led (by k_asm) (by k_asm) (by k_mem) (by k_mem) (by simp; omega) ?_); intro _ _ _ _ l1; (first | k_lt l1 | replace l1 := allLt_of l1); revert l1; intro _)) | with_reducible ((with_reducible show wpAny _ _ (binaryOp .Mult (Value.ref _) (Value.int _ _)) _ _ _); (k_here; k_dflt (refine' mul_one (by k_asm) (by k_asm) (by k_mem) (by omega) (by omega) ?_); intro _ _ _ _ l1; (first | k_lt l1 | replace l1 := allLt_of l1); revert l1; intro _)) | with_reducible ((with_reducible show wpAny _ _ (call (Value.builtin "len") _) _ _ _); (k_here; k_dflt (refine' len_led (by k_asm) (by k_mem) (by first | assumption | omega | (simp; omega)) ?_))) | ((with_reducible show wpAny _ _ (exec (Stmt.Assign ..) _) _ _ _); (rename Fr _ _ _ _ => kFz); (dsimp only at kFz); (revert kFz; intro _); walk1) | walk1) | (leave1; walk_say "STEP leave1"; try dsimp only) | fail "no step")
  refine Con.use (c_int2 w x n t1 t2 hx hn) (by k_asm) (by k_asm) (by k_asm) (by k_asm) (by k_asm) C1' C2' rfl .app hT hL (by first | exact room1 hdp (by decide) | ktr_room) (by first | exact units1 hu (by decide) | ktr_units) ?_
  rintro v own' T1 h1 tk1 ⟨la, ca, vs, rfl, rfl, hvs⟩ hT1 F1 N1 hlt1
  simp only [List.cons_append, List.nil_append] at N1
  have hvl : vs.length = ndig n x := by rw [hvs.length, digs_len]
  have hla := hlt1 _ (.head _)
  repeat' (first | with_reducible ((with_reducible show wpAny _ _ (exec (Stmt.For ..) _) _ _ _); (k_here; (rename Fr _ _ _ _ => lF'); (with_unfolding_all refine' For_invVF lF' (by exact rfl) (by exact rfl) ?_; k_whole))) | with_reducible ((with_reducible show wpAny _ _ (call (Value.type "str") _) _ _ _); (k_here; k_dflt (refine' str_txt (by omega) (by omega) ?_))) | with_reducible ((with_reducible show wpAny _ _ (subscriptTail (PySem.Expr.Name ..) (PySem.Expr.Slice ..) (Value.ref _) (Value.ref _)) _ _ _); (k_here; k_dflt (refine' rev_led (by k_asm) (by k_asm) (by k_mem) (by exact IsPart.int _ _) (by simp; omega) ?_ (by with_unfolding_all rfl) (by kmk_pure)); intro _ _ _ _ l1; (first | k_lt l1 | replace l1 := allLt_of l1); revert l1; intro _)) | with_reducible ((with_reducible show wpAny _ _ (binaryOp .Add (Value.ref _) (Value.ref _)) _ _ _); (k_here; k_dflt (refine' add_led (by k_asm) (by k_asm) (by k_mem) (by k_mem) (by simp; omega) ?_); intro _ _ _ _ l1; (first | k_lt l1 | replace l1 := allLt_of l1); revert l1; intro _)) | with_reducible ((with_reducible show wpAny _ _ (binaryOp .Mult (Value.ref _) (Value.int _ _)) _ _ _); (k_here; k_dflt (refine' mul_one (by k_asm) (by k_asm) (by k_mem) (by omega) (by omega) ?_); intro _ _ _ _ l1; (first | k_lt l1 | replace l1 := allLt_of l1); revert l1; intro _)) | with_reducible ((with_reducible show wpAny _ _ (call (Value.builtin "len") _) _ _ _); (k_here; k_dflt (refine' len_led (by k_asm) (by k_mem) (by first | assumption | omega | (simp; omega)) ?_))) | ((with_reducible show wpAny _ _ (exec (Stmt.Assign ..) _) _ _ _); (rename Fr _ _ _ _ => kFz); (dsimp only at kFz); (revert kFz; intro _); walk1) | (k_unfold; (try dsimp only)) | (k_end; wrow_close) | walk1 | (dsimp only; first | with_reducible ((with_reducible show wpAny _ _ (exec (Stmt.For ..) _) _ _ _); (k_here; (rename Fr _ _ _ _ => lF'); (with_unfolding_all refine' For_invVF lF' (by exact rfl) (by exact rfl) ?_; k_whole))) | with_reducible ((with_reducible show wpAny _ _ (call (Value.type "str") _) _ _ _); (k_here; k_dflt (refine' str_txt (by omega) (by omega) ?_))) | with_reducible ((with_reducible show wpAny _ _ (subscriptTail (PySem.Expr.Name ..) (PySem.Expr.Slice ..) (Value.ref _) (Value.ref _)) _ _ _); (k_here; k_dflt (refine' rev_led (by k_asm) (by k_asm) (by k_mem) (by exact IsPart.int _ _) (by simp; omega) ?_ (by with_unfolding_all rfl) (by kmk_pure)); intro _ _ _ _ l1; (first | k_lt l1 | replace l1 := allLt_of l1); revert l1; intro _)) | with_reducible ((with_reducible show wpAny _ _ (binaryOp .Add (Value.ref _) (Value.ref _)) _ _ _); (k_here; k_dflt (refine' add_led (by k_asm) (by k_asm) (by k_mem) (by k_mem) (by simp; omega) ?_); intro _ _ _ _ l1; (first | k_lt l1 | replace l1 := allLt_of l1); revert l1; intro _)) | with_reducible ((with_reducible show wpAny _ _ (binaryOp .Mult (Value.ref _) (Value.int _ _)) _ _ _); (k_here; k_dflt (refine' mul_one (by k_asm) (by k_asm) (by k_mem) (by omega) (by omega) ?_); intro _ _ _ _ l1; (first | k_lt l1 | replace l1 := allLt_of l1); revert l1; intro _)) | with_reducible ((with_reducible show wpAny _ _ (call (Value.builtin "len") _) _ _ _); (k_here; k_dflt (refine' len_led (by k_asm) (by k_mem) (by first | assumption | omega | (simp; omega)) ?_))) | ((with_reducible show wpAny _ _ (exec (Stmt.Assign ..) _) _ _ _); (rename Fr _ _ _ _ => kFz); (dsimp only at kFz); (revert kFz; intro _); walk1) | walk1) | (leave1; walk_say "STEP leave1"; try dsimp only) | fail "no step")
  rename_i D2 h2 F2 N2 lD
  obtain ⟨rs, hrs⟩ : ∃ rs, rs = (digsOf n x ++ List.replicate (dp0 - ndig n x) 0).reverse := ⟨_, rfl⟩
  obtain ⟨ws, hws⟩ : ∃ ws, ws = (vs ++ List.replicate ((dp0 : Int) - (vs.length : Int)).toNat (Value.int 0 (tk + 1 + 1))).reverse := ⟨_, rfl⟩
  rw [← hws] at N2
  obtain ⟨nw0, Nw, hsub⟩ : ∃ nw0, News _ _ _ ((D2, W.listOf ws.toArray 0) :: nw0) ∧ ∀ p ∈ own ++ T1, p ∈ nw0 := ⟨_, N2, fun p hp => .tail _ (.tail _ (.tail _ (.tail _ hp)))⟩
  clear N2
  rw [← hrs] at hret
  have hI : IntsAre ws rs := by
    rw [hws, hrs]
    refine intsAre_rev (hvs.append ?_)
    rw [hvl, Int.toNat_sub]
    exact ints_rep _ _
  have hlr : rs.length = dp0 := by
    rw [hrs, List.length_reverse, List.length_append, List.length_replicate, digs_len]; exact Nat.add_sub_of_le hd
  have hlw : ws.length = dp0 := by rw [← hlr]; exact hI.length
  have hsm : Small rs := by
    intro z hz
    rw [hrs, List.mem_reverse, List.mem_append] at hz
    rcases hz with hz | hz
    · have h9 := digs_lt z hz
      have h8 : (2 : Int) ^ n ≤ 1024 := pow_10 hn.2
      exact ⟨h9.1, Int.lt_of_lt_of_le h9.2 (Int.le_trans h8 (by decide))⟩
    · rw [(List.mem_replicate.mp hz).2]; omega
  refine loop_list (x := Str.ofString "figure") (vs := ws) (lo := W.listOf ws.toArray 0) (c := 0) [Str.ofString "path"] (fun i m nw => (∃ t, m (Str.ofString "path") = some (.str (pth (rs.take i)) t)) ∧ nw = (D2, W.listOf ws.toArray 0) :: nw0) rfl F2 Nw (.head _) rfl rfl ?_ ?_ ?_
  · exact ⟨⟨_, someStr pth_nil⟩, rfl⟩
  · rintro i v m₁ news₁ I it h tk hv ⟨⟨ta, ha⟩, rfl⟩ hne hlt hm F3 N3
    have hi : i < ws.length := (List.getElem?_eq_some_iff.mp hv).1
    obtain ⟨z, hz⟩ : ∃ z, rs[i]? = some z := ⟨_, List.getElem?_eq_getElem (Nat.lt_of_lt_of_le hi (Nat.le_of_eq (hlw.trans hlr.symm)))⟩
    obtain ⟨tz, hv2⟩ := hI.get _ z hz
    have hv3 : v = .int z tz := by rw [hv2] at hv; exact (Option.some.inj hv).symm
    subst hv3
    have hzs := hsm z (List.mem_of_getElem? hz)
    simp only [List.map_cons, List.map_nil, over, ha] at F3
    refine absW ?_
    intro Qz Ez hQz hEz
    repeat' (first | with_reducible ((with_reducible show wpAny _ _ (exec (Stmt.For ..) _) _ _ _); (k_here; (rename Fr _ _ _ _ => lF'); (with_unfolding_all refine' For_invVF lF' (by exact rfl) (by exact rfl) ?_; k_whole))) | with_reducible ((with_reducible show wpAny _ _ (call (Value.type "str") _) _ _ _); (k_here; k_dflt (refine' str_txt (by omega) (by omega) ?_))) | with_reducible ((with_reducible show wpAny _ _ (subscriptTail (PySem.Expr.Name ..) (PySem.Expr.Slice ..) (Value.ref _) (Value.ref _)) _ _ _); (k_here; k_dflt (refine' rev_led (by k_asm) (by k_asm) (by k_mem) (by exact IsPart.int _ _) (by simp; omega) ?_ (by with_unfolding_all rfl) (by kmk_pure)); intro _ _ _ _ l1; (first | k_lt l1 | replace l1 := allLt_of l1); revert l1; intro _)) | with_reducible ((with_reducible show wpAny _ _ (binaryOp .Add (Value.ref _) (Value.ref _)) _ _ _); (k_here; k_dflt (refine' add_led (by k_asm) (by k_asm) (by k_mem) (by k_mem) (by simp; omega) ?_); intro _ _ _ _ l1; (first | k_lt l1 | replace l1 := allLt_of l1); revert l1; intro _)) | with_reducible ((with_reducible show wpAny _ _ (binaryOp .Mult (Value.ref _) (Value.int _ _)) _ _ _); (k_here; k_dflt (refine' mul_one (by k_asm) (by k_asm) (by k_mem) (by omega) (by omega) ?_); intro _ _ _ _ l1; (first | k_lt l1 | replace l1 := allLt_of l1); revert l1; intro _)) | with_reducible ((with_reducible show wpAny _ _ (call (Value.builtin "len") _) _ _ _); (k_here; k_dflt (refine' len_led (by k_asm) (by k_mem) (by first | assumption | omega | (simp; omega)) ?_))) | ((with_reducible show wpAny _ _ (exec (Stmt.Assign ..) _) _ _ _); (rename Fr _ _ _ _ => kFz); (dsimp only at kFz); (revert kFz; intro _); walk1) | (k_unfold; (try dsimp only)) | (k_end; wrow_close) | walk1 | (dsimp only; first | with_reducible ((with_reducible show wpAny _ _ (exec (Stmt.For ..) _) _ _ _); (k_here; (rename Fr _ _ _ _ => lF'); (with_unfolding_all refine' For_invVF lF' (by exact rfl) (by exact rfl) ?_; k_whole))) | with_reducible ((with_reducible show wpAny _ _ (call (Value.type "str") _) _ _ _); (k_here; k_dflt (refine' str_txt (by omega) (by omega) ?_))) | with_reducible ((with_reducible show wpAny _ _ (subscriptTail (PySem.Expr.Name ..) (PySem.Expr.Slice ..) (Value.ref _) (Value.ref _)) _ _ _); (k_here; k_dflt (refine' rev_led (by k_asm) (by k_asm) (by k_mem) (by exact IsPart.int _ _) (by simp; omega) ?_ (by with_unfolding_all rfl) (by kmk_pure)); intro _ _ _ _ l1; (first | k_lt l1 | replace l1 := allLt_of l1); revert l1; intro _)) | with_reducible ((with_reducible show wpAny _ _ (binaryOp .Add (Value.ref _) (Value.ref _)) _ _ _); (k_here; k_dflt (refine' add_led (by k_asm) (by k_asm) (by k_mem) (by k_mem) (by simp; omega) ?_); intro _ _ _ _ l1; (first | k_lt l1 | replace l1 := allLt_of l1); revert l1; intro _)) | with_reducible ((with_reducible show wpAny _ _ (binaryOp .Mult (Value.ref _) (Value.int _ _)) _ _ _); (k_here; k_dflt (refine' mul_one (by k_asm) (by k_asm) (by k_mem) (by omega) (by omega) ?_); intro _ _ _ _ l1; (first | k_lt l1 | replace l1 := allLt_of l1); revert l1; intro _)) | with_reducible ((with_reducible show wpAny _ _ (call (Value.builtin "len") _) _ _ _); (k_here; k_dflt (refine' len_led (by k_asm) (by k_mem) (by first | assumption | omega | (simp; omega)) ?_))) | ((with_reducible show wpAny _ _ (exec (Stmt.Assign ..) _) _ _ _); (rename Fr _ _ _ _ => kFz); (dsimp only at kFz); (revert kFz; intro _); walk1) | walk1) | (leave1; walk_say "STEP leave1"; try dsimp only) | fail "no step")
    refine PCon.use (p_join w (rs.take i) z _ _ (by rw [take_snoc hz]; exact fun y hy => hsm y (List.mem_of_mem_take hy)) (by rw [List.length_take]; exact Nat.le_trans (Nat.min_le_right _ _) (Nat.le_trans (Nat.le_of_eq hlr) hd2))) (by k_asm) (by k_asm) (by k_asm) (by k_asm) (by k_asm) rfl (by first | exact room1 hdp (by decide) | ktr_room) (by first | exact units1 hu (by decide) | ktr_units) ?_
    intro t h4 tk4 F4 N4
    rw [take_snoc hz]
    repeat' (first | with_reducible ((with_reducible show wpAny _ _ (exec (Stmt.For ..) _) _ _ _); (k_here; (rename Fr _ _ _ _ => lF'); (with_unfolding_all refine' For_invVF lF' (by exact rfl) (by exact rfl) ?_; k_whole))) | with_reducible ((with_reducible show wpAny _ _ (call (Value.type "str") _) _ _ _); (k_here; k_dflt (refine' str_txt (by omega) (by omega) ?_))) | with_reducible ((with_reducible show wpAny _ _ (subscriptTail (PySem.Expr.Name ..) (PySem.Expr.Slice ..) (Value.ref _) (Value.ref _)) _ _ _); (k_here; k_dflt (refine' rev_led (by k_asm) (by k_asm) (by k_mem) (by exact IsPart.int _ _) (by simp; omega) ?_ (by with_unfolding_all rfl) (by kmk_pure)); intro _ _ _ _ l1; (first | k_lt l1 | replace l1 := allLt_of l1); revert l1; intro _)) | with_reducible ((with_reducible show wpAny _ _ (binaryOp .Add (Value.ref _) (Value.ref _)) _ _ _); (k_here; k_dflt (refine' add_led (by k_asm) (by k_asm) (by k_mem) (by k_mem) (by simp; omega) ?_); intro _ _ _ _ l1; (first | k_lt l1 | replace l1 := allLt_of l1); revert l1; intro _)) | with_reducible ((with_reducible show wpAny _ _ (binaryOp .Mult (Value.ref _) (Value.int _ _)) _ _ _); (k_here; k_dflt (refine' mul_one (by k_asm) (by k_asm) (by k_mem) (by omega) (by omega) ?_); intro _ _ _ _ l1; (first | k_lt l1 | replace l1 := allLt_of l1); revert l1; intro _)) | with_reducible ((with_reducible show wpAny _ _ (call (Value.builtin "len") _) _ _ _); (k_here; k_dflt (refine' len_led (by k_asm) (by k_mem) (by first | assumption | omega | (simp; omega)) ?_))) | ((with_reducible show wpAny _ _ (exec (Stmt.Assign ..) _) _ _ _); (rename Fr _ _ _ _ => kFz); (dsimp only at kFz); (revert kFz; intro _); walk1) | (k_unfold; (try dsimp only)) | (k_end; wrow_close) | walk1 | (dsimp only; first | with_reducible ((with_reducible show wpAny _ _ (exec (Stmt.For ..) _) _ _ _); (k_here; (rename Fr _ _ _ _ => lF'); (with_unfolding_all refine' For_invVF lF' (by exact rfl) (by exact rfl) ?_; k_whole))) | with_reducible ((with_reducible show wpAny _ _ (call (Value.type "str") _) _ _ _); (k_here; k_dflt (refine' str_txt (by omega) (by omega) ?_))) | with_reducible ((with_reducible show wpAny _ _ (subscriptTail (PySem.Expr.Name ..) (PySem.Expr.Slice ..) (Value.ref _) (Value.ref _)) _ _ _); (k_here; k_dflt (refine' rev_led (by k_asm) (by k_asm) (by k_mem) (by exact IsPart.int _ _) (by simp; omega) ?_ (by with_unfolding_all rfl) (by kmk_pure)); intro _ _ _ _ l1; (first | k_lt l1 | replace l1 := allLt_of l1); revert l1; intro _)) | with_reducible ((with_reducible show wpAny _ _ (binaryOp .Add (Value.ref _) (Value.ref _)) _ _ _); (k_here; k_dflt (refine' add_led (by k_asm) (by k_asm) (by k_mem) (by k_mem) (by simp; omega) ?_); intro _ _ _ _ l1; (first | k_lt l1 | replace l1 := allLt_of l1); revert l1; intro _)) | with_reducible ((with_reducible show wpAny _ _ (binaryOp .Mult (Value.ref _) (Value.int _ _)) _ _ _); (k_here; k_dflt (refine' mul_one (by k_asm) (by k_asm) (by k_mem) (by omega) (by omega) ?_); intro _ _ _ _ l1; (first | k_lt l1 | replace l1 := allLt_of l1); revert l1; intro _)) | with_reducible ((with_reducible show wpAny _ _ (call (Value.builtin "len") _) _ _ _); (k_here; k_dflt (refine' len_led (by k_asm) (by k_mem) (by first | assumption | omega | (simp; omega)) ?_))) | ((with_reducible show wpAny _ _ (exec (Stmt.Assign ..) _) _ _ _); (rename Fr _ _ _ _ => kFz); (dsimp only at kFz); (revert kFz; intro _); walk1) | walk1) | (leave1; walk_say "STEP leave1"; try dsimp only) | fail "no step")
    refine Onto.use (by assumption) ?_
    refine TurnEnd.next (by k_asm) (by k_asm) hne ?_ ⟨?_, ⟨_, rfl⟩, rfl⟩
    · intro q hq; rw [List.mem_singleton.mp hq]; exact hm
    · intro z h1 h2
      simp only [List.mem_cons, List.not_mem_nil, or_false] at h2
      dsimp only
      (repeat (first | rw [if_neg h1] | rw [if_neg h2])); (try rfl)
  · rintro m₁ news₁ h tk ⟨⟨ta, ha⟩, rfl⟩ F3 N3
    simp only [List.map_cons, List.map_nil, over, ha] at F3
    rw [hlw, ← hlr, List.take_length] at F3
    repeat' (first | with_reducible ((with_reducible show wpAny _ _ (exec (Stmt.For ..) _) _ _ _); (k_here; (rename Fr _ _ _ _ => lF'); (with_unfolding_all refine' For_invVF lF' (by exact rfl) (by exact rfl) ?_; k_whole))) | with_reducible ((with_reducible show wpAny _ _ (call (Value.type "str") _) _ _ _); (k_here; k_dflt (refine' str_txt (by omega) (by omega) ?_))) | with_reducible ((with_reducible show wpAny _ _ (subscriptTail (PySem.Expr.Name ..) (PySem.Expr.Slice ..) (Value.ref _) (Value.ref _)) _ _ _); (k_here; k_dflt (refine' rev_led (by k_asm) (by k_asm) (by k_mem) (by exact IsPart.int _ _) (by simp; omega) ?_ (by with_unfolding_all rfl) (by kmk_pure)); intro _ _ _ _ l1; (first | k_lt l1 | replace l1 := allLt_of l1); revert l1; intro _)) | with_reducible ((with_reducible show wpAny _ _ (binaryOp .Add (Value.ref _) (Value.ref _)) _ _ _); (k_here; k_dflt (refine' add_led (by k_asm) (by k_asm) (by k_mem) (by k_mem) (by simp; omega) ?_); intro _ _ _ _ l1; (first | k_lt l1 | replace l1 := allLt_of l1); revert l1; intro _)) | with_reducible ((with_reducible show wpAny _ _ (binaryOp .Mult (Value.ref _) (Value.int _ _)) _ _ _); (k_here; k_dflt (refine' mul_one (by k_asm) (by k_asm) (by k_mem) (by omega) (by omega) ?_); intro _ _ _ _ l1; (first | k_lt l1 | replace l1 := allLt_of l1); revert l1; intro _)) | with_reducible ((with_reducible show wpAny _ _ (call (Value.builtin "len") _) _ _ _); (k_here; k_dflt (refine' len_led (by k_asm) (by k_mem) (by first | assumption | omega | (simp; omega)) ?_))) | ((with_reducible show wpAny _ _ (exec (Stmt.Assign ..) _) _ _ _); (rename Fr _ _ _ _ => kFz); (dsimp only at kFz); (revert kFz; intro _); walk1) | (k_unfold; (try dsimp only)) | (k_end; wrow_close) | walk1 | (dsimp only; first | with_reducible ((with_reducible show wpAny _ _ (exec (Stmt.For ..) _) _ _ _); (k_here; (rename Fr _ _ _ _ => lF'); (with_unfolding_all refine' For_invVF lF' (by exact rfl) (by exact rfl) ?_; k_whole))) | with_reducible ((with_reducible show wpAny _ _ (call (Value.type "str") _) _ _ _); (k_here; k_dflt (refine' str_txt (by omega) (by omega) ?_))) | with_reducible ((with_reducible show wpAny _ _ (subscriptTail (PySem.Expr.Name ..) (PySem.Expr.Slice ..) (Value.ref _) (Value.ref _)) _ _ _); (k_here; k_dflt (refine' rev_led (by k_asm) (by k_asm) (by k_mem) (by exact IsPart.int _ _) (by simp; omega) ?_ (by with_unfolding_all rfl) (by kmk_pure)); intro _ _ _ _ l1; (first | k_lt l1 | replace l1 := allLt_of l1); revert l1; intro _)) | with_reducible ((with_reducible show wpAny _ _ (binaryOp .Add (Value.ref _) (Value.ref _)) _ _ _); (k_here; k_dflt (refine' add_led (by k_asm) (by k_asm) (by k_mem) (by k_mem) (by simp; omega) ?_); intro _ _ _ _ l1; (first | k_lt l1 | replace l1 := allLt_of l1); revert l1; intro _)) | with_reducible ((with_reducible show wpAny _ _ (binaryOp .Mult (Value.ref _) (Value.int _ _)) _ _ _); (k_here; k_dflt (refine' mul_one (by k_asm) (by k_asm) (by k_mem) (by omega) (by omega) ?_); intro _ _ _ _ l1; (first | k_lt l1 | replace l1 := allLt_of l1); revert l1; intro _)) | with_reducible ((with_reducible show wpAny _ _ (call (Value.builtin "len") _) _ _ _); (k_here; k_dflt (refine' len_led (by k_asm) (by k_mem) (by first | assumption | omega | (simp; omega)) ?_))) | ((with_reducible show wpAny _ _ (exec (Stmt.Assign ..) _) _ _ _); (rename Fr _ _ _ _ => kFz); (dsimp only at kFz); (revert kFz; intro _); walk1) | walk1) | (leave1; walk_say "STEP leave1"; try dsimp only) | fail "no step")
    rename_i kN _ _
    exact hret _ [] T1 _ _ ⟨_, rfl, rfl⟩ hT1 (by k_asm) (News.sub kN fun p hp => .tail _ (hsub p hp)) (fun p hp => nomatch hp)
end Mine
end PartE1

section PartE2
open PySem PySem.W PySem.Spec PySem.Calls PyProof.Rows
set_option maxRecDepth 100000
set_option maxHeartbeats 2000000
namespace Mine
theorem anewE2 : True := by
  w_top off
  trivial
section
variable {prog : Program} {w : World} {A : Around} {E : Value → Shared → Prop} {s : Shared} {env : Env} {h₀ : Heap} {x : Str} {body : List Stmt} {Q : Flow → Shared → Prop}
theorem loop_walkK {I : Addr} {fp : List Addr} {n : Nat} {P : Nat → Value → Prop} {St : Nat → Heap → Prop} {m₀ : Str → Option Value} {news keep : Led} {s₂ : Shared} (W : Walks prog w A I fp [I] n P St)
    {K : Obj → Prop} (hSt : ∀ i h, St i h → ∃ o, h.get? I = some o ∧ K o) (hL : env.locals ∉ fp) (hI : h₀.get? I = none) (hIL : I ≠ env.locals) (hnw : ∀ p ∈ news, p.1 ≠ I)
    (hfp : ∀ b ∈ fp, b = I ∨ (∃ o, (b, o) ∈ keep)) (hkp : ∀ p ∈ keep, p ∈ news)
    (hst : St 0 s₂.heap) (F : Fr h₀ env.locals s₂.heap m₀) (N : News h₀ env.locals s₂.heap news)
    (J : Nat → (Str → Option Value) → Led → Prop) (h0 : J 0 m₀ news)
    (turn : ∀ i v m₁ news₁ it h tk, i < n → P i v → K it → J i m₁ news₁ → (∀ p ∈ news₁, p.1 ≠ I) → (∀ p ∈ keep, p ∈ news₁) → Fr h₀ env.locals h (fun y => if y = x then some v else m₁ y) → News h₀ env.locals h ((I, it) :: news₁) →
      wpAny (model prog w) A (execs body env) (TurnEnd h₀ env.locals (I, it) keep (J (i + 1)) { s₂ with heap := h, toks := tk } Q) E { s₂ with heap := h, toks := tk })
    (done : ∀ m₁ news₁ h tk, J n m₁ news₁ → (∀ p ∈ keep, p ∈ news₁) → Fr h₀ env.locals h m₁ → News h₀ env.locals h news₁ → Q .next { s₂ with heap := h, toks := tk }) :
    LoopAtV prog w A h₀ env x body Q E (.ref I) s₂ := by
  refine ⟨I, fp, [I], n, P, St, m₀, news, fun i m nw => J i m nw ∧ (∀ p ∈ nw, p.1 ≠ I) ∧ ∀ p ∈ keep, p ∈ nw, rfl, W, hL, ?_, ?_, hst, F, N, ⟨h0, hnw, hkp⟩, ?_, ?_⟩
  · intro b hb
    rw [List.mem_singleton.mp hb]; exact hI
  · intro p hp hq
    exact hnw p hp (List.mem_singleton.mp hq)
  · rintro i v m₁ news₁ s₁ own ⟨h, tk, rfl⟩ hi hP ⟨hJ, hne, hkeep⟩ hoff hown hget hall hst F₁ N₁
    obtain ⟨it, hit, hK⟩ := hSt _ _ hst
    have hmem := hall I (W.sub I (List.mem_singleton.mpr rfl)) hI it hit
    refine wpAny_mono (turn i v m₁ news₁ it h tk hi hP hK hJ hne hkeep F₁ fun p hp => ?_) (fun f s₃ q => ?_) fun _ _ e => e
    · rcases List.mem_cons.mp hp with rfl | hp
      · exact N₁ _ (List.mem_append_left _ hmem)
      · exact N₁ p (List.mem_append_right _ hp)
    · have fin : (∃ h' tk' m' news', s₃ = { { s₂ with heap := h, toks := tk } with heap := h', toks := tk' } ∧ Fr h₀ env.locals h' m' ∧ News h₀ env.locals h' ((I, it) :: news') ∧ (∀ p ∈ news', p.1 ≠ I) ∧ (∀ p ∈ keep, p ∈ news') ∧ J (i + 1) m' news') →
          LoopStepU h₀ env.locals [I] own (fun m nw => J (i + 1) m nw ∧ (∀ p ∈ nw, p.1 ≠ I) ∧ ∀ p ∈ keep, p ∈ nw) { s₂ with heap := h, toks := tk } .next s₃ := by
        rintro ⟨h', tk', m', news', e, F', N', hn', hk', hj'⟩
        refine ⟨rfl, h', tk', m', news', e, F', fun p hp => ?_, fun p hp hq => hn' p hp (List.mem_singleton.mp hq), hj', hn', hk'⟩
        rcases List.mem_append.mp hp with hp | hp
        · have hfb := hown p hp
          rcases hfp _ hfb with e1 | ⟨o, hko⟩
          · have e2 := hget p hp
            have e3 : p = (I, it) := by
              obtain ⟨a, o⟩ := p
              dsimp only at e1 e2
              subst e1
              rw [hit] at e2
              cases e2; rfl
            rw [e3]; exact N' _ (.head _)
          · have e2 := hget p hp
            have e4 := (N₁ _ (List.mem_append_right _ (hkeep _ hko))).1
            dsimp only at e4
            rw [e2] at e4
            have e3 : p = (p.1, o) := by
              obtain ⟨a, o'⟩ := p
              cases e4; rfl
            rw [e3]; exact N' _ (.tail _ (hk' _ hko))
        · exact N' p (.tail _ hp)
      cases f with
      | ret v => exact .ret q
      | brk => exact .brk q
      | next => exact .next (fin q)
      | cont => exact .cont (fin q)
  · rintro h' tk m' news' F' N' _ ⟨hJ, _, hk⟩
    exact done m' news' h' tk hJ hk F' N'

/-- a for over range(n) -/
theorem loop_rangeK {r : Addr} {a₀ b₀ : Int} {t₀ u₀ v₀ : Tok} {n : Nat} {m₀ : Str → Option Value} {news : Led} (ys : List Str) (V : Nat → (Str → Option Value) → Led → Prop) (hh : A.handled = none) (hr : IsRange s.heap r a₀ b₀ 1 t₀ u₀ v₀) (hsmall : Builtin.Range.small a₀ b₀ 1 = true) (hn : Builtin.Range.rangeSize a₀ b₀ 1 = (n : Int))
    (F : Fr h₀ env.locals s.heap m₀) (N : News h₀ env.locals s.heap news) (h0 : V 0 m₀ news)
    (turn : ∀ i t m₁ news₁ I it h tk, i < n → (∀ vs, it.data = .fields vs → ∃ n t, vs[1]? = some (.int n t)) → V i m₁ news₁ → (∀ p ∈ news₁, p.1 ≠ I) → (∀ p ∈ news, p.1 < I) → Fr h₀ env.locals h (fun y => if y = x then some (.int (a₀ + (i : Int)) t) else over (ys.map fun k => (k, m₁ k)) m₀ y) → News h₀ env.locals h ((I, it) :: news₁) →
      wpAny (model prog w) A (execs body env) (TurnEnd h₀ env.locals (I, it) [] (NamesJ x m₀ ys V (i + 1)) { s with heap := h, toks := tk } Q) E { s with heap := h, toks := tk })
    (done : ∀ m₁ news₁ h tk, V n m₁ news₁ → Fr h₀ env.locals h (over ((x :: ys).map fun k => (k, m₁ k)) m₀) → News h₀ env.locals h news₁ → Q .next { s with heap := h, toks := tk }) :
    wpAny (model prog w) A (pyIter (.ref r)) (fun it s₂ => LoopAtV prog w A h₀ env x body Q E it s₂) E s := by
  obtain ⟨n1, n2, n3⟩ := next_ne F N
  refine wpAny_pyIter_range hr hsmall ?_
  have W := Walks.range (prog := prog) (w := w) hh s.heap.objs.size a₀ 1 n
  refine loop_walkK (K := fun o => ∀ vs, o.data = .fields vs → ∃ n t, vs[1]? = some (.int n t)) (keep := []) (news := news) W (fun i h st => ⟨_, st, fun vs e => by cases e; exact ⟨_, _, rfl⟩⟩) ?_ n1 n2 n3 ?_ ?_ (by show IsRangeIter _ _ _ _ _; rw [hn]; simpa using Heap.get?_push_size _ rfl) (F.push _) (fun p hp => ⟨Heap.get?_push_of_some _ (N p hp).1, (N p hp).2⟩) (NamesJ x m₀ ys V) ⟨fun _ _ _ => rfl, h0⟩ ?_ ?_
  · intro hmm
    exact n2 (List.mem_singleton.mp hmm).symm
  · intro b hb
    exact .inl (List.mem_singleton.mp hb)
  · exact fun _ hp => nomatch hp
  · rintro i v m₁ news₁ it h tk hi ⟨t, rfl⟩ hK hJ hn hk F₁ N₁
    have e : a₀ + (i : Int) * 1 = a₀ + (i : Int) := by omega
    rw [e] at F₁
    exact turn i t m₁ news₁ _ it h tk hi hK hJ.2 hn (fun p hp => Heap.lt_size (N p hp).1) (over_fr F₁ hJ.1) N₁
  · intro m₁ news₁ h tk hJ _ F₁ N₁
    exact done m₁ news₁ h tk hJ.2 (over_fr' F₁ hJ.1) N₁
end
theorem tab_apart {P : Addr} {pos : Pos} {q : Str} {T : Led} (h : Tab P pos q T) {hp : Heap} {I : Addr} {it : Obj} (Ni : hp.get? I = Option.some it) (NT : ∀ p ∈ T, hp.get? p.1 = Option.some p.2) (hP : P ≠ I) (K : ∀ vs, it.data = .fields vs → ∃ n t, vs[1]? = Option.some (.int n t)) : ∀ p ∈ T, p.1 ≠ I := by
  intro p hm e
  cases h with
  | none => rw [List.mem_singleton.mp hm] at e; exact hP e
  | some hd hq _ _ =>
    rcases List.mem_cons.mp hm with rfl | hm2
    · exact hP e
    · rw [List.mem_singleton.mp hm2] at e
      have h1 := NT _ hm
      rw [List.mem_singleton.mp hm2] at h1
      dsimp only at e h1
      rw [e, Ni] at h1
      cases h1
      obtain ⟨n, t, h2⟩ := K _ hd
      rw [hq] at h2
      cases h2
theorem Tabs.apart {T : Led} (h : Tabs T) {hp : Heap} {I : Addr} {it : Obj} (Ni : hp.get? I = some it) (NT : ∀ p ∈ T, hp.get? p.1 = some p.2) (h1 : 37 ≠ I) (h2 : 44 ≠ I) (K : ∀ vs, it.data = .fields vs → ∃ n t, vs[1]? = some (.int n t)) : ∀ p ∈ T, p.1 ≠ I := by
  obtain ⟨T1, T2, a, b, rfl⟩ := h
  intro p hp
  rcases List.mem_append.mp hp with hp | hp
  · exact tab_apart a Ni (fun p hp => NT p (List.mem_append_left _ hp)) h1 K p hp
  · exact tab_apart b Ni (fun p hp => NT p (List.mem_append_right _ hp)) h2 K p hp
theorem dv_bound {b : Int} (hb : 0 < b) : ∀ {l : Nat} {ns : List Int}, ns.length = l → (∀ n ∈ ns, 0 ≤ n ∧ n < b) → 0 ≤ dv b ns ∧ dv b ns < b ^ l := by
  intro l
  induction l with
  | zero => intro ns h _; rw [List.length_eq_zero_iff.mp h]; exact ⟨Int.le_refl _, by rw [Int.pow_zero]; exact (by decide : (0 : Int) < 1)⟩
  | succ l ih =>
    intro ns h hn
    obtain ⟨a, x, rfl⟩ := snoc_of (l := ns) (by intro e; rw [e] at h; cases h)
    have h1 := ih (ns := a) (by simpa using h) (fun n hm => hn n (List.mem_append_left _ hm))
    have h2 := hn x (List.mem_append_right _ (.head _))
    rw [dv_snoc, Int.pow_succ]
    refine ⟨Int.add_nonneg (Int.mul_nonneg h1.1 (Int.le_of_lt hb)) h2.1, ?_⟩
    have h3 : (dv b a + 1) * b ≤ b ^ l * b := Int.mul_le_mul_of_nonneg_right (by omega) (Int.le_of_lt hb)
    rw [Int.add_mul] at h3
    omega
theorem dv_small {b : Int} (hb : 2 ≤ b ∧ b ≤ 32) {ns : List Int} (hl : ns.length ≤ 8) (hn : ∀ n ∈ ns, 0 ≤ n ∧ n < b) : 0 ≤ dv b ns ∧ dv b ns < 2 ^ 40 := by
  have h := dv_bound (b := b) (by omega) rfl hn
  refine ⟨h.1, Int.lt_of_lt_of_le h.2 ?_⟩
  obtain ⟨c, rfl⟩ := Int.eq_ofNat_of_zero_le (show 0 ≤ b by omega)
  have h1 : c ^ ns.length ≤ 32 ^ 8 := Nat.le_trans (Nat.pow_le_pow_left (by omega) _) (Nat.pow_le_pow_right (by decide) hl)
  have h2 : ((c ^ ns.length : Nat) : Int) = (c : Int) ^ ns.length := by simp
  rw [← h2]
  have h3 : (32 : Nat) ^ 8 = 2 ^ 40 := by decide
  omega
/-- what is left of the head, and the next figure, make the next remainder -/
theorem rest_eq {V b n d q : Int} (h : V / d * b + q = (V * b + n) / d) : V % d * b + n - d * q = (V * b + n) % d := by
  have h1 := Int.emod_add_mul_ediv V d
  have h2 := Int.emod_add_mul_ediv (V * b + n) d
  have h3 : V * b = V % d * b + d * (V / d * b) := by
    conv => lhs; rw [← h1]
    rw [Int.add_mul, Int.mul_assoc]
  have h4 : d * (V / d * b + q) = d * (V / d * b) + d * q := Int.mul_add ..
  rw [h] at h4
  omega
end Mine
end PartE2

section PartE3
open PySem PySem.W PySem.Spec PySem.Calls PyProof.Rows
set_option maxRecDepth 100000
set_option maxHeartbeats 2000000
namespace Mine
theorem anewE3 : True := by
  w_top off
  trivial
theorem small8 : ∀ N : Nat, N ≤ 8 → Builtin.Range.small 0 N 1 = true ∧ Builtin.Range.rangeSize 0 N 1 = N := by
  intro N h
  match N, h with
  | 0, _ | 1, _ | 2, _ | 3, _ | 4, _ | 5, _ | 6, _ | 7, _ | 8, _ => exact ⟨by decide, by decide⟩
  | n + 9, h => exact absurd h (by omega)
structure Halt (P : Prop) : Prop where
  h : P
theorem Halt.mk' {P : Prop} (h : Halt P) : P := h.h
theorem le8 {a n : Nat} (h : a ≤ 8) (e : 8 ≤ n) : a ≤ n := Nat.le_trans h e
def TailE (h₀ : Heap) (L : Addr) (m : Str → Option Value) (nw : Led) (R : Heap → Nat → Prop) : Prop := ∀ h k, Fr h₀ L h m → News h₀ L h nw → R h k
theorem cutE {Q : Prop} {h₀ : Heap} {L : Addr} {m : Str → Option Value} {nw : Led} {R : Heap → Nat → Prop} (k : TailE h₀ L m nw R → Q) (p : TailE h₀ L m nw R) : Q := k p
theorem c_climbed (w : World) (ns qs : List Int) (d b : Int) (t1 t2 t3 t4 t5 : Tok) (hn : ∀ n ∈ ns, 0 ≤ n ∧ n < b) (hb : 2 ≤ b ∧ b ≤ 32) (hl : ns.length ≤ 8) (hq : Small qs) (hql : qs.length = ns.length) (hdd : 0 < d ∧ d ≤ 1000)
    (hv : ∀ i, i ≤ ns.length → dv b (qs.take i) = dv b (ns.take i) / d) : Con w 115 192 [.str (pth ns) t1, .str (pth qs) t2, .int d t3, .int b t4, .int ns.length t5] (fun v own => v = .bool true ∧ own = []) := by
  unfold Con
  intro loose mean mg mb dp un gd cn cs a ccd cl outer A₀ base h₀ L m news own T s Q E B F X N Tp C1 C2 hk hS hT hL hd hu hret
  have e := hS.eq
  subst e
  refine wpAny_call ?_
  k_dflt cell_enter
  have C1' := C1.keeps (Fr.keep ‹Fr h₀ L _ m›)
  have C2' := C2.keeps (Fr.keep ‹Fr h₀ L _ m›)
  repeat' (first | with_reducible ((with_reducible show wpAny _ _ (pyIter (Value.ref _)) _ _ _); refine Halt.mk' ?_) | with_reducible ((with_reducible show wpAny _ _ (exec (Stmt.For (PySem.Expr.Name ..) (PySem.Expr.Call ..) ..) _) _ _ _); (k_here; (rename Fr _ _ _ _ => lF'); (with_unfolding_all refine' For_invVF lF' (by exact rfl) (by exact rfl) ?_; k_whole))) | with_reducible ((with_reducible show wpAny _ _ (exec (Stmt.For ..) _) _ _ _); (k_here; (rename Fr _ _ _ _ => lF'); (with_unfolding_all refine' For_invVF lF' (by exact rfl) (by exact rfl) ?_; k_whole))) | ((with_reducible show wpAny _ _ (exec (Stmt.Assign ..) _) _ _ _); (rename Fr _ _ _ _ => kFz); (dsimp only at kFz); (revert kFz; intro _); walk1) | (k_unfold; (try dsimp only)) | (k_end; wrow_close) | walk1 | (dsimp only; first | with_reducible ((with_reducible show wpAny _ _ (pyIter (Value.ref _)) _ _ _); refine Halt.mk' ?_) | with_reducible ((with_reducible show wpAny _ _ (exec (Stmt.For (PySem.Expr.Name ..) (PySem.Expr.Call ..) ..) _) _ _ _); (k_here; (rename Fr _ _ _ _ => lF'); (with_unfolding_all refine' For_invVF lF' (by exact rfl) (by exact rfl) ?_; k_whole))) | with_reducible ((with_reducible show wpAny _ _ (exec (Stmt.For ..) _) _ _ _); (k_here; (rename Fr _ _ _ _ => lF'); (with_unfolding_all refine' For_invVF lF' (by exact rfl) (by exact rfl) ?_; k_whole))) | ((with_reducible show wpAny _ _ (exec (Stmt.Assign ..) _) _ _ _); (rename Fr _ _ _ _ => kFz); (dsimp only at kFz); (revert kFz; intro _); walk1) | walk1) | (leave1; walk_say "STEP leave1"; try dsimp only) | fail "no step")
  rename_i R1 F1 N1 _
  have hN := small8 ns.length hl
  refine Halt.mk ?_
  refine loop_rangeK (x := Str.ofString "turn") [Str.ofString "path", Str.ofString "told", Str.ofString "above", Str.ofString "rest"]
    (fun i m nw => (∃ t t', m (Str.ofString "path") = some (.str (pth (ns.take (ns.length - i))) t) ∧ m (Str.ofString "told") = some (.str (pth (qs.take (ns.length - i))) t')) ∧ ∃ T', Tabs T' ∧ nw = own ++ T')
    rfl R1 hN.1 hN.2 F1 N1 ?_ ?_ ?_
  · exact ⟨⟨_, _, someStr (by rw [Nat.sub_zero, List.take_length]), someStr (by rw [Nat.sub_zero, ← hql, List.take_length])⟩, _, hT, rfl⟩
  · rintro i tt m₁ news₁ I it h tk hi hK ⟨⟨ta, tb, ha, hb'⟩, T2, hT2, rfl⟩ hne hlt F3 N3
    obtain ⟨j, hj⟩ : ∃ j, ns.length - i = j + 1 := ⟨ns.length - i - 1, (Nat.sub_one_add_one_eq_of_pos (Nat.sub_pos_of_lt hi)).symm⟩
    have hjl : j < ns.length := Nat.lt_of_succ_le (Nat.le_trans (Nat.le_of_eq hj.symm) (Nat.sub_le _ _))
    obtain ⟨n, hnj⟩ : ∃ n, ns[j]? = some n := ⟨_, List.getElem?_eq_getElem hjl⟩
    obtain ⟨q, hqj⟩ : ∃ q, qs[j]? = some q := ⟨_, List.getElem?_eq_getElem (hql.symm ▸ hjl)⟩
    have en := take_snoc hnj
    have eq := take_snoc hqj
    have hI1 := (hT.ltR (own := own) (d := I) (allLt_of hlt))
    rw [hj, ← en] at ha
    rw [hj, ← eq] at hb'
    have v0 := hv j (Nat.le_of_lt hjl)
    have v1 := hv (j + 1) hjl
    rw [← en, ← eq, dv_snoc, dv_snoc, v0] at v1
    have hbb : 0 ≤ b ∧ b ≤ 1024 := ⟨Int.le_trans (by decide) hb.1, Int.le_trans hb.2 (by decide)⟩
    have hnn : ∀ z ∈ ns.take j, 0 ≤ z ∧ z < b := fun z hz => hn z (List.mem_of_mem_take hz)
    have hn1 : ∀ z ∈ ns.take j ++ [n], 0 ≤ z ∧ z < b := by rw [en]; exact fun z hz => hn z (List.mem_of_mem_take hz)
    have hs1 : Small (ns.take j ++ [n]) := fun z hz => ⟨(hn1 z hz).1, Int.lt_of_lt_of_le (hn1 z hz).2 (Int.le_trans hb.2 (by decide))⟩
    have hs2 : Small (qs.take j ++ [q]) := by rw [eq]; exact fun z hz => hq z (List.mem_of_mem_take hz)
    have hjn : (ns.take j).length ≤ 8 := by rw [List.length_take]; exact Nat.le_trans (Nat.min_le_right _ _) hl
    have hjq : (qs.take j).length ≤ 8 := by rw [List.length_take]; exact Nat.le_trans (Nat.min_le_right _ _) (hql ▸ hl)
    have hjn1 : (ns.take j ++ [n]).length ≤ 8 := by rw [en, List.length_take]; exact Nat.le_trans (Nat.min_le_right _ _) hl
    have hjq1 : (qs.take j ++ [q]).length ≤ 8 := by rw [eq, List.length_take]; exact Nat.le_trans (Nat.min_le_right _ _) (hql ▸ hl)
    have b0 := dv_small hb hjn hnn
    have b1 := dv_small hb hjn1 hn1
    have hr := rest_eq v1
    have hpl : (pth (ns.take j)).length ≤ 200 := Nat.le_trans (pth_len hs1.left) (Nat.le_trans (Nat.add_le_add_right (Nat.mul_le_mul_left 11 hjn) 1) (by decide))
    have htl : (txt n).length ≤ 20 := Nat.le_trans (txt_len hs1.last.1 hs1.last.2) (by decide)
    have hr0 := Int.emod_nonneg (dv b (ns.take j) * b + n) (Int.ne_of_gt hdd.1)
    have hr1 := Int.emod_lt_of_pos (dv b (ns.take j) * b + n) hdd.1
    rw [← hr] at hr0 hr1
    simp only [List.map_cons, List.map_nil, over, ha, hb'] at F3
    refine absW ?_
    intro Qz Ez hQz hEz
    repeat' (first | with_reducible ((with_reducible show wpAny _ _ (pyIter (Value.ref _)) _ _ _); refine Halt.mk' ?_) | with_reducible ((with_reducible show wpAny _ _ (exec (Stmt.For (PySem.Expr.Name ..) (PySem.Expr.Call ..) ..) _) _ _ _); (k_here; (rename Fr _ _ _ _ => lF'); (with_unfolding_all refine' For_invVF lF' (by exact rfl) (by exact rfl) ?_; k_whole))) | with_reducible ((with_reducible show wpAny _ _ (exec (Stmt.For ..) _) _ _ _); (k_here; (rename Fr _ _ _ _ => lF'); (with_unfolding_all refine' For_invVF lF' (by exact rfl) (by exact rfl) ?_; k_whole))) | ((with_reducible show wpAny _ _ (exec (Stmt.Assign ..) _) _ _ _); (rename Fr _ _ _ _ => kFz); (dsimp only at kFz); (revert kFz; intro _); walk1) | (k_unfold; (try dsimp only)) | (k_end; wrow_close) | walk1 | (dsimp only; first | with_reducible ((with_reducible show wpAny _ _ (pyIter (Value.ref _)) _ _ _); refine Halt.mk' ?_) | with_reducible ((with_reducible show wpAny _ _ (exec (Stmt.For (PySem.Expr.Name ..) (PySem.Expr.Call ..) ..) _) _ _ _); (k_here; (rename Fr _ _ _ _ => lF'); (with_unfolding_all refine' For_invVF lF' (by exact rfl) (by exact rfl) ?_; k_whole))) | with_reducible ((with_reducible show wpAny _ _ (exec (Stmt.For ..) _) _ _ _); (k_here; (rename Fr _ _ _ _ => lF'); (with_unfolding_all refine' For_invVF lF' (by exact rfl) (by exact rfl) ?_; k_whole))) | ((with_reducible show wpAny _ _ (exec (Stmt.Assign ..) _) _ _ _); (rename Fr _ _ _ _ => kFz); (dsimp only at kFz); (revert kFz; intro _); walk1) | walk1) | (leave1; walk_say "STEP leave1"; try dsimp only) | fail "no step")
    refine PCon.use (p_dirname w (ns.take j) n _ hs1 (le8 hjn (by decide))) (by k_asm) (by k_asm) (by k_asm) (by k_asm) (by k_asm) rfl (by first | exact room1 hd (by decide) | ktr_room) (by first | exact units1 hu (by decide) | ktr_units) ?_
    intro u1 h1 k1 F4 N4
    repeat' (first | with_reducible ((with_reducible show wpAny _ _ (pyIter (Value.ref _)) _ _ _); refine Halt.mk' ?_) | with_reducible ((with_reducible show wpAny _ _ (exec (Stmt.For (PySem.Expr.Name ..) (PySem.Expr.Call ..) ..) _) _ _ _); (k_here; (rename Fr _ _ _ _ => lF'); (with_unfolding_all refine' For_invVF lF' (by exact rfl) (by exact rfl) ?_; k_whole))) | with_reducible ((with_reducible show wpAny _ _ (exec (Stmt.For ..) _) _ _ _); (k_here; (rename Fr _ _ _ _ => lF'); (with_unfolding_all refine' For_invVF lF' (by exact rfl) (by exact rfl) ?_; k_whole))) | ((with_reducible show wpAny _ _ (exec (Stmt.Assign ..) _) _ _ _); (rename Fr _ _ _ _ => kFz); (dsimp only at kFz); (revert kFz; intro _); walk1) | (k_unfold; (try dsimp only)) | (k_end; wrow_close) | walk1 | (dsimp only; first | with_reducible ((with_reducible show wpAny _ _ (pyIter (Value.ref _)) _ _ _); refine Halt.mk' ?_) | with_reducible ((with_reducible show wpAny _ _ (exec (Stmt.For (PySem.Expr.Name ..) (PySem.Expr.Call ..) ..) _) _ _ _); (k_here; (rename Fr _ _ _ _ => lF'); (with_unfolding_all refine' For_invVF lF' (by exact rfl) (by exact rfl) ?_; k_whole))) | with_reducible ((with_reducible show wpAny _ _ (exec (Stmt.For ..) _) _ _ _); (k_here; (rename Fr _ _ _ _ => lF'); (with_unfolding_all refine' For_invVF lF' (by exact rfl) (by exact rfl) ?_; k_whole))) | ((with_reducible show wpAny _ _ (exec (Stmt.Assign ..) _) _ _ _); (rename Fr _ _ _ _ => kFz); (dsimp only at kFz); (revert kFz; intro _); walk1) | walk1) | (leave1; walk_say "STEP leave1"; try dsimp only) | fail "no step")
    refine PCon.use (p_value w (ns.take j) _ b _ hs1.left (le8 hjn (by decide)) hbb) (by k_asm) (by k_asm) (by k_asm) (by k_asm) (by k_asm) rfl (by first | exact room1 hd (by decide) | ktr_room) (by first | exact units1 hu (by decide) | ktr_units) ?_
    intro u2 h2 k2 F5 N5
    repeat' (first | with_reducible ((with_reducible show wpAny _ _ (pyIter (Value.ref _)) _ _ _); refine Halt.mk' ?_) | with_reducible ((with_reducible show wpAny _ _ (exec (Stmt.For (PySem.Expr.Name ..) (PySem.Expr.Call ..) ..) _) _ _ _); (k_here; (rename Fr _ _ _ _ => lF'); (with_unfolding_all refine' For_invVF lF' (by exact rfl) (by exact rfl) ?_; k_whole))) | with_reducible ((with_reducible show wpAny _ _ (exec (Stmt.For ..) _) _ _ _); (k_here; (rename Fr _ _ _ _ => lF'); (with_unfolding_all refine' For_invVF lF' (by exact rfl) (by exact rfl) ?_; k_whole))) | ((with_reducible show wpAny _ _ (exec (Stmt.Assign ..) _) _ _ _); (rename Fr _ _ _ _ => kFz); (dsimp only at kFz); (revert kFz; intro _); walk1) | (k_unfold; (try dsimp only)) | (k_end; wrow_close) | walk1 | (dsimp only; first | with_reducible ((with_reducible show wpAny _ _ (pyIter (Value.ref _)) _ _ _); refine Halt.mk' ?_) | with_reducible ((with_reducible show wpAny _ _ (exec (Stmt.For (PySem.Expr.Name ..) (PySem.Expr.Call ..) ..) _) _ _ _); (k_here; (rename Fr _ _ _ _ => lF'); (with_unfolding_all refine' For_invVF lF' (by exact rfl) (by exact rfl) ?_; k_whole))) | with_reducible ((with_reducible show wpAny _ _ (exec (Stmt.For ..) _) _ _ _); (k_here; (rename Fr _ _ _ _ => lF'); (with_unfolding_all refine' For_invVF lF' (by exact rfl) (by exact rfl) ?_; k_whole))) | ((with_reducible show wpAny _ _ (exec (Stmt.Assign ..) _) _ _ _); (rename Fr _ _ _ _ => kFz); (dsimp only at kFz); (revert kFz; intro _); walk1) | walk1) | (leave1; walk_say "STEP leave1"; try dsimp only) | fail "no step")
    refine Con.use (c_dm0 w (dv b (ns.take j)) d _ _ ⟨b0.1, Int.lt_trans b0.2 (by decide)⟩ hdd) (by k_asm) (by k_asm) (by k_asm) (by k_asm) (by k_asm) C1' C2' rfl (.cons .app) hT2 (.cons' hI1.1 hI1.2 hL) (by first | exact room1 hd (by decide) | ktr_room) (by first | exact units1 hu (by decide) | ktr_units) ?_
    rintro v own' T3 h3 k3 ⟨D3, u3, u4, c3, rfl, rfl⟩ hT3 F6 N6 l6
    simp only [List.cons_append, List.nil_append] at N6
    repeat' (first | with_reducible ((with_reducible show wpAny _ _ (pyIter (Value.ref _)) _ _ _); refine Halt.mk' ?_) | with_reducible ((with_reducible show wpAny _ _ (exec (Stmt.For (PySem.Expr.Name ..) (PySem.Expr.Call ..) ..) _) _ _ _); (k_here; (rename Fr _ _ _ _ => lF'); (with_unfolding_all refine' For_invVF lF' (by exact rfl) (by exact rfl) ?_; k_whole))) | with_reducible ((with_reducible show wpAny _ _ (exec (Stmt.For ..) _) _ _ _); (k_here; (rename Fr _ _ _ _ => lF'); (with_unfolding_all refine' For_invVF lF' (by exact rfl) (by exact rfl) ?_; k_whole))) | ((with_reducible show wpAny _ _ (exec (Stmt.Assign ..) _) _ _ _); (rename Fr _ _ _ _ => kFz); (dsimp only at kFz); (revert kFz; intro _); walk1) | (k_unfold; (try dsimp only)) | (k_end; wrow_close) | walk1 | (dsimp only; first | with_reducible ((with_reducible show wpAny _ _ (pyIter (Value.ref _)) _ _ _); refine Halt.mk' ?_) | with_reducible ((with_reducible show wpAny _ _ (exec (Stmt.For (PySem.Expr.Name ..) (PySem.Expr.Call ..) ..) _) _ _ _); (k_here; (rename Fr _ _ _ _ => lF'); (with_unfolding_all refine' For_invVF lF' (by exact rfl) (by exact rfl) ?_; k_whole))) | with_reducible ((with_reducible show wpAny _ _ (exec (Stmt.For ..) _) _ _ _); (k_here; (rename Fr _ _ _ _ => lF'); (with_unfolding_all refine' For_invVF lF' (by exact rfl) (by exact rfl) ?_; k_whole))) | ((with_reducible show wpAny _ _ (exec (Stmt.Assign ..) _) _ _ _); (rename Fr _ _ _ _ => kFz); (dsimp only at kFz); (revert kFz; intro _); walk1) | walk1) | (leave1; walk_say "STEP leave1"; try dsimp only) | fail "no step")
    refine PCon.use (p_basename w (ns.take j) n _ hs1 (le8 hjn (by decide))) (by k_asm) (by k_asm) (by k_asm) (by k_asm) (by k_asm) rfl (by first | exact room1 hd (by decide) | ktr_room) (by first | exact units1 hu (by decide) | ktr_units) ?_
    intro u5 h4 k4 F7 N7
    repeat' (first | with_reducible ((with_reducible show wpAny _ _ (pyIter (Value.ref _)) _ _ _); refine Halt.mk' ?_) | with_reducible ((with_reducible show wpAny _ _ (exec (Stmt.For (PySem.Expr.Name ..) (PySem.Expr.Call ..) ..) _) _ _ _); (k_here; (rename Fr _ _ _ _ => lF'); (with_unfolding_all refine' For_invVF lF' (by exact rfl) (by exact rfl) ?_; k_whole))) | with_reducible ((with_reducible show wpAny _ _ (exec (Stmt.For ..) _) _ _ _); (k_here; (rename Fr _ _ _ _ => lF'); (with_unfolding_all refine' For_invVF lF' (by exact rfl) (by exact rfl) ?_; k_whole))) | ((with_reducible show wpAny _ _ (exec (Stmt.Assign ..) _) _ _ _); (rename Fr _ _ _ _ => kFz); (dsimp only at kFz); (revert kFz; intro _); walk1) | (k_unfold; (try dsimp only)) | (k_end; wrow_close) | walk1 | (dsimp only; first | with_reducible ((with_reducible show wpAny _ _ (pyIter (Value.ref _)) _ _ _); refine Halt.mk' ?_) | with_reducible ((with_reducible show wpAny _ _ (exec (Stmt.For (PySem.Expr.Name ..) (PySem.Expr.Call ..) ..) _) _ _ _); (k_here; (rename Fr _ _ _ _ => lF'); (with_unfolding_all refine' For_invVF lF' (by exact rfl) (by exact rfl) ?_; k_whole))) | with_reducible ((with_reducible show wpAny _ _ (exec (Stmt.For ..) _) _ _ _); (k_here; (rename Fr _ _ _ _ => lF'); (with_unfolding_all refine' For_invVF lF' (by exact rfl) (by exact rfl) ?_; k_whole))) | ((with_reducible show wpAny _ _ (exec (Stmt.Assign ..) _) _ _ _); (rename Fr _ _ _ _ => kFz); (dsimp only at kFz); (revert kFz; intro _); walk1) | walk1) | (leave1; walk_say "STEP leave1"; try dsimp only) | fail "no step")
    refine KIN.call_text (txt_reads hs1.last.1 hs1.last.2) (Nat.le_trans (txt_len hs1.last.1 hs1.last.2) (by decide)) ?_
    repeat' (first | with_reducible ((with_reducible show wpAny _ _ (pyIter (Value.ref _)) _ _ _); refine Halt.mk' ?_) | with_reducible ((with_reducible show wpAny _ _ (exec (Stmt.For (PySem.Expr.Name ..) (PySem.Expr.Call ..) ..) _) _ _ _); (k_here; (rename Fr _ _ _ _ => lF'); (with_unfolding_all refine' For_invVF lF' (by exact rfl) (by exact rfl) ?_; k_whole))) | with_reducible ((with_reducible show wpAny _ _ (exec (Stmt.For ..) _) _ _ _); (k_here; (rename Fr _ _ _ _ => lF'); (with_unfolding_all refine' For_invVF lF' (by exact rfl) (by exact rfl) ?_; k_whole))) | ((with_reducible show wpAny _ _ (exec (Stmt.Assign ..) _) _ _ _); (rename Fr _ _ _ _ => kFz); (dsimp only at kFz); (revert kFz; intro _); walk1) | (k_unfold; (try dsimp only)) | (k_end; wrow_close) | walk1 | (dsimp only; first | with_reducible ((with_reducible show wpAny _ _ (pyIter (Value.ref _)) _ _ _); refine Halt.mk' ?_) | with_reducible ((with_reducible show wpAny _ _ (exec (Stmt.For (PySem.Expr.Name ..) (PySem.Expr.Call ..) ..) _) _ _ _); (k_here; (rename Fr _ _ _ _ => lF'); (with_unfolding_all refine' For_invVF lF' (by exact rfl) (by exact rfl) ?_; k_whole))) | with_reducible ((with_reducible show wpAny _ _ (exec (Stmt.For ..) _) _ _ _); (k_here; (rename Fr _ _ _ _ => lF'); (with_unfolding_all refine' For_invVF lF' (by exact rfl) (by exact rfl) ?_; k_whole))) | ((with_reducible show wpAny _ _ (exec (Stmt.Assign ..) _) _ _ _); (rename Fr _ _ _ _ => kFz); (dsimp only at kFz); (revert kFz; intro _); walk1) | walk1) | (leave1; walk_say "STEP leave1"; try dsimp only) | fail "no step")
    refine PCon.use (p_basename w (qs.take j) q _ hs2 (le8 hjq (by decide))) (by k_asm) (by k_asm) (by k_asm) (by k_asm) (by k_asm) rfl (by first | exact room1 hd (by decide) | ktr_room) (by first | exact units1 hu (by decide) | ktr_units) ?_
    intro u6 h5 k5 F8 N8
    repeat' (first | with_reducible ((with_reducible show wpAny _ _ (pyIter (Value.ref _)) _ _ _); refine Halt.mk' ?_) | with_reducible ((with_reducible show wpAny _ _ (exec (Stmt.For (PySem.Expr.Name ..) (PySem.Expr.Call ..) ..) _) _ _ _); (k_here; (rename Fr _ _ _ _ => lF'); (with_unfolding_all refine' For_invVF lF' (by exact rfl) (by exact rfl) ?_; k_whole))) | with_reducible ((with_reducible show wpAny _ _ (exec (Stmt.For ..) _) _ _ _); (k_here; (rename Fr _ _ _ _ => lF'); (with_unfolding_all refine' For_invVF lF' (by exact rfl) (by exact rfl) ?_; k_whole))) | ((with_reducible show wpAny _ _ (exec (Stmt.Assign ..) _) _ _ _); (rename Fr _ _ _ _ => kFz); (dsimp only at kFz); (revert kFz; intro _); walk1) | (k_unfold; (try dsimp only)) | (k_end; wrow_close) | walk1 | (dsimp only; first | with_reducible ((with_reducible show wpAny _ _ (pyIter (Value.ref _)) _ _ _); refine Halt.mk' ?_) | with_reducible ((with_reducible show wpAny _ _ (exec (Stmt.For (PySem.Expr.Name ..) (PySem.Expr.Call ..) ..) _) _ _ _); (k_here; (rename Fr _ _ _ _ => lF'); (with_unfolding_all refine' For_invVF lF' (by exact rfl) (by exact rfl) ?_; k_whole))) | with_reducible ((with_reducible show wpAny _ _ (exec (Stmt.For ..) _) _ _ _); (k_here; (rename Fr _ _ _ _ => lF'); (with_unfolding_all refine' For_invVF lF' (by exact rfl) (by exact rfl) ?_; k_whole))) | ((with_reducible show wpAny _ _ (exec (Stmt.Assign ..) _) _ _ _); (rename Fr _ _ _ _ => kFz); (dsimp only at kFz); (revert kFz; intro _); walk1) | walk1) | (leave1; walk_say "STEP leave1"; try dsimp only) | fail "no step")
    refine KIN.call_text (txt_reads hs2.last.1 hs2.last.2) (Nat.le_trans (txt_len hs2.last.1 hs2.last.2) (by decide)) ?_
    repeat' (first | with_reducible ((with_reducible show wpAny _ _ (pyIter (Value.ref _)) _ _ _); refine Halt.mk' ?_) | with_reducible ((with_reducible show wpAny _ _ (exec (Stmt.For (PySem.Expr.Name ..) (PySem.Expr.Call ..) ..) _) _ _ _); (k_here; (rename Fr _ _ _ _ => lF'); (with_unfolding_all refine' For_invVF lF' (by exact rfl) (by exact rfl) ?_; k_whole))) | with_reducible ((with_reducible show wpAny _ _ (exec (Stmt.For ..) _) _ _ _); (k_here; (rename Fr _ _ _ _ => lF'); (with_unfolding_all refine' For_invVF lF' (by exact rfl) (by exact rfl) ?_; k_whole))) | ((with_reducible show wpAny _ _ (exec (Stmt.Assign ..) _) _ _ _); (rename Fr _ _ _ _ => kFz); (dsimp only at kFz); (revert kFz; intro _); walk1) | (k_unfold; (try dsimp only)) | (k_end; wrow_close) | walk1 | (dsimp only; first | with_reducible ((with_reducible show wpAny _ _ (pyIter (Value.ref _)) _ _ _); refine Halt.mk' ?_) | with_reducible ((with_reducible show wpAny _ _ (exec (Stmt.For (PySem.Expr.Name ..) (PySem.Expr.Call ..) ..) _) _ _ _); (k_here; (rename Fr _ _ _ _ => lF'); (with_unfolding_all refine' For_invVF lF' (by exact rfl) (by exact rfl) ?_; k_whole))) | with_reducible ((with_reducible show wpAny _ _ (exec (Stmt.For ..) _) _ _ _); (k_here; (rename Fr _ _ _ _ => lF'); (with_unfolding_all refine' For_invVF lF' (by exact rfl) (by exact rfl) ?_; k_whole))) | ((with_reducible show wpAny _ _ (exec (Stmt.Assign ..) _) _ _ _); (rename Fr _ _ _ _ => kFz); (dsimp only at kFz); (revert kFz; intro _); walk1) | walk1) | (leave1; walk_say "STEP leave1"; try dsimp only) | fail "no step")
    refine PCon.use (p_value w (ns.take j ++ [n]) _ b _ hs1 (le8 hjn1 (by decide)) hbb) (by k_asm) (by k_asm) (by k_asm) (by k_asm) (by k_asm) rfl (by first | exact room1 hd (by decide) | ktr_room) (by first | exact units1 hu (by decide) | ktr_units) ?_
    intro u7 h6 k6 F9 N9
    repeat' (first | with_reducible ((with_reducible show wpAny _ _ (pyIter (Value.ref _)) _ _ _); refine Halt.mk' ?_) | with_reducible ((with_reducible show wpAny _ _ (exec (Stmt.For (PySem.Expr.Name ..) (PySem.Expr.Call ..) ..) _) _ _ _); (k_here; (rename Fr _ _ _ _ => lF'); (with_unfolding_all refine' For_invVF lF' (by exact rfl) (by exact rfl) ?_; k_whole))) | with_reducible ((with_reducible show wpAny _ _ (exec (Stmt.For ..) _) _ _ _); (k_here; (rename Fr _ _ _ _ => lF'); (with_unfolding_all refine' For_invVF lF' (by exact rfl) (by exact rfl) ?_; k_whole))) | ((with_reducible show wpAny _ _ (exec (Stmt.Assign ..) _) _ _ _); (rename Fr _ _ _ _ => kFz); (dsimp only at kFz); (revert kFz; intro _); walk1) | (k_unfold; (try dsimp only)) | (k_end; wrow_close) | walk1 | (dsimp only; first | with_reducible ((with_reducible show wpAny _ _ (pyIter (Value.ref _)) _ _ _); refine Halt.mk' ?_) | with_reducible ((with_reducible show wpAny _ _ (exec (Stmt.For (PySem.Expr.Name ..) (PySem.Expr.Call ..) ..) _) _ _ _); (k_here; (rename Fr _ _ _ _ => lF'); (with_unfolding_all refine' For_invVF lF' (by exact rfl) (by exact rfl) ?_; k_whole))) | with_reducible ((with_reducible show wpAny _ _ (exec (Stmt.For ..) _) _ _ _); (k_here; (rename Fr _ _ _ _ => lF'); (with_unfolding_all refine' For_invVF lF' (by exact rfl) (by exact rfl) ?_; k_whole))) | ((with_reducible show wpAny _ _ (exec (Stmt.Assign ..) _) _ _ _); (rename Fr _ _ _ _ => kFz); (dsimp only at kFz); (revert kFz; intro _); walk1) | walk1) | (leave1; walk_say "STEP leave1"; try dsimp only) | fail "no step")
    have hI2 : 37 < D3 ∧ 44 < D3 := hT2.ltR (own := (I, it) :: own) (d := D3) (allLt_of (l6 _ (.head _)))
    refine Con.use (c_dm0 w (dv b (ns.take j ++ [n])) d _ _ ⟨b1.1, Int.lt_trans b1.2 (by decide)⟩ hdd) (by k_asm) (by k_asm) (by k_asm) (by k_asm) (by k_asm) C1' C2' rfl (.cons (.cons .app)) hT3 (.cons' hI2.1 hI2.2 (.cons' hI1.1 hI1.2 hL)) (by first | exact room1 hd (by decide) | ktr_room) (by first | exact units1 hu (by decide) | ktr_units) ?_
    rintro v own' T4 h7 k7 ⟨D4, u8, u9, c4, rfl, rfl⟩ hT4 F10 N10 l10
    simp only [List.cons_append, List.nil_append] at N10
    repeat' (first | with_reducible ((with_reducible show wpAny _ _ (pyIter (Value.ref _)) _ _ _); refine Halt.mk' ?_) | with_reducible ((with_reducible show wpAny _ _ (exec (Stmt.For (PySem.Expr.Name ..) (PySem.Expr.Call ..) ..) _) _ _ _); (k_here; (rename Fr _ _ _ _ => lF'); (with_unfolding_all refine' For_invVF lF' (by exact rfl) (by exact rfl) ?_; k_whole))) | with_reducible ((with_reducible show wpAny _ _ (exec (Stmt.For ..) _) _ _ _); (k_here; (rename Fr _ _ _ _ => lF'); (with_unfolding_all refine' For_invVF lF' (by exact rfl) (by exact rfl) ?_; k_whole))) | ((with_reducible show wpAny _ _ (exec (Stmt.Assign ..) _) _ _ _); (rename Fr _ _ _ _ => kFz); (dsimp only at kFz); (revert kFz; intro _); walk1) | (k_unfold; (try dsimp only)) | (k_end; wrow_close) | walk1 | (dsimp only; first | with_reducible ((with_reducible show wpAny _ _ (pyIter (Value.ref _)) _ _ _); refine Halt.mk' ?_) | with_reducible ((with_reducible show wpAny _ _ (exec (Stmt.For (PySem.Expr.Name ..) (PySem.Expr.Call ..) ..) _) _ _ _); (k_here; (rename Fr _ _ _ _ => lF'); (with_unfolding_all refine' For_invVF lF' (by exact rfl) (by exact rfl) ?_; k_whole))) | with_reducible ((with_reducible show wpAny _ _ (exec (Stmt.For ..) _) _ _ _); (k_here; (rename Fr _ _ _ _ => lF'); (with_unfolding_all refine' For_invVF lF' (by exact rfl) (by exact rfl) ?_; k_whole))) | ((with_reducible show wpAny _ _ (exec (Stmt.Assign ..) _) _ _ _); (rename Fr _ _ _ _ => kFz); (dsimp only at kFz); (revert kFz; intro _); walk1) | walk1) | (leave1; walk_say "STEP leave1"; try dsimp only) | fail "no step")
    refine PCon.use (p_value w (qs.take j ++ [q]) _ b _ hs2 (le8 hjq1 (by decide)) hbb) (by k_asm) (by k_asm) (by k_asm) (by k_asm) (by k_asm) rfl (by first | exact room1 hd (by decide) | ktr_room) (by first | exact units1 hu (by decide) | ktr_units) ?_
    intro u10 h8 k8 F11 N11
    rw [dv_snoc b (ns.take j), dv_snoc b (qs.take j), v0, ← v1, ← hr] at *
    repeat' (first | with_reducible ((with_reducible show wpAny _ _ (pyIter (Value.ref _)) _ _ _); refine Halt.mk' ?_) | with_reducible ((with_reducible show wpAny _ _ (exec (Stmt.For (PySem.Expr.Name ..) (PySem.Expr.Call ..) ..) _) _ _ _); (k_here; (rename Fr _ _ _ _ => lF'); (with_unfolding_all refine' For_invVF lF' (by exact rfl) (by exact rfl) ?_; k_whole))) | with_reducible ((with_reducible show wpAny _ _ (exec (Stmt.For ..) _) _ _ _); (k_here; (rename Fr _ _ _ _ => lF'); (with_unfolding_all refine' For_invVF lF' (by exact rfl) (by exact rfl) ?_; k_whole))) | ((with_reducible show wpAny _ _ (exec (Stmt.Assign ..) _) _ _ _); (rename Fr _ _ _ _ => kFz); (dsimp only at kFz); (revert kFz; intro _); walk1) | (k_unfold; (try dsimp only)) | (k_end; wrow_close) | walk1 | (dsimp only; first | with_reducible ((with_reducible show wpAny _ _ (pyIter (Value.ref _)) _ _ _); refine Halt.mk' ?_) | with_reducible ((with_reducible show wpAny _ _ (exec (Stmt.For (PySem.Expr.Name ..) (PySem.Expr.Call ..) ..) _) _ _ _); (k_here; (rename Fr _ _ _ _ => lF'); (with_unfolding_all refine' For_invVF lF' (by exact rfl) (by exact rfl) ?_; k_whole))) | with_reducible ((with_reducible show wpAny _ _ (exec (Stmt.For ..) _) _ _ _); (k_here; (rename Fr _ _ _ _ => lF'); (with_unfolding_all refine' For_invVF lF' (by exact rfl) (by exact rfl) ?_; k_whole))) | ((with_reducible show wpAny _ _ (exec (Stmt.Assign ..) _) _ _ _); (rename Fr _ _ _ _ => kFz); (dsimp only at kFz); (revert kFz; intro _); walk1) | walk1) | (leave1; walk_say "STEP leave1"; try dsimp only) | fail "no step")
    refine PCon.use (p_dirname w (ns.take j) n _ hs1 (le8 hjn (by decide))) (by k_asm) (by k_asm) (by k_asm) (by k_asm) (by k_asm) rfl (by first | exact room1 hd (by decide) | ktr_room) (by first | exact units1 hu (by decide) | ktr_units) ?_
    intro u11 h9 k9 F12 N12
    apply cutE
    · intro tail
      repeat' (first | with_reducible ((with_reducible show wpAny _ _ (pyIter (Value.ref _)) _ _ _); refine Halt.mk' ?_) | with_reducible ((with_reducible show wpAny _ _ (exec (Stmt.For (PySem.Expr.Name ..) (PySem.Expr.Call ..) ..) _) _ _ _); (k_here; (rename Fr _ _ _ _ => lF'); (with_unfolding_all refine' For_invVF lF' (by exact rfl) (by exact rfl) ?_; k_whole))) | with_reducible ((with_reducible show wpAny _ _ (exec (Stmt.For ..) _) _ _ _); (k_here; (rename Fr _ _ _ _ => lF'); (with_unfolding_all refine' For_invVF lF' (by exact rfl) (by exact rfl) ?_; k_whole))) | ((with_reducible show wpAny _ _ (exec (Stmt.Assign ..) _) _ _ _); (rename Fr _ _ _ _ => kFz); (dsimp only at kFz); (revert kFz; intro _); walk1) | (k_unfold; (try dsimp only)) | (k_end; wrow_close) | walk1 | (dsimp only; first | with_reducible ((with_reducible show wpAny _ _ (pyIter (Value.ref _)) _ _ _); refine Halt.mk' ?_) | with_reducible ((with_reducible show wpAny _ _ (exec (Stmt.For (PySem.Expr.Name ..) (PySem.Expr.Call ..) ..) _) _ _ _); (k_here; (rename Fr _ _ _ _ => lF'); (with_unfolding_all refine' For_invVF lF' (by exact rfl) (by exact rfl) ?_; k_whole))) | with_reducible ((with_reducible show wpAny _ _ (exec (Stmt.For ..) _) _ _ _); (k_here; (rename Fr _ _ _ _ => lF'); (with_unfolding_all refine' For_invVF lF' (by exact rfl) (by exact rfl) ?_; k_whole))) | ((with_reducible show wpAny _ _ (exec (Stmt.Assign ..) _) _ _ _); (rename Fr _ _ _ _ => kFz); (dsimp only at kFz); (revert kFz; intro _); walk1) | walk1) | (leave1; walk_say "STEP leave1"; try dsimp only) | fail "no step")
      · rename_i hc
        have hj0 : ns.take j ≠ [] := by
          intro e0
          rw [e0] at hc
          exact absurd hc (by decide +kernel)
        refine PCon.use (p_dirname w (ns.take j) n _ hs1 (le8 hjn (by decide))) (by k_asm) (by k_asm) (by k_asm) (by k_asm) (by k_asm) rfl (by first | exact room1 hd (by decide) | ktr_room) (by first | exact units1 hu (by decide) | ktr_units) ?_
        intro u12 g1 i1 G1 M1
        repeat' (first | with_reducible ((with_reducible show wpAny _ _ (pyIter (Value.ref _)) _ _ _); refine Halt.mk' ?_) | with_reducible ((with_reducible show wpAny _ _ (exec (Stmt.For (PySem.Expr.Name ..) (PySem.Expr.Call ..) ..) _) _ _ _); (k_here; (rename Fr _ _ _ _ => lF'); (with_unfolding_all refine' For_invVF lF' (by exact rfl) (by exact rfl) ?_; k_whole))) | with_reducible ((with_reducible show wpAny _ _ (exec (Stmt.For ..) _) _ _ _); (k_here; (rename Fr _ _ _ _ => lF'); (with_unfolding_all refine' For_invVF lF' (by exact rfl) (by exact rfl) ?_; k_whole))) | ((with_reducible show wpAny _ _ (exec (Stmt.Assign ..) _) _ _ _); (rename Fr _ _ _ _ => kFz); (dsimp only at kFz); (revert kFz; intro _); walk1) | (k_unfold; (try dsimp only)) | (k_end; wrow_close) | walk1 | (dsimp only; first | with_reducible ((with_reducible show wpAny _ _ (pyIter (Value.ref _)) _ _ _); refine Halt.mk' ?_) | with_reducible ((with_reducible show wpAny _ _ (exec (Stmt.For (PySem.Expr.Name ..) (PySem.Expr.Call ..) ..) _) _ _ _); (k_here; (rename Fr _ _ _ _ => lF'); (with_unfolding_all refine' For_invVF lF' (by exact rfl) (by exact rfl) ?_; k_whole))) | with_reducible ((with_reducible show wpAny _ _ (exec (Stmt.For ..) _) _ _ _); (k_here; (rename Fr _ _ _ _ => lF'); (with_unfolding_all refine' For_invVF lF' (by exact rfl) (by exact rfl) ?_; k_whole))) | ((with_reducible show wpAny _ _ (exec (Stmt.Assign ..) _) _ _ _); (rename Fr _ _ _ _ => kFz); (dsimp only at kFz); (revert kFz; intro _); walk1) | walk1) | (leave1; walk_say "STEP leave1"; try dsimp only) | fail "no step")
        refine PCon.use (p_basename w (ns.take j) n _ hs1 (le8 hjn (by decide))) (by k_asm) (by k_asm) (by k_asm) (by k_asm) (by k_asm) rfl (by first | exact room1 hd (by decide) | ktr_room) (by first | exact units1 hu (by decide) | ktr_units) ?_
        intro u13 g2 i2 G2 M2
        repeat' (first | with_reducible ((with_reducible show wpAny _ _ (pyIter (Value.ref _)) _ _ _); refine Halt.mk' ?_) | with_reducible ((with_reducible show wpAny _ _ (exec (Stmt.For (PySem.Expr.Name ..) (PySem.Expr.Call ..) ..) _) _ _ _); (k_here; (rename Fr _ _ _ _ => lF'); (with_unfolding_all refine' For_invVF lF' (by exact rfl) (by exact rfl) ?_; k_whole))) | with_reducible ((with_reducible show wpAny _ _ (exec (Stmt.For ..) _) _ _ _); (k_here; (rename Fr _ _ _ _ => lF'); (with_unfolding_all refine' For_invVF lF' (by exact rfl) (by exact rfl) ?_; k_whole))) | ((with_reducible show wpAny _ _ (exec (Stmt.Assign ..) _) _ _ _); (rename Fr _ _ _ _ => kFz); (dsimp only at kFz); (revert kFz; intro _); walk1) | (k_unfold; (try dsimp only)) | (k_end; wrow_close) | walk1 | (dsimp only; first | with_reducible ((with_reducible show wpAny _ _ (pyIter (Value.ref _)) _ _ _); refine Halt.mk' ?_) | with_reducible ((with_reducible show wpAny _ _ (exec (Stmt.For (PySem.Expr.Name ..) (PySem.Expr.Call ..) ..) _) _ _ _); (k_here; (rename Fr _ _ _ _ => lF'); (with_unfolding_all refine' For_invVF lF' (by exact rfl) (by exact rfl) ?_; k_whole))) | with_reducible ((with_reducible show wpAny _ _ (exec (Stmt.For ..) _) _ _ _); (k_here; (rename Fr _ _ _ _ => lF'); (with_unfolding_all refine' For_invVF lF' (by exact rfl) (by exact rfl) ?_; k_whole))) | ((with_reducible show wpAny _ _ (exec (Stmt.Assign ..) _) _ _ _); (rename Fr _ _ _ _ => kFz); (dsimp only at kFz); (revert kFz; intro _); walk1) | walk1) | (leave1; walk_say "STEP leave1"; try dsimp only) | fail "no step")
        refine PCon.use (p_dir3 w (ns.take j) n _ hs1 (le8 hjn (by decide)) hj0) (by k_asm) (by k_asm) (by k_asm) (by k_asm) (by k_asm) rfl (by first | exact room1 hd (by decide) | ktr_room) (by first | exact units1 hu (by decide) | ktr_units) ?_
        intro u14 g3 i3 G3 M3
        repeat' (first | with_reducible ((with_reducible show wpAny _ _ (pyIter (Value.ref _)) _ _ _); refine Halt.mk' ?_) | with_reducible ((with_reducible show wpAny _ _ (exec (Stmt.For (PySem.Expr.Name ..) (PySem.Expr.Call ..) ..) _) _ _ _); (k_here; (rename Fr _ _ _ _ => lF'); (with_unfolding_all refine' For_invVF lF' (by exact rfl) (by exact rfl) ?_; k_whole))) | with_reducible ((with_reducible show wpAny _ _ (exec (Stmt.For ..) _) _ _ _); (k_here; (rename Fr _ _ _ _ => lF'); (with_unfolding_all refine' For_invVF lF' (by exact rfl) (by exact rfl) ?_; k_whole))) | ((with_reducible show wpAny _ _ (exec (Stmt.Assign ..) _) _ _ _); (rename Fr _ _ _ _ => kFz); (dsimp only at kFz); (revert kFz; intro _); walk1) | (k_unfold; (try dsimp only)) | (k_end; wrow_close) | walk1 | (dsimp only; first | with_reducible ((with_reducible show wpAny _ _ (pyIter (Value.ref _)) _ _ _); refine Halt.mk' ?_) | with_reducible ((with_reducible show wpAny _ _ (exec (Stmt.For (PySem.Expr.Name ..) (PySem.Expr.Call ..) ..) _) _ _ _); (k_here; (rename Fr _ _ _ _ => lF'); (with_unfolding_all refine' For_invVF lF' (by exact rfl) (by exact rfl) ?_; k_whole))) | with_reducible ((with_reducible show wpAny _ _ (exec (Stmt.For ..) _) _ _ _); (k_here; (rename Fr _ _ _ _ => lF'); (with_unfolding_all refine' For_invVF lF' (by exact rfl) (by exact rfl) ?_; k_whole))) | ((with_reducible show wpAny _ _ (exec (Stmt.Assign ..) _) _ _ _); (rename Fr _ _ _ _ => kFz); (dsimp only at kFz); (revert kFz; intro _); walk1) | walk1) | (leave1; walk_say "STEP leave1"; try dsimp only) | fail "no step")
        refine PCon.use (p_dirname w (ns.take j) n _ hs1 (le8 hjn (by decide))) (by k_asm) (by k_asm) (by k_asm) (by k_asm) (by k_asm) rfl (by first | exact room1 hd (by decide) | ktr_room) (by first | exact units1 hu (by decide) | ktr_units) ?_
        intro u15 g4 i4 G4 M4
        repeat' (first | with_reducible ((with_reducible show wpAny _ _ (pyIter (Value.ref _)) _ _ _); refine Halt.mk' ?_) | with_reducible ((with_reducible show wpAny _ _ (exec (Stmt.For (PySem.Expr.Name ..) (PySem.Expr.Call ..) ..) _) _ _ _); (k_here; (rename Fr _ _ _ _ => lF'); (with_unfolding_all refine' For_invVF lF' (by exact rfl) (by exact rfl) ?_; k_whole))) | with_reducible ((with_reducible show wpAny _ _ (exec (Stmt.For ..) _) _ _ _); (k_here; (rename Fr _ _ _ _ => lF'); (with_unfolding_all refine' For_invVF lF' (by exact rfl) (by exact rfl) ?_; k_whole))) | ((with_reducible show wpAny _ _ (exec (Stmt.Assign ..) _) _ _ _); (rename Fr _ _ _ _ => kFz); (dsimp only at kFz); (revert kFz; intro _); walk1) | (k_unfold; (try dsimp only)) | (k_end; wrow_close) | walk1 | (dsimp only; first | with_reducible ((with_reducible show wpAny _ _ (pyIter (Value.ref _)) _ _ _); refine Halt.mk' ?_) | with_reducible ((with_reducible show wpAny _ _ (exec (Stmt.For (PySem.Expr.Name ..) (PySem.Expr.Call ..) ..) _) _ _ _); (k_here; (rename Fr _ _ _ _ => lF'); (with_unfolding_all refine' For_invVF lF' (by exact rfl) (by exact rfl) ?_; k_whole))) | with_reducible ((with_reducible show wpAny _ _ (exec (Stmt.For ..) _) _ _ _); (k_here; (rename Fr _ _ _ _ => lF'); (with_unfolding_all refine' For_invVF lF' (by exact rfl) (by exact rfl) ?_; k_whole))) | ((with_reducible show wpAny _ _ (exec (Stmt.Assign ..) _) _ _ _); (rename Fr _ _ _ _ => kFz); (dsimp only at kFz); (revert kFz; intro _); walk1) | walk1) | (leave1; walk_say "STEP leave1"; try dsimp only) | fail "no step")
        · rename_i hx
          rw [bne_self_eq_false] at hx
          exact absurd hx Bool.false_ne_true
        rename TailE _ _ _ _ _ => tail
        exact tail g4 i4 (by k_asm) M4
      · rename TailE _ _ _ _ _ => tail
        exact tail h9 _ (by k_asm) N12
    · intro h9 k9 F12 N12
      refine PCon.use (p_dirname w (ns.take j) n _ hs1 (le8 hjn (by decide))) (by k_asm) (by k_asm) (by k_asm) (by k_asm) (by k_asm) rfl (by first | exact room1 hd (by decide) | ktr_room) (by first | exact units1 hu (by decide) | ktr_units) ?_
      intro u16 g5 i5 G5 M5
      repeat' (first | with_reducible ((with_reducible show wpAny _ _ (pyIter (Value.ref _)) _ _ _); refine Halt.mk' ?_) | with_reducible ((with_reducible show wpAny _ _ (exec (Stmt.For (PySem.Expr.Name ..) (PySem.Expr.Call ..) ..) _) _ _ _); (k_here; (rename Fr _ _ _ _ => lF'); (with_unfolding_all refine' For_invVF lF' (by exact rfl) (by exact rfl) ?_; k_whole))) | with_reducible ((with_reducible show wpAny _ _ (exec (Stmt.For ..) _) _ _ _); (k_here; (rename Fr _ _ _ _ => lF'); (with_unfolding_all refine' For_invVF lF' (by exact rfl) (by exact rfl) ?_; k_whole))) | ((with_reducible show wpAny _ _ (exec (Stmt.Assign ..) _) _ _ _); (rename Fr _ _ _ _ => kFz); (dsimp only at kFz); (revert kFz; intro _); walk1) | (k_unfold; (try dsimp only)) | (k_end; wrow_close) | walk1 | (dsimp only; first | with_reducible ((with_reducible show wpAny _ _ (pyIter (Value.ref _)) _ _ _); refine Halt.mk' ?_) | with_reducible ((with_reducible show wpAny _ _ (exec (Stmt.For (PySem.Expr.Name ..) (PySem.Expr.Call ..) ..) _) _ _ _); (k_here; (rename Fr _ _ _ _ => lF'); (with_unfolding_all refine' For_invVF lF' (by exact rfl) (by exact rfl) ?_; k_whole))) | with_reducible ((with_reducible show wpAny _ _ (exec (Stmt.For ..) _) _ _ _); (k_here; (rename Fr _ _ _ _ => lF'); (with_unfolding_all refine' For_invVF lF' (by exact rfl) (by exact rfl) ?_; k_whole))) | ((with_reducible show wpAny _ _ (exec (Stmt.Assign ..) _) _ _ _); (rename Fr _ _ _ _ => kFz); (dsimp only at kFz); (revert kFz; intro _); walk1) | walk1) | (leave1; walk_say "STEP leave1"; try dsimp only) | fail "no step")
      refine PCon.use (p_dirname w (qs.take j) q _ hs2 (le8 hjq (by decide))) (by k_asm) (by k_asm) (by k_asm) (by k_asm) (by k_asm) rfl (by first | exact room1 hd (by decide) | ktr_room) (by first | exact units1 hu (by decide) | ktr_units) ?_
      intro u17 g6 i6 G6 M6
      repeat' (first | with_reducible ((with_reducible show wpAny _ _ (pyIter (Value.ref _)) _ _ _); refine Halt.mk' ?_) | with_reducible ((with_reducible show wpAny _ _ (exec (Stmt.For (PySem.Expr.Name ..) (PySem.Expr.Call ..) ..) _) _ _ _); (k_here; (rename Fr _ _ _ _ => lF'); (with_unfolding_all refine' For_invVF lF' (by exact rfl) (by exact rfl) ?_; k_whole))) | with_reducible ((with_reducible show wpAny _ _ (exec (Stmt.For ..) _) _ _ _); (k_here; (rename Fr _ _ _ _ => lF'); (with_unfolding_all refine' For_invVF lF' (by exact rfl) (by exact rfl) ?_; k_whole))) | ((with_reducible show wpAny _ _ (exec (Stmt.Assign ..) _) _ _ _); (rename Fr _ _ _ _ => kFz); (dsimp only at kFz); (revert kFz; intro _); walk1) | (k_unfold; (try dsimp only)) | (k_end; wrow_close) | walk1 | (dsimp only; first | with_reducible ((with_reducible show wpAny _ _ (pyIter (Value.ref _)) _ _ _); refine Halt.mk' ?_) | with_reducible ((with_reducible show wpAny _ _ (exec (Stmt.For (PySem.Expr.Name ..) (PySem.Expr.Call ..) ..) _) _ _ _); (k_here; (rename Fr _ _ _ _ => lF'); (with_unfolding_all refine' For_invVF lF' (by exact rfl) (by exact rfl) ?_; k_whole))) | with_reducible ((with_reducible show wpAny _ _ (exec (Stmt.For ..) _) _ _ _); (k_here; (rename Fr _ _ _ _ => lF'); (with_unfolding_all refine' For_invVF lF' (by exact rfl) (by exact rfl) ?_; k_whole))) | ((with_reducible show wpAny _ _ (exec (Stmt.Assign ..) _) _ _ _); (rename Fr _ _ _ _ => kFz); (dsimp only at kFz); (revert kFz; intro _); walk1) | walk1) | (leave1; walk_say "STEP leave1"; try dsimp only) | fail "no step")
      rename News _ _ _ _ => M7
      have NI : News _ _ _ ((I, it) :: (own ++ T4)) := News.sub M7 fun p hp => .tail _ (.tail _ (.tail _ hp))
      refine Onto.use (by assumption) ?_
      refine TurnEnd.next (by k_asm) NI ?_ (fun _ hp => nomatch hp) ⟨?_, ?_, T4, hT4, rfl⟩
      · intro p hp
        rcases List.mem_append.mp hp with hp | hp
        · exact Nat.ne_of_lt (hlt p (List.mem_append_left _ hp))
        · exact hT4.apart (NI _ (.head _)).1 (fun p hp => (NI p (.tail _ (List.mem_append_right _ hp))).1) (Nat.ne_of_lt hI1.1) (Nat.ne_of_lt hI1.2) hK p hp
      · intro z h1 h2
        simp only [List.mem_cons, List.not_mem_nil, or_false, not_or] at h2
        dsimp only
        (repeat (first | rw [if_neg h1] | rw [if_neg h2.1] | rw [if_neg h2.2.1] | rw [if_neg h2.2.2.1] | rw [if_neg h2.2.2.2])); (try rfl)
      · rw [show ns.length - (i + 1) = j by rw [Nat.sub_add_eq, hj]; rfl]
        exact ⟨_, _, rfl, rfl⟩
  · rintro m₁ news₁ h tk ⟨⟨ta, tb, ha, hb'⟩, T2, hT2, rfl⟩ F3 N3
    rw [Nat.sub_self, List.take_zero] at ha hb'
    simp only [List.map_cons, List.map_nil, over, ha, hb'] at F3
    dsimp only
    repeat' (first | with_reducible ((with_reducible show wpAny _ _ (pyIter (Value.ref _)) _ _ _); refine Halt.mk' ?_) | with_reducible ((with_reducible show wpAny _ _ (exec (Stmt.For (PySem.Expr.Name ..) (PySem.Expr.Call ..) ..) _) _ _ _); (k_here; (rename Fr _ _ _ _ => lF'); (with_unfolding_all refine' For_invVF lF' (by exact rfl) (by exact rfl) ?_; k_whole))) | with_reducible ((with_reducible show wpAny _ _ (exec (Stmt.For ..) _) _ _ _); (k_here; (rename Fr _ _ _ _ => lF'); (with_unfolding_all refine' For_invVF lF' (by exact rfl) (by exact rfl) ?_; k_whole))) | ((with_reducible show wpAny _ _ (exec (Stmt.Assign ..) _) _ _ _); (rename Fr _ _ _ _ => kFz); (dsimp only at kFz); (revert kFz; intro _); walk1) | (k_unfold; (try dsimp only)) | (k_end; wrow_close) | walk1 | (dsimp only; first | with_reducible ((with_reducible show wpAny _ _ (pyIter (Value.ref _)) _ _ _); refine Halt.mk' ?_) | with_reducible ((with_reducible show wpAny _ _ (exec (Stmt.For (PySem.Expr.Name ..) (PySem.Expr.Call ..) ..) _) _ _ _); (k_here; (rename Fr _ _ _ _ => lF'); (with_unfolding_all refine' For_invVF lF' (by exact rfl) (by exact rfl) ?_; k_whole))) | with_reducible ((with_reducible show wpAny _ _ (exec (Stmt.For ..) _) _ _ _); (k_here; (rename Fr _ _ _ _ => lF'); (with_unfolding_all refine' For_invVF lF' (by exact rfl) (by exact rfl) ?_; k_whole))) | ((with_reducible show wpAny _ _ (exec (Stmt.Assign ..) _) _ _ _); (rename Fr _ _ _ _ => kFz); (dsimp only at kFz); (revert kFz; intro _); walk1) | walk1) | (leave1; walk_say "STEP leave1"; try dsimp only) | fail "no step")
    rw [show (pth [] == Str.ofString "/") = true by decide +kernel]
    exact hret _ [] T2 _ _ ⟨rfl, rfl⟩ hT2 (by k_asm) (by k_asm) (fun p hp => nomatch hp)
end Mine
end PartE3

end SharedAll
end SharedMem

section PartE4
open PySem PySem.W PySem.Spec PySem.Calls PyProof.Rows
set_option maxRecDepth 100000
set_option maxHeartbeats 2000000
namespace Mine
theorem anewE4 : True := by
  w_top off
  trivial
/-- raising the bare class: the exception is made with no arguments -/
theorem zd_raise {prog : Program} {w : World} {A : Around} {E : Value → Shared → Prop} {s : Shared} {env : Env} {x : Str} {np pos : Pos} {Q : Flow → Shared → Prop} (hh : A.handled = none)
    (hx : wpAny (model prog w) A (eval (.Name x np) env) (fun v s₁ => v = .type "ZeroDivisionError" ∧ s₁ = s) E s)
    (h : ∀ h' e, Heap.MadeExc s.heap h' e "ZeroDivisionError" [] → E (.ref e) { s with heap := h' }) :
    wpAny (model prog w) A (exec (.Raise (some (.Name x np)) none pos) env) Q E s := by
  have hc := excClass_ZeroDivisionError
  show wpAny (model prog w) A (do standAt pos; raiseStmt env (some (do let v ← eval (.Name x np) env; standAt pos; pure v)) none) Q E s
  refine wpAny_bind (wpAny_standAt ?_)
  unfold raiseStmt
  refine wpAny_bind (wpAny_bind (wpAny_mono hx (fun v s₁ h₁ => wpAny_bind (wpAny_standAt (wpAny_pure ?_))) fun _ _ e => e))
  obtain ⟨rfl, hs₁⟩ := h₁
  subst s₁
  refine wpAny_bind (wpAny_pure (wpAny_bind (wpAny_holding ?_)))
  unfold excFromValue isExcClass
  refine wpAny_bind (wpAny_bind (wpAny_pure ?_))
  rw [if_pos rfl, hc.base]
  refine wpAny_pure ?_
  rw [if_pos rfl]
  obtain ⟨hp, g, d, tk, os⟩ := s
  refine wpAny_bind (wpAny_call_exc PySem.F.excCall_ZeroDivisionError fun h' e hn => ?_)
  obtain ⟨t, he, _⟩ := hn.there
  have hT : (⟨h', g, d, tk, os⟩ : Shared).TypeIs (.ref e) "ZeroDivisionError" := (show ∃ o, h'.get? e = some o ∧ o.cls = .type "ZeroDivisionError" from ⟨_, he, rfl⟩)
  refine wpAny_bind (wpAny_isInstance hT hc.base ?_)
  rw [if_neg (by decide)]
  refine wpAny_pure (wpAny_bind (m := isType (.type "ZeroDivisionError")) (wpAny_pure ?_))
  rw [if_pos rfl]
  refine wpAny_bind (wpAny_holding ?_)
  unfold raisedFor
  refine wpAny_bind (wpAny_typeOf hT ?_)
  refine wpAny_bind (call_issubclass (issubclass_self hc (by rw [isSubtype_type]; kernel_rfl)) ?_)
  refine wpAny_bind (wpAny_truthy_bool ?_)
  dsimp only
  rw [if_pos rfl]
  refine wpAny_pure ?_
  skip
  unfold setFlight raiseNew
  refine wpAny_bind (wpAny_bind (wpAny_field (i := 1) (x := Value.none) he rfl rfl ?_))
  rw [if_neg (by decide)]
  refine wpAny_pure (wpAny_bind (wpAny_handled ?_))
  rw [hh]
  exact wpAny_bind (wpAny_pure (wpAny_throw (h h' e hn)))
end Mine
end PartE4

section PartP7
open PySem PySem.W PySem.Spec PySem.Calls PyProof.Rows
set_option maxRecDepth 100000
namespace Mine
theorem anewP7 : True := by
  w_top off
  trivial
theorem dv_acc (b : Int) : ∀ (c : List Int) (v : Int), c.foldl (fun a n => a * b + n) v = v * b ^ c.length + dv b c
  | [], v => by simp [dv]
  | x :: r, v => by
    unfold dv
    rw [List.foldl_cons, List.foldl_cons, dv_acc b r, dv_acc b r (0 * b + x), List.length_cons, Int.pow_succ, Int.zero_mul, Int.zero_add, Int.add_mul, Int.mul_assoc, Int.mul_comm b, Int.add_assoc]
theorem dv_app (b : Int) (a c : List Int) : dv b (a ++ c) = dv b a * b ^ c.length + dv b c := by
  have h := dv_acc b c (dv b a)
  unfold dv at *
  rw [List.foldl_append]
  exact h
theorem dv_take {b : Int} (hb : 0 < b) {l : List Int} (h : ∀ n ∈ l, 0 ≤ n ∧ n < b) {i : Nat} (_hi : i ≤ l.length) : dv b (l.take i) = dv b l / b ^ (l.length - i) := by
  have h1 := dv_app b (l.take i) (l.drop i)
  rw [List.take_append_drop, List.length_drop] at h1
  have h2 := dv_bound hb (ns := l.drop i) (l := l.length - i) (by rw [List.length_drop]) fun n hn => h n (List.mem_of_mem_drop hn)
  have h3 : (0 : Int) < b ^ (l.length - i) := Int.pow_pos hb
  rw [h1, Int.add_comm, Int.add_mul_ediv_right _ _ (Int.ne_of_gt h3), Int.ediv_eq_zero_of_lt h2.1 h2.2, Int.zero_add]
theorem dv_rev (n : Nat) : ∀ l : List Int, dv (2 ^ n) l.reverse = dval n l
  | [] => rfl
  | d :: r => by
    rw [List.reverse_cons, dv_snoc, dv_rev n r, dval]
    omega
theorem dval_zeros (n : Nat) : ∀ k : Nat, dval n (List.replicate k 0) = 0
  | 0 => rfl
  | k + 1 => by
    rw [List.replicate_succ, dval, dval_zeros n k]
    omega
theorem ndig_le_of {n N : Nat} {q : Int} (hn : 0 < n) (h0 : 0 ≤ q) (h1 : q < 2 ^ (n * N)) : ndig n q ≤ N := by
  have h2 := bits_le h0 h1
  rw [ndig_eq hn]
  refine Nat.lt_succ_iff.mp ((Nat.div_lt_iff_lt_mul hn).mpr ?_)
  rw [Nat.succ_mul, Nat.mul_comm N n]
  omega
theorem climb_ok {n : Nat} {d : Int} {ns : List Int} (hn : 0 < n) (hd : 0 < d) (hs : ∀ z ∈ ns, 0 ≤ z ∧ z < (2 : Int) ^ n) :
    0 ≤ dv (2 ^ n) ns / d ∧ ndig n (dv (2 ^ n) ns / d) ≤ ns.length ∧ ∀ qs, qs = (digsOf n (dv (2 ^ n) ns / d) ++ List.replicate (ns.length - ndig n (dv (2 ^ n) ns / d)) 0).reverse →
      qs.length = ns.length ∧ (∀ z ∈ qs, 0 ≤ z ∧ z < (2 : Int) ^ n) ∧ ∀ i, i ≤ ns.length → dv (2 ^ n) (qs.take i) = dv (2 ^ n) (ns.take i) / d := by
  have hp : (0 : Int) < 2 ^ n := Int.pow_pos (by decide)
  have hM := dv_bound hp (ns := ns) rfl hs
  have hq0 : 0 ≤ dv (2 ^ n) ns / d := Int.ediv_nonneg hM.1 (Int.le_of_lt hd)
  have hq1 : dv (2 ^ n) ns / d < 2 ^ (n * ns.length) := by
    rw [Int.pow_mul]
    exact Int.lt_of_le_of_lt (Int.ediv_le_self _ hM.1) hM.2
  have hk := ndig_le_of hn hq0 hq1
  refine ⟨hq0, hk, ?_⟩
  rintro qs rfl
  have hl : (digsOf n (dv (2 ^ n) ns / d) ++ List.replicate (ns.length - ndig n (dv (2 ^ n) ns / d)) (0 : Int)).reverse.length = ns.length := by
    rw [List.length_reverse, List.length_append, List.length_replicate, digs_len]; omega
  have he : ∀ z ∈ (digsOf n (dv (2 ^ n) ns / d) ++ List.replicate (ns.length - ndig n (dv (2 ^ n) ns / d)) (0 : Int)).reverse, 0 ≤ z ∧ z < (2 : Int) ^ n := by
    intro z hz
    rw [List.mem_reverse, List.mem_append] at hz
    rcases hz with hz | hz
    · exact digs_lt z hz
    · rw [(List.mem_replicate.mp hz).2]; exact ⟨Int.le_refl _, hp⟩
  refine ⟨hl, he, fun i hi => ?_⟩
  have e1 := dv_take hp he (i := i) (by omega)
  have e2 := dv_take hp hs hi
  rw [hl, dv_rev, dval_append, dval_zeros, Int.zero_mul, Int.add_zero, dval_digs hn hq0] at e1
  rw [e1, e2, Int.ediv_ediv_of_nonneg (Int.le_of_lt hd), Int.ediv_ediv_of_nonneg (Int.le_of_lt (Int.pow_pos hp)), Int.mul_comm]
end Mine
end PartP7

section PartP8
open PySem PySem.W PySem.Spec PySem.Calls PyProof.Rows
namespace Mine
theorem anewP8 : True := by
  w_top off
  trivial
theorem dm_m1 {M d : Int} (hd : 0 < d) : dmQ (-1 - M) d = -1 - M / d ∧ dmR (-1 - M) d = d - 1 - M % d := by
  have h1 := Int.emod_add_mul_ediv M d
  have h2 := Int.emod_nonneg M (Int.ne_of_gt hd)
  have h3 := Int.emod_lt_of_pos M hd
  unfold dmQ dmR
  rw [if_pos hd, if_pos hd]
  refine (Int.ediv_emod_unique hd).mpr ⟨?_, by omega, by omega⟩
  rw [Int.mul_sub, Int.mul_neg, Int.mul_one]
  omega
theorem dm_nn {M d : Int} (hd : 0 < d) : dmQ (-M) (-d) = M / d ∧ dmR (-M) (-d) = -(M % d) := by
  unfold dmQ dmR
  rw [if_neg (by omega), if_neg (by omega), Int.neg_neg, Int.neg_neg]
  exact ⟨rfl, rfl⟩
theorem dm_pos {M d : Int} (hd : 0 < d) (ho : M % d > 0) : dmQ M (-d) = -1 - M / d ∧ dmR M (-d) = M % d - d := by
  have h1 := Int.emod_add_mul_ediv M d
  have h3 := Int.emod_lt_of_pos M hd
  unfold dmQ dmR
  rw [if_neg (by omega), if_neg (by omega), Int.neg_neg]
  have h := (Int.ediv_emod_unique (a := -M) (q := -1 - M / d) (r := d - M % d) hd).mpr ⟨by rw [Int.mul_sub, Int.mul_neg, Int.mul_one]; omega, by omega, by omega⟩
  rw [h.1, h.2]
  exact ⟨rfl, by omega⟩
theorem dm_zero {M d : Int} (hd : 0 < d) (ho : ¬ M % d > 0) : dmQ M (-d) = -(M / d) ∧ dmR M (-d) = 0 := by
  have h1 := Int.emod_add_mul_ediv M d
  have h2 := Int.emod_nonneg M (Int.ne_of_gt hd)
  unfold dmQ dmR
  rw [if_neg (by omega), if_neg (by omega), Int.neg_neg]
  have h := (Int.ediv_emod_unique (a := -M) (q := -(M / d)) (r := 0) hd).mpr ⟨by rw [Int.mul_neg]; omega, by omega, by omega⟩
  rw [h.1, h.2]
  exact ⟨rfl, rfl⟩
end Mine
end PartP8

section PartE5
open PySem PySem.W PySem.Spec PySem.Calls PyProof.Rows
set_option maxRecDepth 100000
set_option maxHeartbeats 2000000
namespace Mine
theorem anewE5 : True := by
  w_top off
  trivial
section
variable {prog : Program} {w : World} {A₀ A : Around} {s : Shared} {base h₀ : Heap} {L a : Addr} {m : Str → Option Value} {cn : Str} {cs : Scope} {ccd : Value} {cl : List (Str × Addr)} {news : Led} {K : Frag} {p : Program} {loose : List Str} {mean : ExcName → Option Value} {mg mb : Str → Option Value}
    {R : Result → Shared → Prop} {name qual : Str} {params : Arguments} {body : List Stmt} {scope : Scope} {dV kV doc pm cdv ct oc : Value} {an od : Option Addr} {osl : Array (Option Value)} {f : Addr} {args : Args} {binds : List (Str × Value)}
/-- the entry of a helper that may catch, from a frame that may have cells -/
theorem enterX (B : Below A₀ base [] h₀) (F : Fr h₀ L s.heap m) (X₀ : K.In h₀) (N : News h₀ L s.heap news) (T : Top p loose mean mg mb h₀) (hA : A.frames = some [envX cn cs L a ccd cl])
    (ho : K.lookup f = some ⟨oc, od, .func (fnOf name qual params body scope dV kV doc pm an cdv ct), osl⟩) (hcd : codeIn K cdv qual = true) (hroom : A.depth < recursionLimit)
    (hbind : BindsTo s (fnOf name qual params body scope dV kV doc pm an cdv ct) args binds) (hloc : ∀ y ∈ binds, scope.names.lookup y.1 = some .local)
    (h : ∀ g L' h₁, Fr h₀ L g m → Fr g L' h₁ (fun y => binds.reverse.lookup y) → News g L' h₁ news → Below A base [envX cn cs L a ccd cl] g → K.In g → Top p loose mean mg mb g → KtsDicts ([envX cn cs L a ccd cl].filterMap (·.frame)) g →
      wpAny (model prog w) (A.deeper (envOf qual scope L' f cdv)) (execs body (envOf qual scope L' f cdv))
        (fun fl s' => LeaveS0 ([envX cn cs L a ccd cl].filterMap (·.frame)) h₀ L m g R (match fl with | .ret v => v | _ => .none) s')
        (fun e s' => wpAny (model prog w) (A.deeper (envOf qual scope L' f cdv)) (leaving (envOf qual scope L' f cdv) e) (fun _ s'' => R (.error e) s'') (fun e' s'' => R (.error e') s'') s')
        { s with heap := h₁, toks := s.toks + binds.length })
    (hck : cs.kind = .function) (hco : scope.isCoroutine = false) (hgen : scope.isGenerator = false) (hk : scope.kind = .function)
    (hcell : ∀ x ∈ scope.names, x.2 ≠ .cell) : codeAny (model prog w) A (.call (.ref f) args) R s := by
  have X := X₀.keeps F.keep
  refine codeAny_call_def (fd := fnOf name qual params body scope dV kV doc pm an cdv ct) (body := body) (binds := binds) hroom (X _ _ ho) rfl (T.nolimit.keeps F.keep) (codeRec_of X hcd) rfl hbind hcell hloc (fun h₁ hns hk₁ => ?_) hco hgen hk
  have off : ∀ b o, h₀.get? b = some o → b ∉ news.map (·.1) := fun b o e q => by
    obtain ⟨x, hx, rfl⟩ := List.mem_map.mp q
    rw [(N x hx).2.2] at e; cases e
  have st : h₀.StaysIn (hideAll s.heap (news.map (·.1))) := fun b o e => hideAll_get _ (F.keep b o e) (off b o e)
  have nL : L ∉ news.map (·.1) := fun q => by
    obtain ⟨x, hx, e⟩ := List.mem_map.mp q
    exact (N x hx).2.1 e
  obtain ⟨oL, es, ep, hL, hLd, hLk, hLf⟩ := F.ns
  have hLg : (hideAll s.heap (news.map (·.1))).get? L = some oL := hideAll_get _ hL nL
  have hNs : ∀ (sl : Array (Option Value)) h', h'.get? L = some { oL with slots := sl } → Heap.Ns h' L m := fun sl h' e => ⟨_, es, ep, e, hLd, hLk, hLf⟩
  have F₂ : Fr h₀ L (hideAll s.heap (news.map (·.1))) m := ⟨⟨oL, es, ep, hLg, hLd, hLk, hLf⟩, st, F.above⟩
  have B₂ : Below A base [envX cn cs L a ccd cl] (hideAll s.heap (news.map (·.1))) :=
    ⟨hA, (pushX B F₂ (env := envX cn cs L a ccd cl) rfl hck).stays, (pushX B F₂ (env := envX cn cs L a ccd cl) rfl hck).frames⟩
  have one : ∀ b, b ∈ [envX cn cs L a ccd cl].filterMap (·.frame) → b = L := fun b hb => List.mem_singleton.mp hb
  refine wpAny_mono (h _ s.heap.objs.size h₁ F₂ ⟨hns, fun b o e => hk₁ b o (of_hideAll _ e), Nat.le_of_eq (hideAll_size _ _)⟩
    (fun x hx => ⟨hk₁ _ _ (N x hx).1, Nat.ne_of_lt (Heap.lt_size (N x hx).1), hideAll_none _ (List.mem_map_of_mem hx)⟩) B₂ (X₀.keeps st) (T.keeps st) (fun b hb => ⟨oL, es, ep, one b hb ▸ hLg, hLd⟩)) (fun fl s' hl => ?_) fun _ _ y => y
  obtain ⟨g', L', m', news', T', F', N', k⟩ := hl
  obtain ⟨sl, hs⟩ := T'.up hLg
  refine k ⟨hNs sl _ (F'.keep _ _ hs), fun b o e => F'.keep b o (T'.other b o (st b o e) fun q => ?_), F.above⟩ fun x hx => ⟨(N' x hx).1, fun q => ?_, ?_⟩
  · rw [one b q, kts_self F] at e; cases e
  · have := (N' x hx).2.2; rw [q, hs] at this; cases this
  · cases q : h₀.get? x.1 with
    | none => rfl
    | some o =>
      obtain ⟨sl', hs'⟩ := T'.up (st _ _ q)
      have := (N' x hx).2.2
      rw [hs'] at this
      cases this
end
theorem tab_has {P : Addr} {pos : Pos} {q : Str} {T : Led} (h : Tab P pos q T) : ∃ ps, (P, tabObj ps) ∈ T := by
  cases h with
  | none => exact ⟨_, .head _⟩
  | some => exact ⟨_, .head _⟩
theorem grown_of {T X : Led} {h₀ h : Heap} {L : Addr} (hT : Tabs T) (N : News h₀ L h X) (hs : ∀ p ∈ T, p ∈ X) : GrownAll [(48, 44), (41, 37)] h := by
  obtain ⟨T1, T2, a, b, rfl⟩ := hT
  obtain ⟨p1, m1⟩ := tab_has a
  obtain ⟨p2, m2⟩ := tab_has b
  exact ⟨⟨p2, (N _ (hs _ (List.mem_append_right _ m2))).1⟩, ⟨p1, (N _ (hs _ (List.mem_append_left _ m1))).1⟩, True.intro⟩
end Mine
end PartE5

section PartL0
open PySem PySem.W PySem.Spec PySem.Calls PyProof.Rows
set_option maxRecDepth 100000
set_option maxHeartbeats 2000000
set_option compiler.extract_closed false
namespace Mine
theorem anewL0 : True := by
  w_top off
  trivial
theorem pow_wd {wd : Nat} (h : 1 ≤ wd ∧ wd ≤ 5) : 2 ≤ (2 : Int) ^ wd ∧ (2 : Int) ^ wd ≤ 32 := by
  have key : ∀ i : Fin 6, 1 ≤ i.val → 2 ≤ (2 : Int) ^ i.val ∧ (2 : Int) ^ i.val ≤ 32 := by decide
  exact key ⟨wd, Nat.lt_succ_of_le h.2⟩ h.1
theorem pow_small {s : Int} (h0 : 0 ≤ s.fmod 5) (h1 : s.fmod 5 < 5) : 2 ≤ (2 : Int) ^ (1 + s.fmod 5).toNat ∧ (2 : Int) ^ (1 + s.fmod 5).toNat ≤ 32 := by
  obtain ⟨n, hn⟩ := Int.eq_ofNat_of_zero_le h0
  rw [hn] at h1 ⊢
  exact pow_wd (wd := 1 + n) ⟨Nat.le_add_right 1 n, Nat.add_comm n 1 ▸ Int.ofNat_lt.mp h1⟩
theorem elt_bound {k s : Int} {l : List Int} (hk : k ∈ l.map (fun k' => k'.fmod (2 ^ (1 + s.fmod 5).toNat))) (h0 : 0 ≤ s.fmod 5) (h1 : s.fmod 5 < 5) : 0 ≤ k ∧ k < 10 ^ 10 := by
  obtain ⟨x, _, rfl⟩ := List.mem_map.mp hk
  have h := pow_small h0 h1
  have z : (0 : Int) < 2 ^ (1 + s.fmod 5).toNat := Int.lt_of_lt_of_le (by decide) h.1
  exact ⟨Int.fmod_nonneg_of_pos x z, Int.lt_of_lt_of_le (Int.fmod_lt_of_pos x z) (Int.le_trans h.2 (by decide))⟩
theorem add_kept {prog : Program} {w : World} {A : Around} {E : Value → Shared → Prop} {s : Shared} {t u : Tok} {ns : List Int} {Q : Value → Shared → Prop} (hn : ns ≠ []) (hs : Small ns) (hl : ns.length ≤ 8) (h : ∀ t' tk, Q (.str (pth ns) t') { s with toks := tk }) :
    wpAny (model prog w) A (binaryOp .Add (.str sl t) (.str (Txt.join sl (ns.map fun k => txt k)) u)) Q E s := by
  have e := kept_eq hn
  have e2 : ns.map (fun k => txt k) = ns.map txt := rfl
  have hl2 := pth_len hs
  rw [← e, str_len, cps_app, List.length_append, ← str_len, ← str_len] at hl2
  refine PyProof.Rows.add_str (fun t' tk => ?_) (by rw [sizeLine_eq, e2]; omega)
  rw [e2, e]
  exact h t' tk
theorem len8 {f : Int → Int} {l : List Int} : (List.map f (List.take 4 l ++ [5, 0, 3, 1])).length ≤ 8 := by
  rw [List.length_map, List.length_append, List.length_take]
  simp only [List.length_cons, List.length_nil]
  omega
theorem keep2 {h₀ h : Heap} {L : Addr} {a b c d e f x y : Addr × Obj} (N : News h₀ L h [a, b, c, d, e, f, x, y]) : News h₀ L h [b, f, y, x] := fun p hp => N p (by
  rcases List.mem_cons.mp hp with rfl | hp
  · exact .tail _ (.head _)
  rcases List.mem_cons.mp hp with rfl | hp
  · exact .tail _ (.tail _ (.tail _ (.tail _ (.tail _ (.head _)))))
  rcases List.mem_cons.mp hp with rfl | hp
  · exact .tail _ (.tail _ (.tail _ (.tail _ (.tail _ (.tail _ (.tail _ (.head _)))))))
  rw [List.mem_singleton.mp hp]
  exact .tail _ (.tail _ (.tail _ (.tail _ (.tail _ (.tail _ (.head _)))))))
theorem low6 {P : Prop} {h₀ h : Heap} {L : Addr} {own T : Led} (_ : News h₀ L h (own ++ T)) (hl : Low own) (k : Low own → P) : P := k hl
theorem news_tl {h₀ h : Heap} {L : Addr} {p : Addr × Obj} {r : Led} (N : News h₀ L h (p :: r)) : News h₀ L h r := fun q hq => N q (.tail _ hq)
theorem tabs0 : Tabs [(37, tabObj #[]), (44, tabObj #[])] := ⟨_, _, .none, .none, rfl⟩
theorem below_ok (y : Int) : 0 < 1 + y.fmod 1000 ∧ 1 + y.fmod 1000 ≤ 1000 := by
  have a := Int.fmod_nonneg_of_pos y (show (0 : Int) < 1000 by decide)
  have b := Int.fmod_lt_of_pos y (show (0 : Int) < 1000 by decide)
  omega
theorem elts {wd : Nat} {l : List Int} : ∀ z ∈ l.map (fun k' => k'.fmod (2 ^ wd)), 0 ≤ z ∧ z < (2 : Int) ^ wd := by
  intro z hz
  obtain ⟨x, _, rfl⟩ := List.mem_map.mp hz
  have hp : (0 : Int) < 2 ^ wd := Int.pow_pos (by decide)
  exact ⟨Int.fmod_nonneg_of_pos x hp, Int.fmod_lt_of_pos x hp⟩
local macro_rules | `(tactic| k_ne) => `(tactic| assumption)
local macro_rules | `(tactic| walk_at "CompSrc") => `(tactic| ((with_reducible show LCg.CompSrc _ _ _ _ _ _ _ (PySem.Expr.Call ..) _ _ _ _ _ _); refine Halt.mk' ?_))
def TailP (h₀ : Heap) (L : Addr) (m : Str → Option Value) (own : Led) (R : Led → Heap → Prop) : Prop := ∀ T h, Tabs T → Fr h₀ L h m → News h₀ L h (own ++ T) → R T h
theorem cutT {Q : Prop} {h₀ : Heap} {L : Addr} {m : Str → Option Value} {own : Led} {R : Led → Heap → Prop} (k : TailP h₀ L m own R → Q) (p : TailP h₀ L m own R) : Q := k p
theorem any_toks {α : Type} {M : Model} {A : Around} {t : Sem α} {Q : α → Shared → Prop} {E : Value → Shared → Prop} {h : Heap} {g : Array GenState} {d : Drawn} {o : OsState} {k0 : Nat} (H : ∀ k, wpAny M A t Q E ⟨h, g, d, k, o⟩) : wpAny M A t Q E ⟨h, g, d, k0, o⟩ := H _
theorem genF {h₀ h : Heap} {L : Addr} {m0 : Str → Option Value} (g : (Str → Option Value) → Str → Option Value) {P : Prop} (F : Fr h₀ L h (g m0)) (k : ∀ m1, Fr h₀ L h (g m1) → P) : P := k m0 F
theorem lt48 {M : Int} (h : M < 2 ^ 40) : M < 2 ^ 48 := Int.lt_trans h (by decide)
theorem rng0 {M : Int} (h : 0 ≤ M ∧ M < 2 ^ 40) : -(2 ^ 47) ≤ M ∧ M ≤ 2 ^ 47 := ⟨Int.le_trans (by decide) h.1, Int.le_trans (Int.le_of_lt h.2) (by decide)⟩
theorem rngn {M : Int} (h : 0 ≤ M ∧ M < 2 ^ 40) : -(2 ^ 47) ≤ -M ∧ -M ≤ 2 ^ 47 := ⟨Int.neg_le_neg (rng0 h).2, Int.le_trans (Int.neg_le_neg h.1) (by decide)⟩
theorem rng1 {M : Int} (h : 0 ≤ M ∧ M < 2 ^ 40) : -(2 ^ 47) ≤ -1 - M ∧ -1 - M ≤ 2 ^ 47 := by omega
theorem rngd {d : Int} (h : 0 < d ∧ d ≤ 1000) : d ≠ 0 ∧ -1000 ≤ d ∧ d ≤ 1000 := ⟨Int.ne_of_gt h.1, Int.le_trans (by decide) (Int.le_of_lt h.1), h.2⟩
theorem rngdn {d : Int} (h : 0 < d ∧ d ≤ 1000) : -d ≠ 0 ∧ -1000 ≤ -d ∧ -d ≤ 1000 := ⟨fun e => (rngd h).1 (Int.neg_eq_zero.mp e), Int.neg_le_neg h.2, Int.le_trans (Int.neg_le_neg (Int.le_of_lt h.1)) (by decide)⟩
theorem lawX : PySem.Challenge.rw_ik0007_01.Holds := by
  exact hd (by
    k_go0
    (all_goals try k_fold)
    refine absW ?_
    intro Qz Ez hQz hEz
    repeat' (first | ((with_reducible show wpAny _ (callerA.deeper _) (exec (Stmt.Assign ..) _) _ _ _); (rename Fr _ _ _ _ => kFz); (dsimp only at kFz); walk1) | with_reducible (((with_reducible show wpAny _ (callerA.deeper _) (call (Value.ref 185) _) _ _ _); refine Halt.mk' ?_)) | ((k_here; (with_reducible show wpAny _ _ (call (Value.builtin "str.join") [Value.str _ _, Value.ref _]) _ _ _); (with_reducible rename CarriedAll _ (List.map _ _) => ktC); (refine KT.join_B 10 (by first | assumption | is_list | exact News.isList (by k_asm) (by k_mem)) ktC (by intro a ha; have hb' := elt_bound ha (by assumption) (by assumption); exact txt_len hb'.1 hb'.2) (by first | omega | kt_fact | (simp; omega)) (by decide) ?_; intro _ _))) | with_reducible ((with_reducible show wpAny _ _ (call (Value.type "str") _) _ _ _); (k_here; k_dflt (refine' str_txt (by exact (elt_bound (by assumption) (by assumption) (by assumption)).1) (by exact (elt_bound (by assumption) (by assumption) (by assumption)).2) ?_))) | with_reducible ((with_reducible show wpAny _ _ (binaryOp .Add (Value.str _ _) (Value.str _ _)) _ _ _); (k_here; k_dflt (refine' add_kept (by simp) (by exact fun z hz => elt_bound hz (by assumption) (by assumption)) (by exact len8) ?_); intro _ _)) | (k_unfold; (try dsimp only)) | (k_end; wrow_close) | walk1 | (dsimp only; first | ((with_reducible show wpAny _ (callerA.deeper _) (exec (Stmt.Assign ..) _) _ _ _); (rename Fr _ _ _ _ => kFz); (dsimp only at kFz); walk1) | with_reducible (((with_reducible show wpAny _ (callerA.deeper _) (call (Value.ref 185) _) _ _ _); refine Halt.mk' ?_)) | ((k_here; (with_reducible show wpAny _ _ (call (Value.builtin "str.join") [Value.str _ _, Value.ref _]) _ _ _); (with_reducible rename CarriedAll _ (List.map _ _) => ktC); (refine KT.join_B 10 (by first | assumption | is_list | exact News.isList (by k_asm) (by k_mem)) ktC (by intro a ha; have hb' := elt_bound ha (by assumption) (by assumption); exact txt_len hb'.1 hb'.2) (by first | omega | kt_fact | (simp; omega)) (by decide) ?_; intro _ _))) | with_reducible ((with_reducible show wpAny _ _ (call (Value.type "str") _) _ _ _); (k_here; k_dflt (refine' str_txt (by exact (elt_bound (by assumption) (by assumption) (by assumption)).1) (by exact (elt_bound (by assumption) (by assumption) (by assumption)).2) ?_))) | with_reducible ((with_reducible show wpAny _ _ (binaryOp .Add (Value.str _ _) (Value.str _ _)) _ _ _); (k_here; k_dflt (refine' add_kept (by simp) (by exact fun z hz => elt_bound hz (by assumption) (by assumption)) (by exact len8) ?_); intro _ _)) | walk1) | (leave1; walk_say "STEP leave1"; try dsimp only) | fail "no step")
    refine Halt.mk ?_
    with_reducible (k_here; (with_reducible show LCg.CompSrc _ _ _ _ _ _ _ (PySem.Expr.Call _ _ _ _) _ _ _ _ _ _); (try k_fmods); k_dflt (refine LCg.CompSrc.ledger (by rfl) (by k_asm) (by k_asm) (by k_mem) (by size_fits) ?_; intro g'; (refine' kct_list (fun k => txt k) (by assumption) (fun k' t' I' oI' C' oC' D' m' ys' h' tk' E' hk' hC' hx' F' N' off' ne' => ?_) ?_); (all_goals (try (simp only [LCg.Off3, and_true] at off'))); (all_goals (try (obtain ⟨⟨_, _, _⟩, ⟨_, _, _⟩, ⟨_, _, _⟩, ⟨_, _, _⟩, ⟨_, _, _⟩, ⟨_, _, _⟩, _, _, _⟩ := id off'))); (all_goals (try ((show KPfMark → _); intro hMark'))); kcf_last))
    all_goals repeat' (first | ((with_reducible show wpAny _ (callerA.deeper _) (exec (Stmt.Assign ..) _) _ _ _); (rename Fr _ _ _ _ => kFz); (dsimp only at kFz); walk1) | with_reducible (((with_reducible show wpAny _ (callerA.deeper _) (call (Value.ref 185) _) _ _ _); refine Halt.mk' ?_)) | ((k_here; (with_reducible show wpAny _ _ (call (Value.builtin "str.join") [Value.str _ _, Value.ref _]) _ _ _); (with_reducible rename CarriedAll _ (List.map _ _) => ktC); (refine KT.join_B 10 (by first | assumption | is_list | exact News.isList (by k_asm) (by k_mem)) ktC (by intro a ha; have hb' := elt_bound ha (by assumption) (by assumption); exact txt_len hb'.1 hb'.2) (by first | omega | kt_fact | (simp; omega)) (by decide) ?_; intro _ _))) | with_reducible ((with_reducible show wpAny _ _ (call (Value.type "str") _) _ _ _); (k_here; k_dflt (refine' str_txt (by exact (elt_bound (by assumption) (by assumption) (by assumption)).1) (by exact (elt_bound (by assumption) (by assumption) (by assumption)).2) ?_))) | with_reducible ((with_reducible show wpAny _ _ (binaryOp .Add (Value.str _ _) (Value.str _ _)) _ _ _); (k_here; k_dflt (refine' add_kept (by simp) (by exact fun z hz => elt_bound hz (by assumption) (by assumption)) (by exact len8) ?_); intro _ _)) | (k_unfold; (try dsimp only)) | (k_end; wrow_close) | walk1 | (dsimp only; first | ((with_reducible show wpAny _ (callerA.deeper _) (exec (Stmt.Assign ..) _) _ _ _); (rename Fr _ _ _ _ => kFz); (dsimp only at kFz); walk1) | with_reducible (((with_reducible show wpAny _ (callerA.deeper _) (call (Value.ref 185) _) _ _ _); refine Halt.mk' ?_)) | ((k_here; (with_reducible show wpAny _ _ (call (Value.builtin "str.join") [Value.str _ _, Value.ref _]) _ _ _); (with_reducible rename CarriedAll _ (List.map _ _) => ktC); (refine KT.join_B 10 (by first | assumption | is_list | exact News.isList (by k_asm) (by k_mem)) ktC (by intro a ha; have hb' := elt_bound ha (by assumption) (by assumption); exact txt_len hb'.1 hb'.2) (by first | omega | kt_fact | (simp; omega)) (by decide) ?_; intro _ _))) | with_reducible ((with_reducible show wpAny _ _ (call (Value.type "str") _) _ _ _); (k_here; k_dflt (refine' str_txt (by exact (elt_bound (by assumption) (by assumption) (by assumption)).1) (by exact (elt_bound (by assumption) (by assumption) (by assumption)).2) ?_))) | with_reducible ((with_reducible show wpAny _ _ (binaryOp .Add (Value.str _ _) (Value.str _ _)) _ _ _); (k_here; k_dflt (refine' add_kept (by simp) (by exact fun z hz => elt_bound hz (by assumption) (by assumption)) (by exact len8) ?_); intro _ _)) | walk1) | (leave1; walk_say "STEP leave1"; try dsimp only) | fail "no step")
    refine Halt.mk ?_
    rename List Int => xs
    have hf0 : 0 ≤ (xs.take 4).sum.fmod 5 := by assumption
    have hf1 : (xs.take 4).sum.fmod 5 < 5 := by assumption
    rename Fr _ _ _ _ => F0
    rename News _ _ _ _ => N0
    have hw : 1 ≤ 1 + (xs.take 4).sum.fmod 5 ∧ 1 + (xs.take 4).sum.fmod 5 ≤ 5 := by omega
    generalize 1 + (List.take 4 xs).sum.fmod 5 = W at *
    obtain ⟨wd, rfl⟩ : ∃ wd : Nat, W = (wd : Int) := ⟨W.toNat, by omega⟩
    rw [Int.toNat_natCast] at *
    replace hw : 1 ≤ wd ∧ wd ≤ 5 := by omega
    have hp := pow_wd hw
    have hz : ∀ z ∈ List.map (fun k' => k'.fmod (2 ^ wd)) (List.take 4 xs ++ [5, 0, 3, 1]), 0 ≤ z ∧ z < (2 : Int) ^ wd := elts
    have hl8 : (List.map (fun k' => Int.fmod k' (2 ^ wd)) (List.take 4 xs ++ [5, 0, 3, 1])).length ≤ 8 := len8
    have hne : List.map (fun k' => Int.fmod k' (2 ^ wd)) (List.take 4 xs ++ [5, 0, 3, 1]) ≠ [] := by simp
    generalize List.map (fun k' => Int.fmod k' (2 ^ wd)) (List.take 4 xs ++ [5, 0, 3, 1]) = ns at *
    have hd2 := below_ok ((if (List.take 4 xs).sum.fdiv 5 < 0 then -(List.take 4 xs).sum.fdiv 5 else (List.take 4 xs).sum.fdiv 5) + 2)
    generalize 1 + ((if (List.take 4 xs).sum.fdiv 5 < 0 then -(List.take 4 xs).sum.fdiv 5 else (List.take 4 xs).sum.fdiv 5) + 2).fmod 1000 = d at *
    have hs : Small ns := fun z h => ⟨(hz z h).1, Int.lt_of_lt_of_le (hz z h).2 (Int.le_trans hp.2 (by decide))⟩
    have hM := dv_small hp hl8 hz
    have N1 := keep2 N0
    clear N0
    (try dsimp only at F0)
    refine genF (fun m0 y => if y = Str.ofString "kept" then _ else if y = Str.ofString "below" then _ else if y = Str.ofString "names" then _ else if y = Str.ofString "wide" then _ else m0 y) F0 ?_
    clear F0
    intro m1 F0
    (try dsimp only at F0)
    refine PCon.use (p_value _ ns _ (2 ^ wd) _ hs (le8 hl8 (by decide)) ⟨Int.le_trans (by decide) hp.1, Int.le_trans hp.2 (by decide)⟩) (by k_asm) (by k_asm) (by k_asm) (by k_asm) (by k_asm) rfl (by first | exact Nat.le_of_ble_eq_true rfl | ktr_room | decide) (by first | exact Nat.le_of_ble_eq_true rfl | ktr_units | decide) ?_
    intro u1 h1 k1 F1 N2
    refine low6 (own := [_, _]) (T := [(37, tabObj #[]), (44, tabObj #[])]) N2 ?lo (fun hlow => ?_)
    case lo =>
      have oa := ‹_ ∧ _ ∧ _ ∧ _ ∧ @Ne Nat 44 _ ∧ @Ne Nat 37 _›
      intro p hp
      simp only [List.mem_cons, List.not_mem_nil, or_false] at hp
      rcases hp with rfl | rfl <;> (refine ⟨?_, ?_⟩ <;> dsimp only <;> (first | exact Ne.symm oa.2.2.2.2.1 | exact Ne.symm oa.2.2.2.2.2 | exact Nat.ne_of_gt (by omega)))
    repeat' (first | ((with_reducible show wpAny _ (callerA.deeper _) (exec (Stmt.Assign ..) _) _ _ _); (rename Fr _ _ _ _ => kFz); (dsimp only at kFz); walk1) | with_reducible (((with_reducible show wpAny _ (callerA.deeper _) (call (Value.ref 63) _) _ _ _); refine Halt.mk' ?_)) | (k_unfold; (try dsimp only)) | (k_end; wrow_close) | walk1 | (dsimp only; first | ((with_reducible show wpAny _ (callerA.deeper _) (exec (Stmt.Assign ..) _) _ _ _); (rename Fr _ _ _ _ => kFz); (dsimp only at kFz); walk1) | with_reducible (((with_reducible show wpAny _ (callerA.deeper _) (call (Value.ref 63) _) _ _ _); refine Halt.mk' ?_)) | walk1) | (leave1; walk_say "STEP leave1"; try dsimp only) | fail "no step")
    refine Halt.mk ?_
    refine Con.use (c_dm0 _ (dv (2 ^ wd) ns) d _ _ ⟨hM.1, lt48 hM.2⟩ hd2) (by k_asm) (by k_asm) (by k_asm) (by k_asm) (by k_asm) (by k_asm) (by k_asm) rfl (.cons (.cons .base)) tabs0 hlow (by first | exact Nat.le_of_ble_eq_true rfl | ktr_room | decide) (by first | exact Nat.le_of_ble_eq_true rfl | ktr_units | decide) ?_
    rintro v own' T1 h2 k2 ⟨D1, u2, u3, c2, rfl, rfl⟩ hT1 F2 N3 l2
    simp only [List.cons_append, List.nil_append] at N3
    repeat' (first | ((with_reducible show wpAny _ (callerA.deeper _) (exec (Stmt.Assign ..) _) _ _ _); (rename Fr _ _ _ _ => kFz); (dsimp only at kFz); walk1) | with_reducible (((with_reducible show wpAny _ (callerA.deeper _) (call (Value.ref 178) _) _ _ _); refine Halt.mk' ?_)) | (k_unfold; (try dsimp only)) | (k_end; wrow_close) | walk1 | (dsimp only; first | ((with_reducible show wpAny _ (callerA.deeper _) (exec (Stmt.Assign ..) _) _ _ _); (rename Fr _ _ _ _ => kFz); (dsimp only at kFz); walk1) | with_reducible (((with_reducible show wpAny _ (callerA.deeper _) (call (Value.ref 178) _) _ _ _); refine Halt.mk' ?_)) | walk1) | (leave1; walk_say "STEP leave1"; try dsimp only) | fail "no step")
    refine Halt.mk ?_
    obtain ⟨q0, hk, hq⟩ := climb_ok (n := wd) (ns := ns) (d := d) hw.1 hd2.1 hz
    obtain ⟨qs, hqs⟩ : ∃ qs, qs = (digsOf wd (dv (2 ^ wd) ns / d) ++ List.replicate (ns.length - ndig wd (dv (2 ^ wd) ns / d)) 0).reverse := ⟨_, rfl⟩
    obtain ⟨ql, qz, qv⟩ := hq qs hqs
    have hqM : dv (2 ^ wd) ns / d ≤ dv (2 ^ wd) ns := Int.ediv_le_self _ hM.1
    have hs2 : Small qs := fun z h => ⟨(qz z h).1, Int.lt_of_lt_of_le (qz z h).2 (Int.le_trans hp.2 (by decide))⟩
    rename News _ _ _ _ => N4
    have N5 := news_tl N4
    clear N4
    refine Con.use (c_folders _ (dv (2 ^ wd) ns / d) wd ns.length _ _ _ ⟨q0, lt48 (Int.lt_of_le_of_lt hqM hM.2)⟩ ⟨hw.1, Nat.le_trans hw.2 (by decide)⟩ hk (le8 hl8 (by decide))) (by k_asm) (by k_asm) (by k_asm) (by k_asm) (by k_asm) (by k_asm) (by k_asm) rfl (.cons (.cons .base)) hT1 hlow (by first | exact Nat.le_of_ble_eq_true rfl | ktr_room | decide) (by first | exact Nat.le_of_ble_eq_true rfl | ktr_units | decide) ?_
    rintro v own' T2 h3 k3 ⟨u4, rfl, rfl⟩ hT2 F3 N6 l3
    simp only [List.cons_append, List.nil_append] at N6
    rw [← hqs]
    repeat' (first | ((with_reducible show wpAny _ (callerA.deeper _) (exec (Stmt.Assign ..) _) _ _ _); (rename Fr _ _ _ _ => kFz); (dsimp only at kFz); walk1) | with_reducible (((with_reducible show wpAny _ (callerA.deeper _) (call (Value.ref 192) _) _ _ _); refine Halt.mk' ?_)) | (k_unfold; (try dsimp only)) | (k_end; wrow_close) | walk1 | (dsimp only; first | ((with_reducible show wpAny _ (callerA.deeper _) (exec (Stmt.Assign ..) _) _ _ _); (rename Fr _ _ _ _ => kFz); (dsimp only at kFz); walk1) | with_reducible (((with_reducible show wpAny _ (callerA.deeper _) (call (Value.ref 192) _) _ _ _); refine Halt.mk' ?_)) | walk1) | (leave1; walk_say "STEP leave1"; try dsimp only) | fail "no step")
    refine Halt.mk ?_
    refine Con.use (c_climbed _ ns qs d (2 ^ wd) _ _ _ _ _ hz hp hl8 hs2 ql hd2 qv) (by k_asm) (by k_asm) (by k_asm) (by k_asm) (by k_asm) (by k_asm) (by k_asm) rfl (.cons (.cons .base)) hT2 hlow (by first | exact Nat.le_of_ble_eq_true rfl | ktr_room | decide) (by first | exact Nat.le_of_ble_eq_true rfl | ktr_units | decide) ?_
    rintro v own' T3 h4 k4 ⟨rfl, rfl⟩ hT3 F4 N7 l4
    simp only [List.cons_append, List.nil_append] at N7
    repeat' (first | ((with_reducible show wpAny _ (callerA.deeper _) (exec (Stmt.Assign ..) _) _ _ _); (rename Fr _ _ _ _ => kFz); (dsimp only at kFz); walk1) | with_reducible (((with_reducible show wpAny _ (callerA.deeper _) (call (Value.ref 63) _) _ _ _); refine Halt.mk' ?_)) | (k_unfold; (try dsimp only)) | (k_end; wrow_close) | walk1 | (dsimp only; first | ((with_reducible show wpAny _ (callerA.deeper _) (exec (Stmt.Assign ..) _) _ _ _); (rename Fr _ _ _ _ => kFz); (dsimp only at kFz); walk1) | with_reducible (((with_reducible show wpAny _ (callerA.deeper _) (call (Value.ref 63) _) _ _ _); refine Halt.mk' ?_)) | walk1) | (leave1; walk_say "STEP leave1"; try dsimp only) | fail "no step")
    refine Halt.mk ?_
    have e1 := dm_m1 (M := dv (2 ^ wd) ns) hd2.1
    refine Con.use (c_dm _ (-1 - dv (2 ^ wd) ns) d _ _ (rng1 hM) (rngd hd2)) (by k_asm) (by k_asm) (by k_asm) (by k_asm) (by k_asm) (by k_asm) (by k_asm) rfl (.cons (.cons .base)) hT3 hlow (by first | exact Nat.le_of_ble_eq_true rfl | ktr_room | decide) (by first | exact Nat.le_of_ble_eq_true rfl | ktr_units | decide) ?_
    rintro v own' T4 h5 k5 ⟨D5, u5, u6, c5, rfl, rfl⟩ hT4 F5 N8 l5
    rw [e1.1, e1.2] at N8
    simp only [List.cons_append, List.nil_append] at N8
    repeat' (first | ((with_reducible show wpAny _ (callerA.deeper _) (exec (Stmt.Assign ..) _) _ _ _); (rename Fr _ _ _ _ => kFz); (dsimp only at kFz); walk1) | with_reducible (((with_reducible show wpAny _ (callerA.deeper _) (call (Value.ref 63) _) _ _ _); refine Halt.mk' ?_)) | (k_unfold; (try dsimp only)) | (k_end; wrow_close) | walk1 | (dsimp only; first | ((with_reducible show wpAny _ (callerA.deeper _) (exec (Stmt.Assign ..) _) _ _ _); (rename Fr _ _ _ _ => kFz); (dsimp only at kFz); walk1) | with_reducible (((with_reducible show wpAny _ (callerA.deeper _) (call (Value.ref 63) _) _ _ _); refine Halt.mk' ?_)) | walk1) | (leave1; walk_say "STEP leave1"; try dsimp only) | fail "no step")
    refine Halt.mk ?_
    rename News _ _ _ _ => N9
    have N10 := news_tl (news_tl N9)
    clear N9
    have e2 := dm_nn (M := dv (2 ^ wd) ns) hd2.1
    refine Con.use (c_dm _ (-dv (2 ^ wd) ns) (-d) _ _ (rngn hM) (rngdn hd2)) (by k_asm) (by k_asm) (by k_asm) (by k_asm) (by k_asm) (by k_asm) (by k_asm) rfl (.cons (.cons .base)) hT4 hlow (by first | exact Nat.le_of_ble_eq_true rfl | ktr_room | decide) (by first | exact Nat.le_of_ble_eq_true rfl | ktr_units | decide) ?_
    rintro v own' T5 h6 k6 ⟨D6, u7, u8, c6, rfl, rfl⟩ hT5 F6 N11 l6
    rw [e2.1, e2.2] at N11
    simp only [List.cons_append, List.nil_append] at N11
    repeat' (first | ((with_reducible show wpAny _ (callerA.deeper _) (exec (Stmt.Assign ..) _) _ _ _); (rename Fr _ _ _ _ => kFz); (dsimp only at kFz); walk1) | with_reducible (((with_reducible show wpAny _ (callerA.deeper _) (call (Value.ref 63) _) _ _ _); refine Halt.mk' ?_)) | (k_unfold; (try dsimp only)) | (k_end; wrow_close) | walk1 | (dsimp only; first | ((with_reducible show wpAny _ (callerA.deeper _) (exec (Stmt.Assign ..) _) _ _ _); (rename Fr _ _ _ _ => kFz); (dsimp only at kFz); walk1) | with_reducible (((with_reducible show wpAny _ (callerA.deeper _) (call (Value.ref 63) _) _ _ _); refine Halt.mk' ?_)) | walk1) | (leave1; walk_say "STEP leave1"; try dsimp only) | fail "no step")
    refine Halt.mk ?_
    rename News _ _ _ _ => N12
    have N13 := news_tl (news_tl N12)
    clear N12
    apply cutT (own := [_, _])
    · intro tail
      by_cases ho : dv (2 ^ wd) ns % d > 0
      · have e3 := dm_pos (M := dv (2 ^ wd) ns) hd2.1 ho
        refine Con.use (c_dm _ (dv (2 ^ wd) ns) (-d) _ _ (rng0 hM) (rngdn hd2)) (by k_asm) (by k_asm) (by k_asm) (by k_asm) (by k_asm) (by k_asm) (by k_asm) rfl (.cons (.cons .base)) hT5 hlow (by first | exact Nat.le_of_ble_eq_true rfl | ktr_room | decide) (by first | exact Nat.le_of_ble_eq_true rfl | ktr_units | decide) ?_
        rintro v own' T6 h7 k7 ⟨D7, u9, u10, c7, rfl, rfl⟩ hT6 F7 N14 l7
        rw [e3.1, e3.2] at N14
        simp only [List.cons_append, List.nil_append] at N14
        repeat' (first | with_reducible ((with_reducible show wpAny _ (callerA.deeper _) (exec (Stmt.Return ..) _) _ _ _); refine Halt.mk' ?_) | (k_unfold; (try dsimp only)) | (k_end; wrow_close) | walk1 | (dsimp only; first | with_reducible ((with_reducible show wpAny _ (callerA.deeper _) (exec (Stmt.Return ..) _) _ _ _); refine Halt.mk' ?_) | walk1) | (leave1; walk_say "STEP leave1"; try dsimp only) | fail "no step")
        refine Halt.mk ?_
        rename News _ _ _ _ => N15
        have N16 := news_tl (news_tl N15)
        rename Fr _ _ _ _ => F9
        (try dsimp only at F9 N16)
        refine any_toks ?_
        rename TailP _ _ _ _ _ => tail
        exact tail _ _ hT6 F9 N16
      · have e3 := dm_zero (M := dv (2 ^ wd) ns) hd2.1 ho
        refine Con.use (c_dm _ (dv (2 ^ wd) ns) (-d) _ _ (rng0 hM) (rngdn hd2)) (by k_asm) (by k_asm) (by k_asm) (by k_asm) (by k_asm) (by k_asm) (by k_asm) rfl (.cons (.cons .base)) hT5 hlow (by first | exact Nat.le_of_ble_eq_true rfl | ktr_room | decide) (by first | exact Nat.le_of_ble_eq_true rfl | ktr_units | decide) ?_
        rintro v own' T6 h7 k7 ⟨D7, u9, u10, c7, rfl, rfl⟩ hT6 F7 N14 l7
        rw [e3.1, e3.2] at N14
        simp only [List.cons_append, List.nil_append] at N14
        repeat' (first | with_reducible ((with_reducible show wpAny _ (callerA.deeper _) (exec (Stmt.Return ..) _) _ _ _); refine Halt.mk' ?_) | (k_unfold; (try dsimp only)) | (k_end; wrow_close) | walk1 | (dsimp only; first | with_reducible ((with_reducible show wpAny _ (callerA.deeper _) (exec (Stmt.Return ..) _) _ _ _); refine Halt.mk' ?_) | walk1) | (leave1; walk_say "STEP leave1"; try dsimp only) | fail "no step")
        refine Halt.mk ?_
        rename News _ _ _ _ => N15
        have N16 := news_tl (news_tl N15)
        rename Fr _ _ _ _ => F9
        (try dsimp only at F9 N16)
        refine any_toks ?_
        rename TailP _ _ _ _ _ => tail
        exact tail _ _ hT6 F9 N16
    · intro T6 h7 hT6 F7 N16 k7
      simp only [List.cons_append, List.nil_append] at N16
      repeat' (first | with_reducible (((with_reducible show wpAny _ (callerA.deeper _) (call (Value.ref 42) _) _ _ _); refine Halt.mk' ?_)) | with_reducible (((with_reducible show wpAny _ (callerA.deeper _) (call (Value.ref 199) _) _ _ _); k_here; k_dflt (refine wpAny_call ?_; refine' enterX (by k_asm) (by k_asm) (by k_asm) (by k_asm) (by k_asm) (by exact rfl) (by k_is) (by k_is) (by k_room) (by exact BindsTo.of_eq rfl) (by exact locs rfl) ?_ (by exact rfl) (by exact rfl) (by exact rfl) (by exact rfl) (by decide); k_whole; intro g' L' h' FG' F' N' B' X' T' D'; (try dsimp only); (try k_lift B'); (try k_fold)))) | with_reducible (((with_reducible show wpAny _ ((callerA.deeper _).deeper _) (call (Value.ref 63) _) _ _ _); k_here; k_dflt (refine wpAny_call ?_; kts_go))) | with_reducible ((with_reducible show wpAny _ _ (exec (Stmt.Raise (some _) none _) _) _ _ _); (k_here; (with_reducible rename Fr _ _ _ _ => kF); k_dflt (refine' zd_raise (by rfl) (by (refine' name_B kF (by k_asm) (by k_asm) (by k_is) (by boot_by_name) (by decide) ?_; exact ⟨rfl, rfl⟩)) ?_); intro h' e' hM')) | (k_unfold; (try dsimp only)) | (k_end; wrow_close) | walk1 | (dsimp only; first | with_reducible (((with_reducible show wpAny _ (callerA.deeper _) (call (Value.ref 42) _) _ _ _); refine Halt.mk' ?_)) | with_reducible (((with_reducible show wpAny _ (callerA.deeper _) (call (Value.ref 199) _) _ _ _); k_here; k_dflt (refine wpAny_call ?_; refine' enterX (by k_asm) (by k_asm) (by k_asm) (by k_asm) (by k_asm) (by exact rfl) (by k_is) (by k_is) (by k_room) (by exact BindsTo.of_eq rfl) (by exact locs rfl) ?_ (by exact rfl) (by exact rfl) (by exact rfl) (by exact rfl) (by decide); k_whole; intro g' L' h' FG' F' N' B' X' T' D'; (try dsimp only); (try k_lift B'); (try k_fold)))) | with_reducible (((with_reducible show wpAny _ ((callerA.deeper _).deeper _) (call (Value.ref 63) _) _ _ _); k_here; k_dflt (refine wpAny_call ?_; kts_go))) | with_reducible ((with_reducible show wpAny _ _ (exec (Stmt.Raise (some _) none _) _) _ _ _); (k_here; (with_reducible rename Fr _ _ _ _ => kF); k_dflt (refine' zd_raise (by rfl) (by (refine' name_B kF (by k_asm) (by k_asm) (by k_is) (by boot_by_name) (by decide) ?_; exact ⟨rfl, rfl⟩)) ?_); intro h' e' hM')) | walk1) | (leave1; walk_say "STEP leave1"; try dsimp only) | fail "no step")
      refine Halt.mk ?_
      refine Con.use (c_int2 _ 0 wd _ _ ⟨by decide, by decide⟩ ⟨hw.1, Nat.le_trans hw.2 (by decide)⟩) ‹Below callerA _ [] _› (by k_asm) (by k_asm) (by k_asm) (by k_asm) (by k_asm) (by k_asm) rfl (.cons (.cons .base)) hT6 hlow (by first | exact Nat.le_of_ble_eq_true rfl | ktr_room | decide) (by first | exact Nat.le_of_ble_eq_true rfl | ktr_units | decide) ?_
      rintro v own' T7 h8 k8 ⟨l8, c8, vs8, rfl, rfl, hv8⟩ hT7 F8 N17 l17
      rw [digs_zero hw.1] at hv8
      cases hv8
      simp only [List.cons_append, List.nil_append] at N17
      repeat' (first | with_reducible ((with_reducible show GrownAll _ _); (refine grown_of (by assumption) (by k_asm) ?_; intro p hp; (repeat (first | exact hp | refine List.mem_cons_of_mem _ ?_)))) | (k_unfold; (try dsimp only)) | (k_end; wrow_close) | walk1 | (dsimp only; first | with_reducible ((with_reducible show GrownAll _ _); (refine grown_of (by assumption) (by k_asm) ?_; intro p hp; (repeat (first | exact hp | refine List.mem_cons_of_mem _ ?_)))) | walk1) | (leave1; walk_say "STEP leave1"; try dsimp only) | fail "no step")
      all_goals refine Onto.use (by assumption) ?_
      repeat' (first | with_reducible ((with_reducible show GrownAll _ _); (refine grown_of (by assumption) (by k_asm) ?_; intro p hp; (repeat (first | exact hp | refine List.mem_cons_of_mem _ ?_)))) | (k_unfold; (try dsimp only)) | (k_end; wrow_close) | walk1 | (dsimp only; first | with_reducible ((with_reducible show GrownAll _ _); (refine grown_of (by assumption) (by k_asm) ?_; intro p hp; (repeat (first | exact hp | refine List.mem_cons_of_mem _ ?_)))) | walk1) | (leave1; walk_say "STEP leave1"; try dsimp only) | fail "no step")
)
end Mine
end PartL0

theorem PySem.Challenge.cw_ik0007_01_holds : PySem.Challenge.rw_ik0007_01.Holds := by
  exact Mine.lawX
