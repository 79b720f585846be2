import PyProof.Rows.All
import Wide.All
import OpenK.AllK
import Wide.FinOn
import Lean
import PySem.Challenge.RW_ah0019_01
open PySem PySem.W PyProof.Rows
set_option Elab.async false
set_option maxRecDepth 100000
set_option linter.all false
namespace Mine
set_option maxHeartbeats 40000000 in
open_top ah_hd for PySem.Challenge.rw_ah0019_01
end Mine
local macro_rules | `(tactic| walk_at $s:str) => `(tactic| k_extra $s)
section
namespace Mine
open PySem.Spec PySem.Calls
noncomputable abbrev Pg : Program := PySem.Challenge.rw_ah0019_01.row.prog
noncomputable def Ic (w : World) (loose : List Str) (mean : ExcName → Option Value) (mg mb : Str → Option Value) (n : Nat) (f : Addr) (vs : List Value) (R : Tok → Value) : Prop :=
  ∀ (dp un : Nat) (gd : Option (List Code)) (cn : Str) (cs : Scope) (a : Addr) (ccd : Value) (cl : List (Str × Addr)) (outer : List Env) (A₀ : Around) (base h₀ : Heap) (L : Addr) (m : Str → Option Value) (news : List (Addr × Obj)) (s : Shared) (Q E : Value → Shared → Prop),
    Below A₀ base outer h₀ → Fr h₀ L s.heap m → (ah_hd.heap_39 w.params).In h₀ → News h₀ L s.heap news → Top ah_hd.view_39 loose mean mg mb h₀ → cs.kind = .function →
    dp + n < recursionLimit → un + 8 * n < cLine →
    (∀ (t : Tok) (h' : Heap) (tk' : Nat), Fr h₀ L h' m → News h₀ L h' news → Q (R t) { s with heap := h', toks := tk' }) →
    wpAny (model Pg w) (ktrTop dp un gd cn cs L a ccd cl outer) (call (.ref f) vs) Q E s
noncomputable abbrev tup3 (x y z : Int) (t1 t2 t3 : Tok) (c : Nat) : Obj := { cls := .type "tuple", data := .seq #[.int x t1, .int y t2, .int z t3] c }
noncomputable abbrev tup2 (x y : Int) (t1 t2 : Tok) (c : Nat) : Obj := { cls := .type "tuple", data := .seq #[.int x t1, .int y t2] c }
noncomputable def Tc (w : World) (loose : List Str) (mean : ExcName → Option Value) (mg mb : Str → Option Value) (n : Nat) (f : Addr) (old : List (Addr × Obj)) (vs : List Value) (x y z : Int) : Prop :=
  ∀ (dp un : Nat) (gd : Option (List Code)) (cn : Str) (cs : Scope) (a : Addr) (ccd : Value) (cl : List (Str × Addr)) (outer : List Env) (A₀ : Around) (base h₀ : Heap) (L : Addr) (m : Str → Option Value) (news : List (Addr × Obj)) (s : Shared) (Q E : Value → Shared → Prop),
    Below A₀ base outer h₀ → Fr h₀ L s.heap m → (ah_hd.heap_39 w.params).In h₀ → News h₀ L s.heap news → (∀ p ∈ old, p ∈ news) → Top ah_hd.view_39 loose mean mg mb h₀ → cs.kind = .function →
    dp + n < recursionLimit → un + 8 * n < cLine →
    (∀ (D : Addr) (t1 t2 t3 : Tok) (c : Nat) (h' : Heap) (tk' : Nat), Fr h₀ L h' m → News h₀ L h' ((D, tup3 x y z t1 t2 t3 c) :: news) → Q (.ref D) { s with heap := h', toks := tk' }) →
    wpAny (model Pg w) (ktrTop dp un gd cn cs L a ccd cl outer) (call (.ref f) vs) Q E s
noncomputable def Pc (w : World) (loose : List Str) (mean : ExcName → Option Value) (mg mb : Str → Option Value) (n : Nat) (f : Addr) (vs : List Value) (x y : Int) : Prop :=
  ∀ (dp un : Nat) (gd : Option (List Code)) (cn : Str) (cs : Scope) (a : Addr) (ccd : Value) (cl : List (Str × Addr)) (outer : List Env) (A₀ : Around) (base h₀ : Heap) (L : Addr) (m : Str → Option Value) (news : List (Addr × Obj)) (s : Shared) (Q E : Value → Shared → Prop),
    Below A₀ base outer h₀ → Fr h₀ L s.heap m → (ah_hd.heap_39 w.params).In h₀ → News h₀ L s.heap news → Top ah_hd.view_39 loose mean mg mb h₀ → cs.kind = .function →
    dp + n < recursionLimit → un + 8 * n < cLine →
    (∀ (D : Addr) (t1 t2 : Tok) (c : Nat) (h' : Heap) (tk' : Nat), Fr h₀ L h' m → News h₀ L h' ((D, tup2 x y t1 t2 c) :: news) → Q (.ref D) { s with heap := h', toks := tk' }) →
    wpAny (model Pg w) (ktrTop dp un gd cn cs L a ccd cl outer) (call (.ref f) vs) Q E s
section
variable {w : World} {loose : List Str} {mean : ExcName → Option Value} {mg mb : Str → Option Value} {n : Nat} {f : Addr} {vs : List Value}
variable {dp un : Nat} {gd : Option (List Code)} {cn : Str} {cs : Scope} {a : Addr} {ccd : Value} {cl : List (Str × Addr)} {outer : List Env} {A₀ : Around} {base h₀ : Heap} {L : Addr} {m : Str → Option Value} {news : List (Addr × Obj)} {s : Shared} {Q E : Value → Shared → Prop}
theorem Ic.use {R : Tok → Value} (C : Ic w loose mean mg mb n f vs R) (B : Below A₀ base outer h₀) (F : Fr h₀ L s.heap m) (X : (ah_hd.heap_39 w.params).In h₀) (N : News h₀ L s.heap news) (T : Top ah_hd.view_39 loose mean mg mb h₀) (hk : cs.kind = .function)
    (hd : dp + n < recursionLimit) (hu : un + 8 * n < cLine)
    (ret : ∀ (t : Tok) (h' : Heap) (tk' : Nat), Fr h₀ L h' m → News h₀ L h' news → Q (R t) { s with heap := h', toks := tk' }) :
    wpAny (model Pg w) (ktrTop dp un gd cn cs L a ccd cl outer) (call (.ref f) vs) Q E s := C _ _ _ _ _ _ _ _ _ _ _ _ _ _ _ _ _ _ B F X N T hk hd hu ret
theorem Tc.use {old : List (Addr × Obj)} {x y z : Int} (C : Tc w loose mean mg mb n f old vs x y z) (B : Below A₀ base outer h₀) (F : Fr h₀ L s.heap m) (X : (ah_hd.heap_39 w.params).In h₀) (N : News h₀ L s.heap news) (ho : ∀ p ∈ old, p ∈ news) (T : Top ah_hd.view_39 loose mean mg mb h₀) (hk : cs.kind = .function)
    (hd : dp + n < recursionLimit) (hu : un + 8 * n < cLine)
    (ret : ∀ (D : Addr) (t1 t2 t3 : Tok) (c : Nat) (h' : Heap) (tk' : Nat), let n' : List (Addr × Obj) := (D, tup3 x y z t1 t2 t3 c) :: news; Fr h₀ L h' m → News h₀ L h' n' → Q (.ref D) { s with heap := h', toks := tk' }) :
    wpAny (model Pg w) (ktrTop dp un gd cn cs L a ccd cl outer) (call (.ref f) vs) Q E s := C _ _ _ _ _ _ _ _ _ _ _ _ _ _ _ _ _ _ B F X N ho T hk hd hu ret
theorem Pc.use {x y : Int} (C : Pc w loose mean mg mb n f vs x y) (B : Below A₀ base outer h₀) (F : Fr h₀ L s.heap m) (X : (ah_hd.heap_39 w.params).In h₀) (N : News h₀ L s.heap news) (T : Top ah_hd.view_39 loose mean mg mb h₀) (hk : cs.kind = .function)
    (hd : dp + n < recursionLimit) (hu : un + 8 * n < cLine)
    (ret : ∀ (D : Addr) (t1 t2 : Tok) (c : Nat) (h' : Heap) (tk' : Nat), let n' : List (Addr × Obj) := (D, tup2 x y t1 t2 c) :: news; Fr h₀ L h' m → News h₀ L h' n' → Q (.ref D) { s with heap := h', toks := tk' }) :
    wpAny (model Pg w) (ktrTop dp un gd cn cs L a ccd cl outer) (call (.ref f) vs) Q E s := C _ _ _ _ _ _ _ _ _ _ _ _ _ _ _ _ _ _ B F X N T hk hd hu ret
end
section
variable {h₀ h' : Heap} {L D : Addr} {m : Str → Option Value} {news news' : List (Addr × Obj)} {s : Shared} {Q : Value → Shared → Prop} {tk' : Nat}
theorem endI {x y : Int} {t : Tok} (hret : ∀ (t : Tok) (h' : Heap) (tk' : Nat), Fr h₀ L h' m → News h₀ L h' news → Q (.int x t) { s with heap := h', toks := tk' }) (F : Fr h₀ L h' m) (N : News h₀ L h' news') (hs : ∀ p ∈ news, p ∈ news') (e : y = x) : Q (.int y t) { s with heap := h', toks := tk' } := by
  subst e
  exact hret t h' tk' F fun p hp => N p (hs p hp)
theorem endB {x y : Bool} (hret : ∀ (t : Tok) (h' : Heap) (tk' : Nat), Fr h₀ L h' m → News h₀ L h' news → Q (.bool x) { s with heap := h', toks := tk' }) (F : Fr h₀ L h' m) (N : News h₀ L h' news') (hs : ∀ p ∈ news, p ∈ news') (e : y = x) : Q (.bool y) { s with heap := h', toks := tk' } := by
  subst e
  exact hret 0 h' tk' F fun p hp => N p (hs p hp)
theorem endT {x y z x' y' z' : Int} {t1 t2 t3 : Tok} {c : Nat} (hret : ∀ (D : Addr) (t1 t2 t3 : Tok) (c : Nat) (h' : Heap) (tk' : Nat), Fr h₀ L h' m → News h₀ L h' ((D, tup3 x y z t1 t2 t3 c) :: news) → Q (.ref D) { s with heap := h', toks := tk' })
    (F : Fr h₀ L h' m) (N : News h₀ L h' news') (hm : (D, tup3 x' y' z' t1 t2 t3 c) ∈ news') (hs : ∀ p ∈ news, p ∈ news') (e : x' = x ∧ y' = y ∧ z' = z) : Q (.ref D) { s with heap := h', toks := tk' } := by
  obtain ⟨rfl, rfl, rfl⟩ := e
  refine hret D t1 t2 t3 c h' tk' F fun p hp => ?_
  rcases List.mem_cons.mp hp with rfl | hp
  · exact N _ hm
  · exact N p (hs p hp)
theorem endP {x y x' y' : Int} {t1 t2 : Tok} {c : Nat} (hret : ∀ (D : Addr) (t1 t2 : Tok) (c : Nat) (h' : Heap) (tk' : Nat), Fr h₀ L h' m → News h₀ L h' ((D, tup2 x y t1 t2 c) :: news) → Q (.ref D) { s with heap := h', toks := tk' })
    (F : Fr h₀ L h' m) (N : News h₀ L h' news') (hm : (D, tup2 x' y' t1 t2 c) ∈ news') (hs : ∀ p ∈ news, p ∈ news') (e : x' = x ∧ y' = y) : Q (.ref D) { s with heap := h', toks := tk' } := by
  obtain ⟨rfl, rfl⟩ := e
  refine hret D t1 t2 c h' tk' F fun p hp => ?_
  rcases List.mem_cons.mp hp with rfl | hp
  · exact N _ hm
  · exact N p (hs p hp)
end
section
variable {prog : Program} {w : World} {M : PySem.Model} {A : Around} {E : Value → Shared → Prop} {s : Shared} {h₀ : Heap} {L a : Addr} {m : Str → Option Value} {cn : Str} {cs : Scope} {ccd : Value} {cl : List (Str × Addr)} {x : Str} {v : Value} {news : List (Addr × Obj)}
theorem storeL {Q : Unit → Shared → Prop}
    (F : Fr h₀ L s.heap m) (N : News h₀ L s.heap news)
    (h : ∀ (h' : Heap) (tk' : Nat), let m' : Str → Option Value := fun y => if y = x then some v else m y; Fr h₀ L h' m' → News h₀ L h' news → Q () { s with heap := h', toks := tk' })
    (hk : cs.kind = .function) (hx : (envX cn cs L a ccd cl).kindOf x = some .local) : wpAny M A (storeName (envX cn cs L a ccd cl) x v) Q E s := storeX_L F N (fun h' F' N' => h h' _ F' N') hk hx
theorem tupL {vs : List Value} {Q : Value → Shared → Prop} (F : Fr h₀ L s.heap m) (N : News h₀ L s.heap news)
    (h : ∀ (D : Addr) (h' : Heap) (tk' : Nat), let n' : List (Addr × Obj) := (D, ({ cls := .type "tuple", data := .seq vs.toArray } : Obj)) :: news; Fr h₀ L h' m → News h₀ L h' n' → Q (.ref D) { s with heap := h', toks := tk' }) (hz : vs.length ≤ sizeLine) : wpAny M A (newTuple vs) Q E s :=
  kup_newTuple F N (fun D h' F' N' _ => h D h' s.toks F' N') hz
inductive Jz : Str → Int → Prop
  | mk (x : Str) (z : Int) : Jz x z
inductive Jy : Str → Int → Str → Int → Prop
  | mk (x : Str) (z : Int) (x2 : Str) (z2 : Int) : Jy x z x2 z2
theorem joinI {st : PySem.Stmt} {env : Env} {z : Int} {Q : Flow → Shared → Prop} (_ : Jz x z) (F : Fr h₀ L s.heap m) (N : News h₀ L s.heap news)
    (hw : ∀ Q' : Flow → Shared → Prop, (∀ (t : Tok) (h' : Heap) (tk' : Nat), Fr h₀ L h' (fun y => if y = x then some (.int z t) else m y) → News h₀ L h' news → Q' .next { s with heap := h', toks := tk' }) → wpAny M A (exec st env) Q' E s)
    (go : ∀ (t : Tok) (h' : Heap) (tk' : Nat), let m' : Str → Option Value := fun y => if y = x then some (.int z t) else m y; Fr h₀ L h' m' → News h₀ L h' news → Q .next { s with heap := h', toks := tk' }) : wpAny M A (exec st env) Q E s := hw Q go
theorem joinI2 {st : PySem.Stmt} {env : Env} {x2 : Str} {z z2 : Int} {Q : Flow → Shared → Prop} (_ : Jy x z x2 z2) (F : Fr h₀ L s.heap m) (N : News h₀ L s.heap news)
    (hw : ∀ Q' : Flow → Shared → Prop, (∀ (t t2 : Tok) (h' : Heap) (tk' : Nat), Fr h₀ L h' (fun y => if y = x2 then some (.int z2 t2) else if y = x then some (.int z t) else m y) → News h₀ L h' news → Q' .next { s with heap := h', toks := tk' }) → wpAny M A (exec st env) Q' E s)
    (go : ∀ (t t2 : Tok) (h' : Heap) (tk' : Nat), let m' : Str → Option Value := fun y => if y = x2 then some (.int z2 t2) else if y = x then some (.int z t) else m y; Fr h₀ L h' m' → News h₀ L h' news → Q .next { s with heap := h', toks := tk' }) : wpAny M A (exec st env) Q E s := hw Q go
end
section
variable {h₀ h' : Heap} {L : Addr} {m : Str → Option Value} {x x2 : Str} {news news' : List (Addr × Obj)} {s : Shared} {tk' : Nat} {z z2 v v2 : Int} {t t2 : Tok}
theorem endJ {Q : Flow → Shared → Prop} (go : ∀ (t : Tok) (h' : Heap) (tk' : Nat), Fr h₀ L h' (fun y => if y = x then some (.int z t) else m y) → News h₀ L h' news → Q .next { s with heap := h', toks := tk' })
    (F : Fr h₀ L h' (fun y => if y = x then some (.int v t) else m y)) (N : News h₀ L h' news') (hs : ∀ p ∈ news, p ∈ news') (e : v = z) : Q .next { s with heap := h', toks := tk' } := by
  subst e; exact go t h' tk' F (fun p hp => N p (hs p hp))
theorem endJ0 {Q : Flow → Shared → Prop} (go : ∀ (t : Tok) (h' : Heap) (tk' : Nat), Fr h₀ L h' (fun y => if y = x then some (.int z t) else m y) → News h₀ L h' news → Q .next { s with heap := h', toks := tk' })
    (F : Fr h₀ L h' m) (N : News h₀ L h' news') (hs : ∀ p ∈ news, p ∈ news') (hv : m x = some (.int v t)) (e : v = z) : Q .next { s with heap := h', toks := tk' } := by
  subst e
  have hm : m = fun y => if y = x then some (.int v t) else m y := by
    funext y
    split
    · next h => rw [h]; exact hv
    · rfl
  rw [hm] at F
  exact go t h' tk' F (fun p hp => N p (hs p hp))
theorem endJ2 {Q : Flow → Shared → Prop} (go : ∀ (t t2 : Tok) (h' : Heap) (tk' : Nat), Fr h₀ L h' (fun y => if y = x2 then some (.int z2 t2) else if y = x then some (.int z t) else m y) → News h₀ L h' news → Q .next { s with heap := h', toks := tk' })
    (F : Fr h₀ L h' (fun y => if y = x2 then some (.int v2 t2) else if y = x then some (.int v t) else m y)) (N : News h₀ L h' news') (hs : ∀ p ∈ news, p ∈ news') (e : v = z) (e2 : v2 = z2) : Q .next { s with heap := h', toks := tk' } := by
  subst e; subst e2; exact go t t2 h' tk' F (fun p hp => N p (hs p hp))
theorem endJ20 {Q : Flow → Shared → Prop} (go : ∀ (t t2 : Tok) (h' : Heap) (tk' : Nat), Fr h₀ L h' (fun y => if y = x2 then some (.int z2 t2) else if y = x then some (.int z t) else m y) → News h₀ L h' news → Q .next { s with heap := h', toks := tk' })
    (F : Fr h₀ L h' m) (N : News h₀ L h' news') (hs : ∀ p ∈ news, p ∈ news') (hv : m x = some (.int v t)) (hv2 : m x2 = some (.int v2 t2)) (e : v = z) (e2 : v2 = z2) : Q .next { s with heap := h', toks := tk' } := by
  subst e; subst e2
  have hm : m = fun y => if y = x2 then some (.int v2 t2) else if y = x then some (.int v t) else m y := by
    funext y
    split
    · next h => rw [h]; exact hv2
    · split
      · next h => rw [h]; exact hv
      · rfl
  rw [hm] at F
  exact go t t2 h' tk' F (fun p hp => N p (hs p hp))
end
end Mine
end
section
namespace Mine
theorem fin1 {n : Nat} {p : Int → Bool} (h : (List.range n).all (fun i => p i) = true) {x : Int} (h0 : 0 ≤ x) (h1 : x < n) : p x = true := by
  obtain ⟨i, rfl⟩ := Int.eq_ofNat_of_zero_le h0
  exact List.all_eq_true.mp h i (List.mem_range.mpr (Int.ofNat_lt.mp h1))
theorem fin2 {n : Nat} {p : Int → Bool} (h : (List.range n).all (fun i => p (i + 1)) = true) {x : Int} (h0 : 1 ≤ x) (h1 : x ≤ n) : p x = true := by
  have := fin1 (p := fun x => p (x + 1)) h (x := x - 1) (by omega) (by omega)
  rwa [show x - 1 + 1 = x by omega] at this
noncomputable def isl (y : Int) : Bool := decide (y % 4 = 0 ∧ (y % 100 ≠ 0 ∨ y % 400 = 0))
theorem isl_t {y : Int} : isl y = true ↔ y % 4 = 0 ∧ (y % 100 ≠ 0 ∨ y % 400 = 0) := decide_eq_true_iff
theorem isl_f {y : Int} : isl y = false ↔ ¬ (y % 4 = 0 ∧ (y % 100 ≠ 0 ∨ y % 400 = 0)) := decide_eq_false_iff_not
noncomputable def lp (y : Int) : Int := if isl y = true then 1 else 0
theorem lp_ways (y : Int) : (lp y = 1 ∧ y % 4 = 0 ∧ (y % 100 ≠ 0 ∨ y % 400 = 0)) ∨ (lp y = 0 ∧ ¬ (y % 4 = 0 ∧ (y % 100 ≠ 0 ∨ y % 400 = 0))) := by
  unfold lp
  split
  · exact .inl ⟨rfl, isl_t.mp (by assumption)⟩
  · rename_i h
    exact .inr ⟨rfl, fun q => h (isl_t.mpr q)⟩
theorem lp_t {y : Int} (h : isl y = true) : lp y = 1 := if_pos h
theorem lp_f {y : Int} (h : isl y = false) : lp y = 0 := if_neg (by rw [h]; decide)
noncomputable def dimG (y m : Int) : Int := if m = 2 then (if isl y = true then 29 else 28) else if m = 4 ∨ m = 6 ∨ m = 9 ∨ m = 11 then 30 else 31
noncomputable def gAdj (y m : Int) : Int := if m ≤ 2 then 0 else if isl y = true then -1 else -2
noncomputable def gJd (y m d : Int) : Int := 1721425 + 365 * (y - 1) + (y - 1) / 4 - (y - 1) / 100 + (y - 1) / 400 + ((367 * m - 362) / 12 + gAdj y m + d)
noncomputable def gY (jd : Int) : Int := (jd - 1721426) / 146097 * 400 + (jd - 1721426) % 146097 / 36524 * 100 + (jd - 1721426) % 146097 % 36524 / 1461 * 4 + (jd - 1721426) % 146097 % 36524 % 1461 / 365 + (if (jd - 1721426) % 146097 / 36524 = 4 ∨ (jd - 1721426) % 146097 % 36524 % 1461 / 365 = 4 then 0 else 1)
noncomputable def gA2 (jd : Int) : Int := if jd - gJd (gY jd) 1 1 < 58 + (if isl (gY jd) = true then 1 else 0) then 0 else if isl (gY jd) = true then 1 else 2
noncomputable def gM (jd : Int) : Int := ((jd - gJd (gY jd) 1 1 + gA2 jd) * 12 + 373) / 367
noncomputable def gD (jd : Int) : Int := jd - gJd (gY jd) (gM jd) 1 + 1
noncomputable def gS (y : Int) : Int := 1721426 + 365 * (y - 1) + (y - 1) / 4 - (y - 1) / 100 + (y - 1) / 400
theorem gJd11 (y : Int) : gJd y 1 1 = gS y := by
  unfold gJd gS gAdj
  rw [if_pos (by decide)]
  omega
theorem gS_at {q c k e : Int} (hc : 0 ≤ c ∧ c ≤ 3) (hk : 0 ≤ k ∧ k ≤ 24) (he : 0 ≤ e ∧ e ≤ 3) : gS (q * 400 + c * 100 + k * 4 + e + 1) = 1721426 + 146097 * q + 36524 * c + 1461 * k + 365 * e := by
  unfold gS
  have h1 : (q * 400 + c * 100 + k * 4 + e + 1 - 1) / 4 = q * 100 + c * 25 + k := by omega
  have h2 : (q * 400 + c * 100 + k * 4 + e + 1 - 1) / 100 = q * 4 + c := by omega
  have h3 : (q * 400 + c * 100 + k * 4 + e + 1 - 1) / 400 = q := by omega
  rw [h1, h2, h3]
  omega
theorem lp01 (y : Int) : lp y = 0 ∨ lp y = 1 := by
  rcases lp_ways y with h | h
  · exact .inr h.1
  · exact .inl h.1
theorem lp_b (y : Int) : 0 ≤ lp y ∧ lp y < (2 : Nat) := by rcases lp01 y with h | h <;> rw [h] <;> decide
theorem lp_one {y : Int} (h : y % 4 = 0) (h2 : y % 100 ≠ 0 ∨ y % 400 = 0) : lp y = 1 := lp_t (isl_t.mpr ⟨h, h2⟩)
theorem lp_zero {y : Int} (h : ¬ (y % 4 = 0 ∧ (y % 100 ≠ 0 ∨ y % 400 = 0))) : lp y = 0 := lp_f (isl_f.mpr h)
theorem gY_in (jd : Int) : gS (gY jd) ≤ jd ∧ jd < gS (gY jd) + 365 + lp (gY jd) := by
  unfold gY
  generalize hn : jd - 1721426 = n
  have hn' : jd = n + 1721426 := by omega
  clear hn
  subst hn'
  have d1 := Int.emod_add_mul_ediv n 146097
  have d2 := Int.emod_nonneg n (show (146097 : Int) ≠ 0 by decide)
  have d3 := Int.emod_lt_of_pos n (show (0 : Int) < 146097 by decide)
  generalize n / 146097 = q at *
  generalize n % 146097 = r at *
  have f1 := Int.emod_add_mul_ediv r 36524
  have f2 := Int.emod_nonneg r (show (36524 : Int) ≠ 0 by decide)
  have f3 := Int.emod_lt_of_pos r (show (0 : Int) < 36524 by decide)
  generalize r / 36524 = c at *
  generalize r % 36524 = dc at *
  have g1 := Int.emod_add_mul_ediv dc 1461
  have g2 := Int.emod_nonneg dc (show (1461 : Int) ≠ 0 by decide)
  have g3 := Int.emod_lt_of_pos dc (show (0 : Int) < 1461 by decide)
  generalize dc / 1461 = k at *
  generalize dc % 1461 = dq at *
  have k1 := Int.emod_add_mul_ediv dq 365
  have k2 := Int.emod_nonneg dq (show (365 : Int) ≠ 0 by decide)
  have k3 := Int.emod_lt_of_pos dq (show (0 : Int) < 365 by decide)
  generalize dq / 365 = e at *
  generalize dq % 365 = x at *
  by_cases h4 : c = 4 ∨ e = 4
  · rw [if_pos h4]
    rcases h4 with h4 | h4
    · subst h4
      have e1 : q * 400 + 4 * 100 + k * 4 + e + 0 = q * 400 + 3 * 100 + 24 * 4 + 3 + 1 := by omega
      have l : lp (q * 400 + 3 * 100 + 24 * 4 + 3 + 1) = 1 := by
        clear e1 d1 d2 d3 f1 f2 f3 g1 g2 g3 k1 k2 k3
        exact lp_one (by omega) (.inr (by omega))
      rw [e1, l, gS_at (by decide) (by decide) (by decide)]
      clear e1 l
      omega
    · subst h4
      have hk : k ≤ 23 ∧ 0 ≤ k ∧ 0 ≤ c ∧ c ≤ 3 := by omega
      have e1 : q * 400 + c * 100 + k * 4 + 4 + 0 = q * 400 + c * 100 + k * 4 + 3 + 1 := by omega
      have l : lp (q * 400 + c * 100 + k * 4 + 3 + 1) = 1 := by
        clear e1 d1 d2 d3 f1 f2 f3 g1 g2 g3 k1 k2 k3
        exact lp_one (by omega) (.inl (by omega))
      rw [e1, l, gS_at ⟨hk.2.2.1, hk.2.2.2⟩ ⟨hk.2.1, by omega⟩ (by decide)]
      clear e1 l
      omega
  · have hb : (0 ≤ c ∧ c ≤ 3) ∧ (0 ≤ k ∧ k ≤ 24) ∧ 0 ≤ e ∧ e ≤ 3 := by omega
    have l := (lp_b (q * 400 + c * 100 + k * 4 + e + 1)).1
    rw [if_neg h4, gS_at hb.1 hb.2.1 hb.2.2]
    generalize lp _ = l' at *
    clear h4 hb
    omega
theorem gS_next (y : Int) : gS (y + 1) = gS y + 365 + lp y := by
  have h4 : y / 4 = (y - 1) / 4 + (if y % 4 = 0 then 1 else 0) := by split <;> omega
  have h1 : y / 100 = (y - 1) / 100 + (if y % 100 = 0 then 1 else 0) := by split <;> omega
  have h2 : y / 400 = (y - 1) / 400 + (if y % 400 = 0 then 1 else 0) := by split <;> omega
  have i1 : y % 400 = 0 → y % 100 = 0 := by omega
  have i2 : y % 100 = 0 → y % 4 = 0 := by omega
  unfold gS
  rw [show y + 1 - 1 = y by omega, h4, h1, h2]
  clear h4 h1 h2
  generalize (y - 1) / 4 = u
  generalize (y - 1) / 100 = v
  generalize (y - 1) / 400 = t
  by_cases a : y % 4 = 0
  · by_cases b : y % 100 = 0
    · by_cases c : y % 400 = 0
      · rw [if_pos a, if_pos b, if_pos c, lp_one a (.inr c)]; clear a b c i1 i2; omega
      · rw [if_pos a, if_pos b, if_neg c, lp_zero (fun h => h.2.elim (fun q => q b) c)]; clear a b c i1 i2; omega
    · rw [if_pos a, if_neg b, if_neg (fun c => b (i1 c)), lp_one a (.inl b)]; clear a b i1 i2; omega
  · rw [if_neg a, if_neg (fun b => a (i2 b)), if_neg (fun c => a (i2 (i1 c))), lp_zero (fun h => a h.1)]; clear a i1 i2; omega
theorem gS_mono {y z : Int} (h : y < z) : gS y + 365 + lp y ≤ gS z := by
  rw [← gS_next]
  unfold gS
  omega
theorem gY_of {jd y : Int} (h1 : gS y ≤ jd) (h2 : jd < gS y + 365 + lp y) : gY jd = y := by
  obtain ⟨g1, g2⟩ := gY_in jd
  rcases Int.lt_trichotomy (gY jd) y with h | h | h
  · have := gS_mono h; omega
  · exact h
  · have := gS_mono h; omega
noncomputable def gO (y m : Int) : Int := (367 * m - 362) / 12 + gAdj y m
theorem gJd_eq (y m d : Int) : gJd y m d = gS y - 1 + gO y m + d := by
  unfold gJd gS gO; omega
theorem gAdj_eq (y m : Int) : gAdj y m = if m ≤ 2 then 0 else lp y - 2 := by
  unfold gAdj lp
  split
  · rfl
  · split <;> rfl
theorem dim_eq (y m : Int) : dimG y m = if m = 2 then 28 + lp y else if m = 4 ∨ m = 6 ∨ m = 9 ∨ m = 11 then 30 else 31 := by
  unfold dimG lp
  split
  · split <;> rfl
  · rfl
noncomputable def gOF (a m : Int) : Int := (367 * m - 362) / 12 + (if m ≤ 2 then 0 else a - 2)
noncomputable def dimF (a m : Int) : Int := if m = 2 then 28 + a else if m = 4 ∨ m = 6 ∨ m = 9 ∨ m = 11 then 30 else 31
noncomputable def gMF (a x : Int) : Int := ((x + (if x < 58 + a then 0 else 2 - a)) * 12 + 373) / 367
theorem gO_F (y m : Int) : gO y m = gOF (lp y) m := by unfold gO gOF; rw [gAdj_eq]
theorem dim_F (y m : Int) : dimG y m = dimF (lp y) m := dim_eq y m
theorem gM_eq (jd : Int) : gM jd = ((jd - gS (gY jd) + (if jd - gS (gY jd) < 58 + lp (gY jd) then 0 else 2 - lp (gY jd))) * 12 + 373) / 367 := by
  have e : gA2 jd = if jd - gS (gY jd) < 58 + lp (gY jd) then 0 else 2 - lp (gY jd) := by
    unfold gA2
    rw [gJd11]
    unfold lp
    split
    · rfl
    · split <;> rfl
  unfold gM
  rw [gJd11, e]
theorem gD_eq (jd : Int) : gD jd = jd - gS (gY jd) - gO (gY jd) (gM jd) + 1 := by
  unfold gD
  rw [gJd_eq]
  omega
theorem m12 {m : Int} (h1 : 1 ≤ m) (h2 : m ≤ 12) : m = 1 ∨ m = 2 ∨ m = 3 ∨ m = 4 ∨ m = 5 ∨ m = 6 ∨ m = 7 ∨ m = 8 ∨ m = 9 ∨ m = 10 ∨ m = 11 ∨ m = 12 :=
  of_decide_eq_true (fin2 (n := 12) (p := fun m => decide (m = 1 ∨ m = 2 ∨ m = 3 ∨ m = 4 ∨ m = 5 ∨ m = 6 ∨ m = 7 ∨ m = 8 ∨ m = 9 ∨ m = 10 ∨ m = 11 ∨ m = 12)) (by decide +kernel) h1 h2)
theorem m13 {m : Int} (h1 : 1 ≤ m) (h2 : m ≤ 13) : m = 1 ∨ m = 2 ∨ m = 3 ∨ m = 4 ∨ m = 5 ∨ m = 6 ∨ m = 7 ∨ m = 8 ∨ m = 9 ∨ m = 10 ∨ m = 11 ∨ m = 12 ∨ m = 13 :=
  of_decide_eq_true (fin2 (n := 13) (p := fun m => decide (m = 1 ∨ m = 2 ∨ m = 3 ∨ m = 4 ∨ m = 5 ∨ m = 6 ∨ m = 7 ∨ m = 8 ∨ m = 9 ∨ m = 10 ∨ m = 11 ∨ m = 12 ∨ m = 13)) (by decide +kernel) h1 h2)
noncomputable abbrev T1 (a x : Int) : Prop := x < 365 + a → 1 ≤ gMF a x ∧ gMF a x ≤ 12 ∧ 0 < x - gOF a (gMF a x) + 1 ∧ x - gOF a (gMF a x) + 1 ≤ dimF a (gMF a x)
theorem t1 : (List.range 2).all (fun a => (List.range 366).all fun x => decide (T1 a x)) = true := by decide +kernel
theorem gOf_legal (jd : Int) : 1 ≤ gM jd ∧ gM jd ≤ 12 ∧ 0 < gD jd ∧ gD jd ≤ dimG (gY jd) (gM jd) := by
  obtain ⟨h1, h2⟩ := gY_in jd
  obtain ⟨l1, l2⟩ := lp_b (gY jd)
  have l3 : lp (gY jd) ≤ 1 := by omega
  have t := of_decide_eq_true (fin1 (p := fun x => decide (T1 (lp (gY jd)) x)) (n := 366) (fin1 (p := fun a => (List.range 366).all fun x => decide (T1 a x)) t1 l1 l2) (x := jd - gS (gY jd)) (by omega) (by omega)) (by omega)
  rw [gD_eq, gO_F, dim_F, show gM jd = gMF (lp (gY jd)) (jd - gS (gY jd)) from gM_eq jd]
  exact t
noncomputable abbrev T2 (a m d : Int) : Prop := d ≤ dimF a m → 0 ≤ gOF a m + d - 1 ∧ gOF a m + d - 1 < 365 + a ∧ gMF a (gOF a m + d - 1) = m
theorem t2 : (List.range 2).all (fun a => (List.range 12).all fun m => (List.range 31).all fun d => decide (T2 a (m + 1) (d + 1))) = true := by decide +kernel
theorem dim_hi (y m : Int) : dimG y m ≤ 31 := by
  rw [dim_F]
  unfold dimF
  have := (lp_b y).2
  repeat' split
  all_goals omega
theorem gOf_gJd {y m d : Int} (h1 : 1 ≤ m) (h2 : m ≤ 12) (h3 : 0 < d) (h4 : d ≤ dimG y m) : gY (gJd y m d) = y ∧ gM (gJd y m d) = m ∧ gD (gJd y m d) = d := by
  obtain ⟨l1, l2⟩ := lp_b y
  have hd := Int.le_trans h4 (dim_hi y m)
  rw [dim_F] at h4
  obtain ⟨a1, a2, a3⟩ := of_decide_eq_true (fin2 (p := fun d => decide (T2 (lp y) m d)) (n := 31) (fin2 (p := fun m => (List.range 31).all fun d => decide (T2 (lp y) m (d + 1))) (n := 12) (fin1 (p := fun a => (List.range 12).all fun m => (List.range 31).all fun d => decide (T2 a (m + 1) (d + 1))) t2 l1 l2) h1 h2) (x := d) h3 hd) h4
  have g := gJd_eq y m d
  rw [gO_F] at g
  have hy : gY (gJd y m d) = y := gY_of (by omega) (by omega)
  have hm : gM (gJd y m d) = m := by
    have q := gM_eq (gJd y m d)
    rw [hy, show gJd y m d - gS y = gOF (lp y) m + d - 1 by omega] at q
    exact q.trans a3
  refine ⟨hy, hm, ?_⟩
  rw [gD_eq, hy, hm, gO_F]
  omega
theorem gJd_gOf (jd : Int) : gJd (gY jd) (gM jd) (gD jd) = jd := by
  rw [gJd_eq, gD_eq]
  omega
noncomputable def iJd (y m d : Int) : Int := gJd (y + 78) 3 (22 - lp (y + 78)) + (if m = 1 then 0 else 30 + lp (y + 78) + (if 5 < m - 2 then 5 else m - 2) * 31 + (if 8 ≤ m then (m - 7) * 30 else 0)) + (d - 1)
noncomputable def iB (jd : Int) : Int := jd - gJd (gY jd) 1 1
noncomputable def iA (jd : Int) : Int := if iB jd < 80 then iB jd + (30 + lp (gY jd) + 31 * 5 + 30 * 3 + 10 + 80) - 80 else iB jd - 80
noncomputable def iY (jd : Int) : Int := if iB jd < 80 then gY jd - 78 - 1 else gY jd - 78
noncomputable def iMof (c a : Int) : Int := if a < c then 1 else if a - c < 31 * 5 then (a - c) / 31 + 2 else (a - c - 31 * 5) / 30 + 7
noncomputable def iDof (c a : Int) : Int := if a < c then a + 1 else if a - c < 31 * 5 then (a - c) % 31 + 1 else (a - c - 31 * 5) % 30 + 1
noncomputable def iM (jd : Int) : Int := iMof (30 + lp (gY jd)) (iA jd)
noncomputable def iD (jd : Int) : Int := iDof (30 + lp (gY jd)) (iA jd)
noncomputable def bM0 (m : Int) : Int := if m = 1 then 3 else if m = 2 then 4 else if m = 3 then 5 else if m = 4 then 6 else if m = 5 then 7 else if m = 6 then 8 else if m = 7 then 9 else if m = 8 then 10 else if m = 9 then 11 else if m = 10 then 12 else if m = 11 then 1 else if m = 12 then 2 else 3
noncomputable def bD0 (y m : Int) : Int := if m = 1 then 22 - lp (y + 78) else if m = 2 then 21 else if m = 3 then 22 else if m = 4 then 22 else if m = 5 then 23 else if m = 6 then 23 else if m = 7 then 23 else if m = 8 then 23 else if m = 9 then 22 else if m = 10 then 22 else if m = 11 then 21 else if m = 12 then 20 else 22 - lp (y + 1 + 78)
noncomputable def bY0 (y m : Int) : Int := if m ≤ 10 then y + 78 else if m ≤ 12 then y + 79 else y + 1 + 78
noncomputable def nY (n a b c : Int) : Int := if c ≤ n then a else if b < 12 then a else a + 1
noncomputable def nM (n b c : Int) : Int := if c ≤ n then b else if b < 12 then b + 1 else 1
noncomputable def nD (n c : Int) : Int := if c ≤ n then c else c - n
noncomputable def dY0 (y m k : Int) : Int := nY (dimG (bY0 y m) (bM0 m)) (bY0 y m) (bM0 m) (bD0 y m + k)
noncomputable def dM0 (y m k : Int) : Int := nM (dimG (bY0 y m) (bM0 m)) (bM0 m) (bD0 y m + k)
noncomputable def dD0 (y m k : Int) : Int := nD (dimG (bY0 y m) (bM0 m)) (bD0 y m + k)
noncomputable def len0 (y m : Int) : Int := if m = 1 then 30 + lp (y + 78) else if m ≤ 6 then 31 else 30
noncomputable def pst0 (y m : Int) : Int := if m = 1 then 0 else if m ≤ 7 then 30 + lp (y + 78) + (m - 2) * 31 else 30 + lp (y + 78) + 155 + (m - 7) * 30
theorem fin3 {p : Int → Int → Int → Bool} {A M K : Nat} (h : (List.range A).all (fun a => (List.range M).all fun m => (List.range K).all fun k => p a (m + 1) k) = true) {a m k : Int} (a0 : 0 ≤ a) (a1 : a < A) (m0 : 1 ≤ m) (m1 : m ≤ M) (k0 : 0 ≤ k) (k1 : k < K) : p a m k = true :=
  fin1 (p := fun k => p a m k) (fin2 (p := fun m => (List.range K).all fun k => p a m k) (fin1 (p := fun a => (List.range M).all fun m => (List.range K).all fun k => p a (m + 1) k) h a0 a1) m0 m1) k0 k1
theorem fin4 {p : Int → Int → Int → Int → Bool} {B A M K : Nat} (h : (List.range B).all (fun b => (List.range A).all fun a => (List.range M).all fun m => (List.range K).all fun k => p b a (m + 1) k) = true) {b a m k : Int} (b0 : 0 ≤ b) (b1 : b < B) (a0 : 0 ≤ a) (a1 : a < A) (m0 : 1 ≤ m) (m1 : m ≤ M) (k0 : 0 ≤ k) (k1 : k < K) : p b a m k = true :=
  fin3 (p := p b) (fin1 (p := fun b => (List.range A).all fun a => (List.range M).all fun m => (List.range K).all fun k => p b a (m + 1) k) h b0 b1) a0 a1 m0 m1 k0 k1
noncomputable def bDF (b a m : Int) : Int := if m = 1 then 22 - a else if m = 2 then 21 else if m = 3 then 22 else if m = 4 then 22 else if m = 5 then 23 else if m = 6 then 23 else if m = 7 then 23 else if m = 8 then 23 else if m = 9 then 22 else if m = 10 then 22 else if m = 11 then 21 else if m = 12 then 20 else 22 - b
noncomputable def bEF (m : Int) : Int := if m ≤ 10 then 0 else 1
noncomputable def lnF (a m : Int) : Int := if m = 1 then 30 + a else if m ≤ 6 then 31 else 30
noncomputable def psF (a m : Int) : Int := if m = 1 then 0 else if m ≤ 7 then 30 + a + (m - 2) * 31 else 30 + a + 155 + (m - 7) * 30
noncomputable def nF (b a m : Int) : Int := dimF (if m ≤ 10 then a else b) (bM0 m)
theorem bD_F (y m : Int) : bD0 y m = bDF (lp (y + 79)) (lp (y + 78)) m := by
  unfold bD0 bDF
  rw [show y + 1 + 78 = y + 79 by omega]
theorem bY_F (y m : Int) : bY0 y m = y + 78 + bEF m := by
  unfold bY0 bEF
  split
  · omega
  · split <;> omega
theorem n_F {y m : Int} : dimG (bY0 y m) (bM0 m) = nF (lp (y + 79)) (lp (y + 78)) m := by
  rw [dim_F, bY_F]
  unfold nF bEF
  split
  · rw [Int.add_zero]
  · rw [show y + 78 + 1 = y + 79 by omega]
theorem nY_add (n a e b c : Int) : nY n (a + e) b c = a + nY n e b c := by
  unfold nY
  split
  · rfl
  · split
    · rfl
    · omega
noncomputable abbrev T3 (b a m k : Int) : Prop := k < lnF a m → let c := bDF b a m + k; let e := nY (nF b a m) (bEF m) (bM0 m) c; let M := nM (nF b a m) (bM0 m) c; let D := nD (nF b a m) c; let l := if e = 0 then a else b
  (e = 0 ∨ e = 1) ∧ 1 ≤ M ∧ M ≤ 12 ∧ 0 < D ∧ D ≤ dimF l M ∧ e * (365 + a) + (gOF l M + D) = 81 + psF a m + k ∧ (81 + psF a m + k ≤ 365 + a ↔ e = 0) ∧
  iMof (30 + a) (psF a m + k) = m ∧ iDof (30 + a) (psF a m + k) = k + 1 ∧ 0 ≤ psF a m + k ∧ psF a m + k < 365 + a ∧ (365 + a ≤ psF a m + k + 80 → iMof (30 + b) (psF a m + k + b - a) = m ∧ iDof (30 + b) (psF a m + k + b - a) = k + 1)
theorem t3 : (List.range 2).all (fun b => (List.range 2).all fun a => (List.range 12).all fun m => (List.range 31).all fun k => decide (T3 b a (m + 1) k)) = true := by decide +kernel
theorem ln_hi (y m : Int) : len0 y m ≤ 31 := by
  unfold len0
  have := (lp_b (y + 78)).2
  repeat' split
  all_goals omega
theorem len0_pos (y m : Int) : 0 < len0 y m := by
  unfold len0
  have := (lp_b (y + 78)).1
  repeat' split
  all_goals omega
theorem u3 {y m k : Int} (h1 : 1 ≤ m) (h2 : m ≤ 12) (h3 : 0 ≤ k) (h4 : k < len0 y m) : T3 (lp (y + 79)) (lp (y + 78)) m k :=
  of_decide_eq_true (fin4 (p := fun b a m k => decide (T3 b a m k)) t3 (lp_b (y + 79)).1 (lp_b (y + 79)).2 (lp_b (y + 78)).1 (lp_b (y + 78)).2 h1 h2 h3 (Int.lt_of_lt_of_le h4 (ln_hi y m)))
theorem dY_F (y m k : Int) : dY0 y m k = y + 78 + nY (nF (lp (y + 79)) (lp (y + 78)) m) (bEF m) (bM0 m) (bDF (lp (y + 79)) (lp (y + 78)) m + k) := by
  unfold dY0
  rw [n_F, bY_F, bD_F, nY_add]
theorem dM_F (y m k : Int) : dM0 y m k = nM (nF (lp (y + 79)) (lp (y + 78)) m) (bM0 m) (bDF (lp (y + 79)) (lp (y + 78)) m + k) := by
  unfold dM0
  rw [n_F, bD_F]
theorem dD_F (y m k : Int) : dD0 y m k = nD (nF (lp (y + 79)) (lp (y + 78)) m) (bDF (lp (y + 79)) (lp (y + 78)) m + k) := by
  unfold dD0
  rw [n_F, bD_F]
theorem gS78 (y : Int) : gS (y + 79) = gS (y + 78) + 365 + lp (y + 78) := by
  rw [← gS_next, show y + 78 + 1 = y + 79 by omega]
theorem v3 {y m k : Int} (h1 : 1 ≤ m) (h2 : m ≤ 12) (h3 : 0 ≤ k) (h4 : k < len0 y m) : 1 ≤ dM0 y m k ∧ dM0 y m k ≤ 12 ∧ 0 < dD0 y m k ∧ dD0 y m k ≤ dimG (dY0 y m k) (dM0 y m k) ∧ gS (dY0 y m k) + (gO (dY0 y m k) (dM0 y m k) + dD0 y m k) = gS (y + 78) + (81 + pst0 y m + k) ∧
    (81 + pst0 y m + k ≤ 365 + lp (y + 78) → dY0 y m k = y + 78) ∧ (¬ 81 + pst0 y m + k ≤ 365 + lp (y + 78) → dY0 y m k = y + 79) := by
  obtain ⟨e0, a1, a2, a3, a4, a5, a6, _⟩ := u3 h1 h2 h3 h4 h4
  rw [← dM_F, ← dD_F] at a4 a5
  rw [← dM_F] at a1 a2
  rw [← dD_F] at a3
  have hy := dY_F y m k
  have hp : pst0 y m = psF (lp (y + 78)) m := rfl
  rw [← hp] at a5 a6
  generalize nY _ _ _ _ = e at *
  rw [dim_F, gO_F, hy]
  rcases e0 with e0 | e0
  · subst e0
    rw [if_pos rfl] at a4 a5
    rw [Int.add_zero] at *
    exact ⟨a1, a2, a3, a4, by omega, fun _ => rfl, fun h => absurd (a6.mpr rfl) h⟩
  · subst e0
    rw [if_neg (by decide)] at a4 a5
    rw [show y + 78 + 1 = y + 79 by omega] at *
    have g := gS78 y
    exact ⟨a1, a2, a3, a4, by omega, fun h => absurd (a6.mp h) (by decide), fun _ => rfl⟩
theorem iJd_eq {y m d : Int} (h1 : 1 ≤ m) : iJd y m d = gS (y + 78) + 80 + pst0 y m + d - 1 := by
  unfold iJd pst0
  rw [gJd_eq, show gO (y + 78) 3 = 59 + lp (y + 78) by rw [gO_F]; unfold gOF; rw [if_neg (by decide)]; omega]
  generalize lp (y + 78) = a
  generalize gS (y + 78) = g
  repeat' split
  all_goals omega
theorem due0 {y m k : Int} (h1 : 1 ≤ m) (h2 : m ≤ 12) (h3 : 0 ≤ k) (h4 : k < len0 y m) :
    1 ≤ dM0 y m k ∧ dM0 y m k ≤ 12 ∧ 0 < dD0 y m k ∧ dD0 y m k ≤ dimG (dY0 y m k) (dM0 y m k) ∧ gJd (dY0 y m k) (dM0 y m k) (dD0 y m k) = iJd y m (k + 1) := by
  obtain ⟨a1, a2, a3, a4, a5, _⟩ := v3 h1 h2 h3 h4
  refine ⟨a1, a2, a3, a4, ?_⟩
  rw [gJd_eq, iJd_eq h1]
  clear a1 a2 a3 a4 h1 h2 h3 h4
  omega
theorem place0 {y m k : Int} (h1 : 1 ≤ m) (h2 : m ≤ 12) (h3 : 0 ≤ k) (h4 : k < len0 y m) :
    (81 + pst0 y m + k ≤ 365 + lp (y + 78) → dY0 y m k = y + 78 ∧ gO (dY0 y m k) (dM0 y m k) + dD0 y m k = 81 + pst0 y m + k) ∧
    (¬ 81 + pst0 y m + k ≤ 365 + lp (y + 78) → dY0 y m k = y + 79 ∧ gO (dY0 y m k) (dM0 y m k) + dD0 y m k = 81 + pst0 y m + k - (365 + lp (y + 78))) := by
  obtain ⟨_, _, _, _, a5, a6, a7⟩ := v3 h1 h2 h3 h4
  clear h1 h2 h3 h4
  constructor
  · intro hc
    refine ⟨a6 hc, ?_⟩
    rw [a6 hc] at a5 ⊢
    exact Int.add_left_cancel a5
  · intro hc
    refine ⟨a7 hc, ?_⟩
    rw [a7 hc, gS78] at a5
    rw [a7 hc]
    clear a6 a7 hc
    omega
theorem iOf_iJd {y m k : Int} (h1 : 1 ≤ m) (h2 : m ≤ 12) (h3 : 0 ≤ k) (h4 : k < len0 y m) :
    iY (iJd y m (k + 1)) = y ∧ iM (iJd y m (k + 1)) = m ∧ iD (iJd y m (k + 1)) = k + 1 := by
  have e := iJd_eq (y := y) (d := k + 1) h1
  obtain ⟨_, _, _, _, _, _, _, w1, w2, w3, w4, w5⟩ := u3 h1 h2 h3 h4 h4
  have hp : pst0 y m = psF (lp (y + 78)) m := rfl
  rw [← hp] at w1 w2 w3 w4 w5
  generalize iJd y m (k + 1) = jd at *
  generalize hz : pst0 y m + k = z at *
  have e' : jd = gS (y + 78) + 80 + z := by omega
  clear e hz hp h1 h2 h3 h4
  have g := gS78 y
  have l1 := (lp_b (y + 79)).1
  have l2 := (lp_b (y + 79)).2
  unfold iM iD iY iA iB
  rw [gJd11]
  by_cases hn : 365 + lp (y + 78) ≤ z + 80
  · have hy : gY jd = y + 79 := gY_of (by omega) (by omega)
    obtain ⟨w6, w7⟩ := w5 hn
    rw [hy, if_pos (by omega), if_pos (by omega), show jd - gS (y + 79) + (30 + lp (y + 79) + 31 * 5 + 30 * 3 + 10 + 80) - 80 = z + lp (y + 79) - lp (y + 78) by omega]
    exact ⟨by omega, w6, w7⟩
  · have hy : gY jd = y + 78 := gY_of (by omega) (by omega)
    rw [hy, if_neg (by omega), if_neg (by omega), show jd - gS (y + 78) - 80 = z by omega]
    exact ⟨by omega, w1, w2⟩
noncomputable abbrev T5 (b a m k : Int) : Prop := let c := bDF b a m + (lnF a m - 1); bEF (m + 1) = nY (nF b a m) (bEF m) (bM0 m) c ∧ bM0 (m + 1) = nM (nF b a m) (bM0 m) c ∧ bDF b a (m + 1) - 1 = nD (nF b a m) c
theorem t5 : (List.range 2).all (fun b => (List.range 2).all fun a => (List.range 12).all fun m => (List.range 1).all fun k => decide (T5 b a (m + 1) k)) = true := by decide +kernel
theorem last0 {y m : Int} (h1 : 1 ≤ m) (h2 : m ≤ 12) : bY0 y (m + 1) = dY0 y m (len0 y m - 1) ∧ bM0 (m + 1) = dM0 y m (len0 y m - 1) ∧ bD0 y (m + 1) - 1 = dD0 y m (len0 y m - 1) := by
  obtain ⟨e1, e2, e3⟩ := of_decide_eq_true (fin4 (p := fun b a m k => decide (T5 b a m k)) t5 (lp_b (y + 79)).1 (lp_b (y + 79)).2 (lp_b (y + 78)).1 (lp_b (y + 78)).2 h1 h2 (k := 0) (by decide) (by decide))
  rw [dY_F, dM_F, dD_F, bY_F, bD_F]
  exact ⟨congrArg (y + 78 + ·) e1, e2, e3⟩
noncomputable def oX (m : Int) : Int := if m + 1 ≤ 3 then m + 1 + 12 else m + 1
noncomputable def oU (y m d : Int) : Int := 306 * oX m / 10 + d - 122 + 59 + lp y
noncomputable def oT (y m d : Int) : Int := if 365 + lp y < oU y m d then oU y m d - 365 - lp y else oU y m d
noncomputable def oA (y n : Int) : Int := if n < 59 + lp y then 0 else if isl y = true then 1 else 2
noncomputable def oM (y n : Int) : Int := ((n - 1 + oA y n) * 12 + 373) / 367
noncomputable def oD (y n : Int) : Int := n - oT y (oM y n) 1 + 1
theorem oA_eq (y n : Int) : oA y n = if n < 59 + lp y then 0 else 2 - lp y := by
  unfold oA lp
  split
  · rfl
  · split <;> rfl
noncomputable def oTF (a m d : Int) : Int := if 365 + a < 306 * oX m / 10 + d - 122 + 59 + a then 306 * oX m / 10 + d - 122 + 59 + a - 365 - a else 306 * oX m / 10 + d - 122 + 59 + a
noncomputable def oMF (a n : Int) : Int := ((n - 1 + (if n < 59 + a then 0 else 2 - a)) * 12 + 373) / 367
noncomputable abbrev T6 (a m d : Int) : Prop := d + 1 ≤ dimF a m → oTF a m (d + 1) = gOF a m + (d + 1) ∧ 1 ≤ gOF a m + (d + 1) ∧ oMF a (gOF a m + (d + 1)) = m
theorem t6 : (List.range 2).all (fun a => (List.range 12).all fun m => (List.range 31).all fun d => decide (T6 a (m + 1) d)) = true := by decide +kernel
theorem u6 {y m d : Int} (h1 : 1 ≤ m) (h2 : m ≤ 12) (h3 : 0 < d) (h4 : d ≤ dimG y m) : oT y m d = gO y m + d ∧ 1 ≤ gO y m + d ∧ oM y (gO y m + d) = m := by
  have hd := Int.le_trans h4 (dim_hi y m)
  rw [dim_F, show d = d - 1 + 1 by omega] at h4
  have t := of_decide_eq_true (fin3 (p := fun a m d => decide (T6 a m d)) t6 (lp_b y).1 (lp_b y).2 h1 h2 (k := d - 1) (by omega) (by omega)) h4
  rw [show d - 1 + 1 = d by omega, ← gO_F] at t
  refine ⟨t.1, t.2.1, ?_⟩
  unfold oM
  rw [oA_eq]
  exact t.2.2
theorem oT_eq {y m d : Int} (h1 : 1 ≤ m) (h2 : m ≤ 12) (h3 : 0 < d) (h4 : d ≤ dimG y m) : oT y m d = gO y m + d := (u6 h1 h2 h3 h4).1
theorem oOf_to {y m d : Int} (h1 : 1 ≤ m) (h2 : m ≤ 12) (h3 : 0 < d) (h4 : d ≤ dimG y m) : 1 ≤ gO y m + d ∧ oM y (gO y m + d) = m ∧ oD y (gO y m + d) = d := by
  obtain ⟨_, a1, a2⟩ := u6 h1 h2 h3 h4
  refine ⟨a1, a2, ?_⟩
  unfold oD
  rw [a2, oT_eq h1 h2 (by decide) (by omega)]
  omega
noncomputable def cJd (y m d : Int) : Int := d + (m - 1) * 30 + (y - 1) * 365 + y / 4 + 1825029
noncomputable def cY (jd : Int) : Int := (4 * (jd - 1825030) + 1463) / 1461
noncomputable def cM (jd : Int) : Int := (jd - cJd (cY jd) 1 1) / 30 + 1
noncomputable def cD (jd : Int) : Int := jd - cJd (cY jd) 1 1 - (cM jd - 1) * 30 + 1
noncomputable def lj (y : Int) : Bool := decide (y % 4 = 0)
noncomputable def lq (y : Int) : Int := if lj y = true then 1 else 0
theorem mod4 (q s : Int) : (4 * q + s) % 4 = s % 4 := by omega
theorem lj_sh (q s : Int) : lj (4 * q + s) = lj s := by unfold lj; rw [mod4]
theorem lq_sh (q s : Int) : lq (4 * q + s) = lq s := by unfold lq; rw [lj_sh]
theorem lq_ways (y : Int) : (lq y = 1 ∧ y % 4 = 0) ∨ (lq y = 0 ∧ y % 4 ≠ 0) := by
  unfold lq lj
  split
  · exact .inl ⟨rfl, decide_eq_true_iff.mp (by assumption)⟩
  · rename_i h
    exact .inr ⟨rfl, fun q => h (decide_eq_true_iff.mpr q)⟩
noncomputable def dimJ (y m : Int) : Int := if m = 2 then (if lj y = true then 29 else 28) else if m = 4 ∨ m = 6 ∨ m = 9 ∨ m = 11 then 30 else 31
noncomputable def jJd (y m d : Int) : Int := if m ≤ 2 then 1461 * (y - 1 + 4716) / 4 + 306001 * (m + 12 + 1) / 10000 + d - 1524 else 1461 * (y + 4716) / 4 + 306001 * (m + 1) / 10000 + d - 1524
noncomputable def jC (jd : Int) : Int := (20 * (jd + 1524) - 2442) / 7305
noncomputable def jE (jd : Int) : Int := (jd + 1524 - 1461 * jC jd / 4) * 10000 / 306001
noncomputable def jM (jd : Int) : Int := if jE jd < 14 then jE jd - 1 else jE jd - 13
noncomputable def jY (jd : Int) : Int := if jE jd < 14 then jC jd - 4716 else jC jd - 4715
noncomputable def jD (jd : Int) : Int := jd + 1524 - 1461 * jC jd / 4 - 306001 * jE jd / 10000
theorem dimJ_eq (y m : Int) : dimJ y m = if m = 2 then 28 + lq y else if m = 4 ∨ m = 6 ∨ m = 9 ∨ m = 11 then 30 else 31 := by
  unfold dimJ lq
  split
  · split <;> rfl
  · rfl
noncomputable def clen (y m : Int) : Int := if m ≤ 12 then 30 else if y % 4 = 3 then 6 else 5
noncomputable def bM1 (m : Int) : Int := if m = 1 then 8 else if m = 2 then 9 else if m = 3 then 10 else if m = 4 then 11 else if m = 5 then 12 else if m = 6 then 1 else if m = 7 then 2 else if m = 8 then 3 else if m = 9 then 4 else if m = 10 then 5 else if m = 11 then 6 else if m = 12 then 7 else 8
noncomputable def bD1 (y m : Int) : Int := if m = 1 then 29 + lq y else if m = 2 then 28 + lq y else if m = 3 then 28 + lq y else if m = 4 then 27 + lq y else if m = 5 then 27 + lq y else if m = 6 then 26 + lq y else if m = 7 then 25 + lq y else if m = 8 then 27 else if m = 9 then 26 else if m = 10 then 26 else if m = 11 then 25 else if m = 12 then 25 else if m = 13 then 24 else 29 + lq (y + 1)
noncomputable def bY1 (y m : Int) : Int := if m ≤ 5 then y + 283 else if m ≤ 13 then y + 284 else y + 1 + 283
noncomputable def dY1 (y m k : Int) : Int := nY (dimJ (bY1 y m) (bM1 m)) (bY1 y m) (bM1 m) (bD1 y m + k)
noncomputable def dM1 (y m k : Int) : Int := nM (dimJ (bY1 y m) (bM1 m)) (bM1 m) (bD1 y m + k)
noncomputable def dD1 (y m k : Int) : Int := nD (dimJ (bY1 y m) (bM1 m)) (bD1 y m + k)
theorem dimJ_sh (q s m : Int) : dimJ (4 * q + s) m = dimJ s m := by unfold dimJ; rw [lj_sh]
theorem clen_sh (q s m : Int) : clen (4 * q + s) m = clen s m := by unfold clen; rw [mod4]
theorem jJd_sh (q s m d : Int) : jJd (4 * q + s) m d = 1461 * q + jJd s m d := by
  unfold jJd
  rw [show 1461 * (4 * q + s - 1 + 4716) / 4 = 1461 * q + 1461 * (s - 1 + 4716) / 4 by omega, show 1461 * (4 * q + s + 4716) / 4 = 1461 * q + 1461 * (s + 4716) / 4 by omega]
  split <;> omega
theorem cJd_sh (q s m d : Int) : cJd (4 * q + s) m d = 1461 * q + cJd s m d := by
  unfold cJd
  rw [show (4 * q + s) / 4 = q + s / 4 by omega]
  omega
theorem bY1_sh (q s m : Int) : bY1 (4 * q + s) m = 4 * q + bY1 s m := by
  unfold bY1
  repeat' split
  all_goals omega
theorem bD1_sh (q s m : Int) : bD1 (4 * q + s) m = bD1 s m := by
  unfold bD1
  rw [show 4 * q + s + 1 = 4 * q + (s + 1) by omega, lq_sh, lq_sh]
theorem dY1_sh (q s m k : Int) : dY1 (4 * q + s) m k = 4 * q + dY1 s m k := by
  unfold dY1
  rw [bY1_sh, dimJ_sh, bD1_sh, nY_add]
theorem dM1_sh (q s m k : Int) : dM1 (4 * q + s) m k = dM1 s m k := by
  unfold dM1
  rw [bY1_sh, dimJ_sh, bD1_sh]
theorem dD1_sh (q s m k : Int) : dD1 (4 * q + s) m k = dD1 s m k := by
  unfold dD1
  rw [bY1_sh, dimJ_sh, bD1_sh]
theorem jC_sh (q x : Int) : jC (1461 * q + x) = 4 * q + jC x := by unfold jC; omega
theorem jE_sh (q x : Int) : jE (1461 * q + x) = jE x := by
  unfold jE
  rw [jC_sh, show 1461 * (4 * q + jC x) / 4 = 1461 * q + 1461 * jC x / 4 by omega, show 1461 * q + x + 1524 - (1461 * q + 1461 * jC x / 4) = x + 1524 - 1461 * jC x / 4 by omega]
theorem jD_sh (q x : Int) : jD (1461 * q + x) = jD x := by
  unfold jD
  rw [jC_sh, jE_sh, show 1461 * (4 * q + jC x) / 4 = 1461 * q + 1461 * jC x / 4 by omega]
  omega
theorem jM_sh (q x : Int) : jM (1461 * q + x) = jM x := by unfold jM; rw [jE_sh]
theorem jY_sh (q x : Int) : jY (1461 * q + x) = 4 * q + jY x := by
  unfold jY
  rw [jE_sh, jC_sh]
  split <;> omega
theorem cY_sh (q x : Int) : cY (1461 * q + x) = 4 * q + cY x := by unfold cY; omega
theorem cM_sh (q x : Int) : cM (1461 * q + x) = cM x := by
  unfold cM
  rw [cY_sh, cJd_sh, show 1461 * q + x - (1461 * q + cJd (cY x) 1 1) = x - cJd (cY x) 1 1 by omega]
theorem cD_sh (q x : Int) : cD (1461 * q + x) = cD x := by
  unfold cD
  rw [cM_sh, cY_sh, cJd_sh]
  omega
theorem q4 (y : Int) : ∃ q s : Int, y = 4 * q + s ∧ 0 ≤ s ∧ s < (4 : Nat) := ⟨y / 4, y % 4, by omega, by omega, by omega⟩
theorem dimJ_hi (y m : Int) : dimJ y m ≤ 31 := by
  unfold dimJ
  repeat' split
  all_goals decide
theorem clen_hi (y m : Int) : clen y m ≤ 30 := by
  unfold clen
  repeat' split
  all_goals decide
theorem clen_pos (y m : Int) : 0 < clen y m := by
  unfold clen
  repeat' split
  all_goals decide
noncomputable abbrev T7 (s m d : Int) : Prop := d + 1 ≤ dimJ s m → jY (jJd s m (d + 1)) = s ∧ jM (jJd s m (d + 1)) = m ∧ jD (jJd s m (d + 1)) = d + 1
theorem t7 : (List.range 4).all (fun s => (List.range 12).all fun m => (List.range 31).all fun d => decide (T7 s (m + 1) d)) = true := by decide +kernel
theorem jOf_jJd {y m d : Int} (h1 : 1 ≤ m) (h2 : m ≤ 12) (h3 : 0 < d) (h4 : d ≤ dimJ y m) : jY (jJd y m d) = y ∧ jM (jJd y m d) = m ∧ jD (jJd y m d) = d := by
  obtain ⟨q, s, rfl, s1, s2⟩ := q4 y
  have hd := Int.le_trans h4 (dimJ_hi _ m)
  rw [dimJ_sh, show d = d - 1 + 1 by omega] at h4
  have t := of_decide_eq_true (fin3 (p := fun s m d => decide (T7 s m d)) t7 s1 s2 h1 h2 (k := d - 1) (by omega) (by omega)) h4
  rw [show d - 1 + 1 = d by omega] at t
  rw [jJd_sh, jY_sh, jM_sh, jD_sh, t.1]
  exact ⟨rfl, t.2⟩
noncomputable abbrev T8 (s m k : Int) : Prop := k < clen s m → (1 ≤ dM1 s m k ∧ dM1 s m k ≤ 12 ∧ 0 < dD1 s m k ∧ dD1 s m k ≤ dimJ (dY1 s m k) (dM1 s m k) ∧ jJd (dY1 s m k) (dM1 s m k) (dD1 s m k) = cJd s m (k + 1)) ∧ cY (cJd s m (k + 1)) = s ∧ cM (cJd s m (k + 1)) = m ∧ cD (cJd s m (k + 1)) = k + 1
theorem t8 : (List.range 4).all (fun s => (List.range 13).all fun m => (List.range 30).all fun k => decide (T8 s (m + 1) k)) = true := by decide +kernel
theorem u8 {s m k : Int} (s1 : 0 ≤ s) (s2 : s < (4 : Nat)) (h1 : 1 ≤ m) (h2 : m ≤ 13) (h3 : 0 ≤ k) (h4 : k < clen s m) : T8 s m k :=
  of_decide_eq_true (fin3 (p := fun s m d => decide (T8 s m d)) t8 s1 s2 h1 h2 h3 (Int.lt_of_lt_of_le h4 (clen_hi s m)))
theorem due1 {y m k : Int} (h1 : 1 ≤ m) (h2 : m ≤ 13) (h3 : 0 ≤ k) (h4 : k < clen y m) :
    1 ≤ dM1 y m k ∧ dM1 y m k ≤ 12 ∧ 0 < dD1 y m k ∧ dD1 y m k ≤ dimJ (dY1 y m k) (dM1 y m k) ∧ jJd (dY1 y m k) (dM1 y m k) (dD1 y m k) = cJd y m (k + 1) := by
  obtain ⟨q, s, rfl, s1, s2⟩ := q4 y
  rw [clen_sh] at h4
  have t := (u8 s1 s2 h1 h2 h3 h4 h4).1
  rw [dY1_sh, dM1_sh, dD1_sh, dimJ_sh, jJd_sh, cJd_sh, t.2.2.2.2]
  exact ⟨t.1, t.2.1, t.2.2.1, t.2.2.2.1, rfl⟩
theorem cOf_cJd {y m k : Int} (h1 : 1 ≤ m) (h2 : m ≤ 13) (h3 : 0 ≤ k) (h4 : k < clen y m) : cY (cJd y m (k + 1)) = y ∧ cM (cJd y m (k + 1)) = m ∧ cD (cJd y m (k + 1)) = k + 1 := by
  obtain ⟨q, s, rfl, s1, s2⟩ := q4 y
  rw [clen_sh] at h4
  have t := (u8 s1 s2 h1 h2 h3 h4 h4).2
  rw [cJd_sh, cY_sh, cM_sh, cD_sh, t.1]
  exact ⟨rfl, t.2⟩
noncomputable abbrev T9 (s m k : Int) : Prop := bY1 s (m + 1) = dY1 s m (clen s m - 1) ∧ bM1 (m + 1) = dM1 s m (clen s m - 1) ∧ bD1 s (m + 1) - 1 = dD1 s m (clen s m - 1)
theorem t9 : (List.range 4).all (fun s => (List.range 13).all fun m => (List.range 1).all fun k => decide (T9 s (m + 1) k)) = true := by decide +kernel
theorem last1 {y m : Int} (h1 : 1 ≤ m) (h2 : m ≤ 13) : bY1 y (m + 1) = dY1 y m (clen y m - 1) ∧ bM1 (m + 1) = dM1 y m (clen y m - 1) ∧ bD1 y (m + 1) - 1 = dD1 y m (clen y m - 1) := by
  obtain ⟨q, s, rfl, s1, s2⟩ := q4 y
  have t := of_decide_eq_true (fin3 (p := fun s m d => decide (T9 s m d)) t9 s1 s2 h1 h2 (k := 0) (by decide) (by decide))
  rw [clen_sh, bY1_sh, dY1_sh, dM1_sh, bD1_sh, dD1_sh, t.1]
  exact ⟨rfl, t.2⟩
end Mine
end
section
namespace Mine
open PySem.Spec PySem.Calls
set_option maxHeartbeats 1000000
theorem fm {a b : Int} (h : 0 ≤ b) : a.fmod b = a % b := Int.fmod_eq_emod_of_nonneg a h
theorem fd {a b : Int} (h : 0 ≤ b) : a.fdiv b = a / b := Int.fdiv_eq_ediv_of_nonneg a h
theorem dimG_a {y m : Int} (h : m = 2) (hl : isl y = true) : 29 = dimG y m := by unfold dimG; rw [if_pos h, if_pos hl]
theorem dimG_b {y m : Int} (h : m = 2) (hl : isl y = false) : 28 = dimG y m := by unfold dimG; rw [if_pos h, if_neg (by rw [hl]; decide)]
theorem dimG_c {y m : Int} (h : m ≠ 2) (hl : m = 4 ∨ m = 6 ∨ m = 9 ∨ m = 11) : 30 = dimG y m := by unfold dimG; rw [if_neg h, if_pos hl]
theorem dimG_d {y m : Int} (h : m ≠ 2) (h1 : m ≠ 4) (h2 : m ≠ 6) (h3 : m ≠ 9) (h4 : m ≠ 11) : 31 = dimG y m := by unfold dimG; rw [if_neg h, if_neg (fun q => q.elim h1 fun q => q.elim h2 fun q => q.elim h3 h4)]
theorem m_ways (m : Int) : (m = 2) ∨ (m ≠ 2 ∧ (m = 4 ∨ m = 6 ∨ m = 9 ∨ m = 11)) ∨ (m ≠ 2 ∧ m ≠ 4 ∧ m ≠ 6 ∧ m ≠ 9 ∧ m ≠ 11) := by omega
theorem dim_ge (y m : Int) : 28 ≤ dimG y m := by
  unfold dimG
  repeat' split
  all_goals decide
theorem dim_ge1 (y m : Int) : 1 ≤ dimG y m := Int.le_trans (by decide) (dim_ge y m)
theorem gAdj_0 {y m : Int} (h : m ≤ 2) : 0 = gAdj y m := (if_pos h).symm
theorem gAdj_1 {y m : Int} (h : ¬ m ≤ 2) (hl : isl y = true) : -1 = gAdj y m := by unfold gAdj; rw [if_neg h, if_pos hl]
theorem gAdj_2 {y m : Int} (h : ¬ m ≤ 2) (hl : isl y = false) : -2 = gAdj y m := by unfold gAdj; rw [if_neg h, if_neg (by rw [hl]; decide)]
theorem gJd_end {y m d : Int} : 1721426 - 1 + 365 * (y - 1) + (y - 1).fdiv 4 + -((y - 1).fdiv 100) + (y - 1).fdiv 400 + ((367 * m - 362).fdiv 12 + gAdj y m + d) = gJd y m d := by
  rw [fd (by decide), fd (by decide), fd (by decide), fd (by decide)]
  rfl
section
theorem c_isleap (w : World) (loose : List Str) (mean : ExcName → Option Value) (mg mb : Str → Option Value) (y : Int) (t : Tok) :
    Ic w loose mean mg mb 1 21 [.int y t] (fun _ => .bool (isl y)) := by
  k_with_none
  k_with "eval Call Name" => (k_here; k_dflt (refine Call_ ?_))
  k_with "compareOp In int ref" => (k_here; (with_unfolding_all refine' in_tuple_ints ?k1 ?k2 ?_; (case k1 => kun_tup); (case k2 => (repeat constructor)); k_whole))
  k_with "storeName" => (k_here; k_dflt (refine' storeL ?F ?N ?_ ?a ?b; (case F => k_asm); (case N => k_asm); (case a => rfl); (case b => rfl); k_whole); intro h9 tk9 m9 F9 N9; (try k_sweep))
  intro dp un gd cn cs a ccd cl outer A₀ base h₀ L mm news s Q E B F X N T hk hd hu hret
  refine wpAny_call ?_
  k_dflt cell_enter
  k_steps
  all_goals (refine endB hret (by k_asm) (by k_asm) (fun _ h => h) ?_)
  all_goals (simp only [fm, Int.reduceLE] at *; unfold isl; rw [Bool.eq_iff_iff]; simp; omega)
section
theorem c_legalG (w : World) (loose : List Str) (mean : ExcName → Option Value) (mg mb : Str → Option Value) (y m d : Int) (t1 t2 t3 : Tok) (h1 : 0 < d) (h2 : d ≤ dimG y m) :
    Ic w loose mean mg mb 2 36 [.int y t1, .int m t2, .int d t3] (fun _ => .bool true) := by
  k_with_none
  k_with "eval Call Name" => (k_here; k_dflt (refine Call_ ?_))
  k_with "compareOp In int ref" => (k_here; (with_unfolding_all refine' in_tuple_ints ?k1 ?k2 ?_; (case k1 => kun_tup); (case k2 => (repeat constructor)); k_whole))
  k_with "storeName" => (k_here; k_dflt (refine' storeL ?F ?N ?_ ?a ?b; (case F => k_asm); (case N => k_asm); (case a => rfl); (case b => rfl); k_whole); intro h9 tk9 m9 F9 N9; (try k_sweep))
  k_with "call ref" => (k_here; k_dflt (refine' Ic.use (c_isleap _ _ _ _ _ _ _) ?k1 ?k2 ?k3 ?k4 ?k5 ?kK ?kd ?ku ?_; (case k1 => k_asm); (case k2 => k_asm); (case k3 => k_asm); (case k4 => k_asm); (case k5 => k_asm); (case kK => first | exact rfl | assumption); (case kd => ktr_room); (case ku => ktr_units); k_whole); intro t9 h9 tk9 F9 N9; (try dsimp only); (try k_sweep); (try k_fold))
  k_with "ite" => (k_here; k_openite; first | (refine ite_pos (by ((try simp only [beq_iff_eq, bne_iff_ne, List.any_cons, List.any_nil, Bool.or_false, Bool.or_eq_true, decide_eq_true_eq]); first | with_reducible assumption | omega)) ?_; walk_say "DECIDED") | (refine ite_neg (by ((try simp only [beq_iff_eq, bne_iff_ne, List.any_cons, List.any_nil, Bool.or_false, Bool.or_eq_true, decide_eq_true_eq, Bool.not_eq_true, not_or]); first | with_reducible assumption | omega)) ?_; walk_say "DECIDED") | with_reducible refine ite_tt ?_ | with_reducible refine ite_ff ?_ | (with_reducible refine split_ine ?_ ?_ <;> intro _) | (with_reducible refine split_ieq ?_ ?_ <;> intro _) | with_reducible refine split_not ?_ | (refine split_dec ?_ ?_ <;> intro _) | (refine split_bool ?_ ?_ <;> intro _))
  k_with "exec If" => (k_here; k_dflt ((rename Jz _ _ => jz9); (refine' joinI jz9 ?kF ?kN ?kw ?_); (case kF => k_asm); (case kN => k_asm); (case kw => ((try clear jz9); (repeat ((rename Jz _ _ => jy9); clear jy9)); (repeat ((rename Jy _ _ _ _ => jy9); clear jy9)); intro Q9 go9; ((rename (_ ∨ _) => hw9); rcases hw9 with g1 | ⟨g1, g2⟩ | ⟨g1, g3, g4, g5, g6⟩); all_goals k_steps; all_goals (first | (with_reducible refine endJ go9 (by assumption) (by assumption) (by intro p9 h9; repeat (first | with_reducible exact h9 | with_reducible refine List.mem_cons_of_mem _ ?_)) ?_) | (with_reducible (refine' endJ0 go9 (by assumption) (by assumption) (by intro p9 h9; repeat (first | with_reducible exact h9 | with_reducible refine List.mem_cons_of_mem _ ?_)) ?hv ?_; (case hv => k_dflt rfl)))); all_goals (first | with_reducible exact dimG_a (by assumption) (by assumption) | with_reducible exact dimG_b (by assumption) (by assumption) | with_reducible exact dimG_c (by assumption) (by assumption) | with_reducible exact dimG_d (by assumption) (by assumption) (by assumption) (by assumption) (by assumption)))); intro t9 h9 tk9 m9 F9 N9; clear jz9; (try k_sweep)))
  intro dp un gd cn cs a ccd cl outer A₀ base h₀ L mm news s Q E B F X N T hk hd hu hret
  have hw := m_ways m
  have j1 : Jz (Str.ofString "daysinmonth") (dimG y m) := .mk _ _
  refine wpAny_call ?_
  k_dflt cell_enter
  k_steps
  all_goals exact endB hret (by k_asm) (by k_asm) (fun _ h => h) rfl
end
section
theorem c_gJd (w : World) (loose : List Str) (mean : ExcName → Option Value) (mg mb : Str → Option Value) (y m d : Int) (t1 t2 t3 : Tok) (h1 : 0 < d) (h2 : d ≤ dimG y m) :
    Ic w loose mean mg mb 3 43 [.int y t1, .int m t2, .int d t3] (fun t => .int (gJd y m d) t) := by
  k_with_none
  k_with "eval Call Name" => (k_here; k_dflt (refine Call_ ?_))
  k_with "compareOp In int ref" => (k_here; (with_unfolding_all refine' in_tuple_ints ?k1 ?k2 ?_; (case k1 => kun_tup); (case k2 => (repeat constructor)); k_whole))
  k_with "storeName" => (k_here; k_dflt (refine' storeL ?F ?N ?_ ?a ?b; (case F => k_asm); (case N => k_asm); (case a => rfl); (case b => rfl); k_whole); intro h9 tk9 m9 F9 N9; (try k_sweep))
  k_with "call ref" => (k_here; k_dflt (refine' Ic.use (c_isleap _ _ _ _ _ _ _) ?k1 ?k2 ?k3 ?k4 ?k5 ?kK ?kd ?ku ?_; (case k1 => k_asm); (case k2 => k_asm); (case k3 => k_asm); (case k4 => k_asm); (case k5 => k_asm); (case kK => first | exact rfl | assumption); (case kd => ktr_room); (case ku => ktr_units); k_whole); intro t9 h9 tk9 F9 N9; (try dsimp only); (try k_sweep); (try k_fold))
  k_with "ite" => (k_here; k_openite; first | (refine ite_pos (by ((try simp only [beq_iff_eq, bne_iff_ne, List.any_cons, List.any_nil, Bool.or_false, Bool.or_eq_true, decide_eq_true_eq]); first | with_reducible assumption | omega)) ?_; walk_say "DECIDED") | (refine ite_neg (by ((try simp only [beq_iff_eq, bne_iff_ne, List.any_cons, List.any_nil, Bool.or_false, Bool.or_eq_true, decide_eq_true_eq, Bool.not_eq_true, not_or]); first | with_reducible assumption | omega)) ?_; walk_say "DECIDED") | with_reducible refine ite_tt ?_ | with_reducible refine ite_ff ?_ | (with_reducible refine split_ine ?_ ?_ <;> intro _) | (with_reducible refine split_ieq ?_ ?_ <;> intro _) | with_reducible refine split_not ?_ | (refine split_dec ?_ ?_ <;> intro _) | (refine split_bool ?_ ?_ <;> intro _))
  k_with "call ref" => (k_here; k_dflt (refine' Ic.use (c_legalG _ _ _ _ _ _ _ _ _ _ _ ?p1 ?p2) ?k1 ?k2 ?k3 ?k4 ?k5 ?kK ?kd ?ku ?_; (case k1 => k_asm); (case k2 => k_asm); (case k3 => k_asm); (case k4 => k_asm); (case p1 => first | assumption | decide); (case p2 => first | assumption | exact dim_ge1 _ _); (case k5 => k_asm); (case kK => first | exact rfl | assumption); (case kd => ktr_room); (case ku => ktr_units); k_whole); intro t9 h9 tk9 F9 N9; (try dsimp only); (try k_sweep); (try k_fold))
  k_with "exec If" => (k_here; k_dflt ((rename Jz _ _ => jz9); (refine' joinI jz9 ?kF ?kN ?kw ?_); (case kF => k_asm); (case kN => k_asm); (case kw => ((try clear jz9); (repeat ((rename Jz _ _ => jy9); clear jy9)); (repeat ((rename Jy _ _ _ _ => jy9); clear jy9)); intro Q9 go9; skip; all_goals k_steps; all_goals (first | (with_reducible refine endJ go9 (by assumption) (by assumption) (by intro p9 h9; repeat (first | with_reducible exact h9 | with_reducible refine List.mem_cons_of_mem _ ?_)) ?_) | (with_reducible (refine' endJ0 go9 (by assumption) (by assumption) (by intro p9 h9; repeat (first | with_reducible exact h9 | with_reducible refine List.mem_cons_of_mem _ ?_)) ?hv ?_; (case hv => k_dflt rfl)))); all_goals (first | with_reducible exact gAdj_0 (by assumption) | with_reducible exact gAdj_1 (by assumption) (by assumption) | with_reducible exact gAdj_2 (by assumption) (by assumption)))); intro t9 h9 tk9 m9 F9 N9; clear jz9; (try k_sweep)))
  intro dp un gd cn cs a ccd cl outer A₀ base h₀ L mm news s Q E B F X N T hk hd hu hret
  have j1 : Jz (Str.ofString "leap_adj") (gAdj y m) := .mk _ _
  refine wpAny_call ?_
  k_dflt cell_enter
  k_steps
  all_goals exact endI hret (by k_asm) (by k_asm) (fun _ h => h) gJd_end
end
end
end Mine
end
section
namespace Mine
open PySem.Spec PySem.Calls
set_option maxHeartbeats 1000000
section
theorem gY_same {jd : Int} (h : ((jd - 1721426).fmod 146097).fdiv 36524 = 4 ∨ ((((jd - 1721426).fmod 146097).fmod 36524).fmod 1461).fdiv 365 = 4) :
    (jd - 1721426).fdiv 146097 * 400 + ((jd - 1721426).fmod 146097).fdiv 36524 * 100 + (((jd - 1721426).fmod 146097).fmod 36524).fdiv 1461 * 4 + ((((jd - 1721426).fmod 146097).fmod 36524).fmod 1461).fdiv 365 = gY jd := by
  simp only [fm, fd, Int.reduceLE] at h ⊢
  unfold gY
  rw [if_pos h, Int.add_zero]
theorem gY_next {jd : Int} (h1 : ((jd - 1721426).fmod 146097).fdiv 36524 ≠ 4) (h2 : ((((jd - 1721426).fmod 146097).fmod 36524).fmod 1461).fdiv 365 ≠ 4) :
    (jd - 1721426).fdiv 146097 * 400 + ((jd - 1721426).fmod 146097).fdiv 36524 * 100 + (((jd - 1721426).fmod 146097).fmod 36524).fdiv 1461 * 4 + ((((jd - 1721426).fmod 146097).fmod 36524).fmod 1461).fdiv 365 + 1 = gY jd := by
  simp only [fm, fd, Int.reduceLE] at h1 h2 ⊢
  unfold gY
  rw [if_neg (fun h => h.elim h1 h2)]
theorem gA_0 {jd : Int} (h : jd - gJd (gY jd) 1 1 < 58 + (if isl (gY jd) = true then 1 else 0)) : 0 = gA2 jd := by
  unfold gA2; rw [if_pos h]
theorem gA_1 {jd : Int} (h : ¬ jd - gJd (gY jd) 1 1 < 58 + (if isl (gY jd) = true then 1 else 0)) (hl : isl (gY jd) = true) : 1 = gA2 jd := by
  unfold gA2; rw [if_neg h, if_pos hl]
theorem gA_2 {jd : Int} (h : ¬ jd - gJd (gY jd) 1 1 < 58 + (if isl (gY jd) = true then 1 else 0)) (hl : isl (gY jd) = false) : 2 = gA2 jd := by
  unfold gA2; rw [if_neg h, if_neg (by rw [hl]; decide)]
theorem gOf_end {jd : Int} : gY jd = gY jd ∧ ((jd - gJd (gY jd) 1 1 + gA2 jd) * 12 + 373).fdiv 367 = gM jd ∧ jd - gJd (gY jd) (((jd - gJd (gY jd) 1 1 + gA2 jd) * 12 + 373).fdiv 367) 1 + 1 = gD jd := by
  have e : ((jd - gJd (gY jd) 1 1 + gA2 jd) * 12 + 373).fdiv 367 = gM jd := fd (by decide)
  exact ⟨rfl, e, by rw [e]; rfl⟩
section
theorem c_gOf (w : World) (loose : List Str) (mean : ExcName → Option Value) (mg mb : Str → Option Value) (jd : Int) (t1 : Tok) :
    Tc w loose mean mg mb 4 50 [] [.int jd t1] (gY jd) (gM jd) (gD jd) := by
  k_with_none
  k_with "eval Call Name" => (k_here; k_dflt (refine Call_ ?_))
  k_with "storeName" => (k_here; k_dflt (refine' storeL ?F ?N ?_ ?a ?b; (case F => k_asm); (case N => k_asm); (case a => rfl); (case b => rfl); k_whole); intro h9 tk9 m9 F9 N9; (try k_sweep))
  k_with "newTuple" => (k_here; k_dflt (refine' tupL ?F ?N ?_ ?z; (case F => k_asm); (case N => k_asm); (case z => kmk_size)); intro D9 h9 tk9 n9 F9 N9; (try k_sweep))
  k_with "ite" => (k_here; k_openite; first | (refine ite_pos (by ((try simp only [beq_iff_eq, bne_iff_ne, List.any_cons, List.any_nil, Bool.or_false, Bool.or_eq_true, decide_eq_true_eq]); first | with_reducible assumption | omega)) ?_; walk_say "DECIDED") | (refine ite_neg (by ((try simp only [beq_iff_eq, bne_iff_ne, List.any_cons, List.any_nil, Bool.or_false, Bool.or_eq_true, decide_eq_true_eq, Bool.not_eq_true, not_or]); first | with_reducible assumption | omega)) ?_; walk_say "DECIDED") | with_reducible refine ite_tt ?_ | with_reducible refine ite_ff ?_ | (with_reducible refine split_ine ?_ ?_ <;> intro _) | (with_reducible refine split_ieq ?_ ?_ <;> intro _) | with_reducible refine split_not ?_ | (refine split_dec ?_ ?_ <;> intro _) | (refine split_bool ?_ ?_ <;> intro _))
  k_with "call ref" => (k_here; k_dflt (refine' Ic.use (c_isleap _ _ _ _ _ _ _) ?k1 ?k2 ?k3 ?k4 ?k5 ?kK ?kd ?ku ?_; (case k1 => k_asm); (case k2 => k_asm); (case k3 => k_asm); (case k4 => k_asm); (case k5 => k_asm); (case kK => first | exact rfl | assumption); (case kd => ktr_room); (case ku => ktr_units); k_whole); intro t9 h9 tk9 F9 N9; (try dsimp only); (try k_sweep); (try k_fold))
  k_with "call ref" => (k_here; k_dflt (refine' Ic.use (c_gJd _ _ _ _ _ _ _ _ _ _ _ ?p1 ?p2) ?k1 ?k2 ?k3 ?k4 ?k5 ?kK ?kd ?ku ?_; (case k1 => k_asm); (case k2 => k_asm); (case k3 => k_asm); (case k4 => k_asm); (case p1 => first | with_reducible assumption | exact (by decide : (0 : Int) < 1) | omega); (case p2 => first | with_reducible assumption | with_reducible exact dim_ge1 _ _ | exact Int.le_trans (by omega) (dim_ge _ _)); (case k5 => k_asm); (case kK => first | exact rfl | assumption); (case kd => ktr_room); (case ku => ktr_units); k_whole); intro t9 h9 tk9 F9 N9; (try dsimp only); (try k_sweep); (try k_fold))
  k_with "exec If" => (k_here; k_dflt ((rename Jz _ _ => jz9); (refine' joinI jz9 ?kF ?kN ?kw ?_); (case kF => k_asm); (case kN => k_asm); (case kw => ((try clear jz9); (repeat ((rename Jz _ _ => jy9); clear jy9)); (repeat ((rename Jy _ _ _ _ => jy9); clear jy9)); intro Q9 go9; skip; all_goals k_steps; all_goals (first | (with_reducible refine endJ go9 (by assumption) (by assumption) (by intro p9 h9; repeat (first | with_reducible exact h9 | with_reducible refine List.mem_cons_of_mem _ ?_)) ?_) | (with_reducible (refine' endJ0 go9 (by assumption) (by assumption) (by intro p9 h9; repeat (first | with_reducible exact h9 | with_reducible refine List.mem_cons_of_mem _ ?_)) ?hv ?_; (case hv => k_dflt rfl)))); all_goals (first | with_reducible exact gY_same (.inl (by assumption)) | with_reducible exact gY_same (.inr (by assumption)) | with_reducible exact gY_next (by assumption) (by assumption) | with_reducible exact gA_0 (by assumption) | with_reducible exact gA_1 (by assumption) (by assumption) | with_reducible exact gA_2 (by assumption) (by assumption)))); intro t9 h9 tk9 m9 F9 N9; clear jz9; (try k_sweep)))
  intro dp un gd cn cs a ccd cl outer A₀ base h₀ L mm news s Q E B F X N hold T hk hd hu hret
  have j2 : Jz (Str.ofString "leap_adj") (gA2 jd) := .mk _ _
  have j1 : Jz (Str.ofString "year") (gY jd) := .mk _ _
  refine wpAny_call ?_
  k_dflt cell_enter
  k_steps
  all_goals (refine endT hret (by k_asm) (by k_asm) (by first | exact List.mem_cons_self | k_mem) (by intro p9 h9; repeat (first | with_reducible exact h9 | with_reducible refine List.mem_cons_of_mem _ ?_)) ?_)
  all_goals exact gOf_end
end
end
end Mine
end
section
namespace Mine
open PySem.Spec PySem.Calls
set_option maxHeartbeats 1000000
section
theorem ca_t {y : Int} (h : isl y = true) : 31 = 30 + lp y := by rw [lp_t h]; decide
theorem ca_f {y : Int} (h : isl y = false) : 30 = 30 + lp y := by rw [lp_f h]; decide
theorem iJd_1 {y m d : Int} (h : m = 1) : gJd (y + 78) 3 (22 - if isl (y + 78) = true then 1 else 0) + (d - 1) = iJd y m d := by
  unfold iJd lp; rw [if_pos h, Int.add_zero]
theorem iJd_2 {y m d : Int} (h : m ≠ 1) (h8 : 8 ≤ m) : gJd (y + 78) 3 (22 - if isl (y + 78) = true then 1 else 0) + (30 + lp (y + 78)) + (if 5 < m - 2 then 5 else m - 2) * 31 + (m - 7) * 30 + (d - 1) = iJd y m d := by
  unfold iJd; rw [if_neg h, if_pos h8]; unfold lp; simp only [Int.add_assoc]
theorem iJd_3 {y m d : Int} (h : m ≠ 1) (h8 : ¬ 8 ≤ m) : gJd (y + 78) 3 (22 - if isl (y + 78) = true then 1 else 0) + (30 + lp (y + 78)) + (if 5 < m - 2 then 5 else m - 2) * 31 + (d - 1) = iJd y m d := by
  unfold iJd; rw [if_neg h, if_neg h8]; unfold lp; simp only [Int.add_assoc, Int.add_zero]
theorem c_iJd (w : World) (loose : List Str) (mean : ExcName → Option Value) (mg mb : Str → Option Value) (y m d : Int) (t1 t2 t3 : Tok) :
    Ic w loose mean mg mb 4 57 [.int y t1, .int m t2, .int d t3] (fun t => .int (iJd y m d) t) := by
  k_with_none
  k_with "eval Call Name" => (k_here; k_dflt (refine Call_ ?_))
  k_with "storeName" => (k_here; k_dflt (refine' storeL ?F ?N ?_ ?a ?b; (case F => k_asm); (case N => k_asm); (case a => rfl); (case b => rfl); k_whole); intro h9 tk9 m9 F9 N9; (try k_sweep))
  k_with "newTuple" => (k_here; k_dflt (refine' tupL ?F ?N ?_ ?z; (case F => k_asm); (case N => k_asm); (case z => kmk_size)); intro D9 h9 tk9 n9 F9 N9; (try k_sweep))
  k_with "ite" => (k_here; k_openite; first | (refine ite_pos (by ((try simp only [beq_iff_eq, bne_iff_ne, List.any_cons, List.any_nil, Bool.or_false, Bool.or_eq_true, decide_eq_true_eq]); first | with_reducible assumption | omega)) ?_; walk_say "DECIDED") | (refine ite_neg (by ((try simp only [beq_iff_eq, bne_iff_ne, List.any_cons, List.any_nil, Bool.or_false, Bool.or_eq_true, decide_eq_true_eq, Bool.not_eq_true, not_or]); first | with_reducible assumption | omega)) ?_; walk_say "DECIDED") | with_reducible refine ite_tt ?_ | with_reducible refine ite_ff ?_ | (with_reducible refine split_ine ?_ ?_ <;> intro _) | (with_reducible refine split_ieq ?_ ?_ <;> intro _) | with_reducible refine split_not ?_ | (refine split_dec ?_ ?_ <;> intro _) | (refine split_bool ?_ ?_ <;> intro _))
  k_with "call ref" => (k_here; k_dflt (refine' Ic.use (c_isleap _ _ _ _ _ _ _) ?k1 ?k2 ?k3 ?k4 ?k5 ?kK ?kd ?ku ?_; (case k1 => k_asm); (case k2 => k_asm); (case k3 => k_asm); (case k4 => k_asm); (case k5 => k_asm); (case kK => first | exact rfl | assumption); (case kd => ktr_room); (case ku => ktr_units); k_whole); intro t9 h9 tk9 F9 N9; (try dsimp only); (try k_sweep); (try k_fold))
  k_with "call ref" => (k_here; k_dflt (refine' Ic.use (c_gJd _ _ _ _ _ _ _ _ _ _ _ ?p1 ?p2) ?k1 ?k2 ?k3 ?k4 ?k5 ?kK ?kd ?ku ?_; (case k1 => k_asm); (case k2 => k_asm); (case k3 => k_asm); (case k4 => k_asm); (case p1 => first | with_reducible assumption | exact (by decide : (0 : Int) < 1) | omega); (case p2 => first | with_reducible assumption | with_reducible exact dim_ge1 _ _ | exact Int.le_trans (by omega) (dim_ge _ _)); (case k5 => k_asm); (case kK => first | exact rfl | assumption); (case kd => ktr_room); (case ku => ktr_units); k_whole); intro t9 h9 tk9 F9 N9; (try dsimp only); (try k_sweep); (try k_fold))
  k_with "exec If" => (k_here; k_dflt ((rename Jz _ _ => jz9); (refine' joinI jz9 ?kF ?kN ?kw ?_); (case kF => k_asm); (case kN => k_asm); (case kw => ((try clear jz9); (repeat ((rename Jz _ _ => jy9); clear jy9)); (repeat ((rename Jy _ _ _ _ => jy9); clear jy9)); intro Q9 go9; skip; all_goals k_steps; all_goals (first | (with_reducible refine endJ go9 (by assumption) (by assumption) (by intro p9 h9; repeat (first | with_reducible exact h9 | with_reducible refine List.mem_cons_of_mem _ ?_)) ?_) | (with_reducible (refine' endJ0 go9 (by assumption) (by assumption) (by intro p9 h9; repeat (first | with_reducible exact h9 | with_reducible refine List.mem_cons_of_mem _ ?_)) ?hv ?_; (case hv => k_dflt rfl)))); all_goals (first | with_reducible exact ca_t (by assumption) | with_reducible exact ca_f (by assumption)))); intro t9 h9 tk9 m9 F9 N9; clear jz9; (try k_sweep)))
  intro dp un gd cn cs a ccd cl outer A₀ base h₀ L mm news s Q E B F X N T hk hd hu hret
  have : Jz (Str.ofString "caitra") (30 + lp (y + 78)) := .mk _ _
  refine wpAny_call ?_
  k_dflt cell_enter
  k_steps
  all_goals (refine endI hret (by k_asm) (by k_asm) (fun _ h => h) ?_)
  all_goals (first
    | with_reducible exact iJd_1 (by assumption)
    | with_reducible exact iJd_2 (by assumption) (by assumption)
    | with_reducible exact iJd_3 (by assumption) (by assumption))
end
section
noncomputable def iB2 (jd : Int) : Int := if iB jd < 80 then iB jd + (30 + lp (gY jd) + 31 * 5 + 30 * 3 + 10 + 80) else iB jd
theorem iY_t {jd : Int} (h : jd - gJd (gY jd) 1 1 < 80) : gY jd - 78 - 1 = iY jd := (if_pos h).symm
theorem iY_f {jd : Int} (h : ¬ jd - gJd (gY jd) 1 1 < 80) : gY jd - 78 = iY jd := (if_neg h).symm
theorem iB_t {jd : Int} (h : jd - gJd (gY jd) 1 1 < 80) : jd - gJd (gY jd) 1 1 + (30 + lp (gY jd) + 31 * 5 + 30 * 3 + 10 + 80) = iB2 jd := (if_pos h).symm
theorem iB_f {jd : Int} (h : ¬ jd - gJd (gY jd) 1 1 < 80) : jd - gJd (gY jd) 1 1 = iB2 jd := (if_neg h).symm
theorem iA_2 (jd : Int) : iB2 jd - 80 = iA jd := by
  unfold iB2 iA
  split <;> rfl
theorem iOf_1 {jd : Int} (h : iB2 jd - 80 < 30 + lp (gY jd)) : iY jd = iY jd ∧ 1 = iM jd ∧ iB2 jd - 80 + 1 = iD jd := by
  rw [iA_2] at h ⊢
  exact ⟨rfl, (if_pos h).symm, (if_pos h).symm⟩
theorem iOf_2 {jd : Int} (h : ¬ iB2 jd - 80 < 30 + lp (gY jd)) (h2 : iB2 jd - 80 - (30 + lp (gY jd)) < 31 * 5) : iY jd = iY jd ∧ (iB2 jd - 80 - (30 + lp (gY jd))).fdiv 31 + 2 = iM jd ∧ (iB2 jd - 80 - (30 + lp (gY jd))).fmod 31 + 1 = iD jd := by
  rw [iA_2] at h h2 ⊢
  unfold iM iD iMof iDof
  rw [if_neg h, if_pos h2, if_neg h, if_pos h2, fd (by decide), fm (by decide)]
  exact ⟨rfl, rfl, rfl⟩
theorem iOf_3 {jd : Int} (h : ¬ iB2 jd - 80 < 30 + lp (gY jd)) (h2 : ¬ iB2 jd - 80 - (30 + lp (gY jd)) < 31 * 5) : iY jd = iY jd ∧ (iB2 jd - 80 - (30 + lp (gY jd)) - 31 * 5).fdiv 30 + 7 = iM jd ∧ (iB2 jd - 80 - (30 + lp (gY jd)) - 31 * 5).fmod 30 + 1 = iD jd := by
  rw [iA_2] at h h2 ⊢
  unfold iM iD iMof iDof
  rw [if_neg h, if_neg h2, if_neg h, if_neg h2, fd (by decide), fm (by decide)]
  exact ⟨rfl, rfl, rfl⟩
theorem c_iOf (w : World) (loose : List Str) (mean : ExcName → Option Value) (mg mb : Str → Option Value) (jd : Int) (t1 : Tok) :
    Tc w loose mean mg mb 5 64 [] [.int jd t1] (iY jd) (iM jd) (iD jd) := by
  k_with_none
  k_with "eval Call Name" => (k_here; k_dflt (refine Call_ ?_))
  k_with "storeName" => (k_here; k_dflt (refine' storeL ?F ?N ?_ ?a ?b; (case F => k_asm); (case N => k_asm); (case a => rfl); (case b => rfl); k_whole); intro h9 tk9 m9 F9 N9; (try k_sweep))
  k_with "newTuple" => (k_here; k_dflt (refine' tupL ?F ?N ?_ ?z; (case F => k_asm); (case N => k_asm); (case z => kmk_size)); intro D9 h9 tk9 n9 F9 N9; (try k_sweep))
  k_with "ite" => (k_here; k_openite; first | (refine ite_pos (by ((try simp only [beq_iff_eq, bne_iff_ne, List.any_cons, List.any_nil, Bool.or_false, Bool.or_eq_true, decide_eq_true_eq]); first | with_reducible assumption | omega)) ?_; walk_say "DECIDED") | (refine ite_neg (by ((try simp only [beq_iff_eq, bne_iff_ne, List.any_cons, List.any_nil, Bool.or_false, Bool.or_eq_true, decide_eq_true_eq, Bool.not_eq_true, not_or]); first | with_reducible assumption | omega)) ?_; walk_say "DECIDED") | with_reducible refine ite_tt ?_ | with_reducible refine ite_ff ?_ | (with_reducible refine split_ine ?_ ?_ <;> intro _) | (with_reducible refine split_ieq ?_ ?_ <;> intro _) | with_reducible refine split_not ?_ | (refine split_dec ?_ ?_ <;> intro _) | (refine split_bool ?_ ?_ <;> intro _))
  k_with "call ref" => (k_here; k_dflt (refine' Ic.use (c_isleap _ _ _ _ _ _ _) ?k1 ?k2 ?k3 ?k4 ?k5 ?kK ?kd ?ku ?_; (case k1 => k_asm); (case k2 => k_asm); (case k3 => k_asm); (case k4 => k_asm); (case k5 => k_asm); (case kK => first | exact rfl | assumption); (case kd => ktr_room); (case ku => ktr_units); k_whole); intro t9 h9 tk9 F9 N9; (try dsimp only); (try k_sweep); (try k_fold))
  k_with "call ref" => (k_here; k_dflt (refine' Ic.use (c_gJd _ _ _ _ _ _ _ _ _ _ _ ?p1 ?p2) ?k1 ?k2 ?k3 ?k4 ?k5 ?kK ?kd ?ku ?_; (case k1 => k_asm); (case k2 => k_asm); (case k3 => k_asm); (case k4 => k_asm); (case p1 => first | with_reducible assumption | exact (by decide : (0 : Int) < 1) | omega); (case p2 => first | with_reducible assumption | with_reducible exact dim_ge1 _ _ | exact Int.le_trans (by omega) (dim_ge _ _)); (case k5 => k_asm); (case kK => first | exact rfl | assumption); (case kd => ktr_room); (case ku => ktr_units); k_whole); intro t9 h9 tk9 F9 N9; (try dsimp only); (try k_sweep); (try k_fold))
  k_with "call ref" => (k_here; k_dflt (refine' Tc.use (c_gOf _ _ _ _ _ _ _) ?k1 ?k2 ?k3 ?k4 ?ko ?k5 ?kK ?kd ?ku ?_; (case k1 => k_asm); (case k2 => k_asm); (case k3 => k_asm); (case k4 => k_asm); (case ko => first | exact List.forall_mem_nil _ | (refine List.forall_mem_cons.mpr ⟨by k_mem, ?_⟩; exact List.forall_mem_nil _)); (case k5 => k_asm); (case kK => first | exact rfl | assumption); (case kd => ktr_room); (case ku => ktr_units); k_whole); intro D9 t19 t29 t39 c9 h9 tk9 n9 F9 N9; (try dsimp only); (try k_sweep); (try k_fold))
  k_with "exec If" => (k_here; k_dflt ((rename Jy _ _ _ _ => jz9); (refine' joinI2 jz9 ?kF ?kN ?kw ?_); (case kF => k_asm); (case kN => k_asm); (case kw => ((try clear jz9); (repeat ((rename Jz _ _ => jy9); clear jy9)); (repeat ((rename Jy _ _ _ _ => jy9); clear jy9)); intro Q9 go9; skip; all_goals k_steps; all_goals (first | (with_reducible refine endJ2 go9 (by assumption) (by assumption) (by intro p9 h9; repeat (first | with_reducible exact h9 | with_reducible refine List.mem_cons_of_mem _ ?_)) ?_ ?_) | (with_reducible (refine' endJ20 go9 (by assumption) (by assumption) (by intro p9 h9; repeat (first | with_reducible exact h9 | with_reducible refine List.mem_cons_of_mem _ ?_)) ?hv ?hw ?_ ?_; (case hv => k_dflt rfl); (case hw => k_dflt rfl)))); all_goals (first | with_reducible exact iY_t (by assumption) | with_reducible exact iY_f (by assumption) | with_reducible exact iB_t (by assumption) | with_reducible exact iB_f (by assumption)))); intro t9 t99 h9 tk9 m9 F9 N9; clear jz9; (try k_sweep)))
  k_with "exec If" => (k_here; k_dflt ((rename Jz _ _ => jz9); (refine' joinI jz9 ?kF ?kN ?kw ?_); (case kF => k_asm); (case kN => k_asm); (case kw => ((try clear jz9); (repeat ((rename Jz _ _ => jy9); clear jy9)); (repeat ((rename Jy _ _ _ _ => jy9); clear jy9)); intro Q9 go9; skip; all_goals k_steps; all_goals (first | (with_reducible refine endJ go9 (by assumption) (by assumption) (by intro p9 h9; repeat (first | with_reducible exact h9 | with_reducible refine List.mem_cons_of_mem _ ?_)) ?_) | (with_reducible (refine' endJ0 go9 (by assumption) (by assumption) (by intro p9 h9; repeat (first | with_reducible exact h9 | with_reducible refine List.mem_cons_of_mem _ ?_)) ?hv ?_; (case hv => k_dflt rfl)))); all_goals (first | with_reducible exact ca_t (by assumption) | with_reducible exact ca_f (by assumption)))); intro t9 h9 tk9 m9 F9 N9; clear jz9; (try k_sweep)))
  intro dp un gd cn cs a ccd cl outer A₀ base h₀ L mm news s Q E B F X N hold T hk hd hu hret
  have : Jy (Str.ofString "year") (iY jd) (Str.ofString "yday") (iB2 jd) := .mk _ _ _ _
  have : Jz (Str.ofString "caitra") (30 + lp (gY jd)) := .mk _ _
  refine wpAny_call ?_
  k_dflt cell_enter
  k_steps
  all_goals (refine endT hret (by k_asm) (by k_asm) (by first | exact List.mem_cons_self | k_mem) (by intro p9 h9; repeat (first | with_reducible exact h9 | with_reducible refine List.mem_cons_of_mem _ ?_)) ?_)
  all_goals (first
    | with_reducible exact iOf_1 (by assumption)
    | with_reducible exact iOf_2 (by assumption) (by assumption)
    | with_reducible exact iOf_3 (by assumption) (by assumption))
theorem c_fromGI (w : World) (loose : List Str) (mean : ExcName → Option Value) (mg mb : Str → Option Value) (y m d : Int) (t1 t2 t3 : Tok) (h1 : 0 < d) (h2 : d ≤ dimG y m) :
    Tc w loose mean mg mb 6 71 [] [.int y t1, .int m t2, .int d t3] (iY (gJd y m d)) (iM (gJd y m d)) (iD (gJd y m d)) := by
  k_with_none
  k_with "eval Call Name" => (k_here; k_dflt (refine Call_ ?_))
  k_with "storeName" => (k_here; k_dflt (refine' storeL ?F ?N ?_ ?a ?b; (case F => k_asm); (case N => k_asm); (case a => rfl); (case b => rfl); k_whole); intro h9 tk9 m9 F9 N9; (try k_sweep))
  k_with "newTuple" => (k_here; k_dflt (refine' tupL ?F ?N ?_ ?z; (case F => k_asm); (case N => k_asm); (case z => kmk_size)); intro D9 h9 tk9 n9 F9 N9; (try k_sweep))
  k_with "ite" => (k_here; k_openite; first | (refine ite_pos (by ((try simp only [beq_iff_eq, bne_iff_ne, List.any_cons, List.any_nil, Bool.or_false, Bool.or_eq_true, decide_eq_true_eq]); first | with_reducible assumption | omega)) ?_; walk_say "DECIDED") | (refine ite_neg (by ((try simp only [beq_iff_eq, bne_iff_ne, List.any_cons, List.any_nil, Bool.or_false, Bool.or_eq_true, decide_eq_true_eq, Bool.not_eq_true, not_or]); first | with_reducible assumption | omega)) ?_; walk_say "DECIDED") | with_reducible refine ite_tt ?_ | with_reducible refine ite_ff ?_ | (with_reducible refine split_ine ?_ ?_ <;> intro _) | (with_reducible refine split_ieq ?_ ?_ <;> intro _) | with_reducible refine split_not ?_ | (refine split_dec ?_ ?_ <;> intro _) | (refine split_bool ?_ ?_ <;> intro _))
  k_with "call ref" => (k_here; k_dflt (refine' Ic.use (c_isleap _ _ _ _ _ _ _) ?k1 ?k2 ?k3 ?k4 ?k5 ?kK ?kd ?ku ?_; (case k1 => k_asm); (case k2 => k_asm); (case k3 => k_asm); (case k4 => k_asm); (case k5 => k_asm); (case kK => first | exact rfl | assumption); (case kd => ktr_room); (case ku => ktr_units); k_whole); intro t9 h9 tk9 F9 N9; (try dsimp only); (try k_sweep); (try k_fold))
  k_with "call ref" => (k_here; k_dflt (refine' Ic.use (c_gJd _ _ _ _ _ _ _ _ _ _ _ ?p1 ?p2) ?k1 ?k2 ?k3 ?k4 ?k5 ?kK ?kd ?ku ?_; (case k1 => k_asm); (case k2 => k_asm); (case k3 => k_asm); (case k4 => k_asm); (case p1 => first | with_reducible assumption | exact (by decide : (0 : Int) < 1) | omega); (case p2 => first | with_reducible assumption | with_reducible exact dim_ge1 _ _ | exact Int.le_trans (by omega) (dim_ge _ _)); (case k5 => k_asm); (case kK => first | exact rfl | assumption); (case kd => ktr_room); (case ku => ktr_units); k_whole); intro t9 h9 tk9 F9 N9; (try dsimp only); (try k_sweep); (try k_fold))
  k_with "call ref" => (k_here; k_dflt (refine' Tc.use (c_gOf _ _ _ _ _ _ _) ?k1 ?k2 ?k3 ?k4 ?ko ?k5 ?kK ?kd ?ku ?_; (case k1 => k_asm); (case k2 => k_asm); (case k3 => k_asm); (case k4 => k_asm); (case ko => first | exact List.forall_mem_nil _ | (refine List.forall_mem_cons.mpr ⟨by k_mem, ?_⟩; exact List.forall_mem_nil _)); (case k5 => k_asm); (case kK => first | exact rfl | assumption); (case kd => ktr_room); (case ku => ktr_units); k_whole); intro D9 t19 t29 t39 c9 h9 tk9 n9 F9 N9; (try dsimp only); (try k_sweep); (try k_fold))
  k_with "exec If" => (k_here; k_dflt ((rename Jy _ _ _ _ => jz9); (refine' joinI2 jz9 ?kF ?kN ?kw ?_); (case kF => k_asm); (case kN => k_asm); (case kw => ((try clear jz9); (repeat ((rename Jz _ _ => jy9); clear jy9)); (repeat ((rename Jy _ _ _ _ => jy9); clear jy9)); intro Q9 go9; skip; all_goals k_steps; all_goals (first | (with_reducible refine endJ2 go9 (by assumption) (by assumption) (by intro p9 h9; repeat (first | with_reducible exact h9 | with_reducible refine List.mem_cons_of_mem _ ?_)) ?_ ?_) | (with_reducible (refine' endJ20 go9 (by assumption) (by assumption) (by intro p9 h9; repeat (first | with_reducible exact h9 | with_reducible refine List.mem_cons_of_mem _ ?_)) ?hv ?hw ?_ ?_; (case hv => k_dflt rfl); (case hw => k_dflt rfl)))); all_goals (first | with_reducible exact iY_t (by assumption) | with_reducible exact iY_f (by assumption) | with_reducible exact iB_t (by assumption) | with_reducible exact iB_f (by assumption)))); intro t9 t99 h9 tk9 m9 F9 N9; clear jz9; (try k_sweep)))
  k_with "exec If" => (k_here; k_dflt ((rename Jz _ _ => jz9); (refine' joinI jz9 ?kF ?kN ?kw ?_); (case kF => k_asm); (case kN => k_asm); (case kw => ((try clear jz9); (repeat ((rename Jz _ _ => jy9); clear jy9)); (repeat ((rename Jy _ _ _ _ => jy9); clear jy9)); intro Q9 go9; skip; all_goals k_steps; all_goals (first | (with_reducible refine endJ go9 (by assumption) (by assumption) (by intro p9 h9; repeat (first | with_reducible exact h9 | with_reducible refine List.mem_cons_of_mem _ ?_)) ?_) | (with_reducible (refine' endJ0 go9 (by assumption) (by assumption) (by intro p9 h9; repeat (first | with_reducible exact h9 | with_reducible refine List.mem_cons_of_mem _ ?_)) ?hv ?_; (case hv => k_dflt rfl)))); all_goals (first | with_reducible exact ca_t (by assumption) | with_reducible exact ca_f (by assumption)))); intro t9 h9 tk9 m9 F9 N9; clear jz9; (try k_sweep)))
  k_with "call ref" => (k_here; k_dflt (refine' Ic.use (c_iJd _ _ _ _ _ _ _ _ _ _ _) ?k1 ?k2 ?k3 ?k4 ?k5 ?kK ?kd ?ku ?_; (case k1 => k_asm); (case k2 => k_asm); (case k3 => k_asm); (case k4 => k_asm); (case k5 => k_asm); (case kK => first | exact rfl | assumption); (case kd => ktr_room); (case ku => ktr_units); k_whole); intro t9 h9 tk9 F9 N9; (try dsimp only); (try k_sweep); (try k_fold))
  k_with "call ref" => (k_here; k_dflt (refine' Tc.use (c_iOf _ _ _ _ _ _ _) ?k1 ?k2 ?k3 ?k4 ?ko ?k5 ?kK ?kd ?ku ?_; (case k1 => k_asm); (case k2 => k_asm); (case k3 => k_asm); (case k4 => k_asm); (case ko => first | exact List.forall_mem_nil _ | (refine List.forall_mem_cons.mpr ⟨by k_mem, ?_⟩; exact List.forall_mem_nil _)); (case k5 => k_asm); (case kK => first | exact rfl | assumption); (case kd => ktr_room); (case ku => ktr_units); k_whole); intro D9 t19 t29 t39 c9 h9 tk9 n9 F9 N9; (try dsimp only); (try k_sweep); (try k_fold))
  intro dp un gd cn cs a ccd cl outer A₀ base h₀ L mm news s Q E B F X N hold T hk hd hu hret
  refine wpAny_call ?_
  k_dflt cell_enter
  k_steps
  all_goals (refine endT hret (by k_asm) (by k_asm) (by first | exact List.mem_cons_self | k_mem) (by intro p9 h9; repeat (first | with_reducible exact h9 | with_reducible refine List.mem_cons_of_mem _ ?_)) ?_)
  all_goals exact ⟨rfl, rfl, rfl⟩
theorem c_toGI (w : World) (loose : List Str) (mean : ExcName → Option Value) (mg mb : Str → Option Value) (y m d : Int) (t1 t2 t3 : Tok) :
    Tc w loose mean mg mb 5 78 [] [.int y t1, .int m t2, .int d t3] (gY (iJd y m d)) (gM (iJd y m d)) (gD (iJd y m d)) := by
  k_with_none
  k_with "eval Call Name" => (k_here; k_dflt (refine Call_ ?_))
  k_with "storeName" => (k_here; k_dflt (refine' storeL ?F ?N ?_ ?a ?b; (case F => k_asm); (case N => k_asm); (case a => rfl); (case b => rfl); k_whole); intro h9 tk9 m9 F9 N9; (try k_sweep))
  k_with "newTuple" => (k_here; k_dflt (refine' tupL ?F ?N ?_ ?z; (case F => k_asm); (case N => k_asm); (case z => kmk_size)); intro D9 h9 tk9 n9 F9 N9; (try k_sweep))
  k_with "ite" => (k_here; k_openite; first | (refine ite_pos (by ((try simp only [beq_iff_eq, bne_iff_ne, List.any_cons, List.any_nil, Bool.or_false, Bool.or_eq_true, decide_eq_true_eq]); first | with_reducible assumption | omega)) ?_; walk_say "DECIDED") | (refine ite_neg (by ((try simp only [beq_iff_eq, bne_iff_ne, List.any_cons, List.any_nil, Bool.or_false, Bool.or_eq_true, decide_eq_true_eq, Bool.not_eq_true, not_or]); first | with_reducible assumption | omega)) ?_; walk_say "DECIDED") | with_reducible refine ite_tt ?_ | with_reducible refine ite_ff ?_ | (with_reducible refine split_ine ?_ ?_ <;> intro _) | (with_reducible refine split_ieq ?_ ?_ <;> intro _) | with_reducible refine split_not ?_ | (refine split_dec ?_ ?_ <;> intro _) | (refine split_bool ?_ ?_ <;> intro _))
  k_with "call ref" => (k_here; k_dflt (refine' Ic.use (c_isleap _ _ _ _ _ _ _) ?k1 ?k2 ?k3 ?k4 ?k5 ?kK ?kd ?ku ?_; (case k1 => k_asm); (case k2 => k_asm); (case k3 => k_asm); (case k4 => k_asm); (case k5 => k_asm); (case kK => first | exact rfl | assumption); (case kd => ktr_room); (case ku => ktr_units); k_whole); intro t9 h9 tk9 F9 N9; (try dsimp only); (try k_sweep); (try k_fold))
  k_with "call ref" => (k_here; k_dflt (refine' Ic.use (c_gJd _ _ _ _ _ _ _ _ _ _ _ ?p1 ?p2) ?k1 ?k2 ?k3 ?k4 ?k5 ?kK ?kd ?ku ?_; (case k1 => k_asm); (case k2 => k_asm); (case k3 => k_asm); (case k4 => k_asm); (case p1 => first | with_reducible assumption | exact (by decide : (0 : Int) < 1) | omega); (case p2 => first | with_reducible assumption | with_reducible exact dim_ge1 _ _ | exact Int.le_trans (by omega) (dim_ge _ _)); (case k5 => k_asm); (case kK => first | exact rfl | assumption); (case kd => ktr_room); (case ku => ktr_units); k_whole); intro t9 h9 tk9 F9 N9; (try dsimp only); (try k_sweep); (try k_fold))
  k_with "call ref" => (k_here; k_dflt (refine' Tc.use (c_gOf _ _ _ _ _ _ _) ?k1 ?k2 ?k3 ?k4 ?ko ?k5 ?kK ?kd ?ku ?_; (case k1 => k_asm); (case k2 => k_asm); (case k3 => k_asm); (case k4 => k_asm); (case ko => first | exact List.forall_mem_nil _ | (refine List.forall_mem_cons.mpr ⟨by k_mem, ?_⟩; exact List.forall_mem_nil _)); (case k5 => k_asm); (case kK => first | exact rfl | assumption); (case kd => ktr_room); (case ku => ktr_units); k_whole); intro D9 t19 t29 t39 c9 h9 tk9 n9 F9 N9; (try dsimp only); (try k_sweep); (try k_fold))
  k_with "exec If" => (k_here; k_dflt ((rename Jy _ _ _ _ => jz9); (refine' joinI2 jz9 ?kF ?kN ?kw ?_); (case kF => k_asm); (case kN => k_asm); (case kw => ((try clear jz9); (repeat ((rename Jz _ _ => jy9); clear jy9)); (repeat ((rename Jy _ _ _ _ => jy9); clear jy9)); intro Q9 go9; skip; all_goals k_steps; all_goals (first | (with_reducible refine endJ2 go9 (by assumption) (by assumption) (by intro p9 h9; repeat (first | with_reducible exact h9 | with_reducible refine List.mem_cons_of_mem _ ?_)) ?_ ?_) | (with_reducible (refine' endJ20 go9 (by assumption) (by assumption) (by intro p9 h9; repeat (first | with_reducible exact h9 | with_reducible refine List.mem_cons_of_mem _ ?_)) ?hv ?hw ?_ ?_; (case hv => k_dflt rfl); (case hw => k_dflt rfl)))); all_goals (first | with_reducible exact iY_t (by assumption) | with_reducible exact iY_f (by assumption) | with_reducible exact iB_t (by assumption) | with_reducible exact iB_f (by assumption)))); intro t9 t99 h9 tk9 m9 F9 N9; clear jz9; (try k_sweep)))
  k_with "exec If" => (k_here; k_dflt ((rename Jz _ _ => jz9); (refine' joinI jz9 ?kF ?kN ?kw ?_); (case kF => k_asm); (case kN => k_asm); (case kw => ((try clear jz9); (repeat ((rename Jz _ _ => jy9); clear jy9)); (repeat ((rename Jy _ _ _ _ => jy9); clear jy9)); intro Q9 go9; skip; all_goals k_steps; all_goals (first | (with_reducible refine endJ go9 (by assumption) (by assumption) (by intro p9 h9; repeat (first | with_reducible exact h9 | with_reducible refine List.mem_cons_of_mem _ ?_)) ?_) | (with_reducible (refine' endJ0 go9 (by assumption) (by assumption) (by intro p9 h9; repeat (first | with_reducible exact h9 | with_reducible refine List.mem_cons_of_mem _ ?_)) ?hv ?_; (case hv => k_dflt rfl)))); all_goals (first | with_reducible exact ca_t (by assumption) | with_reducible exact ca_f (by assumption)))); intro t9 h9 tk9 m9 F9 N9; clear jz9; (try k_sweep)))
  k_with "call ref" => (k_here; k_dflt (refine' Ic.use (c_iJd _ _ _ _ _ _ _ _ _ _ _) ?k1 ?k2 ?k3 ?k4 ?k5 ?kK ?kd ?ku ?_; (case k1 => k_asm); (case k2 => k_asm); (case k3 => k_asm); (case k4 => k_asm); (case k5 => k_asm); (case kK => first | exact rfl | assumption); (case kd => ktr_room); (case ku => ktr_units); k_whole); intro t9 h9 tk9 F9 N9; (try dsimp only); (try k_sweep); (try k_fold))
  k_with "call ref" => (k_here; k_dflt (refine' Tc.use (c_iOf _ _ _ _ _ _ _) ?k1 ?k2 ?k3 ?k4 ?ko ?k5 ?kK ?kd ?ku ?_; (case k1 => k_asm); (case k2 => k_asm); (case k3 => k_asm); (case k4 => k_asm); (case ko => first | exact List.forall_mem_nil _ | (refine List.forall_mem_cons.mpr ⟨by k_mem, ?_⟩; exact List.forall_mem_nil _)); (case k5 => k_asm); (case kK => first | exact rfl | assumption); (case kd => ktr_room); (case ku => ktr_units); k_whole); intro D9 t19 t29 t39 c9 h9 tk9 n9 F9 N9; (try dsimp only); (try k_sweep); (try k_fold))
  intro dp un gd cn cs a ccd cl outer A₀ base h₀ L mm news s Q E B F X N hold T hk hd hu hret
  refine wpAny_call ?_
  k_dflt cell_enter
  k_steps
  all_goals (refine endT hret (by k_asm) (by k_asm) (by first | exact List.mem_cons_self | k_mem) (by intro p9 h9; repeat (first | with_reducible exact h9 | with_reducible refine List.mem_cons_of_mem _ ?_)) ?_)
  all_goals exact ⟨rfl, rfl, rfl⟩
end
end Mine
end
section
namespace Mine
open PySem.Spec PySem.Calls
set_option maxHeartbeats 1000000
section
theorem cJd_end {y m d : Int} : d + (m - 1) * 30 + (y - 1) * 365 + y.fdiv 4 + 1825030 - 1 = cJd y m d := by
  rw [fd (by decide)]
  unfold cJd
  omega
theorem c_cJd (w : World) (loose : List Str) (mean : ExcName → Option Value) (mg mb : Str → Option Value) (y m d : Int) (t1 t2 t3 : Tok) :
    Ic w loose mean mg mb 1 85 [.int y t1, .int m t2, .int d t3] (fun t => .int (cJd y m d) t) := by
  k_with_none
  k_with "eval Call Name" => (k_here; k_dflt (refine Call_ ?_))
  k_with "storeName" => (k_here; k_dflt (refine' storeL ?F ?N ?_ ?a ?b; (case F => k_asm); (case N => k_asm); (case a => rfl); (case b => rfl); k_whole); intro h9 tk9 m9 F9 N9; (try k_sweep))
  k_with "newTuple" => (k_here; k_dflt (refine' tupL ?F ?N ?_ ?z; (case F => k_asm); (case N => k_asm); (case z => kmk_size)); intro D9 h9 tk9 n9 F9 N9; (try k_sweep))
  k_with "ite" => (k_here; k_openite; first | (refine ite_pos (by ((try simp only [beq_iff_eq, bne_iff_ne, List.any_cons, List.any_nil, Bool.or_false, Bool.or_eq_true, decide_eq_true_eq]); first | with_reducible assumption | omega)) ?_; walk_say "DECIDED") | (refine ite_neg (by ((try simp only [beq_iff_eq, bne_iff_ne, List.any_cons, List.any_nil, Bool.or_false, Bool.or_eq_true, decide_eq_true_eq, Bool.not_eq_true, not_or]); first | with_reducible assumption | omega)) ?_; walk_say "DECIDED") | with_reducible refine ite_tt ?_ | with_reducible refine ite_ff ?_ | (with_reducible refine split_ine ?_ ?_ <;> intro _) | (with_reducible refine split_ieq ?_ ?_ <;> intro _) | with_reducible refine split_not ?_ | (refine split_dec ?_ ?_ <;> intro _) | (refine split_bool ?_ ?_ <;> intro _))
  k_with "call ref" => (k_here; k_dflt (refine' Ic.use (c_gJd _ _ _ _ _ _ _ _ _ _ _ ?p1 ?p2) ?k1 ?k2 ?k3 ?k4 ?k5 ?kK ?kd ?ku ?_; (case k1 => k_asm); (case k2 => k_asm); (case k3 => k_asm); (case k4 => k_asm); (case p1 => first | with_reducible assumption | exact (by decide : (0 : Int) < 1) | omega); (case p2 => first | with_reducible assumption | with_reducible exact dim_ge1 _ _ | exact Int.le_trans (by omega) (dim_ge _ _)); (case k5 => k_asm); (case kK => first | exact rfl | assumption); (case kd => ktr_room); (case ku => ktr_units); k_whole); intro t9 h9 tk9 F9 N9; (try dsimp only); (try k_sweep); (try k_fold))
  k_with "call ref" => (k_here; k_dflt (refine' Tc.use (c_gOf _ _ _ _ _ _ _) ?k1 ?k2 ?k3 ?k4 ?ko ?k5 ?kK ?kd ?ku ?_; (case k1 => k_asm); (case k2 => k_asm); (case k3 => k_asm); (case k4 => k_asm); (case ko => first | exact List.forall_mem_nil _ | (refine List.forall_mem_cons.mpr ⟨by k_mem, ?_⟩; exact List.forall_mem_nil _)); (case k5 => k_asm); (case kK => first | exact rfl | assumption); (case kd => ktr_room); (case ku => ktr_units); k_whole); intro D9 t19 t29 t39 c9 h9 tk9 n9 F9 N9; (try dsimp only); (try k_sweep); (try k_fold))
  intro dp un gd cn cs a ccd cl outer A₀ base h₀ L mm news s Q E B F X N T hk hd hu hret
  refine wpAny_call ?_
  k_dflt cell_enter
  k_steps
  all_goals exact endI hret (by k_asm) (by k_asm) (fun _ h => h) cJd_end
theorem cOf_end {jd : Int} : (4 * (jd - 1825030) + 1463).fdiv 1461 = cY jd ∧ (jd - cJd ((4 * (jd - 1825030) + 1463).fdiv 1461) 1 1).fdiv 30 + 1 = cM jd ∧ jd - cJd ((4 * (jd - 1825030) + 1463).fdiv 1461) 1 1 - ((jd - cJd ((4 * (jd - 1825030) + 1463).fdiv 1461) 1 1).fdiv 30 + 1 - 1) * 30 + 1 = cD jd := by
  have e1 : (4 * (jd - 1825030) + 1463).fdiv 1461 = cY jd := fd (by decide)
  have e2 : (jd - cJd (cY jd) 1 1).fdiv 30 + 1 = cM jd := by rw [fd (by decide)]; rfl
  rw [e1, e2]
  exact ⟨rfl, rfl, rfl⟩
theorem c_cOf (w : World) (loose : List Str) (mean : ExcName → Option Value) (mg mb : Str → Option Value) (jd : Int) (t1 : Tok) :
    Tc w loose mean mg mb 2 92 [] [.int jd t1] (cY jd) (cM jd) (cD jd) := by
  k_with_none
  k_with "eval Call Name" => (k_here; k_dflt (refine Call_ ?_))
  k_with "storeName" => (k_here; k_dflt (refine' storeL ?F ?N ?_ ?a ?b; (case F => k_asm); (case N => k_asm); (case a => rfl); (case b => rfl); k_whole); intro h9 tk9 m9 F9 N9; (try k_sweep))
  k_with "newTuple" => (k_here; k_dflt (refine' tupL ?F ?N ?_ ?z; (case F => k_asm); (case N => k_asm); (case z => kmk_size)); intro D9 h9 tk9 n9 F9 N9; (try k_sweep))
  k_with "ite" => (k_here; k_openite; first | (refine ite_pos (by ((try simp only [beq_iff_eq, bne_iff_ne, List.any_cons, List.any_nil, Bool.or_false, Bool.or_eq_true, decide_eq_true_eq]); first | with_reducible assumption | omega)) ?_; walk_say "DECIDED") | (refine ite_neg (by ((try simp only [beq_iff_eq, bne_iff_ne, List.any_cons, List.any_nil, Bool.or_false, Bool.or_eq_true, decide_eq_true_eq, Bool.not_eq_true, not_or]); first | with_reducible assumption | omega)) ?_; walk_say "DECIDED") | with_reducible refine ite_tt ?_ | with_reducible refine ite_ff ?_ | (with_reducible refine split_ine ?_ ?_ <;> intro _) | (with_reducible refine split_ieq ?_ ?_ <;> intro _) | with_reducible refine split_not ?_ | (refine split_dec ?_ ?_ <;> intro _) | (refine split_bool ?_ ?_ <;> intro _))
  k_with "call ref" => (k_here; k_dflt (refine' Ic.use (c_gJd _ _ _ _ _ _ _ _ _ _ _ ?p1 ?p2) ?k1 ?k2 ?k3 ?k4 ?k5 ?kK ?kd ?ku ?_; (case k1 => k_asm); (case k2 => k_asm); (case k3 => k_asm); (case k4 => k_asm); (case p1 => first | with_reducible assumption | exact (by decide : (0 : Int) < 1) | omega); (case p2 => first | with_reducible assumption | with_reducible exact dim_ge1 _ _ | exact Int.le_trans (by omega) (dim_ge _ _)); (case k5 => k_asm); (case kK => first | exact rfl | assumption); (case kd => ktr_room); (case ku => ktr_units); k_whole); intro t9 h9 tk9 F9 N9; (try dsimp only); (try k_sweep); (try k_fold))
  k_with "call ref" => (k_here; k_dflt (refine' Tc.use (c_gOf _ _ _ _ _ _ _) ?k1 ?k2 ?k3 ?k4 ?ko ?k5 ?kK ?kd ?ku ?_; (case k1 => k_asm); (case k2 => k_asm); (case k3 => k_asm); (case k4 => k_asm); (case ko => first | exact List.forall_mem_nil _ | (refine List.forall_mem_cons.mpr ⟨by k_mem, ?_⟩; exact List.forall_mem_nil _)); (case k5 => k_asm); (case kK => first | exact rfl | assumption); (case kd => ktr_room); (case ku => ktr_units); k_whole); intro D9 t19 t29 t39 c9 h9 tk9 n9 F9 N9; (try dsimp only); (try k_sweep); (try k_fold))
  k_with "call ref" => (k_here; k_dflt (refine' Ic.use (c_cJd _ _ _ _ _ _ _ _ _ _ _) ?k1 ?k2 ?k3 ?k4 ?k5 ?kK ?kd ?ku ?_; (case k1 => k_asm); (case k2 => k_asm); (case k3 => k_asm); (case k4 => k_asm); (case k5 => k_asm); (case kK => first | exact rfl | assumption); (case kd => ktr_room); (case ku => ktr_units); k_whole); intro t9 h9 tk9 F9 N9; (try dsimp only); (try k_sweep); (try k_fold))
  intro dp un gd cn cs a ccd cl outer A₀ base h₀ L mm news s Q E B F X N hold T hk hd hu hret
  refine wpAny_call ?_
  k_dflt cell_enter
  k_steps
  all_goals (refine endT hret (by k_asm) (by k_asm) (by first | exact List.mem_cons_self | k_mem) (by intro p9 h9; repeat (first | with_reducible exact h9 | with_reducible refine List.mem_cons_of_mem _ ?_)) ?_)
  all_goals exact cOf_end
theorem c_toGC (w : World) (loose : List Str) (mean : ExcName → Option Value) (mg mb : Str → Option Value) (y m d : Int) (t1 t2 t3 : Tok) :
    Tc w loose mean mg mb 5 99 [] [.int y t1, .int m t2, .int d t3] (gY (cJd y m d)) (gM (cJd y m d)) (gD (cJd y m d)) := by
  k_with_none
  k_with "eval Call Name" => (k_here; k_dflt (refine Call_ ?_))
  k_with "storeName" => (k_here; k_dflt (refine' storeL ?F ?N ?_ ?a ?b; (case F => k_asm); (case N => k_asm); (case a => rfl); (case b => rfl); k_whole); intro h9 tk9 m9 F9 N9; (try k_sweep))
  k_with "newTuple" => (k_here; k_dflt (refine' tupL ?F ?N ?_ ?z; (case F => k_asm); (case N => k_asm); (case z => kmk_size)); intro D9 h9 tk9 n9 F9 N9; (try k_sweep))
  k_with "ite" => (k_here; k_openite; first | (refine ite_pos (by ((try simp only [beq_iff_eq, bne_iff_ne, List.any_cons, List.any_nil, Bool.or_false, Bool.or_eq_true, decide_eq_true_eq]); first | with_reducible assumption | omega)) ?_; walk_say "DECIDED") | (refine ite_neg (by ((try simp only [beq_iff_eq, bne_iff_ne, List.any_cons, List.any_nil, Bool.or_false, Bool.or_eq_true, decide_eq_true_eq, Bool.not_eq_true, not_or]); first | with_reducible assumption | omega)) ?_; walk_say "DECIDED") | with_reducible refine ite_tt ?_ | with_reducible refine ite_ff ?_ | (with_reducible refine split_ine ?_ ?_ <;> intro _) | (with_reducible refine split_ieq ?_ ?_ <;> intro _) | with_reducible refine split_not ?_ | (refine split_dec ?_ ?_ <;> intro _) | (refine split_bool ?_ ?_ <;> intro _))
  k_with "call ref" => (k_here; k_dflt (refine' Ic.use (c_gJd _ _ _ _ _ _ _ _ _ _ _ ?p1 ?p2) ?k1 ?k2 ?k3 ?k4 ?k5 ?kK ?kd ?ku ?_; (case k1 => k_asm); (case k2 => k_asm); (case k3 => k_asm); (case k4 => k_asm); (case p1 => first | with_reducible assumption | exact (by decide : (0 : Int) < 1) | omega); (case p2 => first | with_reducible assumption | with_reducible exact dim_ge1 _ _ | exact Int.le_trans (by omega) (dim_ge _ _)); (case k5 => k_asm); (case kK => first | exact rfl | assumption); (case kd => ktr_room); (case ku => ktr_units); k_whole); intro t9 h9 tk9 F9 N9; (try dsimp only); (try k_sweep); (try k_fold))
  k_with "call ref" => (k_here; k_dflt (refine' Tc.use (c_gOf _ _ _ _ _ _ _) ?k1 ?k2 ?k3 ?k4 ?ko ?k5 ?kK ?kd ?ku ?_; (case k1 => k_asm); (case k2 => k_asm); (case k3 => k_asm); (case k4 => k_asm); (case ko => first | exact List.forall_mem_nil _ | (refine List.forall_mem_cons.mpr ⟨by k_mem, ?_⟩; exact List.forall_mem_nil _)); (case k5 => k_asm); (case kK => first | exact rfl | assumption); (case kd => ktr_room); (case ku => ktr_units); k_whole); intro D9 t19 t29 t39 c9 h9 tk9 n9 F9 N9; (try dsimp only); (try k_sweep); (try k_fold))
  k_with "call ref" => (k_here; k_dflt (refine' Ic.use (c_cJd _ _ _ _ _ _ _ _ _ _ _) ?k1 ?k2 ?k3 ?k4 ?k5 ?kK ?kd ?ku ?_; (case k1 => k_asm); (case k2 => k_asm); (case k3 => k_asm); (case k4 => k_asm); (case k5 => k_asm); (case kK => first | exact rfl | assumption); (case kd => ktr_room); (case ku => ktr_units); k_whole); intro t9 h9 tk9 F9 N9; (try dsimp only); (try k_sweep); (try k_fold))
  k_with "call ref" => (k_here; k_dflt (refine' Tc.use (c_cOf _ _ _ _ _ _ _) ?k1 ?k2 ?k3 ?k4 ?ko ?k5 ?kK ?kd ?ku ?_; (case k1 => k_asm); (case k2 => k_asm); (case k3 => k_asm); (case k4 => k_asm); (case ko => first | exact List.forall_mem_nil _ | (refine List.forall_mem_cons.mpr ⟨by k_mem, ?_⟩; exact List.forall_mem_nil _)); (case k5 => k_asm); (case kK => first | exact rfl | assumption); (case kd => ktr_room); (case ku => ktr_units); k_whole); intro D9 t19 t29 t39 c9 h9 tk9 n9 F9 N9; (try dsimp only); (try k_sweep); (try k_fold))
  intro dp un gd cn cs a ccd cl outer A₀ base h₀ L mm news s Q E B F X N hold T hk hd hu hret
  refine wpAny_call ?_
  k_dflt cell_enter
  k_steps
  all_goals (refine endT hret (by k_asm) (by k_asm) (by first | exact List.mem_cons_self | k_mem) (by intro p9 h9; repeat (first | with_reducible exact h9 | with_reducible refine List.mem_cons_of_mem _ ?_)) ?_)
  all_goals exact ⟨rfl, rfl, rfl⟩
theorem c_fromGC (w : World) (loose : List Str) (mean : ExcName → Option Value) (mg mb : Str → Option Value) (y m d : Int) (t1 t2 t3 : Tok) (h1 : 0 < d) (h2 : d ≤ dimG y m) :
    Tc w loose mean mg mb 4 106 [] [.int y t1, .int m t2, .int d t3] (cY (gJd y m d)) (cM (gJd y m d)) (cD (gJd y m d)) := by
  k_with_none
  k_with "eval Call Name" => (k_here; k_dflt (refine Call_ ?_))
  k_with "storeName" => (k_here; k_dflt (refine' storeL ?F ?N ?_ ?a ?b; (case F => k_asm); (case N => k_asm); (case a => rfl); (case b => rfl); k_whole); intro h9 tk9 m9 F9 N9; (try k_sweep))
  k_with "newTuple" => (k_here; k_dflt (refine' tupL ?F ?N ?_ ?z; (case F => k_asm); (case N => k_asm); (case z => kmk_size)); intro D9 h9 tk9 n9 F9 N9; (try k_sweep))
  k_with "ite" => (k_here; k_openite; first | (refine ite_pos (by ((try simp only [beq_iff_eq, bne_iff_ne, List.any_cons, List.any_nil, Bool.or_false, Bool.or_eq_true, decide_eq_true_eq]); first | with_reducible assumption | omega)) ?_; walk_say "DECIDED") | (refine ite_neg (by ((try simp only [beq_iff_eq, bne_iff_ne, List.any_cons, List.any_nil, Bool.or_false, Bool.or_eq_true, decide_eq_true_eq, Bool.not_eq_true, not_or]); first | with_reducible assumption | omega)) ?_; walk_say "DECIDED") | with_reducible refine ite_tt ?_ | with_reducible refine ite_ff ?_ | (with_reducible refine split_ine ?_ ?_ <;> intro _) | (with_reducible refine split_ieq ?_ ?_ <;> intro _) | with_reducible refine split_not ?_ | (refine split_dec ?_ ?_ <;> intro _) | (refine split_bool ?_ ?_ <;> intro _))
  k_with "call ref" => (k_here; k_dflt (refine' Ic.use (c_gJd _ _ _ _ _ _ _ _ _ _ _ ?p1 ?p2) ?k1 ?k2 ?k3 ?k4 ?k5 ?kK ?kd ?ku ?_; (case k1 => k_asm); (case k2 => k_asm); (case k3 => k_asm); (case k4 => k_asm); (case p1 => first | with_reducible assumption | exact (by decide : (0 : Int) < 1) | omega); (case p2 => first | with_reducible assumption | with_reducible exact dim_ge1 _ _ | exact Int.le_trans (by omega) (dim_ge _ _)); (case k5 => k_asm); (case kK => first | exact rfl | assumption); (case kd => ktr_room); (case ku => ktr_units); k_whole); intro t9 h9 tk9 F9 N9; (try dsimp only); (try k_sweep); (try k_fold))
  k_with "call ref" => (k_here; k_dflt (refine' Tc.use (c_gOf _ _ _ _ _ _ _) ?k1 ?k2 ?k3 ?k4 ?ko ?k5 ?kK ?kd ?ku ?_; (case k1 => k_asm); (case k2 => k_asm); (case k3 => k_asm); (case k4 => k_asm); (case ko => first | exact List.forall_mem_nil _ | (refine List.forall_mem_cons.mpr ⟨by k_mem, ?_⟩; exact List.forall_mem_nil _)); (case k5 => k_asm); (case kK => first | exact rfl | assumption); (case kd => ktr_room); (case ku => ktr_units); k_whole); intro D9 t19 t29 t39 c9 h9 tk9 n9 F9 N9; (try dsimp only); (try k_sweep); (try k_fold))
  k_with "call ref" => (k_here; k_dflt (refine' Ic.use (c_cJd _ _ _ _ _ _ _ _ _ _ _) ?k1 ?k2 ?k3 ?k4 ?k5 ?kK ?kd ?ku ?_; (case k1 => k_asm); (case k2 => k_asm); (case k3 => k_asm); (case k4 => k_asm); (case k5 => k_asm); (case kK => first | exact rfl | assumption); (case kd => ktr_room); (case ku => ktr_units); k_whole); intro t9 h9 tk9 F9 N9; (try dsimp only); (try k_sweep); (try k_fold))
  k_with "call ref" => (k_here; k_dflt (refine' Tc.use (c_cOf _ _ _ _ _ _ _) ?k1 ?k2 ?k3 ?k4 ?ko ?k5 ?kK ?kd ?ku ?_; (case k1 => k_asm); (case k2 => k_asm); (case k3 => k_asm); (case k4 => k_asm); (case ko => first | exact List.forall_mem_nil _ | (refine List.forall_mem_cons.mpr ⟨by k_mem, ?_⟩; exact List.forall_mem_nil _)); (case k5 => k_asm); (case kK => first | exact rfl | assumption); (case kd => ktr_room); (case ku => ktr_units); k_whole); intro D9 t19 t29 t39 c9 h9 tk9 n9 F9 N9; (try dsimp only); (try k_sweep); (try k_fold))
  intro dp un gd cn cs a ccd cl outer A₀ base h₀ L mm news s Q E B F X N hold T hk hd hu hret
  refine wpAny_call ?_
  k_dflt cell_enter
  k_steps
  all_goals (refine endT hret (by k_asm) (by k_asm) (by first | exact List.mem_cons_self | k_mem) (by intro p9 h9; repeat (first | with_reducible exact h9 | with_reducible refine List.mem_cons_of_mem _ ?_)) ?_)
  all_goals exact ⟨rfl, rfl, rfl⟩
end
end Mine
end
section
namespace Mine
open PySem.Spec PySem.Calls
set_option maxHeartbeats 1000000
section
theorem c_lj (w : World) (loose : List Str) (mean : ExcName → Option Value) (mg mb : Str → Option Value) (y : Int) (t : Tok) :
    Ic w loose mean mg mb 1 114 [.int y t] (fun _ => .bool (lj y)) := by
  k_with_none
  k_with "eval Call Name" => (k_here; k_dflt (refine Call_ ?_))
  k_with "storeName" => (k_here; k_dflt (refine' storeL ?F ?N ?_ ?a ?b; (case F => k_asm); (case N => k_asm); (case a => rfl); (case b => rfl); k_whole); intro h9 tk9 m9 F9 N9; (try k_sweep))
  k_with "newTuple" => (k_here; k_dflt (refine' tupL ?F ?N ?_ ?z; (case F => k_asm); (case N => k_asm); (case z => kmk_size)); intro D9 h9 tk9 n9 F9 N9; (try k_sweep))
  k_with "ite" => (k_here; k_openite; first | (refine ite_pos (by ((try simp only [beq_iff_eq, bne_iff_ne, List.any_cons, List.any_nil, Bool.or_false, Bool.or_eq_true, decide_eq_true_eq]); first | with_reducible assumption | omega)) ?_; walk_say "DECIDED") | (refine ite_neg (by ((try simp only [beq_iff_eq, bne_iff_ne, List.any_cons, List.any_nil, Bool.or_false, Bool.or_eq_true, decide_eq_true_eq, Bool.not_eq_true, not_or]); first | with_reducible assumption | omega)) ?_; walk_say "DECIDED") | with_reducible refine ite_tt ?_ | with_reducible refine ite_ff ?_ | (with_reducible refine split_ine ?_ ?_ <;> intro _) | (with_reducible refine split_ieq ?_ ?_ <;> intro _) | with_reducible refine split_not ?_ | (refine split_dec ?_ ?_ <;> intro _) | (refine split_bool ?_ ?_ <;> intro _))
  k_with "compareOp In int ref" => (k_here; (with_unfolding_all refine' in_tuple_ints ?k1 ?k2 ?_; (case k1 => kun_tup); (case k2 => (repeat constructor)); k_whole))
  intro dp un gd cn cs a ccd cl outer A₀ base h₀ L mm news s Q E B F X N T hk hd hu hret
  refine wpAny_call ?_
  k_dflt cell_enter
  k_steps
  all_goals (refine endB hret (by k_asm) (by k_asm) (fun _ h => h) ?_)
  all_goals (rw [fm (by decide)]; rfl)
theorem dimJ_a {y m : Int} (h : m = 2) (hl : lj y = true) : 29 = dimJ y m := by unfold dimJ; rw [if_pos h, if_pos hl]
theorem dimJ_b {y m : Int} (h : m = 2) (hl : lj y = false) : 28 = dimJ y m := by unfold dimJ; rw [if_pos h, if_neg (by rw [hl]; decide)]
theorem dimJ_c {y m : Int} (h : m ≠ 2) (hl : m = 4 ∨ m = 6 ∨ m = 9 ∨ m = 11) : 30 = dimJ y m := by unfold dimJ; rw [if_neg h, if_pos hl]
theorem dimJ_d {y m : Int} (h : m ≠ 2) (h1 : m ≠ 4) (h2 : m ≠ 6) (h3 : m ≠ 9) (h4 : m ≠ 11) : 31 = dimJ y m := by unfold dimJ; rw [if_neg h, if_neg (fun q => q.elim h1 fun q => q.elim h2 fun q => q.elim h3 h4)]
theorem c_mlJ (w : World) (loose : List Str) (mean : ExcName → Option Value) (mg mb : Str → Option Value) (y m : Int) (t1 t2 : Tok) :
    Ic w loose mean mg mb 2 121 [.int y t1, .int m t2] (fun t => .int (dimJ y m) t) := by
  k_with_none
  k_with "eval Call Name" => (k_here; k_dflt (refine Call_ ?_))
  k_with "storeName" => (k_here; k_dflt (refine' storeL ?F ?N ?_ ?a ?b; (case F => k_asm); (case N => k_asm); (case a => rfl); (case b => rfl); k_whole); intro h9 tk9 m9 F9 N9; (try k_sweep))
  k_with "newTuple" => (k_here; k_dflt (refine' tupL ?F ?N ?_ ?z; (case F => k_asm); (case N => k_asm); (case z => kmk_size)); intro D9 h9 tk9 n9 F9 N9; (try k_sweep))
  k_with "ite" => (k_here; k_openite; first | (refine ite_pos (by ((try simp only [beq_iff_eq, bne_iff_ne, List.any_cons, List.any_nil, Bool.or_false, Bool.or_eq_true, decide_eq_true_eq]); first | with_reducible assumption | omega)) ?_; walk_say "DECIDED") | (refine ite_neg (by ((try simp only [beq_iff_eq, bne_iff_ne, List.any_cons, List.any_nil, Bool.or_false, Bool.or_eq_true, decide_eq_true_eq, Bool.not_eq_true, not_or]); first | with_reducible assumption | omega)) ?_; walk_say "DECIDED") | with_reducible refine ite_tt ?_ | with_reducible refine ite_ff ?_ | (with_reducible refine split_ine ?_ ?_ <;> intro _) | (with_reducible refine split_ieq ?_ ?_ <;> intro _) | with_reducible refine split_not ?_ | (refine split_dec ?_ ?_ <;> intro _) | (refine split_bool ?_ ?_ <;> intro _))
  k_with "compareOp In int ref" => (k_here; (with_unfolding_all refine' in_tuple_ints ?k1 ?k2 ?_; (case k1 => kun_tup); (case k2 => (repeat constructor)); k_whole))
  k_with "call ref" => (k_here; k_dflt (refine' Ic.use (c_lj _ _ _ _ _ _ _) ?k1 ?k2 ?k3 ?k4 ?k5 ?kK ?kd ?ku ?_; (case k1 => k_asm); (case k2 => k_asm); (case k3 => k_asm); (case k4 => k_asm); (case k5 => k_asm); (case kK => first | exact rfl | assumption); (case kd => ktr_room); (case ku => ktr_units); k_whole); intro t9 h9 tk9 F9 N9; (try dsimp only); (try k_sweep); (try k_fold))
  k_with "exec If" => (k_here; k_dflt ((rename Jz _ _ => jz9); (refine' joinI jz9 ?kF ?kN ?kw ?_); (case kF => k_asm); (case kN => k_asm); (case kw => ((try clear jz9); (repeat ((rename Jz _ _ => jy9); clear jy9)); (repeat ((rename Jy _ _ _ _ => jy9); clear jy9)); intro Q9 go9; ((rename (_ ∨ _) => hw9); rcases hw9 with g1 | ⟨g1, g2⟩ | ⟨g1, g3, g4, g5, g6⟩); all_goals k_steps; all_goals (first | (with_reducible refine endJ go9 (by assumption) (by assumption) (by intro p9 h9; repeat (first | with_reducible exact h9 | with_reducible refine List.mem_cons_of_mem _ ?_)) ?_) | (with_reducible (refine' endJ0 go9 (by assumption) (by assumption) (by intro p9 h9; repeat (first | with_reducible exact h9 | with_reducible refine List.mem_cons_of_mem _ ?_)) ?hv ?_; (case hv => k_dflt rfl)))); all_goals (first | with_reducible exact dimJ_a (by assumption) (by assumption) | with_reducible exact dimJ_b (by assumption) (by assumption) | with_reducible exact dimJ_c (by assumption) (by assumption) | with_reducible exact dimJ_d (by assumption) (by assumption) (by assumption) (by assumption) (by assumption)))); intro t9 h9 tk9 m9 F9 N9; clear jz9; (try k_sweep)))
  intro dp un gd cn cs a ccd cl outer A₀ base h₀ L mm news s Q E B F X N T hk hd hu hret
  have hw := m_ways m
  have : Jz (Str.ofString "daysinmonth") (dimJ y m) := .mk _ _
  refine wpAny_call ?_
  k_dflt cell_enter
  k_steps
  all_goals exact endI hret (by k_asm) (by k_asm) (fun _ h => h) rfl
theorem c_legalJ (w : World) (loose : List Str) (mean : ExcName → Option Value) (mg mb : Str → Option Value) (y m d : Int) (t1 t2 t3 : Tok) (h1 : 0 < d) (h2 : d ≤ dimJ y m) :
    Ic w loose mean mg mb 3 128 [.int y t1, .int m t2, .int d t3] (fun _ => .bool true) := by
  k_with_none
  k_with "eval Call Name" => (k_here; k_dflt (refine Call_ ?_))
  k_with "storeName" => (k_here; k_dflt (refine' storeL ?F ?N ?_ ?a ?b; (case F => k_asm); (case N => k_asm); (case a => rfl); (case b => rfl); k_whole); intro h9 tk9 m9 F9 N9; (try k_sweep))
  k_with "newTuple" => (k_here; k_dflt (refine' tupL ?F ?N ?_ ?z; (case F => k_asm); (case N => k_asm); (case z => kmk_size)); intro D9 h9 tk9 n9 F9 N9; (try k_sweep))
  k_with "ite" => (k_here; k_openite; first | (refine ite_pos (by ((try simp only [beq_iff_eq, bne_iff_ne, List.any_cons, List.any_nil, Bool.or_false, Bool.or_eq_true, decide_eq_true_eq]); first | with_reducible assumption | omega)) ?_; walk_say "DECIDED") | (refine ite_neg (by ((try simp only [beq_iff_eq, bne_iff_ne, List.any_cons, List.any_nil, Bool.or_false, Bool.or_eq_true, decide_eq_true_eq, Bool.not_eq_true, not_or]); first | with_reducible assumption | omega)) ?_; walk_say "DECIDED") | with_reducible refine ite_tt ?_ | with_reducible refine ite_ff ?_ | (with_reducible refine split_ine ?_ ?_ <;> intro _) | (with_reducible refine split_ieq ?_ ?_ <;> intro _) | with_reducible refine split_not ?_ | (refine split_dec ?_ ?_ <;> intro _) | (refine split_bool ?_ ?_ <;> intro _))
  k_with "compareOp In int ref" => (k_here; (with_unfolding_all refine' in_tuple_ints ?k1 ?k2 ?_; (case k1 => kun_tup); (case k2 => (repeat constructor)); k_whole))
  k_with "call ref" => (k_here; k_dflt (refine' Ic.use (c_lj _ _ _ _ _ _ _) ?k1 ?k2 ?k3 ?k4 ?k5 ?kK ?kd ?ku ?_; (case k1 => k_asm); (case k2 => k_asm); (case k3 => k_asm); (case k4 => k_asm); (case k5 => k_asm); (case kK => first | exact rfl | assumption); (case kd => ktr_room); (case ku => ktr_units); k_whole); intro t9 h9 tk9 F9 N9; (try dsimp only); (try k_sweep); (try k_fold))
  k_with "exec If" => (k_here; k_dflt ((rename Jz _ _ => jz9); (refine' joinI jz9 ?kF ?kN ?kw ?_); (case kF => k_asm); (case kN => k_asm); (case kw => ((try clear jz9); (repeat ((rename Jz _ _ => jy9); clear jy9)); (repeat ((rename Jy _ _ _ _ => jy9); clear jy9)); intro Q9 go9; ((rename (_ ∨ _) => hw9); rcases hw9 with g1 | ⟨g1, g2⟩ | ⟨g1, g3, g4, g5, g6⟩); all_goals k_steps; all_goals (first | (with_reducible refine endJ go9 (by assumption) (by assumption) (by intro p9 h9; repeat (first | with_reducible exact h9 | with_reducible refine List.mem_cons_of_mem _ ?_)) ?_) | (with_reducible (refine' endJ0 go9 (by assumption) (by assumption) (by intro p9 h9; repeat (first | with_reducible exact h9 | with_reducible refine List.mem_cons_of_mem _ ?_)) ?hv ?_; (case hv => k_dflt rfl)))); all_goals (first | with_reducible exact dimJ_a (by assumption) (by assumption) | with_reducible exact dimJ_b (by assumption) (by assumption) | with_reducible exact dimJ_c (by assumption) (by assumption) | with_reducible exact dimJ_d (by assumption) (by assumption) (by assumption) (by assumption) (by assumption)))); intro t9 h9 tk9 m9 F9 N9; clear jz9; (try k_sweep)))
  k_with "call ref" => (k_here; k_dflt (refine' Ic.use (c_mlJ _ _ _ _ _ _ _ _ _) ?k1 ?k2 ?k3 ?k4 ?k5 ?kK ?kd ?ku ?_; (case k1 => k_asm); (case k2 => k_asm); (case k3 => k_asm); (case k4 => k_asm); (case k5 => k_asm); (case kK => first | exact rfl | assumption); (case kd => ktr_room); (case ku => ktr_units); k_whole); intro t9 h9 tk9 F9 N9; (try dsimp only); (try k_sweep); (try k_fold))
  intro dp un gd cn cs a ccd cl outer A₀ base h₀ L mm news s Q E B F X N T hk hd hu hret
  refine wpAny_call ?_
  k_dflt cell_enter
  k_steps
  all_goals exact endB hret (by k_asm) (by k_asm) (fun _ h => h) rfl
noncomputable def jy (y m : Int) : Int := if m ≤ 2 then y - 1 else y
noncomputable def jm (m : Int) : Int := if m ≤ 2 then m + 12 else m
theorem jy_1 {y m : Int} (h : m ≤ 2) : y - 1 = jy y m := (if_pos h).symm
theorem jy_2 {y m : Int} (h : ¬ m ≤ 2) : y = jy y m := (if_neg h).symm
theorem jm_1 {m : Int} (h : m ≤ 2) : m + 12 = jm m := (if_pos h).symm
theorem jm_2 {m : Int} (h : ¬ m ≤ 2) : m = jm m := (if_neg h).symm
theorem jJd_end {y m d : Int} : (1461 * (jy y m + 4716)).fdiv 4 + (306001 * (jm m + 1)).fdiv 10000 + d - 1524 = jJd y m d := by
  rw [fd (by decide), fd (by decide)]
  unfold jy jm jJd
  split <;> rfl
theorem c_jJd (w : World) (loose : List Str) (mean : ExcName → Option Value) (mg mb : Str → Option Value) (y m d : Int) (t1 t2 t3 : Tok) (h1 : 0 < d) (h2 : d ≤ dimJ y m) :
    Ic w loose mean mg mb 4 142 [.int y t1, .int m t2, .int d t3] (fun t => .int (jJd y m d) t) := by
  k_with_none
  k_with "eval Call Name" => (k_here; k_dflt (refine Call_ ?_))
  k_with "storeName" => (k_here; k_dflt (refine' storeL ?F ?N ?_ ?a ?b; (case F => k_asm); (case N => k_asm); (case a => rfl); (case b => rfl); k_whole); intro h9 tk9 m9 F9 N9; (try k_sweep))
  k_with "newTuple" => (k_here; k_dflt (refine' tupL ?F ?N ?_ ?z; (case F => k_asm); (case N => k_asm); (case z => kmk_size)); intro D9 h9 tk9 n9 F9 N9; (try k_sweep))
  k_with "ite" => (k_here; k_openite; first | (refine ite_pos (by ((try simp only [beq_iff_eq, bne_iff_ne, List.any_cons, List.any_nil, Bool.or_false, Bool.or_eq_true, decide_eq_true_eq]); first | with_reducible assumption | omega)) ?_; walk_say "DECIDED") | (refine ite_neg (by ((try simp only [beq_iff_eq, bne_iff_ne, List.any_cons, List.any_nil, Bool.or_false, Bool.or_eq_true, decide_eq_true_eq, Bool.not_eq_true, not_or]); first | with_reducible assumption | omega)) ?_; walk_say "DECIDED") | with_reducible refine ite_tt ?_ | with_reducible refine ite_ff ?_ | (with_reducible refine split_ine ?_ ?_ <;> intro _) | (with_reducible refine split_ieq ?_ ?_ <;> intro _) | with_reducible refine split_not ?_ | (refine split_dec ?_ ?_ <;> intro _) | (refine split_bool ?_ ?_ <;> intro _))
  k_with "compareOp In int ref" => (k_here; (with_unfolding_all refine' in_tuple_ints ?k1 ?k2 ?_; (case k1 => kun_tup); (case k2 => (repeat constructor)); k_whole))
  k_with "call ref" => (k_here; k_dflt (refine' Ic.use (c_lj _ _ _ _ _ _ _) ?k1 ?k2 ?k3 ?k4 ?k5 ?kK ?kd ?ku ?_; (case k1 => k_asm); (case k2 => k_asm); (case k3 => k_asm); (case k4 => k_asm); (case k5 => k_asm); (case kK => first | exact rfl | assumption); (case kd => ktr_room); (case ku => ktr_units); k_whole); intro t9 h9 tk9 F9 N9; (try dsimp only); (try k_sweep); (try k_fold))
  k_with "exec If" => (k_here; k_dflt ((rename Jz _ _ => jz9); (refine' joinI jz9 ?kF ?kN ?kw ?_); (case kF => k_asm); (case kN => k_asm); (case kw => ((try clear jz9); (repeat ((rename Jz _ _ => jy9); clear jy9)); (repeat ((rename Jy _ _ _ _ => jy9); clear jy9)); intro Q9 go9; ((rename (_ ∨ _) => hw9); rcases hw9 with g1 | ⟨g1, g2⟩ | ⟨g1, g3, g4, g5, g6⟩); all_goals k_steps; all_goals (first | (with_reducible refine endJ go9 (by assumption) (by assumption) (by intro p9 h9; repeat (first | with_reducible exact h9 | with_reducible refine List.mem_cons_of_mem _ ?_)) ?_) | (with_reducible (refine' endJ0 go9 (by assumption) (by assumption) (by intro p9 h9; repeat (first | with_reducible exact h9 | with_reducible refine List.mem_cons_of_mem _ ?_)) ?hv ?_; (case hv => k_dflt rfl)))); all_goals (first | with_reducible exact dimJ_a (by assumption) (by assumption) | with_reducible exact dimJ_b (by assumption) (by assumption) | with_reducible exact dimJ_c (by assumption) (by assumption) | with_reducible exact dimJ_d (by assumption) (by assumption) (by assumption) (by assumption) (by assumption)))); intro t9 h9 tk9 m9 F9 N9; clear jz9; (try k_sweep)))
  k_with "call ref" => (k_here; k_dflt (refine' Ic.use (c_mlJ _ _ _ _ _ _ _ _ _) ?k1 ?k2 ?k3 ?k4 ?k5 ?kK ?kd ?ku ?_; (case k1 => k_asm); (case k2 => k_asm); (case k3 => k_asm); (case k4 => k_asm); (case k5 => k_asm); (case kK => first | exact rfl | assumption); (case kd => ktr_room); (case ku => ktr_units); k_whole); intro t9 h9 tk9 F9 N9; (try dsimp only); (try k_sweep); (try k_fold))
  k_with "call ref" => (k_here; k_dflt (refine' Ic.use (c_legalJ _ _ _ _ _ _ _ _ _ _ _ ?p1 ?p2) ?k1 ?k2 ?k3 ?k4 ?k5 ?kK ?kd ?ku ?_; (case k1 => k_asm); (case k2 => k_asm); (case k3 => k_asm); (case k4 => k_asm); (case p1 => with_reducible assumption); (case p2 => with_reducible assumption); (case k5 => k_asm); (case kK => first | exact rfl | assumption); (case kd => ktr_room); (case ku => ktr_units); k_whole); intro t9 h9 tk9 F9 N9; (try dsimp only); (try k_sweep); (try k_fold))
  k_with "exec If" => (k_here; k_dflt ((rename Jy _ _ _ _ => jz9); (refine' joinI2 jz9 ?kF ?kN ?kw ?_); (case kF => k_asm); (case kN => k_asm); (case kw => ((try clear jz9); (repeat ((rename Jz _ _ => jy9); clear jy9)); (repeat ((rename Jy _ _ _ _ => jy9); clear jy9)); intro Q9 go9; skip; all_goals k_steps; all_goals (first | (with_reducible refine endJ2 go9 (by assumption) (by assumption) (by intro p9 h9; repeat (first | with_reducible exact h9 | with_reducible refine List.mem_cons_of_mem _ ?_)) ?_ ?_) | (with_reducible (refine' endJ20 go9 (by assumption) (by assumption) (by intro p9 h9; repeat (first | with_reducible exact h9 | with_reducible refine List.mem_cons_of_mem _ ?_)) ?hv ?hw ?_ ?_; (case hv => k_dflt rfl); (case hw => k_dflt rfl)))); all_goals (first | with_reducible exact jy_1 (by assumption) | with_reducible exact jy_2 (by assumption) | with_reducible exact jm_1 (by assumption) | with_reducible exact jm_2 (by assumption)))); intro t9 t99 h9 tk9 m9 F9 N9; clear jz9; (try k_sweep)))
  intro dp un gd cn cs a ccd cl outer A₀ base h₀ L mm news s Q E B F X N T hk hd hu hret
  have : Jy (Str.ofString "year") (jy y m) (Str.ofString "month") (jm m) := .mk _ _ _ _
  refine wpAny_call ?_
  k_dflt cell_enter
  k_steps
  all_goals exact endI hret (by k_asm) (by k_asm) (fun _ h => h) jJd_end
end
section
noncomputable abbrev jc (jd : Int) : Int := (20 * (jd + 1524) - 2442).fdiv 7305
noncomputable abbrev je (jd : Int) : Int := ((jd + 1524 - (1461 * jc jd).fdiv 4) * 10000).fdiv 306001
theorem jc_eq (jd : Int) : (20 * (jd + 1524) - 2442).fdiv 7305 = jC jd := fd (by decide)
theorem je_eq (jd : Int) : ((jd + 1524 - (1461 * (20 * (jd + 1524) - 2442).fdiv 7305).fdiv 4) * 10000).fdiv 306001 = jE jd := by
  rw [jc_eq, fd (by decide), fd (by decide)]
  rfl
theorem jE_in (jd : Int) : 4 ≤ jE jd ∧ jE jd ≤ 15 := by
  unfold jE jC
  omega
theorem jM_1 {jd : Int} (h : ((jd + 1524 - (1461 * (20 * (jd + 1524) - 2442).fdiv 7305).fdiv 4) * 10000).fdiv 306001 < 14) : ((jd + 1524 - (1461 * (20 * (jd + 1524) - 2442).fdiv 7305).fdiv 4) * 10000).fdiv 306001 - 1 = jM jd := by
  rw [je_eq] at h ⊢
  exact (if_pos h).symm
theorem jM_2 {jd : Int} (h : ¬ ((jd + 1524 - (1461 * (20 * (jd + 1524) - 2442).fdiv 7305).fdiv 4) * 10000).fdiv 306001 < 14) : ((jd + 1524 - (1461 * (20 * (jd + 1524) - 2442).fdiv 7305).fdiv 4) * 10000).fdiv 306001 - 13 = jM jd := by
  rw [je_eq] at h ⊢
  exact (if_neg h).symm
theorem jY_1 {jd : Int} (h : 2 < jM jd) : (20 * (jd + 1524) - 2442).fdiv 7305 - 4716 = jY jd := by
  have := jE_in jd
  rw [jc_eq]
  unfold jM at h
  unfold jY
  split at h
  · next q => rw [if_pos q]
  · omega
theorem jY_2 {jd : Int} (h : ¬ 2 < jM jd) : (20 * (jd + 1524) - 2442).fdiv 7305 - 4715 = jY jd := by
  have := jE_in jd
  rw [jc_eq]
  unfold jM at h
  unfold jY
  split at h
  · omega
  · next q => rw [if_neg q]
theorem jOf_end {jd : Int} : jY jd = jY jd ∧ jM jd = jM jd ∧ jd + 1524 - (1461 * (20 * (jd + 1524) - 2442).fdiv 7305).fdiv 4 - (306001 * ((jd + 1524 - (1461 * (20 * (jd + 1524) - 2442).fdiv 7305).fdiv 4) * 10000).fdiv 306001).fdiv 10000 = jD jd := by
  rw [je_eq, jc_eq, fd (by decide), fd (by decide)]
  exact ⟨rfl, rfl, rfl⟩
theorem c_jOf (w : World) (loose : List Str) (mean : ExcName → Option Value) (mg mb : Str → Option Value) (jd : Int) (t1 : Tok) :
    Tc w loose mean mg mb 1 135 [] [.int jd t1] (jY jd) (jM jd) (jD jd) := by
  k_with_none
  k_with "eval Call Name" => (k_here; k_dflt (refine Call_ ?_))
  k_with "storeName" => (k_here; k_dflt (refine' storeL ?F ?N ?_ ?a ?b; (case F => k_asm); (case N => k_asm); (case a => rfl); (case b => rfl); k_whole); intro h9 tk9 m9 F9 N9; (try k_sweep))
  k_with "newTuple" => (k_here; k_dflt (refine' tupL ?F ?N ?_ ?z; (case F => k_asm); (case N => k_asm); (case z => kmk_size)); intro D9 h9 tk9 n9 F9 N9; (try k_sweep))
  k_with "ite" => (k_here; k_openite; first | (refine ite_pos (by ((try simp only [beq_iff_eq, bne_iff_ne, List.any_cons, List.any_nil, Bool.or_false, Bool.or_eq_true, decide_eq_true_eq]); first | with_reducible assumption | omega)) ?_; walk_say "DECIDED") | (refine ite_neg (by ((try simp only [beq_iff_eq, bne_iff_ne, List.any_cons, List.any_nil, Bool.or_false, Bool.or_eq_true, decide_eq_true_eq, Bool.not_eq_true, not_or]); first | with_reducible assumption | omega)) ?_; walk_say "DECIDED") | with_reducible refine ite_tt ?_ | with_reducible refine ite_ff ?_ | (with_reducible refine split_ine ?_ ?_ <;> intro _) | (with_reducible refine split_ieq ?_ ?_ <;> intro _) | with_reducible refine split_not ?_ | (refine split_dec ?_ ?_ <;> intro _) | (refine split_bool ?_ ?_ <;> intro _))
  k_with "call ref" => (k_here; k_dflt (refine' Ic.use (c_gJd _ _ _ _ _ _ _ _ _ _ _ ?p1 ?p2) ?k1 ?k2 ?k3 ?k4 ?k5 ?kK ?kd ?ku ?_; (case k1 => k_asm); (case k2 => k_asm); (case k3 => k_asm); (case k4 => k_asm); (case p1 => first | with_reducible assumption | exact (by decide : (0 : Int) < 1) | omega); (case p2 => first | with_reducible assumption | with_reducible exact dim_ge1 _ _ | exact Int.le_trans (by omega) (dim_ge _ _)); (case k5 => k_asm); (case kK => first | exact rfl | assumption); (case kd => ktr_room); (case ku => ktr_units); k_whole); intro t9 h9 tk9 F9 N9; (try dsimp only); (try k_sweep); (try k_fold))
  k_with "call ref" => (k_here; k_dflt (refine' Tc.use (c_gOf _ _ _ _ _ _ _) ?k1 ?k2 ?k3 ?k4 ?ko ?k5 ?kK ?kd ?ku ?_; (case k1 => k_asm); (case k2 => k_asm); (case k3 => k_asm); (case k4 => k_asm); (case ko => first | exact List.forall_mem_nil _ | (refine List.forall_mem_cons.mpr ⟨by k_mem, ?_⟩; exact List.forall_mem_nil _)); (case k5 => k_asm); (case kK => first | exact rfl | assumption); (case kd => ktr_room); (case ku => ktr_units); k_whole); intro D9 t19 t29 t39 c9 h9 tk9 n9 F9 N9; (try dsimp only); (try k_sweep); (try k_fold))
  k_with "exec If" => (k_here; k_dflt ((rename Jz _ _ => jz9); (refine' joinI jz9 ?kF ?kN ?kw ?_); (case kF => k_asm); (case kN => k_asm); (case kw => ((try clear jz9); (repeat ((rename Jz _ _ => jy9); clear jy9)); (repeat ((rename Jy _ _ _ _ => jy9); clear jy9)); intro Q9 go9; skip; all_goals k_steps; all_goals (first | (with_reducible refine endJ go9 (by assumption) (by assumption) (by intro p9 h9; repeat (first | with_reducible exact h9 | with_reducible refine List.mem_cons_of_mem _ ?_)) ?_) | (with_reducible (refine' endJ0 go9 (by assumption) (by assumption) (by intro p9 h9; repeat (first | with_reducible exact h9 | with_reducible refine List.mem_cons_of_mem _ ?_)) ?hv ?_; (case hv => k_dflt rfl)))); all_goals (first | with_reducible exact jM_1 (by assumption) | with_reducible exact jM_2 (by assumption) | with_reducible exact jY_1 (by assumption) | with_reducible exact jY_2 (by assumption)))); intro t9 h9 tk9 m9 F9 N9; clear jz9; (try k_sweep)))
  intro dp un gd cn cs a ccd cl outer A₀ base h₀ L mm news s Q E B F X N hold T hk hd hu hret
  have : Jz (Str.ofString "year") (jY jd) := .mk _ _
  have : Jz (Str.ofString "month") (jM jd) := .mk _ _
  refine wpAny_call ?_
  k_dflt cell_enter
  k_steps
  all_goals (refine endT hret (by k_asm) (by k_asm) (by first | exact List.mem_cons_self | k_mem) (by intro p9 h9; repeat (first | with_reducible exact h9 | with_reducible refine List.mem_cons_of_mem _ ?_)) ?_)
  all_goals exact jOf_end
theorem c_fromGJ (w : World) (loose : List Str) (mean : ExcName → Option Value) (mg mb : Str → Option Value) (y m d : Int) (t1 t2 t3 : Tok) (h1 : 0 < d) (h2 : d ≤ dimG y m) :
    Tc w loose mean mg mb 4 149 [] [.int y t1, .int m t2, .int d t3] (jY (gJd y m d)) (jM (gJd y m d)) (jD (gJd y m d)) := by
  k_with_none
  k_with "eval Call Name" => (k_here; k_dflt (refine Call_ ?_))
  k_with "storeName" => (k_here; k_dflt (refine' storeL ?F ?N ?_ ?a ?b; (case F => k_asm); (case N => k_asm); (case a => rfl); (case b => rfl); k_whole); intro h9 tk9 m9 F9 N9; (try k_sweep))
  k_with "newTuple" => (k_here; k_dflt (refine' tupL ?F ?N ?_ ?z; (case F => k_asm); (case N => k_asm); (case z => kmk_size)); intro D9 h9 tk9 n9 F9 N9; (try k_sweep))
  k_with "ite" => (k_here; k_openite; first | (refine ite_pos (by ((try simp only [beq_iff_eq, bne_iff_ne, List.any_cons, List.any_nil, Bool.or_false, Bool.or_eq_true, decide_eq_true_eq]); first | with_reducible assumption | omega)) ?_; walk_say "DECIDED") | (refine ite_neg (by ((try simp only [beq_iff_eq, bne_iff_ne, List.any_cons, List.any_nil, Bool.or_false, Bool.or_eq_true, decide_eq_true_eq, Bool.not_eq_true, not_or]); first | with_reducible assumption | omega)) ?_; walk_say "DECIDED") | with_reducible refine ite_tt ?_ | with_reducible refine ite_ff ?_ | (with_reducible refine split_ine ?_ ?_ <;> intro _) | (with_reducible refine split_ieq ?_ ?_ <;> intro _) | with_reducible refine split_not ?_ | (refine split_dec ?_ ?_ <;> intro _) | (refine split_bool ?_ ?_ <;> intro _))
  k_with "call ref" => (k_here; k_dflt (refine' Ic.use (c_gJd _ _ _ _ _ _ _ _ _ _ _ ?p1 ?p2) ?k1 ?k2 ?k3 ?k4 ?k5 ?kK ?kd ?ku ?_; (case k1 => k_asm); (case k2 => k_asm); (case k3 => k_asm); (case k4 => k_asm); (case p1 => first | with_reducible assumption | exact (by decide : (0 : Int) < 1) | omega); (case p2 => first | with_reducible assumption | with_reducible exact dim_ge1 _ _ | exact Int.le_trans (by omega) (dim_ge _ _)); (case k5 => k_asm); (case kK => first | exact rfl | assumption); (case kd => ktr_room); (case ku => ktr_units); k_whole); intro t9 h9 tk9 F9 N9; (try dsimp only); (try k_sweep); (try k_fold))
  k_with "call ref" => (k_here; k_dflt (refine' Tc.use (c_gOf _ _ _ _ _ _ _) ?k1 ?k2 ?k3 ?k4 ?ko ?k5 ?kK ?kd ?ku ?_; (case k1 => k_asm); (case k2 => k_asm); (case k3 => k_asm); (case k4 => k_asm); (case ko => first | exact List.forall_mem_nil _ | (refine List.forall_mem_cons.mpr ⟨by k_mem, ?_⟩; exact List.forall_mem_nil _)); (case k5 => k_asm); (case kK => first | exact rfl | assumption); (case kd => ktr_room); (case ku => ktr_units); k_whole); intro D9 t19 t29 t39 c9 h9 tk9 n9 F9 N9; (try dsimp only); (try k_sweep); (try k_fold))
  k_with "exec If" => (k_here; k_dflt ((rename Jz _ _ => jz9); (refine' joinI jz9 ?kF ?kN ?kw ?_); (case kF => k_asm); (case kN => k_asm); (case kw => ((try clear jz9); (repeat ((rename Jz _ _ => jy9); clear jy9)); (repeat ((rename Jy _ _ _ _ => jy9); clear jy9)); intro Q9 go9; skip; all_goals k_steps; all_goals (first | (with_reducible refine endJ go9 (by assumption) (by assumption) (by intro p9 h9; repeat (first | with_reducible exact h9 | with_reducible refine List.mem_cons_of_mem _ ?_)) ?_) | (with_reducible (refine' endJ0 go9 (by assumption) (by assumption) (by intro p9 h9; repeat (first | with_reducible exact h9 | with_reducible refine List.mem_cons_of_mem _ ?_)) ?hv ?_; (case hv => k_dflt rfl)))); all_goals (first | with_reducible exact jM_1 (by assumption) | with_reducible exact jM_2 (by assumption) | with_reducible exact jY_1 (by assumption) | with_reducible exact jY_2 (by assumption)))); intro t9 h9 tk9 m9 F9 N9; clear jz9; (try k_sweep)))
  k_with "call ref" => (k_here; k_dflt (refine' Tc.use (c_jOf _ _ _ _ _ _ _) ?k1 ?k2 ?k3 ?k4 ?ko ?k5 ?kK ?kd ?ku ?_; (case k1 => k_asm); (case k2 => k_asm); (case k3 => k_asm); (case k4 => k_asm); (case ko => first | exact List.forall_mem_nil _ | (refine List.forall_mem_cons.mpr ⟨by k_mem, ?_⟩; exact List.forall_mem_nil _)); (case k5 => k_asm); (case kK => first | exact rfl | assumption); (case kd => ktr_room); (case ku => ktr_units); k_whole); intro D9 t19 t29 t39 c9 h9 tk9 n9 F9 N9; (try dsimp only); (try k_sweep); (try k_fold))
  k_with "call ref" => (k_here; k_dflt (refine' Ic.use (c_jJd _ _ _ _ _ _ _ _ _ _ _ ?p1 ?p2) ?k1 ?k2 ?k3 ?k4 ?k5 ?kK ?kd ?ku ?_; (case k1 => k_asm); (case k2 => k_asm); (case k3 => k_asm); (case k4 => k_asm); (case p1 => with_reducible assumption); (case p2 => with_reducible assumption); (case k5 => k_asm); (case kK => first | exact rfl | assumption); (case kd => ktr_room); (case ku => ktr_units); k_whole); intro t9 h9 tk9 F9 N9; (try dsimp only); (try k_sweep); (try k_fold))
  intro dp un gd cn cs a ccd cl outer A₀ base h₀ L mm news s Q E B F X N hold T hk hd hu hret
  refine wpAny_call ?_
  k_dflt cell_enter
  k_steps
  all_goals (refine endT hret (by k_asm) (by k_asm) (by first | exact List.mem_cons_self | k_mem) (by intro p9 h9; repeat (first | with_reducible exact h9 | with_reducible refine List.mem_cons_of_mem _ ?_)) ?_)
  all_goals exact ⟨rfl, rfl, rfl⟩
theorem c_toGJ (w : World) (loose : List Str) (mean : ExcName → Option Value) (mg mb : Str → Option Value) (y m d : Int) (t1 t2 t3 : Tok) (h1 : 0 < d) (h2 : d ≤ dimJ y m) :
    Tc w loose mean mg mb 5 156 [] [.int y t1, .int m t2, .int d t3] (gY (jJd y m d)) (gM (jJd y m d)) (gD (jJd y m d)) := by
  k_with_none
  k_with "eval Call Name" => (k_here; k_dflt (refine Call_ ?_))
  k_with "storeName" => (k_here; k_dflt (refine' storeL ?F ?N ?_ ?a ?b; (case F => k_asm); (case N => k_asm); (case a => rfl); (case b => rfl); k_whole); intro h9 tk9 m9 F9 N9; (try k_sweep))
  k_with "newTuple" => (k_here; k_dflt (refine' tupL ?F ?N ?_ ?z; (case F => k_asm); (case N => k_asm); (case z => kmk_size)); intro D9 h9 tk9 n9 F9 N9; (try k_sweep))
  k_with "ite" => (k_here; k_openite; first | (refine ite_pos (by ((try simp only [beq_iff_eq, bne_iff_ne, List.any_cons, List.any_nil, Bool.or_false, Bool.or_eq_true, decide_eq_true_eq]); first | with_reducible assumption | omega)) ?_; walk_say "DECIDED") | (refine ite_neg (by ((try simp only [beq_iff_eq, bne_iff_ne, List.any_cons, List.any_nil, Bool.or_false, Bool.or_eq_true, decide_eq_true_eq, Bool.not_eq_true, not_or]); first | with_reducible assumption | omega)) ?_; walk_say "DECIDED") | with_reducible refine ite_tt ?_ | with_reducible refine ite_ff ?_ | (with_reducible refine split_ine ?_ ?_ <;> intro _) | (with_reducible refine split_ieq ?_ ?_ <;> intro _) | with_reducible refine split_not ?_ | (refine split_dec ?_ ?_ <;> intro _) | (refine split_bool ?_ ?_ <;> intro _))
  k_with "call ref" => (k_here; k_dflt (refine' Ic.use (c_gJd _ _ _ _ _ _ _ _ _ _ _ ?p1 ?p2) ?k1 ?k2 ?k3 ?k4 ?k5 ?kK ?kd ?ku ?_; (case k1 => k_asm); (case k2 => k_asm); (case k3 => k_asm); (case k4 => k_asm); (case p1 => first | with_reducible assumption | exact (by decide : (0 : Int) < 1) | omega); (case p2 => first | with_reducible assumption | with_reducible exact dim_ge1 _ _ | exact Int.le_trans (by omega) (dim_ge _ _)); (case k5 => k_asm); (case kK => first | exact rfl | assumption); (case kd => ktr_room); (case ku => ktr_units); k_whole); intro t9 h9 tk9 F9 N9; (try dsimp only); (try k_sweep); (try k_fold))
  k_with "call ref" => (k_here; k_dflt (refine' Tc.use (c_gOf _ _ _ _ _ _ _) ?k1 ?k2 ?k3 ?k4 ?ko ?k5 ?kK ?kd ?ku ?_; (case k1 => k_asm); (case k2 => k_asm); (case k3 => k_asm); (case k4 => k_asm); (case ko => first | exact List.forall_mem_nil _ | (refine List.forall_mem_cons.mpr ⟨by k_mem, ?_⟩; exact List.forall_mem_nil _)); (case k5 => k_asm); (case kK => first | exact rfl | assumption); (case kd => ktr_room); (case ku => ktr_units); k_whole); intro D9 t19 t29 t39 c9 h9 tk9 n9 F9 N9; (try dsimp only); (try k_sweep); (try k_fold))
  k_with "exec If" => (k_here; k_dflt ((rename Jz _ _ => jz9); (refine' joinI jz9 ?kF ?kN ?kw ?_); (case kF => k_asm); (case kN => k_asm); (case kw => ((try clear jz9); (repeat ((rename Jz _ _ => jy9); clear jy9)); (repeat ((rename Jy _ _ _ _ => jy9); clear jy9)); intro Q9 go9; skip; all_goals k_steps; all_goals (first | (with_reducible refine endJ go9 (by assumption) (by assumption) (by intro p9 h9; repeat (first | with_reducible exact h9 | with_reducible refine List.mem_cons_of_mem _ ?_)) ?_) | (with_reducible (refine' endJ0 go9 (by assumption) (by assumption) (by intro p9 h9; repeat (first | with_reducible exact h9 | with_reducible refine List.mem_cons_of_mem _ ?_)) ?hv ?_; (case hv => k_dflt rfl)))); all_goals (first | with_reducible exact jM_1 (by assumption) | with_reducible exact jM_2 (by assumption) | with_reducible exact jY_1 (by assumption) | with_reducible exact jY_2 (by assumption)))); intro t9 h9 tk9 m9 F9 N9; clear jz9; (try k_sweep)))
  k_with "call ref" => (k_here; k_dflt (refine' Tc.use (c_jOf _ _ _ _ _ _ _) ?k1 ?k2 ?k3 ?k4 ?ko ?k5 ?kK ?kd ?ku ?_; (case k1 => k_asm); (case k2 => k_asm); (case k3 => k_asm); (case k4 => k_asm); (case ko => first | exact List.forall_mem_nil _ | (refine List.forall_mem_cons.mpr ⟨by k_mem, ?_⟩; exact List.forall_mem_nil _)); (case k5 => k_asm); (case kK => first | exact rfl | assumption); (case kd => ktr_room); (case ku => ktr_units); k_whole); intro D9 t19 t29 t39 c9 h9 tk9 n9 F9 N9; (try dsimp only); (try k_sweep); (try k_fold))
  k_with "call ref" => (k_here; k_dflt (refine' Ic.use (c_jJd _ _ _ _ _ _ _ _ _ _ _ ?p1 ?p2) ?k1 ?k2 ?k3 ?k4 ?k5 ?kK ?kd ?ku ?_; (case k1 => k_asm); (case k2 => k_asm); (case k3 => k_asm); (case k4 => k_asm); (case p1 => with_reducible assumption); (case p2 => with_reducible assumption); (case k5 => k_asm); (case kK => first | exact rfl | assumption); (case kd => ktr_room); (case ku => ktr_units); k_whole); intro t9 h9 tk9 F9 N9; (try dsimp only); (try k_sweep); (try k_fold))
  intro dp un gd cn cs a ccd cl outer A₀ base h₀ L mm news s Q E B F X N hold T hk hd hu hret
  refine wpAny_call ?_
  k_dflt cell_enter
  k_steps
  all_goals (refine endT hret (by k_asm) (by k_asm) (by first | exact List.mem_cons_self | k_mem) (by intro p9 h9; repeat (first | with_reducible exact h9 | with_reducible refine List.mem_cons_of_mem _ ?_)) ?_)
  all_goals exact ⟨rfl, rfl, rfl⟩
end
end Mine
end
section
namespace Mine
open PySem.Spec PySem.Calls
set_option maxHeartbeats 1000000
section
theorem c_trunc10 (w : World) (loose : List Str) (mean : ExcName → Option Value) (mg mb : Str → Option Value) (x : Int) (t1 t2 : Tok) (h1 : 0 ≤ x) :
    Ic w loose mean mg mb 1 28 [.int x t1, .int 10 t2] (fun t => .int (x / 10) t) := by
  k_with_none
  k_with "eval Call Name" => (k_here; k_dflt (refine Call_ ?_))
  k_with "storeName" => (k_here; k_dflt (refine' storeL ?F ?N ?_ ?a ?b; (case F => k_asm); (case N => k_asm); (case a => rfl); (case b => rfl); k_whole); intro h9 tk9 m9 F9 N9; (try k_sweep))
  k_with "newTuple" => (k_here; k_dflt (refine' tupL ?F ?N ?_ ?z; (case F => k_asm); (case N => k_asm); (case z => kmk_size)); intro D9 h9 tk9 n9 F9 N9; (try k_sweep))
  k_with "ite" => (k_here; k_openite; first | (refine ite_pos (by ((try simp only [beq_iff_eq, bne_iff_ne, List.any_cons, List.any_nil, Bool.or_false, Bool.or_eq_true, decide_eq_true_eq]); first | with_reducible assumption | omega)) ?_; walk_say "DECIDED") | (refine ite_neg (by ((try simp only [beq_iff_eq, bne_iff_ne, List.any_cons, List.any_nil, Bool.or_false, Bool.or_eq_true, decide_eq_true_eq, Bool.not_eq_true, not_or]); first | with_reducible assumption | omega)) ?_; walk_say "DECIDED") | with_reducible refine ite_tt ?_ | with_reducible refine ite_ff ?_ | (with_reducible refine split_ine ?_ ?_ <;> intro _) | (with_reducible refine split_ieq ?_ ?_ <;> intro _) | with_reducible refine split_not ?_ | (refine split_dec ?_ ?_ <;> intro _) | (refine split_bool ?_ ?_ <;> intro _))
  k_with "call ref" => (k_here; k_dflt (refine' Ic.use (c_isleap _ _ _ _ _ _ _) ?k1 ?k2 ?k3 ?k4 ?k5 ?kK ?kd ?ku ?_; (case k1 => k_asm); (case k2 => k_asm); (case k3 => k_asm); (case k4 => k_asm); (case k5 => k_asm); (case kK => first | exact rfl | assumption); (case kd => ktr_room); (case ku => ktr_units); k_whole); intro t9 h9 tk9 F9 N9; (try dsimp only); (try k_sweep); (try k_fold))
  intro dp un gd cn cs a ccd cl outer A₀ base h₀ L mm news s Q E B F X N T hk hd hu hret
  refine wpAny_call ?_
  k_dflt cell_enter
  k_steps
  all_goals (refine endI hret (by k_asm) (by k_asm) (fun _ h => h) ?_)
  all_goals (first | (exfalso; simp only [Int.reduceLT, decide_false, beq_eq_false_iff_ne, ne_eq, decide_eq_false_iff_not] at *; omega) | (rw [if_neg (show ¬ x < 0 by omega), if_neg (show ¬ ((10 : Int) < 0) by decide), fd (by decide)]))
theorem c_trunc367 (w : World) (loose : List Str) (mean : ExcName → Option Value) (mg mb : Str → Option Value) (x : Int) (t1 t2 : Tok) (h1 : 0 ≤ x) :
    Ic w loose mean mg mb 1 28 [.int x t1, .int 367 t2] (fun t => .int (x / 367) t) := by
  k_with_none
  k_with "eval Call Name" => (k_here; k_dflt (refine Call_ ?_))
  k_with "storeName" => (k_here; k_dflt (refine' storeL ?F ?N ?_ ?a ?b; (case F => k_asm); (case N => k_asm); (case a => rfl); (case b => rfl); k_whole); intro h9 tk9 m9 F9 N9; (try k_sweep))
  k_with "newTuple" => (k_here; k_dflt (refine' tupL ?F ?N ?_ ?z; (case F => k_asm); (case N => k_asm); (case z => kmk_size)); intro D9 h9 tk9 n9 F9 N9; (try k_sweep))
  k_with "ite" => (k_here; k_openite; first | (refine ite_pos (by ((try simp only [beq_iff_eq, bne_iff_ne, List.any_cons, List.any_nil, Bool.or_false, Bool.or_eq_true, decide_eq_true_eq]); first | with_reducible assumption | omega)) ?_; walk_say "DECIDED") | (refine ite_neg (by ((try simp only [beq_iff_eq, bne_iff_ne, List.any_cons, List.any_nil, Bool.or_false, Bool.or_eq_true, decide_eq_true_eq, Bool.not_eq_true, not_or]); first | with_reducible assumption | omega)) ?_; walk_say "DECIDED") | with_reducible refine ite_tt ?_ | with_reducible refine ite_ff ?_ | (with_reducible refine split_ine ?_ ?_ <;> intro _) | (with_reducible refine split_ieq ?_ ?_ <;> intro _) | with_reducible refine split_not ?_ | (refine split_dec ?_ ?_ <;> intro _) | (refine split_bool ?_ ?_ <;> intro _))
  k_with "call ref" => (k_here; k_dflt (refine' Ic.use (c_isleap _ _ _ _ _ _ _) ?k1 ?k2 ?k3 ?k4 ?k5 ?kK ?kd ?ku ?_; (case k1 => k_asm); (case k2 => k_asm); (case k3 => k_asm); (case k4 => k_asm); (case k5 => k_asm); (case kK => first | exact rfl | assumption); (case kd => ktr_room); (case ku => ktr_units); k_whole); intro t9 h9 tk9 F9 N9; (try dsimp only); (try k_sweep); (try k_fold))
  intro dp un gd cn cs a ccd cl outer A₀ base h₀ L mm news s Q E B F X N T hk hd hu hret
  refine wpAny_call ?_
  k_dflt cell_enter
  k_steps
  all_goals (refine endI hret (by k_asm) (by k_asm) (fun _ h => h) ?_)
  all_goals (first | (exfalso; simp only [Int.reduceLT, decide_false, beq_eq_false_iff_ne, ne_eq, decide_eq_false_iff_not] at *; omega) | (rw [if_neg (show ¬ x < 0 by omega), if_neg (show ¬ ((367 : Int) < 0) by decide), fd (by decide)]))
theorem oX_1 {m : Int} (h : m + 1 ≤ 3) : m + 1 + 12 = oX m := (if_pos h).symm
theorem oX_2 {m : Int} (h : ¬ m + 1 ≤ 3) : m + 1 = oX m := (if_neg h).symm
theorem oX_p {m : Int} (h : 0 ≤ m) : 0 ≤ 306 * oX m := by
  unfold oX
  split <;> omega
theorem oT_1 {y m d : Int} (h : (365 + if isl y = true then 1 else 0) < 306 * oX m / 10 + d - 122 + 59 + if isl y = true then 1 else 0) : (306 * oX m / 10 + d - 122 + 59 + if isl y = true then 1 else 0) - 365 - (if isl y = true then 1 else 0) = oT y m d := (if_pos h).symm
theorem oT_2 {y m d : Int} (h : ¬ (365 + if isl y = true then 1 else 0) < 306 * oX m / 10 + d - 122 + 59 + if isl y = true then 1 else 0) : (306 * oX m / 10 + d - 122 + 59 + if isl y = true then 1 else 0) = oT y m d := (if_neg h).symm
theorem oA_0 {y n : Int} (h : n < 59 + (if isl y = true then 1 else 0)) : 0 = oA y n := (if_pos h).symm
theorem oA_1 {y n : Int} (h : ¬ n < 59 + (if isl y = true then 1 else 0)) (hl : isl y = true) : 1 = oA y n := by
  unfold oA lp; rw [if_neg h, if_pos hl]
theorem oA_2 {y n : Int} (h : ¬ n < 59 + (if isl y = true then 1 else 0)) (hl : isl y = false) : 2 = oA y n := by
  unfold oA lp; rw [if_neg h, if_neg (by rw [hl]; decide)]
theorem oM_p {y n : Int} (h : 1 ≤ n) : 0 ≤ (n - 1 + oA y n) * 12 + 373 := by
  have : 0 ≤ oA y n := by unfold oA; repeat' split
                          all_goals decide
  omega
theorem oM_0 {y n : Int} (h : 1 ≤ n) : 0 ≤ ((n - 1 + oA y n) * 12 + 373) / 367 := Int.ediv_nonneg (oM_p h) (by decide)
theorem c_oOf (w : World) (loose : List Str) (mean : ExcName → Option Value) (mg mb : Str → Option Value) (y m d : Int) (t1 t2 t3 : Tok) (h1 : 0 ≤ m) :
    Pc w loose mean mg mb 2 163 [.int y t1, .int m t2, .int d t3] y (oT y m d) := by
  k_with_none
  k_with "eval Call Name" => (k_here; k_dflt (refine Call_ ?_))
  k_with "storeName" => (k_here; k_dflt (refine' storeL ?F ?N ?_ ?a ?b; (case F => k_asm); (case N => k_asm); (case a => rfl); (case b => rfl); k_whole); intro h9 tk9 m9 F9 N9; (try k_sweep))
  k_with "newTuple" => (k_here; k_dflt (refine' tupL ?F ?N ?_ ?z; (case F => k_asm); (case N => k_asm); (case z => kmk_size)); intro D9 h9 tk9 n9 F9 N9; (try k_sweep))
  k_with "ite" => (k_here; k_openite; first | (refine ite_pos (by ((try simp only [beq_iff_eq, bne_iff_ne, List.any_cons, List.any_nil, Bool.or_false, Bool.or_eq_true, decide_eq_true_eq]); first | with_reducible assumption | omega)) ?_; walk_say "DECIDED") | (refine ite_neg (by ((try simp only [beq_iff_eq, bne_iff_ne, List.any_cons, List.any_nil, Bool.or_false, Bool.or_eq_true, decide_eq_true_eq, Bool.not_eq_true, not_or]); first | with_reducible assumption | omega)) ?_; walk_say "DECIDED") | with_reducible refine ite_tt ?_ | with_reducible refine ite_ff ?_ | (with_reducible refine split_ine ?_ ?_ <;> intro _) | (with_reducible refine split_ieq ?_ ?_ <;> intro _) | with_reducible refine split_not ?_ | (refine split_dec ?_ ?_ <;> intro _) | (refine split_bool ?_ ?_ <;> intro _))
  k_with "call ref" => (k_here; k_dflt (refine' Ic.use (c_isleap _ _ _ _ _ _ _) ?k1 ?k2 ?k3 ?k4 ?k5 ?kK ?kd ?ku ?_; (case k1 => k_asm); (case k2 => k_asm); (case k3 => k_asm); (case k4 => k_asm); (case k5 => k_asm); (case kK => first | exact rfl | assumption); (case kd => ktr_room); (case ku => ktr_units); k_whole); intro t9 h9 tk9 F9 N9; (try dsimp only); (try k_sweep); (try k_fold))
  k_with "call ref" => (k_here; k_dflt (refine' Ic.use (c_trunc10 _ _ _ _ _ _ _ _ ?p1) ?k1 ?k2 ?k3 ?k4 ?k5 ?kK ?kd ?ku ?_; (case k1 => k_asm); (case k2 => k_asm); (case k3 => k_asm); (case k4 => k_asm); (case p1 => with_reducible exact oX_p (by assumption)); (case k5 => k_asm); (case kK => first | exact rfl | assumption); (case kd => ktr_room); (case ku => ktr_units); k_whole); intro t9 h9 tk9 F9 N9; (try dsimp only); (try k_sweep); (try k_fold))
  k_with "call ref" => (k_here; k_dflt (refine' Ic.use (c_trunc367 _ _ _ _ _ _ _ _ ?p1) ?k1 ?k2 ?k3 ?k4 ?k5 ?kK ?kd ?ku ?_; (case k1 => k_asm); (case k2 => k_asm); (case k3 => k_asm); (case k4 => k_asm); (case p1 => with_reducible exact oM_p (by assumption)); (case k5 => k_asm); (case kK => first | exact rfl | assumption); (case kd => ktr_room); (case ku => ktr_units); k_whole); intro t9 h9 tk9 F9 N9; (try dsimp only); (try k_sweep); (try k_fold))
  k_with "exec If" => (k_here; k_dflt ((rename Jz _ _ => jz9); (refine' joinI jz9 ?kF ?kN ?kw ?_); (case kF => k_asm); (case kN => k_asm); (case kw => ((try clear jz9); (repeat ((rename Jz _ _ => jy9); clear jy9)); (repeat ((rename Jy _ _ _ _ => jy9); clear jy9)); intro Q9 go9; skip; all_goals k_steps; all_goals (first | (with_reducible refine endJ go9 (by assumption) (by assumption) (by intro p9 h9; repeat (first | with_reducible exact h9 | with_reducible refine List.mem_cons_of_mem _ ?_)) ?_) | (with_reducible (refine' endJ0 go9 (by assumption) (by assumption) (by intro p9 h9; repeat (first | with_reducible exact h9 | with_reducible refine List.mem_cons_of_mem _ ?_)) ?hv ?_; (case hv => k_dflt rfl)))); all_goals (first | with_reducible exact oX_1 (by assumption) | with_reducible exact oX_2 (by assumption) | with_reducible exact oT_1 (by assumption) | with_reducible exact oT_2 (by assumption) | with_reducible exact oA_0 (by assumption) | with_reducible exact oA_1 (by assumption) (by assumption) | with_reducible exact oA_2 (by assumption) (by assumption)))); intro t9 h9 tk9 m9 F9 N9; clear jz9; (try k_sweep)))
  intro dp un gd cn cs a ccd cl outer A₀ base h₀ L mm news s Q E B F X N T hk hd hu hret
  have : Jz (Str.ofString "t") (oT y m d) := .mk _ _
  have : Jz (Str.ofString "m") (oX m) := .mk _ _
  refine wpAny_call ?_
  k_dflt cell_enter
  k_steps
  all_goals (refine endP hret (by k_asm) (by k_asm) (by first | exact List.mem_cons_self | k_mem) (by intro p9 h9; repeat (first | with_reducible exact h9 | with_reducible refine List.mem_cons_of_mem _ ?_)) ?_)
  all_goals exact ⟨rfl, rfl⟩
theorem c_oTo (w : World) (loose : List Str) (mean : ExcName → Option Value) (mg mb : Str → Option Value) (y n : Int) (t1 t2 : Tok) (h1 : 1 ≤ n) :
    Tc w loose mean mg mb 3 170 [] [.int y t1, .int n t2] y (oM y n) (oD y n) := by
  k_with_none
  k_with "eval Call Name" => (k_here; k_dflt (refine Call_ ?_))
  k_with "storeName" => (k_here; k_dflt (refine' storeL ?F ?N ?_ ?a ?b; (case F => k_asm); (case N => k_asm); (case a => rfl); (case b => rfl); k_whole); intro h9 tk9 m9 F9 N9; (try k_sweep))
  k_with "newTuple" => (k_here; k_dflt (refine' tupL ?F ?N ?_ ?z; (case F => k_asm); (case N => k_asm); (case z => kmk_size)); intro D9 h9 tk9 n9 F9 N9; (try k_sweep))
  k_with "ite" => (k_here; k_openite; first | (refine ite_pos (by ((try simp only [beq_iff_eq, bne_iff_ne, List.any_cons, List.any_nil, Bool.or_false, Bool.or_eq_true, decide_eq_true_eq]); first | with_reducible assumption | omega)) ?_; walk_say "DECIDED") | (refine ite_neg (by ((try simp only [beq_iff_eq, bne_iff_ne, List.any_cons, List.any_nil, Bool.or_false, Bool.or_eq_true, decide_eq_true_eq, Bool.not_eq_true, not_or]); first | with_reducible assumption | omega)) ?_; walk_say "DECIDED") | with_reducible refine ite_tt ?_ | with_reducible refine ite_ff ?_ | (with_reducible refine split_ine ?_ ?_ <;> intro _) | (with_reducible refine split_ieq ?_ ?_ <;> intro _) | with_reducible refine split_not ?_ | (refine split_dec ?_ ?_ <;> intro _) | (refine split_bool ?_ ?_ <;> intro _))
  k_with "call ref" => (k_here; k_dflt (refine' Ic.use (c_isleap _ _ _ _ _ _ _) ?k1 ?k2 ?k3 ?k4 ?k5 ?kK ?kd ?ku ?_; (case k1 => k_asm); (case k2 => k_asm); (case k3 => k_asm); (case k4 => k_asm); (case k5 => k_asm); (case kK => first | exact rfl | assumption); (case kd => ktr_room); (case ku => ktr_units); k_whole); intro t9 h9 tk9 F9 N9; (try dsimp only); (try k_sweep); (try k_fold))
  k_with "call ref" => (k_here; k_dflt (refine' Ic.use (c_trunc10 _ _ _ _ _ _ _ _ ?p1) ?k1 ?k2 ?k3 ?k4 ?k5 ?kK ?kd ?ku ?_; (case k1 => k_asm); (case k2 => k_asm); (case k3 => k_asm); (case k4 => k_asm); (case p1 => with_reducible exact oX_p (by assumption)); (case k5 => k_asm); (case kK => first | exact rfl | assumption); (case kd => ktr_room); (case ku => ktr_units); k_whole); intro t9 h9 tk9 F9 N9; (try dsimp only); (try k_sweep); (try k_fold))
  k_with "call ref" => (k_here; k_dflt (refine' Ic.use (c_trunc367 _ _ _ _ _ _ _ _ ?p1) ?k1 ?k2 ?k3 ?k4 ?k5 ?kK ?kd ?ku ?_; (case k1 => k_asm); (case k2 => k_asm); (case k3 => k_asm); (case k4 => k_asm); (case p1 => with_reducible exact oM_p (by assumption)); (case k5 => k_asm); (case kK => first | exact rfl | assumption); (case kd => ktr_room); (case ku => ktr_units); k_whole); intro t9 h9 tk9 F9 N9; (try dsimp only); (try k_sweep); (try k_fold))
  k_with "exec If" => (k_here; k_dflt ((rename Jz _ _ => jz9); (refine' joinI jz9 ?kF ?kN ?kw ?_); (case kF => k_asm); (case kN => k_asm); (case kw => ((try clear jz9); (repeat ((rename Jz _ _ => jy9); clear jy9)); (repeat ((rename Jy _ _ _ _ => jy9); clear jy9)); intro Q9 go9; skip; all_goals k_steps; all_goals (first | (with_reducible refine endJ go9 (by assumption) (by assumption) (by intro p9 h9; repeat (first | with_reducible exact h9 | with_reducible refine List.mem_cons_of_mem _ ?_)) ?_) | (with_reducible (refine' endJ0 go9 (by assumption) (by assumption) (by intro p9 h9; repeat (first | with_reducible exact h9 | with_reducible refine List.mem_cons_of_mem _ ?_)) ?hv ?_; (case hv => k_dflt rfl)))); all_goals (first | with_reducible exact oX_1 (by assumption) | with_reducible exact oX_2 (by assumption) | with_reducible exact oT_1 (by assumption) | with_reducible exact oT_2 (by assumption) | with_reducible exact oA_0 (by assumption) | with_reducible exact oA_1 (by assumption) (by assumption) | with_reducible exact oA_2 (by assumption) (by assumption)))); intro t9 h9 tk9 m9 F9 N9; clear jz9; (try k_sweep)))
  k_with "call ref" => (k_here; k_dflt (refine' Pc.use (c_oOf _ _ _ _ _ _ _ _ _ _ _ ?p1) ?k1 ?k2 ?k3 ?k4 ?k5 ?kK ?kd ?ku ?_; (case k1 => k_asm); (case k2 => k_asm); (case k3 => k_asm); (case k4 => k_asm); (case p1 => with_reducible exact oM_0 (by assumption)); (case k5 => k_asm); (case kK => first | exact rfl | assumption); (case kd => ktr_room); (case ku => ktr_units); k_whole); intro D9 t19 t29 c9 h9 tk9 n9 F9 N9; (try dsimp only); (try k_sweep); (try k_fold))
  intro dp un gd cn cs a ccd cl outer A₀ base h₀ L mm news s Q E B F X N hold T hk hd hu hret
  have : Jz (Str.ofString "leap_adj") (oA y n) := .mk _ _
  refine wpAny_call ?_
  k_dflt cell_enter
  k_steps
  all_goals (refine endT hret (by k_asm) (by k_asm) (by first | exact List.mem_cons_self | k_mem) (by intro p9 h9; repeat (first | with_reducible exact h9 | with_reducible refine List.mem_cons_of_mem _ ?_)) ?_)
  all_goals exact ⟨rfl, rfl, rfl⟩
end
end Mine
end
section
namespace Mine
open PySem.Spec PySem.Calls
set_option maxHeartbeats 1000000
section
theorem c_long0 (w : World) (loose : List Str) (mean : ExcName → Option Value) (mg mb : Str → Option Value) (k y : Int) (t1 t2 : Tok) (hk0 : k = 0) :
    Ic w loose mean mg mb 1 191 [.int k t1, .int y t2] (fun _ => .bool (isl y)) := by
  k_with_none
  k_with "eval Call Name" => (k_here; k_dflt (refine Call_ ?_))
  k_with "storeName" => (k_here; k_dflt (refine' storeL ?F ?N ?_ ?a ?b; (case F => k_asm); (case N => k_asm); (case a => rfl); (case b => rfl); k_whole); intro h9 tk9 m9 F9 N9; (try k_sweep))
  k_with "newTuple" => (k_here; k_dflt (refine' tupL ?F ?N ?_ ?z; (case F => k_asm); (case N => k_asm); (case z => kmk_size)); intro D9 h9 tk9 n9 F9 N9; (try k_sweep))
  k_with "ite" => (k_here; k_openite; first | (refine ite_pos (by ((try simp only [beq_iff_eq, bne_iff_ne, List.any_cons, List.any_nil, Bool.or_false, Bool.or_eq_true, decide_eq_true_eq]); first | with_reducible assumption | omega)) ?_; walk_say "DECIDED") | (refine ite_neg (by ((try simp only [beq_iff_eq, bne_iff_ne, List.any_cons, List.any_nil, Bool.or_false, Bool.or_eq_true, decide_eq_true_eq, Bool.not_eq_true, not_or]); first | with_reducible assumption | omega)) ?_; walk_say "DECIDED") | with_reducible refine ite_tt ?_ | with_reducible refine ite_ff ?_ | (with_reducible refine split_ine ?_ ?_ <;> intro _) | (with_reducible refine split_ieq ?_ ?_ <;> intro _) | with_reducible refine split_not ?_ | (refine split_dec ?_ ?_ <;> intro _) | (refine split_bool ?_ ?_ <;> intro _))
  subst hk0
  intro dp un gd cn cs a ccd cl outer A₀ base h₀ L mm news s Q E B F X N T hk hd hu hret
  refine wpAny_call ?_
  k_dflt cell_enter
  k_steps
  all_goals (refine endB hret (by k_asm) (by k_asm) (fun _ h => h) ?_)
  all_goals (simp only [fm, Int.reduceLE] at *; unfold isl; rw [Bool.eq_iff_iff]; simp; omega)
theorem c_long1 (w : World) (loose : List Str) (mean : ExcName → Option Value) (mg mb : Str → Option Value) (k y : Int) (t1 t2 : Tok) (hk0 : k = 1) :
    Ic w loose mean mg mb 1 191 [.int k t1, .int y t2] (fun _ => .bool (lj y)) := by
  k_with_none
  k_with "eval Call Name" => (k_here; k_dflt (refine Call_ ?_))
  k_with "storeName" => (k_here; k_dflt (refine' storeL ?F ?N ?_ ?a ?b; (case F => k_asm); (case N => k_asm); (case a => rfl); (case b => rfl); k_whole); intro h9 tk9 m9 F9 N9; (try k_sweep))
  k_with "newTuple" => (k_here; k_dflt (refine' tupL ?F ?N ?_ ?z; (case F => k_asm); (case N => k_asm); (case z => kmk_size)); intro D9 h9 tk9 n9 F9 N9; (try k_sweep))
  k_with "ite" => (k_here; k_openite; first | (refine ite_pos (by ((try simp only [beq_iff_eq, bne_iff_ne, List.any_cons, List.any_nil, Bool.or_false, Bool.or_eq_true, decide_eq_true_eq]); first | with_reducible assumption | omega)) ?_; walk_say "DECIDED") | (refine ite_neg (by ((try simp only [beq_iff_eq, bne_iff_ne, List.any_cons, List.any_nil, Bool.or_false, Bool.or_eq_true, decide_eq_true_eq, Bool.not_eq_true, not_or]); first | with_reducible assumption | omega)) ?_; walk_say "DECIDED") | with_reducible refine ite_tt ?_ | with_reducible refine ite_ff ?_ | (with_reducible refine split_ine ?_ ?_ <;> intro _) | (with_reducible refine split_ieq ?_ ?_ <;> intro _) | with_reducible refine split_not ?_ | (refine split_dec ?_ ?_ <;> intro _) | (refine split_bool ?_ ?_ <;> intro _))
  subst hk0
  intro dp un gd cn cs a ccd cl outer A₀ base h₀ L mm news s Q E B F X N T hk hd hu hret
  refine wpAny_call ?_
  k_dflt cell_enter
  k_steps
  all_goals (refine endB hret (by k_asm) (by k_asm) (fun _ h => h) ?_)
  all_goals (simp only [fm, Int.reduceLE]; unfold lj; rw [Bool.eq_iff_iff]; simp)
end
noncomputable def LTab (vs : List Value) (news : List (Addr × Obj)) (fs gs : List Int) : Prop :=
  ∀ i < fs.length, ∃ (a : Addr) (t1 t2 : Tok) (c : Nat), vs[i]? = some (.ref a) ∧ (a, tup2 (fs.getD i 0) (gs.getD i 0) t1 t2 c) ∈ news
noncomputable def Lc (w : World) (loose : List Str) (mean : ExcName → Option Value) (mg mb : Str → Option Value) (n : Nat) (f : Addr) (fs gs : List Int) : Prop :=
  ∀ (dp un : Nat) (gd : Option (List Code)) (cn : Str) (cs : Scope) (a : Addr) (ccd : Value) (cl : List (Str × Addr)) (outer : List Env) (A₀ : Around) (base h₀ : Heap) (L : Addr) (m : Str → Option Value) (news : List (Addr × Obj)) (s : Shared) (Q E : Value → Shared → Prop),
    Below A₀ base outer h₀ → Fr h₀ L s.heap m → (ah_hd.heap_39 w.params).In h₀ → News h₀ L s.heap news → Top ah_hd.view_39 loose mean mg mb h₀ → cs.kind = .function →
    dp + n < recursionLimit → un + 8 * n < cLine →
    (∀ (D : Addr) (vs : List Value) (c : Nat) (news' : List (Addr × Obj)) (h' : Heap) (tk' : Nat), Fr h₀ L h' m → News h₀ L h' news' → (∀ p ∈ news, p ∈ news') → (D, listOf vs.toArray c) ∈ news' → LTab vs news' fs gs → Q (.ref D) { s with heap := h', toks := tk' }) →
    wpAny (model Pg w) (ktrTop dp un gd cn cs L a ccd cl outer) (call (.ref f) ([] ++ [])) Q E s
section
variable {w : World} {loose : List Str} {mean : ExcName → Option Value} {mg mb : Str → Option Value} {n : Nat} {f : Addr} {fs gs : List Int}
variable {dp un : Nat} {gd : Option (List Code)} {cn : Str} {cs : Scope} {a : Addr} {ccd : Value} {cl : List (Str × Addr)} {outer : List Env} {A₀ : Around} {base h₀ : Heap} {L : Addr} {m : Str → Option Value} {news : List (Addr × Obj)} {s : Shared} {Q E : Value → Shared → Prop}
theorem Lc.use (C : Lc w loose mean mg mb n f fs gs) (B : Below A₀ base outer h₀) (F : Fr h₀ L s.heap m) (X : (ah_hd.heap_39 w.params).In h₀) (N : News h₀ L s.heap news) (T : Top ah_hd.view_39 loose mean mg mb h₀) (hk : cs.kind = .function)
    (hd : dp + n < recursionLimit) (hu : un + 8 * n < cLine)
    (ret : ∀ (D : Addr) (vs : List Value) (c : Nat) (news' : List (Addr × Obj)) (h' : Heap) (tk' : Nat), Fr h₀ L h' m → News h₀ L h' news' → (∀ p ∈ news, p ∈ news') → (D, listOf vs.toArray c) ∈ news' → LTab vs news' fs gs → Q (.ref D) { s with heap := h', toks := tk' }) :
    wpAny (model Pg w) (ktrTop dp un gd cn cs L a ccd cl outer) (call (.ref f) ([] ++ [])) Q E s := C _ _ _ _ _ _ _ _ _ _ _ _ _ _ _ _ _ _ B F X N T hk hd hu ret
end
theorem endL {h₀ h' : Heap} {L D : Addr} {m : Str → Option Value} {news news' : List (Addr × Obj)} {s : Shared} {Q : Value → Shared → Prop} {tk' : Nat} {vs : List Value} {c : Nat} {fs gs : List Int}
    (hret : ∀ (D : Addr) (vs : List Value) (c : Nat) (news' : List (Addr × Obj)) (h' : Heap) (tk' : Nat), Fr h₀ L h' m → News h₀ L h' news' → (∀ p ∈ news, p ∈ news') → (D, listOf vs.toArray c) ∈ news' → LTab vs news' fs gs → Q (.ref D) { s with heap := h', toks := tk' })
    (F : Fr h₀ L h' m) (N : News h₀ L h' news') (hs : ∀ p ∈ news, p ∈ news') (hm : (D, listOf vs.toArray c) ∈ news') (ht : LTab vs news' fs gs) : Q (.ref D) { s with heap := h', toks := tk' } := hret D vs c news' h' tk' F N hs hm ht
noncomputable abbrev sf : List Int := [3, 4, 5, 6, 7, 8, 9, 10, 11, 12, 1, 2]
noncomputable abbrev sg : List Int := [22, 21, 22, 22, 23, 23, 23, 23, 22, 22, 21, 20]
noncomputable abbrev cf : List Int := [8, 9, 10, 11, 12, 1, 2, 3, 4, 5, 6, 7, 8]
noncomputable abbrev cg : List Int := [29, 28, 28, 27, 27, 26, 25, 27, 26, 26, 25, 25, 24]
theorem listL {M : PySem.Model} {A : Around} {E : Value → Shared → Prop} {s : Shared} {h₀ : Heap} {L : Addr} {m : Str → Option Value} {news : List (Addr × Obj)} {vs : List Value} {Q : Value → Shared → Prop} (F : Fr h₀ L s.heap m) (N : News h₀ L s.heap news)
    (h : ∀ (D : Addr) (h' : Heap), let n' : List (Addr × Obj) := (D, listOf vs.toArray 0) :: news; Fr h₀ L h' m → News h₀ L h' n' → Q (.ref D) { s with heap := h' }) (hz : vs.length ≤ sizeLine) : wpAny M A (newList vs) Q E s :=
  newList_K F N (fun D h' F' N' _ => h D h' F' N') hz
theorem tup2C {M : PySem.Model} {A : Around} {E : Value → Shared → Prop} {s : Shared} {h₀ : Heap} {L : Addr} {m : Str → Option Value} {news : List (Addr × Obj)} {env : Env} {x y : Int} {k1 k2 k : Nat} {p1 p2 p3 : Pos} {Q : Value → Shared → Prop} (F : Fr h₀ L s.heap m) (N : News h₀ L s.heap news)
    (h : ∀ (D : Addr) (t1 t2 : Tok) (h' : Heap) (tk' : Nat), let n' : List (Addr × Obj) := (D, tup2 x y t1 t2 0) :: news; Fr h₀ L h' m → News h₀ L h' n' → Q (.ref D) { s with heap := h', toks := tk' }) :
    wpAny M A (eval (.Tuple [.Constant (.int x) k1 p1, .Constant (.int y) k2 p2] k p3) env) Q E s := by
  refine Tuple_ (wpAny_items_cons (wpAny_Constant_int ?_) rfl)
  refine wpAny_items_cons (wpAny_Constant_int ?_) rfl
  refine wpAny_items_nil ?_
  exact tupL F N (fun D h' tk' F' N' => h D _ _ h' tk' F' N') (by show 2 ≤ sizeLine; decide)
section
theorem c_saka (w : World) (loose : List Str) (mean : ExcName → Option Value) (mg mb : Str → Option Value) : Lc w loose mean mg mb 1 177 sf sg := by
  k_with_none
  k_with "eval Call Name" => (k_here; k_dflt (refine Call_ ?_))
  k_with "eval Tuple" => (k_here; k_dflt (refine' tup2C ?F ?N ?_; (case F => k_asm); (case N => k_asm)); intro D9 a9 b9 h9 tk9 n9 F9 N9; (try k_sweep))
  k_with "newTuple" => (k_here; k_dflt (refine' tupL ?F ?N ?_ ?z; (case F => k_asm); (case N => k_asm); (case z => kmk_size)); intro D9 h9 tk9 n9 F9 N9; (try k_sweep))
  k_with "newList" => (k_here; k_dflt (refine' listL ?F ?N ?_ ?z; (case F => k_asm); (case N => k_asm); (case z => kmk_size)); intro D9 h9 n9 F9 N9; (try k_sweep))
  intro dp un gd cn cs a ccd cl outer A₀ base h₀ L mm news s Q E B F X N T hk hd hu hret
  refine wpAny_call ?_
  k_dflt cell_enter
  k_steps
  all_goals (refine endL hret (by k_asm) (by k_asm) (by intro p9 h9; repeat (first | with_reducible exact h9 | with_reducible refine List.mem_cons_of_mem _ ?_)) (by k_mem) ?_)
  all_goals (
    intro i hi
    have hi' : i < 12 := hi
    clear hi
    (iterate 12 (rcases i with _ | i; (refine' ⟨_, _, _, _, rfl, ?m9⟩; (case m9 => repeat (first | exact List.mem_cons_self | refine List.mem_cons_of_mem _ ?_))); replace hi' := Nat.lt_of_succ_lt_succ hi'))
    exact absurd hi' (Nat.not_lt_zero _))
theorem c_copt (w : World) (loose : List Str) (mean : ExcName → Option Value) (mg mb : Str → Option Value) : Lc w loose mean mg mb 1 184 cf cg := by
  k_with_none
  k_with "eval Call Name" => (k_here; k_dflt (refine Call_ ?_))
  k_with "eval Tuple" => (k_here; k_dflt (refine' tup2C ?F ?N ?_; (case F => k_asm); (case N => k_asm)); intro D9 a9 b9 h9 tk9 n9 F9 N9; (try k_sweep))
  k_with "newTuple" => (k_here; k_dflt (refine' tupL ?F ?N ?_ ?z; (case F => k_asm); (case N => k_asm); (case z => kmk_size)); intro D9 h9 tk9 n9 F9 N9; (try k_sweep))
  k_with "newList" => (k_here; k_dflt (refine' listL ?F ?N ?_ ?z; (case F => k_asm); (case N => k_asm); (case z => kmk_size)); intro D9 h9 n9 F9 N9; (try k_sweep))
  intro dp un gd cn cs a ccd cl outer A₀ base h₀ L mm news s Q E B F X N T hk hd hu hret
  refine wpAny_call ?_
  k_dflt cell_enter
  k_steps
  all_goals (refine endL hret (by k_asm) (by k_asm) (by intro p9 h9; repeat (first | with_reducible exact h9 | with_reducible refine List.mem_cons_of_mem _ ?_)) (by k_mem) ?_)
  all_goals (
    intro i hi
    have hi' : i < 13 := hi
    clear hi
    (iterate 13 (rcases i with _ | i; (refine' ⟨_, _, _, _, rfl, ?m9⟩; (case m9 => repeat (first | exact List.mem_cons_self | refine List.mem_cons_of_mem _ ?_))); replace hi' := Nat.lt_of_succ_lt_succ hi'))
    exact absurd hi' (Nat.not_lt_zero _))
end
end Mine
end
section
namespace Mine
open PySem.Spec PySem.Calls
set_option maxHeartbeats 1000000
theorem sub_tab {prog : Program} {w : World} {A : Around} {E : Value → Shared → Prop} {s : Shared} {value slice : PySem.Expr} {l : Addr} {k : Int} {u : Tok} {vs : List Value} {n : Nat} {h₀ : Heap} {L : Addr} {news : List (Addr × Obj)} {fs gs : List Int} {Q : Value → Shared → Prop}
    (N : News h₀ L s.heap news) (hm : (l, listOf vs.toArray n) ∈ news) (ht : LTab vs news fs gs) (h0 : 0 ≤ k) (hk : k < fs.length) (hhi : k < 2 ^ 63)
    (h : ∀ (a : Addr) (t1 t2 : Tok) (c : Nat), (a, tup2 (fs.getD k.toNat 0) (gs.getD k.toNat 0) t1 t2 c) ∈ news → Q (.ref a) s)
    (hs : subscripted slice false (.ref l) (.int k u) = operate [.ref l, .int k u] (getItem (.ref l) (.int k u)) := by with_unfolding_all rfl) :
    wpAny (model prog w) A (subscriptTail value slice (.ref l) (.int k u)) Q E s := by
  obtain ⟨a, t1, t2, c, hx, hin⟩ := ht k.toNat (by omega)
  have hl : s.heap.IsList l vs.toArray := ⟨_, (N _ hm).1, rfl, n, rfl⟩
  exact tail_any hl.typeIs slot_list_getitem.lookup (wpAny_getItem_list hl h0 hhi (by simpa using hx) (h a t1 t2 c hin)) hs
theorem sub_of {p : Addr × Obj} {n n' : List (Addr × Obj)} (h : ∀ p ∈ n, p ∈ n') (hp : p ∈ n) : p ∈ n' := h p hp
noncomputable def m00 (m : Int) : Int := if m = 13 then 1 else m
noncomputable def y00 (y m : Int) : Int := if m = 13 then y + 1 else y
theorem ma_0 {m : Int} (h : m = 13) : 1 = m00 m := (if_pos h).symm
theorem mb_0 {m : Int} (h : m ≠ 13) : m = m00 m := (if_neg h).symm
theorem ya_0 {y m : Int} (h : m = 13) : y + 1 = y00 y m := (if_pos h).symm
theorem yb_0 {y m : Int} (h : m ≠ 13) : y = y00 y m := (if_neg h).symm
noncomputable def m01 (m : Int) : Int := if m = 14 then 1 else m
noncomputable def y01 (y m : Int) : Int := if m = 14 then y + 1 else y
theorem ma_1 {m : Int} (h : m = 14) : 1 = m01 m := (if_pos h).symm
theorem mb_1 {m : Int} (h : m ≠ 14) : m = m01 m := (if_neg h).symm
theorem ya_1 {y m : Int} (h : m = 14) : y + 1 = y01 y m := (if_pos h).symm
theorem yb_1 {y m : Int} (h : m ≠ 14) : y = y01 y m := (if_neg h).symm
theorem mz_00 {m : Int} (h1 : 1 ≤ m) (h2 : m ≤ 13) : 1 ≤ m00 m ∧ m00 m ≤ 12 := by
  unfold m00; split <;> omega
theorem mz_01 {m : Int} (h1 : 1 ≤ m) (h2 : m ≤ 14) : 1 ≤ m01 m ∧ m01 m ≤ 13 := by
  unfold m01; split <;> omega
theorem bm_0 {m : Int} (h1 : 1 ≤ m) (h2 : m ≤ 13) : sf.getD (m00 m - 1).toNat 0 = bM0 m :=
  of_decide_eq_true (fin2 (n := 13) (p := fun m => decide (sf.getD (m00 m - 1).toNat 0 = bM0 m)) (by decide +kernel) h1 h2)
theorem bm_1 {m : Int} (h1 : 1 ≤ m) (h2 : m ≤ 14) : cf.getD (m01 m - 1).toNat 0 = bM1 m :=
  of_decide_eq_true (fin2 (n := 14) (p := fun m => decide (cf.getD (m01 m - 1).toNat 0 = bM1 m)) (by decide +kernel) h1 h2)
theorem by_0a {y m : Int} (h2 : m ≤ 13) (h : 10 < m00 m) : y00 y m + 79 = bY0 y m := by
  unfold m00 at h; unfold y00 bY0; split at h
  · omega
  · next q => rw [if_neg q, if_neg (by omega), if_pos (by omega)]
theorem by_0b {y m : Int} (h : ¬ 10 < m00 m) : y00 y m + 78 = bY0 y m := by
  unfold m00 at h; unfold y00 bY0; split at h
  · next q => rw [if_pos q, if_neg (by omega), if_neg (by omega)]
  · next q => rw [if_neg q, if_pos (by omega)]
theorem by_1a {y m : Int} (h2 : m ≤ 14) (h : 5 < m01 m) : y01 y m + 284 = bY1 y m := by
  unfold m01 at h; unfold y01 bY1; split at h
  · omega
  · next q => rw [if_neg q, if_neg (by omega), if_pos (by omega)]
theorem by_1b {y m : Int} (h : ¬ 5 < m01 m) : y01 y m + 283 = bY1 y m := by
  unfold m01 at h; unfold y01 bY1; split at h
  · next q => rw [if_pos q, if_neg (by omega), if_neg (by omega)]
  · next q => rw [if_neg q, if_pos (by omega)]
theorem m00_1 {m : Int} (h : m00 m = 1) : m = 1 ∨ m = 13 := by
  unfold m00 at h; split at h
  · exact .inr (by assumption)
  · exact .inl h
theorem bd_0x {y m : Int} (h1 : 1 ≤ m) (h2 : m ≤ 13) (h : m00 m = 1) : bD0 y m = 22 - lp (y00 y m + 78) := by
  unfold y00
  rcases m00_1 h with e | e <;> subst e <;> rfl
theorem bd_0t {y m : Int} (h1 : 1 ≤ m) (h2 : m ≤ 13) (h : m00 m = 1) (hl : isl (y00 y m + 78) = true) : 21 = bD0 y m := by
  rw [bd_0x h1 h2 h, lp_t hl]; decide
theorem bd_0f {y m : Int} (h1 : 1 ≤ m) (h2 : m ≤ 13) (h : m00 m = 1) (hl : isl (y00 y m + 78) = false) : sg.getD (m00 m - 1).toNat 0 = bD0 y m := by
  rw [bd_0x h1 h2 h, lp_f hl, h]; decide
theorem bd_0n {y m : Int} (h1 : 1 ≤ m) (h2 : m ≤ 13) (h : m00 m ≠ 1) : sg.getD (m00 m - 1).toNat 0 = bD0 y m := by
  have t : m00 m ≠ 1 → bDF 0 0 m = sg.getD (m00 m - 1).toNat 0 := of_decide_eq_true (fin2 (n := 13) (p := fun m => decide (m00 m ≠ 1 → bDF 0 0 m = sg.getD (m00 m - 1).toNat 0)) (by decide +kernel) h1 h2)
  rw [← t h, bD_F]
  have n1 : m ≠ 1 := fun e => h (by subst e; decide)
  have n13 : m ≠ 13 := fun e => h (by subst e; decide)
  unfold bDF
  rw [if_neg n1, if_neg n1]
  have l : m = 2 ∨ m = 3 ∨ m = 4 ∨ m = 5 ∨ m = 6 ∨ m = 7 ∨ m = 8 ∨ m = 9 ∨ m = 10 ∨ m = 11 ∨ m = 12 := by
    rcases m13 h1 h2 with e | e | e | e | e | e | e | e | e | e | e | e | e
    · exact absurd e n1
    all_goals first | exact absurd e n13 | (subst e; decide)
  rcases l with e | e | e | e | e | e | e | e | e | e | e <;> subst e <;> rfl
theorem lq_1 {y : Int} (h : y.fmod 4 = 0) : lq y = 1 := by rw [fm (by decide)] at h; exact if_pos (decide_eq_true h)
theorem lq_0 {y : Int} (h : y.fmod 4 ≠ 0) : lq y = 0 := by rw [fm (by decide)] at h; exact if_neg (fun q => h (of_decide_eq_true q))
noncomputable def bGF (b a m : Int) : Int := if m = 1 then 29 + a else if m = 2 then 28 + a else if m = 3 then 28 + a else if m = 4 then 27 + a else if m = 5 then 27 + a else if m = 6 then 26 + a else if m = 7 then 25 + a else if m = 8 then 27 else if m = 9 then 26 else if m = 10 then 26 else if m = 11 then 25 else if m = 12 then 25 else if m = 13 then 24 else 29 + b
theorem bd_1 {b a m : Int} (h1 : 1 ≤ m) (h2 : m ≤ 14) (ha : a = 0 ∨ a = 1) (hb : b = 0 ∨ b = 1) : bGF b a m = cg.getD (m01 m - 1).toNat 0 + (if m01 m < 8 then (if m = 14 then b else a) else 0) := by
  rcases ha with e | e <;> rcases hb with e2 | e2 <;> subst e <;> subst e2
  · exact of_decide_eq_true (fin2 (n := 14) (p := fun m => decide (bGF 0 0 m = cg.getD (m01 m - 1).toNat 0 + (if m01 m < 8 then (if m = 14 then 0 else 0) else 0))) (by decide +kernel) h1 h2)
  · exact of_decide_eq_true (fin2 (n := 14) (p := fun m => decide (bGF 1 0 m = cg.getD (m01 m - 1).toNat 0 + (if m01 m < 8 then (if m = 14 then 1 else 0) else 0))) (by decide +kernel) h1 h2)
  · exact of_decide_eq_true (fin2 (n := 14) (p := fun m => decide (bGF 0 1 m = cg.getD (m01 m - 1).toNat 0 + (if m01 m < 8 then (if m = 14 then 0 else 1) else 0))) (by decide +kernel) h1 h2)
  · exact of_decide_eq_true (fin2 (n := 14) (p := fun m => decide (bGF 1 1 m = cg.getD (m01 m - 1).toNat 0 + (if m01 m < 8 then (if m = 14 then 1 else 1) else 0))) (by decide +kernel) h1 h2)
theorem bd_1x {y m : Int} (h1 : 1 ≤ m) (h2 : m ≤ 14) : bD1 y m = cg.getD (m01 m - 1).toNat 0 + (if m01 m < 8 then lq (y01 y m) else 0) := by
  have w1 := lq_ways y
  have w2 := lq_ways (y + 1)
  have t := bd_1 (a := lq y) (b := lq (y + 1)) h1 h2 (w1.elim (fun h => .inr h.1) fun h => .inl h.1) (w2.elim (fun h => .inr h.1) fun h => .inl h.1)
  refine Eq.trans (show bD1 y m = bGF (lq (y + 1)) (lq y) m from rfl) (t.trans ?_)
  unfold y01
  split
  · split <;> rfl
  · rfl
theorem bd_1t {y m : Int} (h1 : 1 ≤ m) (h2 : m ≤ 14) (h : m01 m < 8) (hl : (y01 y m).fmod 4 = 0) : cg.getD (m01 m - 1).toNat 0 + 1 = bD1 y m := by
  rw [bd_1x h1 h2, if_pos h, lq_1 hl]
theorem bd_1f {y m : Int} (h1 : 1 ≤ m) (h2 : m ≤ 14) (h : m01 m < 8) (hl : (y01 y m).fmod 4 ≠ 0) : cg.getD (m01 m - 1).toNat 0 = bD1 y m := by
  rw [bd_1x h1 h2, if_pos h, lq_0 hl, Int.add_zero]
theorem bd_1n {y m : Int} (h1 : 1 ≤ m) (h2 : m ≤ 14) (h : ¬ m01 m < 8) : cg.getD (m01 m - 1).toNat 0 = bD1 y m := by
  rw [bd_1x h1 h2, if_neg h, Int.add_zero]
theorem lt63 {k : Int} (h : k < 13) : k < 2 ^ 63 := Int.lt_trans h (by decide)
theorem mz_0 {m : Int} (h1 : 1 ≤ m) (h2 : m ≤ 13) : 0 ≤ m00 m - 1 ∧ m00 m - 1 < 12 ∧ m00 m - 1 < 2 ^ 63 := by
  have := mz_00 h1 h2
  exact ⟨by omega, by omega, lt63 (by omega)⟩
theorem mz_1 {m : Int} (h1 : 1 ≤ m) (h2 : m ≤ 14) : 0 ≤ m01 m - 1 ∧ m01 m - 1 < 13 ∧ m01 m - 1 < 2 ^ 63 := by
  have := mz_01 h1 h2
  exact ⟨by omega, by omega, lt63 (by omega)⟩
section
theorem c_begin0 (w : World) (loose : List Str) (mean : ExcName → Option Value) (mg mb : Str → Option Value) (k y m : Int) (t1 t2 t3 : Tok) (hk0 : k = 0) (h1 : 1 ≤ m) (h2 : m ≤ 13) :
    Tc w loose mean mg mb 3 198 [] [.int k t1, .int y t2, .int m t3] (bY0 y m) (bM0 m) (bD0 y m) := by
  k_with_none
  k_with "eval Call Name" => (k_here; k_dflt (refine Call_ ?_))
  k_with "storeName" => (k_here; k_dflt (refine' storeL ?F ?N ?_ ?a ?b; (case F => k_asm); (case N => k_asm); (case a => rfl); (case b => rfl); k_whole); intro h9 tk9 m9 F9 N9; (try k_sweep))
  k_with "newTuple" => (k_here; k_dflt (refine' tupL ?F ?N ?_ ?z; (case F => k_asm); (case N => k_asm); (case z => kmk_size)); intro D9 h9 tk9 n9 F9 N9; (try k_sweep))
  k_with "assign Tuple" => (k_here; (with_reducible show wpAny _ _ (assign (PySem.Expr.Tuple _ _ _) _ (Value.ref _)) _ _ _); k_dflt (refine' unpackN_ ?k1 ?k2 ?k3 ?k4 ?k5 ?k6 ?_; (case k1 => k_asm); (case k2 => k_asm); (case k3 => (refine' News.isTup ?j1 ?j2; (case j1 => k_asm); (case j2 => first | with_reducible assumption | (repeat (first | exact List.mem_cons_self | with_reducible refine List.mem_cons_of_mem _ ?_))))); (case k4 => exact rfl); (case k5 => exact rfl); (case k6 => exact rfl); k_whole); intro h9 F9 N9; (try k_sweep))
  k_with "ite" => (k_here; k_openite; first | (refine ite_pos (by ((try simp only [beq_iff_eq, bne_iff_ne, List.any_cons, List.any_nil, Bool.or_false, Bool.or_eq_true, decide_eq_true_eq]); first | with_reducible assumption | omega)) ?_; walk_say "DECIDED") | (refine ite_neg (by ((try simp only [beq_iff_eq, bne_iff_ne, List.any_cons, List.any_nil, Bool.or_false, Bool.or_eq_true, decide_eq_true_eq, Bool.not_eq_true, not_or]); first | with_reducible assumption | omega)) ?_; walk_say "DECIDED") | with_reducible refine ite_tt ?_ | with_reducible refine ite_ff ?_ | (with_reducible refine split_ine ?_ ?_ <;> intro _) | (with_reducible refine split_ieq ?_ ?_ <;> intro _) | with_reducible refine split_not ?_ | (refine split_dec ?_ ?_ <;> intro _) | (refine split_bool ?_ ?_ <;> intro _))
  k_with "call ref" => (k_here; k_dflt (refine' Ic.use (c_long0 _ _ _ _ _ _ _ _ _ ?p1) ?k1 ?k2 ?k3 ?k4 ?k5 ?kK ?kd ?ku ?_; (case k1 => k_asm); (case k2 => k_asm); (case k3 => k_asm); (case k4 => k_asm); (case p1 => first | with_reducible assumption | rfl); (case k5 => k_asm); (case kK => first | exact rfl | assumption); (case kd => ktr_room); (case ku => ktr_units); k_whole); intro t9 h9 tk9 F9 N9; (try dsimp only); (try k_sweep); (try k_fold))
  k_with "call ref" => (k_here; k_dflt (refine' Lc.use (c_saka _ _ _ _ _) ?k1 ?k2 ?k3 ?k4 ?k5 ?kK ?kd ?ku ?_; (case k1 => k_asm); (case k2 => k_asm); (case k3 => k_asm); (case k4 => k_asm); (case k5 => k_asm); (case kK => first | exact rfl | assumption); (case kd => ktr_room); (case ku => ktr_units); k_whole); intro D9 vs9 c9 news9 h9 tk9 F9 N9 hs9 hm9 ht9; (try dsimp only); (try k_sweep); (try k_fold))
  k_with "call ref" => (k_here; k_dflt (refine' Lc.use (c_copt _ _ _ _ _) ?k1 ?k2 ?k3 ?k4 ?k5 ?kK ?kd ?ku ?_; (case k1 => k_asm); (case k2 => k_asm); (case k3 => k_asm); (case k4 => k_asm); (case k5 => k_asm); (case kK => first | exact rfl | assumption); (case kd => ktr_room); (case ku => ktr_units); k_whole); intro D9 vs9 c9 news9 h9 tk9 F9 N9 hs9 hm9 ht9; (try dsimp only); (try k_sweep); (try k_fold))
  k_with "subscriptTail" => (k_here; (rename LTab _ _ _ _ => hTab); (with_unfolding_all refine' sub_tab ?k1 ?k2 hTab ?k3 ?k4 ?k5 ?_ ?k6; (case k1 => k_asm); (case k2 => k_asm); (case k3 => with_reducible exact (mz_0 (by assumption) (by assumption)).1); (case k4 => exact (mz_0 (by assumption) (by assumption)).2.1); (case k5 => with_reducible exact (mz_0 (by assumption) (by assumption)).2.2); (case k6 => with_unfolding_all rfl); k_whole); intro a9 t19 t29 c9 hm9)
  k_with "exec If" => (k_here; (with_reducible show wpAny _ _ (exec (PySem.Stmt.If _ [_] _ _) _) _ _ _); k_dflt ((rename Jz _ _ => jz9); (refine' joinI jz9 ?kF ?kN ?kw ?_); (case kF => k_asm); (case kN => k_asm); (case kw => ((try clear jz9); (repeat ((rename Jz _ _ => jy9); clear jy9)); (repeat ((rename Jy _ _ _ _ => jy9); clear jy9)); intro Q9 go9; skip; all_goals k_steps; all_goals (first | (with_reducible refine endJ go9 (by assumption) (by assumption) (by intro p9 h9; repeat (first | with_reducible exact h9 | with_reducible refine List.mem_cons_of_mem _ ?_)) ?_) | (with_reducible (refine' endJ0 go9 (by assumption) (by assumption) (by intro p9 h9; repeat (first | with_reducible exact h9 | with_reducible refine List.mem_cons_of_mem _ ?_)) ?hv ?_; (case hv => k_dflt rfl)))); all_goals (first | with_reducible exact ma_0 (by assumption) | with_reducible exact mb_0 (by assumption) | with_reducible exact ya_0 (by assumption) | with_reducible exact yb_0 (by assumption) | with_reducible exact bd_0t (by assumption) (by assumption) (by assumption) (by assumption) | with_reducible exact bd_0f (by assumption) (by assumption) (by assumption) (by assumption) | with_reducible exact bd_0n (by assumption) (by assumption) (by assumption)))); intro t9 h9 tk9 m9 F9 N9; clear jz9; (try k_sweep)))
  k_with "exec If" => (k_here; (with_reducible show wpAny _ _ (exec (PySem.Stmt.If _ [_] _ _) _) _ _ _); k_dflt ((rename Jy _ _ _ _ => jz9); (refine' joinI2 jz9 ?kF ?kN ?kw ?_); (case kF => k_asm); (case kN => k_asm); (case kw => ((try clear jz9); (repeat ((rename Jz _ _ => jy9); clear jy9)); (repeat ((rename Jy _ _ _ _ => jy9); clear jy9)); intro Q9 go9; skip; all_goals k_steps; all_goals (first | (with_reducible refine endJ2 go9 (by assumption) (by assumption) (by intro p9 h9; repeat (first | with_reducible exact h9 | with_reducible refine List.mem_cons_of_mem _ ?_)) ?_ ?_) | (with_reducible (refine' endJ20 go9 (by assumption) (by assumption) (by intro p9 h9; repeat (first | with_reducible exact h9 | with_reducible refine List.mem_cons_of_mem _ ?_)) ?hv ?hw ?_ ?_; (case hv => k_dflt rfl); (case hw => k_dflt rfl)))); all_goals (first | with_reducible exact ma_0 (by assumption) | with_reducible exact mb_0 (by assumption) | with_reducible exact ya_0 (by assumption) | with_reducible exact yb_0 (by assumption) | with_reducible exact bd_0t (by assumption) (by assumption) (by assumption) (by assumption) | with_reducible exact bd_0f (by assumption) (by assumption) (by assumption) (by assumption) | with_reducible exact bd_0n (by assumption) (by assumption) (by assumption)))); intro t9 t99 h9 tk9 m9 F9 N9; clear jz9; (try k_sweep)))
  subst hk0
  intro dp un gd cn cs a ccd cl outer A₀ base h₀ L mm news s Q E B F X N hold T hk hd hu hret
  have : Jz (Str.ofString "day") (bD0 y m) := .mk _ _
  have : Jy (Str.ofString "month") (m00 m) (Str.ofString "year") (y00 y m) := .mk _ _ _ _
  refine wpAny_call ?_
  k_dflt cell_enter
  k_steps
  all_goals (refine endT hret (by k_asm) (by k_asm) (by exact List.mem_cons_self) (by intro p9 h9; repeat (first | with_reducible exact h9 | (with_reducible refine sub_of (by assumption) ?_) | with_reducible refine List.mem_cons_of_mem _ ?_)) ?_)
  all_goals (first | with_reducible exact ⟨by_0a h2 (by assumption), bm_0 h1 h2, rfl⟩ | with_reducible exact ⟨by_0b (by assumption), bm_0 h1 h2, rfl⟩)
end
section
theorem c_begin1 (w : World) (loose : List Str) (mean : ExcName → Option Value) (mg mb : Str → Option Value) (k y m : Int) (t1 t2 t3 : Tok) (hk0 : k = 1) (h1 : 1 ≤ m) (h2 : m ≤ 14) :
    Tc w loose mean mg mb 3 198 [] [.int k t1, .int y t2, .int m t3] (bY1 y m) (bM1 m) (bD1 y m) := by
  k_with_none
  k_with "eval Call Name" => (k_here; k_dflt (refine Call_ ?_))
  k_with "storeName" => (k_here; k_dflt (refine' storeL ?F ?N ?_ ?a ?b; (case F => k_asm); (case N => k_asm); (case a => rfl); (case b => rfl); k_whole); intro h9 tk9 m9 F9 N9; (try k_sweep))
  k_with "newTuple" => (k_here; k_dflt (refine' tupL ?F ?N ?_ ?z; (case F => k_asm); (case N => k_asm); (case z => kmk_size)); intro D9 h9 tk9 n9 F9 N9; (try k_sweep))
  k_with "assign Tuple" => (k_here; (with_reducible show wpAny _ _ (assign (PySem.Expr.Tuple _ _ _) _ (Value.ref _)) _ _ _); k_dflt (refine' unpackN_ ?k1 ?k2 ?k3 ?k4 ?k5 ?k6 ?_; (case k1 => k_asm); (case k2 => k_asm); (case k3 => (refine' News.isTup ?j1 ?j2; (case j1 => k_asm); (case j2 => first | with_reducible assumption | (repeat (first | exact List.mem_cons_self | with_reducible refine List.mem_cons_of_mem _ ?_))))); (case k4 => exact rfl); (case k5 => exact rfl); (case k6 => exact rfl); k_whole); intro h9 F9 N9; (try k_sweep))
  k_with "ite" => (k_here; k_openite; first | (refine ite_pos (by ((try simp only [beq_iff_eq, bne_iff_ne, List.any_cons, List.any_nil, Bool.or_false, Bool.or_eq_true, decide_eq_true_eq]); first | with_reducible assumption | omega)) ?_; walk_say "DECIDED") | (refine ite_neg (by ((try simp only [beq_iff_eq, bne_iff_ne, List.any_cons, List.any_nil, Bool.or_false, Bool.or_eq_true, decide_eq_true_eq, Bool.not_eq_true, not_or]); first | with_reducible assumption | omega)) ?_; walk_say "DECIDED") | with_reducible refine ite_tt ?_ | with_reducible refine ite_ff ?_ | (with_reducible refine split_ine ?_ ?_ <;> intro _) | (with_reducible refine split_ieq ?_ ?_ <;> intro _) | with_reducible refine split_not ?_ | (refine split_dec ?_ ?_ <;> intro _) | (refine split_bool ?_ ?_ <;> intro _))
  k_with "call ref" => (k_here; k_dflt (refine' Ic.use (c_long0 _ _ _ _ _ _ _ _ _ ?p1) ?k1 ?k2 ?k3 ?k4 ?k5 ?kK ?kd ?ku ?_; (case k1 => k_asm); (case k2 => k_asm); (case k3 => k_asm); (case k4 => k_asm); (case p1 => first | with_reducible assumption | rfl); (case k5 => k_asm); (case kK => first | exact rfl | assumption); (case kd => ktr_room); (case ku => ktr_units); k_whole); intro t9 h9 tk9 F9 N9; (try dsimp only); (try k_sweep); (try k_fold))
  k_with "call ref" => (k_here; k_dflt (refine' Lc.use (c_saka _ _ _ _ _) ?k1 ?k2 ?k3 ?k4 ?k5 ?kK ?kd ?ku ?_; (case k1 => k_asm); (case k2 => k_asm); (case k3 => k_asm); (case k4 => k_asm); (case k5 => k_asm); (case kK => first | exact rfl | assumption); (case kd => ktr_room); (case ku => ktr_units); k_whole); intro D9 vs9 c9 news9 h9 tk9 F9 N9 hs9 hm9 ht9; (try dsimp only); (try k_sweep); (try k_fold))
  k_with "call ref" => (k_here; k_dflt (refine' Lc.use (c_copt _ _ _ _ _) ?k1 ?k2 ?k3 ?k4 ?k5 ?kK ?kd ?ku ?_; (case k1 => k_asm); (case k2 => k_asm); (case k3 => k_asm); (case k4 => k_asm); (case k5 => k_asm); (case kK => first | exact rfl | assumption); (case kd => ktr_room); (case ku => ktr_units); k_whole); intro D9 vs9 c9 news9 h9 tk9 F9 N9 hs9 hm9 ht9; (try dsimp only); (try k_sweep); (try k_fold))
  k_with "subscriptTail" => (k_here; (rename LTab _ _ _ _ => hTab); (with_unfolding_all refine' sub_tab ?k1 ?k2 hTab ?k3 ?k4 ?k5 ?_ ?k6; (case k1 => k_asm); (case k2 => k_asm); (case k3 => with_reducible exact (mz_1 (by assumption) (by assumption)).1); (case k4 => exact (mz_1 (by assumption) (by assumption)).2.1); (case k5 => with_reducible exact (mz_1 (by assumption) (by assumption)).2.2); (case k6 => with_unfolding_all rfl); k_whole); intro a9 t19 t29 c9 hm9)
  k_with "exec If" => (k_here; (with_reducible show wpAny _ _ (exec (PySem.Stmt.If _ [_] _ _) _) _ _ _); k_dflt ((rename Jz _ _ => jz9); (refine' joinI jz9 ?kF ?kN ?kw ?_); (case kF => k_asm); (case kN => k_asm); (case kw => ((try clear jz9); (repeat ((rename Jz _ _ => jy9); clear jy9)); (repeat ((rename Jy _ _ _ _ => jy9); clear jy9)); intro Q9 go9; skip; all_goals k_steps; all_goals (first | (with_reducible refine endJ go9 (by assumption) (by assumption) (by intro p9 h9; repeat (first | with_reducible exact h9 | with_reducible refine List.mem_cons_of_mem _ ?_)) ?_) | (with_reducible (refine' endJ0 go9 (by assumption) (by assumption) (by intro p9 h9; repeat (first | with_reducible exact h9 | with_reducible refine List.mem_cons_of_mem _ ?_)) ?hv ?_; (case hv => k_dflt rfl)))); all_goals (first | with_reducible exact ma_1 (by assumption) | with_reducible exact mb_1 (by assumption) | with_reducible exact ya_1 (by assumption) | with_reducible exact yb_1 (by assumption) | with_reducible exact bd_1t (by assumption) (by assumption) (by assumption) (by assumption) | with_reducible exact bd_1f (by assumption) (by assumption) (by assumption) (by assumption) | with_reducible exact bd_1n (by assumption) (by assumption) (by assumption)))); intro t9 h9 tk9 m9 F9 N9; clear jz9; (try k_sweep)))
  k_with "exec If" => (k_here; (with_reducible show wpAny _ _ (exec (PySem.Stmt.If _ [_] _ _) _) _ _ _); k_dflt ((rename Jy _ _ _ _ => jz9); (refine' joinI2 jz9 ?kF ?kN ?kw ?_); (case kF => k_asm); (case kN => k_asm); (case kw => ((try clear jz9); (repeat ((rename Jz _ _ => jy9); clear jy9)); (repeat ((rename Jy _ _ _ _ => jy9); clear jy9)); intro Q9 go9; skip; all_goals k_steps; all_goals (first | (with_reducible refine endJ2 go9 (by assumption) (by assumption) (by intro p9 h9; repeat (first | with_reducible exact h9 | with_reducible refine List.mem_cons_of_mem _ ?_)) ?_ ?_) | (with_reducible (refine' endJ20 go9 (by assumption) (by assumption) (by intro p9 h9; repeat (first | with_reducible exact h9 | with_reducible refine List.mem_cons_of_mem _ ?_)) ?hv ?hw ?_ ?_; (case hv => k_dflt rfl); (case hw => k_dflt rfl)))); all_goals (first | with_reducible exact ma_1 (by assumption) | with_reducible exact mb_1 (by assumption) | with_reducible exact ya_1 (by assumption) | with_reducible exact yb_1 (by assumption) | with_reducible exact bd_1t (by assumption) (by assumption) (by assumption) (by assumption) | with_reducible exact bd_1f (by assumption) (by assumption) (by assumption) (by assumption) | with_reducible exact bd_1n (by assumption) (by assumption) (by assumption)))); intro t9 t99 h9 tk9 m9 F9 N9; clear jz9; (try k_sweep)))
  subst hk0
  intro dp un gd cn cs a ccd cl outer A₀ base h₀ L mm news s Q E B F X N hold T hk hd hu hret
  have : Jz (Str.ofString "day") (bD1 y m) := .mk _ _
  have : Jy (Str.ofString "month") (m01 m) (Str.ofString "year") (y01 y m) := .mk _ _ _ _
  refine wpAny_call ?_
  k_dflt cell_enter
  k_steps
  all_goals (refine endT hret (by k_asm) (by k_asm) (by exact List.mem_cons_self) (by intro p9 h9; repeat (first | with_reducible exact h9 | (with_reducible refine sub_of (by assumption) ?_) | with_reducible refine List.mem_cons_of_mem _ ?_)) ?_)
  all_goals (first | with_reducible exact ⟨by_1a h2 (by assumption), bm_1 h1 h2, rfl⟩ | with_reducible exact ⟨by_1b (by assumption), bm_1 h1 h2, rfl⟩)
end
end Mine
end
section
namespace Mine
open PySem.Spec PySem.Calls
set_option maxHeartbeats 1000000
section
variable {prog : Program} {w : World} {A : Around} {E : Value → Shared → Prop} {s : Shared} {Q : Value → Shared → Prop} {h₀ : Heap} {L : Addr} {news : List (Addr × Obj)} {env : Env}
theorem join_b {b : Bool} {z c1 c2 : Int} {k1 k2 : Nat} {p1 p2 : Pos} (e1 : b = true → c1 = z) (e2 : b = false → c2 = z) (h : Q (.int z s.toks) { s with toks := s.toks + 1 }) :
    if b = true then wpAny (model prog w) A (eval (.Constant (.int c1) k1 p1) env) Q E s else wpAny (model prog w) A (eval (.Constant (.int c2) k2 p2) env) Q E s := by
  cases b with
  | true => rw [if_pos rfl]; refine wpAny_Constant_int ?_; rw [e1 rfl]; exact h
  | false => rw [if_neg (by decide)]; refine wpAny_Constant_int ?_; rw [e2 rfl]; exact h
theorem join_lp {y c1 c2 : Int} {k1 k2 : Nat} {p1 p2 : Pos} (e : c1 = c2 + 1) (h : Q (.int (c2 + lp y) s.toks) { s with toks := s.toks + 1 }) :
    if isl y = true then wpAny (model prog w) A (eval (.Constant (.int c1) k1 p1) env) Q E s else wpAny (model prog w) A (eval (.Constant (.int c2) k2 p2) env) Q E s :=
  join_b (fun q => by rw [lp_t q]; exact e) (fun q => by rw [lp_f q, Int.add_zero]) h
theorem join_lq {y c1 c2 : Int} {k1 k2 : Nat} {p1 p2 : Pos} (e : c1 = c2 + 1) (h : Q (.int (c2 + lq y) s.toks) { s with toks := s.toks + 1 }) :
    if lj y = true then wpAny (model prog w) A (eval (.Constant (.int c1) k1 p1) env) Q E s else wpAny (model prog w) A (eval (.Constant (.int c2) k2 p2) env) Q E s :=
  join_b (fun q => by rw [show lq y = 1 from if_pos q]; exact e) (fun q => by rw [show lq y = 0 from if_neg (by rw [q]; decide), Int.add_zero]) h
theorem join_6 {y : Int} {k1 k2 : Nat} {p1 p2 : Pos} (h : Q (.int (clen y 13) s.toks) { s with toks := s.toks + 1 }) :
    if (y.fmod 4 == 3) = true then wpAny (model prog w) A (eval (.Constant (.int 6) k1 p1) env) Q E s else wpAny (model prog w) A (eval (.Constant (.int 5) k2 p2) env) Q E s :=
  join_b (fun e => by rw [fm (by decide), beq_iff_eq] at e; unfold clen; rw [if_neg (by decide), if_pos e]) (fun e => by rw [fm (by decide), beq_eq_false_iff_ne] at e; unfold clen; rw [if_neg (by decide), if_neg e]) h
theorem sub_k {value slice : PySem.Expr} {l : Addr} {k z : Int} {u : Tok} {vs : List Value} {n : Nat}
    (N : News h₀ L s.heap news) (hm : (l, listOf vs.toArray n) ∈ news) (h0 : 1 ≤ k) (hx : ∃ t, vs[(k - 1).toNat]? = some (.int z t)) (hhi : k < 64)
    (h : ∀ (t : Tok), Q (.int z t) s)
    (hs : subscripted slice false (.ref l) (.int (k - 1) u) = operate [.ref l, .int (k - 1) u] (getItem (.ref l) (.int (k - 1) u))) :
    wpAny (model prog w) A (subscriptTail value slice (.ref l) (.int (k - 1) u)) Q E s := by
  obtain ⟨t, hx⟩ := hx
  have hl : s.heap.IsList l vs.toArray := ⟨_, (N _ hm).1, rfl, n, rfl⟩
  exact tail_any hl.typeIs slot_list_getitem.lookup (wpAny_getItem_list hl (by omega) (by omega) (by simpa using hx) (h t)) hs
theorem sub_dim0 {value slice : PySem.Expr} {l : Addr} {k y : Int} {u t0 t1 t2 t3 t4 t5 t6 t7 t8 t9 ta tb : Tok} {n : Nat}
    (N : News h₀ L s.heap news) (hm : (l, listOf #[.int 31 t0, .int (28 + lp y) t1, .int 31 t2, .int 30 t3, .int 31 t4, .int 30 t5, .int 31 t6, .int 31 t7, .int 30 t8, .int 31 t9, .int 30 ta, .int 31 tb] n) ∈ news) (h1 : 1 ≤ k) (h2 : k ≤ 12)
    (h : ∀ (t : Tok), Q (.int (dimG y k) t) s)
    (hs : subscripted slice false (.ref l) (.int (k - 1) u) = operate [.ref l, .int (k - 1) u] (getItem (.ref l) (.int (k - 1) u))) :
    wpAny (model prog w) A (subscriptTail value slice (.ref l) (.int (k - 1) u)) Q E s := by
  refine sub_k N hm h1 ?_ (Int.lt_of_le_of_lt h2 (by decide)) h hs
  rw [dim_eq]
  rcases m12 h1 h2 with e | e | e | e | e | e | e | e | e | e | e | e <;> subst e <;> exact ⟨_, rfl⟩
theorem sub_dim1 {value slice : PySem.Expr} {l : Addr} {k y : Int} {u t0 t1 t2 t3 t4 t5 t6 t7 t8 t9 ta tb : Tok} {n : Nat}
    (N : News h₀ L s.heap news) (hm : (l, listOf #[.int 31 t0, .int (28 + lq y) t1, .int 31 t2, .int 30 t3, .int 31 t4, .int 30 t5, .int 31 t6, .int 31 t7, .int 30 t8, .int 31 t9, .int 30 ta, .int 31 tb] n) ∈ news) (h1 : 1 ≤ k) (h2 : k ≤ 12)
    (h : ∀ (t : Tok), Q (.int (dimJ y k) t) s)
    (hs : subscripted slice false (.ref l) (.int (k - 1) u) = operate [.ref l, .int (k - 1) u] (getItem (.ref l) (.int (k - 1) u))) :
    wpAny (model prog w) A (subscriptTail value slice (.ref l) (.int (k - 1) u)) Q E s := by
  refine sub_k N hm h1 ?_ (Int.lt_of_le_of_lt h2 (by decide)) h hs
  rw [dimJ_eq]
  rcases m12 h1 h2 with e | e | e | e | e | e | e | e | e | e | e | e <;> subst e <;> exact ⟨_, rfl⟩
end
theorem on_1 {n a b c : Int} (h : c ≤ n) : a = nY n a b c ∧ b = nM n b c ∧ c = nD n c := by
  unfold nY nM nD; rw [if_pos h, if_pos h, if_pos h]; exact ⟨rfl, rfl, rfl⟩
theorem on_2 {n a b c : Int} (h : ¬ c ≤ n) (hb : b < 12) : a = nY n a b c ∧ b + 1 = nM n b c ∧ c - n = nD n c := by
  unfold nY nM nD; rw [if_neg h, if_neg h, if_neg h, if_pos hb, if_pos hb]; exact ⟨rfl, rfl, rfl⟩
theorem on_3 {n a b c : Int} (h : ¬ c ≤ n) (hb : ¬ b < 12) : a + 1 = nY n a b c ∧ 1 = nM n b c ∧ c - n = nD n c := by
  unfold nY nM nD; rw [if_neg h, if_neg h, if_neg h, if_neg hb, if_neg hb]; exact ⟨rfl, rfl, rfl⟩
section
theorem c_on0 (w : World) (loose : List Str) (mean : ExcName → Option Value) (mg mb : Str → Option Value) (k a' b c e : Int) (D : Addr) (t1 t2 t3 t4 t5 : Tok) (c' : Nat) (hk0 : k = 0) (h1 : 1 ≤ b) (h2 : b ≤ 12) :
    Tc w loose mean mg mb 3 205 [(D, tup3 a' b c t3 t4 t5 c')] [.int k t1, .ref D, .int e t2] (nY (dimG a' b) a' b (c + e)) (nM (dimG a' b) b (c + e)) (nD (dimG a' b) (c + e)) := by
  k_with_none
  k_with "eval Call Name" => (k_here; k_dflt (refine Call_ ?_))
  k_with "storeName" => (k_here; k_dflt (refine' storeL ?F ?N ?_ ?a ?b; (case F => k_asm); (case N => k_asm); (case a => rfl); (case b => rfl); k_whole); intro h9 tk9 m9 F9 N9; (try k_sweep))
  k_with "newTuple" => (k_here; k_dflt (refine' tupL ?F ?N ?_ ?z; (case F => k_asm); (case N => k_asm); (case z => kmk_size)); intro D9 h9 tk9 n9 F9 N9; (try k_sweep))
  k_with "assign Tuple" => (k_here; (with_reducible show wpAny _ _ (assign (PySem.Expr.Tuple _ _ _) _ (Value.ref _)) _ _ _); k_dflt (refine' unpackN_ ?k1 ?k2 ?k3 ?k4 ?k5 ?k6 ?_; (case k1 => k_asm); (case k2 => k_asm); (case k3 => (refine' News.isTup ?j1 ?j2; (case j1 => k_asm); (case j2 => first | with_reducible assumption | (repeat (first | exact List.mem_cons_self | with_reducible refine List.mem_cons_of_mem _ ?_))))); (case k4 => exact rfl); (case k5 => exact rfl); (case k6 => exact rfl); k_whole); intro h9 F9 N9; (try k_sweep))
  k_with "newList" => (k_here; k_dflt (refine' listL ?F ?N ?_ ?z; (case F => k_asm); (case N => k_asm); (case z => kmk_size)); intro D9 h9 n9 F9 N9; (try k_sweep))
  k_with "ite" => (k_here; k_openite; first | (refine ite_pos (by ((try simp only [beq_iff_eq, bne_iff_ne, List.any_cons, List.any_nil, Bool.or_false, Bool.or_eq_true, decide_eq_true_eq]); first | with_reducible assumption | omega)) ?_; walk_say "DECIDED") | (refine ite_neg (by ((try simp only [beq_iff_eq, bne_iff_ne, List.any_cons, List.any_nil, Bool.or_false, Bool.or_eq_true, decide_eq_true_eq, Bool.not_eq_true, not_or]); first | with_reducible assumption | omega)) ?_; walk_say "DECIDED") | with_reducible refine ite_tt ?_ | with_reducible refine ite_ff ?_ | (with_reducible refine split_ine ?_ ?_ <;> intro _) | (with_reducible refine split_ieq ?_ ?_ <;> intro _) | with_reducible refine split_not ?_ | (refine split_dec ?_ ?_ <;> intro _) | (refine split_bool ?_ ?_ <;> intro _))
  k_with "ite" => (k_here; k_openite; with_reducible refine join_lp (by decide) ?_)
  k_with "call ref" => (k_here; k_dflt (refine' Ic.use (c_long0 _ _ _ _ _ _ _ _ _ ?p1) ?k1 ?k2 ?k3 ?k4 ?k5 ?kK ?kd ?ku ?_; (case k1 => k_asm); (case k2 => k_asm); (case k3 => k_asm); (case k4 => k_asm); (case p1 => first | with_reducible assumption | rfl); (case k5 => k_asm); (case kK => first | exact rfl | assumption); (case kd => ktr_room); (case ku => ktr_units); k_whole); intro t9 h9 tk9 F9 N9; (try dsimp only); (try k_sweep); (try k_fold))
  k_with "subscriptTail" => (k_here; k_dflt (refine' sub_dim0 ?k1 ?k2 ?k3 ?k4 ?_ ?k5; (case k1 => k_asm); (case k2 => first | with_reducible assumption | (repeat (first | exact List.mem_cons_self | with_reducible refine List.mem_cons_of_mem _ ?_))); (case k3 => with_reducible assumption); (case k4 => with_reducible assumption); (case k5 => with_unfolding_all rfl); k_whole); intro t9; (try dsimp only))
  subst hk0
  intro dp un gd cn cs a ccd cl outer A₀ base h₀ L mm news s Q E B F X N hold T hk hd hu hret
  have hD := hold _ List.mem_cons_self
  clear hold
  refine wpAny_call ?_
  k_dflt cell_enter
  k_steps
  all_goals (refine endT hret (by k_asm) (by k_asm) (by first | exact List.mem_cons_self | k_mem) (by intro p9 h9; repeat (first | with_reducible exact h9 | with_reducible refine List.mem_cons_of_mem _ ?_)) ?_)
  all_goals first | with_reducible exact on_1 (by assumption) | with_reducible exact on_2 (by assumption) (by assumption) | with_reducible exact on_3 (by assumption) (by assumption)
end
section
theorem c_on1 (w : World) (loose : List Str) (mean : ExcName → Option Value) (mg mb : Str → Option Value) (k a' b c e : Int) (D : Addr) (t1 t2 t3 t4 t5 : Tok) (c' : Nat) (hk0 : k = 1) (h1 : 1 ≤ b) (h2 : b ≤ 12) :
    Tc w loose mean mg mb 3 205 [(D, tup3 a' b c t3 t4 t5 c')] [.int k t1, .ref D, .int e t2] (nY (dimJ a' b) a' b (c + e)) (nM (dimJ a' b) b (c + e)) (nD (dimJ a' b) (c + e)) := by
  k_with_none
  k_with "eval Call Name" => (k_here; k_dflt (refine Call_ ?_))
  k_with "storeName" => (k_here; k_dflt (refine' storeL ?F ?N ?_ ?a ?b; (case F => k_asm); (case N => k_asm); (case a => rfl); (case b => rfl); k_whole); intro h9 tk9 m9 F9 N9; (try k_sweep))
  k_with "newTuple" => (k_here; k_dflt (refine' tupL ?F ?N ?_ ?z; (case F => k_asm); (case N => k_asm); (case z => kmk_size)); intro D9 h9 tk9 n9 F9 N9; (try k_sweep))
  k_with "assign Tuple" => (k_here; (with_reducible show wpAny _ _ (assign (PySem.Expr.Tuple _ _ _) _ (Value.ref _)) _ _ _); k_dflt (refine' unpackN_ ?k1 ?k2 ?k3 ?k4 ?k5 ?k6 ?_; (case k1 => k_asm); (case k2 => k_asm); (case k3 => (refine' News.isTup ?j1 ?j2; (case j1 => k_asm); (case j2 => first | with_reducible assumption | (repeat (first | exact List.mem_cons_self | with_reducible refine List.mem_cons_of_mem _ ?_))))); (case k4 => exact rfl); (case k5 => exact rfl); (case k6 => exact rfl); k_whole); intro h9 F9 N9; (try k_sweep))
  k_with "newList" => (k_here; k_dflt (refine' listL ?F ?N ?_ ?z; (case F => k_asm); (case N => k_asm); (case z => kmk_size)); intro D9 h9 n9 F9 N9; (try k_sweep))
  k_with "ite" => (k_here; k_openite; first | (refine ite_pos (by ((try simp only [beq_iff_eq, bne_iff_ne, List.any_cons, List.any_nil, Bool.or_false, Bool.or_eq_true, decide_eq_true_eq]); first | with_reducible assumption | omega)) ?_; walk_say "DECIDED") | (refine ite_neg (by ((try simp only [beq_iff_eq, bne_iff_ne, List.any_cons, List.any_nil, Bool.or_false, Bool.or_eq_true, decide_eq_true_eq, Bool.not_eq_true, not_or]); first | with_reducible assumption | omega)) ?_; walk_say "DECIDED") | with_reducible refine ite_tt ?_ | with_reducible refine ite_ff ?_ | (with_reducible refine split_ine ?_ ?_ <;> intro _) | (with_reducible refine split_ieq ?_ ?_ <;> intro _) | with_reducible refine split_not ?_ | (refine split_dec ?_ ?_ <;> intro _) | (refine split_bool ?_ ?_ <;> intro _))
  k_with "ite" => (k_here; k_openite; with_reducible refine join_lq (by decide) ?_)
  k_with "call ref" => (k_here; k_dflt (refine' Ic.use (c_long1 _ _ _ _ _ _ _ _ _ ?p1) ?k1 ?k2 ?k3 ?k4 ?k5 ?kK ?kd ?ku ?_; (case k1 => k_asm); (case k2 => k_asm); (case k3 => k_asm); (case k4 => k_asm); (case p1 => first | with_reducible assumption | rfl); (case k5 => k_asm); (case kK => first | exact rfl | assumption); (case kd => ktr_room); (case ku => ktr_units); k_whole); intro t9 h9 tk9 F9 N9; (try dsimp only); (try k_sweep); (try k_fold))
  k_with "subscriptTail" => (k_here; k_dflt (refine' sub_dim1 ?k1 ?k2 ?k3 ?k4 ?_ ?k5; (case k1 => k_asm); (case k2 => first | with_reducible assumption | (repeat (first | exact List.mem_cons_self | with_reducible refine List.mem_cons_of_mem _ ?_))); (case k3 => with_reducible assumption); (case k4 => with_reducible assumption); (case k5 => with_unfolding_all rfl); k_whole); intro t9; (try dsimp only))
  subst hk0
  intro dp un gd cn cs a ccd cl outer A₀ base h₀ L mm news s Q E B F X N hold T hk hd hu hret
  have hD := hold _ List.mem_cons_self
  clear hold
  refine wpAny_call ?_
  k_dflt cell_enter
  k_steps
  all_goals (refine endT hret (by k_asm) (by k_asm) (by first | exact List.mem_cons_self | k_mem) (by intro p9 h9; repeat (first | with_reducible exact h9 | with_reducible refine List.mem_cons_of_mem _ ?_)) ?_)
  all_goals first | with_reducible exact on_1 (by assumption) | with_reducible exact on_2 (by assumption) (by assumption) | with_reducible exact on_3 (by assumption) (by assumption)
end
end Mine
end
section
namespace Mine
open PySem.Spec PySem.Calls
set_option maxHeartbeats 1000000
theorem Tc.cast {w : World} {loose : List Str} {mean : ExcName → Option Value} {mg mb : Str → Option Value} {n : Nat} {f : Addr} {old : List (Addr × Obj)} {vs : List Value} {x y z x' y' z' : Int} (C : Tc w loose mean mg mb n f old vs x y z) (e1 : x = x') (e2 : y = y') (e3 : z = z') : Tc w loose mean mg mb n f old vs x' y' z' := by
  subst e1; subst e2; subst e3; exact C
theorem Pc.cast {w : World} {loose : List Str} {mean : ExcName → Option Value} {mg mb : Str → Option Value} {n : Nat} {f : Addr} {vs : List Value} {x y x' y' : Int} (C : Pc w loose mean mg mb n f vs x y) (e1 : x = x') (e2 : y = y') : Pc w loose mean mg mb n f vs x' y' := by
  subst e1; subst e2; exact C
section
variable (w : World) (loose : List Str) (mean : ExcName → Option Value) (mg mb : Str → Option Value) (t1 t2 t3 : Tok) {y m k e p q : Int}
theorem bM0_in (h1 : 1 ≤ m) (h2 : m ≤ 12) : 1 ≤ bM0 m ∧ bM0 m ≤ 12 := by
  rcases m12 h1 h2 with e | e | e | e | e | e | e | e | e | e | e | e <;> subst e <;> decide
theorem bM1_in (h1 : 1 ≤ m) (h2 : m ≤ 13) : 1 ≤ bM1 m ∧ bM1 m ≤ 12 := by
  rcases m13 h1 h2 with e | e | e | e | e | e | e | e | e | e | e | e | e <;> subst e <;> decide
theorem w_on0 (kd : Int) (D : Addr) (t4 t5 : Tok) (c : Nat) (hk : kd = 0) (h1 : 1 ≤ m) (h2 : m ≤ 12) :
    Tc w loose mean mg mb 3 205 [(D, tup3 (bY0 y m) (bM0 m) (bD0 y m) t3 t4 t5 c)] [.int kd t1, .ref D, .int k t2] (dY0 y m k) (dM0 y m k) (dD0 y m k) :=
  c_on0 w loose mean mg mb kd (bY0 y m) (bM0 m) (bD0 y m) k D t1 t2 t3 t4 t5 c hk (bM0_in h1 h2).1 (bM0_in h1 h2).2
theorem w_on1 (kd : Int) (D : Addr) (t4 t5 : Tok) (c : Nat) (hk : kd = 1) (h1 : 1 ≤ m) (h2 : m ≤ 13) :
    Tc w loose mean mg mb 3 205 [(D, tup3 (bY1 y m) (bM1 m) (bD1 y m) t3 t4 t5 c)] [.int kd t1, .ref D, .int k t2] (dY1 y m k) (dM1 y m k) (dD1 y m k) :=
  c_on1 w loose mean mg mb kd (bY1 y m) (bM1 m) (bD1 y m) k D t1 t2 t3 t4 t5 c hk (bM1_in h1 h2).1 (bM1_in h1 h2).2
theorem w_toGI (h1 : 1 ≤ m) (h2 : m ≤ 12) (h3 : 0 ≤ k) (h4 : k < len0 y m) :
    Tc w loose mean mg mb 5 78 [] [.int y t1, .int m t2, .int (k + 1) t3] (dY0 y m k) (dM0 y m k) (dD0 y m k) := by
  obtain ⟨a1, a2, a3, a4, a5⟩ := due0 (y := y) h1 h2 h3 h4
  obtain ⟨g1, g2, g3⟩ := gOf_gJd a1 a2 a3 a4
  rw [a5] at g1 g2 g3
  exact Tc.cast (c_toGI w loose mean mg mb y m (k + 1) t1 t2 t3) g1 g2 g3
theorem w_fromGI (h1 : 1 ≤ m) (h2 : m ≤ 12) (h3 : 0 ≤ k) (h4 : k < len0 y m) :
    Tc w loose mean mg mb 6 71 [] [.int (dY0 y m k) t1, .int (dM0 y m k) t2, .int (dD0 y m k) t3] y m (k + 1) := by
  obtain ⟨a1, a2, a3, a4, a5⟩ := due0 (y := y) h1 h2 h3 h4
  obtain ⟨g1, g2, g3⟩ := iOf_iJd (y := y) h1 h2 h3 h4
  rw [← a5] at g1 g2 g3
  exact Tc.cast (c_fromGI w loose mean mg mb _ _ _ t1 t2 t3 a3 a4) g1 g2 g3
theorem w_lastGI (h1 : 1 ≤ m) (h2 : m ≤ 12) (he : e = len0 y m) :
    Tc w loose mean mg mb 6 71 [] [.int (bY0 y (m + 1)) t1, .int (bM0 (m + 1)) t2, .int (bD0 y (m + 1) - 1) t3] y m e := by
  obtain ⟨l1, l2, l3⟩ := last0 (y := y) h1 h2
  have lp := len0_pos y m
  rw [l1, l2, l3]
  exact Tc.cast (w_fromGI w loose mean mg mb t1 t2 t3 (k := len0 y m - 1) h1 h2 (by omega) (by omega)) rfl rfl (by omega)
theorem w_oOf_a (h1 : 1 ≤ m) (h2 : m ≤ 12) (h3 : 0 ≤ k) (h4 : k < len0 y m) (hp : p = pst0 y m) (hc : 81 + p + k ≤ 365 + lp (y + 78)) :
    Pc w loose mean mg mb 2 163 [.int (dY0 y m k) t1, .int (dM0 y m k) t2, .int (dD0 y m k) t3] (y + 78) (81 + p + k) := by
  obtain ⟨a1, a2, a3, a4, _⟩ := due0 (y := y) h1 h2 h3 h4
  subst hp
  obtain ⟨b1, b2⟩ := (place0 (y := y) h1 h2 h3 h4).1 hc
  exact Pc.cast (c_oOf w loose mean mg mb _ _ _ t1 t2 t3 (by omega)) b1 ((oT_eq a1 a2 a3 a4).trans b2)
theorem w_oOf_b (h1 : 1 ≤ m) (h2 : m ≤ 12) (h3 : 0 ≤ k) (h4 : k < len0 y m) (hp : p = pst0 y m) (hq : q = 365 + lp (y + 78)) (hc : ¬ 81 + p + k ≤ q) :
    Pc w loose mean mg mb 2 163 [.int (dY0 y m k) t1, .int (dM0 y m k) t2, .int (dD0 y m k) t3] (y + 79) (81 + p + k - q) := by
  obtain ⟨a1, a2, a3, a4, _⟩ := due0 (y := y) h1 h2 h3 h4
  subst hp
  subst hq
  obtain ⟨b1, b2⟩ := (place0 (y := y) h1 h2 h3 h4).2 hc
  exact Pc.cast (c_oOf w loose mean mg mb _ _ _ t1 t2 t3 (by omega)) b1 ((oT_eq a1 a2 a3 a4).trans b2)
theorem w_oTo_a (h1 : 1 ≤ m) (h2 : m ≤ 12) (h3 : 0 ≤ k) (h4 : k < len0 y m) (hp : p = pst0 y m) (hc : 81 + p + k ≤ 365 + lp (y + 78)) :
    Tc w loose mean mg mb 3 170 [] [.int (y + 78) t1, .int (81 + p + k) t2] (dY0 y m k) (dM0 y m k) (dD0 y m k) := by
  obtain ⟨a1, a2, a3, a4, _⟩ := due0 (y := y) h1 h2 h3 h4
  subst hp
  obtain ⟨b1, b2⟩ := (place0 (y := y) h1 h2 h3 h4).1 hc
  obtain ⟨o1, o2, o3⟩ := oOf_to a1 a2 a3 a4
  rw [b2, b1] at o2 o3
  rw [b2] at o1
  exact Tc.cast (c_oTo w loose mean mg mb _ _ t1 t2 o1) b1.symm o2 o3
theorem w_oTo_b (h1 : 1 ≤ m) (h2 : m ≤ 12) (h3 : 0 ≤ k) (h4 : k < len0 y m) (hp : p = pst0 y m) (hq : q = 365 + lp (y + 78)) (hc : ¬ 81 + p + k ≤ q) :
    Tc w loose mean mg mb 3 170 [] [.int (y + 79) t1, .int (81 + p + k - q) t2] (dY0 y m k) (dM0 y m k) (dD0 y m k) := by
  obtain ⟨a1, a2, a3, a4, _⟩ := due0 (y := y) h1 h2 h3 h4
  subst hp
  subst hq
  obtain ⟨b1, b2⟩ := (place0 (y := y) h1 h2 h3 h4).2 hc
  obtain ⟨o1, o2, o3⟩ := oOf_to a1 a2 a3 a4
  rw [b2, b1] at o2 o3
  rw [b2] at o1
  exact Tc.cast (c_oTo w loose mean mg mb _ _ t1 t2 o1) b1.symm o2 o3
theorem w_fromGJ (h1 : 1 ≤ m) (h2 : m ≤ 13) (h3 : 0 ≤ k) (h4 : k < clen y m) :
    Tc w loose mean mg mb 4 149 [] [.int (gY (cJd y m (k + 1))) t1, .int (gM (cJd y m (k + 1))) t2, .int (gD (cJd y m (k + 1))) t3] (dY1 y m k) (dM1 y m k) (dD1 y m k) := by
  obtain ⟨a1, a2, a3, a4, a5⟩ := due1 (y := y) h1 h2 h3 h4
  obtain ⟨g1, g2, g3⟩ := jOf_jJd a1 a2 a3 a4
  obtain ⟨_, _, b1, b2⟩ := gOf_legal (cJd y m (k + 1))
  have C := c_fromGJ w loose mean mg mb _ _ _ t1 t2 t3 b1 b2
  rw [gJd_gOf] at C
  rw [a5] at g1 g2 g3
  exact Tc.cast C g1 g2 g3
theorem w_toGJ (h1 : 1 ≤ m) (h2 : m ≤ 13) (h3 : 0 ≤ k) (h4 : k < clen y m) :
    Tc w loose mean mg mb 5 156 [] [.int (dY1 y m k) t1, .int (dM1 y m k) t2, .int (dD1 y m k) t3] (gY (cJd y m (k + 1))) (gM (cJd y m (k + 1))) (gD (cJd y m (k + 1))) := by
  obtain ⟨a1, a2, a3, a4, a5⟩ := due1 (y := y) h1 h2 h3 h4
  have C := c_toGJ w loose mean mg mb _ _ _ t1 t2 t3 a3 a4
  rw [a5] at C
  exact C
theorem w_lastGJ (h1 : 1 ≤ m) (h2 : m ≤ 13) (he : e = clen y m) :
    Tc w loose mean mg mb 5 156 [] [.int (bY1 y (m + 1)) t1, .int (bM1 (m + 1)) t2, .int (bD1 y (m + 1) - 1) t3] (gY (cJd y m e)) (gM (cJd y m e)) (gD (cJd y m e)) := by
  obtain ⟨l1, l2, l3⟩ := last1 (y := y) h1 h2
  have lp := clen_pos y m
  rw [l1, l2, l3]
  have C := w_toGJ w loose mean mg mb t1 t2 t3 (y := y) (k := clen y m - 1) h1 h2 (by omega) (by omega)
  rw [show clen y m - 1 + 1 = e by omega] at C
  exact C
theorem w_fromGC (h1 : 1 ≤ m) (h2 : m ≤ 13) (h3 : 1 ≤ e) (h4 : e ≤ clen y m) :
    Tc w loose mean mg mb 4 106 [] [.int (gY (cJd y m e)) t1, .int (gM (cJd y m e)) t2, .int (gD (cJd y m e)) t3] y m e := by
  obtain ⟨_, _, b1, b2⟩ := gOf_legal (cJd y m e)
  have C := c_fromGC w loose mean mg mb _ _ _ t1 t2 t3 b1 b2
  rw [gJd_gOf] at C
  obtain ⟨g1, g2, g3⟩ := cOf_cJd (y := y) (k := e - 1) h1 h2 (by omega) (by omega)
  rw [show e - 1 + 1 = e by omega] at g1 g2 g3
  exact Tc.cast C g1 g2 g3
end
end Mine
end
section
namespace Mine
open PySem.Spec PySem.Calls
set_option maxHeartbeats 1000000
theorem four_ints {ws : List Value} {ms : List Int} (h : IntsAre ws ms) (e : ms.length = 4) : ∃ (a b c d : Int) (t1 t2 t3 t4 : Tok), ws = [.int a t1, .int b t2, .int c t3, .int d t4] := by
  cases h with
  | nil => simp at e
  | cons a t1 h => cases h with
    | nil => simp at e
    | cons b t2 h => cases h with
      | nil => simp at e
      | cons c t3 h => cases h with
        | nil => simp at e
        | cons d t4 h => cases h with
          | nil => exact ⟨a, b, c, d, t1, t2, t3, t4, rfl⟩
          | cons x t5 h => simp at e
theorem slice4 {prog : Program} {w : World} {A : Around} {E : Value → Shared → Prop} {s : Shared} {value slice : PySem.Expr} {l : Addr} {u : Tok} {vs : List Value} {ns : List Int} {h₀ : Heap} {L : Addr} {m : Str → Option Value} {news : List (Addr × Obj)} {n : Nat} {Q : Value → Shared → Prop}
    (F : Fr h₀ L s.heap m) (N : News h₀ L s.heap news) (hm : (l, listOf vs.toArray n) ∈ news) (hi : IntsAre vs ns) (h4 : 4 ≤ ns.length) (hz : ns.length ≤ sizeLine)
    (h : ∀ (D : Addr) (h' : Heap) (a b c d : Int) (t1 t2 t3 t4 : Tok), Fr h₀ L h' m → News h₀ L h' [(D, listOf #[.int a t1, .int b t2, .int c t3, .int d t4] 0)] → Q (.ref D) { s with heap := h' })
    (hs : subscripted slice false (.ref l) (.ref s.heap.objs.size) = operate [.ref s.heap.objs.size, .ref l] (getItem (.ref l) (.ref s.heap.objs.size))) :
    wpAny (model prog w) A (subscriptTail value slice (.ref l) (.ref s.heap.objs.size)) Q E { s with heap := s.heap.push { cls := .type "slice", data := .fields #[.none, .int 4 u, .none] } } := by
  have hl : s.heap.IsList l vs.toArray := ⟨_, (N _ hm).1, rfl, n, rfl⟩
  have hp := kmk_upto hi (y := 4) (by decide)
  obtain ⟨a, b, c, d, t1, t2, t3, t4, e⟩ := four_ints hp (by rw [List.length_take]; exact Nat.min_eq_left h4)
  have hpick : slicePick vs.toArray none (some 4) none = #[.int a t1, .int b t2, .int c t3, .int d t4] := by
    rw [← Array.toArray_toList (xs := slicePick vs.toArray none (some 4) none), e]
  refine tail_any (Heap.IsList.typeIs (s := { s with heap := s.heap.push { cls := .type "slice", data := .fields #[.none, .int 4 u, .none] } }) (hl.push _)) list_getitem_lookup
    (wpAny_getItem_list_slice (hl.push _) (Heap.IsSliceOf.new ..) .none (.int _ _) .none (by simp) ?_ (by rw [List.size_toArray, hi.length]; exact hz)) hs
  rw [hpick]
  have N1 := News.push (F.push { cls := .type "slice", data := .fields #[.none, .int 4 u, .none] }) (N.grown fun _ _ e => Heap.get?_push_of_some _ e) { cls := .type "list", data := .seq #[.int a t1, .int b t2, .int c t3, .int d t4] }
  exact h _ _ a b c d t1 t2 t3 t4 ((F.push _).push _) fun p hp => N1 p (List.mem_cons.mpr (.inl (List.mem_singleton.mp hp)))
section
variable {prog : Program} {w : World} {A : Around} {E : Value → Shared → Prop} {s : Shared} {Q : Value → Shared → Prop} {h₀ : Heap} {L : Addr} {news : List (Addr × Obj)} {env : Env}
theorem mod_any {x n : Int} {t u : Tok} (hn : 0 < n) (h : ∀ r t tk', 0 ≤ r → r < n → Q (.int r t) { s with toks := tk' }) :
    wpAny (model prog w) A (binaryOp .Mod (.int x t) (.int n u)) Q E s := by
  refine mod_int' (by omega) (h _ _ _ ?_ ?_) <;> rw [fm (by omega)]
  · exact Int.emod_nonneg _ (by omega)
  · exact Int.emod_lt_of_pos _ hn
theorem div_any {x : Int} {t u : Tok} (h : ∀ r t tk', Q (.int r t) { s with toks := tk' }) :
    wpAny (model prog w) A (binaryOp .FloorDiv (.int x t) (.int 2 u)) Q E s :=
  floordiv_int (by decide) (h _ _ _)
theorem sub_len0 {value slice : PySem.Expr} {l : Addr} {k y : Int} {u t0 t1 t2 t3 t4 t5 t6 t7 t8 t9 ta tb : Tok} {n i : Nat}
    (N : News h₀ L s.heap news) (hm : (l, listOf #[.int (30 + lp (y + 78)) t0, .int 31 t1, .int 31 t2, .int 31 t3, .int 31 t4, .int 31 t5, .int 30 t6, .int 30 t7, .int 30 t8, .int 30 t9, .int 30 ta, .int 30 tb] n) ∈ news) (hk : k = 1 + (i : Int)) (hi : i < (12 + 1 - 1 : Int).toNat)
    (h : ∀ (t : Tok), 1 ≤ k → k ≤ 12 → k < 13 → Q (.int (len0 y k) t) s)
    (hs : subscripted slice false (.ref l) (.int (k - 1) u) = operate [.ref l, .int (k - 1) u] (getItem (.ref l) (.int (k - 1) u))) :
    wpAny (model prog w) A (subscriptTail value slice (.ref l) (.int (k - 1) u)) Q E s := by
  refine sub_k N hm (by omega) ?_ (by omega) (fun t => h t (by omega) (by omega) (by omega)) hs
  rcases m12 (m := k) (by omega) (by omega) with e | e | e | e | e | e | e | e | e | e | e | e <;> subst e <;> exact ⟨_, rfl⟩
theorem sub_len1 {value slice : PySem.Expr} {l : Addr} {k y : Int} {u t0 t1 t2 t3 t4 t5 t6 t7 t8 t9 ta tb tc : Tok} {n i : Nat}
    (N : News h₀ L s.heap news) (hm : (l, listOf #[.int 30 t0, .int 30 t1, .int 30 t2, .int 30 t3, .int 30 t4, .int 30 t5, .int 30 t6, .int 30 t7, .int 30 t8, .int 30 t9, .int 30 ta, .int 30 tb, .int (clen y 13) tc] n) ∈ news) (hk : k = 1 + (i : Int)) (hi : i < (13 + 1 - 1 : Int).toNat)
    (h : ∀ (t : Tok), 1 ≤ k → k ≤ 13 → k < 14 → Q (.int (clen y k) t) s)
    (hs : subscripted slice false (.ref l) (.int (k - 1) u) = operate [.ref l, .int (k - 1) u] (getItem (.ref l) (.int (k - 1) u))) :
    wpAny (model prog w) A (subscriptTail value slice (.ref l) (.int (k - 1) u)) Q E s := by
  refine sub_k N hm (by omega) ?_ (by omega) (fun t => h t (by omega) (by omega) (by omega)) hs
  rcases m13 (m := k) (by omega) (by omega) with e | e | e | e | e | e | e | e | e | e | e | e | e <;> subst e <;> exact ⟨_, rfl⟩
theorem sub_head {value slice : PySem.Expr} {l : Addr} {r a b c d : Int} {u t0 t1 t2 t3 : Tok} {n : Nat}
    (N : News h₀ L s.heap news) (hm : (l, listOf #[.int a t0, .int b t1, .int c t2, .int d t3] n) ∈ news) (h0 : 0 ≤ r) (h1 : r < 3)
    (h : ∀ (x : Int) (t : Tok), Q (.int x t) s)
    (hs : subscripted slice false (.ref l) (.int (1 + r) u) = operate [.ref l, .int (1 + r) u] (getItem (.ref l) (.int (1 + r) u))) :
    wpAny (model prog w) A (subscriptTail value slice (.ref l) (.int (1 + r) u)) Q E s := by
  have hl : s.heap.IsList l #[.int a t0, .int b t1, .int c t2, .int d t3] := ⟨_, (N _ hm).1, rfl, n, rfl⟩
  have hx : ∃ x t, (#[.int a t0, .int b t1, .int c t2, .int d t3] : Array Value)[(1 + r).toNat]? = some (.int x t) := by
    have e : r = 0 ∨ r = 1 ∨ r = 2 := by omega
    rcases e with e | e | e <;> subst e <;> exact ⟨_, _, rfl⟩
  obtain ⟨x, t, hx⟩ := hx
  exact tail_any hl.typeIs slot_list_getitem.lookup (wpAny_getItem_list hl (by omega) (by omega) hx (h x t)) hs
theorem ne_tup3 {a b : Addr} {x y z : Int} {t1 t2 t3 u1 u2 u3 : Tok} {c c' : Nat} (N : News h₀ L s.heap news) (ha : (a, tup3 x y z t1 t2 t3 c) ∈ news) (hb : (b, tup3 x y z u1 u2 u3 c') ∈ news) (hu : A.units + 64 < cLine)
    (h : Q (.bool false) s) : wpAny (model prog w) A (compareOp .NotEq (.ref a) (.ref b)) Q E s := by
  refine ne_dataH_same (da := .tuple [.int x, .int y, .int z]) (db := .tuple [.int x, .int y, .int z]) (.tuple (N _ ha).1 rfl rfl (.cons (.int _ _) (.cons (.int _ _) (.cons (.int _ _) .nil)))) (.tuple (N _ hb).1 rfl rfl (.cons (.int _ _) (.cons (.int _ _) (.cons (.int _ _) .nil)))) rfl rfl hu rfl ?_
  have e : PySem.Spec.same (.tuple [.int x, .int y, .int z]) (.tuple [.int x, .int y, .int z]) = true := by simp [PySem.Spec.same, PySem.Spec.sameAll]
  rw [e]
  exact h
theorem ne_tup2 {a b : Addr} {x y : Int} {t1 t2 u1 u2 : Tok} {c c' : Nat} (N : News h₀ L s.heap news) (ha : (a, tup2 x y t1 t2 c) ∈ news) (hb : (b, tup2 x y u1 u2 c') ∈ news) (hu : A.units + 64 < cLine)
    (h : Q (.bool false) s) : wpAny (model prog w) A (compareOp .NotEq (.ref a) (.ref b)) Q E s := by
  refine ne_dataH_same (da := .tuple [.int x, .int y]) (db := .tuple [.int x, .int y]) (.tuple (N _ ha).1 rfl rfl (.cons (.int _ _) (.cons (.int _ _) .nil))) (.tuple (N _ hb).1 rfl rfl (.cons (.int _ _) (.cons (.int _ _) .nil))) rfl rfl hu rfl ?_
  have e : PySem.Spec.same (.tuple [.int x, .int y]) (.tuple [.int x, .int y]) = true := by simp [PySem.Spec.same, PySem.Spec.sameAll]
  rw [e]
  exact h
end
theorem up1 {k : Int} (h : 1 ≤ k) : 1 ≤ k + 1 := by omega
theorem clen_1 (y m : Int) : 1 ≤ clen y m := by have := clen_pos y m; omega
theorem up12 {k : Int} (h : k ≤ 12) : k + 1 ≤ 13 := by omega
theorem up13 {k : Int} (h : k ≤ 13) : k + 1 ≤ 14 := by omega
theorem up0 {k : Int} (h : 0 ≤ k) : 1 ≤ k + 1 := by omega
theorem kind_one {r : Int} (h0 : 0 ≤ r) (h1 : r < 2) (h : r ≠ 0) : r = 1 := by omega
theorem past_of {K p y k : Int} {n : Nat} (hP : K = 0 → p = pst0 y (1 + (n : Int))) (h : K = 0) (e : k = 1 + (n : Int)) : p = pst0 y k := by rw [e]; exact hP h
theorem past_next0 {K p y k : Int} {pre : List Int} (hP : K = 0 → p = pst0 y (1 + (pre.length : Int))) (e : k = 1 + (pre.length : Int)) (h1 : 1 ≤ k) : K = 0 → p + len0 y k = pst0 y (1 + ((pre ++ [k]).length : Int)) := by
  intro h
  rw [hP h, List.length_append, List.length_singleton, Int.natCast_add, ← Int.add_assoc, ← e]
  unfold pst0 len0
  show _ = if k + ((1 : Nat) : Int) = 1 then _ else _
  generalize lp (y + 78) = a
  split <;> (repeat' split) <;> omega
theorem past_none {K p q : Int} (h : K ≠ 0) : K = 0 → p = q := fun e => absurd e h
theorem past_start {K y : Int} : K = 0 → 0 = pst0 y (1 + (([] : List Int).length : Int)) := fun _ => by
  show (0 : Int) = pst0 y 1
  unfold pst0
  rw [if_pos rfl]
theorem sub2 {α : Type} {p a b : α} {own : List α} (h : p ∈ [a, b]) : p ∈ a :: b :: own := by
  simp only [List.mem_cons, List.not_mem_nil, or_false] at h ⊢
  rcases h with h | h
  · exact .inl h
  · exact .inr (.inl h)
theorem sub2_own {α : Type} {p a b : α} {own : List α} (h : p ∈ own) : p ∈ a :: b :: own := List.mem_cons_of_mem _ (List.mem_cons_of_mem _ h)
end Mine
open Mine
open PySem.Spec PySem.Calls
set_option maxHeartbeats 40000000 in
theorem PySem.Challenge.cw_ah0019_01_holds : PySem.Challenge.rw_ah0019_01.Holds := by
  k_with_none
  k_with "ite" => (k_here; k_openite; first | (refine ite_pos (by ((try simp only [beq_iff_eq, bne_iff_ne, List.any_cons, List.any_nil, Bool.or_false, Bool.or_eq_true, decide_eq_true_eq]); first | with_reducible assumption | omega)) ?_; walk_say "DECIDED") | (refine ite_neg (by ((try simp only [beq_iff_eq, bne_iff_ne, List.any_cons, List.any_nil, Bool.or_false, Bool.or_eq_true, decide_eq_true_eq, Bool.not_eq_true, not_or]); first | with_reducible assumption | omega)) ?_; walk_say "DECIDED") | with_reducible refine ite_tt ?_ | with_reducible refine ite_ff ?_ | (with_reducible refine split_ine ?_ ?_ <;> intro _) | (with_reducible refine split_ieq ?_ ?_ <;> intro _) | with_reducible refine split_not ?_ | (refine split_dec ?_ ?_ <;> intro _) | (refine split_bool ?_ ?_ <;> intro _))
  k_with "storeName" => (k_here; dsimp only; walk1)
  k_with "callWith" => (k_here; dsimp only; walk1)
  k_with "newTuple" => (k_here; dsimp only; walk1)
  k_with "newList" => (k_here; dsimp only; walk1)
  k_with "binaryOp" => (k_here; dsimp only; walk1)
  k_with "subscriptTail Name" => (k_here; dsimp only; walk1)
  k_with "eval Slice" => (k_here; dsimp only; with_reducible refine wpAny_Slice ?_)
  k_with "subscriptTail BinOp" => ((with_reducible show wpAny _ _ (subscriptTail _ (PySem.Expr.Slice none (some _) none _) (Value.ref _) _) _ _ _); k_here; (k_dflt refine' slice4 ?k1 ?k2 ?k3 ?k4 ?k5 ?k6 ?_ ?k7; (case k1 => k_asm); (case k2 => k_asm); (case k3 => k_dflt (exact List.mem_cons_self)); (case k4 => k_asm); (case k5 => k_dflt (simp only [List.length_append, List.length_cons, List.length_nil]; omega)); (case k6 => k_dflt (simp only [List.length_append, List.length_cons, List.length_nil, sizeLine_eq] at *; omega)); (case k7 => with_unfolding_all rfl); k_whole); intro D9 h9 a9 b9 c9 d9 t19 t29 t39 t49 F9 N9; (try dsimp only); (try k_sweep))
  k_with "execs cons" => (k_here; k_fold; walk1)
  k_with "eval Call Name" => (k_here; k_dflt (refine Call_ ?_))
  k_with "storeName" => (k_here; (rename KstMark => kM9); k_dflt (refine' storeL ?F ?N ?_ ?a ?b; (case F => k_asm); (case N => k_asm); (case a => rfl); (case b => rfl); k_whole); intro h9 tk9 m9 F9 N9; (try k_sweep))
  k_with "newTuple" => (k_here; (rename KstMark => kM9); k_dflt (refine' tupL ?F ?N ?_ ?z; (case F => k_asm); (case N => k_asm); (case z => kmk_size)); intro D9 h9 tk9 n9 F9 N9; (try k_sweep))
  k_with "ite" => (k_here; k_openite; first | with_reducible refine join_lp (by decide) ?_ | with_reducible refine join_6 ?_)
  k_with "binaryOp Mod int int" => (k_here; first | (with_reducible refine mod_any (n := 2) (by decide) ?_) | (with_reducible refine mod_any (n := 3) (by decide) ?_) | (with_reducible refine mod_any (len0_pos _ _) ?_) | (with_reducible refine mod_any (clen_pos _ _) ?_)); intro r9 t9 tk9 h91 h92; (try dsimp only)
  k_with "binaryOp FloorDiv int int" => (k_here; (with_reducible refine div_any ?_); intro r9 t9 tk9; (try dsimp only))
  k_with "subscriptTail Name BinOp ref int" => (k_here; (with_reducible show wpAny _ _ (subscriptTail _ _ (Value.ref _) (Value.int (_ - _) _)) _ _ _); k_dflt (refine' sub_len0 ?k1 ?k2 ?k3 ?k4 ?_ ?k5; (case k1 => k_asm); (case k2 => k_mem); (case k3 => with_reducible assumption); (case k4 => with_reducible assumption); (case k5 => with_unfolding_all rfl); k_whole); intro t9 h91 h92 h93; (try dsimp only))
  k_with "subscriptTail Name BinOp ref int" => (k_here; (with_reducible show wpAny _ _ (subscriptTail _ _ (Value.ref _) (Value.int (_ - _) _)) _ _ _); k_dflt (refine' sub_len1 ?k1 ?k2 ?k3 ?k4 ?_ ?k5; (case k1 => k_asm); (case k2 => k_mem); (case k3 => with_reducible assumption); (case k4 => with_reducible assumption); (case k5 => with_unfolding_all rfl); k_whole); intro t9 h91 h92 h93; (try dsimp only))
  k_with "subscriptTail Name BinOp ref int" => (k_here; (with_reducible show wpAny _ _ (subscriptTail _ _ (Value.ref _) (Value.int (_ + _) _)) _ _ _); k_dflt (refine' sub_head ?k1 ?k2 ?k3 ?k4 ?_ ?k5; (case k1 => k_asm); (case k2 => k_mem); (case k3 => with_reducible assumption); (case k4 => with_reducible assumption); (case k5 => with_unfolding_all rfl); k_whole); intro x9 t9; (try dsimp only))
  k_with "compareOp NotEq ref ref" => (k_here; k_dflt (refine' ne_tup3 ?k1 ?k2 ?k3 ?k4 ?_; (case k1 => k_asm); (case k2 => first | with_reducible assumption | (repeat (first | exact List.mem_cons_self | with_reducible refine List.mem_cons_of_mem _ ?_))); (case k3 => first | with_reducible assumption | (repeat (first | exact List.mem_cons_self | with_reducible refine List.mem_cons_of_mem _ ?_))); (case k4 => units_room); k_whole); (try dsimp only))
  k_with "compareOp NotEq ref ref" => (k_here; k_dflt (refine' ne_tup2 ?k1 ?k2 ?k3 ?k4 ?_; (case k1 => k_asm); (case k2 => first | with_reducible assumption | (repeat (first | exact List.mem_cons_self | with_reducible refine List.mem_cons_of_mem _ ?_))); (case k3 => first | with_reducible assumption | (repeat (first | exact List.mem_cons_self | with_reducible refine List.mem_cons_of_mem _ ?_))); (case k4 => units_room); k_whole); (try dsimp only))
  k_with "call ref" => (k_here; k_dflt (refine' Ic.use (c_long0 _ _ _ _ _ _ _ _ _ ?p1) ?k1 ?k2 ?k3 ?k4 ?k5 ?kK ?kd ?ku ?_; (case k1 => k_asm); (case k2 => k_asm); (case k3 => k_asm); (case k4 => k_asm); (case p1 => first | with_reducible assumption | rfl); (case k5 => k_asm); (case kK => first | exact rfl | assumption); (case kd => ktr_room); (case ku => ktr_units); k_whole); intro t9 h9 tk9 F9 N9; (try dsimp only); (try k_sweep); (try k_fold))
  k_with "call ref" => (k_here; k_dflt (refine' Tc.use (c_begin0 _ _ _ _ _ _ _ _ _ _ _ ?p1 ?p2 ?p3) ?k1 ?k2 ?k3 ?k4 ?ko ?k5 ?kK ?kd ?ku ?_; (case k1 => k_asm); (case k2 => k_asm); (case k3 => k_asm); (case k4 => k_asm); (case ko => first | exact List.forall_mem_nil _ | (refine List.forall_mem_cons.mpr ⟨by (first | with_reducible assumption | (repeat (first | exact List.mem_cons_self | with_reducible refine List.mem_cons_of_mem _ ?_))), ?_⟩; exact List.forall_mem_nil _)); (case p1 => with_reducible assumption); (case p2 => first | with_reducible assumption | with_reducible exact up1 (by assumption)); (case p3 => first | with_reducible exact Int.le_of_lt (by assumption) | with_reducible exact up12 (by assumption)); (case k5 => k_asm); (case kK => first | exact rfl | assumption); (case kd => ktr_room); (case ku => ktr_units); k_whole); intro D9 t19 t29 t39 c9 h9 tk9 n9 F9 N9; (try dsimp only); (try k_sweep); (try k_fold))
  k_with "call ref" => (k_here; k_dflt (refine' Tc.use (w_on0 _ _ _ _ _ _ _ _ _ _ _ _ _ ?p1 ?p2 ?p3) ?k1 ?k2 ?k3 ?k4 ?ko ?k5 ?kK ?kd ?ku ?_; (case k1 => k_asm); (case k2 => k_asm); (case k3 => k_asm); (case k4 => k_asm); (case ko => first | exact List.forall_mem_nil _ | (refine List.forall_mem_cons.mpr ⟨by (first | with_reducible assumption | (repeat (first | exact List.mem_cons_self | with_reducible refine List.mem_cons_of_mem _ ?_))), ?_⟩; exact List.forall_mem_nil _)); (case p1 => with_reducible assumption); (case p2 => with_reducible assumption); (case p3 => with_reducible assumption); (case k5 => k_asm); (case kK => first | exact rfl | assumption); (case kd => ktr_room); (case ku => ktr_units); k_whole); intro D9 t19 t29 t39 c9 h9 tk9 n9 F9 N9; (try dsimp only); (try k_sweep); (try k_fold))
  k_with "call ref" => (k_here; k_dflt (refine' Tc.use (w_toGI _ _ _ _ _ _ _ _ ?p2 ?p3 ?p4 ?p5) ?k1 ?k2 ?k3 ?k4 ?ko ?k5 ?kK ?kd ?ku ?_; (case k1 => k_asm); (case k2 => k_asm); (case k3 => k_asm); (case k4 => k_asm); (case ko => first | exact List.forall_mem_nil _ | (refine List.forall_mem_cons.mpr ⟨by (first | with_reducible assumption | (repeat (first | exact List.mem_cons_self | with_reducible refine List.mem_cons_of_mem _ ?_))), ?_⟩; exact List.forall_mem_nil _)); (case p2 => with_reducible assumption); (case p3 => with_reducible assumption); (case p4 => with_reducible assumption); (case p5 => with_reducible assumption); (case k5 => k_asm); (case kK => first | exact rfl | assumption); (case kd => ktr_room); (case ku => ktr_units); k_whole); intro D9 t19 t29 t39 c9 h9 tk9 n9 F9 N9; (try dsimp only); (try k_sweep); (try k_fold))
  k_with "call ref" => (k_here; k_dflt (refine' Tc.use (w_fromGI _ _ _ _ _ _ _ _ ?p2 ?p3 ?p4 ?p5) ?k1 ?k2 ?k3 ?k4 ?ko ?k5 ?kK ?kd ?ku ?_; (case k1 => k_asm); (case k2 => k_asm); (case k3 => k_asm); (case k4 => k_asm); (case ko => first | exact List.forall_mem_nil _ | (refine List.forall_mem_cons.mpr ⟨by (first | with_reducible assumption | (repeat (first | exact List.mem_cons_self | with_reducible refine List.mem_cons_of_mem _ ?_))), ?_⟩; exact List.forall_mem_nil _)); (case p2 => with_reducible assumption); (case p3 => with_reducible assumption); (case p4 => with_reducible assumption); (case p5 => with_reducible assumption); (case k5 => k_asm); (case kK => first | exact rfl | assumption); (case kd => ktr_room); (case ku => ktr_units); k_whole); intro D9 t19 t29 t39 c9 h9 tk9 n9 F9 N9; (try dsimp only); (try k_sweep); (try k_fold))
  k_with "call ref" => (k_here; k_dflt (refine' Tc.use (w_lastGI _ _ _ _ _ _ _ _ ?p2 ?p3 ?p4) ?k1 ?k2 ?k3 ?k4 ?ko ?k5 ?kK ?kd ?ku ?_; (case k1 => k_asm); (case k2 => k_asm); (case k3 => k_asm); (case k4 => k_asm); (case ko => first | exact List.forall_mem_nil _ | (refine List.forall_mem_cons.mpr ⟨by (first | with_reducible assumption | (repeat (first | exact List.mem_cons_self | with_reducible refine List.mem_cons_of_mem _ ?_))), ?_⟩; exact List.forall_mem_nil _)); (case p2 => with_reducible assumption); (case p3 => with_reducible assumption); (case p4 => rfl); (case k5 => k_asm); (case kK => first | exact rfl | assumption); (case kd => ktr_room); (case ku => ktr_units); k_whole); intro D9 t19 t29 t39 c9 h9 tk9 n9 F9 N9; (try dsimp only); (try k_sweep); (try k_fold))
  k_with "call ref" => (k_here; k_dflt (refine' Pc.use (w_oOf_a _ _ _ _ _ _ _ _ ?p2 ?p3 ?p4 ?p5 ?p6 ?p7) ?k1 ?k2 ?k3 ?k4 ?k5 ?kK ?kd ?ku ?_; (case k1 => k_asm); (case k2 => k_asm); (case k3 => k_asm); (case k4 => k_asm); (case p2 => with_reducible assumption); (case p3 => with_reducible assumption); (case p4 => with_reducible assumption); (case p5 => with_reducible assumption); (case p6 => with_reducible exact past_of (by assumption) (by assumption) (by assumption)); (case p7 => with_reducible assumption); (case k5 => k_asm); (case kK => first | exact rfl | assumption); (case kd => ktr_room); (case ku => ktr_units); k_whole); intro D9 t19 t29 c9 h9 tk9 n9 F9 N9; (try dsimp only); (try k_sweep); (try k_fold))
  k_with "call ref" => (k_here; k_dflt (refine' Pc.use (w_oOf_b _ _ _ _ _ _ _ _ ?p2 ?p3 ?p4 ?p5 ?p6 ?p8 ?p7) ?k1 ?k2 ?k3 ?k4 ?k5 ?kK ?kd ?ku ?_; (case k1 => k_asm); (case k2 => k_asm); (case k3 => k_asm); (case k4 => k_asm); (case p2 => with_reducible assumption); (case p3 => with_reducible assumption); (case p4 => with_reducible assumption); (case p5 => with_reducible assumption); (case p6 => with_reducible exact past_of (by assumption) (by assumption) (by assumption)); (case p8 => rfl); (case p7 => with_reducible assumption); (case k5 => k_asm); (case kK => first | exact rfl | assumption); (case kd => ktr_room); (case ku => ktr_units); k_whole); intro D9 t19 t29 c9 h9 tk9 n9 F9 N9; (try dsimp only); (try k_sweep); (try k_fold))
  k_with "call ref" => (k_here; k_dflt (refine' Tc.use (w_oTo_a _ _ _ _ _ _ _ ?p2 ?p3 ?p4 ?p5 ?p6 ?p7) ?k1 ?k2 ?k3 ?k4 ?ko ?k5 ?kK ?kd ?ku ?_; (case k1 => k_asm); (case k2 => k_asm); (case k3 => k_asm); (case k4 => k_asm); (case ko => first | exact List.forall_mem_nil _ | (refine List.forall_mem_cons.mpr ⟨by (first | with_reducible assumption | (repeat (first | exact List.mem_cons_self | with_reducible refine List.mem_cons_of_mem _ ?_))), ?_⟩; exact List.forall_mem_nil _)); (case p2 => with_reducible assumption); (case p3 => with_reducible assumption); (case p4 => with_reducible assumption); (case p5 => with_reducible assumption); (case p6 => with_reducible exact past_of (by assumption) (by assumption) (by assumption)); (case p7 => with_reducible assumption); (case k5 => k_asm); (case kK => first | exact rfl | assumption); (case kd => ktr_room); (case ku => ktr_units); k_whole); intro D9 t19 t29 t39 c9 h9 tk9 n9 F9 N9; (try dsimp only); (try k_sweep); (try k_fold))
  k_with "call ref" => (k_here; k_dflt (refine' Tc.use (w_oTo_b _ _ _ _ _ _ _ ?p2 ?p3 ?p4 ?p5 ?p6 ?p8 ?p7) ?k1 ?k2 ?k3 ?k4 ?ko ?k5 ?kK ?kd ?ku ?_; (case k1 => k_asm); (case k2 => k_asm); (case k3 => k_asm); (case k4 => k_asm); (case ko => first | exact List.forall_mem_nil _ | (refine List.forall_mem_cons.mpr ⟨by (first | with_reducible assumption | (repeat (first | exact List.mem_cons_self | with_reducible refine List.mem_cons_of_mem _ ?_))), ?_⟩; exact List.forall_mem_nil _)); (case p2 => with_reducible assumption); (case p3 => with_reducible assumption); (case p4 => with_reducible assumption); (case p5 => with_reducible assumption); (case p6 => with_reducible exact past_of (by assumption) (by assumption) (by assumption)); (case p8 => rfl); (case p7 => with_reducible assumption); (case k5 => k_asm); (case kK => first | exact rfl | assumption); (case kd => ktr_room); (case ku => ktr_units); k_whole); intro D9 t19 t29 t39 c9 h9 tk9 n9 F9 N9; (try dsimp only); (try k_sweep); (try k_fold))
  k_with "call ref" => (k_here; k_dflt (refine' Tc.use (c_begin1 _ _ _ _ _ _ _ _ _ _ _ ?p1 ?p2 ?p3) ?k1 ?k2 ?k3 ?k4 ?ko ?k5 ?kK ?kd ?ku ?_; (case k1 => k_asm); (case k2 => k_asm); (case k3 => k_asm); (case k4 => k_asm); (case ko => first | exact List.forall_mem_nil _ | (refine List.forall_mem_cons.mpr ⟨by (first | with_reducible assumption | (repeat (first | exact List.mem_cons_self | with_reducible refine List.mem_cons_of_mem _ ?_))), ?_⟩; exact List.forall_mem_nil _)); (case p1 => with_reducible exact kind_one (by assumption) (by assumption) (by assumption)); (case p2 => first | with_reducible assumption | with_reducible exact up1 (by assumption)); (case p3 => first | with_reducible exact Int.le_of_lt (by assumption) | with_reducible exact up13 (by assumption)); (case k5 => k_asm); (case kK => first | exact rfl | assumption); (case kd => ktr_room); (case ku => ktr_units); k_whole); intro D9 t19 t29 t39 c9 h9 tk9 n9 F9 N9; (try dsimp only); (try k_sweep); (try k_fold))
  k_with "call ref" => (k_here; k_dflt (refine' Tc.use (w_on1 _ _ _ _ _ _ _ _ _ _ _ _ _ ?p1 ?p2 ?p3) ?k1 ?k2 ?k3 ?k4 ?ko ?k5 ?kK ?kd ?ku ?_; (case k1 => k_asm); (case k2 => k_asm); (case k3 => k_asm); (case k4 => k_asm); (case ko => first | exact List.forall_mem_nil _ | (refine List.forall_mem_cons.mpr ⟨by (first | with_reducible assumption | (repeat (first | exact List.mem_cons_self | with_reducible refine List.mem_cons_of_mem _ ?_))), ?_⟩; exact List.forall_mem_nil _)); (case p1 => with_reducible exact kind_one (by assumption) (by assumption) (by assumption)); (case p2 => with_reducible assumption); (case p3 => with_reducible assumption); (case k5 => k_asm); (case kK => first | exact rfl | assumption); (case kd => ktr_room); (case ku => ktr_units); k_whole); intro D9 t19 t29 t39 c9 h9 tk9 n9 F9 N9; (try dsimp only); (try k_sweep); (try k_fold))
  k_with "call ref" => (k_here; k_dflt (refine' Tc.use (c_toGC _ _ _ _ _ _ _ _ _ _ _) ?k1 ?k2 ?k3 ?k4 ?ko ?k5 ?kK ?kd ?ku ?_; (case k1 => k_asm); (case k2 => k_asm); (case k3 => k_asm); (case k4 => k_asm); (case ko => first | exact List.forall_mem_nil _ | (refine List.forall_mem_cons.mpr ⟨by (first | with_reducible assumption | (repeat (first | exact List.mem_cons_self | with_reducible refine List.mem_cons_of_mem _ ?_))), ?_⟩; exact List.forall_mem_nil _)); (case k5 => k_asm); (case kK => first | exact rfl | assumption); (case kd => ktr_room); (case ku => ktr_units); k_whole); intro D9 t19 t29 t39 c9 h9 tk9 n9 F9 N9; (try dsimp only); (try k_sweep); (try k_fold))
  k_with "call ref" => (k_here; k_dflt (refine' Tc.use (w_toGJ _ _ _ _ _ _ _ _ ?p2 ?p3 ?p4 ?p5) ?k1 ?k2 ?k3 ?k4 ?ko ?k5 ?kK ?kd ?ku ?_; (case k1 => k_asm); (case k2 => k_asm); (case k3 => k_asm); (case k4 => k_asm); (case ko => first | exact List.forall_mem_nil _ | (refine List.forall_mem_cons.mpr ⟨by (first | with_reducible assumption | (repeat (first | exact List.mem_cons_self | with_reducible refine List.mem_cons_of_mem _ ?_))), ?_⟩; exact List.forall_mem_nil _)); (case p2 => with_reducible assumption); (case p3 => with_reducible assumption); (case p4 => with_reducible assumption); (case p5 => with_reducible assumption); (case k5 => k_asm); (case kK => first | exact rfl | assumption); (case kd => ktr_room); (case ku => ktr_units); k_whole); intro D9 t19 t29 t39 c9 h9 tk9 n9 F9 N9; (try dsimp only); (try k_sweep); (try k_fold))
  k_with "call ref" => (k_here; k_dflt (refine' Tc.use (w_fromGJ _ _ _ _ _ _ _ _ ?p2 ?p3 ?p4 ?p5) ?k1 ?k2 ?k3 ?k4 ?ko ?k5 ?kK ?kd ?ku ?_; (case k1 => k_asm); (case k2 => k_asm); (case k3 => k_asm); (case k4 => k_asm); (case ko => first | exact List.forall_mem_nil _ | (refine List.forall_mem_cons.mpr ⟨by (first | with_reducible assumption | (repeat (first | exact List.mem_cons_self | with_reducible refine List.mem_cons_of_mem _ ?_))), ?_⟩; exact List.forall_mem_nil _)); (case p2 => with_reducible assumption); (case p3 => with_reducible assumption); (case p4 => with_reducible assumption); (case p5 => with_reducible assumption); (case k5 => k_asm); (case kK => first | exact rfl | assumption); (case kd => ktr_room); (case ku => ktr_units); k_whole); intro D9 t19 t29 t39 c9 h9 tk9 n9 F9 N9; (try dsimp only); (try k_sweep); (try k_fold))
  k_with "call ref" => (k_here; k_dflt (refine' Tc.use (w_lastGJ _ _ _ _ _ _ _ _ ?p2 ?p3 ?p4) ?k1 ?k2 ?k3 ?k4 ?ko ?k5 ?kK ?kd ?ku ?_; (case k1 => k_asm); (case k2 => k_asm); (case k3 => k_asm); (case k4 => k_asm); (case ko => first | exact List.forall_mem_nil _ | (refine List.forall_mem_cons.mpr ⟨by (first | with_reducible assumption | (repeat (first | exact List.mem_cons_self | with_reducible refine List.mem_cons_of_mem _ ?_))), ?_⟩; exact List.forall_mem_nil _)); (case p2 => with_reducible assumption); (case p3 => with_reducible assumption); (case p4 => rfl); (case k5 => k_asm); (case kK => first | exact rfl | assumption); (case kd => ktr_room); (case ku => ktr_units); k_whole); intro D9 t19 t29 t39 c9 h9 tk9 n9 F9 N9; (try dsimp only); (try k_sweep); (try k_fold))
  k_with "call ref" => (k_here; k_dflt (refine' Tc.use (w_fromGC _ _ _ _ _ _ _ _ ?p2 ?p3 ?p4 ?p5) ?k1 ?k2 ?k3 ?k4 ?ko ?k5 ?kK ?kd ?ku ?_; (case k1 => k_asm); (case k2 => k_asm); (case k3 => k_asm); (case k4 => k_asm); (case ko => first | exact List.forall_mem_nil _ | (refine List.forall_mem_cons.mpr ⟨by (first | with_reducible assumption | (repeat (first | exact List.mem_cons_self | with_reducible refine List.mem_cons_of_mem _ ?_))), ?_⟩; exact List.forall_mem_nil _)); (case p2 => with_reducible assumption); (case p3 => with_reducible assumption); (case p4 => first | with_reducible exact up0 (by assumption) | with_reducible exact clen_1 _ _); (case p5 => first | with_reducible exact Int.add_one_le_of_lt (by assumption) | with_reducible exact Int.le_refl _); (case k5 => k_asm); (case kK => first | exact rfl | assumption); (case kd => ktr_room); (case ku => ktr_units); k_whole); intro D9 t19 t29 t39 c9 h9 tk9 n9 F9 N9; (try dsimp only); (try k_sweep); (try k_fold))
  k_with "InvEndN" => (k_here; (rename News _ _ _ _ => nE'); (rename Fr _ _ _ _ => fE'); (k_dflt (refine' kst_end (σ := Int × Nat) (_, _) ?hf nE' ?hn ?ho ?hr ?hfa ?hal ?hsa ?hp)); (case hf => k_dflt (exact fE')); (case hn => intro p9 h9; (repeat (first | with_reducible exact sub2 h9 | with_reducible refine List.mem_cons_of_mem _ ?_))); (case ho => intro p9 h9; (repeat (first | with_reducible exact sub2_own h9 | with_reducible refine List.mem_cons_of_mem _ ?_))); (case hr => k_dflt rfl); (case hfa => kst_facts); (case hal => kst_all); (case hsa => (intro z h1 h2 h3; simp only [List.forall_mem_cons, List.not_mem_nil, false_implies, implies_true, and_true, ne_eq] at h2; simp only [List.contains_cons, List.contains_nil, Bool.or_false, Bool.or_eq_false_iff, beq_eq_false_iff_ne, ne_eq] at h3; (simp +zetaDelta [h1, h2, h3]; done))); (case hp => ((try dsimp only); k_extra "state")))
  refine ah_hd ?_
  k_with "pyIter ref" => k_state_given ["year", "kind"] (fun year kind pre past => kind = 0 → past = pst0 year (1 + pre.length)) "past"
  k_with "state" => first
    | with_reducible exact past_start
    | with_reducible exact past_none (by assumption)
    | with_reducible exact past_next0 (by assumption) (by assumption) (by assumption)
  k_go0
  (all_goals try k_fold)
  k_steps
end
