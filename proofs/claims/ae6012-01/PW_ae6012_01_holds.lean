import PyProof.Rows.All
import Wide.All
import OpenK.AllK
import Wide.FinOn
import PyProof.Rows.SetFrom
import PyProof.Rows.TupleGenD
import PyProof.GenCompT
import PyProof.ListNew
import PySem.Challenge.RW_ae6012_01
set_option Elab.async false
set_option linter.unusedVariables false
namespace Mine
open PySem

/-! ### polynomials in the square's entries -/
abbrev Mon := List Nat
abbrev Poly := List (Mon × Int)

def monDen (a : Nat → Int) : Mon → Int
  | [] => 1
  | x :: m => a x * monDen a m
def polDen (a : Nat → Int) : Poly → Int
  | [] => 0
  | t :: p => t.2 * monDen a t.1 + polDen a p

def ins (x : Nat) : Mon → Mon
  | [] => [x]
  | y :: m => match Nat.ble x y with
    | true => x :: y :: m
    | false => y :: ins x m
def mmul : Mon → Mon → Mon
  | [], n => n
  | x :: m, n => ins x (mmul m n)
/-- 0 less, 1 equal, 2 greater -/
def mcmp : Mon → Mon → Nat
  | [], [] => 1
  | [], _ :: _ => 0
  | _ :: _, [] => 2
  | x :: m, y :: n => match Nat.beq x y with
    | true => mcmp m n
    | false => match Nat.ble x y with
      | true => 0
      | false => 2
def isZ (c : Int) : Bool := match c with
  | .ofNat 0 => true
  | _ => false
def addT (m : Mon) (c : Int) : Poly → Poly
  | [] => match isZ c with
    | true => []
    | false => [(m, c)]
  | t :: p => match mcmp m t.1 with
    | 1 => match isZ (c + t.2) with
      | true => p
      | false => (m, c + t.2) :: p
    | 0 => (m, c) :: t :: p
    | _ => t :: addT m c p
def padd : Poly → Poly → Poly
  | [], q => q
  | t :: p, q => addT t.1 t.2 (padd p q)
def pscale (m : Mon) (c : Int) : Poly → Poly
  | [] => []
  | t :: p => addT (mmul m t.1) (c * t.2) (pscale m c p)
def pmul : Poly → Poly → Poly
  | [], _ => []
  | t :: p, q => padd (pscale t.1 t.2 q) (pmul p q)
def pone : Poly := [([], 1)]
def ppow (p : Poly) : Nat → Poly
  | 0 => pone
  | n + 1 => pmul (ppow p n) p
def pconst (c : Int) : Poly := match isZ c with
  | true => []
  | false => [([], c)]
def pdiv (c : Int) : Poly → Option Poly
  | [] => some []
  | t :: p => match decide (t.2 % c = 0) with
    | true => match pdiv c p with
      | some q => some ((t.1, t.2 / c) :: q)
      | none => none
    | false => none

section
variable (a : Nat → Int)
theorem ins_den (x : Nat) (m : Mon) : monDen a (ins x m) = a x * monDen a m := by
  induction m with
  | nil => rfl
  | cons y m ih =>
    unfold ins
    cases Nat.ble x y with
    | true => rfl
    | false =>
      show a y * monDen a (ins x m) = _
      rw [ih]
      show _ = a x * (a y * monDen a m)
      rw [← Int.mul_assoc, ← Int.mul_assoc, Int.mul_comm (a y)]
theorem mmul_den (m n : Mon) : monDen a (mmul m n) = monDen a m * monDen a n := by
  induction m with
  | nil => show _ = 1 * _; rw [Int.one_mul]; rfl
  | cons x m ih =>
    show monDen a (ins x (mmul m n)) = a x * monDen a m * monDen a n
    rw [ins_den, ih, Int.mul_assoc]
theorem mcmp_eq : ∀ {m n : Mon}, mcmp m n = 1 → m = n
  | [], [], _ => rfl
  | [], _ :: _, h => by cases h
  | _ :: _, [], h => by cases h
  | x :: m, y :: n, h => by
    unfold mcmp at h
    cases e : Nat.beq x y with
    | true =>
      rw [e] at h
      rw [Nat.eq_of_beq_eq_true e, mcmp_eq h]
    | false =>
      rw [e] at h
      cases q : Nat.ble x y with
      | true => rw [q] at h; cases h
      | false => rw [q] at h; cases h
theorem isZ_eq {c : Int} (h : isZ c = true) : c = 0 := by
  unfold isZ at h
  split at h
  · rfl
  · cases h
theorem addT_den (m : Mon) (c : Int) (p : Poly) : polDen a (addT m c p) = c * monDen a m + polDen a p := by
  induction p with
  | nil =>
    unfold addT
    cases e : isZ c with
    | true => rw [isZ_eq e]; simp [polDen]
    | false => rfl
  | cons t p ih =>
    unfold addT
    split
    · rename_i e
      have hm := mcmp_eq e
      subst hm
      cases z : isZ (c + t.2) with
      | true =>
        have := isZ_eq z
        show polDen a p = c * monDen a t.1 + (t.2 * monDen a t.1 + polDen a p)
        rw [← Int.add_assoc, ← Int.add_mul, this]; simp
      | false =>
        show (c + t.2) * monDen a t.1 + polDen a p = c * monDen a t.1 + (t.2 * monDen a t.1 + polDen a p)
        rw [← Int.add_assoc, ← Int.add_mul]
    · rfl
    · show t.2 * monDen a t.1 + polDen a (addT m c p) = c * monDen a m + (t.2 * monDen a t.1 + polDen a p)
      rw [ih]; omega
theorem padd_den (p q : Poly) : polDen a (padd p q) = polDen a p + polDen a q := by
  induction p with
  | nil => show polDen a q = 0 + _; rw [Int.zero_add]
  | cons t p ih =>
    show polDen a (addT t.1 t.2 (padd p q)) = t.2 * monDen a t.1 + polDen a p + polDen a q
    rw [addT_den, ih, Int.add_assoc]
theorem pscale_den (m : Mon) (c : Int) (p : Poly) : polDen a (pscale m c p) = c * monDen a m * polDen a p := by
  induction p with
  | nil => show (0 : Int) = _ * 0; simp
  | cons t p ih =>
    show polDen a (addT (mmul m t.1) (c * t.2) (pscale m c p)) = c * monDen a m * (t.2 * monDen a t.1 + polDen a p)
    rw [addT_den, ih, mmul_den, Int.mul_add]
    congr 1
    rw [Int.mul_assoc, Int.mul_assoc, Int.mul_left_comm t.2]
theorem pmul_den (p q : Poly) : polDen a (pmul p q) = polDen a p * polDen a q := by
  induction p with
  | nil => show (0 : Int) = 0 * _; simp
  | cons t p ih =>
    show polDen a (padd (pscale t.1 t.2 q) (pmul p q)) = (t.2 * monDen a t.1 + polDen a p) * polDen a q
    rw [padd_den, pscale_den, ih, Int.add_mul]
theorem pone_den : polDen a pone = 1 := by simp [pone, polDen, monDen]
theorem ppow_den (p : Poly) (n : Nat) : polDen a (ppow p n) = polDen a p ^ n := by
  induction n with
  | zero => rw [Int.pow_zero]; exact pone_den a
  | succ n ih =>
    show polDen a (pmul (ppow p n) p) = _
    rw [pmul_den, ih, Int.pow_succ]
theorem pconst_den (c : Int) : polDen a (pconst c) = c := by
  unfold pconst
  cases e : isZ c with
  | true => rw [isZ_eq e]; rfl
  | false => simp [polDen, monDen]
theorem pdiv_den {c : Int} (hc : c ≠ 0) : ∀ {p q : Poly}, pdiv c p = some q → polDen a p = c * polDen a q
  | [], q, h => by cases h; simp [polDen]
  | t :: p, q, h => by
    unfold pdiv at h
    cases e : decide (t.2 % c = 0) with
    | false => rw [e] at h; cases h
    | true =>
      rw [e] at h
      cases e2 : pdiv c p with
      | none => rw [e2] at h; cases h
      | some r =>
        rw [e2] at h
        cases h
        have h0 : t.2 % c = 0 := of_decide_eq_true e
        show t.2 * monDen a t.1 + polDen a p = c * (t.2 / c * monDen a t.1 + polDen a r)
        rw [pdiv_den hc e2, Int.mul_add, ← Int.mul_assoc, Int.mul_ediv_cancel' (Int.dvd_of_emod_eq_zero h0)]
theorem pdiv_fdiv {c : Int} (hc : 0 < c) {p q : Poly} (h : pdiv c p = some q) : (polDen a p).fdiv c = polDen a q := by
  rw [pdiv_den a (by omega) h, Int.fdiv_eq_ediv_of_nonneg _ (by omega), Int.mul_ediv_cancel_left _ (by omega)]
end

/-! a bound -/
def monOk (m : Mon) : Bool := Nat.ble m.length 8
def coefs : Poly → Nat
  | [] => 0
  | t :: p => t.2.natAbs + coefs p
def monsOk : Poly → Bool
  | [] => true
  | t :: p => match monOk t.1 with
    | true => monsOk p
    | false => false
def small (p : Poly) : Bool := match monsOk p with
  | true => Nat.ble (coefs p) 1000000
  | false => false
section
variable {a : Nat → Int} {B : Nat}
theorem mon_le (hB : 1 ≤ B) (ha : ∀ i, (a i).natAbs ≤ B) : ∀ (m : Mon), (monDen a m).natAbs ≤ B ^ m.length
  | [] => by simp [monDen]
  | x :: m => by
    show (a x * monDen a m).natAbs ≤ B ^ (m.length + 1)
    rw [Int.natAbs_mul, Nat.pow_succ, Nat.mul_comm]
    exact Nat.mul_le_mul (mon_le hB ha m) (ha x)
theorem pol_le (hB : 1 ≤ B) (ha : ∀ i, (a i).natAbs ≤ B) : ∀ (p : Poly), monsOk p = true → (polDen a p).natAbs ≤ coefs p * B ^ 8
  | [], _ => by simp [polDen]
  | t :: p, h => by
    unfold monsOk at h
    cases e : monOk t.1 with
    | false => rw [e] at h; cases h
    | true =>
      rw [e] at h
      have h1 := pol_le hB ha p h
      have h2 : (monDen a t.1).natAbs ≤ B ^ 8 := Nat.le_trans (mon_le hB ha t.1) (Nat.pow_le_pow_right hB (Nat.le_of_ble_eq_true e))
      show (t.2 * monDen a t.1 + polDen a p).natAbs ≤ (t.2.natAbs + coefs p) * B ^ 8
      have h3 := Int.natAbs_add_le (t.2 * monDen a t.1) (polDen a p)
      rw [Int.natAbs_mul] at h3
      rw [Nat.add_mul]
      have h4 := Nat.mul_le_mul_left t.2.natAbs h2
      omega
end
/-- the entries' sizes -/
def Bnd (a : Nat → Int) : Prop := ∀ i, (a i).natAbs ≤ 2 ^ 1048600
theorem small_bits {a : Nat → Int} (ha : Bnd a) {p : Poly} (h : small p = true) : Builtin.Int.intBits (polDen a p) ≤ 8400000 := by
  unfold small at h
  cases e : monsOk p with
  | false => rw [e] at h; cases h
  | true =>
    rw [e] at h
    have hc : coefs p ≤ 1000000 := Nat.le_of_ble_eq_true h
    have h1 := pol_le (B := 2 ^ 1048600) (Nat.one_le_two_pow) ha p e
    have h2 : (polDen a p).natAbs < 2 ^ 8389999 := by
      refine Nat.lt_of_le_of_lt h1 ?_
      refine Nat.lt_of_le_of_lt (Nat.mul_le_mul_right _ hc) ?_
      rw [← Nat.pow_mul]
      have : 1000000 < 2 ^ 20 := by decide
      refine Nat.lt_of_lt_of_le (Nat.mul_lt_mul_of_pos_right this (Nat.pow_pos (by decide))) ?_
      rw [← Nat.pow_add]
      exact Nat.pow_le_pow_right (by decide) (by decide)
    unfold Builtin.Int.intBits
    split
    · exact Nat.zero_le _
    · rename_i hz
      have hz' : (polDen a p).natAbs ≠ 0 := by
        intro h0
        exact hz (by simpa using Int.natAbs_eq_zero.mp h0)
      have := (Nat.log2_lt hz').mpr h2
      omega
end Mine

namespace Mine
open PySem PySem.Calls PyProof.Rows

inductive T where
  | i (z : Int)
  | s (p : Poly)
  | t (l : List T)
  | l (l : List T)

def IsTup (h : Heap) (b : Addr) (items : Array Value) : Prop := ∃ n, h.get? b = some { cls := .type "tuple", data := .seq items n }
theorem IsTup.isTuple {h : Heap} {b : Addr} {items : Array Value} (x : IsTup h b items) : h.IsTuple b items := let ⟨n, e⟩ := x; ⟨_, e, rfl, n, rfl⟩

/-- a view: the entries' values, and addresses that no value may reach -/
structure Vw where
  a : Nat → Int
  Z : Addr → Prop
mutual
def Rep (q : Vw) (h : Heap) : T → Value → Prop
  | .i z, v => ∃ k, v = .int z k
  | .s p, v => ∃ k, v = .int (polDen q.a p) k
  | .t l, v => ∃ b items, v = .ref b ∧ IsTup h b items ∧ Reps q h l items.toList ∧ ¬ q.Z b
  | .l l, v => ∃ b items, v = .ref b ∧ h.PlainList b items ∧ Reps q h l items.toList ∧ ¬ q.Z b
def Reps (q : Vw) (h : Heap) : List T → List Value → Prop
  | [], vs => vs = []
  | t :: l, vs => ∃ v r, vs = v :: r ∧ Rep q h t v ∧ Reps q h l r
end

/-- all the objects of h stand in h' -/
def Sub (h h' : Heap) : Prop := ∀ b o, h.get? b = some o → h'.get? b = some o
theorem Sub.refl (h : Heap) : Sub h h := fun _ _ e => e
theorem Sub.trans {h h' h'' : Heap} (x : Sub h h') (y : Sub h' h'') : Sub h h'' := fun b o e => y b o (x b o e)

/-- the rows that q may reach are kept -/
def Kept (q : Vw) (h h' : Heap) : Prop := ∀ b o, ¬ q.Z b → (∃ items n, o.data = .seq items n) → h.get? b = some o → h'.get? b = some o
mutual
theorem Rep.mono' {q : Vw} {h h' : Heap} (hs : Kept q h h') : ∀ (t : T) (v : Value), Rep q h t v → Rep q h' t v
  | .i z, v, x => x
  | .s p, v, x => x
  | .t l, v, ⟨b, items, e, ⟨n, hn⟩, r, z⟩ => ⟨b, items, e, ⟨n, hs _ _ z ⟨_, _, rfl⟩ hn⟩, Reps.mono' hs l _ r, z⟩
  | .l l, v, ⟨b, items, e, ⟨n, hn⟩, r, z⟩ => ⟨b, items, e, ⟨n, hs _ _ z ⟨_, _, rfl⟩ hn⟩, Reps.mono' hs l _ r, z⟩
theorem Reps.mono' {q : Vw} {h h' : Heap} (hs : Kept q h h') : ∀ (l : List T) (vs : List Value), Reps q h l vs → Reps q h' l vs
  | [], vs, x => x
  | t :: l, vs, ⟨v, r, e, x, y⟩ => ⟨v, r, e, Rep.mono' hs t v x, Reps.mono' hs l r y⟩
end
mutual
/-- another set of addresses -/
theorem Rep.view {a : Nat → Int} {Z Z' : Addr → Prop} {h : Heap} (hz : ∀ b o, h.get? b = some o → ¬ Z b → ¬ Z' b) : ∀ (t : T) (v : Value), Rep ⟨a, Z⟩ h t v → Rep ⟨a, Z'⟩ h t v
  | .i z, v, x => x
  | .s p, v, x => x
  | .t l, v, ⟨b, items, e, ⟨n, hn⟩, r, z⟩ => ⟨b, items, e, ⟨n, hn⟩, Reps.view hz l _ r, hz _ _ hn z⟩
  | .l l, v, ⟨b, items, e, ⟨n, hn⟩, r, z⟩ => ⟨b, items, e, ⟨n, hn⟩, Reps.view hz l _ r, hz _ _ hn z⟩
theorem Reps.view {a : Nat → Int} {Z Z' : Addr → Prop} {h : Heap} (hz : ∀ b o, h.get? b = some o → ¬ Z b → ¬ Z' b) : ∀ (l : List T) (vs : List Value), Reps ⟨a, Z⟩ h l vs → Reps ⟨a, Z'⟩ h l vs
  | [], vs, x => x
  | t :: l, vs, ⟨v, r, e, x, y⟩ => ⟨v, r, e, Rep.view hz t v x, Reps.view hz l r y⟩
end
/-- the addresses bear objects -/
def Live (Z : Addr → Prop) (h : Heap) : Prop := ∀ b, Z b → ∃ o, h.get? b = some o
theorem Live.mono {Z : Addr → Prop} {h h' : Heap} (x : Live Z h) (hs : Sub h h') : Live Z h' := fun b z => let ⟨o, e⟩ := x b z; ⟨o, hs b o e⟩
theorem Live.fresh {Z : Addr → Prop} {h : Heap} (x : Live Z h) {b : Addr} (e : h.get? b = none) : ¬ Z b := fun z => by obtain ⟨o, ho⟩ := x b z; rw [e] at ho; cases ho
theorem get_size (h : Heap) : h.get? h.objs.size = none := by
  cases e : h.get? h.objs.size with
  | none => rfl
  | some o => exact absurd (Heap.lt_size e) (Nat.lt_irrefl _)
theorem Live.size {Z : Addr → Prop} {h : Heap} (x : Live Z h) : ¬ Z h.objs.size := x.fresh (get_size h)
theorem Rep.mono {q : Vw} {h h' : Heap} (hs : Sub h h') {t : T} {v : Value} (x : Rep q h t v) : Rep q h' t v := Rep.mono' (fun b o _ _ e => hs b o e) t v x
theorem Reps.mono {q : Vw} {h h' : Heap} (hs : Sub h h') {t : List T} {v : List Value} (x : Reps q h t v) : Reps q h' t v := Reps.mono' (fun b o _ _ e => hs b o e) t v x

theorem Reps.length {a : Vw} {h : Heap} : ∀ {l : List T} {vs : List Value}, Reps a h l vs → vs.length = l.length
  | [], _, x => by cases x; rfl
  | _ :: l, _, ⟨v, r, e, _, y⟩ => by subst e; simp [Reps.length y]
theorem Reps.get {a : Vw} {h : Heap} : ∀ {l : List T} {vs : List Value}, Reps a h l vs → ∀ {n : Nat} {t : T}, l[n]? = some t → ∃ v, vs[n]? = some v ∧ Rep a h t v
  | [], _, x, n, t, e => by simp at e
  | t' :: l, _, ⟨v, r, e, x, y⟩, n, t, q => by
    subst e
    cases n with
    | zero => simp at q; subst q; exact ⟨v, rfl, x⟩
    | succ n => simp at q; simpa using Reps.get y q
theorem Reps.snoc {a : Vw} {h : Heap} {t : T} {v : Value} : ∀ {l : List T} {vs : List Value}, Reps a h l vs → Rep a h t v → Reps a h (l ++ [t]) (vs ++ [v])
  | [], _, x, y => by cases x; exact ⟨v, [], rfl, y, rfl⟩
  | _ :: l, _, ⟨u, r, e, x, y⟩, z => by subst e; exact ⟨u, r ++ [v], rfl, x, Reps.snoc y z⟩
theorem Reps.append {a : Vw} {h : Heap} : ∀ {l l' : List T} {vs vs' : List Value}, Reps a h l vs → Reps a h l' vs' → Reps a h (l ++ l') (vs ++ vs')
  | [], _, _, _, x, y => by cases x; exact y
  | _ :: l, _, _, _, ⟨u, r, e, x, y⟩, z => by subst e; exact ⟨u, _, rfl, x, Reps.append y z⟩

/-- the heap has grown; nothing else has turned but the counter -/
def Kp (s s' : Shared) : Prop := ∃ h' tk, s' = { s with heap := h', toks := tk } ∧ Sub s.heap h'
theorem Kp.refl (s : Shared) : Kp s s := ⟨s.heap, s.toks, rfl, fun _ _ e => e⟩
theorem Kp.trans {s s' s'' : Shared} (x : Kp s s') (y : Kp s' s'') : Kp s s'' := by
  obtain ⟨h1, t1, rfl, k1⟩ := x
  obtain ⟨h2, t2, rfl, k2⟩ := y
  exact ⟨h2, t2, rfl, fun b o e => k2 b o (k1 b o e)⟩
theorem Kp.sub {s s' : Shared} (x : Kp s s') : Sub s.heap s'.heap := by
  obtain ⟨h1, t1, rfl, k1⟩ := x
  exact k1
theorem Kp.mk' {s : Shared} {h' : Heap} {tk : Nat} (hk : Sub s.heap h') : Kp s { s with heap := h', toks := tk } := ⟨h', tk, rfl, hk⟩
theorem Kp.tok (s : Shared) (tk : Nat) : Kp s { s with toks := tk } := ⟨s.heap, tk, rfl, fun _ _ e => e⟩

/-! variables -/
inductive X where
  | u
  | p (t : T)
  | d (kv : List (List Int × T))
  | k
def nth : List X → Nat → X
  | [], _ => .u
  | x :: _, 0 => x
  | _ :: r, n + 1 => nth r n
def gp (r : List X) (i : Nat) : Option T := match nth r i with
  | .p t => some t
  | _ => none
def gd (r : List X) (i : Nat) : Option (List (List Int × T)) := match nth r i with
  | .d t => some t
  | _ => none

section
variable (prog : Program) (w : World)
abbrev tk := tupleKind (intKind prog w)
def KV (a : Vw) (h : Heap) : List (List Int × T) → List (List Int × Addr × Value) → Prop
  | [], xs => xs = []
  | (k, t) :: l, xs => ∃ b v r, xs = (k, b, v) :: r ∧ Rep a h (.t (k.map .i)) (.ref b) ∧ Rep a h t v ∧ KV a h l r
def RepX (a : Vw) (h : Heap) : X → Value → Prop
  | .u, _ => True
  | .p t, v => Rep a h t v
  | .d kv, v => ∃ b xs, v = .ref b ∧ h.DictOfH (tk prog w) b xs ∧ KV a h kv xs ∧ (b == sysModules) = false
  | .k, _ => True
end
section
variable {prog : Program} {w : World}
theorem KV.mono {a : Vw} {h h' : Heap} (hs : Sub h h') : ∀ {l : List (List Int × T)} {xs : List (List Int × Addr × Value)}, KV a h l xs → KV a h' l xs
  | [], _, x => x
  | (k, t) :: l, _, ⟨b, v, r, e, q, x, y⟩ => ⟨b, v, r, e, q.mono hs, x.mono hs, KV.mono hs y⟩
theorem dictOfH_mono {h h' : Heap} (hs : Sub h h') {b : Addr} {xs : List (List Int × Addr × Value)} (x : h.DictOfH (tk prog w) b xs) : h'.DictOfH (tk prog w) b xs := by
  obtain ⟨o, es, ep, ho, hx, hd, he, hk, hn⟩ := x
  refine ⟨o, es, ep, hs _ _ ho, hx, hd, he, fun y hy => ?_, hn⟩
  obtain ⟨o', items, n, h1, h2⟩ := hk y hy
  exact ⟨o', items, n, hs _ _ h1, h2⟩
theorem RepX.mono {a : Vw} {h h' : Heap} (hs : Sub h h') {x : X} {v : Value} (r : RepX prog w a h x v) : RepX prog w a h' x v := by
  cases x with
  | u => trivial
  | p t => exact Rep.mono hs r
  | d kv => obtain ⟨b, xs, e, hd, hk, hn⟩ := r; exact ⟨b, xs, e, dictOfH_mono hs hd, hk.mono hs, hn⟩
  | k => trivial
end

/-! where a name stands -/
def Holds (h : Heap) (env : Env) (m : Str → Option Value) (x : Str) (v : Value) : Prop :=
  (env.kindOf x = some .local ∧ m x = some v) ∨ ((env.kindOf x = some .cell ∨ env.kindOf x = some .free) ∧ ∃ c, env.cells.lookup x = some c ∧ h.IsCell c (some v))

structure GA (k : Nat) (A : Around) : Prop where
  handled : A.handled = none
  depth : A.depth + k ≤ 900
  units : A.units + 10 * k ≤ 9000
theorem GA.le {k j : Nat} {A : Around} (g : GA k A) (h : j ≤ k) : GA j A := ⟨g.handled, by have := g.depth; omega, by have := g.units; omega⟩
theorem GA.deeper {k : Nat} {A : Around} (g : GA (k + 1) A) (env : Env) : GA k (A.deeper env) := ⟨g.handled, by have := g.depth; show A.depth + 1 + k ≤ 900; omega, by have := g.units; show A.units + 3 + 10 * k ≤ 9000; omega⟩
theorem GA.room {k : Nat} {A : Around} (g : GA k A) : A.depth < recursionLimit := by have := g.depth; show A.depth < 1000; omega
theorem GA.cl {k : Nat} {A : Around} (g : GA k A) {j : Nat} (hj : j ≤ 500) : A.units + j < cLine := by have := g.units; rw [cLine_is]; omega

/-- what the program's top laid, but for one table of a code object -/
structure Base (prog : Program) (w : World) where
  h₀ : Heap
  P : Addr
  mg : Str → Option Value
  mb : Str → Option Value
  a : Nat → Int
  T : Obj → Prop
def NotDC (o : Obj) : Prop := (∀ es ep, o.data ≠ .dict es ep) ∧ (∀ v, o.data ≠ .cell v)
def NotSeq (o : Obj) : Prop := ∀ items n, o.data ≠ .seq items n
/-- the top's objects stand, but for the table, which is still one -/
def Gd {prog : Program} {w : World} (c : Base prog w) (h : Heap) : Prop := Heap.ExtBut c.P c.h₀ h ∧ ∃ o, h.get? c.P = some o ∧ NotSeq o ∧ NotDC o ∧ c.T o
structure Base.Ok {prog : Program} {w : World} (c : Base prog w) : Prop where
  bnd : Bnd c.a
  g : ∀ h, Gd c h → h.Ns mainGlobals c.mg
  b : ∀ h, Gd c h → h.Ns builtinsNs c.mb
  nolimit : ∀ h, Gd c h → h.NoLimit

structure EnvI (sc : Scope) (env : Env) : Prop where
  scope : env.scope = sc
  globals : env.globals = mainGlobals
  builtins : env.builtins = builtinsNs
  kind : sc.kind = .function
  cells : ∀ x, sc.names.lookup x = some .cell ∨ sc.names.lookup x = some .free → ∃ a, env.cells.lookup x = some a
theorem EnvI.kindOf {sc : Scope} {env : Env} (x : EnvI sc env) (n : Str) : env.kindOf n = sc.names.lookup n := by
  unfold Env.kindOf; rw [x.scope]
theorem EnvI.fn {sc : Scope} {env : Env} (x : EnvI sc env) : env.scope.kind = .function := by rw [x.scope]; exact x.kind

section
variable {prog : Program} {w : World} (c : Base prog w)
def FrE (Z : Addr → Prop) (h : Heap) (env : Env) (G : List Str) (r : List X) : Prop :=
  ∃ m, h.Ns env.locals m ∧ ∀ (i : Nat) (x : Str), G[i]? = some x → nth r i ≠ .u → ∃ v, Holds h env m x v ∧ RepX prog w ⟨c.a, Z⟩ h (nth r i) v

/-- the expression, from any good state, gives the tree that f tells -/
structure Ev (sc : Scope) (G : List Str) (k : Nat) (e : Expr) (f : List X → Option T) : Prop where
  go : ∀ (A : Around) (env : Env) (s : Shared) (r : List X) (t : T) (E : Value → Shared → Prop) (Z : Addr → Prop), GA k A → EnvI sc env → Gd c s.heap → Live Z s.heap → FrE c Z s.heap env G r → f r = some t →
    wpAny (model prog w) A (eval e env) (fun v s' => Kp s s' ∧ Rep ⟨c.a, Z⟩ s'.heap t v) E s
end

theorem ext_sub {prog : Program} {w : World} {c : Base prog w} {h h' : Heap} (x : Gd c h) (y : Sub h h') : Gd c h' := ⟨fun b o hb e => y b o (x.1 b o hb e), let ⟨o, e, z⟩ := x.2; ⟨o, y _ _ e, z⟩⟩

section
variable {prog : Program} {w : World} {c : Base prog w}
theorem FrE.mono {Z : Addr → Prop} {h h' : Heap} {env : Env} {G : List Str} {r : List X} (hs : Sub h h') (x : FrE c Z h env G r) : FrE c Z h' env G r := by
  obtain ⟨m, hn, hx⟩ := x
  refine ⟨m, hn.keeps hs, fun i y hi hu => ?_⟩
  obtain ⟨v, hv, hr⟩ := hx i y hi hu
  refine ⟨v, ?_, hr.mono hs⟩
  rcases hv with hv | ⟨hk, cc, h1, h2⟩
  · exact .inl hv
  · exact .inr ⟨hk, cc, h1, h2.keeps hs⟩

theorem load_var {A : Around} {E : Value → Shared → Prop} {s : Shared} {env : Env} {m : Str → Option Value} {x : Str} {pos : Pos} {v : Value} {Q : Value → Shared → Prop} (hf : env.scope.kind = .function) (hn : s.heap.Ns env.locals m)
    (hv : Holds s.heap env m x v) (h : Q v s) (hd : (x == ("__debug__" : Str)) = false) (hc : (x == ("__classdict__" : Str)) = false) :
    wpAny (model prog w) A (eval (.Name x pos) env) Q E s := by
  refine wpAny_Name ?_ hd
  rcases hv with ⟨hk, hm⟩ | ⟨hk | hk, cc, h1, h2⟩
  · exact wpAny_loadName_local hf hk hn hm h
  · exact wpAny_loadName_cell hf hk h1 h2 h
  · exact wpAny_loadName_free hf hk h1 h2 h hc

theorem Ev_name {sc : Scope} {G : List Str} {k i : Nat} {x : Str} {pos : Pos} (hi : G[i]? = some x) (hd : (x == ("__debug__" : Str)) = false) (hc : (x == ("__classdict__" : Str)) = false) :
    Ev c sc G k (.Name x pos) (fun r => gp r i) := by
  refine ⟨fun A env s r t E Z hA hE hx hZ hF ht => ?_⟩
  obtain ⟨m, hn, hF⟩ := hF
  have ht : gp r i = some t := ht
  unfold gp at ht
  cases e : nth r i with
  | u => rw [e] at ht; cases ht
  | d kv => rw [e] at ht; cases ht
  | k => rw [e] at ht; cases ht
  | p t' =>
    rw [e] at ht; cases ht
    obtain ⟨v, hv, hr⟩ := hF i x hi (by rw [e]; exact fun h => nomatch h)
    rw [e] at hr
    exact load_var hE.fn hn hv ⟨Kp.refl s, hr⟩ hd hc

theorem Ev_int {sc : Scope} {G : List Str} {k : Nat} {z : Int} {n : Nat} {pos : Pos} : Ev c sc G k (.Constant (.int z) n pos) (fun _ => some (.i z)) := by
  refine ⟨fun A env s r t E Z hA hE hx hZ hF ht => ?_⟩
  cases ht
  exact wpAny_Constant_int ⟨Kp.tok _ _, _, rfl⟩

/-! binary operators -/
structure BinOk (c : Base prog w) (k : Nat) (op : Operator) (F : T → T → Option T) : Prop where
  go : ∀ (A : Around) (s : Shared) (t₁ t₂ t : T) (v₁ v₂ : Value) (E : Value → Shared → Prop) (Z : Addr → Prop), GA k A → Gd c s.heap → Live Z s.heap → Rep ⟨c.a, Z⟩ s.heap t₁ v₁ → Rep ⟨c.a, Z⟩ s.heap t₂ v₂ → F t₁ t₂ = some t →
    wpAny (model prog w) A (binaryOp op v₁ v₂) (fun v s' => Kp s s' ∧ Rep ⟨c.a, Z⟩ s'.heap t v) E s

def ob {α β : Type} (x : Option α) (f : α → Option β) : Option β := match x with
  | some a => f a
  | none => none
theorem ob_some {α β : Type} {x : Option α} {f : α → Option β} {b : β} (h : ob x f = some b) : ∃ a, x = some a ∧ f a = some b := by
  cases x with
  | none => cases h
  | some a => exact ⟨a, rfl, h⟩

theorem Ev_bin {sc : Scope} {G : List Str} {k : Nat} {op : Operator} {F : T → T → Option T} {e₁ e₂ : Expr} {f₁ f₂ : List X → Option T} {pos : Pos} (hop : BinOk c k op F) (h₁ : Ev c sc G k e₁ f₁) (h₂ : Ev c sc G k e₂ f₂) :
    Ev c sc G k (.BinOp e₁ op e₂ pos) (fun r => ob (f₁ r) fun x => ob (f₂ r) fun y => F x y) := by
  refine ⟨fun A env s r t E Z hA hE hx hZ hF ht => ?_⟩
  obtain ⟨t₁, e1, ht⟩ := ob_some ht
  obtain ⟨t₂, e2, ht⟩ := ob_some ht
  refine wpAny_BinOp (wpAny_mono (h₁.go A env s r t₁ E Z hA hE hx hZ hF e1) (fun v₁ s₁ ⟨k₁, r₁⟩ => ?_) fun _ _ y => y)
  refine wpAny_mono (h₂.go A env s₁ r t₂ E Z hA hE (ext_sub hx k₁.sub) (hZ.mono k₁.sub) (hF.mono k₁.sub) e2) (fun v₂ s₂ ⟨k₂, r₂⟩ => ?_) fun _ _ y => y
  refine wpAny_mono (hop.go A s₂ t₁ t₂ t v₁ v₂ E Z hA (ext_sub hx (k₁.trans k₂).sub) (hZ.mono (k₁.trans k₂).sub) (r₁.mono k₂.sub) r₂ ht) (fun v s₃ ⟨k₃, r₃⟩ => ⟨(k₁.trans k₂).trans k₃, r₃⟩) fun _ _ y => y

def toP : T → Option Poly
  | .i z => some (pconst z)
  | .s p => some p
  | _ => none
theorem toP_rep {a : Vw} {h : Heap} {t : T} {p : Poly} {v : Value} (e : toP t = some p) (r : Rep a h t v) : ∃ k, v = .int (polDen a.a p) k := by
  cases t with
  | i z => cases e; obtain ⟨k, rfl⟩ := r; exact ⟨k, by rw [pconst_den]⟩
  | s q => cases e; exact r
  | t l => cases e
  | l l => cases e
/-- an int tree -/
def tAdd : T → T → Option T
  | .i x, .i y => some (.i (x + y))
  | x, y => ob (toP x) fun p => ob (toP y) fun q => some (.s (padd p q))
def pneg : Poly → Poly
  | [] => []
  | t :: p => (t.1, -t.2) :: pneg p
theorem pneg_den (a : Nat → Int) (p : Poly) : polDen a (pneg p) = - polDen a p := by
  induction p with
  | nil => rfl
  | cons t p ih =>
    show -t.2 * monDen a t.1 + polDen a (pneg p) = -(t.2 * monDen a t.1 + polDen a p)
    rw [ih, Int.neg_mul, Int.neg_add]
def tSub : T → T → Option T
  | .i x, .i y => some (.i (x - y))
  | x, y => ob (toP x) fun p => ob (toP y) fun q => some (.s (padd p (pneg q)))
def tMul : T → T → Option T
  | .i x, .i y => match Nat.ble x.natAbs 1000000 with
    | true => some (.i (x * y))
    | false => none
  | x, y => ob (toP x) fun p => ob (toP y) fun q => match small p with
    | true => match small q with
      | true => some (.s (pmul p q))
      | false => none
    | false => none
def tDiv : T → T → Option T
  | .i x, .i y => match decide (0 < y) with
    | true => match Nat.ble y.natAbs 1000000 with
      | true => some (.i (x.fdiv y))
      | false => none
    | false => none
  | .s p, .i y => match decide (0 < y) with
    | true => match Nat.ble y.natAbs 1000000 with
      | true => ob (pdiv y p) fun q => some (.s q)
      | false => none
    | false => none
  | _, _ => none
def tMod : T → T → Option T
  | .i x, .i y => match decide (0 < y) with
    | true => match Nat.ble y.natAbs 1000000 with
      | true => some (.i (x.fmod y))
      | false => none
    | false => none
  | _, _ => none
def powOf (x : T) (p : Poly) (n : Nat) : T := match x with
  | .i z => .i (z ^ n)
  | _ => .s (ppow p n)
def tPow : T → T → Option T
  | x, .i y => match decide (0 ≤ y) with
    | true => match Nat.ble y.toNat 8 with
      | true => ob (toP x) fun p => match small p with
        | true => some (powOf x p y.toNat)
        | false => none
      | false => none
    | false => none
  | _, _ => none
end
end Mine

namespace Mine
open PySem PySem.Calls PyProof.Rows

section
variable {prog : Program} {w : World} {c : Base prog w}

theorem small_const {z : Int} (h : Nat.ble z.natAbs 1000000 = true) : Builtin.Int.intBits z ≤ 64 := by
  have := Nat.le_of_ble_eq_true h
  exact intBits_le_64 (by omega) (by omega)

def tAdd' : T → T → Option T
  | .t l, .t r => some (.t (l ++ r))
  | x, y => tAdd x y
theorem toP_int {t : T} {p : Poly} (h : toP t = some p) : (∃ z, t = .i z) ∨ t = .s p := by
  cases t with
  | i z => exact .inl ⟨z, rfl⟩
  | s q => cases h; exact .inr rfl
  | t l => cases h
  | l l => cases h

theorem tup_ref {h : Heap} {l : List T} {v : Value} {a : Vw} (r : Rep a h (.t l) v) : ∃ b items, v = .ref b ∧ IsTup h b items ∧ Reps a h l items.toList ∧ ¬ a.Z b := r
theorem lst_ref {h : Heap} {l : List T} {v : Value} {a : Vw} (r : Rep a h (.l l) v) : ∃ b items, v = .ref b ∧ h.PlainList b items ∧ Reps a h l items.toList ∧ ¬ a.Z b := r
theorem rep_i {h : Heap} {z : Int} {v : Value} {a : Vw} (r : Rep a h (.i z) v) : ∃ k, v = .int z k := r

theorem sub_push (h : Heap) (o : Obj) : Sub h (h.push o) := fun _ _ e => Heap.get?_push_of_some o e

theorem bin_tuples {k : Nat} {A : Around} {s : Shared} {l r : List T} {v₁ v₂ : Value} {E : Value → Shared → Prop} {Z : Addr → Prop} (hZ : Live Z s.heap) (hsz : l.length + r.length ≤ 1000) (r₁ : Rep ⟨c.a, Z⟩ s.heap (.t l) v₁) (r₂ : Rep ⟨c.a, Z⟩ s.heap (.t r) v₂) :
    wpAny (model prog w) A (binaryOp .Add v₁ v₂) (fun v s' => Kp s s' ∧ Rep ⟨c.a, Z⟩ s'.heap (.t (l ++ r)) v) E s := by
  obtain ⟨b₁, i₁, rfl, ⟨n₁, h₁⟩, q₁, y₁⟩ := r₁
  obtain ⟨b₂, i₂, rfl, ⟨n₂, h₂⟩, q₂, y₂⟩ := r₂
  have z₁ := q₁.length
  have z₂ := q₂.length
  rw [Array.length_toList] at z₁ z₂
  by_cases e₁ : i₁.isEmpty = true
  · refine concat_meets ⟨_, h₁, rfl⟩ ⟨_, h₂, rfl⟩ noFill_tuple_add seq_tuple_add F.slot_tuple_add F.entry_tuple_add (F.args_tuple_add_2 _ _) (AutoSeq1.tuple___add___tuple_tuple_0 b₁ i₁ n₁ b₂ i₂ n₂ e₁) ⟨h₁, h₂, Kp.refl s, b₂, i₂, rfl, ⟨n₂, h₂⟩, ?_, y₂⟩
    have : l = [] := by
      have : i₁.size = 0 := by simpa using e₁
      exact List.eq_nil_of_length_eq_zero (by omega)
    subst this; exact q₂
  · by_cases e₂ : i₂.isEmpty = true
    · refine concat_meets ⟨_, h₁, rfl⟩ ⟨_, h₂, rfl⟩ noFill_tuple_add seq_tuple_add F.slot_tuple_add F.entry_tuple_add (F.args_tuple_add_2 _ _) (AutoSeq1.tuple___add___tuple_tuple_1 b₁ i₁ n₁ b₂ i₂ n₂ e₁ e₂) ⟨h₁, h₂, Kp.refl s, b₁, i₁, rfl, ⟨n₁, h₁⟩, ?_, y₁⟩
      have : r = [] := by
        have : i₂.size = 0 := by simpa using e₂
        exact List.eq_nil_of_length_eq_zero (by omega)
      subst this; rw [List.append_nil]; exact q₁
    · refine P.add_tuple h₁ h₂ e₁ e₂ ⟨Kp.mk' (tk := s.toks) (sub_push _ _), s.heap.objs.size, i₁ ++ i₂, rfl, ⟨0, Heap.get?_push_size _ rfl⟩, ?_, hZ.size⟩ (by rw [sizeLine_eq]; omega)
      rw [Array.toList_append]
      exact Reps.append (q₁.mono (sub_push _ _)) (q₂.mono (sub_push _ _))

def lenOk (l r : List T) : Bool := Nat.ble (l.length + r.length) 1000
def tAddF : T → T → Option T
  | .t l, .t r => match lenOk l r with
    | true => some (.t (l ++ r))
    | false => none
  | x, y => tAdd x y

theorem bin_add {k : Nat} : BinOk c k .Add tAddF := by
  refine ⟨fun A s t₁ t₂ t v₁ v₂ E Z hA hx hZ r₁ r₂ ht => ?_⟩
  have num : ∀ {p q : Poly}, toP t₁ = some p → toP t₂ = some q → t = .s (padd p q) → wpAny (model prog w) A (binaryOp .Add v₁ v₂) (fun v s' => Kp s s' ∧ Rep ⟨c.a, Z⟩ s'.heap t v) E s := by
    rintro p q hp hq rfl
    obtain ⟨k₁, rfl⟩ := toP_rep hp r₁
    obtain ⟨k₂, rfl⟩ := toP_rep hq r₂
    exact PyProof.Rows.add_int ⟨Kp.tok _ _, _, by rw [padd_den]⟩
  cases t₁ with
  | i x => cases t₂ with
    | i y =>
      cases ht
      obtain ⟨k₁, rfl⟩ := r₁
      obtain ⟨k₂, rfl⟩ := r₂
      exact PyProof.Rows.add_int ⟨Kp.tok _ _, _, rfl⟩
    | s q => cases ht; exact num rfl rfl rfl
    | t r => cases ht
    | l r => cases ht
  | s p => cases t₂ with
    | i y => cases ht; exact num rfl rfl rfl
    | s q => cases ht; exact num rfl rfl rfl
    | t r => cases ht
    | l r => cases ht
  | t l => cases t₂ with
    | i y => cases ht
    | s q => cases ht
    | t r =>
      change (match lenOk l r with | true => some (T.t (l ++ r)) | false => none) = some t at ht
      cases e : lenOk l r with
      | false => rw [e] at ht; cases ht
      | true => rw [e] at ht; cases ht; exact bin_tuples (k := k) hZ (Nat.le_of_ble_eq_true e) r₁ r₂
    | l r => cases ht
  | l l => cases t₂ <;> cases ht

theorem bin_sub {k : Nat} : BinOk c k .Sub tSub := by
  refine ⟨fun A s t₁ t₂ t v₁ v₂ E Z hA hx hZ r₁ r₂ ht => ?_⟩
  have num : ∀ {p q : Poly}, toP t₁ = some p → toP t₂ = some q → t = .s (padd p (pneg q)) → wpAny (model prog w) A (binaryOp .Sub v₁ v₂) (fun v s' => Kp s s' ∧ Rep ⟨c.a, Z⟩ s'.heap t v) E s := by
    rintro p q hp hq rfl
    obtain ⟨k₁, rfl⟩ := toP_rep hp r₁
    obtain ⟨k₂, rfl⟩ := toP_rep hq r₂
    exact PyProof.Rows.sub_int ⟨Kp.tok _ _, _, by rw [padd_den, pneg_den, Int.sub_eq_add_neg]⟩
  cases t₁ with
  | i x => cases t₂ with
    | i y =>
      cases ht
      obtain ⟨k₁, rfl⟩ := r₁
      obtain ⟨k₂, rfl⟩ := r₂
      exact PyProof.Rows.sub_int ⟨Kp.tok _ _, _, rfl⟩
    | s q => cases ht; exact num rfl rfl rfl
    | t r => cases ht
    | l r => cases ht
  | s p => cases t₂ with
    | i y => cases ht; exact num rfl rfl rfl
    | s q => cases ht; exact num rfl rfl rfl
    | t r => cases ht
    | l r => cases ht
  | t l => cases t₂ <;> cases ht
  | l l => cases t₂ <;> cases ht

theorem mul_ok {x y : Int} (hx : Builtin.Int.intBits x ≤ 8400000) (hy : Builtin.Int.intBits y ≤ 8400000) : IntMulOk x y := by
  unfold IntMulOk Builtin.Int.intTooBig
  have : decide ((((Builtin.Int.intBits x : Nat) : Int) + ((Builtin.Int.intBits y : Nat) : Int)) > ((bitsLine : Nat) : Int)) = false := decide_eq_false (by
    have e : bitsLine = 134217728 := by decide
    rw [e]; omega)
  rw [this]; simp
theorem bits_i {z : Int} (h : Nat.ble z.natAbs 1000000 = true) : Builtin.Int.intBits z ≤ 8400000 := Nat.le_trans (small_const h) (by decide)

theorem bin_mul {k : Nat} (hc : c.Ok) : BinOk c k .Mult tMul := by
  refine ⟨fun A s t₁ t₂ t v₁ v₂ E Z hA hx hZ r₁ r₂ ht => ?_⟩
  have num : ∀ {p q : Poly}, toP t₁ = some p → toP t₂ = some q → (match small p with | true => (match small q with | true => some (T.s (pmul p q)) | false => none) | false => none) = some t → wpAny (model prog w) A (binaryOp .Mult v₁ v₂) (fun v s' => Kp s s' ∧ Rep ⟨c.a, Z⟩ s'.heap t v) E s := by
    intro p q hp hq hs
    cases ep : small p with
    | false => rw [ep] at hs; cases hs
    | true =>
      rw [ep] at hs
      cases eq : small q with
      | false => rw [eq] at hs; cases hs
      | true =>
        rw [eq] at hs
        cases hs
        obtain ⟨k₁, rfl⟩ := toP_rep hp r₁
        obtain ⟨k₂, rfl⟩ := toP_rep hq r₂
        exact PyProof.Rows.mul_int ⟨Kp.tok _ _, _, by rw [pmul_den]⟩ (mul_ok (small_bits hc.bnd ep) (small_bits hc.bnd eq))
  cases t₁ with
  | i x => cases t₂ with
    | i y =>
      change (match Nat.ble x.natAbs 1000000 with | true => some (T.i (x * y)) | false => none) = some t at ht
      cases e : Nat.ble x.natAbs 1000000 with
      | false => rw [e] at ht; cases ht
      | true =>
        rw [e] at ht
        cases ht
        obtain ⟨k₁, rfl⟩ := r₁
        obtain ⟨k₂, rfl⟩ := r₂
        exact PyProof.Rows.mul_int ⟨Kp.tok _ _, _, rfl⟩ (IntMulOk.of_left (small_const e))
    | s q => exact num rfl rfl ht
    | t r => cases ht
    | l r => cases ht
  | s p => cases t₂ with
    | i y => exact num rfl rfl ht
    | s q => exact num rfl rfl ht
    | t r => cases ht
    | l r => cases ht
  | t l => cases t₂ <;> cases ht
  | l l => cases t₂ <;> cases ht

theorem bin_div {k : Nat} : BinOk c k .FloorDiv tDiv := by
  refine ⟨fun A s t₁ t₂ t v₁ v₂ E Z hA hx hZ r₁ r₂ ht => ?_⟩
  cases t₂ with
  | i y =>
    obtain ⟨k₂, rfl⟩ := r₂
    cases t₁ with
    | i x =>
      change (match decide (0 < y) with | true => (match Nat.ble y.natAbs 1000000 with | true => some (T.i (x.fdiv y)) | false => none) | false => none) = some t at ht
      cases e : decide (0 < y) with
      | false => rw [e] at ht; cases ht
      | true =>
        rw [e] at ht
        have h0 : 0 < y := of_decide_eq_true e
        cases e2 : Nat.ble y.natAbs 1000000 with
        | false => rw [e2] at ht; cases ht
        | true =>
          rw [e2] at ht
          have h1 := Nat.le_of_ble_eq_true e2
          cases ht
          obtain ⟨k₁, rfl⟩ := r₁
          exact PyProof.Rows.floordiv_int (by omega) ⟨Kp.tok _ _, _, rfl⟩ (.inl (PyProof.noPylong_small (by omega)))
    | s p =>
      change (match decide (0 < y) with | true => (match Nat.ble y.natAbs 1000000 with | true => ob (pdiv y p) fun q => some (T.s q) | false => none) | false => none) = some t at ht
      cases e : decide (0 < y) with
      | false => rw [e] at ht; cases ht
      | true =>
        rw [e] at ht
        have h0 : 0 < y := of_decide_eq_true e
        cases e2 : Nat.ble y.natAbs 1000000 with
        | false => rw [e2] at ht; cases ht
        | true =>
          rw [e2] at ht
          have h1 := Nat.le_of_ble_eq_true e2
          obtain ⟨q, hq, ht⟩ := ob_some ht
          cases ht
          obtain ⟨k₁, rfl⟩ := r₁
          exact PyProof.Rows.floordiv_int (by omega) ⟨Kp.tok _ _, _, by rw [pdiv_fdiv c.a h0 hq]⟩ (.inl (PyProof.noPylong_small (by omega)))
    | t r => cases ht
    | l r => cases ht
  | s q => cases t₁ <;> cases ht
  | t l => cases t₁ <;> cases ht
  | l l => cases t₁ <;> cases ht

theorem bin_mod {k : Nat} : BinOk c k .Mod tMod := by
  refine ⟨fun A s t₁ t₂ t v₁ v₂ E Z hA hx hZ r₁ r₂ ht => ?_⟩
  cases t₂ with
  | i y =>
    obtain ⟨k₂, rfl⟩ := r₂
    cases t₁ with
    | i x =>
      change (match decide (0 < y) with | true => (match Nat.ble y.natAbs 1000000 with | true => some (T.i (x.fmod y)) | false => none) | false => none) = some t at ht
      cases e : decide (0 < y) with
      | false => rw [e] at ht; cases ht
      | true =>
        rw [e] at ht
        have h0 : 0 < y := of_decide_eq_true e
        cases e2 : Nat.ble y.natAbs 1000000 with
        | false => rw [e2] at ht; cases ht
        | true =>
          rw [e2] at ht
          have h1 := Nat.le_of_ble_eq_true e2
          cases ht
          obtain ⟨k₁, rfl⟩ := r₁
          exact PyProof.Rows.mod_int' (by omega) ⟨Kp.tok _ _, _, rfl⟩
    | s p => cases ht
    | t r => cases ht
    | l r => cases ht
  | s q => cases t₁ <;> cases ht
  | t l => cases t₁ <;> cases ht
  | l l => cases t₁ <;> cases ht

theorem bin_pow {k : Nat} (hc : c.Ok) : BinOk c k .Pow tPow := by
  refine ⟨fun A s t₁ t₂ t v₁ v₂ E Z hA hx hZ r₁ r₂ ht => ?_⟩
  cases t₂ with
  | s q => cases t₁ <;> cases ht
  | t l => cases t₁ <;> cases ht
  | l l => cases t₁ <;> cases ht
  | i y =>
    obtain ⟨k₂, rfl⟩ := r₂
    change (match decide (0 ≤ y) with | true => (match Nat.ble y.toNat 8 with | true => ob (toP t₁) fun p => (match small p with | true => some (powOf t₁ p y.toNat) | false => none) | false => none) | false => none) = some t at ht
    cases e : decide (0 ≤ y) with
    | false => rw [e] at ht; cases ht
    | true =>
      rw [e] at ht
      have h0 : 0 ≤ y := of_decide_eq_true e
      cases e2 : Nat.ble y.toNat 8 with
      | false => rw [e2] at ht; cases ht
      | true =>
        rw [e2] at ht
        have h1 := Nat.le_of_ble_eq_true e2
        obtain ⟨p, hp, ht⟩ := ob_some ht
        cases ep : small p with
        | false => rw [ep] at ht; cases ht
        | true =>
          rw [ep] at ht
          have hb := small_bits hc.bnd ep
          have hsz : ((Builtin.Int.intBits (polDen c.a p) : Nat) : Int) * y ≤ 2 ^ 27 := by
            have a1 : ((Builtin.Int.intBits (polDen c.a p) : Nat) : Int) * y ≤ 8400000 * y := Int.mul_le_mul_of_nonneg_right (by omega) h0
            omega
          obtain ⟨k₁, rfl⟩ := toP_rep hp r₁
          refine PyProof.Rows.pow_int h0 hsz ⟨Kp.tok _ _, ?_⟩
          cases t₁ with
          | i z => cases hp; cases ht; exact ⟨_, by rw [pconst_den]⟩
          | s q => cases hp; cases ht; exact ⟨_, by rw [ppow_den]⟩
          | t l => cases hp
          | l l => cases hp

/-! list times int: a row of equal ints -/
def tRep : T → T → Option T
  | .l [x], .i y => match decide (0 ≤ y) with
    | true => match Nat.ble y.toNat 1000 with
      | true => some (.l (List.replicate y.toNat x))
      | false => none
    | false => none
  | _, _ => none
end
end Mine

namespace Mine
open PySem PySem.Calls PyProof.Rows PyProof.V PySem.SeqAt

def asInts : List T → Option (List Int)
  | [] => some []
  | .i z :: l => match asInts l with
    | some r => some (z :: r)
    | none => none
  | _ :: _ => none
theorem asInts_cons {t : T} {l : List T} {zs : List Int} (h : asInts (t :: l) = some zs) : ∃ z r, t = .i z ∧ asInts l = some r ∧ zs = z :: r := by
  cases t with
  | i z =>
    change (match asInts l with | some r => some (z :: r) | none => none) = some zs at h
    cases e : asInts l with
    | none => rw [e] at h; cases h
    | some r => rw [e] at h; cases h; exact ⟨z, r, rfl, rfl, rfl⟩
  | s p => cases h
  | t l => cases h
  | l l => cases h
theorem reps_ints {a : Vw} {h : Heap} : ∀ {l : List T} {zs : List Int} {vs : List Value}, asInts l = some zs → Reps a h l vs → vs.length = zs.length ∧ ∀ (i : Nat) (v : Value), vs[i]? = some v → ∃ k, v = .int (zs.getD i 0) k
  | [], zs, vs, e, r => by cases e; cases r; exact ⟨rfl, fun i v h => by simp at h⟩
  | t :: l, zs, vs, e, r => by
    obtain ⟨z, zr, rfl, e', rfl⟩ := asInts_cons e
    obtain ⟨v, vr, rfl, ⟨k, rfl⟩, r'⟩ := r
    obtain ⟨h1, h2⟩ := reps_ints e' r'
    refine ⟨by simp [h1], fun i u hu => ?_⟩
    cases i with
    | zero => simp at hu; subst hu; exact ⟨k, by simp⟩
    | succ i => simp at hu; obtain ⟨k', hk⟩ := h2 i u hu; exact ⟨k', by simpa using hk⟩

section
variable {prog : Program} {w : World} {c : Base prog w}

structure CmpOk (c : Base prog w) (k : Nat) (op : CmpOp) (F : T → T → Option Bool) : Prop where
  go : ∀ (A : Around) (s : Shared) (t₁ t₂ : T) (b : Bool) (v₁ v₂ : Value) (E : Value → Shared → Prop) (Z : Addr → Prop), GA k A → Rep ⟨c.a, Z⟩ s.heap t₁ v₁ → Rep ⟨c.a, Z⟩ s.heap t₂ v₂ → F t₁ t₂ = some b →
    wpAny (model prog w) A (compareOp op v₁ v₂) (fun v s' => v = .bool b ∧ s' = s) E s

def meq : Mon → Mon → Bool
  | [], [] => true
  | x :: m, y :: n => match Nat.beq x y with
    | true => meq m n
    | false => false
  | _, _ => false
def peq : Poly → Poly → Bool
  | [], [] => true
  | t :: p, u :: q => match meq t.1 u.1 with
    | true => match isZ (t.2 - u.2) with
      | true => peq p q
      | false => false
    | false => false
  | _, _ => false
theorem meq_eq : ∀ {m n : Mon}, meq m n = true → m = n
  | [], [], _ => rfl
  | [], _ :: _, h => by cases h
  | _ :: _, [], h => by cases h
  | x :: m, y :: n, h => by
    unfold meq at h
    cases e : Nat.beq x y with
    | true => rw [e] at h; rw [Nat.eq_of_beq_eq_true e, meq_eq h]
    | false => rw [e] at h; cases h
theorem peq_den {a : Nat → Int} : ∀ {p q : Poly}, peq p q = true → polDen a p = polDen a q
  | [], [], _ => rfl
  | [], _ :: _, h => by cases h
  | _ :: _, [], h => by cases h
  | t :: p, u :: q, h => by
    unfold peq at h
    cases e : meq t.1 u.1 with
    | false => rw [e] at h; cases h
    | true =>
      rw [e] at h
      cases z : isZ (t.2 - u.2) with
      | false => rw [z] at h; cases h
      | true =>
        rw [z] at h
        have h1 := meq_eq e
        have h2 := isZ_eq z
        show t.2 * monDen a t.1 + polDen a p = u.2 * monDen a u.1 + polDen a q
        rw [peq_den h, h1, show t.2 = u.2 by omega]

def tEq : T → T → Option Bool
  | .i x, .i y => some (x == y)
  | .l [], .l [] => some true
  | .l (_ :: _), .l [] => some false
  | x, y => ob (toP x) fun p => ob (toP y) fun q => match peq p q with
    | true => some true
    | false => none
def tNe : T → T → Option Bool
  | .i x, .i y => some (x != y)
  | .l [], .l [] => some false
  | .l (_ :: _), .l [] => some true
  | _, _ => none
def tLt : T → T → Option Bool
  | .i x, .i y => some (decide (x < y))
  | _, _ => none
def tGt : T → T → Option Bool
  | .i x, .i y => some (decide (y < x))
  | _, _ => none
def tIn : T → T → Option Bool
  | .i x, .t l => ob (asInts l) fun zs => some (zs.any (fun z => z == x))
  | _, _ => none

theorem cmp_lt {k : Nat} : CmpOk c k .Lt tLt := by
  refine ⟨fun A s t₁ t₂ b v₁ v₂ E Z hA r₁ r₂ ht => ?_⟩
  cases t₁ <;> cases t₂ <;> cases ht
  obtain ⟨k₁, rfl⟩ := r₁
  obtain ⟨k₂, rfl⟩ := r₂
  exact PyProof.Rows.lt_int ⟨rfl, rfl⟩
theorem cmp_gt {k : Nat} : CmpOk c k .Gt tGt := by
  refine ⟨fun A s t₁ t₂ b v₁ v₂ E Z hA r₁ r₂ ht => ?_⟩
  cases t₁ <;> cases t₂ <;> cases ht
  obtain ⟨k₁, rfl⟩ := r₁
  obtain ⟨k₂, rfl⟩ := r₂
  exact PyProof.Rows.gt_int ⟨rfl, rfl⟩
theorem nil_of {a : Vw} {h : Heap} {items : Array Value} (r : Reps a h [] items.toList) : items.size = 0 := by
  have := r.length; simpa using this
theorem cmp_eq {k : Nat} : CmpOk c k .Eq tEq := by
  refine ⟨fun A s t₁ t₂ b v₁ v₂ E Z hA r₁ r₂ ht => ?_⟩
  have num : ∀ {p q : Poly}, toP t₁ = some p → toP t₂ = some q → (match peq p q with | true => some true | false => none) = some b → wpAny (model prog w) A (compareOp .Eq v₁ v₂) (fun v s' => v = .bool b ∧ s' = s) E s := by
    intro p q hp hq hb
    cases e : peq p q with
    | false => rw [e] at hb; cases hb
    | true =>
      rw [e] at hb; cases hb
      obtain ⟨k₁, rfl⟩ := toP_rep hp r₁
      obtain ⟨k₂, rfl⟩ := toP_rep hq r₂
      exact PyProof.Rows.eq_int ⟨by rw [peq_den e]; simp, rfl⟩
  cases t₁ with
  | i x => cases t₂ with
    | i y =>
      cases ht
      obtain ⟨k₁, rfl⟩ := r₁
      obtain ⟨k₂, rfl⟩ := r₂
      exact PyProof.Rows.eq_int ⟨rfl, rfl⟩
    | s q => exact num rfl rfl ht
    | t l => cases ht
    | l l => cases ht
  | s p => cases t₂ with
    | i y => exact num rfl rfl ht
    | s q => exact num rfl rfl ht
    | t l => cases ht
    | l l => cases ht
  | t l => cases t₂ <;> cases ht
  | l xs =>
    cases t₂ with
    | i y => cases xs <;> cases ht
    | s q => cases xs <;> cases ht
    | t l => cases xs <;> cases ht
    | l ys =>
      cases ys with
      | cons y ys => cases xs <;> cases ht
      | nil =>
        obtain ⟨b₁, i₁, rfl, ⟨n₁, h₁⟩, q₁, y₁⟩ := r₁
        obtain ⟨b₂, i₂, rfl, ⟨n₂, h₂⟩, q₂, y₂⟩ := r₂
        have z₂ := nil_of q₂
        have hu : A.units < cLine := by have := hA.cl (j := 0) (by decide); simpa using this
        cases xs with
        | nil =>
          cases ht
          have z₁ := nil_of q₁
          refine P.eq_list (e := fun _ => true) h₁ h₂ (by omega) (fun j h1 _ => by omega) hu ⟨?_, rfl⟩
          rw [z₁]; rfl
        | cons x xs =>
          cases ht
          have z₁ := q₁.length
          rw [Array.length_toList, List.length_cons] at z₁
          exact P.eq_list_lengths h₁ h₂ (by simp only [bne_iff_ne]; omega) hu ⟨rfl, rfl⟩
theorem cmp_ne {k : Nat} : CmpOk c k .NotEq tNe := by
  refine ⟨fun A s t₁ t₂ b v₁ v₂ E Z hA r₁ r₂ ht => ?_⟩
  cases t₁ with
  | i x =>
    cases t₂ <;> cases ht
    obtain ⟨k₁, rfl⟩ := r₁
    obtain ⟨k₂, rfl⟩ := r₂
    exact PyProof.Rows.ne_int ⟨rfl, rfl⟩
  | s p => cases t₂ <;> cases ht
  | t l => cases t₂ <;> cases ht
  | l xs =>
    cases t₂ with
    | i y => cases xs <;> cases ht
    | s q => cases xs <;> cases ht
    | t l => cases xs <;> cases ht
    | l ys =>
      cases ys with
      | cons y ys => cases xs <;> cases ht
      | nil =>
        obtain ⟨b₁, i₁, rfl, ⟨n₁, h₁⟩, q₁, y₁⟩ := r₁
        obtain ⟨b₂, i₂, rfl, ⟨n₂, h₂⟩, q₂, y₂⟩ := r₂
        have z₂ := nil_of q₂
        have hu : A.units < cLine := by have := hA.cl (j := 0) (by decide); simpa using this
        cases xs with
        | nil =>
          cases ht
          have z₁ := nil_of q₁
          refine richCompare_meets_room (op := .NotEq) ⟨_, h₁, rfl⟩ ⟨_, h₂, rfl⟩ F.slot_list_ne F.entry_list_ne (F.args_list_ne_2 _ _) (list_neAt b₁ b₂ i₁ i₂ n₁ n₂ none none #[] #[] (by omega) (fun _ => true))
            ⟨h₁, h₂, fun j h1 _ => by omega, (fun x => nomatch x), ?_, rfl⟩ hu
          rw [z₁]; rfl
        | cons x xs =>
          cases ht
          have z₁ := q₁.length
          rw [Array.length_toList, List.length_cons] at z₁
          exact richCompare_meets_room (op := .NotEq) ⟨_, h₁, rfl⟩ ⟨_, h₂, rfl⟩ F.slot_list_ne F.entry_list_ne (F.args_list_ne_2 _ _) (list_ne_lengthsAt b₁ b₂ i₁ i₂ n₁ n₂ none none #[] #[] (by simp only [bne_iff_ne]; omega))
            ⟨h₁, h₂, (fun x => nomatch x), rfl, rfl⟩ hu
theorem any_ints {x : Int} : ∀ {l : List Value} {zs : List Int}, l.length = zs.length → (∀ (i : Nat) (v : Value), l[i]? = some v → ∃ k, v = .int (zs.getD i 0) k) →
    (l.any fun v => match v with | .int z _ => z == x | _ => false) = zs.any fun z => z == x
  | [], [], _, _ => rfl
  | [], _ :: _, h, _ => by simp at h
  | _ :: _, [], h, _ => by simp at h
  | v :: l, z :: zs, h, hv => by
    obtain ⟨k, rfl⟩ := hv 0 v rfl
    simp only [List.any_cons]
    rw [any_ints (by simpa using h) fun i u hu => by simpa using hv (i + 1) u (by simpa using hu)]
    rfl
theorem cmp_in {k : Nat} : CmpOk c k .In tIn := by
  refine ⟨fun A s t₁ t₂ b v₁ v₂ E Z hA r₁ r₂ ht => ?_⟩
  cases t₁ with
  | s p => cases t₂ <;> cases ht
  | t l => cases t₂ <;> cases ht
  | l l => cases t₂ <;> cases ht
  | i x =>
    cases t₂ with
    | i y => cases ht
    | s p => cases ht
    | l l => cases ht
    | t l =>
      obtain ⟨zs, hz, ht⟩ := ob_some ht
      cases ht
      obtain ⟨k₁, rfl⟩ := r₁
      obtain ⟨b₂, i₂, rfl, ht₂, q₂, y₂⟩ := r₂
      obtain ⟨z1, z2⟩ := reps_ints hz q₂
      refine in_tupleAt (fun v => match v with | .int z _ => z == x | _ => false) ht₂.isTuple (fun y hy => ?_) ⟨?_, rfl⟩
      · obtain ⟨j, hj, rfl⟩ := Array.mem_iff_getElem.mp hy
        obtain ⟨k', hk⟩ := z2 j i₂[j] (by simp [hj])
        rw [hk]
        exact EqAt.int_int _ _ _ _
      · rw [← Array.any_toList, any_ints z1 z2]

/-! tests -/
structure EvB (c : Base prog w) (sc : Scope) (G : List Str) (k : Nat) (e : Expr) (f : List X → Option Bool) : Prop where
  go : ∀ (A : Around) (env : Env) (s : Shared) (r : List X) (b : Bool) (E : Value → Shared → Prop) (Z : Addr → Prop), GA k A → EnvI sc env → Gd c s.heap → Live Z s.heap → FrE c Z s.heap env G r → f r = some b →
    wpAny (model prog w) A (isTrue e env (eval e env)) (fun v s' => v = b ∧ Kp s s') E s
theorem EvB_cmp {sc : Scope} {G : List Str} {k : Nat} {op : CmpOp} {F : T → T → Option Bool} {e₁ e₂ : Expr} {f₁ f₂ : List X → Option T} {pos : Pos} (hop : CmpOk c k op F) (h₁ : Ev c sc G k e₁ f₁) (h₂ : Ev c sc G k e₂ f₂)
    (hm : behindInMarks op e₂ = false) : EvB c sc G k (.Compare e₁ [op] [e₂] pos) (fun r => ob (f₁ r) fun x => ob (f₂ r) fun y => F x y) := by
  refine ⟨fun A env s r b E Z hA hE hx hZ hF ht => ?_⟩
  obtain ⟨t₁, e1, ht⟩ := ob_some ht
  obtain ⟨t₂, e2, ht⟩ := ob_some ht
  refine wpAny_isTrue_Compare1 (wpAny_mono (h₁.go A env s r t₁ E Z hA hE hx hZ hF e1) (fun v₁ s₁ ⟨k₁, r₁⟩ => ?_) fun _ _ y => y) hm
  refine wpAny_mono (h₂.go A env s₁ r t₂ E Z hA hE (ext_sub hx k₁.sub) (hZ.mono k₁.sub) (hF.mono k₁.sub) e2) (fun v₂ s₂ ⟨k₂, r₂⟩ => ?_) fun _ _ y => y
  refine wpAny_mono (hop.go A s₂ t₁ t₂ b v₁ v₂ E Z hA (r₁.mono k₂.sub) r₂ ht) (fun v s₃ h₃ => ?_) fun _ _ y => y
  obtain ⟨rfl, rfl⟩ := h₃
  exact wpAny_truthy_bool ⟨rfl, k₁.trans k₂⟩
theorem EvB_or_nil {sc : Scope} {G : List Str} {k : Nat} {pos : Pos} : EvB c sc G k (.BoolOp .Or [] pos) (fun _ => some false) := by
  refine ⟨fun A env s r b E Z hA hE hx hZ hF ht => ?_⟩
  cases ht
  exact isTrue_or_nil ⟨rfl, Kp.refl s⟩
theorem EvB_or {sc : Scope} {G : List Str} {k : Nat} {e : Expr} {rest : List Expr} {f g : List X → Option Bool} {pos : Pos} (h₁ : EvB c sc G k e f) (h₂ : EvB c sc G k (.BoolOp .Or rest pos) g) :
    EvB c sc G k (.BoolOp .Or (e :: rest) pos) (fun r => ob (f r) fun x => match x with | true => some true | false => g r) := by
  refine ⟨fun A env s r b E Z hA hE hx hZ hF ht => ?_⟩
  obtain ⟨b₁, e1, ht⟩ := ob_some ht
  refine isTrue_or (wpAny_mono (h₁.go A env s r b₁ E Z hA hE hx hZ hF e1) (fun v s₁ ⟨hv, k₁⟩ => ?_) fun _ _ y => y)
  subst hv
  cases v with
  | true => cases ht; exact ⟨rfl, k₁⟩
  | false => exact wpAny_mono (h₂.go A env s₁ r b E Z hA hE (ext_sub hx k₁.sub) (hZ.mono k₁.sub) (hF.mono k₁.sub) ht) (fun v s₂ ⟨h, k₂⟩ => ⟨h, k₁.trans k₂⟩) fun _ _ y => y
theorem Ev_if {sc : Scope} {G : List Str} {k : Nat} {e e₁ e₂ : Expr} {f : List X → Option Bool} {f₁ f₂ : List X → Option T} {pos : Pos} (h : EvB c sc G k e f) (h₁ : Ev c sc G k e₁ f₁) (h₂ : Ev c sc G k e₂ f₂) :
    Ev c sc G k (.IfExp e e₁ e₂ pos) (fun r => ob (f r) fun x => match x with | true => f₁ r | false => f₂ r) := by
  refine ⟨fun A env s r t E Z hA hE hx hZ hF ht => ?_⟩
  obtain ⟨b₁, e1, ht⟩ := ob_some ht
  refine wpAny_IfExp (wpAny_mono (h.go A env s r b₁ E Z hA hE hx hZ hF e1) (fun v s₁ ⟨hv, k₁⟩ => ?_) fun _ _ y => y)
  subst hv
  cases v with
  | true => exact wpAny_mono (h₁.go A env s₁ r t E Z hA hE (ext_sub hx k₁.sub) (hZ.mono k₁.sub) (hF.mono k₁.sub) ht) (fun v s₂ ⟨k₂, h⟩ => ⟨k₁.trans k₂, h⟩) fun _ _ y => y
  | false => exact wpAny_mono (h₂.go A env s₁ r t E Z hA hE (ext_sub hx k₁.sub) (hZ.mono k₁.sub) (hF.mono k₁.sub) ht) (fun v s₂ ⟨k₂, h⟩ => ⟨k₁.trans k₂, h⟩) fun _ _ y => y

/-! displays -/
structure EvL (c : Base prog w) (sc : Scope) (G : List Str) (k : Nat) (es : List Expr) (f : List X → Option (List T)) : Prop where
  go : ∀ (A : Around) (env : Env) (s : Shared) (r : List X) (ts : List T) (E : Value → Shared → Prop) (Z : Addr → Prop), GA k A → EnvI sc env → Gd c s.heap → Live Z s.heap → FrE c Z s.heap env G r → f r = some ts →
    (∀ pos : Pos, wpAny (model prog w) A (spliced (backTo pos (starEach es env))) (fun vs s' => Kp s s' ∧ Reps ⟨c.a, Z⟩ s'.heap ts vs) E s)
theorem EvL_nil {sc : Scope} {G : List Str} {k : Nat} : EvL c sc G k [] (fun _ => some []) := by
  refine ⟨fun A env s r ts E Z hA hE hx hZ hF ht pos => ?_⟩
  cases ht
  exact args_nil ⟨Kp.refl s, rfl⟩
theorem EvL_cons {sc : Scope} {G : List Str} {k : Nat} {e : Expr} {es : List Expr} {f : List X → Option T} {g : List X → Option (List T)} (h₁ : Ev c sc G k e f) (h₂ : EvL c sc G k es g)
    (he : ∀ env, starEach (e :: es) env = (false, eval e env) :: starEach es env) : EvL c sc G k (e :: es) (fun r => ob (f r) fun t => ob (g r) fun ts => some (t :: ts)) := by
  refine ⟨fun A env s r ts E Z hA hE hx hZ hF ht pos => ?_⟩
  obtain ⟨t₁, e1, ht⟩ := ob_some ht
  obtain ⟨t₂, e2, ht⟩ := ob_some ht
  cases ht
  refine args_cons (wpAny_mono (h₁.go A env s r t₁ E Z hA hE hx hZ hF e1) (fun v s₁ ⟨k₁, r₁⟩ => ?_) fun _ _ y => y) (he env)
  exact wpAny_mono (h₂.go A env s₁ r t₂ E Z hA hE (ext_sub hx k₁.sub) (hZ.mono k₁.sub) (hF.mono k₁.sub) e2 pos) (fun vs s₂ ⟨k₂, r₂⟩ => ⟨k₁.trans k₂, v, vs, rfl, r₁.mono k₂.sub, r₂⟩) fun _ _ y => y

/-! calls -/
structure CallOk (c : Base prog w) (k : Nat) (f : Value) (F : List T → Option T) : Prop where
  go : ∀ (A : Around) (s : Shared) (ts : List T) (t : T) (vs : List Value) (E : Value → Shared → Prop) (Z : Addr → Prop), GA k A → Gd c s.heap → Live Z s.heap → Reps ⟨c.a, Z⟩ s.heap ts vs → F ts = some t →
    wpAny (model prog w) A (call f vs) (fun v s' => Kp s s' ∧ Rep ⟨c.a, Z⟩ s'.heap t v) E s
/-- the name x stands for the value f at the module's level -/
def GlobIs (c : Base prog w) (x : Str) (f : Value) : Prop := c.mg x = some f ∨ (c.mg x = none ∧ c.mb x = some f)
/-- a value that callWith hands to call -/
inductive Plain (c : Base prog w) : Value → Prop
  | b (id : String) : Plain c (.builtin id)
  | t (T : String) : Plain c (.type T)
  | f (a : Addr) (o : Obj) (fd : FuncData) (h : c.h₀.get? a = some o) (hP : a ≠ c.P) (hd : o.data = .func fd) : Plain c (.ref a)

theorem load_glob (hc : c.Ok) {A : Around} {E : Value → Shared → Prop} {s : Shared} {sc : Scope} {env : Env} {x : Str} {pos : Pos} {v : Value} {Q : Value → Shared → Prop} (hE : EnvI sc env) (hx : Gd c s.heap) (hg : GlobIs c x v)
    (hk : sc.names.lookup x = some .globalImplicit) (h : Q v s) (hd : (x == ("__debug__" : Str)) = false) : wpAny (model prog w) A (eval (.Name x pos) env) Q E s := by
  refine Name_function_global hE.fn ((hE.kindOf x).trans hk) ?_ hd
  rcases hg with hg | ⟨h1, h2⟩
  · exact loadGlobal_global (by rw [hE.globals]; exact hc.g _ hx) hg h
  · exact loadGlobal_builtin (by rw [hE.globals]; exact hc.g _ hx) h1 (by rw [hE.builtins]; exact hc.b _ hx) h2 h

theorem callWith_plain {A : Around} {E : Value → Shared → Prop} {s : Shared} {f : Value} {pos : Pos} {e : Expr} {rest : List Expr} {env : Env} {Q : Value → Shared → Prop} (hp : Plain c f)
    (he : starEach (e :: rest) env = (false, eval e env) :: starEach rest env) (hpl : (backTo pos (starEach rest env)).any (·.1) = false)
    (h : wpAny (model prog w) A (spliced (backTo pos (starEach (e :: rest) env))) (fun vs s₁ => Gd c s₁.heap ∧ wpAny (model prog w) A (call f vs) Q E s₁) E s) :
    wpAny (model prog w) A (callWith pos f [] (backTo pos (starEach (e :: rest) env)) []) Q E s := by
  rw [he] at h ⊢
  cases hp with
  | b id => exact callWith_builtin (by show (false || (backTo pos (starEach rest env)).any (·.1)) = false; rw [hpl]; rfl) (evalArgs_plain (wpAny_mono h (fun vs s₁ h₁ => h₁.2) fun _ _ y => y))
  | t T => exact PyProof.Rows.callWith_type (by show (false || (backTo pos (starEach rest env)).any (·.1)) = false; rw [hpl]; rfl) (evalArgs_plain (wpAny_mono h (fun vs s₁ h₁ => h₁.2) fun _ _ y => y))
  | f a o fd h0 hP hd => exact callWith_function (evalArgs_plain (wpAny_mono h (fun vs s₁ h₁ => ⟨⟨h₁.1.1 a o hP h0, hd⟩, h₁.2⟩) fun _ _ y => y))
end
end Mine

namespace Mine
open PySem PySem.Calls PyProof.Rows PyProof.V PySem.SeqAt

section
variable {prog : Program} {w : World} {c : Base prog w}

def NoStar (es : List Expr) : Prop := ∀ (env : Env) (pos : Pos), (backTo pos (starEach es env)).any (·.1) = false

theorem Ev_call (hc : c.Ok) {sc : Scope} {G : List Str} {k : Nat} {x : Str} {fv : Value} {F : List T → Option T} {e : Expr} {rest : List Expr} {g : List X → Option (List T)} {p pos : Pos} (hg : GlobIs c x fv) (hp : Plain c fv) (hF : CallOk c k fv F)
    (hk : sc.names.lookup x = some .globalImplicit) (hd : (x == ("__debug__" : Str)) = false) (ha : EvL c sc G k (e :: rest) g)
    (he : ∀ env, starEach (e :: rest) env = (false, eval e env) :: starEach rest env) (hs : NoStar rest) :
    Ev c sc G k (.Call (.Name x p) (e :: rest) [] pos) (fun r => ob (g r) F) := by
  refine ⟨fun A env s r t E Z hA hE hx hZ hF' ht => ?_⟩
  obtain ⟨ts, e1, ht⟩ := ob_some ht
  refine Call_ (load_glob hc hE hx hg hk ?_ hd)
  refine callWith_plain (c := c) hp (he env) (hs env pos) (wpAny_mono (ha.go A env s r ts E Z hA hE hx hZ hF' e1 pos) (fun vs s₁ ⟨k₁, r₁⟩ => ⟨ext_sub hx k₁.sub, ?_⟩) fun _ _ y => y)
  exact wpAny_mono (hF.go A s₁ ts t vs E Z hA (ext_sub hx k₁.sub) (hZ.mono k₁.sub) r₁ ht) (fun v s₂ ⟨k₂, r₂⟩ => ⟨k₁.trans k₂, r₂⟩) fun _ _ y => y

theorem Ev_tuple {sc : Scope} {G : List Str} {k n : Nat} {es : List Expr} {g : List X → Option (List T)} {pos : Pos} (ha : EvL c sc G k es g) : Ev c sc G k (.Tuple es n pos) (fun r => ob (g r) fun ts => match Nat.ble ts.length 1000 with | true => some (.t ts) | false => none) := by
  refine ⟨fun A env s r t E Z hA hE hx hZ hF ht => ?_⟩
  obtain ⟨ts, e1, ht⟩ := ob_some ht
  cases e : Nat.ble ts.length 1000 with
  | false => rw [e] at ht; cases ht
  | true =>
    rw [e] at ht; cases ht
    refine wpAny_Tuple (wpAny_mono (ha.go A env s r ts E Z hA hE hx hZ hF e1 pos) (fun vs s₁ ⟨k₁, r₁⟩ => ?_) fun _ _ y => y)
    have hl := r₁.length
    have := Nat.le_of_ble_eq_true e
    exact ⟨by rw [sizeLine_eq]; omega, k₁.trans (Kp.mk' (tk := s₁.toks) (sub_push _ _)), _, _, rfl, ⟨0, Heap.get?_push_size _ rfl⟩, r₁.mono (sub_push _ _), (hZ.mono k₁.sub).size⟩
theorem Ev_list {sc : Scope} {G : List Str} {k : Nat} {es : List Expr} {g : List X → Option (List T)} {pos : Pos} (ha : EvL c sc G k es g) : Ev c sc G k (.List es pos) (fun r => ob (g r) fun ts => match Nat.ble ts.length 1000 with | true => some (.l ts) | false => none) := by
  refine ⟨fun A env s r t E Z hA hE hx hZ hF ht => ?_⟩
  obtain ⟨ts, e1, ht⟩ := ob_some ht
  cases e : Nat.ble ts.length 1000 with
  | false => rw [e] at ht; cases ht
  | true =>
    rw [e] at ht; cases ht
    refine wpAny_List (wpAny_mono (ha.go A env s r ts E Z hA hE hx hZ hF e1 pos) (fun vs s₁ ⟨k₁, r₁⟩ => ?_) fun _ _ y => y)
    have hl := r₁.length
    have := Nat.le_of_ble_eq_true e
    exact ⟨by rw [sizeLine_eq]; omega, k₁.trans (Kp.mk' (tk := s₁.toks) (sub_push _ _)), _, _, rfl, ⟨0, Heap.get?_push_size _ rfl⟩, r₁.mono (sub_push _ _), (hZ.mono k₁.sub).size⟩

/-! built-in functions -/
theorem reps_one {a : Vw} {h : Heap} {t : T} {vs : List Value} (r : Reps a h [t] vs) : ∃ v, vs = [v] ∧ Rep a h t v := by
  obtain ⟨v, r', rfl, x, y⟩ := r
  cases y
  exact ⟨v, rfl, x⟩

def bLen : List T → Option T
  | [.t l] => match Nat.ble l.length 1000000 with
    | true => some (.i l.length)
    | false => none
  | [.l l] => match Nat.ble l.length 1000000 with
    | true => some (.i l.length)
    | false => none
  | _ => none
theorem call_len {k : Nat} : CallOk c k (.builtin "len") bLen := by
  refine ⟨fun A s ts t vs E Z hA hx hZ hr ht => ?_⟩
  match ts, ht with
  | [.t l], ht =>
    obtain ⟨v, rfl, r⟩ := reps_one hr
    obtain ⟨b, i, rfl, ⟨n, h⟩, q, y⟩ := r
    change (match Nat.ble l.length 1000000 with | true => some (T.i l.length) | false => none) = some t at ht
    cases e : Nat.ble l.length 1000000 with
    | false => rw [e] at ht; cases ht
    | true =>
      rw [e] at ht; cases ht
      have := Nat.le_of_ble_eq_true e
      have hl := q.length
      rw [Array.length_toList] at hl
      exact P.len_tuple h (by omega) ⟨Kp.tok _ _, _, by rw [hl]⟩
  | [.l l], ht =>
    obtain ⟨v, rfl, r⟩ := reps_one hr
    obtain ⟨b, i, rfl, h, q, y⟩ := r
    change (match Nat.ble l.length 1000000 with | true => some (T.i l.length) | false => none) = some t at ht
    cases e : Nat.ble l.length 1000000 with
    | false => rw [e] at ht; cases ht
    | true =>
      rw [e] at ht; cases ht
      have := Nat.le_of_ble_eq_true e
      have hl := q.length
      rw [Array.length_toList] at hl
      exact Calls.call_len_list h.isList (by omega) ⟨Kp.tok _ _, _, by rw [hl]⟩

def bTuple : List T → Option T
  | [.l l] => match Nat.ble l.length 1000000 with
    | true => some (.t l)
    | false => none
  | _ => none
theorem call_tuple {k : Nat} : CallOk c k (.type "tuple") bTuple := by
  refine ⟨fun A s ts t vs E Z hA hx hZ hr ht => ?_⟩
  match ts, ht with
  | [.l l], ht =>
    obtain ⟨v, rfl, r⟩ := reps_one hr
    obtain ⟨b, i, rfl, h, q, y⟩ := r
    change (match Nat.ble l.length 1000000 with | true => some (T.t l) | false => none) = some t at ht
    cases e : Nat.ble l.length 1000000 with
    | false => rw [e] at ht; cases ht
    | true =>
      rw [e] at ht; cases ht
      have := Nat.le_of_ble_eq_true e
      have hl := q.length
      rw [Array.length_toList] at hl
      refine call_tuple_list h.isList (fun h' hk => ⟨Kp.mk' (tk := s.toks) fun b' o e => sub_push _ _ _ _ (hk b' o e), _, _, rfl, ⟨0, Heap.get?_push_size _ rfl⟩, q.mono fun b' o e => sub_push _ _ _ _ (hk b' o e), (hZ.mono hk).size⟩) (by rw [sizeLine_eq]; omega)

theorem moved_kp {wr : List Addr} {G : Array GenState → Array GenState → Prop} {s s₂ s' : Shared} {h₂ : Heap} (e : s₂ = { s with heap := h₂ }) (hs : Sub s.heap h₂) (hn : ∀ b ∈ wr, s.heap.get? b = none) (hg : ∀ a b, G a b → b = a) (m : Moved wr G s₂ s') : Kp s s' := by
  subst e
  obtain ⟨h', g', d', tk', os'⟩ := s'
  have e1 : g' = s.gens := hg _ _ m.gens
  have e2 : d' = s.drawn := m.drawn
  have e3 : os' = s.os := m.os
  subst e1 e2 e3
  refine ⟨h', tk', rfl, fun b o e => m.heap b o (fun hb => ?_) (hs b o e)⟩
  rw [hn b hb] at e; cases e

theorem fresh_none (h : Heap) : h.get? h.objs.size = none := get_size h

def bSum : List T → Option T
  | [.t l] => ob (asInts l) fun zs => some (.i (preSum (fun i => zs.getD i 0) zs.length))
  | _ => none
theorem call_sum {k : Nat} : CallOk c k (.builtin "sum") bSum := by
  refine ⟨fun A s ts t vs E Z hA hx hZ hr ht => ?_⟩
  match ts, ht with
  | [.t l], ht =>
    obtain ⟨v, rfl, r⟩ := reps_one hr
    obtain ⟨b, i, rfl, hb, q, y⟩ := r
    obtain ⟨zs, hz, ht⟩ := ob_some ht
    cases ht
    obtain ⟨z1, z2⟩ := reps_ints hz q
    rw [Array.length_toList] at z1
    obtain ⟨n, hn⟩ := id hb
    have hne : b ≠ s.heap.objs.size := Nat.ne_of_lt (Heap.lt_size hn)
    have W := (Walks.tuple (prog := prog) (w := w) (A := A.in1) hA.handled s.heap.objs.size b hne i).toS
    refine call_sum_walkAnyS (wpAny_pyIter_tuple hb.isTuple ?_)
    refine ⟨s.heap.objs.size, _, _, _, _, _, _, fun i => zs.getD i 0, rfl, W, ⟨⟨_, Heap.get?_push_size _ rfl, rfl, rfl⟩, hb.isTuple.at fun o e => Heap.get?_push_of_some _ e⟩, fun b' hb' => ?_, fun j v hP => z2 j v (by rw [Array.getElem?_toList]; exact hP), fun s' t' hm => ?_⟩
    · rcases List.mem_cons.mp hb' with rfl | hb'
      · exact Heap.lt_size (Heap.get?_push_size _ rfl)
      · obtain rfl := List.mem_singleton.mp hb'
        exact Heap.lt_size (Heap.get?_push_of_some _ hn)
    · exact ⟨moved_kp (s := s) rfl (sub_push _ _) (fun b' hb' => by rw [List.mem_singleton.mp hb']; exact fresh_none _) (fun _ _ h => h) hm, _, by rw [z1]⟩

def best (bt : Int → Int → Bool) (zs : List Int) : Int := zs.getD (argBest (fun i j => bt (zs.getD i 0) (zs.getD j 0)) (zs.length - 1)) 0
def bMin : List T → Option T
  | [.t l] => ob (asInts l) fun zs => match Nat.ble 1 zs.length with
    | true => some (.i (best (fun x y => decide (x < y)) zs))
    | false => none
  | _ => none
def bMax : List T → Option T
  | [.t l] => ob (asInts l) fun zs => match Nat.ble 1 zs.length with
    | true => some (.i (best (fun x y => decide (y < x)) zs))
    | false => none
  | _ => none
theorem call_min {k : Nat} : CallOk c k (.builtin "min") bMin := by
  refine ⟨fun A s ts t vs E Z hA hx hZ hr ht => ?_⟩
  match ts, ht with
  | [.t l], ht =>
    obtain ⟨v, rfl, r⟩ := reps_one hr
    obtain ⟨b, i, rfl, hb, q, y⟩ := r
    obtain ⟨zs, hz, ht⟩ := ob_some ht
    cases e : Nat.ble 1 zs.length with
    | false => rw [e] at ht; cases ht
    | true =>
      rw [e] at ht; cases ht
      have h1 := Nat.le_of_ble_eq_true e
      obtain ⟨z1, z2⟩ := reps_ints hz q
      rw [Array.length_toList] at z1
      obtain ⟨n, hn⟩ := id hb
      have hne : b ≠ s.heap.objs.size := Nat.ne_of_lt (Heap.lt_size hn)
      have W := Walks.tuple (prog := prog) (w := w) (A := A.in1) hA.handled s.heap.objs.size b hne i
      refine call_min_walk (wpAny_pyIter_tuple hb.isTuple ?_)
      refine ⟨s.heap.objs.size, _, _, _, _, _, fun i j => decide (zs.getD i 0 < zs.getD j 0), rfl, W, ⟨⟨_, Heap.get?_push_size _ rfl, rfl, rfl⟩, hb.isTuple.at fun o e => Heap.get?_push_of_some _ e⟩, fun b' hb' => ?_, by omega, ?_, fun v h' tk hP hk => ?_⟩
      · rcases List.mem_cons.mp hb' with rfl | hb'
        · exact Heap.lt_size (Heap.get?_push_size _ rfl)
        · obtain rfl := List.mem_singleton.mp hb'
          exact Heap.lt_size (Heap.get?_push_of_some _ hn)
      · intro i' j' vi vj s' Q' E' hi hj hQ
        obtain ⟨k1, rfl⟩ := z2 i' vi (by rw [Array.getElem?_toList]; exact hi)
        obtain ⟨k2, rfl⟩ := z2 j' vj (by rw [Array.getElem?_toList]; exact hj)
        exact PyProof.Rows.lt_int hQ
      · obtain ⟨k1, rfl⟩ := z2 _ v (by rw [Array.getElem?_toList]; exact hP)
        refine ⟨⟨h', tk, rfl, fun b' o e => hk b' o (fun hb' => ?_) (sub_push _ _ _ _ e)⟩, k1, by unfold best; rw [z1]⟩
        rw [List.mem_singleton.mp hb', fresh_none] at e; cases e
theorem call_max {k : Nat} : CallOk c k (.builtin "max") bMax := by
  refine ⟨fun A s ts t vs E Z hA hx hZ hr ht => ?_⟩
  match ts, ht with
  | [.t l], ht =>
    obtain ⟨v, rfl, r⟩ := reps_one hr
    obtain ⟨b, i, rfl, hb, q, y⟩ := r
    obtain ⟨zs, hz, ht⟩ := ob_some ht
    cases e : Nat.ble 1 zs.length with
    | false => rw [e] at ht; cases ht
    | true =>
      rw [e] at ht; cases ht
      have h1 := Nat.le_of_ble_eq_true e
      obtain ⟨z1, z2⟩ := reps_ints hz q
      rw [Array.length_toList] at z1
      obtain ⟨n, hn⟩ := id hb
      have hne : b ≠ s.heap.objs.size := Nat.ne_of_lt (Heap.lt_size hn)
      have W := Walks.tuple (prog := prog) (w := w) (A := A.in1) hA.handled s.heap.objs.size b hne i
      refine call_max_walk (wpAny_pyIter_tuple hb.isTuple ?_)
      refine ⟨s.heap.objs.size, _, _, _, _, _, fun i j => decide (zs.getD j 0 < zs.getD i 0), rfl, W, ⟨⟨_, Heap.get?_push_size _ rfl, rfl, rfl⟩, hb.isTuple.at fun o e => Heap.get?_push_of_some _ e⟩, fun b' hb' => ?_, by omega, ?_, fun v h' tk hP hk => ?_⟩
      · rcases List.mem_cons.mp hb' with rfl | hb'
        · exact Heap.lt_size (Heap.get?_push_size _ rfl)
        · obtain rfl := List.mem_singleton.mp hb'
          exact Heap.lt_size (Heap.get?_push_of_some _ hn)
      · intro i' j' vi vj s' Q' E' hi hj hQ
        obtain ⟨k1, rfl⟩ := z2 i' vi (by rw [Array.getElem?_toList]; exact hi)
        obtain ⟨k2, rfl⟩ := z2 j' vj (by rw [Array.getElem?_toList]; exact hj)
        exact PyProof.Rows.gt_int hQ
      · obtain ⟨k1, rfl⟩ := z2 _ v (by rw [Array.getElem?_toList]; exact hP)
        refine ⟨⟨h', tk, rfl, fun b' o e => hk b' o (fun hb' => ?_) (sub_push _ _ _ _ e)⟩, k1, by unfold best; rw [z1]⟩
        rw [List.mem_singleton.mp hb', fresh_none] at e; cases e

/-! items -/
def tItem : T → T → Option T
  | .l l, .i z => match decide (0 ≤ z) with
    | true => match Nat.ble z.toNat 1000000 with
      | true => l[z.toNat]?
      | false => none
    | false => none
  | .t l, .i z => match decide (0 ≤ z) with
    | true => match Nat.ble z.toNat 1000000 with
      | true => l[z.toNat]?
      | false => none
    | false => none
  | _, _ => none
theorem subTail {A : Around} {E : Value → Shared → Prop} {s : Shared} {value slice : Expr} {o i : Value} {T id : String} {Q : Value → Shared → Prop} (hT : s.TypeIs o T)
    (hl : typeLookup (.type T) "__getitem__" = pure (some (.builtin id))) (h : wpAny (model prog w) A (getItem o i) Q E s) (hs : subscripted slice false o i = operate [o, i] (getItem o i)) :
    wpAny (model prog w) A (subscriptTail value slice o i) Q E s := by
  unfold subscriptTail
  refine wpAny_bind ?_
  rw [getitemInPython_of_ne hT.not_modules]
  refine wpAny_bind (wpAny_specialOf hT hl ?_)
  have fin : wpAny (model prog w) A (subscripted slice false o i) (fun r s₃ => wpAny (model prog w) A (letTemporaryGo value o r >>= fun _ => pure r) Q E s₃) E s := by
    rw [hs]
    exact wpAny_operating (wpAny_mono h (fun r s₃ h₃ => wpAny_bind (wpAny_letTemporaryGo (wpAny_pure h₃))) fun _ _ x => x)
  exact wpAny_pure (wpAny_bind fin)
theorem Ev_item {sc : Scope} {G : List Str} {k : Nat} {e₁ e₂ : Expr} {f₁ f₂ : List X → Option T} {pos : Pos} (h₁ : Ev c sc G k e₁ f₁) (h₂ : Ev c sc G k e₂ f₂) (hs : ∀ o i, subscripted e₂ false o i = operate [o, i] (getItem o i)) :
    Ev c sc G k (.Subscript e₁ e₂ pos) (fun r => ob (f₁ r) fun x => ob (f₂ r) fun y => tItem x y) := by
  refine ⟨fun A env s r t E Z hA hE hx hZ hF ht => ?_⟩
  obtain ⟨t₁, e1, ht⟩ := ob_some ht
  obtain ⟨t₂, e2, ht⟩ := ob_some ht
  refine Subscript_ (wpAny_mono (h₁.go A env s r t₁ E Z hA hE hx hZ hF e1) (fun v₁ s₁ ⟨k₁, r₁⟩ => ?_) fun _ _ y => y)
  refine wpAny_mono (h₂.go A env s₁ r t₂ E Z hA hE (ext_sub hx k₁.sub) (hZ.mono k₁.sub) (hF.mono k₁.sub) e2) (fun v₂ s₂ ⟨k₂, r₂⟩ => ?_) fun _ _ y => y
  have r₁ := r₁.mono k₂.sub
  cases t₂ with
  | s p => cases t₁ <;> cases ht
  | t l => cases t₁ <;> cases ht
  | l l => cases t₁ <;> cases ht
  | i z =>
    obtain ⟨kz, rfl⟩ := r₂
    have get : ∀ {l : List T}, (match decide (0 ≤ z) with | true => (match Nat.ble z.toNat 1000000 with | true => l[z.toNat]? | false => none) | false => none) = some t → 0 ≤ z ∧ z < 2 ^ 63 ∧ l[z.toNat]? = some t := by
      intro l hg
      cases e : decide (0 ≤ z) with
      | false => rw [e] at hg; cases hg
      | true =>
        rw [e] at hg
        have := of_decide_eq_true e
        cases e' : Nat.ble z.toNat 1000000 with
        | false => rw [e'] at hg; cases hg
        | true =>
          rw [e'] at hg
          have := Nat.le_of_ble_eq_true e'
          exact ⟨by omega, by omega, hg⟩
    cases t₁ with
    | i y => cases ht
    | s p => cases ht
    | l l =>
      obtain ⟨h0, hhi, hg⟩ := get ht
      obtain ⟨b, i, rfl, hb, q, y⟩ := r₁
      obtain ⟨v, hv, hr⟩ := q.get hg
      refine subTail hb.isList.typeIs slot_list_getitem.lookup (wpAny_getItem_list hb.isList h0 hhi (by simpa using hv) ⟨k₁.trans k₂, hr⟩) (hs _ _)
    | t l =>
      obtain ⟨h0, hhi, hg⟩ := get ht
      obtain ⟨b, i, rfl, hb, q, y⟩ := r₁
      obtain ⟨v, hv, hr⟩ := q.get hg
      obtain ⟨n, hn⟩ := hb
      have hi : i[z.toNat]? = some v := by simpa using hv
      refine subTail ⟨_, hn, rfl⟩ F.slot_tuple_getitem.lookup (P.getItem_tuple hn (by omega) hhi (k := z.toNat) ?_ hi ⟨k₁.trans k₂, hr⟩) (hs _ _)
      have hlt := (Array.getElem?_eq_some_iff.mp hi).1
      have hneg : ¬ z < 0 := by omega
      simp only [seqIndex?, if_neg hneg]
      rw [if_pos (by simp; omega)]
end
end Mine

namespace Mine
open PySem PySem.Calls PyProof.Rows PyProof.V PySem.SeqAt

/-! dicts by rows of ints -/
def leq : List Int → List Int → Bool
  | [], [] => true
  | x :: l, y :: r => match isZ (x - y) with
    | true => leq l r
    | false => false
  | _, _ => false
theorem leq_iff : ∀ {l r : List Int}, leq l r = true ↔ l = r
  | [], [] => by simp [leq]
  | [], _ :: _ => by simp [leq]
  | _ :: _, [] => by simp [leq]
  | x :: l, y :: r => by
    unfold leq
    cases e : isZ (x - y) with
    | true =>
      have := isZ_eq e
      show leq l r = true ↔ _
      rw [leq_iff, List.cons.injEq]
      exact ⟨fun h => ⟨by omega, h⟩, fun h => h.2⟩
    | false =>
      refine ⟨fun h => (nomatch h), fun h => ?_⟩
      injection h with h1 h2
      subst h1
      rw [Int.sub_self] at e
      cases e
def kvGet (k : List Int) : List (List Int × T) → Option T
  | [] => none
  | x :: l => match leq x.1 k with
    | true => some x.2
    | false => kvGet k l
def kvPut (k : List Int) (t : T) : List (List Int × T) → List (List Int × T)
  | [] => [(k, t)]
  | x :: l => match leq x.1 k with
    | true => (x.1, t) :: l
    | false => x :: kvPut k t l

section
variable {a : Vw} {h : Heap}
theorem kv_get {k : List Int} : ∀ {kv : List (List Int × T)} {xs : List (List Int × Addr × Value)}, KV a h kv xs → (kvGet k kv = none → atKey xs k = none) ∧ (∀ t, kvGet k kv = some t → ∃ p, atKey xs k = some p ∧ Rep a h t p.2)
  | [], _, x => by cases x; exact ⟨fun _ => rfl, fun t h => nomatch h⟩
  | (k', t') :: l, _, ⟨b, v, r, e, kr, x, y⟩ => by
    subst e
    obtain ⟨h1, h2⟩ := kv_get (k := k) y
    unfold kvGet
    cases e : leq k' k with
    | true =>
      have := leq_iff.mp e
      subst this
      refine ⟨fun h => (nomatch h), fun t ht => ?_⟩
      cases ht
      exact ⟨(b, v), by simp [atKey], x⟩
    | false =>
      have hne : ¬ k' = k := fun q => by rw [leq_iff.mpr q] at e; cases e
      have hat : atKey ((k', b, v) :: r) k = atKey r k := by simp [atKey, hne]
      rw [hat]
      exact ⟨h1, h2⟩
theorem kv_len : ∀ {kv : List (List Int × T)} {xs : List (List Int × Addr × Value)}, KV a h kv xs → xs.length = kv.length
  | [], _, x => by cases x; rfl
  | (k', t') :: l, _, ⟨b, v, r, e, kr, x, y⟩ => by subst e; simp [kv_len y]
theorem kv_keys : ∀ {kv : List (List Int × T)} {xs : List (List Int × Addr × Value)}, KV a h kv xs → xs.map (·.1) = kv.map (·.1)
  | [], _, x => by cases x; rfl
  | (k', t') :: l, _, ⟨b, v, r, e, kr, x, y⟩ => by subst e; simp [kv_keys y]
theorem kv_map_ne {k : List Int} {v : Value} : ∀ {xs : List (List Int × Addr × Value)}, k ∉ xs.map (·.1) → xs.map (putAt k v) = xs := fun h => map_putAt_of_not_mem _ _ _ h
theorem kv_put {k : List Int} {t : T} {ad : Addr} {v : Value} (hk : Rep a h (.t (k.map .i)) (.ref ad)) (hv : Rep a h t v) : ∀ {kv : List (List Int × T)} {xs : List (List Int × Addr × Value)}, KV a h kv xs → (xs.map (·.1)).Nodup → KV a h (kvPut k t kv) (storedH xs k ad v)
  | [], _, x, _ => by
    cases x
    rw [storedH_new rfl]
    exact ⟨ad, v, [], rfl, hk, hv, rfl⟩
  | (k', t') :: l, _, ⟨b, v', r, e, kr, x, y⟩, hn => by
    subst e
    rw [List.map_cons, List.nodup_cons] at hn
    unfold kvPut
    cases e : leq k' k with
    | true =>
      have := leq_iff.mp e
      subst this
      have hat : atKey ((k', b, v') :: r) k' = some (b, v') := by simp [atKey]
      rw [storedH_old hat, List.map_cons, map_putAt_of_not_mem r k' v hn.1]
      exact ⟨b, v, r, by simp [putAt], kr, hv, y⟩
    | false =>
      have hne : ¬ k' = k := fun q => by rw [leq_iff.mpr q] at e; cases e
      have hat : atKey ((k', b, v') :: r) k = atKey r k := by simp [atKey, hne]
      have ih := kv_put (k := k) (ad := ad) hk hv y hn.2
      show KV a h ((k', t') :: kvPut k t l) _
      cases q : atKey r k with
      | none =>
        rw [storedH_new q] at ih
        rw [storedH_new (hat.trans q)]
        exact ⟨b, v', _, rfl, kr, x, ih⟩
      | some p =>
        rw [storedH_old q] at ih
        rw [storedH_old (hat.trans q), List.map_cons]
        exact ⟨b, v', _, by simp [putAt, hne], kr, x, ih⟩
end

section
variable {prog : Program} {w : World} {c : Base prog w}

theorem items_are {a : Vw} {h : Heap} : ∀ {l : List T} {ks : List Int} {vs : List Value}, asInts l = some ks → Reps a h l vs → ItemsAre (intKind prog w) ks vs
  | [], ks, vs, e, r => by cases e; cases r; exact .nil
  | t :: l, ks, vs, e, r => by
    obtain ⟨z, zr, rfl, e', rfl⟩ := asInts_cons e
    obtain ⟨v, vr, rfl, ⟨k, rfl⟩, r'⟩ := r
    exact .cons (by simp [intKind, Value.isInt]) (items_are e' r')
theorem asInts_map : ∀ {l : List T} {ks : List Int}, asInts l = some ks → l = ks.map .i
  | [], ks, e => by cases e; rfl
  | t :: l, ks, e => by
    obtain ⟨z, zr, rfl, e', rfl⟩ := asInts_cons e
    rw [List.map_cons, ← asInts_map e']
theorem tup_key {a : Vw} {h : Heap} {l : List T} {ks : List Int} {v : Value} (e : asInts l = some ks) (r : Rep a h (.t l) v) : ∃ b, v = .ref b ∧ (tk prog w).is h ks b := by
  obtain ⟨b, i, rfl, ⟨n, hn⟩, q, y⟩ := r
  exact ⟨b, rfl, _, i, n, hn, rfl, rfl, items_are e q⟩
theorem room1 {k : Nat} {A : Around} (g : GA k A) : (tk prog w).room A.in1 := by
  have := g.units
  show A.units + 1 < cLine
  rw [cLine_is]; omega

/-- a name that holds a dict -/
theorem load_dict {A : Around} {E : Value → Shared → Prop} {s : Shared} {sc : Scope} {env : Env} {G : List Str} {r : List X} {i : Nat} {x : Str} {pos : Pos} {kv : List (List Int × T)} {Q : Value → Shared → Prop} {Z : Addr → Prop} (hE : EnvI sc env) (hF : FrE c Z s.heap env G r)
    (hi : G[i]? = some x) (hg : gd r i = some kv) (hd : (x == ("__debug__" : Str)) = false) (hcl : (x == ("__classdict__" : Str)) = false)
    (h : ∀ b xs, s.heap.DictOfH (tk prog w) b xs → KV ⟨c.a, Z⟩ s.heap kv xs → (b == sysModules) = false → Q (.ref b) s) : wpAny (model prog w) A (eval (.Name x pos) env) Q E s := by
  obtain ⟨m, hn, hF⟩ := hF
  unfold gd at hg
  cases e : nth r i with
  | u => rw [e] at hg; cases hg
  | p t => rw [e] at hg; cases hg
  | k => rw [e] at hg; cases hg
  | d kv' =>
    rw [e] at hg; cases hg
    obtain ⟨v, hv, hr⟩ := hF i x hi (by rw [e]; exact fun h => nomatch h)
    rw [e] at hr
    obtain ⟨b, xs, rfl, h1, h2, h3⟩ := hr
    exact load_var hE.fn hn hv (h b xs h1 h2 h3) hd hcl

theorem Ev_ditem {sc : Scope} {G : List Str} {k i : Nat} {x : Str} {p pos : Pos} {e₂ : Expr} {f₂ : List X → Option T} (hi : G[i]? = some x) (hd : (x == ("__debug__" : Str)) = false) (hcl : (x == ("__classdict__" : Str)) = false) (h₂ : Ev c sc G k e₂ f₂)
    (hs : ∀ o i, subscripted e₂ false o i = operate [o, i] (getItem o i)) :
    Ev c sc G k (.Subscript (.Name x p) e₂ pos) (fun r => ob (gd r i) fun kv => ob (f₂ r) fun y => match y with
      | .t l => ob (asInts l) fun ks => kvGet ks kv
      | _ => none) := by
  refine ⟨fun A env s r t E Z hA hE hx hZ hF ht => ?_⟩
  obtain ⟨kv, e1, ht⟩ := ob_some ht
  obtain ⟨t₂, e2, ht⟩ := ob_some ht
  refine Subscript_ (load_dict hE hF hi e1 hd hcl fun b xs hD hK hS => ?_)
  refine wpAny_mono (h₂.go A env s r t₂ E Z hA hE hx hZ hF e2) (fun v₂ s₂ ⟨k₂, r₂⟩ => ?_) fun _ _ y => y
  cases t₂ with
  | i z => cases ht
  | s p => cases ht
  | l l => cases ht
  | t l =>
    obtain ⟨ks, e3, ht⟩ := ob_some ht
    obtain ⟨b₂, rfl, hkey⟩ := tup_key (prog := prog) (w := w) e3 r₂
    have hD := dictOfH_mono k₂.sub hD
    obtain ⟨pp, hp, hr⟩ := (kv_get (k := ks) (hK.mono k₂.sub)).2 t ht
    exact subTail hD.typeIs slot_dict_getitem.lookup (wpAny_getItem_heap (room1 hA) hkey hD hp ⟨k₂.trans (Kp.tok _ _), hr⟩) (hs _ _)

theorem Ev_dget {sc : Scope} {G : List Str} {k i : Nat} {x : Str} {p ap pos : Pos} {e₁ e₂ : Expr} {f₁ f₂ : List X → Option T} (hi : G[i]? = some x) (hd : (x == ("__debug__" : Str)) = false) (hcl : (x == ("__classdict__" : Str)) = false)
    (h₁ : Ev c sc G k e₁ f₁) (h₂ : Ev c sc G k e₂ f₂) (hline : (ap.endLine == pos.line) = true)
    (hs : ∀ env, backTo pos (starEach [e₁, e₂] env) = [(false, eval e₁ env), (false, eval e₂ env)]) :
    Ev c sc G k (.Call (.Attribute (.Name x p) "get" ap) [e₁, e₂] [] pos) (fun r => ob (gd r i) fun kv => ob (f₁ r) fun y => ob (f₂ r) fun z => match y with
      | .t l => ob (asInts l) fun ks => match kvGet ks kv with
        | some t => some t
        | none => some z
      | _ => none) := by
  refine ⟨fun A env s r t E Z hA hE hx hZ hF ht => ?_⟩
  obtain ⟨kv, e1, ht⟩ := ob_some ht
  obtain ⟨t₁, e2, ht⟩ := ob_some ht
  obtain ⟨t₂, e3, ht⟩ := ob_some ht
  refine wpAny_Call_method (T := "dict") (id := "dict.get") rfl (by rw [hs]; rfl) hline F.plainAttrs_dict F.slot_dict_get F.type_dict_get (load_dict hE hF hi e1 hd hcl fun b xs hD hK hS => ⟨hD.typeIs, dictOfH_noDict hD, ?_⟩)
  rw [hs]
  refine wpAny_dict_get2_heap (knd := tk prog w) (room1 hA) hS (wpAny_mono (h₁.go A env s r t₁ E Z hA hE hx hZ hF e2) (fun v₁ s₁ ⟨k₁, r₁⟩ => ?_) fun _ _ y => y)
  refine wpAny_mono (h₂.go A env s₁ r t₂ E Z hA hE (ext_sub hx k₁.sub) (hZ.mono k₁.sub) (hF.mono k₁.sub) e3) (fun v₂ s₂ ⟨k₂, r₂⟩ => ?_) fun _ _ y => y
  cases t₁ with
  | i z => cases ht
  | s p => cases ht
  | l l => cases ht
  | t l =>
    obtain ⟨ks, e4, ht⟩ := ob_some ht
    obtain ⟨b₂, rfl, hkey⟩ := tup_key (prog := prog) (w := w) e4 (r₁.mono k₂.sub)
    have hD := dictOfH_mono (k₁.trans k₂).sub hD
    have hK := hK.mono (k₁.trans k₂).sub
    refine ⟨b₂, ks, xs, rfl, hkey, hD, (k₁.trans k₂).trans (Kp.tok _ _), ?_⟩
    obtain ⟨g1, g2⟩ := kv_get (k := ks) hK
    cases q : kvGet ks kv with
    | none =>
      rw [q] at ht; cases ht
      rw [g1 q]
      exact r₂
    | some t' =>
      obtain ⟨pp, hp, hr⟩ := g2 t' q
      rw [q] at ht; cases ht
      rw [hp]
      exact hr
end
end Mine

namespace Mine
open PySem PySem.Calls PyProof.Rows PyProof.V PySem.SeqAt

/-! what may be walked -/

section
variable {prog : Program} {w : World}
def owned (n : String) : Bool := ["enumerate", "zip", "dict_itemiterator", "dict_reverseitemiterator", "odict_iterator", "itertools.zip_longest", "itertools.pairwise"].contains n
structure Iter (prog : Program) (w : World) (a : Vw) (h₀ h : Heap) (I : Addr) (fp wr : List Addr) (P : Nat → Value → Prop) (St : Nat → Heap → Prop) (ts : List T) : Prop where
  walks : ∀ A : Around, A.handled = none → Walks prog w A I fp wr ts.length P St
  start : St 0 h
  short : ts.length ≤ 1000000
  fpz : ∀ b ∈ fp, b ∈ wr ∨ ¬ a.Z b
  fp : ∀ b ∈ fp, ∃ o, h.get? b = some o ∧ NotDC o ∧ (b ∈ wr ∨ ∃ items n, o.data = .seq items n)
  new : ∀ b ∈ wr, h₀.get? b = none
  ns : ∀ i h, St i h → ∀ b ∈ wr, ∃ o, h.get? b = some o ∧ NotSeq o ∧ NotDC o
  cl : ∀ i h, St i h → ∃ o n vs, h.get? I = some o ∧ o.cls = .type n ∧ o.data = .fields vs ∧ owned n = false
  sub : Sub h₀ h
  item : ∀ i v t, P i v → ts[i]? = some t → Rep a h t v
variable (c : Base prog w)
/-- the expression, walked, gives the trees that f tells -/
structure EvIt (sc : Scope) (G : List Str) (k : Nat) (e : Expr) (f : List X → Option (List T)) : Prop where
  go : ∀ (A : Around) (env : Env) (s : Shared) (r : List X) (ts : List T) (E : Value → Shared → Prop) (Z : Addr → Prop), GA k A → EnvI sc env → Gd c s.heap → Live Z s.heap → FrE c Z s.heap env G r → f r = some ts →
    wpAny (model prog w) A (eval e env) (fun xv s₁ => wpAny (model prog w) A (pyIter xv) (fun it s₂ => ∃ I fp wr P St, it = .ref I ∧ Kp s s₂ ∧ Iter prog w ⟨c.a, Z⟩ s.heap s₂.heap I fp wr P St ts) E s₁) E s
end

section
variable {prog : Program} {w : World} {c : Base prog w}

theorem notDC_fields {c d f s} : NotDC ⟨c, d, .fields f, s⟩ := ⟨fun _ _ h => (nomatch h), fun _ h => (nomatch h)⟩
theorem notDC_seq {c d f n s} : NotDC ⟨c, d, .seq f n, s⟩ := ⟨fun _ _ h => (nomatch h), fun _ h => (nomatch h)⟩
theorem notSeq_fields {c d f s} : NotSeq ⟨c, d, .fields f, s⟩ := fun _ _ h => (nomatch h)

/-- a list is walked -/
theorem iter_list {k : Nat} {A : Around} {E : Value → Shared → Prop} {s : Shared} {h₀ : Heap} {ts : List T} {v : Value} {Z : Addr → Prop} (hs : Sub h₀ s.heap) (hr : Rep ⟨c.a, Z⟩ s.heap (.l ts) v) (hsz : ts.length ≤ 1000000) :
    wpAny (model prog w) A (pyIter v) (fun it s₂ => ∃ I fp wr P St, it = .ref I ∧ Kp s s₂ ∧ Iter prog w ⟨c.a, Z⟩ h₀ s₂.heap I fp wr P St ts) E s := by
  obtain ⟨b, items, rfl, hb, q, y⟩ := hr
  obtain ⟨n, hn⟩ := id hb
  have hlen := q.length
  rw [Array.length_toList] at hlen
  have hne : b ≠ s.heap.objs.size := Nat.ne_of_lt (Heap.lt_size hn)
  refine wpAny_pyIter_list hb.isList ⟨s.heap.objs.size, [s.heap.objs.size, b], [s.heap.objs.size], (fun i v => items[i]? = some v), (fun i h => h.IsListIter s.heap.objs.size b i ∧ h.IsList b items), rfl, Kp.mk' (tk := s.toks) (sub_push _ _), ?_⟩
  refine ⟨fun A' hA' => ?_, ⟨⟨_, Heap.get?_push_size _ rfl, rfl, rfl⟩, (hb.at fun o e => Heap.get?_push_of_some _ e).isList⟩, hsz, fun b' hb' => ?_, fun b' hb' => ?_, fun b' hb' => ?_, fun i h st b' hb' => ?_, fun i h st => ?_, hs.trans (sub_push _ _), fun i v t hP ht => ?_⟩
  · rw [← hlen]; exact Walks.list hA' _ _ hne items
  · rcases List.mem_cons.mp hb' with rfl | hb'
    · exact .inl (List.mem_singleton.mpr rfl)
    · obtain rfl := List.mem_singleton.mp hb'
      exact .inr y
  · rcases List.mem_cons.mp hb' with rfl | hb'
    · exact ⟨_, Heap.get?_push_size _ rfl, notDC_fields, .inl (List.mem_singleton.mpr rfl)⟩
    · obtain rfl := List.mem_singleton.mp hb'
      exact ⟨_, Heap.get?_push_of_some _ hn, notDC_seq, .inr ⟨_, _, rfl⟩⟩
  · obtain rfl := List.mem_singleton.mp hb'
    cases e : h₀.get? s.heap.objs.size with
    | none => rfl
    | some o => have := hs _ _ e; rw [fresh_none] at this; cases this
  · obtain rfl := List.mem_singleton.mp hb'
    obtain ⟨⟨c', d', f', s'⟩, ho, _, hd⟩ := st.1
    dsimp only at hd
    subst hd
    exact ⟨_, ho, notSeq_fields, notDC_fields⟩
  · obtain ⟨o, ho, hc, hd⟩ := st.1
    exact ⟨o, _, _, ho, hc, hd, by decide⟩
  · obtain ⟨v', hv', hr'⟩ := q.get ht
    rw [Array.getElem?_toList] at hv'
    rw [hv'] at hP; cases hP
    exact hr'.mono (sub_push _ _)

theorem EvIt_list {sc : Scope} {G : List Str} {k : Nat} {e : Expr} {f : List X → Option T} (h : Ev c sc G k e f) :
    EvIt c sc G k e (fun r => ob (f r) fun t => match t with
      | .l ts => match Nat.ble ts.length 1000000 with
        | true => some ts
        | false => none
      | _ => none) := by
  refine ⟨fun A env s r ts E Z hA hE hx hZ hF ht => ?_⟩
  obtain ⟨t, e1, ht⟩ := ob_some ht
  cases t with
  | i z => cases ht
  | s p => cases ht
  | t l => cases ht
  | l l =>
    change (match Nat.ble l.length 1000000 with | true => some l | false => none) = some ts at ht
    cases e : Nat.ble l.length 1000000 with
    | false => rw [e] at ht; cases ht
    | true =>
      rw [e] at ht; cases ht
      refine wpAny_mono (h.go A env s r _ E Z hA hE hx hZ hF e1) (fun v s₁ ⟨k₁, r₁⟩ => ?_) fun _ _ y => y
      exact wpAny_mono (iter_list (c := c) (k := k) k₁.sub r₁ (Nat.le_of_ble_eq_true e)) (fun it s₂ ⟨I, fp, wr, P, St, h1, h2, h3⟩ => ⟨I, fp, wr, P, St, h1, k₁.trans h2, h3⟩) fun _ _ y => y

/-! ranges -/
def rng (lo : Int) : Nat → List T
  | 0 => []
  | n + 1 => .i lo :: rng (lo + 1) n
theorem rng_len (lo : Int) (n : Nat) : (rng lo n).length = n := by
  induction n generalizing lo with
  | zero => rfl
  | succ n ih => simp [rng, ih]
theorem rng_get (lo : Int) (n : Nat) : ∀ {i : Nat} {t : T}, (rng lo n)[i]? = some t → t = .i (lo + i) := by
  induction n generalizing lo with
  | zero => intro i t h; simp [rng] at h
  | succ n ih =>
    intro i t h
    cases i with
    | zero => simp [rng] at h; subst h; simp
    | succ i =>
      simp [rng] at h
      have := ih (lo + 1) h
      rw [this]; congr 1; omega
def rangeOf (lo hi : Int) : Option (List T) := match Nat.ble lo.natAbs 100000 with
  | true => match Nat.ble hi.natAbs 100000 with
    | true => some (rng lo (hi - lo).toNat)
    | false => none
  | false => none
theorem rangeOf_some {lo hi : Int} {ts : List T} (h : rangeOf lo hi = some ts) : lo.natAbs ≤ 100000 ∧ hi.natAbs ≤ 100000 ∧ ts = rng lo (hi - lo).toNat := by
  unfold rangeOf at h
  cases e1 : Nat.ble lo.natAbs 100000 with
  | false => rw [e1] at h; cases h
  | true =>
    rw [e1] at h
    cases e2 : Nat.ble hi.natAbs 100000 with
    | false => rw [e2] at h; cases h
    | true => rw [e2] at h; cases h; exact ⟨Nat.le_of_ble_eq_true e1, Nat.le_of_ble_eq_true e2, rfl⟩

theorem iter_range {A : Around} {E : Value → Shared → Prop} {s : Shared} {h₀ : Heap} {lo hi : Int} {t1 t2 t3 : Tok} {ts : List T} {a : Addr} {Z : Addr → Prop} (hs : Sub h₀ s.heap) (hr : IsRange s.heap a lo hi 1 t1 t2 t3) (ht : rangeOf lo hi = some ts) :
    wpAny (model prog w) A (pyIter (.ref a)) (fun it s₂ => ∃ I fp wr P St, it = .ref I ∧ Kp s s₂ ∧ Iter prog w ⟨c.a, Z⟩ h₀ s₂.heap I fp wr P St ts) E s := by
  obtain ⟨h1, h2, rfl⟩ := rangeOf_some ht
  have hsz : Builtin.Range.rangeSize lo hi 1 = ((hi - lo).toNat : Int) := by rw [rangeSize_one]; split <;> omega
  refine wpAny_pyIter_range hr (small_one (by omega) (by omega) (by omega) (by omega)) ?_
  refine ⟨s.heap.objs.size, [s.heap.objs.size], [s.heap.objs.size], (fun i v => ∃ t, v = .int (lo + (i : Nat) * 1) t), (fun i h => IsRangeIter h s.heap.objs.size (lo + (i : Nat) * 1) (((hi - lo).toNat : Int) - (i : Nat)) 1), rfl, Kp.mk' (sub_push _ _), ?_⟩
  refine ⟨fun A' hA' => ?_, ?_, ?_, fun b' hb' => .inl hb', fun b' hb' => ?_, fun b' hb' => ?_, fun i h st b' hb' => ?_, fun i h st => ?_, hs.trans (sub_push _ _), fun i v t hP ht => ?_⟩
  · rw [rng_len]; exact Walks.range hA' _ lo 1 _
  · have e1 : (lo + ((0 : Nat) : Int) * 1) = lo := by simp
    have e2 : (((hi - lo).toNat : Int) - ((0 : Nat) : Int)) = Builtin.Range.rangeSize lo hi 1 := by rw [hsz]; simp
    rw [e1, e2]
    exact Heap.get?_push_size _ rfl
  · rw [rng_len]; omega
  · obtain rfl := List.mem_singleton.mp hb'
    exact ⟨_, Heap.get?_push_size _ rfl, notDC_fields, .inl (List.mem_singleton.mpr rfl)⟩
  · obtain rfl := List.mem_singleton.mp hb'
    cases e : h₀.get? s.heap.objs.size with
    | none => rfl
    | some o => have := hs _ _ e; rw [fresh_none] at this; cases this
  · obtain rfl := List.mem_singleton.mp hb'
    exact ⟨_, st, notSeq_fields, notDC_fields⟩
  · exact ⟨_, _, _, st, rfl, rfl, by decide⟩
  · rw [rng_get _ _ ht]
    obtain ⟨tk, rfl⟩ := hP
    exact ⟨tk, by simp⟩

def one (F : Int → Option (List T)) : List T → Option (List T)
  | [.i z] => F z
  | _ => none
def two (F : Int → Int → Option (List T)) : List T → Option (List T)
  | [.i y, .i z] => F y z
  | _ => none
theorem EvIt_range1 (hc : c.Ok) {sc : Scope} {G : List Str} {k : Nat} {x : Str} {e : Expr} {g : List X → Option (List T)} {p pos : Pos} (hg : GlobIs c x (.type "range"))
    (hk : sc.names.lookup x = some .globalImplicit) (hd : (x == ("__debug__" : Str)) = false) (ha : EvL c sc G k [e] g)
    (he : ∀ env, starEach [e] env = (false, eval e env) :: starEach [] env) :
    EvIt c sc G k (.Call (.Name x p) [e] [] pos) (fun r => ob (g r) (one fun z => rangeOf 0 z)) := by
  refine ⟨fun A env s r t E Z hA hE hx hZ hF' ht => ?_⟩
  obtain ⟨ts, e1, ht⟩ := ob_some ht
  refine Call_ (load_glob hc hE hx hg hk ?_ hd)
  refine callWith_plain (c := c) (.t "range") (he env) rfl (wpAny_mono (ha.go A env s r ts E Z hA hE hx hZ hF' e1 pos) (fun vs s₁ ⟨k₁, r₁⟩ => ⟨ext_sub hx k₁.sub, ?_⟩) fun _ _ y => y)
  match ts, ht with
  | [.i z], ht =>
    obtain ⟨v, rfl, kz, rfl⟩ := reps_one r₁
    refine call_range_1 ?_
    exact wpAny_mono (iter_range (c := c) (h₀ := s.heap) (k₁.sub.trans (sub_push _ _)) (IsRange.new ..) ht) (fun it s₂ ⟨I, fp, wr, P, St, h1, h2, h3⟩ => ⟨I, fp, wr, P, St, h1, (k₁.trans (Kp.mk' (sub_push _ _))).trans h2, h3⟩) fun _ _ y => y
theorem EvIt_range2 (hc : c.Ok) {sc : Scope} {G : List Str} {k : Nat} {x : Str} {e e' : Expr} {g : List X → Option (List T)} {p pos : Pos} (hg : GlobIs c x (.type "range"))
    (hk : sc.names.lookup x = some .globalImplicit) (hd : (x == ("__debug__" : Str)) = false) (ha : EvL c sc G k [e, e'] g)
    (he : ∀ env, starEach [e, e'] env = (false, eval e env) :: starEach [e'] env) (hs : NoStar [e']) :
    EvIt c sc G k (.Call (.Name x p) [e, e'] [] pos) (fun r => ob (g r) (two rangeOf)) := by
  refine ⟨fun A env s r t E Z hA hE hx hZ hF' ht => ?_⟩
  obtain ⟨ts, e1, ht⟩ := ob_some ht
  refine Call_ (load_glob hc hE hx hg hk ?_ hd)
  refine callWith_plain (c := c) (.t "range") (he env) (hs env pos) (wpAny_mono (ha.go A env s r ts E Z hA hE hx hZ hF' e1 pos) (fun vs s₁ ⟨k₁, r₁⟩ => ⟨ext_sub hx k₁.sub, ?_⟩) fun _ _ y => y)
  match ts, ht with
  | [.i z, .i z'], ht =>
    obtain ⟨v, vr, rfl, ⟨kz, rfl⟩, r₂⟩ := r₁
    obtain ⟨v', rfl, kz', rfl⟩ := reps_one r₂
    refine call_range_2 ?_
    exact wpAny_mono (iter_range (c := c) (h₀ := s.heap) (k₁.sub.trans (sub_push _ _)) (IsRange.new ..) ht) (fun it s₂ ⟨I, fp, wr, P, St, h1, h2, h3⟩ => ⟨I, fp, wr, P, St, h1, (k₁.trans (Kp.mk' (sub_push _ _))).trans h2, h3⟩) fun _ _ y => y
end
end Mine

namespace Mine
open PySem PySem.Calls PyProof.Rows PyProof.V PySem.SeqAt

/-! closures -/
def closOf (env : Env) : List (Str × NameKind) → List (Str × Addr) → List (Str × Addr)
  | [], acc => acc
  | (n, k) :: r, acc => if k == .free then closOf env r ((n, (env.cells.lookup n).getD 0) :: acc) else closOf env r acc
theorem closFor_aux (env : Env) (f : Str × NameKind → List (Str × Addr) → Sem (ForInStep (List (Str × Addr)))) (hf : ∀ n k cs, f (n, k) cs = if k == .free then (do let a ← cellOf env n; pure (.yield ((n, a) :: cs))) else pure (.yield cs)) :
    ∀ (names : List (Str × NameKind)) (acc : List (Str × Addr)), (∀ n, (n, NameKind.free) ∈ names → ∃ a, env.cells.lookup n = some a) → forIn names acc f = pure (closOf env names acc)
  | [], acc, _ => by rw [List.forIn_nil]; rfl
  | (n, k) :: r, acc, h => by
    rw [List.forIn_cons, hf]
    unfold closOf
    by_cases hk : (k == NameKind.free) = true
    · rw [if_pos hk, if_pos hk]
      have hk' : k = .free := by simpa using hk
      subst hk'
      obtain ⟨a, ha⟩ := h n List.mem_cons_self
      have e : cellOf env n = pure a := by unfold cellOf; rw [ha]
      rw [e, ha]
      show forIn r _ f = _
      exact closFor_aux env f hf r _ fun m hm => h m (List.mem_cons_of_mem _ hm)
    · rw [if_neg hk, if_neg hk]
      show forIn r _ f = _
      exact closFor_aux env f hf r _ fun m hm => h m (List.mem_cons_of_mem _ hm)
theorem closFor {scope : Scope} {env : Env} (h : ∀ n, (n, NameKind.free) ∈ scope.names → ∃ a, env.cells.lookup n = some a) : closureFor scope env = pure (closOf env scope.names []) := by
  simp only [closureFor]
  rw [closFor_aux env _ (fun n k cs => by cases k == NameKind.free <;> simp) scope.names [] h]
  rfl
theorem closOf_lookup (env : Env) {n : Str} {a : Addr} (ha : env.cells.lookup n = some a) : ∀ (names : List (Str × NameKind)) (acc : List (Str × Addr)), ((n, NameKind.free) ∈ names ∨ acc.lookup n = some a) → (closOf env names acc).lookup n = some a
  | [], acc, h => by
    rcases h with h | h
    · cases h
    · exact h
  | (n', k) :: r, acc, h => by
    unfold closOf
    by_cases hk : (k == NameKind.free) = true
    · rw [if_pos hk]
      refine closOf_lookup env ha r _ ?_
      by_cases hn : n = n'
      · subst hn
        right
        rw [List.lookup_cons, beq_self_eq_true, ha]
        rfl
      · rcases h with h | h
        · rcases List.mem_cons.mp h with h | h
          · injection h with h1 h2; exact absurd h1 hn
          · exact .inl h
        · right
          rw [List.lookup_cons, show (n == n') = false by simpa using hn]
          exact h
    · rw [if_neg hk]
      refine closOf_lookup env ha r _ ?_
      rcases h with h | h
      · rcases List.mem_cons.mp h with h | h
        · injection h with h1 h2
          subst h2
          exact absurd rfl hk
        · exact .inl h
      · exact .inr h

def relS (scope sc : Scope) : Scope := { scope with names := scope.names.map fun (n, k) => if (k == .free && sc.kind == .function && sc.names.lookup n == some .cell) then (n, .cell) else (n, k) }
theorem relabel_eq {scope sc : Scope} {env : Env} (h : env.scope = sc) : relabel scope env = relS scope sc := by
  unfold relabel relS Env.kindOf
  rw [h]
theorem lookup_rel_free {sc : Scope} : ∀ {names : List (Str × NameKind)} {x : Str}, names.lookup x = some .free →
    (names.map fun (n, k) => if (k == NameKind.free && sc.kind == .function && sc.names.lookup n == some .cell) then (n, NameKind.cell) else (n, k)).lookup x = some .cell ∨
    (names.map fun (n, k) => if (k == NameKind.free && sc.kind == .function && sc.names.lookup n == some .cell) then (n, NameKind.cell) else (n, k)).lookup x = some .free
  | [], _, h => by simp at h
  | (n, k) :: r, x, h => by
    have ih := @lookup_rel_free sc r x
    show List.lookup x ((if (k == NameKind.free && sc.kind == .function && sc.names.lookup n == some .cell) = true then (n, NameKind.cell) else (n, k)) :: _) = _ ∨ List.lookup x ((if (k == NameKind.free && sc.kind == .function && sc.names.lookup n == some .cell) = true then (n, NameKind.cell) else (n, k)) :: _) = _
    cases hx : x == n with
    | true =>
      simp only [List.lookup_cons, hx] at h
      cases h
      by_cases hc : (NameKind.free == NameKind.free && sc.kind == .function && sc.names.lookup n == some .cell) = true
      · left; rw [if_pos hc]; simp [List.lookup_cons, hx]
      · right; rw [if_neg hc]; simp [List.lookup_cons, hx]
    | false =>
      simp only [List.lookup_cons, hx] at h
      by_cases hc : (k == NameKind.free && sc.kind == .function && sc.names.lookup n == some .cell) = true
      · rw [if_pos hc]; simp only [List.lookup_cons, hx]; exact ih h
      · rw [if_neg hc]; simp only [List.lookup_cons, hx]; exact ih h
theorem lookup_rel_local {sc : Scope} : ∀ {names : List (Str × NameKind)} {x : Str}, names.lookup x = some .local →
    (names.map fun (n, k) => if (k == NameKind.free && sc.kind == .function && sc.names.lookup n == some .cell) then (n, NameKind.cell) else (n, k)).lookup x = some .local
  | [], _, h => by simp at h
  | (n, k) :: r, x, h => by
    have ih := @lookup_rel_local sc r x
    show List.lookup x ((if (k == NameKind.free && sc.kind == .function && sc.names.lookup n == some .cell) = true then (n, NameKind.cell) else (n, k)) :: _) = _
    cases hx : x == n with
    | true =>
      simp only [List.lookup_cons, hx] at h
      cases h
      simp [List.lookup_cons, hx]
    | false =>
      simp only [List.lookup_cons, hx] at h
      by_cases hc : (k == NameKind.free && sc.kind == .function && sc.names.lookup n == some .cell) = true
      · rw [if_pos hc]; simp only [List.lookup_cons, hx]; exact ih h
      · rw [if_neg hc]; simp only [List.lookup_cons, hx]; exact ih h
theorem mem_lookup {α : Type} : ∀ {l : List (Str × α)} {n : Str} {c : α}, l.lookup n = some c → (n, c) ∈ l
  | (k, v) :: r, n, c, h => by
    rw [List.lookup_cons] at h
    cases hb : n == k with
    | true => rw [hb] at h; cases h; rw [beq_iff_eq.mp hb]; exact List.mem_cons_self
    | false => rw [hb] at h; exact List.mem_cons_of_mem _ (mem_lookup h)

/-- the inner block's names taken from the outer's -/
def fvOk (scope sc : Scope) (G : List Str) : List Str → List Nat → Bool
  | [], [] => true
  | y :: ys, i :: is => (G[i]? == some y) && (scope.names.lookup y == some .free) && (sc.names.lookup y == some .cell || sc.names.lookup y == some .free) && fvOk scope sc G ys is
  | _, _ => false
def pick (r : List X) : List Nat → List X
  | [] => []
  | i :: is => nth r i :: pick r is
theorem fvOk_get {scope sc : Scope} {G : List Str} {r : List X} : ∀ {fv : List Str} {is : List Nat}, fvOk scope sc G fv is = true → ∀ {j : Nat} {y : Str}, fv[j]? = some y →
    ∃ i, G[i]? = some y ∧ nth (pick r is) j = nth r i ∧ scope.names.lookup y = some .free ∧ (sc.names.lookup y = some .cell ∨ sc.names.lookup y = some .free)
  | [], _, _, j, y, h => by simp at h
  | _ :: _, [], h, _, _, _ => by cases h
  | y' :: fv, i :: is, h, j, y, hj => by
    simp only [fvOk, Bool.and_eq_true, Bool.or_eq_true, beq_iff_eq] at h
    obtain ⟨⟨⟨h1, h2⟩, h3⟩, h4⟩ := h
    cases j with
    | zero => simp at hj; subst hj; exact ⟨i, h1, rfl, h2, h3⟩
    | succ j => simp at hj; exact fvOk_get (r := r) h4 hj

section
variable {prog : Program} {w : World} {c : Base prog w}

structure EvT (c : Base prog w) (sc : Scope) (G : List Str) (k : Nat) (ifs : List Expr) (f : List X → Option Bool) : Prop where
  go : ∀ (A : Around) (env : Env) (s : Shared) (r : List X) (b : Bool) (E : Value → Shared → Prop) (Z : Addr → Prop), GA k A → EnvI sc env → Gd c s.heap → Live Z s.heap → FrE c Z s.heap env G r → f r = some b →
    wpAny (model prog w) A (forIn ifs true fun c r => if r = true then do let ok ← isTrue c env (eval c env); pure (ForInStep.yield ok) else pure (ForInStep.yield r)) (fun v s' => v = b ∧ Kp s s') E s
theorem EvT_nil {sc : Scope} {G : List Str} {k : Nat} : EvT c sc G k [] (fun _ => some true) := by
  refine ⟨fun A env s r b E Z hA hE hx hZ hF ht => ?_⟩
  cases ht
  exact wpAny_tests_nil ⟨rfl, Kp.refl s⟩
theorem EvT_one {sc : Scope} {G : List Str} {k : Nat} {e : Expr} {f : List X → Option Bool} (h : EvB c sc G k e f) : EvT c sc G k [e] f := by
  refine ⟨fun A env s r b E Z hA hE hx hZ hF ht => ?_⟩
  exact wpAny_tests_one (h.go A env s r b E Z hA hE hx hZ hF ht)

theorem cenv_ok {scope sc : Scope} {env : Env} {C : Addr} (hE : EnvI sc env) (hkind : scope.kind = .function) (hfree : ∀ y, (y, NameKind.free) ∈ scope.names → sc.names.lookup y = some .cell ∨ sc.names.lookup y = some .free) (hcell : ∀ y ∈ scope.names, y.2 ≠ .cell) :
    EnvI (relS scope sc) (compEnvC scope (closOf env scope.names []) C env) := by
  refine ⟨relabel_eq hE.scope, hE.globals, hE.builtins, hkind, fun x hx => ?_⟩
  have hm : (x, NameKind.free) ∈ scope.names := by
    have go : ∀ (names : List (Str × NameKind)), (∀ y ∈ names, y.2 ≠ .cell) →
        ((names.map fun (n, k) => if (k == NameKind.free && sc.kind == .function && sc.names.lookup n == some .cell) then (n, NameKind.cell) else (n, k)).lookup x = some .cell ∨
        (names.map fun (n, k) => if (k == NameKind.free && sc.kind == .function && sc.names.lookup n == some .cell) then (n, NameKind.cell) else (n, k)).lookup x = some .free) → (x, NameKind.free) ∈ names := by
      intro names hc h
      have key : ∀ kd, (names.map fun (n, k) => if (k == NameKind.free && sc.kind == .function && sc.names.lookup n == some .cell) then (n, NameKind.cell) else (n, k)).lookup x = some kd → kd = .cell ∨ kd = .free → (x, NameKind.free) ∈ names := by
        intro kd hl hkd
        obtain ⟨⟨n, k⟩, hnk, he⟩ := List.mem_map.mp (mem_lookup hl)
        dsimp only at he
        by_cases hcd : (k == NameKind.free && sc.kind == .function && sc.names.lookup n == some .cell) = true
        · rw [if_pos hcd] at he
          injection he with h1 h2
          simp only [Bool.and_eq_true, beq_iff_eq] at hcd
          rw [← h1, ← hcd.1.1]; exact hnk
        · rw [if_neg hcd] at he
          injection he with h1 h2
          subst h1 h2
          rcases hkd with rfl | rfl
          · exact absurd rfl (hc _ hnk)
          · exact hnk
      rcases h with h | h
      · exact key _ h (.inl rfl)
      · exact key _ h (.inr rfl)
    exact go scope.names hcell hx
  obtain ⟨a, ha⟩ := hE.cells x (hfree x hm)
  exact ⟨a, closOf_lookup env ha _ _ (.inl hm)⟩

theorem cfr_ok {scope sc : Scope} {env : Env} {C : Addr} {h₀ h' : Heap} {m' : Str → Option Value} {x : Str} {v : Value} {t : T} {G fv : List Str} {is : List Nat} {r : List X} {Z : Addr → Prop} (hE : EnvI sc env) (hx : scope.names.lookup x = some .local)
    (hF : FrE c Z h₀ env G r) (hs : Sub h₀ h') (hn : h'.Ns C m') (hm : m' x = some v) (hr : Rep ⟨c.a, Z⟩ h' t v) (hfv : fvOk scope sc G fv is = true) :
    FrE c Z h' (compEnvC scope (closOf env scope.names []) C env) (x :: fv) (.p t :: pick r is) := by
  refine ⟨m', hn, fun i y hi hu => ?_⟩
  have hk : ∀ y, (compEnvC scope (closOf env scope.names []) C env).kindOf y = (relS scope sc).names.lookup y := fun y => by
    show (relabel scope env).names.lookup y = _
    rw [relabel_eq hE.scope]
  cases i with
  | zero =>
    simp at hi; subst hi
    exact ⟨v, .inl ⟨(hk _).trans (lookup_rel_local hx), hm⟩, hr⟩
  | succ j =>
    simp at hi
    obtain ⟨i, g1, g2, g3, g4⟩ := fvOk_get (r := r) hfv hi
    have e : nth (.p t :: pick r is) (j + 1) = nth r i := g2
    rw [e] at hu ⊢
    obtain ⟨m, hn₀, hF⟩ := hF
    obtain ⟨u, hu', hr'⟩ := hF i y g1 hu
    refine ⟨u, .inr ?_, hr'.mono hs⟩
    have hkd : (compEnvC scope (closOf env scope.names []) C env).kindOf y = some .cell ∨ (compEnvC scope (closOf env scope.names []) C env).kindOf y = some .free := by
      rw [hk]; exact lookup_rel_free g3
    refine ⟨hkd, ?_⟩
    rcases hu' with ⟨q, _⟩ | ⟨_, cc, q1, q2⟩
    · rw [hE.kindOf] at q
      rcases g4 with g4 | g4 <;> rw [g4] at q <;> cases q
    · exact ⟨cc, closOf_lookup env q1 _ _ (.inl (mem_lookup g3)), q2.keeps hs⟩

def compG (ft : X → Option Bool) (fe : X → Option T) : List T → Option (List T)
  | [] => some []
  | t :: ts => ob (ft (.p t)) fun b => match b with
    | true => ob (fe (.p t)) fun y => ob (compG ft fe ts) fun ys => some (y :: ys)
    | false => compG ft fe ts
theorem compG_len {ft : X → Option Bool} {fe : X → Option T} : ∀ {ts out : List T}, compG ft fe ts = some out → out.length ≤ ts.length
  | [], out, h => by cases h; exact Nat.le_refl _
  | t :: ts, out, h => by
    obtain ⟨b, e, h⟩ := ob_some h
    cases b with
    | true =>
      obtain ⟨y, e1, h⟩ := ob_some h
      obtain ⟨ys, e2, h⟩ := ob_some h
      cases h
      have := compG_len e2
      simpa using this
    | false =>
      have := compG_len (show compG ft fe ts = some out from h)
      simp; omega

theorem KV.view {a : Nat → Int} {Z Z' : Addr → Prop} {h : Heap} (hz : ∀ b o, h.get? b = some o → ¬ Z b → ¬ Z' b) : ∀ {l : List (List Int × T)} {xs : List (List Int × Addr × Value)}, KV ⟨a, Z⟩ h l xs → KV ⟨a, Z'⟩ h l xs
  | [], _, x => x
  | (k, t) :: l, _, ⟨b, v, r, e, q, x, y⟩ => ⟨b, v, r, e, q.view hz, x.view hz, KV.view hz y⟩
theorem FrE.view {Z Z' : Addr → Prop} {h : Heap} {env : Env} {G : List Str} {r : List X} (hz : ∀ b o, h.get? b = some o → ¬ Z b → ¬ Z' b) (x : FrE c Z h env G r) : FrE c Z' h env G r := by
  obtain ⟨m, hn, hx⟩ := x
  refine ⟨m, hn, fun i y hi hu => ?_⟩
  obtain ⟨v, hv, hr⟩ := hx i y hi hu
  refine ⟨v, hv, ?_⟩
  cases e : nth r i with
  | u => trivial
  | p t => rw [e] at hr; exact Rep.view hz t v hr
  | d kv => rw [e] at hr; obtain ⟨b, xs, e', h1, h2, h3⟩ := hr; exact ⟨b, xs, e', h1, h2.view hz, h3⟩
  | k => trivial

/-- one more address barred -/
def bar (Z : Addr → Prop) (D : Addr) : Addr → Prop := fun b => Z b ∨ b = D
theorem kept_sub {q : Vw} {h h' : Heap} (x : Sub h h') : Kept q h h' := fun b o _ _ e => x b o e
theorem Kept.trans {q : Vw} {h h' h'' : Heap} (x : Kept q h h') (y : Kept q h' h'') : Kept q h h'' := fun b o z d e => y b o z d (x b o z d e)
theorem kept_ns {q : Vw} {h h' : Heap} {C : Addr} {m : Str → Option Value} (hn : h.Ns C m) (hs : Heap.SameBut C h h') : Kept q h h' := fun b o _ ⟨items, n, hd⟩ e => hs.extBut b o (fun hb => by
  subst hb
  obtain ⟨o', es, ep, ho', hd', _⟩ := hn
  rw [e] at ho'; cases ho'
  rw [hd] at hd'; cases hd') e
theorem kept_bar {a : Nat → Int} {Z : Addr → Prop} {h h' : Heap} {D : Addr} (hs : Heap.SameBut D h h') : Kept ⟨a, bar Z D⟩ h h' := fun b o z _ e => hs.extBut b o (fun hb => z (.inr hb)) e
theorem kept_iter {q : Vw} {h h' : Heap} {wr : List Addr} (hw : ∀ b ∈ wr, ∃ o, h.get? b = some o ∧ NotSeq o ∧ NotDC o) (hk : ∀ b o, b ∉ wr → h.get? b = some o → h'.get? b = some o) : Kept q h h' := fun b o _ ⟨items, n, hd⟩ e => hk b o (fun hb => by
  obtain ⟨o', ho', hns, _⟩ := hw b hb
  rw [e] at ho'; cases ho'
  exact hns _ _ hd) e

theorem comp_loop {A : Around} {env : Env} {h₀ : Heap} {s : Shared} {sc scope : Scope} {G fv : List Str} {is : List Nat} {r : List X} {k : Nat} {elt iter : Expr} {x : Str} {px pos : Pos} {ifs : List Expr} {ft : List X → Option Bool} {fe : List X → Option T}
    {I C D : Addr} {fp wr : List Addr} {P : Nat → Value → Prop} {St : Nat → Heap → Prop} {ts out : List T} {R : Result → Shared → Prop} {h₂ : Heap} {m₀ : Str → Option Value} {Z : Addr → Prop}
    (hA : GA k A) (hE : EnvI sc env) (hx₀ : Gd c h₀) (hZ : Live Z h₀) (hF : FrE c Z h₀ env G r) (W : Iter prog w ⟨c.a, Z⟩ h₀ h₂ I fp wr P St ts) (hs₂ : ∀ b o, h₂.get? b = some o → s.heap.get? b = some o)
    (hkind : scope.kind = .function) (hcell : ∀ y ∈ scope.names, y.2 ≠ .cell) (hx : scope.names.lookup x = some .local) (hfree : ∀ y, (y, NameKind.free) ∈ scope.names → sc.names.lookup y = some .cell ∨ sc.names.lookup y = some .free)
    (hfv : fvOk scope sc G fv is = true) (ht : EvT c (relS scope sc) (x :: fv) k ifs ft) (he : Ev c (relS scope sc) (x :: fv) k elt fe)
    (hC : h₂.get? C = none) (hD : h₂.get? D = none) (hDC : D ≠ C) (hn₀ : s.heap.Ns C m₀) (hacc : s.heap.PlainList D #[])
    (hout : compG (fun y => ft (y :: pick r is)) (fun y => fe (y :: pick r is)) ts = some out)
    (hR : ∀ h' tk m' ys, h'.Ns C m' → h'.PlainList D ys → Reps ⟨c.a, Z⟩ h' out ys.toList → (∀ b o, b ∉ wr → h₂.get? b = some o → h'.get? b = some o) → R (.ok .next) { s with heap := h', toks := tk }) :
    codeAny (model prog w) A (.compLoop (.ListComp elt [⟨.Name x px, iter, ifs, 0⟩] scope pos) 0 (.ref I) (.ref D) (compEnvC scope (closOf env scope.names []) C env)) R s := by
  have W' := W.walks A hA.handled
  have hwr : ∀ b ∈ wr, b ∈ fp := W'.sub
  have hCf : C ∉ fp := fun hm => by obtain ⟨o, ho, _⟩ := W.fp _ hm; rw [hC] at ho; cases ho
  have hDf : D ∉ fp := fun hm => by obtain ⟨o, ho, _⟩ := W.fp _ hm; rw [hD] at ho; cases ho
  have hCw : C ∉ wr := fun h => hCf (hwr _ h)
  have hDw : D ∉ wr := fun h => hDf (hwr _ h)
  have hEc := cenv_ok (C := C) hE hkind hfree hcell
  have hkx : (compEnvC scope (closOf env scope.names []) C env).kindOf x = some .local := by
    show (relabel scope env).names.lookup x = _
    rw [relabel_eq hE.scope]; exact lookup_rel_local hx
  have hsz := W.short
  have hD0 : h₀.get? D = none := by
    cases e : h₀.get? D with
    | none => rfl
    | some o => rw [W.sub _ _ e] at hD; cases hD
  have hF' : FrE c (bar Z D) h₀ env G r := hF.view fun b o e hz hb => hb.elim hz fun hb => by rw [hb, hD0] at e; cases e
  have st0 : St 0 s.heap := W'.frame _ _ _ W.start fun b _ o e => hs₂ b o e
  refine codeAny_compLoop_tests
    (fun n s' => ∃ h' tk m' ys i out₁ out₂, s' = { s with heap := h', toks := tk } ∧ i ≤ ts.length ∧ St i h' ∧ h'.PlainList D ys ∧ h'.Ns C m' ∧ out = out₁ ++ out₂ ∧ compG (fun y => ft (y :: pick r is)) (fun y => fe (y :: pick r is)) (ts.drop i) = some out₂ ∧
      Reps ⟨c.a, bar Z D⟩ h' out₁ ys.toList ∧ out₁.length ≤ i ∧ n = ts.length + 1 - i ∧ (∀ b o, b ∉ wr → h₂.get? b = some o → h'.get? b = some o) ∧ (∀ j v t, P j v → ts[j]? = some t → Rep ⟨c.a, bar Z D⟩ h' t v)) ?_ (ts.length + 1)
    ⟨s.heap, s.toks, m₀, #[], 0, [], out, rfl, Nat.zero_le _, st0, hacc, hn₀, rfl, hout, rfl, Nat.le_refl _, rfl, fun b o _ e => hs₂ b o e, fun j v t hP hj => ?_⟩
  · rintro n s' ⟨H, tk, m', ys, i, out₁, out₂, rfl, hi, hst', hacc', hn', rfl, hout₂, hreps, hlen, rfl, hk, hit⟩
    have sub₀ : ∀ {h' : Heap}, (∀ b o, b ∉ wr → h₂.get? b = some o → h'.get? b = some o) → Sub h₀ h' := fun hk b o e => hk b o (fun hb => by rw [W.new b hb] at e; cases e) (W.sub b o e)
    by_cases hlt : i < ts.length
    · refine W'.item i _ _ _ hlt hst' fun v h₁ tk₁ hPv hst₁ hk₁ => ?_
      have K₁ : Kept ⟨c.a, bar Z D⟩ H h₁ := kept_iter (W.ns i H hst') hk₁
      have hk₁' : ∀ b o, b ∉ wr → h₂.get? b = some o → h₁.get? b = some o := fun b o hb e => hk₁ b o hb (hk b o hb e)
      have hgt : ts[i]? = some ts[i] := by simp [hlt]
      have hdrop : ts.drop i = ts[i] :: ts.drop (i + 1) := List.drop_eq_getElem_cons hlt
      rw [hdrop] at hout₂
      obtain ⟨b, eb, hout₂⟩ := ob_some hout₂
      have hn₁ := hn'.at' (h' := h₁) fun o e => hk₁ _ o hCw e
      refine wpAny_assign_Name (wpAny_storeName_local hkx hn₁ (fun h₂' hn₂ hs₂' => ?_) (by show ((compEnvC scope (closOf env scope.names []) C env).scope.kind == .class || _) = false; rw [show (compEnvC scope (closOf env scope.names []) C env).scope.kind = .function from hkind]; rfl))
      have K₂ : Kept ⟨c.a, bar Z D⟩ H h₂' := K₁.trans (kept_ns hn₁ hs₂')
      have hk₂ : ∀ b o, b ∉ wr → h₂.get? b = some o → h₂'.get? b = some o := fun b o hb e => hs₂'.extBut b o (fun hbC => by subst hbC; exact absurd (hC.symm.trans e) (by simp)) (hk₁' b o hb e)
      have hst₂ : St (i + 1) h₂' := W'.frame _ _ _ hst₁ fun b hb o e => hs₂'.extBut b o (fun hbC => hCf (by rw [← show b = C from hbC]; exact hb)) e
      have hr₂ : Rep ⟨c.a, bar Z D⟩ h₂' ts[i] v := Rep.mono' K₂ _ _ (hit i v _ hPv hgt)
      have hmx : (fun y => if y = x then some v else m' y) x = some v := by simp
      have fr₂ := cfr_ok (c := c) (C := C) hE hx hF' (sub₀ hk₂) hn₂ hmx hr₂ hfv
      have ext₂ := ext_sub hx₀ (sub₀ hk₂)
      have hacc₂ : h₂'.PlainList D ys := hacc'.at fun o e => hs₂'.extBut _ o hDC (hk₁ _ o hDw e)
      have live₂ : Live (bar Z D) h₂' := fun b hb => hb.elim (fun hb => (hZ.mono (sub₀ hk₂)) b hb) fun hb => by obtain ⟨n, hn⟩ := hacc₂; exact ⟨_, hb ▸ hn⟩
      refine wpAny_mono (ht.go A _ _ _ b _ (bar Z D) hA hEc ext₂ live₂ fr₂ eb) (fun ok s₃ ⟨hok, k₃⟩ => ?_) fun _ _ y => y
      subst hok
      obtain ⟨h₃, tk₃, rfl, sub₃⟩ := k₃
      replace sub₃ : Sub h₂' h₃ := sub₃
      have hk₃ : ∀ b o, b ∉ wr → h₂.get? b = some o → h₃.get? b = some o := fun b o hb e => sub₃ b o (hk₂ b o hb e)
      have K₃ := K₂.trans (kept_sub sub₃)
      have hst₃ : St (i + 1) h₃ := W'.frame _ _ _ hst₂ fun b hb o e => sub₃ b o e
      cases ok with
      | false =>
        simp only [Bool.false_eq_true, if_false]
        exact ⟨ts.length + 1 - (i + 1), by omega, h₃, tk₃, _, ys, i + 1, out₁, out₂, rfl, hlt, hst₃, hacc₂.at fun o e => sub₃ _ o e, hn₂.keeps sub₃, rfl, hout₂, Reps.mono' K₃ _ _ hreps, by omega, rfl, hk₃, fun j u t hP hj => Rep.mono' K₃ _ _ (hit j u t hP hj)⟩
      | true =>
        simp only [if_true]
        obtain ⟨y, ey, hout₂⟩ := ob_some hout₂
        obtain ⟨out₃, eo, hout₂⟩ := ob_some hout₂
        cases hout₂
        refine wpAny_mono (he.go A _ _ _ y _ (bar Z D) hA hEc (ext_sub ext₂ sub₃) (live₂.mono sub₃) (fr₂.mono sub₃) ey) (fun u s₄ ⟨k₄, r₄⟩ => ?_) fun _ _ y => y
        obtain ⟨h₄, tk₄, rfl, sub₄⟩ := k₄
        replace sub₄ : Sub h₃ h₄ := sub₄
        replace r₄ : Rep ⟨c.a, bar Z D⟩ h₄ y u := r₄
        have hacc₄ : h₄.PlainList D ys := hacc₂.at fun o e => sub₄ _ o (sub₃ _ o e)
        have hys : ys.size ≤ sizeLine := by
          have e1 := hreps.length
          rw [Array.length_toList] at e1
          rw [sizeLine_eq]; omega
        refine wpAny_list_append_plain (hsz := hys) hacc₄ fun h₅ hl₅ hs₅ => ?_
        have K₅ : Kept ⟨c.a, bar Z D⟩ h₄ h₅ := kept_bar hs₅
        refine ⟨ts.length + 1 - (i + 1), by omega, h₅, tk₄, _, ys.push u, i + 1, out₁ ++ [y], out₃, rfl, hlt, W'.frame _ _ _ hst₃ fun b hb o e => hs₅.extBut b o (fun hbD => hDf (by rw [← show b = D from hbD]; exact hb)) (sub₄ b o e), hl₅,
          ((hn₂.keeps sub₃).keeps sub₄).sameBut hs₅ (Ne.symm hDC), by simp, eo, ?_, by simp; omega, rfl, fun b o hb e => hs₅.extBut b o (fun hbD => by subst hbD; exact absurd (hD.symm.trans e) (by simp)) (sub₄ b o (hk₃ b o hb e)),
          fun j u' t hP hj => Rep.mono' ((K₃.trans (kept_sub sub₄)).trans K₅) _ _ (hit j u' t hP hj)⟩
        rw [Array.toList_push]
        exact Reps.snoc (Reps.mono' ((K₃.trans (kept_sub sub₄)).trans K₅) _ _ hreps) (Rep.mono' K₅ _ _ r₄)
    · have hin : i = ts.length := by omega
      subst hin
      rw [List.drop_length] at hout₂
      cases hout₂
      refine W'.done _ _ _ hst' fun h₁ tk₁ hk₁ => ?_
      have K₁ : Kept ⟨c.a, bar Z D⟩ H h₁ := kept_iter (W.ns _ H hst') hk₁
      refine hR h₁ tk₁ m' ys (hn'.at' fun o e => hk₁ _ o hCw e) (hacc'.at fun o e => hk₁ _ o hDw e) ?_ fun b o hb e => hk₁ b o hb (hk b o hb e)
      rw [List.append_nil]
      exact Reps.view (fun b o e hz hb => hz (.inl hb)) _ _ (Reps.mono' K₁ _ _ hreps)
  · exact Rep.mono hs₂ (Rep.view (fun b o e hz hb => hb.elim hz fun hb => by rw [hb, hD] at e; cases e) _ _ (W.item j v t hP hj))
end
end Mine

namespace Mine
open PySem PySem.Calls PyProof.Rows PyProof.V PySem.SeqAt

/-- the plain facts of a comprehension's block, closed by computation -/
structure CompI (scope sc : Scope) (G fv : List Str) (is : List Nat) (x : Str) : Prop where
  kind : scope.kind = .function
  cell : ∀ y ∈ scope.names, y.2 ≠ .cell
  loc : scope.names.lookup x = some .local
  free : ∀ y, (y, NameKind.free) ∈ scope.names → sc.names.lookup y = some .cell ∨ sc.names.lookup y = some .free
  names : ∀ y ∈ scope.names, y.2 = .local → scope.names.lookup y.1 = some .local
  fv : fvOk scope sc G fv is = true

section
variable {prog : Program} {w : World} {c : Base prog w}

theorem comp_block {A : Around} {env : Env} {E : Value → Shared → Prop} {h₀ : Heap} {s₂ : Shared} {sc scope : Scope} {G fv : List Str} {is : List Nat} {r : List X} {k : Nat} {elt iter : Expr} {x : Str} {px pos : Pos} {ifs : List Expr} {ft : List X → Option Bool} {fe : List X → Option T}
    {I : Addr} {fp wr : List Addr} {P : Nat → Value → Prop} {St : Nat → Heap → Prop} {ts out : List T} {Z : Addr → Prop} {RR : Value → Addr → Result → Shared → Prop}
    (hA : GA k A) (hE : EnvI sc env) (hx₀ : Gd c h₀) (hZ : Live Z h₀) (hF : FrE c Z h₀ env G r) (W : Iter prog w ⟨c.a, Z⟩ h₀ s₂.heap I fp wr P St ts)
    (hI : CompI scope sc G fv is x) (ht : EvT c (relS scope sc) (x :: fv) k ifs ft) (he : Ev c (relS scope sc) (x :: fv) k elt fe)
    (hout : compG (fun y => ft (y :: pick r is)) (fun y => fe (y :: pick r is)) ts = some out)
    (hRR : ∀ D C h' tk m' ys, s₂.heap.get? D = none → s₂.heap.get? C = none → D ≠ C → h'.Ns C m' → h'.PlainList D ys → Reps ⟨c.a, Z⟩ h' out ys.toList → (∀ b o, b ∉ wr → s₂.heap.get? b = some o → h'.get? b = some o) →
      RR (.ref D) C (.ok .next) { s₂ with heap := h', toks := tk }) :
    wpAny (model prog w) A (newList []) (fun acc s₃ => wpAny (model prog w) A (newFunctionEnv scope env.globals (closOf env scope.names []) [] env.qual none .none (some env)) (fun cenv s₄ =>
      codeAny (model prog w) A (.compStart (.ListComp elt [⟨.Name x px, iter, ifs, 0⟩] scope pos) 0 (.ref I) acc { cenv with scope := relabel scope env }) (RR acc cenv.locals) s₄) E s₃) E s₂ := by
  refine wpAny_newObj_type (wpAny_newFunctionEnv hI.cell (by intro y hy; simp at hy) (fun h₁ hns₁ hsb₁ => ?_) hI.kind)
  dsimp only at hns₁ hsb₁ ⊢
  generalize hH2 : s₂.heap.push { cls := .type "list", dict := none, data := .seq ([] : List Value).toArray } = H2 at hns₁ hsb₁ ⊢
  have hC : H2.objs.size = s₂.heap.objs.size + 1 := by rw [← hH2, Heap.size_push]
  have hDC : s₂.heap.objs.size ≠ H2.objs.size := by rw [hC]; exact Nat.ne_of_lt (Nat.lt_succ_self _)
  have below : ∀ b, b < s₂.heap.objs.size → b ≠ H2.objs.size := fun b hb => by rw [hC]; exact Nat.ne_of_lt (Nat.lt_succ_of_lt hb)
  have old : ∀ b o, s₂.heap.get? b = some o → h₁.get? b = some o := fun b o e => hsb₁.extBut b o (below b (Heap.lt_size e)) (Heap.get?_push_of_some _ (hH2 ▸ Heap.get?_push_of_some _ e))
  have hacc : h₁.PlainList s₂.heap.objs.size #[] := ⟨_, hsb₁.extBut _ _ hDC (Heap.get?_push_of_some _ (hH2 ▸ Heap.get?_push_size _ rfl))⟩
  have fresh : ∀ a, s₂.heap.objs.size ≤ a → s₂.heap.get? a = none := fun a ha => by
    cases e : s₂.heap.get? a with
    | none => rfl
    | some o' => exact absurd (Heap.lt_size e) (Nat.not_lt.mpr ha)
  have hDn := fresh s₂.heap.objs.size (Nat.le_refl _)
  have hCn := fresh H2.objs.size (by rw [hC]; exact Nat.le_succ _)
  have loop : ∀ s₃ : Shared, s₃ = { s₂ with heap := h₁, toks := s₂.toks + ([] : List (Str × Value)).length } →
      codeAny (model prog w) A (.compLoop (.ListComp elt [⟨.Name x px, iter, ifs, 0⟩] scope pos) 0 (.ref I) (.ref s₂.heap.objs.size) (compEnvC scope (closOf env scope.names []) H2.objs.size env))
        (RR (.ref s₂.heap.objs.size) H2.objs.size) s₃ := by
    rintro s₃ rfl
    exact comp_loop (c := c) hA hE hx₀ hZ hF W old hI.kind hI.cell hI.loc hI.free hI.fv ht he hCn hDn hDC hns₁ hacc hout fun h' tk m' ys hn hl hr hk =>
      hRR _ _ h' tk m' ys hDn hCn hDC hn hl hr hk
  have W' := W.walks A hA.handled
  exact codeAny_compStart_list (loop _ rfl) (W'.self 0 _ _ _ (W'.frame _ _ _ W.start fun b _ o e => old b o e) (loop _ rfl))

theorem hfreeOf {scope sc : Scope} {env : Env} (hE : EnvI sc env) (h : ∀ y, (y, NameKind.free) ∈ scope.names → sc.names.lookup y = some .cell ∨ sc.names.lookup y = some .free) : ∀ n, (n, NameKind.free) ∈ scope.names → ∃ a, env.cells.lookup n = some a := fun n hn => hE.cells n (h n hn)

theorem Ev_comp {sc scope : Scope} {G fv : List Str} {is : List Nat} {k : Nat} {elt iter : Expr} {x : Str} {px pos : Pos} {ifs : List Expr} {fi : List X → Option (List T)} {ft : List X → Option Bool} {fe : List X → Option T}
    (hi : EvIt c sc G k iter fi) (hI : CompI scope sc G fv is x) (ht : EvT c (relS scope sc) (x :: fv) k ifs ft) (he : Ev c (relS scope sc) (x :: fv) k elt fe)
    (hs : ∀ (env : Env) (x : Value), foldedSetIterable iter env x = pure x) :
    Ev c sc G k (.ListComp elt [⟨.Name x px, iter, ifs, 0⟩] scope pos) (fun r => ob (fi r) fun ts => ob (compG (fun y => ft (y :: pick r is)) (fun y => fe (y :: pick r is)) ts) fun out => some (.l out)) := by
  refine ⟨fun A env s r t E Z hA hE hx hZ hF htt => ?_⟩
  obtain ⟨ts, e1, htt⟩ := ob_some htt
  obtain ⟨out, e2, htt⟩ := ob_some htt
  cases htt
  rw [eval_ListComp]
  refine wpAny_comprehension_free (use := none) rfl (hs env) (closFor (hfreeOf hE hI.free)) hI.kind hI.names (wpAny_mono (hi.go A env s r ts E Z hA hE hx hZ hF e1) (fun xv s₁ h₁ => wpAny_mono h₁ (fun it s₂ h₂ => ?_) fun _ _ e => e) fun _ _ e => e)
  obtain ⟨I, fp, wr, P, St, rfl, k₂, W⟩ := h₂
  refine comp_block (c := c) (RR := fun acc C => compPost (model prog w) A E none _ acc C) hA hE hx hZ hF W hI ht he e2 ?_
  intro D C h' tk m' ys hD hC hDC hn hl hr hk
  obtain ⟨h₂', tk₂', e₂, sub₂⟩ := k₂
  subst e₂
  refine ⟨m', hn, fun h'' hs'' => ⟨⟨h'', tk, rfl, fun b o e => ?_⟩, D, ys, rfl, hl.at fun o e => hs''.extBut _ o hDC e, Reps.mono' (kept_ns hn hs'') _ _ hr, ?_⟩⟩
  · have e2 := sub₂ b o e
    exact hs''.extBut b o (fun hb => by subst hb; exact absurd (hC.symm.trans e2) (by simp)) (hk b o (fun hb => by rw [W.new b hb] at e; cases e) e2)
  · exact (hZ.mono sub₂).fresh hD
end
end Mine

namespace Mine
open PySem PySem.Calls PyProof.Rows PyProof.V PySem.SeqAt

theorem seq_data {cls : Value} {items : Array Value} {n : Nat} : ∃ it m, ({ cls := cls, data := .seq items n } : Obj).data = .seq it m := ⟨items, n, rfl⟩
mutual
theorem Rep.both {a : Nat → Int} {Z Z' : Addr → Prop} {h h' : Heap} (hk : ∀ b o, h.get? b = some o → ¬ Z b → (∃ it n, o.data = .seq it n) → h'.get? b = some o ∧ ¬ Z' b) : ∀ (t : T) (v : Value), Rep ⟨a, Z⟩ h t v → Rep ⟨a, Z'⟩ h' t v
  | .i z, v, x => x
  | .s p, v, x => x
  | .t l, v, ⟨b, items, e, ⟨n, hn⟩, r, z⟩ => ⟨b, items, e, ⟨n, (hk _ _ hn z seq_data).1⟩, Reps.both hk l _ r, (hk _ _ hn z seq_data).2⟩
  | .l l, v, ⟨b, items, e, ⟨n, hn⟩, r, z⟩ => ⟨b, items, e, ⟨n, (hk _ _ hn z seq_data).1⟩, Reps.both hk l _ r, (hk _ _ hn z seq_data).2⟩
theorem Reps.both {a : Nat → Int} {Z Z' : Addr → Prop} {h h' : Heap} (hk : ∀ b o, h.get? b = some o → ¬ Z b → (∃ it n, o.data = .seq it n) → h'.get? b = some o ∧ ¬ Z' b) : ∀ (l : List T) (vs : List Value), Reps ⟨a, Z⟩ h l vs → Reps ⟨a, Z'⟩ h' l vs
  | [], vs, x => x
  | t :: l, vs, ⟨v, r, e, x, y⟩ => ⟨v, r, e, Rep.both hk t v x, Reps.both hk l r y⟩
end

def setN : List X → Nat → X → List X
  | [], 0, x => [x]
  | [], n + 1, x => .u :: setN [] n x
  | _ :: r, 0, x => x :: r
  | y :: r, n + 1, x => y :: setN r n x
theorem nth_nil (i : Nat) : nth [] i = .u := by cases i <;> rfl
theorem nth_setN : ∀ (r : List X) (j : Nat) (x : X) (i : Nat), nth (setN r j x) i = if i = j then x else nth r i
  | [], 0, x, i => by cases i <;> simp [setN, nth]
  | [], j + 1, x, i => by
    cases i with
    | zero => simp [setN, nth]
    | succ i =>
      show nth (setN [] j x) i = _
      rw [nth_setN [] j x i, nth_nil, nth_nil]; simp
  | y :: r, 0, x, i => by cases i <;> simp [setN, nth]
  | y :: r, j + 1, x, i => by
    cases i with
    | zero => simp [setN, nth]
    | succ i =>
      show nth (setN r j x) i = _
      rw [nth_setN r j x i]; simp [nth]
def refX : X → Prop
  | .d _ => True
  | .k => True
  | _ => False
def adr : Value → Addr
  | .ref b => b
  | _ => 0
def isK : X → Bool
  | .k => true
  | _ => false
theorem isK_iff {x : X} : isK x = true ↔ x = .k := by cases x <;> simp [isK]

section
variable {prog : Program} {w : World}
structure FrS (c : Base prog w) (kb : Addr → Option Obj) (Z : Addr → Prop) (δ : Nat → Addr) (h : Heap) (env : Env) (G : List Str) (r : List X) : Prop where
  base : ∀ b o, b ≠ c.P → c.h₀.get? b = some o → kb b = some o
  live : ∀ b, Z b → ∃ o, kb b = some o
  keep : ∀ b o, kb b = some o → h.get? b = some o
  ptab : ∃ o, h.get? c.P = some o ∧ NotSeq o ∧ NotDC o ∧ c.T o
  loc : kb env.locals = none
  ns : ∃ m, h.Ns env.locals m ∧ ∀ i x, G[i]? = some x → nth r i ≠ .u → ∃ v, Holds h env m x v ∧ RepX prog w ⟨c.a, Z⟩ h (nth r i) v ∧ (refX (nth r i) → v = .ref (δ i))
  cell : ∀ n cc, env.cells.lookup n = some cc → kb cc = none ∧ ∃ v, h.IsCell cc v
  apart : ∀ n n' cc, env.cells.lookup n = some cc → env.cells.lookup n' = some cc → n = n'
  dict : ∀ i kv, nth r i = .d kv → kb (δ i) = none ∧ δ i ≠ env.locals
  inj : ∀ i j kv kv', i ≠ j → nth r i = .d kv → nth r j = .d kv' → δ i ≠ δ j
  dom : ∀ i kv, nth r i = .d kv → ∃ x, G[i]? = some x
  kp : kb c.P = none

variable {c : Base prog w}
theorem holds_mono {h h' : Heap} {env : Env} {m : Str → Option Value} {x : Str} {v : Value} (hs : Sub h h') (H : Holds h env m x v) : Holds h' env m x v := by
  rcases H with hv | ⟨hk, cc, h1, h2⟩
  · exact .inl hv
  · exact .inr ⟨hk, cc, h1, h2.keeps hs⟩
namespace FrS
variable {kb : Addr → Option Obj} {Z : Addr → Prop} {δ : Nat → Addr} {h h' : Heap} {env : Env} {G : List Str} {r : List X}
theorem mono (F : FrS c kb Z δ h env G r) (hs : Sub h h') : FrS c kb Z δ h' env G r where
  base := F.base
  live := F.live
  keep := fun b o e => hs _ _ (F.keep b o e)
  ptab := let ⟨o, e, x⟩ := F.ptab; ⟨o, hs _ _ e, x⟩
  loc := F.loc
  ns := let ⟨m, hn, hx⟩ := F.ns; ⟨m, hn.keeps hs, fun i x hi hu => let ⟨v, h1, h2, h3⟩ := hx i x hi hu; ⟨v, holds_mono hs h1, h2.mono hs, h3⟩⟩
  cell := fun n cc e => let ⟨h1, v, h2⟩ := F.cell n cc e; ⟨h1, v, h2.keeps hs⟩
  apart := F.apart
  dict := F.dict
  inj := F.inj
  dom := F.dom
  kp := F.kp
theorem toE (F : FrS c kb Z δ h env G r) : FrE c Z h env G r := let ⟨m, hn, hx⟩ := F.ns; ⟨m, hn, fun i x hi hu => let ⟨v, h1, h2, _⟩ := hx i x hi hu; ⟨v, h1, h2⟩⟩
theorem ext (F : FrS c kb Z δ h env G r) : Gd c h := ⟨fun b o hb e => F.keep b o (F.base b o hb e), F.ptab⟩
theorem liveh (F : FrS c kb Z δ h env G r) : Live Z h := fun b hb => let ⟨o, e⟩ := F.live b hb; ⟨o, F.keep b o e⟩
end FrS

/-- neither a dict nor a cell, and not the table: it stands -/
def Ndc (c : Base prog w) (g : Bool) (h h' : Heap) : Prop := ∀ b o, (g = true → b ≠ c.P) → NotDC o → h.get? b = some o → h'.get? b = some o
theorem Ndc.trans {g : Bool} {h h' h'' : Heap} (x : Ndc c g h h') (y : Ndc c g h' h'') : Ndc c g h h'' := fun b o hg hd e => y b o hg hd (x b o hg hd e)
theorem Ndc.sub {g : Bool} {h h' : Heap} (x : Sub h h') : Ndc c g h h' := fun b o _ _ e => x b o e
theorem notDC_of_seq {o : Obj} {items : Array Value} {n : Nat} (h : o.data = .seq items n) : NotDC o := ⟨fun _ _ e => (by rw [h] at e; cases e), fun _ e => (by rw [h] at e; cases e)⟩

theorem kv_kept {q : Vw} {h h' : Heap} (kp : Kept q h h') : ∀ {kv : List (List Int × T)} {xs : List (List Int × Addr × Value)}, KV q h kv xs → KV q h' kv xs
  | [], _, x => x
  | (k, t) :: l, _, ⟨b, v, r, e, q, x, y⟩ => ⟨b, v, r, e, Rep.mono' kp _ _ q, Rep.mono' kp _ _ x, kv_kept kp y⟩
theorem repX_same {q : Vw} {h h' : Heap} {a : Addr} {X : X} {u : Value} (hs : ∀ b o, b ≠ a → h.get? b = some o → h'.get? b = some o) (ha : ∀ o, h.get? a = some o → NotSeq o) (R : RepX prog w q h X u) (hne : ∀ kv, X = .d kv → u ≠ .ref a) :
    RepX prog w q h' X u := by
  have kp : Kept q h h' := fun b o _ ⟨items, n, hd⟩ e => hs b o (fun hb => by subst hb; exact ha o e _ _ hd) e
  cases X with
  | u => trivial
  | k => trivial
  | p t => exact Rep.mono' kp _ _ R
  | d kv =>
    obtain ⟨b, xs, rfl, ⟨o, es, ep, ho, hx, hd, he, hk, hn⟩, hkv, hsys⟩ := R
    have hb : b ≠ a := fun e => hne kv rfl (by rw [e])
    refine ⟨b, xs, rfl, ⟨o, es, ep, hs _ _ hb ho, hx, hd, he, fun y hy => ?_, hn⟩, ?_, hsys⟩
    · obtain ⟨o', items, n, h1, h2, h3, h4⟩ := hk y hy
      exact ⟨o', items, n, hs _ _ (fun e => by subst e; exact ha _ h1 _ _ h3) h1, h2, h3, h4⟩
    · exact kv_kept kp hkv

/-- storing under a name -/
theorem FrS.store {A : Around} {E : Value → Shared → Prop} {s : Shared} {kb : Addr → Option Obj} {Z : Addr → Prop} {δ : Nat → Addr} {env : Env} {sc : Scope} {G : List Str} {r : List X} {x : Str} {j : Nat} {v : Value} {V : X} {Q : Unit → Shared → Prop}
    (F : FrS c kb Z δ s.heap env G r) (hE : EnvI sc env) (hj : G[j]? = some x) (hu : ∀ i, G[i]? = some x → i = j) (hk : sc.names.lookup x = some .local ∨ sc.names.lookup x = some .cell) (hX : RepX prog w ⟨c.a, Z⟩ s.heap V v) (hnk : V = .k → v = .ref (adr v))
    (hd : ∀ kv, V = .d kv → ∃ b, v = .ref b ∧ kb b = none ∧ b ≠ env.locals ∧ ∀ i kv', i ≠ j → nth r i = .d kv' → δ i ≠ b)
    (h : ∀ h' tk, (∀ b o, NotDC o → s.heap.get? b = some o → h'.get? b = some o) → FrS c kb Z (fun i => if i = j then adr v else δ i) h' env G (setN r j V) → Q () { s with heap := h', toks := tk }) :
    wpAny (model prog w) A (storeName env x v) Q E s := by
  obtain ⟨m, hn, hx⟩ := F.ns
  have hkind : env.scope.kind = .function := hE.fn
  obtain ⟨oL, esL, epL, hoL, hdL, _⟩ := id hn
  have dict' : ∀ i kv, nth (setN r j V) i = .d kv → kb ((fun i => if i = j then adr v else δ i) i) = none ∧ (fun i => if i = j then adr v else δ i) i ≠ env.locals := fun i kv e => by
    rw [nth_setN] at e
    by_cases hi : i = j
    · subst hi
      rw [if_pos rfl] at e
      obtain ⟨b, rfl, h1, h2, _⟩ := hd kv e
      simp only [if_true]
      exact ⟨h1, h2⟩
    · rw [if_neg hi] at e
      simp only [if_neg hi]
      exact F.dict i kv e
  have inj' : ∀ i i' kv kv', i ≠ i' → nth (setN r j V) i = .d kv → nth (setN r j V) i' = .d kv' → (fun i => if i = j then adr v else δ i) i ≠ (fun i => if i = j then adr v else δ i) i' := fun i i' kv kv' hne e e' => by
    rw [nth_setN] at e e'
    by_cases hi : i = j
    · subst hi
      rw [if_pos rfl] at e
      rw [if_neg (Ne.symm hne)] at e'
      obtain ⟨b, rfl, _, _, h3⟩ := hd kv e
      simp only [if_true, if_neg (Ne.symm hne)]
      exact fun q => h3 i' kv' (Ne.symm hne) e' q.symm
    · rw [if_neg hi] at e
      by_cases hi' : i' = j
      · subst hi'
        rw [if_pos rfl] at e'
        obtain ⟨b, rfl, _, _, h3⟩ := hd kv' e'
        simp only [if_true, if_neg hi]
        exact h3 i kv hi e
      · rw [if_neg hi'] at e'
        simp only [if_neg hi, if_neg hi']
        exact F.inj i i' kv kv' hne e e'
  have dom' : ∀ i kv, nth (setN r j V) i = .d kv → ∃ x, G[i]? = some x := fun i kv e => by
    rw [nth_setN] at e
    by_cases hi : i = j
    · subst hi; exact ⟨x, hj⟩
    · rw [if_neg hi] at e; exact F.dom i kv e
  rcases hk with hk | hk
  · have hkl : env.kindOf x = some .local := (hE.kindOf x).trans hk
    refine wpAny_storeName_local hkl hn (fun h' hn' hs' => h h' _ (fun b o hdc e => hs'.extBut b o (fun hb => ?_) e) ?_) (by rw [hkind]; rfl)
    · subst hb; rw [hoL] at e; cases e; exact hdc.1 _ _ hdL
    have hs : ∀ b o, b ≠ env.locals → s.heap.get? b = some o → h'.get? b = some o := fun b o hb e => hs'.extBut b o hb e
    have hns : ∀ o, s.heap.get? env.locals = some o → NotSeq o := fun o e => by rw [hoL] at e; cases e; intro i n hq; rw [hdL] at hq; cases hq
    refine ⟨F.base, F.live, fun b o e => hs b o (fun hb => by subst hb; rw [F.loc] at e; cases e) (F.keep b o e), ?_, F.loc, ⟨_, hn', fun i y hi hu' => ?_⟩, fun n cc e => ?_, F.apart, dict', inj', dom', F.kp⟩
    · obtain ⟨o, e, h1, h2, h3⟩ := F.ptab
      refine ⟨o, hs _ _ (fun hb => ?_) e, h1, h2, h3⟩
      rw [← hb, e] at hoL; cases hoL; exact h2.1 _ _ hdL
    · rw [nth_setN] at hu' ⊢
      by_cases hij : i = j
      · subst hij
        rw [if_pos rfl] at hu' ⊢
        rw [hj] at hi; cases hi
        refine ⟨v, .inl ⟨hkl, by simp⟩, repX_same hs hns hX fun kv e => ?_, fun hr => ?_⟩
        · obtain ⟨b, rfl, _, h2, _⟩ := hd kv e
          intro q; injection q with q; exact h2 q
        · simp only [if_true]
          cases e : V with
          | u => rw [e] at hr; exact hr.elim
          | p t => rw [e] at hr; exact hr.elim
          | k => exact hnk e
          | d kv => obtain ⟨b, rfl, _⟩ := hd kv e; rfl
      · rw [if_neg hij] at hu' ⊢
        simp only [if_neg hij]
        have hyx : y ≠ x := fun e => hij (hu i (e ▸ hi))
        obtain ⟨u, h1, h2, h3⟩ := hx i y hi hu'
        refine ⟨u, ?_, repX_same hs hns h2 fun kv e => ?_, h3⟩
        · rcases h1 with ⟨a1, a2⟩ | ⟨a1, cc, a2, a3⟩
          · exact .inl ⟨a1, by simp [hyx, a2]⟩
          · obtain ⟨o, ho, hd'⟩ := a3
            refine .inr ⟨a1, cc, a2, o, hs _ _ (fun hb => ?_) ho, hd'⟩
            rw [← hb, ho] at hoL; cases hoL; rw [hd'] at hdL; cases hdL
        · rw [h3 (by rw [e]; trivial)]
          intro q; injection q with q; exact (F.dict i kv e).2 q
    · obtain ⟨h1, v', o, ho, hd'⟩ := F.cell n cc e
      refine ⟨h1, v', o, hs _ _ (fun hb => ?_) ho, hd'⟩
      rw [← hb, ho] at hoL; cases hoL; rw [hd'] at hdL; cases hdL
  · have hkl : env.kindOf x = some .cell := (hE.kindOf x).trans hk
    obtain ⟨cc, hcc⟩ := hE.cells x (.inl hk)
    obtain ⟨hc1, v₀, hc2⟩ := F.cell x cc hcc
    obtain ⟨oC, hoC, hdC⟩ := id hc2
    refine wpAny_storeName_cell hkind hkl hcc hc2 fun h' hc' hs' => h h' s.toks (fun b o hdc e => hs'.extBut b o (fun hb => ?_) e) ?_
    · subst hb; rw [hoC] at e; cases e; exact hdc.2 _ hdC
    have hs : ∀ b o, b ≠ cc → s.heap.get? b = some o → h'.get? b = some o := fun b o hb e => hs'.extBut b o hb e
    have hns : ∀ o, s.heap.get? cc = some o → NotSeq o := fun o e => by rw [hoC] at e; cases e; intro i n hq; rw [hdC] at hq; cases hq
    have nod : ∀ {b : Addr} {xs : List (List Int × Addr × Value)}, s.heap.DictOfH (tk prog w) b xs → b ≠ cc := fun D hb => by
      obtain ⟨o, es, ep, ho, _, hd', _⟩ := D
      rw [hb, hoC] at ho; cases ho; rw [hdC] at hd'; cases hd'
    refine ⟨F.base, F.live, fun b o e => hs b o (fun hb => by subst hb; rw [hc1] at e; cases e) (F.keep b o e), ?_, F.loc, ⟨m, ?_, fun i y hi hu' => ?_⟩, fun n cc' e => ?_, F.apart, dict', inj', dom', F.kp⟩
    · obtain ⟨o, e, h1, h2, h3⟩ := F.ptab
      refine ⟨o, hs _ _ (fun hb => ?_) e, h1, h2, h3⟩
      rw [← hb, e] at hoC; cases hoC; exact h2.2 _ hdC
    · exact hn.at' fun o e => hs _ o (fun hb => by rw [hb, hoC] at hoL; cases hoL; rw [hdC] at hdL; cases hdL) e
    · rw [nth_setN] at hu' ⊢
      by_cases hij : i = j
      · subst hij
        rw [if_pos rfl] at hu' ⊢
        rw [hj] at hi; cases hi
        refine ⟨v, .inr ⟨.inl hkl, cc, hcc, hc'⟩, repX_same hs hns hX fun kv e => ?_, fun hr => ?_⟩
        · rw [e] at hX
          obtain ⟨b, xs, rfl, hD, _⟩ := hX
          intro q; injection q with q; exact nod hD q
        · simp only [if_true]
          cases e : V with
          | u => rw [e] at hr; exact hr.elim
          | p t => rw [e] at hr; exact hr.elim
          | k => exact hnk e
          | d kv => obtain ⟨b, rfl, _⟩ := hd kv e; rfl
      · rw [if_neg hij] at hu' ⊢
        simp only [if_neg hij]
        have hyx : y ≠ x := fun e => hij (hu i (e ▸ hi))
        obtain ⟨u, h1, h2, h3⟩ := hx i y hi hu'
        refine ⟨u, ?_, repX_same hs hns h2 fun kv e => ?_, h3⟩
        · rcases h1 with ⟨a1, a2⟩ | ⟨a1, cc', a2, a3⟩
          · exact .inl ⟨a1, a2⟩
          · obtain ⟨o, ho, hd'⟩ := a3
            exact .inr ⟨a1, cc', a2, o, hs _ _ (fun hb => hyx (F.apart _ _ cc (hb ▸ a2) hcc)) ho, hd'⟩
        · rw [e] at h2
          obtain ⟨b, xs, rfl, hD, _⟩ := h2
          intro q; injection q with q; exact nod hD q
    · obtain ⟨h1, v', o, ho, hd'⟩ := F.cell n cc' e
      by_cases hb : cc' = cc
      · subst hb; exact ⟨h1, some v, hc'⟩
      · exact ⟨h1, v', o, hs _ _ hb ho, hd'⟩
end
end Mine

namespace Mine
open PySem PySem.Calls PyProof.Rows PyProof.V PySem.SeqAt

inductive Res where
  | n (r : List X)
  | ret (t : T)

section
variable {prog : Program} {w : World}
def Stp (c : Base prog w) (g : Bool) (s s' : Shared) : Prop :=
  s'.drawn = s.drawn ∧ s'.os = s.os ∧ (g = false → s'.gens = s.gens) ∧ (AllBare s.gens → AllBare s'.gens) ∧ Ndc c g s.heap s'.heap
variable {c : Base prog w}
theorem Stp.refl {g : Bool} (s : Shared) : Stp c g s s := ⟨rfl, rfl, fun _ => rfl, id, fun _ _ _ _ e => e⟩
theorem Stp.trans {g : Bool} {s s' s'' : Shared} (x : Stp c g s s') (y : Stp c g s' s'') : Stp c g s s'' :=
  ⟨y.1.trans x.1, y.2.1.trans x.2.1, fun h => (y.2.2.1 h).trans (x.2.2.1 h), fun h => y.2.2.2.1 (x.2.2.2.1 h), x.2.2.2.2.trans y.2.2.2.2⟩
theorem Stp.kp {g : Bool} {s s' : Shared} (x : Kp s s') : Stp c g s s' := by
  obtain ⟨h', tk, rfl, hs⟩ := x
  exact ⟨rfl, rfl, fun _ => rfl, id, .sub hs⟩
theorem Stp.heap {g : Bool} {s : Shared} {h' : Heap} {tk : Nat} (x : Ndc c g s.heap h') : Stp c g s { s with heap := h', toks := tk } := ⟨rfl, rfl, fun _ => rfl, id, x⟩

def Post (c : Base prog w) (g : Bool) (kb : Addr → Option Obj) (Z : Addr → Prop) (δ : Nat → Addr) (env : Env) (G : List Str) (r : List X) (res : Res) (s : Shared) (fl : Flow) (s' : Shared) : Prop := Stp c g s s' ∧ match res with
  | .n r' => fl = .next ∧ ∃ δ', FrS c kb Z δ' s'.heap env G r' ∧ ∀ i, nth r i = .k → nth r' i = .k ∧ δ' i = δ i
  | .ret t => ∃ v, fl = .ret v ∧ Rep ⟨c.a, Z⟩ s'.heap t v ∧ ∀ b o, kb b = some o → s'.heap.get? b = some o

structure St (c : Base prog w) (g : Bool) (sc : Scope) (G : List Str) (k : Nat) (st : Stmt) (f : List X → Option Res) : Prop where
  go : ∀ (A : Around) (env : Env) (s : Shared) (r : List X) (res : Res) (kb : Addr → Option Obj) (Z : Addr → Prop) (δ : Nat → Addr) (E : Value → Shared → Prop), GA k A → EnvI sc env → FrS c kb Z δ s.heap env G r → f r = some res →
    wpAny (model prog w) A (exec st env) (Post c g kb Z δ env G r res s) E s
structure SS (c : Base prog w) (g : Bool) (sc : Scope) (G : List Str) (k : Nat) (st : List Stmt) (f : List X → Option Res) : Prop where
  go : ∀ (A : Around) (env : Env) (s : Shared) (r : List X) (res : Res) (kb : Addr → Option Obj) (Z : Addr → Prop) (δ : Nat → Addr) (E : Value → Shared → Prop), GA k A → EnvI sc env → FrS c kb Z δ s.heap env G r → f r = some res →
    wpAny (model prog w) A (execs st env) (Post c g kb Z δ env G r res s) E s

theorem Post.from {g : Bool} {kb : Addr → Option Obj} {Z : Addr → Prop} {δ δ' : Nat → Addr} {env : Env} {G : List Str} {r r' : List X} {res : Res} {s s' s'' : Shared} {fl : Flow} (x : Stp c g s s') (hk : ∀ i, nth r i = .k → nth r' i = .k ∧ δ' i = δ i)
    (y : Post c g kb Z δ' env G r' res s' fl s'') : Post c g kb Z δ env G r res s fl s'' := by
  refine ⟨x.trans y.1, ?_⟩
  have y2 := y.2
  cases res with
  | n r'' =>
    obtain ⟨h1, δ'', h2, h3⟩ := y2
    exact ⟨h1, δ'', h2, fun i hi => ⟨(h3 i (hk i hi).1).1, (h3 i (hk i hi).1).2.trans (hk i hi).2⟩⟩
  | ret t => exact y2

theorem SS_nil {g : Bool} {sc : Scope} {G : List Str} {k : Nat} : SS c g sc G k [] (fun r => some (.n r)) := by
  refine ⟨fun A env s r res kb Z δ E hA hE hF ht => ?_⟩
  cases ht
  exact wpAny_execs_nil ⟨Stp.refl s, rfl, δ, hF, fun i hi => ⟨hi, rfl⟩⟩
theorem SS_cons {g : Bool} {sc : Scope} {G : List Str} {k : Nat} {st : Stmt} {rest : List Stmt} {f h : List X → Option Res} (h₁ : St c g sc G k st f) (h₂ : SS c g sc G k rest h) :
    SS c g sc G k (st :: rest) (fun r => ob (f r) fun res => match res with | .n r' => h r' | .ret t => some (.ret t)) := by
  refine ⟨fun A env s r res kb Z δ E hA hE hF ht => ?_⟩
  obtain ⟨res₁, e1, ht⟩ := ob_some ht
  refine wpAny_execs_cons (wpAny_mono (h₁.go A env s r res₁ kb Z δ E hA hE hF e1) (fun fl s₁ p => ?_) fun _ _ y => y)
  cases res₁ with
  | n r' =>
    obtain ⟨q1, rfl, δ', q2, q3⟩ := p
    exact wpAny_mono (h₂.go A env s₁ r' res kb Z δ' E hA hE q2 ht) (fun fl s₂ p₂ => Post.from q1 q3 p₂) fun _ _ y => y
  | ret t =>
    cases ht
    have p' := p
    obtain ⟨q1, v, rfl, q2⟩ := p
    exact p'

/-- one name bound anew: the frame behind it -/
theorem post_store {A : Around} {E : Value → Shared → Prop} {g : Bool} {s s₁ : Shared} {kb : Addr → Option Obj} {Z : Addr → Prop} {δ : Nat → Addr} {env : Env} {sc : Scope} {G : List Str} {r : List X} {x : Str} {j : Nat} {v : Value} {V : X}
    (F : FrS c kb Z δ s₁.heap env G r) (hE : EnvI sc env) (hj : G[j]? = some x) (hu : ∀ i, G[i]? = some x → i = j) (hk : sc.names.lookup x = some .local ∨ sc.names.lookup x = some .cell) (hX : RepX prog w ⟨c.a, Z⟩ s₁.heap V v) (hnk : V = .k → v = .ref (adr v)) (hjk : isK (nth r j) = false)
    (hd : ∀ kv, V = .d kv → ∃ b, v = .ref b ∧ kb b = none ∧ b ≠ env.locals ∧ ∀ i kv', i ≠ j → nth r i = .d kv' → δ i ≠ b) (hs : Stp c g s s₁) {Q : Unit → Shared → Prop}
    (hQ : ∀ s₂, Post c g kb Z δ env G r (.n (setN r j V)) s .next s₂ → Q () s₂) :
    wpAny (model prog w) A (storeName env x v) Q E s₁ := by
  refine F.store hE hj hu hk hX hnk hd fun h' tk hn F' => hQ _ ⟨hs.trans (.heap fun b o _ hdc e => hn b o hdc e), rfl, _, F', fun i hi => ?_⟩
  have hij : i ≠ j := fun e => by subst e; rw [hi] at hjk; cases hjk
  rw [nth_setN]
  simp only [if_neg hij]
  exact ⟨hi, trivial⟩

/-- where a name is stored -/
structure NameI (sc : Scope) (G : List Str) (x : Str) (j : Nat) : Prop where
  at_ : G[j]? = some x
  one : ∀ i, G[i]? = some x → i = j
  kind : sc.names.lookup x = some .local ∨ sc.names.lookup x = some .cell

def put (j : Nat) (r : List X) (V : X) : Option (List X) := match isK (nth r j) with
  | true => none
  | false => some (setN r j V)
theorem put_some {j : Nat} {r r' : List X} {V : X} (h : put j r V = some r') : isK (nth r j) = false ∧ r' = setN r j V := by
  unfold put at h
  cases e : isK (nth r j) with
  | true => rw [e] at h; cases h
  | false => rw [e] at h; cases h; exact ⟨rfl, rfl⟩

theorem St_assign {g : Bool} {sc : Scope} {G : List Str} {k j : Nat} {x : Str} {e : Expr} {f : List X → Option T} {px pos : Pos} (h : Ev c sc G k e f) (hn : NameI sc G x j) (hs : ∀ env, EnvI sc env → swapsWith e (some (.Name x px)) pos.line env = pure false) :
    St c g sc G k (.Assign [.Name x px] e pos) (fun r => ob (f r) fun t => ob (put j r (.p t)) fun r' => some (.n r')) := by
  refine ⟨fun A env s r res kb Z δ E hA hE hF ht => ?_⟩
  obtain ⟨t, e1, ht⟩ := ob_some ht
  obtain ⟨r', e2, ht⟩ := ob_some ht
  cases ht
  obtain ⟨hk, rfl⟩ := put_some e2
  refine wpAny_Assign_Name (wpAny_mono (h.go A env s r t E Z hA hE hF.ext hF.liveh hF.toE e1) (fun v s₁ ⟨k₁, r₁⟩ => ?_) fun _ _ y => y) (hs env hE)
  exact post_store (c := c) (hF.mono k₁.sub) hE hn.at_ hn.one hn.kind (V := .p t) r₁ (fun h => nomatch h) hk (fun kv h => nomatch h) (.kp k₁) fun s₂ p => p

def tAug (op : Operator) : Option (T → T → Option T) := match op with
  | .Add => some tAdd
  | _ => none
theorem iadd {k : Nat} {A : Around} {s : Shared} {t₁ t₂ t : T} {v₁ v₂ : Value} {E : Value → Shared → Prop} {Z : Addr → Prop} (r₁ : Rep ⟨c.a, Z⟩ s.heap t₁ v₁) (r₂ : Rep ⟨c.a, Z⟩ s.heap t₂ v₂) (ht : tAdd t₁ t₂ = some t) :
    wpAny (model prog w) A (inplaceOp .Add v₁ v₂) (fun v s' => Kp s s' ∧ Rep ⟨c.a, Z⟩ s'.heap t v) E s := by
  have num : ∀ {p q : Poly}, toP t₁ = some p → toP t₂ = some q → t = .s (padd p q) → wpAny (model prog w) A (inplaceOp .Add v₁ v₂) (fun v s' => Kp s s' ∧ Rep ⟨c.a, Z⟩ s'.heap t v) E s := by
    rintro p q hp hq rfl
    obtain ⟨k₁, rfl⟩ := toP_rep hp r₁
    obtain ⟨k₂, rfl⟩ := toP_rep hq r₂
    exact PyProof.Rows.iadd_int ⟨Kp.tok _ _, _, by rw [padd_den]⟩
  cases t₁ with
  | i x => cases t₂ with
    | i y =>
      cases ht
      obtain ⟨k₁, rfl⟩ := r₁
      obtain ⟨k₂, rfl⟩ := r₂
      exact PyProof.Rows.iadd_int ⟨Kp.tok _ _, _, rfl⟩
    | s q => cases ht; exact num rfl rfl rfl
    | t r => cases ht
    | l r => cases ht
  | s p => cases t₂ with
    | i y => cases ht; exact num rfl rfl rfl
    | s q => cases ht; exact num rfl rfl rfl
    | t r => cases ht
    | l r => cases ht
  | t l => cases t₂ <;> cases ht
  | l l => cases t₂ <;> cases ht

theorem St_aug {g : Bool} {sc : Scope} {G : List Str} {k j : Nat} {x : Str} {e : Expr} {f : List X → Option T} {px pos : Pos} (h : Ev c sc G k e f) (hn : NameI sc G x j) :
    St c g sc G k (.AugAssign (.Name x px) .Add e pos) (fun r => ob (gp r j) fun t₀ => ob (f r) fun t => ob (tAdd t₀ t) fun t' => ob (put j r (.p t')) fun r' => some (.n r')) := by
  refine ⟨fun A env s r res kb Z δ E hA hE hF ht => ?_⟩
  obtain ⟨t₀, e0, ht⟩ := ob_some ht
  obtain ⟨t, e1, ht⟩ := ob_some ht
  obtain ⟨t', e2, ht⟩ := ob_some ht
  obtain ⟨r', e3, ht⟩ := ob_some ht
  cases ht
  obtain ⟨hk, rfl⟩ := put_some e3
  obtain ⟨m, hnm, hFx⟩ := hF.ns
  unfold gp at e0
  cases q : nth r j with
  | u => rw [q] at e0; cases e0
  | d kv => rw [q] at e0; cases e0
  | k => rw [q] at e0; cases e0
  | p t₀' =>
    rw [q] at e0; cases e0
    obtain ⟨v, hv, hr, _⟩ := hFx j x hn.at_ (by rw [q]; exact fun h => nomatch h)
    rw [q] at hr
    have load : ∀ {Q : Value → Shared → Prop}, Q v s → wpAny (model prog w) A (loadName env x) Q E s := fun hQ => by
      rcases hv with ⟨hk, hm⟩ | ⟨hk', cc, h1, h2⟩
      · exact wpAny_loadName_local hE.fn hk hnm hm hQ
      · rcases hn.kind with hk | hk
        · rw [hE.kindOf, hk] at hk'; rcases hk' with h | h <;> cases h
        · exact wpAny_loadName_cell hE.fn ((hE.kindOf x).trans hk) h1 h2 hQ
    refine wpAny_AugAssign_Name (load (wpAny_mono (h.go A env s r t E Z hA hE hF.ext hF.liveh hF.toE e1) (fun u s₁ ⟨k₁, r₁⟩ => ?_) fun _ _ y => y))
    refine wpAny_mono (iadd (c := c) (k := k) (Rep.mono k₁.sub hr) r₁ e2) (fun u' s₂ ⟨k₂, r₂⟩ => ?_) fun _ _ y => y
    exact post_store (c := c) (hF.mono (k₁.trans k₂).sub) hE hn.at_ hn.one hn.kind (V := .p t') r₂ (fun h => nomatch h) hk (fun kv h => nomatch h) (.kp (k₁.trans k₂)) fun s₂ p => p

theorem St_if {g : Bool} {sc : Scope} {G : List Str} {k : Nat} {e : Expr} {b₁ b₂ : List Stmt} {f : List X → Option Bool} {f₁ f₂ : List X → Option Res} {pos : Pos} (h : EvB c sc G k e f) (h₁ : SS c g sc G k b₁ f₁) (h₂ : SS c g sc G k b₂ f₂) :
    St c g sc G k (.If e b₁ b₂ pos) (fun r => ob (f r) fun b => match b with | true => f₁ r | false => f₂ r) := by
  refine ⟨fun A env s r res kb Z δ E hA hE hF ht => ?_⟩
  obtain ⟨b, e1, ht⟩ := ob_some ht
  refine wpAny_If (wpAny_mono (h.go A env s r b E Z hA hE hF.ext hF.liveh hF.toE e1) (fun v s₁ ⟨hv, k₁⟩ => ?_) fun _ _ y => y)
  subst hv
  cases v with
  | true => exact wpAny_mono (h₁.go A env s₁ r res kb Z δ E hA hE (hF.mono k₁.sub) ht) (fun fl s₂ p => Post.from (.kp k₁) (fun i hi => ⟨hi, rfl⟩) p) fun _ _ y => y
  | false => exact wpAny_mono (h₂.go A env s₁ r res kb Z δ E hA hE (hF.mono k₁.sub) ht) (fun fl s₂ p => Post.from (.kp k₁) (fun i hi => ⟨hi, rfl⟩) p) fun _ _ y => y

theorem St_ret {g : Bool} {sc : Scope} {G : List Str} {k : Nat} {e : Expr} {f : List X → Option T} {pos : Pos} (h : Ev c sc G k e f) :
    St c g sc G k (.Return (some e) pos) (fun r => ob (f r) fun t => some (.ret t)) := by
  refine ⟨fun A env s r res kb Z δ E hA hE hF ht => ?_⟩
  obtain ⟨t, e1, ht⟩ := ob_some ht
  cases ht
  exact wpAny_Return_some (wpAny_mono (h.go A env s r t E Z hA hE hF.ext hF.liveh hF.toE e1) (fun v s₁ ⟨k₁, r₁⟩ => ⟨.kp k₁, v, rfl, r₁, fun b o e => k₁.sub b o (hF.keep b o e)⟩) fun _ _ y => y)

/-- a change that leaves rows, dicts, cells and the base -/
theorem FrS.chg {kb : Addr → Option Obj} {Z : Addr → Prop} {δ : Nat → Addr} {h h' : Heap} {env : Env} {G : List Str} {r : List X} (F : FrS c kb Z δ h env G r)
    (hs : ∀ b o, h.get? b = some o → ((∃ items n, o.data = .seq items n) ∨ ¬ NotDC o ∨ (kb b).isSome = true ∨ b = c.P) → h'.get? b = some o) : FrS c kb Z δ h' env G r where
  base := F.base
  live := F.live
  keep := fun b o e => hs _ _ (F.keep b o e) (.inr (.inr (.inl (by rw [e]; rfl))))
  ptab := let ⟨o, e, x⟩ := F.ptab; ⟨o, hs _ _ e (.inr (.inr (.inr rfl))), x⟩
  loc := F.loc
  ns := by
    obtain ⟨m, hn, hx⟩ := F.ns
    obtain ⟨oL, es, ep, hoL, hd, r1, r2⟩ := id hn
    have cells : ∀ {cc v}, h.IsCell cc v → h'.IsCell cc v := fun ⟨o, ho, hd⟩ => ⟨o, hs _ _ ho (.inr (.inl fun q => q.2 _ hd)), hd⟩
    refine ⟨m, ⟨oL, es, ep, hs _ _ hoL (.inr (.inl fun q => q.1 _ _ hd)), hd, r1, r2⟩, fun i x hi hu => ?_⟩
    obtain ⟨v, h1, h2, h3⟩ := hx i x hi hu
    refine ⟨v, ?_, ?_, h3⟩
    · rcases h1 with hv | ⟨hk, cc, a1, a2⟩
      · exact .inl hv
      · exact .inr ⟨hk, cc, a1, cells a2⟩
    · have kp : Kept ⟨c.a, Z⟩ h h' := fun b o _ hq e => hs b o e (.inl hq)
      cases e : nth r i with
      | u => trivial
      | k => trivial
      | p t => rw [e] at h2; exact Rep.mono' kp _ _ h2
      | d kv =>
        rw [e] at h2
        obtain ⟨b, xs, rfl, ⟨o, es, ep, ho, hxx, hd, he, hk, hn⟩, hkv, hsys⟩ := h2
        refine ⟨b, xs, rfl, ⟨o, es, ep, hs _ _ ho (.inr (.inl fun q => q.1 _ _ hd)), hxx, hd, he, fun y hy => ?_, hn⟩, kv_kept kp hkv, hsys⟩
        obtain ⟨o', items, n, a1, a2, a3, a4⟩ := hk y hy
        exact ⟨o', items, n, hs _ _ a1 (.inl ⟨_, _, a3⟩), a2, a3, a4⟩
  cell := fun n cc e => let ⟨h1, v, o, ho, hd⟩ := F.cell n cc e; ⟨h1, v, o, hs _ _ ho (.inr (.inl fun q => q.2 _ hd)), hd⟩
  apart := F.apart
  dict := F.dict
  inj := F.inj
  dom := F.dom
  kp := F.kp
end
end Mine

namespace Mine
open PySem PySem.Calls PyProof.Rows PyProof.V PySem.SeqAt

section
variable {prog : Program} {w : World} {c : Base prog w}

/-- a place that takes a tree -/
structure Tgt (c : Base prog w) (sc : Scope) (G : List Str) (k : Nat) (target : Expr) (F : List X → T → Option (List X)) : Prop where
  go : ∀ (A : Around) (env : Env) (s : Shared) (r r' : List X) (t : T) (v : Value) (kb : Addr → Option Obj) (Z : Addr → Prop) (δ : Nat → Addr) (E : Value → Shared → Prop), GA k A → EnvI sc env → FrS c kb Z δ s.heap env G r → Rep ⟨c.a, Z⟩ s.heap t v → F r t = some r' →
    wpAny (model prog w) A (assign target env v) (fun _ s' => ∃ h' tk δ', s' = { s with heap := h', toks := tk } ∧ (∀ b o, NotDC o → s.heap.get? b = some o → h'.get? b = some o) ∧ FrS c kb Z δ' h' env G r' ∧ ∀ i, nth r i = .k → nth r' i = .k ∧ δ' i = δ i) E s

theorem tgt_store {A : Around} {E : Value → Shared → Prop} {s : Shared} {kb : Addr → Option Obj} {Z : Addr → Prop} {δ : Nat → Addr} {env : Env} {sc : Scope} {G : List Str} {r r' : List X} {x : Str} {j : Nat} {v : Value} {t : T}
    (F : FrS c kb Z δ s.heap env G r) (hE : EnvI sc env) (hn : NameI sc G x j) (hX : Rep ⟨c.a, Z⟩ s.heap t v) (hp : put j r (.p t) = some r') :
    wpAny (model prog w) A (storeName env x v) (fun _ s' => ∃ h' tk δ', s' = { s with heap := h', toks := tk } ∧ (∀ b o, NotDC o → s.heap.get? b = some o → h'.get? b = some o) ∧ FrS c kb Z δ' h' env G r' ∧ ∀ i, nth r i = .k → nth r' i = .k ∧ δ' i = δ i) E s := by
  obtain ⟨hjk, rfl⟩ := put_some hp
  refine F.store hE hn.at_ hn.one hn.kind (V := .p t) hX (fun h => nomatch h) (fun kv h => nomatch h) fun h' tk hn' F' => ⟨h', tk, _, rfl, hn', F', fun i hi => ?_⟩
  have hij : i ≠ j := fun e => by subst e; rw [hi] at hjk; cases hjk
  rw [nth_setN]
  simp only [if_neg hij]
  exact ⟨hi, trivial⟩

theorem Tgt_name {sc : Scope} {G : List Str} {k j : Nat} {x : Str} {p : Pos} (hn : NameI sc G x j) : Tgt c sc G k (.Name x p) (fun r t => put j r (.p t)) := by
  refine ⟨fun A env s r r' t v kb Z δ E hA hE hF hr ht => ?_⟩
  exact wpAny_assign_Name (tgt_store (c := c) hF hE hn hr ht)

def putAll : List Nat → List X → List T → Option (List X)
  | [], r, [] => some r
  | j :: js, r, t :: ts => ob (put j r (.p t)) fun r' => putAll js r' ts
  | _, _, _ => none

inductive NamesI (sc : Scope) (G : List Str) : List Expr → List Nat → Prop
  | nil : NamesI sc G [] []
  | cons {x : Str} {p : Pos} {j : Nat} {es : List Expr} {js : List Nat} : NameI sc G x j → NamesI sc G es js → NamesI sc G (.Name x p :: es) (j :: js)
theorem NamesI.len {sc : Scope} {G : List Str} {es : List Expr} {js : List Nat} (h : NamesI sc G es js) (env : Env) : (assignEach es env).length = js.length ∧ (assignEach es env).findIdx? (·.1) = none := by
  induction h with
  | nil => exact ⟨rfl, rfl⟩
  | cons hn _ ih =>
    rename_i x p j es js _
    have e : assignEach (.Name x p :: es) env = (false, assign (.Name x p) env) :: assignEach es env := rfl
    rw [e]
    refine ⟨by simp [ih.1], ?_⟩
    rw [List.findIdx?_cons]
    simp [ih.2]
theorem names_assign {sc : Scope} {G : List Str} {es : List Expr} {js : List Nat} (h : NamesI sc G es js) : ∀ {A : Around} {E : Value → Shared → Prop} {s : Shared} {kb : Addr → Option Obj} {Z : Addr → Prop} {δ : Nat → Addr} {env : Env} {r r' : List X} {ts : List T} {vs : List Value},
    EnvI sc env → FrS c kb Z δ s.heap env G r → Reps ⟨c.a, Z⟩ s.heap ts vs → putAll js r ts = some r' →
    wpAny (model prog w) A (assignInOrder ((assignEach es env).map (·.2)) vs) (fun _ s' => ∃ h' tk δ', s' = { s with heap := h', toks := tk } ∧ (∀ b o, NotDC o → s.heap.get? b = some o → h'.get? b = some o) ∧ FrS c kb Z δ' h' env G r' ∧ ∀ i, nth r i = .k → nth r' i = .k ∧ δ' i = δ i) E s := by
  induction h with
  | nil =>
    intro A E s kb Z δ env r r' ts vs hE hF hr hp
    cases ts with
    | cons t ts => cases hp
    | nil =>
      cases hp
      exact wpAny_pure ⟨s.heap, s.toks, δ, rfl, fun _ _ _ e => e, hF, fun i hi => ⟨hi, rfl⟩⟩
  | cons hn _ ih =>
    rename_i x p j es js _
    intro A E s kb Z δ env r r' ts vs hE hF hr hp
    cases ts with
    | nil => cases hp
    | cons t ts =>
      obtain ⟨r₁, e1, hp⟩ := ob_some hp
      obtain ⟨v, vr, rfl, hv, hvr⟩ := hr
      have e : assignEach (.Name x p :: es) env = (false, assign (.Name x p) env) :: assignEach es env := rfl
      rw [e]
      show wpAny _ A (do holding vr (assign (.Name x p) env v); assignInOrder ((assignEach es env).map (·.2)) vr) _ E s
      refine wpAny_bind (wpAny_holding (wpAny_assign_Name (wpAny_mono (tgt_store (c := c) hF hE hn hv e1) (fun _ s₁ h₁ => ?_) fun _ _ y => y)))
      obtain ⟨h', tk, δ', rfl, hnd, F', hk⟩ := h₁
      have kp : Kept ⟨c.a, Z⟩ s.heap h' := fun b o _ ⟨items, n, hd⟩ e => hnd b o (notDC_of_seq hd) e
      refine wpAny_mono (ih (s := { s with heap := h', toks := tk }) hE F' (Reps.mono' kp _ _ hvr) hp) (fun _ s₂ h₂ => ?_) fun _ _ y => y
      obtain ⟨h'', tk', δ'', rfl, hnd', F'', hk'⟩ := h₂
      exact ⟨h'', tk', δ'', rfl, fun b o hd e => hnd' b o hd (hnd b o hd e), F'', fun i hi => ⟨(hk' i (hk i hi).1).1, (hk' i (hk i hi).1).2.trans (hk i hi).2⟩⟩

theorem Tgt_tuple {sc : Scope} {G : List Str} {k n : Nat} {es : List Expr} {js : List Nat} {p : Pos} (hn : NamesI sc G es js) :
    Tgt c sc G k (.Tuple es n p) (fun r t => match t with
      | .t ts => putAll js r ts
      | _ => none) := by
  refine ⟨fun A env s r r' t v kb Z δ E hA hE hF hr ht => ?_⟩
  cases t with
  | i z => cases ht
  | s p => cases ht
  | l l => cases ht
  | t ts =>
    obtain ⟨b, items, rfl, hb, q, y⟩ := hr
    have hlen := q.length
    rw [Array.length_toList] at hlen
    have hjs : ∀ {js : List Nat} {r r' : List X} {ts : List T}, putAll js r ts = some r' → js.length = ts.length := by
      intro js
      induction js with
      | nil => intro r r' ts h; cases ts with | nil => rfl | cons t ts => cases h
      | cons j js ih =>
        intro r r' ts h
        cases ts with
        | nil => cases h
        | cons t ts => obtain ⟨r₁, _, h⟩ := ob_some h; simp [ih h]
    obtain ⟨l1, l2⟩ := hn.len env
    refine wpAny_assign_Tuple hA.handled hb.isTuple (by rw [l1, hjs ht, hlen]) l2 fun h' hx => ?_
    have hsub : Sub s.heap h' := fun b' o e => hx b' o (Nat.ne_of_lt (Heap.lt_size e)) e
    refine wpAny_mono (names_assign (c := c) hn (s := { s with heap := h' }) hE (hF.mono hsub) (q.mono hsub) ht) (fun _ s₁ h₁ => ?_) fun _ _ y => y
    obtain ⟨h'', tk', δ'', rfl, hnd', F'', hk'⟩ := h₁
    exact ⟨h'', tk', δ'', rfl, fun b o hd e => hnd' b o hd (hsub b o e), F'', hk'⟩

theorem letGo_of {A : Around} {E : Value → Shared → Prop} {s : Shared} {I : Addr} {o : Obj} {n : String} {vs : Array Value} {target : Expr} {v : Value} {Q : Unit → Shared → Prop} (ho : s.heap.get? I = some o) (hc : o.cls = .type n) (hd : o.data = .fields vs) (hn : owned n = false) (h : Q () s) :
    wpAny (model prog w) A (letOwnedTupleGo target (.ref I) v) Q E s := by
  unfold letOwnedTupleGo
  cases target <;> first
    | exact wpAny_pure h
    | (cases v with
       | ref a =>
         refine wpAny_bind (wpAny_load ho ?_)
         rw [hc, hd]
         show wpAny _ A (if (owned n && _) = true then _ else _) Q E s
         rw [hn, Bool.false_and, if_neg Bool.false_ne_true]
         exact wpAny_pure h
       | _ => exact wpAny_pure h)

/-! loops -/
def loopG (tg : List X → T → Option (List X)) (fb : List X → Option Res) : List T → List X → Option Res
  | [], r => some (.n r)
  | t :: ts, r => ob (tg r t) fun r₁ => ob (fb r₁) fun res => match res with
    | .n r' => loopG tg fb ts r'
    | .ret t => some (.ret t)

theorem St_for {g : Bool} {sc : Scope} {G : List Str} {k : Nat} {target iter : Expr} {body : List Stmt} {fi : List X → Option (List T)} {tg : List X → T → Option (List X)} {fb : List X → Option Res} {pos : Pos}
    (hi : EvIt c sc G k iter fi) (htg : Tgt c sc G k target tg) (hb : SS c g sc G k body fb) (hs : ∀ (env : Env) (x : Value), foldedSetIterable iter env x = pure x) :
    St c g sc G k (.For target iter body [] pos) (fun r => ob (fi r) fun ts => loopG tg fb ts r) := by
  refine ⟨fun A env s r res kb Z δ E hA hE hF ht => ?_⟩
  obtain ⟨ts, e1, ht⟩ := ob_some ht
  refine wpAny_For (wpAny_mono (hi.go A env s r ts E Z hA hE hF.ext hF.liveh hF.toE e1) (fun xv s₁ h₁ => wpAny_mono h₁ (fun it s₂ h₂ => ?_) fun _ _ y => y) fun _ _ y => y) (hs env)
  obtain ⟨I, fp, wr, P, Si, rfl, k₂, W⟩ := h₂
  have W' := W.walks A hA.handled
  have hwr : ∀ b ∈ wr, b ∈ fp := W'.sub
  obtain ⟨oP, hoP, hPs, hPd, hPT⟩ := hF.ptab
  have hPw : c.P ∉ wr := fun hm => by rw [W.new _ hm] at hoP; cases hoP
  have hkw : ∀ b ∈ wr, kb b = none := fun b hm => by
    cases e : kb b with
    | none => rfl
    | some o => have := W.new b hm; rw [hF.keep b o e] at this; cases this
  have F₂ := hF.mono k₂.sub
  refine codeAny_forLoop_any (fun n s' => ∃ i r' δ', n = ts.length + 1 - i ∧ i ≤ ts.length ∧ Stp c g s s' ∧ (∀ b o, b ∉ wr → (g = true → b ≠ c.P) → NotDC o → s₂.heap.get? b = some o → s'.heap.get? b = some o) ∧ Si i s'.heap ∧
      FrS c kb Z δ' s'.heap env G r' ∧ (∀ i, nth r i = .k → nth r' i = .k ∧ δ' i = δ i) ∧ loopG tg fb (ts.drop i) r' = some res ∧ (∀ j v t, P j v → ts[j]? = some t → Rep ⟨c.a, Z⟩ s'.heap t v)) ?_ (ts.length + 1)
    ⟨0, r, δ, rfl, Nat.zero_le _, .kp k₂, fun _ _ _ _ _ e => e, W.start, F₂, fun i hi => ⟨hi, rfl⟩, ht, W.item⟩
  rintro n s' ⟨i, r', δ', rfl, hi, hst, hnd, hSi, F', hk, hl, hit⟩
  -- the walk moves the iterator alone
  have move : ∀ {h₁ : Heap} {i : Nat}, Si i s'.heap → (∀ b o, b ∉ wr → s'.heap.get? b = some o → h₁.get? b = some o) → FrS c kb Z δ' h₁ env G r' := fun hSi hk₁ => F'.chg fun b o e q => hk₁ b o (fun hm => by
    obtain ⟨o', ho', n1, n2⟩ := W.ns _ _ hSi b hm
    rw [e] at ho'; cases ho'
    rcases q with ⟨items, n, hd⟩ | q | q | q
    · exact n1 _ _ hd
    · exact q n2
    · rw [hkw b hm] at q; cases q
    · exact hPw (q ▸ hm)) e
  have stpW : ∀ {h₁ : Heap} {tk : Nat}, (∀ b o, b ∉ wr → s'.heap.get? b = some o → h₁.get? b = some o) → Stp c g s { s' with heap := h₁, toks := tk } := fun hk₁ => by
    obtain ⟨a1, a2, a3, a4, a5⟩ := hst
    refine ⟨a1, a2, a3, a4, fun b o hg hd e => ?_⟩
    have hbw : b ∉ wr := fun hm => by rw [W.new b hm] at e; cases e
    exact hk₁ b o hbw (a5 b o hg hd e)
  by_cases hlt : i < ts.length
  · refine W'.item i _ _ _ hlt hSi fun v h₁ tk₁ hPv hst₁ hk₁ => ?_
    have hgt : ts[i]? = some ts[i] := by simp [hlt]
    rw [List.drop_eq_getElem_cons hlt] at hl
    obtain ⟨r₁, er, hl⟩ := ob_some hl
    obtain ⟨res₁, eb, hl⟩ := ob_some hl
    obtain ⟨oI, nI, vsI, c1, c2, c3, c4⟩ := W.cl _ _ hst₁
    refine letGo_of (s := { s' with heap := h₁, toks := tk₁ }) c1 c2 c3 c4 ?_
    have F₁ := move hSi hk₁
    have kp₁ : Kept ⟨c.a, Z⟩ s'.heap h₁ := kept_iter (W.ns _ _ hSi) hk₁
    refine wpAny_mono (htg.go A env { s' with heap := h₁, toks := tk₁ } r' r₁ ts[i] v kb Z δ' _ hA hE F₁ (Rep.mono' kp₁ _ _ (hit i v _ hPv hgt)) er) (fun _ s₃ h₃ => ?_) fun _ _ y => y
    obtain ⟨h₃, tk₃, δ₃, rfl, hnd₃, F₃, hk₃⟩ := h₃
    replace hnd₃ : ∀ b o, NotDC o → h₁.get? b = some o → h₃.get? b = some o := hnd₃
    refine wpAny_mono (hb.go A env { s' with heap := h₃, toks := tk₃ } r₁ res₁ kb Z δ₃ _ hA hE F₃ eb) (fun fl s₄ p => ?_) fun _ _ y => y
    have st₃ : Stp c g s { s' with heap := h₃, toks := tk₃ } := by
      obtain ⟨a1, a2, a3, a4, a5⟩ := stpW (tk := tk₁) hk₁
      exact ⟨a1, a2, a3, a4, fun b o hg hd e => hnd₃ b o hd (a5 b o hg hd e)⟩
    cases res₁ with
    | ret t =>
      cases hl
      obtain ⟨p1, v', rfl, p2⟩ := p
      exact ⟨st₃.trans p1, v', rfl, p2⟩
    | n r₄ =>
      obtain ⟨p1, rfl, δ₄, F₄, hk₄⟩ := p
      obtain ⟨q1, q2, q3, q4, q5⟩ := id p1
      replace q5 : Ndc c g h₃ s₄.heap := q5
      have nd₄ : ∀ b o, (g = true → b ≠ c.P) → NotDC o → h₁.get? b = some o → s₄.heap.get? b = some o := fun b o hg hd e => q5 b o hg hd (hnd₃ b o hd e)
      have fpn : ∀ b ∈ fp, ∀ o, h₁.get? b = some o → NotDC o ∧ (g = true → b ≠ c.P) := fun b hm o e => by
        obtain ⟨o₂, ho₂, hd₂, hor⟩ := W.fp b hm
        by_cases hbw : b ∈ wr
        · obtain ⟨o', ho', _, n2⟩ := W.ns _ _ hst₁ b hbw
          rw [e] at ho'; cases ho'
          exact ⟨n2, fun _ q => hPw (q ▸ hbw)⟩
        · rcases hor with h | ⟨items, n, hd⟩
          · exact absurd h hbw
          · have hbP : b ≠ c.P := fun q => by
              have := k₂.sub _ _ hoP
              rw [q, this] at ho₂; cases ho₂; exact hPs _ _ hd
            have e₂ := hk₁ b o₂ hbw (hnd b o₂ hbw (fun _ => hbP) hd₂ ho₂)
            rw [e] at e₂; cases e₂
            exact ⟨hd₂, fun _ => hbP⟩
      have kp₄ : Kept ⟨c.a, Z⟩ h₁ s₄.heap := fun b o hz ⟨items, n, hd⟩ e => by
        by_cases hbP : b = c.P
        · exfalso
          have : h₁.get? c.P = some o := hbP ▸ e
          obtain ⟨o', ho', hs', _⟩ := F₁.ptab
          rw [ho'] at this; cases this
          exact hs' _ _ hd
        · exact nd₄ b o (fun _ => hbP) (notDC_of_seq hd) e
      refine ⟨ts.length + 1 - (i + 1), by omega, i + 1, r₄, δ₄, rfl, hlt, st₃.trans p1, fun b o hbw hg hd e => nd₄ b o hg hd (hk₁ b o hbw (hnd b o hbw hg hd e)), ?_, F₄,
        fun i hi => ⟨(hk₄ i (hk₃ i (hk i hi).1).1).1, (hk₄ i (hk₃ i (hk i hi).1).1).2.trans ((hk₃ i (hk i hi).1).2.trans (hk i hi).2)⟩, hl, fun j u t hP hj => Rep.mono' (kp₁.trans kp₄) _ _ (hit j u t hP hj)⟩
      exact W'.frame _ _ _ hst₁ fun b hm o e => nd₄ b o (fpn b hm o e).2 (fpn b hm o e).1 e
  · have hin : i = ts.length := by omega
    subst hin
    rw [List.drop_length] at hl
    cases hl
    refine W'.done _ _ _ hSi fun h₁ tk₁ hk₁ => ?_
    exact wpAny_execs_nil ⟨stpW hk₁, rfl, δ', move hSi hk₁, hk⟩
end
end Mine

namespace Mine
open PySem PySem.Calls PyProof.Rows PyProof.V PySem.SeqAt

theorem cellsFrom_acc {x : Str} : ∀ (names : List (Str × NameKind)) (n : Nat) (acc : List (Str × Addr)), (acc.lookup x).isSome = true → ((cellsFrom n names acc).lookup x).isSome = true
  | [], n, acc, h => h
  | (y, k) :: r, n, acc, h => by
    unfold cellsFrom
    split
    · refine cellsFrom_acc r _ _ ?_
      rw [List.lookup_cons]
      split
      · rfl
      · exact h
    · exact cellsFrom_acc r _ _ h
theorem cellsFrom_some {x : Str} : ∀ (names : List (Str × NameKind)) (n : Nat) (acc : List (Str × Addr)), (x, NameKind.cell) ∈ names → ((cellsFrom n names acc).lookup x).isSome = true
  | (y, k) :: r, n, acc, h => by
    unfold cellsFrom
    by_cases hk : (k == NameKind.cell) = true
    · rw [if_pos hk]
      by_cases hy : x = y
      · subst hy
        refine cellsFrom_acc r _ _ ?_
        rw [List.lookup_cons, beq_self_eq_true]
        rfl
      · rcases List.mem_cons.mp h with h | h
        · injection h with h1 h2; exact absurd h1 hy
        · exact cellsFrom_some r _ _ h
    · rw [if_neg hk]
      rcases List.mem_cons.mp h with h | h
      · injection h with h1 h2; subst h2; exact absurd rfl hk
      · exact cellsFrom_some r _ _ h

theorem bindL_off {kd : Str → Option NameKind} {x : Str} : ∀ {l : List (Str × Value)} {m : Str → Option Value}, x ∉ l.map (·.1) → bindL kd l m x = m x
  | [], m, _ => rfl
  | (n, v) :: r, m, h => by
    simp only [List.map_cons, List.mem_cons, not_or] at h
    unfold bindL
    rw [bindL_off h.2]
    split
    · simp [h.1]
    · rfl
theorem bindL_get {kd : Str → Option NameKind} {x : Str} {v : Value} (hk : kd x = some .local) : ∀ {l : List (Str × Value)} {m : Str → Option Value}, (l.map (·.1)).Nodup → (x, v) ∈ l → bindL kd l m x = some v
  | (n, u) :: r, m, hn, h => by
    rw [List.map_cons, List.nodup_cons] at hn
    unfold bindL
    rcases List.mem_cons.mp h with h | h
    · injection h with h1 h2
      subst h1 h2
      rw [bindL_off hn.1, if_pos hk]
      simp
    · exact bindL_get hk hn.2 h
theorem bindC_off {kd : Str → Option NameKind} {x : Str} : ∀ {l : List (Str × Value)} {m : Str → Option Value}, x ∉ l.map (·.1) → bindC kd l m x = m x
  | [], m, _ => rfl
  | (n, v) :: r, m, h => by
    simp only [List.map_cons, List.mem_cons, not_or] at h
    unfold bindC
    rw [bindC_off h.2]
    split
    · rfl
    · simp [h.1]
theorem bindC_get {kd : Str → Option NameKind} {x : Str} {v : Value} (hk : kd x ≠ some .local) : ∀ {l : List (Str × Value)} {m : Str → Option Value}, (l.map (·.1)).Nodup → (x, v) ∈ l → bindC kd l m x = some v
  | (n, u) :: r, m, hn, h => by
    rw [List.map_cons, List.nodup_cons] at hn
    unfold bindC
    rcases List.mem_cons.mp h with h | h
    · injection h with h1 h2
      subst h1 h2
      rw [bindC_off hn.1, if_neg hk]
      simp
    · exact bindC_get hk hn.2 h

def mapP : List T → List X
  | [] => []
  | t :: l => .p t :: mapP l
theorem nth_mapP : ∀ {l : List T} {i : Nat}, nth (mapP l) i ≠ .u → ∃ t, l[i]? = some t ∧ nth (mapP l) i = .p t
  | [], i, h => by simp [mapP, nth_nil] at h
  | t :: l, 0, _ => ⟨t, rfl, rfl⟩
  | t :: l, i + 1, h => by simpa [mapP, nth] using nth_mapP (l := l) (i := i) h
theorem nth_mapP_p {l : List T} {i : Nat} : (∃ t, nth (mapP l) i = .p t) ∨ nth (mapP l) i = .u := by
  by_cases h : nth (mapP l) i = .u
  · exact .inr h
  · obtain ⟨t, _, e⟩ := nth_mapP h; exact .inl ⟨t, e⟩

section
variable {prog : Program} {w : World}
/-- a def of the module's level -/
structure FnAt (c : Base prog w) (x : Str) (params : Arguments) (body : List Stmt) (sc : Scope) (fa : Addr) (o : Obj) (pm cd doc : Value) : Prop where
  mg : c.mg x = some (.ref fa)
  ne : fa ≠ c.P
  get : c.h₀.get? fa = some o
  data : o.data = .func (docDef x params body sc pm cd doc)
  code : ∀ h, Gd c h → h.CodeRec cd x

variable {c : Base prog w}
theorem FnAt.plain {x : Str} {params : Arguments} {body : List Stmt} {sc : Scope} {fa : Addr} {o : Obj} {pm cd doc : Value} (F : FnAt c x params body sc fa o pm cd doc) : Plain c (.ref fa) := .f fa o _ F.get F.ne F.data

/-- the plain facts of a def's block -/
structure DefI (sc : Scope) (G names : List Str) : Prop where
  kind : sc.kind = .function
  co : sc.isCoroutine = false
  gen : sc.isGenerator = false
  free : ∀ y, sc.names.lookup y ≠ some .free
  pars : ∀ y ∈ names, sc.names.lookup y = some .local ∨ sc.names.lookup y = some .cell
  nodup : names.Nodup
  at_ : ∀ i, i < names.length → G[i]? = names[i]?

def fnF (n : Nat) (fb : List X → Option Res) (ts : List T) : Option T := match Nat.beq ts.length n with
  | true => ob (fb (mapP ts)) fun res => match res with
    | .ret t => some t
    | .n _ => none
  | false => none

theorem frame_start {s s₁ : Shared} {sc : Scope} {G names : List Str} {x : Str} {params : Arguments} {body : List Stmt} {fa : Addr} {pm cd doc : Value} {vs : List Value} {ts : List T} {Z : Addr → Prop} (hI : DefI sc G names)
    (hx : Gd c s.heap) (hZ : Live Z s.heap) (hr : Reps ⟨c.a, Z⟩ s.heap ts vs) (hlen : vs.length = names.length)
    (Y : InCallC s (callEnvC (docDef x params body sc pm cd doc) s.heap.objs.size fa).locals (bindL (callEnvC (docDef x params body sc pm cd doc) s.heap.objs.size fa).kindOf (names.zip vs) fun _ => none)
      (callEnvC (docDef x params body sc pm cd doc) s.heap.objs.size fa).cells (bindC (callEnvC (docDef x params body sc pm cd doc) s.heap.objs.size fa).kindOf (names.zip vs) fun _ => none) s₁)
    {kb : Addr → Option Obj} (hkb : ∀ b o, kb b = some o → s.heap.get? b = some o) (hbase : ∀ b o, b ≠ c.P → c.h₀.get? b = some o → kb b = some o) (hlive : ∀ b, Z b → ∃ o, kb b = some o) (hkp : kb c.P = none) :
    EnvI sc (callEnvC (docDef x params body sc pm cd doc) s.heap.objs.size fa) ∧ FrS c kb Z (fun _ => 0) s₁.heap (callEnvC (docDef x params body sc pm cd doc) s.heap.objs.size fa) G (mapP ts) := by
  have hE : EnvI sc (callEnvC (docDef x params body sc pm cd doc) s.heap.objs.size fa) := by
    refine ⟨rfl, rfl, rfl, hI.kind, fun y hy => ?_⟩
    rcases hy with hy | hy
    · exact Option.isSome_iff_exists.mp (cellsFrom_some _ _ _ (mem_lookup hy))
    · exact absurd hy (hI.free y)
  refine ⟨hE, hbase, hlive, fun b o e => Y.toInCall.keep b o (hkb b o e), let ⟨o, e, z⟩ := hx.2; ⟨o, Y.toInCall.keep _ _ e, z⟩, ?_, ⟨_, Y.toInCall.ns, fun i y hi hu => ?_⟩, fun n cc e => ⟨?_, _, Y.cell n cc e⟩, fun n n' cc e e' => name_of_addr Y.apart (mem_lookup e) (mem_lookup e'), fun i kv e => ?_, fun i j kv kv' _ e => ?_, fun i kv e => ?_, hkp⟩
  · cases e : kb (callEnvC (docDef x params body sc pm cd doc) s.heap.objs.size fa).locals with
    | none => rfl
    | some o => exact absurd (Heap.lt_size (hkb _ _ e)) (Nat.not_lt.mpr Y.toInCall.fresh)
  · obtain ⟨t, ht, e⟩ := nth_mapP hu
    rw [e]
    obtain ⟨v, hv, hrv⟩ := hr.get ht
    have hlt : i < names.length := by rw [← hlen]; exact (List.getElem?_eq_some_iff.mp hv).1
    have hyn : names[i]? = some y := by rw [← hI.at_ i hlt]; exact hi
    have hmem : (y, v) ∈ names.zip vs := by
      refine List.mem_iff_getElem?.mpr ⟨i, ?_⟩
      rw [List.getElem?_zip_eq_some]
      exact ⟨hyn, hv⟩
    have hnd : ((names.zip vs).map (·.1)).Nodup := by
      rw [List.map_fst_zip (by omega)]
      exact hI.nodup
    refine ⟨v, ?_, Rep.mono Y.toInCall.keep hrv, fun h => h.elim⟩
    rcases hI.pars y (List.mem_of_getElem? hyn) with hk | hk
    · exact .inl ⟨(hE.kindOf y).trans hk, bindL_get ((hE.kindOf y).trans hk) hnd hmem⟩
    · obtain ⟨cc, hcc⟩ := hE.cells y (.inl hk)
      refine .inr ⟨.inl ((hE.kindOf y).trans hk), cc, hcc, ?_⟩
      have := Y.cell y cc hcc
      rw [bindC_get (by rw [hE.kindOf, hk]; exact fun h => nomatch h) hnd hmem] at this
      exact this
  · cases q : kb cc with
    | none => rfl
    | some o => exact absurd (Nat.lt_of_lt_of_le (Heap.lt_size (hkb _ _ q)) (Nat.le_trans Y.toInCall.fresh (Nat.le_of_lt (Y.above n cc (mem_lookup e))))) (Nat.lt_irrefl _)
  · rcases nth_mapP_p (l := ts) (i := i) with ⟨t, h⟩ | h <;> rw [h] at e <;> cases e
  · rcases nth_mapP_p (l := ts) (i := i) with ⟨t, h⟩ | h <;> rw [h] at e <;> cases e
  · rcases nth_mapP_p (l := ts) (i := i) with ⟨t, h⟩ | h <;> rw [h] at e <;> cases e

theorem call_fn (hc : c.Ok) {x : Str} {params : Arguments} {body : List Stmt} {sc : Scope} {fa : Addr} {o : Obj} {pm cd doc : Value} {G names : List Str} {k : Nat} {fb : List X → Option Res} (F : FnAt c x params body sc fa o pm cd doc) (hI : DefI sc G names)
    (hbind : ∀ vs : List Value, vs.length = names.length → bindArgs (docDef x params body sc pm cd doc) ⟨vs, []⟩ = pure (names.zip vs)) (hb : SS c false sc G k body fb) : CallOk c (k + 1) (.ref fa) (fnF names.length fb) := by
  refine ⟨fun A s ts t vs E Z hA hx hZ hr ht => ?_⟩
  unfold fnF at ht
  cases e : Nat.beq ts.length names.length with
  | false => rw [e] at ht; cases ht
  | true =>
    rw [e] at ht
    obtain ⟨res, eb, ht⟩ := ob_some ht
    cases res with
    | n r => cases ht
    | ret t' =>
      cases ht
      have hlen : vs.length = names.length := by rw [hr.length]; exact Nat.eq_of_beq_eq_true e
      refine wpAny_call (codeAny_call_cells hA.room (hx.1 fa o F.ne F.get) F.data (hc.nolimit _ hx) (F.code _ hx) rfl (hbind vs hlen) rfl (fun y hy => ?_) (fun s₁ Y => ?_) hI.co hI.gen hI.kind)
      · obtain ⟨i, hi⟩ := List.mem_iff_getElem?.mp hy
        rw [List.getElem?_zip_eq_some] at hi
        rcases hI.pars y.1 (List.mem_of_getElem? hi.1) with hk | hk
        · exact .inl hk
        · exact .inr ⟨hk, cellsFrom_some _ _ _ (mem_lookup hk)⟩
      · have nP : ∀ b o, (if b = c.P then none else s.heap.get? b) = some o → b ≠ c.P ∧ s.heap.get? b = some o := fun b o e => by
          by_cases q : b = c.P
          · rw [if_pos q] at e; cases e
          · rw [if_neg q] at e; exact ⟨q, e⟩
        obtain ⟨hE, FS⟩ := frame_start (c := c) (kb := fun b => if b = c.P then none else s.heap.get? b) (Z := fun b => Z b ∧ b ≠ c.P) hI hx (fun b z => hZ b z.1) (Reps.view (fun b o _ hz z => hz z.1) _ _ hr) hlen Y (fun b o e => (nP b o e).2)
          (fun b o hb e => by show (if b = c.P then none else _) = _; rw [if_neg hb]; exact hx.1 b o hb e) (fun b z => by obtain ⟨o, e⟩ := hZ b z.1; exact ⟨o, by show (if b = c.P then none else _) = _; rw [if_neg z.2]; exact e⟩) (if_pos rfl)
        refine wpAny_mono (hb.go _ _ s₁ _ _ _ _ _ _ (hA.deeper _) hE FS eb) (fun fl s₂ p => ?_) fun _ _ y => y
        obtain ⟨⟨p1, p2, p3, _, p5⟩, v, rfl, hv, hk'⟩ := p
        obtain ⟨oP, hoP, nPs, nPd, _⟩ := hx.2
        have hP₂ : s₂.heap.get? c.P = some oP := p5 _ _ (fun h => nomatch h) nPd (Y.toInCall.keep _ _ hoP)
        have hk : ∀ b o, s.heap.get? b = some o → s₂.heap.get? b = some o := fun b o e => by
          by_cases q : b = c.P
          · rw [q, hoP] at e; cases e; rw [q]; exact hP₂
          · exact hk' b o (by show (if b = c.P then none else _) = _; rw [if_neg q]; exact e)
        have hv : Rep ⟨c.a, Z⟩ s₂.heap t v := Rep.both (fun b o e hz ⟨it, n, hd⟩ => ⟨e, fun z => hz ⟨z, fun q => by rw [q, hP₂] at e; cases e; exact nPs _ _ hd⟩⟩) _ _ hv
        obtain ⟨h₁, tk₁, rfl⟩ := Y.toInCall.same
        obtain ⟨h₂, g₂, d₂, tk₂, os₂⟩ := s₂
        have e3 := p3 rfl
        dsimp only at p1 p2 e3
        subst p1 p2 e3
        exact ⟨⟨h₂, tk₂, rfl, hk⟩, hv⟩
end
end Mine
namespace Mine
open PySem
theorem nameI {sc : Scope} {G : List Str} {x : Str} {j : Nat} (hn : G.Nodup) (h : G[j]? = some x) (k : sc.names.lookup x = some .local ∨ sc.names.lookup x = some .cell) : NameI sc G x j :=
  ⟨h, fun i hi => (List.getElem?_inj (List.getElem?_eq_some_iff.mp hi).1 hn).mp (hi.trans h.symm), k⟩
end Mine

namespace Mine
open PySem PySem.Calls PyProof.Rows PyProof.V PySem.SeqAt

section
variable {prog : Program} {w : World} {c : Base prog w}

def tGe : T → T → Option Bool
  | .i x, .i y => some (decide (y ≤ x))
  | _, _ => none
theorem cmp_ge {k : Nat} : CmpOk c k .GtE tGe := by
  refine ⟨fun A s t₁ t₂ b v₁ v₂ E Z hA r₁ r₂ ht => ?_⟩
  cases t₁ <;> cases t₂ <;> cases ht
  obtain ⟨k₁, rfl⟩ := r₁
  obtain ⟨k₂, rfl⟩ := r₂
  exact PyProof.Rows.ge_int ⟨rfl, rfl⟩

def isInt (x : Int) (v : Value) : Bool := match v with
  | .int z _ => z == x
  | _ => false
def tInL : T → T → Option Bool
  | .i x, .l l => ob (asInts l) fun zs => some (zs.any (fun z => z == x))
  | _, _ => none
theorem cmp_inL {k : Nat} : CmpOk c k .In tInL := by
  refine ⟨fun A s t₁ t₂ b v₁ v₂ E Z hA r₁ r₂ ht => ?_⟩
  cases t₁ with
  | s p => cases t₂ <;> cases ht
  | t l => cases t₂ <;> cases ht
  | l l => cases t₂ <;> cases ht
  | i x =>
    cases t₂ with
    | i y => cases ht
    | s p => cases ht
    | t l => cases ht
    | l l =>
      obtain ⟨zs, hz, ht⟩ := ob_some ht
      cases ht
      obtain ⟨k₁, rfl⟩ := r₁
      obtain ⟨b₂, i₂, rfl, ht₂, q₂, y₂⟩ := r₂
      obtain ⟨z1, z2⟩ := reps_ints hz q₂
      refine in_listAt (isInt x) ht₂.isList (fun y hy => ?_) ⟨?_, rfl⟩
      · obtain ⟨j, hj, rfl⟩ := Array.mem_iff_getElem.mp hy
        obtain ⟨k', hk⟩ := z2 j i₂[j] (by simp [hj])
        rw [hk]
        exact EqAt.int_int _ _ _ _
      · rw [← Array.any_toList]
        exact congrArg Value.bool (any_ints z1 z2)

def tNeg : T → Option T
  | .i x => some (.i (-x))
  | _ => none
theorem Ev_neg {sc : Scope} {G : List Str} {k : Nat} {e : Expr} {f : List X → Option T} {pos : Pos} (h : Ev c sc G k e f) : Ev c sc G k (.UnaryOp .USub e pos) (fun r => ob (f r) tNeg) := by
  refine ⟨fun A env s r t E Z hA hE hx hZ hF ht => ?_⟩
  obtain ⟨t₁, e1, ht⟩ := ob_some ht
  refine wpAny_UnaryOp (wpAny_mono (h.go A env s r t₁ E Z hA hE hx hZ hF e1) (fun v s₁ ⟨k₁, r₁⟩ => ?_) fun _ _ y => y)
  cases t₁ <;> cases ht
  obtain ⟨kz, rfl⟩ := r₁
  exact PyProof.Rows.neg_int ⟨k₁.trans (Kp.tok _ _), _, rfl⟩

theorem foldl_one (v : Value) : ∀ (k : Nat) (acc : Array Value), (List.foldl (fun x1 x2 => x1 ++ x2) acc (List.replicate k #[v])).toList = acc.toList ++ List.replicate k v
  | 0, acc => by simp
  | k + 1, acc => by
    rw [List.replicate_succ, List.foldl_cons, foldl_one v k]
    simp [List.replicate_succ]
theorem reps_replicate {q : Vw} {h : Heap} {t : T} {v : Value} (r : Rep q h t v) : ∀ k, Reps q h (List.replicate k t) (List.replicate k v)
  | 0 => rfl
  | k + 1 => ⟨v, _, rfl, r, reps_replicate r k⟩
def tMulF : T → T → Option T
  | .l [x], .i y => match decide (0 ≤ y) with
    | true => match Nat.ble y.toNat 1000 with
      | true => some (.l (List.replicate y.toNat x))
      | false => none
    | false => none
  | .l _, _ => none
  | x, y => tMul x y
theorem bin_mulF {k : Nat} (hc : c.Ok) : BinOk c k .Mult tMulF := by
  refine ⟨fun A s t₁ t₂ t v₁ v₂ E Z hA hx hZ r₁ r₂ ht => ?_⟩
  cases t₁ with
  | i z => exact (bin_mul (k := k) hc).go A s _ t₂ t v₁ v₂ E Z hA hx hZ r₁ r₂ ht
  | s p => exact (bin_mul (k := k) hc).go A s _ t₂ t v₁ v₂ E Z hA hx hZ r₁ r₂ ht
  | t l => exact (bin_mul (k := k) hc).go A s _ t₂ t v₁ v₂ E Z hA hx hZ r₁ r₂ ht
  | l l =>
    cases l with
    | nil => cases ht
    | cons x l =>
      cases l with
      | cons y l => cases ht
      | nil =>
        cases t₂ with
        | s p => cases ht
        | t l => cases ht
        | l l => cases ht
        | i y =>
          change (match decide (0 ≤ y) with | true => (match Nat.ble y.toNat 1000 with | true => some (T.l (List.replicate y.toNat x)) | false => none) | false => none) = some t at ht
          cases e : decide (0 ≤ y) with
          | false => rw [e] at ht; cases ht
          | true =>
            rw [e] at ht
            have h0 := of_decide_eq_true e
            cases e2 : Nat.ble y.toNat 1000 with
            | false => rw [e2] at ht; cases ht
            | true =>
              rw [e2] at ht; cases ht
              have h1 := Nat.le_of_ble_eq_true e2
              obtain ⟨b, items, rfl, ⟨n, hl⟩, q, yz⟩ := r₁
              obtain ⟨ky, rfl⟩ := r₂
              obtain ⟨v, hv, hr⟩ := reps_one q
              have hit : items = #[v] := by
                apply Array.ext'
                rw [hv]
              subst hit
              refine wpAny_binaryOp_repeat_ref (T := "list") (U := "int") (by decide) ⟨_, hl, rfl⟩ (fun s' => typeIs_int s' y ky) noFill_list_mul F.fills_int_mul F.slot_int_rmul repeat_list F.slot_int_index.lookup
                (call_meets F.slot_int_rmul (typeIs_int s y ky) F.entry_int_rmul (F.args_int_rmul_2 _ _) (int___rmul___int_list y ky b #[v] n)
                  ⟨hl, rfl, ⟨_, hl, rfl⟩, call_meets F.slot_list_mul ⟨_, hl, rfl⟩ F.entry_list_mul (F.args_list_mul_2 _ _)
                    (AutoListH.list___mul___list_int_3 b #[v] n y ky (by simp [Builtin.List.listFitsIndex]; omega) (by simp; omega) (by simp [Builtin.List.listTooLong, sizeLine]; omega))
                    ⟨hl, Kp.mk' (tk := s.toks) (sub_push _ _), _, _, rfl, ⟨0, Heap.get?_push_size _ rfl⟩, ?_, hZ.size⟩⟩)
              rw [if_neg (by simp), foldl_one]
              exact (reps_replicate hr _).mono (sub_push _ _)

/-! a list unpacked -/
theorem draw_list {A : Around} {E : Value → Shared → Prop} {it t : Addr} {items : Array Value} (hne : t ≠ it) : ∀ (n i : Nat) (s : Shared) (Q : List Value → Shared → Prop), s.heap.IsListIter it t i → s.heap.IsList t items → i + n ≤ items.size →
    (∀ h', h'.IsListIter it t (i + n) → Heap.SameBut it s.heap h' → Q ((items.toList.drop i).take n) { s with heap := h' }) → wpAny (model prog w) A (draw (.ref it) n) Q E s
  | 0, i, s, Q, hit, _, _, hQ => by
    show wpAny _ _ (pure []) Q E s
    exact wpAny_pure (by simpa using hQ s.heap hit (Heap.SameBut.refl ..))
  | n + 1, i, s, Q, hit, ht, hle, hQ => by
    have hlt : i < items.size := by omega
    show wpAny _ _ (pyNext (.ref it) >>= _) Q E s
    refine wpAny_bind (wpAny_pyNext_list_item hit ht (x := items[i]) (by simp [hlt]) fun h₁ hit₁ hs₁ => ?_)
    refine wpAny_bind (wpAny_holding (draw_list hne n (i + 1) _ _ hit₁ (ht.extBut hs₁.extBut hne) (by omega) fun h₂ hit₂ hs₂ => wpAny_pure ?_))
    have hd : items.toList.drop i = items[i] :: items.toList.drop (i + 1) := by simp [List.drop_eq_getElem_cons, hlt]
    have := hQ h₂ (by rw [show i + (n + 1) = i + 1 + n by omega]; exact hit₂) (hs₁.trans hs₂)
    rw [hd, List.take_succ_cons] at this
    exact this
theorem unpack_list {A : Around} {E : Value → Shared → Prop} {s : Shared} {t : Addr} {items : Array Value} {targets : List (Bool × (Value → Sem Unit))} {Q : Unit → Shared → Prop} (hh : A.handled = none) (ht : s.heap.IsList t items)
    (hn : targets.length = items.size) (hstar : targets.findIdx? (·.1) = none)
    (h : ∀ h', Heap.ExtBut s.heap.objs.size s.heap h' → wpAny (model prog w) A (assignInOrder (targets.map (·.2)) items.toList) Q E { s with heap := h' }) :
    wpAny (model prog w) A (unpack (.ref t) targets) Q E s := by
  unfold unpack
  rw [hn, hstar]
  refine wpAny_bind (wpAny_holding ?_)
  have hlt : t ≠ s.heap.objs.size := by obtain ⟨o, ho, _⟩ := ht; exact Nat.ne_of_lt (Heap.lt_size ho)
  unfold unpackItems
  refine wpAny_bind ?_
  unfold notIterableAtAll
  refine wpAny_bind (wpAny_specialOf ht.typeIs slot_list_iter.lookup ?_)
  refine wpAny_pure ?_
  simp only [Bool.false_eq_true, if_false]
  refine wpAny_bind (wpAny_holding (wpAny_pyIter_list ht ?_))
  refine wpAny_bind (wpAny_holding (draw_list hlt items.size 0 _ _ ⟨_, Heap.get?_push_size _ rfl, rfl, rfl⟩ (ht.at fun o e => Heap.get?_push_of_some _ e) (by omega) fun h₁ hit₁ hs₁ => ?_))
  have hall : List.take items.size (List.drop 0 items.toList) = items.toList := by
    rw [List.drop_zero]; exact List.take_of_length_le (by simp)
  rw [hall]
  rw [if_neg (by simp)]
  have ht₁ : h₁.IsList t items := Heap.IsList.extBut (ht.at fun o e => Heap.get?_push_of_some _ e) hs₁.extBut hlt
  refine wpAny_bind (wpAny_holding (wpAny_pyNext_list_end hh hit₁ ht₁ (by simp) fun h₂ he₂ => ?_))
  simp only [Option.isSome_none, Bool.false_eq_true, if_false]
  exact wpAny_pure (h h₂ fun b o hb e => he₂ b o hb (hs₁.extBut b o hb (Heap.get?_push_of_some _ e)))

theorem putAll_len : ∀ {js : List Nat} {r r' : List X} {ts : List T}, putAll js r ts = some r' → js.length = ts.length := by
  intro js
  induction js with
  | nil => intro r r' ts h; cases ts with | nil => rfl | cons t ts => cases h
  | cons j js ih =>
    intro r r' ts h
    cases ts with
    | nil => cases h
    | cons t ts => obtain ⟨r₁, _, h⟩ := ob_some h; simp [ih h]
theorem Tgt_tupleL {sc : Scope} {G : List Str} {k n : Nat} {es : List Expr} {js : List Nat} {p : Pos} (hn : NamesI sc G es js) :
    Tgt c sc G k (.Tuple es n p) (fun r t => match t with
      | .l ts => putAll js r ts
      | _ => none) := by
  refine ⟨fun A env s r r' t v kb Z δ E hA hE hF hr ht => ?_⟩
  cases t with
  | i z => cases ht
  | s p => cases ht
  | t l => cases ht
  | l ts =>
    obtain ⟨b, items, rfl, hb, q, y⟩ := hr
    have hlen := q.length
    rw [Array.length_toList] at hlen
    obtain ⟨l1, l2⟩ := hn.len env
    rw [arm_assign_Tuple]
    refine wpAny_bind (wpAny_standAt (unpack_list hA.handled hb.isList (by rw [l1, putAll_len ht, hlen]) l2 fun h' hx => ?_))
    have hsub : Sub s.heap h' := fun b' o e => hx b' o (Nat.ne_of_lt (Heap.lt_size e)) e
    refine wpAny_mono (names_assign (c := c) hn (s := { s with heap := h' }) hE (hF.mono hsub) (q.mono hsub) ht) (fun _ s₁ h₁ => ?_) fun _ _ y => y
    obtain ⟨h'', tk', δ'', rfl, hnd', F'', hk'⟩ := h₁
    exact ⟨h'', tk', δ'', rfl, fun b o hd e => hnd' b o hd (hsub b o e), F'', hk'⟩

theorem St_unpack {g : Bool} {sc : Scope} {G : List Str} {k n : Nat} {e : Expr} {es : List Expr} {f : List X → Option T} {tg : List X → T → Option (List X)} {p pos : Pos} (h : Ev c sc G k e f) (ht : Tgt c sc G k (.Tuple es n p) tg)
    (hs : ∀ env, swapsWithSole [.Tuple es n p] e pos.line env = pure false) (hw : ∀ env, swappedStores [.Tuple es n p] e env = pure none) :
    St c g sc G k (.Assign [.Tuple es n p] e pos) (fun r => ob (f r) fun t => ob (tg r t) fun r' => some (.n r')) := by
  refine ⟨fun A env s r res kb Z δ E hA hE hF htt => ?_⟩
  obtain ⟨t, e1, htt⟩ := ob_some htt
  obtain ⟨r', e2, htt⟩ := ob_some htt
  cases htt
  refine Assign_Tuple (wpAny_mono (h.go A env s r t E Z hA hE hF.ext hF.liveh hF.toE e1) (fun v s₁ ⟨k₁, r₁⟩ => ?_) fun _ _ y => y) (hs env) (hw env)
  refine wpAny_mono (ht.go A env s₁ r r' t v kb Z δ E hA hE (hF.mono k₁.sub) r₁ e2) (fun _ s₂ h₂ => ?_) fun _ _ y => y
  obtain ⟨h', tk, δ', rfl, hnd, F', hk⟩ := h₂
  exact ⟨(Stp.kp k₁).trans (.heap fun b o _ hd e => hnd b o hd e), rfl, δ', F', hk⟩

theorem SS_never {g : Bool} {sc : Scope} {G : List Str} {k : Nat} {st : List Stmt} : SS c g sc G k st (fun _ => none) := by
  refine ⟨fun A env s r res kb Z δ E hA hE hF ht => ?_⟩
  cases ht

def pin (kb : Addr → Option Obj) (C : Addr) (o : Obj) (b : Addr) : Option Obj := match kb b with
  | some o' => some o'
  | none => if b = C then some o else none
theorem pin_sub {kb : Addr → Option Obj} {C : Addr} {o : Obj} : ∀ b o', kb b = some o' → pin kb C o b = some o' := fun b o' e => by unfold pin; rw [e]
theorem pin_self {kb : Addr → Option Obj} {C : Addr} {o : Obj} (h : kb C = none) : pin kb C o C = some o := by unfold pin; rw [h]; simp
theorem pin_none {kb : Addr → Option Obj} {C : Addr} {o : Obj} {b : Addr} (h : kb b = none) (hb : b ≠ C) : pin kb C o b = none := by unfold pin; rw [h]; simp [hb]
theorem pin_or {kb : Addr → Option Obj} {C : Addr} {o o' : Obj} {b : Addr} (h : pin kb C o b = some o') : kb b = some o' ∨ (b = C ∧ o' = o) := by
  unfold pin at h
  cases e : kb b with
  | some o₂ => rw [e] at h; cases h; exact .inl rfl
  | none =>
    rw [e] at h
    by_cases hb : b = C
    · subst hb; simp at h; exact .inr ⟨rfl, h.symm⟩
    · simp [hb] at h
theorem none_of {kb kb' : Addr → Option Obj} (hs : ∀ b o, kb b = some o → kb' b = some o) {b : Addr} (h : kb' b = none) : kb b = none := by
  cases e : kb b with
  | none => rfl
  | some o => have := hs _ _ e; rw [h] at this; cases this
namespace FrS
variable {kb kb' : Addr → Option Obj} {Z : Addr → Prop} {δ : Nat → Addr} {h h' : Heap} {env : Env} {G : List Str} {r : List X} {C : Addr} {o : Obj}
theorem pin (F : FrS c kb Z δ h env G r) (hk : h.get? C = some o) (hl : env.locals ≠ C) (hc : ∀ n cc, env.cells.lookup n = some cc → cc ≠ C) (hd : ∀ i kv, nth r i = .d kv → δ i ≠ C) (hP : c.P ≠ C) : FrS c (pin kb C o) Z δ h env G r where
  base := fun b o hb e => pin_sub _ _ (F.base b o hb e)
  live := fun b z => let ⟨o, e⟩ := F.live b z; ⟨o, pin_sub _ _ e⟩
  keep := fun b o' e => by
    rcases pin_or e with h1 | ⟨rfl, rfl⟩
    · exact F.keep _ _ h1
    · exact hk
  ptab := F.ptab
  loc := pin_none F.loc hl
  ns := F.ns
  cell := fun n cc e => ⟨pin_none (F.cell n cc e).1 (hc n cc e), (F.cell n cc e).2⟩
  apart := F.apart
  dict := fun i kv e => ⟨pin_none (F.dict i kv e).1 (hd i kv e), (F.dict i kv e).2⟩
  inj := F.inj
  dom := F.dom
  kp := pin_none F.kp hP
theorem rebase (F : FrS c kb' Z δ h env G r) (base : ∀ b o, b ≠ c.P → c.h₀.get? b = some o → kb b = some o) (live : ∀ b, Z b → ∃ o, kb b = some o) (hs : ∀ b o, kb b = some o → kb' b = some o) : FrS c kb Z δ h env G r where
  base := base
  live := live
  keep := fun b o e => F.keep b o (hs b o e)
  ptab := F.ptab
  loc := none_of hs F.loc
  ns := F.ns
  cell := fun n cc e => ⟨none_of hs (F.cell n cc e).1, (F.cell n cc e).2⟩
  apart := F.apart
  dict := fun i kv e => ⟨none_of hs (F.dict i kv e).1, (F.dict i kv e).2⟩
  inj := F.inj
  dom := F.dom
  kp := none_of hs F.kp
theorem off (F : FrS c kb Z δ h env G r) (hs : ∀ b o, b ≠ C → h.get? b = some o → h'.get? b = some o) (hq : ∀ o, h.get? C = some o → NotSeq o) (hP : c.P ≠ C) (hb : kb C = none) (hl : env.locals ≠ C) (hc : ∀ n cc, env.cells.lookup n = some cc → cc ≠ C) (hd : ∀ i kv, nth r i = .d kv → δ i ≠ C) :
    FrS c kb Z δ h' env G r where
  base := F.base
  live := F.live
  keep := fun b o e => hs b o (fun q => by subst q; rw [hb] at e; cases e) (F.keep b o e)
  ptab := let ⟨o, e, x⟩ := F.ptab; ⟨o, hs _ _ hP e, x⟩
  loc := F.loc
  ns := by
    obtain ⟨m, hn, hx⟩ := F.ns
    refine ⟨m, hn.at' fun o e => hs _ o hl e, fun i x hi hu => ?_⟩
    obtain ⟨v, h1, h2, h3⟩ := hx i x hi hu
    refine ⟨v, ?_, repX_same hs hq h2 fun kv e => ?_, h3⟩
    · rcases h1 with hv | ⟨hk, cc, a1, o, ho, hd'⟩
      · exact .inl hv
      · exact .inr ⟨hk, cc, a1, o, hs _ _ (hc _ _ a1) ho, hd'⟩
    · rw [h3 (by rw [e]; trivial)]
      intro q; injection q with q; exact hd i kv e q
  cell := fun n cc e => let ⟨h1, v, o, ho, hd⟩ := F.cell n cc e; ⟨h1, v, o, hs _ _ (hc _ _ e) ho, hd⟩
  apart := F.apart
  dict := F.dict
  inj := F.inj
  dom := F.dom
  kp := F.kp
theorem dlive (F : FrS c kb Z δ h env G r) {i : Nat} {x : Str} (hi : G[i]? = some x) {kv} (e : nth r i = .d kv) : ∃ o, h.get? (δ i) = some o := by
  obtain ⟨m, hn, hx⟩ := F.ns
  obtain ⟨v, h1, h2, h3⟩ := hx i x hi (by rw [e]; exact fun h => nomatch h)
  have := h3 (by rw [e]; trivial)
  rw [e] at h2
  obtain ⟨b, xs, hb, ⟨o, es, ep, ho, _⟩, _⟩ := h2
  rw [hb] at this; injection this with this
  exact ⟨o, this ▸ ho⟩
theorem dP (F : FrS c kb Z δ h env G r) {i : Nat} {kv} (e : nth r i = .d kv) : c.P ≠ δ i := by
  obtain ⟨x, hi⟩ := F.dom i kv e
  obtain ⟨m, hn, hx⟩ := F.ns
  obtain ⟨v, h1, h2, h3⟩ := hx i x hi (by rw [e]; exact fun h => nomatch h)
  have := h3 (by rw [e]; trivial)
  rw [e] at h2
  obtain ⟨b, xs, hb, ⟨o, es, ep, ho, _, hd, _⟩, _⟩ := h2
  rw [hb] at this; injection this with this
  intro q
  obtain ⟨oP, hoP, _, hdc, _⟩ := F.ptab
  rw [q, ← this, ho] at hoP; cases hoP
  exact hdc.1 _ _ hd
end FrS

/-! a comprehension that a name takes at once -/
theorem St_assign_comp {g : Bool} {sc scope : Scope} {G fv : List Str} {is : List Nat} {k j : Nat} {elt iter : Expr} {x y : Str} {px py pos spos : Pos} {ifs : List Expr} {fi : List X → Option (List T)} {ft : List X → Option Bool} {fe : List X → Option T}
    (hi : EvIt c sc G k iter fi) (hI : CompI scope sc G fv is x) (ht : EvT c (relS scope sc) (x :: fv) k ifs ft) (he : Ev c (relS scope sc) (x :: fv) k elt fe)
    (hs : ∀ (env : Env) (x : Value), foldedSetIterable iter env x = pure x) (hn : NameI sc G y j)
    (hsw : ∀ env, EnvI sc env → swapsWith (.ListComp elt [⟨.Name x px, iter, ifs, 0⟩] scope pos) (some (.Name y py)) spos.line env = pure true) :
    St c g sc G k (.Assign [.Name y py] (.ListComp elt [⟨.Name x px, iter, ifs, 0⟩] scope pos) spos)
      (fun r => ob (fi r) fun ts => ob (compG (fun y => ft (y :: pick r is)) (fun y => fe (y :: pick r is)) ts) fun out => ob (put j r (.p (.l out))) fun r' => some (.n r')) := by
  refine ⟨fun A env s r res kb Z δ E hA hE hF htt => ?_⟩
  obtain ⟨ts, e1, htt⟩ := ob_some htt
  obtain ⟨out, e2, htt⟩ := ob_some htt
  obtain ⟨r', e3, htt⟩ := ob_some htt
  cases htt
  obtain ⟨hjk, rfl⟩ := put_some e3
  rw [exec_Assign_Name_used _ _ _ _ (hsw env hE)]
  refine wpAny_bind (wpAny_standAt (wpAny_bind ?_))
  show wpAny _ A (do let _ ← comprehension (.ListComp elt [⟨.Name x px, iter, ifs, 0⟩] scope pos) scope env _ (newList []) false (eval iter env) (some (assign (.Name y py) env))) _ _ s
  refine wpAny_bind (wpAny_mono (wpAny_comprehension_free (use := some (assign (.Name y py) env)) (Q := fun _ s' => Post c g kb Z δ env G r (.n (setN r j (.p (.l out)))) s .next s') rfl (hs env) (closFor (hfreeOf hE hI.free)) hI.kind hI.names
    (wpAny_mono (hi.go A env s r ts E Z hA hE hF.ext hF.liveh hF.toE e1) (fun xv s₁ h₁ => wpAny_mono h₁ (fun it s₂ h₂ => ?_) fun _ _ e => e) fun _ _ e => e)) (fun _ s' hq => wpAny_pure (wpAny_pure hq)) fun _ _ e => e)
  obtain ⟨I, fp, wr, P, Si, rfl, k₂, W⟩ := h₂
  refine comp_block (c := c) (RR := fun acc C => compPost (model prog w) A E (some (assign (.Name y py) env)) _ acc C) hA hE hF.ext hF.liveh hF.toE W hI ht he e2 ?_
  intro D C h' tk m' ys hD hC hDC hn' hl hr hk
  obtain ⟨h₂', tk₂', e₂, sub₂⟩ := k₂
  subst e₂
  have sub' : Sub s.heap h' := fun b o e => hk b o (fun hb => by rw [W.new b hb] at e; cases e) (sub₂ b o e)
  have hCn : ∀ b o, s.heap.get? b = some o → b ≠ C := fun b o e hb => by subst hb; rw [sub₂ b o e] at hC; cases hC
  have hX : Rep ⟨c.a, Z⟩ h' (.l out) (.ref D) := ⟨D, ys, rfl, hl, hr, (hF.liveh.mono sub₂).fresh hD⟩
  obtain ⟨oC, esC, epC, hoC, hdC, rC⟩ := id hn'
  have hlC : env.locals ≠ C := by obtain ⟨m, ⟨o, es, ep, ho, _⟩, _⟩ := hF.ns; exact hCn _ o ho
  have hcC : ∀ n cc, env.cells.lookup n = some cc → cc ≠ C := fun n cc e => by obtain ⟨_, v, o, ho, _⟩ := hF.cell n cc e; exact hCn _ o ho
  have hdC' : ∀ i kv, nth r i = .d kv → δ i ≠ C := fun i kv e => by
    obtain ⟨x, hx⟩ := hF.dom i kv e
    obtain ⟨o, ho⟩ := hF.dlive hx e
    exact hCn _ o ho
  have hkC : kb C = none := by
    cases e : kb C with
    | none => rfl
    | some o => exact absurd rfl (hCn _ _ (hF.keep _ _ e))
  have hPC : c.P ≠ C := by obtain ⟨o, ho, _⟩ := hF.ptab; exact hCn _ o ho
  show wpAny _ A (assign (.Name y py) env (.ref D)) _ _ _
  refine wpAny_assign_Name ?_
  refine FrS.store (c := c) (s := ⟨h', s.gens, s.drawn, tk, s.os⟩) ((hF.mono sub').pin hoC hlC hcC hdC' hPC) hE hn.at_ hn.one hn.kind (V := .p (.l out)) hX (fun h => nomatch h) (fun kv h => nomatch h) fun h₃ tk₃ hnd F₃ => ?_
  have hC₃ : h₃.get? C = some oC := F₃.keep C oC (pin_self hkC)
  refine ⟨m', hn'.at' fun o e => ?_, fun h₄ hs₄ => ⟨.heap fun b o _ hd e => ?_, rfl, _, (F₃.rebase hF.base hF.live pin_sub).off (fun b o hb e => hs₄.extBut b o hb e) (fun o e => ?_) hPC hkC hlC hcC (fun i kv e => ?_), fun i hi => ?_⟩⟩
  · rw [hoC] at e; cases e; exact hC₃
  · exact hs₄.extBut b o (hCn b o e) (hnd b o hd (sub' b o e))
  · rw [hC₃] at e; cases e; intro i n hq; rw [hdC] at hq; cases hq
  · rw [nth_setN] at e
    by_cases hi : i = j
    · rw [if_pos hi] at e; cases e
    · rw [if_neg hi] at e; simp only [if_neg hi]; exact hdC' i kv e
  · have hij : i ≠ j := fun e => by subst e; rw [hi] at hjk; cases hjk
    rw [nth_setN]
    simp only [if_neg hij]
    exact ⟨hi, trivial⟩
end
end Mine

namespace Mine
open PySem PySem.Calls PyProof.Rows PyProof.V PySem.SeqAt

section
variable {prog : Program} {w : World} {c : Base prog w}

/-! remainders of the entries, known beforehand -/
def mdGet (md : List (Nat × Nat × Nat)) (i y : Nat) : Option Nat := match md with
  | [] => none
  | (j, y', z) :: r => match Nat.beq i j with
    | true => match Nat.beq y y' with
      | true => some z
      | false => mdGet r i y
    | false => mdGet r i y
def MdOk (c : Base prog w) (md : List (Nat × Nat × Nat)) : Prop := ∀ i y z, mdGet md i y = some z → 0 < y ∧ (c.a i).fmod y = z
def tModV (md : List (Nat × Nat × Nat)) : T → T → Option T
  | .s [([i], 1)], .i y => match decide (0 ≤ y) with
    | true => ob (mdGet md i y.toNat) fun z => some (.i z)
    | false => none
  | x, y => tMod x y
theorem bin_modV {k : Nat} {md : List (Nat × Nat × Nat)} (hm : MdOk c md) : BinOk c k .Mod (tModV md) := by
  refine ⟨fun A s t₁ t₂ t v₁ v₂ E Z hA hx hZ r₁ r₂ ht => ?_⟩
  unfold tModV at ht
  split at ht
  · rename_i i y
    cases e : decide (0 ≤ y) with
    | false => rw [e] at ht; cases ht
    | true =>
      rw [e] at ht
      have h0 := of_decide_eq_true e
      obtain ⟨z, hz, ht⟩ := ob_some ht
      cases ht
      obtain ⟨hy, hf⟩ := hm _ _ _ hz
      obtain ⟨k₁, rfl⟩ := r₁
      obtain ⟨k₂, rfl⟩ := r₂
      have e1 : polDen c.a [([i], 1)] = c.a i := by simp [polDen, monDen]
      refine PyProof.Rows.mod_int' (by omega) ⟨Kp.tok _ _, _, congrArg (fun z => Value.int z _) ?_⟩
      rw [e1, ← hf, Int.toNat_of_nonneg h0]
  · exact bin_mod.go (k := k) A s t₁ t₂ t v₁ v₂ E Z hA hx hZ r₁ r₂ ht

/-! slices of lists -/
theorem Reps.drop {a : Vw} {h : Heap} : ∀ {l : List T} {vs : List Value}, Reps a h l vs → ∀ n, Reps a h (l.drop n) (vs.drop n)
  | _, _, x, 0 => x
  | [], _, x, n + 1 => by cases x; rfl
  | _ :: l, _, ⟨v, r, e, x, y⟩, n + 1 => by subst e; exact Reps.drop y n
theorem Reps.take {a : Vw} {h : Heap} : ∀ {l : List T} {vs : List Value}, Reps a h l vs → ∀ n, Reps a h (l.take n) (vs.take n)
  | _, _, x, 0 => rfl
  | [], _, x, n + 1 => by cases x; rfl
  | _ :: l, _, ⟨v, r, e, x, y⟩, n + 1 => by subst e; exact ⟨v, _, rfl, x, Reps.take y n⟩
def tSlice : T → T → T → Option T
  | .l l, .i x, .i y => match decide (0 ≤ x) with
    | true => match decide (x ≤ y) with
      | true => match Nat.ble y.toNat l.length with
        | true => match Nat.ble l.length 1000 with
          | true => some (.l ((l.drop x.toNat).take (y.toNat - x.toNat)))
          | false => none
        | false => none
      | false => none
    | false => none
  | _, _, _ => none
theorem Ev_slice {sc : Scope} {G : List Str} {k : Nat} {e₁ e₂ e₃ : Expr} {f₁ f₂ f₃ : List X → Option T} {p pos : Pos} (h₁ : Ev c sc G k e₁ f₁) (h₂ : Ev c sc G k e₂ f₂) (h₃ : Ev c sc G k e₃ f₃) (hl : ∀ o r, letTemporaryGo e₁ o r = pure ()) :
    Ev c sc G k (.Subscript e₁ (.Slice (some e₂) (some e₃) none p) pos) (fun r => ob (f₁ r) fun x => ob (f₂ r) fun y => ob (f₃ r) fun z => tSlice x y z) := by
  refine ⟨fun A env s r t E Z hA hE hx hZ hF ht => ?_⟩
  obtain ⟨t₁, e1, ht⟩ := ob_some ht
  obtain ⟨t₂, e2, ht⟩ := ob_some ht
  obtain ⟨t₃, e3, ht⟩ := ob_some ht
  refine wpAny_Subscript_list_slice (wpAny_mono (h₁.go A env s r t₁ E Z hA hE hx hZ hF e1) (fun v₁ s₁ ⟨k₁, r₁⟩ => ?_) fun _ _ y => y) hl
  refine wpAny_evalPart_some (wpAny_mono (h₂.go A env s₁ r t₂ E Z hA hE (ext_sub hx k₁.sub) (hZ.mono k₁.sub) (hF.mono k₁.sub) e2) (fun v₂ s₂ ⟨k₂, r₂⟩ => ?_) fun _ _ y => y)
  have k₁₂ := k₁.trans k₂
  refine wpAny_evalPart_some (wpAny_mono (h₃.go A env s₂ r t₃ E Z hA hE (ext_sub hx k₁₂.sub) (hZ.mono k₁₂.sub) (hF.mono k₁₂.sub) e3) (fun v₃ s₃ ⟨k₃, r₃⟩ => ?_) fun _ _ y => y)
  have k₁₃ := k₁₂.trans k₃
  have r₁ := r₁.mono (k₂.trans k₃).sub
  have r₂ := r₂.mono k₃.sub
  rcases t₁ with _ | _ | _ | l
  · cases ht
  · cases ht
  · cases ht
  rcases t₂ with x | _ | _ | _
  rotate_left
  · cases ht
  · cases ht
  · cases ht
  rcases t₃ with y | _ | _ | _
  rotate_left
  · cases ht
  · cases ht
  · cases ht
  · replace ht : (match decide (0 ≤ x) with
      | true => match decide (x ≤ y) with
        | true => match Nat.ble y.toNat l.length with
          | true => match Nat.ble l.length 1000 with
            | true => some (T.l ((l.drop x.toNat).take (y.toNat - x.toNat)))
            | false => none
          | false => none
        | false => none
      | false => none) = some t := ht
    obtain ⟨b, items, rfl, hb, q, yz⟩ := r₁
    obtain ⟨kx, rfl⟩ := r₂
    obtain ⟨ky, rfl⟩ := r₃
    cases a1 : decide (0 ≤ x) with
    | false => rw [a1] at ht; cases ht
    | true =>
      rw [a1] at ht
      cases a2 : decide (x ≤ y) with
      | false => rw [a2] at ht; cases ht
      | true =>
        rw [a2] at ht
        cases a3 : Nat.ble y.toNat l.length with
        | false => rw [a3] at ht; cases ht
        | true =>
          rw [a3] at ht
          cases a4 : Nat.ble l.length 1000 with
          | false => rw [a4] at ht; cases ht
          | true =>
            rw [a4] at ht; cases ht
            have b1 := of_decide_eq_true a1
            have b2 := of_decide_eq_true a2
            have b3 := Nat.le_of_ble_eq_true a3
            have b4 := Nat.le_of_ble_eq_true a4
            have hlen := q.length
            rw [Array.length_toList] at hlen
            refine ⟨b, items, some x, some y, rfl, hb.isList, by rw [sizeLine_eq]; omega, .int .., .int .., ?_⟩
            have hs2 : Sub s₃.heap ((s₃.heap.push { cls := .type "slice", data := .fields #[.int x kx, .int y ky, .none] }).push { cls := .type "list", data := .seq (slicePick items (some x) (some y) none) }) := (sub_push _ _).trans (sub_push _ _)
            refine ⟨k₁₃.trans (Kp.mk' (tk := s₃.toks) hs2), _, slicePick items (some x) (some y) none, rfl, ⟨0, ?_⟩, ?_, ?_⟩
            · have e1 := Heap.get?_push_size (s₃.heap.push { cls := .type "slice", data := .fields #[.int x kx, .int y ky, .none] }) (o := { cls := .type "list", data := .seq (slicePick items (some x) (some y) none) }) rfl
              rw [Heap.size_push] at e1
              exact e1
            · have ex : x = (x.toNat : Int) := by omega
              have ey : y = (y.toNat : Int) := by omega
              have : slicePick items (some x) (some y) none = ((items.toList.drop x.toNat).take (y.toNat - x.toNat)).toArray := by
                have := slicePick_run items x.toNat y.toNat (by omega) (by omega)
                rw [← ex, ← ey] at this
                exact this
              exact (show (slicePick items (some x) (some y) none).toList = _ from by rw [this]) ▸ (((q.drop x.toNat).take (y.toNat - x.toNat)).mono hs2)
            · refine (hZ.mono k₁₃.sub).fresh ?_
              cases e : s₃.heap.get? (s₃.heap.objs.size + 1) with
              | none => rfl
              | some o => exact absurd (Heap.lt_size e) (Nat.not_lt.mpr (Nat.le_succ _))

def tUpto : T → T → Option T
  | .l l, .i y => match decide (0 ≤ y) with
    | true => match Nat.ble l.length 1000 with
      | true => some (.l (l.take y.toNat))
      | false => none
    | false => none
  | _, _ => none
theorem Ev_upto {sc : Scope} {G : List Str} {k : Nat} {e₁ e₃ : Expr} {f₁ f₃ : List X → Option T} {p pos : Pos} (h₁ : Ev c sc G k e₁ f₁) (h₃ : Ev c sc G k e₃ f₃) (hl : ∀ o r, letTemporaryGo e₁ o r = pure ()) :
    Ev c sc G k (.Subscript e₁ (.Slice none (some e₃) none p) pos) (fun r => ob (f₁ r) fun x => ob (f₃ r) fun z => tUpto x z) := by
  refine ⟨fun A env s r t E Z hA hE hx hZ hF ht => ?_⟩
  obtain ⟨t₁, e1, ht⟩ := ob_some ht
  obtain ⟨t₃, e3, ht⟩ := ob_some ht
  refine wpAny_Subscript_list_slice (wpAny_mono (h₁.go A env s r t₁ E Z hA hE hx hZ hF e1) (fun v₁ s₁ ⟨k₁, r₁⟩ => ?_) fun _ _ y => y) hl
  refine wpAny_evalPart_none ?_
  refine wpAny_evalPart_some (wpAny_mono (h₃.go A env s₁ r t₃ E Z hA hE (ext_sub hx k₁.sub) (hZ.mono k₁.sub) (hF.mono k₁.sub) e3) (fun v₃ s₃ ⟨k₃, r₃⟩ => ?_) fun _ _ y => y)
  have k₁₃ := k₁.trans k₃
  have r₁ := r₁.mono k₃.sub
  rcases t₁ with _ | _ | _ | l
  · cases ht
  · cases ht
  · cases ht
  rcases t₃ with y | _ | _ | _
  rotate_left
  · cases ht
  · cases ht
  · cases ht
  · replace ht : (match decide (0 ≤ y) with
      | true => match Nat.ble l.length 1000 with
        | true => some (T.l (l.take y.toNat))
        | false => none
      | false => none) = some t := ht
    obtain ⟨b, items, rfl, hb, q, yz⟩ := r₁
    obtain ⟨ky, rfl⟩ := r₃
    cases a1 : decide (0 ≤ y) with
    | false => rw [a1] at ht; cases ht
    | true =>
      rw [a1] at ht
      cases a4 : Nat.ble l.length 1000 with
      | false => rw [a4] at ht; cases ht
      | true =>
        rw [a4] at ht; cases ht
        have b1 := of_decide_eq_true a1
        have b4 := Nat.le_of_ble_eq_true a4
        have hlen := q.length
        rw [Array.length_toList] at hlen
        refine ⟨b, items, none, some y, rfl, hb.isList, by rw [sizeLine_eq]; omega, .none, .int .., ?_⟩
        have hs2 : Sub s₃.heap ((s₃.heap.push { cls := .type "slice", data := .fields #[.none, .int y ky, .none] }).push { cls := .type "list", data := .seq (slicePick items none (some y) none) }) := (sub_push _ _).trans (sub_push _ _)
        refine ⟨k₁₃.trans (Kp.mk' (tk := s₃.toks) hs2), _, slicePick items none (some y) none, rfl, ⟨0, ?_⟩, ?_, ?_⟩
        · have e1 := Heap.get?_push_size (s₃.heap.push { cls := .type "slice", data := .fields #[.none, .int y ky, .none] }) (o := { cls := .type "list", data := .seq (slicePick items none (some y) none) }) rfl
          rw [Heap.size_push] at e1
          exact e1
        · have ey : y = (y.toNat : Int) := by omega
          have : slicePick items none (some y) none = (items.toList.take y.toNat).toArray := by
            have := slicePick_upto' items y.toNat
            rw [← ey] at this
            exact this
          exact (show (slicePick items none (some y) none).toList = _ from by rw [this]) ▸ ((q.take y.toNat).mono hs2)
        · refine (hZ.mono k₁₃.sub).fresh ?_
          cases e : s₃.heap.get? (s₃.heap.objs.size + 1) with
          | none => rfl
          | some o => exact absurd (Heap.lt_size e) (Nat.not_lt.mpr (Nat.le_succ _))
end
end Mine

namespace Mine
open PySem PySem.Calls PyProof.Rows PyProof.V PySem.SeqAt

section
variable {prog : Program} {w : World} {c : Base prog w}
namespace FrS
variable {kb kb' : Addr → Option Obj} {Z : Addr → Prop} {δ : Nat → Addr} {h h' : Heap} {env : Env} {G : List Str} {r : List X} {i : Nat}
/-- a name is forgotten -/
theorem kill (F : FrS c kb Z δ h env G r) (i : Nat) : FrS c kb Z δ h env G (setN r i .u) where
  base := F.base
  live := F.live
  keep := F.keep
  ptab := F.ptab
  loc := F.loc
  ns := by
    obtain ⟨m, hn, hx⟩ := F.ns
    refine ⟨m, hn, fun j x hj hu => ?_⟩
    rw [nth_setN] at hu ⊢
    by_cases e : j = i
    · rw [if_pos e] at hu; exact absurd rfl hu
    · rw [if_neg e] at hu ⊢; exact hx j x hj hu
  cell := F.cell
  apart := F.apart
  dict := fun j kv e => by
    rw [nth_setN] at e
    by_cases q : j = i
    · rw [if_pos q] at e; cases e
    · rw [if_neg q] at e; exact F.dict j kv e
  inj := fun j j' kv kv' hne e e' => by
    rw [nth_setN] at e e'
    by_cases q : j = i
    · rw [if_pos q] at e; cases e
    · by_cases q' : j' = i
      · rw [if_pos q'] at e'; cases e'
      · rw [if_neg q] at e; rw [if_neg q'] at e'; exact F.inj j j' kv kv' hne e e'
  dom := fun j kv e => by
    rw [nth_setN] at e
    by_cases q : j = i
    · rw [if_pos q] at e; cases e
    · rw [if_neg q] at e; exact F.dom j kv e
  kp := F.kp
/-- a dict is written -/
theorem dset (F : FrS c kb Z δ h env G r) {kv kv' : List (List Int × T)} (hi : nth r i = .d kv) (hs : ∀ b o, b ≠ δ i → h.get? b = some o → h'.get? b = some o) (hq : ∀ o, h.get? (δ i) = some o → NotSeq o) (hP : c.P ≠ δ i)
    (hc : ∀ n cc, env.cells.lookup n = some cc → cc ≠ δ i) (hX : RepX prog w ⟨c.a, Z⟩ h' (.d kv') (.ref (δ i))) : FrS c kb Z δ h' env G (setN r i (.d kv')) where
  base := F.base
  live := F.live
  keep := fun b o e => hs b o (fun q => by subst q; rw [(F.dict i kv hi).1] at e; cases e) (F.keep b o e)
  ptab := let ⟨o, e, x⟩ := F.ptab; ⟨o, hs _ _ hP e, x⟩
  loc := F.loc
  ns := by
    obtain ⟨m, hn, hx⟩ := F.ns
    refine ⟨m, hn.at' fun o e => hs _ o (fun q => (F.dict i kv hi).2 q.symm) e, fun j x hj hu => ?_⟩
    have old : ∀ {v}, Holds h env m x v → Holds h' env m x v := fun h1 => by
      rcases h1 with hv | ⟨hk, cc, a1, o, ho, hd'⟩
      · exact .inl hv
      · exact .inr ⟨hk, cc, a1, o, hs _ _ (hc _ _ a1) ho, hd'⟩
    rw [nth_setN] at hu ⊢
    by_cases e : j = i
    · subst e
      obtain ⟨v, h1, h2, h3⟩ := hx j x hj (by rw [hi]; exact fun h => nomatch h)
      have := h3 (by rw [hi]; trivial)
      subst this
      rw [if_pos rfl]
      exact ⟨_, old h1, hX, fun _ => rfl⟩
    · rw [if_neg e] at hu ⊢
      obtain ⟨v, h1, h2, h3⟩ := hx j x hj hu
      refine ⟨v, old h1, repX_same hs hq h2 fun kv₂ e₂ => ?_, h3⟩
      rw [h3 (by rw [e₂]; trivial)]
      intro q; injection q with q; exact F.inj j i _ _ e e₂ hi q
  cell := fun n cc e => let ⟨h1, v, o, ho, hd⟩ := F.cell n cc e; ⟨h1, v, o, hs _ _ (hc _ _ e) ho, hd⟩
  apart := F.apart
  dict := fun j kv₂ e => by
    rw [nth_setN] at e
    by_cases q : j = i
    · subst q; exact F.dict _ kv hi
    · rw [if_neg q] at e; exact F.dict j kv₂ e
  inj := fun j j' kv₁ kv₂ hne e e' => by
    rw [nth_setN] at e e'
    by_cases q : j = i
    · subst q
      rw [if_neg (Ne.symm hne)] at e'
      exact F.inj _ j' kv kv₂ hne hi e'
    · rw [if_neg q] at e
      by_cases q' : j' = i
      · subst q'; exact F.inj j _ kv₁ kv hne e hi
      · rw [if_neg q'] at e'; exact F.inj j j' _ _ hne e e'
  dom := fun j kv₂ e => by
    rw [nth_setN] at e
    by_cases q : j = i
    · subst q; exact F.dom _ kv hi
    · rw [if_neg q] at e; exact F.dom j kv₂ e
  kp := F.kp
end FrS

theorem gd_some {r : List X} {i : Nat} {kv} (h : gd r i = some kv) : nth r i = .d kv := by
  unfold gd at h
  cases e : nth r i <;> rw [e] at h <;> cases h
  rfl
/-- the list of loaded modules is old -/
structure Base.Ok2 (c : Base prog w) : Prop where
  sys : ∃ o, c.h₀.get? sysModules = some o
  ne : sysModules ≠ c.P
theorem notSys {h : Heap} (h2 : Base.Ok2 c) (hx : Gd c h) {b : Addr} (hb : h.get? b = none) : (b == sysModules) = false := by
  obtain ⟨o, e⟩ := h2.sys
  have := hx.1 _ _ h2.ne e
  cases q : b == sysModules with
  | false => rfl
  | true =>
    have : b = sysModules := by simpa using q
    subst this
    rw [hb] at this; cases this

/-- an empty dict under a name -/
theorem St_dnew {g : Bool} {sc : Scope} {G : List Str} {k j : Nat} {x : Str} {px pd pos : Pos} (h2 : Base.Ok2 c) (hn : NameI sc G x j) (hs : ∀ env, EnvI sc env → swapsWith (.Dict [] [] pd) (some (.Name x px)) pos.line env = pure false) :
    St c g sc G k (.Assign [.Name x px] (.Dict [] [] pd) pos) (fun r => ob (put j r (.d [])) fun r' => some (.n r')) := by
  refine ⟨fun A env s r res kb Z δ E hA hE hF ht => ?_⟩
  obtain ⟨r', e2, ht⟩ := ob_some ht
  cases ht
  obtain ⟨hk, rfl⟩ := put_some e2
  refine wpAny_Assign_Name (wpAny_Dict_empty ?_) (hs env hE)
  have hN := get_size s.heap
  have hnk : kb s.heap.objs.size = none := by
    cases e : kb s.heap.objs.size with
    | none => rfl
    | some o => have := hF.keep _ _ e; rw [hN] at this; cases this
  refine post_store (c := c) (s₁ := { s with heap := s.heap.push { cls := .type "dict", data := .dict #[] } }) (hF.mono (sub_push _ _)) hE hn.at_ hn.one hn.kind (V := .d []) ⟨_, [], rfl, Heap.DictOfH.new s.heap, rfl, notSys h2 hF.ext hN⟩ (fun h => nomatch h) hk
    (fun kv h => ⟨_, rfl, hnk, fun q => ?_, fun i kv' hi e q => ?_⟩) (.heap (.sub (sub_push _ _))) fun s₂ p => p
  · obtain ⟨m, ⟨o, _, _, ho, _⟩, _⟩ := hF.ns
    rw [← q, hN] at ho; cases ho
  · obtain ⟨x, hx⟩ := hF.dom i kv' e
    obtain ⟨o, ho⟩ := hF.dlive hx e
    rw [q, hN] at ho; cases ho

/-- a dict under another name -/
theorem St_dmove {g : Bool} {sc : Scope} {G : List Str} {k i j : Nat} {x y : Str} {px py pos : Pos} (hij : (Nat.beq i j) = false) (hi : G[i]? = some y) (hn : NameI sc G x j) (hd : (y == ("__debug__" : Str)) = false) (hcl : (y == ("__classdict__" : Str)) = false)
    (hs : ∀ env, EnvI sc env → swapsWith (.Name y py) (some (.Name x px)) pos.line env = pure false) :
    St c g sc G k (.Assign [.Name x px] (.Name y py) pos) (fun r => ob (gd r i) fun kv => ob (put j (setN r i .u) (.d kv)) fun r' => some (.n r')) := by
  refine ⟨fun A env s r res kb Z δ E hA hE hF ht => ?_⟩
  obtain ⟨kv, e1, ht⟩ := ob_some ht
  obtain ⟨r', e2, ht⟩ := ob_some ht
  cases ht
  have e1 := gd_some e1
  have hne : i ≠ j := Nat.ne_of_beq_eq_false hij
  obtain ⟨hk, rfl⟩ := put_some e2
  obtain ⟨m, hnm, hx⟩ := hF.ns
  obtain ⟨v, hv, hr, hv'⟩ := hx i y hi (by rw [e1]; exact fun h => nomatch h)
  have := hv' (by rw [e1]; trivial)
  subst this
  rw [e1] at hr
  refine wpAny_Assign_Name (load_var hE.fn hnm hv ?_ hd hcl) (hs env hE)
  have hk' : isK (nth r j) = false := by rw [nth_setN, if_neg (Ne.symm hne)] at hk; exact hk
  refine post_store (c := c) (g := g) (r := setN r i .u) (s := s) (hF.kill i) hE hn.at_ hn.one hn.kind (V := .d kv) hr (fun h => nomatch h) hk
    (fun kv' h => ⟨_, rfl, (hF.dict i kv e1).1, (hF.dict i kv e1).2, fun i' kv₂ hi' e => ?_⟩) (.refl s) fun s₂ p => ?_
  · rw [nth_setN] at e
    by_cases q : i' = i
    · rw [if_pos q] at e; cases e
    · rw [if_neg q] at e; exact hF.inj i' i _ _ q e e1
  · obtain ⟨p1, p2, δ', p3, p4⟩ := p
    refine ⟨p1, p2, δ', p3, fun i' h => p4 i' ?_⟩
    rw [nth_setN]
    by_cases q : i' = i
    · subst q; rw [e1] at h; cases h
    · rw [if_neg q]; exact h

/-- an item of a dict is written -/
theorem dset_post {A : Around} {E : Value → Shared → Prop} {g : Bool} {k i : Nat} {G : List Str} {env : Env} {s s₁ : Shared} {r : List X} {kb : Addr → Option Obj} {Z : Addr → Prop} {δ : Nat → Addr} {kv : List (List Int × T)} {ks : List Int} {t : T} {v : Value} {ad : Addr}
    (hA : GA k A) (hF : FrS c kb Z δ s₁.heap env G r) (hi : nth r i = .d kv) (hsz : kv.length ≤ 100000) (hkey : (tk prog w).is s₁.heap ks ad) (hkr : Rep ⟨c.a, Z⟩ s₁.heap (.t (ks.map .i)) (.ref ad)) (hv : Rep ⟨c.a, Z⟩ s₁.heap t v) (hst : Stp c g s s₁) {Q : Unit → Shared → Prop}
    (hQ : ∀ s₂, Post c g kb Z δ env G r (.n (setN r i (.d (kvPut ks t kv)))) s .next s₂ → Q () s₂) :
    wpAny (model prog w) A (setItem (.ref (δ i)) (.ref ad) v) Q E s₁ := by
  obtain ⟨x, hx⟩ := hF.dom i kv hi
  obtain ⟨m, hnm, hX⟩ := hF.ns
  obtain ⟨v', _, hr, hv'⟩ := hX i x hx (by rw [hi]; exact fun h => nomatch h)
  have := hv' (by rw [hi]; trivial)
  subst this
  rw [hi] at hr
  obtain ⟨b, xs, hb, hD, hK, hS⟩ := hr
  injection hb with hb
  subst hb
  have hlen := kv_len hK
  refine wpAny_setItem_heap (room1 hA) hkey hD (fun h' hD' hs' => hQ _ ?_) (by rw [sizeLine_eq]; omega)
  obtain ⟨oD, esD, epD, hoD, _, hdD, _⟩ := id hD
  have hs : ∀ b o, b ≠ δ i → s₁.heap.get? b = some o → h'.get? b = some o := fun b o hb e => hs'.extBut b o hb e
  have hq : ∀ o, s₁.heap.get? (δ i) = some o → NotSeq o := fun o e => by rw [hoD] at e; cases e; intro it n q; rw [hdD] at q; cases q
  have kp : Kept ⟨c.a, Z⟩ s₁.heap h' := fun b o _ ⟨it, n, hd⟩ e => hs b o (fun q => by subst q; exact hq o e _ _ hd) e
  refine ⟨hst.trans (.heap fun b o _ hd e => hs b o (fun q => ?_) e), rfl, δ, hF.dset hi hs hq (fun q => ?_) (fun n cc e q => ?_) ⟨_, _, rfl, hD', ?_, hS⟩, fun i' h => ?_⟩
  · subst q; rw [hoD] at e; cases e; exact hd.1 _ _ hdD
  · obtain ⟨o, ho, _, h2, _⟩ := hF.ptab
    rw [q, hoD] at ho; cases ho; exact h2.1 _ _ hdD
  · obtain ⟨_, v, o, ho, hd⟩ := hF.cell n cc e
    rw [q, hoD] at ho; cases ho; rw [hd] at hdD; cases hdD
  · obtain ⟨_, _, _, _, _, _, _, _, hnd⟩ := hD
    exact kv_kept kp (kv_put hkr hv hK hnd)
  · rw [nth_setN]
    have : i' ≠ i := fun q => by subst q; rw [hi] at h; cases h
    rw [if_neg this]
    exact ⟨h, rfl⟩

def asKey : T → Option (List Int)
  | .t l => asInts l
  | _ => none
def dputF (i : Nat) (r : List X) (y t : T) : Option Res := ob (asKey y) fun ks => ob (gd r i) fun kv => match Nat.ble kv.length 100000 with
  | true => some (.n (setN r i (.d (kvPut ks t kv))))
  | false => none
theorem St_dput {g : Bool} {sc : Scope} {G : List Str} {k i : Nat} {x : Str} {px p2 pos : Pos} {e e₂ : Expr} {f f₂ : List X → Option T} (h : Ev c sc G k e f) (hi : G[i]? = some x) (hd : (x == ("__debug__" : Str)) = false) (hcl : (x == ("__classdict__" : Str)) = false)
    (h₂ : Ev c sc G k e₂ f₂) (hs : ∀ env, swapsWith e (some (.Subscript (.Name x px) e₂ p2)) pos.line env = pure false) :
    St c g sc G k (.Assign [.Subscript (.Name x px) e₂ p2] e pos) (fun r => ob (f r) fun t => ob (f₂ r) fun y => dputF i r y t) := by
  refine ⟨fun A env s r res kb Z δ E hA hE hF ht => ?_⟩
  obtain ⟨t, e1, ht⟩ := ob_some ht
  obtain ⟨y, e2, ht⟩ := ob_some ht
  obtain ⟨ks, e3, ht⟩ := ob_some ht
  obtain ⟨kv, e4, ht⟩ := ob_some ht
  cases e5 : Nat.ble kv.length 100000 with
  | false => rw [e5] at ht; cases ht
  | true =>
    rw [e5] at ht; cases ht
    have hsz := Nat.le_of_ble_eq_true e5
    refine wpAny_Assign_Subscript (wpAny_mono (h.go A env s r t E Z hA hE hF.ext hF.liveh hF.toE e1) (fun v s₁ ⟨k₁, r₁⟩ => ?_) fun _ _ y => y) (hs env)
    have F₁ := hF.mono k₁.sub
    have hi' := gd_some e4
    obtain ⟨m, hnm, hX⟩ := F₁.ns
    obtain ⟨v', hv, hr, hv'⟩ := hX i x hi (by rw [hi']; exact fun h => nomatch h)
    have := hv' (by rw [hi']; trivial)
    subst this
    refine load_var hE.fn hnm hv ?_ hd hcl
    refine wpAny_mono (h₂.go A env s₁ r y E Z hA hE F₁.ext F₁.liveh F₁.toE e2) (fun v₂ s₂ ⟨k₂, r₂⟩ => ?_) fun _ _ y => y
    cases y with
    | i z => cases e3
    | s p => cases e3
    | l l => cases e3
    | t l =>
      obtain ⟨b₂, rfl, hkey⟩ := tup_key (prog := prog) (w := w) e3 r₂
      exact dset_post (c := c) hA (F₁.mono k₂.sub) hi' hsz hkey (asInts_map e3 ▸ r₂) (r₁.mono k₂.sub) (.kp (k₁.trans k₂)) fun s₂ p => p
end
end Mine

namespace Mine
open PySem PySem.Calls PyProof.Rows PyProof.V PySem.SeqAt

section
variable {prog : Program} {w : World} {c : Base prog w}
theorem dict_one {K : Type} [DecidableEq K] {knd : HeapKind prog w K} {A : Around} {E : Value → Shared → Prop} {s : Shared} {env : Env} {e₁ e₂ : Expr} {pos : Pos} {Q : Value → Shared → Prop} (hu : knd.room A)
    (h : wpAny (model prog w) A (eval e₁ env) (fun kv s₁ => wpAny (model prog w) A (do let x ← eval e₂ env; standAt pos; pure x) (fun v s₂ => ∃ k a, kv = .ref a ∧ knd.is s₂.heap k a ∧ s₂.heap.DictOfH knd s.heap.objs.size [] ∧
      ∀ h', h'.DictOfH knd s.heap.objs.size [(k, a, v)] → Heap.SameBut s.heap.objs.size s₂.heap h' → Q (.ref s.heap.objs.size) { s₂ with heap := h', toks := s₂.toks + knd.draws k }) E s₁) E
        { s with heap := s.heap.push { cls := .type "dict", data := .dict #[] } }) :
    wpAny (model prog w) A (eval (.Dict [some e₁] [e₂] pos) env) Q E s := by
  have hshape : (evalEachOpt [some e₁] env).zip ((evalEach [e₂] env).map fun v => do let x ← v; standAt pos; pure x) = [(eval e₁ env, (do let x ← eval e₂ env; standAt pos; pure x))].map fun p => (some p.1, p.2) := rfl
  rw [arm_eval_Dict, hshape, dictDisplay_pairs _ (by simp) (by simp)]
  refine wpAny_bind (wpAny_standAt (wpAny_bind ?_))
  unfold subDict
  refine wpAny_bind (wpAny_alloc ?_)
  refine wpAny_bind (wpAny_holding ?_)
  rw [if_pos (by simp)]
  refine wpAny_bind (evalPairs_cons (wpAny_mono h (fun kv s₁ h₁ => wpAny_mono h₁ (fun v s₂ h₂ => evalPairs_nil ?_) fun _ _ y => y) fun _ _ y => y))
  obtain ⟨k, a, rfl, hkey, hD, hQ⟩ := h₂
  refine wpAny_holding ?_
  rw [List.forIn_cons]
  refine wpAny_bind (wpAny_bind (wpAny_bind (wpAny_dictSet_heap hu hkey hD (fun h' hD' hs' => wpAny_pure ?_) (by simp))))
  dsimp only
  rw [List.forIn_nil]
  exact wpAny_pure (wpAny_pure (wpAny_pure (wpAny_pure (hQ h' (by rw [storedH_new rfl] at hD'; exact hD') hs'))))

/-- a dict of one item under a name -/
theorem St_done1 {g : Bool} {sc : Scope} {G : List Str} {k j : Nat} {x : Str} {e₁ e₂ : Expr} {f₁ f₂ : List X → Option T} {px pd pos : Pos} (h2 : Base.Ok2 c) (h₁ : Ev c sc G k e₁ f₁) (h₂ : Ev c sc G k e₂ f₂) (hn : NameI sc G x j)
    (hs : ∀ env, EnvI sc env → swapsWith (.Dict [some e₁] [e₂] pd) (some (.Name x px)) pos.line env = pure false) :
    St c g sc G k (.Assign [.Name x px] (.Dict [some e₁] [e₂] pd) pos) (fun r => ob (f₁ r) fun y => ob (f₂ r) fun t => ob (asKey y) fun ks => ob (put j r (.d [(ks, t)])) fun r' => some (.n r')) := by
  refine ⟨fun A env s r res kb Z δ E hA hE hF ht => ?_⟩
  obtain ⟨y, e1, ht⟩ := ob_some ht
  obtain ⟨t, e2, ht⟩ := ob_some ht
  obtain ⟨ks, e3, ht⟩ := ob_some ht
  obtain ⟨r', e4, ht⟩ := ob_some ht
  cases ht
  obtain ⟨hk, rfl⟩ := put_some e4
  have hN := get_size s.heap
  have hnk : kb s.heap.objs.size = none := by
    cases e : kb s.heap.objs.size with
    | none => rfl
    | some o => have := hF.keep _ _ e; rw [hN] at this; cases this
  have F₀ := hF.mono (sub_push s.heap { cls := .type "dict", data := .dict #[] })
  refine wpAny_Assign_Name (dict_one (knd := tk prog w) (show A.units < cLine from by have := hA.cl (j := 0) (by decide); simpa using this) ?_) (hs env hE)
  refine wpAny_mono (h₁.go A env { s with heap := s.heap.push { cls := .type "dict", data := .dict #[] } } r y E Z hA hE F₀.ext F₀.liveh F₀.toE e1) (fun kvv s₁ ⟨k₁, r₁⟩ => ?_) fun _ _ y => y
  have F₁ := F₀.mono k₁.sub
  refine wpAny_bind (wpAny_mono (h₂.go A env s₁ r t E Z hA hE F₁.ext F₁.liveh F₁.toE e2) (fun v s₂ ⟨k₂, r₂⟩ => ?_) fun _ _ y => y)
  refine wpAny_bind (wpAny_standAt (wpAny_pure ?_))
  have F₂ := F₁.mono k₂.sub
  have r₁ := r₁.mono k₂.sub
  cases y with
  | i z => cases e3
  | s p => cases e3
  | l l => cases e3
  | t l =>
    obtain ⟨b₂, rfl, hkey⟩ := tup_key (prog := prog) (w := w) e3 r₁
    have hD0 : s₂.heap.DictOfH (tk prog w) s.heap.objs.size [] := dictOfH_mono (k₁.trans k₂).sub (Heap.DictOfH.new s.heap)
    refine ⟨ks, b₂, rfl, hkey, hD0, fun h' hD' hs' => ?_⟩
    have hs0 : ∀ b o, b ≠ s.heap.objs.size → s₂.heap.get? b = some o → h'.get? b = some o := fun b o hb e => hs'.extBut b o hb e
    obtain ⟨oD, esD, epD, hoD, _, hdD, _⟩ := id hD0
    have hq : ∀ o, s₂.heap.get? s.heap.objs.size = some o → NotSeq o := fun o e => by rw [hoD] at e; cases e; intro it n q; rw [hdD] at q; cases q
    have kp : Kept ⟨c.a, Z⟩ s₂.heap h' := fun b o _ ⟨it, n, hd⟩ e => hs0 b o (fun q => by subst q; exact hq o e _ _ hd) e
    have hsub : Sub s.heap h' := fun b o e => hs0 b o (fun q => by subst q; rw [hN] at e; cases e) ((sub_push _ _).trans (k₁.trans k₂).sub b o e)
    have F₃ : FrS c kb Z δ h' env G r := hF.mono hsub
    obtain ⟨hh₁, tk₁, rfl, hk₁⟩ := k₁
    obtain ⟨hh₂, tk₂, rfl, hk₂⟩ := k₂
    refine post_store (c := c) (g := g) (s := s) (s₁ := { s with heap := h', toks := _ }) F₃ hE hn.at_ hn.one hn.kind (V := .d [(ks, t)]) ⟨_, _, rfl, hD', ⟨b₂, v, [], rfl, asInts_map e3 ▸ Rep.mono' kp _ _ r₁, Rep.mono' kp _ _ r₂, rfl⟩, notSys h2 hF.ext hN⟩ (fun h => nomatch h) hk
      (fun kv h => ⟨_, rfl, hnk, fun q => ?_, fun i kv' hi e q => ?_⟩) (.heap (.sub hsub)) fun s₂ p => p
    · obtain ⟨m, ⟨o, _, _, ho, _⟩, _⟩ := hF.ns
      rw [← q, hN] at ho; cases ho
    · obtain ⟨x, hx⟩ := hF.dom i kv' e
      obtain ⟨o, ho⟩ := hF.dlive hx e
      rw [q, hN] at ho; cases ho
end
end Mine

namespace Mine
open PySem PySem.Calls PyProof.Rows PyProof.V PySem.SeqAt

/-! a dict by rows, walked by its items -/
section
variable {prog : Program} {w : World} {A : Around} {E : Value → Shared → Prop} {s : Shared}

/-- the entries of a dict as they stand -/
def RawD (h : Heap) (d : Addr) (es : Array DictEntry) (ep : Nat) : Prop := ∃ o, h.get? d = some o ∧ o.cls = .type "dict" ∧ o.data = .dict es ep

theorem meets_items_raw (d : Addr) (hd : (d == sysModules) = false) :
    MeetsIn prog w (Builtin.«dict.items» ⟨[.ref d], []⟩) (fun _ R s => s.TypeIs (.ref d) "dict" ∧ R (.ok (.ret (.ref s.heap.objs.size))) { s with heap := s.heap.push { cls := .type "dict_items", data := .fields #[.ref d] } }) :=
  .of_wp fun A R s ⟨hT, h⟩ => by
    unfold Builtin.«dict.items»
    refine wpAny_bind ?_
    unfold Builtin.Dict.noArgs
    refine wpAny_bind (wpAny_notOrdered_dict hT ?_)
    show wpAny _ _ (pure d) _ _ s
    refine wpAny_pure ?_
    show wpAny _ _ (Builtin.Dict.showsAll d >>= _) _ _ s
    unfold Builtin.Dict.showsAll
    rw [if_neg (by rw [hd]; exact Bool.false_ne_true)]
    exact wpAny_bind (wpAny_pure (wpAny_bind (wpAny_newObj_type (wpAny_pure ⟨_, rfl, h⟩))))

theorem iter_items_raw {v d : Addr} {es : Array DictEntry} {ep : Nat} {Q : Value → Shared → Prop} (hv : s.heap.IsItemsView v d) (hm : RawD s.heap d es ep)
    (hQ : Q (.ref s.heap.objs.size) { s with heap := s.heap.push { cls := .type "dict_itemiterator", data := .fields #[.none, .bool false, .ref d, .int 0 0, .int es.size 0, .int ep 0, .none, .none] } }) :
    wpAny (model prog w) A (pyIter (.ref v)) Q E s := by
  obtain ⟨ov, hov, hcv, hdv⟩ := id hv
  obtain ⟨o, ho, hc, hdat⟩ := id hm
  refine wpAny_pyIter_slot hv.typeIs F.slot_dict_items_iter (wpAny_call_entry F.slot_dict_items_iter hv.typeIs F.entry_dict_items_iter ?_ (F.args_dict_items_iter_1 _))
  unfold Builtin.«dict_items.__iter__»
  refine wpAny_bind (wpAny_pure (wpAny_bind ?_))
  unfold Builtin.Dict_items.dictOf
  refine wpAny_bind (wpAny_field hov hdv (x := .ref d) rfl (wpAny_pure (wpAny_bind ?_)))
  unfold Builtin.Dict_items.newIterator
  refine wpAny_bind (wpAny_dictEntries ho hdat (wpAny_bind (wpAny_dictEpoch ho hdat ?_)))
  have hown : Builtin.Dict_items.ownsTuple "dict_itemiterator" = true := by decide
  simp only [hown, if_true]
  refine wpAny_newObj_type (wpAny_pure ⟨_, rfl, "dict_itemiterator", _, ⟨_, Heap.get?_push_size _ rfl, rfl⟩, F.slot_dict_itemiterator_next.lookup, ?_⟩)
    (by simp only [sizeOk, Builtin.Dict_items.ownedTupleFields, List.size_toArray, List.length_append, List.length_cons, List.length_nil, sizeLine_eq]; omega)
  simpa [rawInt, Builtin.Dict_items.ownedTupleFields] using hQ

theorem next_item_raw {it d : Addr} {i ep : Nat} {es : Array DictEntry} {x : DictEntry} {ok ov : Value} {Q : Option Value → Shared → Prop} (hit : IsItemIter s.heap it d i es.size ep ok ov) (hm : RawD s.heap d es ep) (hx : es[i]? = some x)
    (hQ : ∀ h', IsItemIterOut h' it d (i + 1) es.size ep x.key x.val s.heap.objs.size → h'.get? s.heap.objs.size = some { cls := .type "tuple", data := .seq #[x.key, x.val] } →
      (∀ b o, b ≠ it → s.heap.get? b = some o → h'.get? b = some o) → Q (some (.ref s.heap.objs.size)) { s with heap := h' }) :
    wpAny (model prog w) A (pyNext (.ref it)) Q E s := by
  obtain ⟨hp, g, dr, tk, os⟩ := s
  obtain ⟨od, hod, hcd, hdd⟩ := id hm
  have hT : Shared.TypeIs ⟨hp, g, dr, tk, os⟩ (.ref it) "dict_itemiterator" := ⟨_, hit, rfl⟩
  have hil : it < hp.objs.size := Heap.lt_size hit
  unfold pyNext
  refine wpAny_bind (wpAny_attempt (wpAny_callSpecial?_slot (name := Str.ofString "__next__") hT F.slot_dict_itemiterator_next
    (wpAny_call_entry F.slot_dict_itemiterator_next hT F.entry_dict_itemiterator_next ?_ (F.args_dict_itemiterator_next_1 _))))
  refine wpAny_bind (wpAny_pure (wpAny_bind (wpAny_bind ?_)))
  first | refine wpAny_bind (wpAny_typeNameOfWhole_itemiter hT (wpAny_pure ?_)) | refine wpAny_bind (wpAny_typeNameOf_itemiter hT (wpAny_pure ?_))
  refine wpAny_bind (wpAny_fieldsOf hit rfl ?_)
  have hown : Builtin.Dict_items.ownsTuple "dict_itemiterator" = true := by decide
  simp only [hown, if_true]
  show wpAny _ _ (if (Value.ref d == Value.none) = true then _ else _) _ _ _
  rw [if_neg (show ¬ ((Value.ref d == Value.none) = true) from Bool.false_ne_true)]
  refine wpAny_bind (wpAny_pure (wpAny_bind (wpAny_dictEntries hod hdd ?_)))
  rw [if_neg (by simp)]
  refine wpAny_bind (wpAny_pure (wpAny_bind (wpAny_dictEpoch hod hdd ?_)))
  rw [if_neg (by simp)]
  refine wpAny_pure ?_
  simp only [show ¬ ((i : Int) < 0) from by omega, if_false, Int.toNat_natCast, hx]
  refine wpAny_bind ?_
  first | refine wpAny_bind (wpAny_typeNameOfWhole_itemiter hT (wpAny_pure ?_)) | refine wpAny_bind (wpAny_typeNameOf_itemiter hT (wpAny_pure ?_))
  refine wpAny_bind (wpAny_isOneOf_itemiter hT ?_)
  show wpAny _ _ (setField (.ref it) 3 (rawInt ((i : Int) + 1)) >>= _) _ _ ⟨hp, g, dr, tk, os⟩
  refine wpAny_bind (wpAny_setField_rec hit (by simp) fun h₁ he₁ hs₁ => ?_)
  replace hs₁ : Heap.SameBut it hp h₁ := hs₁
  replace he₁ : IsItemIter h₁ it d (i + 1) es.size ep ok ov := by
    have e : ((i + 1 : Nat) : Int) = (i : Int) + 1 := by omega
    unfold IsItemIter; rw [e]; simpa [rawInt] using he₁
  have hT₁ : Shared.TypeIs ⟨h₁, g, dr, tk, os⟩ (.ref it) "dict_itemiterator" := ⟨_, he₁, rfl⟩
  refine wpAny_bind (wpAny_holding (wpAny_bind (wpAny_isOneOf_itemiter hT₁ (wpAny_bind (wpAny_isOneOf_itemiter hT₁ ?_)))))
  show wpAny _ _ (Builtin.Dict_items.pairFromOwner (.ref it) 6 x.key x.val) _ _ ⟨h₁, g, dr, tk, os⟩
  unfold Builtin.Dict_items.pairFromOwner
  refine wpAny_bind (wpAny_newTuple ?_)
  have hz : h₁.objs.size = hp.objs.size := hs₁.1
  have he₂ : IsItemIter (h₁.push { cls := .type "tuple", data := .seq #[x.key, x.val] }) it d (i + 1) es.size ep ok ov := Heap.get?_push_of_some _ he₁
  have ht₂ : (h₁.push { cls := .type "tuple", data := .seq #[x.key, x.val] }).get? hp.objs.size = some { cls := .type "tuple", data := .seq #[x.key, x.val] } := by rw [← hz]; exact Heap.get?_push_size _ rfl
  have hk₂ : ∀ b o, b ≠ it → hp.get? b = some o → (h₁.push { cls := .type "tuple", data := .seq #[x.key, x.val] }).get? b = some o := fun b o hb e => Heap.get?_push_of_some _ (hs₁.extBut b o hb e)
  show wpAny _ _ (Builtin.Dict_items.ownedTupleIsFree (.ref it) >>= _) _ _ ⟨h₁.push { cls := .type "tuple", data := .seq #[x.key, x.val] }, g, dr, tk, os⟩
  rw [hz]
  generalize h₁.push { cls := .type "tuple", data := .seq #[x.key, x.val] } = h₂ at he₂ ht₂ hk₂ ⊢
  refine wpAny_bind ?_
  unfold Builtin.Dict_items.ownedTupleIsFree
  refine wpAny_bind (wpAny_field he₂ rfl (x := .none) rfl (wpAny_pure ?_))
  simp only [if_true]
  refine wpAny_bind (wpAny_field he₂ rfl (x := ok) rfl (wpAny_bind (wpAny_field he₂ rfl (x := ov) rfl ?_)))
  refine wpAny_bind (wpAny_setField_rec he₂ (by simp) fun h₃ he₃ hs₃ => ?_)
  replace hs₃ : Heap.SameBut it h₂ h₃ := hs₃
  replace he₃ : IsItemIter h₃ it d (i + 1) es.size ep x.key ov := he₃
  refine wpAny_bind (wpAny_setField_rec he₃ (by simp) fun h₄ he₄ hs₄ => ?_)
  replace hs₄ : Heap.SameBut it h₃ h₄ := hs₄
  replace he₄ : IsItemIter h₄ it d (i + 1) es.size ep x.key x.val := he₄
  refine wpAny_bind (wpAny_setField_rec he₄ (by simp) fun h₅ he₅ hs₅ => ?_)
  replace hs₅ : Heap.SameBut it h₄ h₅ := hs₅
  replace he₅ : IsItemIterOut h₅ it d (i + 1) es.size ep x.key x.val hp.objs.size := he₅
  refine wpAny_bind (wpAny_setField_rec he₅ (by simp) fun h₆ he₆ hs₆ => ?_)
  replace hs₆ : Heap.SameBut it h₅ h₆ := hs₆
  have up : ∀ b o, b ≠ it → h₂.get? b = some o → h₆.get? b = some o := fun b o hb e => hs₆.extBut b o hb (hs₅.extBut b o hb (hs₄.extBut b o hb (hs₃.extBut b o hb e)))
  exact wpAny_bind (wpAny_letGo (wpAny_pure (wpAny_pure ⟨_, rfl, wpAny_pure (hQ h₆ he₆ (up _ _ (Nat.ne_of_gt hil) ht₂) fun b o hb e => up b o hb (hk₂ b o hb e))⟩)))

theorem next_end_raw {it d : Addr} {i ep : Nat} {es : Array DictEntry} {ok ov : Value} {Q : Option Value → Shared → Prop} (hh : A.handled = none) (hit : IsItemIter s.heap it d i es.size ep ok ov) (hm : RawD s.heap d es ep) (hx : es.size ≤ i)
    (hQ : ∀ h', Heap.ExtBut it s.heap h' → Q none { s with heap := h' }) : wpAny (model prog w) A (pyNext (.ref it)) Q E s := by
  obtain ⟨od, hod, hcd, hdd⟩ := id hm
  have hT : s.TypeIs (.ref it) "dict_itemiterator" := ⟨_, hit, rfl⟩
  unfold pyNext
  refine wpAny_bind (wpAny_attempt (wpAny_callSpecial?_slot (name := Str.ofString "__next__") hT F.slot_dict_itemiterator_next
    (wpAny_call_entry F.slot_dict_itemiterator_next hT F.entry_dict_itemiterator_next ?_ (F.args_dict_itemiterator_next_1 _))))
  refine wpAny_bind (wpAny_pure (wpAny_bind (wpAny_bind ?_)))
  first | refine wpAny_bind (wpAny_typeNameOfWhole_itemiter hT (wpAny_pure ?_)) | refine wpAny_bind (wpAny_typeNameOf_itemiter hT (wpAny_pure ?_))
  refine wpAny_bind (wpAny_fieldsOf hit rfl ?_)
  have hown : Builtin.Dict_items.ownsTuple "dict_itemiterator" = true := by decide
  simp only [hown, if_true]
  show wpAny _ _ (if (Value.ref d == Value.none) = true then _ else _) _ _ s
  rw [if_neg (show ¬ ((Value.ref d == Value.none) = true) from Bool.false_ne_true)]
  refine wpAny_bind (wpAny_pure (wpAny_bind (wpAny_dictEntries hod hdd ?_)))
  rw [if_neg (by simp)]
  refine wpAny_bind (wpAny_pure (wpAny_bind (wpAny_dictEpoch hod hdd ?_)))
  rw [if_neg (by simp)]
  refine wpAny_pure ?_
  simp only [show ¬ ((i : Int) < 0) from by omega, if_false, Int.toNat_natCast, Array.getElem?_eq_none hx]
  refine wpAny_bind ?_
  first | refine wpAny_bind (wpAny_typeNameOfWhole_itemiter hT (wpAny_pure ?_)) | refine wpAny_bind (wpAny_typeNameOf_itemiter hT (wpAny_pure ?_))
  show wpAny _ _ (setField (.ref it) 2 .none >>= _) _ _ s
  refine wpAny_bind (wpAny_setField hit rfl (by simp) ?_)
  show wpAny _ _ (newExc (.type "StopIteration") [] >>= _) _ _ _
  refine wpAny_bind ?_
  simp only [newExc, newTuple]
  refine wpAny_bind (wpAny_newObj_type ?_ (by size_fits))
  refine wpAny_bind (m := firstArgMember _ _) (wpAny_of_eq (a := Value.none) (by first | rfl | (simp only [firstArgMember]; rfl)) ?_)
  refine wpAny_newObj_type ?_ (by size_fits)
  simp only [raiseNew]
  refine wpAny_bind (wpAny_handled ?_)
  rw [show A.in1.handled = none from hh]
  refine wpAny_bind (wpAny_pure (wpAny_throw ?_))
  refine wpAny_bind (wpAny_isInstance (T := "StopIteration") (b := true) ⟨_, Heap.get?_push_size _ rfl, rfl⟩ isSubtype_stop ?_)
  exact wpAny_pure (hQ _ (((Heap.SameBut.update ..).extBut.push _).push _))
end
end Mine

namespace Mine
open PySem PySem.Calls PyProof.Rows PyProof.V PySem.SeqAt

section
variable {prog : Program} {w : World} {c : Base prog w}
namespace FrS
variable {kb : Addr → Option Obj} {Z : Addr → Prop} {δ : Nat → Addr} {h : Heap} {env : Env} {G : List Str} {r : List X} {i : Nat} {o : Obj} {kv : List (List Int × T)}
/-- a dict is laid aside -/
theorem lock (F : FrS c kb Z δ h env G r) (hi : nth r i = .d kv) (ho : h.get? (δ i) = some o) (hc : ∀ n cc, env.cells.lookup n = some cc → cc ≠ δ i) : FrS c (Mine.pin kb (δ i) o) Z δ h env G (setN r i .k) where
  base := fun b o hb e => pin_sub _ _ (F.base b o hb e)
  live := fun b z => let ⟨o, e⟩ := F.live b z; ⟨o, pin_sub _ _ e⟩
  keep := fun b o' e => by
    rcases pin_or e with h1 | ⟨rfl, rfl⟩
    · exact F.keep _ _ h1
    · exact ho
  ptab := F.ptab
  loc := pin_none F.loc fun q => (F.dict i kv hi).2 q.symm
  ns := by
    obtain ⟨m, hn, hx⟩ := F.ns
    refine ⟨m, hn, fun j x hj hu => ?_⟩
    rw [nth_setN] at hu ⊢
    by_cases e : j = i
    · subst e
      obtain ⟨v, h1, h2, h3⟩ := hx j x hj (by rw [hi]; exact fun h => nomatch h)
      rw [if_pos rfl]
      exact ⟨v, h1, trivial, fun _ => h3 (by rw [hi]; trivial)⟩
    · rw [if_neg e] at hu ⊢; exact hx j x hj hu
  cell := fun n cc e => ⟨pin_none (F.cell n cc e).1 (hc n cc e), (F.cell n cc e).2⟩
  apart := F.apart
  dict := fun j kv₂ e => by
    rw [nth_setN] at e
    by_cases q : j = i
    · rw [if_pos q] at e; cases e
    · rw [if_neg q] at e
      exact ⟨pin_none (F.dict j kv₂ e).1 (F.inj j i _ _ q e hi), (F.dict j kv₂ e).2⟩
  inj := fun j j' kv₁ kv₂ hne e e' => by
    rw [nth_setN] at e e'
    by_cases q : j = i
    · rw [if_pos q] at e; cases e
    · by_cases q' : j' = i
      · rw [if_pos q'] at e'; cases e'
      · rw [if_neg q] at e; rw [if_neg q'] at e'; exact F.inj j j' _ _ hne e e'
  dom := fun j kv₂ e => by
    rw [nth_setN] at e
    by_cases q : j = i
    · rw [if_pos q] at e; cases e
    · rw [if_neg q] at e; exact F.dom j kv₂ e
  kp := pin_none F.kp (F.dP hi)
/-- and taken up again -/
theorem unlock {x : Str} (F : FrS c (Mine.pin kb (δ i) o) Z δ h env G r) (hx : G[i]? = some x) (hi : nth r i = .k) (hkb : kb (δ i) = none) (base : ∀ b o, b ≠ c.P → c.h₀.get? b = some o → kb b = some o) (live : ∀ b, Z b → ∃ o, kb b = some o)
    (hX : RepX prog w ⟨c.a, Z⟩ h (.d kv) (.ref (δ i))) : FrS c kb Z δ h env G (setN r i (.d kv)) := by
  have F' := F.rebase base live pin_sub
  have hl : env.locals ≠ δ i := fun q => by have := F.loc; rw [q, pin_self hkb] at this; cases this
  have hd : ∀ j kv₂, nth r j = .d kv₂ → δ j ≠ δ i := fun j kv₂ e q => by
    have := (F.dict j kv₂ e).1
    rw [q, pin_self hkb] at this; cases this
  refine ⟨F'.base, F'.live, F'.keep, F'.ptab, F'.loc, ?_, F'.cell, F'.apart, fun j kv₂ e => ?_, fun j j' kv₁ kv₂ hne e e' => ?_, fun j kv₂ e => ?_, F'.kp⟩
  · obtain ⟨m, hn, hh⟩ := F'.ns
    refine ⟨m, hn, fun j y hj hu => ?_⟩
    rw [nth_setN] at hu ⊢
    by_cases e : j = i
    · subst e
      obtain ⟨v, h1, h2, h3⟩ := hh j y hj (by rw [hi]; exact fun h => nomatch h)
      have := h3 (by rw [hi]; trivial)
      subst this
      rw [if_pos rfl]
      exact ⟨_, h1, hX, fun _ => rfl⟩
    · rw [if_neg e] at hu ⊢; exact hh j y hj hu
  · rw [nth_setN] at e
    by_cases q : j = i
    · subst q; exact ⟨hkb, fun h => hl h.symm⟩
    · rw [if_neg q] at e; exact F'.dict j kv₂ e
  · rw [nth_setN] at e e'
    by_cases q : j = i
    · subst q
      rw [if_neg (Ne.symm hne)] at e'
      exact fun h => hd j' _ e' h.symm
    · rw [if_neg q] at e
      by_cases q' : j' = i
      · subst q'; exact hd j _ e
      · rw [if_neg q'] at e'; exact F'.inj j j' _ _ hne e e'
  · rw [nth_setN] at e
    by_cases q : j = i
    · subst q; exact ⟨x, hx⟩
    · rw [if_neg q] at e; exact F'.dom j kv₂ e
end FrS

def pairT (x : List Int × T) : T := .t [.t (x.1.map .i), x.2]
def itemTg (js : List Nat) (r : List X) (t : T) : Option (List X) := match t with
  | .t ts => putAll js r ts
  | _ => none
theorem kv_at {q : Vw} {h : Heap} : ∀ {kv : List (List Int × T)} {xs : List (List Int × Addr × Value)}, KV q h kv xs → ∀ {j : Nat} {p : List Int × T}, kv[j]? = some p → ∃ b v, xs[j]? = some (p.1, b, v) ∧ Rep q h (.t (p.1.map .i)) (.ref b) ∧ Rep q h p.2 v
  | [], _, x, j, p, e => by simp at e
  | (k, t) :: l, _, ⟨b, v, r, e, kr, x, y⟩, j, p, hp => by
    subst e
    cases j with
    | zero => simp at hp; subst hp; exact ⟨b, v, rfl, kr, x⟩
    | succ j => simp at hp; simpa using kv_at y hp

theorem St_items (h2 : Base.Ok2 c) {g : Bool} {sc : Scope} {G : List Str} {k i nn : Nat} {x : Str} {es : List Expr} {js : List Nat} {body : List Stmt} {fb : List X → Option Res} {px ap cp pt pos : Pos} (hi : G[i]? = some x) (hd : (x == ("__debug__" : Str)) = false) (hcl : (x == ("__classdict__" : Str)) = false)
    (hn : NamesI sc G es js) (hb : SS c g sc G k body fb) (hline : (ap.endLine == cp.line) = true)
    (hbase : ∀ env, attributeBase (.Name x px) "items" env (eval (.Name x px) env) = eval (.Name x px) env)
    (hs : ∀ (env : Env) (y : Value), foldedSetIterable (.Call (.Attribute (.Name x px) "items" ap) [] [] cp) env y = pure y) :
    St c g sc G k (.For (.Tuple es nn pt) (.Call (.Attribute (.Name x px) "items" ap) [] [] cp) body [] pos) (fun r => ob (gd r i) fun kv => ob (loopG (itemTg js) fb (kv.map pairT) (setN r i .k)) fun res => match res with
      | .n r' => some (.n (setN r' i (.d kv)))
      | .ret t => some (.ret t)) := by
  refine ⟨fun A env s r res kb Z δ E hA hE hF ht => ?_⟩
  obtain ⟨kv, e1, ht⟩ := ob_some ht
  obtain ⟨res₀, e2, ht⟩ := ob_some ht
  have hri := gd_some e1
  obtain ⟨m, hnm, hX⟩ := hF.ns
  obtain ⟨v', hv, hr, hv'⟩ := hX i x hi (by rw [hri]; exact fun h => nomatch h)
  have := hv' (by rw [hri]; trivial)
  subst this
  rw [hri] at hr
  obtain ⟨b, xs, hb', hD, hK, hS⟩ := hr
  injection hb' with hb'
  subst hb'
  obtain ⟨oD, esD, epD, hoD, hcD, hdD, heD, hkD, hnD⟩ := id hD
  have hsz : esD.size = xs.length := size_of_entries heD
  have hlen := kv_len hK
  have hcc : ∀ n cc, env.cells.lookup n = some cc → cc ≠ δ i := fun n cc e q => by
    obtain ⟨_, v, o, ho, hd⟩ := hF.cell n cc e
    rw [q, hoD] at ho; cases ho; rw [hd] at hdD; cases hdD
  have FL := hF.lock hri hoD hcc
  refine wpAny_For ?_ (hs env)
  refine wpAny_Call_method (T := "dict") (id := "dict.items") (hbase env) rfl hline F.plainAttrs_dict F.slot_dict_items F.type_dict_items (load_var hE.fn hnm hv ⟨hD.typeIs, dictOfH_noDict hD, ?_⟩ hd hcl)
  show wpAny _ _ (callWith cp (.builtin "dict.items") [.ref (δ i)] [] []) _ E s
  refine method_meetsIn F.slot_dict_items F.entry_dict_items rfl (PySem.evalArgs_none ⟨rfl, hD.typeIs, F.args_dict_items_1 _, _, meets_items_raw (δ i) hS, hD.typeIs, ?_⟩)
  have sub1 : Sub s.heap (s.heap.push { cls := .type "dict_items", data := .fields #[.ref (δ i)] }) := sub_push _ _
  refine iter_items_raw (d := δ i) (es := esD) (ep := epD) ⟨_, Heap.get?_push_size _ rfl, rfl, rfl⟩ ⟨oD, sub1 _ _ hoD, hcD.1, hdD⟩ ?_
  generalize hh₁ : s.heap.push { cls := .type "dict_items", data := .fields #[.ref (δ i)] } = h₁ at sub1 ⊢
  have hIn : h₁.get? h₁.objs.size = none := get_size h₁
  have hIs : ∀ b o, s.heap.get? b = some o → b ≠ h₁.objs.size := fun b o e q => by have := sub1 b o e; rw [q, hIn] at this; cases this
  have hit₀ : IsItemIter (h₁.push { cls := .type "dict_itemiterator", data := .fields #[.none, .bool false, .ref (δ i), .int 0 0, .int esD.size 0, .int epD 0, .none, .none] }) h₁.objs.size (δ i) 0 esD.size epD .none .none := Heap.get?_push_size _ rfl
  have sub2 : Sub s.heap (h₁.push { cls := .type "dict_itemiterator", data := .fields #[.none, .bool false, .ref (δ i), .int 0 0, .int esD.size 0, .int epD 0, .none, .none] }) := sub1.trans (sub_push _ _)
  show codeAny _ A (.forLoop (.Tuple es nn pt) (.ref h₁.objs.size) body [] env) _ { s with heap := (h₁.push { cls := .type "dict_itemiterator", data := .fields #[.none, .bool false, .ref (δ i), .int 0 0, .int esD.size 0, .int epD 0, .none, .none] }) }
  generalize hI : h₁.objs.size = I at hit₀ hIn hIs ⊢
  generalize hh₂ : h₁.push { cls := .type "dict_itemiterator", data := .fields #[.none, .bool false, .ref (δ i), .int 0 0, .int esD.size 0, .int epD 0, .none, .none] } = h₂ at hit₀ sub2 ⊢
  obtain ⟨oP, hoP, hPs, hPd, hPT⟩ := hF.ptab
  have hPI : c.P ≠ I := hIs _ _ hoP
  have hkI : pin kb (δ i) oD I = none := by
    cases e : pin kb (δ i) oD I with
    | none => rfl
    | some o => exact absurd rfl (hIs _ _ (FL.keep _ _ e))
  have hkr : ∀ i', nth r i' = .k → i' ≠ i := fun i' h q => by subst q; rw [hri] at h; cases h
  refine codeAny_forLoop_any (fun n s' => ∃ j r' δ' ok ov, n = kv.length + 1 - j ∧ j ≤ kv.length ∧ Stp c g s s' ∧ (∀ b o, b ≠ I → (g = true → b ≠ c.P) → NotDC o → h₂.get? b = some o → s'.heap.get? b = some o) ∧ IsItemIter s'.heap I (δ i) j esD.size epD ok ov ∧
      FrS c (pin kb (δ i) oD) Z δ' s'.heap env G r' ∧ (∀ i', nth (setN r i .k) i' = .k → nth r' i' = .k ∧ δ' i' = δ i') ∧ loopG (itemTg js) fb ((kv.map pairT).drop j) r' = some res₀ ∧ KV ⟨c.a, Z⟩ s'.heap kv xs) ?_ (kv.length + 1)
    ⟨0, setN r i .k, δ, .none, .none, rfl, Nat.zero_le _, .heap (.sub sub2), fun _ _ _ _ _ e => e, hit₀, FL.mono sub2, fun i' hi' => ⟨hi', rfl⟩, e2, hK.mono sub2⟩
  rintro n s' ⟨j, r', δ', ok, ov, rfl, hj, hst, hnd, hit, F', hk, hl, hKV⟩
  have hDi : RawD s'.heap (δ i) esD epD := ⟨oD, F'.keep _ _ (pin_self (hF.dict i kv hri).1), hcD.1, hdD⟩
  -- what a step of the iterator leaves
  have move : ∀ {h₃ : Heap}, (∀ b o, b ≠ I → s'.heap.get? b = some o → h₃.get? b = some o) → FrS c (pin kb (δ i) oD) Z δ' h₃ env G r' := fun hk₁ => F'.chg fun b o e q => hk₁ b o (fun hm => by
    subst hm
    rw [hit] at e; cases e
    rcases q with ⟨items, n, hd⟩ | q | q | q
    · exact nomatch hd
    · exact q notDC_fields
    · rw [hkI] at q; cases q
    · exact hPI q.symm) e
  have stpI : ∀ {h₃ : Heap} {tk : Nat}, (∀ b o, b ≠ I → s'.heap.get? b = some o → h₃.get? b = some o) → Stp c g s { s' with heap := h₃, toks := tk } := fun hk₁ => by
    obtain ⟨a1, a2, a3, a4, a5⟩ := hst
    exact ⟨a1, a2, a3, a4, fun b o hg hd e => hk₁ b o (hIs _ _ e) (a5 b o hg hd e)⟩
  have kpI : ∀ {h₃ : Heap}, (∀ b o, b ≠ I → s'.heap.get? b = some o → h₃.get? b = some o) → Kept ⟨c.a, Z⟩ s'.heap h₃ := fun hk₁ b o _ ⟨items, n, hd⟩ e => hk₁ b o (fun q => by subst q; rw [hit] at e; cases e; exact nomatch hd) e
  by_cases hlt : j < kv.length
  · have hgt : kv[j]? = some kv[j] := by simp [hlt]
    obtain ⟨kb₁, vv, hxj, hkrep, hvrep⟩ := kv_at hKV hgt
    have hej : esD[j]? = some (entryOfKey (tk prog w) (kv[j].1, kb₁, vv)) := by rw [entry_at heD, hxj]; rfl
    refine next_item_raw hit hDi hej fun h₃ heo ht₃ hk₃ => ?_
    have hd3 : (kv.map pairT).drop j = pairT kv[j] :: (kv.map pairT).drop (j + 1) := by
      rw [List.drop_eq_getElem_cons (by simpa using hlt)]; simp
    rw [hd3] at hl
    obtain ⟨r₁, er, hl⟩ := ob_some hl
    obtain ⟨res₁, eb, hl⟩ := ob_some hl
    refine wpAny_letOwnedTupleGo_items heo fun h₄ he₄ hs₄ => ?_
    replace hs₄ : Heap.SameBut I h₃ h₄ := hs₄
    have hk₄ : ∀ b o, b ≠ I → s'.heap.get? b = some o → h₄.get? b = some o := fun b o hb e => hs₄.extBut b o hb (hk₃ b o hb e)
    have F₄ := move hk₄
    have hzn : s'.heap.get? s'.heap.objs.size = none := get_size _
    have hIz : s'.heap.objs.size ≠ I := fun q => by rw [q, hit] at hzn; cases hzn
    have hv : Rep ⟨c.a, Z⟩ h₄ (pairT kv[j]) (.ref s'.heap.objs.size) := by
      refine ⟨_, #[.ref kb₁, vv], rfl, ⟨0, hs₄.extBut _ _ hIz ht₃⟩, ⟨_, _, rfl, Rep.mono' (kpI hk₄) _ _ hkrep, _, _, rfl, Rep.mono' (kpI hk₄) _ _ hvrep, rfl⟩, ?_⟩
      exact F'.liveh.size
    refine wpAny_mono ((Tgt_tuple (c := c) (k := k) hn).go A env { s' with heap := h₄ } r' r₁ (pairT kv[j]) _ (pin kb (δ i) oD) Z δ' _ hA hE F₄ hv er) (fun _ s₅ h₅ => ?_) fun _ _ y => y
    obtain ⟨h₅, tk₅, δ₅, rfl, hnd₅, F₅, hk₅⟩ := h₅
    replace hnd₅ : ∀ b o, NotDC o → h₄.get? b = some o → h₅.get? b = some o := hnd₅
    refine wpAny_mono (hb.go A env { s' with heap := h₅, toks := tk₅ } r₁ res₁ (pin kb (δ i) oD) Z δ₅ _ hA hE F₅ eb) (fun fl s₆ p => ?_) fun _ _ y => y
    have st₅ : Stp c g s { s' with heap := h₅, toks := tk₅ } := by
      obtain ⟨a1, a2, a3, a4, a5⟩ := stpI (tk := s'.toks) hk₄
      exact ⟨a1, a2, a3, a4, fun b o hg hd e => hnd₅ b o hd (a5 b o hg hd e)⟩
    cases res₁ with
    | ret t =>
      cases hl
      cases ht
      obtain ⟨p1, v', rfl, p2, p3⟩ := p
      exact ⟨st₅.trans p1, v', rfl, p2, fun b o e => p3 b o (pin_sub _ _ e)⟩
    | n r₄ =>
      obtain ⟨p1, rfl, δ₆, F₆, hk₆⟩ := p
      obtain ⟨q1, q2, q3, q4, q5⟩ := id p1
      replace q5 : Ndc c g h₅ s₆.heap := q5
      have nd₆ : ∀ b o, (g = true → b ≠ c.P) → NotDC o → h₄.get? b = some o → s₆.heap.get? b = some o := fun b o hg hd e => q5 b o hg hd (hnd₅ b o hd e)
      have kp₆ : Kept ⟨c.a, Z⟩ h₄ s₆.heap := fun b o hz ⟨items, n, hd⟩ e => by
        by_cases hbP : b = c.P
        · exfalso
          have : h₄.get? c.P = some o := hbP ▸ e
          obtain ⟨o', ho', hs', _⟩ := F₄.ptab
          rw [ho'] at this; cases this
          exact hs' _ _ hd
        · exact nd₆ b o (fun _ => hbP) (notDC_of_seq hd) e
      refine ⟨kv.length + 1 - (j + 1), by omega, j + 1, r₄, δ₆, _, _, rfl, hlt, st₅.trans p1, fun b o hb hg hd e => nd₆ b o hg hd (hk₄ b o hb (hnd b o hb hg hd e)), nd₆ I _ (fun _ q => hPI q.symm) notDC_fields he₄, F₆,
        fun i' h => ⟨(hk₆ i' (hk₅ i' (hk i' h).1).1).1, (hk₆ i' (hk₅ i' (hk i' h).1).1).2.trans ((hk₅ i' (hk i' h).1).2.trans (hk i' h).2)⟩, hl, kv_kept (kp₆) (kv_kept (kpI hk₄) hKV)⟩
  · have hjn : j = kv.length := by omega
    subst hjn
    have : (kv.map pairT).drop kv.length = [] := by rw [List.drop_of_length_le (by simp)]
    rw [this] at hl
    cases hl
    cases ht
    refine next_end_raw hA.handled hit hDi (by omega) fun h₃ hk₃ => ?_
    replace hk₃ : ∀ b o, b ≠ I → s'.heap.get? b = some o → h₃.get? b = some o := hk₃
    have F₃ := move hk₃
    have hself := hk i (by rw [nth_setN, if_pos rfl])
    have hD₃ : h₃.DictOfH (tk prog w) (δ i) xs := by
      refine ⟨oD, esD, epD, F₃.keep _ _ (pin_self (hF.dict i kv hri).1), hcD, hdD, heD, fun y hy => ?_, hnD⟩
      obtain ⟨o', items, n, a1, a2, a3, a4⟩ := hkD y hy
      refine ⟨o', items, n, ?_, a2, a3, a4⟩
      have hne := hIs _ _ a1
      have hyP : y.2.1 ≠ c.P := fun q => by rw [q, hoP] at a1; cases a1; exact hPs _ _ a3
      exact hk₃ _ _ hne (hnd _ _ hne (fun _ => hyP) (notDC_of_seq a3) (sub2 _ _ a1))
    have F₄ : FrS c kb Z δ' h₃ env G (setN r' i (.d kv)) := by
      have e := hself.2
      refine FrS.unlock (o := oD) (i := i) (x := x) (by rw [e]; exact F₃) hi hself.1 (by rw [e]; exact (hF.dict i kv hri).1) hF.base hF.live ⟨_, xs, rfl, ?_, kv_kept (kpI hk₃) hKV, ?_⟩
      · rw [e]; exact hD₃
      · rw [e]; exact hS
    refine wpAny_execs_nil ⟨stpI (tk := s'.toks) hk₃, rfl, δ', F₄, fun i' h => ?_⟩
    have hne := hkr i' h
    have h' := hk i' (by rw [nth_setN, if_neg hne]; exact h)
    rw [nth_setN, if_neg hne]
    exact h'
end
end Mine

namespace Mine
open PySem PySem.Calls PyProof.Rows PyProof.V PySem.SeqAt

/-! a comprehension of two generators -/
theorem turn_outer (elt t₁ t₂ i₁ i₂ : Expr) (f₁ f₂ : List Expr) (scope : Scope) (pos : Pos) (it acc : Value) (env : Env) :
    compTurn (.ListComp elt [⟨t₁, i₁, f₁, 0⟩, ⟨t₂, i₂, f₂, 0⟩] scope pos) 0 it acc env = (do
      standAt i₁.pos
      match ← pyNext it with
      | none => pure (.done .next)
      | some v =>
        letOwnedTupleGo t₁ it v
        assign t₁ env v
        let mut ok := true
        for c in f₁ do
          if ok then ok ← isTrue c env (eval c env)
        if ok then
          let x ← eval i₂ env
          standAt i₂.pos
          let x ← foldedSetIterable i₂ env x
          let _ ← runOwn (.compStart (.ListComp elt [⟨t₁, i₁, f₁, 0⟩, ⟨t₂, i₂, f₂, 0⟩] scope pos) 1 (← holding [x] (pyIter x)) acc env) env
        again (.compLoop (.ListComp elt [⟨t₁, i₁, f₁, 0⟩, ⟨t₂, i₂, f₂, 0⟩] scope pos) 0 it acc env)) := by rfl
theorem turn_inner (elt t₁ t₂ i₁ i₂ : Expr) (f₁ f₂ : List Expr) (scope : Scope) (pos : Pos) (it acc : Value) (env : Env) :
    compTurn (.ListComp elt [⟨t₁, i₁, f₁, 0⟩, ⟨t₂, i₂, f₂, 0⟩] scope pos) 1 it acc env = (do
      standAt i₂.pos
      match ← pyNext it with
      | none => pure (.done .next)
      | some v =>
        letOwnedTupleGo t₂ it v
        assign t₂ env v
        let mut ok := true
        for c in f₂ do
          if ok then ok ← isTrue c env (eval c env)
        if ok then
          (do let _ ← call (.builtin "list.append") [acc, ← eval elt env])
        again (.compLoop (.ListComp elt [⟨t₁, i₁, f₁, 0⟩, ⟨t₂, i₂, f₂, 0⟩] scope pos) 1 it acc env)) := by rfl

section
variable {prog : Program} {w : World} {A : Around} {E : Value → Shared → Prop} {R : Result → Shared → Prop} {s : Shared}
theorem loop_inner {elt t₁ t₂ i₁ i₂ : Expr} {scope : Scope} {pos : Pos} {it acc : Value} {env : Env} (I : Nat → Shared → Prop)
    (turn : ∀ n s, I n s → wpAny (model prog w) A (pyNext it) (fun r s₁ => match r with
      | none => R (.ok .next) s₁
      | some v => wpAny (model prog w) A (assign t₂ env v) (fun _ s₂ => wpAny (model prog w) A (eval elt env) (fun x s₄ =>
              wpAny (model prog w) A (call (.builtin "list.append") [acc, x]) (fun _ s₅ => ∃ m, m < n ∧ I m s₅) (notedBy (model prog w) A env fun e s' => R (.error e) s') s₄) (notedBy (model prog w) A env fun e s' => R (.error e) s') s₂) (notedBy (model prog w) A env fun e s' => R (.error e) s') s₁)
            (notedBy (model prog w) A env fun e s' => R (.error e) s') s)
    (n : Nat) (h : I n s) (ht : ∀ v, letOwnedTupleGo t₂ it v = pure ()) :
    codeAny (model prog w) A (.compLoop (.ListComp elt [⟨t₁, i₁, [], 0⟩, ⟨t₂, i₂, [], 0⟩] scope pos) 1 it acc env) R s := by
  refine codeAny_loop rfl I (fun n s hI => ?_) n h
  show wpAny _ A ((compTurn (.ListComp elt [⟨t₁, i₁, [], 0⟩, ⟨t₂, i₂, [], 0⟩] scope pos) 1 it acc env).onRaise (fun x => do noteFrame x env; theTreesLotGoes x)) _ _ s
  refine wpAny_noted ?_
  rw [turn_inner]
  refine wpAny_bind (wpAny_standAt (wpAny_bind (wpAny_mono (turn n s hI) (fun r s₁ h₁ => ?_) fun _ _ h' => h')))
  cases r with
  | none => exact wpAny_pure h₁
  | some v =>
    refine wpAny_bind (wpAny_of_eq (ht v) ?_)
    refine wpAny_bind (wpAny_mono h₁ (fun _ s₂ h₂ => wpAny_bind (wpAny_tests_nil ?_)) fun _ _ h' => h')
    exact wpAny_bind (wpAny_bind (wpAny_mono h₂ (fun x s₄ h₄ => wpAny_bind (wpAny_mono h₄ (fun _ s₅ h₅ => wpAny_pure (wpAny_pure ⟨rfl, h₅⟩)) fun _ _ h' => h')) fun _ _ h' => h'))

theorem start_inner {elt t₁ t₂ i₁ i₂ : Expr} {f₁ f₂ : List Expr} {scope : Scope} {pos : Pos} {it acc : Value} {env : Env}
    (h0 : codeAny (model prog w) A (.compLoop (.ListComp elt [⟨t₁, i₁, f₁, 0⟩, ⟨t₂, i₂, f₂, 0⟩] scope pos) 1 it acc env) R s)
    (h : wpAny (model prog w) A (pyIter it) (fun it' s' => codeAny (model prog w) A (.compLoop (.ListComp elt [⟨t₁, i₁, f₁, 0⟩, ⟨t₂, i₂, f₂, 0⟩] scope pos) 1 it' acc env) R s')
      (notedBy (model prog w) A env fun x s' => R (.error x) s') s) :
    codeAny (model prog w) A (.compStart (.ListComp elt [⟨t₁, i₁, f₁, 0⟩, ⟨t₂, i₂, f₂, 0⟩] scope pos) 1 it acc env) R s := by
  refine codeAny_of_tree ?_
  show wpAny _ _ ((compStart (.ListComp elt [⟨t₁, i₁, f₁, 0⟩, ⟨t₂, i₂, f₂, 0⟩] scope pos) 1 it acc env).onRaise (fun x => do noteFrame x env; standAt theWindowsPlace)) _ _ s
  refine wpAny_notedAt ?_
  unfold compStart
  show wpAny _ _ (ask >>= _) _ _ s
  refine wpAny_bind (wpAny_askSetting (wpAny_ite ?_))
  split
  · first
      | exact wpAny_bind (wpAny_pure (wpAny_pure (And.intro rfl h0)))
      | exact wpAny_pure (And.intro rfl h0)
  · refine wpAny_bind (wpAny_rule ?_)
    show wpAny _ _ (standAt i₂.pos >>= _) _ _ s
    exact wpAny_bind (wpAny_standAt (wpAny_bind (wpAny_mono h (fun it' s' h' => wpAny_pure (And.intro rfl h')) fun _ _ x => x)))

theorem loop_outer {elt t₁ t₂ i₁ i₂ : Expr} {scope : Scope} {pos : Pos} {it acc : Value} {env : Env} (I : Nat → Shared → Prop)
    (turn : ∀ n s, I n s → wpAny (model prog w) A (pyNext it) (fun r s₁ => match r with
      | none => R (.ok .next) s₁
      | some v => wpAny (model prog w) A (assign t₁ env v) (fun _ s₂ => wpAny (model prog w) A (eval i₂ env) (fun x s₃ => wpAny (model prog w) A (pyIter x) (fun it₂ s₄ =>
            codeAny (model prog w) A (.compStart (.ListComp elt [⟨t₁, i₁, [], 0⟩, ⟨t₂, i₂, [], 0⟩] scope pos) 1 it₂ acc env) (fun r s₅ => r = .ok .next ∧ ∃ m, m < n ∧ I m s₅) s₄)
              (notedBy (model prog w) A env fun e s' => R (.error e) s') s₃) (notedBy (model prog w) A env fun e s' => R (.error e) s') s₂) (notedBy (model prog w) A env fun e s' => R (.error e) s') s₁)
            (notedBy (model prog w) A env fun e s' => R (.error e) s') s)
    (n : Nat) (h : I n s) (ht : ∀ v, letOwnedTupleGo t₁ it v = pure ()) (hs : ∀ x, foldedSetIterable i₂ env x = pure x) :
    codeAny (model prog w) A (.compLoop (.ListComp elt [⟨t₁, i₁, [], 0⟩, ⟨t₂, i₂, [], 0⟩] scope pos) 0 it acc env) R s := by
  refine codeAny_loop rfl I (fun n s hI => ?_) n h
  show wpAny _ A ((compTurn (.ListComp elt [⟨t₁, i₁, [], 0⟩, ⟨t₂, i₂, [], 0⟩] scope pos) 0 it acc env).onRaise (fun x => do noteFrame x env; theTreesLotGoes x)) _ _ s
  refine wpAny_noted ?_
  rw [turn_outer]
  refine wpAny_bind (wpAny_standAt (wpAny_bind (wpAny_mono (turn n s hI) (fun r s₁ h₁ => ?_) fun _ _ h' => h')))
  cases r with
  | none => exact wpAny_pure h₁
  | some v =>
    refine wpAny_bind (wpAny_of_eq (ht v) ?_)
    refine wpAny_bind (wpAny_mono h₁ (fun _ s₂ h₂ => wpAny_bind (wpAny_tests_nil ?_)) fun _ _ h' => h')
    refine wpAny_bind (wpAny_mono h₂ (fun x s₃ h₃ => wpAny_bind (wpAny_standAt ?_)) fun _ _ h' => h')
    refine wpAny_bind (wpAny_of_eq (hs x) (wpAny_bind (wpAny_holding (wpAny_mono h₃ (fun it₂ s₄ h₄ => ?_) fun _ _ h' => h'))))
    refine wpAny_bind (wpAny_runOwn (codeAny_mono h₄ fun r s₅ h₅ => ?_))
    obtain ⟨rfl, h₅⟩ := h₅
    exact wpAny_pure ⟨rfl, h₅⟩
end
end Mine

namespace Mine
open PySem PySem.Calls PyProof.Rows PyProof.V PySem.SeqAt

section
variable {prog : Program} {w : World} {c : Base prog w}

theorem cfr_ok2 {scope sc : Scope} {env : Env} {C : Addr} {h₀ h' : Heap} {m' : Str → Option Value} {x y : Str} {v u : Value} {t t' : T} {G fv : List Str} {is : List Nat} {r : List X} {Z : Addr → Prop} (hE : EnvI sc env) (hx : scope.names.lookup x = some .local) (hy : scope.names.lookup y = some .local)
    (hF : FrE c Z h₀ env G r) (hs : Sub h₀ h') (hn : h'.Ns C m') (hm : m' x = some v) (hm' : m' y = some u) (hr : Rep ⟨c.a, Z⟩ h' t v) (hr' : Rep ⟨c.a, Z⟩ h' t' u) (hfv : fvOk scope sc G fv is = true) :
    FrE c Z h' (compEnvC scope (closOf env scope.names []) C env) (y :: x :: fv) (.p t' :: .p t :: pick r is) := by
  have hk : ∀ y, (compEnvC scope (closOf env scope.names []) C env).kindOf y = (relS scope sc).names.lookup y := fun y => by
    show (relabel scope env).names.lookup y = _
    rw [relabel_eq hE.scope]
  refine ⟨m', hn, fun i z hi hu => ?_⟩
  cases i with
  | zero =>
    simp at hi; subst hi
    exact ⟨u, .inl ⟨(hk _).trans (lookup_rel_local hy), hm'⟩, hr'⟩
  | succ i =>
    cases i with
    | zero =>
      simp at hi; subst hi
      exact ⟨v, .inl ⟨(hk _).trans (lookup_rel_local hx), hm⟩, hr⟩
    | succ j =>
      simp at hi
      obtain ⟨i, g1, g2, g3, g4⟩ := fvOk_get (r := r) hfv hi
      have e : nth (.p t' :: .p t :: pick r is) (j + 2) = nth r i := g2
      rw [e] at hu ⊢
      obtain ⟨m, hn₀, hF⟩ := hF
      obtain ⟨u, hu', hr'⟩ := hF i z g1 hu
      refine ⟨u, .inr ?_, hr'.mono hs⟩
      have hkd : (compEnvC scope (closOf env scope.names []) C env).kindOf z = some .cell ∨ (compEnvC scope (closOf env scope.names []) C env).kindOf z = some .free := by
        rw [hk]; exact lookup_rel_free g3
      refine ⟨hkd, ?_⟩
      rcases hu' with ⟨q, _⟩ | ⟨_, cc, q1, q2⟩
      · rw [hE.kindOf] at q
        rcases g4 with g4 | g4 <;> rw [g4] at q <;> cases q
      · exact ⟨cc, closOf_lookup env q1 _ _ (.inl (mem_lookup g3)), q2.keeps hs⟩

/-- the plain facts of a block of two generators -/
structure CompI2 (scope sc : Scope) (G fv : List Str) (is : List Nat) (x y : Str) : Prop where
  one : CompI scope sc G fv is x
  loc : scope.names.lookup y = some .local
  ne : x ≠ y

theorem comp2_inner {A : Around} {env : Env} {h₀ hb h₂ : Heap} {s : Shared} {sc scope : Scope} {G fv : List Str} {is : List Nat} {r : List X} {k : Nat} {elt i₁ i₂ : Expr} {x y : Str} {px py pos : Pos} {fe : List X → Option T}
    {I C D : Addr} {fp wr : List Addr} {P : Nat → Value → Prop} {St : Nat → Heap → Prop} {ts out out₀ : List T} {R : Result → Shared → Prop} {m₀ : Str → Option Value} {Z : Addr → Prop} {ys₀ : Array Value} {t₁ : T} {v₁ : Value}
    (hA : GA k A) (hE : EnvI sc env) (hx₀ : Gd c h₀) (hZ : Live Z h₀) (hF : FrE c (bar Z D) h₀ env G r) (W : Iter prog w ⟨c.a, bar Z D⟩ hb h₂ I fp wr P St ts) (hs₂ : Sub h₂ s.heap) (hsb : Sub h₀ hb)
    (hI : CompI2 scope sc G fv is x y) (he : Ev c (relS scope sc) (y :: x :: fv) k elt fe)
    (hC₀ : h₀.get? C = none) (hD₀ : h₀.get? D = none) (hDC : D ≠ C) (hn₀ : s.heap.Ns C m₀) (hCb : ∃ m, hb.Ns C m) (hm₀ : m₀ x = some v₁) (hacc : s.heap.PlainList D ys₀) (hDb : ∃ o, hb.get? D = some o) (hv₁ : Rep ⟨c.a, bar Z D⟩ s.heap t₁ v₁)
    (hr₀ : Reps ⟨c.a, bar Z D⟩ s.heap out₀ ys₀.toList) (hlen : out₀.length + out.length ≤ 100000)
    (hout : compG (fun _ => some true) (fun z => fe (z :: .p t₁ :: pick r is)) ts = some out)
    (hR : ∀ h' tk m' ys, h'.Ns C m' → h'.PlainList D ys → Reps ⟨c.a, bar Z D⟩ h' (out₀ ++ out) ys.toList → (∀ b o, b ≠ C → b ≠ D → hb.get? b = some o → h'.get? b = some o) → R (.ok .next) { s with heap := h', toks := tk }) :
    codeAny (model prog w) A (.compLoop (.ListComp elt [⟨.Name x px, i₁, [], 0⟩, ⟨.Name y py, i₂, [], 0⟩] scope pos) 1 (.ref I) (.ref D) (compEnvC scope (closOf env scope.names []) C env)) R s := by
  have W' := W.walks A hA.handled
  have hwr : ∀ b ∈ wr, b ∈ fp := W'.sub
  obtain ⟨mC, hCb⟩ := hCb
  obtain ⟨oC, esC, epC, hoC, hdC, rC⟩ := id hCb
  obtain ⟨oD, hoD⟩ := hDb
  have hCw : C ∉ wr := fun h => by rw [W.new _ h] at hoC; cases hoC
  have hDw : D ∉ wr := fun h => by rw [W.new _ h] at hoD; cases hoD
  have hCf : C ∉ fp := fun hm => by
    obtain ⟨o, ho, hd, _⟩ := W.fp _ hm
    rw [W.sub _ _ hoC] at ho; cases ho; exact hd.1 _ _ hdC
  have hDf : D ∉ fp := fun hm => by
    rcases W.fpz _ hm with h | h
    · exact hDw h
    · exact h (.inr rfl)
  have hEc := cenv_ok (C := C) hE hI.one.kind hI.one.free hI.one.cell
  have hky : (compEnvC scope (closOf env scope.names []) C env).kindOf y = some .local := by
    show (relabel scope env).names.lookup y = _
    rw [relabel_eq hE.scope]; exact lookup_rel_local hI.loc
  have st0 : St 0 s.heap := W'.frame _ _ _ W.start fun b _ o e => hs₂ b o e
  refine loop_inner (fun n s' => ∃ h' tk m' ys i out₁ out₂, s' = { s with heap := h', toks := tk } ∧ i ≤ ts.length ∧ St i h' ∧ h'.PlainList D ys ∧ h'.Ns C m' ∧ m' x = some v₁ ∧ out = out₁ ++ out₂ ∧ compG (fun _ => some true) (fun z => fe (z :: .p t₁ :: pick r is)) (ts.drop i) = some out₂ ∧
      Reps ⟨c.a, bar Z D⟩ h' (out₀ ++ out₁) ys.toList ∧ n = ts.length + 1 - i ∧ (∀ b o, b ≠ C → b ≠ D → b ∉ wr → h₂.get? b = some o → h'.get? b = some o) ∧ (∀ j v t, P j v → ts[j]? = some t → Rep ⟨c.a, bar Z D⟩ h' t v) ∧ Rep ⟨c.a, bar Z D⟩ h' t₁ v₁) ?_ (ts.length + 1)
    ⟨s.heap, s.toks, m₀, ys₀, 0, [], out, rfl, Nat.zero_le _, st0, hacc, hn₀, hm₀, rfl, hout, by rw [List.append_nil]; exact hr₀, rfl, fun b o _ _ _ e => hs₂ b o e, fun j v t hP hj => Rep.mono hs₂ (W.item j v t hP hj), hv₁⟩ (fun v => rfl)
  rintro n s' ⟨H, tk, m', ys, i, out₁, out₂, rfl, hi, hst', hacc', hn', hmx, rfl, hout₂, hreps, rfl, hk, hit, hv'⟩
  have sub₀ : ∀ {h' : Heap}, (∀ b o, b ≠ C → b ≠ D → b ∉ wr → h₂.get? b = some o → h'.get? b = some o) → Sub h₀ h' := fun hk b o e => hk b o (fun q => by subst q; rw [hC₀] at e; cases e) (fun q => by subst q; rw [hD₀] at e; cases e)
    (fun hm => by have := hsb _ _ e; rw [W.new b hm] at this; cases this) (W.sub _ _ (hsb b o e))
  by_cases hlt : i < ts.length
  · refine W'.item i _ _ _ hlt hst' fun v h₁ tk₁ hPv hst₁ hk₁ => ?_
    have K₁ : Kept ⟨c.a, bar Z D⟩ H h₁ := kept_iter (W.ns i H hst') hk₁
    have hk₁' : ∀ b o, b ≠ C → b ≠ D → b ∉ wr → h₂.get? b = some o → h₁.get? b = some o := fun b o hc hd hb e => hk₁ b o hb (hk b o hc hd hb e)
    have hgt : ts[i]? = some ts[i] := by simp [hlt]
    rw [List.drop_eq_getElem_cons hlt] at hout₂
    obtain ⟨b, eb, hout₂⟩ := ob_some hout₂
    cases eb
    obtain ⟨z, ez, hout₂⟩ := ob_some hout₂
    obtain ⟨out₃, eo, hout₂⟩ := ob_some hout₂
    cases hout₂
    have hn₁ := hn'.at' (h' := h₁) fun o e => hk₁ _ o hCw e
    refine wpAny_assign_Name (wpAny_storeName_local hky hn₁ (fun h₂' hn₂ hs₂' => ?_) (by show ((compEnvC scope (closOf env scope.names []) C env).scope.kind == .class || _) = false; rw [show (compEnvC scope (closOf env scope.names []) C env).scope.kind = .function from hI.one.kind]; rfl))
    have K₂ : Kept ⟨c.a, bar Z D⟩ H h₂' := K₁.trans (kept_ns hn₁ hs₂')
    have hk₂ : ∀ b o, b ≠ C → b ≠ D → b ∉ wr → h₂.get? b = some o → h₂'.get? b = some o := fun b o hc hd hb e => hs₂'.extBut b o hc (hk₁' b o hc hd hb e)
    have hst₂ : St (i + 1) h₂' := W'.frame _ _ _ hst₁ fun b hb o e => hs₂'.extBut b o (fun hbC => hCf (by rw [← show b = C from hbC]; exact hb)) e
    have hr₂ : Rep ⟨c.a, bar Z D⟩ h₂' ts[i] v := Rep.mono' K₂ _ _ (hit i v _ hPv hgt)
    have hv₂ : Rep ⟨c.a, bar Z D⟩ h₂' t₁ v₁ := Rep.mono' K₂ _ _ hv'
    have hmy : (fun q => if q = y then some v else m' q) y = some v := by simp
    have hmx' : (fun q => if q = y then some v else m' q) x = some v₁ := by simp [hI.ne, hmx]
    have fr₂ := cfr_ok2 (c := c) (C := C) hE hI.one.loc hI.loc hF (sub₀ hk₂) hn₂ hmx' hmy hv₂ hr₂ hI.one.fv
    have ext₂ := ext_sub hx₀ (sub₀ hk₂)
    have hacc₂ : h₂'.PlainList D ys := hacc'.at fun o e => hs₂'.extBut _ o hDC (hk₁ _ o hDw e)
    have live₂ : Live (bar Z D) h₂' := fun b hb => hb.elim (fun hb => (hZ.mono (sub₀ hk₂)) b hb) fun hb => by obtain ⟨n, hn⟩ := hacc₂; exact ⟨_, hb ▸ hn⟩
    refine wpAny_mono (he.go A _ _ _ z _ (bar Z D) hA hEc ext₂ live₂ fr₂ ez) (fun u s₄ ⟨k₄, r₄⟩ => ?_) fun _ _ y => y
    obtain ⟨h₄, tk₄, rfl, sub₄⟩ := k₄
    replace sub₄ : Sub h₂' h₄ := sub₄
    replace r₄ : Rep ⟨c.a, bar Z D⟩ h₄ z u := r₄
    have hacc₄ : h₄.PlainList D ys := hacc₂.at fun o e => sub₄ _ o e
    have hys : ys.size ≤ sizeLine := by
      have e1 := hreps.length
      rw [Array.length_toList, List.length_append] at e1
      rw [List.length_append, List.length_cons] at hlen
      rw [sizeLine_eq]; omega
    refine wpAny_list_append_plain (hsz := hys) hacc₄ fun h₅ hl₅ hs₅ => ?_
    have K₅ : Kept ⟨c.a, bar Z D⟩ h₄ h₅ := kept_bar hs₅
    have K₆ := (K₂.trans (kept_sub sub₄)).trans K₅
    refine ⟨ts.length + 1 - (i + 1), by omega, h₅, tk₄, _, ys.push u, i + 1, out₁ ++ [z], out₃, rfl, hlt, W'.frame _ _ _ hst₂ fun b hb o e => hs₅.extBut b o (fun hbD => hDf (by rw [← show b = D from hbD]; exact hb)) (sub₄ b o e), hl₅,
      (hn₂.keeps sub₄).sameBut hs₅ (Ne.symm hDC), hmx', by simp, eo, ?_, rfl, fun b o hc hd hb e => hs₅.extBut b o hd (sub₄ b o (hk₂ b o hc hd hb e)),
      fun j u' t hP hj => Rep.mono' K₆ _ _ (hit j u' t hP hj), Rep.mono' K₆ _ _ hv'⟩
    rw [Array.toList_push, ← List.append_assoc]
    exact Reps.snoc (Reps.mono' K₆ _ _ hreps) (Rep.mono' K₅ _ _ r₄)
  · have hin : i = ts.length := by omega
    subst hin
    rw [List.drop_length] at hout₂
    cases hout₂
    refine W'.done _ _ _ hst' fun h₁ tk₁ hk₁ => ?_
    have K₁ : Kept ⟨c.a, bar Z D⟩ H h₁ := kept_iter (W.ns _ H hst') hk₁
    refine hR h₁ tk₁ m' ys (hn'.at' fun o e => hk₁ _ o hCw e) (hacc'.at fun o e => hk₁ _ o hDw e) ?_ fun b o hc hd e => ?_
    · rw [List.append_nil]; exact Reps.mono' K₁ _ _ hreps
    · have hb : b ∉ wr := fun hm => by rw [W.new b hm] at e; cases e
      exact hk₁ b o hb (hk b o hc hd hb (W.sub _ _ e))

def comp2G (fi : X → Option (List T)) (fe : X → X → Option T) : List T → Option (List T)
  | [] => some []
  | t :: ts => ob (fi (.p t)) fun us => ob (compG (fun _ => some true) (fun z => fe z (.p t)) us) fun ys => ob (comp2G fi fe ts) fun zs => some (ys ++ zs)

theorem comp2_loop {A : Around} {env : Env} {h₀ : Heap} {s : Shared} {sc scope : Scope} {G fv : List Str} {is : List Nat} {r : List X} {k : Nat} {elt i₁ i₂ : Expr} {x y : Str} {px py pos : Pos} {fi : List X → Option (List T)} {fe : List X → Option T}
    {I C D : Addr} {fp wr : List Addr} {P : Nat → Value → Prop} {St : Nat → Heap → Prop} {ts out : List T} {R : Result → Shared → Prop} {h₂ : Heap} {m₀ : Str → Option Value} {Z : Addr → Prop}
    (hA : GA k A) (hE : EnvI sc env) (hx₀ : Gd c h₀) (hZ : Live Z h₀) (hF : FrE c Z h₀ env G r) (W : Iter prog w ⟨c.a, Z⟩ h₀ h₂ I fp wr P St ts) (hs₂ : ∀ b o, h₂.get? b = some o → s.heap.get? b = some o)
    (hI : CompI2 scope sc G fv is x y) (hi : EvIt c (relS scope sc) (x :: fv) k i₂ fi) (he : Ev c (relS scope sc) (y :: x :: fv) k elt fe) (hs : ∀ (env : Env) (x : Value), foldedSetIterable i₂ env x = pure x)
    (hC : h₂.get? C = none) (hD : h₂.get? D = none) (hDC : D ≠ C) (hn₀ : s.heap.Ns C m₀) (hacc : s.heap.PlainList D #[]) (hlen : out.length ≤ 100000)
    (hout : comp2G (fun z => fi (z :: pick r is)) (fun z z' => fe (z :: z' :: pick r is)) ts = some out)
    (hR : ∀ h' tk m' ys, h'.Ns C m' → h'.PlainList D ys → Reps ⟨c.a, Z⟩ h' out ys.toList → (∀ b o, b ∉ wr → h₂.get? b = some o → h'.get? b = some o) → R (.ok .next) { s with heap := h', toks := tk }) :
    codeAny (model prog w) A (.compLoop (.ListComp elt [⟨.Name x px, i₁, [], 0⟩, ⟨.Name y py, i₂, [], 0⟩] scope pos) 0 (.ref I) (.ref D) (compEnvC scope (closOf env scope.names []) C env)) R s := by
  have W' := W.walks A hA.handled
  have hwr : ∀ b ∈ wr, b ∈ fp := W'.sub
  have hCf : C ∉ fp := fun hm => by obtain ⟨o, ho, _⟩ := W.fp _ hm; rw [hC] at ho; cases ho
  have hDf : D ∉ fp := fun hm => by obtain ⟨o, ho, _⟩ := W.fp _ hm; rw [hD] at ho; cases ho
  have hCw : C ∉ wr := fun h => hCf (hwr _ h)
  have hDw : D ∉ wr := fun h => hDf (hwr _ h)
  have hEc := cenv_ok (C := C) hE hI.one.kind hI.one.free hI.one.cell
  have hkx : (compEnvC scope (closOf env scope.names []) C env).kindOf x = some .local := by
    show (relabel scope env).names.lookup x = _
    rw [relabel_eq hE.scope]; exact lookup_rel_local hI.one.loc
  have old : ∀ {b : Addr}, h₂.get? b = none → h₀.get? b = none := fun {b} hb => by
    cases e : h₀.get? b with
    | none => rfl
    | some o => rw [W.sub _ _ e] at hb; cases hb
  have hF' : FrE c (bar Z D) h₀ env G r := hF.view fun b o e hz hb => hb.elim hz fun hb => by rw [hb, old hD] at e; cases e
  have st0 : St 0 s.heap := W'.frame _ _ _ W.start fun b _ o e => hs₂ b o e
  refine loop_outer
    (fun n s' => ∃ h' tk m' ys i out₁ out₂, s' = { s with heap := h', toks := tk } ∧ i ≤ ts.length ∧ St i h' ∧ h'.PlainList D ys ∧ h'.Ns C m' ∧ out = out₁ ++ out₂ ∧ comp2G (fun z => fi (z :: pick r is)) (fun z z' => fe (z :: z' :: pick r is)) (ts.drop i) = some out₂ ∧
      Reps ⟨c.a, bar Z D⟩ h' out₁ ys.toList ∧ n = ts.length + 1 - i ∧ (∀ b o, b ∉ wr → h₂.get? b = some o → h'.get? b = some o) ∧ (∀ j v t, P j v → ts[j]? = some t → Rep ⟨c.a, bar Z D⟩ h' t v)) ?_ (ts.length + 1)
    ⟨s.heap, s.toks, m₀, #[], 0, [], out, rfl, Nat.zero_le _, st0, hacc, hn₀, rfl, hout, rfl, rfl, fun b o _ e => hs₂ b o e, fun j v t hP hj => ?_⟩ (fun v => rfl) (hs _)
  · rintro n s' ⟨H, tk, m', ys, i, out₁, out₂, rfl, hi', hst', hacc', hn', rfl, hout₂, hreps, rfl, hk, hit⟩
    have sub₀ : ∀ {h' : Heap}, (∀ b o, b ∉ wr → h₂.get? b = some o → h'.get? b = some o) → Sub h₀ h' := fun hk b o e => hk b o (fun hb => by rw [W.new b hb] at e; cases e) (W.sub b o e)
    by_cases hlt : i < ts.length
    · refine W'.item i _ _ _ hlt hst' fun v h₁ tk₁ hPv hst₁ hk₁ => ?_
      have K₁ : Kept ⟨c.a, bar Z D⟩ H h₁ := kept_iter (W.ns i H hst') hk₁
      have hk₁' : ∀ b o, b ∉ wr → h₂.get? b = some o → h₁.get? b = some o := fun b o hb e => hk₁ b o hb (hk b o hb e)
      have hgt : ts[i]? = some ts[i] := by simp [hlt]
      have hdrop : ts.drop i = ts[i] :: ts.drop (i + 1) := List.drop_eq_getElem_cons hlt
      rw [hdrop] at hout₂
      obtain ⟨us, eu, hout₂⟩ := ob_some hout₂
      obtain ⟨outI, ei, hout₂⟩ := ob_some hout₂
      obtain ⟨out₃, eo, hout₂⟩ := ob_some hout₂
      cases hout₂
      have hn₁ := hn'.at' (h' := h₁) fun o e => hk₁ _ o hCw e
      refine wpAny_assign_Name (wpAny_storeName_local hkx hn₁ (fun h₂' hn₂ hs₂' => ?_) (by show ((compEnvC scope (closOf env scope.names []) C env).scope.kind == .class || _) = false; rw [show (compEnvC scope (closOf env scope.names []) C env).scope.kind = .function from hI.one.kind]; rfl))
      have K₂ : Kept ⟨c.a, bar Z D⟩ H h₂' := K₁.trans (kept_ns hn₁ hs₂')
      have hk₂ : ∀ b o, b ∉ wr → h₂.get? b = some o → h₂'.get? b = some o := fun b o hb e => hs₂'.extBut b o (fun hbC => by subst hbC; exact absurd (hC.symm.trans e) (by simp)) (hk₁' b o hb e)
      have hst₂ : St (i + 1) h₂' := W'.frame _ _ _ hst₁ fun b hb o e => hs₂'.extBut b o (fun hbC => hCf (by rw [← show b = C from hbC]; exact hb)) e
      have hr₂ : Rep ⟨c.a, bar Z D⟩ h₂' ts[i] v := Rep.mono' K₂ _ _ (hit i v _ hPv hgt)
      have hmx : (fun y => if y = x then some v else m' y) x = some v := by simp
      have fr₂ := cfr_ok (c := c) (C := C) hE hI.one.loc hF' (sub₀ hk₂) hn₂ hmx hr₂ hI.one.fv
      have ext₂ := ext_sub hx₀ (sub₀ hk₂)
      have hacc₂ : h₂'.PlainList D ys := hacc'.at fun o e => hs₂'.extBut _ o hDC (hk₁ _ o hDw e)
      have live₂ : Live (bar Z D) h₂' := fun b hb => hb.elim (fun hb => (hZ.mono (sub₀ hk₂)) b hb) fun hb => by obtain ⟨n, hn⟩ := hacc₂; exact ⟨_, hb ▸ hn⟩
      refine wpAny_mono (hi.go A _ _ _ us _ (bar Z D) hA hEc ext₂ live₂ fr₂ eu) (fun xv s₃ h₃ => wpAny_mono h₃ (fun it₂ s₄ h₄ => ?_) fun _ _ y => y) fun _ _ y => y
      obtain ⟨I₂, fp₂, wr₂, P₂, St₂, rfl, k₄, W₂⟩ := h₄
      obtain ⟨h₄, tk₄, rfl, sub₄⟩ := k₄
      replace sub₄ : Sub h₂' h₄ := sub₄
      have goal : codeAny (model prog w) A (.compLoop (.ListComp elt [⟨.Name x px, i₁, [], 0⟩, ⟨.Name y py, i₂, [], 0⟩] scope pos) 1 (.ref I₂) (.ref D) (compEnvC scope (closOf env scope.names []) C env))
          (fun r₅ s₅ => r₅ = .ok .next ∧ ∃ m, m < ts.length + 1 - i ∧ ∃ h' tk m' ys i' out₁' out₂, s₅ = { s with heap := h', toks := tk } ∧ i' ≤ ts.length ∧ St i' h' ∧ h'.PlainList D ys ∧ h'.Ns C m' ∧ out₁ ++ (outI ++ out₃) = out₁' ++ out₂ ∧
            comp2G (fun z => fi (z :: pick r is)) (fun z z' => fe (z :: z' :: pick r is)) (ts.drop i') = some out₂ ∧ Reps ⟨c.a, bar Z D⟩ h' out₁' ys.toList ∧ m = ts.length + 1 - i' ∧ (∀ b o, b ∉ wr → h₂.get? b = some o → h'.get? b = some o) ∧ (∀ j v t, P j v → ts[j]? = some t → Rep ⟨c.a, bar Z D⟩ h' t v))
          { s with heap := h₄, toks := tk₄ } := by
        refine comp2_inner (c := c) (hb := h₂') (s := { s with heap := h₄, toks := tk₄ }) hA hE hx₀ hZ hF' W₂ (fun _ _ e => e) (sub₀ hk₂) hI he (old hC) (old hD) hDC (hn₂.keeps sub₄) ⟨_, hn₂⟩ hmx (hacc₂.at fun o e => sub₄ _ o e) (by obtain ⟨n, hn⟩ := hacc₂; exact ⟨_, hn⟩) (Rep.mono sub₄ hr₂)
          (Reps.mono' (K₂.trans (kept_sub sub₄)) _ _ hreps) (by simp only [List.length_append] at hlen; omega) ei ?_
        intro h' tk' m'' ys' hn'' hacc'' hreps'' hk''
        -- a row stands through the inner loop
        have K₃ : Kept ⟨c.a, bar Z D⟩ h₂' h' := fun b o hz ⟨items, n, hd⟩ e => hk'' b o (fun q => by
          subst q
          obtain ⟨o', es, ep, ho', hd', _⟩ := hn₂
          have ho' : h₂'.get? b = some o' := ho'
          rw [e] at ho'; cases ho'; rw [hd] at hd'; cases hd') (fun q => hz (.inr q)) e
        refine ⟨rfl, ts.length + 1 - (i + 1), by omega, h', tk', m'', ys', i + 1, out₁ ++ outI, out₃, rfl, hlt, W'.frame _ _ _ hst₂ fun b hb o e => hk'' b o (fun q => hCf (q ▸ hb)) (fun q => hDf (q ▸ hb)) e, hacc'', hn'', by simp, eo, hreps'', rfl,
          fun b o hb e => hk'' b o (fun q => by subst q; exact absurd (hC.symm.trans e) (by simp)) (fun q => by subst q; exact absurd (hD.symm.trans e) (by simp)) (hk₂ b o hb e), fun j v t hP hj => Rep.mono' (K₂.trans K₃) _ _ (hit j v t hP hj)⟩
      exact start_inner goal ((W₂.walks A hA.handled).self 0 _ _ _ W₂.start goal)
    · have hin : i = ts.length := by omega
      subst hin
      rw [List.drop_length] at hout₂
      cases hout₂
      refine W'.done _ _ _ hst' fun h₁ tk₁ hk₁ => ?_
      have K₁ : Kept ⟨c.a, bar Z D⟩ H h₁ := kept_iter (W.ns _ H hst') hk₁
      refine hR h₁ tk₁ m' ys (hn'.at' fun o e => hk₁ _ o hCw e) (hacc'.at fun o e => hk₁ _ o hDw e) ?_ fun b o hb e => hk₁ b o hb (hk b o hb e)
      rw [List.append_nil]
      exact Reps.view (fun b o e hz hb => hz (.inl hb)) _ _ (Reps.mono' K₁ _ _ hreps)
  · exact Rep.mono hs₂ (Rep.view (fun b o e hz hb => hb.elim hz fun hb => by rw [hb, hD] at e; cases e) _ _ (W.item j v t hP hj))
end
end Mine

namespace Mine
open PySem PySem.Calls PyProof.Rows PyProof.V PySem.SeqAt

section
variable {prog : Program} {w : World} {c : Base prog w}

theorem comp2_block {A : Around} {env : Env} {E : Value → Shared → Prop} {h₀ : Heap} {s₂ : Shared} {sc scope : Scope} {G fv : List Str} {is : List Nat} {r : List X} {k : Nat} {elt iter i₂ : Expr} {x y : Str} {px py pos : Pos} {fi : List X → Option (List T)} {fe : List X → Option T}
    {I : Addr} {fp wr : List Addr} {P : Nat → Value → Prop} {St : Nat → Heap → Prop} {ts out : List T} {Z : Addr → Prop} {RR : Value → Addr → Result → Shared → Prop}
    (hA : GA k A) (hE : EnvI sc env) (hx₀ : Gd c h₀) (hZ : Live Z h₀) (hF : FrE c Z h₀ env G r) (W : Iter prog w ⟨c.a, Z⟩ h₀ s₂.heap I fp wr P St ts)
    (hI : CompI2 scope sc G fv is x y) (hi : EvIt c (relS scope sc) (x :: fv) k i₂ fi) (he : Ev c (relS scope sc) (y :: x :: fv) k elt fe) (hs : ∀ (env : Env) (x : Value), foldedSetIterable i₂ env x = pure x) (hlen : out.length ≤ 100000)
    (hout : comp2G (fun z => fi (z :: pick r is)) (fun z z' => fe (z :: z' :: pick r is)) ts = some out)
    (hRR : ∀ D C h' tk m' ys, s₂.heap.get? D = none → s₂.heap.get? C = none → D ≠ C → h'.Ns C m' → h'.PlainList D ys → Reps ⟨c.a, Z⟩ h' out ys.toList → (∀ b o, b ∉ wr → s₂.heap.get? b = some o → h'.get? b = some o) →
      RR (.ref D) C (.ok .next) { s₂ with heap := h', toks := tk }) :
    wpAny (model prog w) A (newList []) (fun acc s₃ => wpAny (model prog w) A (newFunctionEnv scope env.globals (closOf env scope.names []) [] env.qual none .none (some env)) (fun cenv s₄ =>
      codeAny (model prog w) A (.compStart (.ListComp elt [⟨.Name x px, iter, [], 0⟩, ⟨.Name y py, i₂, [], 0⟩] scope pos) 0 (.ref I) acc { cenv with scope := relabel scope env }) (RR acc cenv.locals) s₄) E s₃) E s₂ := by
  refine wpAny_newObj_type (wpAny_newFunctionEnv hI.one.cell (by intro y hy; simp at hy) (fun h₁ hns₁ hsb₁ => ?_) hI.one.kind)
  dsimp only at hns₁ hsb₁ ⊢
  generalize hH2 : s₂.heap.push { cls := .type "list", dict := none, data := .seq ([] : List Value).toArray } = H2 at hns₁ hsb₁ ⊢
  have hC : H2.objs.size = s₂.heap.objs.size + 1 := by rw [← hH2, Heap.size_push]
  have hDC : s₂.heap.objs.size ≠ H2.objs.size := by rw [hC]; exact Nat.ne_of_lt (Nat.lt_succ_self _)
  have below : ∀ b, b < s₂.heap.objs.size → b ≠ H2.objs.size := fun b hb => by rw [hC]; exact Nat.ne_of_lt (Nat.lt_succ_of_lt hb)
  have old : ∀ b o, s₂.heap.get? b = some o → h₁.get? b = some o := fun b o e => hsb₁.extBut b o (below b (Heap.lt_size e)) (Heap.get?_push_of_some _ (hH2 ▸ Heap.get?_push_of_some _ e))
  have hacc : h₁.PlainList s₂.heap.objs.size #[] := ⟨_, hsb₁.extBut _ _ hDC (Heap.get?_push_of_some _ (hH2 ▸ Heap.get?_push_size _ rfl))⟩
  have fresh : ∀ a, s₂.heap.objs.size ≤ a → s₂.heap.get? a = none := fun a ha => by
    cases e : s₂.heap.get? a with
    | none => rfl
    | some o' => exact absurd (Heap.lt_size e) (Nat.not_lt.mpr ha)
  have hDn := fresh s₂.heap.objs.size (Nat.le_refl _)
  have hCn := fresh H2.objs.size (by rw [hC]; exact Nat.le_succ _)
  have loop : ∀ s₃ : Shared, s₃ = { s₂ with heap := h₁, toks := s₂.toks + ([] : List (Str × Value)).length } →
      codeAny (model prog w) A (.compLoop (.ListComp elt [⟨.Name x px, iter, [], 0⟩, ⟨.Name y py, i₂, [], 0⟩] scope pos) 0 (.ref I) (.ref s₂.heap.objs.size) (compEnvC scope (closOf env scope.names []) H2.objs.size env))
        (RR (.ref s₂.heap.objs.size) H2.objs.size) s₃ := by
    rintro s₃ rfl
    exact comp2_loop (c := c) hA hE hx₀ hZ hF W old hI hi he hs hCn hDn hDC hns₁ hacc hlen hout fun h' tk m' ys hn hl hr hk =>
      hRR _ _ h' tk m' ys hDn hCn hDC hn hl hr hk
  have W' := W.walks A hA.handled
  exact codeAny_compStart_list (loop _ rfl) (W'.self 0 _ _ _ (W'.frame _ _ _ W.start fun b _ o e => old b o e) (loop _ rfl))

theorem St_assign_comp2 {g : Bool} {sc scope : Scope} {G fv : List Str} {is : List Nat} {k j : Nat} {elt iter i₂ : Expr} {x x₂ y : Str} {px px₂ py pos spos : Pos} {fi fi₂ : List X → Option (List T)} {fe : List X → Option T}
    (hi : EvIt c sc G k iter fi) (hI : CompI2 scope sc G fv is x x₂) (hi₂ : EvIt c (relS scope sc) (x :: fv) k i₂ fi₂) (he : Ev c (relS scope sc) (x₂ :: x :: fv) k elt fe) (hs₂ : ∀ (env : Env) (x : Value), foldedSetIterable i₂ env x = pure x)
    (hs : ∀ (env : Env) (x : Value), foldedSetIterable iter env x = pure x) (hn : NameI sc G y j)
    (hsw : ∀ env, EnvI sc env → swapsWith (.ListComp elt [⟨.Name x px, iter, [], 0⟩, ⟨.Name x₂ px₂, i₂, [], 0⟩] scope pos) (some (.Name y py)) spos.line env = pure true) :
    St c g sc G k (.Assign [.Name y py] (.ListComp elt [⟨.Name x px, iter, [], 0⟩, ⟨.Name x₂ px₂, i₂, [], 0⟩] scope pos) spos)
      (fun r => ob (fi r) fun ts => ob (comp2G (fun z => fi₂ (z :: pick r is)) (fun z z' => fe (z :: z' :: pick r is)) ts) fun out => ob (match Nat.ble out.length 100000 with | true => some out | false => none) fun out => ob (put j r (.p (.l out))) fun r' => some (.n r')) := by
  refine ⟨fun A env s r res kb Z δ E hA hE hF htt => ?_⟩
  obtain ⟨ts, e1, htt⟩ := ob_some htt
  obtain ⟨out₀, e2, htt⟩ := ob_some htt
  obtain ⟨out, e2', htt⟩ := ob_some htt
  have hlen : out₀ = out ∧ out.length ≤ 100000 := by
    cases q : Nat.ble out₀.length 100000 with
    | true => rw [q] at e2'; cases e2'; exact ⟨rfl, Nat.le_of_ble_eq_true q⟩
    | false => rw [q] at e2'; cases e2'
  obtain ⟨rfl, hlen⟩ := hlen
  rename List T => out
  obtain ⟨r', e3, htt⟩ := ob_some htt
  cases htt
  obtain ⟨hjk, rfl⟩ := put_some e3
  rw [exec_Assign_Name_used _ _ _ _ (hsw env hE)]
  refine wpAny_bind (wpAny_standAt (wpAny_bind ?_))
  show wpAny _ A (do let _ ← comprehension (.ListComp elt [⟨.Name x px, iter, [], 0⟩, ⟨.Name x₂ px₂, i₂, [], 0⟩] scope pos) scope env _ (newList []) false (eval iter env) (some (assign (.Name y py) env))) _ _ s
  refine wpAny_bind (wpAny_mono (wpAny_comprehension_free (use := some (assign (.Name y py) env)) (Q := fun _ s' => Post c g kb Z δ env G r (.n (setN r j (.p (.l out)))) s .next s') rfl (hs env) (closFor (hfreeOf hE hI.one.free)) hI.one.kind hI.one.names
    (wpAny_mono (hi.go A env s r ts E Z hA hE hF.ext hF.liveh hF.toE e1) (fun xv s₁ h₁ => wpAny_mono h₁ (fun it s₂ h₂ => ?_) fun _ _ e => e) fun _ _ e => e)) (fun _ s' hq => wpAny_pure (wpAny_pure hq)) fun _ _ e => e)
  obtain ⟨I, fp, wr, P, Si, rfl, k₂, W⟩ := h₂
  refine comp2_block (c := c) (RR := fun acc C => compPost (model prog w) A E (some (assign (.Name y py) env)) _ acc C) hA hE hF.ext hF.liveh hF.toE W hI hi₂ he hs₂ hlen e2 ?_
  intro D C h' tk m' ys hD hC hDC hn' hl hr hk
  obtain ⟨h₂', tk₂', e₂, sub₂⟩ := k₂
  subst e₂
  have sub' : Sub s.heap h' := fun b o e => hk b o (fun hb => by rw [W.new b hb] at e; cases e) (sub₂ b o e)
  have hCn : ∀ b o, s.heap.get? b = some o → b ≠ C := fun b o e hb => by subst hb; rw [sub₂ b o e] at hC; cases hC
  have hX : Rep ⟨c.a, Z⟩ h' (.l out) (.ref D) := ⟨D, ys, rfl, hl, hr, (hF.liveh.mono sub₂).fresh hD⟩
  obtain ⟨oC, esC, epC, hoC, hdC, rC⟩ := id hn'
  have hlC : env.locals ≠ C := by obtain ⟨m, ⟨o, es, ep, ho, _⟩, _⟩ := hF.ns; exact hCn _ o ho
  have hcC : ∀ n cc, env.cells.lookup n = some cc → cc ≠ C := fun n cc e => by obtain ⟨_, v, o, ho, _⟩ := hF.cell n cc e; exact hCn _ o ho
  have hdC' : ∀ i kv, nth r i = .d kv → δ i ≠ C := fun i kv e => by
    obtain ⟨x, hx⟩ := hF.dom i kv e
    obtain ⟨o, ho⟩ := hF.dlive hx e
    exact hCn _ o ho
  have hkC : kb C = none := by
    cases e : kb C with
    | none => rfl
    | some o => exact absurd rfl (hCn _ _ (hF.keep _ _ e))
  have hPC : c.P ≠ C := by obtain ⟨o, ho, _⟩ := hF.ptab; exact hCn _ o ho
  show wpAny _ A (assign (.Name y py) env (.ref D)) _ _ _
  refine wpAny_assign_Name ?_
  refine FrS.store (c := c) (s := ⟨h', s.gens, s.drawn, tk, s.os⟩) ((hF.mono sub').pin hoC hlC hcC hdC' hPC) hE hn.at_ hn.one hn.kind (V := .p (.l out)) hX (fun h => nomatch h) (fun kv h => nomatch h) fun h₃ tk₃ hnd F₃ => ?_
  have hC₃ : h₃.get? C = some oC := F₃.keep C oC (pin_self hkC)
  refine ⟨m', hn'.at' fun o e => ?_, fun h₄ hs₄ => ⟨.heap fun b o _ hd e => ?_, rfl, _, (F₃.rebase hF.base hF.live pin_sub).off (fun b o hb e => hs₄.extBut b o hb e) (fun o e => ?_) hPC hkC hlC hcC (fun i kv e => ?_), fun i hi => ?_⟩⟩
  · rw [hoC] at e; cases e; exact hC₃
  · exact hs₄.extBut b o (hCn b o e) (hnd b o hd (sub' b o e))
  · rw [hC₃] at e; cases e; intro i n hq; rw [hdC] at hq; cases hq
  · rw [nth_setN] at e
    by_cases hi : i = j
    · rw [if_pos hi] at e; cases e
    · rw [if_neg hi] at e; simp only [if_neg hi]; exact hdC' i kv e
  · have hij : i ≠ j := fun e => by subst e; rw [hi] at hjk; cases hjk
    rw [nth_setN]
    simp only [if_neg hij]
    exact ⟨hi, trivial⟩
end
end Mine

namespace Mine
open PySem PySem.Calls PyProof.Rows PyProof.V PySem.SeqAt

/-! a comprehension whose name is a cell -/
theorem cells_none : ∀ {names : List (Str × NameKind)}, names.filter (fun y => y.2 == .cell) = [] → ∀ (n : Nat) (acc : List (Str × Addr)) (h : Heap), cellsFrom n names acc = acc ∧ pushCells h names = h
  | [], _, n, acc, h => ⟨rfl, rfl⟩
  | (y, k) :: r, e, n, acc, h => by
    rw [List.filter_cons] at e
    unfold cellsFrom pushCells
    by_cases hk : (k == NameKind.cell) = true
    · simp [hk] at e
    · rw [if_neg hk, if_neg hk]
      have hk' : (((y, k) : Str × NameKind).2 == NameKind.cell) = false := by simpa using hk
      rw [hk'] at e
      exact cells_none e n acc h
theorem cells_one {x : Str} : ∀ {names : List (Str × NameKind)}, names.filter (fun y => y.2 == .cell) = [(x, .cell)] → ∀ (n : Nat) (acc : List (Str × Addr)) (h : Heap), cellsFrom n names acc = (x, n) :: acc ∧ pushCells h names = h.push { cls := .type "cell", data := .cell none }
  | [], e, n, acc, h => by cases e
  | (y, k) :: r, e, n, acc, h => by
    rw [List.filter_cons] at e
    unfold cellsFrom pushCells
    by_cases hk : (k == NameKind.cell) = true
    · rw [if_pos hk, if_pos hk]
      have hk' : (((y, k) : Str × NameKind).2 == NameKind.cell) = true := hk
      rw [hk', if_pos rfl] at e
      injection e with e1 e2
      injection e1 with e3 e4
      subst e3
      exact cells_none e2 _ _ _
    · rw [if_neg hk, if_neg hk]
      have hk' : (((y, k) : Str × NameKind).2 == NameKind.cell) = false := by simpa using hk
      rw [hk'] at e
      exact cells_one e n acc h

structure CompC (scope sc : Scope) (G fv : List Str) (is : List Nat) (x : Str) : Prop where
  kind : scope.kind = .function
  cell : scope.names.filter (fun y => y.2 == .cell) = [(x, .cell)]
  loc : scope.names.lookup x = some .cell
  free : ∀ y, (y, NameKind.free) ∈ scope.names → sc.names.lookup y = some .cell ∨ sc.names.lookup y = some .free
  names : ∀ y ∈ scope.names, y.2 = .local → scope.names.lookup y.1 = some .local
  fv : fvOk scope sc G fv is = true
  notx : ∀ y ∈ scope.names, y.2 = .free → (y.1 == x) = false

theorem lookup_rel_cell {sc : Scope} : ∀ {names : List (Str × NameKind)} {x : Str}, names.lookup x = some .cell →
    (names.map fun (n, k) => if (k == NameKind.free && sc.kind == .function && sc.names.lookup n == some .cell) then (n, NameKind.cell) else (n, k)).lookup x = some .cell
  | [], _, h => by simp at h
  | (n, k) :: r, x, h => by
    have ih := @lookup_rel_cell sc r x
    show List.lookup x ((if (k == NameKind.free && sc.kind == .function && sc.names.lookup n == some .cell) = true then (n, NameKind.cell) else (n, k)) :: _) = _
    cases hx : x == n with
    | true =>
      simp only [List.lookup_cons, hx] at h
      cases h
      simp [List.lookup_cons, hx]
    | false =>
      simp only [List.lookup_cons, hx] at h
      by_cases hc : (k == NameKind.free && sc.kind == .function && sc.names.lookup n == some .cell) = true
      · rw [if_pos hc]; simp only [List.lookup_cons, hx]; exact ih h
      · rw [if_neg hc]; simp only [List.lookup_cons, hx]; exact ih h

theorem kept_cell {q : Vw} {h h' : Heap} {B : Addr} {u : Option Value} (hc : h.IsCell B u) (hs : Heap.SameBut B h h') : Kept q h h' := fun b o _ ⟨items, n, hd⟩ e => hs.extBut b o (fun hb => by
  subst hb
  obtain ⟨o', ho', hd'⟩ := hc
  rw [e] at ho'; cases ho'
  rw [hd] at hd'; cases hd') e

section
variable {prog : Program} {w : World} {c : Base prog w}

theorem newEnv_cell {A : Around} {E : Value → Shared → Prop} {s : Shared} {scope : Scope} {globals : Addr} {cl : List (Str × Addr)} {qual : Str} {func : Option Addr} {code : Value} {env : Env} {builtins : Addr} {x : Str} {Q : Env → Shared → Prop} (hc : scope.names.filter (fun y => y.2 == .cell) = [(x, .cell)])
    (hQ : ∀ h', h'.Ns s.heap.objs.size (fun _ => none) → h'.IsCell (s.heap.objs.size + 1) none → (∀ b o, s.heap.get? b = some o → h'.get? b = some o) →
      Q (newEnv scope s.heap.objs.size globals ((x, s.heap.objs.size + 1) :: cl) qual func code (some env) builtins) { s with heap := h' }) :
    wpAny (model prog w) A (newFunctionEnv scope globals cl [] qual func code (some env) builtins) Q E s := by
  simp only [newFunctionEnv, Option.isSome_some, if_true]
  refine wpAny_bind (wpAny_alloc ?_)
  refine wpAny_bind (wpAny_layCells _ (fun name kind cells => by cases hkc : kind == NameKind.cell <;> simp [hkc]) _ _ _ _ ?_)
  rw [(cells_one hc _ _ s.heap).1, (cells_one hc 0 [] _).2]
  simp only [List.forIn_nil]
  refine wpAny_bind (wpAny_pure (wpAny_pure ?_))
  have hsz : (s.heap.push { cls := .type "dict", data := .dict #[] }).objs.size = s.heap.objs.size + 1 := Heap.size_push ..
  have := hQ ((s.heap.push { cls := .type "dict", data := .dict #[] }).push { cls := .type "cell", data := .cell none }) ((Heap.Ns.new s.heap (.type "dict")).keeps fun b o e => Heap.get?_push_of_some _ e)
    ⟨_, by rw [← hsz]; exact Heap.get?_push_size _ rfl, rfl⟩ (fun b o e => Heap.get?_push_of_some _ (Heap.get?_push_of_some _ e))
  simp only [newEnv] at this
  show Q { scope := scope, locals := _, globals := _, cells := (x, (s.heap.push { cls := .type "dict", data := .dict #[] }).objs.size) :: cl, qual := qual, func := func, code := env.code, frame := env.frame, builtins := env.builtins } _
  rw [hsz]
  exact this

theorem cenv_okC {scope sc : Scope} {env : Env} {C B : Addr} {G fv : List Str} {is : List Nat} {x : Str} (hE : EnvI sc env) (hI : CompC scope sc G fv is x) :
    EnvI (relS scope sc) (compEnvC scope ((x, B) :: closOf env scope.names []) C env) := by
  refine ⟨relabel_eq hE.scope, hE.globals, hE.builtins, hI.kind, fun y hy => ?_⟩
  show ∃ a, List.lookup y ((x, B) :: closOf env scope.names []) = some a
  by_cases hyx : y = x
  · subst hyx; exact ⟨B, by simp⟩
  · have hyb : (y == x) = false := by simpa using hyx
    rw [List.lookup_cons, hyb]
    have key : ∀ kd, (relS scope sc).names.lookup y = some kd → kd = .cell ∨ kd = .free → (y, NameKind.free) ∈ scope.names := by
      intro kd hl hkd
      obtain ⟨⟨n, k⟩, hnk, he⟩ := List.mem_map.mp (mem_lookup hl)
      dsimp only at he
      by_cases hcd : (k == NameKind.free && sc.kind == .function && sc.names.lookup n == some .cell) = true
      · rw [if_pos hcd] at he
        injection he with h1 h2
        simp only [Bool.and_eq_true, beq_iff_eq] at hcd
        rw [← h1, ← hcd.1.1]; exact hnk
      · rw [if_neg hcd] at he
        injection he with h1 h2
        subst h1 h2
        rcases hkd with rfl | rfl
        · have : (n, NameKind.cell) ∈ scope.names.filter (fun y => y.2 == .cell) := List.mem_filter.mpr ⟨hnk, rfl⟩
          rw [hI.cell, List.mem_singleton] at this
          injection this with h1 _
          exact absurd h1 hyx
        · exact hnk
    have hm : (y, NameKind.free) ∈ scope.names := by
      rcases hy with hy | hy
      · exact key _ hy (.inl rfl)
      · exact key _ hy (.inr rfl)
    obtain ⟨a, ha⟩ := hE.cells y (hI.free y hm)
    exact ⟨a, closOf_lookup env ha _ _ (.inl hm)⟩

theorem cfr_okC {scope sc : Scope} {env : Env} {C B : Addr} {h₀ h' : Heap} {m' : Str → Option Value} {x : Str} {v : Value} {t : T} {G fv : List Str} {is : List Nat} {r : List X} {Z : Addr → Prop} (hE : EnvI sc env) (hI : CompC scope sc G fv is x)
    (hF : FrE c Z h₀ env G r) (hs : Sub h₀ h') (hn : h'.Ns C m') (hm : h'.IsCell B (some v)) (hr : Rep ⟨c.a, Z⟩ h' t v) :
    FrE c Z h' (compEnvC scope ((x, B) :: closOf env scope.names []) C env) (x :: fv) (.p t :: pick r is) := by
  refine ⟨m', hn, fun i y hi hu => ?_⟩
  have hk : ∀ y, (compEnvC scope ((x, B) :: closOf env scope.names []) C env).kindOf y = (relS scope sc).names.lookup y := fun y => by
    show (relabel scope env).names.lookup y = _
    rw [relabel_eq hE.scope]
  cases i with
  | zero =>
    simp at hi; subst hi
    refine ⟨v, .inr ⟨.inl ((hk _).trans (lookup_rel_cell hI.loc)), B, ?_, hm⟩, hr⟩
    show List.lookup x ((x, B) :: closOf env scope.names []) = _
    simp
  | succ j =>
    simp at hi
    obtain ⟨i, g1, g2, g3, g4⟩ := fvOk_get (r := r) hI.fv hi
    have e : nth (.p t :: pick r is) (j + 1) = nth r i := g2
    rw [e] at hu ⊢
    obtain ⟨m, hn₀, hF⟩ := hF
    obtain ⟨u, hu', hr'⟩ := hF i y g1 hu
    refine ⟨u, .inr ?_, hr'.mono hs⟩
    have hkd : (compEnvC scope ((x, B) :: closOf env scope.names []) C env).kindOf y = some .cell ∨ (compEnvC scope ((x, B) :: closOf env scope.names []) C env).kindOf y = some .free := by
      rw [hk]; exact lookup_rel_free g3
    refine ⟨hkd, ?_⟩
    have hyx : (y == x) = false := hI.notx _ (mem_lookup g3) rfl
    rcases hu' with ⟨q, _⟩ | ⟨_, cc, q1, q2⟩
    · rw [hE.kindOf] at q
      rcases g4 with g4 | g4 <;> rw [g4] at q <;> cases q
    · refine ⟨cc, ?_, q2.keeps hs⟩
      show List.lookup y ((x, B) :: closOf env scope.names []) = _
      rw [List.lookup_cons, hyx]
      exact closOf_lookup env q1 _ _ (.inl (mem_lookup g3))

theorem comp_loopC {A : Around} {env : Env} {h₀ : Heap} {s : Shared} {sc scope : Scope} {G fv : List Str} {is : List Nat} {r : List X} {k : Nat} {elt iter : Expr} {x : Str} {px pos : Pos} {ifs : List Expr} {ft : List X → Option Bool} {fe : List X → Option T}
    {I C D B : Addr} {fp wr : List Addr} {P : Nat → Value → Prop} {St : Nat → Heap → Prop} {ts out : List T} {R : Result → Shared → Prop} {h₂ : Heap} {m₀ : Str → Option Value} {Z : Addr → Prop}
    (hA : GA k A) (hE : EnvI sc env) (hx₀ : Gd c h₀) (hZ : Live Z h₀) (hF : FrE c Z h₀ env G r) (W : Iter prog w ⟨c.a, Z⟩ h₀ h₂ I fp wr P St ts) (hs₂ : ∀ b o, h₂.get? b = some o → s.heap.get? b = some o)
    (hI : CompC scope sc G fv is x)
    (ht : EvT c (relS scope sc) (x :: fv) k ifs ft) (he : Ev c (relS scope sc) (x :: fv) k elt fe)
    (hC : h₂.get? C = none) (hD : h₂.get? D = none) (hB : h₂.get? B = none) (hDC : D ≠ C) (hBC : B ≠ C) (hBD : B ≠ D) (hn₀ : s.heap.Ns C m₀) (hcl : s.heap.IsCell B none) (hacc : s.heap.PlainList D #[])
    (hout : compG (fun y => ft (y :: pick r is)) (fun y => fe (y :: pick r is)) ts = some out)
    (hR : ∀ h' tk m' ys, h'.Ns C m' → h'.PlainList D ys → Reps ⟨c.a, Z⟩ h' out ys.toList → (∀ b o, b ∉ wr → h₂.get? b = some o → h'.get? b = some o) → R (.ok .next) { s with heap := h', toks := tk }) :
    codeAny (model prog w) A (.compLoop (.ListComp elt [⟨.Name x px, iter, ifs, 0⟩] scope pos) 0 (.ref I) (.ref D) (compEnvC scope ((x, B) :: closOf env scope.names []) C env)) R s := by
  have W' := W.walks A hA.handled
  have hwr : ∀ b ∈ wr, b ∈ fp := W'.sub
  have hCf : C ∉ fp := fun hm => by obtain ⟨o, ho, _⟩ := W.fp _ hm; rw [hC] at ho; cases ho
  have hDf : D ∉ fp := fun hm => by obtain ⟨o, ho, _⟩ := W.fp _ hm; rw [hD] at ho; cases ho
  have hBf : B ∉ fp := fun hm => by obtain ⟨o, ho, _⟩ := W.fp _ hm; rw [hB] at ho; cases ho
  have hCw : C ∉ wr := fun h => hCf (hwr _ h)
  have hBw : B ∉ wr := fun h => hBf (hwr _ h)
  have hDw : D ∉ wr := fun h => hDf (hwr _ h)
  have hEc := cenv_okC (C := C) (B := B) hE hI
  have hkx : (compEnvC scope ((x, B) :: closOf env scope.names []) C env).kindOf x = some .cell := by
    show (relabel scope env).names.lookup x = _
    rw [relabel_eq hE.scope]; exact lookup_rel_cell hI.loc
  have hlx : (compEnvC scope ((x, B) :: closOf env scope.names []) C env).cells.lookup x = some B := by
    show List.lookup x ((x, B) :: closOf env scope.names []) = _
    simp
  have hsz := W.short
  have hD0 : h₀.get? D = none := by
    cases e : h₀.get? D with
    | none => rfl
    | some o => rw [W.sub _ _ e] at hD; cases hD
  have hF' : FrE c (bar Z D) h₀ env G r := hF.view fun b o e hz hb => hb.elim hz fun hb => by rw [hb, hD0] at e; cases e
  have st0 : St 0 s.heap := W'.frame _ _ _ W.start fun b _ o e => hs₂ b o e
  refine codeAny_compLoop_tests
    (fun n s' => ∃ h' tk u ys i out₁ out₂, s' = { s with heap := h', toks := tk } ∧ i ≤ ts.length ∧ St i h' ∧ h'.PlainList D ys ∧ h'.Ns C m₀ ∧ h'.IsCell B u ∧ out = out₁ ++ out₂ ∧ compG (fun y => ft (y :: pick r is)) (fun y => fe (y :: pick r is)) (ts.drop i) = some out₂ ∧
      Reps ⟨c.a, bar Z D⟩ h' out₁ ys.toList ∧ out₁.length ≤ i ∧ n = ts.length + 1 - i ∧ (∀ b o, b ∉ wr → h₂.get? b = some o → h'.get? b = some o) ∧ (∀ j v t, P j v → ts[j]? = some t → Rep ⟨c.a, bar Z D⟩ h' t v)) ?_ (ts.length + 1)
    ⟨s.heap, s.toks, none, #[], 0, [], out, rfl, Nat.zero_le _, st0, hacc, hn₀, hcl, rfl, hout, rfl, Nat.le_refl _, rfl, fun b o _ e => hs₂ b o e, fun j v t hP hj => ?_⟩
  · rintro n s' ⟨H, tk, u₀, ys, i, out₁, out₂, rfl, hi, hst', hacc', hn', hcl', rfl, hout₂, hreps, hlen, rfl, hk, hit⟩
    have sub₀ : ∀ {h' : Heap}, (∀ b o, b ∉ wr → h₂.get? b = some o → h'.get? b = some o) → Sub h₀ h' := fun hk b o e => hk b o (fun hb => by rw [W.new b hb] at e; cases e) (W.sub b o e)
    by_cases hlt : i < ts.length
    · refine W'.item i _ _ _ hlt hst' fun v h₁ tk₁ hPv hst₁ hk₁ => ?_
      have K₁ : Kept ⟨c.a, bar Z D⟩ H h₁ := kept_iter (W.ns i H hst') hk₁
      have hk₁' : ∀ b o, b ∉ wr → h₂.get? b = some o → h₁.get? b = some o := fun b o hb e => hk₁ b o hb (hk b o hb e)
      have hgt : ts[i]? = some ts[i] := by simp [hlt]
      have hdrop : ts.drop i = ts[i] :: ts.drop (i + 1) := List.drop_eq_getElem_cons hlt
      rw [hdrop] at hout₂
      obtain ⟨b, eb, hout₂⟩ := ob_some hout₂
      have hn₁ := hn'.at' (h' := h₁) fun o e => hk₁ _ o hCw e
      have hcl₁ : h₁.IsCell B u₀ := by obtain ⟨o, ho, hd⟩ := hcl'; exact ⟨o, hk₁ _ _ hBw ho, hd⟩
      refine wpAny_assign_Name (wpAny_storeName_cell (show (compEnvC scope ((x, B) :: closOf env scope.names []) C env).scope.kind = .function from hI.kind) hkx hlx hcl₁ fun h₂' hcl₂ hs₂' => ?_)
      have hn₂ : h₂'.Ns C m₀ := hn₁.sameBut hs₂' (Ne.symm hBC)
      have K₂ : Kept ⟨c.a, bar Z D⟩ H h₂' := K₁.trans (kept_cell hcl₁ hs₂')
      have hk₂ : ∀ b o, b ∉ wr → h₂.get? b = some o → h₂'.get? b = some o := fun b o hb e => hs₂'.extBut b o (fun hbC => by subst hbC; exact absurd (hB.symm.trans e) (by simp)) (hk₁' b o hb e)
      have hst₂ : St (i + 1) h₂' := W'.frame _ _ _ hst₁ fun b hb o e => hs₂'.extBut b o (fun hbC => hBf (by rw [← show b = B from hbC]; exact hb)) e
      have hr₂ : Rep ⟨c.a, bar Z D⟩ h₂' ts[i] v := Rep.mono' K₂ _ _ (hit i v _ hPv hgt)
      have fr₂ := cfr_okC (c := c) (C := C) (B := B) hE hI hF' (sub₀ hk₂) hn₂ hcl₂ hr₂
      have ext₂ := ext_sub hx₀ (sub₀ hk₂)
      have hacc₂ : h₂'.PlainList D ys := hacc'.at fun o e => hs₂'.extBut _ o (Ne.symm hBD) (hk₁ _ o hDw e)
      have live₂ : Live (bar Z D) h₂' := fun b hb => hb.elim (fun hb => (hZ.mono (sub₀ hk₂)) b hb) fun hb => by obtain ⟨n, hn⟩ := hacc₂; exact ⟨_, hb ▸ hn⟩
      refine wpAny_mono (ht.go A _ _ _ b _ (bar Z D) hA hEc ext₂ live₂ fr₂ eb) (fun ok s₃ ⟨hok, k₃⟩ => ?_) fun _ _ y => y
      subst hok
      obtain ⟨h₃, tk₃, rfl, sub₃⟩ := k₃
      replace sub₃ : Sub h₂' h₃ := sub₃
      have hk₃ : ∀ b o, b ∉ wr → h₂.get? b = some o → h₃.get? b = some o := fun b o hb e => sub₃ b o (hk₂ b o hb e)
      have K₃ := K₂.trans (kept_sub sub₃)
      have hst₃ : St (i + 1) h₃ := W'.frame _ _ _ hst₂ fun b hb o e => sub₃ b o e
      cases ok with
      | false =>
        simp only [Bool.false_eq_true, if_false]
        exact ⟨ts.length + 1 - (i + 1), by omega, h₃, tk₃, some v, ys, i + 1, out₁, out₂, rfl, hlt, hst₃, hacc₂.at fun o e => sub₃ _ o e, hn₂.keeps sub₃, hcl₂.keeps sub₃, rfl, hout₂, Reps.mono' K₃ _ _ hreps, by omega, rfl, hk₃, fun j u t hP hj => Rep.mono' K₃ _ _ (hit j u t hP hj)⟩
      | true =>
        simp only [if_true]
        obtain ⟨y, ey, hout₂⟩ := ob_some hout₂
        obtain ⟨out₃, eo, hout₂⟩ := ob_some hout₂
        cases hout₂
        refine wpAny_mono (he.go A _ _ _ y _ (bar Z D) hA hEc (ext_sub ext₂ sub₃) (live₂.mono sub₃) (fr₂.mono sub₃) ey) (fun u s₄ ⟨k₄, r₄⟩ => ?_) fun _ _ y => y
        obtain ⟨h₄, tk₄, rfl, sub₄⟩ := k₄
        replace sub₄ : Sub h₃ h₄ := sub₄
        replace r₄ : Rep ⟨c.a, bar Z D⟩ h₄ y u := r₄
        have hacc₄ : h₄.PlainList D ys := hacc₂.at fun o e => sub₄ _ o (sub₃ _ o e)
        have hys : ys.size ≤ sizeLine := by
          have e1 := hreps.length
          rw [Array.length_toList] at e1
          rw [sizeLine_eq]; omega
        refine wpAny_list_append_plain (hsz := hys) hacc₄ fun h₅ hl₅ hs₅ => ?_
        have K₅ : Kept ⟨c.a, bar Z D⟩ h₄ h₅ := kept_bar hs₅
        refine ⟨ts.length + 1 - (i + 1), by omega, h₅, tk₄, some v, ys.push u, i + 1, out₁ ++ [y], out₃, rfl, hlt, W'.frame _ _ _ hst₃ fun b hb o e => hs₅.extBut b o (fun hbD => hDf (by rw [← show b = D from hbD]; exact hb)) (sub₄ b o e), hl₅,
          ((hn₂.keeps sub₃).keeps sub₄).sameBut hs₅ (Ne.symm hDC), ((hcl₂.keeps sub₃).keeps sub₄).sameBut hs₅ hBD, by simp, eo, ?_, by simp; omega, rfl, fun b o hb e => hs₅.extBut b o (fun hbD => by subst hbD; exact absurd (hD.symm.trans e) (by simp)) (sub₄ b o (hk₃ b o hb e)),
          fun j u' t hP hj => Rep.mono' ((K₃.trans (kept_sub sub₄)).trans K₅) _ _ (hit j u' t hP hj)⟩
        rw [Array.toList_push]
        exact Reps.snoc (Reps.mono' ((K₃.trans (kept_sub sub₄)).trans K₅) _ _ hreps) (Rep.mono' K₅ _ _ r₄)
    · have hin : i = ts.length := by omega
      subst hin
      rw [List.drop_length] at hout₂
      cases hout₂
      refine W'.done _ _ _ hst' fun h₁ tk₁ hk₁ => ?_
      have K₁ : Kept ⟨c.a, bar Z D⟩ H h₁ := kept_iter (W.ns _ H hst') hk₁
      refine hR h₁ tk₁ m₀ ys (hn'.at' fun o e => hk₁ _ o hCw e) (hacc'.at fun o e => hk₁ _ o hDw e) ?_ fun b o hb e => hk₁ b o hb (hk b o hb e)
      rw [List.append_nil]
      exact Reps.view (fun b o e hz hb => hz (.inl hb)) _ _ (Reps.mono' K₁ _ _ hreps)
  · exact Rep.mono hs₂ (Rep.view (fun b o e hz hb => hb.elim hz fun hb => by rw [hb, hD] at e; cases e) _ _ (W.item j v t hP hj))
theorem comp_blockC {A : Around} {env : Env} {E : Value → Shared → Prop} {h₀ : Heap} {s₂ : Shared} {sc scope : Scope} {G fv : List Str} {is : List Nat} {r : List X} {k : Nat} {elt iter : Expr} {x : Str} {px pos : Pos} {ifs : List Expr} {ft : List X → Option Bool} {fe : List X → Option T}
    {I : Addr} {fp wr : List Addr} {P : Nat → Value → Prop} {St : Nat → Heap → Prop} {ts out : List T} {Z : Addr → Prop} {RR : Value → Addr → Result → Shared → Prop}
    (hA : GA k A) (hE : EnvI sc env) (hx₀ : Gd c h₀) (hZ : Live Z h₀) (hF : FrE c Z h₀ env G r) (W : Iter prog w ⟨c.a, Z⟩ h₀ s₂.heap I fp wr P St ts)
    (hI : CompC scope sc G fv is x) (ht : EvT c (relS scope sc) (x :: fv) k ifs ft) (he : Ev c (relS scope sc) (x :: fv) k elt fe)
    (hout : compG (fun y => ft (y :: pick r is)) (fun y => fe (y :: pick r is)) ts = some out)
    (hRR : ∀ D C h' tk m' ys, s₂.heap.get? D = none → s₂.heap.get? C = none → D ≠ C → h'.Ns C m' → h'.PlainList D ys → Reps ⟨c.a, Z⟩ h' out ys.toList → (∀ b o, b ∉ wr → s₂.heap.get? b = some o → h'.get? b = some o) →
      RR (.ref D) C (.ok .next) { s₂ with heap := h', toks := tk }) :
    wpAny (model prog w) A (newList []) (fun acc s₃ => wpAny (model prog w) A (newFunctionEnv scope env.globals (closOf env scope.names []) [] env.qual none .none (some env)) (fun cenv s₄ =>
      codeAny (model prog w) A (.compStart (.ListComp elt [⟨.Name x px, iter, ifs, 0⟩] scope pos) 0 (.ref I) acc { cenv with scope := relabel scope env }) (RR acc cenv.locals) s₄) E s₃) E s₂ := by
  refine wpAny_newObj_type (newEnv_cell hI.cell fun h₁ hns₁ hcl₁ old₁ => ?_)
  dsimp only at hns₁ hcl₁ old₁ ⊢
  generalize hH2 : s₂.heap.push { cls := .type "list", dict := none, data := .seq ([] : List Value).toArray } = H2 at hns₁ hcl₁ old₁ ⊢
  have hC : H2.objs.size = s₂.heap.objs.size + 1 := by rw [← hH2, Heap.size_push]
  have hDC : s₂.heap.objs.size ≠ H2.objs.size := by rw [hC]; exact Nat.ne_of_lt (Nat.lt_succ_self _)
  have below : ∀ b, b < s₂.heap.objs.size → b ≠ H2.objs.size := fun b hb => by rw [hC]; exact Nat.ne_of_lt (Nat.lt_succ_of_lt hb)
  have old : ∀ b o, s₂.heap.get? b = some o → h₁.get? b = some o := fun b o e => old₁ b o (hH2 ▸ Heap.get?_push_of_some _ e)
  have hacc : h₁.PlainList s₂.heap.objs.size #[] := ⟨_, old₁ _ _ (hH2 ▸ Heap.get?_push_size _ rfl)⟩
  have fresh : ∀ a, s₂.heap.objs.size ≤ a → s₂.heap.get? a = none := fun a ha => by
    cases e : s₂.heap.get? a with
    | none => rfl
    | some o' => exact absurd (Heap.lt_size e) (Nat.not_lt.mpr ha)
  have hDn := fresh s₂.heap.objs.size (Nat.le_refl _)
  have hCn := fresh H2.objs.size (by rw [hC]; exact Nat.le_succ _)
  have hBn := fresh (H2.objs.size + 1) (by rw [hC]; exact Nat.le_trans (Nat.le_succ _) (Nat.le_succ _))
  have loop : ∀ s₃ : Shared, s₃ = { s₂ with heap := h₁, toks := s₂.toks + ([] : List (Str × Value)).length } →
      codeAny (model prog w) A (.compLoop (.ListComp elt [⟨.Name x px, iter, ifs, 0⟩] scope pos) 0 (.ref I) (.ref s₂.heap.objs.size) (compEnvC scope ((x, H2.objs.size + 1) :: closOf env scope.names []) H2.objs.size env))
        (RR (.ref s₂.heap.objs.size) H2.objs.size) s₃ := by
    rintro s₃ rfl
    exact comp_loopC (c := c) hA hE hx₀ hZ hF W old hI ht he hCn hDn hBn hDC (Nat.succ_ne_self _) (by rw [hC]; exact fun h => absurd h (Nat.ne_of_gt (Nat.lt_succ_of_lt (Nat.lt_succ_self _)))) hns₁ hcl₁ hacc hout fun h' tk m' ys hn hl hr hk =>
      hRR _ _ h' tk m' ys hDn hCn hDC hn hl hr hk
  have W' := W.walks A hA.handled
  exact codeAny_compStart_list (loop _ rfl) (W'.self 0 _ _ _ (W'.frame _ _ _ W.start fun b _ o e => old b o e) (loop _ rfl))

theorem St_assign_compC {g : Bool} {sc scope : Scope} {G fv : List Str} {is : List Nat} {k j : Nat} {elt iter : Expr} {x y : Str} {px py pos spos : Pos} {ifs : List Expr} {fi : List X → Option (List T)} {ft : List X → Option Bool} {fe : List X → Option T}
    (hi : EvIt c sc G k iter fi) (hI : CompC scope sc G fv is x) (ht : EvT c (relS scope sc) (x :: fv) k ifs ft) (he : Ev c (relS scope sc) (x :: fv) k elt fe)
    (hs : ∀ (env : Env) (x : Value), foldedSetIterable iter env x = pure x) (hn : NameI sc G y j)
    (hsw : ∀ env, EnvI sc env → swapsWith (.ListComp elt [⟨.Name x px, iter, ifs, 0⟩] scope pos) (some (.Name y py)) spos.line env = pure true) :
    St c g sc G k (.Assign [.Name y py] (.ListComp elt [⟨.Name x px, iter, ifs, 0⟩] scope pos) spos)
      (fun r => ob (fi r) fun ts => ob (compG (fun y => ft (y :: pick r is)) (fun y => fe (y :: pick r is)) ts) fun out => ob (put j r (.p (.l out))) fun r' => some (.n r')) := by
  refine ⟨fun A env s r res kb Z δ E hA hE hF htt => ?_⟩
  obtain ⟨ts, e1, htt⟩ := ob_some htt
  obtain ⟨out, e2, htt⟩ := ob_some htt
  obtain ⟨r', e3, htt⟩ := ob_some htt
  cases htt
  obtain ⟨hjk, rfl⟩ := put_some e3
  rw [exec_Assign_Name_used _ _ _ _ (hsw env hE)]
  refine wpAny_bind (wpAny_standAt (wpAny_bind ?_))
  show wpAny _ A (do let _ ← comprehension (.ListComp elt [⟨.Name x px, iter, ifs, 0⟩] scope pos) scope env _ (newList []) false (eval iter env) (some (assign (.Name y py) env))) _ _ s
  refine wpAny_bind (wpAny_mono (wpAny_comprehension_free (use := some (assign (.Name y py) env)) (Q := fun _ s' => Post c g kb Z δ env G r (.n (setN r j (.p (.l out)))) s .next s') rfl (hs env) (closFor (hfreeOf hE hI.free)) hI.kind hI.names
    (wpAny_mono (hi.go A env s r ts E Z hA hE hF.ext hF.liveh hF.toE e1) (fun xv s₁ h₁ => wpAny_mono h₁ (fun it s₂ h₂ => ?_) fun _ _ e => e) fun _ _ e => e)) (fun _ s' hq => wpAny_pure (wpAny_pure hq)) fun _ _ e => e)
  obtain ⟨I, fp, wr, P, Si, rfl, k₂, W⟩ := h₂
  refine comp_blockC (c := c) (RR := fun acc C => compPost (model prog w) A E (some (assign (.Name y py) env)) _ acc C) hA hE hF.ext hF.liveh hF.toE W hI ht he e2 ?_
  intro D C h' tk m' ys hD hC hDC hn' hl hr hk
  obtain ⟨h₂', tk₂', e₂, sub₂⟩ := k₂
  subst e₂
  have sub' : Sub s.heap h' := fun b o e => hk b o (fun hb => by rw [W.new b hb] at e; cases e) (sub₂ b o e)
  have hCn : ∀ b o, s.heap.get? b = some o → b ≠ C := fun b o e hb => by subst hb; rw [sub₂ b o e] at hC; cases hC
  have hX : Rep ⟨c.a, Z⟩ h' (.l out) (.ref D) := ⟨D, ys, rfl, hl, hr, (hF.liveh.mono sub₂).fresh hD⟩
  obtain ⟨oC, esC, epC, hoC, hdC, rC⟩ := id hn'
  have hlC : env.locals ≠ C := by obtain ⟨m, ⟨o, es, ep, ho, _⟩, _⟩ := hF.ns; exact hCn _ o ho
  have hcC : ∀ n cc, env.cells.lookup n = some cc → cc ≠ C := fun n cc e => by obtain ⟨_, v, o, ho, _⟩ := hF.cell n cc e; exact hCn _ o ho
  have hdC' : ∀ i kv, nth r i = .d kv → δ i ≠ C := fun i kv e => by
    obtain ⟨x, hx⟩ := hF.dom i kv e
    obtain ⟨o, ho⟩ := hF.dlive hx e
    exact hCn _ o ho
  have hkC : kb C = none := by
    cases e : kb C with
    | none => rfl
    | some o => exact absurd rfl (hCn _ _ (hF.keep _ _ e))
  have hPC : c.P ≠ C := by obtain ⟨o, ho, _⟩ := hF.ptab; exact hCn _ o ho
  show wpAny _ A (assign (.Name y py) env (.ref D)) _ _ _
  refine wpAny_assign_Name ?_
  refine FrS.store (c := c) (s := ⟨h', s.gens, s.drawn, tk, s.os⟩) ((hF.mono sub').pin hoC hlC hcC hdC' hPC) hE hn.at_ hn.one hn.kind (V := .p (.l out)) hX (fun h => nomatch h) (fun kv h => nomatch h) fun h₃ tk₃ hnd F₃ => ?_
  have hC₃ : h₃.get? C = some oC := F₃.keep C oC (pin_self hkC)
  refine ⟨m', hn'.at' fun o e => ?_, fun h₄ hs₄ => ⟨.heap fun b o _ hd e => ?_, rfl, _, (F₃.rebase hF.base hF.live pin_sub).off (fun b o hb e => hs₄.extBut b o hb e) (fun o e => ?_) hPC hkC hlC hcC (fun i kv e => ?_), fun i hi => ?_⟩⟩
  · rw [hoC] at e; cases e; exact hC₃
  · exact hs₄.extBut b o (hCn b o e) (hnd b o hd (sub' b o e))
  · rw [hC₃] at e; cases e; intro i n hq; rw [hdC] at hq; cases hq
  · rw [nth_setN] at e
    by_cases hi : i = j
    · rw [if_pos hi] at e; cases e
    · rw [if_neg hi] at e; simp only [if_neg hi]; exact hdC' i kv e
  · have hij : i ≠ j := fun e => by subst e; rw [hi] at hjk; cases hjk
    rw [nth_setN]
    simp only [if_neg hij]
    exact ⟨hi, trivial⟩
end
end Mine

namespace Mine
open PySem PySem.Calls PyProof.Rows PyProof.V PySem.SeqAt

def freeOk (scope sc : Scope) : Bool := scope.names.all fun y => y.2 != .free || (sc.names.lookup y.1 == some .cell || sc.names.lookup y.1 == some .free)
def locOk (scope : Scope) : Bool := scope.names.all fun y => y.2 != .local || scope.names.lookup y.1 == some .local
theorem freeOk_of {scope sc : Scope} (h : freeOk scope sc = true) : ∀ y, (y, NameKind.free) ∈ scope.names → sc.names.lookup y = some .cell ∨ sc.names.lookup y = some .free := fun y hy => by
  have := (List.all_eq_true.mp h) _ hy
  simpa using this
theorem locOk_of {scope : Scope} (h : locOk scope = true) : ∀ y ∈ scope.names, y.2 = .local → scope.names.lookup y.1 = some .local := fun y hy hl => by
  have := (List.all_eq_true.mp h) _ hy
  simpa [hl] using this
def compIok (scope sc : Scope) (G fv : List Str) (is : List Nat) (x : Str) : Bool :=
  scope.kind == .function && scope.names.all (fun y => y.2 != .cell) && scope.names.lookup x == some .local && freeOk scope sc && locOk scope && fvOk scope sc G fv is
theorem compI_of {scope sc : Scope} {G fv : List Str} {is : List Nat} {x : Str} (h : compIok scope sc G fv is x = true) : CompI scope sc G fv is x := by
  simp only [compIok, Bool.and_eq_true, beq_iff_eq] at h
  obtain ⟨⟨⟨⟨⟨h1, h2⟩, h3⟩, h4⟩, h5⟩, h6⟩ := h
  exact ⟨h1, fun y hy => by simpa using (List.all_eq_true.mp h2) y hy, h3, freeOk_of h4, locOk_of h5, h6⟩
def compI2ok (scope sc : Scope) (G fv : List Str) (is : List Nat) (x y : Str) : Bool := compIok scope sc G fv is x && scope.names.lookup y == some .local && !(x == y)
theorem compI2_of {scope sc : Scope} {G fv : List Str} {is : List Nat} {x y : Str} (h : compI2ok scope sc G fv is x y = true) : CompI2 scope sc G fv is x y := by
  simp only [compI2ok, Bool.and_eq_true, beq_iff_eq] at h
  obtain ⟨⟨h1, h2⟩, h3⟩ := h
  exact ⟨compI_of h1, h2, by simpa using h3⟩
def compCok (scope sc : Scope) (G fv : List Str) (is : List Nat) (x : Str) : Bool :=
  scope.kind == .function && scope.names.filter (fun y => y.2 == .cell) == [(x, .cell)] && scope.names.lookup x == some .cell && freeOk scope sc && locOk scope && fvOk scope sc G fv is && scope.names.all (fun y => y.2 != .free || !(y.1 == x))
theorem compC_of {scope sc : Scope} {G fv : List Str} {is : List Nat} {x : Str} (h : compCok scope sc G fv is x = true) : CompC scope sc G fv is x := by
  simp only [compCok, Bool.and_eq_true, beq_iff_eq] at h
  obtain ⟨⟨⟨⟨⟨⟨h1, h2⟩, h3⟩, h4⟩, h5⟩, h6⟩, h7⟩ := h
  exact ⟨h1, h2, h3, freeOk_of h4, locOk_of h5, h6, fun y hy hf => by simpa [hf] using (List.all_eq_true.mp h7) y hy⟩
def defIok (sc : Scope) (G names : List Str) : Bool :=
  sc.kind == .function && !sc.isCoroutine && !sc.isGenerator && sc.names.all (fun y => y.2 != .free) && names.all (fun y => sc.names.lookup y == some .local || sc.names.lookup y == some .cell) && decide names.Nodup && (List.range names.length).all (fun i => G[i]? == names[i]?)
theorem defI_of {sc : Scope} {G names : List Str} (h : defIok sc G names = true) : DefI sc G names := by
  simp only [defIok, Bool.and_eq_true, beq_iff_eq, decide_eq_true_eq] at h
  obtain ⟨⟨⟨⟨⟨⟨h1, h2⟩, h3⟩, h4⟩, h5⟩, h6⟩, h7⟩ := h
  refine ⟨h1, by simpa using h2, by simpa using h3, fun y q => ?_, fun y hy => ?_, h6, fun i hi => ?_⟩
  · have := (List.all_eq_true.mp h4) _ (mem_lookup q)
    simp at this
  · simpa using (List.all_eq_true.mp h5) y hy
  · simpa using (List.all_eq_true.mp h7) i (List.mem_range.mpr hi)

theorem swap_of {sc scope : Scope} {elt : Expr} {gens : List Comprehension} {pos py : Pos} {y : Str} {line : Nat} (hl : sc.names.lookup y = some .local) (h : (py.line == pos.line && !(scope.names.any fun (n, k) => n == y && (k == .local || k == .cell))) = true) :
    ∀ env, EnvI sc env → swapsWith (.ListComp elt gens scope pos) (some (.Name y py)) line env = pure true := fun env hE => by
  have hb : (env.blockKind == .function) = true := by unfold Env.blockKind; rw [hE.fn]; rfl
  have hk : (env.kindOf y == some .local) = true := by rw [hE.kindOf, hl]; rfl
  simp only [Bool.and_eq_true] at h
  show (pure (env.blockKind == .function && env.kindOf y == some .local && py.line == pos.line && !(scope.names.any fun (n, k) => n == y && (k == .local || k == .cell))) : Sem Bool) = pure true
  rw [hb, hk, h.1, h.2]
  rfl

def unstar : Expr → Bool
  | .Starred .. => false
  | _ => true
theorem star_cons {e : Expr} {rest : List Expr} (h : unstar e = true) (env : Env) : starEach (e :: rest) env = (false, eval e env) :: starEach rest env := by
  cases e with
  | Starred e' p => cases h
  | _ => rfl
theorem star_nil (env : Env) : starEach [] env = [] := rfl
theorem noStar_nil : NoStar [] := fun env pos => rfl
theorem backTo_any (pos : Pos) (l : List (Bool × Sem Value)) (h : l.any (·.1) = false) : (backTo pos l).any (·.1) = false := by
  unfold backTo
  induction l with
  | nil => rfl
  | cons x l ih =>
    simp only [List.any_cons, Bool.or_eq_false_iff] at h
    simp [h.1]
    simpa using h.2
theorem star_get {e e' : Expr} {pos : Pos} (h : unstar e = true) (h' : unstar e' = true) (env : Env) : backTo pos (starEach [e, e'] env) = [(false, eval e env), (false, eval e' env)] := by
  rw [star_cons h, star_cons h', star_nil]; rfl
theorem noStar_one {e : Expr} (h : unstar e = true) : NoStar [e] := fun env pos => backTo_any pos _ (by rw [star_cons h, star_nil]; rfl)
theorem noStar_two {e e' : Expr} (h : unstar e = true) (h' : unstar e' = true) : NoStar [e, e'] := fun env pos => backTo_any pos _ (by rw [star_cons h, star_cons h', star_nil]; rfl)

section
variable {prog : Program} {w : World} {c : Base prog w}
/-- the built-in names -/
structure Gl (c : Base prog w) : Prop where
  len : GlobIs c "len" (.builtin "len")
  sum : GlobIs c "sum" (.builtin "sum")
  min : GlobIs c "min" (.builtin "min")
  max : GlobIs c "max" (.builtin "max")
  tuple : GlobIs c "tuple" (.type "tuple")
  range : GlobIs c "range" (.type "range")
  list : GlobIs c "list" (.type "list")
  set : GlobIs c "set" (.type "set")
  zip : GlobIs c "zip" (.type "zip")
theorem FnAt.glob {x : Str} {params : Arguments} {body : List Stmt} {sc : Scope} {fa : Addr} {o : Obj} {pm cd doc : Value} (F : FnAt c x params body sc fa o pm cd doc) : GlobIs c x (.ref fa) := .inl F.mg

/-- a block that ends with a bool -/
structure SSB (c : Base prog w) (g : Bool) (sc : Scope) (G : List Str) (k : Nat) (st : List Stmt) (f : List X → Option Bool) : Prop where
  go : ∀ (A : Around) (env : Env) (s : Shared) (r : List X) (b : Bool) (kb : Addr → Option Obj) (Z : Addr → Prop) (δ : Nat → Addr) (E : Value → Shared → Prop), GA k A → EnvI sc env → FrS c kb Z δ s.heap env G r → f r = some b →
    wpAny (model prog w) A (execs st env) (fun fl s' => Stp c g s s' ∧ fl = .ret (.bool b) ∧ (∀ b o, kb b = some o → s'.heap.get? b = some o) ∧ Gd c s'.heap) E s
theorem SSB_cons {g : Bool} {sc : Scope} {G : List Str} {k : Nat} {st : Stmt} {rest : List Stmt} {f : List X → Option Res} {h : List X → Option Bool} (h₁ : St c g sc G k st f) (h₂ : SSB c g sc G k rest h) :
    SSB c g sc G k (st :: rest) (fun r => ob (f r) fun res => match res with | .n r' => h r' | .ret _ => none) := by
  refine ⟨fun A env s r b kb Z δ E hA hE hF ht => ?_⟩
  obtain ⟨res₁, e1, ht⟩ := ob_some ht
  cases res₁ with
  | ret t => cases ht
  | n r' =>
    refine wpAny_execs_cons (wpAny_mono (h₁.go A env s r (.n r') kb Z δ E hA hE hF e1) (fun fl s₁ p => ?_) fun _ _ y => y)
    obtain ⟨q1, rfl, δ', q2, q3⟩ := p
    exact wpAny_mono (h₂.go A env s₁ r' b kb Z δ' E hA hE q2 ht) (fun fl s₂ p₂ => ⟨q1.trans p₂.1, p₂.2⟩) fun _ _ y => y
theorem SSB_ret {g : Bool} {sc : Scope} {G : List Str} {k : Nat} {op : CmpOp} {F : T → T → Option Bool} {e₁ e₂ : Expr} {f₁ f₂ : List X → Option T} {pos pos' : Pos} (hop : CmpOk c k op F) (h₁ : Ev c sc G k e₁ f₁) (h₂ : Ev c sc G k e₂ f₂) (hm : behindInMarks op e₂ = false) :
    SSB c g sc G k [.Return (some (.Compare e₁ [op] [e₂] pos)) pos'] (fun r => ob (f₁ r) fun x => ob (f₂ r) fun y => F x y) := by
  refine ⟨fun A env s r b kb Z δ E hA hE hF ht => ?_⟩
  obtain ⟨t₁, e1, ht⟩ := ob_some ht
  obtain ⟨t₂, e2, ht⟩ := ob_some ht
  refine wpAny_execs_cons (wpAny_Return_some (wpAny_Compare1 (wpAny_mono (h₁.go A env s r t₁ E Z hA hE hF.ext hF.liveh hF.toE e1) (fun v₁ s₁ ⟨k₁, r₁⟩ => ?_) fun _ _ y => y) hm))
  have F₁ := hF.mono k₁.sub
  refine wpAny_mono (h₂.go A env s₁ r t₂ E Z hA hE F₁.ext F₁.liveh F₁.toE e2) (fun v₂ s₂ ⟨k₂, r₂⟩ => ?_) fun _ _ y => y
  refine wpAny_mono (hop.go A s₂ t₁ t₂ b v₁ v₂ E Z hA (r₁.mono k₂.sub) r₂ ht) (fun v s₃ h₃ => ?_) fun _ _ y => y
  obtain ⟨rfl, rfl⟩ := h₃
  exact ⟨.kp (k₁.trans k₂), rfl, fun b o e => (k₁.trans k₂).sub b o (hF.keep b o e), (F₁.mono k₂.sub).ext⟩
end
end Mine

namespace Mine
open PySem PySem.Calls PyProof.Rows PyProof.V PySem.SeqAt

/-! a set of rows: its table, by the hashes alone -/
def keysOf : List T → Option (List (List Int))
  | [] => some []
  | t :: l => ob (asKey t) fun k => ob (keysOf l) fun ks => some (k :: ks)
def hAt (hs : Array Int) (i : Nat) : Int := (hs[i]?).getD 0
def simH (hs : Array Int) (t : SetTable) (h : Int) : Option (Array Int × SetTable) := match Nat.ble hs.size 1000 && t.fits hs.size with
  | false => none
  | true => match t.gaveWay with
    | true => none
    | false => match t.probe (hAt hs) h (t.probeStart h) with
      | some (.empty j none) => match (t.put j).1.tooFull with
        | false => some (SetTable.insertAt hs (t.put j).2 h, (t.put j).1)
        | true => match (t.put j).1.fits (SetTable.insertAt hs (t.put j).2 h).size with
          | false => none
          | true => match Nat.ble (SetTable.sizeAbove (SetTable.grown (hs.size + 1))) 1000000 with
            | false => none
            | true => ob ((t.put j).1.relaid (SetTable.insertAt hs (t.put j).2 h) (SetTable.grown (hs.size + 1))) fun q =>
              match Nat.beq (q.2.filterMap ((SetTable.insertAt hs (t.put j).2 h)[·]?)).size (SetTable.insertAt hs (t.put j).2 h).size with
              | true => some (q.2.filterMap ((SetTable.insertAt hs (t.put j).2 h)[·]?), q.1)
              | false => none
      | _ => none
def simAll : List Int → Array Int → SetTable → Option (Array Int × SetTable)
  | [], hs, t => match t.fits hs.size with
    | true => some (hs, t)
    | false => none
  | h :: l, hs, t => ob (simH hs t h) fun q => simAll l q.1 q.2
section
variable (prog : Program) (w : World)
def lenset1 (led : Bool) (ks : List (List Int)) : Option Nat := ob (simAll (ks.map (tk prog w).hash) #[] (.fresh 0 0 led)) fun q => match Nat.ble q.1.size 1000 with
  | true => some q.1.size
  | false => none
def lensetF : T → Option T
  | .l rows => ob (match Nat.ble rows.length 500 with | true => keysOf rows | false => none) fun ks => ob (lenset1 prog w true ks) fun a => ob (lenset1 prog w false ks) fun b => match Nat.beq a b with
    | true => some (.i a)
    | false => none
  | _ => none
end

section
variable {prog : Program} {w : World} {A : Around} {E : Value → Shared → Prop} {s : Shared}

theorem forIn_stay {α β : Type} {f : α → β → Sem (ForInStep β)} {b : β} : ∀ {l : List α}, (∀ x ∈ l, f x b = pure (.yield b)) → forIn l b f = pure b
  | [], _ => List.forIn_nil
  | x :: l, h => by
    rw [List.forIn_cons, h x List.mem_cons_self]
    show forIn l b f = _
    exact forIn_stay fun y hy => h y (List.mem_cons_of_mem _ hy)
theorem ints_mem : ∀ {ks : List Int} {vs : List Value}, PySem.ItemsAre (intKind prog w) ks vs → ∀ v ∈ vs, ∃ z k, v = .int z k
  | _, _, .nil, v, h => by cases h
  | _, _, .cons hk r, v, h => by
    rcases List.mem_cons.mp h with rfl | h
    · cases v <;> first | exact ⟨_, _, rfl⟩ | cases hk
    · exact ints_mem r v h
theorem hashByValue_tup {ks : List Int} {b : Addr} {Q : Bool → Shared → Prop} (hk : (tk prog w).is s.heap ks b) (h : Q true s) : wpAny (model prog w) A (hashByValue 8 (.ref b)) Q E s := by
  have hT := IsTupleKey.typeIs (s := s) hk
  obtain ⟨o, items, n, ho, hc, hd, hi⟩ := hk
  show wpAny _ A (hashByValue (7 + 1) (.ref b)) Q E s
  unfold hashByValue
  refine wpAny_bind (wpAny_specialOf hT F.slot_tuple_hash.lookup ?_)
  dsimp only
  refine wpAny_bind (wpAny_seqItems ho hd ?_)
  simp only [Option.getD_some]
  rw [← Array.forIn_toList, forIn_stay (l := items.toList) (fun x hx => by
    obtain ⟨z, k, rfl⟩ := ints_mem hi x hx
    rfl)]
  exact wpAny_bind (wpAny_pure (wpAny_pure h))

theorem search_free {S : Addr} {x : Value} {h : Int} {o : Obj} {es : Array (Int × Value)} {ep : Nat} {t : SetTable} {j : Nat} {Q : SetFound → Shared → Prop} (ho : s.heap.get? S = some o) (hd : o.data = .set es ep t) (hf : t.fits es.size = true) (hg : t.gaveWay = false)
    (hp : t.probe (hAt (es.map (·.1))) h (t.probeStart h) = some (.empty j none)) (hQ : Q (.free j false) s) : wpAny (model prog w) A (setSearch S x h true) Q E s := by
  unfold setSearch
  show wpAny _ A (setSearchFrom S x h true (99999 + 1) none) Q E s
  unfold setSearchFrom
  refine wpAny_bind (wpAny_setState_of ho hd hf ?_)
  dsimp only
  rw [hg]
  simp only [Bool.false_eq_true, if_false, Option.getD_none]
  generalize hq : t.probe _ h (t.probeStart h) = q
  have hfun : hAt (es.map (·.1)) = fun i => (es[i]?.map (·.1)).getD 0 := by
    funext i
    unfold hAt
    rw [Array.getElem?_map]
  have : q = some (.empty j none) := by rw [← hq]; rw [hfun] at hp; exact hp
  subst this
  exact wpAny_pure hQ

theorem put_get {S : Addr} {o : Obj} {es es' : Array (Int × Value)} {ep : Nat} {t t' : SetTable} (ho : s.heap.get? S = some o) (hd : o.data = .set es ep t) : (s.heap.update S (Obj.putSet es' t')).get? S = some { o with data := .set es' (ep + 1) t' } := by
  have := Heap.get?_update_self (Obj.putSet es' t') ho (by rw [putSet_of es' t' hd]; rfl)
  rw [putSet_of es' t' hd] at this; exact this

theorem insertAt_map {α β : Type} (f : α → β) (xs : Array α) (p : Nat) (x : α) : (SetTable.insertAt xs p x).map f = SetTable.insertAt (xs.map f) p (f x) := by
  unfold SetTable.insertAt
  simp
theorem insertAt_size {α : Type} (xs : Array α) (p : Nat) (x : α) (y : α) : (SetTable.insertAt xs p x).size = (SetTable.insertAt xs p y).size := by
  unfold SetTable.insertAt; simp
theorem pick_map {α β : Type} (f : α → β) (xs : Array α) (order : Array Nat) : (order.filterMap (xs[·]?)).map f = order.filterMap ((xs.map f)[·]?) := by
  rw [Array.map_filterMap]
  congr 1
  funext i
  rw [Array.getElem?_map]

theorem setAdd_tup {S b : Addr} {ks : List Int} {o : Obj} {es : Array (Int × Value)} {ep : Nat} {t : SetTable} {q : Array Int × SetTable} {Q : Bool → Shared → Prop} (hu : A.units < cLine) (ho : s.heap.get? S = some o) (hd : o.data = .set es ep t) (hk : (tk prog w).is s.heap ks b) (hb : b ≠ S)
    (hs : simH (es.map (·.1)) t ((tk prog w).hash ks) = some q)
    (hQ : ∀ h' tk' es' ep', Heap.SameBut S s.heap h' → h'.get? S = some { o with data := .set es' ep' q.2 } → es'.map (·.1) = q.1 → Q true { s with heap := h', toks := tk' }) :
    wpAny (model prog w) A (setAdd S (.ref b)) Q E s := by
  unfold simH at hs
  rw [Array.size_map] at hs
  cases hsz' : Nat.ble es.size 1000 with
  | false => rw [hsz', Bool.false_and] at hs; cases hs
  | true =>
  have hsz := Nat.le_of_ble_eq_true hsz'
  rw [hsz', Bool.true_and] at hs
  cases hf : t.fits es.size with
  | false => rw [hf] at hs; cases hs
  | true =>
  rw [hf] at hs
  cases hg : t.gaveWay with
  | true => rw [hg] at hs; cases hs
  | false =>
  rw [hg] at hs
  dsimp only at hs
  cases hp : t.probe (hAt (es.map (·.1))) ((tk prog w).hash ks) (t.probeStart ((tk prog w).hash ks)) with
  | none => rw [hp] at hs; cases hs
  | some met =>
  rw [hp] at hs
  cases met with
  | candidate j i nx => cases hs
  | empty j d =>
  cases d with
  | some d => cases hs
  | none =>
  dsimp only at hs
  unfold setAdd
  refine wpAny_holding (wpAny_bind ((tk prog w).pyHash hu hk ?_))
  generalize hH : (tk prog w).hash ks = H at *
  unfold setAddHashed
  refine wpAny_holding ?_
  show wpAny _ A (setAddHashedIn S (.ref b) H (99999 + 1)) Q E { s with toks := _ }
  unfold setAddHashedIn
  refine wpAny_bind (wpAny_setState_of (s := { s with toks := _ }) ho hd hf ?_)
  dsimp only
  rw [show byScan (.ref b) es = false from rfl]
  simp only [Bool.false_eq_true, if_false]
  refine wpAny_bind (search_free (s := { s with toks := _ }) ho hd hf hg hp ?_)
  dsimp only
  refine wpAny_bind (wpAny_setState_of (s := { s with toks := _ }) ho hd hf ?_)
  dsimp only
  -- with either word on the hash, the same table is laid
  have main : wpAny (model prog w) A (do
      storeSet S (SetTable.insertAt es (t.put j).2 (H, Value.ref b)) (t.put j).1
      if (!false && (t.put j).1.tooFull) = true then do
          setRelay S (SetTable.grown (es.size + 1))
          pure true
        else pure true) Q E { s with toks := s.toks + (tk prog w).draws ks } := by
    have hmap : (SetTable.insertAt es (t.put j).2 (H, Value.ref b)).map (·.1) = SetTable.insertAt (es.map (·.1)) (t.put j).2 H := insertAt_map _ _ _ _
    have hsz1 : (SetTable.insertAt es (t.put j).2 (H, Value.ref b)).size ≤ 2002 := by unfold SetTable.insertAt; simp; omega
    refine wpAny_bind (wpAny_storeSet_of (s := { s with toks := _ }) ho hd ?_ (by rw [sizeLine_eq]; omega))
    have hget := put_get (s := s) (es' := SetTable.insertAt es (t.put j).2 (H, Value.ref b)) (t' := (t.put j).1) ho hd
    have hsb : Heap.SameBut S s.heap (s.heap.update S (Obj.putSet (SetTable.insertAt es (t.put j).2 (H, Value.ref b)) (t.put j).1)) := Heap.SameBut.update ..
    cases hfull : (t.put j).1.tooFull with
    | false =>
      rw [hfull] at hs; cases hs
      rw [if_neg (by simp)]
      exact wpAny_pure (hQ _ _ _ _ hsb hget hmap)
    | true =>
      rw [hfull] at hs
      dsimp only at hs
      rw [if_pos (by simp)]
      cases hf1 : (t.put j).1.fits (SetTable.insertAt (es.map (·.1)) (t.put j).2 H).size with
      | false => rw [hf1] at hs; cases hs
      | true =>
      rw [hf1] at hs
      dsimp only at hs
      cases hb1 : Nat.ble (SetTable.sizeAbove (SetTable.grown (es.size + 1))) 1000000 with
      | false => rw [hb1] at hs; cases hs
      | true =>
      rw [hb1] at hs
      dsimp only at hs
      obtain ⟨q', er, hs⟩ := ob_some hs
      cases hsz2 : Nat.beq (q'.2.filterMap ((SetTable.insertAt (es.map (·.1)) (t.put j).2 H)[·]?)).size (SetTable.insertAt (es.map (·.1)) (t.put j).2 H).size with
      | false => rw [hsz2] at hs; cases hs
      | true =>
      rw [hsz2] at hs
      cases hs
      have hf2 : (t.put j).1.fits (SetTable.insertAt es (t.put j).2 (H, Value.ref b)).size = true := by
        rw [← hmap, Array.size_map] at hf1; exact hf1
      refine wpAny_bind ?_
      unfold setRelay
      refine wpAny_bind (wpAny_setState_of (s := { s with heap := _, toks := _ }) hget rfl hf2 ?_)
      dsimp only
      rw [if_neg (by have := Nat.le_of_ble_eq_true hb1; rw [sizeLine_eq]; omega)]
      rw [hmap, er]
      refine wpAny_bind ?_
      have hsz3 : (q'.2.filterMap ((SetTable.insertAt es (t.put j).2 (H, Value.ref b))[·]?)).size = (SetTable.insertAt es (t.put j).2 (H, Value.ref b)).size := by
        have := Nat.eq_of_beq_eq_true hsz2
        rw [← hmap, ← pick_map, Array.size_map, Array.size_map] at this
        exact this
      show wpAny _ A (if ((q'.2.filterMap ((SetTable.insertAt es (t.put j).2 (H, Value.ref b))[·]?)).size != (SetTable.insertAt es (t.put j).2 (H, Value.ref b)).size) = true then _ else _) _ _ _
      rw [if_neg (by rw [hsz3]; simp)]
      refine wpAny_pure ?_
      refine wpAny_storeSet_of (s := { s with heap := _, toks := _ }) hget rfl ?_ (by rw [hsz3, sizeLine_eq]; omega)
      have hg2 := put_get (s := { s with heap := s.heap.update S (Obj.putSet (SetTable.insertAt es (t.put j).2 (H, Value.ref b)) (t.put j).1) }) (es' := q'.2.filterMap ((SetTable.insertAt es (t.put j).2 (H, Value.ref b))[·]?)) (t' := q'.1) hget rfl
      refine wpAny_pure (hQ _ _ _ _ (hsb.trans (Heap.SameBut.update ..)) hg2 ?_)
      rw [pick_map, hmap]
  have hk' : (tk prog w).is ({ s with toks := s.toks + (tk prog w).draws ks } : Shared).heap ks b := hk
  split
  · refine wpAny_bind (hashByValue_tup (ks := ks) (s := { s with toks := _ }) hk' ?_)
    simpa using main
  · refine wpAny_bind (wpAny_pure ?_)
    simpa using main
end
end Mine

namespace Mine
open PySem PySem.Calls PyProof.Rows PyProof.V PySem.SeqAt

section
variable {prog : Program} {w : World} {c : Base prog w}

/-! a row that one name owns -/
theorem RepX.view {a : Nat → Int} {Z Z' : Addr → Prop} {h : Heap} (hz : ∀ b o, h.get? b = some o → ¬ Z b → ¬ Z' b) {x : X} {v : Value} (r : RepX prog w ⟨a, Z⟩ h x v) : RepX prog w ⟨a, Z'⟩ h x v := by
  cases x with
  | u => trivial
  | p t => exact Rep.view hz t v r
  | d kv => obtain ⟨b, xs, e', h1, h2, h3⟩ := r; exact ⟨b, xs, e', h1, h2.view hz, h3⟩
  | k => trivial
namespace FrS
variable {kb : Addr → Option Obj} {Z : Addr → Prop} {δ : Nat → Addr} {h h' : Heap} {env : Env} {G : List Str} {r : List X} {D : Addr} {o o' : Obj}
theorem barred (F : FrS c kb Z δ h env G r) (hD : h.get? D = none) (hs : Sub h h') (ho : h'.get? D = some o) : FrS c (Mine.pin kb D o) (bar Z D) δ h' env G r := by
  have hne : ∀ b o, h.get? b = some o → b ≠ D := fun b o e q => by subst q; rw [hD] at e; cases e
  refine ⟨fun b o hb e => pin_sub _ _ (F.base b o hb e), fun b z => ?_, fun b o' e => ?_, ?_, pin_none F.loc ?_, ?_, fun n cc e => ⟨pin_none (F.cell n cc e).1 ?_, ?_⟩, F.apart, fun i kv e => ⟨pin_none (F.dict i kv e).1 ?_, (F.dict i kv e).2⟩, F.inj, F.dom, pin_none F.kp ?_⟩
  · rcases z with z | rfl
    · obtain ⟨o, e⟩ := F.live b z; exact ⟨o, pin_sub _ _ e⟩
    · refine ⟨o, pin_self ?_⟩
      cases e : kb b with
      | none => rfl
      | some o => exact absurd rfl (hne _ _ (F.keep _ _ e))
  · rcases pin_or e with h1 | ⟨rfl, rfl⟩
    · exact hs _ _ (F.keep _ _ h1)
    · exact ho
  · obtain ⟨o, e, x⟩ := F.ptab; exact ⟨o, hs _ _ e, x⟩
  · obtain ⟨m, ⟨o, _, _, e, _⟩, _⟩ := F.ns; exact hne _ _ e
  · obtain ⟨m, hn, hx⟩ := F.ns
    refine ⟨m, hn.keeps hs, fun i x hi hu => ?_⟩
    obtain ⟨v, h1, h2, h3⟩ := hx i x hi hu
    exact ⟨v, holds_mono hs h1, (RepX.view (fun b o e hz hb => hb.elim hz (hne _ _ e)) h2).mono hs, h3⟩
  · obtain ⟨_, v, o, e, _⟩ := F.cell n cc e; exact hne _ _ e
  · obtain ⟨_, v, h⟩ := F.cell n cc e; exact ⟨v, h.keeps hs⟩
  · obtain ⟨x, hx⟩ := F.dom i kv e
    obtain ⟨o, ho⟩ := F.dlive hx e
    exact hne _ _ ho
  · obtain ⟨o, e, _⟩ := F.ptab; exact hne _ _ e
theorem repin (F : FrS c (Mine.pin kb D o) (bar Z D) δ h env G r) (hk : kb D = none) (base : ∀ b o, b ≠ c.P → c.h₀.get? b = some o → kb b = some o) (live : ∀ b, Z b → ∃ o, kb b = some o) (hs : Heap.SameBut D h h') (ho : h'.get? D = some o')
    (hq : NotDC o) (hP : c.P ≠ D) (hd : ∀ i kv, nth r i ≠ .d kv) : FrS c (Mine.pin kb D o') (bar Z D) δ h' env G r := by
  have hs' : ∀ b o, b ≠ D → h.get? b = some o → h'.get? b = some o := fun b o hb e => hs.extBut b o hb e
  have hoD : h.get? D = some o := F.keep _ _ (pin_self hk)
  have lne : env.locals ≠ D := fun q => by have := F.loc; rw [q, pin_self hk] at this; cases this
  have cne : ∀ n cc, env.cells.lookup n = some cc → cc ≠ D := fun n cc e q => by have := (F.cell n cc e).1; rw [q, pin_self hk] at this; cases this
  have kn : ∀ b, Mine.pin kb D o b = none → Mine.pin kb D o' b = none := fun b e => by
    have hb : b ≠ D := fun q => by rw [q, pin_self hk] at e; cases e
    refine pin_none ?_ hb
    cases q : kb b with
    | none => rfl
    | some o₂ => rw [pin_sub _ _ q] at e; cases e
  refine ⟨fun b o hb e => pin_sub _ _ (base b o hb e), fun b z => ?_, fun b o₂ e => ?_, ?_, kn _ F.loc, ?_, fun n cc e => ⟨kn _ (F.cell n cc e).1, ?_⟩, F.apart, fun i kv e => absurd e (hd i kv), fun i j kv kv' _ e => absurd e (hd i kv), F.dom, kn _ F.kp⟩
  · rcases z with z | rfl
    · obtain ⟨o, e⟩ := live b z; exact ⟨o, pin_sub _ _ e⟩
    · exact ⟨o', pin_self hk⟩
  · rcases pin_or e with h1 | ⟨rfl, rfl⟩
    · refine hs' _ _ (fun q => ?_) (F.keep _ _ (pin_sub _ _ h1))
      subst q; rw [hk] at h1; cases h1
    · exact ho
  · obtain ⟨o, e, x⟩ := F.ptab; exact ⟨o, hs' _ _ hP e, x⟩
  · obtain ⟨m, hn, hx⟩ := F.ns
    refine ⟨m, hn.at' fun o e => hs' _ o lne e, fun i x hi hu => ?_⟩
    obtain ⟨v, h1, h2, h3⟩ := hx i x hi hu
    refine ⟨v, ?_, ?_, h3⟩
    · rcases h1 with hv | ⟨hk, cc, a1, oc, hoc, hdc⟩
      · exact .inl hv
      · exact .inr ⟨hk, cc, a1, oc, hs' _ _ (cne _ _ a1) hoc, hdc⟩
    · cases e : nth r i with
      | u => trivial
      | k => trivial
      | p t => rw [e] at h2; exact Rep.mono' (kept_bar hs) _ _ h2
      | d kv => exact absurd e (hd i kv)
  · obtain ⟨_, v, oc, hoc, hdc⟩ := F.cell n cc e
    exact ⟨v, oc, hs' _ _ (cne _ _ e) hoc, hdc⟩
end FrS

def lobj (items : Array Value) (n : Nat) : Obj := { cls := .type "list", data := .seq items n }
/-- the frame while the list at D is owned by the name of slot j -/
structure Own (c : Base prog w) (kb : Addr → Option Obj) (Z : Addr → Prop) (D : Addr) (j : Nat) (h : Heap) (env : Env) (G : List Str) (r : List X) (L : List T) : Prop where
  k : nth r j = .k
  fr : ∃ items n δ, FrS c (Mine.pin kb D (lobj items n)) (bar Z D) δ h env G r ∧ δ j = D ∧ Reps ⟨c.a, bar Z D⟩ h L items.toList
  kbn : kb D = none
  zn : ¬ Z D
  base : ∀ b o, b ≠ c.P → c.h₀.get? b = some o → kb b = some o
  live : ∀ b, Z b → ∃ o, kb b = some o
  p : c.P ≠ D
  nd : ∀ i kv, nth r i ≠ .d kv

theorem Own.get {kb : Addr → Option Obj} {Z : Addr → Prop} {D : Addr} {j : Nat} {h : Heap} {env : Env} {G : List Str} {r : List X} {L : List T} (O : Own c kb Z D j h env G r L) {items : Array Value} {n : Nat} {δ : Nat → Addr}
    (F : FrS c (Mine.pin kb D (lobj items n)) (bar Z D) δ h env G r) (hr : Reps ⟨c.a, bar Z D⟩ h L items.toList) : Rep ⟨c.a, Z⟩ h (.l L) (.ref D) :=
  ⟨D, items, rfl, ⟨n, F.keep _ _ (pin_self O.kbn)⟩, Reps.view (fun b o e hz hb => hz (.inl hb)) _ _ hr, O.zn⟩

/-- the frame as readers see it -/
theorem Own.read {kb : Addr → Option Obj} {Z : Addr → Prop} {D : Addr} {j : Nat} {h : Heap} {env : Env} {G : List Str} {r : List X} {L : List T} (O : Own c kb Z D j h env G r L) {x : Str} (hj : G[j]? = some x) :
    FrE c Z h env G (setN r j (.p (.l L))) ∧ Gd c h ∧ Live Z h := by
  obtain ⟨items, n, δ, F, hδ, hr⟩ := O.fr
  obtain ⟨m, hn, hx⟩ := F.ns
  refine ⟨⟨m, hn, fun i y hi hu => ?_⟩, F.ext, fun b hb => F.liveh b (.inl hb)⟩
  rw [nth_setN] at hu ⊢
  by_cases e : i = j
  · subst e
    obtain ⟨v, h1, h2, h3⟩ := hx i y hi (by rw [O.k]; exact fun h => nomatch h)
    have := h3 (by rw [O.k]; trivial)
    rw [hδ] at this
    subst this
    rw [if_pos rfl]
    exact ⟨_, h1, O.get F hr⟩
  · rw [if_neg e] at hu ⊢
    obtain ⟨v, h1, h2, _⟩ := hx i y hi hu
    exact ⟨v, h1, RepX.view (fun b o e hz hb => hz (.inl hb)) h2⟩

theorem Own.mono {kb : Addr → Option Obj} {Z : Addr → Prop} {D : Addr} {j : Nat} {h h' : Heap} {env : Env} {G : List Str} {r : List X} {L : List T} (O : Own c kb Z D j h env G r L) (hs : Sub h h') : Own c kb Z D j h' env G r L :=
  { O with fr := let ⟨items, n, δ, F, hδ, hr⟩ := O.fr; ⟨items, n, δ, F.mono hs, hδ, hr.mono hs⟩ }

/-- what has changed while the list is owned -/
def StpD (c : Base prog w) (D : Addr) (s s' : Shared) : Prop := s'.drawn = s.drawn ∧ s'.os = s.os ∧ s'.gens = s.gens ∧ ∀ b o, b ≠ D → NotDC o → s.heap.get? b = some o → s'.heap.get? b = some o
theorem StpD.trans {D : Addr} {s s' s'' : Shared} (x : StpD c D s s') (y : StpD c D s' s'') : StpD c D s s'' := ⟨y.1.trans x.1, y.2.1.trans x.2.1, y.2.2.1.trans x.2.2.1, fun b o hb hd e => y.2.2.2 b o hb hd (x.2.2.2 b o hb hd e)⟩
theorem StpD.of {D : Addr} {s s' : Shared} (x : Stp c false s s') : StpD c D s s' := ⟨x.1, x.2.1, x.2.2.1 rfl, fun b o _ hd e => x.2.2.2.2 b o (fun h => nomatch h) hd e⟩

/-- a step that leaves the owned list alone -/
theorem Own.step {kb : Addr → Option Obj} {Z : Addr → Prop} {D : Addr} {j k : Nat} {sc : Scope} {A : Around} {E : Value → Shared → Prop} {s : Shared} {env : Env} {G : List Str} {r r' : List X} {L : List T} {st : List Stmt} {f : List X → Option Res} (O : Own c kb Z D j s.heap env G r L)
    (h : SS c false sc G k st f) (hA : GA k A) (hE : EnvI sc env) (ht : f r = some (.n r')) (hnd : ∀ i kv, nth r' i ≠ .d kv) :
    wpAny (model prog w) A (execs st env) (fun fl s' => fl = .next ∧ StpD c D s s' ∧ Own c kb Z D j s'.heap env G r' L) E s := by
  obtain ⟨items, n, δ, F, hδ, hr⟩ := O.fr
  refine wpAny_mono (h.go A env s r (.n r') _ _ δ E hA hE F ht) (fun fl s' p => ?_) fun _ _ y => y
  obtain ⟨q1, rfl, δ', F', hk⟩ := p
  refine ⟨rfl, .of q1, { k := (hk j O.k).1, fr := ⟨items, n, δ', F', (hk j O.k).2.trans hδ, ?_⟩, kbn := O.kbn, zn := O.zn, base := O.base, live := O.live, p := O.p, nd := hnd }⟩
  refine Reps.mono' (fun b o _ ⟨it, m, hd⟩ e => q1.2.2.2.2 b o (fun h => nomatch h) (notDC_of_seq hd) e) _ _ hr

theorem Own.stepSt {kb : Addr → Option Obj} {Z : Addr → Prop} {D : Addr} {j k : Nat} {sc : Scope} {A : Around} {E : Value → Shared → Prop} {s : Shared} {env : Env} {G : List Str} {r r' : List X} {L : List T} {st : Stmt} {f : List X → Option Res} (O : Own c kb Z D j s.heap env G r L)
    (h : St c false sc G k st f) (hA : GA k A) (hE : EnvI sc env) (ht : f r = some (.n r')) (hnd : ∀ i kv, nth r' i ≠ .d kv) :
    wpAny (model prog w) A (exec st env) (fun fl s' => fl = .next ∧ StpD c D s s' ∧ Own c kb Z D j s'.heap env G r' L) E s := by
  obtain ⟨items, n, δ, F, hδ, hr⟩ := O.fr
  refine wpAny_mono (h.go A env s r (.n r') _ _ δ E hA hE F ht) (fun fl s' p => ?_) fun _ _ y => y
  obtain ⟨q1, rfl, δ', F', hk⟩ := p
  refine ⟨rfl, .of q1, { k := (hk j O.k).1, fr := ⟨items, n, δ', F', (hk j O.k).2.trans hδ, ?_⟩, kbn := O.kbn, zn := O.zn, base := O.base, live := O.live, p := O.p, nd := hnd }⟩
  refine Reps.mono' (fun b o _ ⟨it, m, hd⟩ e => q1.2.2.2.2 b o (fun h => nomatch h) (notDC_of_seq hd) e) _ _ hr

def whlG (j : Nat) (ft : List X → Option Bool) (fs : List X → Option Res) (fe : List X → Option T) : Nat → List T → List X → Option (List T × List X)
  | 0, _, _ => none
  | n + 1, L, r => ob (ft (setN r j (.p (.l L)))) fun b => match b with
    | false => some (L, r)
    | true => match Nat.ble L.length 1000 with
      | false => none
      | true => ob (fs r) fun res => match res with
        | .n r' => match r'.all (fun x => match x with | .d _ => false | _ => true) with
          | true => ob (fe r') fun t => whlG j ft fs fe n (L ++ [t]) r'
          | false => none
        | .ret _ => none
theorem nd_all {r : List X} (h : r.all (fun x => match x with | .d _ => false | _ => true) = true) : ∀ i kv, nth r i ≠ .d kv := by
  induction r with
  | nil => intro i kv e; rw [nth_nil] at e; cases e
  | cons x r ih =>
    intro i kv e
    rw [List.all_cons, Bool.and_eq_true] at h
    cases i with
    | zero => have e : x = .d kv := e; rw [e] at h; cases h.1
    | succ i => exact ih h.2 i kv e

theorem while_append {sc : Scope} {G : List Str} {k j : Nat} {test e : Expr} {s₁ : Stmt} {x : Str} {ft : List X → Option Bool} {fs : List X → Option Res} {fe : List X → Option T} {px ap cp ep pos : Pos}
    (hT : EvB c sc G k test ft) (h₁ : St c false sc G k s₁ fs) (he : Ev c sc G k e fe) (hj : G[j]? = some x) (hd : (x == ("__debug__" : Str)) = false) (hcl : (x == ("__classdict__" : Str)) = false) (hu : unstar e = true)
    (hbase : ∀ env, attributeBase (.Name x px) "append" env (eval (.Name x px) env) = eval (.Name x px) env) (hline : (ap.endLine == cp.line) = true)
    (hsw : ∀ env, swapsWith (.Call (.Attribute (.Name x px) "append" ap) [e] [] cp) none ep.line env = pure false)
    {A : Around} {E : Value → Shared → Prop} {s : Shared} {env : Env} {kb : Addr → Option Obj} {Z : Addr → Prop} {D : Addr} {r r' : List X} {L L' : List T} {n : Nat} (hA : GA k A) (hE : EnvI sc env) (O : Own c kb Z D j s.heap env G r L) (ht : whlG j ft fs fe n L r = some (L', r')) :
    wpAny (model prog w) A (exec (.While test [s₁, .Expr (.Call (.Attribute (.Name x px) "append" ap) [e] [] cp) ep] [] pos) env) (fun fl s' => fl = .next ∧ StpD c D s s' ∧ Own c kb Z D j s'.heap env G r' L') E s := by
  refine wpAny_While (codeAny_whileLoop (fun m s' => ∃ L₁ r₁, whlG j ft fs fe m L₁ r₁ = some (L', r') ∧ StpD c D s s' ∧ Own c kb Z D j s'.heap env G r₁ L₁) ?_ n ⟨L, r, ht, ⟨rfl, rfl, rfl, fun _ _ _ _ e => e⟩, O⟩)
  rintro m s' ⟨L₁, r₁, ht, hst, O₁⟩
  cases m with
  | zero => cases ht
  | succ m =>
    obtain ⟨b, eb, ht⟩ := ob_some ht
    obtain ⟨F₁, G₁, V₁⟩ := O₁.read hj
    refine wpAny_mono (hT.go A env s' _ b _ Z hA hE G₁ V₁ F₁ eb) (fun v s₂ ⟨hv, k₂⟩ => ?_) fun _ _ y => y
    subst hv
    have O₂ := O₁.mono k₂.sub
    have st₂ : StpD c D s s₂ := hst.trans (.of (.kp k₂))
    cases v with
    | false =>
      cases ht
      simp only [Bool.false_eq_true, if_false]
      exact wpAny_execs_nil ⟨rfl, st₂, O₂⟩
    | true =>
      simp only [if_true]
      cases e1 : Nat.ble L₁.length 1000 with
      | false => rw [e1] at ht; cases ht
      | true =>
        rw [e1] at ht
        obtain ⟨res, es, ht⟩ := ob_some ht
        cases res with
        | ret t => cases ht
        | n r₂ =>
          cases e2 : r₂.all (fun x => match x with | .d _ => false | _ => true) with
          | false => simp only [e2] at ht; cases ht
          | true =>
            simp only [e2] at ht
            obtain ⟨t, et, ht⟩ := ob_some ht
            have hnd := nd_all e2
            refine wpAny_execs_cons (wpAny_mono (O₂.stepSt h₁ hA hE es hnd) (fun fl s₃ p => ?_) fun _ _ y => y)
            obtain ⟨rfl, st₃, O₃⟩ := p
            refine wpAny_execs_cons ?_
            refine wpAny_Expr (wpAny_Call_append (hbase env) ?_ hline (by rw [star_cons hu, star_nil]; rfl) ?_) (by unfold interactive; rw [hE.fn]; rfl) (hsw env)
            · rw [star_cons hu, star_nil]; rfl
            obtain ⟨items, nn, δ, F, hδ, hr⟩ := O₃.fr
            obtain ⟨mm, hnm, hx⟩ := F.ns
            obtain ⟨v, hv, _, hv'⟩ := hx j x hj (by rw [O₃.k]; exact fun h => nomatch h)
            have := hv' (by rw [O₃.k]; trivial)
            rw [hδ] at this
            subst this
            refine load_var hE.fn hnm hv ⟨D, items, rfl, ⟨_, nn, F.keep _ _ (pin_self O₃.kbn), rfl, rfl, rfl⟩, ?_⟩ hd hcl
            refine wpAny_mono (he.go A env s₃ r₂ t _ (bar Z D) hA hE F.ext F.liveh F.toE et) (fun u s₄ ⟨k₄, r₄⟩ => ?_) fun _ _ y => y
            have F₄ := F.mono k₄.sub
            have hlen := hr.length
            rw [Array.length_toList] at hlen
            have hb := Nat.le_of_ble_eq_true e1
            refine wpAny_list_append_plain (items := items) ⟨nn, F₄.keep _ _ (pin_self O₃.kbn)⟩ (fun h₅ hl₅ hs₅ => ?_) (by rw [sizeLine_eq]; omega)
            obtain ⟨nn', hl₅⟩ := hl₅
            have st₅ : StpD c D s { s₄ with heap := h₅ } := (st₂.trans (st₃.trans (.of (.kp k₄)))).trans ⟨rfl, rfl, rfl, fun b o hb _ e => hs₅.extBut b o hb e⟩
            refine wpAny_execs_nil ⟨m, Nat.lt_succ_self _, L₁ ++ [t], r₂, ht, st₅, { O₃ with fr := ⟨items.push u, nn', δ, F₄.repin O₃.kbn O₃.base O₃.live hs₅ hl₅ notDC_seq O₃.p O₃.nd, hδ, ?_⟩ }⟩
            rw [Array.toList_push]
            exact Reps.snoc (Reps.mono' (kept_bar hs₅) _ _ (hr.mono k₄.sub)) (Rep.mono' (kept_bar hs₅) _ _ r₄)
end
end Mine

namespace Mine
open PySem PySem.Calls PyProof.Rows PyProof.V PySem.SeqAt

section
variable {prog : Program} {w : World} {c : Base prog w}
theorem reps_any {a : Nat → Int} {Z Z' : Addr → Prop} {h : Heap} : ∀ {l : List T} {zs : List Int} {vs : List Value}, asInts l = some zs → Reps ⟨a, Z⟩ h l vs → Reps ⟨a, Z'⟩ h l vs
  | [], zs, vs, e, r => by cases r; rfl
  | t :: l, zs, vs, e, r => by
    obtain ⟨z, zr, rfl, e', rfl⟩ := asInts_cons e
    obtain ⟨v, vr, rfl, hv, r'⟩ := r
    exact ⟨v, vr, rfl, hv, reps_any e' r'⟩

theorem assign_comp_own {sc scope : Scope} {G fv : List Str} {is : List Nat} {k j : Nat} {elt iter : Expr} {x y : Str} {px py pos spos : Pos} {ifs : List Expr} {fi : List X → Option (List T)} {ft : List X → Option Bool} {fe : List X → Option T}
    (hi : EvIt c sc G k iter fi) (hI : CompI scope sc G fv is x) (ht : EvT c (relS scope sc) (x :: fv) k ifs ft) (he : Ev c (relS scope sc) (x :: fv) k elt fe)
    (hs : ∀ (env : Env) (x : Value), foldedSetIterable iter env x = pure x) (hn : NameI sc G y j)
    (hsw : ∀ env, EnvI sc env → swapsWith (.ListComp elt [⟨.Name x px, iter, ifs, 0⟩] scope pos) (some (.Name y py)) spos.line env = pure true)
    {A : Around} {E : Value → Shared → Prop} {s : Shared} {env : Env} {kb : Addr → Option Obj} {Z : Addr → Prop} {δ : Nat → Addr} {r : List X} {ts out : List T} {zs : List Int} (hA : GA k A) (hE : EnvI sc env) (hF : FrS c kb Z δ s.heap env G r) (hnd : ∀ i kv, nth r i ≠ .d kv)
    (e1 : fi r = some ts) (e2 : compG (fun y => ft (y :: pick r is)) (fun y => fe (y :: pick r is)) ts = some out) (ez : asInts out = some zs) :
    wpAny (model prog w) A (exec (.Assign [.Name y py] (.ListComp elt [⟨.Name x px, iter, ifs, 0⟩] scope pos) spos) env) (fun fl s' => fl = .next ∧ ∃ D, s.heap.get? D = none ∧ StpD c D s s' ∧ Own c kb Z D j s'.heap env G (setN r j .k) out) E s := by
  rw [exec_Assign_Name_used _ _ _ _ (hsw env hE)]
  refine wpAny_bind (wpAny_standAt (wpAny_bind ?_))
  show wpAny _ A (do let _ ← comprehension (.ListComp elt [⟨.Name x px, iter, ifs, 0⟩] scope pos) scope env _ (newList []) false (eval iter env) (some (assign (.Name y py) env))) _ _ s
  refine wpAny_bind (wpAny_mono (wpAny_comprehension_free (use := some (assign (.Name y py) env)) (Q := fun _ s' => ∃ D, s.heap.get? D = none ∧ StpD c D s s' ∧ Own c kb Z D j s'.heap env G (setN r j .k) out) rfl (hs env) (closFor (hfreeOf hE hI.free)) hI.kind hI.names
    (wpAny_mono (hi.go A env s r ts E Z hA hE hF.ext hF.liveh hF.toE e1) (fun xv s₁ h₁ => wpAny_mono h₁ (fun it s₂ h₂ => ?_) fun _ _ e => e) fun _ _ e => e)) (fun _ s' hq => wpAny_pure (wpAny_pure ⟨rfl, hq⟩)) fun _ _ e => e)
  obtain ⟨I, fp, wr, P, Si, rfl, k₂, W⟩ := h₂
  refine comp_block (c := c) (RR := fun acc C => compPost (model prog w) A E (some (assign (.Name y py) env)) _ acc C) hA hE hF.ext hF.liveh hF.toE W hI ht he e2 ?_
  intro D C h' tk m' ys hD hC hDC hn' hl hr hk
  obtain ⟨h₂', tk₂', e₂, sub₂⟩ := k₂
  subst e₂
  have sub' : Sub s.heap h' := fun b o e => hk b o (fun hb => by rw [W.new b hb] at e; cases e) (sub₂ b o e)
  have hCn : ∀ b o, s.heap.get? b = some o → b ≠ C := fun b o e hb => by subst hb; rw [sub₂ b o e] at hC; cases hC
  have hDn : ∀ b o, s.heap.get? b = some o → b ≠ D := fun b o e hb => by subst hb; rw [sub₂ b o e] at hD; cases hD
  have hD₀ : s.heap.get? D = none := by
    cases e : s.heap.get? D with
    | none => rfl
    | some o => exact absurd rfl (hDn _ _ e)
  obtain ⟨oC, esC, epC, hoC, hdC, rC⟩ := id hn'
  have hlC : env.locals ≠ C := by obtain ⟨m, ⟨o, es, ep, ho, _⟩, _⟩ := hF.ns; exact hCn _ o ho
  have hcC : ∀ n cc, env.cells.lookup n = some cc → cc ≠ C := fun n cc e => by obtain ⟨_, v, o, ho, _⟩ := hF.cell n cc e; exact hCn _ o ho
  have none_new : ∀ {b : Addr}, (∀ b' o, s.heap.get? b' = some o → b' ≠ b) → kb b = none := fun {b} hb => by
    cases e : kb b with
    | none => rfl
    | some o => exact absurd rfl (hb _ _ (hF.keep _ _ e))
  have hkC := none_new hCn
  have hkD := none_new hDn
  obtain ⟨oP, hoP, _⟩ := id hF.ptab
  have hPC : c.P ≠ C := hCn _ _ hoP
  obtain ⟨nl, hlo⟩ := id hl
  have FB : FrS c (pin kb D (lobj ys nl)) (bar Z D) δ h' env G r := hF.barred hD₀ sub' hlo
  have hkC' : pin kb D (lobj ys nl) C = none := pin_none hkC (Ne.symm hDC)
  show wpAny _ A (assign (.Name y py) env (.ref D)) _ _ _
  refine wpAny_assign_Name ?_
  refine FrS.store (c := c) (s := ⟨h', s.gens, s.drawn, tk, s.os⟩) (FB.pin hoC hlC hcC (fun i kv e => absurd e (hnd i kv)) hPC) hE hn.at_ hn.one hn.kind (V := .k) (v := .ref D) trivial (fun _ => rfl) (fun kv h => nomatch h) fun h₃ tk₃ hnd₃ F₃ => ?_
  have hC₃ : h₃.get? C = some oC := F₃.keep C oC (pin_self hkC')
  have hnd' : ∀ i kv, nth (setN r j .k) i ≠ .d kv := fun i kv e => by
    rw [nth_setN] at e
    by_cases q : i = j
    · rw [if_pos q] at e; cases e
    · rw [if_neg q] at e; exact hnd i kv e
  refine ⟨m', hn'.at' fun o e => ?_, fun h₄ hs₄ => ⟨D, hD₀, ⟨rfl, rfl, rfl, fun b o hb hd e => hs₄.extBut b o (hCn b o e) (hnd₃ b o hd (sub' b o e))⟩, { k := by rw [nth_setN, if_pos rfl], fr := ⟨ys, nl, _, (F₃.rebase FB.base FB.live pin_sub).off (fun b o hb e => hs₄.extBut b o hb e) (fun o e => ?_) hPC hkC' hlC hcC (fun i kv e => absurd e (hnd' i kv)), ?_, ?_⟩, kbn := hkD, zn := fun z => ?_, base := hF.base, live := hF.live, p := hDn _ _ hoP, nd := hnd' }⟩⟩
  · rw [hoC] at e; cases e; exact hC₃
  · rw [hC₃] at e; cases e; intro i n hq; rw [hdC] at hq; cases hq
  · simp [adr]
  · have K : Kept ⟨c.a, bar Z D⟩ h' h₄ := fun b o hz ⟨it, n, hd⟩ e => hs₄.extBut b o (fun q => by
      have q : b = C := q
      subst q; rw [hoC] at e; cases e; rw [hd] at hdC; cases hdC) (hnd₃ b o (notDC_of_seq hd) e)
    exact Reps.mono' K _ _ (reps_any ez hr)
  · obtain ⟨o, e⟩ := hF.live _ z
    rw [hkD] at e; cases e

def numF (j : Nat) (is : List Nat) (fi : List X → Option (List T)) (fe : List X → Option T) (f₂ f₃ : List X → Option Res) (ft : List X → Option Bool) (fs : List X → Option Res) (fa : List X → Option T) (r : List X) : Option Res :=
  match r.all (fun x => match x with | .d _ => false | _ => true) with
  | false => none
  | true => ob (fi r) fun ts => ob (compG (fun _ => some true) (fun y => fe (y :: pick r is)) ts) fun out => ob (asInts out) fun zs => ob (f₂ (setN r j .k)) fun q₂ => match q₂ with
    | .ret _ => none
    | .n r₂ => match r₂.all (fun x => match x with | .d _ => false | _ => true) with
      | false => none
      | true => ob (f₃ r₂) fun q₃ => match q₃ with
        | .ret _ => none
        | .n r₃ => match r₃.all (fun x => match x with | .d _ => false | _ => true) with
          | false => none
          | true => ob (whlG j ft fs fa 100 out r₃) fun z => some (.ret (.l z.1))

theorem SS_numbers {sc scope : Scope} {G fv : List Str} {is : List Nat} {k j : Nat} {elt iter test e : Expr} {x y : Str} {px py pos spos px' ap cp ep wpos py' rpos : Pos} {st₂ st₃ s₁ : Stmt} {fi : List X → Option (List T)} {fe : List X → Option T} {f₂ f₃ : List X → Option Res}
    {ft : List X → Option Bool} {fs : List X → Option Res} {fa : List X → Option T}
    (hi : EvIt c sc G k iter fi) (hI : CompI scope sc G fv is x) (he : Ev c (relS scope sc) (x :: fv) k elt fe)
    (hs : ∀ (env : Env) (x : Value), foldedSetIterable iter env x = pure x) (hn : NameI sc G y j)
    (hsw : ∀ env, EnvI sc env → swapsWith (.ListComp elt [⟨.Name x px, iter, [], 0⟩] scope pos) (some (.Name y py)) spos.line env = pure true)
    (h₂ : St c false sc G k st₂ f₂) (h₃ : St c false sc G k st₃ f₃)
    (hT : EvB c sc G k test ft) (h₁ : St c false sc G k s₁ fs) (ha : Ev c sc G k e fa) (hd : (y == ("__debug__" : Str)) = false) (hcl : (y == ("__classdict__" : Str)) = false) (hu : unstar e = true)
    (hbase : ∀ env, attributeBase (.Name y px') "append" env (eval (.Name y px') env) = eval (.Name y px') env) (hline : (ap.endLine == cp.line) = true)
    (hsw' : ∀ env, swapsWith (.Call (.Attribute (.Name y px') "append" ap) [e] [] cp) none ep.line env = pure false) :
    SS c false sc G k [.Assign [.Name y py] (.ListComp elt [⟨.Name x px, iter, [], 0⟩] scope pos) spos, st₂, st₃, .While test [s₁, .Expr (.Call (.Attribute (.Name y px') "append" ap) [e] [] cp) ep] [] wpos, .Return (some (.Name y py')) rpos]
      (numF j is fi fe f₂ f₃ ft fs fa) := by
  refine ⟨fun A env s r res kb Z δ E hA hE hF ht => ?_⟩
  unfold numF at ht
  cases n1 : r.all (fun x => match x with | .d _ => false | _ => true) with
  | false => simp only [n1] at ht; cases ht
  | true =>
  simp only [n1] at ht
  obtain ⟨ts, e1, ht⟩ := ob_some ht
  obtain ⟨out, e2, ht⟩ := ob_some ht
  obtain ⟨zs, e3, ht⟩ := ob_some ht
  obtain ⟨q₂, e4, ht⟩ := ob_some ht
  cases q₂ with
  | ret t => cases ht
  | n r₂ =>
  cases n2 : r₂.all (fun x => match x with | .d _ => false | _ => true) with
  | false => simp only [n2] at ht; cases ht
  | true =>
  simp only [n2] at ht
  obtain ⟨q₃, e5, ht⟩ := ob_some ht
  cases q₃ with
  | ret t => cases ht
  | n r₃ =>
  cases n3 : r₃.all (fun x => match x with | .d _ => false | _ => true) with
  | false => simp only [n3] at ht; cases ht
  | true =>
  simp only [n3] at ht
  obtain ⟨⟨L, r₄⟩, e6, ht⟩ := ob_some ht
  cases ht
  refine wpAny_execs_cons (wpAny_mono (assign_comp_own (c := c) hi hI EvT_nil he hs hn hsw hA hE hF (nd_all n1) e1 e2 e3) (fun fl s₁ p => ?_) fun _ _ y => y)
  obtain ⟨rfl, D, hD, p1, O1⟩ := p
  refine wpAny_execs_cons (wpAny_mono (O1.stepSt h₂ hA hE e4 (nd_all n2)) (fun fl s₂ p => ?_) fun _ _ y => y)
  obtain ⟨rfl, p2, O2⟩ := p
  refine wpAny_execs_cons (wpAny_mono (O2.stepSt h₃ hA hE e5 (nd_all n3)) (fun fl s₃ p => ?_) fun _ _ y => y)
  obtain ⟨rfl, p3, O3⟩ := p
  refine wpAny_execs_cons (wpAny_mono (while_append (c := c) hT h₁ ha hn.at_ hd hcl hu hbase hline hsw' hA hE O3 e6) (fun fl s₄ p => ?_) fun _ _ y => y)
  obtain ⟨rfl, p4, O4⟩ := p
  have P := ((p1.trans p2).trans p3).trans p4
  obtain ⟨items, nn, δ', F, hδ, hr⟩ := O4.fr
  obtain ⟨mm, hnm, hx⟩ := F.ns
  obtain ⟨v, hv, _, hv'⟩ := hx j y hn.at_ (by rw [O4.k]; exact fun h => nomatch h)
  have := hv' (by rw [O4.k]; trivial)
  rw [hδ] at this
  subst this
  refine wpAny_execs_cons (wpAny_Return_some (load_var hE.fn hnm hv ?_ hd hcl))
  refine ⟨⟨P.1, P.2.1, fun _ => P.2.2.1, fun h => by rw [P.2.2.1]; exact h, fun b o _ hd e => P.2.2.2 b o (fun q => by subst q; rw [hD] at e; cases e) hd e⟩, _, rfl, O4.get F hr, fun b o e => F.keep b o (pin_sub _ _ e)⟩
end
end Mine

namespace Mine
open PySem PySem.Calls PyProof.Rows PyProof.V PySem.SeqAt

section
variable {prog : Program} {w : World} {c : Base prog w}
def tMulN : T → T → Option T
  | .i x, .i y => match Nat.ble x.natAbs 1000000000000000 with
    | true => some (.i (x * y))
    | false => none
  | _, _ => none
theorem bin_mulN {k : Nat} : BinOk c k .Mult tMulN := by
  refine ⟨fun A s t₁ t₂ t v₁ v₂ E Z hA hx hZ r₁ r₂ ht => ?_⟩
  cases t₁ with
  | i x => cases t₂ with
    | i y =>
      change (match Nat.ble x.natAbs 1000000000000000 with | true => some (T.i (x * y)) | false => none) = some t at ht
      cases e : Nat.ble x.natAbs 1000000000000000 with
      | false => rw [e] at ht; cases ht
      | true =>
        rw [e] at ht
        cases ht
        obtain ⟨k₁, rfl⟩ := r₁
        obtain ⟨k₂, rfl⟩ := r₂
        have := Nat.le_of_ble_eq_true e
        exact PyProof.Rows.mul_int ⟨Kp.tok _ _, _, rfl⟩ (IntMulOk.of_left (intBits_le_64 (by omega) (by omega)))
    | s q => cases ht
    | t r => cases ht
    | l r => cases ht
  | s p => cases t₂ <;> cases ht
  | t l => cases t₂ <;> cases ht
  | l l => cases t₂ <;> cases ht
def tModN : T → T → Option T
  | .i x, .i y => match decide (0 < y) with
    | true => some (.i (x.fmod y))
    | false => none
  | _, _ => none
theorem bin_modN {k : Nat} : BinOk c k .Mod tModN := by
  refine ⟨fun A s t₁ t₂ t v₁ v₂ E Z hA hx hZ r₁ r₂ ht => ?_⟩
  cases t₁ with
  | i x => cases t₂ with
    | i y =>
      change (match decide (0 < y) with | true => some (T.i (x.fmod y)) | false => none) = some t at ht
      cases e : decide (0 < y) with
      | false => rw [e] at ht; cases ht
      | true =>
        rw [e] at ht
        have h0 : 0 < y := of_decide_eq_true e
        cases ht
        obtain ⟨k₁, rfl⟩ := r₁
        obtain ⟨k₂, rfl⟩ := r₂
        exact PyProof.Rows.mod_int' (by omega) ⟨Kp.tok _ _, _, rfl⟩
    | s q => cases ht
    | t r => cases ht
    | l r => cases ht
  | s p => cases t₂ <;> cases ht
  | t l => cases t₂ <;> cases ht
  | l l => cases t₂ <;> cases ht
end
end Mine

namespace Mine
open PySem PySem.Calls PyProof.Rows PyProof.V PySem.SeqAt

section
variable {prog : Program} {w : World} {A : Around} {E : Value → Shared → Prop} {s : Shared}

def setObj (es : Array (Int × Value)) (ep : Nat) (t : SetTable) : Obj := { cls := .type "set", dict := none, data := .set es ep t }
/-- the rows of a list are keys -/
def Keys (prog : Program) (w : World) (h : Heap) (S I : Addr) (kss : List (List Int)) (items : Array Value) : Prop := ∀ (j : Nat) (ks : List Int), kss[j]? = some ks → ∃ b, items[j]? = some (Value.ref b) ∧ (tk prog w).is h ks b ∧ b ≠ S ∧ b ≠ I
theorem Keys.step {h h' : Heap} {S I : Addr} {kss : List (List Int)} {items : Array Value} (x : Keys prog w h S I kss items) (hs : ∀ b o, b ≠ S → b ≠ I → h.get? b = some o → h'.get? b = some o) : Keys prog w h' S I kss items := fun j ks e => by
  obtain ⟨b, h1, ⟨o, it, n, h2, h3⟩, h4, h5⟩ := x j ks e
  exact ⟨b, h1, ⟨o, it, n, hs _ _ h4 h5 h2, h3⟩, h4, h5⟩

theorem set_loop {R : Result → Shared → Prop} {S I l : Addr} {items : Array Value} {kss : List (List Int)} {qf : Array Int × SetTable} (hh : A.in1.handled = none) (hu : A.in1.units < cLine) (hlI : l ≠ I) (hSI : S ≠ I) (hSl : S ≠ l) (hlen : items.size = kss.length) (hsz : kss.length ≤ 500) :
    ∀ (k i : Nat) (s : Shared) (es : Array (Int × Value)) (ep : Nat) (t : SetTable), kss.length - i = k → i ≤ kss.length → s.heap.IsListIter I l i → s.heap.IsList l items → s.heap.get? S = some (setObj es ep t) → Keys prog w s.heap S I kss items →
      simAll ((kss.drop i).map (tk prog w).hash) (es.map (·.1)) t = some qf →
      (∀ h' tk' es' ep', h'.get? S = some (setObj es' ep' qf.2) → es'.map (·.1) = qf.1 → qf.2.fits es'.size = true → (∀ b o, b ≠ S → b ≠ I → s.heap.get? b = some o → h'.get? b = some o) → R (.ok (.ret .none)) { s with heap := h', toks := tk' }) →
      codeAny (model prog w) A (.builtin "set.update.loop" ⟨[.ref S, .ref I], []⟩) R s := by
  intro k
  induction k with
  | zero =>
    intro i s es ep t hk hi hit hl hS hK hsim hR
    have hin : i = kss.length := by omega
    subst hin
    rw [List.drop_length] at hsim
    change (match t.fits (es.map (·.1)).size with | true => some (es.map (·.1), t) | false => none) = some qf at hsim
    rw [Array.size_map] at hsim
    cases hf : t.fits es.size with
    | false => rw [hf] at hsim; cases hsim
    | true =>
    rw [hf] at hsim; cases hsim
    refine codeAny_builtin PyProof.Rows.F.entry_set_update_loop ?_
    rw [Around.under_plainId PyProof.Rows.F.plain_set_update_loop _]
    show wpAny _ A.in1 (pyNext (.ref I) >>= _) _ _ s
    refine wpAny_bind (wpAny_pyNext_list_end hh hit hl (by simp [hlen]) fun h' he' => ?_)
    show wpAny _ A.in1 (ret Value.none) _ _ _
    exact wpAny_pure (hR h' s.toks es ep (he' S _ hSI hS) rfl hf fun b o h1 h2 e => he' b o h2 e)
  | succ k ih =>
    intro i s es ep t hk hi hit hl hS hK hsim hR
    have hlt : i < kss.length := by omega
    obtain ⟨b, hb, hkey, hbS, hbI⟩ := hK i kss[i] (by simp [hlt])
    rw [List.drop_eq_getElem_cons hlt, List.map_cons] at hsim
    obtain ⟨q, eq, hsim⟩ := ob_some hsim
    refine codeAny_builtin PyProof.Rows.F.entry_set_update_loop ?_
    rw [Around.under_plainId PyProof.Rows.F.plain_set_update_loop _]
    show wpAny _ A.in1 (pyNext (.ref I) >>= _) _ _ s
    refine wpAny_bind (wpAny_pyNext_list_item hit hl hb fun h₁ hit₁ hs₁ => ?_)
    have hS₁ : h₁.get? S = some (setObj es ep t) := hs₁.extBut _ _ hSI hS
    have hK₁ : Keys prog w h₁ S I kss items := hK.step fun b o _ h2 e => hs₁.extBut b o h2 e
    obtain ⟨b', hb', hkey₁, _⟩ := hK₁ i kss[i] (by simp [hlt])
    rw [hb] at hb'; cases hb'
    show wpAny _ A.in1 (holding [Value.ref b] (setAdd S (.ref b)) >>= _) _ _ _
    refine wpAny_bind (wpAny_holding (setAdd_tup (s := { s with heap := h₁ }) hu hS₁ rfl hkey₁ hbS eq fun h₂ tk₂ es₂ ep₂ hs₂ hS₂ hm₂ => ?_))
    replace hs₂ : Heap.SameBut S h₁ h₂ := hs₂
    refine wpAny_pure ⟨plainId_quiet PyProof.Rows.F.plain_set_update_loop _, ih (i + 1) _ es₂ ep₂ q.2 (by omega) hlt (hit₁.extBut hs₂.extBut (Ne.symm hSI)) ((hl.extBut hs₁.extBut hlI).extBut hs₂.extBut (Ne.symm hSl)) hS₂ (hK₁.step fun b o h1 _ e => hs₂.extBut b o h1 e) (by rw [hm₂]; exact hsim) fun h' tk' es' ep' a1 a2 a3 a4 => ?_⟩
    exact hR h' tk' es' ep' a1 a2 a3 fun b o h1 h2 e => a4 b o h1 h2 (hs₂.extBut b o h1 (hs₁.extBut b o h2 e))

set_option maxRecDepth 100000 in
set_option maxHeartbeats 3200000 in
theorem call_set_rows {l : Addr} {items : Array Value} {kss : List (List Int)} {q : Bool → Array Int × SetTable} {Q : Value → Shared → Prop}
    (hh : A.handled = none) (hu : A.in1.in1.in1.units < cLine) (hl : s.heap.IsList l items) (hlen : items.size = kss.length) (hsz : kss.length ≤ 500) (hK : ∀ (j : Nat) (ks : List Int), kss[j]? = some ks → ∃ b, items[j]? = some (Value.ref b) ∧ (tk prog w).is s.heap ks b)
    (hq : ∀ led, simAll (kss.map (tk prog w).hash) #[] (.fresh 0 0 led) = some (q led))
    (h : ∀ led h' tk' es ep, h'.get? s.heap.objs.size = some (setObj es ep (q led).2) → es.map (·.1) = (q led).1 → (q led).2.fits es.size = true → (∀ b o, s.heap.get? b = some o → h'.get? b = some o) → Q (.ref s.heap.objs.size) { s with heap := h', toks := tk' }) :
    wpAny (model prog w) A (call (.type "set") [.ref l]) Q E s := by
  obtain ⟨c, tl, hmro⟩ := PySem.F.called_set.mro
  have hmade := PySem.F.called_set.made
  have hsub := PySem.F.called_set.sub
  refine wpAny_call (codeAny_of_tree ?_)
  show wpAny _ _ (callAny (.type "set") _) _ _ _
  refine wpAny_pure ⟨Code.quiet_builtin _ (by decide +kernel), codeAny_builtin PySem.F.entry_type_call ?_⟩
  rw [Around.under_plain (weight_type_call_type "set" [.ref l] []) rfl]
  have h1 := PySem.F.called_set.notType
  have h2 := PySem.F.called_set.canCreate
  have hct := PySem.F.typeCall_set_1 (.ref l)
  repeat (any_goals (first | assumption | wp_step))
  refine codeAny_mono (code_set_new_1 (.ref l) (E := E) (Q₁ := fun obj s₁ => ∃ led : Bool, obj = .ref s.heap.objs.size ∧ s₁ = { s with heap := s.heap.push { cls := .type "set", dict := none, data := .set #[] 0 (.fresh 0 0 led) } }) fun led => ⟨led, rfl, rfl⟩) fun r s₁ hr => ?_
  cases r with
  | error e => exact hr
  | ok fl =>
    cases fl with
    | ret obj =>
      obtain ⟨led, rfl, rfl⟩ := hr
      have hS : (s.heap.push { cls := .type "set", dict := none, data := .set #[] 0 (.fresh 0 0 led) }).get? s.heap.objs.size = some { cls := .type "set", dict := none, data := .set #[] 0 (.fresh 0 0 led) } := Heap.get?_push_size _ rfl
      have hT : Shared.TypeIs { s with heap := s.heap.push { cls := .type "set", dict := none, data := .set #[] 0 (.fresh 0 0 led) } } (.ref s.heap.objs.size) "set" := ⟨_, hS, rfl⟩
      have hli := PySem.F.called_set.init.lookup
      have hbi := PySem.F.called_set.init.bind (.ref s.heap.objs.size)
      repeat (any_goals (first | assumption | wp_step))
      refine codeAny_mono (codeAny_call_builtin (R := wants (fun r s₂ => r = .none ∧ ∃ h' tk' es ep, s₂ = { s with heap := h', toks := tk' } ∧
          h'.get? s.heap.objs.size = some (setObj es ep (q led).2) ∧ es.map (·.1) = (q led).1 ∧ (q led).2.fits es.size = true ∧ (∀ b o, s.heap.get? b = some o → h'.get? b = some o)) E) PySem.F.called_set.init.plain PySem.F.entry_set_init (check_set_init_1 hT ?_)) fun r₂ s₂ hr₂ => ?_
      · obtain ⟨ol, hol, hcl, nl, hdl⟩ := hl
        obtain ⟨ocls, odict, odata, oslots⟩ := ol
        simp only at hcl hdl
        subst hcl; subst hdl
        have hol' : (s.heap.push { cls := .type "set", dict := none, data := .set #[] 0 (.fresh 0 0 led) }).get? l = some { cls := .type "list", dict := odict, data := .seq items nl, slots := oslots } := Heap.get?_push_of_some _ hol
        have hsls := PySem.F.sub_list_set
        have hslf := PySem.F.sub_list_frozenset
        have hne : (Value.type "list" == Value.type "dict") = false := by decide
        have hl1 : (s.heap.push { cls := .type "set", dict := none, data := .set #[] 0 (.fresh 0 0 led) }).IsList l items := ⟨_, hol', rfl, nl, rfl⟩
        unfold Builtin.«set.__init__» noKeywords Builtin.Frozenset.updateFrom
        generalize hPI : pyIter = PI
        wp_walk
        subst hPI
        refine wpAny_pyIter_list hl1 ?_
        refine wpAny_bind (wpAny_runValue ?_)
        have hlS : l < s.heap.objs.size := Heap.lt_size hol
        have hsz1 : (s.heap.push { cls := .type "set", dict := none, data := .set #[] 0 (.fresh 0 0 led) }).objs.size = s.heap.objs.size + 1 := Heap.size_push ..
        have keep : ∀ b o, s.heap.get? b = some o → ((s.heap.push { cls := .type "set", dict := none, data := .set #[] 0 (.fresh 0 0 led) }).push { cls := .type "list_iterator", data := .fields #[.ref l, .int 0 0] }).get? b = some o := fun b o e => Heap.get?_push_of_some _ (Heap.get?_push_of_some _ e)
        have hget : ((s.heap.push { cls := .type "set", dict := none, data := .set #[] 0 (.fresh 0 0 led) }).push { cls := .type "list_iterator", data := .fields #[.ref l, .int 0 0] }).get? s.heap.objs.size
              = some { cls := .type "set", dict := none, data := .set #[] 0 (.fresh 0 0 led) } := Heap.get?_push_of_some _ hS
        refine set_loop (kss := kss) (qf := q led) (items := items) (by simp [hh]) hu (l := l) ?_ ?_ (Nat.ne_of_gt hlS) hlen hsz (kss.length - 0) 0 _ #[] 0 (.fresh 0 0 led) rfl (Nat.zero_le _) ?_ ?_ ?_ ?_ (by simpa using hq led) ?_
        · rw [hsz1]; exact Nat.ne_of_lt (Nat.lt_succ_of_lt hlS)
        · rw [hsz1]; exact Nat.ne_of_lt (Nat.lt_succ_self _)
        · exact ⟨_, Heap.get?_push_size _ rfl, rfl, rfl⟩
        · exact hl1.push _
        · exact hget
        · intro j ks e
          obtain ⟨b, e1, ⟨o, it, n, e2, e3⟩⟩ := hK j ks e
          have hlt := Heap.lt_size e2
          exact ⟨b, e1, ⟨o, it, n, keep _ _ e2, e3⟩, Nat.ne_of_lt hlt, by rw [hsz1]; exact Nat.ne_of_lt (Nat.lt_succ_of_lt hlt)⟩
        · intro h' tk' es' ep' a1 a2 a3 a4
          show wpAny _ _ _ _ _ _
          refine wpAny_pure ?_
          show wpAny _ _ (ret Value.none) _ _ _
          refine wpAny_pure ⟨rfl, h', tk', es', ep', rfl, a1, a2, a3, fun b o e => ?_⟩
          have hlt := Heap.lt_size e
          exact a4 b o (Nat.ne_of_lt hlt) (by rw [hsz1]; exact Nat.ne_of_lt (Nat.lt_succ_of_lt hlt)) (keep b o e)
      · cases r₂ with
        | error e => exact hr₂
        | ok fl₂ =>
          cases fl₂ with
          | ret r =>
            obtain ⟨rfl, h', tk', es, ep, rfl, a1, a2, a3, a4⟩ := hr₂
            repeat (any_goals (first | assumption | wp_step))
            exact h led _ _ es ep a1 a2 a3 a4
          | _ => exact hr₂.elim
    | _ => exact hr.elim
end

section
variable {prog : Program} {w : World} {c : Base prog w}
theorem keysOf_cons {t : T} {l : List T} {kss : List (List Int)} (h : keysOf (t :: l) = some kss) : ∃ k r, asKey t = some k ∧ keysOf l = some r ∧ kss = k :: r := by
  obtain ⟨k, h1, h⟩ := ob_some h
  obtain ⟨r, h2, h⟩ := ob_some h
  cases h
  exact ⟨k, r, h1, h2, rfl⟩
theorem keys_get {q : Vw} {h : Heap} : ∀ {rows : List T} {kss : List (List Int)} {vs : List Value}, keysOf rows = some kss → Reps q h rows vs → vs.length = kss.length ∧ ∀ (j : Nat) (ks : List Int), kss[j]? = some ks → ∃ b, vs[j]? = some (Value.ref b) ∧ (tk prog w).is h ks b
  | [], kss, vs, e, r => by cases e; cases r; exact ⟨rfl, fun j ks h => by simp at h⟩
  | t :: l, kss, vs, e, r => by
    obtain ⟨k, kr, h1, h2, rfl⟩ := keysOf_cons e
    obtain ⟨v, vr, rfl, hv, hr⟩ := r
    obtain ⟨a1, a2⟩ := keys_get h2 hr
    refine ⟨by simp [a1], fun j ks hj => ?_⟩
    cases j with
    | zero =>
      simp at hj; subst hj
      cases t with
      | i z => cases h1
      | s p => cases h1
      | l l => cases h1
      | t l =>
        obtain ⟨b, rfl, hk⟩ := tup_key (prog := prog) (w := w) h1 hv
        exact ⟨b, rfl, hk⟩
    | succ j => simp at hj; simpa using a2 j ks hj

theorem Ev_lenset (hc : c.Ok) (gl : Gl c) {sc : Scope} {G : List Str} {k : Nat} {e : Expr} {f : List X → Option T} {p p' pos pos' : Pos} (h : Ev c sc G k e f)
    (hk : sc.names.lookup ("len" : Str) = some .globalImplicit) (hk' : sc.names.lookup ("set" : Str) = some .globalImplicit) (he : unstar e = true) :
    Ev c sc G k (.Call (.Name ("len" : Str) p) [.Call (.Name ("set" : Str) p') [e] [] pos'] [] pos) (fun r => ob (f r) (lensetF prog w)) := by
  refine ⟨fun A env s r t E Z hA hE hx hZ hF ht => ?_⟩
  obtain ⟨t₁, e1, ht⟩ := ob_some ht
  cases t₁ with
  | i z => cases ht
  | s q => cases ht
  | t l => cases ht
  | l rows =>
  obtain ⟨kss, e2, ht⟩ := ob_some ht
  have hrl : rows.length ≤ 500 ∧ keysOf rows = some kss := by
    cases hb : Nat.ble rows.length 500 with
    | false => rw [hb] at e2; cases e2
    | true => rw [hb] at e2; exact ⟨Nat.le_of_ble_eq_true hb, e2⟩
  obtain ⟨hrl, e2⟩ := hrl
  obtain ⟨a, e3, ht⟩ := ob_some ht
  obtain ⟨b, e4, ht⟩ := ob_some ht
  cases e5 : Nat.beq a b with
  | false => rw [e5] at ht; cases ht
  | true =>
  rw [e5] at ht; cases ht
  have hab := Nat.eq_of_beq_eq_true e5
  subst hab
  have led : ∀ l : Bool, ∃ q, simAll (kss.map (tk prog w).hash) #[] (.fresh 0 0 l) = some q ∧ q.1.size = a ∧ a ≤ 1000 := by
    have one : ∀ l : Bool, lenset1 prog w l kss = some a → ∃ q, simAll (kss.map (tk prog w).hash) #[] (.fresh 0 0 l) = some q ∧ q.1.size = a ∧ a ≤ 1000 := fun l e => by
      obtain ⟨q, eq, e⟩ := ob_some e
      cases hb : Nat.ble q.1.size 1000 with
      | false => rw [hb] at e; cases e
      | true => rw [hb] at e; cases e; exact ⟨q, eq, rfl, Nat.le_of_ble_eq_true hb⟩
    intro l
    cases l with
    | true => exact one _ e3
    | false => exact one _ e4
  refine Call_ (load_glob hc hE hx gl.len hk ?_ (by decide))
  refine callWith_plain (c := c) (.b _) (star_cons rfl env) (noStar_nil env pos) ?_
  refine args_cons ?_ (star_cons rfl env)
  refine Call_ (load_glob hc hE hx gl.set hk' ?_ (by decide))
  refine callWith_plain (c := c) (.t _) (star_cons he env) (noStar_nil env pos') ?_
  refine args_cons (wpAny_mono (h.go A env s r _ E Z hA hE hx hZ hF e1) (fun v s₁ ⟨k₁, r₁⟩ => args_nil ⟨ext_sub hx k₁.sub, ?_⟩) fun _ _ y => y) (star_cons he env)
  obtain ⟨lb, items, rfl, hlb, hrs, _⟩ := r₁
  obtain ⟨hl1, hl2⟩ := keys_get (prog := prog) (w := w) e2 hrs
  rw [Array.length_toList] at hl1
  have hsz : kss.length ≤ 500 := by
    have := hrs.length
    rw [Array.length_toList] at this
    omega
  refine call_set_rows (kss := kss) (q := fun l => (led l).choose) hA.handled (by have := hA.cl (j := 3) (by decide); exact this) hlb.isList hl1 hsz (fun j ks e => ?_) (fun l => (led l).choose_spec.1) ?_
  · obtain ⟨b, h1, h2⟩ := hl2 j ks e
    exact ⟨b, by rw [Array.getElem?_toList] at h1; exact h1, h2⟩
  · intro l h' tk' es ep a1 a2 a3 a4
    have hsize : es.size = a := by rw [← Array.size_map (f := (·.1)), a2]; exact (led l).choose_spec.2.1
    have hle := (led l).choose_spec.2.2
    have hs' : Sub s₁.heap h' := a4
    refine args_nil ⟨ext_sub hx (k₁.sub.trans hs'), ?_⟩
    refine call_len_set a1 ⟨rfl, rfl, rfl⟩ rfl a3 (by omega) ?_
    exact ⟨k₁.trans ⟨h', _, rfl, hs'⟩, _, by rw [hsize]⟩
end
end Mine

namespace Mine
open PySem PySem.Calls PyProof.Rows PyProof.V PySem.SeqAt PySem.W.X

/-! one run of a generator, up to its next yield or its end -/
section
variable {prog : Program} {w : World} {A : Around} {c : Code} {fs : List Frame} {P : End → Shared → Prop} {s : Shared}

theorem bind_wrap {α β γ : Type} (m : Sem α) (f : α → Sem β) (K : β → Sem γ) (H : Value → Sem γ) (gd lv) : (m >>= f).wrap K H gd lv = m.wrap (fun a => (f a).wrap K H gd lv) H gd lv := by
  rw [Sem.bind_eq_wrap', Sem.wrap_wrap]
  rfl
theorem sx_wrap {α : Type} {m : Sem α} {K : α → Sem Fin} {H : Value → Sem Fin} {gd lv} (h : wpAny (model prog w) (A.over c fs) m (fun a s' => SegX (model prog w) A c (K a) fs s' P) (fun x s' => SegX (model prog w) A c (H x) fs s' P) s) :
    SegX (model prog w) A c (m.wrap K H gd lv) fs s P := by
  rintro Γ p rfl hΓ
  obtain ⟨e, s', hr, hq⟩ := runs_wrap_of_wp (Φ := fun e s' => e.quiet = true ∧ P e s') K H gd lv m (h (Γ.over fs) p (hΓ.over fs)) (fun a p' s' h' => h' Γ p' rfl hΓ) (fun x p' s' h' => h' Γ p' rfl hΓ)
  exact ⟨e, s', hr, hq⟩
theorem sx_bind {α β : Type} {m : Sem α} {f : α → Sem β} {K : β → Sem Fin} {H : Value → Sem Fin} {gd lv}
    (h : wpAny (model prog w) (A.over c fs) m (fun a s' => SegX (model prog w) A c ((f a).wrap K H gd lv) fs s' P) (fun x s' => SegX (model prog w) A c (H x) fs s' P) s) :
    SegX (model prog w) A c ((m >>= f).wrap K H gd lv) fs s P := by rw [bind_wrap]; exact sx_wrap h
theorem sx_at {p' : Pos} {k : Unit → Sem Fin} (h : SegX (model prog w) A c (k ()) fs s P) : SegX (model prog w) A c (.at p' k) fs s P :=
  sx_wrap (m := standAt p') (K := k) (H := .raise) (gd := id) (lv := id) (wpAny_standAt h)
theorem sx_execs_nil {env : Env} {K : Flow → Sem Fin} {H : Value → Sem Fin} {gd lv} (h : SegX (model prog w) A c (K .next) fs s P) : SegX (model prog w) A c ((execs [] env).wrap K H gd lv) fs s P := h
theorem sx_execs_cons {env : Env} {st : Stmt} {rest : List Stmt} {K : Flow → Sem Fin} {H : Value → Sem Fin} {gd lv}
    (h : SegX (model prog w) A c ((exec st env).wrap (fun f => match f with | .next => (execs rest env).wrap K H gd lv | f => K f) H gd lv) fs s P) :
    SegX (model prog w) A c ((execs (st :: rest) env).wrap K H gd lv) fs s P := by rw [execs_cons_wrap]; exact h
theorem sx_If {env : Env} {test : Expr} {b e : List Stmt} {pos : Pos} {K : Flow → Sem Fin} {H : Value → Sem Fin} {gd lv}
    (h : wpAny (model prog w) (A.over c fs) (isTrue test env (eval test env)) (fun v s' => SegX (model prog w) A c ((execs (match v with | true => b | false => e) env).wrap K H gd lv) fs s' P) (fun x s' => SegX (model prog w) A c (H x) fs s' P) s) :
    SegX (model prog w) A c ((exec (.If test b e pos) env).wrap K H gd lv) fs s P := by
  rw [exec_If]
  refine sx_bind (wpAny_standAt ?_)
  refine sx_bind (wpAny_mono h (fun v s' hv => ?_) fun _ _ y => y)
  cases v <;> exact hv
theorem sx_Assign {env : Env} {st : Stmt} {K : Flow → Sem Fin} {H : Value → Sem Fin} {gd lv} (h : wpAny (model prog w) (A.over c fs) (exec st env) (fun fl s' => SegX (model prog w) A c (K fl) fs s' P) (fun x s' => SegX (model prog w) A c (H x) fs s' P) s) :
    SegX (model prog w) A c ((exec st env).wrap K H gd lv) fs s P := sx_wrap h
theorem sx_Yield {env : Env} {e : Expr} {ypos pos : Pos} {K : Flow → Sem Fin} {H : Value → Sem Fin} {gd lv} (hfs : splitAtGen fs = none) (hgd : gd false = false) (hfg : fs.any Frame.guarded = false)
    (h : wpAny (model prog w) (A.over c fs) (eval e env) (fun v s' => ∀ (k : Resume → Sem Fin) l p, k (.send .none) = K .next → P (.susp v false l k c p fs) s')
      (fun x s' => SegX (model prog w) A c (H x) fs s' P) s) (hco : env.scope.isCoroutine = false) (hi : interactive env = false) :
    SegX (model prog w) A c ((exec (.Expr (.Yield (some e) ypos) pos) env).wrap K H gd lv) fs s P := by
  rw [exec_Expr env _ pos hi rfl]
  show SegX (model prog w) A c (.at pos fun _ => ((eval e env >>= fun v => (standAt ypos >>= fun _ => yieldOut env v)) >>= fun x =>
    dropValue (.Yield (some e) ypos) pos x).wrap K H gd lv) fs s P
  have hy : ∀ v, yieldOut env v = yieldValue v := fun v => by simp only [yieldOut, hco, Bool.false_eq_true, if_false]
  simp only [hy]
  refine sx_at ?_
  rw [Sem.bind_eq_wrap', Sem.bind_eq_wrap', Sem.wrap_wrap, Sem.wrap_wrap]
  refine sx_wrap (wpAny_mono h (fun v s' h' => ?_) fun _ _ x => x)
  refine sx_at ?_
  show SegX (model prog w) A c (.yield v (gd false) (lv []) (fun r => ((match r with | .send x => (pure x : Sem Value) | .throw e => raiseThrown e)).wrap (fun a => (dropValue (.Yield (some e) ypos) pos a).wrap K H gd lv) (fun e => (Sem.raise e).wrap K H gd lv) (fun g => gd g) (fun l => lv l))) fs s' P
  rw [hgd]
  exact s_yield prog w A c fs P s' v _ _ hfs hfg fun p => h' _ _ p rfl

/-- what stands behind a loop's own activation -/
def kont (env : Env) (K : Flow → Sem Fin) (H : Value → Sem Fin) (gd : Bool → Bool) (lv : List Value → List Value) (r : Result) : Sem Fin :=
  ((match r with | .ok f => (.pure f : Sem Flow) | .error e => .raise e).onRaise fun (x : Value) => do
    if (← field x 1) == Value.none then unsupported "frame.own-activation:exception-without-traceback"
    setFlight x env.frame).wrap K H gd lv
theorem kont_ok {env : Env} {K : Flow → Sem Fin} {H : Value → Sem Fin} {gd lv} (f : Flow) : kont env K H gd lv (.ok f) = K f := rfl

theorem sx_For {env : Env} {target iter : Expr} {body : List Stmt} {pos : Pos} {K : Flow → Sem Fin} {H : Value → Sem Fin} {gd lv}
    (h : wpAny (model prog w) (A.over c fs) (eval iter env) (fun x s₁ => wpAny (model prog w) (A.over c fs) (pyIter x) (fun it s₂ => ∀ p, SegX (model prog w) A (.forLoop target it body [] env) (denote table (.forLoop target it body [] env)) (.ret (kont env K H gd lv) none (gd false) (lv []) c p [] :: fs) s₂ P)
      (fun x s' => SegX (model prog w) A c (H x) fs s' P) s₁) (fun x s' => SegX (model prog w) A c (H x) fs s' P) s) (hs : ∀ x, foldedSetIterable iter env x = pure x) :
    SegX (model prog w) A c ((exec (.For target iter body [] pos) env).wrap K H gd lv) fs s P := by
  rw [exec_For]
  refine sx_bind (wpAny_standAt (sx_bind (wpAny_mono h (fun x s₁ h₁ => ?_) fun _ _ y => y)))
  refine sx_bind (wpAny_of_eq (hs x) (sx_bind (wpAny_standAt (sx_bind (wpAny_holding (wpAny_mono h₁ (fun it s₂ h₂ => ?_) fun _ _ y => y))))))
  exact s_call prog w A c fs P s₂ _ _ _ _ _ h₂

/-- a turn of a loop -/
theorem sx_forLoop {env : Env} {target : Expr} {it : Value} {body : List Stmt}
    (h : wpAny (model prog w) (A.over (.forLoop target it body [] env) fs) (pyNext it) (fun r s₁ => match r with
      | none => SegX (model prog w) A (.block [] env) (denote table (.block [] env)) fs s₁ P
      | some v => wpAny (model prog w) (A.over (.forLoop target it body [] env) fs) (letOwnedTupleGo target it v) (fun _ s₂ => wpAny (model prog w) (A.over (.forLoop target it body [] env) fs) (assign target env v) (fun _ s₃ =>
          SegX (model prog w) A (.forLoop target it body [] env) ((execs body env).wrap (fun fl => match fl with
            | .next | .cont => .pure (.again (.forLoop target it body [] env))
            | .brk => .pure (.done .next)
            | .ret v => .pure (.done (.ret v))) (fun e => (do noteFrame e env; theTreesLotGoes e : Sem Unit).bind fun _ => .raise e) id id) fs s₃ P) (fun _ _ => False) s₂) (fun _ _ => False) s₁) (fun _ _ => False) s) :
    SegX (model prog w) A (.forLoop target it body [] env) (denote table (.forLoop target it body [] env)) fs s P := by
  show SegX _ A _ ((forTurn target it body [] env).onRaise (fun x => do noteFrame x env; theTreesLotGoes x)) fs s P
  rw [Sem.onRaise_eq_wrap]
  unfold forTurn
  refine sx_bind (wpAny_standAt (sx_bind (wpAny_onRaise (wpAny_mono h (fun r s₁ h₁ => ?_) fun _ _ y => y.elim))))
  cases r with
  | none => exact s_again prog w A _ fs P s₁ _ rfl h₁
  | some v =>
    refine sx_bind (wpAny_mono h₁ (fun _ s₂ h₂ => sx_bind (wpAny_mono h₂ (fun _ s₃ h₃ => ?_) fun _ _ y => y.elim)) fun _ _ y => y.elim)
    rw [bind_wrap]
    rw [Sem.wrap_congr (execs body env) _ _ (K' := fun fl => match fl with
            | .next | .cont => .pure (.again (.forLoop target it body [] env))
            | .brk => .pure (.done .next)
            | .ret v => .pure (.done (.ret v))) (H' := (fun e => (do noteFrame e env; theTreesLotGoes e : Sem Unit).bind fun _ => .raise e)) (fun f => by cases f <;> rfl) (fun e => rfl)]
    exact h₃
theorem sx_block_nil {env : Env} {k : Result → Sem Fin} {hd : Option Value} {g : Bool} {l : List Value} {c₁ : Code} {p₁ : Pos} {kp : List Value} (h : SegX (model prog w) A c₁ (k (.ok .next)) fs s P) :
    SegX (model prog w) A (.block [] env) (denote table (.block [] env)) (.ret k hd g l c₁ p₁ kp :: fs) s P := by
  have e : denote table (.block [] env) = leafOf (.ok .next) := by
    show ((execs [] env).onRaise _ >>= _) = _
    rfl
  exact s_pop prog w A (.block [] env) fs P s (.ok .next) _ e k hd g l c₁ p₁ kp h
theorem sx_func {body : List Stmt} {env : Env}
    (h : SegX (model prog w) A (.func body env) ((execs body env).wrap (fun f => .pure (.done (.ret (match f with | .ret v => v | _ => .none))))
      (fun e => (leaving env e).wrap (fun _ => .raise e) .raise id id) id id) fs s P) : SegX (model prog w) A (.func body env) (denote table (.func body env)) fs s P := by
  show SegX _ A _ (.point [] fun _ => ((execs body env).onRaise (leaving env)) >>= _) fs s P
  refine sx_wrap (m := point) (K := fun _ => ((execs body env).onRaise (leaving env)) >>= _) (H := .raise) (gd := id) (lv := fun _ => []) (wpAny_point ?_)
  rw [Sem.onRaise_eq_wrap, Sem.bind_eq_wrap', Sem.wrap_wrap]
  rw [Sem.wrap_congr (execs body env) _ _ (K' := fun f => .pure (.done (.ret (match f with | .ret v => v | _ => .none))))
    (H' := fun e => (leaving env e).wrap (fun _ => .raise e) .raise id id) (fun f => by cases f <;> rfl)
    (fun e => by rw [Sem.bind_eq_wrap, Sem.wrap_wrap]; rfl)]
  exact h
end
end Mine

namespace Mine
open PySem PySem.Calls PyProof.Rows PyProof.V PySem.SeqAt PySem.W.X

section
variable {prog : Program} {w : World}
/-- left without frames that hold -/
def IsBare (s : Shared) (g : Nat) : Prop := ∃ gs, s.gens[g]? = some gs ∧ gs.bare = true
theorem IsBare.of_eq {s s' : Shared} {g : Nat} (x : IsBare s g) (h : s'.gens[g]? = s.gens[g]?) : IsBare s' g := by
  obtain ⟨gs, e, b⟩ := x; exact ⟨gs, h.trans e, b⟩
/-- objects of the set, and those that are new -/
def FPn (FP : Addr → Prop) (s s' : Shared) (b : Addr) : Prop := FP b ∨ (s.heap.get? b = none ∧ ∃ o, s'.heap.get? b = some o)
def GFn (GF : Nat → Prop) (s s' : Shared) (g : Nat) : Prop := GF g ∨ (s.gens.size ≤ g ∧ g < s'.gens.size)
/-- what a generator's run may do -/
structure Mvd (c : Base prog w) (FP : Addr → Prop) (GF : Nat → Prop) (s s' : Shared) : Prop where
  drawn : s'.drawn = s.drawn
  os : s'.os = s.os
  heap : ∀ b o, s.heap.get? b = some o → (¬ FP b ∨ ∃ items n, o.data = .seq items n) → b ≠ c.P → s'.heap.get? b = some o
  gd : Gd c s'.heap
  gens : ∀ g, ¬ GF g → g < s.gens.size → s'.gens[g]? = s.gens[g]?
  size : s.gens.size ≤ s'.gens.size
  live : ∀ b o, s.heap.get? b = some o → ∃ o', s'.heap.get? b = some o'
theorem Mvd.trans {c : Base prog w} {FP FP₁ : Addr → Prop} {GF GF₁ : Nat → Prop} {s s₁ s₂ : Shared} (x : Mvd c FP GF s s₁) (y : Mvd c FP₁ GF₁ s₁ s₂) (hF : ∀ b, FP₁ b → FPn FP s s₁ b) (hG : ∀ g, GF₁ g → GFn GF s s₁ g) : Mvd c FP GF s s₂ where
  drawn := y.drawn.trans x.drawn
  os := y.os.trans x.os
  heap := fun b o e h hP => y.heap b o (x.heap b o e h hP) (h.elim (fun h => .inl fun h' => by
    rcases hF b h' with h' | ⟨h', _⟩
    · exact h h'
    · rw [h'] at e; cases e) .inr) hP
  gd := y.gd
  gens := fun g h hg => (y.gens g (fun h' => by
    rcases hG g h' with h' | ⟨h', _⟩
    · exact h h'
    · exact absurd hg (Nat.not_lt.mpr h')) (Nat.lt_of_lt_of_le hg x.size)).trans (x.gens g h hg)
  size := Nat.le_trans x.size y.size
  live := fun b o e => let ⟨o', e'⟩ := x.live b o e; y.live b o' e'
theorem Mvd.kp {c : Base prog w} {FP : Addr → Prop} {GF : Nat → Prop} {s s' : Shared} (hx : Gd c s.heap) (k : Kp s s') : Mvd c FP GF s s' := by
  obtain ⟨h', tk, rfl, hs⟩ := k
  exact ⟨rfl, rfl, fun b o e _ _ => hs b o e, ext_sub hx hs, fun _ _ _ => rfl, Nat.le_refl _, fun b o e => ⟨o, hs b o e⟩⟩

def Hold (FP : Addr → Prop) (GF : Nat → Prop) (s s' : Shared) : Prop := (∀ b o, FP b → s.heap.get? b = some o → s'.heap.get? b = some o) ∧ ∀ g, GF g → s'.gens[g]? = s.gens[g]?
theorem Hold.refl (FP : Addr → Prop) (GF : Nat → Prop) (s : Shared) : Hold FP GF s s := ⟨fun _ _ _ e => e, fun _ _ => rfl⟩
theorem Hold.trans {FP : Addr → Prop} {GF : Nat → Prop} {s s₁ s₂ : Shared} (x : Hold FP GF s s₁) (y : Hold FP GF s₁ s₂) : Hold FP GF s s₂ := ⟨fun b o h e => y.1 b o h (x.1 b o h e), fun g h => (y.2 g h).trans (x.2 g h)⟩
theorem Hold.mono {FP FP' : Addr → Prop} {GF GF' : Nat → Prop} {s s₁ : Shared} (x : Hold FP' GF' s s₁) (hF : ∀ b, FP b → FP' b) (hG : ∀ g, GF g → GF' g) : Hold FP GF s s₁ := ⟨fun b o h e => x.1 b o (hF b h) e, fun g h => x.2 g (hG g h)⟩

def Ready (prog : Program) (w : World) (gs : GenState) (c₀ : Code) (t₀ : Sem Fin) (fs₀ : List Frame) : Prop := (gs = .fresh c₀ ∧ t₀ = denote table c₀ ∧ fs₀ = []) ∨ (∃ k₀ l₀ p₀ cl, gs = .suspended k₀ l₀ c₀ p₀ fs₀ cl ∧ t₀ = k₀ (.send .none))
/-- the generator numbered g gives the values of the list, and ends -/
def Go (c : Base prog w) (k : Nat) (Z : Addr → Prop) (g : Nat) : List T → (Addr → Prop) → (Nat → Prop) → Shared → Prop
  | [], FP, GF, s => GF g ∧ ∃ gs c₀ t₀ fs₀, s.gens[g]? = some gs ∧ Ready prog w gs c₀ t₀ fs₀ ∧ ∀ A s', GA k A → Gd c s'.heap → Live Z s'.heap → Hold FP GF s s' →
      SegX (model prog w) A c₀ t₀ fs₀ (s'.setGen g .running) (fun e s₁ => e = .ret (.ok (.ret .none)) ∧ Mvd c FP GF (s'.setGen g .running) s₁ ∧ ∀ g', GFn GF s' s₁ g' → g' ≠ g → IsBare s₁ g')
  | t :: ts, FP, GF, s => GF g ∧ ∃ gs c₀ t₀ fs₀, s.gens[g]? = some gs ∧ Ready prog w gs c₀ t₀ fs₀ ∧ ∀ A s', GA k A → Gd c s'.heap → Live Z s'.heap → Hold FP GF s s' →
      SegX (model prog w) A c₀ t₀ fs₀ (s'.setGen g .running) (fun e s₁ => ∃ v l kk p cc fss, e = .susp v false l kk cc p fss ∧ fss.any Frame.guarded = false ∧ Mvd c FP GF (s'.setGen g .running) s₁ ∧ Rep ⟨c.a, Z⟩ s₁.heap t v ∧
        Go c k Z g ts (FPn FP s' s₁) (GFn GF s' s₁) (s₁.setGen g (.suspended kk l cc p fss false)))

theorem setGen_at {s : Shared} {g : Nat} {x : GenState} (h : g < s.gens.size) : (s.setGen g x).gens[g]? = some x := by
  unfold Shared.setGen; simp [h]
theorem setGen_ne {s : Shared} {g g' : Nat} {x : GenState} (h : g' ≠ g) : (s.setGen g x).gens[g']? = s.gens[g']? := by
  unfold Shared.setGen; simp [Ne.symm h]
theorem setGen_size {s : Shared} {g : Nat} {x : GenState} : (s.setGen g x).gens.size = s.gens.size := by unfold Shared.setGen; simp
theorem Mvd.setGen {c : Base prog w} {FP : Addr → Prop} {GF : Nat → Prop} {s s₁ : Shared} {g : Nat} {x y : GenState} (m : Mvd c FP GF (s.setGen g x) s₁) (hg : GF g) : Mvd c FP GF s (s₁.setGen g y) where
  drawn := m.drawn
  os := m.os
  heap := m.heap
  gd := m.gd
  gens := fun g' h hl => by
    have hne : g' ≠ g := fun e => h (e ▸ hg)
    rw [setGen_ne hne, m.gens g' h (by rw [setGen_size]; exact hl), setGen_ne hne]
  size := by rw [setGen_size]; have := m.size; rw [setGen_size] at this; exact this
  live := m.live

theorem GA.in1 {k : Nat} {A : Around} (h : GA (k + 1) A) : GA k A.in1 := ⟨h.handled, by have := h.depth; show A.depth + k ≤ 900; omega, by have := h.units; show A.units + 1 + 10 * k ≤ 9000; omega⟩

theorem go_ready {c : Base prog w} {k : Nat} {Z : Addr → Prop} {g : Nat} {ts : List T} {FP : Addr → Prop} {GF : Nat → Prop} {s : Shared} (G : Go c k Z g ts FP GF s) : GF g ∧ ∃ gs c₀ t₀ fs₀, s.gens[g]? = some gs ∧ Ready prog w gs c₀ t₀ fs₀ := by
  cases ts with
  | nil => obtain ⟨h, gs, c₀, t₀, fs₀, h1, h2, _⟩ := G; exact ⟨h, gs, c₀, t₀, fs₀, h1, h2⟩
  | cons t ts => obtain ⟨h, gs, c₀, t₀, fs₀, h1, h2, _⟩ := G; exact ⟨h, gs, c₀, t₀, fs₀, h1, h2⟩

/-- a generator is woken -/
theorem next_gen {A : Around} {E : Value → Shared → Prop} {s : Shared} {I : Addr} {g : Nat} {gs : GenState} {c₀ : Code} {t₀ : Sem Fin} {fs₀ : List Frame} {Q : Option Value → Shared → Prop} (hh : A.handled = none) (hl : s.heap.NoLimit) (hroom : A.depth < recursionLimit) (hg : s.heap.IsGen I g) (hgs : s.gens[g]? = some gs) (hr : Ready prog w gs c₀ t₀ fs₀)
    (x : SegX (model prog w) A.in1 c₀ t₀ fs₀ (s.setGen g .running) (fun e s₁ => (e = .ret (.ok (.ret .none)) ∧ ∀ h', (∀ b o, s₁.heap.get? b = some o → h'.get? b = some o) → Q none { s₁.setGen g .finished with heap := h' }) ∨
      ∃ v l kk p cc fss, e = .susp v false l kk cc p fss ∧ fss.any Frame.guarded = false ∧ Q (some v) (s₁.setGen g (.suspended kk l cc p fss false)))) :
    wpAny (model prog w) A (pyNext (.ref I)) Q E s := by
  unfold pyNext
  refine wpAny_bind (wpAny_attempt (wpAny_callSpecial?_slot (name := Str.ofString "__next__") hg.typeIs slot_gen_next
    (wpAny_call_entry slot_gen_next hg.typeIs entry_gen_next ?_ (args_gen_next _))))
  show wpAny _ _ (Builtin.Generator.genWake (.ref I) (.send .none)) _ _ s
  unfold Builtin.Generator.genWake
  refine wpAny_bind (wpAny_holding (wpAny_genNumber hg (wpAny_bind (wpAny_genState hgs ?_))))
  have hr' : (gs = .fresh c₀ ∧ (Resume.send Value.none) = .send .none ∧ t₀ = denote table c₀ ∧ fs₀ = []) ∨ (∃ k₀ l₀ p₀ cl, gs = .suspended k₀ l₀ c₀ p₀ fs₀ cl ∧ t₀ = k₀ (.send .none)) := by
    rcases hr with ⟨h1, h2, h3⟩ | h
    · exact .inl ⟨h1, rfl, h2, h3⟩
    · exact .inr h
  have body : ∀ {α : Type} {kk : GenResult → Sem α} {Q' : α → Shared → Prop} {E' : Value → Shared → Prop}, SegX (model prog w) A.in1 c₀ t₀ fs₀ (s.setGen g .running) (fun e s₁ => ∀ Γ p, Γ.In A.in1 → Sem.wp (model prog w) Γ (kk e.result) (fun a _ s' => Q' a s') (fun e _ s' => E' e s') p (s₁.setGen g e.genState)) →
      wpAny (model prog w) A.in1 (.resume g (.send .none) [] kk) Q' E' s := fun {α kk Q' E'} hx Γ p hΓ => wake_any α prog w hgs hr' (fun Γ => Γ.In A.in1) (fun _ h => h) hx Γ p hΓ
  have fin : ∀ {kk : GenResult → Sem PySem.Fin} {Q' : PySem.Fin → Shared → Prop} {E' : Value → Shared → Prop},
      (∀ s₁ : Shared, (∀ h' : Heap, (∀ b o, s₁.heap.get? b = some o → h'.get? b = some o) → Q none { s₁.setGen g .finished with heap := h' }) → wpAny (model prog w) A.in1 (kk (End.ret (.ok (.ret .none))).result) Q' E' (s₁.setGen g .finished)) →
      (∀ (v : Value) (s₁ : Shared) (gs' : GenState), Q (some v) (s₁.setGen g gs') → wpAny (model prog w) A.in1 (kk (.yielded v)) Q' E' (s₁.setGen g gs')) → wpAny (model prog w) A.in1 (.resume g (.send .none) [] kk) Q' E' s := fun {kk Q' E'} h1 h2 => body (x.mono fun e s₁ he => by
    rcases he with ⟨rfl, hq⟩ | ⟨v, l, k', p, cc, fss, rfl, hg, hq⟩
    · exact h1 s₁ hq
    · have eg : (End.susp v false l k' cc p fss).genState = .suspended k' l cc p fss false := by
        show GenState.suspended k' l cc p fss _ = _
        congr 1
      rw [eg]
      exact h2 v s₁ _ hq)
  have hstat : gs ≠ .running ∧ gs ≠ .finished := by
    rcases hr with ⟨h1, _⟩ | ⟨_, _, _, _, h1, _⟩ <;> rw [h1] <;> exact ⟨fun h => (nomatch h), fun h => (nomatch h)⟩
  cases gs with
  | running => exact absurd rfl hstat.1
  | finished => exact absurd rfl hstat.2
  | _ =>
    refine wpAny_bind (wpAny_roomToWake hl hroom ?_)
    show wpAny _ _ (.resume g (.send .none) [] _) _ _ s
    refine fin (fun s₁ hq => ?_) (fun v s₁ gs' hq => ?_)
    · show wpAny _ _ (newExc (.type "StopIteration") [] >>= _) _ _ _
      refine wpAny_bind ?_
      simp only [newExc, newTuple]
      refine wpAny_bind (wpAny_newObj_type ?_ (by size_fits))
      refine wpAny_bind (m := firstArgMember _ _) (wpAny_of_eq (a := Value.none) (by first | rfl | (simp only [firstArgMember]; rfl)) ?_)
      refine wpAny_newObj_type ?_ (by size_fits)
      simp only [raiseNew]
      refine wpAny_bind (wpAny_bind (wpAny_handled ?_))
      rw [show A.in1.handled = none from hh]
      refine wpAny_throw ?_
      refine wpAny_bind (wpAny_isInstance (T := "StopIteration") (b := true) ⟨_, Heap.get?_push_size _ rfl, rfl⟩ isSubtype_stop ?_)
      exact wpAny_pure (hq _ fun b o hb => Heap.get?_push_of_some _ (Heap.get?_push_of_some _ hb))
    · exact wpAny_pure ⟨v, rfl, wpAny_pure hq⟩
end
end Mine

namespace Mine
open PySem PySem.Calls PyProof.Rows PyProof.V PySem.SeqAt PySem.W.X

section
variable {prog : Program} {w : World} {c : Base prog w}
theorem GFn_setGen {GF : Nat → Prop} {s s₁ : Shared} {g : Nat} {x : GenState} : GFn GF s (s₁.setGen g x) = GFn GF s s₁ := by
  funext g'; unfold GFn; rw [setGen_size]

theorem go_item (hc : c.Ok) {A : Around} {E : Value → Shared → Prop} {k g : Nat} {Z : Addr → Prop} {I : Addr} {t : T} {ts : List T} {FP : Addr → Prop} {GF : Nat → Prop} {s s' : Shared} {Q : Option Value → Shared → Prop} (hA : GA (k + 1) A) (hx : Gd c s'.heap) (hZ : Live Z s'.heap) (hI : s'.heap.IsGen I g) (G : Go c k Z g (t :: ts) FP GF s) (hH : Hold FP GF s s')
    (hQ : ∀ v s₁, Mvd c FP GF s' s₁ → Rep ⟨c.a, Z⟩ s₁.heap t v → Go c k Z g ts (FPn FP s' s₁) (GFn GF s' s₁) s₁ → Q (some v) s₁) : wpAny (model prog w) A (pyNext (.ref I)) Q E s' := by
  obtain ⟨hg, gs, c₀, t₀, fs₀, h1, h2, h3⟩ := G
  refine next_gen hA.handled (hc.nolimit _ hx) hA.room hI ((hH.2 g hg).trans h1) h2 ((h3 A.in1 s' hA.in1 hx hZ hH).mono fun e s₁ he => ?_)
  obtain ⟨v, l, kk, p, cc, fss, rfl, hfg, hm, hr, hgo⟩ := he
  refine .inr ⟨v, l, kk, p, cc, fss, rfl, hfg, hQ v _ (hm.setGen hg) hr ?_⟩
  rw [GFn_setGen]
  exact hgo
theorem go_end (hc : c.Ok) {A : Around} {E : Value → Shared → Prop} {k g : Nat} {Z : Addr → Prop} {I : Addr} {FP : Addr → Prop} {GF : Nat → Prop} {s s' : Shared} {Q : Option Value → Shared → Prop} (hA : GA (k + 1) A) (hx : Gd c s'.heap) (hZ : Live Z s'.heap) (hI : s'.heap.IsGen I g) (G : Go c k Z g [] FP GF s) (hH : Hold FP GF s s')
    (hQ : ∀ s₁, Mvd c FP GF s' s₁ → (∀ g', GFn GF s' s₁ g' → IsBare s₁ g') → Q none s₁) : wpAny (model prog w) A (pyNext (.ref I)) Q E s' := by
  obtain ⟨hg, gs, c₀, t₀, fs₀, h1, h2, h3⟩ := G
  have hgs := (hH.2 g hg).trans h1
  refine next_gen hA.handled (hc.nolimit _ hx) hA.room hI hgs h2 ((h3 A.in1 s' hA.in1 hx hZ hH).mono fun e s₁ he => ?_)
  obtain ⟨rfl, hm, hf⟩ := he
  refine .inl ⟨rfl, fun h' hk => hQ _ ?_ fun g' hg' => ?_⟩
  · have m := hm.setGen (y := .finished) hg
    exact ⟨m.drawn, m.os, fun b o e h hP => hk b o (m.heap b o e h hP), ext_sub m.gd hk, m.gens, m.size, fun b o e => let ⟨o', e'⟩ := m.live b o e; ⟨o', hk b o' e'⟩⟩
  · have hg'' : GFn GF s' s₁ g' := by rw [← GFn_setGen (g := g) (x := .finished)]; exact hg'
    by_cases e : g' = g
    · subst e
      refine ⟨_, setGen_at ?_, rfl⟩
      have hlt : g' < s'.gens.size := by
        rcases Nat.lt_or_ge g' s'.gens.size with h | h
        · exact h
        · rw [Array.getElem?_eq_none h] at hgs; cases hgs
      have := hm.size
      rw [setGen_size] at this
      exact Nat.lt_of_lt_of_le hlt this
    · exact IsBare.of_eq (hf g' hg'' e) (setGen_ne e)

/-- the plain facts of a generator def's block -/
structure GenI (sc : Scope) (names : List Str) : Prop where
  kind : sc.kind = .function
  co : sc.isCoroutine = false
  gen : sc.isGenerator = true
  cell : ∀ y ∈ sc.names, y.2 ≠ .cell
  free : ∀ y ∈ sc.names, y.2 ≠ .free
  pars : ∀ y ∈ names, sc.names.lookup y = some .local
  nodup : names.Nodup

theorem lookup_zip {x : Str} {v : Value} {names : List Str} {vs : List Value} {i : Nat} (hn : names.Nodup) (hlen : vs.length = names.length) (hx : names[i]? = some x) (hv : vs[i]? = some v) : ((names.zip vs).reverse).lookup x = some v := by
  have hmem : (x, v) ∈ names.zip vs := by
    refine List.mem_iff_getElem?.mpr ⟨i, ?_⟩
    rw [List.getElem?_zip_eq_some]
    exact ⟨hx, hv⟩
  have key : ∀ (l : List (Str × Value)), (l.map (·.1)).Nodup → (x, v) ∈ l → l.lookup x = some v := by
    intro l
    induction l with
    | nil => intro _ h; cases h
    | cons y l ih =>
      intro hnd h
      obtain ⟨y1, y2⟩ := y
      rw [List.map_cons, List.nodup_cons] at hnd
      rcases List.mem_cons.mp h with h' | h'
      · cases h'; simp [List.lookup]
      · have hne : (x == y1) = false := by
          cases e : x == y1 with
          | false => rfl
          | true =>
            have : x = y1 := by simpa using e
            exact absurd (List.mem_map.mpr ⟨(x, v), h', this⟩) hnd.1
        rw [List.lookup_cons, hne]
        exact ih hnd.2 h'
  refine key _ ?_ (List.mem_reverse.mpr hmem)
  rw [List.map_reverse, List.map_fst_zip (by omega)]
  exact (List.reverse_perm names).nodup_iff.mpr hn

theorem call_genfn (hc : c.Ok) {A : Around} {E : Value → Shared → Prop} {s : Shared} {x : Str} {params : Arguments} {body : List Stmt} {sc : Scope} {fa : Addr} {o : Obj} {pm cd doc : Value} {names : List Str} {vs : List Value} {Q : Value → Shared → Prop} (F : FnAt c x params body sc fa o pm cd doc) (hI : GenI sc names) (hx : Gd c s.heap) (hroom : A.depth < recursionLimit)
    (hbind : bindArgs (docDef x params body sc pm cd doc) ⟨vs, []⟩ = pure (names.zip vs)) 
    (hQ : ∀ I L g (env : Env) (h' : Heap) tk, g = s.gens.size → env.locals = L → EnvI sc env → env.code = cd → (∀ b o, s.heap.get? b = some o → h'.get? b = some o) → s.heap.get? L = none → s.heap.get? I = none → I ≠ L → h'.IsGen I g →
      h'.Ns L (fun y => (names.zip vs).reverse.lookup y) → Q (.ref I) { s with heap := h', toks := tk, gens := s.gens.push (.fresh (.func body env)) }) :
    wpAny (model prog w) A (call (.ref fa) vs) Q E s := by
  refine wpAny_call (codeAny_call_generator (body := body) (fd := docDef x params body sc pm cd doc) hroom (hx.1 fa o F.ne F.get) F.data hI.co hI.gen rfl (F.code _ hx) ?_)
  refine wpAny_of_eq hbind ?_
  refine wpAny_newFunctionEnv hI.cell (fun y hy => ?_) (fun h' hn hs => ⟨?_, ?_⟩) hI.kind
  · obtain ⟨i, hi⟩ := List.mem_iff_getElem?.mp hy
    rw [List.getElem?_zip_eq_some] at hi
    exact hI.pars y.1 (List.mem_of_getElem? hi.1)
  · have hx' : Gd c h' := ext_sub hx fun b o e => hs.extBut b o (Nat.ne_of_lt (Heap.lt_size e)) (Heap.get?_push_of_some _ e)
    exact hc.nolimit _ hx'
  · have keep : ∀ b o, s.heap.get? b = some o → h'.get? b = some o := fun b o e => hs.extBut b o (Nat.ne_of_lt (Heap.lt_size e)) (Heap.get?_push_of_some _ e)
    have hsz : h'.objs.size = s.heap.objs.size + 1 := by rw [hs.1, Heap.size_push]
    refine hQ _ s.heap.objs.size s.gens.size _ _ _ rfl rfl ⟨rfl, rfl, rfl, hI.kind, fun y hy => ?_⟩ rfl (fun b o e => Heap.get?_push_of_some _ (keep b o e)) (get_size _) ?_ ?_ ⟨_, _, _, Heap.get?_push_size _ rfl, rfl, rfl, rfl⟩ (hn.push _)
    · rcases hy with hy | hy
      · exact absurd rfl (hI.cell _ (mem_lookup hy))
      · exact absurd rfl (hI.free _ (mem_lookup hy))
    · show s.heap.get? h'.objs.size = none
      rw [hsz]
      cases e : s.heap.get? (s.heap.objs.size + 1) with
      | none => rfl
      | some o => exact absurd (Heap.lt_size e) (Nat.not_lt.mpr (Nat.le_succ _))
    · show h'.objs.size ≠ s.heap.objs.size
      rw [hsz]; exact Nat.succ_ne_self _
end
end Mine

namespace Mine
open PySem PySem.Calls PyProof.Rows PyProof.V PySem.SeqAt PySem.W.X

section
variable {prog : Program} {w : World} {c : Base prog w}

/-- the end of a run that gives the values still to come -/
def GPost (c : Base prog w) (k : Nat) (Z : Addr → Prop) (g : Nat) : List T → (Addr → Prop) → (Nat → Prop) → Shared → End → Shared → Prop
  | [], FP, GF, s', e, s₁ => e = .ret (.ok (.ret .none)) ∧ Mvd c FP GF (s'.setGen g .running) s₁ ∧ ∀ g', GFn GF s' s₁ g' → g' ≠ g → IsBare s₁ g'
  | t :: ts, FP, GF, s', e, s₁ => ∃ v l kk p cc fss, e = .susp v false l kk cc p fss ∧ fss.any Frame.guarded = false ∧ Mvd c FP GF (s'.setGen g .running) s₁ ∧ Rep ⟨c.a, Z⟩ s₁.heap t v ∧
      Go c k Z g ts (FPn FP s' s₁) (GFn GF s' s₁) (s₁.setGen g (.suspended kk l cc p fss false))
theorem go_mk {k g : Nat} {Z : Addr → Prop} {ts : List T} {FP : Addr → Prop} {GF : Nat → Prop} {s : Shared} {gs : GenState} {c₀ : Code} {t₀ : Sem Fin} {fs₀ : List Frame} (hg : GF g) (h1 : s.gens[g]? = some gs) (h2 : Ready prog w gs c₀ t₀ fs₀)
    (h : ∀ A s', GA k A → Gd c s'.heap → Live Z s'.heap → Hold FP GF s s' → SegX (model prog w) A c₀ t₀ fs₀ (s'.setGen g .running) (GPost c k Z g ts FP GF s')) : Go c k Z g ts FP GF s := by
  cases ts with
  | nil => exact ⟨hg, gs, c₀, t₀, fs₀, h1, h2, h⟩
  | cons t ts => exact ⟨hg, gs, c₀, t₀, fs₀, h1, h2, h⟩

/-- objects of others, at this time -/
def zo (FP : Addr → Prop) (s₀ s : Shared) (b : Addr) : Prop := (∃ o, s.heap.get? b = some o) ∧ ¬ FPn FP s₀ s b
/-- a running generator, since it was woken -/
structure Me (c : Base prog w) (g : Nat) (Z : Addr → Prop) (FP : Addr → Prop) (GF Act : Nat → Prop) (s₀ s : Shared) (env : Env) (G : List Str) (r : List X) : Prop where
  m : Mvd c FP GF (s₀.setGen g .running) s
  g1 : GF g
  g2 : g < s₀.gens.size
  loc : FPn FP s₀ s env.locals
  fz : ∀ b, FP b → ¬ Z b
  lz : Live Z s₀.heap
  fin : ∀ g', GFn GF s₀ s g' → g' ≠ g → ¬ Act g' → IsBare s g'
  fr : FrE c (zo FP s₀ s) s.heap env G r
  nc : ∀ x, env.kindOf x ≠ some .cell ∧ env.kindOf x ≠ some .free
  gr : ∀ g', GF g' → g' < s₀.gens.size
  fp : ¬ FP c.P
  pl : ∃ o, s₀.heap.get? c.P = some o
theorem Me.live {g : Nat} {Z : Addr → Prop} {FP : Addr → Prop} {GF Act : Nat → Prop} {s₀ s : Shared} {env : Env} {G : List Str} {r : List X} (M : Me c g Z FP GF Act s₀ s env G r) : Live Z s.heap := fun b hb => by
  obtain ⟨o, e⟩ := M.lz b hb
  exact M.m.live b o e
theorem Me.z {g : Nat} {Z : Addr → Prop} {FP : Addr → Prop} {GF Act : Nat → Prop} {s₀ s : Shared} {env : Env} {G : List Str} {r : List X} (M : Me c g Z FP GF Act s₀ s env G r) : ∀ b, FPn FP s₀ s b → ¬ Z b := fun b h => by
  rcases h with h | ⟨h, _⟩
  · exact M.fz b h
  · exact fun z => by obtain ⟨o, e⟩ := M.lz b z; rw [h] at e; cases e
/-- the frame as readers see it -/
theorem Me.read {g : Nat} {Z : Addr → Prop} {FP : Addr → Prop} {GF Act : Nat → Prop} {s₀ s : Shared} {env : Env} {G : List Str} {r : List X} (M : Me c g Z FP GF Act s₀ s env G r) : FrE c Z s.heap env G r :=
  M.fr.view fun b o e hz => M.z b (Classical.byContradiction fun h => hz ⟨⟨o, e⟩, h⟩)

theorem FPn.setGen {FP : Addr → Prop} {s s₁ : Shared} {g : Nat} {x : GenState} : FPn FP (s.setGen g x) s₁ = FPn FP s s₁ := rfl
theorem GFn.setGen' {GF : Nat → Prop} {s s₁ : Shared} {g : Nat} {x : GenState} : GFn GF (s.setGen g x) s₁ = GFn GF s s₁ := by funext g'; unfold GFn; rw [setGen_size]

/-- FrE under a change of the heap that leaves the namespace and the rows -/
theorem frE_kept {Z Z' : Addr → Prop} {h h' : Heap} {env : Env} {G : List Str} {r : List X} (F : FrE c Z h env G r) (nc : ∀ x, env.kindOf x ≠ some .cell ∧ env.kindOf x ≠ some .free) (hL : ∀ o, h.get? env.locals = some o → h'.get? env.locals = some o)
    (hk : ∀ b o, h.get? b = some o → ¬ Z b → (∃ it n, o.data = .seq it n) → h'.get? b = some o ∧ ¬ Z' b) (nd : ∀ i kv, nth r i ≠ .d kv) : FrE c Z' h' env G r := by
  obtain ⟨m, hn, hx⟩ := F
  refine ⟨m, hn.at' hL, fun i x hi hu => ?_⟩
  obtain ⟨v, h1, h2⟩ := hx i x hi hu
  refine ⟨v, ?_, ?_⟩
  · rcases h1 with h1 | ⟨h1 | h1, _⟩
    · exact .inl h1
    · exact absurd h1 (nc x).1
    · exact absurd h1 (nc x).2
  · cases e : nth r i with
    | u => trivial
    | k => trivial
    | d kv => exact absurd e (nd i kv)
    | p t => rw [e] at h2; exact Rep.both hk t v h2

/-- a step that changes the heap outside the frame -/
theorem Me.step {g : Nat} {Z : Addr → Prop} {FP FP₁ : Addr → Prop} {GF GF₁ Act Act' : Nat → Prop} {s₀ s s₁ : Shared} {env : Env} {G : List Str} {r : List X} (M : Me c g Z FP GF Act s₀ s env G r) (m₁ : Mvd c FP₁ GF₁ s s₁) (hF : ∀ b, FP₁ b → FPn FP s₀ s b) (hG : ∀ g, GF₁ g → GFn GF s₀ s g) (hL : ¬ FP₁ env.locals) (nd : ∀ i kv, nth r i ≠ .d kv) (hg : ¬ GF₁ g)
    (hP : env.locals ≠ c.P) (hf : ∀ g', GFn GF s₀ s₁ g' → g' ≠ g → ¬ Act' g' → (GF₁ g' ∨ s.gens.size ≤ g' ∨ Act g') → IsBare s₁ g') : Me c g Z FP GF Act' s₀ s₁ env G r where
  m := M.m.trans m₁ hF (fun g' h => by rw [GFn.setGen']; exact hG g' h)
  g1 := M.g1
  g2 := M.g2
  loc := by
    rcases M.loc with h | ⟨h, o, e⟩
    · exact .inl h
    · exact .inr ⟨h, m₁.live _ _ e⟩
  fz := M.fz
  lz := M.lz
  fin := fun g' h hne ha => by
    by_cases h1 : GF₁ g' ∨ s.gens.size ≤ g' ∨ Act g'
    · exact hf g' h hne ha h1
    · have hlt : g' < s.gens.size := Nat.lt_of_not_le fun q => h1 (.inr (.inl q))
      refine IsBare.of_eq (M.fin g' ?_ hne (fun q => h1 (.inr (.inr q)))) (m₁.gens g' (fun q => h1 (.inl q)) hlt)
      rcases h with h | ⟨h, _⟩
      · exact .inl h
      · exact .inr ⟨h, hlt⟩
  fr := by
    refine frE_kept M.fr M.nc (fun o e => m₁.heap _ o e (.inl hL) hP) (fun b o e hz ⟨it, n, hd⟩ => ⟨?_, fun hz' => hz'.2 ?_⟩) nd
    · by_cases hbP : b = c.P
      · exfalso
        subst hbP
        obtain ⟨o', e', hs, _⟩ := M.m.gd.2
        rw [e] at e'; cases e'
        exact hs _ _ hd
      · exact m₁.heap b o e (.inr ⟨it, n, hd⟩) hbP
    · have : FPn FP s₀ s b := Classical.byContradiction fun h => hz ⟨⟨o, e⟩, h⟩
      rcases this with h | ⟨h, _⟩
      · exact .inl h
      · exact .inr ⟨h, m₁.live b o e⟩
  nc := M.nc
  gr := M.gr
  fp := M.fp
  pl := M.pl
end
end Mine

namespace Mine
open PySem PySem.Calls PyProof.Rows PyProof.V PySem.SeqAt PySem.W.X

section
variable {prog : Program} {w : World} {c : Base prog w}

theorem mvd_same {FP : Addr → Prop} {GF : Nat → Prop} {s : Shared} {h' : Heap} {tk : Nat} {L : Addr} (hx : Gd c s.heap) (hs : Heap.SameBut L s.heap h') (hL : FP L) (hP : L ≠ c.P) (h0 : ∀ o, c.h₀.get? L = some o → False) (hq : ∀ o, s.heap.get? L = some o → NotSeq o) (hl : ∃ o, h'.get? L = some o) : Mvd c FP GF s { s with heap := h', toks := tk } where
  drawn := rfl
  os := rfl
  heap := fun b o e h hP => hs.extBut b o (fun q => by
    have q : b = L := q
    subst q
    rcases h with h | ⟨it, n, hd⟩
    · exact h hL
    · exact hq o e _ _ hd) e
  gd := ⟨fun b o hb e => hs.extBut b o (fun q => by have q : b = L := q; subst q; exact h0 o e) (hx.1 b o hb e), by
    obtain ⟨o, e, r⟩ := hx.2
    exact ⟨o, hs.extBut _ _ (Ne.symm hP) e, r⟩⟩
  gens := fun _ _ _ => rfl
  size := Nat.le_refl _
  live := fun b o e => by
    by_cases q : b = L
    · subst q; exact hl
    · exact ⟨o, hs.extBut b o q e⟩

theorem Me.store {A : Around} {E : Value → Shared → Prop} {g j : Nat} {Z : Addr → Prop} {FP : Addr → Prop} {GF Act : Nat → Prop} {s₀ s : Shared} {env : Env} {sc : Scope} {G : List Str} {r : List X} {x : Str} {v : Value} {t : T} (M : Me c g Z FP GF Act s₀ s env G r) (hE : EnvI sc env) (hj : G[j]? = some x) (hu : ∀ i, G[i]? = some x → i = j)
    (hk : sc.names.lookup x = some .local) (hr : Rep ⟨c.a, Z⟩ s.heap t v) (nd : ∀ i kv, nth r i ≠ .d kv) (hP : env.locals ≠ c.P) (h0 : ∀ o, c.h₀.get? env.locals = some o → False) :
    wpAny (model prog w) A (storeName env x v) (fun _ s' => ∃ h' tk, s' = { s with heap := h', toks := tk } ∧ Heap.SameBut env.locals s.heap h' ∧ Me c g Z FP GF Act s₀ s' env G (setN r j .u) ∧ FrE c Z s'.heap env G (setN r j (.p t)) ∧
      (Rep ⟨c.a, zo FP s₀ s⟩ s.heap t v → Me c g Z FP GF Act s₀ s' env G (setN r j (.p t)))) E s := by
  obtain ⟨m, hn, hx⟩ := M.fr
  obtain ⟨oL, es, ep, hoL, hdL, hrL⟩ := id hn
  have hkl : env.kindOf x = some .local := (hE.kindOf x).trans hk
  have hq : ∀ o, s.heap.get? env.locals = some o → NotSeq o := fun o e => by rw [hoL] at e; cases e; intro i n q; rw [hdL] at q; cases q
  refine wpAny_storeName_local hkl hn (fun h' hn' hs' => ?_) (by rw [hE.fn]; rfl)
  replace hs' : Heap.SameBut env.locals s.heap h' := hs'
  have hl' : ∃ o, h'.get? env.locals = some o := by obtain ⟨o, _, _, e, _⟩ := hn'; exact ⟨o, e⟩
  have m₁ : ∀ tk, Mvd c (fun b => b = env.locals) (fun _ => False) s { s with heap := h', toks := tk } := fun tk => mvd_same M.m.gd hs' rfl hP h0 hq hl'
  -- the frame, in any view
  have frame : ∀ (Z' Z'' : Addr → Prop) (V : X), (∀ b o, s.heap.get? b = some o → ¬ Z' b → ¬ Z'' b) → (∀ (i : Nat) (y : Str), G[i]? = some y → i ≠ j → nth r i ≠ .u → ∃ u, Holds s.heap env m y u ∧ RepX prog w ⟨c.a, Z'⟩ s.heap (nth r i) u) → (V = .u ∨ ∃ t', V = .p t' ∧ Rep ⟨c.a, Z''⟩ h' t' v) → FrE c Z'' h' env G (setN r j V) := by
    intro Z' Z'' V hz hx' hV
    refine ⟨_, hn', fun i y hi hu' => ?_⟩
    rw [nth_setN] at hu' ⊢
    by_cases hij : i = j
    · subst hij
      rw [if_pos rfl] at hu' ⊢
      rw [hj] at hi; cases hi
      rcases hV with rfl | ⟨t', rfl, hV⟩
      · exact absurd rfl hu'
      · exact ⟨v, .inl ⟨hkl, by simp⟩, hV⟩
    · rw [if_neg hij] at hu' ⊢
      have hyx : y ≠ x := fun e => hij (hu i (e ▸ hi))
      obtain ⟨u, h1, h2⟩ := hx' i y hi hij hu'
      refine ⟨u, ?_, ?_⟩
      · rcases h1 with ⟨a1, a2⟩ | ⟨a1 | a1, _⟩
        · exact .inl ⟨a1, by simp [hyx, a2]⟩
        · exact absurd a1 (M.nc y).1
        · exact absurd a1 (M.nc y).2
      · have kp : ∀ b o, s.heap.get? b = some o → ¬ Z' b → (∃ it n, o.data = .seq it n) → h'.get? b = some o ∧ ¬ Z'' b := fun b o e z ⟨it, n, hd⟩ => ⟨hs'.extBut b o (fun q => by have q : b = env.locals := q; subst q; exact hq o e _ _ hd) e, hz b o e z⟩
        cases e : nth r i with
        | u => trivial
        | k => trivial
        | d kv => exact absurd e (nd i kv)
        | p t => rw [e] at h2; exact Rep.both kp t u h2
  have kpZ : Kept ⟨c.a, Z⟩ s.heap h' := fun b o _ ⟨it, n, hd⟩ e => hs'.extBut b o (fun q => by have q : b = env.locals := q; subst q; exact hq o e _ _ hd) e
  have zz : ∀ tk b o, s.heap.get? b = some o → ¬ zo FP s₀ s b → ¬ zo FP s₀ { s with heap := h', toks := tk } b := fun tk b o e hz hz' => by
    refine hz' |>.2 ?_
    have : FPn FP s₀ s b := Classical.byContradiction fun h => hz ⟨⟨o, e⟩, h⟩
    rcases this with h | ⟨h, _⟩
    · exact .inl h
    · refine .inr ⟨h, ?_⟩
      by_cases q : b = env.locals
      · subst q; exact hl'
      · exact ⟨o, hs'.extBut b o q e⟩
  have me : ∀ tk V, (V = .u ∨ ∃ t', V = .p t' ∧ Rep ⟨c.a, zo FP s₀ s⟩ s.heap t' v) → Me c g Z FP GF Act s₀ { s with heap := h', toks := tk } env G (setN r j V) := fun tk V hV => {
    m := M.m.trans (m₁ tk) (fun b hb => by subst hb; exact M.loc) (fun _ h => h.elim)
    g1 := M.g1
    g2 := M.g2
    loc := by
      rcases M.loc with h | ⟨h, _⟩
      · exact .inl h
      · exact .inr ⟨h, hl'⟩
    fz := M.fz
    lz := M.lz
    fin := M.fin
    fr := frame _ _ V (zz tk) (fun i y hi _ hu => hx i y hi hu) (by
      rcases hV with h | ⟨t', h, e⟩
      · exact .inl h
      · exact .inr ⟨t', h, Rep.both (fun b o e z ⟨it, n, hd⟩ => ⟨hs'.extBut b o (fun q => by have q : b = env.locals := q; subst q; exact hq o e _ _ hd) e, zz tk b o e z⟩) _ _ e⟩)
    nc := M.nc
    gr := M.gr
    fp := M.fp
    pl := M.pl }
  refine ⟨h', _, rfl, hs', me _ .u (.inl rfl), frame Z Z (.p t) (fun _ _ _ h => h) (fun i y hi _ hu => ?_) (.inr ⟨t, rfl, Rep.mono' kpZ _ _ hr⟩), fun hz => me _ _ (.inr ⟨t, rfl, hz⟩)⟩
  obtain ⟨u, h1, h2⟩ := hx i y hi hu
  exact ⟨u, h1, RepX.view (fun b o e hz => M.z b (Classical.byContradiction fun h => hz ⟨⟨o, e⟩, h⟩)) h2⟩

/-- woken again -/
theorem Me.again {g : Nat} {Z : Addr → Prop} {FP : Addr → Prop} {GF Act : Nat → Prop} {s₀ s s₂ : Shared} {env : Env} {G : List Str} {r : List X} {gs : GenState} (M : Me c g Z FP GF Act s₀ s env G r) (hx : Gd c s₂.heap) (hZ : Live Z s₂.heap) (hH : Hold (FPn FP s₀ s) (GFn GF s₀ s) (s.setGen g gs) s₂) (nd : ∀ i kv, nth r i ≠ .d kv) :
    Me c g Z (FPn FP s₀ s) (GFn GF s₀ s) Act s₂ (s₂.setGen g .running) env G r where
  m := ⟨rfl, rfl, fun b o e _ _ => e, hx, fun _ _ _ => rfl, Nat.le_refl _, fun b o e => ⟨o, e⟩⟩
  g1 := .inl M.g1
  g2 := by
    have h1 : (s.setGen g gs).gens[g]? = some gs := setGen_at (by have := M.m.size; rw [setGen_size] at this; exact Nat.lt_of_lt_of_le M.g2 this)
    have h2 := (hH.2 g (.inl M.g1)).trans h1
    rcases Nat.lt_or_ge g s₂.gens.size with h | h
    · exact h
    · rw [Array.getElem?_eq_none h] at h2; cases h2
  loc := .inl M.loc
  fz := M.z
  lz := hZ
  fin := fun g' h hne ha => by
    have h' : GFn GF s₀ s g' := by
      rcases h with h | ⟨h, h3⟩
      · exact h
      · rw [setGen_size] at h3; exact absurd h3 (Nat.not_lt.mpr h)
    exact IsBare.of_eq (M.fin g' h' hne ha) ((setGen_ne hne).trans ((hH.2 g' h').trans (setGen_ne hne)))
  fr := by
    have hloc : ∀ o, s.heap.get? env.locals = some o → (s₂.setGen g .running).heap.get? env.locals = some o := fun o e => hH.1 _ o M.loc e
    refine frE_kept M.fr M.nc hloc (fun b o e hz _ => ?_) nd
    have hb : FPn FP s₀ s b := Classical.byContradiction fun h => hz ⟨⟨o, e⟩, h⟩
    exact ⟨hH.1 b o hb e, fun hz' => hz'.2 (.inl hb)⟩
  nc := M.nc
  gr := fun g' h => by
    have hlt : g' < s.gens.size := by
      rcases h with h | h
      · have := M.m.size; rw [setGen_size] at this; exact Nat.lt_of_lt_of_le (M.gr _ h) this
      · exact h.2
    have h2 := hH.2 g' h
    rcases Nat.lt_or_ge g' s₂.gens.size with h3 | h3
    · exact h3
    · rw [Array.getElem?_eq_none h3] at h2
      have h4 : g' < (s.setGen g gs).gens.size := by rw [setGen_size]; exact hlt
      rw [Array.getElem?_eq_getElem h4] at h2; cases h2
  fp := fun h => by
    rcases h with h | ⟨h, _⟩
    · exact M.fp h
    · obtain ⟨o, e⟩ := M.pl; rw [h] at e; cases e
  pl := let ⟨o, e, _⟩ := hx.2; ⟨o, e⟩
end
end Mine

namespace Mine
open PySem PySem.Calls PyProof.Rows PyProof.V PySem.SeqAt PySem.W.X

theorem setN_setN : ∀ (r : List X) (j : Nat) (x y : X), setN (setN r j x) j y = setN r j y
  | [], 0, x, y => rfl
  | [], j + 1, x, y => by show X.u :: setN (setN [] j x) j y = X.u :: setN [] j y; rw [setN_setN]
  | z :: r, 0, x, y => rfl
  | z :: r, j + 1, x, y => by show z :: setN (setN r j x) j y = z :: setN r j y; rw [setN_setN]

section
variable {prog : Program} {w : World} {c : Base prog w}

theorem Go.hold {k g : Nat} {Z : Addr → Prop} {ts : List T} {FP : Addr → Prop} {GF : Nat → Prop} {s s₁ : Shared} (G : Go c k Z g ts FP GF s) (h : Hold FP GF s s₁) : Go c k Z g ts FP GF s₁ := by
  cases ts with
  | nil => obtain ⟨hg, gs, c₀, t₀, fs₀, h1, h2, h3⟩ := G; exact ⟨hg, gs, c₀, t₀, fs₀, (h.2 g hg).trans h1, h2, fun A s' a b d e => h3 A s' a b d (h.trans e)⟩
  | cons t ts => obtain ⟨hg, gs, c₀, t₀, fs₀, h1, h2, h3⟩ := G; exact ⟨hg, gs, c₀, t₀, fs₀, (h.2 g hg).trans h1, h2, fun A s' a b d e => h3 A s' a b d (h.trans e)⟩
theorem Me.notP {g : Nat} {Z : Addr → Prop} {FP : Addr → Prop} {GF Act : Nat → Prop} {s₀ s : Shared} {env : Env} {G : List Str} {r : List X} (M : Me c g Z FP GF Act s₀ s env G r) : ¬ FPn FP s₀ s c.P := fun h => by
  rcases h with h | ⟨h, _⟩
  · exact M.fp h
  · obtain ⟨o, e⟩ := M.pl; rw [h] at e; cases e
/-- nothing but new things, and the table -/
abbrev Mvd0 (c : Base prog w) (s s' : Shared) : Prop := Mvd c (fun _ => False) (fun _ => False) s s' ∧ ∀ g, s.gens.size ≤ g → g < s'.gens.size → IsBare s' g
theorem Mvd0.kp {s s' : Shared} (hx : Gd c s.heap) (k : Kp s s') : Mvd0 c s s' := ⟨.kp hx k, fun g h1 h2 => by
  obtain ⟨h', tk, rfl, _⟩ := k
  exact absurd h2 (Nat.not_lt.mpr h1)⟩
theorem Mvd0.hold {FP : Addr → Prop} {GF : Nat → Prop} {s s' : Shared} (m : Mvd0 c s s') (hP : ¬ FP c.P) (hg : ∀ g, GF g → g < s.gens.size) : Hold FP GF s s' :=
  ⟨fun b o h e => m.1.heap b o e (.inl id) (fun q => hP (q ▸ h)), fun g h => m.1.gens g id (hg g h)⟩
theorem Me.step0 {g : Nat} {Z : Addr → Prop} {FP : Addr → Prop} {GF Act : Nat → Prop} {s₀ s s₁ : Shared} {env : Env} {G : List Str} {r : List X} (M : Me c g Z FP GF Act s₀ s env G r) (m₁ : Mvd0 c s s₁) (nd : ∀ i kv, nth r i ≠ .d kv) (hA : ∀ g', Act g' → g' < s.gens.size) : Me c g Z FP GF Act s₀ s₁ env G r :=
  M.step m₁.1 (fun _ h => h.elim) (fun _ h => h.elim) id nd id (fun q => M.notP (q ▸ M.loc)) fun g' h hne ha h1 => by
    rcases h1 with h1 | h1 | h1
    · exact h1.elim
    · have hlt : g' < s₁.gens.size := by
        rcases h with h | h
        · have := M.m.size
          rw [setGen_size] at this
          exact Nat.lt_of_lt_of_le (Nat.lt_of_lt_of_le (M.gr _ h) this) m₁.1.size
        · exact h.2
      exact m₁.2 g' h1 hlt
    · exact absurd h1 ha

theorem gen_loop (hc : c.Ok) {k ki K g j : Nat} {Z : Addr → Prop} {env : Env} {sc : Scope} {G : List Str} {r : List X} {y : Str} {py yp pp : Pos} {e : Expr} {FT : T → T} {fs1 : List Frame} {kk : Result → Sem Fin} {hd : Option Value} {gg : Bool} {lv : List Value} {cO : Code} {pO : Pos} {kp : List Value} {rest : List T} {xb : Addr} {xo : Obj} {PT : T → Prop}
    (hE : EnvI sc env) (hco : sc.isCoroutine = false) (hj : G[j]? = some y) (hu : ∀ i, G[i]? = some y → i = j) (hk : sc.names.lookup y = some .local) (nd : ∀ i kv, nth r i ≠ .d kv) (h0 : ∀ o, c.h₀.get? env.locals = some o → False)
    (he : ∀ (A : Around) (s : Shared) (t : T) (E : Value → Shared → Prop), PT t → GA k A → Gd c s.heap → Live Z s.heap → FrE c Z s.heap env G (setN r j (.p t)) → wpAny (model prog w) A (eval e env) (fun v s' => Mvd0 c s s' ∧ Rep ⟨c.a, Z⟩ s'.heap (FT t) v) E s)
    (hfs : splitAtGen (.ret kk hd gg lv cO pO kp :: fs1) = none) (hfg : (Frame.ret kk hd gg lv cO pO kp :: fs1).any Frame.guarded = false) (hki : ki + 1 ≤ k)
    (over : ∀ A it, GA K A → GA k (A.over (.forLoop (.Name y py) it [.Expr (.Yield (some e) yp) pp] [] env) (.ret kk hd gg lv cO pO kp :: fs1)))
    (hXL : xb ≠ env.locals)
    (hK : ∀ A FP GF s₀ s, GA K A → Me c g Z FP GF (fun _ => False) s₀ s env G (setN r j .u) → s.heap.get? xb = some xo → FPn FP s₀ s xb → SegX (model prog w) A cO (kk (.ok .next)) fs1 s (GPost c K Z g rest FP GF s₀)) :
    ∀ (ts : List T) (A : Around) (FP FPi : Addr → Prop) (GF GFi : Nat → Prop) (s₀ s : Shared) (IG : Addr) (gi : Nat), GA K A → Me c g Z FP GF GFi s₀ s env G (setN r j .u) → Go c ki Z gi ts FPi GFi s → s.heap.IsGen IG gi → ¬ FPi IG → FPn FP s₀ s IG → ¬ FPi env.locals →
      (∀ b, FPi b → FPn FP s₀ s b) → (∀ g', GFi g' → GFn GF s₀ s g') → ¬ GFi g → s.heap.get? xb = some xo → FPn FP s₀ s xb → ¬ FPi xb → (∀ t ∈ ts, PT t) →
      SegX (model prog w) A (.forLoop (.Name y py) (.ref IG) [.Expr (.Yield (some e) yp) pp] [] env) (denote table (.forLoop (.Name y py) (.ref IG) [.Expr (.Yield (some e) yp) pp] [] env)) (.ret kk hd gg lv cO pO kp :: fs1) s (GPost c K Z g (ts.map FT ++ rest) FP GF s₀) := by
  have nd' : ∀ i kv, nth (setN r j .u) i ≠ .d kv := fun i kv q => by
    rw [nth_setN] at q
    by_cases h : i = j
    · rw [if_pos h] at q; cases q
    · rw [if_neg h] at q; exact nd i kv q
  intro ts
  induction ts with
  | nil =>
    intro A FP FPi GF GFi s₀ s IG gi hA M Gi hI hIn hIo hL hF hG hgi hX hXo hXn hpt
    have hXP : xb ≠ c.P := fun q => M.notP (q ▸ hXo)
    have hP : env.locals ≠ c.P := fun q => M.notP (q ▸ M.loc)
    refine sx_forLoop (go_end hc ((over A _ hA).le hki) M.m.gd M.live hI Gi (Hold.refl _ _ _) fun s₁ m₁ hf => ?_)
    refine sx_block_nil (hK A FP GF s₀ s₁ hA ?_ (m₁.heap _ _ hX (.inl hXn) hXP) ?_)
    rotate_left
    · rcases hXo with h | ⟨h, _⟩
      · exact .inl h
      · exact .inr ⟨h, m₁.live _ _ hX⟩
    refine M.step m₁ hF hG hL nd' hgi hP fun g' h hne _ h1 => ?_
    rcases h1 with h1 | h1 | h1
    · exact hf g' (.inl h1)
    · refine hf g' (.inr ⟨h1, ?_⟩)
      rcases h with h | h
      · have := M.m.size
        rw [setGen_size] at this
        exact Nat.lt_of_lt_of_le (Nat.lt_of_lt_of_le (M.gr _ h) this) m₁.size
      · exact h.2
    · exact hf g' (.inl h1)
  | cons t ts ih =>
    intro A FP FPi GF GFi s₀ s IG gi hA M Gi hI hIn hIo hL hF hG hgi hX hXo hXn hpt
    have hXP : xb ≠ c.P := fun q => M.notP (q ▸ hXo)
    have hP : env.locals ≠ c.P := fun q => M.notP (q ▸ M.loc)
    have hlt : ∀ g', GFn GF s₀ s g' → g' < s.gens.size := fun g' h => by
      rcases h with h | h
      · have := M.m.size
        rw [setGen_size] at this
        exact Nat.lt_of_lt_of_le (M.gr _ h) this
      · exact h.2
    refine sx_forLoop (go_item hc ((over A _ hA).le hki) M.m.gd M.live hI Gi (Hold.refl _ _ _) fun v s₁ m₁ hr Gi₁ => ?_)
    have M₁ : Me c g Z FP GF (GFn GFi s s₁) s₀ s₁ env G (setN r j .u) := M.step m₁ hF hG hL nd' hgi hP fun g' h hne ha h1 => by
      exfalso
      rcases h1 with h1 | h1 | h1
      · exact ha (.inl h1)
      · refine ha (.inr ⟨h1, ?_⟩)
        rcases h with h | h
        · exact Nat.lt_of_lt_of_le (hlt g' (.inl h)) m₁.size
        · exact h.2
      · exact ha (.inl h1)
    have loc₁ : ∃ o, s.heap.get? env.locals = some o := by obtain ⟨m, ⟨o, _, _, e, _⟩, _⟩ := M.fr; exact ⟨o, e⟩
    have hL₁ : ¬ FPn FPi s s₁ env.locals := fun h => by
      rcases h with h | ⟨h, _⟩
      · exact hL h
      · obtain ⟨o, e⟩ := loc₁; rw [h] at e; cases e
    have hF₁ : ∀ b, FPn FPi s s₁ b → FPn FP s₀ s₁ b := fun b h => by
      rcases h with h | ⟨h, h'⟩
      · rcases hF b h with h | ⟨h, o, e⟩
        · exact .inl h
        · exact .inr ⟨h, m₁.live _ _ e⟩
      · refine .inr ⟨?_, h'⟩
        cases q : s₀.heap.get? b with
        | none => rfl
        | some o => obtain ⟨o', e'⟩ := M.m.live b o q; rw [h] at e'; cases e'
    have hG₁ : ∀ g', GFn GFi s s₁ g' → GFn GF s₀ s₁ g' := fun g' h => by
      rcases h with h | ⟨h, h'⟩
      · rcases hG g' h with h | ⟨h, h'⟩
        · exact .inl h
        · exact .inr ⟨h, Nat.lt_of_lt_of_le h' m₁.size⟩
      · have := M.m.size
        rw [setGen_size] at this
        exact .inr ⟨Nat.le_trans this h, h'⟩
    have hgi₁ : ¬ GFn GFi s s₁ g := fun h => by
      rcases h with h | ⟨h, _⟩
      · exact hgi h
      · have := M.m.size
        rw [setGen_size] at this
        exact absurd (Nat.lt_of_lt_of_le M.g2 this) (Nat.not_lt.mpr h)
    have hIn₁ : ¬ FPn FPi s s₁ IG := fun h => by
      rcases h with h | ⟨h, _⟩
      · exact hIn h
      · obtain ⟨o, _, _, e, _⟩ := hI; rw [h] at e; cases e
    have hIP : IG ≠ c.P := fun q => M.notP (q ▸ hIo)
    have hI₁ : s₁.heap.IsGen IG gi := by
      obtain ⟨o, nm, qn, e, r⟩ := hI
      exact ⟨o, nm, qn, m₁.heap _ o e (.inl hIn) hIP, r⟩
    have hIo₁ : FPn FP s₀ s₁ IG := by
      rcases hIo with h | ⟨h, o, e⟩
      · exact .inl h
      · exact .inr ⟨h, m₁.live _ _ e⟩
    refine wpAny_of_eq (show letOwnedTupleGo (.Name y py) (.ref IG) v = pure () from rfl) ?_
    refine wpAny_assign_Name (wpAny_mono (M₁.store hE hj hu hk hr nd' hP h0) (fun _ s₂ hs₂ => ?_) fun _ _ y => y)
    obtain ⟨h₂, tk₂, rfl, hsb, M₂, F₂, _⟩ := hs₂
    rw [setN_setN] at M₂ F₂
    have H₂ : Hold (FPn FPi s s₁) (GFn GFi s s₁) s₁ { s₁ with heap := h₂, toks := tk₂ } := ⟨fun b o h e => hsb.extBut b o (fun q => by have q : b = env.locals := q; subst q; exact hL₁ h) e, fun _ _ => rfl⟩
    have Gi₂ := Gi₁.hold H₂
    have hP₂ : ¬ FPn FPi s s₁ c.P := fun h => M₁.notP (hF₁ _ h)
    refine sx_execs_cons ?_
    refine sx_Yield hfs rfl hfg (wpAny_mono (he _ _ t _ (hpt t List.mem_cons_self) (over A _ hA) M₂.m.gd M₂.live F₂) (fun v' s₃ p => ?_) fun _ _ y => y) (by rw [hE.scope]; exact hco) (by unfold interactive; rw [hE.fn]; rfl)
    obtain ⟨m₃, hr₃⟩ := p
    intro k' l' p' hk'
    have hlt₁ : ∀ g', GFn GFi s s₁ g' → g' < s₁.gens.size := fun g' h => by
      rcases hG₁ g' h with h | h
      · exact Nat.lt_of_lt_of_le (hlt g' (.inl h)) m₁.size
      · exact h.2
    have M₃ : Me c g Z FP GF (GFn GFi s s₁) s₀ s₃ env G (setN r j .u) := M₂.step0 m₃ nd' (fun g' h => hlt₁ g' h)
    have H₃ : Hold (FPn FPi s s₁) (GFn GFi s s₁) { s₁ with heap := h₂, toks := tk₂ } s₃ := m₃.hold hP₂ hlt₁
    have Gi₃ := Gi₂.hold H₃
    have hgl : g < s₃.gens.size := by
      have := M₃.m.size
      rw [setGen_size] at this
      exact Nat.lt_of_lt_of_le M₃.g2 this
    refine ⟨v', l', k', p', _, _, rfl, hfg, M₃.m, hr₃, ?_⟩
    refine go_mk (.inl M₃.g1) (setGen_at hgl) (.inr ⟨k', l', p', false, rfl, rfl⟩) fun A' s'' hA' hx' hZ' hH' => ?_
    rw [hk']
    show SegX (model prog w) A' _ (.pure (.again (.forLoop (.Name y py) (.ref IG) [.Expr (.Yield (some e) yp) pp] [] env))) _ _ _
    refine s_again prog w A' _ _ _ _ _ rfl ?_
    have M₄ := M₃.again hx' hZ' hH' nd'
    have fp₃ : ∀ b, FPn FPi s s₁ b → FPn FP s₀ s₃ b := fun b h => by
      rcases hF₁ b h with h | ⟨h, o, e⟩
      · exact .inl h
      · refine .inr ⟨h, ?_⟩
        obtain ⟨o', e'⟩ : ∃ o', h₂.get? b = some o' := by
          by_cases q : b = env.locals
          · subst q; obtain ⟨m, ⟨o, _, _, e, _⟩, _⟩ := M₂.fr; exact ⟨o, e⟩
          · exact ⟨o, hsb.extBut b o q e⟩
        exact m₃.1.live b o' e'
    have gf₃ : ∀ g', GFn GFi s s₁ g' → GFn GF s₀ s₃ g' := fun g' h => by
      rcases hG₁ g' h with h | ⟨h, h'⟩
      · exact .inl h
      · exact .inr ⟨h, Nat.lt_of_lt_of_le h' m₃.1.size⟩
    have H₄ : Hold (FPn FPi s s₁) (GFn GFi s s₁) s₃ (s''.setGen g .running) := ⟨fun b o h e => hH'.1 b o (fp₃ b h) e, fun g' h => by
      have hne : g' ≠ g := fun q => hgi₁ (q ▸ h)
      rw [setGen_ne hne, hH'.2 g' (gf₃ g' h), setGen_ne hne]⟩
    have hI₄ : (s''.setGen g .running).heap.IsGen IG gi := by
      obtain ⟨o, nm, qn, e, r⟩ := hI₁
      have hne : IG ≠ env.locals := fun q => by
        obtain ⟨m, ⟨oL, es, ep, eL, hdL, _⟩, _⟩ := M₁.fr
        rw [← q, e] at eL; cases eL; rw [r.2.1] at hdL; cases hdL
      have e2 : h₂.get? IG = some o := hsb.extBut _ _ hne e
      have e3 : s₃.heap.get? IG = some o := m₃.1.heap _ o e2 (.inl id) hIP
      refine ⟨o, nm, qn, hH'.1 _ _ ?_ e3, r⟩
      rcases hIo₁ with h | ⟨h, _⟩
      · exact .inl h
      · exact .inr ⟨h, o, e3⟩
    have hXn₁ : ¬ FPn FPi s s₁ xb := fun h => by
      rcases h with h | ⟨h, _⟩
      · exact hXn h
      · rw [h] at hX; cases hX
    have hX₃ : s₃.heap.get? xb = some xo := m₃.1.heap _ _ (hsb.extBut _ _ hXL (m₁.heap _ _ hX (.inl hXn) hXP)) (.inl id) hXP
    have hXo₃ : FPn FP s₀ s₃ xb := by
      rcases hXo with h | ⟨h, _⟩
      · exact .inl h
      · exact .inr ⟨h, _, hX₃⟩
    refine ih A' (FPn FP s₀ s₃) (FPn FPi s s₁) (GFn GF s₀ s₃) (GFn GFi s s₁) s'' _ IG gi hA' M₄ (Gi₃.hold H₄) hI₄ hIn₁ ?_ hL₁ (fun b h => .inl (fp₃ b h)) (fun g' h => .inl (gf₃ g' h)) hgi₁ (hH'.1 _ _ hXo₃ hX₃) (.inl hXo₃) hXn₁ (fun t h => hpt t (List.mem_cons_of_mem _ h))
    rcases hIo₁ with h | ⟨h, _⟩
    · exact .inl (.inl h)
    · obtain ⟨o, nm, qn, e, r⟩ := hI₁
      have hne : IG ≠ env.locals := fun q => by
        obtain ⟨m, ⟨oL, es, ep, eL, hdL, _⟩, _⟩ := M₁.fr
        rw [← q, e] at eL; cases eL; rw [r.2.1] at hdL; cases hdL
      exact .inl (.inr ⟨h, o, m₃.1.heap _ o (hsb.extBut _ _ hne e) (.inl id) hIP⟩)
end
end Mine

namespace Mine
open PySem PySem.Calls PyProof.Rows PyProof.V PySem.SeqAt PySem.W.X

theorem GA.over {k : Nat} {A : Around} {c : Code} {fs : List Frame} (h : GA (k + 1) A) (hm : ∀ o, (marksOver fs (o, o)).1 = o) (hd : frameCount (fs.map Frame.where_) + c.weight ≤ 1) (hu : unitsOf (fs.map Frame.where_) + c.cUnits ≤ 10) : GA k (A.over c fs) :=
  ⟨by show (marksOver fs (A.handled, A.handled)).1 = none; rw [hm]; exact h.handled, by have := h.depth; show A.depth + frameCount (fs.map Frame.where_) + c.weight + k ≤ 900; omega,
    by have := h.units; show A.units + unitsOf (fs.map Frame.where_) + c.cUnits + 10 * k ≤ 9000; omega⟩

section
variable {prog : Program} {w : World} {c : Base prog w}

theorem range2_iter (hc : c.Ok) {sc : Scope} {G : List Str} {k : Nat} {x : Str} {e e' : Expr} {g : List X → Option (List T)} {p pos : Pos} (hg : GlobIs c x (.type "range"))
    (hk : sc.names.lookup x = some .globalImplicit) (hd : (x == ("__debug__" : Str)) = false) (ha : EvL c sc G k [e, e'] g)
    (he : ∀ env, starEach [e, e'] env = (false, eval e env) :: starEach [e'] env) (hs : NoStar [e'])
    {A : Around} {E : Value → Shared → Prop} {s : Shared} {env : Env} {r : List X} {Z : Addr → Prop} {lo hi : Int} (hA : GA k A) (hE : EnvI sc env) (hx : Gd c s.heap) (hZ : Live Z s.heap) (hF : FrE c Z s.heap env G r) (ht : g r = some [.i lo, .i hi]) (hb : lo.natAbs ≤ 100000 ∧ hi.natAbs ≤ 100000) :
    wpAny (model prog w) A (eval (.Call (.Name x p) [e, e'] [] pos) env) (fun xv s₁ => wpAny (model prog w) A (pyIter xv) (fun it s₂ => ∃ I, it = .ref I ∧ Kp s s₂ ∧ s.heap.get? I = none ∧ IsRangeIter s₂.heap I lo ((hi - lo).toNat : Int) 1) E s₁) E s := by
  refine Call_ (load_glob hc hE hx hg hk ?_ hd)
  refine callWith_plain (c := c) (.t "range") (he env) (hs env pos) (wpAny_mono (ha.go A env s r _ E Z hA hE hx hZ hF ht pos) (fun vs s₁ ⟨k₁, r₁⟩ => ⟨ext_sub hx k₁.sub, ?_⟩) fun _ _ y => y)
  obtain ⟨v, vr, rfl, ⟨kz, rfl⟩, r₂⟩ := r₁
  obtain ⟨v', rfl, kz', rfl⟩ := reps_one r₂
  refine call_range_2 ?_
  have hsz : Builtin.Range.rangeSize lo hi 1 = ((hi - lo).toNat : Int) := by rw [rangeSize_one]; split <;> omega
  refine wpAny_pyIter_range (IsRange.new ..) (small_one (by omega) (by omega) (by omega) (by omega)) ?_
  refine ⟨_, rfl, (k₁.trans (Kp.mk' (sub_push _ _))).trans (Kp.mk' (sub_push _ _)), ?_, ?_⟩
  · cases q : s.heap.get? (s₁.heap.push { cls := .type "range", data := .fields #[.int lo kz, .int hi kz', .int 1 s₁.toks] }).objs.size with
    | none => rfl
    | some o =>
      have := sub_push s₁.heap { cls := .type "range", data := .fields #[.int lo kz, .int hi kz', .int 1 s₁.toks] } _ _ (k₁.sub _ _ q)
      rw [get_size] at this; cases this
  · rw [← hsz]; exact Heap.get?_push_size _ rfl

def combsF (low : Int) : Nat → Nat → List (List Int)
  | _, 0 => [[]]
  | 0, _ + 1 => []
  | n + 1, many + 1 => (combsF (low + 1) n many).map (low :: ·) ++ combsF (low + 1) n (many + 1)
def tupI (l : List Int) : T := .t (l.map .i)
/-- what a call of the def gives -/
def CombOk (c : Base prog w) (fa : Addr) (K many : Nat) : Prop := ∀ (A : Around) (s : Shared) (low : Int) (n : Nat) (t1 t2 t3 : Tok) (Z : Addr → Prop) (E : Value → Shared → Prop), GA (K + 1) A → Gd c s.heap → Live Z s.heap → 0 ≤ low → low + n ≤ 100 →
  wpAny (model prog w) A (call (.ref fa) [.int low t1, .int (low + n) t2, .int many t3]) (fun v s' => ∃ I gi FPi, v = .ref I ∧ Mvd c (fun _ => False) (fun _ => False) s s' ∧ gi = s.gens.size ∧ s'.gens.size = gi + 1 ∧ s'.heap.IsGen I gi ∧ s.heap.get? I = none ∧ ¬ FPi I ∧
    (∀ b, FPi b → s.heap.get? b = none ∧ ∃ o, s'.heap.get? b = some o) ∧ Go c K Z gi ((combsF low n many).map tupI) FPi (fun g => g = gi) s') E s
end
end Mine

namespace Mine
open PySem PySem.Calls PyProof.Rows PyProof.V PySem.SeqAt PySem.W.X

theorem combsF_none {low : Int} : ∀ {n many : Nat}, n < many → combsF low n many = [] := by
  intro n
  induction n generalizing low with
  | zero => intro many h; cases many with | zero => omega | succ m => rfl
  | succ n ih =>
    intro many h
    cases many with
    | zero => omega
    | succ m =>
      show (combsF (low + 1) n m).map (low :: ·) ++ combsF (low + 1) n (m + 1) = []
      rw [ih (by omega), ih (by omega)]; rfl
/-- a row with one more int ahead -/
def consI (z : Int) (t : T) : T := match t with
  | .t l => .t (.i z :: l)
  | t => t
theorem consI_map (z : Int) (L : List (List Int)) : (L.map tupI).map (consI z) = (L.map (z :: ·)).map tupI := by
  simp only [List.map_map]
  rfl

section
variable {prog : Program} {w : World} {c : Base prog w}

/-- a generator just woken for the first time -/
theorem Me.first {g : Nat} {Z : Addr → Prop} {s s' s₂ : Shared} {env : Env} {sc : Scope} {names : List Str} {G : List Str} {vs : List Value} {ts : List T} {gs : GenState} (hE : EnvI sc env) (hI : GenI sc names) (hG : ∀ i, i < names.length → G[i]? = names[i]?) (hx : Gd c s₂.heap) (hZ : Live Z s₂.heap) (hZs : Live Z s.heap) (hxs : Gd c s.heap) (hL : s.heap.get? env.locals = none)
    (hn : s'.heap.Ns env.locals (fun y => (names.zip vs).reverse.lookup y)) (hlen : vs.length = names.length) (hts : ∀ (i : Nat) t, ts[i]? = some t → ∃ z k, t = .i z ∧ vs[i]? = some (.int z k)) (hg : s'.gens[g]? = some gs) (hH : Hold (fun b => b = env.locals) (fun g' => g' = g) s' s₂) :
    Me c g Z (fun b => b = env.locals) (fun g' => g' = g) (fun _ => False) s₂ (s₂.setGen g .running) env G (mapP ts) := by
  have hgl : g < s₂.gens.size := by
    have := (hH.2 g rfl).trans hg
    rcases Nat.lt_or_ge g s₂.gens.size with h | h
    · exact h
    · rw [Array.getElem?_eq_none h] at this; cases this
  have hk : ∀ x, env.kindOf x = sc.names.lookup x := hE.kindOf
  refine { m := ⟨rfl, rfl, fun b o e _ _ => e, hx, fun _ _ _ => rfl, Nat.le_refl _, fun b o e => ⟨o, e⟩⟩, g1 := rfl, g2 := hgl, loc := .inl rfl, fz := fun b hb z => ?_, lz := hZ, fin := fun g' h hne _ => ?_, fr := ?_, nc := fun x => ?_, gr := fun g' h => by rw [h]; exact hgl, fp := fun h => ?_, pl := let ⟨o, e, _⟩ := hx.2; ⟨o, e⟩ }
  · subst hb
    obtain ⟨o, e⟩ := hZs _ z
    rw [hL] at e; cases e
  · rcases h with h | ⟨h, h'⟩
    · exact absurd h hne
    · rw [setGen_size] at h'; exact absurd h' (Nat.not_lt.mpr h)
  · refine ⟨_, hn.at' fun o e => hH.1 _ o rfl e, fun i x hi hu => ?_⟩
    obtain ⟨t, ht, e⟩ := nth_mapP hu
    rw [e]
    obtain ⟨z, k, rfl, hv⟩ := hts i t ht
    have hlt : i < names.length := by rw [← hlen]; exact (List.getElem?_eq_some_iff.mp hv).1
    have hyn : names[i]? = some x := by rw [← hG i hlt]; exact hi
    exact ⟨_, .inl ⟨(hk x).trans (hI.pars x (List.mem_of_getElem? hyn)), lookup_zip hI.nodup hlen hyn hv⟩, k, rfl⟩
  · rw [hk]
    exact ⟨fun h => hI.cell _ (mem_lookup h) rfl, fun h => hI.free _ (mem_lookup h) rfl⟩
  · obtain ⟨o, e, _⟩ := hxs.2
    rw [h, hL] at e; cases e

theorem sx_ret_none {A : Around} {cc : Code} {fs : List Frame} {P : End → Shared → Prop} {s : Shared} {env : Env} {pos : Pos} {K : Flow → Sem Fin} {H : Value → Sem Fin} {gd lv} (h : SegX (model prog w) A cc (K (.ret .none)) fs s P) : SegX (model prog w) A cc ((exec (.Return none pos) env).wrap K H gd lv) fs s P :=
  sx_wrap (wpAny_Return_none h)

theorem comb_zero (hc : c.Ok) {x : Str} {params : Arguments} {sc : Scope} {G : List Str} {fa : Addr} {o : Obj} {pm cd doc : Value} {names : List Str} {test e0 : Expr} {yp0 pp0 rp ip : Pos} {rest : List Stmt} {K : Nat} {ft : List X → Option Bool} {f0 : List X → Option T}
    (F : FnAt c x params (.If test [.Expr (.Yield (some e0) yp0) pp0, .Return none rp] [] ip :: rest) sc fa o pm cd doc) (hI : GenI sc names) (hn : names.length = 3) (hG : ∀ i, i < names.length → G[i]? = names[i]?)
    (hbind : ∀ vs : List Value, vs.length = 3 → bindArgs (docDef x params (.If test [.Expr (.Yield (some e0) yp0) pp0, .Return none rp] [] ip :: rest) sc pm cd doc) ⟨vs, []⟩ = pure (names.zip vs))
    (hT : EvB c sc G K test ft) (h0 : Ev c sc G K e0 f0) (hft : ∀ low hi : Int, ft [.p (.i low), .p (.i hi), .p (.i 0)] = some true) (hf0 : ∀ low hi : Int, f0 [.p (.i low), .p (.i hi), .p (.i 0)] = some (.t []))
    (hnl : ∀ y, c.mg y ≠ none → True) : CombOk c fa (K + 1) 0 := by
  intro A s low n t1 t2 t3 Z E hA hx hZ hlo hhi
  refine call_genfn hc F hI hx hA.room (hbind _ rfl) fun I L g env h' tk hg hL hE hcd keep hLn hIn hIL hgen hns => ?_
  subst hL
  have hxs' : Gd c h' := ext_sub hx keep
  have hge : (s.gens.push (GenState.fresh (.func (.If test [.Expr (.Yield (some e0) yp0) pp0, .Return none rp] [] ip :: rest) env)))[g]? = some (.fresh (.func (.If test [.Expr (.Yield (some e0) yp0) pp0, .Return none rp] [] ip :: rest) env)) := by rw [hg]; exact Array.getElem?_push_size ..
  refine ⟨I, g, fun b => b = env.locals, rfl, ⟨rfl, rfl, fun b o e _ _ => keep b o e, hxs', fun g' _ h => ?_, by simp, fun b o e => ⟨o, keep b o e⟩⟩, hg, by rw [hg]; simp, hgen, hIn, hIL, fun b hb => ?_, ?_⟩
  · show (s.gens.push _)[g']? = _
    rw [Array.getElem?_push, if_neg (Nat.ne_of_lt h)]
  · subst hb
    exact ⟨hLn, by obtain ⟨o, _, _, e, _⟩ := hns; exact ⟨o, e⟩⟩
  · refine go_mk rfl hge (.inl ⟨rfl, rfl, rfl⟩) fun A' s₂ hA' hx₂ hZ₂ hH => ?_
    have M : Me c g Z (fun b => b = env.locals) (fun g' => g' = g) (fun _ => False) s₂ (s₂.setGen g .running) env G (mapP [.i low, .i (low + n), .i 0]) :=
      Me.first (gs := .fresh (.func (.If test [.Expr (.Yield (some e0) yp0) pp0, .Return none rp] [] ip :: rest) env)) (s := s) hE hI hG hx₂ hZ₂ hZ hx hLn hns (by rw [hn]; rfl) (fun i t ht => by
        match i, ht with
        | 0, ht => cases ht; exact ⟨_, _, rfl, rfl⟩
        | 1, ht => cases ht; exact ⟨_, _, rfl, rfl⟩
        | 2, ht => cases ht; exact ⟨_, _, rfl, rfl⟩) hge hH
    have hAo : GA K (A'.over (.func (.If test [.Expr (.Yield (some e0) yp0) pp0, .Return none rp] [] ip :: rest) env) []) := hA'.over (fun o => rfl) (by show 0 + 1 ≤ 1; decide) (by show 0 + 3 ≤ 10; decide)
    refine sx_func (sx_execs_cons (sx_If (wpAny_mono (hT.go _ env _ _ true _ Z hAo hE M.m.gd M.live M.read (hft low (low + n))) (fun v s₃ p => ?_) fun _ _ y => y)))
    obtain ⟨rfl, k₃⟩ := p
    have M₃ := M.step0 (Mvd0.kp M.m.gd k₃) (fun i kv h => by rcases nth_mapP_p (l := [.i low, .i (low + n), .i 0]) (i := i) with ⟨t, q⟩ | q <;> rw [q] at h <;> cases h) (fun _ h => h.elim)
    refine sx_execs_cons (sx_Yield rfl rfl rfl (wpAny_mono (h0.go _ env _ _ _ _ Z hAo hE M₃.m.gd M₃.live M₃.read (hf0 low (low + n))) (fun v s₄ p => ?_) fun _ _ y => y) (by rw [hE.scope]; exact hI.co) (by unfold interactive; rw [hE.fn]; rfl))
    obtain ⟨k₄, r₄⟩ := p
    have M₄ := M₃.step0 (Mvd0.kp M₃.m.gd k₄) (fun i kv h => by rcases nth_mapP_p (l := [.i low, .i (low + n), .i 0]) (i := i) with ⟨t, q⟩ | q <;> rw [q] at h <;> cases h) (fun _ h => h.elim)
    intro kk l p hk
    have hgl : g < s₄.gens.size := by
      have := M₄.m.size
      rw [setGen_size] at this
      exact Nat.lt_of_lt_of_le M₄.g2 this
    rw [show combsF low n 0 = [[]] from by cases n <;> rfl]
    show GPost c (K + 1) Z g [.t []] _ _ s₂ _ s₄
    refine ⟨v, l, kk, p, _, _, rfl, rfl, M₄.m, r₄, go_mk (.inl rfl) (setGen_at hgl) (.inr ⟨kk, l, p, false, rfl, rfl⟩) fun A₅ s₅ hA₅ hx₅ hZ₅ hH₅ => ?_⟩
    rw [hk]
    refine sx_execs_cons (sx_ret_none ?_)
    have M₅ := M₄.again hx₅ hZ₅ hH₅ (fun i kv h => by rcases nth_mapP_p (l := [.i low, .i (low + n), .i 0]) (i := i) with ⟨t, q⟩ | q <;> rw [q] at h <;> cases h)
    refine s_end prog w A₅ _ _ _ (.ok (.ret .none)) _ rfl ⟨rfl, M₅.m, fun g' h hne => M₅.fin g' h hne id⟩
end
end Mine

namespace Mine
open PySem PySem.Calls PyProof.Rows PyProof.V PySem.SeqAt PySem.W.X

section
variable {prog : Program} {w : World} {c : Base prog w}

theorem range_end_sub {A : Around} {E : Value → Shared → Prop} {s : Shared} {it : Addr} {x left step : Int} {Q : Option Value → Shared → Prop} (hh : A.handled = none) (hit : IsRangeIter s.heap it x left step) (hleft : left ≤ 0)
    (hQ : ∀ h', Sub s.heap h' → Q none { s with heap := h' }) : wpAny (model prog w) A (pyNext (.ref it)) Q E s := by
  have hT : s.TypeIs (.ref it) "range_iterator" := ⟨_, hit, rfl⟩
  unfold pyNext
  refine wpAny_bind (wpAny_attempt (wpAny_callSpecial?_slot (name := Str.ofString "__next__") hT PySem.F.slot_range_iterator_next
    (wpAny_call_entry PySem.F.slot_range_iterator_next hT PySem.F.entry_range_iterator_next ?_ (PySem.F.args_range_iterator_next_1 _))))
  show wpAny _ _ (field (.ref it) 0 >>= _) _ _ s
  refine wpAny_bind (wpAny_field hit rfl (x := rawInt x) rfl ?_)
  show wpAny _ _ (field (.ref it) 1 >>= _) _ _ s
  refine wpAny_bind (wpAny_field hit rfl (x := rawInt left) rfl ?_)
  show wpAny _ _ (field (.ref it) 2 >>= _) _ _ s
  refine wpAny_bind (wpAny_field hit rfl (x := rawInt step) rfl ?_)
  show wpAny _ _ (if left ≤ 0 then _ else _) _ _ s
  rw [if_pos hleft]
  refine wpAny_bind (wpAny_rule (wpAny_bind ?_))
  show wpAny _ _ (newExc (.type "StopIteration") [] >>= _) _ _ _
  refine wpAny_bind ?_
  simp only [newExc, newTuple]
  refine wpAny_bind (wpAny_newObj_type ?_ (by size_fits))
  refine wpAny_bind (m := firstArgMember _ _) (wpAny_of_eq (a := Value.none) (by first | rfl | (simp only [firstArgMember]; rfl)) ?_)
  refine wpAny_newObj_type ?_ (by size_fits)
  simp only [raiseNew]
  refine wpAny_bind (wpAny_handled ?_)
  first | rw [show A.in1.handled = none from hh] | rw [hh]
  refine wpAny_bind (wpAny_pure (wpAny_throw ?_))
  refine wpAny_bind (wpAny_isInstance (T := "StopIteration") (b := true) ⟨_, Heap.get?_push_size _ rfl, rfl⟩ isSubtype_stop ?_)
  exact wpAny_pure (hQ _ ((sub_push _ _).trans (sub_push _ _)))

theorem combsF_len : ∀ {n many : Nat} {low : Int} {l : List Int}, l ∈ combsF low n many → l.length = many := by
  intro n
  induction n with
  | zero =>
    intro many low l h
    cases many with
    | zero => have : l = [] := by simpa [combsF] using h
              subst this; rfl
    | succ m => simp [combsF] at h
  | succ n ih =>
    intro many low l h
    cases many with
    | zero => have : l = [] := by simpa [combsF] using h
              subst this; rfl
    | succ m =>
      rcases List.mem_append.mp (show l ∈ (combsF (low + 1) n m).map (low :: ·) ++ combsF (low + 1) n (m + 1) from h) with h | h
      · obtain ⟨l', h', rfl⟩ := List.mem_map.mp h
        simp [ih h']
      · exact ih h
theorem Me.forget {g : Nat} {Z : Addr → Prop} {FP : Addr → Prop} {GF Act : Nat → Prop} {s₀ s : Shared} {env : Env} {G : List Str} {r r' : List X} (M : Me c g Z FP GF Act s₀ s env G r) (h : ∀ i, nth r' i = nth r i ∨ nth r' i = .u) : Me c g Z FP GF Act s₀ s env G r' := by
  have hfr : FrE c (zo FP s₀ s) s.heap env G r' := by
    obtain ⟨m, hn, hx⟩ := M.fr
    refine ⟨m, hn, fun i x hi hu => ?_⟩
    rcases h i with e | e
    · rw [e] at hu ⊢; exact hx i x hi hu
    · exact absurd e hu
  exact { M with fr := hfr }

theorem comb_succ (hc : c.Ok) {x x1 x2 rn : Str} {params : Arguments} {sc : Scope} {G : List Str} {fa : Addr} {o : Obj} {pm cd doc : Value} {names : List Str} {test e0 a1 a2 b1 b2 b3 ey : Expr} {yp0 pp0 rp ip p1 rp1 rc p2 np cp yp pp fp2 fp1 : Pos} {Km m : Nat}
    {ft : List X → Option Bool} {gR gB : List X → Option (List T)} {fY : List X → Option T}
    (F : FnAt c x params [.If test [.Expr (.Yield (some e0) yp0) pp0, .Return none rp] [] ip, .For (.Name x1 p1) (.Call (.Name rn rp1) [a1, a2] [] rc) [.For (.Name x2 p2) (.Call (.Name x np) [b1, b2, b3] [] cp) [.Expr (.Yield (some ey) yp) pp] [] fp2] [] fp1] sc fa o pm cd doc)
    (hI : GenI sc names) (hn : names.length = 3) (hG : ∀ i, i < names.length → G[i]? = names[i]?)
    (hbind : ∀ vs : List Value, vs.length = 3 → bindArgs (docDef x params [.If test [.Expr (.Yield (some e0) yp0) pp0, .Return none rp] [] ip, .For (.Name x1 p1) (.Call (.Name rn rp1) [a1, a2] [] rc) [.For (.Name x2 p2) (.Call (.Name x np) [b1, b2, b3] [] cp) [.Expr (.Yield (some ey) yp) pp] [] fp2] [] fp1] sc pm cd doc) ⟨vs, []⟩ = pure (names.zip vs))
    (hT : EvB c sc G (Km + 1) test ft) (hft : ∀ low hi : Int, ft [.p (.i low), .p (.i hi), .p (.i ((m + 1 : Nat) : Int))] = some false)
    (hgR : GlobIs c rn (.type "range")) (hkR : sc.names.lookup rn = some .globalImplicit) (hdR : (rn == ("__debug__" : Str)) = false) (haR : EvL c sc G (Km + 1) [a1, a2] gR) (huR : unstar a1 = true ∧ unstar a2 = true)
    (hfR : ∀ low hi : Int, gR [.p (.i low), .p (.i hi), .p (.i ((m + 1 : Nat) : Int))] = some [.i low, .i (hi - ((m + 1 : Nat) : Int) + 1)])
    (hkB : sc.names.lookup x = some .globalImplicit) (hdB : (x == ("__debug__" : Str)) = false) (haB : EvL c sc G (Km + 1) [b1, b2, b3] gB) (huB : unstar b1 = true ∧ unstar b2 = true ∧ unstar b3 = true)
    (hfB : ∀ low hi f : Int, gB [.p (.i low), .p (.i hi), .p (.i ((m + 1 : Nat) : Int)), .p (.i f)] = some [.i (f + 1), .i hi, .i (((m + 1 : Nat) : Int) - 1)])
    (hY : Ev c sc G (Km + 1) ey fY) (hfY : ∀ (low hi f : Int) (l : List Int), l.length ≤ 900 → fY [.p (.i low), .p (.i hi), .p (.i ((m + 1 : Nat) : Int)), .p (.i f), .p (tupI l)] = some (consI f (tupI l)))
    (hj1 : G[3]? = some x1) (hu1 : ∀ i, G[i]? = some x1 → i = 3) (hk1 : sc.names.lookup x1 = some .local) (hj2 : G[4]? = some x2) (hu2 : ∀ i, G[i]? = some x2 → i = 4) (hk2 : sc.names.lookup x2 = some .local)
    (hsR : ∀ (env : Env) (v : Value), foldedSetIterable (.Call (.Name rn rp1) [a1, a2] [] rc) env v = pure v) (hsB : ∀ (env : Env) (v : Value), foldedSetIterable (.Call (.Name x np) [b1, b2, b3] [] cp) env v = pure v)
    (hm : m ≤ 900) (IH : CombOk c fa Km m) : CombOk c fa (Km + 2) (m + 1) := by
  intro A s low n t1 t2 t3 Z E hA hx hZ hlo hhi
  refine call_genfn hc F hI hx hA.room (hbind _ rfl) fun I L g env h' tk hg hL hE hcd keep hLn hIn hIL hgen hns => ?_
  subst hL
  have hxs' : Gd c h' := ext_sub hx keep
  generalize hbody : [Stmt.If test [.Expr (.Yield (some e0) yp0) pp0, .Return none rp] [] ip, .For (.Name x1 p1) (.Call (.Name rn rp1) [a1, a2] [] rc) [.For (.Name x2 p2) (.Call (.Name x np) [b1, b2, b3] [] cp) [.Expr (.Yield (some ey) yp) pp] [] fp2] [] fp1] = body
  have hge : (s.gens.push (GenState.fresh (.func body env)))[g]? = some (.fresh (.func body env)) := by rw [hg]; exact Array.getElem?_push_size ..
  refine ⟨I, g, fun b => b = env.locals, rfl, ⟨rfl, rfl, fun b o e _ _ => keep b o e, hxs', fun g' _ h => ?_, by simp, fun b o e => ⟨o, keep b o e⟩⟩, hg, by rw [hg]; simp, hgen, hIn, hIL, fun b hb => ?_, ?_⟩
  · show (s.gens.push _)[g']? = _
    rw [Array.getElem?_push, if_neg (Nat.ne_of_lt h)]
  · subst hb
    exact ⟨hLn, by obtain ⟨o, _, _, e, _⟩ := hns; exact ⟨o, e⟩⟩
  have hL0 : ∀ o, c.h₀.get? env.locals = some o → False := fun o e => by
    by_cases q : env.locals = c.P
    · obtain ⟨o', e', _⟩ := hx.2; rw [← q, hLn] at e'; cases e'
    · have := hx.1 _ o q e; rw [hLn] at this; cases this
  have hY' : ∀ (f : Int) (A : Around) (s : Shared) (t : T) (E : Value → Shared → Prop), (∃ l, t = tupI l ∧ l.length ≤ 900) → GA (Km + 1) A → Gd c s.heap → Live Z s.heap → FrE c Z s.heap env G (setN [.p (.i low), .p (.i (low + n)), .p (.i ((m + 1 : Nat) : Int)), .p (.i f)] 4 (.p t)) →
      wpAny (model prog w) A (eval ey env) (fun v s' => Mvd0 c s s' ∧ Rep ⟨c.a, Z⟩ s'.heap (consI f t) v) E s := by
    rintro f A s _ E ⟨l, rfl, hll⟩ hA hx hZ hF
    exact wpAny_mono (hY.go A env s _ _ E Z hA hE hx hZ hF (hfY low (low + n) f l hll)) (fun v s' p => ⟨Mvd0.kp hx p.1, p.2⟩) fun _ _ y => y
  -- the outer loop
  have outer : ∀ (n' : Nat) (low' : Int) (A₁ : Around) (FP : Addr → Prop) (GF : Nat → Prop) (s₀ s₁ : Shared) (RI : Addr) (kk : Result → Sem Fin) (lv : List Value) (pO : Pos), (∀ (A : Around) (s : Shared) (P : End → Shared → Prop), P (.ret (.ok (.ret .none))) s → SegX (model prog w) A (.func body env) (kk (.ok .next)) [] s P) →
      GA (Km + 2) A₁ → Me c g Z FP GF (fun _ => False) s₀ s₁ env G [.p (.i low), .p (.i (low + n)), .p (.i ((m + 1 : Nat) : Int))] → IsRangeIter s₁.heap RI low' ((n' - m : Nat) : Int) 1 → FPn FP s₀ s₁ RI → RI ≠ env.locals → (∀ o, c.h₀.get? RI = some o → False) → low' + n' = low + n → 0 ≤ low' →
      SegX (model prog w) A₁ (.forLoop (.Name x1 p1) (.ref RI) [.For (.Name x2 p2) (.Call (.Name x np) [b1, b2, b3] [] cp) [.Expr (.Yield (some ey) yp) pp] [] fp2] [] env) (denote table (.forLoop (.Name x1 p1) (.ref RI) [.For (.Name x2 p2) (.Call (.Name x np) [b1, b2, b3] [] cp) [.Expr (.Yield (some ey) yp) pp] [] fp2] [] env))
        [.ret kk none false lv (.func body env) pO []] s₁ (GPost c (Km + 2) Z g ((combsF low' n' (m + 1)).map tupI) FP GF s₀) := by
    intro n'
    induction n' with
    | zero =>
      intro low' A₁ FP GF s₀ s₁ RI kk lv pO hkk hA₁ M hRI hRo hRL hR0 hsum hl0
      have hAo : GA (Km + 1) (A₁.over (.forLoop (.Name x1 p1) (.ref RI) [.For (.Name x2 p2) (.Call (.Name x np) [b1, b2, b3] [] cp) [.Expr (.Yield (some ey) yp) pp] [] fp2] [] env) [.ret kk none false lv (.func body env) pO []]) := hA₁.over (fun o => rfl) (by show 1 + 0 + 0 ≤ 1; decide) (by show 3 + 0 + 0 ≤ 10; decide)
      refine sx_forLoop (range_end_sub hAo.handled hRI (by omega) fun h₂ hs₂ => ?_)
      have M₂ := M.step0 (Mvd0.kp M.m.gd (Kp.mk' (tk := s₁.toks) hs₂)) (fun i kv h => by rcases i with _ | _ | _ | i <;> cases h) (fun _ h => h.elim)
      refine sx_block_nil (hkk _ _ _ ?_)
      exact ⟨rfl, M₂.m, fun g' h hne => M₂.fin g' h hne id⟩
    | succ n'' ih =>
      intro low' A₁ FP GF s₀ s₁ RI kk lv pO hkk hA₁ M hRI hRo hRL hR0 hsum hl0
      have hAo : GA (Km + 1) (A₁.over (.forLoop (.Name x1 p1) (.ref RI) [.For (.Name x2 p2) (.Call (.Name x np) [b1, b2, b3] [] cp) [.Expr (.Yield (some ey) yp) pp] [] fp2] [] env) [.ret kk none false lv (.func body env) pO []]) := hA₁.over (fun o => rfl) (by show 1 + 0 + 0 ≤ 1; decide) (by show 3 + 0 + 0 ≤ 10; decide)
      have nd3 : ∀ i kv, nth [X.p (.i low), .p (.i (low + n)), .p (.i ((m + 1 : Nat) : Int))] i ≠ .d kv := fun i kv h => by rcases i with _ | _ | _ | i <;> cases h
      by_cases hq : n'' + 1 - m = 0
      · refine sx_forLoop (range_end_sub hAo.handled hRI (by omega) fun h₂ hs₂ => ?_)
        have M₂ := M.step0 (Mvd0.kp M.m.gd (Kp.mk' (tk := s₁.toks) hs₂)) nd3 (fun _ h => h.elim)
        refine sx_block_nil (hkk _ _ _ ?_)
        rw [combsF_none (by omega)]
        exact ⟨rfl, M₂.m, fun g' h hne => M₂.fin g' h hne id⟩
      · refine sx_forLoop (wpAny_pyNext_range_item hRI (by omega) fun h₂ hRI₂ hs₂ => ?_)
        replace hs₂ : Heap.SameBut RI s₁.heap h₂ := hs₂
        have hRP : RI ≠ c.P := fun q => M.notP (q ▸ hRo)
        have m₂ : Mvd c (fun b => b = RI) (fun _ => False) s₁ { s₁ with heap := h₂, toks := s₁.toks + 1 } := mvd_same M.m.gd hs₂ rfl hRP hR0 (fun o e => by rw [hRI] at e; cases e; exact notSeq_fields) ⟨_, hRI₂⟩
        have M₂ : Me c g Z FP GF (fun _ => False) s₀ { s₁ with heap := h₂, toks := s₁.toks + 1 } env G [.p (.i low), .p (.i (low + n)), .p (.i ((m + 1 : Nat) : Int))] := M.step m₂ (fun b h => by subst h; exact hRo) (fun _ h => h.elim) (fun h => hRL h.symm) nd3 id (fun q => M.notP (q ▸ M.loc)) fun g' h hne _ h1 => by
          rcases h1 with h1 | h1 | h1
          · exact h1.elim
          · exfalso
            rcases h with h | ⟨_, h⟩
            · have := M.m.size; rw [setGen_size] at this; exact absurd (Nat.lt_of_lt_of_le (M.gr _ h) this) (Nat.not_lt.mpr h1)
            · exact absurd h (Nat.not_lt.mpr h1)
          · exact h1.elim
        refine wpAny_of_eq (show letOwnedTupleGo (.Name x1 p1) (.ref RI) _ = pure () from rfl) ?_
        refine wpAny_assign_Name (wpAny_mono (M₂.store (t := .i low') hE hj1 hu1 hk1 ⟨_, rfl⟩ nd3 (fun q => M.notP (q ▸ M.loc)) hL0) (fun _ s₃ hs₃ => ?_) fun _ _ y => y)
        obtain ⟨h₃, tk₃, rfl, hsb, _, _, M₃⟩ := hs₃
        have M₃ : Me c g Z FP GF (fun _ => False) s₀ _ env G [.p (.i low), .p (.i (low + n)), .p (.i ((m + 1 : Nat) : Int)), .p (.i low')] := M₃ ⟨_, rfl⟩
        have nd4 : ∀ i kv, nth [X.p (.i low), .p (.i (low + n)), .p (.i ((m + 1 : Nat) : Int)), .p (.i low')] i ≠ .d kv := fun i kv h => by rcases i with _ | _ | _ | _ | i <;> cases h
        have hRI₃ : IsRangeIter h₃ RI (low' + 1) (((n'' + 1 - m : Nat) : Int) - 1) 1 := hsb.extBut _ _ hRL hRI₂
        refine sx_execs_cons (sx_For ?_ (hsB env))
        refine Call_ (load_glob hc hE M₃.m.gd F.glob hkB ?_ hdB)
        refine callWith_plain (c := c) F.plain (star_cons huB.1 env) (noStar_two huB.2.1 huB.2.2 env cp) (wpAny_mono (haB.go _ env _ _ _ _ Z hAo hE M₃.m.gd M₃.live M₃.read (hfB low (low + n) low') cp) (fun vs s₄ ⟨k₄, r₄⟩ => ⟨ext_sub M₃.m.gd k₄.sub, ?_⟩) fun _ _ y => y)
        obtain ⟨v1, vr, rfl, ⟨q1, rfl⟩, v2, vr2, rfl, ⟨q2, rfl⟩, r5⟩ := r₄
        obtain ⟨v3, rfl, q3, rfl⟩ := reps_one r5
        have M₄ := M₃.step0 (Mvd0.kp M₃.m.gd k₄) nd4 (fun _ h => h.elim)
        have hRI₄ : IsRangeIter s₄.heap RI (low' + 1) (((n'' + 1 - m : Nat) : Int) - 1) 1 := k₄.sub _ _ hRI₃
        have e2 : low + (n : Int) = (low' + 1) + (n'' : Int) := by omega
        have e3 : ((m + 1 : Nat) : Int) - 1 = (m : Int) := by omega
        rw [e2, e3]
        refine wpAny_mono (IH _ s₄ (low' + 1) n'' q1 q2 q3 Z _ hAo M₄.m.gd M₄.live (by omega) (by omega)) (fun v s₅ p => ?_) fun _ _ y => y
        obtain ⟨I', gi, FPi, rfl, m₅, hgi, hsz₅, hgen₅, hI'n, hI'F, hFPi, Go₅⟩ := p
        refine wpAny_pyIter_gen hgen₅ fun pq => ?_
        have hszs : s₀.gens.size ≤ s₄.gens.size := by have := M₄.m.size; rw [setGen_size] at this; exact this
        have M₅ : Me c g Z FP GF (fun g' => g' = gi) s₀ s₅ env G [.p (.i low), .p (.i (low + n)), .p (.i ((m + 1 : Nat) : Int)), .p (.i low')] := M₄.step m₅ (fun _ h => h.elim) (fun _ h => h.elim) id nd4 id (fun q => M.notP (q ▸ M.loc)) fun g' h hne ha h1 => by
          exfalso
          rcases h1 with h1 | h1 | h1
          · exact h1
          · rcases h with h | ⟨_, h⟩
            · exact absurd (Nat.lt_of_lt_of_le (M.gr _ h) hszs) (Nat.not_lt.mpr h1)
            · exact ha (by omega)
          · exact h1
        have hlocl : ∃ o, s₄.heap.get? env.locals = some o := by obtain ⟨mm, ⟨o, _, _, e, _⟩, _⟩ := M₄.fr; exact ⟨o, e⟩
        have new0 : ∀ b, s₄.heap.get? b = none → s₀.heap.get? b = none := fun b hb => by
          cases q : s₀.heap.get? b with
          | none => rfl
          | some o => obtain ⟨o', e'⟩ := M₄.m.live b o q; rw [hb] at e'; cases e'
        have hcomb : (combsF low' (n'' + 1) (m + 1)).map tupI = ((combsF (low' + 1) n'' m).map tupI).map (consI low') ++ (combsF (low' + 1) n'' (m + 1)).map tupI := by
          show (((combsF (low' + 1) n'' m).map (low' :: ·)) ++ combsF (low' + 1) n'' (m + 1)).map tupI = _
          rw [List.map_append, consI_map]
        rw [hcomb]
        refine gen_loop (c := c) hc (k := Km + 1) (ki := Km) (K := Km + 2) (j := 4) (r := [.p (.i low), .p (.i (low + n)), .p (.i ((m + 1 : Nat) : Int)), .p (.i low')]) (FT := consI low') (xb := RI) (xo := { cls := .type "range_iterator", dict := none, data := .fields #[rawInt (low' + 1), rawInt (((n'' + 1 - m : Nat) : Int) - 1), rawInt 1], slots := #[] }) (PT := fun t => ∃ l, t = tupI l ∧ l.length ≤ 900)
          hE hI.co hj2 hu2 hk2 nd4 hL0 (hY' low') rfl rfl (Nat.le_refl _) (fun A it h => h.over (fun o => rfl) (by show 0 + (1 + 0) + 0 ≤ 1; decide) (by show 0 + (3 + 0) + 0 ≤ 10; decide)) hRL (fun A₆ FP₆ GF₆ s₆₀ s₆ hA₆ M₆ hX₆ hXo₆ => ?_)
          _ A₁ FP FPi GF (fun g' => g' = gi) s₀ s₅ I' gi hA₁ (M₅.forget fun i => ?_) Go₅ hgen₅ hI'F (.inr ⟨new0 _ hI'n, by obtain ⟨o, _, _, e, _⟩ := hgen₅; exact ⟨o, e⟩⟩) (fun h => ?_) (fun b h => .inr ⟨new0 _ (hFPi b h).1, (hFPi b h).2⟩) (fun g' h => by subst h; exact .inr ⟨by omega, by omega⟩) (fun h => ?_) (m₅.heap _ _ hRI₄ (.inl id) hRP) ?_ (fun h => ?_) (fun t ht => ?_)
        · show SegX (model prog w) A₆ _ (.pure (.again (.forLoop (.Name x1 p1) (.ref RI) [.For (.Name x2 p2) (.Call (.Name x np) [b1, b2, b3] [] cp) [.Expr (.Yield (some ey) yp) pp] [] fp2] [] env))) _ _ _
          refine s_again prog w A₆ _ _ _ _ _ rfl ?_
          refine ih (low' + 1) A₆ FP₆ GF₆ s₆₀ s₆ RI kk lv pO hkk hA₆ (M₆.forget fun i => ?_) ?_ hXo₆ hRL hR0 (by omega) (by omega)
          · rcases i with _ | _ | _ | _ | i
            · exact .inl rfl
            · exact .inl rfl
            · exact .inl rfl
            · exact .inr rfl
            · exact .inr rfl
          · have : ((n'' + 1 - m : Nat) : Int) - 1 = ((n'' - m : Nat) : Int) := by omega
            rw [← this]; exact hX₆
        · rcases i with _ | _ | _ | _ | _ | i <;> first | exact .inl rfl | exact .inr rfl
        · obtain ⟨o, e⟩ := hlocl
          rw [(hFPi _ h).1] at e; cases e
        · have := M₄.g2
          omega
        · rcases hRo with h | ⟨h, _⟩
          · exact .inl h
          · exact .inr ⟨h, _, m₅.heap _ _ hRI₄ (.inl id) hRP⟩
        · have := (hFPi _ h).1
          rw [hRI₄] at this; cases this
        · obtain ⟨l, hl, rfl⟩ := List.mem_map.mp ht
          exact ⟨l, rfl, by rw [combsF_len hl]; exact hm⟩
  refine go_mk rfl hge (.inl ⟨rfl, rfl, rfl⟩) fun A' s₂ hA' hx₂ hZ₂ hH => ?_
  have M : Me c g Z (fun b => b = env.locals) (fun g' => g' = g) (fun _ => False) s₂ (s₂.setGen g .running) env G (mapP [.i low, .i (low + n), .i ((m + 1 : Nat) : Int)]) :=
    Me.first (gs := .fresh (.func body env)) (s := s) hE hI hG hx₂ hZ₂ hZ hx hLn hns (by rw [hn]; rfl) (fun i t ht => by
      match i, ht with
      | 0, ht => cases ht; exact ⟨_, _, rfl, rfl⟩
      | 1, ht => cases ht; exact ⟨_, _, rfl, rfl⟩
      | 2, ht => cases ht; exact ⟨_, _, rfl, rfl⟩) hge hH
  have hAo : GA (Km + 1) (A'.over (.func body env) []) := hA'.over (fun o => rfl) (by show 0 + 1 ≤ 1; decide) (by show 0 + 3 ≤ 10; decide)
  have nd3 : ∀ i kv, nth (mapP [.i low, .i (low + n), .i ((m + 1 : Nat) : Int)]) i ≠ .d kv := fun i kv h => by rcases nth_mapP_p (l := [.i low, .i (low + n), .i ((m + 1 : Nat) : Int)]) (i := i) with ⟨t, q⟩ | q <;> rw [q] at h <;> cases h
  subst hbody
  refine sx_func (sx_execs_cons (sx_If (wpAny_mono (hT.go _ env _ _ false _ Z hAo hE M.m.gd M.live M.read (hft low (low + n))) (fun v s₃ p => ?_) fun _ _ y => y)))
  obtain ⟨rfl, k₃⟩ := p
  have M₃ := M.step0 (Mvd0.kp M.m.gd k₃) nd3 (fun _ h => h.elim)
  refine sx_execs_nil ?_
  refine sx_execs_cons (sx_For ?_ (hsR env))
  refine wpAny_mono (range2_iter hc hgR hkR hdR haR (star_cons huR.1) (noStar_one huR.2) hAo hE M₃.m.gd M₃.live M₃.read (hfR low (low + n)) ⟨by omega, by omega⟩) (fun xv s₄ h => wpAny_mono h (fun it s₅ p => ?_) fun _ _ y => y) fun _ _ y => y
  obtain ⟨RI, rfl, k₅, hRn, hRI⟩ := p
  intro pq
  have M₅ := M₃.step0 (Mvd0.kp M₃.m.gd k₅) nd3 (fun _ h => h.elim)
  have hlocl : ∃ o, s₃.heap.get? env.locals = some o := by obtain ⟨mm, ⟨o, _, _, e, _⟩, _⟩ := M₃.fr; exact ⟨o, e⟩
  have hcnt : ((low + (n : Int) - ((m + 1 : Nat) : Int) + 1 - low).toNat : Int) = ((n - m : Nat) : Int) := by omega
  rw [hcnt] at hRI
  refine outer n low A' _ _ s₂ s₅ RI _ _ pq (fun A s P h => s_end prog w A _ P s (.ok (.ret .none)) _ rfl h) hA' M₅ hRI (.inr ⟨?_, _, hRI⟩) (fun q => ?_) (fun o e => ?_) rfl hlo
  · cases q : s₂.heap.get? RI with
    | none => rfl
    | some o => obtain ⟨o', e'⟩ := M₃.m.live RI o q; rw [hRn] at e'; cases e'
  · obtain ⟨o, e⟩ := hlocl; rw [q, e] at hRn; cases hRn
  · by_cases q : RI = c.P
    · obtain ⟨o', e', _⟩ := M₃.m.gd.2; rw [← q, hRn] at e'; cases e'
    · have := M₃.m.gd.1 _ o q e; rw [hRn] at this; cases this
end
end Mine

namespace Mine
open PySem PySem.Calls PyProof.Rows PyProof.V PySem.SeqAt PySem.W.X

/-! two tuples walked side by side -/
section
variable {prog : Program} {w : World} {A : Around} {E : Value → Shared → Prop} {s : Shared}

theorem tupIter_at {h h' : Heap} {a t : Addr} {i : Nat} (x : h.IsTupleIter a t i) (e : ∀ o, h.get? a = some o → h'.get? a = some o) : h'.IsTupleIter a t i := by
  obtain ⟨o, ho, r⟩ := x; exact ⟨o, e o ho, r⟩
theorem tuple_at {h h' : Heap} {a : Addr} {items : Array Value} (x : h.IsTuple a items) (e : ∀ o, h.get? a = some o → h'.get? a = some o) : h'.IsTuple a items := by
  obtain ⟨o, ho, r⟩ := x; exact ⟨o, e o ho, r⟩

theorem nextOf_tup {it l : Addr} {i : Nat} {items : Array Value} {x : Value} {Q : Value → Shared → Prop} (hit : s.heap.IsTupleIter it l i) (hl : s.heap.IsTuple l items) (hx : items[i]? = some x)
    (hQ : ∀ h', h'.IsTupleIter it l (i + 1) → Heap.SameBut it s.heap h' → Q x { s with heap := h' }) : wpAny (model prog w) A (Builtin.SmallTypes.nextOf (.ref it)) Q E s := by
  obtain ⟨o, ho, hc, hd⟩ := id hit
  obtain ⟨ol, hol, _, nl, hdl⟩ := hl
  unfold Builtin.SmallTypes.nextOf
  refine wpAny_bind (wpAny_callSpecial?_slot (name := Str.ofString "__next__") hit.typeIs PySem.F.slot_tuple_iterator_next
    (wpAny_call_entry PySem.F.slot_tuple_iterator_next hit.typeIs PySem.F.entry_tuple_iterator_next ?_ (PySem.F.args_tuple_iterator_next_1 _)))
  show wpAny _ _ (field (.ref it) 0 >>= _) _ _ s
  refine wpAny_bind (wpAny_field ho hd (x := .ref l) rfl ?_)
  show wpAny _ _ (if (Value.ref l == Value.none) = true then _ else _) _ _ s
  rw [if_neg (show ¬ ((Value.ref l == Value.none) = true) from Bool.false_ne_true)]
  show wpAny _ _ (field (.ref it) 1 >>= _) _ _ s
  refine wpAny_bind (wpAny_field ho hd (x := .int i 0) rfl ?_)
  show wpAny _ _ (seqItems? (.ref l) >>= _) _ _ s
  refine wpAny_bind (wpAny_seqItems hol hdl ?_)
  simp only [Int.toNat_natCast, hx]
  refine wpAny_bind (wpAny_setField ho hd (by simp) (wpAny_pure ⟨x, rfl, wpAny_pure (hQ _ ?_ (Heap.SameBut.update ..))⟩))
  exact ⟨_, Heap.get?_update_self _ ho (Obj.isFreed_of_fields (Obj.data_mapFields hd _)), (Obj.cls_mapFields ..).trans hc, by
    rw [Obj.data_mapFields hd]; simp [rawInt]⟩
theorem nextOf_tup_end {it l : Addr} {i : Nat} {items : Array Value} {Q : Value → Shared → Prop} (hh : A.handled = none) (hit : s.heap.IsTupleIter it l i) (hl : s.heap.IsTuple l items) (hx : items[i]? = none)
    (hE : ∀ h' e, Heap.ExtBut it s.heap h' → (∃ o, h'.get? e = some o ∧ o.cls = .type "StopIteration") → E (.ref e) { s with heap := h' }) : wpAny (model prog w) A (Builtin.SmallTypes.nextOf (.ref it)) Q E s := by
  obtain ⟨o, ho, hc, hd⟩ := id hit
  obtain ⟨ol, hol, _, nl, hdl⟩ := hl
  unfold Builtin.SmallTypes.nextOf
  refine wpAny_bind (wpAny_callSpecial?_slot (name := Str.ofString "__next__") hit.typeIs PySem.F.slot_tuple_iterator_next
    (wpAny_call_entry PySem.F.slot_tuple_iterator_next hit.typeIs PySem.F.entry_tuple_iterator_next ?_ (PySem.F.args_tuple_iterator_next_1 _)))
  show wpAny _ _ (field (.ref it) 0 >>= _) _ _ s
  refine wpAny_bind (wpAny_field ho hd (x := .ref l) rfl ?_)
  show wpAny _ _ (if (Value.ref l == Value.none) = true then _ else _) _ _ s
  rw [if_neg (show ¬ ((Value.ref l == Value.none) = true) from Bool.false_ne_true)]
  show wpAny _ _ (field (.ref it) 1 >>= _) _ _ s
  refine wpAny_bind (wpAny_field ho hd (x := .int i 0) rfl ?_)
  show wpAny _ _ (seqItems? (.ref l) >>= _) _ _ s
  refine wpAny_bind (wpAny_seqItems hol hdl ?_)
  simp only [Int.toNat_natCast, hx]
  refine wpAny_bind (wpAny_rule (wpAny_bind (wpAny_setField ho hd (by simp) ?_)))
  show wpAny _ _ (newExc (.type "StopIteration") [] >>= _) _ _ _
  refine wpAny_bind ?_
  simp only [newExc, newTuple]
  refine wpAny_bind (wpAny_newObj_type ?_ (by size_fits))
  refine wpAny_bind (m := firstArgMember _ _) (wpAny_of_eq (a := Value.none) (by first | rfl | (simp only [firstArgMember]; rfl)) ?_)
  refine wpAny_newObj_type ?_ (by size_fits)
  simp only [raiseNew]
  refine wpAny_bind (wpAny_handled ?_)
  first | rw [show A.in1.handled = none from hh] | rw [hh]
  refine wpAny_bind (wpAny_pure (wpAny_throw ?_))
  exact hE _ _ (((Heap.SameBut.update ..).extBut.push _).push _) ⟨_, Heap.get?_push_size _ rfl, rfl⟩

/-- the walk at its i-th step -/
structure ZAt (h : Heap) (z TI TO i1 i2 l1 l2 : Addr) (xs ys : Array Value) (i : Nat) (f0 : Value) : Prop where
  hz : IsZip h z TI TO f0
  ti : IsPair h TI (.ref i1) (.ref i2)
  to : ∃ a b, IsPair h TO a b
  a1 : h.IsTupleIter i1 l1 i
  a2 : h.IsTupleIter i2 l2 i
  b1 : h.IsTuple l1 xs
  b2 : h.IsTuple l2 ys

theorem zt_item {z TI TO i1 i2 l1 l2 : Addr} {k : Nat} {xs ys : Array Value} {x y : Value} {Q : Value → Shared → Prop} (D : ZipApart z TI TO i1 i2 l1 l2) (Z : ZAt s.heap z TI TO i1 i2 l1 l2 xs ys k .none) (hx : xs[k]? = some x) (hy : ys[k]? = some y)
    (hQ : ∀ h', ZAt h' z TI TO i1 i2 l1 l2 xs ys (k + 1) (rawInt s.heap.objs.size) → IsPair h' s.heap.objs.size x y → (∀ c o, c ≠ z → c ≠ TO → c ≠ i1 → c ≠ i2 → s.heap.get? c = some o → h'.get? c = some o) → Q (.ref s.heap.objs.size) { s with heap := h' }) :
    wpAny (model prog w) A (Builtin.«zip.__next__» ⟨[.ref z], []⟩) (fun fin s' => ∃ v, fin = .done (.ret v) ∧ Q v s') E s := by
  obtain ⟨hz, hTI, ⟨a, b, hTO⟩, h1, h2, hl1, hl2⟩ := Z
  have hzl := Heap.lt_size hz
  show wpAny _ _ (field (.ref z) 2 >>= _) _ _ _
  refine wpAny_bind (wpAny_field hz rfl (x := .bool false) rfl ?_)
  show wpAny _ _ (field (.ref z) 3 >>= _) _ _ _
  refine wpAny_bind (wpAny_field hz rfl (x := .ref TI) rfl (wpAny_bind (wpAny_seqItems hTI rfl ?_)))
  show wpAny _ _ (Builtin.SmallTypes.ownedTupleIsFree (.ref z) >>= _) _ _ _
  refine wpAny_bind ?_
  unfold Builtin.SmallTypes.ownedTupleIsFree
  refine wpAny_bind (wpAny_field hz rfl (x := .none) rfl (wpAny_pure ?_))
  simp only [if_true]
  refine wpAny_bind (wpAny_rule (wpAny_bind (wpAny_field hz rfl (x := .ref TO) rfl (wpAny_bind (wpAny_setField_rec hz (by simp) fun h₁ hz₁ hs₁ => ?_)))))
  replace hz₁ : IsZip h₁ z TI TO .ellipsis := hz₁
  refine wpAny_bind ?_
  simp only [List.zipIdx_cons, List.zipIdx_nil, List.forIn_cons, List.forIn_nil]
  have keep₁ : ∀ c o, c ≠ z → s.heap.get? c = some o → h₁.get? c = some o := fun c o n e => hs₁.extBut c o n e
  refine wpAny_bind (wpAny_bind (wpAny_onRaise ?_))
  show wpAny _ _ (Builtin.SmallTypes.nextOf (.ref i1) >>= _) _ _ _
  refine wpAny_bind (nextOf_tup (tupIter_at h1 fun o e => keep₁ _ o D.i1z e) (tuple_at hl1 fun o e => keep₁ _ o D.l1z e) hx fun h₂ h1₂ hs₂ => wpAny_pure ?_)
  have keep₂ : ∀ c o, c ≠ z → c ≠ i1 → s.heap.get? c = some o → h₂.get? c = some o := fun c o n n' e => hs₂.extBut c o n' (keep₁ c o n e)
  have hTO₂ : IsPair h₂ TO a b := keep₂ _ _ D.TOz D.TOi1 hTO
  refine wpAny_bind (wpAny_seqItems hTO₂ rfl (wpAny_bind (wpAny_updateSeq_pair hTO₂ fun h₃ hTO₃ hs₃ => ?_)))
  replace hTO₃ : IsPair h₃ TO x b := hTO₃
  have keep₃ : ∀ c o, c ≠ z → c ≠ i1 → c ≠ TO → s.heap.get? c = some o → h₃.get? c = some o := fun c o n n' m e => hs₃.extBut c o m (keep₂ c o n n' e)
  refine wpAny_bind (wpAny_letGo (wpAny_pure (wpAny_bind (wpAny_bind (wpAny_onRaise ?_)))))
  show wpAny _ _ (Builtin.SmallTypes.nextOf (.ref i2) >>= _) _ _ _
  refine wpAny_bind (nextOf_tup (tupIter_at h2 fun o e => keep₃ _ o D.i2z D.i12.symm D.TOi2.symm e) (tuple_at hl2 fun o e => keep₃ _ o D.l2z D.l2i1 D.l2TO e) hy fun h₄ h2₄ hs₄ => wpAny_pure ?_)
  have hTO₄ : IsPair h₄ TO x b := hs₄.extBut _ _ D.TOi2 hTO₃
  refine wpAny_bind (wpAny_seqItems hTO₄ rfl (wpAny_bind (wpAny_updateSeq_pair hTO₄ fun h₅ hTO₅ hs₅ => ?_)))
  replace hTO₅ : IsPair h₅ TO x y := hTO₅
  refine wpAny_bind (wpAny_letGo (wpAny_pure (wpAny_pure ?_)))
  have keep₅ : ∀ c o, c ≠ z → c ≠ i1 → c ≠ TO → c ≠ i2 → s.heap.get? c = some o → h₅.get? c = some o := fun c o n n' m m' e => hs₅.extBut c o m (hs₄.extBut c o m' (keep₃ c o n n' m e))
  refine wpAny_bind (wpAny_seqItems hTO₅ rfl (wpAny_bind (wpAny_newTuple ?_)))
  have hsz : h₅.objs.size = s.heap.objs.size := by rw [hs₅.1, hs₄.1, hs₃.1, hs₂.1, hs₁.1]
  have hz₅ : IsZip h₅ z TI TO .ellipsis := hs₅.extBut _ _ D.TOz.symm (hs₄.extBut _ _ D.i2z.symm (hs₃.extBut _ _ D.TOz.symm (hs₂.extBut _ _ D.i1z.symm hz₁)))
  have h1₅ : h₅.IsTupleIter i1 l1 (k + 1) := tupIter_at h1₂ fun o e => hs₅.extBut _ o D.TOi1.symm (hs₄.extBut _ o D.i12 (hs₃.extBut _ o D.TOi1.symm e))
  have h2₅ : h₅.IsTupleIter i2 l2 (k + 1) := tupIter_at h2₄ fun o e => hs₅.extBut _ o D.TOi2.symm e
  show wpAny _ _ (Builtin.SmallTypes.ownedTupleHandOut (.ref z) (.ref h₅.objs.size) >>= _) _ _ _
  refine wpAny_bind ?_
  unfold Builtin.SmallTypes.ownedTupleHandOut
  have hz₆ : IsZip (h₅.push { cls := .type "tuple", data := .seq #[x, y] }) z TI TO .ellipsis := Heap.get?_push_of_some _ hz₅
  refine wpAny_bind (wpAny_setField_rec hz₆ (by simp) fun h₇ hz₇ hs₇ => ?_)
  replace hz₇ : IsZip h₇ z TI TO (rawInt h₅.objs.size) := hz₇
  refine wpAny_setField_rec hz₇ (by simp) fun h₈ hz₈ hs₈ => ?_
  replace hz₈ : IsZip h₈ z TI TO (rawInt h₅.objs.size) := hz₈
  have up : ∀ c o, c ≠ z → h₅.get? c = some o → h₈.get? c = some o := fun c o c1 e => hs₈.extBut _ _ c1 (hs₇.extBut _ _ c1 (Heap.get?_push_of_some _ e))
  have hne : h₅.objs.size ≠ z := by rw [hsz]; exact Nat.ne_of_gt hzl
  have hT₈ : IsPair h₈ h₅.objs.size x y := hs₈.extBut _ _ hne (hs₇.extBut _ _ hne (Heap.get?_push_size _ rfl))
  rw [hsz] at hz₈ hT₈
  refine wpAny_pure ⟨_, rfl, ?_⟩
  show Q (.ref h₅.objs.size) _
  rw [hsz]
  exact hQ h₈ ⟨hz₈, up _ _ D.TIz (keep₅ _ _ D.TIz D.TIi1 D.TITO D.TIi2 hTI), ⟨x, y, up _ _ D.TOz hTO₅⟩, tupIter_at h1₅ fun o e => up _ o D.i1z e, tupIter_at h2₅ fun o e => up _ o D.i2z e,
    tuple_at hl1 fun o e => up _ o D.l1z (keep₅ _ o D.l1z D.l1i1 D.l1TO D.l1i2 e), tuple_at hl2 fun o e => up _ o D.l2z (keep₅ _ o D.l2z D.l2i1 D.l2TO D.l2i2 e)⟩ hT₈ fun c o c1 c2 c3 c4 e => up c o c1 (keep₅ c o c1 c3 c2 c4 e)

theorem zt_end {z TI TO i1 i2 l1 l2 : Addr} {k : Nat} {xs ys : Array Value} {Q : Fin → Shared → Prop} (hh : A.handled = none) (D : ZipApart z TI TO i1 i2 l1 l2) (Z : ZAt s.heap z TI TO i1 i2 l1 l2 xs ys k .none) (hx : xs[k]? = none)
    (hE : ∀ h' e, (∀ c o, c ≠ z → c ≠ TO → c ≠ i1 → c ≠ i2 → s.heap.get? c = some o → h'.get? c = some o) → (∃ o, h'.get? e = some o ∧ o.cls = .type "StopIteration") → E (.ref e) { s with heap := h' }) :
    wpAny (model prog w) A (Builtin.«zip.__next__» ⟨[.ref z], []⟩) Q E s := by
  obtain ⟨hz, hTI, ⟨a, b, hTO⟩, h1, h2, hl1, hl2⟩ := Z
  show wpAny _ _ (field (.ref z) 2 >>= _) _ _ _
  refine wpAny_bind (wpAny_field hz rfl (x := .bool false) rfl ?_)
  show wpAny _ _ (field (.ref z) 3 >>= _) _ _ _
  refine wpAny_bind (wpAny_field hz rfl (x := .ref TI) rfl (wpAny_bind (wpAny_seqItems hTI rfl ?_)))
  show wpAny _ _ (Builtin.SmallTypes.ownedTupleIsFree (.ref z) >>= _) _ _ _
  refine wpAny_bind ?_
  unfold Builtin.SmallTypes.ownedTupleIsFree
  refine wpAny_bind (wpAny_field hz rfl (x := .none) rfl (wpAny_pure ?_))
  simp only [if_true]
  refine wpAny_bind (wpAny_rule (wpAny_bind (wpAny_field hz rfl (x := .ref TO) rfl (wpAny_bind (wpAny_setField_rec hz (by simp) fun h₁ hz₁ hs₁ => ?_)))))
  replace hz₁ : IsZip h₁ z TI TO .ellipsis := hz₁
  refine wpAny_bind ?_
  simp only [List.zipIdx_cons, List.zipIdx_nil, List.forIn_cons, List.forIn_nil]
  refine wpAny_bind (wpAny_bind (wpAny_onRaise ?_))
  show wpAny _ _ (Builtin.SmallTypes.nextOf (.ref i1) >>= _) _ _ _
  refine wpAny_bind (nextOf_tup_end hh (tupIter_at h1 fun o e => hs₁.extBut _ o D.i1z e) (tuple_at hl1 fun o e => hs₁.extBut _ o D.l1z e) hx fun h₂ e hs₂ he => ?_)
  obtain ⟨oe, hoe, hce⟩ := he
  have hz₂ : IsZip h₂ z TI TO .ellipsis := hs₂ _ _ D.i1z.symm hz₁
  have hez : e ≠ z := fun x => by subst x; rw [hz₂] at hoe; cases hoe; simp at hce
  exact wpAny_setField_rec hz₂ (by simp) fun h₃ _ hs₃ => hE h₃ e (fun c o c1 _ c3 _ x => hs₃.extBut _ _ c1 (hs₂ _ _ c3 (hs₁.extBut _ _ c1 x))) ⟨oe, hs₃.extBut _ _ hez hoe, hce⟩
end
end Mine

namespace Mine
open PySem PySem.Calls PyProof.Rows PyProof.V PySem.SeqAt PySem.W.X

section
variable {prog : Program} {w : World} {A : Around} {E : Value → Shared → Prop} {s : Shared}

theorem zt_next {z TI TO i1 i2 l1 l2 : Addr} {k : Nat} {xs ys : Array Value} {x y : Value} {Q : Option Value → Shared → Prop} (D : ZipApart z TI TO i1 i2 l1 l2) (Z : ZAt s.heap z TI TO i1 i2 l1 l2 xs ys k .none) (hx : xs[k]? = some x) (hy : ys[k]? = some y)
    (hQ : ∀ h', ZAt h' z TI TO i1 i2 l1 l2 xs ys (k + 1) (rawInt s.heap.objs.size) → IsPair h' s.heap.objs.size x y → (∀ c o, c ≠ z → c ≠ TO → c ≠ i1 → c ≠ i2 → s.heap.get? c = some o → h'.get? c = some o) → Q (some (.ref s.heap.objs.size)) { s with heap := h' }) :
    wpAny (model prog w) A (pyNext (.ref z)) Q E s := by
  have hT : s.TypeIs (.ref z) "zip" := ⟨_, Z.hz, rfl⟩
  unfold pyNext
  exact wpAny_bind (wpAny_attempt (wpAny_callSpecial?_slot (name := Str.ofString "__next__") hT PySem.F.slot_zip_next
    (wpAny_call_entry PySem.F.slot_zip_next hT PySem.F.entry_zip_next (zt_item D Z hx hy fun h' a1 a2 a3 => wpAny_pure (hQ h' a1 a2 a3)) (PySem.F.args_zip_next_1 _))))
theorem zt_next_end {z TI TO i1 i2 l1 l2 : Addr} {k : Nat} {xs ys : Array Value} {Q : Option Value → Shared → Prop} (hh : A.handled = none) (D : ZipApart z TI TO i1 i2 l1 l2) (Z : ZAt s.heap z TI TO i1 i2 l1 l2 xs ys k .none) (hx : xs[k]? = none)
    (hQ : ∀ h', (∀ c o, c ≠ z → c ≠ TO → c ≠ i1 → c ≠ i2 → s.heap.get? c = some o → h'.get? c = some o) → Q none { s with heap := h' }) : wpAny (model prog w) A (pyNext (.ref z)) Q E s := by
  have hT : s.TypeIs (.ref z) "zip" := ⟨_, Z.hz, rfl⟩
  unfold pyNext
  refine wpAny_bind (wpAny_attempt (wpAny_callSpecial?_slot (name := Str.ofString "__next__") hT PySem.F.slot_zip_next
    (wpAny_call_entry PySem.F.slot_zip_next hT PySem.F.entry_zip_next (zt_end hh D Z hx fun h' e hk he => ?_) (PySem.F.args_zip_next_1 _))))
  obtain ⟨o, ho, hc⟩ := he
  refine wpAny_bind (wpAny_isInstance (T := "StopIteration") (b := true) ⟨o, ho, hc⟩ isSubtype_stop ?_)
  exact wpAny_pure (hQ _ hk)

theorem walk_zt (hh : A.handled = none) (z TI TO i1 i2 l1 l2 : Addr) (D : ZipApart z TI TO i1 i2 l1 l2) (xs ys : Array Value) (hsz : xs.size = ys.size) :
    WalksT prog w A z [z, TI, TO, i1, i2, l1, l2] [z, TO, i1, i2] xs.size
      (fun i vals => ∃ x y, xs[i]? = some x ∧ ys[i]? = some y ∧ vals = #[x, y])
      (fun i h => ZAt h z TI TO i1 i2 l1 l2 xs ys i .none)
      (fun i T h => ZAt h z TI TO i1 i2 l1 l2 xs ys (i + 1) (rawInt T) ∧ T ≠ z ∧ T ≠ TO ∧ T ≠ i1 ∧ T ≠ i2) where
  sub := fun c hc => by simp at hc ⊢; rcases hc with rfl | rfl | rfl | rfl <;> simp
  frame := fun i h h' hst hk => by
    obtain ⟨hz, hTI, ⟨a, b, hTO⟩, h1, h2, hl1, hl2⟩ := hst
    exact ⟨hk z (by simp) _ hz, hk TI (by simp) _ hTI, ⟨a, b, hk TO (by simp) _ hTO⟩, tupIter_at h1 fun o e => hk i1 (by simp) o e, tupIter_at h2 fun o e => hk i2 (by simp) o e,
      tuple_at hl1 fun o e => hk l1 (by simp) o e, tuple_at hl2 fun o e => hk l2 (by simp) o e⟩
  item := fun i s Q E hi hst hQ => by
    have hiy : i < ys.size := hsz ▸ hi
    have lt : ∀ {c o}, s.heap.get? c = some o → s.heap.objs.size ≠ c := fun e => Nat.ne_of_gt (Heap.lt_size e)
    refine zt_next D hst (Array.getElem?_eq_getElem hi) (Array.getElem?_eq_getElem hiy) fun h' a1 a5 hk => ?_
    obtain ⟨hz, hTI, ⟨a, b, hTO⟩, h1, h2, hl1, hl2⟩ := hst
    exact hQ s.heap.objs.size #[xs[i], ys[i]] h' s.toks ⟨_, _, Array.getElem?_eq_getElem hi, Array.getElem?_eq_getElem hiy, rfl⟩ (Nat.le_refl _) ⟨_, a5, rfl, _, rfl⟩
      ⟨a1, lt hz, lt hTO, (by obtain ⟨_, e, _⟩ := h1; exact lt e), (by obtain ⟨_, e, _⟩ := h2; exact lt e)⟩
      fun c o hc e => hk c o (fun x => hc (by simp [x])) (fun x => hc (by simp [x])) (fun x => hc (by simp [x])) (fun x => hc (by simp [x])) e
  go := fun elts k pos i T s Q E hm hQ => by
    obtain ⟨⟨hz, hTI, ⟨a, b, hTO⟩, h1, h2, hl1, hl2⟩, _⟩ := hm
    refine wpAny_letOwnedTupleGo_zip hz fun h' hz' hs' => hQ h' ⟨hz', hs'.extBut _ _ D.TIz hTI, ⟨a, b, hs'.extBut _ _ D.TOz hTO⟩, tupIter_at h1 fun o e => hs'.extBut _ o D.i1z e, tupIter_at h2 fun o e => hs'.extBut _ o D.i2z e,
      tuple_at hl1 fun o e => hs'.extBut _ o D.l1z e, tuple_at hl2 fun o e => hs'.extBut _ o D.l2z e⟩ fun c o hc e => hs'.extBut _ _ (fun x => hc (by simp [x])) e
  apart := fun i T h hm hT => by
    obtain ⟨_, t1, t2, t3, t4⟩ := hm
    simp at hT
    rcases hT with rfl | rfl | rfl | rfl
    · exact t1 rfl
    · exact t2 rfl
    · exact t3 rfl
    · exact t4 rfl
  done := fun s Q E hst hQ => zt_next_end hh D hst (Array.getElem?_eq_none (Nat.le_refl _)) fun h' hk => hQ h' s.toks fun c o hc e =>
      hk c o (fun x => hc (by simp [x])) (fun x => hc (by simp [x])) (fun x => hc (by simp [x])) (fun x => hc (by simp [x])) e
  self := fun i s Q E hst hQ => wpAny_pyIter_zip hst.hz hQ
end

theorem push5 (h : Heap) (a b c d e : Obj) (fa : a.isFreed = false) (fb : b.isFreed = false) (fc : c.isFreed = false) (fd : d.isFreed = false) (fe : e.isFreed = false) :
    (((((h.push a).push b).push c).push d).push e).get? h.objs.size = some a ∧ (((((h.push a).push b).push c).push d).push e).get? (h.objs.size + 1) = some b ∧ (((((h.push a).push b).push c).push d).push e).get? (h.objs.size + 2) = some c ∧
    (((((h.push a).push b).push c).push d).push e).get? (h.objs.size + 3) = some d ∧ (((((h.push a).push b).push c).push d).push e).get? (h.objs.size + 4) = some e ∧ Sub h (((((h.push a).push b).push c).push d).push e) := by
  have z1 : (h.push a).objs.size = h.objs.size + 1 := Heap.size_push ..
  have z2 : ((h.push a).push b).objs.size = h.objs.size + 2 := by rw [Heap.size_push, z1]
  have z3 : (((h.push a).push b).push c).objs.size = h.objs.size + 3 := by rw [Heap.size_push, z2]
  have z4 : ((((h.push a).push b).push c).push d).objs.size = h.objs.size + 4 := by rw [Heap.size_push, z3]
  refine ⟨?_, ?_, ?_, ?_, ?_, fun b o e => Heap.get?_push_of_some _ (Heap.get?_push_of_some _ (Heap.get?_push_of_some _ (Heap.get?_push_of_some _ (Heap.get?_push_of_some _ e))))⟩
  · exact Heap.get?_push_of_some _ (Heap.get?_push_of_some _ (Heap.get?_push_of_some _ (Heap.get?_push_of_some _ (Heap.get?_push_size _ fa))))
  · rw [← z1]; exact Heap.get?_push_of_some _ (Heap.get?_push_of_some _ (Heap.get?_push_of_some _ (Heap.get?_push_size _ fb)))
  · rw [← z2]; exact Heap.get?_push_of_some _ (Heap.get?_push_of_some _ (Heap.get?_push_size _ fc))
  · rw [← z3]; exact Heap.get?_push_of_some _ (Heap.get?_push_size _ fd)
  · rw [← z4]; exact Heap.get?_push_size _ fe
theorem meets_zip_tuples (l1 l2 : Addr) (xs ys : Array Value) :
    Meets (Builtin.«zip.__new__» ⟨[.type "zip", .ref l1, .ref l2], []⟩) (fun _ R s => s.heap.IsTuple l1 xs ∧ s.heap.IsTuple l2 ys ∧
      ∀ h', ZAt h' (s.heap.objs.size + 4) (s.heap.objs.size + 2) (s.heap.objs.size + 3) s.heap.objs.size (s.heap.objs.size + 1) l1 l2 xs ys 0 .none → Sub s.heap h' → R (.ok (.ret (.ref (s.heap.objs.size + 4)))) { s with heap := h' }) :=
  .of_wp fun prog w A R s h => by
    obtain ⟨hp, g, d, tk, os⟩ := s; obtain ⟨hl1, hl2, h⟩ := h
    have hsub := PySem.sub_zip
    have hL1 : Heap.IsTuple (Shared.heap ⟨hp, g, d, tk, os⟩) l1 xs := hl1
    have hL2 : Heap.IsTuple (Shared.heap ⟨hp.push { cls := .type "tuple_iterator", data := .fields #[.ref l1, .int 0 0] }, g, d, tk, os⟩) l2 ys := Heap.IsTuple.push hl2 _
    wp_walk using wpAny_pyIter_tuple hL1, wpAny_pyIter_tuple hL2
    have p := push5 hp { cls := .type "tuple_iterator", data := .fields #[.ref l1, .int 0 0] } { cls := .type "tuple_iterator", data := .fields #[.ref l2, .int 0 0] } { cls := .type "tuple", data := .seq #[.ref hp.objs.size, .ref (hp.objs.size + 1)] } { cls := .type "tuple", data := .seq #[.none, .none] } { cls := .type "zip", data := .fields #[.none, .bool false, .bool false, .ref (hp.objs.size + 2), .ref (hp.objs.size + 3)] } rfl rfl rfl rfl rfl
    obtain ⟨p1, p2, p3, p4, p5, p6⟩ := p
    simp only [Heap.size_push]
    refine ⟨_, rfl, ?_⟩
    exact h _ ⟨p5, p3, ⟨_, _, p4⟩, ⟨_, p1, rfl, rfl⟩, ⟨_, p2, rfl, rfl⟩, tuple_at hl1 fun o e => p6 _ o e, tuple_at hl2 fun o e => p6 _ o e⟩ p6
end Mine

namespace Mine
open PySem PySem.Calls PyProof.Rows PyProof.V PySem.SeqAt PySem.W.X

section
variable {prog : Program} {w : World} {A : Around} {E : Value → Shared → Prop} {s : Shared}
theorem call_zip_tup {l1 l2 : Addr} {xs ys : Array Value} {Q : Value → Shared → Prop} (hl1 : s.heap.IsTuple l1 xs) (hl2 : s.heap.IsTuple l2 ys)
    (h : ∀ h', ZAt h' (s.heap.objs.size + 4) (s.heap.objs.size + 2) (s.heap.objs.size + 3) s.heap.objs.size (s.heap.objs.size + 1) l1 l2 xs ys 0 .none → Sub s.heap h' → Q (.ref (s.heap.objs.size + 4)) { s with heap := h' }) :
    wpAny (model prog w) A (call (.type "zip") [.ref l1, .ref l2]) Q E s := by
  refine callType_new PySem.F.called_zip (by decide) (PySem.F.typeCall_zip_2 _ _) (PySem.F.newCall_zip_2 _ _) (fun obj => PySem.F.args_object_init_3 obj _ _) PySem.F.entry_zip_new
    (meets_zip_tuples l1 l2 xs ys) ⟨hl1, hl2, fun h' hz hs => ?_⟩
  exact ⟨⟨_, hz.hz, rfl⟩, h h' hz hs⟩

/-- the code of a generator expression: the table keeps its old part -/
theorem genexprCode_grow {env : Env} {cd P : Addr} {ps : Array Value} {pos : Pos} {qualname : Str} {scope : Scope} {Q : Value → Shared → Prop} (hc : env.code = .ref cd) (hok : s.heap.IsCode cd P ps) (hP : s.heap.get? P = some { cls := .none, data := .fields ps })
    (hQ : ∀ code h' tk more, Heap.ExtBut P s.heap h' → h'.get? P = some { cls := .none, data := .fields (ps ++ more) } → TriplesOk (ps ++ more).toList → Q code { s with heap := h', toks := tk }) :
    wpAny (model prog w) A (genexprCode env pos qualname scope) Q E s := by
  obtain ⟨o, vs, file, tf, flags, tg, inF, text, tt, op, ho, hd, h11, h2, h7, h9, h10, hop, hpd, htr, hne⟩ := id hok
  unfold genexprCode codeAt
  rw [hc, if_neg (show ¬ ((Value.ref cd == Value.none) = true) from Bool.false_ne_true)]
  refine wpAny_bind (wpAny_fieldsOf ho hd ?_)
  rw [h11]
  refine wpAny_bind (wpAny_fieldsOf hop hpd ?_)
  cases hnf : codeAmong pos ps.toList with
  | some cv => exact wpAny_pure (hQ cv s.heap s.toks #[] (Heap.ExtBut.refl _ _) (by simpa using hP) (by simpa using htr))
  | none =>
    rw [h2, h7, h9, h10]
    refine wpAny_bind (wpAny_newCode fun c' P' h' tk hk hc' hP' hcode' hrec' => ?_)
    have hop' := hk _ _ hP
    refine wpAny_bind (wpAny_updateFieldsOfTheText hop' rfl ?_)
    have hnew : (Obj.mapFields (fun vs => if (codeAmong pos vs.toList).isSome = true then vs else vs ++ #[rawInt pos.line, rawInt pos.col, .ref c']) { cls := .none, data := .fields ps }) =
        { cls := .none, data := .fields (ps ++ #[rawInt pos.line, rawInt pos.col, .ref c']) } := by
      simp [Obj.mapFields, hnf]
    have hget := Heap.get?_update_self (h := h') (fun o => Obj.mapFields (fun vs => if (codeAmong pos vs.toList).isSome = true then vs else
      vs ++ #[rawInt pos.line, rawInt pos.col, .ref c']) o) hop' (by rw [hnew]; rfl)
    rw [hnew] at hget
    refine wpAny_bind (wpAny_fieldsOf hget rfl ?_)
    have hl : (ps ++ #[rawInt pos.line, rawInt pos.col, Value.ref c']).toList = ps.toList ++ [rawInt pos.line, rawInt pos.col, .ref c'] := by simp
    rw [hl, codeAmong_snoc _ htr hnf]
    exact wpAny_pure (hQ _ _ _ #[rawInt pos.line, rawInt pos.col, .ref c'] (fun b o' hb e => ((Heap.SameBut.update ..).extBut b o' hb (hk b o' e))) hget (by rw [hl]; exact TriplesOk_snoc _ _ _ _ htr))
end

/-- the table of the code object, and how it may grow -/
structure Base.OkT {prog : Program} {w : World} (c : Base prog w) (cd : Addr) : Prop where
  code : ∀ h, Gd c h → ∃ ps, h.IsCode cd c.P ps ∧ h.get? c.P = some { cls := .none, data := .fields ps } ∧ c.T { cls := .none, data := .fields ps }
  grow : ∀ ps more, c.T { cls := .none, data := .fields ps } → TriplesOk (ps ++ more).toList → c.T { cls := .none, data := .fields (ps ++ more) }
end Mine

namespace Mine
open PySem PySem.Calls PyProof.Rows PyProof.V PySem.SeqAt PySem.W.X

def diffs : List Int → List Int → List T
  | u :: us, v :: vs => .i (v - u - 1) :: diffs us vs
  | _, _ => []
theorem diffs_at : ∀ (us vs : List Int) (j : Nat) (u v : Int), us[j]? = some u → vs[j]? = some v → (diffs us vs)[j]? = some (.i (v - u - 1))
  | [], _, j, u, v, h, _ => by simp at h
  | _ :: _, [], j, u, v, _, h => by simp at h
  | a :: us, b :: vs, 0, u, v, h1, h2 => by simp at h1 h2; subst h1 h2; rfl
  | a :: us, b :: vs, j + 1, u, v, h1, h2 => by
    simp at h1 h2
    show (diffs us vs)[j]? = _
    exact diffs_at us vs j u v h1 h2
theorem diffs_len : ∀ (us vs : List Int), us.length = vs.length → (diffs us vs).length = us.length
  | [], [], _ => rfl
  | [], _ :: _, h => by simp at h
  | _ :: _, [], h => by simp at h
  | a :: us, b :: vs, h => by
    show (diffs us vs).length + 1 = us.length + 1
    rw [diffs_len us vs (by simpa using h)]
theorem repsI_at {q : Vw} {h : Heap} : ∀ (us : List Int) (vs : List Value), Reps q h (us.map .i) vs → vs.length = us.length ∧ ∀ (i : Nat) (v : Value), vs[i]? = some v → ∃ (u : Int) (k : Tok), us[i]? = some u ∧ v = .int u k
  | [], vs, r => by
    have e : vs = [] := r
    subst e; exact ⟨rfl, fun i v h => by simp at h⟩
  | u :: us, vs, r => by
    obtain ⟨v, r', e, ⟨k, hk⟩, hr⟩ := r
    subst e
    obtain ⟨h1, h2⟩ := repsI_at us r' hr
    refine ⟨by simp [h1], fun i v' hv => ?_⟩
    cases i with
    | zero => simp at hv; subst hv; exact ⟨u, k, rfl, hk⟩
    | succ i => simp at hv; obtain ⟨u', k', a, b⟩ := h2 i v' hv; exact ⟨u', k', by simpa using a, b⟩
theorem reps_of_at {q : Vw} {h : Heap} : ∀ (l : List T) (vs : List Value), l.length = vs.length → (∀ (j : Nat) (v : Value), vs[j]? = some v → ∃ t, l[j]? = some t ∧ Rep q h t v) → Reps q h l vs
  | [], [], _, _ => rfl
  | [], _ :: _, h, _ => by simp at h
  | _ :: _, [], h, _ => by simp at h
  | t :: l, v :: vs, hl, hx => by
    refine ⟨v, vs, rfl, ?_, reps_of_at l vs (by simpa using hl) fun j v' hv => ?_⟩
    · obtain ⟨t', e, r⟩ := hx 0 v rfl
      simp at e; subst e; exact r
    · obtain ⟨t', e, r⟩ := hx (j + 1) v' (by simpa using hv)
      exact ⟨t', by simpa using e, r⟩

section
variable {prog : Program} {w : World} {A : Around} {E : Value → Shared → Prop} {s : Shared}
theorem elt_diff {env : Env} {m : Str → Option Value} {xa xb : Str} {p1 p2 p3 p4 p5 : Pos} {n : Nat} {u v : Int} {ku kv : Tok} (hf : env.scope.kind = .function) (hn : s.heap.Ns env.locals m) (ka : env.kindOf xa = some .local) (kb : env.kindOf xb = some .local)
    (ha : m xa = some (.int u ku)) (hb : m xb = some (.int v kv)) (hd : (xa == ("__debug__" : Str)) = false) (hd' : (xb == ("__debug__" : Str)) = false) (hc : (xa == ("__classdict__" : Str)) = false) (hc' : (xb == ("__classdict__" : Str)) = false) :
    wpAny (model prog w) A (eval (.BinOp (.BinOp (.Name xb p1) .Sub (.Name xa p2) p3) .Sub (.Constant (.int 1) n p4) p5) env) (fun y s₃ => (∃ k, y = .int (v - u - 1) k) ∧ Keeps s s₃) E s := by
  refine wpAny_BinOp (wpAny_BinOp (load_var hf hn (.inl ⟨kb, hb⟩) (load_var hf hn (.inl ⟨ka, ha⟩) (PyProof.Rows.sub_int (wpAny_Constant_int (PyProof.Rows.sub_int ?_))) hd hc) hd' hc'))
  exact ⟨⟨_, rfl⟩, _, _, rfl, fun b o e => e⟩
end

/-- the builtins that a new frame finds -/
def OkB {prog : Program} {w : World} (c : Base prog w) : Prop := ∀ (A : Around) (s : Shared) (Q : Addr → Shared → Prop) (E : Value → Shared → Prop), Gd c s.heap → Q builtinsNs s → wpAny (model prog w) A (builtinsFor mainGlobals builtinsNs) Q E s

structure TupSc (scope : Scope) (xa xb : Str) : Prop where
  co : scope.isCoroutine = false
  cell : ∀ y ∈ scope.names, y.2 ≠ .cell
  free : ∀ y ∈ scope.names, y.2 ≠ .free
  h0 : scope.names.lookup (".0" : Str) = some NameKind.local
  ha : scope.names.lookup xa = some .local
  hb : scope.names.lookup xb = some .local
  ab : xa ≠ xb
  kind : scope.kind = .function
def tupScOk (scope : Scope) (xa xb : Str) : Bool := !scope.isCoroutine && scope.names.all (fun y => y.2 != .cell && y.2 != .free) && scope.names.lookup (".0" : Str) == some NameKind.local && scope.names.lookup xa == some .local && scope.names.lookup xb == some .local && xa != xb && scope.kind == .function
theorem tupSc_of {scope : Scope} {xa xb : Str} (h : tupScOk scope xa xb = true) : TupSc scope xa xb := by
  simp only [tupScOk, Bool.and_eq_true, beq_iff_eq, bne_iff_ne] at h
  obtain ⟨⟨⟨⟨⟨⟨h1, h2⟩, h3⟩, h4⟩, h5⟩, h6⟩, h7⟩ := h
  refine ⟨by simpa using h1, fun y hy => ?_, fun y hy => ?_, h3, h4, h5, h6, h7⟩
  · have := (List.all_eq_true.mp h2) y hy
    simp only [Bool.and_eq_true, bne_iff_ne] at this; exact this.1
  · have := (List.all_eq_true.mp h2) y hy
    simp only [Bool.and_eq_true, bne_iff_ne] at this; exact this.2

section
variable {prog : Program} {w : World} {c : Base prog w}
theorem passing_all (n : Nat) : passing (fun _ => true) n 0 = List.range n := by
  unfold passing
  rw [List.filter_eq_self.mpr (fun _ _ => rfl)]; simp

theorem tup_zip (hc : c.Ok) {cd : Addr} (ht : c.OkT cd) (hB : OkB c) (gl : Gl c) {sc : Scope} {G : List Str} {k : Nat} {e1 e2 elt : Expr} {g : List X → Option (List T)} {xa xb : Str} {p pz p0 p1 p2 pa pb pt : Pos} {kt : Nat} {scope : Scope}
    (ha : EvL c sc G k [e1, e2] g) (he : ∀ env, starEach [e1, e2] env = (false, eval e1 env) :: starEach [e2] env) (hs : NoStar [e2])
    (hkt : sc.names.lookup ("tuple" : Str) = some .globalImplicit) (hkz : sc.names.lookup ("zip" : Str) = some .globalImplicit) (TS : TupSc scope xa xb)
    (hel : ∀ (A : Around) (E : Value → Shared → Prop) (s : Shared) (env : Env) (m : Str → Option Value) (u v : Int) (ku kv : Tok), env.scope = scope → s.heap.Ns env.locals m → m xa = some (.int u ku) → m xb = some (.int v kv) →
      wpAny (model prog w) A (eval elt env) (fun y s₃ => (∃ k, y = .int (v - u - 1) k) ∧ Keeps s s₃) E s)
    {A : Around} {E : Value → Shared → Prop} {s : Shared} {env : Env} {r : List X} {Z : Addr → Prop} {us vs : List Int} (hA : GA k A) (hE : EnvI sc env) (hcd : env.code = .ref cd) (hx : Gd c s.heap) (hZ : Live Z s.heap) (hF : FrE c Z s.heap env G r)
    (hg : g r = some [.t (us.map .i), .t (vs.map .i)]) (hl : us.length = vs.length) (hn : us.length ≤ 1000) :
    wpAny (model prog w) A (eval (.Call (.Name "tuple" p) [.GeneratorExp elt [⟨.Tuple [.Name xa pa, .Name xb pb] kt pt, .Call (.Name "zip" pz) [e1, e2] [] p0, [], 0⟩] scope p1] [] p2) env)
      (fun v s' => Mvd0 c s s' ∧ Rep ⟨c.a, Z⟩ s'.heap (.t (diffs us vs)) v) E s := by
  refine Call_ (load_glob hc hE hx gl.tuple hkt ?_ (by decide))
  refine callWith_plain (c := c) (.t "tuple") rfl rfl ?_
  refine args_cons ?_ rfl
  refine wpAny_GeneratorExp_walksQT hA.handled TS.co (closFor fun n h => absurd rfl (TS.free _ h)) TS.cell TS.h0 TS.ha TS.hb TS.ab TS.kind hA.room ?_ (fun x => rfl)
  refine Call_ (load_glob hc hE hx gl.zip hkz ?_ (by decide))
  refine callWith_plain (c := c) (.t "zip") (he env) (hs env p0) (wpAny_mono (ha.go A env s r _ E Z hA hE hx hZ hF hg p0) (fun wv s₁ ⟨k₁, r₁⟩ => ⟨ext_sub hx k₁.sub, ?_⟩) fun _ _ y => y)
  obtain ⟨v₁, wr, rfl, R₁, r₂⟩ := r₁
  obtain ⟨v₂, rfl, R₂⟩ := reps_one r₂
  obtain ⟨l1, xs, rfl, ⟨n1, hl1⟩, q1, y1⟩ := tup_ref R₁
  obtain ⟨l2, ys, rfl, ⟨n2, hl2⟩, q2, y2⟩ := tup_ref R₂
  obtain ⟨z1, w1⟩ := repsI_at us _ q1
  obtain ⟨z2, w2⟩ := repsI_at vs _ q2
  rw [Array.length_toList] at z1 z2
  have b1 : @LT.lt Nat _ l1 s₁.heap.objs.size := Heap.lt_size hl1
  have b2 : @LT.lt Nat _ l2 s₁.heap.objs.size := Heap.lt_size hl2
  refine call_zip_tup ⟨_, hl1, rfl, _, rfl⟩ ⟨_, hl2, rfl, _, rfl⟩ fun h₂ hz hs₂ => ?_
  refine wpAny_pyIter_zip hz.hz ?_
  have hx₂ : Gd c h₂ := ext_sub (ext_sub hx k₁.sub) hs₂
  refine ⟨hc.nolimit _ hx₂, ?_⟩
  obtain ⟨ps, ic, ip, iT⟩ := ht.code _ hx₂
  refine genexprCode_grow hcd ic ip fun code h₃ tk₃ more hx₃ hP₃ hT₃ => ?_
  have hgd₃ : Gd c h₃ := ⟨fun b o hb e => hx₃ b o hb (hx₂.1 b o hb e), _, hP₃, (fun items n h => nomatch h), ⟨(fun es ep h => nomatch h), fun v h => nomatch h⟩, ht.grow ps more iT hT₃⟩
  rw [hE.globals, hE.builtins]
  refine hB _ _ _ _ hgd₃ ?_
  obtain ⟨oP, eP, nP, _⟩ := (ext_sub hx k₁.sub).2
  have bP : @LT.lt Nat _ c.P s₁.heap.objs.size := Heap.lt_size eP
  have lP1 : l1 ≠ c.P := fun e => by subst e; rw [eP] at hl1; cases hl1; exact nP _ _ rfl
  have lP2 : l2 ≠ c.P := fun e => by subst e; rw [eP] at hl2; cases hl2; exact nP _ _ rfl
  have hst : @LT.lt Nat _ cStatics s₁.heap.objs.size := let ⟨_, hn, _⟩ := hc.nolimit _ (ext_sub hx k₁.sub); hn.lt
  have D : ZipApart (s₁.heap.objs.size + 4) (s₁.heap.objs.size + 2) (s₁.heap.objs.size + 3) s₁.heap.objs.size (s₁.heap.objs.size + 1) l1 l2 := by
    constructor <;> (show @Ne Nat _ _) <;> omega
  have hsz : xs.size = ys.size := by rw [z1, z2, hl]
  have hfp : ∀ b ∈ [s₁.heap.objs.size + 4, s₁.heap.objs.size + 2, s₁.heap.objs.size + 3, s₁.heap.objs.size, s₁.heap.objs.size + 1, l1, l2], b ≠ c.P := by
    intro b hb
    simp at hb
    rcases hb with rfl | rfl | rfl | rfl | rfl | rfl | rfl
    · show @Ne Nat _ _; omega
    · show @Ne Nat _ _; omega
    · show @Ne Nat _ _; omega
    · show @Ne Nat _ _; omega
    · show @Ne Nat _ _; omega
    · exact lP1
    · exact lP2
  have ge : ∀ b ∈ [s₁.heap.objs.size + 4, s₁.heap.objs.size + 3, s₁.heap.objs.size, s₁.heap.objs.size + 1], @LE.le Nat _ s₁.heap.objs.size b := by
    intro b hb
    simp at hb
    rcases hb with rfl | rfl | rfl | rfl <;> omega
  have hz₃ : ZAt h₃ (s₁.heap.objs.size + 4) (s₁.heap.objs.size + 2) (s₁.heap.objs.size + 3) s₁.heap.objs.size (s₁.heap.objs.size + 1) l1 l2 xs ys 0 .none :=
    (walk_zt (prog := prog) (w := w) hA.handled _ _ _ _ _ _ _ D xs ys hsz).frame 0 _ _ hz fun b hb o e => hx₃ b o (hfp b hb) e
  have s3 : ∀ b o, s.heap.get? b = some o → b ≠ c.P → h₃.get? b = some o := fun b o e h => hx₃ b o h (hs₂ _ _ (k₁.sub _ _ e))
  have hlt₃ : @LT.lt Nat _ (s₁.heap.objs.size + 4) h₃.objs.size := Heap.lt_size hz₃.hz
  have hg₁ : s₁.gens = s.gens := by obtain ⟨_, _, e, _⟩ := k₁; rw [e]
  have hd₁ : s₁.drawn = s.drawn := by obtain ⟨_, _, e, _⟩ := k₁; rw [e]
  have ho₁ : s₁.os = s.os := by obtain ⟨_, _, e, _⟩ := k₁; rw [e]
  refine ⟨_, _, _, xs.size, _, _, _, fun _ => true, fun i y => ∃ u v k, us[i]? = some u ∧ vs[i]? = some v ∧ y = .int (v - u - 1) k, rfl, fun A' hA' => (walk_zt hA' _ _ _ _ _ _ _ D xs ys hsz).toU, fun i vals ⟨x, y, _, _, e⟩ => ⟨x, y, e⟩, hz₃, ?_, hc.nolimit _ hgd₃, ?_, ?_, ?_⟩
  · intro b hb
    show @LT.lt Nat _ b h₃.objs.size
    simp at hb
    rcases hb with rfl | rfl | rfl | rfl | rfl | rfl | rfl <;> omega
  · intro h
    exact absurd (ge _ h) (Nat.not_le.mpr hst)
  · intro href hhref
    refine ⟨fun A' E' i va vb s₂ m₂ _ _ _ _ _ _ => wpAny_pure ⟨rfl, _, _, rfl, fun b o e => e⟩, fun A' E' i va vb s₂ m₂ hA' hP _ hns h1 h2 _ => ?_⟩
    obtain ⟨x, y, hx', hy', e⟩ := hP
    obtain ⟨u, ku, hu, rfl⟩ := w1 i x (by simpa using hx')
    obtain ⟨v, kv, hv, rfl⟩ := w2 i y (by simpa using hy')
    have e' := congrArg Array.toList e
    injection e' with e1 e'
    injection e' with e2 _
    refine wpAny_mono (hel A' E' s₂ _ m₂ u v ku kv rfl hns (h1.trans (congrArg some e1)) (h2.trans (congrArg some e2))) (fun y s₃ ⟨⟨k, hk⟩, hkp⟩ => ⟨⟨u, v, k, hu, hv, hk⟩, hkp⟩) fun _ _ e => e
  · intro a h₅ tk gs hgb hag hsz₅ hk₅ W hat
    refine args_nil ⟨?_, ?_⟩
    · exact ⟨fun b o hb e => hk₅ _ _ (hgd₃.1 b o hb e), _, hk₅ _ _ hP₃, hgd₃.2.choose_spec.2 |> fun _ => ⟨(fun items n h => nomatch h), ⟨(fun es ep h => nomatch h), fun v h => nomatch h⟩, ht.grow ps more iT hT₃⟩⟩
    refine call_tuple_gen (hsz := ?_) W.in4_3 (fun i s' st => st.1.typeIs) hat (fun b hb => ?_) List.mem_cons_self fun s' acc hm hacc => ?_
    · show b < h₅.objs.size
      rw [hsz₅]
      rcases List.mem_cons.mp hb with rfl | hb
      · exact Nat.lt_succ_self _
      · rcases List.mem_cons.mp hb with rfl | hb
        · exact Nat.lt_succ_of_lt hag
        · exact Nat.lt_succ_of_lt (Nat.lt_trans (List.mem_range.mp hb) hag)
    rotate_left
    · rw [passing_all, List.length_range, sizeLine_eq, z1]; omega
    have wr_ge : ∀ b o, h₃.get? b = some o → @LT.lt Nat _ b s₁.heap.objs.size → s'.heap.get? b = some o := fun b o e hb => hm.heap b o (fun h => by
      rcases List.mem_cons.mp h with h | h
      · have h' : @Eq Nat b h₃.objs.size := h
        omega
      · exact absurd (ge _ h) (Nat.not_le.mpr hb)) (hk₅ _ _ e)
    have hgq : GenOnlyQ s₁.gens.size (s₁.gens.push gs) s'.gens := hm.gens
    have hgs : s'.gens.size = s₁.gens.size + 1 ∧ (∀ g, g < s₁.gens.size → s'.gens[g]? = s₁.gens[g]?) ∧ ∃ x, s'.gens[s₁.gens.size]? = some x ∧ x.bare = true := by
      rcases hgq with e | ⟨⟨hs1, hs2⟩, hb⟩
      · rw [e]
        exact ⟨Array.size_push .., fun g hg => Array.getElem?_push_lt hg |>.trans (by simp [hg]), gs, by simp, hgb⟩
      · have hsz' : s'.gens.size = s₁.gens.size + 1 := by rw [hs1, Array.size_push]
        refine ⟨hsz', fun g hg => ?_, ?_⟩
        · rw [hs2 g (Nat.ne_of_lt hg), Array.getElem?_push_lt hg]; simp [hg]
        · have hlt : s₁.gens.size < s'.gens.size := by omega
          exact ⟨s'.gens[s₁.gens.size], Array.getElem?_eq_getElem hlt, hb _ (Array.getElem?_eq_getElem hlt)⟩
    obtain ⟨gz, gk, gx, gx1, gx2⟩ := hgs
    have kp : ∀ b o, s.heap.get? b = some o → b ≠ c.P → s'.heap.get? b = some o := fun b o e hb => wr_ge b o (s3 b o e hb) (Heap.lt_size (k₁.sub _ _ e))
    have gd' : Gd c s'.heap := ⟨fun b o hb e => by
        have e1 := (ext_sub hx k₁.sub).1 b o hb e
        exact wr_ge b o (hgd₃.1 b o hb e) (Heap.lt_size e1), _, wr_ge _ _ hP₃ bP, (fun items n h => nomatch h), ⟨(fun es ep h => nomatch h), fun v h => nomatch h⟩, ht.grow ps more iT hT₃⟩
    have hp := sub_push s'.heap { cls := .type "tuple", data := .seq acc }
    refine ⟨⟨⟨hm.drawn.trans hd₁, hm.os.trans ho₁, fun b o e _ hb => hp _ _ (kp b o e hb), ext_sub gd' hp, fun g _ hg => (gk g (hg₁ ▸ hg)).trans (by rw [hg₁]), ?_, fun b o e => ?_⟩, fun g h1 h2 => ?_⟩, ?_⟩
    · show s.gens.size ≤ s'.gens.size
      rw [gz, hg₁]; exact Nat.le_succ _
    · by_cases hb : b = c.P
      · subst hb; obtain ⟨o', e', _⟩ := gd'.2; exact ⟨o', hp _ _ e'⟩
      · exact ⟨o, hp _ _ (kp b o e hb)⟩
    · have h2' : g < s'.gens.size := h2
      have : g = s₁.gens.size := by rw [← hg₁] at h1; omega
      subst this; exact ⟨gx, gx1, gx2⟩
    · have zp := hacc.1
      rw [passing_all, List.length_range] at zp
      refine ⟨_, acc, rfl, ⟨0, Heap.get?_push_size _ rfl⟩, reps_of_at _ _ ?_ fun j v hv => ?_, ?_⟩
      · exact (diffs_len _ _ hl).trans (z1.symm.trans (zp.symm.trans Array.length_toList.symm))
      · obtain ⟨i, hi, u, v', k', h1, h2, h3⟩ := hacc.2 j v (by simpa using hv)
        rw [passing_all] at hi
        obtain ⟨hj, hi⟩ := List.getElem?_eq_some_iff.mp hi
        rw [List.getElem_range] at hi
        subst hi
        exact ⟨_, diffs_at us vs _ u v' h1 h2, k', h3⟩
      · exact fun z => by
          have hzz := hZ _ z
          obtain ⟨o, e⟩ := hzz
          by_cases hb : s'.heap.objs.size = c.P
          · obtain ⟨o', e', _⟩ := gd'.2; exact absurd (Heap.lt_size e') (by rw [← hb]; exact Nat.lt_irrefl _)
          · exact absurd (Heap.lt_size (kp _ o e hb)) (Nat.lt_irrefl _)
end
end Mine

namespace Mine
open PySem PySem.Calls PyProof.Rows PyProof.V PySem.SeqAt PySem.W.X

section
variable {prog : Program} {w : World} {c : Base prog w}

theorem zo_live {FP : Addr → Prop} {s₀ s : Shared} : Live (zo FP s₀ s) s.heap := fun b hb => hb.1
theorem zo_kp {FP : Addr → Prop} {s₀ s s₁ : Shared} (hl : ∀ b o, s₀.heap.get? b = some o → ∃ o', s.heap.get? b = some o') (b : Addr) (h : zo FP s₀ s₁ b) : zo FP s₀ s b := by
  obtain ⟨⟨o, e⟩, hn⟩ := h
  cases q : s₀.heap.get? b with
  | none => exact absurd (.inr ⟨q, o, e⟩) hn
  | some o' =>
    refine ⟨hl b o' q, fun h => ?_⟩
    rcases h with h | ⟨h, _⟩
    · exact hn (.inl h)
    · rw [q] at h; cases h

theorem Me.assign {A : Around} {E : Value → Shared → Prop} {g k j : Nat} {Z : Addr → Prop} {FP : Addr → Prop} {GF : Nat → Prop} {s₀ s : Shared} {env : Env} {sc : Scope} {G : List Str} {r : List X} {x : Str} {e : Expr} {f : List X → Option T} {t : T} {px pos : Pos} (M : Me c g Z FP GF (fun _ => False) s₀ s env G r) (hA : GA k A) (hE : EnvI sc env)
    (h : Ev c sc G k e f) (hf : f r = some t) (hj : G[j]? = some x) (hu : ∀ i, G[i]? = some x → i = j) (hk : sc.names.lookup x = some .local) (nd : ∀ i kv, nth r i ≠ .d kv) (h0 : ∀ o, c.h₀.get? env.locals = some o → False) (hs : swapsWith e (some (.Name x px)) pos.line env = pure false) :
    wpAny (model prog w) A (exec (.Assign [.Name x px] e pos) env) (fun fl s' => fl = .next ∧ Me c g Z FP GF (fun _ => False) s₀ s' env G (setN r j (.p t))) E s := by
  refine wpAny_Assign_Name (wpAny_mono (h.go A env s r t E _ hA hE M.m.gd zo_live M.fr hf) (fun v s₁ ⟨k₁, r₁⟩ => ?_) fun _ _ y => y) hs
  have M₁ := M.step0 (Mvd0.kp M.m.gd k₁) nd (fun _ h => h.elim)
  have r₂ : Rep ⟨c.a, zo FP s₀ s₁⟩ s₁.heap t v := Rep.view (fun b o e hz hz' => hz (zo_kp (fun b o e => M.m.live b o e) b hz')) t v r₁
  have r₃ : Rep ⟨c.a, Z⟩ s₁.heap t v := Rep.view (fun b o e hz hz' => M₁.z b (Classical.byContradiction fun h => hz ⟨⟨o, e⟩, h⟩) hz') t v r₂
  refine wpAny_mono (M₁.store hE hj hu hk r₃ nd (fun q => M₁.notP (q ▸ M₁.loc)) h0) (fun _ s₃ hs₃ => ?_) fun _ _ y => y
  obtain ⟨h₃, tk₃, rfl, _, _, _, M₃⟩ := hs₃
  exact ⟨rfl, M₃ r₂⟩
end
end Mine

namespace Mine
open PySem PySem.Calls PyProof.Rows PyProof.V PySem.SeqAt PySem.W.X

def ftW (m : Int) (t : T) : T := match t with
  | .t l => (match asInts l with | some zs => .t (diffs (-1 :: zs) (zs ++ [m])) | none => t)
  | t => t
theorem asInts_mapI : ∀ (l : List Int), asInts (l.map .i) = some l
  | [] => rfl
  | z :: l => by
    show (match asInts (l.map .i) with | some r => some (z :: r) | none => none) = _
    rw [asInts_mapI l]
theorem ftW_eq (m : Int) (l : List Int) : ftW m (tupI l) = .t (diffs (-1 :: l) (l ++ [m])) := by
  show (match asInts (l.map .i) with | some zs => T.t (diffs (-1 :: zs) (zs ++ [m])) | none => _) = _
  rw [asInts_mapI l]
/-- what the generator gives -/
def rowsW (n np : Int) : List T := ((combsF 0 (n + np - 1).toNat (np - 1).toNat).map tupI).map (ftW (n + np - 1))

section
variable {prog : Program} {w : World} {c : Base prog w}
def WciOk (c : Base prog w) (fa : Addr) (K : Nat) (n np : Int) : Prop := ∀ (A : Around) (s : Shared) (t1 t2 : Tok) (Z : Addr → Prop) (E : Value → Shared → Prop), GA (K + 1) A → Gd c s.heap → Live Z s.heap →
  wpAny (model prog w) A (call (.ref fa) [.int n t1, .int np t2]) (fun v s' => ∃ I gi FPi, v = .ref I ∧ Mvd c (fun _ => False) (fun _ => False) s s' ∧ gi = s.gens.size ∧ s'.gens.size = gi + 1 ∧ s'.heap.IsGen I gi ∧ s.heap.get? I = none ∧ ¬ FPi I ∧
    (∀ b, FPi b → s.heap.get? b = none ∧ ∃ o, s'.heap.get? b = some o) ∧ Go c K Z gi (rowsW n np) FPi (fun g => g = gi) s') E s
theorem wci (hc : c.Ok) {x : Str} {params : Arguments} {sc : Scope} {G : List Str} {fa fb : Addr} {o o' : Obj} {pm cd doc pm' cd' doc' : Value} {names : List Str} {params' : Arguments} {sc' : Scope} {body' : List Stmt} {test1 test2 test3 em el ef b1 b2 b3 ey : Expr} {s1 s2 s3 : List Stmt} {m1 m2 m3 : Str} {x2 y : Str} {q1 q2 q3 u1 u2 u3 v1 v2 v3 p2 np cp yp pp fp2 : Pos} {K : Nat} {n np' : Int}
    {ft1 ft2 ft3 : List X → Option Bool} {fm fl ff : List X → Option T} {gB : List X → Option (List T)}
    (F : FnAt c x params [.If test1 s1 [] q1, .If test2 s2 [] q2, .If test3 s3 [] q3, .Assign [.Name m1 u1] em v1, .Assign [.Name m2 u2] el v2, .Assign [.Name m3 u3] ef v3, .For (.Name x2 p2) (.Call (.Name y np) [b1, b2, b3] [] cp) [.Expr (.Yield (some ey) yp) pp] [] fp2] sc fa o pm cd doc)
    (Fb : FnAt c y params' body' sc' fb o' pm' cd' doc')
    (hI : GenI sc names) (hn : names.length = 2) (hG : ∀ i, i < names.length → G[i]? = names[i]?)
    (hbind : ∀ vs : List Value, vs.length = 2 → bindArgs (docDef x params [.If test1 s1 [] q1, .If test2 s2 [] q2, .If test3 s3 [] q3, .Assign [.Name m1 u1] em v1, .Assign [.Name m2 u2] el v2, .Assign [.Name m3 u3] ef v3, .For (.Name x2 p2) (.Call (.Name y np) [b1, b2, b3] [] cp) [.Expr (.Yield (some ey) yp) pp] [] fp2] sc pm cd doc) ⟨vs, []⟩ = pure (names.zip vs))
    (hT1 : EvB c sc G (K + 1) test1 ft1) (hT2 : EvB c sc G (K + 1) test2 ft2) (hT3 : EvB c sc G (K + 1) test3 ft3)
    (h1 : ft1 [.p (.i n), .p (.i np')] = some false) (h2 : ft2 [.p (.i n), .p (.i np')] = some false) (h3 : ft3 [.p (.i n), .p (.i np')] = some false)
    (hm : Ev c sc G (K + 1) em fm) (hl : Ev c sc G (K + 1) el fl) (hf : Ev c sc G (K + 1) ef ff)
    (h4 : fm [.p (.i n), .p (.i np')] = some (.i (n + np' - 1))) (h5 : fl [.p (.i n), .p (.i np'), .p (.i (n + np' - 1))] = some (.t [.i (n + np' - 1)])) (h6 : ff [.p (.i n), .p (.i np'), .p (.i (n + np' - 1)), .p (.t [.i (n + np' - 1)])] = some (.t [.i (-1)]))
    (g1 : G[2]? = some m1) (i1 : ∀ i, G[i]? = some m1 → i = 2) (k1 : sc.names.lookup m1 = some .local)
    (g2 : G[3]? = some m2) (i2 : ∀ i, G[i]? = some m2 → i = 3) (k2 : sc.names.lookup m2 = some .local)
    (g3 : G[4]? = some m3) (i3 : ∀ i, G[i]? = some m3 → i = 4) (k3 : sc.names.lookup m3 = some .local)
    (w1 : ∀ env, swapsWith em (some (.Name m1 u1)) v1.line env = pure false) (w2 : ∀ env, swapsWith el (some (.Name m2 u2)) v2.line env = pure false) (w3 : ∀ env, swapsWith ef (some (.Name m3 u3)) v3.line env = pure false)
    (hkB : sc.names.lookup y = some .globalImplicit) (hdB : (y == ("__debug__" : Str)) = false) (haB : EvL c sc G (K + 1) [b1, b2, b3] gB) (huB : unstar b1 = true ∧ unstar b2 = true ∧ unstar b3 = true)
    (hfB : gB [.p (.i n), .p (.i np'), .p (.i (n + np' - 1)), .p (.t [.i (n + np' - 1)]), .p (.t [.i (-1)])] = some [.i 0, .i (n + np' - 1), .i (np' - 1)])
    (hsB : ∀ (env : Env) (v : Value), foldedSetIterable (.Call (.Name y np) [b1, b2, b3] [] cp) env v = pure v)
    (hj2 : G[5]? = some x2) (hu2 : ∀ i, G[i]? = some x2 → i = 5) (hk2 : sc.names.lookup x2 = some .local)
    (hY : ∀ (A : Around) (s : Shared) (env : Env) (l : List Int) (E : Value → Shared → Prop) (Z : Addr → Prop), l.length ≤ 900 → env.code = cd → EnvI sc env → GA (K + 1) A → Gd c s.heap → Live Z s.heap → FrE c Z s.heap env G (setN [.p (.i n), .p (.i np'), .p (.i (n + np' - 1)), .p (.t [.i (n + np' - 1)]), .p (.t [.i (-1)])] 5 (.p (tupI l))) →
      wpAny (model prog w) A (eval ey env) (fun v s' => Mvd0 c s s' ∧ Rep ⟨c.a, Z⟩ s'.heap (.t (diffs (-1 :: l) (l ++ [n + np' - 1]))) v) E s)
    (hn0 : 0 ≤ n) (hp0 : 1 ≤ np') (hb : n + np' ≤ 100) (IH : CombOk c fb K (np' - 1).toNat) : WciOk c fa (K + 2) n np' := by
  intro A s t1 t2 Z E hA hx hZ
  refine call_genfn hc F hI hx hA.room (hbind _ rfl) fun I L g env h' tk hg hL hE hcd keep hLn hIn hIL hgen hns => ?_
  subst hL
  have hxs' : Gd c h' := ext_sub hx keep
  generalize hbody : [Stmt.If test1 s1 [] q1, .If test2 s2 [] q2, .If test3 s3 [] q3, .Assign [.Name m1 u1] em v1, .Assign [.Name m2 u2] el v2, .Assign [.Name m3 u3] ef v3, .For (.Name x2 p2) (.Call (.Name y np) [b1, b2, b3] [] cp) [.Expr (.Yield (some ey) yp) pp] [] fp2] = body
  have hge : (s.gens.push (GenState.fresh (.func body env)))[g]? = some (.fresh (.func body env)) := by rw [hg]; exact Array.getElem?_push_size ..
  refine ⟨I, g, fun b => b = env.locals, rfl, ⟨rfl, rfl, fun b o e _ _ => keep b o e, hxs', fun g' _ h => ?_, by simp, fun b o e => ⟨o, keep b o e⟩⟩, hg, by rw [hg]; simp, hgen, hIn, hIL, fun b hb => ?_, ?_⟩
  · show (s.gens.push _)[g']? = _
    rw [Array.getElem?_push, if_neg (Nat.ne_of_lt h)]
  · subst hb
    exact ⟨hLn, by obtain ⟨o, _, _, e, _⟩ := hns; exact ⟨o, e⟩⟩
  have hL0 : ∀ o, c.h₀.get? env.locals = some o → False := fun o e => by
    by_cases q : env.locals = c.P
    · obtain ⟨o', e', _⟩ := hx.2; rw [← q, hLn] at e'; cases e'
    · have := hx.1 _ o q e; rw [hLn] at this; cases this
  have hY' : ∀ (A : Around) (s : Shared) (t : T) (E : Value → Shared → Prop), (∃ l, t = tupI l ∧ l.length ≤ 900) → GA (K + 1) A → Gd c s.heap → Live Z s.heap → FrE c Z s.heap env G (setN [.p (.i n), .p (.i np'), .p (.i (n + np' - 1)), .p (.t [.i (n + np' - 1)]), .p (.t [.i (-1)])] 5 (.p t)) →
      wpAny (model prog w) A (eval ey env) (fun v s' => Mvd0 c s s' ∧ Rep ⟨c.a, Z⟩ s'.heap (ftW (n + np' - 1) t) v) E s := by
    rintro A s _ E ⟨l, rfl, hll⟩ hA hx hZ hF
    rw [ftW_eq]
    exact hY A s env l E Z hll hcd hE hA hx hZ hF
  refine go_mk rfl hge (.inl ⟨rfl, rfl, rfl⟩) fun A' s₂ hA' hx₂ hZ₂ hH => ?_
  have M : Me c g Z (fun b => b = env.locals) (fun g' => g' = g) (fun _ => False) s₂ (s₂.setGen g .running) env G (mapP [.i n, .i np']) :=
    Me.first (gs := .fresh (.func body env)) (s := s) hE hI hG hx₂ hZ₂ hZ hx hLn hns (by rw [hn]; rfl) (fun i t ht => by
      match i, ht with
      | 0, ht => cases ht; exact ⟨_, _, rfl, rfl⟩
      | 1, ht => cases ht; exact ⟨_, _, rfl, rfl⟩) hge hH
  have hAo : GA (K + 1) (A'.over (.func body env) []) := hA'.over (fun o => rfl) (by show 0 + 1 ≤ 1; decide) (by show 0 + 3 ≤ 10; decide)
  have nd2 : ∀ i kv, nth ([.p (.i n), .p (.i np')] : List X) i ≠ .d kv := fun i kv h => by rcases i with _ | _ | i <;> cases h
  have nd3 : ∀ i kv, nth ([.p (.i n), .p (.i np'), .p (.i (n + np' - 1))] : List X) i ≠ .d kv := fun i kv h => by rcases i with _ | _ | _ | i <;> cases h
  have nd4 : ∀ i kv, nth ([.p (.i n), .p (.i np'), .p (.i (n + np' - 1)), .p (.t [.i (n + np' - 1)])] : List X) i ≠ .d kv := fun i kv h => by rcases i with _ | _ | _ | _ | i <;> cases h
  have nd5 : ∀ i kv, nth ([.p (.i n), .p (.i np'), .p (.i (n + np' - 1)), .p (.t [.i (n + np' - 1)]), .p (.t [.i (-1)])] : List X) i ≠ .d kv := fun i kv h => by rcases i with _ | _ | _ | _ | _ | i <;> cases h
  subst hbody
  refine sx_func (sx_execs_cons (sx_If (wpAny_mono (hT1.go _ env _ _ false _ Z hAo hE M.m.gd M.live M.read h1) (fun v s₃ p => ?_) fun _ _ y => y)))
  obtain ⟨rfl, k₃⟩ := p
  have M₃ := M.step0 (Mvd0.kp M.m.gd k₃) nd2 (fun _ h => h.elim)
  refine sx_execs_nil (sx_execs_cons (sx_If (wpAny_mono (hT2.go _ env _ _ false _ Z hAo hE M₃.m.gd M₃.live M₃.read h2) (fun v s₄ p => ?_) fun _ _ y => y)))
  obtain ⟨rfl, k₄⟩ := p
  have M₄ := M₃.step0 (Mvd0.kp M₃.m.gd k₄) nd2 (fun _ h => h.elim)
  refine sx_execs_nil (sx_execs_cons (sx_If (wpAny_mono (hT3.go _ env _ _ false _ Z hAo hE M₄.m.gd M₄.live M₄.read h3) (fun v s₅ p => ?_) fun _ _ y => y)))
  obtain ⟨rfl, k₅⟩ := p
  have M₅ := M₄.step0 (Mvd0.kp M₄.m.gd k₅) nd2 (fun _ h => h.elim)
  refine sx_execs_nil (sx_execs_cons (sx_Assign (wpAny_mono (M₅.assign hAo hE hm h4 g1 i1 k1 nd2 hL0 (w1 env)) (fun fl s₆ p => ?_) fun _ _ y => y)))
  obtain ⟨rfl, M₆⟩ := p
  refine sx_execs_cons (sx_Assign (wpAny_mono (M₆.assign hAo hE hl h5 g2 i2 k2 nd3 hL0 (w2 env)) (fun fl s₇ p => ?_) fun _ _ y => y))
  obtain ⟨rfl, M₇⟩ := p
  refine sx_execs_cons (sx_Assign (wpAny_mono (M₇.assign hAo hE hf h6 g3 i3 k3 nd4 hL0 (w3 env)) (fun fl s₈ p => ?_) fun _ _ y => y))
  obtain ⟨rfl, M₈⟩ := p
  refine sx_execs_cons (sx_For ?_ (hsB env))
  refine Call_ (load_glob hc hE M₈.m.gd Fb.glob hkB ?_ hdB)
  refine callWith_plain (c := c) Fb.plain (star_cons huB.1 env) (noStar_two huB.2.1 huB.2.2 env cp) (wpAny_mono (haB.go _ env _ _ _ _ Z hAo hE M₈.m.gd M₈.live M₈.read hfB cp) (fun vs s₉ ⟨k₉, r₉⟩ => ⟨ext_sub M₈.m.gd k₉.sub, ?_⟩) fun _ _ y => y)
  obtain ⟨z1, vr, rfl, ⟨e1, rfl⟩, z2, vr2, rfl, ⟨e2, rfl⟩, r5⟩ := r₉
  obtain ⟨z3, rfl, e3, rfl⟩ := reps_one r5
  have M₉ := M₈.step0 (Mvd0.kp M₈.m.gd k₉) nd5 (fun _ h => h.elim)
  have hcall := fun E' => IH _ s₉ 0 (n + np' - 1).toNat e1 e2 e3 Z E' hAo M₉.m.gd M₉.live (by omega) (by omega)
  rw [show (0 : Int) + ((n + np' - 1).toNat : Int) = n + np' - 1 from by omega, show (((np' - 1).toNat : Nat) : Int) = np' - 1 from by omega] at hcall
  refine wpAny_mono (hcall _) (fun v s₁₀ p => ?_) fun _ _ y => y
  obtain ⟨I', gi, FPi, rfl, m₅, hgi, hsz₅, hgen₅, hI'n, hI'F, hFPi, Go₅⟩ := p
  refine wpAny_pyIter_gen hgen₅ fun pq => ?_
  have hszs : s₂.gens.size ≤ s₉.gens.size := by have := M₉.m.size; rw [setGen_size] at this; exact this
  have M₁₀ : Me c g Z (fun b => b = env.locals) (fun g' => g' = g) (fun g' => g' = gi) s₂ s₁₀ env G [.p (.i n), .p (.i np'), .p (.i (n + np' - 1)), .p (.t [.i (n + np' - 1)]), .p (.t [.i (-1)])] := M₉.step m₅ (fun _ h => h.elim) (fun _ h => h.elim) id nd5 id (fun q => M₉.notP (q ▸ M₉.loc)) fun g' h hne ha h1 => by
    exfalso
    rcases h1 with h1 | h1 | h1
    · exact h1
    · rcases h with h | ⟨_, h⟩
      · exact absurd (Nat.lt_of_lt_of_le (M₉.gr _ h) hszs) (Nat.not_lt.mpr h1)
      · exact ha (by omega)
    · exact h1
  have hlocl : ∃ o, s₉.heap.get? env.locals = some o := by obtain ⟨mm, ⟨o, _, _, e, _⟩, _⟩ := M₉.fr; exact ⟨o, e⟩
  have new0 : ∀ b, s₉.heap.get? b = none → s₂.heap.get? b = none := fun b hb => by
    cases q : s₂.heap.get? b with
    | none => rfl
    | some o => obtain ⟨o', e'⟩ := M₉.m.live b o q; rw [hb] at e'; cases e'
  obtain ⟨oI, nmI, qnI, eI, rI⟩ := id hgen₅
  have hIL' : I' ≠ env.locals := fun q => by obtain ⟨o, e⟩ := hlocl; rw [q, e] at hI'n; cases hI'n
  have hIo : FPn (fun b => b = env.locals) s₂ s₁₀ I' := .inr ⟨new0 _ hI'n, oI, eI⟩
  rw [show rowsW n np' = ((combsF 0 (n + np' - 1).toNat (np' - 1).toNat).map tupI).map (ftW (n + np' - 1)) ++ [] from (List.append_nil _).symm]
  refine gen_loop (c := c) hc (k := K + 1) (ki := K) (K := K + 2) (j := 5) (r := [.p (.i n), .p (.i np'), .p (.i (n + np' - 1)), .p (.t [.i (n + np' - 1)]), .p (.t [.i (-1)])]) (FT := ftW (n + np' - 1)) (xb := I') (xo := oI) (PT := fun t => ∃ l, t = tupI l ∧ l.length ≤ 900) (rest := [])
    hE hI.co hj2 hu2 hk2 nd5 hL0 (fun A s t E ht hA hx hZ hF => hY' A s t E ht hA hx hZ hF) rfl rfl (Nat.le_refl _) (fun A it h => h.over (fun o => rfl) (by show 0 + (1 + 0) + 0 ≤ 1; decide) (by show 0 + (3 + 0) + 0 ≤ 10; decide)) hIL' (fun A₆ FP₆ GF₆ s₆₀ s₆ hA₆ M₆ hX₆ hXo₆ => ?_)
    _ A' _ FPi _ (fun g' => g' = gi) s₂ s₁₀ I' gi hA' (M₁₀.forget fun i => ?_) Go₅ hgen₅ hI'F hIo (fun h => ?_) (fun b h => .inr ⟨new0 _ (hFPi b h).1, (hFPi b h).2⟩) (fun g' h => by subst h; exact .inr ⟨by omega, by omega⟩) (fun h => ?_) eI hIo hI'F (fun t ht => ?_)
  · exact s_end prog w A₆ _ _ _ (.ok (.ret .none)) _ rfl ⟨rfl, M₆.m, fun g' h hne => M₆.fin g' h hne id⟩
  · rcases i with _ | _ | _ | _ | _ | _ | i <;> first | exact .inl rfl | exact .inr rfl
  · obtain ⟨o, e⟩ := hlocl
    rw [(hFPi _ h).1] at e; cases e
  · have := M₁₀.g2
    omega
  · obtain ⟨l, hl, rfl⟩ := List.mem_map.mp ht
    exact ⟨l, rfl, by rw [combsF_len hl]; omega⟩
end
end Mine

namespace Mine
open PySem PySem.Calls PyProof.Rows PyProof.V PySem.SeqAt PySem.W.X

def Flat (t : T) : Prop := ∃ l : List Int, t = .t (l.map .i)
theorem repsI_any {q q' : Vw} {h h' : Heap} : ∀ (l : List Int) (vs : List Value), Reps q h (l.map .i) vs → Reps q' h' (l.map .i) vs
  | [], vs, r => r
  | z :: l, vs, ⟨v, r, e, hv, hr⟩ => ⟨v, r, e, hv, repsI_any l r hr⟩
theorem Rep.flat {q : Vw} {h h' : Heap} (hk : ∀ b o, o.cls = .type "tuple" → h.get? b = some o → h'.get? b = some o) {t : T} {v : Value} (f : Flat t) (r : Rep q h t v) : Rep q h' t v := by
  obtain ⟨l, rfl⟩ := f
  obtain ⟨b, items, e, ⟨n, hn⟩, hr, z⟩ := r
  exact ⟨b, items, e, ⟨n, hk _ _ rfl hn⟩, repsI_any l _ hr, z⟩
theorem Reps.flat {q : Vw} {h h' : Heap} (hk : ∀ b o, o.cls = .type "tuple" → h.get? b = some o → h'.get? b = some o) : ∀ {l : List T} {vs : List Value}, (∀ t ∈ l, Flat t) → Reps q h l vs → Reps q h' l vs
  | [], _, _, r => r
  | t :: l, _, f, ⟨v, r, e, hv, hr⟩ => ⟨v, r, e, Rep.flat hk (f t List.mem_cons_self) hv, Reps.flat hk (fun t h => f t (List.mem_cons_of_mem _ h)) hr⟩

section
variable {prog : Program} {w : World} {c : Base prog w}
theorem Mvd.kept {q : Vw} {FP : Addr → Prop} {GF : Nat → Prop} {s s' : Shared} (m : Mvd c FP GF s s') (hx : Gd c s.heap) : Kept q s.heap s'.heap := fun b o _ hd e => by
  by_cases hP : b = c.P
  · exfalso
    obtain ⟨o', e', n, _⟩ := hx.2
    rw [hP, e'] at e; cases e
    obtain ⟨it, n', hd⟩ := hd
    exact n _ _ hd
  · exact m.heap b o e (.inr hd) hP
theorem Mvd.upd {s₀ s₁ : Shared} {S : Addr} {h' : Heap} {tk : Nat} (m : Mvd c (fun _ => False) (fun _ => False) s₀ s₁) (hx0 : Gd c s₀.heap) (hS : s₀.heap.get? S = none) (hs : Heap.SameBut S s₁.heap h') : Mvd c (fun _ => False) (fun _ => False) s₀ { s₁ with heap := h', toks := tk } where
  drawn := m.drawn
  os := m.os
  heap := fun b o e h hP => hs.extBut b o (fun q => by have q : b = S := q; rw [q, hS] at e; cases e) (m.heap b o e h hP)
  gd := ⟨fun b o hb e => hs.extBut b o (fun q => by have q : b = S := q; have := hx0.1 b o hb e; rw [q, hS] at this; cases this) (m.gd.1 b o hb e), by
    obtain ⟨o, e, r⟩ := m.gd.2
    exact ⟨o, hs.extBut _ _ (fun q => by have q : c.P = S := q; obtain ⟨o', e', _⟩ := hx0.2; rw [q, hS] at e'; cases e') e, r⟩⟩
  gens := m.gens
  size := m.size
  live := fun b o e => by
    have q : b ≠ S := fun q => by rw [q, hS] at e; cases e
    obtain ⟨o', e'⟩ := m.live b o e
    exact ⟨o', hs.extBut b o' q e'⟩

/-- a list that is being filled by a generator -/
structure Ex (c : Base prog w) (k : Nat) (Z : Addr → Prop) (g : Nat) (I S : Addr) (s₀ : Shared) (ts done : List T) (acc : Array Value) (cc : Nat) (s : Shared) (FP : Addr → Prop) (GF : Nat → Prop) : Prop where
  m : Mvd c (fun _ => False) (fun _ => False) s₀ s
  go : Go c k Z g ts FP GF s
  hI : s.heap.IsGen I g
  nI : ¬ FP I
  I0 : s₀.heap.get? I = none
  hF : ∀ b, FP b → s₀.heap.get? b = none ∧ ∃ o, s.heap.get? b = some o
  hG : ∀ g', GF g' ↔ s₀.gens.size ≤ g' ∧ g' < s.gens.size
  hS : s.heap.get? S = some { cls := .type "list", dict := none, data := .seq acc cc, slots := #[] }
  nS : ¬ FP S
  S0 : s₀.heap.get? S = none
  reps : Reps ⟨c.a, Z⟩ s.heap done acc.toList

theorem Ex.step {k g : Nat} {Z : Addr → Prop} {I S : Addr} {s₀ s s₁ : Shared} {t : T} {ts done : List T} {acc : Array Value} {cc cc' : Nat} {FP : Addr → Prop} {GF : Nat → Prop} {v : Value} {h₂ : Heap} {tk : Nat} (X : Ex c k Z g I S s₀ (t :: ts) done acc cc s FP GF)
    (hx0 : Gd c s₀.heap) (m₁ : Mvd c FP GF s s₁) (hr : Rep ⟨c.a, Z⟩ s₁.heap t v) (G₁ : Go c k Z g ts (FPn FP s s₁) (GFn GF s s₁) s₁) (hs : Heap.SameBut S s₁.heap h₂) (hS₂ : h₂.get? S = some { cls := .type "list", dict := none, data := .seq (acc.push v) cc', slots := #[] })
    (fd : ∀ t ∈ done, Flat t) (ft : Flat t) : Ex c k Z g I S s₀ ts (done ++ [t]) (acc.push v) cc' { s₁ with heap := h₂, toks := tk } (FPn FP s s₁) (GFn GF s s₁) := by
  have hSP : S ≠ c.P := fun q => by obtain ⟨o', e', _⟩ := hx0.2; rw [← q, X.S0] at e'; cases e'
  have hIP : I ≠ c.P := fun q => by obtain ⟨o', e', _⟩ := hx0.2; rw [← q, X.I0] at e'; cases e'
  obtain ⟨oI, nm, qn, eI, rI⟩ := id X.hI
  have hIS : I ≠ S := fun q => by
    rw [q, X.hS] at eI; cases eI
    have := rI.2.1
    cases this
  have hS₁ : s₁.heap.get? S = some { cls := .type "list", dict := none, data := .seq acc cc, slots := #[] } := m₁.heap _ _ X.hS (.inl X.nS) hSP
  have nS₁ : ¬ FPn FP s s₁ S := fun h => by
    rcases h with h | ⟨h, _⟩
    · exact X.nS h
    · rw [X.hS] at h; cases h
  have tup : ∀ b o, o.cls = .type "tuple" → s₁.heap.get? b = some o → h₂.get? b = some o := fun b o hc e => hs.extBut b o (fun q => by
    have q : b = S := q
    rw [q, hS₁] at e; cases e
    exact absurd (show Value.type "list" = Value.type "tuple" from hc) (by decide)) e
  have mm := X.m.trans m₁ (fun b h => .inr (X.hF b h)) (fun g' h => .inr ((X.hG g').1 h))
  refine { m := mm.upd hx0 X.S0 hs, go := G₁.hold ⟨fun b o h e => hs.extBut b o (fun q => by have q : b = S := q; subst q; exact nS₁ h) e, fun _ _ => rfl⟩,
           hI := ⟨oI, nm, qn, hs.extBut _ _ hIS (m₁.heap _ _ eI (.inl X.nI) hIP), rI⟩, nI := fun h => ?_, I0 := X.I0, hF := fun b h => ?_, hG := fun g' => ?_, hS := hS₂, nS := nS₁, S0 := X.S0, reps := ?_ }
  · rcases h with h | ⟨h, _⟩
    · exact X.nI h
    · rw [eI] at h; cases h
  · have lv : ∀ o, s₁.heap.get? b = some o → ∃ o, h₂.get? b = some o := fun o e => by
      by_cases q : b = S
      · rw [q]; exact ⟨_, hS₂⟩
      · exact ⟨o, hs.extBut b o q e⟩
    rcases h with h | ⟨h, o, e⟩
    · obtain ⟨h1, o, e⟩ := X.hF b h
      obtain ⟨o', e'⟩ := m₁.live b o e
      exact ⟨h1, lv o' e'⟩
    · refine ⟨?_, lv o e⟩
      cases q : s₀.heap.get? b with
      | none => rfl
      | some o' => obtain ⟨o₂, e₂⟩ := X.m.live b o' q; rw [h] at e₂; cases e₂
  · have h1 := X.m.size
    have h2 := m₁.size
    show (GF g' ∨ (s.gens.size ≤ g' ∧ g' < s₁.gens.size)) ↔ _
    rw [X.hG g']
    show _ ↔ s₀.gens.size ≤ g' ∧ g' < s₁.gens.size
    omega
  · show Reps _ h₂ _ _
    rw [Array.toList_push]
    exact Reps.snoc (Reps.flat tup fd (Reps.mono' (m₁.kept X.m.gd) _ _ X.reps)) (Rep.flat tup ft hr)

theorem ext_loop (hc : c.Ok) {k g : Nat} {Z : Addr → Prop} {I S : Addr} {res : Value} {s₀ : Shared} {A : Around} {R : Result → Shared → Prop} (hA : GA (k + 2) A) (hx0 : Gd c s₀.heap) (hZ : Live Z s₀.heap) : ∀ (ts : List T) (s : Shared) (acc : Array Value) (cc : Nat) (done : List T) (FP : Addr → Prop) (GF : Nat → Prop),
    Ex c k Z g I S s₀ ts done acc cc s FP GF → (∀ t ∈ ts, Flat t) → (∀ t ∈ done, Flat t) → done.length + ts.length ≤ 1000 →
    (∀ s' acc' cc', Mvd0 c s₀ s' → s'.heap.get? S = some { cls := .type "list", dict := none, data := .seq acc' cc', slots := #[] } → Reps ⟨c.a, Z⟩ s'.heap (done ++ ts) acc'.toList → R (.ok (.ret res)) s') →
    codeAny (model prog w) A (.builtin "list.extend.loop" ⟨[.ref S, .ref I, res], []⟩) R s := by
  intro ts
  induction ts with
  | nil =>
    intro s acc cc done FP GF X ft fd hl hR
    refine codeAny_builtin PySem.F.entry_extend_loop ?_
    rw [Around.under_plainId PySem.F.plain_extend_loop _]
    show wpAny _ A.in1 (pyNext (.ref I) >>= _) _ _ s
    have hZs : Live Z s.heap := fun b hb => let ⟨o, e⟩ := hZ b hb; X.m.live b o e
    have hSP : S ≠ c.P := fun q => by obtain ⟨o', e', _⟩ := hx0.2; rw [← q, X.S0] at e'; cases e'
    refine wpAny_bind (go_end hc hA.in1 X.m.gd hZs X.hI X.go (Hold.refl _ _ _) fun s₁ m₁ hb => ?_)
    have mm := X.m.trans m₁ (fun b h => .inr (X.hF b h)) (fun g' h => .inr ((X.hG g').1 h))
    refine wpAny_pure (hR s₁ acc cc ⟨mm, fun g' h1 h2 => hb g' ?_⟩ (m₁.heap _ _ X.hS (.inl X.nS) hSP) ?_)
    · by_cases q : g' < s.gens.size
      · exact .inl ((X.hG g').2 ⟨h1, q⟩)
      · exact .inr ⟨Nat.le_of_not_lt q, h2⟩
    · rw [List.append_nil]
      exact Reps.mono' (m₁.kept X.m.gd) _ _ X.reps
  | cons t ts ih =>
    intro s acc cc done FP GF X ft fd hl hR
    refine codeAny_builtin PySem.F.entry_extend_loop ?_
    rw [Around.under_plainId PySem.F.plain_extend_loop _]
    show wpAny _ A.in1 (pyNext (.ref I) >>= _) _ _ s
    have hZs : Live Z s.heap := fun b hb => let ⟨o, e⟩ := hZ b hb; X.m.live b o e
    have hSP : S ≠ c.P := fun q => by obtain ⟨o', e', _⟩ := hx0.2; rw [← q, X.S0] at e'; cases e'
    refine wpAny_bind (go_item hc hA.in1 X.m.gd hZs X.hI X.go (Hold.refl _ _ _) fun v s₁ m₁ hr G₁ => ?_)
    have hS₁ : s₁.heap.get? S = some { cls := .type "list", dict := none, data := .seq acc cc, slots := #[] } := m₁.heap _ _ X.hS (.inl X.nS) hSP
    show wpAny _ A.in1 (updateSeq S (·.push v) >>= _) _ _ _
    have hlen := X.reps.length
    rw [Array.length_toList] at hlen
    rw [List.length_cons] at hl
    refine wpAny_bind ?_
    refine wpAny_updateSeq hS₁ rfl (wpAny_pure ⟨plainId_quiet PySem.F.plain_extend_loop _, ih { s₁ with heap := s₁.heap.update S (Obj.mapSeq (·.push v)) } (acc.push v) _ (done ++ [t]) _ _
      (X.step (tk := s₁.toks) hx0 m₁ hr G₁ (Heap.SameBut.update ..) (Heap.get?_update_self _ hS₁ rfl) fd (ft t List.mem_cons_self)) (fun t h => ft t (List.mem_cons_of_mem _ h)) (fun t' h => ?_) ?_ fun s' acc' cc' a b d => ?_⟩)
      (by rw [sizeLine_eq]; omega) (by show (acc.push v).size ≤ sizeLine + 1; rw [Array.size_push, sizeLine_eq]; omega)
    · rcases List.mem_append.mp h with h | h
      · exact fd t' h
      · cases List.mem_singleton.mp h; exact ft t List.mem_cons_self
    · rw [List.length_append, List.length_singleton]; omega
    · refine hR s' acc' cc' a b ?_
      rw [List.append_assoc] at d
      exact d
end
end Mine

namespace Mine
open PySem PySem.Calls PyProof.Rows PyProof.V PySem.SeqAt PySem.W.X

section
variable {prog : Program} {w : World} {c : Base prog w}
theorem Ex.upd {k g : Nat} {Z : Addr → Prop} {I S : Addr} {s₀ s : Shared} {ts : List T} {acc : Array Value} {cc cc' : Nat} {FP : Addr → Prop} {GF : Nat → Prop} {h₂ : Heap} (X : Ex c k Z g I S s₀ ts [] acc cc s FP GF)
    (hx0 : Gd c s₀.heap) (hs : Heap.SameBut S s.heap h₂) (hS₂ : h₂.get? S = some { cls := .type "list", dict := none, data := .seq #[] cc', slots := #[] }) : Ex c k Z g I S s₀ ts [] #[] cc' { s with heap := h₂ } FP GF := by
  obtain ⟨oI, nm, qn, eI, rI⟩ := id X.hI
  have hIS : I ≠ S := fun q => by
    rw [q, X.hS] at eI; cases eI
    have := rI.2.1
    cases this
  refine { m := X.m.upd hx0 X.S0 hs, go := X.go.hold ⟨fun b o h e => hs.extBut b o (fun q => by have q : b = S := q; subst q; exact X.nS h) e, fun _ _ => rfl⟩,
           hI := ⟨oI, nm, qn, hs.extBut _ _ hIS eI, rI⟩, nI := X.nI, I0 := X.I0, hF := fun b h => ⟨(X.hF b h).1, ?_⟩, hG := X.hG, hS := hS₂, nS := X.nS, S0 := X.S0, reps := rfl }
  obtain ⟨_, o, e⟩ := X.hF b h
  by_cases q : b = S
  · rw [q]; exact ⟨_, hS₂⟩
  · exact ⟨o, hs.extBut b o q e⟩

theorem ext_start (hc : c.Ok) {k g : Nat} {Z : Addr → Prop} {I S : Addr} {res : Value} {s₀ s : Shared} {A : Around} {R : Result → Shared → Prop} {ts : List T} {cc : Nat} {FP : Addr → Prop} {GF : Nat → Prop} (hA : GA (k + 2) A) (hx0 : Gd c s₀.heap) (hZ : Live Z s₀.heap)
    (X : Ex c k Z g I S s₀ ts [] #[] cc s FP GF) (ft : ∀ t ∈ ts, Flat t) (hl : ts.length ≤ 1000)
    (hR : ∀ s' acc' cc', Mvd0 c s₀ s' → s'.heap.get? S = some { cls := .type "list", dict := none, data := .seq acc' cc', slots := #[] } → Reps ⟨c.a, Z⟩ s'.heap ts acc'.toList → R (.ok (.ret res)) s') :
    wpAny (model prog w) A.in1 (Builtin.List.listExtendWith (.ref S) (.ref I) res)
      (fun fin s' => match fin with | .done f => R (.ok f) s' | .again c' => c'.quiet = true ∧ codeAny (model prog w) A c' R s') (fun e s' => R (.error e) s') s := by
  have hT : s.TypeIs (.ref I) "generator" := X.hI.typeIs
  obtain ⟨oI, nm, qn, eI, rI⟩ := id X.hI
  have hSI : S ≠ I := fun q => by
    rw [← q, X.hS] at eI; cases eI
    have := rI.2.1
    cases this
  unfold Builtin.List.listExtendWith
  refine wpAny_bind (wpAny_typeOf hT ?_)
  have h1 : Builtin.List.listSameRef (.ref S) (.ref I) = false := by simp [Builtin.List.listSameRef, hSI]
  have h2 : (Value.type "generator" == Value.type "list") = false := by decide
  have h3 : (Value.type "generator" == Value.type "tuple") = false := by decide
  simp only [h1, h2, h3, Bool.or_false, Bool.false_eq_true, if_false]
  refine wpAny_bind (wpAny_pyIter_gen X.hI ?_)
  refine wpAny_bind (wpAny_holding ?_)
  unfold Builtin.List.listLengthHint
  refine wpAny_bind (wpAny_specialOf hT PySem.F.gen_no_len ?_)
  show wpAny _ A.in1 (specialOf (Value.ref I) (Str.ofString "__length_hint__") >>= _) _ _ _
  refine wpAny_bind (wpAny_specialOf hT PySem.F.gen_no_hint ?_)
  refine wpAny_pure ?_
  show wpAny _ A.in1 (rule "list.extend.makes-room" >>= fun _ => Builtin.List.listTouch (.ref S) >>= fun _ =>
    again (.builtin "list.extend.loop" ⟨[.ref S, .ref I, res], []⟩)) _ _ _
  refine wpAny_bind (wpAny_rule ?_)
  refine wpAny_bind ?_
  show wpAny _ A.in1 (updateSeq S (·.push .none) >>= fun _ => updateSeq S (·.pop)) _ _ _
  refine wpAny_bind (wpAny_updateSeq X.hS rfl ?_)
  have hS₂ := Heap.get?_update_self (Obj.mapSeq (·.push Value.none)) X.hS rfl
  refine wpAny_updateSeq (hz := by seq_fits) hS₂ rfl ?_
  have hS₃ := Heap.get?_update_self (Obj.mapSeq (·.pop)) hS₂ rfl
  have sb : Heap.SameBut S s.heap ((s.heap.update S (Obj.mapSeq (·.push Value.none))).update S (Obj.mapSeq (·.pop))) := (Heap.SameBut.update ..).trans (Heap.SameBut.update ..)
  refine wpAny_pure ⟨plainId_quiet PySem.F.plain_extend_loop _, ext_loop hc hA hx0 hZ ts _ #[] _ [] FP GF (X.upd hx0 sb hS₃) ft (fun _ h => nomatch h) (by simpa using hl) fun s' acc' cc' a b d => hR s' acc' cc' a b d⟩

theorem list_init_go (hc : c.Ok) {k g : Nat} {Z : Addr → Prop} {I S : Addr} {s₀ s : Shared} {A : Around} {R : Result → Shared → Prop} {ts : List T} {cc : Nat} {FP : Addr → Prop} {GF : Nat → Prop} (hA : GA (k + 2) A) (hx0 : Gd c s₀.heap) (hZ : Live Z s₀.heap)
    (X : Ex c k Z g I S s₀ ts [] #[] cc s FP GF) (ft : ∀ t ∈ ts, Flat t) (hl : ts.length ≤ 1000)
    (hR : ∀ s' acc' cc', Mvd0 c s₀ s' → s'.heap.get? S = some { cls := .type "list", dict := none, data := .seq acc' cc', slots := #[] } → Reps ⟨c.a, Z⟩ s'.heap ts acc'.toList → R (.ok (.ret .none)) s') :
    wpAny (model prog w) A.in1 (Builtin.«list.__init__» ⟨[.ref S, .ref I], []⟩)
      (fun fin s' => match fin with | .done f => R (.ok f) s' | .again c' => c'.quiet = true ∧ codeAny (model prog w) A c' R s') (fun e s' => R (.error e) s') s := by
  show wpAny _ A.in1 (do let old ← Builtin.List.listItems (.ref S); Builtin.List.listUpdate (.ref S) (fun _ => #[]); letGo old.toList.reverse; Builtin.List.listExtendWith (.ref S) (.ref I) .none) _ _ s
  refine wpAny_bind ?_
  unfold Builtin.List.listItems
  refine wpAny_bind (wpAny_seqItems X.hS rfl (wpAny_pure ?_))
  show wpAny _ A.in1 (updateSeq S (fun _ => #[]) >>= fun _ => letGo (#[] : Array Value).toList.reverse >>= fun _ => Builtin.List.listExtendWith (.ref S) (.ref I) .none) _ _ s
  refine wpAny_bind (wpAny_updateSeq X.hS rfl ?_)
  have hS₂ := Heap.get?_update_self (Obj.mapSeq (fun _ => (#[] : Array Value))) X.hS rfl
  refine wpAny_bind (wpAny_letGo ?_)
  exact ext_start hc hA hx0 hZ (X.upd hx0 (Heap.SameBut.update ..) hS₂) ft hl hR

theorem call_list_go (hc : c.Ok) {A : Around} {E : Value → Shared → Prop} {k g : Nat} {Z : Addr → Prop} {I : Addr} {s₀ s : Shared} {ts : List T} {FP : Addr → Prop} {Q : Value → Shared → Prop} (hA : GA (k + 3) A) (hx0 : Gd c s₀.heap) (hZ : Live Z s₀.heap)
    (m : Mvd c (fun _ => False) (fun _ => False) s₀ s) (hg : g = s₀.gens.size) (hgs : s.gens.size = g + 1) (hI : s.heap.IsGen I g) (I0 : s₀.heap.get? I = none) (nI : ¬ FP I) (hF : ∀ b, FP b → s₀.heap.get? b = none ∧ ∃ o, s.heap.get? b = some o)
    (G : Go c k Z g ts FP (fun g' => g' = g) s) (ft : ∀ t ∈ ts, Flat t) (hl : ts.length ≤ 1000) (hQ : ∀ v s', Mvd0 c s₀ s' → Rep ⟨c.a, Z⟩ s'.heap (.l ts) v → Q v s') :
    wpAny (model prog w) A (call (.type "list") [.ref I]) Q E s := by
  refine callType_codes (Q₁ := fun obj s₁ => obj = .ref s.heap.objs.size ∧ s₁ = { s with heap := s.heap.push { cls := .type "list", data := .seq #[] } }) PySem.F.called_list (PySem.F.typeCall_list_1 _) PySem.F.entry_list_init
    (code_list_new _ ⟨rfl, rfl⟩) fun obj s₁ h₁ => ?_
  obtain ⟨rfl, rfl⟩ := h₁
  have hS : (s.heap.push { cls := .type "list", data := .seq #[] }).get? s.heap.objs.size = some { cls := .type "list", data := .seq #[] } := Heap.get?_push_size _ rfl
  have hn := get_size s.heap
  have S0 : s₀.heap.get? s.heap.objs.size = none := by
    cases q : s₀.heap.get? s.heap.objs.size with
    | none => rfl
    | some o => obtain ⟨o', e'⟩ := m.live _ o q; rw [hn] at e'; cases e'
  have hsub := sub_push s.heap { cls := .type "list", data := .seq #[] }
  have X : Ex c k Z g I s.heap.objs.size s₀ ts [] #[] 0 { s with heap := s.heap.push { cls := .type "list", data := .seq #[] } } FP (fun g' => g' = g) :=
    { m := m.trans (Mvd.kp (FP := fun _ => False) (GF := fun _ => False) m.gd (Kp.mk' (tk := s.toks) hsub)) (fun _ h => h.elim) (fun _ h => h.elim), go := G.hold ⟨fun b o _ e => hsub b o e, fun _ _ => rfl⟩, hI := (by obtain ⟨oI, nm, qn, eI, rI⟩ := hI; exact ⟨oI, nm, qn, hsub _ _ eI, rI⟩),
      nI := nI, I0 := I0, hF := fun b h => ⟨(hF b h).1, let ⟨o, e⟩ := (hF b h).2; ⟨o, hsub _ _ e⟩⟩, hG := fun g' => (by show g' = g ↔ s₀.gens.size ≤ g' ∧ g' < s.gens.size; omega), hS := hS,
      nS := fun h => (by obtain ⟨_, o, e⟩ := hF _ h; rw [hn] at e; cases e), S0 := S0, reps := rfl }
  refine ⟨⟨_, hS, rfl⟩, PySem.F.args_list_init_2 _ _, list_init_go hc (hA.in1) hx0 hZ X ft hl fun s' acc' cc' a b d => ⟨rfl, hQ _ s' a ⟨_, acc', rfl, ⟨cc', b⟩, d, fun z => ?_⟩⟩⟩
  obtain ⟨o, e⟩ := hZ _ z
  rw [S0] at e; cases e

theorem flat_rowsW (n np : Int) : ∀ t ∈ rowsW n np, Flat t := fun t h => by
  obtain ⟨t', h', rfl⟩ := List.mem_map.mp h
  obtain ⟨l, _, rfl⟩ := List.mem_map.mp h'
  rw [ftW_eq]
  have : ∀ us vs : List Int, ∃ l : List Int, diffs us vs = l.map .i := by
    intro us
    induction us with
    | nil => intro vs; exact ⟨[], by cases vs <;> rfl⟩
    | cons u us ih =>
      intro vs
      cases vs with
      | nil => exact ⟨[], rfl⟩
      | cons v vs =>
        obtain ⟨l, e⟩ := ih vs
        exact ⟨(v - u - 1) :: l, by show T.i (v - u - 1) :: diffs us vs = _; rw [e]; rfl⟩
  obtain ⟨l', e⟩ := this (-1 :: l) (l ++ [n + np - 1])
  exact ⟨l', by rw [e]⟩

theorem list_wci (hc : c.Ok) {x : Str} {params : Arguments} {body : List Stmt} {scF sc : Scope} {fa : Addr} {o : Obj} {pm cd doc : Value} {G : List Str} {k K : Nat} {e1 e2 : Expr} {g : List X → Option (List T)} {p q p1 p2 : Pos} (F : FnAt c x params body scF fa o pm cd doc) (hgl : GlobIs c "list" (.type "list"))
    (ha : EvL c sc G k [e1, e2] g) (hu : unstar e1 = true ∧ unstar e2 = true) (hkl : sc.names.lookup ("list" : Str) = some .globalImplicit) (hkx : sc.names.lookup x = some .globalImplicit) (hd : (x == ("__debug__" : Str)) = false) {n np : Int} (W : WciOk c fa K n np) (hK : K + 3 ≤ k) (hl : (rowsW n np).length ≤ 1000)
    {A : Around} {E : Value → Shared → Prop} {s : Shared} {env : Env} {r : List X} {Z : Addr → Prop} (hA : GA k A) (hE : EnvI sc env) (hx : Gd c s.heap) (hZ : Live Z s.heap) (hF : FrE c Z s.heap env G r) (hg : g r = some [.i n, .i np]) :
    wpAny (model prog w) A (eval (.Call (.Name "list" p) [.Call (.Name x q) [e1, e2] [] p1] [] p2) env) (fun v s' => Mvd0 c s s' ∧ Rep ⟨c.a, Z⟩ s'.heap (.l (rowsW n np)) v) E s := by
  refine Call_ (load_glob hc hE hx hgl hkl ?_ (by decide))
  refine callWith_plain (c := c) (.t "list") rfl rfl ?_
  refine args_cons ?_ rfl
  refine Call_ (load_glob hc hE hx F.glob hkx ?_ hd)
  refine callWith_plain (c := c) F.plain (star_cons hu.1 env) (noStar_one hu.2 env p1) (wpAny_mono (ha.go A env s r _ E Z hA hE hx hZ hF hg p1) (fun vs s₁ ⟨k₁, r₁⟩ => ⟨ext_sub hx k₁.sub, ?_⟩) fun _ _ y => y)
  obtain ⟨z1, vr, rfl, ⟨t1, rfl⟩, r2⟩ := r₁
  obtain ⟨z2, rfl, t2, rfl⟩ := reps_one r2
  have hx₁ := ext_sub hx k₁.sub
  have hZ₁ := hZ.mono k₁.sub
  refine wpAny_mono (W A s₁ t1 t2 Z E (hA.le (by omega)) hx₁ hZ₁) (fun v s₂ p => ?_) fun _ _ y => y
  obtain ⟨I, gi, FPi, rfl, m, hgi, hgs, hgen, hI0, hIF, hFP, G₂⟩ := p
  refine args_nil ⟨m.gd, ?_⟩
  refine call_list_go hc (hA.le hK) hx₁ hZ₁ m hgi hgs hgen hI0 hIF hFP G₂ (flat_rowsW n np) hl fun v s' m' hr => ⟨⟨(Mvd.kp (FP := fun _ => False) (GF := fun _ => False) hx k₁).trans m'.1 (fun _ h => h.elim) (fun _ h => h.elim), fun g' h1 h2 => m'.2 g' ?_ h2⟩, hr⟩
  obtain ⟨_, _, rfl, _⟩ := k₁
  exact h1

/-- the frame under a change that leaves all but the table -/
theorem FrS.mvd {kb : Addr → Option Obj} {Z : Addr → Prop} {δ : Nat → Addr} {h h' : Heap} {env : Env} {G : List Str} {r : List X} (F : FrS c kb Z δ h env G r) (hs : ∀ b o, b ≠ c.P → h.get? b = some o → h'.get? b = some o) (hg : Gd c h') : FrS c kb Z δ h' env G r := by
  obtain ⟨oP, hoP, nPs, nPd, _⟩ := F.ptab
  have np : ∀ {b o}, h.get? b = some o → (¬ NotSeq o ∨ ¬ NotDC o) → b ≠ c.P := fun e hn q => by
    rw [q, hoP] at e; cases e
    rcases hn with hn | hn
    · exact hn nPs
    · exact hn nPd
  have cells : ∀ {cc v}, h.IsCell cc v → h'.IsCell cc v := fun ⟨o, ho, hd⟩ => ⟨o, hs _ _ (np ho (.inr fun q => q.2 _ hd)) ho, hd⟩
  have kp : Kept ⟨c.a, Z⟩ h h' := fun b o _ ⟨it, n, hd⟩ e => hs b o (np e (.inl fun q => q _ _ hd)) e
  refine { base := F.base, live := F.live, keep := fun b o e => hs b o (fun q => by rw [q, F.kp] at e; cases e) (F.keep b o e), ptab := hg.2, loc := F.loc, ns := ?_, cell := fun n cc e => let ⟨h1, v, h2⟩ := F.cell n cc e; ⟨h1, v, cells h2⟩, apart := F.apart, dict := F.dict, inj := F.inj, dom := F.dom, kp := F.kp }
  obtain ⟨m, ⟨oL, es, ep, hoL, hd, r1, r2⟩, hx⟩ := F.ns
  refine ⟨m, ⟨oL, es, ep, hs _ _ (np hoL (.inr fun q => q.1 _ _ hd)) hoL, hd, r1, r2⟩, fun i x hi hu => ?_⟩
  obtain ⟨v, h1, h2, h3⟩ := hx i x hi hu
  refine ⟨v, ?_, ?_, h3⟩
  · rcases h1 with hv | ⟨hk, cc, a1, a2⟩
    · exact .inl hv
    · exact .inr ⟨hk, cc, a1, cells a2⟩
  · cases e : nth r i with
    | u => trivial
    | k => trivial
    | p t => rw [e] at h2; exact Rep.mono' kp _ _ h2
    | d kv =>
      rw [e] at h2
      obtain ⟨b, xs, rfl, ⟨o, es, ep, ho, hxx, hd, he, hk, hn⟩, hkv, hsys⟩ := h2
      refine ⟨b, xs, rfl, ⟨o, es, ep, hs _ _ (np ho (.inr fun q => q.1 _ _ hd)) ho, hxx, hd, he, fun y hy => ?_, hn⟩, kv_kept kp hkv, hsys⟩
      obtain ⟨o', items, n, a1, a2, a3, a4⟩ := hk y hy
      exact ⟨o', items, n, hs _ _ (np a1 (.inl fun q => q _ _ a3)) a1, a2, a3, a4⟩

theorem Mvd0.stp {s s' : Shared} (m : Mvd0 c s s') : Stp c true s s' := by
  refine ⟨m.1.drawn, m.1.os, fun h => (nomatch h), fun h => ?_, fun b o hb _ e => m.1.heap b o e (.inl id) (hb rfl)⟩
  intro y hy
  obtain ⟨g, e⟩ := Array.mem_iff_getElem?.mp hy
  by_cases hl : g < s.gens.size
  · exact h y (Array.mem_iff_getElem?.mpr ⟨g, (m.1.gens g id hl).symm.trans e⟩)
  · have h2 : g < s'.gens.size := by
      rcases Nat.lt_or_ge g s'.gens.size with q | q
      · exact q
      · rw [Array.getElem?_eq_none q] at e; cases e
    obtain ⟨gs', e', b⟩ := m.2 g (Nat.le_of_not_lt hl) h2
    rw [e] at e'; cases e'
    exact b

/-- a name takes what a run of generators gives -/
theorem St_mvd {sc : Scope} {G : List Str} {k j : Nat} {x : Str} {e : Expr} {f : List X → Option T} {px pos : Pos}
    (h : ∀ (A : Around) (env : Env) (s : Shared) (r : List X) (t : T) (E : Value → Shared → Prop) (Z : Addr → Prop), GA k A → EnvI sc env → Gd c s.heap → Live Z s.heap → FrE c Z s.heap env G r → f r = some t → wpAny (model prog w) A (eval e env) (fun v s' => Mvd0 c s s' ∧ Rep ⟨c.a, Z⟩ s'.heap t v) E s)
    (hn : NameI sc G x j) (hs : ∀ env, EnvI sc env → swapsWith e (some (.Name x px)) pos.line env = pure false) :
    St c true sc G k (.Assign [.Name x px] e pos) (fun r => ob (f r) fun t => ob (put j r (.p t)) fun r' => some (.n r')) := by
  refine ⟨fun A env s r res kb Z δ E hA hE hF ht => ?_⟩
  obtain ⟨t, e1, ht⟩ := ob_some ht
  obtain ⟨r', e2, ht⟩ := ob_some ht
  cases ht
  obtain ⟨hk, rfl⟩ := put_some e2
  refine wpAny_Assign_Name (wpAny_mono (h A env s r t E Z hA hE hF.ext hF.liveh hF.toE e1) (fun v s₁ ⟨m, r₁⟩ => ?_) fun _ _ y => y) (hs env hE)
  exact post_store (c := c) (hF.mvd (fun b o hb e => m.1.heap b o e (.inl id) hb) m.1.gd) hE hn.at_ hn.one hn.kind (V := .p t) r₁ (fun h => nomatch h) hk (fun kv h => nomatch h) m.stp fun s₂ p => p
end
end Mine

set_option maxRecDepth 100000
set_option maxHeartbeats 400000
namespace Mine
open PySem PySem.Calls PyProof.Rows PyProof.V PySem.SeqAt

def defAt (n : Nat) : Stmt := match PySem.Challenge.pw_ae6012_01.main.body[n]? with
  | some s => s
  | none => .Pass default
def dName : Stmt → Str
  | .FunctionDef n .. => n
  | _ => Str.empty
def dPars : Stmt → Arguments
  | .FunctionDef _ p .. => p
  | _ => default
def dBody : Stmt → List Stmt
  | .FunctionDef _ _ b .. => b
  | _ => []
def dScope : Stmt → Scope
  | .FunctionDef _ _ _ _ _ _ sc .. => sc
  | _ => default

def sc_law_numbers : Scope := dScope (defAt 4)
def g_law_numbers : List Str := ["script", "many", "x", "found", "last"]
theorem nd_law_numbers : g_law_numbers.Nodup := by decide

def sc_law_square : Scope := dScope (defAt 5)
def g_law_square : List Str := ["found", "n", "square"]
theorem nd_law_square : g_law_square.Nodup := by decide

def sc_law_factorial : Scope := dScope (defAt 6)
def g_law_factorial : List Str := ["k", "product", "j"]
theorem nd_law_factorial : g_law_factorial.Nodup := by decide

def sc_law_minor : Scope := dScope (defAt 7)
def g_law_minor : List Str := ["square", "some", "i", "j", "total", "k", "turn"]
theorem nd_law_minor : g_law_minor.Nodup := by decide

def sc_law_series : Scope := dScope (defAt 8)
def g_law_series : List Str := ["square", "counts", "n", "k", "sets", "some", "minors", "known", "places", "place", "worth", "minor", "before"]
theorem nd_law_series : g_law_series.Nodup := by decide

def sclaw : Scope := dScope (defAt 9)
def glaw : List Str := ["script", "found", "square", "counts", "n", "states", "i", "after", "rows", "row", "much", "j", "state", "worth", "more"]
theorem ndlaw : glaw.Nodup := by decide

section
variable {prog : Program} {w : World} {c : Base prog w}

def b_law_numbers {k : Nat} (hc : c.Ok) (gl : Gl c) : { f // SS c false sc_law_numbers g_law_numbers k (dBody (defAt 4)) f } :=
  ⟨_, by
    conv => arg 6; whnf
    exact SS_numbers (EvIt_list (Ev_upto (Ev_name (i := 0) (by rfl) (by decide) (by decide)) (Ev_name (i := 1) (by rfl) (by decide) (by decide)) (fun o r => rfl))) (compI_of (fv := []) (is := []) (x := "x") (by rfl)) (Ev_name (i := 0) (by rfl) (by decide) (by decide)) (fun env x => rfl) (nameI (j := 3) nd_law_numbers (by rfl) (by left; rfl)) (swap_of (by rfl) (by rfl)) (St_assign (Ev_bin bin_add Ev_int (Ev_call hc gl.len (.b _) call_len (by rfl) (by decide) (EvL_cons (Ev_name (i := 0) (by rfl) (by decide) (by decide)) EvL_nil (star_cons (by rfl))) (star_cons (by rfl)) noStar_nil)) (nameI (j := 4) nd_law_numbers (by rfl) (by left; rfl)) (fun env hE => rfl)) (St_for (EvIt_list (Ev_name (i := 0) (by rfl) (by decide) (by decide))) (Tgt_name (nameI (j := 2) nd_law_numbers (by rfl) (by left; rfl))) (SS_cons (St_assign (Ev_bin bin_modN (Ev_bin bin_add (Ev_bin bin_mulN (Ev_name (i := 4) (by rfl) (by decide) (by decide)) Ev_int) (Ev_name (i := 2) (by rfl) (by decide) (by decide))) Ev_int) (nameI (j := 4) nd_law_numbers (by rfl) (by left; rfl)) (fun env hE => rfl))
  SS_nil) (fun env x => rfl)) (EvB_cmp cmp_lt (Ev_call hc gl.len (.b _) call_len (by rfl) (by decide) (EvL_cons (Ev_name (i := 3) (by rfl) (by decide) (by decide)) EvL_nil (star_cons (by rfl))) (star_cons (by rfl)) noStar_nil) (Ev_name (i := 1) (by rfl) (by decide) (by decide)) (by rfl)) (St_assign (Ev_bin bin_modN (Ev_bin bin_add (Ev_bin bin_mulN (Ev_name (i := 4) (by rfl) (by decide) (by decide)) Ev_int) Ev_int) Ev_int) (nameI (j := 4) nd_law_numbers (by rfl) (by left; rfl)) (fun env hE => rfl)) (Ev_bin bin_div (Ev_name (i := 4) (by rfl) (by decide) (by decide)) Ev_int) (by decide) (by decide) (by rfl) (fun env => rfl) (by rfl) (fun env => rfl)⟩

def b_law_factorial {k : Nat} (hc : c.Ok) (gl : Gl c) : { f // SS c false sc_law_factorial g_law_factorial k (dBody (defAt 6)) f } :=
  ⟨_, by
    conv => arg 6; whnf
    exact (SS_cons (St_assign Ev_int (nameI (j := 1) nd_law_factorial (by rfl) (by left; rfl)) (fun env hE => rfl))
  (SS_cons (St_for (EvIt_range1 hc gl.range (by rfl) (by decide) (EvL_cons (Ev_name (i := 0) (by rfl) (by decide) (by decide)) EvL_nil (star_cons (by rfl))) (star_cons (by rfl))) (Tgt_name (nameI (j := 2) nd_law_factorial (by rfl) (by left; rfl))) (SS_cons (St_assign (Ev_bin (bin_mulF hc) (Ev_name (i := 1) (by rfl) (by decide) (by decide)) (Ev_bin bin_add (Ev_name (i := 2) (by rfl) (by decide) (by decide)) Ev_int)) (nameI (j := 1) nd_law_factorial (by rfl) (by left; rfl)) (fun env hE => rfl))
  SS_nil) (fun env x => rfl))
  (SS_cons (St_ret (Ev_name (i := 1) (by rfl) (by decide) (by decide)))
  SS_nil)))⟩

def b_law_minor {k : Nat} (hc : c.Ok) (gl : Gl c) : { f // SS c false sc_law_minor g_law_minor k (dBody (defAt 7)) f } :=
  ⟨_, by
    conv => arg 6; whnf
    exact (SS_cons (St_if (EvB_cmp cmp_eq (Ev_call hc gl.len (.b _) call_len (by rfl) (by decide) (EvL_cons (Ev_name (i := 1) (by rfl) (by decide) (by decide)) EvL_nil (star_cons (by rfl))) (star_cons (by rfl)) noStar_nil) Ev_int (by rfl)) (SS_cons (St_ret Ev_int)
  SS_nil) SS_nil)
  (SS_cons (St_if (EvB_cmp cmp_eq (Ev_call hc gl.len (.b _) call_len (by rfl) (by decide) (EvL_cons (Ev_name (i := 1) (by rfl) (by decide) (by decide)) EvL_nil (star_cons (by rfl))) (star_cons (by rfl)) noStar_nil) Ev_int (by rfl)) (SS_cons (St_ret (Ev_item (Ev_item (Ev_name (i := 0) (by rfl) (by decide) (by decide)) (Ev_item (Ev_name (i := 1) (by rfl) (by decide) (by decide)) Ev_int (fun o i => rfl)) (fun o i => rfl)) (Ev_item (Ev_name (i := 1) (by rfl) (by decide) (by decide)) Ev_int (fun o i => rfl)) (fun o i => rfl)))
  SS_nil) SS_nil)
  (SS_cons (St_if (EvB_cmp cmp_eq (Ev_call hc gl.len (.b _) call_len (by rfl) (by decide) (EvL_cons (Ev_name (i := 1) (by rfl) (by decide) (by decide)) EvL_nil (star_cons (by rfl))) (star_cons (by rfl)) noStar_nil) Ev_int (by rfl)) (SS_cons (St_unpack (Ev_name (i := 1) (by rfl) (by decide) (by decide)) (Tgt_tupleL (.cons (nameI (j := 2) nd_law_minor (by rfl) (by left; rfl)) (.cons (nameI (j := 3) nd_law_minor (by rfl) (by left; rfl)) .nil))) (fun env => rfl) (fun env => rfl))
  (SS_cons (St_ret (Ev_bin bin_sub (Ev_bin (bin_mulF hc) (Ev_item (Ev_item (Ev_name (i := 0) (by rfl) (by decide) (by decide)) (Ev_name (i := 2) (by rfl) (by decide) (by decide)) (fun o i => rfl)) (Ev_name (i := 2) (by rfl) (by decide) (by decide)) (fun o i => rfl)) (Ev_item (Ev_item (Ev_name (i := 0) (by rfl) (by decide) (by decide)) (Ev_name (i := 3) (by rfl) (by decide) (by decide)) (fun o i => rfl)) (Ev_name (i := 3) (by rfl) (by decide) (by decide)) (fun o i => rfl))) (Ev_bin (bin_mulF hc) (Ev_item (Ev_item (Ev_name (i := 0) (by rfl) (by decide) (by decide)) (Ev_name (i := 2) (by rfl) (by decide) (by decide)) (fun o i => rfl)) (Ev_name (i := 3) (by rfl) (by decide) (by decide)) (fun o i => rfl)) (Ev_item (Ev_item (Ev_name (i := 0) (by rfl) (by decide) (by decide)) (Ev_name (i := 3) (by rfl) (by decide) (by decide)) (fun o i => rfl)) (Ev_name (i := 2) (by rfl) (by decide) (by decide)) (fun o i => rfl)))))
  SS_nil)) SS_nil)
  (SS_cons (St_assign Ev_int (nameI (j := 4) nd_law_minor (by rfl) (by left; rfl)) (fun env hE => rfl))
  (SS_cons (St_for (EvIt_list (Ev_list (EvL_cons (Ev_tuple (EvL_cons Ev_int (EvL_cons Ev_int (EvL_cons Ev_int (EvL_cons Ev_int EvL_nil (star_cons (by rfl))) (star_cons (by rfl))) (star_cons (by rfl))) (star_cons (by rfl)))) (EvL_cons (Ev_tuple (EvL_cons Ev_int (EvL_cons Ev_int (EvL_cons Ev_int (EvL_cons Ev_int EvL_nil (star_cons (by rfl))) (star_cons (by rfl))) (star_cons (by rfl))) (star_cons (by rfl)))) (EvL_cons (Ev_tuple (EvL_cons Ev_int (EvL_cons Ev_int (EvL_cons Ev_int (EvL_cons Ev_int EvL_nil (star_cons (by rfl))) (star_cons (by rfl))) (star_cons (by rfl))) (star_cons (by rfl)))) (EvL_cons (Ev_tuple (EvL_cons Ev_int (EvL_cons Ev_int (EvL_cons Ev_int (EvL_cons (Ev_neg Ev_int) EvL_nil (star_cons (by rfl))) (star_cons (by rfl))) (star_cons (by rfl))) (star_cons (by rfl)))) (EvL_cons (Ev_tuple (EvL_cons Ev_int (EvL_cons Ev_int (EvL_cons Ev_int (EvL_cons (Ev_neg Ev_int) EvL_nil (star_cons (by rfl))) (star_cons (by rfl))) (star_cons (by rfl))) (star_cons (by rfl)))) (EvL_cons (Ev_tuple (EvL_cons Ev_int (EvL_cons Ev_int (EvL_cons Ev_int (EvL_cons (Ev_neg Ev_int) EvL_nil (star_cons (by rfl))) (star_cons (by rfl))) (star_cons (by rfl))) (star_cons (by rfl)))) EvL_nil (star_cons (by rfl))) (star_cons (by rfl))) (star_cons (by rfl))) (star_cons (by rfl))) (star_cons (by rfl))) (star_cons (by rfl))))) (Tgt_tuple (.cons (nameI (j := 2) nd_law_minor (by rfl) (by left; rfl)) (.cons (nameI (j := 3) nd_law_minor (by rfl) (by left; rfl)) (.cons (nameI (j := 5) nd_law_minor (by rfl) (by left; rfl)) (.cons (nameI (j := 6) nd_law_minor (by rfl) (by left; rfl)) .nil))))) (SS_cons (St_aug (Ev_bin (bin_mulF hc) (Ev_bin (bin_mulF hc) (Ev_bin (bin_mulF hc) (Ev_name (i := 6) (by rfl) (by decide) (by decide)) (Ev_item (Ev_item (Ev_name (i := 0) (by rfl) (by decide) (by decide)) Ev_int (fun o i => rfl)) (Ev_name (i := 2) (by rfl) (by decide) (by decide)) (fun o i => rfl))) (Ev_item (Ev_item (Ev_name (i := 0) (by rfl) (by decide) (by decide)) Ev_int (fun o i => rfl)) (Ev_name (i := 3) (by rfl) (by decide) (by decide)) (fun o i => rfl))) (Ev_item (Ev_item (Ev_name (i := 0) (by rfl) (by decide) (by decide)) Ev_int (fun o i => rfl)) (Ev_name (i := 5) (by rfl) (by decide) (by decide)) (fun o i => rfl))) (nameI (j := 4) nd_law_minor (by rfl) (by left; rfl)))
  SS_nil) (fun env x => rfl))
  (SS_cons (St_ret (Ev_name (i := 4) (by rfl) (by decide) (by decide)))
  SS_nil))))))⟩

def b_law_square {k : Nat} (hc : c.Ok) (gl : Gl c) {md : List (Nat × Nat × Nat)} (hm : MdOk c md) : { f // SS c false sc_law_square g_law_square k (dBody (defAt 5)) f } :=
  ⟨_, by
    conv => arg 6; whnf
    exact (SS_cons (St_assign (Ev_item (Ev_list (EvL_cons Ev_int (EvL_cons Ev_int (EvL_cons Ev_int EvL_nil (star_cons (by rfl))) (star_cons (by rfl))) (star_cons (by rfl)))) (Ev_bin (bin_modV hm) (Ev_item (Ev_name (i := 0) (by rfl) (by decide) (by decide)) Ev_int (fun o i => rfl)) Ev_int) (fun o i => rfl)) (nameI (j := 1) nd_law_square (by rfl) (by right; rfl)) (fun env hE => rfl))
  (SS_cons (St_assign_compC (EvIt_range1 hc gl.range (by rfl) (by decide) (EvL_cons (Ev_name (i := 1) (by rfl) (by decide) (by decide)) EvL_nil (star_cons (by rfl))) (star_cons (by rfl))) (compC_of (fv := ["found", "n"]) (is := [0, 1]) (x := "i") (by rfl)) EvT_nil (Ev_comp (EvIt_range1 hc gl.range (by rfl) (by decide) (EvL_cons (Ev_name (i := 2) (by rfl) (by decide) (by decide)) EvL_nil (star_cons (by rfl))) (star_cons (by rfl))) (compI_of (fv := ["found", "i", "n"]) (is := [1, 0, 2]) (x := "j") (by rfl)) EvT_nil (Ev_item (Ev_name (i := 1) (by rfl) (by decide) (by decide)) (Ev_bin bin_add Ev_int (Ev_bin (bin_modV hm) (Ev_bin bin_add (Ev_bin (bin_mulF hc) (Ev_name (i := 2) (by rfl) (by decide) (by decide)) (Ev_name (i := 3) (by rfl) (by decide) (by decide))) (Ev_name (i := 0) (by rfl) (by decide) (by decide))) Ev_int)) (fun o i => rfl)) (fun env x => rfl)) (fun env x => rfl) (nameI (j := 2) nd_law_square (by rfl) (by left; rfl)) (swap_of (by rfl) (by rfl)))
  (SS_cons (St_if (EvB_cmp cmp_eq (Ev_name (i := 1) (by rfl) (by decide) (by decide)) Ev_int (by rfl)) (SS_cons (St_ret (Ev_tuple (EvL_cons (Ev_name (i := 2) (by rfl) (by decide) (by decide)) (EvL_cons (Ev_comp (EvIt_list (Ev_slice (Ev_name (i := 0) (by rfl) (by decide) (by decide)) Ev_int Ev_int (fun o r => rfl))) (compI_of (fv := []) (is := []) (x := "x") (by rfl)) EvT_nil (Ev_bin (bin_modV hm) (Ev_name (i := 0) (by rfl) (by decide) (by decide)) Ev_int) (fun env x => rfl)) EvL_nil (star_cons (by rfl))) (star_cons (by rfl)))))
  SS_nil) SS_nil)
  (SS_cons (St_ret (Ev_tuple (EvL_cons (Ev_name (i := 2) (by rfl) (by decide) (by decide)) (EvL_cons (Ev_comp (EvIt_list (Ev_slice (Ev_name (i := 0) (by rfl) (by decide) (by decide)) Ev_int (Ev_bin bin_add Ev_int (Ev_name (i := 1) (by rfl) (by decide) (by decide))) (fun o r => rfl))) (compI_of (fv := []) (is := []) (x := "x") (by rfl)) EvT_nil (Ev_bin (bin_modV hm) (Ev_name (i := 0) (by rfl) (by decide) (by decide)) Ev_int) (fun env x => rfl)) EvL_nil (star_cons (by rfl))) (star_cons (by rfl)))))
  SS_nil))))⟩

def b_law_series {k : Nat} (hc : c.Ok) (gl : Gl c) (h2 : c.Ok2) {fa : Addr} {o : Obj} {pm cd doc : Value} {Fm : List T → Option T} (f_law_minor : FnAt c "_law_minor" (dPars (defAt 7)) (dBody (defAt 7)) (dScope (defAt 7)) fa o pm cd doc) (c_law_minor : CallOk c k (.ref fa) Fm) : { f // SS c false sc_law_series g_law_series k (dBody (defAt 8)) f } :=
  ⟨_, by
    conv => arg 6; whnf
    exact (SS_cons (St_assign (Ev_call hc gl.len (.b _) call_len (by rfl) (by decide) (EvL_cons (Ev_name (i := 0) (by rfl) (by decide) (by decide)) EvL_nil (star_cons (by rfl))) (star_cons (by rfl)) noStar_nil) (nameI (j := 2) nd_law_series (by rfl) (by right; rfl)) (fun env hE => rfl))
  (SS_cons (St_assign_compC (EvIt_range2 hc gl.range (by rfl) (by decide) (EvL_cons Ev_int (EvL_cons (Ev_bin (bin_pow hc) Ev_int (Ev_name (i := 2) (by rfl) (by decide) (by decide))) EvL_nil (star_cons (by rfl))) (star_cons (by rfl))) (star_cons (by rfl)) (noStar_one (by rfl))) (compC_of (fv := ["n"]) (is := [2]) (x := "mask") (by rfl)) EvT_nil (Ev_comp (EvIt_range1 hc gl.range (by rfl) (by decide) (EvL_cons (Ev_name (i := 1) (by rfl) (by decide) (by decide)) EvL_nil (star_cons (by rfl))) (star_cons (by rfl))) (compI_of (fv := ["mask"]) (is := [0]) (x := "k") (by rfl)) (EvT_one (EvB_cmp cmp_eq (Ev_bin bin_mod (Ev_bin bin_div (Ev_name (i := 1) (by rfl) (by decide) (by decide)) (Ev_bin (bin_pow hc) Ev_int (Ev_name (i := 0) (by rfl) (by decide) (by decide)))) Ev_int) Ev_int (by rfl))) (Ev_name (i := 0) (by rfl) (by decide) (by decide)) (fun env x => rfl)) (fun env x => rfl) (nameI (j := 4) nd_law_series (by rfl) (by left; rfl)) (swap_of (by rfl) (by rfl)))
  (SS_cons (St_assign_comp (EvIt_list (Ev_name (i := 4) (by rfl) (by decide) (by decide))) (compI_of (fv := ["square"]) (is := [0]) (x := "some") (by rfl)) EvT_nil (Ev_tuple (EvL_cons (Ev_name (i := 0) (by rfl) (by decide) (by decide)) (EvL_cons (Ev_call hc f_law_minor.glob f_law_minor.plain c_law_minor (by rfl) (by decide) (EvL_cons (Ev_name (i := 1) (by rfl) (by decide) (by decide)) (EvL_cons (Ev_name (i := 0) (by rfl) (by decide) (by decide)) EvL_nil (star_cons (by rfl))) (star_cons (by rfl))) (star_cons (by rfl)) (noStar_one (by rfl))) EvL_nil (star_cons (by rfl))) (star_cons (by rfl)))) (fun env x => rfl) (nameI (j := 6) nd_law_series (by rfl) (by left; rfl)) (swap_of (by rfl) (by rfl)))
  (SS_cons (St_dnew h2 (nameI (j := 7) nd_law_series (by rfl) (by left; rfl)) (fun env hE => rfl))
  (SS_cons (St_assign (Ev_list (EvL_cons (Ev_tuple EvL_nil) EvL_nil (star_cons (by rfl)))) (nameI (j := 8) nd_law_series (by rfl) (by left; rfl)) (fun env hE => rfl))
  (SS_cons (St_for (EvIt_range1 hc gl.range (by rfl) (by decide) (EvL_cons (Ev_name (i := 2) (by rfl) (by decide) (by decide)) EvL_nil (star_cons (by rfl))) (star_cons (by rfl))) (Tgt_name (nameI (j := 3) nd_law_series (by rfl) (by right; rfl))) (SS_cons (St_assign_comp2 (EvIt_list (Ev_name (i := 8) (by rfl) (by decide) (by decide))) (compI2_of (fv := ["counts", "k"]) (is := [1, 3]) (x := "place") (y := "x") (by rfl)) (EvIt_range1 hc gl.range (by rfl) (by decide) (EvL_cons (Ev_bin bin_add (Ev_item (Ev_name (i := 1) (by rfl) (by decide) (by decide)) (Ev_name (i := 2) (by rfl) (by decide) (by decide)) (fun o i => rfl)) Ev_int) EvL_nil (star_cons (by rfl))) (star_cons (by rfl))) (Ev_bin bin_add (Ev_name (i := 1) (by rfl) (by decide) (by decide)) (Ev_tuple (EvL_cons (Ev_name (i := 0) (by rfl) (by decide) (by decide)) EvL_nil (star_cons (by rfl))))) (fun env x => rfl) (fun env x => rfl) (nameI (j := 8) nd_law_series (by rfl) (by left; rfl)) (swap_of (by rfl) (by rfl)))
  SS_nil) (fun env x => rfl))
  (SS_cons (St_for (EvIt_list (Ev_name (i := 8) (by rfl) (by decide) (by decide))) (Tgt_name (nameI (j := 9) nd_law_series (by rfl) (by right; rfl))) (SS_cons (St_assign (Ev_if (EvB_cmp cmp_eq (Ev_call hc gl.max (.b _) call_max (by rfl) (by decide) (EvL_cons (Ev_name (i := 9) (by rfl) (by decide) (by decide)) EvL_nil (star_cons (by rfl))) (star_cons (by rfl)) noStar_nil) Ev_int (by rfl)) Ev_int Ev_int) (nameI (j := 10) nd_law_series (by rfl) (by left; rfl)) (fun env hE => rfl))
  (SS_cons (St_for (EvIt_list (Ev_name (i := 6) (by rfl) (by decide) (by decide))) (Tgt_tuple (.cons (nameI (j := 5) nd_law_series (by rfl) (by right; rfl)) (.cons (nameI (j := 11) nd_law_series (by rfl) (by left; rfl)) .nil))) (SS_cons (St_assign (Ev_call hc gl.tuple (.t _) call_tuple (by rfl) (by decide) (EvL_cons (Ev_comp (EvIt_range1 hc gl.range (by rfl) (by decide) (EvL_cons (Ev_name (i := 2) (by rfl) (by decide) (by decide)) EvL_nil (star_cons (by rfl))) (star_cons (by rfl))) (compI_of (fv := ["place", "some"]) (is := [9, 5]) (x := "k") (by rfl)) EvT_nil (Ev_bin bin_sub (Ev_item (Ev_name (i := 1) (by rfl) (by decide) (by decide)) (Ev_name (i := 0) (by rfl) (by decide) (by decide)) (fun o i => rfl)) (Ev_if (EvB_cmp cmp_inL (Ev_name (i := 0) (by rfl) (by decide) (by decide)) (Ev_name (i := 2) (by rfl) (by decide) (by decide)) (by rfl)) Ev_int Ev_int)) (fun env x => rfl)) EvL_nil (star_cons (by rfl))) (star_cons (by rfl)) noStar_nil) (nameI (j := 12) nd_law_series (by rfl) (by left; rfl)) (fun env hE => rfl))
  (SS_cons (St_if (EvB_cmp cmp_ge (Ev_call hc gl.min (.b _) call_min (by rfl) (by decide) (EvL_cons (Ev_name (i := 12) (by rfl) (by decide) (by decide)) EvL_nil (star_cons (by rfl))) (star_cons (by rfl)) noStar_nil) Ev_int (by rfl)) (SS_cons (St_aug (Ev_bin (bin_mulF hc) (Ev_bin (bin_mulF hc) (Ev_name (i := 11) (by rfl) (by decide) (by decide)) (Ev_ditem (i := 7) (by rfl) (by decide) (by decide) (Ev_name (i := 12) (by rfl) (by decide) (by decide)) (fun o i => rfl))) (Ev_if (EvB_cmp cmp_eq (Ev_bin bin_mod (Ev_call hc gl.len (.b _) call_len (by rfl) (by decide) (EvL_cons (Ev_name (i := 5) (by rfl) (by decide) (by decide)) EvL_nil (star_cons (by rfl))) (star_cons (by rfl)) noStar_nil) Ev_int) Ev_int (by rfl)) Ev_int (Ev_neg Ev_int))) (nameI (j := 10) nd_law_series (by rfl) (by left; rfl)))
  SS_nil) SS_nil)
  SS_nil)) (fun env x => rfl))
  (SS_cons (St_dput (Ev_name (i := 10) (by rfl) (by decide) (by decide)) (i := 7) (by rfl) (by decide) (by decide) (Ev_name (i := 9) (by rfl) (by decide) (by decide)) (fun env => rfl))
  SS_nil))) (fun env x => rfl))
  (SS_cons (St_ret (Ev_ditem (i := 7) (by rfl) (by decide) (by decide) (Ev_call hc gl.tuple (.t _) call_tuple (by rfl) (by decide) (EvL_cons (Ev_name (i := 1) (by rfl) (by decide) (by decide)) EvL_nil (star_cons (by rfl))) (star_cons (by rfl)) noStar_nil) (fun o i => rfl)))
  SS_nil))))))))⟩

def lawSt (n : Nat) : Stmt := match (dBody (defAt 9))[n]? with
  | some s => s
  | none => .Pass default
def forBody : Stmt → List Stmt
  | .For _ _ b _ _ => b
  | _ => []
def rowsSt : Stmt := match (forBody (lawSt 4))[1]? with
  | some s => s
  | none => .Pass default
def blaw {k : Nat} (hc : c.Ok) (gl : Gl c) (h2 : c.Ok2) {a1 a2 a3 : Addr} {o1 o2 o3 : Obj} {pm1 cd1 doc1 pm2 cd2 doc2 pm3 cd3 doc3 : Value} {F1 F2 F3 : List T → Option T} {Fr : List X → Option Res}
  (f_law_factorial : FnAt c "_law_factorial" (dPars (defAt 6)) (dBody (defAt 6)) (dScope (defAt 6)) a1 o1 pm1 cd1 doc1) (c_law_factorial : CallOk c k (.ref a1) F1)
  (f_law_square : FnAt c "_law_square" (dPars (defAt 5)) (dBody (defAt 5)) (dScope (defAt 5)) a2 o2 pm2 cd2 doc2) (c_law_square : CallOk c k (.ref a2) F2)
  (f_law_series : FnAt c "_law_series" (dPars (defAt 8)) (dBody (defAt 8)) (dScope (defAt 8)) a3 o3 pm3 cd3 doc3) (c_law_series : CallOk c k (.ref a3) F3)
  (hrows : St c true sclaw glaw k rowsSt Fr) : { f // SSB c true sclaw glaw k ((dBody (defAt 9)).drop 1) f } :=
  ⟨_, by
    conv => arg 6; whnf
    exact (SSB_cons (St_unpack (Ev_call hc f_law_square.glob f_law_square.plain c_law_square (by rfl) (by decide) (EvL_cons (Ev_name (i := 1) (by rfl) (by decide) (by decide)) EvL_nil (star_cons (by rfl))) (star_cons (by rfl)) noStar_nil) (Tgt_tuple (.cons (nameI (j := 2) ndlaw (by rfl) (by left; rfl)) (.cons (nameI (j := 3) ndlaw (by rfl) (by right; rfl)) .nil))) (fun env => rfl) (fun env => rfl))
  (SSB_cons (St_assign (Ev_call hc gl.len (.b _) call_len (by rfl) (by decide) (EvL_cons (Ev_name (i := 2) (by rfl) (by decide) (by decide)) EvL_nil (star_cons (by rfl))) (star_cons (by rfl)) noStar_nil) (nameI (j := 4) ndlaw (by rfl) (by right; rfl)) (fun env hE => rfl))
  (SSB_cons (St_done1 h2 (Ev_call hc gl.tuple (.t _) call_tuple (by rfl) (by decide) (EvL_cons (Ev_bin (bin_mulF hc) (Ev_list (EvL_cons Ev_int EvL_nil (star_cons (by rfl)))) (Ev_name (i := 4) (by rfl) (by decide) (by decide))) EvL_nil (star_cons (by rfl))) (star_cons (by rfl)) noStar_nil) Ev_int (nameI (j := 5) ndlaw (by rfl) (by left; rfl)) (fun env hE => rfl))
  (SSB_cons (St_for (EvIt_range1 hc gl.range (by rfl) (by decide) (EvL_cons (Ev_name (i := 4) (by rfl) (by decide) (by decide)) EvL_nil (star_cons (by rfl))) (star_cons (by rfl))) (Tgt_name (nameI (j := 6) ndlaw (by rfl) (by right; rfl))) (SS_cons (St_dnew h2 (nameI (j := 7) ndlaw (by rfl) (by left; rfl)) (fun env hE => rfl))
  (SS_cons hrows
  (SS_cons (St_if (EvB_or (EvB_cmp cmp_ne (Ev_lenset hc gl (Ev_name (i := 8) (by rfl) (by decide) (by decide)) (by rfl) (by rfl) (by rfl)) (Ev_call hc gl.len (.b _) call_len (by rfl) (by decide) (EvL_cons (Ev_name (i := 8) (by rfl) (by decide) (by decide)) EvL_nil (star_cons (by rfl))) (star_cons (by rfl)) noStar_nil) (by rfl)) (EvB_or (EvB_cmp cmp_ne (Ev_comp (EvIt_list (Ev_name (i := 8) (by rfl) (by decide) (by decide))) (compI_of (fv := ["n", "counts", "i"]) (is := [4, 3, 6]) (x := "row") (by rfl)) (EvT_one (EvB_or (EvB_cmp cmp_ne (Ev_call hc gl.len (.b _) call_len (by rfl) (by decide) (EvL_cons (Ev_name (i := 0) (by rfl) (by decide) (by decide)) EvL_nil (star_cons (by rfl))) (star_cons (by rfl)) noStar_nil) (Ev_name (i := 1) (by rfl) (by decide) (by decide)) (by rfl)) (EvB_or (EvB_cmp cmp_ne (Ev_call hc gl.sum (.b _) call_sum (by rfl) (by decide) (EvL_cons (Ev_name (i := 0) (by rfl) (by decide) (by decide)) EvL_nil (star_cons (by rfl))) (star_cons (by rfl)) noStar_nil) (Ev_item (Ev_name (i := 2) (by rfl) (by decide) (by decide)) (Ev_name (i := 3) (by rfl) (by decide) (by decide)) (fun o i => rfl)) (by rfl)) (EvB_or (EvB_cmp cmp_lt (Ev_call hc gl.min (.b _) call_min (by rfl) (by decide) (EvL_cons (Ev_name (i := 0) (by rfl) (by decide) (by decide)) EvL_nil (star_cons (by rfl))) (star_cons (by rfl)) noStar_nil) Ev_int (by rfl)) EvB_or_nil)))) (Ev_name (i := 0) (by rfl) (by decide) (by decide)) (fun env x => rfl)) (Ev_list EvL_nil) (by rfl)) EvB_or_nil)) SS_never SS_nil)
  (SS_cons (St_for (EvIt_list (Ev_name (i := 8) (by rfl) (by decide) (by decide))) (Tgt_name (nameI (j := 9) ndlaw (by rfl) (by right; rfl))) (SS_cons (St_assign (Ev_call hc f_law_factorial.glob f_law_factorial.plain c_law_factorial (by rfl) (by decide) (EvL_cons (Ev_item (Ev_name (i := 3) (by rfl) (by decide) (by decide)) (Ev_name (i := 6) (by rfl) (by decide) (by decide)) (fun o i => rfl)) EvL_nil (star_cons (by rfl))) (star_cons (by rfl)) noStar_nil) (nameI (j := 10) ndlaw (by rfl) (by left; rfl)) (fun env hE => rfl))
  (SS_cons (St_for (EvIt_range1 hc gl.range (by rfl) (by decide) (EvL_cons (Ev_name (i := 4) (by rfl) (by decide) (by decide)) EvL_nil (star_cons (by rfl))) (star_cons (by rfl))) (Tgt_name (nameI (j := 11) ndlaw (by rfl) (by left; rfl))) (SS_cons (St_assign (Ev_bin (bin_mulF hc) (Ev_bin bin_div (Ev_name (i := 10) (by rfl) (by decide) (by decide)) (Ev_call hc f_law_factorial.glob f_law_factorial.plain c_law_factorial (by rfl) (by decide) (EvL_cons (Ev_item (Ev_name (i := 9) (by rfl) (by decide) (by decide)) (Ev_name (i := 11) (by rfl) (by decide) (by decide)) (fun o i => rfl)) EvL_nil (star_cons (by rfl))) (star_cons (by rfl)) noStar_nil)) (Ev_bin (bin_pow hc) (Ev_item (Ev_item (Ev_name (i := 2) (by rfl) (by decide) (by decide)) (Ev_name (i := 6) (by rfl) (by decide) (by decide)) (fun o i => rfl)) (Ev_name (i := 11) (by rfl) (by decide) (by decide)) (fun o i => rfl)) (Ev_item (Ev_name (i := 9) (by rfl) (by decide) (by decide)) (Ev_name (i := 11) (by rfl) (by decide) (by decide)) (fun o i => rfl)))) (nameI (j := 10) ndlaw (by rfl) (by left; rfl)) (fun env hE => rfl))
  SS_nil) (fun env x => rfl))
  (SS_cons (St_items h2 (i := 5) (by rfl) (by decide) (by decide) (.cons (nameI (j := 12) ndlaw (by rfl) (by right; rfl)) (.cons (nameI (j := 13) ndlaw (by rfl) (by left; rfl)) .nil)) (SS_cons (St_assign (Ev_call hc gl.tuple (.t _) call_tuple (by rfl) (by decide) (EvL_cons (Ev_comp (EvIt_range1 hc gl.range (by rfl) (by decide) (EvL_cons (Ev_name (i := 4) (by rfl) (by decide) (by decide)) EvL_nil (star_cons (by rfl))) (star_cons (by rfl))) (compI_of (fv := ["state", "row"]) (is := [12, 9]) (x := "j") (by rfl)) EvT_nil (Ev_bin bin_add (Ev_item (Ev_name (i := 1) (by rfl) (by decide) (by decide)) (Ev_name (i := 0) (by rfl) (by decide) (by decide)) (fun o i => rfl)) (Ev_item (Ev_name (i := 2) (by rfl) (by decide) (by decide)) (Ev_name (i := 0) (by rfl) (by decide) (by decide)) (fun o i => rfl))) (fun env x => rfl)) EvL_nil (star_cons (by rfl))) (star_cons (by rfl)) noStar_nil) (nameI (j := 14) ndlaw (by rfl) (by right; rfl)) (fun env hE => rfl))
  (SS_cons (St_if (EvB_cmp cmp_eq (Ev_comp (EvIt_range1 hc gl.range (by rfl) (by decide) (EvL_cons (Ev_name (i := 4) (by rfl) (by decide) (by decide)) EvL_nil (star_cons (by rfl))) (star_cons (by rfl))) (compI_of (fv := ["more", "counts"]) (is := [14, 3]) (x := "j") (by rfl)) (EvT_one (EvB_cmp cmp_gt (Ev_item (Ev_name (i := 1) (by rfl) (by decide) (by decide)) (Ev_name (i := 0) (by rfl) (by decide) (by decide)) (fun o i => rfl)) (Ev_item (Ev_name (i := 2) (by rfl) (by decide) (by decide)) (Ev_name (i := 0) (by rfl) (by decide) (by decide)) (fun o i => rfl)) (by rfl))) (Ev_name (i := 0) (by rfl) (by decide) (by decide)) (fun env x => rfl)) (Ev_list EvL_nil) (by rfl)) (SS_cons (St_dput (Ev_bin bin_add (Ev_dget (i := 7) (by rfl) (by decide) (by decide) (Ev_name (i := 14) (by rfl) (by decide) (by decide)) Ev_int (by rfl) (star_get (by rfl) (by rfl))) (Ev_bin (bin_mulF hc) (Ev_name (i := 13) (by rfl) (by decide) (by decide)) (Ev_name (i := 10) (by rfl) (by decide) (by decide)))) (i := 7) (by rfl) (by decide) (by decide) (Ev_name (i := 14) (by rfl) (by decide) (by decide)) (fun env => rfl))
  SS_nil) SS_nil)
  SS_nil)) (by rfl) (fun env => rfl) (fun env y => rfl))
  SS_nil))) (fun env x => rfl))
  (SS_cons (St_dmove (by rfl) (i := 7) (by rfl) (nameI (j := 5) ndlaw (by rfl) (by left; rfl)) (by decide) (by decide) (fun env hE => rfl))
  SS_nil))))) (fun env x => rfl))
  (SSB_ret cmp_eq (Ev_dget (i := 5) (by rfl) (by decide) (by decide) (Ev_call hc gl.tuple (.t _) call_tuple (by rfl) (by decide) (EvL_cons (Ev_name (i := 3) (by rfl) (by decide) (by decide)) EvL_nil (star_cons (by rfl))) (star_cons (by rfl)) noStar_nil) Ev_int (by rfl) (star_get (by rfl) (by rfl))) (Ev_call hc f_law_series.glob f_law_series.plain c_law_series (by rfl) (by decide) (EvL_cons (Ev_name (i := 2) (by rfl) (by decide) (by decide)) (EvL_cons (Ev_name (i := 3) (by rfl) (by decide) (by decide)) EvL_nil (star_cons (by rfl))) (star_cons (by rfl))) (star_cons (by rfl)) (noStar_one (by rfl))) (by rfl))))))⟩

end
end Mine

set_option maxRecDepth 100000
namespace Mine
open PySem PySem.Calls PyProof.Rows PyProof.V PySem.SeqAt

def stepN (last x : Int) : Int := (last * 31 + x).fmod 2147483647
def lastN (last : Int) (ns : List Int) : Int := ns.foldl stepN last
def moreN : Nat → Int → List Int
  | 0, _ => []
  | n + 1, last => ((last * 48271 + 11).fmod 2147483647).fdiv 13 :: moreN n ((last * 48271 + 11).fmod 2147483647)
def numbersL (ns : List Int) : List Int := ns.take 13 ++ moreN (13 - ns.length) (lastN (7 + ns.length) ns)
theorem fmod_lt (x : Int) : 0 ≤ x.fmod 2147483647 ∧ x.fmod 2147483647 < 2147483647 := ⟨Int.fmod_nonneg_of_pos _ (by decide), Int.fmod_lt_of_pos _ (by decide)⟩
theorem moreN_length : ∀ (n : Nat) (z : Int), (moreN n z).length = n
  | 0, _ => rfl
  | n + 1, z => by simp [moreN, moreN_length n]
theorem numbersL_length (ns : List Int) : (numbersL ns).length = 13 := by
  unfold numbersL
  rw [List.length_append, List.length_take, moreN_length]; omega
theorem asInts_of_map (l : List Int) : asInts (l.map .i) = some l := by
  induction l with
  | nil => rfl
  | cons z l ih => show (match asInts (l.map .i) with | some r => some (z :: r) | none => none) = _; rw [ih]
theorem ble_of {n m : Nat} (h : n ≤ m) : Nat.ble n m = true := Nat.ble_eq_true_of_le h

section
variable {prog : Program} {w : World} {c : Base prog w} {k : Nat}
theorem comp_id (ts : List T) : compG (fun _ => some true) (fun y => gp (y :: pick [] []) 0) ts = some ts := by
  induction ts with
  | nil => rfl
  | cons t ts ih =>
    show (ob (compG (fun _ => some true) (fun y => gp (y :: pick [] []) 0) ts) fun ys => some (t :: ys)) = _
    rw [ih]; rfl
theorem mulN {z y : Int} (h : z.natAbs ≤ 1000000000000) : tMulN (.i z) (.i y) = some (.i (z * y)) := by
  show (match Nat.ble z.natAbs 1000000000000000 with | true => some (T.i (z * y)) | false => none) = _
  rw [ble_of (by omega)]
def fbN (r : List X) : Option Res := ob (ob (ob (ob (ob (gp r 4) fun x => ob (some (T.i 31)) fun y => tMulN x y) fun x => ob (gp r 2) fun y => tAddF x y) fun x => ob (some (T.i 2147483647)) fun y => tModN x y) fun t => ob (put 4 r (X.p t)) fun r' => some (Res.n r'))
  fun res => match res with
    | Res.n r' => some (Res.n r')
    | Res.ret t => some (Res.ret t)
theorem fbN_eq {P Q : X} {x z : Int} (h : z.natAbs ≤ 1000000000000) : fbN [P, Q, .p (.i x), .k, .p (.i z)] = some (.n [P, Q, .p (.i x), .k, .p (.i (stepN z x))]) := by
  show (ob (ob (ob (ob (tMulN (.i z) (.i 31)) fun x' => tAddF x' (.i x)) fun x' => tModN x' (.i 2147483647)) fun t => ob (put 4 [P, Q, .p (.i x), .k, .p (.i z)] (X.p t)) fun r' => some (Res.n r')) _) = _
  rw [mulN h]
  rfl
theorem loopN {P Q : X} : ∀ (ns : List Int) (X₀ : X) (z : Int), z.natAbs ≤ 1000000000000 → isK X₀ = false → ∃ X₁, isK X₁ = false ∧ loopG (fun r t => put 2 r (X.p t)) fbN (ns.map .i) [P, Q, X₀, .k, .p (.i z)] = some (.n [P, Q, X₁, .k, .p (.i (lastN z ns))]) ∧ (lastN z ns).natAbs ≤ 1000000000000 ∧ (X₁ = X₀ ∨ ∃ t, X₁ = .p t)
  | [], X₀, z, h, h0 => ⟨X₀, h0, rfl, h, .inl rfl⟩
  | x :: ns, X₀, z, h, h0 => by
    have hz := fmod_lt (z * 31 + x)
    obtain ⟨X₁, a1, a2, a3, a4⟩ := loopN (P := P) (Q := Q) ns (.p (.i x)) (stepN z x) (by unfold stepN; omega) rfl
    refine ⟨X₁, a1, ?_, a3, .inr ?_⟩
    · show (ob (put 2 [P, Q, X₀, .k, .p (.i z)] (.p (.i x))) fun r₁ => ob (fbN r₁) _) = _
      have e : put 2 [P, Q, X₀, .k, .p (.i z)] (.p (.i x)) = some [P, Q, .p (.i x), .k, .p (.i z)] := by
        show (match isK X₀ with | true => none | false => some _) = _
        rw [h0]; rfl
      rw [e]
      show (ob (fbN [P, Q, .p (.i x), .k, .p (.i z)]) _) = _
      rw [fbN_eq h]
      exact a2
    · rcases a4 with rfl | h
      · exact ⟨_, rfl⟩
      · exact h
def ftN (r : List X) : Option Bool := ob (ob (ob (gp r 3) fun t => ob (some []) fun ts => some (t :: ts)) bLen) fun x => ob (gp r 1) fun y => tLt x y
def fsN (r : List X) : Option Res := ob (ob (ob (ob (gp r 4) fun x => ob (some (T.i 48271)) fun y => tMulN x y) fun x => ob (some (T.i 11)) fun y => tAddF x y) fun x => ob (some (T.i 2147483647)) fun y => tModN x y) fun t => ob (put 4 r (X.p t)) fun r' => some (Res.n r')
def faN (r : List X) : Option T := ob (gp r 4) fun x => ob (some (T.i 13)) fun y => tDiv x y
theorem ftN_eq {P X₀ : X} {l : List Int} {z : Int} (hl : l.length ≤ 1000) : ftN (setN [P, .p (.i 13), X₀, .k, .p (.i z)] 3 (.p (.l (l.map .i)))) = some (decide (l.length < 13)) := by
  show (ob (bLen [.l (l.map .i)]) fun x => tLt x (.i 13)) = _
  show (ob (match Nat.ble (l.map T.i).length 1000000 with | true => some (T.i (l.map T.i).length) | false => none) fun x => tLt x (.i 13)) = _
  rw [ble_of (by rw [List.length_map]; omega)]
  show some (decide ((((l.map T.i).length : Nat) : Int) < 13)) = _
  rw [List.length_map]
  congr 1
  simp only [decide_eq_decide]
  omega
theorem whlN {P X₀ : X} (hP : (match P with | .d _ => false | _ => true) = true) (hX : (match X₀ with | .d _ => false | _ => true) = true) : ∀ (m n : Nat) (l : List Int) (z : Int), 13 - l.length = m → m < n → l.length ≤ 1000 → z.natAbs ≤ 1000000000000 →
    ∃ r', whlG 3 ftN fsN faN n (l.map .i) [P, .p (.i 13), X₀, .k, .p (.i z)] = some ((l ++ moreN m z).map .i, r')
  | 0, n + 1, l, z, hm, hn, hl, hz => by
    refine ⟨[P, .p (.i 13), X₀, .k, .p (.i z)], ?_⟩
    show (ob (ftN (setN [P, .p (.i 13), X₀, .k, .p (.i z)] 3 (.p (.l (l.map .i))))) _) = _
    rw [ftN_eq hl, show decide (l.length < 13) = false from decide_eq_false (by omega)]
    simp [moreN, ob]
  | m + 1, n + 1, l, z, hm, hn, hl, hz => by
    have hz' := fmod_lt (z * 48271 + 11)
    obtain ⟨r', e⟩ := whlN hP hX m n (l ++ [((z * 48271 + 11).fmod 2147483647).fdiv 13]) ((z * 48271 + 11).fmod 2147483647) (by rw [List.length_append, List.length_singleton]; omega) (by omega) (by rw [List.length_append, List.length_singleton]; omega) (by omega)
    refine ⟨r', ?_⟩
    show (ob (ftN (setN [P, .p (.i 13), X₀, .k, .p (.i z)] 3 (.p (.l (l.map .i))))) _) = _
    rw [ftN_eq hl, show decide (l.length < 13) = true from decide_eq_true (by omega)]
    show (match Nat.ble (l.map T.i).length 1000 with | false => none | true => ob (fsN [P, .p (.i 13), X₀, .k, .p (.i z)]) _) = _
    rw [ble_of (by rw [List.length_map]; omega)]
    have es : fsN [P, .p (.i 13), X₀, .k, .p (.i z)] = some (.n [P, .p (.i 13), X₀, .k, .p (.i ((z * 48271 + 11).fmod 2147483647))]) := by
      show (ob (ob (ob (tMulN (.i z) (.i 48271)) fun x => tAddF x (.i 11)) fun x => tModN x (.i 2147483647)) fun t => ob (put 4 [P, .p (.i 13), X₀, .k, .p (.i z)] (X.p t)) fun r' => some (Res.n r')) = _
      rw [mulN hz]
      rfl
    rw [es]
    have el : (l ++ moreN (m + 1) z).map T.i = ((l ++ [((z * 48271 + 11).fmod 2147483647).fdiv 13]) ++ moreN m ((z * 48271 + 11).fmod 2147483647)).map T.i := by simp [moreN]
    rw [el, ← e]
    show (match ([P, .p (.i 13), X₀, .k, .p (.i ((z * 48271 + 11).fmod 2147483647))] : List X).all (fun x => match x with | .d _ => false | _ => true) with | true => _ | false => none) = _
    have ea : ([P, .p (.i 13), X₀, .k, .p (.i ((z * 48271 + 11).fmod 2147483647))] : List X).all (fun x => match x with | .d _ => false | _ => true) = true := by
      simp only [List.all_cons, List.all_nil, Bool.and_true]
      rw [hP, hX]; rfl
    rw [ea]
    show (ob (some (T.i (((z * 48271 + 11).fmod 2147483647).fdiv 13))) fun t => whlG 3 ftN fsN faN n (l.map .i ++ [t]) [P, .p (.i 13), X₀, .k, .p (.i ((z * 48271 + 11).fmod 2147483647))]) = _
    rw [List.map_append]; rfl
theorem numbers_ok (hc : c.Ok) (gl : Gl c) (ns : List Int) (hl : ns.length ≤ 63) : (b_law_numbers (k := k) hc gl).1 [.p (.l (ns.map .i)), .p (.i 13)] = some (.ret (.l ((numbersL ns).map .i))) := by
  have hlm : (ns.map T.i).length = ns.length := List.length_map ..
  have htl : (ns.take 13).length = min 13 ns.length := List.length_take ..
  obtain ⟨X₁, b1, b2, b3, b4⟩ := loopN (P := .p (.l (ns.map .i))) (Q := .p (.i 13)) ns .u (7 + ns.length) (by omega) rfl
  obtain ⟨r', e⟩ := whlN (P := .p (.l (ns.map .i))) (X₀ := X₁) rfl (by rcases b4 with rfl | ⟨t, rfl⟩ <;> rfl) (13 - ns.length) 100 (ns.take 13) (lastN (7 + ns.length) ns) (by omega) (by omega) (by omega) b3
  unfold b_law_numbers
  dsimp only
  show (ob (ob (tUpto (.l (ns.map .i)) (.i 13)) fun t => match t with | T.l ts => (match Nat.ble ts.length 1000000 with | true => some ts | false => none) | _ => none) _) = _
  have e1 : tUpto (.l (ns.map .i)) (.i 13) = some (.l ((ns.take 13).map .i)) := by
    show (match Nat.ble (ns.map T.i).length 1000 with | true => some (T.l ((ns.map T.i).take 13)) | false => none) = _
    rw [ble_of (by omega), List.map_take]
  rw [e1]
  show (ob (match Nat.ble ((ns.take 13).map T.i).length 1000000 with | true => some ((ns.take 13).map T.i) | false => none) _) = _
  rw [ble_of (by rw [List.length_map]; omega)]
  show (ob (compG (fun _ => some true) (fun y => gp (y :: pick [] []) 0) ((ns.take 13).map T.i)) _) = _
  rw [comp_id]
  show (ob (asInts ((ns.take 13).map T.i)) _) = _
  rw [asInts_of_map]
  show (ob (ob (ob (bLen [.l (ns.map .i)]) fun y => tAddF (.i 7) y) fun t => ob (put 4 [.p (.l (ns.map .i)), .p (.i 13), .u, .k] (X.p t)) fun r' => some (Res.n r')) _) = _
  have e2 : bLen [.l (ns.map .i)] = some (.i ns.length) := by
    show (match Nat.ble (ns.map T.i).length 1000000 with | true => some (T.i (ns.map T.i).length) | false => none) = _
    rw [ble_of (by omega), hlm]
  rw [e2]
  show (ob (ob (match Nat.ble (ns.map T.i).length 1000000 with | true => some (ns.map T.i) | false => none) fun ts => loopG (fun r t => put 2 r (X.p t)) fbN ts [.p (.l (ns.map .i)), .p (.i 13), .u, .k, .p (.i (7 + ns.length))]) _) = _
  rw [ble_of (by omega)]
  show (ob (loopG (fun r t => put 2 r (X.p t)) fbN (ns.map T.i) [.p (.l (ns.map .i)), .p (.i 13), .u, .k, .p (.i (7 + ns.length))]) _) = _
  rw [b2]
  have ea : ([.p (.l (ns.map .i)), .p (.i 13), X₁, .k, .p (.i (lastN (7 + ns.length) ns))] : List X).all (fun x => match x with | .d _ => false | _ => true) = true := by
    rcases b4 with rfl | ⟨t, rfl⟩ <;> rfl
  show (match ([.p (.l (ns.map .i)), .p (.i 13), X₁, .k, .p (.i (lastN (7 + ns.length) ns))] : List X).all (fun x => match x with | .d _ => false | _ => true) with | false => none | true => ob (whlG 3 ftN fsN faN 100 ((ns.take 13).map T.i) [.p (.l (ns.map .i)), .p (.i 13), X₁, .k, .p (.i (lastN (7 + ns.length) ns))]) fun z => some (Res.ret (T.l z.fst))) = _
  rw [ea, e]
  rfl
end
end Mine

set_option maxRecDepth 100000
set_option maxHeartbeats 4000000
namespace Mine
open PySem PySem.Calls PyProof.Rows PyProof.V PySem.SeqAt PySem.W.X

def sc_comb : Scope := dScope (defAt 1)
def g_comb : List Str := ["low", "high", "many", "first", "rest"]
def n_comb : List Str := ["low", "high", "many"]
def genIok (sc : Scope) (names : List Str) : Bool := sc.kind == .function && !sc.isCoroutine && sc.isGenerator && sc.names.all (fun y => y.2 != .cell && y.2 != .free) && names.all (fun y => sc.names.lookup y == some .local) && decide names.Nodup
theorem genI_of {sc : Scope} {names : List Str} (h : genIok sc names = true) : GenI sc names := by
  simp only [genIok, Bool.and_eq_true, beq_iff_eq, decide_eq_true_eq] at h
  obtain ⟨⟨⟨⟨⟨h1, h2⟩, h3⟩, h4⟩, h5⟩, h6⟩ := h
  refine ⟨h1, by simpa using h2, h3, fun y hy => ?_, fun y hy => ?_, fun y hy => ?_, h6⟩
  · have := (List.all_eq_true.mp h4) y hy
    simp only [Bool.and_eq_true, bne_iff_ne] at this; exact this.1
  · have := (List.all_eq_true.mp h4) y hy
    simp only [Bool.and_eq_true, bne_iff_ne] at this; exact this.2
  · have := (List.all_eq_true.mp h5) y hy
    simpa using this
theorem genI_comb : GenI sc_comb n_comb := genI_of (by rfl)
section
variable {prog : Program} {w : World} {c : Base prog w}
theorem gat_comb : ∀ i, i < n_comb.length → g_comb[i]? = n_comb[i]? := fun i h => by
  match i, h with
  | 0, _ => rfl
  | 1, _ => rfl
  | 2, _ => rfl
theorem g_one {x : Str} {j : Nat} (h : g_comb[j]? = some x) : ∀ i, g_comb[i]? = some x → i = j := fun i hi => (List.getElem?_inj (List.getElem?_eq_some_iff.mp hi).1 (by decide)).mp (hi.trans h.symm)
theorem fY_eq {f : Int} {l : List Int} (hl : l.length ≤ 900) : tAddF (.t [.i f]) (tupI l) = some (consI f (tupI l)) := by
  show (match Nat.ble ([T.i f].length + (l.map T.i).length) 1000 with | true => some (T.t ([T.i f] ++ l.map T.i)) | false => none) = _
  rw [List.length_map, Nat.ble_eq_true_of_le (by simp; omega)]
  rfl
theorem comb0 (hc : c.Ok) {fa : Addr} {o : Obj} {pm cd doc : Value} (F : FnAt c "_combinations" (dPars (defAt 1)) (dBody (defAt 1)) (dScope (defAt 1)) fa o pm cd doc) : CombOk c fa 1 0 := by
  have F' := F
  conv at F' => arg 5; whnf
  exact comb_zero (sc := sc_comb) (G := g_comb) (names := n_comb) (K := 0) hc F' genI_comb rfl gat_comb (fun vs h => match vs, h with | [a, b, d], _ => rfl) (EvB_cmp cmp_eq (Ev_name (i := 2) (by rfl) (by decide) (by decide)) Ev_int (by rfl)) (Ev_tuple EvL_nil) (fun low hi => rfl) (fun low hi => rfl) (fun _ _ => trivial)
theorem combS (hc : c.Ok) (gl : Gl c) {fa : Addr} {o : Obj} {pm cd doc : Value} {K m : Nat} (F : FnAt c "_combinations" (dPars (defAt 1)) (dBody (defAt 1)) (dScope (defAt 1)) fa o pm cd doc) (hm : m ≤ 900) (IH : CombOk c fa K m) : CombOk c fa (K + 2) (m + 1) := by
  have F' := F
  conv at F' => arg 5; whnf
  exact comb_succ (sc := sc_comb) (G := g_comb) (names := n_comb) (Km := K) (m := m) hc F' genI_comb rfl gat_comb (fun vs h => match vs, h with | [a, b, d], _ => rfl) (EvB_cmp cmp_eq (Ev_name (i := 2) (by rfl) (by decide) (by decide)) Ev_int (by rfl)) (fun low hi => rfl)
    gl.range (by rfl) (by decide) (EvL_cons (Ev_name (i := 0) (by rfl) (by decide) (by decide)) (EvL_cons (Ev_bin bin_add (Ev_bin bin_sub (Ev_name (i := 1) (by rfl) (by decide) (by decide)) (Ev_name (i := 2) (by rfl) (by decide) (by decide))) Ev_int) EvL_nil (star_cons (by rfl))) (star_cons (by rfl))) ⟨rfl, rfl⟩ (fun low hi => rfl) (by rfl) (by decide) (EvL_cons (Ev_bin bin_add (Ev_name (i := 3) (by rfl) (by decide) (by decide)) Ev_int) (EvL_cons (Ev_name (i := 1) (by rfl) (by decide) (by decide)) (EvL_cons (Ev_bin bin_sub (Ev_name (i := 2) (by rfl) (by decide) (by decide)) Ev_int) EvL_nil (star_cons (by rfl))) (star_cons (by rfl))) (star_cons (by rfl))) ⟨rfl, rfl, rfl⟩ (fun low hi f => rfl) (Ev_bin bin_add (Ev_tuple (EvL_cons (Ev_name (i := 3) (by rfl) (by decide) (by decide)) EvL_nil (star_cons (by rfl)))) (Ev_name (i := 4) (by rfl) (by decide) (by decide))) (fun low hi f l hl => fY_eq hl)
    (by rfl) (g_one (by rfl)) (by rfl) (by rfl) (g_one (by rfl)) (by rfl) (fun env v => rfl) (fun env v => rfl) hm IH
end
end Mine

set_option maxRecDepth 100000
set_option maxHeartbeats 4000000
namespace Mine
open PySem PySem.Calls PyProof.Rows PyProof.V PySem.SeqAt PySem.W.X

def sc_wci : Scope := dScope (defAt 2)
def g_wci : List Str := ["n", "num_parts", "m", "last", "first", "t"]
def n_wci : List Str := ["n", "num_parts"]
theorem genI_wci : GenI sc_wci n_wci := genI_of (by rfl)
section
variable {prog : Program} {w : World} {c : Base prog w}
theorem gat_wci : ∀ i, i < n_wci.length → g_wci[i]? = n_wci[i]? := fun i h => by
  match i, h with
  | 0, _ => rfl
  | 1, _ => rfl
theorem g_one2 {x : Str} {j : Nat} (h : g_wci[j]? = some x) : ∀ i, g_wci[i]? = some x → i = j := fun i hi => (List.getElem?_inj (List.getElem?_eq_some_iff.mp hi).1 (by decide)).mp (hi.trans h.symm)
theorem add_tupL {l : List Int} {f : Int} (hl : l.length ≤ 900) : tAddF (.t [.i f]) (tupI l) = some (.t ((f :: l).map .i)) := fY_eq hl
theorem add_tupR {l : List Int} {m : Int} (hl : l.length ≤ 900) : tAddF (tupI l) (.t [.i m]) = some (.t ((l ++ [m]).map .i)) := by
  show (match Nat.ble ((l.map T.i).length + [T.i m].length) 1000 with | true => some (T.t (l.map T.i ++ [T.i m])) | false => none) = _
  rw [List.length_map, Nat.ble_eq_true_of_le (by simp; omega)]
  rw [List.map_append]; rfl
theorem wciN (hc : c.Ok) (gl : Gl c) {cda : Addr} (ht : c.OkT cda) (hB : OkB c) {fa fb : Addr} {o o' : Obj} {pm doc pm' cd' doc' : Value} {K : Nat} {n np : Int}
    (F : FnAt c "weak_composition_iter" (dPars (defAt 2)) (dBody (defAt 2)) (dScope (defAt 2)) fa o pm (.ref cda) doc) (Fb : FnAt c "_combinations" (dPars (defAt 1)) (dBody (defAt 1)) (dScope (defAt 1)) fb o' pm' cd' doc')
    (hn0 : 0 ≤ n) (hp0 : 1 ≤ np) (hb : n + np ≤ 100) (IH : CombOk c fb K (np - 1).toNat) : WciOk c fa (K + 2) n np := by
  have F' := F
  conv at F' => arg 5; whnf
  refine wci (sc := sc_wci) (G := g_wci) (names := n_wci) (K := K) hc F' Fb genI_wci rfl gat_wci (fun vs h => match vs, h with | [a, b], _ => rfl)
    (EvB_cmp cmp_lt (Ev_name (i := 0) (by rfl) (by decide) (by decide)) Ev_int (by rfl)) (EvB_cmp cmp_lt (Ev_name (i := 1) (by rfl) (by decide) (by decide)) Ev_int (by rfl)) (EvB_cmp cmp_eq (Ev_name (i := 1) (by rfl) (by decide) (by decide)) Ev_int (by rfl)) ?_ ?_ ?_
    (Ev_bin bin_sub (Ev_bin bin_add (Ev_name (i := 0) (by rfl) (by decide) (by decide)) (Ev_name (i := 1) (by rfl) (by decide) (by decide))) Ev_int) (Ev_tuple (EvL_cons (Ev_name (i := 2) (by rfl) (by decide) (by decide)) EvL_nil (star_cons (by rfl)))) (Ev_tuple (EvL_cons (Ev_neg Ev_int) EvL_nil (star_cons (by rfl))))
    rfl rfl rfl (by rfl) (g_one2 (by rfl)) (by rfl) (by rfl) (g_one2 (by rfl)) (by rfl) (by rfl) (g_one2 (by rfl)) (by rfl)
    (fun env => rfl) (fun env => rfl) (fun env => rfl) (by rfl) (by decide) (EvL_cons Ev_int (EvL_cons (Ev_name (i := 2) (by rfl) (by decide) (by decide)) (EvL_cons (Ev_bin bin_sub (Ev_name (i := 1) (by rfl) (by decide) (by decide)) Ev_int) EvL_nil (star_cons (by rfl))) (star_cons (by rfl))) (star_cons (by rfl))) ⟨rfl, rfl, rfl⟩ rfl (fun env v => rfl) (by rfl) (g_one2 (by rfl)) (by rfl)
    (fun A s env l E Z hll hcd hE hA hx hZ hF => ?_) hn0 hp0 hb IH
  · exact congrArg some (decide_eq_false (show ¬ n < 0 by omega))
  · exact congrArg some (decide_eq_false (show ¬ np < 0 by omega))
  · exact congrArg some (decide_eq_false (show ¬ np = 0 by omega))
  · refine tup_zip (c := c) hc ht hB gl (us := -1 :: l) (vs := l ++ [n + np - 1]) (EvL_cons (Ev_bin bin_add (Ev_name (i := 4) (by rfl) (by decide) (by decide)) (Ev_name (i := 5) (by rfl) (by decide) (by decide))) (EvL_cons (Ev_bin bin_add (Ev_name (i := 5) (by rfl) (by decide) (by decide)) (Ev_name (i := 3) (by rfl) (by decide) (by decide))) EvL_nil (star_cons (by rfl))) (star_cons (by rfl))) (fun env => star_cons (by rfl) env) (noStar_one (by rfl)) (by rfl) (by rfl) (tupSc_of (by rfl)) (fun A E s env m u v ku kv hs hn h1 h2 => ?_) hA hE hcd hx hZ hF ?_ (by simp) (by simp; omega)
    · exact elt_diff (by rw [hs]) hn (by unfold Env.kindOf; rw [hs]; rfl) (by unfold Env.kindOf; rw [hs]; rfl) h1 h2 (by decide) (by decide) (by decide) (by decide)
    · show (ob (tAddF (.t [.i (-1)]) (tupI l)) fun t => ob (ob (tAddF (tupI l) (.t [.i (n + np - 1)])) fun t => ob (some []) fun ts => some (t :: ts)) fun ts => some (t :: ts)) = _
      rw [add_tupL hll, add_tupR hll]
      rfl
end

/-- what the statement rows = list(..) gives -/
def rowsG : List T → Option T
  | [.i c, .i n] => match decide (0 ≤ c) with
    | true => match decide (1 ≤ n) with
      | true => match decide (n ≤ 3) with
        | true => match decide (c ≤ 3) with
          | true => some (.l (rowsW c n))
          | false => none
        | false => none
      | false => none
    | false => none
  | _ => none
theorem rowsG_some {ts : List T} {t : T} (h : rowsG ts = some t) : ∃ c n : Int, ts = [.i c, .i n] ∧ 0 ≤ c ∧ c ≤ 3 ∧ 1 ≤ n ∧ n ≤ 3 ∧ t = .l (rowsW c n) := by
  unfold rowsG at h
  split at h
  · rename_i c n
    cases h1 : decide (0 ≤ c) <;> rw [h1] at h <;> try cases h
    cases h2 : decide (1 ≤ n) <;> rw [h2] at h <;> try cases h
    cases h3 : decide (n ≤ 3) <;> rw [h3] at h <;> try cases h
    cases h4 : decide (c ≤ 3) <;> rw [h4] at h <;> try cases h
    exact ⟨c, n, rfl, of_decide_eq_true h1, of_decide_eq_true h4, of_decide_eq_true h2, of_decide_eq_true h3, rfl⟩
  · cases h
theorem rowsW_len {c n : Int} (h1 : 0 ≤ c) (h2 : c ≤ 3) (h3 : 1 ≤ n) (h4 : n ≤ 3) : (rowsW c n).length ≤ 1000 := by
  have hc : c = 0 ∨ c = 1 ∨ c = 2 ∨ c = 3 := by omega
  have hn : n = 1 ∨ n = 2 ∨ n = 3 := by omega
  unfold rowsW
  rw [List.length_map, List.length_map]
  rcases hc with rfl | rfl | rfl | rfl <;> rcases hn with rfl | rfl | rfl <;> decide
section
variable {prog : Program} {w : World} {c : Base prog w}
theorem St_rowsL (hc : c.Ok) {x y : Str} {params : Arguments} {body : List Stmt} {scF sc : Scope} {fa : Addr} {o : Obj} {pm cd doc : Value} {G : List Str} {k j : Nat} {e1 e2 : Expr} {g : List X → Option (List T)} {p q p1 p2 py pos : Pos} (F : FnAt c x params body scF fa o pm cd doc) (hgl : GlobIs c "list" (.type "list"))
    (ha : EvL c sc G k [e1, e2] g) (hu : unstar e1 = true ∧ unstar e2 = true) (hkl : sc.names.lookup ("list" : Str) = some .globalImplicit) (hkx : sc.names.lookup x = some .globalImplicit) (hd : (x == ("__debug__" : Str)) = false)
    (W : ∀ m n : Int, 0 ≤ m → m ≤ 3 → 1 ≤ n → n ≤ 3 → ∃ K, K + 3 ≤ k ∧ WciOk c fa K m n) (hn : NameI sc G y j)
    (hs : ∀ env, EnvI sc env → swapsWith (.Call (.Name "list" p) [.Call (.Name x q) [e1, e2] [] p1] [] p2) (some (.Name y py)) pos.line env = pure false) :
    St c true sc G k (.Assign [.Name y py] (.Call (.Name "list" p) [.Call (.Name x q) [e1, e2] [] p1] [] p2) pos) (fun r => ob (ob (g r) rowsG) fun t => ob (put j r (.p t)) fun r' => some (.n r')) :=
  St_mvd (fun A env s r t E Z hA hE hx hZ hF hf => by
    obtain ⟨ts, e1, e2⟩ := ob_some hf
    obtain ⟨x, n, rfl, h1, h2, h3, h4, rfl⟩ := rowsG_some e2
    obtain ⟨K, hK, W⟩ := W x n h1 h2 h3 h4
    exact list_wci hc F hgl ha hu hkl hkx hd W hK (rowsW_len h1 h2 h3 h4) hA hE hx hZ hF e1) hn hs
def rowsAll {k : Nat} (hc : c.Ok) (gl : Gl c) {cda : Addr} (ht : c.OkT cda) (hB : OkB c) {fa fb : Addr} {o o' : Obj} {pm doc pm' cd' doc' : Value}
    (F : FnAt c "weak_composition_iter" (dPars (defAt 2)) (dBody (defAt 2)) (dScope (defAt 2)) fa o pm (.ref cda) doc) (Fb : FnAt c "_combinations" (dPars (defAt 1)) (dBody (defAt 1)) (dScope (defAt 1)) fb o' pm' cd' doc') (hk : 10 ≤ k) :
    { f // St c true sclaw glaw k rowsSt f } := ⟨_, by
  conv => arg 6; whnf
  exact St_rowsL hc F gl.list (EvL_cons (Ev_item (Ev_name (i := 3) (by rfl) (by decide) (by decide)) (Ev_name (i := 6) (by rfl) (by decide) (by decide)) (fun o i => rfl)) (EvL_cons (Ev_name (i := 4) (by rfl) (by decide) (by decide)) EvL_nil (star_cons (by rfl))) (star_cons (by rfl))) ⟨rfl, rfl⟩ (by rfl) (by rfl) (by decide) (fun x n h1 h2 h3 h4 => by
    have c0 := comb0 hc Fb
    have c1 := combS hc gl Fb (by decide) c0
    have c2 := combS hc gl Fb (by decide) c1
    have hn : n = 1 ∨ n = 2 ∨ n = 3 := by omega
    rcases hn with rfl | rfl | rfl
    · exact ⟨3, by omega, wciN hc gl ht hB F Fb h1 h3 (by omega) c0⟩
    · exact ⟨5, by omega, wciN hc gl ht hB F Fb h1 h3 (by omega) c1⟩
    · exact ⟨7, by omega, wciN hc gl ht hB F Fb h1 h3 (by omega) c2⟩) (nameI (j := 8) ndlaw (by rfl) (by left; rfl)) (fun env hE => rfl)⟩
end
end Mine

set_option maxRecDepth 100000
set_option maxHeartbeats 4000000
namespace Mine
open PySem PySem.Calls PyProof.Rows PyProof.V PySem.SeqAt PySem.W.X

/-- what the law's text needs of the program's top -/
structure Fns {prog : Program} {w : World} (c : Base prog w) where
  cda : Addr
  ok : c.Ok
  ok2 : c.Ok2
  okT : c.OkT cda
  okB : OkB c
  gl : Gl c
  a_comb : Addr
  o_comb : Obj
  pm_comb : Value
  cd_comb : Value
  doc_comb : Value
  f_comb : FnAt c "_combinations" (dPars (defAt 1)) (dBody (defAt 1)) (dScope (defAt 1)) a_comb o_comb pm_comb cd_comb doc_comb
  a_wci : Addr
  o_wci : Obj
  pm_wci : Value
  doc_wci : Value
  f_wci : FnAt c "weak_composition_iter" (dPars (defAt 2)) (dBody (defAt 2)) (dScope (defAt 2)) a_wci o_wci pm_wci (.ref cda) doc_wci
  a_num : Addr
  o_num : Obj
  pm_num : Value
  cd_num : Value
  doc_num : Value
  f_num : FnAt c "_law_numbers" (dPars (defAt 4)) (dBody (defAt 4)) (dScope (defAt 4)) a_num o_num pm_num cd_num doc_num
  a_sq : Addr
  o_sq : Obj
  pm_sq : Value
  cd_sq : Value
  doc_sq : Value
  f_sq : FnAt c "_law_square" (dPars (defAt 5)) (dBody (defAt 5)) (dScope (defAt 5)) a_sq o_sq pm_sq cd_sq doc_sq
  a_fac : Addr
  o_fac : Obj
  pm_fac : Value
  cd_fac : Value
  doc_fac : Value
  f_fac : FnAt c "_law_factorial" (dPars (defAt 6)) (dBody (defAt 6)) (dScope (defAt 6)) a_fac o_fac pm_fac cd_fac doc_fac
  a_mi : Addr
  o_mi : Obj
  pm_mi : Value
  cd_mi : Value
  doc_mi : Value
  f_mi : FnAt c "_law_minor" (dPars (defAt 7)) (dBody (defAt 7)) (dScope (defAt 7)) a_mi o_mi pm_mi cd_mi doc_mi
  a_ser : Addr
  o_ser : Obj
  pm_ser : Value
  cd_ser : Value
  doc_ser : Value
  f_ser : FnAt c "_law_series" (dPars (defAt 8)) (dBody (defAt 8)) (dScope (defAt 8)) a_ser o_ser pm_ser cd_ser doc_ser
section
variable {prog : Program} {w : World} {c : Base prog w}
theorem Fns.c_num (f : Fns c) {k : Nat} : CallOk c (k + 1) (.ref f.a_num) (fnF 2 (b_law_numbers (k := k) f.ok f.gl).1) :=
  call_fn f.ok f.f_num (G := g_law_numbers) (names := ["script", "many"]) (defI_of (by rfl)) (fun vs h => match vs, h with | [a, b], _ => rfl) (b_law_numbers (k := k) f.ok f.gl).2
theorem Fns.c_sq (f : Fns c) {k : Nat} {md : List (Nat × Nat × Nat)} (hm : MdOk c md) : CallOk c (k + 1) (.ref f.a_sq) (fnF 1 (b_law_square (k := k) f.ok f.gl hm).1) :=
  call_fn f.ok f.f_sq (G := g_law_square) (names := ["found"]) (defI_of (by rfl)) (fun vs h => match vs, h with | [a], _ => rfl) (b_law_square (k := k) f.ok f.gl hm).2
theorem Fns.c_fac (f : Fns c) {k : Nat} : CallOk c (k + 1) (.ref f.a_fac) (fnF 1 (b_law_factorial (k := k) f.ok f.gl).1) :=
  call_fn f.ok f.f_fac (G := g_law_factorial) (names := ["k"]) (defI_of (by rfl)) (fun vs h => match vs, h with | [a], _ => rfl) (b_law_factorial (k := k) f.ok f.gl).2
theorem Fns.c_mi (f : Fns c) {k : Nat} : CallOk c (k + 1) (.ref f.a_mi) (fnF 2 (b_law_minor (k := k) f.ok f.gl).1) :=
  call_fn f.ok f.f_mi (G := g_law_minor) (names := ["square", "some"]) (defI_of (by rfl)) (fun vs h => match vs, h with | [a, b], _ => rfl) (b_law_minor (k := k) f.ok f.gl).2
theorem Fns.c_ser (f : Fns c) {k : Nat} : CallOk c (k + 2) (.ref f.a_ser) (fnF 2 (b_law_series (k := k + 1) f.ok f.gl f.ok2 f.f_mi (f.c_mi (k := k))).1) :=
  call_fn f.ok f.f_ser (G := g_law_series) (names := ["square", "counts"]) (defI_of (by rfl)) (fun vs h => match vs, h with | [a, b], _ => rfl) (b_law_series (k := k + 1) f.ok f.gl f.ok2 f.f_mi (f.c_mi (k := k))).2
def Fns.body (f : Fns c) {md : List (Nat × Nat × Nat)} (hm : MdOk c md) : { F // SSB c true sclaw glaw 12 ((dBody (defAt 9)).drop 1) F } :=
  blaw f.ok f.gl f.ok2 f.f_fac (f.c_fac (k := 11)) f.f_sq (f.c_sq (k := 11) hm) f.f_ser (f.c_ser (k := 10)) (rowsAll f.ok f.gl f.okT f.okB f.f_wci f.f_comb (by decide)).2
def vars : List T := [.s [([0], 1)], .s [([1], 1)], .s [([2], 1)], .s [([3], 1)], .s [([4], 1)], .s [([5], 1)], .s [([6], 1)], .s [([7], 1)], .s [([8], 1)], .s [([9], 1)], .s [([10], 1)], .s [([11], 1)], .s [([12], 1)]]
theorem p00 (f : Fns c) (hm : MdOk c [(0, 3, 0), (10, 3, 0)]) : (f.body hm).1 [.u, .p (.l vars)] = some true := by kernel_rfl
theorem p01 (f : Fns c) (hm : MdOk c [(0, 3, 0), (10, 3, 1)]) : (f.body hm).1 [.u, .p (.l vars)] = some true := by kernel_rfl
theorem p02 (f : Fns c) (hm : MdOk c [(0, 3, 0), (10, 3, 2)]) : (f.body hm).1 [.u, .p (.l vars)] = some true := by kernel_rfl
theorem p100 (f : Fns c) (hm : MdOk c [(0, 3, 1), (5, 4, 0), (6, 4, 0)]) : (f.body hm).1 [.u, .p (.l vars)] = some true := by kernel_rfl
theorem p101 (f : Fns c) (hm : MdOk c [(0, 3, 1), (5, 4, 0), (6, 4, 1)]) : (f.body hm).1 [.u, .p (.l vars)] = some true := by kernel_rfl
theorem p102 (f : Fns c) (hm : MdOk c [(0, 3, 1), (5, 4, 0), (6, 4, 2)]) : (f.body hm).1 [.u, .p (.l vars)] = some true := by kernel_rfl
theorem p103 (f : Fns c) (hm : MdOk c [(0, 3, 1), (5, 4, 0), (6, 4, 3)]) : (f.body hm).1 [.u, .p (.l vars)] = some true := by kernel_rfl
theorem p110 (f : Fns c) (hm : MdOk c [(0, 3, 1), (5, 4, 1), (6, 4, 0)]) : (f.body hm).1 [.u, .p (.l vars)] = some true := by kernel_rfl
theorem p111 (f : Fns c) (hm : MdOk c [(0, 3, 1), (5, 4, 1), (6, 4, 1)]) : (f.body hm).1 [.u, .p (.l vars)] = some true := by kernel_rfl
theorem p112 (f : Fns c) (hm : MdOk c [(0, 3, 1), (5, 4, 1), (6, 4, 2)]) : (f.body hm).1 [.u, .p (.l vars)] = some true := by kernel_rfl
theorem p113 (f : Fns c) (hm : MdOk c [(0, 3, 1), (5, 4, 1), (6, 4, 3)]) : (f.body hm).1 [.u, .p (.l vars)] = some true := by kernel_rfl
theorem p120 (f : Fns c) (hm : MdOk c [(0, 3, 1), (5, 4, 2), (6, 4, 0)]) : (f.body hm).1 [.u, .p (.l vars)] = some true := by kernel_rfl
theorem p121 (f : Fns c) (hm : MdOk c [(0, 3, 1), (5, 4, 2), (6, 4, 1)]) : (f.body hm).1 [.u, .p (.l vars)] = some true := by kernel_rfl
theorem p122 (f : Fns c) (hm : MdOk c [(0, 3, 1), (5, 4, 2), (6, 4, 2)]) : (f.body hm).1 [.u, .p (.l vars)] = some true := by kernel_rfl
theorem p123 (f : Fns c) (hm : MdOk c [(0, 3, 1), (5, 4, 2), (6, 4, 3)]) : (f.body hm).1 [.u, .p (.l vars)] = some true := by kernel_rfl
theorem p130 (f : Fns c) (hm : MdOk c [(0, 3, 1), (5, 4, 3), (6, 4, 0)]) : (f.body hm).1 [.u, .p (.l vars)] = some true := by kernel_rfl
theorem p131 (f : Fns c) (hm : MdOk c [(0, 3, 1), (5, 4, 3), (6, 4, 1)]) : (f.body hm).1 [.u, .p (.l vars)] = some true := by kernel_rfl
theorem p132 (f : Fns c) (hm : MdOk c [(0, 3, 1), (5, 4, 3), (6, 4, 2)]) : (f.body hm).1 [.u, .p (.l vars)] = some true := by kernel_rfl
theorem p133 (f : Fns c) (hm : MdOk c [(0, 3, 1), (5, 4, 3), (6, 4, 3)]) : (f.body hm).1 [.u, .p (.l vars)] = some true := by kernel_rfl
theorem p2000 (f : Fns c) (hm : MdOk c [(0, 3, 2), (10, 3, 0), (11, 3, 0), (12, 3, 0)]) : (f.body hm).1 [.u, .p (.l vars)] = some true := by kernel_rfl
theorem p2001 (f : Fns c) (hm : MdOk c [(0, 3, 2), (10, 3, 0), (11, 3, 0), (12, 3, 1)]) : (f.body hm).1 [.u, .p (.l vars)] = some true := by kernel_rfl
theorem p2002 (f : Fns c) (hm : MdOk c [(0, 3, 2), (10, 3, 0), (11, 3, 0), (12, 3, 2)]) : (f.body hm).1 [.u, .p (.l vars)] = some true := by kernel_rfl
theorem p2010 (f : Fns c) (hm : MdOk c [(0, 3, 2), (10, 3, 0), (11, 3, 1), (12, 3, 0)]) : (f.body hm).1 [.u, .p (.l vars)] = some true := by kernel_rfl
theorem p2011 (f : Fns c) (hm : MdOk c [(0, 3, 2), (10, 3, 0), (11, 3, 1), (12, 3, 1)]) : (f.body hm).1 [.u, .p (.l vars)] = some true := by kernel_rfl
theorem p2012 (f : Fns c) (hm : MdOk c [(0, 3, 2), (10, 3, 0), (11, 3, 1), (12, 3, 2)]) : (f.body hm).1 [.u, .p (.l vars)] = some true := by kernel_rfl
theorem p2020 (f : Fns c) (hm : MdOk c [(0, 3, 2), (10, 3, 0), (11, 3, 2), (12, 3, 0)]) : (f.body hm).1 [.u, .p (.l vars)] = some true := by kernel_rfl
theorem p2021 (f : Fns c) (hm : MdOk c [(0, 3, 2), (10, 3, 0), (11, 3, 2), (12, 3, 1)]) : (f.body hm).1 [.u, .p (.l vars)] = some true := by kernel_rfl
theorem p2022 (f : Fns c) (hm : MdOk c [(0, 3, 2), (10, 3, 0), (11, 3, 2), (12, 3, 2)]) : (f.body hm).1 [.u, .p (.l vars)] = some true := by kernel_rfl
theorem p2100 (f : Fns c) (hm : MdOk c [(0, 3, 2), (10, 3, 1), (11, 3, 0), (12, 3, 0)]) : (f.body hm).1 [.u, .p (.l vars)] = some true := by kernel_rfl
theorem p2101 (f : Fns c) (hm : MdOk c [(0, 3, 2), (10, 3, 1), (11, 3, 0), (12, 3, 1)]) : (f.body hm).1 [.u, .p (.l vars)] = some true := by kernel_rfl
theorem p2102 (f : Fns c) (hm : MdOk c [(0, 3, 2), (10, 3, 1), (11, 3, 0), (12, 3, 2)]) : (f.body hm).1 [.u, .p (.l vars)] = some true := by kernel_rfl
theorem p2110 (f : Fns c) (hm : MdOk c [(0, 3, 2), (10, 3, 1), (11, 3, 1), (12, 3, 0)]) : (f.body hm).1 [.u, .p (.l vars)] = some true := by kernel_rfl
theorem p2111 (f : Fns c) (hm : MdOk c [(0, 3, 2), (10, 3, 1), (11, 3, 1), (12, 3, 1)]) : (f.body hm).1 [.u, .p (.l vars)] = some true := by kernel_rfl
theorem p2112 (f : Fns c) (hm : MdOk c [(0, 3, 2), (10, 3, 1), (11, 3, 1), (12, 3, 2)]) : (f.body hm).1 [.u, .p (.l vars)] = some true := by kernel_rfl
theorem p2120 (f : Fns c) (hm : MdOk c [(0, 3, 2), (10, 3, 1), (11, 3, 2), (12, 3, 0)]) : (f.body hm).1 [.u, .p (.l vars)] = some true := by kernel_rfl
theorem p2121 (f : Fns c) (hm : MdOk c [(0, 3, 2), (10, 3, 1), (11, 3, 2), (12, 3, 1)]) : (f.body hm).1 [.u, .p (.l vars)] = some true := by kernel_rfl
theorem p2122 (f : Fns c) (hm : MdOk c [(0, 3, 2), (10, 3, 1), (11, 3, 2), (12, 3, 2)]) : (f.body hm).1 [.u, .p (.l vars)] = some true := by kernel_rfl
theorem p2200 (f : Fns c) (hm : MdOk c [(0, 3, 2), (10, 3, 2), (11, 3, 0), (12, 3, 0)]) : (f.body hm).1 [.u, .p (.l vars)] = some true := by kernel_rfl
theorem p2201 (f : Fns c) (hm : MdOk c [(0, 3, 2), (10, 3, 2), (11, 3, 0), (12, 3, 1)]) : (f.body hm).1 [.u, .p (.l vars)] = some true := by kernel_rfl
theorem p2202 (f : Fns c) (hm : MdOk c [(0, 3, 2), (10, 3, 2), (11, 3, 0), (12, 3, 2)]) : (f.body hm).1 [.u, .p (.l vars)] = some true := by kernel_rfl
theorem p2210 (f : Fns c) (hm : MdOk c [(0, 3, 2), (10, 3, 2), (11, 3, 1), (12, 3, 0)]) : (f.body hm).1 [.u, .p (.l vars)] = some true := by kernel_rfl
theorem p2211 (f : Fns c) (hm : MdOk c [(0, 3, 2), (10, 3, 2), (11, 3, 1), (12, 3, 1)]) : (f.body hm).1 [.u, .p (.l vars)] = some true := by kernel_rfl
theorem p2212 (f : Fns c) (hm : MdOk c [(0, 3, 2), (10, 3, 2), (11, 3, 1), (12, 3, 2)]) : (f.body hm).1 [.u, .p (.l vars)] = some true := by kernel_rfl
theorem p2220 (f : Fns c) (hm : MdOk c [(0, 3, 2), (10, 3, 2), (11, 3, 2), (12, 3, 0)]) : (f.body hm).1 [.u, .p (.l vars)] = some true := by kernel_rfl
theorem p2221 (f : Fns c) (hm : MdOk c [(0, 3, 2), (10, 3, 2), (11, 3, 2), (12, 3, 1)]) : (f.body hm).1 [.u, .p (.l vars)] = some true := by kernel_rfl
theorem p2222 (f : Fns c) (hm : MdOk c [(0, 3, 2), (10, 3, 2), (11, 3, 2), (12, 3, 2)]) : (f.body hm).1 [.u, .p (.l vars)] = some true := by kernel_rfl
end
end Mine

set_option maxRecDepth 100000
set_option maxHeartbeats 4000000
namespace Mine
open PySem PySem.Calls PyProof.Rows PyProof.V PySem.SeqAt PySem.W.X

def dPos : Stmt → Pos
  | .FunctionDef _ _ _ _ _ _ _ _ _ pos => pos
  | _ => default
def recAt (n : Nat) : DefRec := ⟨dName (defAt n), dPars (defAt n), dBody (defAt n), dScope (defAt n), dPos (defAt n)⟩
def lawRecs : List DefRec := [recAt 1, recAt 2, recAt 4, recAt 5, recAt 6, recAt 7, recAt 8, recAt 9]
def glNames : List Str := ["len", "sum", "min", "max", "tuple", "range", "list", "set", "zip"]

/-- the table of a code object -/
def TabP (o : Obj) : Prop := ∃ ps : Array Value, o = { cls := .none, data := .fields ps } ∧ TriplesOk ps.toList
def aOf (ns : List Int) (i : Nat) : Int := (numbersL ns).getD i 0

theorem moreN_small : ∀ (n : Nat) (z : Int), ∀ x ∈ moreN n z, x.natAbs ≤ 2147483647
  | 0, _, x, h => by cases h
  | n + 1, z, x, h => by
    have hz := fmod_lt (z * 48271 + 11)
    rcases List.mem_cons.mp h with rfl | h
    · have h1 : (0 : Int) ≤ ((z * 48271 + 11).fmod 2147483647).fdiv 13 := Int.fdiv_nonneg hz.1 (by decide)
      have h2 : ((z * 48271 + 11).fmod 2147483647).fdiv 13 = ((z * 48271 + 11).fmod 2147483647) / 13 := Int.fdiv_eq_ediv_of_nonneg _ (by decide)
      omega
    · exact moreN_small n _ x h
theorem bnd_aOf {ns : List Int} (h : ∀ x ∈ ns, x.natAbs ≤ 2 ^ 1048600) : Bnd (aOf ns) := by
  have key : ∀ B : Nat, 2147483647 ≤ B → (∀ x ∈ ns, x.natAbs ≤ B) → ∀ i, (aOf ns i).natAbs ≤ B := by
    intro B hB hb i
    unfold aOf
    rw [List.getD_eq_getElem?_getD]
    cases e : (numbersL ns)[i]? with
    | none => simp
    | some x =>
      have hm := List.mem_of_getElem? e
      show x.natAbs ≤ B
      unfold numbersL at hm
      rcases List.mem_append.mp hm with hm | hm
      · exact hb x (List.mem_of_mem_take hm)
      · exact Nat.le_trans (moreN_small _ _ x hm) hB
  intro i
  refine key _ ?_ h i
  exact Nat.le_trans (show 2147483647 ≤ 2 ^ 31 by decide) (Nat.pow_le_pow_right (by decide) (by decide))

def varsFrom : Nat → Nat → List T
  | _, 0 => []
  | i, n + 1 => .s [([i], 1)] :: varsFrom (i + 1) n
theorem reps_vars {a : Nat → Int} {Z : Addr → Prop} {h : Heap} : ∀ (l : List Int) (i : Nat) (vs : List Value), (∀ j z, l[j]? = some z → a (i + j) = z) → Reps ⟨a, Z⟩ h (l.map .i) vs → Reps ⟨a, Z⟩ h (varsFrom i l.length) vs
  | [], _, vs, _, r => r
  | z :: l, i, vs, ha, ⟨v, r, e, ⟨k, hk⟩, hr⟩ => by
    refine ⟨v, r, e, ⟨k, ?_⟩, reps_vars l (i + 1) r (fun j z hj => ?_) hr⟩
    · have h0 : a i = z := ha 0 z rfl
      show v = .int (polDen a [([i], 1)]) k
      have e1 : polDen a [([i], 1)] = a i := by simp [polDen, monDen]
      rw [e1, h0]; exact hk
    · have := ha (j + 1) z (by simpa using hj)
      rw [← this]; congr 1; omega
theorem ints_reps {q : Vw} {h : Heap} {vs : List Value} {ns : List Int} (x : IntsAre vs ns) : Reps q h (ns.map .i) vs := by
  induction x with
  | nil => rfl
  | cons n t _ ih => exact ⟨_, _, rfl, ⟨t, rfl⟩, ih⟩

section
variable {prog : Program} {w : World} {c : Base prog w}
theorem FrS.recast {kb : Addr → Option Obj} {Z : Addr → Prop} {δ : Nat → Addr} {h : Heap} {env : Env} {G : List Str} {r : List X} {j : Nat} {t t' : T} (F : FrS c kb Z δ h env G r) (hj : nth r j = .p t) (ht : ∀ v, Rep ⟨c.a, Z⟩ h t v → Rep ⟨c.a, Z⟩ h t' v) : FrS c kb Z δ h env G (setN r j (.p t')) where
  base := F.base
  live := F.live
  keep := F.keep
  ptab := F.ptab
  loc := F.loc
  ns := by
    obtain ⟨m, hn, hx⟩ := F.ns
    refine ⟨m, hn, fun i x hi hu => ?_⟩
    rw [nth_setN] at hu ⊢
    by_cases e : i = j
    · subst e
      rw [if_pos rfl]
      obtain ⟨v, h1, h2, h3⟩ := hx i x hi (by rw [hj]; exact fun h => nomatch h)
      rw [hj] at h2
      exact ⟨v, h1, ht v h2, fun h => h.elim⟩
    · rw [if_neg e] at hu ⊢; exact hx i x hi hu
  cell := F.cell
  apart := F.apart
  dict := fun i kv e => by
    rw [nth_setN] at e
    by_cases q : i = j
    · rw [if_pos q] at e; cases e
    · rw [if_neg q] at e; exact F.dict i kv e
  inj := fun i i' kv kv' hne e e' => by
    rw [nth_setN] at e e'
    by_cases q : i = j
    · rw [if_pos q] at e; cases e
    · by_cases q' : i' = j
      · rw [if_pos q'] at e'; cases e'
      · rw [if_neg q] at e; rw [if_neg q'] at e'; exact F.inj i i' kv kv' hne e e'
  dom := fun i kv e => by
    rw [nth_setN] at e
    by_cases q : i = j
    · rw [if_pos q] at e; cases e
    · rw [if_neg q] at e; exact F.dom i kv e
  kp := F.kp

theorem MdOk.nil : MdOk c [] := fun i y z h => nomatch h
theorem MdOk.cons {md : List (Nat × Nat × Nat)} {i y z : Nat} (h : MdOk c md) (hy : 0 < y) (hz : (c.a i).fmod y = z) : MdOk c ((i, y, z) :: md) := by
  intro i' y' z' e
  unfold mdGet at e
  cases e1 : Nat.beq i' i with
  | false => rw [e1] at e; exact h _ _ _ e
  | true =>
    rw [e1] at e
    cases e2 : Nat.beq y' y with
    | false => simp only [e2] at e; exact h _ _ _ e
    | true =>
      simp only [e2] at e
      cases e
      rw [Nat.eq_of_beq_eq_true e1, Nat.eq_of_beq_eq_true e2]
      exact ⟨hy, hz⟩
theorem fmod3 (x : Int) : x.fmod ((3 : Nat) : Int) = ((0 : Nat) : Int) ∨ x.fmod ((3 : Nat) : Int) = ((1 : Nat) : Int) ∨ x.fmod ((3 : Nat) : Int) = ((2 : Nat) : Int) := by
  have h1 : 0 ≤ x.fmod 3 := Int.fmod_nonneg_of_pos _ (by decide)
  have h2 : x.fmod 3 < 3 := Int.fmod_lt_of_pos _ (by decide)
  show x.fmod 3 = 0 ∨ x.fmod 3 = 1 ∨ x.fmod 3 = 2
  omega
theorem fmod4 (x : Int) : x.fmod ((4 : Nat) : Int) = ((0 : Nat) : Int) ∨ x.fmod ((4 : Nat) : Int) = ((1 : Nat) : Int) ∨ x.fmod ((4 : Nat) : Int) = ((2 : Nat) : Int) ∨ x.fmod ((4 : Nat) : Int) = ((3 : Nat) : Int) := by
  have h1 : 0 ≤ x.fmod 4 := Int.fmod_nonneg_of_pos _ (by decide)
  have h2 : x.fmod 4 < 4 := Int.fmod_lt_of_pos _ (by decide)
  show x.fmod 4 = 0 ∨ x.fmod 4 = 1 ∨ x.fmod 4 = 2 ∨ x.fmod 4 = 3
  omega
end
end Mine

set_option maxRecDepth 100000
set_option maxHeartbeats 4000000
namespace Mine
open PySem PySem.Calls PyProof.Rows PyProof.V PySem.SeqAt PySem.W.X

section
variable {prog : Program} {w : World}
theorem notP_of {c : Base prog w} {ps : Array Value} (hP : c.h₀.get? c.P = some { cls := .none, data := .fields ps }) {b : Addr} {o : Obj} (e : c.h₀.get? b = some o) (h : ∀ vs, o.data ≠ .fields vs) : b ≠ c.P := fun q => by
  rw [q, hP] at e; cases e; exact h _ rfl
theorem ns_keep {c : Base prog w} {ps : Array Value} (hP : c.h₀.get? c.P = some { cls := .none, data := .fields ps }) {a : Addr} {m : Str → Option Value} (hn : c.h₀.Ns a m) {h : Heap} (hx : Gd c h) : h.Ns a m := by
  obtain ⟨o, es, ep, ho, hd, _⟩ := id hn
  exact hn.at' fun o' e => hx.1 a o' (notP_of hP ho fun vs q => by rw [hd] at q; cases q) e
theorem code_keep {c : Base prog w} (hP : c.h₀.get? c.P = some { cls := .none, data := .fields #[] }) {cd : Value} {x : Str} (hc : c.h₀.CodeRec cd x) {h : Heap} (hx : Gd c h) : h.CodeRec cd x := by
  obtain ⟨a, o, vs, t, e, ho, hd, hv⟩ := hc
  refine ⟨a, o, vs, t, e, hx.1 a o (fun q => ?_) ho, hd, hv⟩
  rw [q, hP] at ho; cases ho
  injection hd with hd
  rw [← hd] at hv
  cases hv

theorem fnAt_of {c : Base prog w} (hP : c.h₀.get? c.P = some { cls := .none, data := .fields #[] }) {x : Str} {params : Arguments} {body : List Stmt} {sc : Scope} {fa : Addr} {o : Obj} {pm cd doc : Value} (h1 : c.mg x = some (.ref fa)) (h2 : c.h₀.get? fa = some o) (h3 : o.data = .func (docDef x params body sc pm cd doc)) (h4 : c.h₀.CodeRec cd x) :
    FnAt c x params body sc fa o pm cd doc := ⟨h1, notP_of hP h2 fun vs q => (by rw [h3] at q; cases q), h2, h3, fun h hx => code_keep hP h4 hx⟩

/-- the top's facts, gathered -/
theorem fns_of {p : Program} {loose : List Str} {mean : ExcName → Option Value} {mg mb : Str → Option Value} {s : Shared} (T : Top p loose mean mg mb s.heap) (hr : recsOf p = lawRecs) (hf : ∀ x ∈ glNames, mg x = none) (hsys : ∃ o, s.heap.get? sysModules = some o ∧ ∀ vs, o.data ≠ .fields vs) {a : Nat → Int} (ha : Bnd a) :
    ∃ (P C : Addr), s.heap.TableAt C P #[] ∧ Gd (⟨s.heap, P, mg, mb, a, TabP⟩ : Base prog w) s.heap ∧ Nonempty (Fns (⟨s.heap, P, mg, mb, a, TabP⟩ : Base prog w)) ∧
      ∃ fa o pm cd doc, FnAt (⟨s.heap, P, mg, mb, a, TabP⟩ : Base prog w) "law" (dPars (defAt 9)) (dBody (defAt 9)) (dScope (defAt 9)) fa o pm cd doc := by
  have mem : ∀ i d, lawRecs[i]? = some d → d ∈ recsOf p := fun i d e => by rw [hr]; exact List.mem_of_getElem? e
  obtain ⟨wa, wo, wfd, wc, P, t1, t2, t3, t4, t5, t6⟩ := T.tab _ (mem 1 _ rfl)
  have hP : s.heap.get? P = some { cls := .none, data := .fields #[] } := t6.2
  have b : ∀ x ∈ glNames, ∀ v, bootBuiltins x = some v → x ≠ "__name__" → GlobIs (⟨s.heap, P, mg, mb, a, TabP⟩ : Base prog w) x v := fun x hx v hv hn => .inr ⟨hf x hx, (T.builtins x hn).trans hv⟩
  obtain ⟨bm, ob, b1, b2, b3, b4, b5, b6⟩ := T.bmain
  obtain ⟨acomb, ocomb, pmcomb, cdcomb, doccomb, comb1, comb2, comb3, comb4⟩ := T.fn _ (mem 0 _ rfl)
  obtain ⟨awci, owci, pmwci, cdwci, docwci, wci1, wci2, wci3, wci4⟩ := T.fn _ (mem 1 _ rfl)
  obtain ⟨anum, onum, pmnum, cdnum, docnum, num1, num2, num3, num4⟩ := T.fn _ (mem 2 _ rfl)
  obtain ⟨asq, osq, pmsq, cdsq, docsq, sq1, sq2, sq3, sq4⟩ := T.fn _ (mem 3 _ rfl)
  obtain ⟨afac, ofac, pmfac, cdfac, docfac, fac1, fac2, fac3, fac4⟩ := T.fn _ (mem 4 _ rfl)
  obtain ⟨ami, omi, pmmi, cdmi, docmi, mi1, mi2, mi3, mi4⟩ := T.fn _ (mem 5 _ rfl)
  obtain ⟨aser, oser, pmser, cdser, docser, ser1, ser2, ser3, ser4⟩ := T.fn _ (mem 6 _ rfl)
  obtain ⟨al, ol, pml, cdl, docl, l1, l2, l3, l4⟩ := T.fn _ (mem 7 _ rfl)
  have ew : cdwci = .ref wc := by
    rw [t1] at wci1; cases wci1
    rw [t2] at wci2; cases wci2
    rw [t3] at wci3; cases wci3
    exact t4
  subst ew
  have hgd : ∀ (h : Heap), Gd (⟨s.heap, P, mg, mb, a, TabP⟩ : Base prog w) h → ∃ ps : Array Value, h.get? P = some { cls := .none, data := .fields ps } ∧ TriplesOk ps.toList := fun h hx => by
    obtain ⟨o, e, _, _, ps, rfl, ht⟩ := hx.2
    exact ⟨ps, e, ht⟩
  refine ⟨P, wc, t6, ⟨fun b o _ e => e, _, hP, (fun it n h => nomatch h), ⟨(fun es ep h => nomatch h), fun v h => nomatch h⟩, #[], rfl, ?_⟩, ⟨{
    cda := wc
    ok := ⟨ha, fun h hx => ns_keep (c := ⟨s.heap, P, mg, mb, a, TabP⟩) hP T.g hx, fun h hx => ns_keep (c := ⟨s.heap, P, mg, mb, a, TabP⟩) hP T.b hx, fun h hx => ?_⟩
    ok2 := ⟨let ⟨o, e, _⟩ := hsys; ⟨o, e⟩, ?_⟩
    okT := ⟨fun h hx => ?_, fun ps more _ ht => ⟨_, rfl, ht⟩⟩
    okB := fun A s' Q E hx hq => ?_
    gl := ⟨b _ (by decide) _ (by decide +kernel) (by decide), b _ (by decide) _ (by decide +kernel) (by decide), b _ (by decide) _ (by decide +kernel) (by decide), b _ (by decide) _ (by decide +kernel) (by decide), b _ (by decide) _ (by decide +kernel) (by decide), b _ (by decide) _ (by decide +kernel) (by decide), b _ (by decide) _ (by decide +kernel) (by decide), b _ (by decide) _ (by decide +kernel) (by decide), b _ (by decide) _ (by decide +kernel) (by decide)⟩
    a_comb := acomb
    o_comb := ocomb
    pm_comb := pmcomb
    cd_comb := cdcomb
    doc_comb := doccomb
    f_comb := fnAt_of (c := ⟨s.heap, P, mg, mb, a, TabP⟩) hP comb1 comb2 comb3 comb4
    a_wci := awci
    o_wci := owci
    pm_wci := pmwci
    doc_wci := docwci
    f_wci := fnAt_of (c := ⟨s.heap, P, mg, mb, a, TabP⟩) hP wci1 wci2 wci3 wci4
    a_num := anum
    o_num := onum
    pm_num := pmnum
    cd_num := cdnum
    doc_num := docnum
    f_num := fnAt_of (c := ⟨s.heap, P, mg, mb, a, TabP⟩) hP num1 num2 num3 num4
    a_sq := asq
    o_sq := osq
    pm_sq := pmsq
    cd_sq := cdsq
    doc_sq := docsq
    f_sq := fnAt_of (c := ⟨s.heap, P, mg, mb, a, TabP⟩) hP sq1 sq2 sq3 sq4
    a_fac := afac
    o_fac := ofac
    pm_fac := pmfac
    cd_fac := cdfac
    doc_fac := docfac
    f_fac := fnAt_of (c := ⟨s.heap, P, mg, mb, a, TabP⟩) hP fac1 fac2 fac3 fac4
    a_mi := ami
    o_mi := omi
    pm_mi := pmmi
    cd_mi := cdmi
    doc_mi := docmi
    f_mi := fnAt_of (c := ⟨s.heap, P, mg, mb, a, TabP⟩) hP mi1 mi2 mi3 mi4
    a_ser := aser
    o_ser := oser
    pm_ser := pmser
    cd_ser := cdser
    doc_ser := docser
    f_ser := fnAt_of (c := ⟨s.heap, P, mg, mb, a, TabP⟩) hP ser1 ser2 ser3 ser4
  }⟩, al, ol, pml, cdl, docl, fnAt_of (c := ⟨s.heap, P, mg, mb, a, TabP⟩) hP l1 l2 l3 l4⟩
  · obtain ⟨o, vs, file, tf, flags, tg, inF, text, tt, op, _, _, _, _, _, _, _, _, hpd, htr, _⟩ := t5
    exact htr
  · obtain ⟨mc, hn, hm⟩ := T.nolimit
    exact ⟨mc, ns_keep (c := ⟨s.heap, P, mg, mb, a, TabP⟩) hP hn hx, hm⟩
  · obtain ⟨o, e, hd⟩ := hsys
    exact notP_of (c := ⟨s.heap, P, mg, mb, a, TabP⟩) hP e hd
  · obtain ⟨ps, e, ht⟩ := hgd h hx
    obtain ⟨o, vs, file, tf, flags, tg, inF, text, tt, op, c1, c2, c3, c4, c5, c6, c7, _, _, _, hne⟩ := t5
    exact ⟨ps, ⟨o, vs, file, tf, flags, tg, inF, text, tt, _, hx.1 _ _ hne c1, c2, c3, c4, c5, c6, c7, e, rfl, ht, hne⟩, e, ps, rfl, ht⟩
  · have hbP : bm ≠ P := fun q => by rw [q, hP] at b3; cases b3; cases b4
    exact wpAny_builtinsFor (ns_keep (c := ⟨s.heap, P, mg, mb, a, TabP⟩) hP T.g hx) b1 b2 (hx.1 _ _ hbP b3) b4 b5 b6 hq

variable {c : Base prog w}
def Fns.first (f : Fns c) : { F // St c true sclaw glaw 12 (lawSt 0) F } := ⟨_, by
  conv => arg 6; whnf
  exact (St_assign (Ev_call f.ok f.f_num.glob f.f_num.plain (f.c_num (k := 11)) (by rfl) (by decide) (EvL_cons (Ev_name (i := 0) (by rfl) (by decide) (by decide)) (EvL_cons Ev_int EvL_nil (star_cons (by rfl))) (star_cons (by rfl))) (star_cons (by rfl)) (noStar_one (by rfl))) (nameI (j := 1) ndlaw (by rfl) (by left; rfl)) (fun env hE => rfl))⟩
end
end Mine

set_option maxRecDepth 100000
set_option maxHeartbeats 4000000
namespace Mine
open PySem PySem.Calls PyProof.Rows PyProof.V PySem.SeqAt PySem.W.X

section
variable {prog : Program} {w : World}
theorem SSB_use {c : Base prog w} {g : Bool} {sc : Scope} {G : List Str} {k : Nat} {st : List Stmt} {f : List X → Option Bool} (h : SSB c g sc G k st f) {A : Around} {env : Env} {s : Shared} {r : List X} {b : Bool} {kb : Addr → Option Obj} {Z : Addr → Prop} {δ : Nat → Addr} {E : Value → Shared → Prop} (hA : GA k A) (hE : EnvI sc env) (hF : FrS c kb Z δ s.heap env G r) (hf : f r = some b) :
    wpAny (model prog w) A (execs st env) (fun fl s' => Stp c g s s' ∧ fl = .ret (.bool b) ∧ (∀ b o, kb b = some o → s'.heap.get? b = some o) ∧ Gd c s'.heap) E s := h.go A env s r b kb Z δ E hA hE hF hf
theorem St_use {c : Base prog w} {g : Bool} {sc : Scope} {G : List Str} {k : Nat} {st : Stmt} {f : List X → Option Res} (h : St c g sc G k st f) {A : Around} {env : Env} {s : Shared} {r : List X} {res : Res} {kb : Addr → Option Obj} {Z : Addr → Prop} {δ : Nat → Addr} {E : Value → Shared → Prop} (hA : GA k A) (hE : EnvI sc env) (hF : FrS c kb Z δ s.heap env G r) (hf : f r = some res) :
    wpAny (model prog w) A (exec st env) (Post c g kb Z δ env G r res s) E s := h.go A env s r res kb Z δ E hA hE hF hf
theorem first_eq {c : Base prog w} (f : Fns c) (ns : List Int) (hl : ns.length ≤ 63) : f.first.1 [.p (.l (ns.map .i))] = some (.n [.p (.l (ns.map .i)), .p (.l ((numbersL ns).map .i))]) := by
  show (ob (ob (some [.l (ns.map .i), .i 13]) (fnF 2 (b_law_numbers (k := 11) f.ok f.gl).1)) fun t => ob (put 1 [.p (.l (ns.map .i))] (.p t)) fun r' => some (Res.n r')) = _
  have e : fnF 2 (b_law_numbers (k := 11) f.ok f.gl).1 [.l (ns.map .i), .i 13] = some (.l ((numbersL ns).map .i)) := by
    show (ob ((b_law_numbers (k := 11) f.ok f.gl).1 [.p (.l (ns.map .i)), .p (.i 13)]) fun res => match res with | .ret t => some t | .n _ => none) = _
    rw [numbers_ok f.ok f.gl ns hl]
    rfl
  show (ob (fnF 2 (b_law_numbers (k := 11) f.ok f.gl).1 [.l (ns.map .i), .i 13]) _) = _
  rw [e]
  rfl

/-- the law, for whatever the numbers are -/
theorem pure_law {c : Base prog w} (f : Fns c) : ∃ md, ∃ hm : MdOk c md, (f.body hm).1 [.u, .p (.l vars)] = some true := by
  rcases fmod3 (c.a 0) with h0 | h0 | h0
  · rcases fmod3 (c.a 10) with h1 | h1 | h1
    · exact ⟨_, ((MdOk.nil.cons (by decide) h1).cons (by decide) h0), p00 f _⟩
    · exact ⟨_, ((MdOk.nil.cons (by decide) h1).cons (by decide) h0), p01 f _⟩
    · exact ⟨_, ((MdOk.nil.cons (by decide) h1).cons (by decide) h0), p02 f _⟩
  · rcases fmod4 (c.a 5) with h1 | h1 | h1 | h1 <;> rcases fmod4 (c.a 6) with h2 | h2 | h2 | h2
    · exact ⟨_, (((MdOk.nil.cons (by decide) h2).cons (by decide) h1).cons (by decide) h0), p100 f _⟩
    · exact ⟨_, (((MdOk.nil.cons (by decide) h2).cons (by decide) h1).cons (by decide) h0), p101 f _⟩
    · exact ⟨_, (((MdOk.nil.cons (by decide) h2).cons (by decide) h1).cons (by decide) h0), p102 f _⟩
    · exact ⟨_, (((MdOk.nil.cons (by decide) h2).cons (by decide) h1).cons (by decide) h0), p103 f _⟩
    · exact ⟨_, (((MdOk.nil.cons (by decide) h2).cons (by decide) h1).cons (by decide) h0), p110 f _⟩
    · exact ⟨_, (((MdOk.nil.cons (by decide) h2).cons (by decide) h1).cons (by decide) h0), p111 f _⟩
    · exact ⟨_, (((MdOk.nil.cons (by decide) h2).cons (by decide) h1).cons (by decide) h0), p112 f _⟩
    · exact ⟨_, (((MdOk.nil.cons (by decide) h2).cons (by decide) h1).cons (by decide) h0), p113 f _⟩
    · exact ⟨_, (((MdOk.nil.cons (by decide) h2).cons (by decide) h1).cons (by decide) h0), p120 f _⟩
    · exact ⟨_, (((MdOk.nil.cons (by decide) h2).cons (by decide) h1).cons (by decide) h0), p121 f _⟩
    · exact ⟨_, (((MdOk.nil.cons (by decide) h2).cons (by decide) h1).cons (by decide) h0), p122 f _⟩
    · exact ⟨_, (((MdOk.nil.cons (by decide) h2).cons (by decide) h1).cons (by decide) h0), p123 f _⟩
    · exact ⟨_, (((MdOk.nil.cons (by decide) h2).cons (by decide) h1).cons (by decide) h0), p130 f _⟩
    · exact ⟨_, (((MdOk.nil.cons (by decide) h2).cons (by decide) h1).cons (by decide) h0), p131 f _⟩
    · exact ⟨_, (((MdOk.nil.cons (by decide) h2).cons (by decide) h1).cons (by decide) h0), p132 f _⟩
    · exact ⟨_, (((MdOk.nil.cons (by decide) h2).cons (by decide) h1).cons (by decide) h0), p133 f _⟩
  · rcases fmod3 (c.a 10) with h1 | h1 | h1 <;> rcases fmod3 (c.a 11) with h2 | h2 | h2 <;> rcases fmod3 (c.a 12) with h3 | h3 | h3
    · exact ⟨_, ((((MdOk.nil.cons (by decide) h3).cons (by decide) h2).cons (by decide) h1).cons (by decide) h0), p2000 f _⟩
    · exact ⟨_, ((((MdOk.nil.cons (by decide) h3).cons (by decide) h2).cons (by decide) h1).cons (by decide) h0), p2001 f _⟩
    · exact ⟨_, ((((MdOk.nil.cons (by decide) h3).cons (by decide) h2).cons (by decide) h1).cons (by decide) h0), p2002 f _⟩
    · exact ⟨_, ((((MdOk.nil.cons (by decide) h3).cons (by decide) h2).cons (by decide) h1).cons (by decide) h0), p2010 f _⟩
    · exact ⟨_, ((((MdOk.nil.cons (by decide) h3).cons (by decide) h2).cons (by decide) h1).cons (by decide) h0), p2011 f _⟩
    · exact ⟨_, ((((MdOk.nil.cons (by decide) h3).cons (by decide) h2).cons (by decide) h1).cons (by decide) h0), p2012 f _⟩
    · exact ⟨_, ((((MdOk.nil.cons (by decide) h3).cons (by decide) h2).cons (by decide) h1).cons (by decide) h0), p2020 f _⟩
    · exact ⟨_, ((((MdOk.nil.cons (by decide) h3).cons (by decide) h2).cons (by decide) h1).cons (by decide) h0), p2021 f _⟩
    · exact ⟨_, ((((MdOk.nil.cons (by decide) h3).cons (by decide) h2).cons (by decide) h1).cons (by decide) h0), p2022 f _⟩
    · exact ⟨_, ((((MdOk.nil.cons (by decide) h3).cons (by decide) h2).cons (by decide) h1).cons (by decide) h0), p2100 f _⟩
    · exact ⟨_, ((((MdOk.nil.cons (by decide) h3).cons (by decide) h2).cons (by decide) h1).cons (by decide) h0), p2101 f _⟩
    · exact ⟨_, ((((MdOk.nil.cons (by decide) h3).cons (by decide) h2).cons (by decide) h1).cons (by decide) h0), p2102 f _⟩
    · exact ⟨_, ((((MdOk.nil.cons (by decide) h3).cons (by decide) h2).cons (by decide) h1).cons (by decide) h0), p2110 f _⟩
    · exact ⟨_, ((((MdOk.nil.cons (by decide) h3).cons (by decide) h2).cons (by decide) h1).cons (by decide) h0), p2111 f _⟩
    · exact ⟨_, ((((MdOk.nil.cons (by decide) h3).cons (by decide) h2).cons (by decide) h1).cons (by decide) h0), p2112 f _⟩
    · exact ⟨_, ((((MdOk.nil.cons (by decide) h3).cons (by decide) h2).cons (by decide) h1).cons (by decide) h0), p2120 f _⟩
    · exact ⟨_, ((((MdOk.nil.cons (by decide) h3).cons (by decide) h2).cons (by decide) h1).cons (by decide) h0), p2121 f _⟩
    · exact ⟨_, ((((MdOk.nil.cons (by decide) h3).cons (by decide) h2).cons (by decide) h1).cons (by decide) h0), p2122 f _⟩
    · exact ⟨_, ((((MdOk.nil.cons (by decide) h3).cons (by decide) h2).cons (by decide) h1).cons (by decide) h0), p2200 f _⟩
    · exact ⟨_, ((((MdOk.nil.cons (by decide) h3).cons (by decide) h2).cons (by decide) h1).cons (by decide) h0), p2201 f _⟩
    · exact ⟨_, ((((MdOk.nil.cons (by decide) h3).cons (by decide) h2).cons (by decide) h1).cons (by decide) h0), p2202 f _⟩
    · exact ⟨_, ((((MdOk.nil.cons (by decide) h3).cons (by decide) h2).cons (by decide) h1).cons (by decide) h0), p2210 f _⟩
    · exact ⟨_, ((((MdOk.nil.cons (by decide) h3).cons (by decide) h2).cons (by decide) h1).cons (by decide) h0), p2211 f _⟩
    · exact ⟨_, ((((MdOk.nil.cons (by decide) h3).cons (by decide) h2).cons (by decide) h1).cons (by decide) h0), p2212 f _⟩
    · exact ⟨_, ((((MdOk.nil.cons (by decide) h3).cons (by decide) h2).cons (by decide) h1).cons (by decide) h0), p2220 f _⟩
    · exact ⟨_, ((((MdOk.nil.cons (by decide) h3).cons (by decide) h2).cons (by decide) h1).cons (by decide) h0), p2221 f _⟩
    · exact ⟨_, ((((MdOk.nil.cons (by decide) h3).cons (by decide) h2).cons (by decide) h1).cons (by decide) h0), p2222 f _⟩

theorem law_true {p : Program} {loose : List Str} {mean : ExcName → Option Value} {mg mb : Str → Option Value} {s : Shared} (T : Top p loose mean mg mb s.heap) (hr : recsOf p = lawRecs) (hf : ∀ x ∈ glNames, mg x = none) (hsys : ∃ o, s.heap.get? sysModules = some o ∧ ∀ vs, o.data ≠ .fields vs)
    {fa L : Addr} {vals : List Value} {ns : List Int} {n : Nat} (hfa : mg "law" = some (.ref fa)) (hL : s.heap.get? L = some { cls := .type "list", data := .seq vals.toArray n }) (hI : IntsAre vals ns) (hlen : ns.length ≤ 63) (hbig : ∀ x ∈ ns, x.natAbs ≤ 2 ^ 1048600) {A : Around} {E : Value → Shared → Prop} (hA : GA 13 A) :
    wpAny (model prog w) A (call (.ref fa) [.ref L]) (fun v s' => v = .bool true ∧ OldK s.heap s'.heap ∧ s'.os = s.os ∧ (AllBare s.gens → AllBare s'.gens)) E s := by
  obtain ⟨P, C, ht, hx, ⟨f⟩, fa', o, pm, cd, doc, F⟩ := fns_of (prog := prog) (w := w) T hr hf hsys (bnd_aOf hbig)
  have efa : fa' = fa := by
    have h1 : mg "law" = some (.ref fa') := F.mg
    rw [hfa] at h1; cases h1; rfl
  subst efa
  have hP : s.heap.get? P = some { cls := .none, data := .fields #[] } := ht.2
  have hI9 : DefI sclaw glaw ["script"] := defI_of (by rfl)
  refine wpAny_call (codeAny_call_cells hA.room (hx.1 fa' o F.ne F.get) F.data (f.ok.nolimit _ hx) (F.code _ hx) rfl (show bindArgs (docDef "law" (dPars (defAt 9)) (dBody (defAt 9)) (dScope (defAt 9)) pm cd doc) ⟨[.ref L], []⟩ = pure ((["script"] : List Str).zip [.ref L]) from rfl) rfl (fun y hy => ?_) (fun s₁ Y => ?_) hI9.co hI9.gen hI9.kind)
  · obtain ⟨i, hi⟩ := List.mem_iff_getElem?.mp hy
    rw [List.getElem?_zip_eq_some] at hi
    rcases hI9.pars y.1 (List.mem_of_getElem? hi.1) with hk | hk
    · exact .inl hk
    · exact .inr ⟨hk, cellsFrom_some _ _ _ (mem_lookup hk)⟩
  have nP : ∀ b o, (if b = P then none else s.heap.get? b) = some o → b ≠ P ∧ s.heap.get? b = some o := fun b o e => by
    by_cases q : b = P
    · rw [if_pos q] at e; cases e
    · rw [if_neg q] at e; exact ⟨q, e⟩
  have hargs : Reps ⟨aOf ns, fun _ => False⟩ s.heap [.l (ns.map .i)] [.ref L] := ⟨_, _, rfl, ⟨L, vals.toArray, rfl, ⟨n, hL⟩, by rw [List.toList_toArray]; exact ints_reps hI, id⟩, rfl⟩
  obtain ⟨hE, FS⟩ := frame_start (c := (⟨s.heap, P, mg, mb, aOf ns, TabP⟩ : Base prog w)) (G := glaw) (kb := fun b => if b = P then none else s.heap.get? b) (Z := fun _ => False) hI9 hx (fun _ h => h.elim) hargs rfl Y (fun b o e => (nP b o e).2)
    (fun b o hb e => by show (if b = P then none else _) = _; rw [if_neg hb]; exact e) (fun _ h => h.elim) (if_pos rfl)
  show wpAny _ _ (execs (lawSt 0 :: (dBody (defAt 9)).drop 1) _) _ _ _
  refine wpAny_execs_cons (wpAny_mono (St_use f.first.2 (hA.deeper _) hE FS (first_eq f ns hlen)) (fun fl s₂ p => ?_) fun _ _ y => y)
  obtain ⟨p1, rfl, δ', F₂, _⟩ := p
  obtain ⟨md, hm, hpure⟩ := pure_law f
  have F₃ := (F₂.recast (j := 1) (t' := .l vars) rfl fun v hv => by
    obtain ⟨b, items, e, hb, hr, hz⟩ := hv
    refine ⟨b, items, e, hb, ?_, hz⟩
    have hz := reps_vars (a := aOf ns) (numbersL ns) 0 _ (fun j z hj => by
      show (numbersL ns).getD (0 + j) 0 = z
      rw [List.getD_eq_getElem?_getD, Nat.zero_add, hj]; rfl) hr
    rw [numbersL_length] at hz
    exact hz).kill 0
  refine wpAny_mono (SSB_use (f.body hm).2 (hA.deeper _) hE F₃ hpure) (fun fl s₃ p => ?_) fun _ _ y => y
  obtain ⟨q1, rfl, q2, q3⟩ := p
  have st := p1.trans q1
  obtain ⟨h₁, tk₁, rfl⟩ := Y.toInCall.same
  refine ⟨rfl, ⟨fun b o e => ?_, fun b o e => ?_⟩, st.2.1, st.2.2.2.1⟩
  · by_cases q : b = P
    · subst q
      rw [hP] at e; cases e
      obtain ⟨o', e', _, _, ps, rfl, _⟩ := q3.2
      exact .inr (.inl ⟨ht.isCodeTable, rfl, #[], ps, rfl, by rw [Array.empty_append]; exact e'⟩)
    · exact .inl (q2 b o (by show (if b = P then none else _) = _; rw [if_neg q]; exact e))
  · by_cases q : b = P
    · subst q
      obtain ⟨o', e', _⟩ := q3.2
      exact ⟨o', e'⟩
    · exact ⟨o, q2 b o (by show (if b = P then none else _) = _; rw [if_neg q]; exact e)⟩
end
end Mine

set_option maxRecDepth 100000
set_option maxHeartbeats 4000000
namespace Mine
open PySem PySem.W PySem.Calls PyProof.Rows

def freeChk (p : Program) (loose : List Str) : Bool := glNames.all fun x => !(startupNames.contains x) && !(loose.contains x) && !(((recsOf p).map (·.name)).contains x) && !(((litsOf p).map (·.1)).contains x) && !(((clssOf p loose).map (·.name)).contains x)
theorem free_of {p : Program} {loose : List Str} {mean : ExcName → Option Value} {mg mb : Str → Option Value} {h : Heap} (T : Top p loose mean mg mb h) (k : freeChk p loose = true) : ∀ x ∈ glNames, mg x = none := fun x hx => by
  have := List.all_eq_true.mp k x hx
  simp only [Bool.and_eq_true, Bool.not_eq_true', List.contains_eq_mem, decide_eq_false_iff_not] at this
  obtain ⟨⟨⟨⟨h1, h2⟩, h3⟩, h4⟩, h5⟩ := this
  exact T.free x h1 h2 h3 h4 h5
theorem wt_le : ∀ {ns : List Int} {B : Nat}, PyData.weightAll (ns.map PyData.int) ≤ B → ∀ x ∈ ns, x.natAbs ≤ 2 ^ B
  | [], _, _, x, h => nomatch h
  | n :: ns, B, hw, x, h => by
    simp only [List.map_cons, PyData.weightAll, PyData.weight] at hw
    rcases List.mem_cons.mp h with rfl | h
    · by_cases q : x = 0
      · subst q; exact Nat.zero_le _
      · have hq : (x == 0) = false := by simpa using q
        rw [hq] at hw
        simp only [Bool.false_eq_true, if_false] at hw
        have h1 : x.natAbs < 2 ^ (x.natAbs.log2 + 1) := Nat.lt_log2_self
        exact Nat.le_of_lt (Nat.lt_of_lt_of_le h1 (Nat.pow_le_pow_right (by decide) (by omega)))
    · exact wt_le (by omega) x h
theorem big_of {ns : List Int} (h : (PyData.list (ns.map PyData.int)).layable0 = true) : ∀ x ∈ ns, x.natAbs ≤ 2 ^ 1048600 := fun x hx => by
  unfold PyData.layable0 at h
  simp only [Bool.and_eq_true, decide_eq_true_eq] at h
  have hw := h.2
  simp only [PyData.weight] at hw
  exact Nat.le_trans (wt_le hw x hx) (Nat.pow_le_pow_right (by decide) (by decide))
def notFieldsB (o : Obj) : Bool := match o.data with
  | .fields _ => false
  | _ => true
theorem notFields_of {o : Obj} (h : notFieldsB o = true) : ∀ vs, o.data ≠ .fields vs := fun vs e => by
  unfold notFieldsB at h
  rw [e] at h; cases h
theorem end_good {c : ClaimW} {cl : Str → Option Addr} {mean : ExcName → Option Value} {args : List WData} {s₁ s' : Shared} {v : Value} (p : v = .bool true ∧ OldK s₁.heap s'.heap ∧ s'.os = s₁.os ∧ (AllBare s₁.gens → AllBare s'.gens)) (hg : s₁.gens = #[]) (hr : ∀ cls, c.raises args cls = false) (hp : c.post args (.bool true) args = true) :
    GoodWG c cl mean args s₁ (.ok (.ret v)) s' := by
  obtain ⟨rfl, h1, h2, h3⟩ := p
  exact ⟨.inl ⟨_, _, [], rfl, hr, ReadsW.bool true, hp, fun _ => ⟨List.nodup_nil, fun _ hm => (nomatch hm)⟩⟩, h1, h2, h3 (by rw [hg]; exact AllBare.empty)⟩
theorem ga_caller : GA 13 callerA := ⟨rfl, by decide +kernel, by decide +kernel⟩
end Mine

open PySem PySem.W PySem.W.X PySem.W.ZRun PyProof.Rows
set_option maxRecDepth 100000 in
set_option maxHeartbeats 8000000 in
theorem PySem.Challenge.cw_ae6012_01_holds : PySem.Challenge.rw_ae6012_01.Holds := by
  w_on; o_law; z_head; (case hw => w_witness2)
  k_fill
  intro w s₀ s₁ mg mb G y fa o pm cd doc dV kV ho hd hcd hD hmg hg args vals as L hpre hlay hrd hwl hlo
  z_open y L KX ZH ZN ZT
  refine Ground.open G ?_
  intro T B D TE TW
  wrow_args hpre hlay hrd hwl hlo
  have hobj := script_obj L (by assumption)
  refine wpAny_mono (Mine.law_true T (by kernel_rfl) (Mine.free_of T (by kernel_rfl)) ⟨_, KX _ _ rfl, Mine.notFields_of (by rfl)⟩ hmg hobj (by assumption) (by omega) (Mine.big_of (by assumption)) Mine.ga_caller) (fun v s' p => ?_) (fun _ _ e => e)
  exact Mine.end_good p hg (fun _ => rfl) (by first | rfl | wrow_post)
